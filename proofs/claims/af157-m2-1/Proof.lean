import JvmDerived
import JvmDerived.Pilot.@@N@@Statement
import JvmDerived.Pilot.@@N@@Code
set_option linter.unusedVariables false
set_option linter.unusedSimpArgs false
namespace Jvm.Own
open Jvm Sem ClassFile Op Lib Jvm.Stand Jvm.Free Jvm.LawKit Jvm.RoadKit
section Kit
/-- the fixed surroundings of one body's walk -/
def Cx (own : String) (code : ByteArray) (mL : Nat) (ret : Option FieldType) (mn : String) (n0 : Nat) (Z : State) (p : Program) (l : Launch) (e : Env) (R : Room) (s : State) (m : MethodId) (args : Array Value) (below : List Frame) (meth : Method) (c : Code) : Prop :=
  p.tables.exec = Jvm.exec ∧ c.code = code ∧ c.maxLocals = mL ∧ meth.sig.returnType = ret ∧ meth.locks = false ∧ s.vm.findClass own = some m.cls ∧ Z.Warmed39 s.vm ∧ meth.name = mn
/-- where the walk stands: k cells and n slots made so far, the heap h -/
def St (n0 : Nat) (p : Program) (l : Launch) (e : Env) (R : Room) (s : State) (m : MethodId) (args : Array Value) (below : List Frame) (meth : Method) (c : Code) (k n : Nat) (h : Heap) (T : State) : Prop :=
  ∃ locs, Stand p l e R s m args below meth c T locs k n ∧ T.heap = h ∧ Fr n0 locs ∧ n0 ≤ h.size
/-- from here the body comes to its end, and Q holds there -/
def Wp (n0 : Nat) (p : Program) (e : Env) (R : Room) (s : State) (below : List Frame) (Q : Option Value → Heap → Prop) (T : State) (g : JFrame) : Prop :=
  ∃ s₂ o, Steps p.tables e below (T.setTop g) s₂ ∧ s₂.status = .running ∧ Ended s₂ below o ∧ ∃ v L, o = .returned v ∧ (Q v s₂.heap ∧ n0 ≤ s₂.heap.size ∧ Fr n0 L) ∧ FrameEnd s o s₂ L R.cells R.slots
/-- a body's contract: entered with the arguments as' at the heap h it returns, and Q holds of what it returns and of the heap -/
def Met (n0 : Nat) (l : Launch) (Z : State) (y : MethodName) (bytes : ByteArray) (mL : Nat) (ret : Option FieldType) (rm : Room) (ws : List Jvm.Cond) (as' : Array Value) (h : Heap) (Q : Option Value → Heap → Prop) : Prop :=
  MetFree l y (head1 (Jvm.Cond.code y bytes mL ret :: ws) rm) (fun a U => a = as' ∧ Z.Warmed39 U.vm ∧ U.heap = h) (fun _ _ _ _ _ => True) (fun _ U o U' => ∃ v L, o = .returned v ∧ (Q v U'.heap ∧ n0 ≤ U'.heap.size ∧ Fr n0 L) ∧ FrameEnd U o U' L rm.cells rm.slots)
def Dc (code : ByteArray) (pc : Nat) (i : Instr) (len q : Nat) : Prop := decode code pc = .ok (i, len) ∧ pc + len = q
def Bc (code : ByteArray) (pc : Nat) (i : Instr) (o : Int) (q q' : Nat) : Prop := decode code pc = .ok (i, 3) ∧ pc + 3 = q ∧ 0 ≤ (pc : Int) + o ∧ ((pc : Int) + o).toNat = q'
/-- the place i that the int j names -/
def Ix (j : Int32) (i : Nat) : Prop := ¬ j < 0 ∧ j.toNatClampNeg = i
/-- an array of the values vs -/
def VA (Z : State) (h : Heap) (a : Addr) (ty : FieldType) (vs : List Value) : Prop := ∃ cl : Cell, Arr Z h a cl ty ∧ cl.slots = vs.toArray
variable {own : String} {code : ByteArray} {mL : Nat} {ret : Option FieldType} {mn : String} {n0 : Nat} {Z : State} {p : Program} {l : Launch} {e : Env} {R : Room} {s : State} {m : MethodId} {args : Array Value} {below : List Frame} {meth : Method} {c : Code} {T : State} {k n : Nat} {h h' : Heap} {Q : Option Value → Heap → Prop} {pc q q' : Nat} {Ls l' : Array Slot} {st rest : List Value} {a0 : Array Value} {ty : FieldType} {vs : List Value} {a b : Addr} {v w : Value} {x y : Int32} {X Y : Int64}
theorem VA.ext (F : VA Z h a ty vs) (E : Ext h h') : VA Z h' a ty vs := by obtain ⟨cl, A, r⟩ := F; exact ⟨cl, A.ext E, r⟩
theorem VA.other {sl : Nat} (F : VA Z h a ty vs) (W : Wr h h' b sl v) (ne : a ≠ b) : VA Z h' a ty vs := by obtain ⟨cl, A, r⟩ := F; exact ⟨cl, A.other W ne, r⟩
theorem VA.keep {ws : List Addr} (F : VA Z h a ty vs) (K : Keep h h' ws) (ne : a ∉ ws) : VA Z h' a ty vs := by obtain ⟨cl, A, r⟩ := F; exact ⟨cl, ⟨K.2.1 a cl A.1 ne, A.2⟩, r⟩
theorem VA.lt (F : VA Z h a ty vs) : a < h.size := by obtain ⟨cl, A, r⟩ := F; exact A.lt
theorem VA.wr {i : Nat} (F : VA Z h a ty vs) (W : Wr h h' a i v) : VA Z h' a ty (vs.set i v) := by
  obtain ⟨cl, A, r⟩ := F
  refine ⟨_, Arr.same W A, ?_⟩
  show cl.slots.setIfInBounds i v = _
  rw [r]; simp
theorem wp_mono {T' : State} {g g' : JFrame} (f : ∀ t, Steps p.tables e below (T'.setTop g') t → Steps p.tables e below (T.setTop g) t) (w : Wp n0 p e R s below Q T' g') : Wp n0 p e R s below Q T g := by
  obtain ⟨s₂, o, h1, r⟩ := w; exact ⟨s₂, o, f _ h1, r⟩
theorem nmI (g : ∀ z, z = x → Wp n0 p e R s below Q T (mkF m pc Ls (.int z :: st))) : Wp n0 p e R s below Q T (mkF m pc Ls (.int x :: st)) := g x rfl
theorem nmL (g : ∀ z, z = X → Wp n0 p e R s below Q T (mkF m pc Ls (.long z :: st))) : Wp n0 p e R s below Q T (mkF m pc Ls (.long X :: st)) := g X rfl
def Pu (r : Option Value) (h : Heap) : Option Value → Heap → Prop := fun v h' => v = r ∧ h' = h
def Ef (r : Option Value) (P : Heap → Prop) : Option Value → Heap → Prop := fun v h' => v = r ∧ P h'
def Pr (P : Int32 → Prop) (h : Heap) : Option Value → Heap → Prop := fun v h' => ∃ r, v = some (.int r) ∧ P r ∧ h' = h
def PrL (P : Int64 → Prop) (h : Heap) : Option Value → Heap → Prop := fun v h' => ∃ r, v = some (.long r) ∧ P r ∧ h' = h
def Er (P : Int32 → Heap → Prop) : Option Value → Heap → Prop := fun v h' => ∃ r, v = some (.int r) ∧ P r h'
def Ea (P : Addr → Heap → Prop) : Option Value → Heap → Prop := fun v h' => ∃ r, v = some (.ref r) ∧ P r h'
theorem own_b01 {x : Int32} (h : x.toInt = 0 ∨ x.toInt = 1) : nar .boolean x = x := by
  rcases h with h | h
  · have e : x = 0 := Int32.toInt_inj.mp h
    subst e; rfl
  · have e : x = 1 := Int32.toInt_inj.mp h
    subst e; rfl
theorem own_eqz {x y : Int32} (h : x.toInt = y.toInt) : x = y := Int32.toInt_inj.mp h
theorem own_eqZ {x y : Int64} (h : x.toInt = y.toInt) : x = y := Int64.toInt_inj.mp h
theorem own_lrem (x y : Int64) (d : Int) (hy : y.toInt = d) : (0 ≤ x.toInt → (x % y).toInt = x.toInt % d) ∧ (x.toInt < 0 → (x % y).toInt = -((-x.toInt) % d)) := by rw [Int64.toInt_mod, hy]; exact tr _ _
theorem own_nz {y : Int32} (h : 0 < y.toInt) : y ≠ 0 := fun q => by rw [q] at h; exact absurd h (by decide)
theorem own_nneg {x : Int32} (h : 0 ≤ x.toInt) : ¬ x < 0 := fun q => by
  have q' := Int32.lt_iff_toInt_lt.mp q
  have z0 : (0 : Int32).toInt = 0 := rfl
  omega
theorem own_cl {x : Int32} (h : 0 ≤ x.toInt) : (x.toNatClampNeg : Int) = x.toInt := by
  have e : x.toNatClampNeg = x.toInt.toNat := rfl
  omega
theorem own_ix {x : Int32} (h : 0 ≤ x.toInt) : Ix x x.toInt.toNat := ⟨own_nneg h, rfl⟩
theorem stO {i : Nat} {o : Slot} (ho : One o) (hold : Ls[i]? = some o) (hv : v.category = 1) (he : Ls.setIfInBounds i (.val v) = l') : storeLocals Ls i v = some l' := he ▸ XS.store1 hold ho hv
theorem Sle (S : St n0 p l e R s m args below meth c k n h T) : n0 ≤ h.size := by obtain ⟨_, _, _, _, z⟩ := S; exact z
theorem more {k' n' : Nat} (S : St n0 p l e R s m args below meth c k n h T) (hk : k ≤ k') (hn : n ≤ n') : St n0 p l e R s m args below meth c k' n' h T := by
  obtain ⟨locs, S, r⟩ := S; exact ⟨locs, S.more hk hn, r⟩
theorem pu {r : Option Value} (g : ∀ T, St n0 p l e R s m args below meth c k n h T → Wp n0 p e R s below Q T (mkF m q Ls (r.toList ++ rest))) : ∀ T v h', Pu r h v h' → St n0 p l e R s m args below meth c k n h' T → Wp n0 p e R s below Q T (mkF m q Ls (v.toList ++ rest)) := by
  intro T v h' hq S; obtain ⟨rfl, rfl⟩ := hq; exact g T S
theorem ef {r : Option Value} {P : Heap → Prop} (g : ∀ T h', P h' → St n0 p l e R s m args below meth c k n h' T → Wp n0 p e R s below Q T (mkF m q Ls (r.toList ++ rest))) : ∀ T v h', Ef r P v h' → St n0 p l e R s m args below meth c k n h' T → Wp n0 p e R s below Q T (mkF m q Ls (v.toList ++ rest)) := by
  intro T v h' hq S; obtain ⟨rfl, hp⟩ := hq; exact g T h' hp S
theorem pr {P : Int32 → Prop} (g : ∀ T r, P r → St n0 p l e R s m args below meth c k n h T → Wp n0 p e R s below Q T (mkF m q Ls (.int r :: rest))) : ∀ T v h', Pr P h v h' → St n0 p l e R s m args below meth c k n h' T → Wp n0 p e R s below Q T (mkF m q Ls (v.toList ++ rest)) := by
  intro T v h' hq S; obtain ⟨r, rfl, hp, rfl⟩ := hq; exact g T r hp S
theorem prL {P : Int64 → Prop} (g : ∀ T r, P r → St n0 p l e R s m args below meth c k n h T → Wp n0 p e R s below Q T (mkF m q Ls (.long r :: rest))) : ∀ T v h', PrL P h v h' → St n0 p l e R s m args below meth c k n h' T → Wp n0 p e R s below Q T (mkF m q Ls (v.toList ++ rest)) := by
  intro T v h' hq S; obtain ⟨r, rfl, hp, rfl⟩ := hq; exact g T r hp S
theorem er {P : Int32 → Heap → Prop} (g : ∀ T r h', P r h' → St n0 p l e R s m args below meth c k n h' T → Wp n0 p e R s below Q T (mkF m q Ls (.int r :: rest))) : ∀ T v h', Er P v h' → St n0 p l e R s m args below meth c k n h' T → Wp n0 p e R s below Q T (mkF m q Ls (v.toList ++ rest)) := by
  intro T v h' hq S; obtain ⟨r, rfl, hp⟩ := hq; exact g T r h' hp S
theorem ea {P : Addr → Heap → Prop} (g : ∀ T r h', P r h' → St n0 p l e R s m args below meth c k n h' T → Wp n0 p e R s below Q T (mkF m q Ls (.ref r :: rest))) : ∀ T v h', Ea P v h' → St n0 p l e R s m args below meth c k n h' T → Wp n0 p e R s below Q T (mkF m q Ls (v.toList ++ rest)) := by
  intro T v h' hq S; obtain ⟨r, rfl, hp⟩ := hq; exact g T r h' hp S
theorem enter {y : MethodName} {bytes : ByteArray} {rm : Room} {ws : List Jvm.Cond} {as' : Array Value} (hpn : plainFor y = true) (ef : ∀ m, entryFrame m as' mL = mkF m 0 Ls []) (hn : n0 ≤ h.size)
    (body : ∀ p e s m below meth c T, Cx y.cls bytes mL ret y.name n0 Z p l e rm s m as' below meth c → St n0 p l e rm s m as' below meth c 0 0 h T → Wp n0 p e rm s below Q T (mkF m 0 Ls [])) : Met n0 l Z y bytes mL ret rm ws as' h Q := by
  refine MetFree.of_bodySF hpn hisR ?_
  intro p e s m args below meth c s₁ Bd hml0 hP hK
  obtain ⟨rfl, hZ, hh⟩ := hP
  have e0 : s₁.heap = h := by rw [← hh, Bd.state]; rfl
  have w := body p e s m below meth c s₁ ⟨Bd.exec, Bd.bytes, hml0, Bd.returns, Bd.notSynchronized, findClass_of_methodNamed Bd.named, hZ, (name_of_methodNamed Bd.named Bd.method).1⟩ ⟨[], Stand.of_body Bd, e0, Fr.nil n0, hn⟩
  obtain ⟨s₂, o, h1, r⟩ := w
  exact ⟨s₂, o, castTop (ef m) h1, r⟩
theorem iadd (K : Cx own code mL ret mn n0 Z p l e R s m args below meth c) (S : St n0 p l e R s m args below meth c k n h T) (hd : Dc code pc (.iadd) 1 q) (g : Wp n0 p e R s below Q T (mkF m q Ls (.int (x + y) :: st))) : Wp n0 p e R s below Q T (mkF m pc Ls (.int y :: .int x :: st)) := by
  obtain ⟨hx, hby, -⟩ := K; obtain ⟨locs, S, -, -⟩ := S; obtain ⟨hd, rfl⟩ := hd
  exact wp_mono (fun t hr => XS.iadd S.here hx rfl (hb hby hd) rfl hr) g
theorem isub (K : Cx own code mL ret mn n0 Z p l e R s m args below meth c) (S : St n0 p l e R s m args below meth c k n h T) (hd : Dc code pc (.isub) 1 q) (g : Wp n0 p e R s below Q T (mkF m q Ls (.int (x - y) :: st))) : Wp n0 p e R s below Q T (mkF m pc Ls (.int y :: .int x :: st)) := by
  obtain ⟨hx, hby, -⟩ := K; obtain ⟨locs, S, -, -⟩ := S; obtain ⟨hd, rfl⟩ := hd
  exact wp_mono (fun t hr => XS.isub S.here hx rfl (hb hby hd) rfl hr) g
theorem imul (K : Cx own code mL ret mn n0 Z p l e R s m args below meth c) (S : St n0 p l e R s m args below meth c k n h T) (hd : Dc code pc (.imul) 1 q) (g : Wp n0 p e R s below Q T (mkF m q Ls (.int (x * y) :: st))) : Wp n0 p e R s below Q T (mkF m pc Ls (.int y :: .int x :: st)) := by
  obtain ⟨hx, hby, -⟩ := K; obtain ⟨locs, S, -, -⟩ := S; obtain ⟨hd, rfl⟩ := hd
  exact wp_mono (fun t hr => XS.imul S.here hx rfl (hb hby hd) rfl hr) g
theorem iand (K : Cx own code mL ret mn n0 Z p l e R s m args below meth c) (S : St n0 p l e R s m args below meth c k n h T) (hd : Dc code pc (.iand) 1 q) (g : Wp n0 p e R s below Q T (mkF m q Ls (.int (x &&& y) :: st))) : Wp n0 p e R s below Q T (mkF m pc Ls (.int y :: .int x :: st)) := by
  obtain ⟨hx, hby, -⟩ := K; obtain ⟨locs, S, -, -⟩ := S; obtain ⟨hd, rfl⟩ := hd
  exact wp_mono (fun t hr => XS.iand S.here hx rfl (hb hby hd) rfl hr) g
theorem ior (K : Cx own code mL ret mn n0 Z p l e R s m args below meth c) (S : St n0 p l e R s m args below meth c k n h T) (hd : Dc code pc (.ior) 1 q) (g : Wp n0 p e R s below Q T (mkF m q Ls (.int (x ||| y) :: st))) : Wp n0 p e R s below Q T (mkF m pc Ls (.int y :: .int x :: st)) := by
  obtain ⟨hx, hby, -⟩ := K; obtain ⟨locs, S, -, -⟩ := S; obtain ⟨hd, rfl⟩ := hd
  exact wp_mono (fun t hr => XT.ior S.here hx rfl (hb hby hd) rfl hr) g
theorem ixor (K : Cx own code mL ret mn n0 Z p l e R s m args below meth c) (S : St n0 p l e R s m args below meth c k n h T) (hd : Dc code pc (.ixor) 1 q) (g : Wp n0 p e R s below Q T (mkF m q Ls (.int (x ^^^ y) :: st))) : Wp n0 p e R s below Q T (mkF m pc Ls (.int y :: .int x :: st)) := by
  obtain ⟨hx, hby, -⟩ := K; obtain ⟨locs, S, -, -⟩ := S; obtain ⟨hd, rfl⟩ := hd
  exact wp_mono (fun t hr => XT.ixor S.here hx rfl (hb hby hd) rfl hr) g
theorem ishl (K : Cx own code mL ret mn n0 Z p l e R s m args below meth c) (S : St n0 p l e R s m args below meth c k n h T) (hd : Dc code pc (.ishl) 1 q) (g : Wp n0 p e R s below Q T (mkF m q Ls (.int (x <<< (y &&& 31)) :: st))) : Wp n0 p e R s below Q T (mkF m pc Ls (.int y :: .int x :: st)) := by
  obtain ⟨hx, hby, -⟩ := K; obtain ⟨locs, S, -, -⟩ := S; obtain ⟨hd, rfl⟩ := hd
  exact wp_mono (fun t hr => XT.ishl S.here hx rfl (hb hby hd) rfl hr) g
theorem ishr (K : Cx own code mL ret mn n0 Z p l e R s m args below meth c) (S : St n0 p l e R s m args below meth c k n h T) (hd : Dc code pc (.ishr) 1 q) (g : Wp n0 p e R s below Q T (mkF m q Ls (.int (x >>> (y &&& 31)) :: st))) : Wp n0 p e R s below Q T (mkF m pc Ls (.int y :: .int x :: st)) := by
  obtain ⟨hx, hby, -⟩ := K; obtain ⟨locs, S, -, -⟩ := S; obtain ⟨hd, rfl⟩ := hd
  exact wp_mono (fun t hr => XT.ishr S.here hx rfl (hb hby hd) rfl hr) g
theorem iushr (K : Cx own code mL ret mn n0 Z p l e R s m args below meth c) (S : St n0 p l e R s m args below meth c k n h T) (hd : Dc code pc (.iushr) 1 q) (g : Wp n0 p e R s below Q T (mkF m q Ls (.int (XT.ushr x y) :: st))) : Wp n0 p e R s below Q T (mkF m pc Ls (.int y :: .int x :: st)) := by
  obtain ⟨hx, hby, -⟩ := K; obtain ⟨locs, S, -, -⟩ := S; obtain ⟨hd, rfl⟩ := hd
  exact wp_mono (fun t hr => XT.iushr S.here hx rfl (hb hby hd) rfl hr) g
theorem idiv (K : Cx own code mL ret mn n0 Z p l e R s m args below meth c) (S : St n0 p l e R s m args below meth c k n h T) (hy : y ≠ 0) (hd : Dc code pc (.idiv) 1 q) (g : Wp n0 p e R s below Q T (mkF m q Ls (.int (x / y) :: st))) : Wp n0 p e R s below Q T (mkF m pc Ls (.int y :: .int x :: st)) := by
  obtain ⟨hx, hby, -⟩ := K; obtain ⟨locs, S, -, -⟩ := S; obtain ⟨hd, rfl⟩ := hd
  exact wp_mono (fun t hr => XS.idiv S.here hx rfl (hb hby hd) rfl hy hr) g
theorem irem (K : Cx own code mL ret mn n0 Z p l e R s m args below meth c) (S : St n0 p l e R s m args below meth c k n h T) (hy : y ≠ 0) (hd : Dc code pc (.irem) 1 q) (g : Wp n0 p e R s below Q T (mkF m q Ls (.int (x % y) :: st))) : Wp n0 p e R s below Q T (mkF m pc Ls (.int y :: .int x :: st)) := by
  obtain ⟨hx, hby, -⟩ := K; obtain ⟨locs, S, -, -⟩ := S; obtain ⟨hd, rfl⟩ := hd
  exact wp_mono (fun t hr => iremM S hx rfl (hb hby hd) rfl hy hr) g
theorem ladd (K : Cx own code mL ret mn n0 Z p l e R s m args below meth c) (S : St n0 p l e R s m args below meth c k n h T) (hd : Dc code pc (.ladd) 1 q) (g : Wp n0 p e R s below Q T (mkF m q Ls (.long (X + Y) :: st))) : Wp n0 p e R s below Q T (mkF m pc Ls (.long Y :: .long X :: st)) := by
  obtain ⟨hx, hby, -⟩ := K; obtain ⟨locs, S, -, -⟩ := S; obtain ⟨hd, rfl⟩ := hd
  exact wp_mono (fun t hr => XT.ladd S.here hx rfl (hb hby hd) rfl hr) g
theorem lsub (K : Cx own code mL ret mn n0 Z p l e R s m args below meth c) (S : St n0 p l e R s m args below meth c k n h T) (hd : Dc code pc (.lsub) 1 q) (g : Wp n0 p e R s below Q T (mkF m q Ls (.long (X - Y) :: st))) : Wp n0 p e R s below Q T (mkF m pc Ls (.long Y :: .long X :: st)) := by
  obtain ⟨hx, hby, -⟩ := K; obtain ⟨locs, S, -, -⟩ := S; obtain ⟨hd, rfl⟩ := hd
  exact wp_mono (fun t hr => XT.lsub S.here hx rfl (hb hby hd) rfl hr) g
theorem lmul (K : Cx own code mL ret mn n0 Z p l e R s m args below meth c) (S : St n0 p l e R s m args below meth c k n h T) (hd : Dc code pc (.lmul) 1 q) (g : Wp n0 p e R s below Q T (mkF m q Ls (.long (X * Y) :: st))) : Wp n0 p e R s below Q T (mkF m pc Ls (.long Y :: .long X :: st)) := by
  obtain ⟨hx, hby, -⟩ := K; obtain ⟨locs, S, -, -⟩ := S; obtain ⟨hd, rfl⟩ := hd
  exact wp_mono (fun t hr => XT.lmul S.here hx rfl (hb hby hd) rfl hr) g
theorem land (K : Cx own code mL ret mn n0 Z p l e R s m args below meth c) (S : St n0 p l e R s m args below meth c k n h T) (hd : Dc code pc (.land) 1 q) (g : Wp n0 p e R s below Q T (mkF m q Ls (.long (X &&& Y) :: st))) : Wp n0 p e R s below Q T (mkF m pc Ls (.long Y :: .long X :: st)) := by
  obtain ⟨hx, hby, -⟩ := K; obtain ⟨locs, S, -, -⟩ := S; obtain ⟨hd, rfl⟩ := hd
  exact wp_mono (fun t hr => XT.land S.here hx rfl (hb hby hd) rfl hr) g
theorem ldiv (K : Cx own code mL ret mn n0 Z p l e R s m args below meth c) (S : St n0 p l e R s m args below meth c k n h T) (hy : Y ≠ 0) (hd : Dc code pc (.ldiv) 1 q) (g : Wp n0 p e R s below Q T (mkF m q Ls (.long (X / Y) :: st))) : Wp n0 p e R s below Q T (mkF m pc Ls (.long Y :: .long X :: st)) := by
  obtain ⟨hx, hby, -⟩ := K; obtain ⟨locs, S, -, -⟩ := S; obtain ⟨hd, rfl⟩ := hd
  exact wp_mono (fun t hr => XT.ldiv S.here hx rfl (hb hby hd) rfl hy hr) g
theorem lrem (K : Cx own code mL ret mn n0 Z p l e R s m args below meth c) (S : St n0 p l e R s m args below meth c k n h T) (hy : Y ≠ 0) (hd : Dc code pc (.lrem) 1 q) (g : Wp n0 p e R s below Q T (mkF m q Ls (.long (X % Y) :: st))) : Wp n0 p e R s below Q T (mkF m pc Ls (.long Y :: .long X :: st)) := by
  obtain ⟨hx, hby, -⟩ := K; obtain ⟨locs, S, -, -⟩ := S; obtain ⟨hd, rfl⟩ := hd
  exact wp_mono (fun t hr => XT.lrem S.here hx rfl (hb hby hd) rfl hy (by rw [lrem_mod]; exact hr)) g
theorem lushr (K : Cx own code mL ret mn n0 Z p l e R s m args below meth c) (S : St n0 p l e R s m args below meth c k n h T) (hd : Dc code pc (.lushr) 1 q) (g : Wp n0 p e R s below Q T (mkF m q Ls (.long (XT.ushrL X y) :: st))) : Wp n0 p e R s below Q T (mkF m pc Ls (.int y :: .long X :: st)) := by
  obtain ⟨hx, hby, -⟩ := K; obtain ⟨locs, S, -, -⟩ := S; obtain ⟨hd, rfl⟩ := hd
  exact wp_mono (fun t hr => XT.lushr S.here hx rfl (hb hby hd) rfl hr) g
theorem i2l (K : Cx own code mL ret mn n0 Z p l e R s m args below meth c) (S : St n0 p l e R s m args below meth c k n h T) (hd : Dc code pc (.i2l) 1 q) (g : Wp n0 p e R s below Q T (mkF m q Ls (.long x.toInt64 :: st))) : Wp n0 p e R s below Q T (mkF m pc Ls (.int x :: st)) := by
  obtain ⟨hx, hby, -⟩ := K; obtain ⟨locs, S, -, -⟩ := S; obtain ⟨hd, rfl⟩ := hd
  exact wp_mono (fun t hr => XT.i2l S.here hx rfl (hb hby hd) rfl hr) g
theorem l2i (K : Cx own code mL ret mn n0 Z p l e R s m args below meth c) (S : St n0 p l e R s m args below meth c k n h T) (hd : Dc code pc (.l2i) 1 q) (g : Wp n0 p e R s below Q T (mkF m q Ls (.int X.toInt32 :: st))) : Wp n0 p e R s below Q T (mkF m pc Ls (.long X :: st)) := by
  obtain ⟨hx, hby, -⟩ := K; obtain ⟨locs, S, -, -⟩ := S; obtain ⟨hd, rfl⟩ := hd
  exact wp_mono (fun t hr => XT.l2i S.here hx rfl (hb hby hd) rfl hr) g
theorem i2b (K : Cx own code mL ret mn n0 Z p l e R s m args below meth c) (S : St n0 p l e R s m args below meth c k n h T) (hd : Dc code pc (.i2b) 1 q) (g : Wp n0 p e R s below Q T (mkF m q Ls (.int x.toInt8.toInt32 :: st))) : Wp n0 p e R s below Q T (mkF m pc Ls (.int x :: st)) := by
  obtain ⟨hx, hby, -⟩ := K; obtain ⟨locs, S, -, -⟩ := S; obtain ⟨hd, rfl⟩ := hd
  exact wp_mono (fun t hr => XT.i2b S.here hx rfl (hb hby hd) rfl hr) g
theorem i2s (K : Cx own code mL ret mn n0 Z p l e R s m args below meth c) (S : St n0 p l e R s m args below meth c k n h T) (hd : Dc code pc (.i2s) 1 q) (g : Wp n0 p e R s below Q T (mkF m q Ls (.int x.toInt16.toInt32 :: st))) : Wp n0 p e R s below Q T (mkF m pc Ls (.int x :: st)) := by
  obtain ⟨hx, hby, -⟩ := K; obtain ⟨locs, S, -, -⟩ := S; obtain ⟨hd, rfl⟩ := hd
  exact wp_mono (fun t hr => XT.i2s S.here hx rfl (hb hby hd) rfl hr) g
theorem i2c (K : Cx own code mL ret mn n0 Z p l e R s m args below meth c) (S : St n0 p l e R s m args below meth c k n h T) (hd : Dc code pc (.i2c) 1 q) (g : Wp n0 p e R s below Q T (mkF m q Ls (.int x.toUInt32.toUInt16.toUInt32.toInt32 :: st))) : Wp n0 p e R s below Q T (mkF m pc Ls (.int x :: st)) := by
  obtain ⟨hx, hby, -⟩ := K; obtain ⟨locs, S, -, -⟩ := S; obtain ⟨hd, rfl⟩ := hd
  exact wp_mono (fun t hr => XT.i2c S.here hx rfl (hb hby hd) rfl hr) g
theorem iconst (K : Cx own code mL ret mn n0 Z p l e R s m args below meth c) (S : St n0 p l e R s m args below meth c k n h T) {i : Int} (hv : Int32.ofInt i = x) (hd : Dc code pc (.iconst i) 1 q) (g : Wp n0 p e R s below Q T (mkF m q Ls (.int x :: st))) : Wp n0 p e R s below Q T (mkF m pc Ls st) := by
  obtain ⟨hx, hby, -⟩ := K; obtain ⟨locs, S, -, -⟩ := S; obtain ⟨hd, rfl⟩ := hd
  exact wp_mono (fun t hr => XS.iconst S.here hx rfl (hb hby hd) (by rw [hv]; exact hr)) g
theorem bipush (K : Cx own code mL ret mn n0 Z p l e R s m args below meth c) (S : St n0 p l e R s m args below meth c k n h T) {i : Int} (hv : (Int8.ofInt i).toInt32 = x) (hd : Dc code pc (.bipush i) 2 q) (g : Wp n0 p e R s below Q T (mkF m q Ls (.int x :: st))) : Wp n0 p e R s below Q T (mkF m pc Ls st) := by
  obtain ⟨hx, hby, -⟩ := K; obtain ⟨locs, S, -, -⟩ := S; obtain ⟨hd, rfl⟩ := hd
  exact wp_mono (fun t hr => XS.bipush S.here hx rfl (hb hby hd) (by rw [hv]; exact hr)) g
theorem sipush (K : Cx own code mL ret mn n0 Z p l e R s m args below meth c) (S : St n0 p l e R s m args below meth c k n h T) {i : Int} (hv : (Int16.ofInt i).toInt32 = x) (hd : Dc code pc (.sipush i) 3 q) (g : Wp n0 p e R s below Q T (mkF m q Ls (.int x :: st))) : Wp n0 p e R s below Q T (mkF m pc Ls st) := by
  obtain ⟨hx, hby, -⟩ := K; obtain ⟨locs, S, -, -⟩ := S; obtain ⟨hd, rfl⟩ := hd
  exact wp_mono (fun t hr => XS.sipush S.here hx rfl (hb hby hd) (by rw [hv]; exact hr)) g
theorem lconst (K : Cx own code mL ret mn n0 Z p l e R s m args below meth c) (S : St n0 p l e R s m args below meth c k n h T) {i : Fin 2} (hv : Int64.ofNat i = X) (hd : Dc code pc (.lconst i) 1 q) (g : Wp n0 p e R s below Q T (mkF m q Ls (.long X :: st))) : Wp n0 p e R s below Q T (mkF m pc Ls st) := by
  obtain ⟨hx, hby, -⟩ := K; obtain ⟨locs, S, -, -⟩ := S; obtain ⟨hd, rfl⟩ := hd
  exact wp_mono (fun t hr => XT.lconst S.here hx rfl (hb hby hd) (by rw [hv]; exact hr)) g
theorem anull (K : Cx own code mL ret mn n0 Z p l e R s m args below meth c) (S : St n0 p l e R s m args below meth c k n h T) (hd : Dc code pc (.aconst_null) 1 q) (g : Wp n0 p e R s below Q T (mkF m q Ls (.null :: st))) : Wp n0 p e R s below Q T (mkF m pc Ls st) := by
  obtain ⟨hx, hby, -⟩ := K; obtain ⟨locs, S, -, -⟩ := S; obtain ⟨hd, rfl⟩ := hd
  exact wp_mono (fun t hr => XS.aconstNull S.here hx rfl (hb hby hd) hr) g
theorem dup (K : Cx own code mL ret mn n0 Z p l e R s m args below meth c) (S : St n0 p l e R s m args below meth c k n h T) (hc : v.category = 1) (hd : Dc code pc (.dup) 1 q) (g : Wp n0 p e R s below Q T (mkF m q Ls (v :: v :: st))) : Wp n0 p e R s below Q T (mkF m pc Ls (v :: st)) := by
  obtain ⟨hx, hby, -⟩ := K; obtain ⟨locs, S, -, -⟩ := S; obtain ⟨hd, rfl⟩ := hd
  exact wp_mono (fun t hr => XS.dup S.here hx rfl (hb hby hd) rfl hc hr) g
theorem pop (K : Cx own code mL ret mn n0 Z p l e R s m args below meth c) (S : St n0 p l e R s m args below meth c k n h T) (hc : v.category = 1) (hd : Dc code pc (.pop) 1 q) (g : Wp n0 p e R s below Q T (mkF m q Ls st)) : Wp n0 p e R s below Q T (mkF m pc Ls (v :: st)) := by
  obtain ⟨hx, hby, -⟩ := K; obtain ⟨locs, S, -, -⟩ := S; obtain ⟨hd, rfl⟩ := hd
  exact wp_mono (fun t hr => XT.pop S.here hx rfl (hb hby hd) rfl hc hr) g
theorem dup_x1 (K : Cx own code mL ret mn n0 Z p l e R s m args below meth c) (S : St n0 p l e R s m args below meth c k n h T) (hc : v.category = 1) (hc' : w.category = 1) (hd : Dc code pc (.dup_x1) 1 q) (g : Wp n0 p e R s below Q T (mkF m q Ls (v :: w :: v :: st))) : Wp n0 p e R s below Q T (mkF m pc Ls (v :: w :: st)) := by
  obtain ⟨hx, hby, -⟩ := K; obtain ⟨locs, S, -, -⟩ := S; obtain ⟨hd, rfl⟩ := hd
  exact wp_mono (fun t hr => XT.dupX1 S.here hx rfl (hb hby hd) rfl hc hc' hr) g
theorem dup2 (K : Cx own code mL ret mn n0 Z p l e R s m args below meth c) (S : St n0 p l e R s m args below meth c k n h T) (hc : v.category = 1) (hc' : w.category = 1) (hd : Dc code pc (.dup2) 1 q) (g : Wp n0 p e R s below Q T (mkF m q Ls (v :: w :: v :: w :: st))) : Wp n0 p e R s below Q T (mkF m pc Ls (v :: w :: st)) := by
  obtain ⟨hx, hby, -⟩ := K; obtain ⟨locs, S, -, -⟩ := S; obtain ⟨hd, rfl⟩ := hd
  exact wp_mono (fun t hr => XT.dup2 S.here hx rfl (hb hby hd) rfl hc hc' hr) g
theorem iload (K : Cx own code mL ret mn n0 Z p l e R s m args below meth c) (S : St n0 p l e R s m args below meth c k n h T) {i : Nat} (hl : Ls[i]? = some (.val (.int x))) (hd : Dc code pc (.iload i) 2 q) (g : Wp n0 p e R s below Q T (mkF m q Ls (.int x :: st))) : Wp n0 p e R s below Q T (mkF m pc Ls st) := by
  obtain ⟨hx, hby, -⟩ := K; obtain ⟨locs, S, -, -⟩ := S; obtain ⟨hd, rfl⟩ := hd
  exact wp_mono (fun t hr => XS.iload S.here hx rfl (hb hby hd) hl hr) g
theorem iload_n (K : Cx own code mL ret mn n0 Z p l e R s m args below meth c) (S : St n0 p l e R s m args below meth c k n h T) {i : Fin 4} (hl : Ls[i.val]? = some (.val (.int x))) (hd : Dc code pc (.iload_n i) 1 q) (g : Wp n0 p e R s below Q T (mkF m q Ls (.int x :: st))) : Wp n0 p e R s below Q T (mkF m pc Ls st) := by
  obtain ⟨hx, hby, -⟩ := K; obtain ⟨locs, S, -, -⟩ := S; obtain ⟨hd, rfl⟩ := hd
  exact wp_mono (fun t hr => XS.iloadN S.here hx rfl (hb hby hd) hl hr) g
theorem aload (K : Cx own code mL ret mn n0 Z p l e R s m args below meth c) (S : St n0 p l e R s m args below meth c k n h T) {i : Nat} (hl : Ls[i]? = some (.val (v))) (hv : v.isRef = true) (hd : Dc code pc (.aload i) 2 q) (g : Wp n0 p e R s below Q T (mkF m q Ls (v :: st))) : Wp n0 p e R s below Q T (mkF m pc Ls st) := by
  obtain ⟨hx, hby, -⟩ := K; obtain ⟨locs, S, -, -⟩ := S; obtain ⟨hd, rfl⟩ := hd
  exact wp_mono (fun t hr => XS.aload S.here hx rfl (hb hby hd) hl hv hr) g
theorem aload_n (K : Cx own code mL ret mn n0 Z p l e R s m args below meth c) (S : St n0 p l e R s m args below meth c k n h T) {i : Fin 4} (hl : Ls[i.val]? = some (.val (v))) (hv : v.isRef = true) (hd : Dc code pc (.aload_n i) 1 q) (g : Wp n0 p e R s below Q T (mkF m q Ls (v :: st))) : Wp n0 p e R s below Q T (mkF m pc Ls st) := by
  obtain ⟨hx, hby, -⟩ := K; obtain ⟨locs, S, -, -⟩ := S; obtain ⟨hd, rfl⟩ := hd
  exact wp_mono (fun t hr => XS.aloadN S.here hx rfl (hb hby hd) hl hv hr) g
theorem lload (K : Cx own code mL ret mn n0 Z p l e R s m args below meth c) (S : St n0 p l e R s m args below meth c k n h T) {i : Nat} (hl : Ls[i]? = some (.val (.long X))) (hd : Dc code pc (.lload i) 2 q) (g : Wp n0 p e R s below Q T (mkF m q Ls (.long X :: st))) : Wp n0 p e R s below Q T (mkF m pc Ls st) := by
  obtain ⟨hx, hby, -⟩ := K; obtain ⟨locs, S, -, -⟩ := S; obtain ⟨hd, rfl⟩ := hd
  exact wp_mono (fun t hr => XT.lload S.here hx rfl (hb hby hd) hl hr) g
theorem lload_n (K : Cx own code mL ret mn n0 Z p l e R s m args below meth c) (S : St n0 p l e R s m args below meth c k n h T) {i : Fin 4} (hl : Ls[i.val]? = some (.val (.long X))) (hd : Dc code pc (.lload_n i) 1 q) (g : Wp n0 p e R s below Q T (mkF m q Ls (.long X :: st))) : Wp n0 p e R s below Q T (mkF m pc Ls st) := by
  obtain ⟨hx, hby, -⟩ := K; obtain ⟨locs, S, -, -⟩ := S; obtain ⟨hd, rfl⟩ := hd
  exact wp_mono (fun t hr => XT.lloadN S.here hx rfl (hb hby hd) hl hr) g
theorem istore (K : Cx own code mL ret mn n0 Z p l e R s m args below meth c) (S : St n0 p l e R s m args below meth c k n h T) {i : Nat} (hl : storeLocals Ls i (.int x) = some l') (hd : Dc code pc (.istore i) 2 q) (g : Wp n0 p e R s below Q T (mkF m q l' st)) : Wp n0 p e R s below Q T (mkF m pc Ls (.int x :: st)) := by
  obtain ⟨hx, hby, -⟩ := K; obtain ⟨locs, S, -, -⟩ := S; obtain ⟨hd, rfl⟩ := hd
  exact wp_mono (fun t hr => XS.istore S.here hx rfl (hb hby hd) rfl hl hr) g
theorem istore_n (K : Cx own code mL ret mn n0 Z p l e R s m args below meth c) (S : St n0 p l e R s m args below meth c k n h T) {i : Fin 4} (hl : storeLocals Ls i.val (.int x) = some l') (hd : Dc code pc (.istore_n i) 1 q) (g : Wp n0 p e R s below Q T (mkF m q l' st)) : Wp n0 p e R s below Q T (mkF m pc Ls (.int x :: st)) := by
  obtain ⟨hx, hby, -⟩ := K; obtain ⟨locs, S, -, -⟩ := S; obtain ⟨hd, rfl⟩ := hd
  exact wp_mono (fun t hr => XS.istoreN S.here hx rfl (hb hby hd) rfl hl hr) g
theorem astore (K : Cx own code mL ret mn n0 Z p l e R s m args below meth c) (S : St n0 p l e R s m args below meth c k n h T) {i : Nat} (hv : v.isRef = true) (hl : storeLocals Ls i (v) = some l') (hd : Dc code pc (.astore i) 2 q) (g : Wp n0 p e R s below Q T (mkF m q l' st)) : Wp n0 p e R s below Q T (mkF m pc Ls (v :: st)) := by
  obtain ⟨hx, hby, -⟩ := K; obtain ⟨locs, S, -, -⟩ := S; obtain ⟨hd, rfl⟩ := hd
  exact wp_mono (fun t hr => XS.astore S.here hx rfl (hb hby hd) rfl hv hl hr) g
theorem astore_n (K : Cx own code mL ret mn n0 Z p l e R s m args below meth c) (S : St n0 p l e R s m args below meth c k n h T) {i : Fin 4} (hv : v.isRef = true) (hl : storeLocals Ls i.val (v) = some l') (hd : Dc code pc (.astore_n i) 1 q) (g : Wp n0 p e R s below Q T (mkF m q l' st)) : Wp n0 p e R s below Q T (mkF m pc Ls (v :: st)) := by
  obtain ⟨hx, hby, -⟩ := K; obtain ⟨locs, S, -, -⟩ := S; obtain ⟨hd, rfl⟩ := hd
  exact wp_mono (fun t hr => XS.astoreN S.here hx rfl (hb hby hd) rfl hv hl hr) g
theorem lstore (K : Cx own code mL ret mn n0 Z p l e R s m args below meth c) (S : St n0 p l e R s m args below meth c k n h T) {i : Nat} (hl : storeLocals Ls i (.long X) = some l') (hd : Dc code pc (.lstore i) 2 q) (g : Wp n0 p e R s below Q T (mkF m q l' st)) : Wp n0 p e R s below Q T (mkF m pc Ls (.long X :: st)) := by
  obtain ⟨hx, hby, -⟩ := K; obtain ⟨locs, S, -, -⟩ := S; obtain ⟨hd, rfl⟩ := hd
  exact wp_mono (fun t hr => XT.lstore S.here hx rfl (hb hby hd) rfl hl hr) g
theorem lstore_n (K : Cx own code mL ret mn n0 Z p l e R s m args below meth c) (S : St n0 p l e R s m args below meth c k n h T) {i : Fin 4} (hl : storeLocals Ls i.val (.long X) = some l') (hd : Dc code pc (.lstore_n i) 1 q) (g : Wp n0 p e R s below Q T (mkF m q l' st)) : Wp n0 p e R s below Q T (mkF m pc Ls (.long X :: st)) := by
  obtain ⟨hx, hby, -⟩ := K; obtain ⟨locs, S, -, -⟩ := S; obtain ⟨hd, rfl⟩ := hd
  exact wp_mono (fun t hr => XT.lstoreN S.here hx rfl (hb hby hd) rfl hl hr) g
theorem iinc (K : Cx own code mL ret mn n0 Z p l e R s m args below meth c) (S : St n0 p l e R s m args below meth c k n h T) {i : Nat} {cst : Int} (hv : Int32.ofInt cst = y) (hl : Ls[i]? = some (.val (.int x))) (hl' : storeLocals Ls i (.int (x + y)) = some l') (hd : Dc code pc (.iinc i cst) 3 q) (g : Wp n0 p e R s below Q T (mkF m q l' st)) : Wp n0 p e R s below Q T (mkF m pc Ls st) := by
  obtain ⟨hx, hby, -⟩ := K; obtain ⟨locs, S, -, -⟩ := S; obtain ⟨hd, rfl⟩ := hd
  exact wp_mono (fun t hr => XS.iinc S.here hx rfl (hb hby hd) hl (by rw [hv]; exact hl') hr) g
theorem goto (K : Cx own code mL ret mn n0 Z p l e R s m args below meth c) (S : St n0 p l e R s m args below meth c k n h T) {o : Int} (hd : Bc code pc (.goto o) o q q') (g : Wp n0 p e R s below Q T (mkF m q' Ls st)) : Wp n0 p e R s below Q T (mkF m pc Ls st) := by
  obtain ⟨hx, hby, -⟩ := K; obtain ⟨locs, S, -, -⟩ := S; obtain ⟨hd, -, h1, h2⟩ := hd
  exact wp_mono (fun t hr => XS.goto S.here hx rfl rfl (hb hby hd) h1 h2 hr) g
theorem icmp (K : Cx own code mL ret mn n0 Z p l e R s m args below meth c) (S : St n0 p l e R s m args below meth c k n h T) {o : Int} {cd : ClassFile.Cond} (hd : Bc code pc (.if_icmp cd o) o q q') (g1 : if_icmp.holds cd x y = true → Wp n0 p e R s below Q T (mkF m q' Ls st)) (g2 : if_icmp.holds cd x y = false → Wp n0 p e R s below Q T (mkF m q Ls st)) : Wp n0 p e R s below Q T (mkF m pc Ls (.int y :: .int x :: st)) := by
  obtain ⟨hx, hby, -⟩ := K; obtain ⟨locs, S, -, -⟩ := S; obtain ⟨hd, rfl, h1, h2⟩ := hd
  cases hc : if_icmp.holds cd x y with
  | true => exact wp_mono (fun t hr => XS.icmpYes S.here hx rfl rfl (hb hby hd) rfl hc h1 h2 hr) (g1 hc)
  | false => exact wp_mono (fun t hr => XS.icmpNo S.here hx rfl (hb hby hd) rfl hc hr) (g2 hc)
theorem ific (K : Cx own code mL ret mn n0 Z p l e R s m args below meth c) (S : St n0 p l e R s m args below meth c k n h T) {o : Int} {cd : ClassFile.Cond} (hd : Bc code pc (.ifCond cd o) o q q') (g1 : if_icmp.holds cd x 0 = true → Wp n0 p e R s below Q T (mkF m q' Ls st)) (g2 : if_icmp.holds cd x 0 = false → Wp n0 p e R s below Q T (mkF m q Ls st)) : Wp n0 p e R s below Q T (mkF m pc Ls (.int x :: st)) := by
  obtain ⟨hx, hby, -⟩ := K; obtain ⟨locs, S, -, -⟩ := S; obtain ⟨hd, rfl, h1, h2⟩ := hd
  cases hc : if_icmp.holds cd x 0 with
  | true => exact wp_mono (fun t hr => XS.ifYes S.here hx rfl rfl (hb hby hd) rfl (by rw [if0]; exact hc) h1 h2 hr) (g1 hc)
  | false => exact wp_mono (fun t hr => XS.ifNo S.here hx rfl (hb hby hd) rfl (by rw [if0]; exact hc) hr) (g2 hc)
theorem icmp_lt (K : Cx own code mL ret mn n0 Z p l e R s m args below meth c) (S : St n0 p l e R s m args below meth c k n h T) {o : Int} (hd : Bc code pc (.if_icmp .lt o) o q q') (g1 : x < y → Wp n0 p e R s below Q T (mkF m q' Ls st)) (g2 : ¬ x < y → Wp n0 p e R s below Q T (mkF m q Ls st)) : Wp n0 p e R s below Q T (mkF m pc Ls (.int y :: .int x :: st)) := by
  by_cases hc : x < y
  · exact icmp K S hd (fun _ => g1 hc) (fun q => absurd ((tlt hc).1) (by rw [q]; decide))
  · exact icmp K S hd (fun q => absurd ((flt hc).1) (by rw [q]; decide)) (fun _ => g2 hc)
theorem ific_lt (K : Cx own code mL ret mn n0 Z p l e R s m args below meth c) (S : St n0 p l e R s m args below meth c k n h T) {o : Int} (hd : Bc code pc (.ifCond .lt o) o q q') (g1 : x < 0 → Wp n0 p e R s below Q T (mkF m q' Ls st)) (g2 : ¬ x < 0 → Wp n0 p e R s below Q T (mkF m q Ls st)) : Wp n0 p e R s below Q T (mkF m pc Ls (.int x :: st)) := by
  by_cases hc : x < 0
  · exact ific K S hd (fun _ => g1 hc) (fun q => absurd ((tlt hc).1) (by rw [q]; decide))
  · exact ific K S hd (fun q => absurd ((flt hc).1) (by rw [q]; decide)) (fun _ => g2 hc)
theorem icmp_ge (K : Cx own code mL ret mn n0 Z p l e R s m args below meth c) (S : St n0 p l e R s m args below meth c k n h T) {o : Int} (hd : Bc code pc (.if_icmp .ge o) o q q') (g1 : ¬ x < y → Wp n0 p e R s below Q T (mkF m q' Ls st)) (g2 : x < y → Wp n0 p e R s below Q T (mkF m q Ls st)) : Wp n0 p e R s below Q T (mkF m pc Ls (.int y :: .int x :: st)) := by
  by_cases hc : x < y
  · exact icmp K S hd (fun q => absurd ((tlt hc).2.1) (by rw [q]; decide)) (fun _ => g2 hc)
  · exact icmp K S hd (fun _ => g1 hc) (fun q => absurd ((flt hc).2.1) (by rw [q]; decide))
theorem ific_ge (K : Cx own code mL ret mn n0 Z p l e R s m args below meth c) (S : St n0 p l e R s m args below meth c k n h T) {o : Int} (hd : Bc code pc (.ifCond .ge o) o q q') (g1 : ¬ x < 0 → Wp n0 p e R s below Q T (mkF m q' Ls st)) (g2 : x < 0 → Wp n0 p e R s below Q T (mkF m q Ls st)) : Wp n0 p e R s below Q T (mkF m pc Ls (.int x :: st)) := by
  by_cases hc : x < 0
  · exact ific K S hd (fun q => absurd ((tlt hc).2.1) (by rw [q]; decide)) (fun _ => g2 hc)
  · exact ific K S hd (fun _ => g1 hc) (fun q => absurd ((flt hc).2.1) (by rw [q]; decide))
theorem icmp_gt (K : Cx own code mL ret mn n0 Z p l e R s m args below meth c) (S : St n0 p l e R s m args below meth c k n h T) {o : Int} (hd : Bc code pc (.if_icmp .gt o) o q q') (g1 : y < x → Wp n0 p e R s below Q T (mkF m q' Ls st)) (g2 : ¬ y < x → Wp n0 p e R s below Q T (mkF m q Ls st)) : Wp n0 p e R s below Q T (mkF m pc Ls (.int y :: .int x :: st)) := by
  by_cases hc : y < x
  · exact icmp K S hd (fun _ => g1 hc) (fun q => absurd ((tlt hc).2.2.1) (by rw [q]; decide))
  · exact icmp K S hd (fun q => absurd ((flt hc).2.2.1) (by rw [q]; decide)) (fun _ => g2 hc)
theorem ific_gt (K : Cx own code mL ret mn n0 Z p l e R s m args below meth c) (S : St n0 p l e R s m args below meth c k n h T) {o : Int} (hd : Bc code pc (.ifCond .gt o) o q q') (g1 : 0 < x → Wp n0 p e R s below Q T (mkF m q' Ls st)) (g2 : ¬ 0 < x → Wp n0 p e R s below Q T (mkF m q Ls st)) : Wp n0 p e R s below Q T (mkF m pc Ls (.int x :: st)) := by
  by_cases hc : 0 < x
  · exact ific K S hd (fun _ => g1 hc) (fun q => absurd ((tlt hc).2.2.1) (by rw [q]; decide))
  · exact ific K S hd (fun q => absurd ((flt hc).2.2.1) (by rw [q]; decide)) (fun _ => g2 hc)
theorem icmp_le (K : Cx own code mL ret mn n0 Z p l e R s m args below meth c) (S : St n0 p l e R s m args below meth c k n h T) {o : Int} (hd : Bc code pc (.if_icmp .le o) o q q') (g1 : ¬ y < x → Wp n0 p e R s below Q T (mkF m q' Ls st)) (g2 : y < x → Wp n0 p e R s below Q T (mkF m q Ls st)) : Wp n0 p e R s below Q T (mkF m pc Ls (.int y :: .int x :: st)) := by
  by_cases hc : y < x
  · exact icmp K S hd (fun q => absurd ((tlt hc).2.2.2) (by rw [q]; decide)) (fun _ => g2 hc)
  · exact icmp K S hd (fun _ => g1 hc) (fun q => absurd ((flt hc).2.2.2) (by rw [q]; decide))
theorem ific_le (K : Cx own code mL ret mn n0 Z p l e R s m args below meth c) (S : St n0 p l e R s m args below meth c k n h T) {o : Int} (hd : Bc code pc (.ifCond .le o) o q q') (g1 : ¬ 0 < x → Wp n0 p e R s below Q T (mkF m q' Ls st)) (g2 : 0 < x → Wp n0 p e R s below Q T (mkF m q Ls st)) : Wp n0 p e R s below Q T (mkF m pc Ls (.int x :: st)) := by
  by_cases hc : 0 < x
  · exact ific K S hd (fun q => absurd ((tlt hc).2.2.2) (by rw [q]; decide)) (fun _ => g2 hc)
  · exact ific K S hd (fun _ => g1 hc) (fun q => absurd ((flt hc).2.2.2) (by rw [q]; decide))
theorem icmp_eq (K : Cx own code mL ret mn n0 Z p l e R s m args below meth c) (S : St n0 p l e R s m args below meth c k n h T) {o : Int} (hd : Bc code pc (.if_icmp .eq o) o q q') (g1 : x = y → Wp n0 p e R s below Q T (mkF m q' Ls st)) (g2 : ¬ x = y → Wp n0 p e R s below Q T (mkF m q Ls st)) : Wp n0 p e R s below Q T (mkF m pc Ls (.int y :: .int x :: st)) := by
  by_cases hc : x = y
  · exact icmp K S hd (fun _ => g1 hc) (fun q => absurd ((teq hc).1) (by rw [q]; decide))
  · exact icmp K S hd (fun q => absurd ((feq hc).1) (by rw [q]; decide)) (fun _ => g2 hc)
theorem ific_eq (K : Cx own code mL ret mn n0 Z p l e R s m args below meth c) (S : St n0 p l e R s m args below meth c k n h T) {o : Int} (hd : Bc code pc (.ifCond .eq o) o q q') (g1 : x = 0 → Wp n0 p e R s below Q T (mkF m q' Ls st)) (g2 : ¬ x = 0 → Wp n0 p e R s below Q T (mkF m q Ls st)) : Wp n0 p e R s below Q T (mkF m pc Ls (.int x :: st)) := by
  by_cases hc : x = 0
  · exact ific K S hd (fun _ => g1 hc) (fun q => absurd ((teq hc).1) (by rw [q]; decide))
  · exact ific K S hd (fun q => absurd ((feq hc).1) (by rw [q]; decide)) (fun _ => g2 hc)
theorem icmp_ne (K : Cx own code mL ret mn n0 Z p l e R s m args below meth c) (S : St n0 p l e R s m args below meth c k n h T) {o : Int} (hd : Bc code pc (.if_icmp .ne o) o q q') (g1 : ¬ x = y → Wp n0 p e R s below Q T (mkF m q' Ls st)) (g2 : x = y → Wp n0 p e R s below Q T (mkF m q Ls st)) : Wp n0 p e R s below Q T (mkF m pc Ls (.int y :: .int x :: st)) := by
  by_cases hc : x = y
  · exact icmp K S hd (fun q => absurd ((teq hc).2) (by rw [q]; decide)) (fun _ => g2 hc)
  · exact icmp K S hd (fun _ => g1 hc) (fun q => absurd ((feq hc).2) (by rw [q]; decide))
theorem ific_ne (K : Cx own code mL ret mn n0 Z p l e R s m args below meth c) (S : St n0 p l e R s m args below meth c k n h T) {o : Int} (hd : Bc code pc (.ifCond .ne o) o q q') (g1 : ¬ x = 0 → Wp n0 p e R s below Q T (mkF m q' Ls st)) (g2 : x = 0 → Wp n0 p e R s below Q T (mkF m q Ls st)) : Wp n0 p e R s below Q T (mkF m pc Ls (.int x :: st)) := by
  by_cases hc : x = 0
  · exact ific K S hd (fun q => absurd ((teq hc).2) (by rw [q]; decide)) (fun _ => g2 hc)
  · exact ific K S hd (fun _ => g1 hc) (fun q => absurd ((feq hc).2) (by rw [q]; decide))
theorem lcmp_lt (K : Cx own code mL ret mn n0 Z p l e R s m args below meth c) (S : St n0 p l e R s m args below meth c k n h T) {o : Int} {pc1 : Nat} (hd1 : Dc code pc .lcmp 1 pc1) (hd : Bc code pc1 (.ifCond .lt o) o q q') (g1 : X < Y → Wp n0 p e R s below Q T (mkF m q' Ls st)) (g2 : ¬ X < Y → Wp n0 p e R s below Q T (mkF m q Ls st)) : Wp n0 p e R s below Q T (mkF m pc Ls (.long Y :: .long X :: st)) := by
  obtain ⟨hx, hby, -⟩ := K; obtain ⟨locs, S, -, -⟩ := S; obtain ⟨hd, rfl, h1, h2⟩ := hd; obtain ⟨hd1, rfl⟩ := hd1
  by_cases hc : X < Y
  · exact wp_mono (fun t hr => XT.lcmp S.here hx rfl (hb hby hd1) rfl (XS.ifYes S.here hx rfl rfl (hb hby hd) rfl (XT.ll_lt_t hc) h1 h2 hr)) (g1 hc)
  · exact wp_mono (fun t hr => XT.lcmp S.here hx rfl (hb hby hd1) rfl (XS.ifNo S.here hx rfl (hb hby hd) rfl (XT.ll_lt_f hc) hr)) (g2 hc)
theorem lcmp_ge (K : Cx own code mL ret mn n0 Z p l e R s m args below meth c) (S : St n0 p l e R s m args below meth c k n h T) {o : Int} {pc1 : Nat} (hd1 : Dc code pc .lcmp 1 pc1) (hd : Bc code pc1 (.ifCond .ge o) o q q') (g1 : ¬ X < Y → Wp n0 p e R s below Q T (mkF m q' Ls st)) (g2 : X < Y → Wp n0 p e R s below Q T (mkF m q Ls st)) : Wp n0 p e R s below Q T (mkF m pc Ls (.long Y :: .long X :: st)) := by
  obtain ⟨hx, hby, -⟩ := K; obtain ⟨locs, S, -, -⟩ := S; obtain ⟨hd, rfl, h1, h2⟩ := hd; obtain ⟨hd1, rfl⟩ := hd1
  by_cases hc : X < Y
  · exact wp_mono (fun t hr => XT.lcmp S.here hx rfl (hb hby hd1) rfl (XS.ifNo S.here hx rfl (hb hby hd) rfl (XT.ll_ge_f hc) hr)) (g2 hc)
  · exact wp_mono (fun t hr => XT.lcmp S.here hx rfl (hb hby hd1) rfl (XS.ifYes S.here hx rfl rfl (hb hby hd) rfl (XT.ll_ge_t hc) h1 h2 hr)) (g1 hc)
theorem lcmp_gt (K : Cx own code mL ret mn n0 Z p l e R s m args below meth c) (S : St n0 p l e R s m args below meth c k n h T) {o : Int} {pc1 : Nat} (hd1 : Dc code pc .lcmp 1 pc1) (hd : Bc code pc1 (.ifCond .gt o) o q q') (g1 : Y < X → Wp n0 p e R s below Q T (mkF m q' Ls st)) (g2 : ¬ Y < X → Wp n0 p e R s below Q T (mkF m q Ls st)) : Wp n0 p e R s below Q T (mkF m pc Ls (.long Y :: .long X :: st)) := by
  obtain ⟨hx, hby, -⟩ := K; obtain ⟨locs, S, -, -⟩ := S; obtain ⟨hd, rfl, h1, h2⟩ := hd; obtain ⟨hd1, rfl⟩ := hd1
  by_cases hc : Y < X
  · exact wp_mono (fun t hr => XT.lcmp S.here hx rfl (hb hby hd1) rfl (XS.ifYes S.here hx rfl rfl (hb hby hd) rfl (XT.ll_gt_t hc) h1 h2 hr)) (g1 hc)
  · exact wp_mono (fun t hr => XT.lcmp S.here hx rfl (hb hby hd1) rfl (XS.ifNo S.here hx rfl (hb hby hd) rfl (XT.ll_gt_f hc) hr)) (g2 hc)
theorem lcmp_le (K : Cx own code mL ret mn n0 Z p l e R s m args below meth c) (S : St n0 p l e R s m args below meth c k n h T) {o : Int} {pc1 : Nat} (hd1 : Dc code pc .lcmp 1 pc1) (hd : Bc code pc1 (.ifCond .le o) o q q') (g1 : ¬ Y < X → Wp n0 p e R s below Q T (mkF m q' Ls st)) (g2 : Y < X → Wp n0 p e R s below Q T (mkF m q Ls st)) : Wp n0 p e R s below Q T (mkF m pc Ls (.long Y :: .long X :: st)) := by
  obtain ⟨hx, hby, -⟩ := K; obtain ⟨locs, S, -, -⟩ := S; obtain ⟨hd, rfl, h1, h2⟩ := hd; obtain ⟨hd1, rfl⟩ := hd1
  by_cases hc : Y < X
  · exact wp_mono (fun t hr => XT.lcmp S.here hx rfl (hb hby hd1) rfl (XS.ifNo S.here hx rfl (hb hby hd) rfl (XT.ll_le_f hc) hr)) (g2 hc)
  · exact wp_mono (fun t hr => XT.lcmp S.here hx rfl (hb hby hd1) rfl (XS.ifYes S.here hx rfl rfl (hb hby hd) rfl (XT.ll_le_t hc) h1 h2 hr)) (g1 hc)
theorem lcmp_eq (K : Cx own code mL ret mn n0 Z p l e R s m args below meth c) (S : St n0 p l e R s m args below meth c k n h T) {o : Int} {pc1 : Nat} (hd1 : Dc code pc .lcmp 1 pc1) (hd : Bc code pc1 (.ifCond .eq o) o q q') (g1 : X = Y → Wp n0 p e R s below Q T (mkF m q' Ls st)) (g2 : ¬ X = Y → Wp n0 p e R s below Q T (mkF m q Ls st)) : Wp n0 p e R s below Q T (mkF m pc Ls (.long Y :: .long X :: st)) := by
  obtain ⟨hx, hby, -⟩ := K; obtain ⟨locs, S, -, -⟩ := S; obtain ⟨hd, rfl, h1, h2⟩ := hd; obtain ⟨hd1, rfl⟩ := hd1
  by_cases hc : X = Y
  · exact wp_mono (fun t hr => XT.lcmp S.here hx rfl (hb hby hd1) rfl (XS.ifYes S.here hx rfl rfl (hb hby hd) rfl (XT.ll_eq_t hc) h1 h2 hr)) (g1 hc)
  · exact wp_mono (fun t hr => XT.lcmp S.here hx rfl (hb hby hd1) rfl (XS.ifNo S.here hx rfl (hb hby hd) rfl (XT.ll_eq_f hc) hr)) (g2 hc)
theorem lcmp_ne (K : Cx own code mL ret mn n0 Z p l e R s m args below meth c) (S : St n0 p l e R s m args below meth c k n h T) {o : Int} {pc1 : Nat} (hd1 : Dc code pc .lcmp 1 pc1) (hd : Bc code pc1 (.ifCond .ne o) o q q') (g1 : ¬ X = Y → Wp n0 p e R s below Q T (mkF m q' Ls st)) (g2 : X = Y → Wp n0 p e R s below Q T (mkF m q Ls st)) : Wp n0 p e R s below Q T (mkF m pc Ls (.long Y :: .long X :: st)) := by
  obtain ⟨hx, hby, -⟩ := K; obtain ⟨locs, S, -, -⟩ := S; obtain ⟨hd, rfl, h1, h2⟩ := hd; obtain ⟨hd1, rfl⟩ := hd1
  by_cases hc : X = Y
  · exact wp_mono (fun t hr => XT.lcmp S.here hx rfl (hb hby hd1) rfl (XS.ifNo S.here hx rfl (hb hby hd) rfl (XT.ll_ne_f hc) hr)) (g2 hc)
  · exact wp_mono (fun t hr => XT.lcmp S.here hx rfl (hb hby hd1) rfl (XS.ifYes S.here hx rfl rfl (hb hby hd) rfl (XT.ll_ne_t hc) h1 h2 hr)) (g1 hc)
theorem icmpz_lt (K : Cx own code mL ret mn n0 Z p l e R s m args below meth c) (S : St n0 p l e R s m args below meth c k n h T) {o : Int} (hd : Bc code pc (.if_icmp .lt o) o q q') (g1 : x.toInt < y.toInt → Wp n0 p e R s below Q T (mkF m q' Ls st)) (g2 : ¬ x.toInt < y.toInt → Wp n0 p e R s below Q T (mkF m q Ls st)) : Wp n0 p e R s below Q T (mkF m pc Ls (.int y :: .int x :: st)) :=
  icmp_lt K S hd (fun q => g1 (Int32.lt_iff_toInt_lt.mp q)) (fun q => g2 (fun r => q (Int32.lt_iff_toInt_lt.mpr r)))
theorem ificz_lt (K : Cx own code mL ret mn n0 Z p l e R s m args below meth c) (S : St n0 p l e R s m args below meth c k n h T) {o : Int} (hd : Bc code pc (.ifCond .lt o) o q q') (g1 : x.toInt < 0 → Wp n0 p e R s below Q T (mkF m q' Ls st)) (g2 : ¬ x.toInt < 0 → Wp n0 p e R s below Q T (mkF m q Ls st)) : Wp n0 p e R s below Q T (mkF m pc Ls (.int x :: st)) :=
  ific_lt K S hd (fun q => g1 (Int32.lt_iff_toInt_lt.mp q)) (fun q => g2 (fun r => q (Int32.lt_iff_toInt_lt.mpr r)))
theorem lcmpz_lt (K : Cx own code mL ret mn n0 Z p l e R s m args below meth c) (S : St n0 p l e R s m args below meth c k n h T) {o : Int} {pc1 : Nat} (hd1 : Dc code pc .lcmp 1 pc1) (hd : Bc code pc1 (.ifCond .lt o) o q q') (g1 : X.toInt < Y.toInt → Wp n0 p e R s below Q T (mkF m q' Ls st)) (g2 : ¬ X.toInt < Y.toInt → Wp n0 p e R s below Q T (mkF m q Ls st)) : Wp n0 p e R s below Q T (mkF m pc Ls (.long Y :: .long X :: st)) :=
  lcmp_lt K S hd1 hd (fun q => g1 (Int64.lt_iff_toInt_lt.mp q)) (fun q => g2 (fun r => q (Int64.lt_iff_toInt_lt.mpr r)))
theorem icmpz_ge (K : Cx own code mL ret mn n0 Z p l e R s m args below meth c) (S : St n0 p l e R s m args below meth c k n h T) {o : Int} (hd : Bc code pc (.if_icmp .ge o) o q q') (g1 : ¬ x.toInt < y.toInt → Wp n0 p e R s below Q T (mkF m q' Ls st)) (g2 : x.toInt < y.toInt → Wp n0 p e R s below Q T (mkF m q Ls st)) : Wp n0 p e R s below Q T (mkF m pc Ls (.int y :: .int x :: st)) :=
  icmp_ge K S hd (fun q => g1 (fun r => q (Int32.lt_iff_toInt_lt.mpr r))) (fun q => g2 (Int32.lt_iff_toInt_lt.mp q))
theorem ificz_ge (K : Cx own code mL ret mn n0 Z p l e R s m args below meth c) (S : St n0 p l e R s m args below meth c k n h T) {o : Int} (hd : Bc code pc (.ifCond .ge o) o q q') (g1 : ¬ x.toInt < 0 → Wp n0 p e R s below Q T (mkF m q' Ls st)) (g2 : x.toInt < 0 → Wp n0 p e R s below Q T (mkF m q Ls st)) : Wp n0 p e R s below Q T (mkF m pc Ls (.int x :: st)) :=
  ific_ge K S hd (fun q => g1 (fun r => q (Int32.lt_iff_toInt_lt.mpr r))) (fun q => g2 (Int32.lt_iff_toInt_lt.mp q))
theorem lcmpz_ge (K : Cx own code mL ret mn n0 Z p l e R s m args below meth c) (S : St n0 p l e R s m args below meth c k n h T) {o : Int} {pc1 : Nat} (hd1 : Dc code pc .lcmp 1 pc1) (hd : Bc code pc1 (.ifCond .ge o) o q q') (g1 : ¬ X.toInt < Y.toInt → Wp n0 p e R s below Q T (mkF m q' Ls st)) (g2 : X.toInt < Y.toInt → Wp n0 p e R s below Q T (mkF m q Ls st)) : Wp n0 p e R s below Q T (mkF m pc Ls (.long Y :: .long X :: st)) :=
  lcmp_ge K S hd1 hd (fun q => g1 (fun r => q (Int64.lt_iff_toInt_lt.mpr r))) (fun q => g2 (Int64.lt_iff_toInt_lt.mp q))
theorem icmpz_gt (K : Cx own code mL ret mn n0 Z p l e R s m args below meth c) (S : St n0 p l e R s m args below meth c k n h T) {o : Int} (hd : Bc code pc (.if_icmp .gt o) o q q') (g1 : y.toInt < x.toInt → Wp n0 p e R s below Q T (mkF m q' Ls st)) (g2 : ¬ y.toInt < x.toInt → Wp n0 p e R s below Q T (mkF m q Ls st)) : Wp n0 p e R s below Q T (mkF m pc Ls (.int y :: .int x :: st)) :=
  icmp_gt K S hd (fun q => g1 (Int32.lt_iff_toInt_lt.mp q)) (fun q => g2 (fun r => q (Int32.lt_iff_toInt_lt.mpr r)))
theorem ificz_gt (K : Cx own code mL ret mn n0 Z p l e R s m args below meth c) (S : St n0 p l e R s m args below meth c k n h T) {o : Int} (hd : Bc code pc (.ifCond .gt o) o q q') (g1 : 0 < x.toInt → Wp n0 p e R s below Q T (mkF m q' Ls st)) (g2 : ¬ 0 < x.toInt → Wp n0 p e R s below Q T (mkF m q Ls st)) : Wp n0 p e R s below Q T (mkF m pc Ls (.int x :: st)) :=
  ific_gt K S hd (fun q => g1 (Int32.lt_iff_toInt_lt.mp q)) (fun q => g2 (fun r => q (Int32.lt_iff_toInt_lt.mpr r)))
theorem lcmpz_gt (K : Cx own code mL ret mn n0 Z p l e R s m args below meth c) (S : St n0 p l e R s m args below meth c k n h T) {o : Int} {pc1 : Nat} (hd1 : Dc code pc .lcmp 1 pc1) (hd : Bc code pc1 (.ifCond .gt o) o q q') (g1 : Y.toInt < X.toInt → Wp n0 p e R s below Q T (mkF m q' Ls st)) (g2 : ¬ Y.toInt < X.toInt → Wp n0 p e R s below Q T (mkF m q Ls st)) : Wp n0 p e R s below Q T (mkF m pc Ls (.long Y :: .long X :: st)) :=
  lcmp_gt K S hd1 hd (fun q => g1 (Int64.lt_iff_toInt_lt.mp q)) (fun q => g2 (fun r => q (Int64.lt_iff_toInt_lt.mpr r)))
theorem icmpz_le (K : Cx own code mL ret mn n0 Z p l e R s m args below meth c) (S : St n0 p l e R s m args below meth c k n h T) {o : Int} (hd : Bc code pc (.if_icmp .le o) o q q') (g1 : ¬ y.toInt < x.toInt → Wp n0 p e R s below Q T (mkF m q' Ls st)) (g2 : y.toInt < x.toInt → Wp n0 p e R s below Q T (mkF m q Ls st)) : Wp n0 p e R s below Q T (mkF m pc Ls (.int y :: .int x :: st)) :=
  icmp_le K S hd (fun q => g1 (fun r => q (Int32.lt_iff_toInt_lt.mpr r))) (fun q => g2 (Int32.lt_iff_toInt_lt.mp q))
theorem ificz_le (K : Cx own code mL ret mn n0 Z p l e R s m args below meth c) (S : St n0 p l e R s m args below meth c k n h T) {o : Int} (hd : Bc code pc (.ifCond .le o) o q q') (g1 : ¬ 0 < x.toInt → Wp n0 p e R s below Q T (mkF m q' Ls st)) (g2 : 0 < x.toInt → Wp n0 p e R s below Q T (mkF m q Ls st)) : Wp n0 p e R s below Q T (mkF m pc Ls (.int x :: st)) :=
  ific_le K S hd (fun q => g1 (fun r => q (Int32.lt_iff_toInt_lt.mpr r))) (fun q => g2 (Int32.lt_iff_toInt_lt.mp q))
theorem lcmpz_le (K : Cx own code mL ret mn n0 Z p l e R s m args below meth c) (S : St n0 p l e R s m args below meth c k n h T) {o : Int} {pc1 : Nat} (hd1 : Dc code pc .lcmp 1 pc1) (hd : Bc code pc1 (.ifCond .le o) o q q') (g1 : ¬ Y.toInt < X.toInt → Wp n0 p e R s below Q T (mkF m q' Ls st)) (g2 : Y.toInt < X.toInt → Wp n0 p e R s below Q T (mkF m q Ls st)) : Wp n0 p e R s below Q T (mkF m pc Ls (.long Y :: .long X :: st)) :=
  lcmp_le K S hd1 hd (fun q => g1 (fun r => q (Int64.lt_iff_toInt_lt.mpr r))) (fun q => g2 (Int64.lt_iff_toInt_lt.mp q))
theorem icmpz_eq (K : Cx own code mL ret mn n0 Z p l e R s m args below meth c) (S : St n0 p l e R s m args below meth c k n h T) {o : Int} (hd : Bc code pc (.if_icmp .eq o) o q q') (g1 : x.toInt = y.toInt → Wp n0 p e R s below Q T (mkF m q' Ls st)) (g2 : ¬ x.toInt = y.toInt → Wp n0 p e R s below Q T (mkF m q Ls st)) : Wp n0 p e R s below Q T (mkF m pc Ls (.int y :: .int x :: st)) :=
  icmp_eq K S hd (fun q => g1 (congrArg Int32.toInt q)) (fun q => g2 (fun r => q (Int32.toInt_inj.mp r)))
theorem ificz_eq (K : Cx own code mL ret mn n0 Z p l e R s m args below meth c) (S : St n0 p l e R s m args below meth c k n h T) {o : Int} (hd : Bc code pc (.ifCond .eq o) o q q') (g1 : x.toInt = 0 → Wp n0 p e R s below Q T (mkF m q' Ls st)) (g2 : ¬ x.toInt = 0 → Wp n0 p e R s below Q T (mkF m q Ls st)) : Wp n0 p e R s below Q T (mkF m pc Ls (.int x :: st)) :=
  ific_eq K S hd (fun q => g1 (congrArg Int32.toInt q)) (fun q => g2 (fun r => q (Int32.toInt_inj.mp r)))
theorem lcmpz_eq (K : Cx own code mL ret mn n0 Z p l e R s m args below meth c) (S : St n0 p l e R s m args below meth c k n h T) {o : Int} {pc1 : Nat} (hd1 : Dc code pc .lcmp 1 pc1) (hd : Bc code pc1 (.ifCond .eq o) o q q') (g1 : X.toInt = Y.toInt → Wp n0 p e R s below Q T (mkF m q' Ls st)) (g2 : ¬ X.toInt = Y.toInt → Wp n0 p e R s below Q T (mkF m q Ls st)) : Wp n0 p e R s below Q T (mkF m pc Ls (.long Y :: .long X :: st)) :=
  lcmp_eq K S hd1 hd (fun q => g1 (congrArg Int64.toInt q)) (fun q => g2 (fun r => q (Int64.toInt_inj.mp r)))
theorem icmpz_ne (K : Cx own code mL ret mn n0 Z p l e R s m args below meth c) (S : St n0 p l e R s m args below meth c k n h T) {o : Int} (hd : Bc code pc (.if_icmp .ne o) o q q') (g1 : ¬ x.toInt = y.toInt → Wp n0 p e R s below Q T (mkF m q' Ls st)) (g2 : x.toInt = y.toInt → Wp n0 p e R s below Q T (mkF m q Ls st)) : Wp n0 p e R s below Q T (mkF m pc Ls (.int y :: .int x :: st)) :=
  icmp_ne K S hd (fun q => g1 (fun r => q (Int32.toInt_inj.mp r))) (fun q => g2 (congrArg Int32.toInt q))
theorem ificz_ne (K : Cx own code mL ret mn n0 Z p l e R s m args below meth c) (S : St n0 p l e R s m args below meth c k n h T) {o : Int} (hd : Bc code pc (.ifCond .ne o) o q q') (g1 : ¬ x.toInt = 0 → Wp n0 p e R s below Q T (mkF m q' Ls st)) (g2 : x.toInt = 0 → Wp n0 p e R s below Q T (mkF m q Ls st)) : Wp n0 p e R s below Q T (mkF m pc Ls (.int x :: st)) :=
  ific_ne K S hd (fun q => g1 (fun r => q (Int32.toInt_inj.mp r))) (fun q => g2 (congrArg Int32.toInt q))
theorem lcmpz_ne (K : Cx own code mL ret mn n0 Z p l e R s m args below meth c) (S : St n0 p l e R s m args below meth c k n h T) {o : Int} {pc1 : Nat} (hd1 : Dc code pc .lcmp 1 pc1) (hd : Bc code pc1 (.ifCond .ne o) o q q') (g1 : ¬ X.toInt = Y.toInt → Wp n0 p e R s below Q T (mkF m q' Ls st)) (g2 : X.toInt = Y.toInt → Wp n0 p e R s below Q T (mkF m q Ls st)) : Wp n0 p e R s below Q T (mkF m pc Ls (.long Y :: .long X :: st)) :=
  lcmp_ne K S hd1 hd (fun q => g1 (fun r => q (Int64.toInt_inj.mp r))) (fun q => g2 (congrArg Int64.toInt q))
theorem ifnull_ref (K : Cx own code mL ret mn n0 Z p l e R s m args below meth c) (S : St n0 p l e R s m args below meth c k n h T) {o : Int} (hd : Bc code pc (.ifnull o) o q q') (g : Wp n0 p e R s below Q T (mkF m q Ls st)) : Wp n0 p e R s below Q T (mkF m pc Ls (.ref a :: st)) := by
  obtain ⟨hx, hby, -⟩ := K; obtain ⟨locs, S, -, -⟩ := S; obtain ⟨hd, rfl, h1, h2⟩ := hd
  exact wp_mono (fun t hr => XS.ifnullNo S.here hx rfl (hb hby hd) rfl hr) g
theorem ldc (K : Cx own code mL ret mn n0 Z p l e R s m args below meth c) (S : St n0 p l e R s m args below meth c k n h T) {i : Nat} (w : (Jvm.Cond.constant own i x).before a0 Z = true) (hd : Dc code pc (.ldc i) 2 q) (g : Wp n0 p e R s below Q T (mkF m q Ls (.int x :: st))) : Wp n0 p e R s below Q T (mkF m pc Ls st) := by
  obtain ⟨hx, hby, -, -, -, hown, hZ, -⟩ := K; obtain ⟨locs, S, -, -⟩ := S; obtain ⟨hd, rfl⟩ := hd
  refine wp_mono (T' := T) (g' := mkF m (pc + 2) Ls (.int x :: st)) (fun t hr => ?_) g
  exact S.ldcInt hx hown (mvT hZ w) (g := mkF m pc Ls st) rfl (hb hby hd) t hr
theorem ldc2 (K : Cx own code mL ret mn n0 Z p l e R s m args below meth c) (S : St n0 p l e R s m args below meth c k n h T) {i : Nat} (w : (Jvm.Cond.constantLong own i X).before a0 Z = true) (hd : Dc code pc (.ldc2_w i) 3 q) (g : Wp n0 p e R s below Q T (mkF m q Ls (.long X :: st))) : Wp n0 p e R s below Q T (mkF m pc Ls st) := by
  obtain ⟨hx, hby, -, -, -, hown, hZ, -⟩ := K; obtain ⟨locs, S, -, -⟩ := S; obtain ⟨hd, rfl⟩ := hd
  refine wp_mono (T' := T) (g' := mkF m (pc + 3) Ls (.long X :: st)) (fun t hr => ?_) g
  exact S.ldc2Long hx hown (mvT hZ w) (g := mkF m pc Ls st) rfl (hb hby hd) t hr
theorem getf (K : Cx own code mL ret mn n0 Z p l e R s m args below meth c) (S : St n0 p l e R s m args below meth c k n h T) {i : Nat} {O fn d : String} (w : (Jvm.Cond.fieldLink own i O fn d).before a0 Z = true) (F : Fld Z h a O fn d v) (hd : Dc code pc (.getfield i) 3 q) (g : ∀ T, St n0 p l e R s m args below meth c k n h T → Wp n0 p e R s below Q T (mkF m q Ls (v :: st))) : Wp n0 p e R s below Q T (mkF m pc Ls (.ref a :: st)) := by
  obtain ⟨hx, hby, -, -, -, hown, hZ, -⟩ := K; obtain ⟨locs, S, e1, N, z⟩ := S; obtain ⟨hd, rfl⟩ := hd
  obtain ⟨T1, S1, e2, st1⟩ := getF S hx hZ hown (host := "") (Or.inl w) Via.refl e1 F (g := mkF m pc Ls (.ref a :: st)) rfl rfl (hb hby hd)
  exact wp_mono st1 (g T1 ⟨locs, S1, e2, N, z⟩)
theorem putf (K : Cx own code mL ret mn n0 Z p l e R s m args below meth c) (S : St n0 p l e R s m args below meth c k n h T) {i kk : Nat} {O fn d C : String} {old : Value} (w : (Jvm.Cond.fieldLink own i O fn d).before a0 Z = true) (F : Fld Z h a O fn d old) (E : Exa Z h a C) (L : (Jvm.Cond.lays C O fn d).before a0 Z = true ∨ ((Jvm.Cond.laysFinal C O fn d).before a0 Z = true ∧ own = O ∧ mn = "<init>")) (wi : (Jvm.Cond.instantiable C kk).before a0 Z = true) (hty : parseFieldDescriptor d = some ty) (hn : narrow ty v = v) (hf : fits ty v = true) (ha : n0 ≤ a) (hd : Dc code pc (.putfield i) 3 q) (g : ∀ T h', Wr h h' a (Jvm.RoadKit.slotOf Z O fn d) v → St n0 p l e R s m args below meth c k n h' T → Wp n0 p e R s below Q T (mkF m q Ls st)) : Wp n0 p e R s below Q T (mkF m pc Ls (v :: .ref a :: st)) := by
  obtain ⟨hx, hby, -, -, -, hown, hZ, hmn⟩ := K; obtain ⟨locs, S, e1, N, z⟩ := S; obtain ⟨hd, rfl⟩ := hd
  obtain ⟨T1, h1, S1, e2, W1, st1⟩ := putF S hx hZ hown (host := "") (Or.inl w) Via.refl e1 F E (L.imp id fun q => ⟨q.1, q.2.1, hmn.trans q.2.2⟩) wi hty hn hf (g := mkF m pc Ls (v :: .ref a :: st)) rfl rfl (hb hby hd)
  exact wp_mono st1 (g T1 h1 W1 ⟨_, S1, e2, Fr.snoc S1 N ha, by rw [W1.size]; exact z⟩)
theorem new (K : Cx own code mL ret mn n0 Z p l e R s m args below meth c) (S : St n0 p l e R s m args below meth c k n h T) {i nn : Nat} {C : String} (w : (Jvm.Cond.classLink own i C).before a0 Z = true) (wi : (Jvm.Cond.instantiable C nn).before a0 Z = true) (wz : (Jvm.Cond.initialized C).before a0 Z = true) (hc : k + 1 ≤ R.cells) (hl : n + nn ≤ R.slots) (hd : Dc code pc (.new i) 3 q) (g : ∀ T h' a, a = h.size → n0 ≤ a → Ext h h' → Exa Z h' a C → (∀ {O nm d : String} {ty : FieldType}, Laid Z a0 C O nm d → parseFieldDescriptor d = some ty → Fld Z h' a O nm d (defaultValue ty)) → St n0 p l e R s m args below meth c (k + 1) (n + nn) h' T → Wp n0 p e R s below Q T (mkF m q Ls (.ref a :: st))) : Wp n0 p e R s below Q T (mkF m pc Ls st) := by
  obtain ⟨hx, hby, -, -, -, hown, hZ, hmn⟩ := K; obtain ⟨locs, S, e1, N, z⟩ := S; obtain ⟨hd, rfl⟩ := hd
  obtain ⟨T1, h1, S1, e2, E1, A1, D1, -, st1⟩ := newO S hx hZ hown w wi wz e1 (g := mkF m pc Ls st) rfl (hb hby hd) hc hl
  exact wp_mono st1 (g T1 h1 h.size rfl z E1 A1 D1 ⟨_, S1, e2, N, Nat.le_trans z E1.1⟩)
theorem newarr (K : Cx own code mL ret mn n0 Z p l e R s m args below meth c) (S : St n0 p l e R s m args below meth c k n h T) {aty : ArrayType} {cap : Nat} (w : (Jvm.Cond.arrayClass (newarray.typeOf aty)).before a0 Z = true) (hn : ¬ x < 0) (hcap : x.toNatClampNeg ≤ cap) (hb' : cap * 8 ≤ 536870912) (hc : k + 1 ≤ R.cells) (hl : n + cap ≤ R.slots) (hd : Dc code pc (.newarray aty) 2 q) (g : ∀ T h' a, a = h.size → n0 ≤ a → Ext h h' → VA Z h' a (newarray.typeOf aty) (List.replicate x.toNatClampNeg (defaultValue (newarray.typeOf aty))) → St n0 p l e R s m args below meth c (k + 1) (n + cap) h' T → Wp n0 p e R s below Q T (mkF m q Ls (.ref a :: st))) : Wp n0 p e R s below Q T (mkF m pc Ls (.int x :: st)) := by
  obtain ⟨hx, hby, -, -, -, hown, hZ, hmn⟩ := K; obtain ⟨locs, S, e1, N, z⟩ := S; obtain ⟨hd, rfl⟩ := hd
  obtain ⟨T1, h1, cA, S1, e2, E1, A1, st1⟩ := newP S hx hZ w e1 (g := mkF m pc Ls (.int x :: st)) rfl (hb hby hd) rfl hn hcap hb' hc hl
  exact wp_mono st1 (g T1 h1 h.size rfl z E1 ⟨_, A1, by simp [newA]⟩ ⟨_, S1, e2, N, Nat.le_trans z E1.1⟩)
theorem inito (K : Cx own code mL ret mn n0 Z p l e R s m args below meth c) (S : St n0 p l e R s m args below meth c k n h T) {i W : Nat} (w1 : (Jvm.Cond.methodLink own i Lib.objectInit).before a0 Z = true) (w2 : (Jvm.Cond.instanceMethod Lib.objectInit).before a0 Z = true) (w3 : (Jvm.Cond.code Lib.objectInit ⟨#[0xb1]⟩ 1 none).before a0 Z = true) (hsz : Ls.size = mL) (hf : 1 ≤ R.frames) (hW : (st.map fun v => v.category).sum ≤ W) (hl : W + 12 ≤ R.locals) (hd : Dc code pc (.invokespecial i) 3 q) (g : ∀ T, St n0 p l e R s m args below meth c k n h T → Wp n0 p e R s below Q T (mkF m q Ls st)) : Wp n0 p e R s below Q T (mkF m pc Ls (.ref a :: st)) := by
  obtain ⟨hx, hby, hml, -, -, hown, hZ, hmn⟩ := K; obtain ⟨locs, S, e1, N, z⟩ := S; obtain ⟨hd, rfl⟩ := hd
  obtain ⟨T1, S1, e2, st1⟩ := initO S hx hZ hown w1 w2 w3 e1 (g := mkF m pc Ls (.ref a :: st)) rfl (by rw [hml]; exact hsz) rfl (hb hby hd) hf (W := W) (by show 2 * 0 + _ ≤ _; omega) hl
  exact wp_mono st1 (g T1 ⟨_, S1, e2, N, z⟩)
theorem iaload (K : Cx own code mL ret mn n0 Z p l e R s m args below meth c) (S : St n0 p l e R s m args below meth c k n h T) {i : Nat} (A : VA Z h a .int vs) (hi : Ix x i) (hv : vs[i]? = some v) (hd : Dc code pc .iaload 1 q) (g : Wp n0 p e R s below Q T (mkF m q Ls (v :: st))) : Wp n0 p e R s below Q T (mkF m pc Ls (.int x :: .ref a :: st)) := by
  obtain ⟨hx, hby, -, -, -, hown, hZ, -⟩ := K; obtain ⟨locs, S, e1, N, z⟩ := S; obtain ⟨hd, rfl⟩ := hd; obtain ⟨cl, A, hs⟩ := A; obtain ⟨hi0, rfl⟩ := hi
  have hlt : x.toNatClampNeg < vs.length := (List.getElem?_eq_some_iff.mp hv).1
  exact wp_mono (fun t hr => S.iaload hx (by rw [e1]; exact A.1) (State.isArrayOf_alike hZ.alike A.2.1) A.2.2 (by rw [hs]; simp; exact ⟨Int32.not_lt.mp hi0, hlt⟩) (by rw [hs]; simpa using hv) (g := mkF m pc Ls (.int x :: .ref a :: st)) rfl rfl (hb hby hd) t hr) g
theorem laload (K : Cx own code mL ret mn n0 Z p l e R s m args below meth c) (S : St n0 p l e R s m args below meth c k n h T) {i : Nat} (A : VA Z h a .long vs) (hi : Ix x i) (hv : vs[i]? = some v) (hd : Dc code pc .laload 1 q) (g : Wp n0 p e R s below Q T (mkF m q Ls (v :: st))) : Wp n0 p e R s below Q T (mkF m pc Ls (.int x :: .ref a :: st)) := by
  obtain ⟨hx, hby, -, -, -, hown, hZ, -⟩ := K; obtain ⟨locs, S, e1, N, z⟩ := S; obtain ⟨hd, rfl⟩ := hd; obtain ⟨cl, A, hs⟩ := A; obtain ⟨hi0, rfl⟩ := hi
  have hlt : x.toNatClampNeg < vs.length := (List.getElem?_eq_some_iff.mp hv).1
  exact wp_mono (fun t hr => S.laload hx (by rw [e1]; exact A.1) (State.isArrayOf_alike hZ.alike A.2.1) A.2.2 (by rw [hs]; simp; exact ⟨Int32.not_lt.mp hi0, hlt⟩) (by rw [hs]; simpa using hv) (g := mkF m pc Ls (.int x :: .ref a :: st)) rfl rfl (hb hby hd) t hr) g
theorem caload (K : Cx own code mL ret mn n0 Z p l e R s m args below meth c) (S : St n0 p l e R s m args below meth c k n h T) {i : Nat} (A : VA Z h a .char vs) (hi : Ix x i) (hv : vs[i]? = some v) (hd : Dc code pc .caload 1 q) (g : Wp n0 p e R s below Q T (mkF m q Ls (v :: st))) : Wp n0 p e R s below Q T (mkF m pc Ls (.int x :: .ref a :: st)) := by
  obtain ⟨hx, hby, -, -, -, hown, hZ, -⟩ := K; obtain ⟨locs, S, e1, N, z⟩ := S; obtain ⟨hd, rfl⟩ := hd; obtain ⟨cl, A, hs⟩ := A; obtain ⟨hi0, rfl⟩ := hi
  have hlt : x.toNatClampNeg < vs.length := (List.getElem?_eq_some_iff.mp hv).1
  exact wp_mono (fun t hr => S.caload hx (by rw [e1]; exact A.1) (State.isArrayOf_alike hZ.alike A.2.1) A.2.2 (by rw [hs]; simp; exact ⟨Int32.not_lt.mp hi0, hlt⟩) (by rw [hs]; simpa using hv) (g := mkF m pc Ls (.int x :: .ref a :: st)) rfl rfl (hb hby hd) t hr) g
theorem baload (K : Cx own code mL ret mn n0 Z p l e R s m args below meth c) (S : St n0 p l e R s m args below meth c k n h T) {i : Nat} (A : VA Z h a .byte vs) (hi : Ix x i) (hv : vs[i]? = some v) (hd : Dc code pc .baload 1 q) (g : Wp n0 p e R s below Q T (mkF m q Ls (v :: st))) : Wp n0 p e R s below Q T (mkF m pc Ls (.int x :: .ref a :: st)) := by
  obtain ⟨hx, hby, -, -, -, hown, hZ, -⟩ := K; obtain ⟨locs, S, e1, N, z⟩ := S; obtain ⟨hd, rfl⟩ := hd; obtain ⟨cl, A, hs⟩ := A; obtain ⟨hi0, rfl⟩ := hi
  have hlt : x.toNatClampNeg < vs.length := (List.getElem?_eq_some_iff.mp hv).1
  exact wp_mono (fun t hr => S.baloadBytes hx (by rw [e1]; exact A.1) (State.isArrayOf_alike hZ.alike A.2.1) A.2.2 (by rw [hs]; simp; exact ⟨Int32.not_lt.mp hi0, hlt⟩) (by rw [hs]; simpa using hv) (g := mkF m pc Ls (.int x :: .ref a :: st)) rfl rfl (hb hby hd) t hr) g
theorem iastore (K : Cx own code mL ret mn n0 Z p l e R s m args below meth c) (S : St n0 p l e R s m args below meth c k n h T) {i : Nat} (A : VA Z h a .int vs) (hi : Ix x i) (hlt : i < vs.length) (ha : n0 ≤ a) (hd : Dc code pc .iastore 1 q) (g : ∀ T h', Wr h h' a i (.int y) → VA Z h' a .int (vs.set i (.int y)) → St n0 p l e R s m args below meth c k n h' T → Wp n0 p e R s below Q T (mkF m q Ls st)) : Wp n0 p e R s below Q T (mkF m pc Ls (.int y :: .int x :: .ref a :: st)) := by
  obtain ⟨hx, hby, -, -, -, hown, hZ, -⟩ := K; obtain ⟨locs, S, e1, N, z⟩ := S; obtain ⟨hd, rfl⟩ := hd; have A0 := A; obtain ⟨cl, A, hs⟩ := A; obtain ⟨hi0, rfl⟩ := hi
  obtain ⟨T1, h1, S1, e2, W1, st1⟩ := stI S hx hZ e1 A (by rw [hs]; simp; exact ⟨Int32.not_lt.mp hi0, hlt⟩) (g := mkF m pc Ls (.int y :: .int x :: .ref a :: st)) rfl rfl (hb hby hd)
  exact wp_mono st1 (g T1 h1 W1 (A0.wr W1) ⟨_, S1, e2, Fr.snoc S1 N ha, by rw [W1.size]; exact z⟩)
theorem lastore (K : Cx own code mL ret mn n0 Z p l e R s m args below meth c) (S : St n0 p l e R s m args below meth c k n h T) {i : Nat} (A : VA Z h a .long vs) (hi : Ix x i) (hlt : i < vs.length) (ha : n0 ≤ a) (hd : Dc code pc .lastore 1 q) (g : ∀ T h', Wr h h' a i (.long X) → VA Z h' a .long (vs.set i (.long X)) → St n0 p l e R s m args below meth c k n h' T → Wp n0 p e R s below Q T (mkF m q Ls st)) : Wp n0 p e R s below Q T (mkF m pc Ls (.long X :: .int x :: .ref a :: st)) := by
  obtain ⟨hx, hby, -, -, -, hown, hZ, -⟩ := K; obtain ⟨locs, S, e1, N, z⟩ := S; obtain ⟨hd, rfl⟩ := hd; have A0 := A; obtain ⟨cl, A, hs⟩ := A; obtain ⟨hi0, rfl⟩ := hi
  obtain ⟨T1, h1, S1, e2, W1, st1⟩ := stJ S hx hZ e1 A (by rw [hs]; simp; exact ⟨Int32.not_lt.mp hi0, hlt⟩) (g := mkF m pc Ls (.long X :: .int x :: .ref a :: st)) rfl rfl (hb hby hd)
  exact wp_mono st1 (g T1 h1 W1 (A0.wr W1) ⟨_, S1, e2, Fr.snoc S1 N ha, by rw [W1.size]; exact z⟩)
theorem castore (K : Cx own code mL ret mn n0 Z p l e R s m args below meth c) (S : St n0 p l e R s m args below meth c k n h T) {i : Nat} (A : VA Z h a .char vs) (hi : Ix x i) (hlt : i < vs.length) (ha : n0 ≤ a) (hd : Dc code pc .castore 1 q) (g : ∀ T h', Wr h h' a i (.int (nar .char y)) → VA Z h' a .char (vs.set i (.int (nar .char y))) → St n0 p l e R s m args below meth c k n h' T → Wp n0 p e R s below Q T (mkF m q Ls st)) : Wp n0 p e R s below Q T (mkF m pc Ls (.int y :: .int x :: .ref a :: st)) := by
  obtain ⟨hx, hby, -, -, -, hown, hZ, -⟩ := K; obtain ⟨locs, S, e1, N, z⟩ := S; obtain ⟨hd, rfl⟩ := hd; have A0 := A; obtain ⟨cl, A, hs⟩ := A; obtain ⟨hi0, rfl⟩ := hi
  obtain ⟨T1, h1, S1, e2, W1, st1⟩ := stC S hx hZ e1 A (by rw [hs]; simp; exact ⟨Int32.not_lt.mp hi0, hlt⟩) (g := mkF m pc Ls (.int y :: .int x :: .ref a :: st)) rfl rfl (hb hby hd)
  exact wp_mono st1 (g T1 h1 W1 (A0.wr W1) ⟨_, S1, e2, Fr.snoc S1 N ha, by rw [W1.size]; exact z⟩)
theorem bastore (K : Cx own code mL ret mn n0 Z p l e R s m args below meth c) (S : St n0 p l e R s m args below meth c k n h T) {i : Nat} (A : VA Z h a .byte vs) (hi : Ix x i) (hlt : i < vs.length) (ha : n0 ≤ a) (hd : Dc code pc .bastore 1 q) (g : ∀ T h', Wr h h' a i (.int (nar .byte y)) → VA Z h' a .byte (vs.set i (.int (nar .byte y))) → St n0 p l e R s m args below meth c k n h' T → Wp n0 p e R s below Q T (mkF m q Ls st)) : Wp n0 p e R s below Q T (mkF m pc Ls (.int y :: .int x :: .ref a :: st)) := by
  obtain ⟨hx, hby, -, -, -, hown, hZ, -⟩ := K; obtain ⟨locs, S, e1, N, z⟩ := S; obtain ⟨hd, rfl⟩ := hd; have A0 := A; obtain ⟨cl, A, hs⟩ := A; obtain ⟨hi0, rfl⟩ := hi
  obtain ⟨T1, h1, S1, e2, W1, st1⟩ := stB S hx hZ e1 A (by rw [hs]; simp; exact ⟨Int32.not_lt.mp hi0, hlt⟩) (g := mkF m pc Ls (.int y :: .int x :: .ref a :: st)) rfl rfl (hb hby hd)
  exact wp_mono st1 (g T1 h1 W1 (A0.wr W1) ⟨_, S1, e2, Fr.snoc S1 N ha, by rw [W1.size]; exact z⟩)
theorem alen (K : Cx own code mL ret mn n0 Z p l e R s m args below meth c) (S : St n0 p l e R s m args below meth c k n h T) (A : VA Z h a ty vs) (hx' : vs.length.toInt32 = x) (hd : Dc code pc .arraylength 1 q) (g : Wp n0 p e R s below Q T (mkF m q Ls (.int x :: st))) : Wp n0 p e R s below Q T (mkF m pc Ls (.ref a :: st)) := by
  obtain ⟨hx, hby, -, -, -, hown, hZ, -⟩ := K; obtain ⟨locs, S, e1, N, z⟩ := S; obtain ⟨hd, rfl⟩ := hd; obtain ⟨cl, A, hs⟩ := A
  refine wp_mono (fun t hr => S.arraylength hx (by rw [e1]; exact A.1) (State.isArrayOf_alike hZ.alike A.2.1) (g := mkF m pc Ls (.ref a :: st)) rfl rfl (hb hby hd) t hr) (T' := T) (g' := mkF m (pc + 1) Ls (.int cl.slots.size.toInt32 :: st)) ?_
  rw [hs]; simpa [hx'] using g
theorem retn (K : Cx own code mL (some ty) mn n0 Z p l e R s m args below meth c) (S : St n0 p l e R s m args below meth c k n h T) (ht : ty = .boolean ∨ ty = .byte ∨ ty = .char ∨ ty = .short) (hz : nar ty x = y) (hk : k ≤ R.cells) (hn : n ≤ R.slots) (hd : Dc code pc .ireturn 1 q) (hQ : Q (some (.int y)) h) : Wp n0 p e R s below Q T (mkF m pc Ls (.int x :: st)) := by
  obtain ⟨hx, hby, -, hret, hlk, -⟩ := K; obtain ⟨locs, S, e1, N, z⟩ := S; obtain ⟨hd, -⟩ := hd
  obtain ⟨fs, hr, hrun, hended, hW, hsame⟩ := S.leave (v := some (.int y)) (fun h => by rw [hret] at h; cases h) hlk
  refine ⟨_, _, retN S hx hret ht (hb hby hd) (by rw [hz]; exact hr), hrun, hended, _, _, rfl, ⟨?_, ?_, N⟩, ⟨_, rfl⟩, hW, hsame.mono hk hn⟩
  · show Q _ T.heap; rw [e1]; exact hQ
  · show n0 ≤ T.heap.size; rw [e1]; exact z
theorem reti (K : Cx own code mL (some .int) mn n0 Z p l e R s m args below meth c) (S : St n0 p l e R s m args below meth c k n h T) (hk : k ≤ R.cells) (hn : n ≤ R.slots) (hd : Dc code pc .ireturn 1 q) (hQ : Q (some (.int x)) h) : Wp n0 p e R s below Q T (mkF m pc Ls (.int x :: st)) := by
  obtain ⟨hx, hby, -, hret, hlk, -⟩ := K; obtain ⟨locs, S, e1, N, z⟩ := S; obtain ⟨hd, -⟩ := hd
  obtain ⟨fs, hr, hrun, hended, hW, hsame⟩ := S.leave (v := some (.int x)) (fun h => by rw [hret] at h; cases h) hlk
  refine ⟨_, _, retOut S hx hret rfl (Or.inl ⟨rfl, Or.inl rfl, _, rfl⟩) (hb hby hd) hr, hrun, hended, _, _, rfl, ⟨?_, ?_, N⟩, ⟨_, rfl⟩, hW, hsame.mono hk hn⟩
  · show Q _ T.heap; rw [e1]; exact hQ
  · show n0 ≤ T.heap.size; rw [e1]; exact z
theorem retl (K : Cx own code mL (some .long) mn n0 Z p l e R s m args below meth c) (S : St n0 p l e R s m args below meth c k n h T) (hk : k ≤ R.cells) (hn : n ≤ R.slots) (hd : Dc code pc .lreturn 1 q) (hQ : Q (some (.long X)) h) : Wp n0 p e R s below Q T (mkF m pc Ls (.long X :: st)) := by
  obtain ⟨hx, hby, -, hret, hlk, -⟩ := K; obtain ⟨locs, S, e1, N, z⟩ := S; obtain ⟨hd, -⟩ := hd
  obtain ⟨fs, hr, hrun, hended, hW, hsame⟩ := S.leave (v := some (.long X)) (fun h => by rw [hret] at h; cases h) hlk
  refine ⟨_, _, retOut S hx hret rfl (Or.inr (Or.inl ⟨rfl, rfl, _, rfl⟩)) (hb hby hd) hr, hrun, hended, _, _, rfl, ⟨?_, ?_, N⟩, ⟨_, rfl⟩, hW, hsame.mono hk hn⟩
  · show Q _ T.heap; rw [e1]; exact hQ
  · show n0 ≤ T.heap.size; rw [e1]; exact z
theorem reta (K : Cx own code mL (some ty) mn n0 Z p l e R s m args below meth c) (S : St n0 p l e R s m args below meth c k n h T) (hrf : ty.isReference = true) (hnr : narrow ty (.ref a) = .ref a) (hk : k ≤ R.cells) (hn : n ≤ R.slots) (hd : Dc code pc .areturn 1 q) (hQ : Q (some (.ref a)) h) : Wp n0 p e R s below Q T (mkF m pc Ls (.ref a :: st)) := by
  obtain ⟨hx, hby, -, hret, hlk, -⟩ := K; obtain ⟨locs, S, e1, N, z⟩ := S; obtain ⟨hd, -⟩ := hd
  obtain ⟨fs, hr, hrun, hended, hW, hsame⟩ := S.leave (v := some (.ref a)) (fun h => by rw [hret] at h; cases h) hlk
  refine ⟨_, _, retOut S hx hret hnr (Or.inr (Or.inr (Or.inr (Or.inr ⟨rfl, hrf, rfl⟩)))) (hb hby hd) hr, hrun, hended, _, _, rfl, ⟨?_, ?_, N⟩, ⟨_, rfl⟩, hW, hsame.mono hk hn⟩
  · show Q _ T.heap; rw [e1]; exact hQ
  · show n0 ≤ T.heap.size; rw [e1]; exact z
theorem retv (K : Cx own code mL (none) mn n0 Z p l e R s m args below meth c) (S : St n0 p l e R s m args below meth c k n h T) (hk : k ≤ R.cells) (hn : n ≤ R.slots) (hd : Dc code pc .return_ 1 q) (hQ : Q (none) h) : Wp n0 p e R s below Q T (mkF m pc Ls ([])) := by
  obtain ⟨hx, hby, -, hret, hlk, -⟩ := K; obtain ⟨locs, S, e1, N, z⟩ := S; obtain ⟨hd, -⟩ := hd
  obtain ⟨fs, hr, hrun, hended, hW, hsame⟩ := S.leave (v := none) (fun _ => rfl) hlk
  refine ⟨_, _, S.returnOut hx hret (hb hby hd) hr, hrun, hended, _, _, rfl, ⟨?_, ?_, N⟩, ⟨_, rfl⟩, hW, hsame.mono hk hn⟩
  · show Q _ T.heap; rw [e1]; exact hQ
  · show n0 ≤ T.heap.size; rw [e1]; exact z
theorem callS (K : Cx own code mL ret mn n0 Z p l e R s m args below meth c) (S : St n0 p l e R s m args below meth c k n h T) {i mL' W : Nat} {y : MethodName} {bytes : ByteArray} {ret' : Option FieldType} {rm : Room} {as' : Array Value} {Q' : Option Value → Heap → Prop} {argsL : List Value} (M : Met n0 l Z y bytes mL' ret' rm [] as' h Q') (w1 : (Jvm.Cond.methodLink own i y).before a0 Z = true) (w2 : (Jvm.Cond.static y).before a0 Z = true) (w4 : (Jvm.Cond.code y bytes mL' ret').before a0 Z = true) (w5 : (Jvm.Cond.initialized y.cls).before a0 Z = true) (hy : y.cls ≠ "java/lang/invoke/MethodHandle" ∧ y.cls ≠ "java/lang/invoke/VarHandle") (hfr : rm.frames + 1 ≤ R.frames) (hlo : W + (mL' + 11) + rm.locals ≤ R.locals) (hce : k + rm.cells ≤ R.cells) (hsl : n + rm.slots ≤ R.slots) (hsz : Ls.size = mL) (has : (argsL).toArray = as') (hlen : ∀ sig, parseMethodDescriptor y.desc = some sig → argsL.length = sig.parameters.length) (hst : st = argsL.reverse ++ rest) (hW : (rest.map fun v => v.category).sum ≤ W) (hd : Dc code pc (.invokestatic i) 3 q) (g : ∀ T v h', Q' v h' → St n0 p l e R s m args below meth c (k + rm.cells) (n + rm.slots) h' T → Wp n0 p e R s below Q T (mkF m q Ls (v.toList ++ rest))) : Wp n0 p e R s below Q T (mkF m pc Ls st) := by
  obtain ⟨hx, hby, hml, -, -, hown, hZ, hmn⟩ := K; obtain ⟨locs, S, e1, N, z⟩ := S; obtain ⟨hd, rfl⟩ := hd; subst hst has
  obtain ⟨v1, _, ⟨T1, L1, k1, n1⟩, -, S1, ⟨Lc1, hQ1, l1, y1, z1⟩, st1⟩ := Jvm.LawKit.callS S hx (y := y) hown (mvT hZ w1) (mvT hZ w2) (mvT hZ w5) (mvT hZ w4) hy (backOf (W := W) (Q := fun v h L => Q' v h ∧ n0 ≤ h.size ∧ Fr n0 L) M hZ w4 w5 hfr hlo) (g := mkF m pc Ls (argsL.reverse ++ rest)) rfl (by rw [hml]; exact hsz) (argsL := argsL) (rest := rest) hlen rfl (by show 2 * 0 + _ ≤ _; omega) (hb hby hd) (fun _ _ => ⟨rfl, e1, hce, hsl⟩)
  dsimp only [Pt.U, Pt.locs, Pt.cells, Pt.slots] at S1 l1 y1 z1 st1 hQ1
  subst l1 y1 z1
  exact wp_mono st1 (g T1 v1 T1.heap hQ1.1 ⟨_, S1, rfl, Fr.app N hQ1.2.2, hQ1.2.1⟩)
theorem callC (K : Cx own code mL ret mn n0 Z p l e R s m args below meth c) (S : St n0 p l e R s m args below meth c k n h T) {i mL' W : Nat} {y : MethodName} {bytes : ByteArray} {ret' : Option FieldType} {rm : Room} {as' : Array Value} {Q' : Option Value → Heap → Prop} {argsL : List Value} (M : Met n0 l Z y bytes mL' ret' rm [] as' h Q') (hin : y.name = "<init>") (hr0 : ret' = none) (w1 : (Jvm.Cond.methodLink own i y).before a0 Z = true) (w2 : (Jvm.Cond.instanceMethod y).before a0 Z = true) (w4 : (Jvm.Cond.code y bytes mL' ret').before a0 Z = true) (w5 : (Jvm.Cond.initialized y.cls).before a0 Z = true) (hy : y.cls ≠ "java/lang/invoke/MethodHandle" ∧ y.cls ≠ "java/lang/invoke/VarHandle") (hfr : rm.frames + 1 ≤ R.frames) (hlo : W + (mL' + 11) + rm.locals ≤ R.locals) (hce : k + rm.cells ≤ R.cells) (hsl : n + rm.slots ≤ R.slots) (hsz : Ls.size = mL) (has : (.ref a :: argsL).toArray = as') (hlen : ∀ sig, parseMethodDescriptor y.desc = some sig → argsL.length = sig.parameters.length) (hst : st = argsL.reverse ++ .ref a :: rest) (hW : (rest.map fun v => v.category).sum ≤ W) (hd : Dc code pc (.invokespecial i) 3 q) (g : ∀ T v h', Q' v h' → St n0 p l e R s m args below meth c (k + rm.cells) (n + rm.slots) h' T → Wp n0 p e R s below Q T (mkF m q Ls (v.toList ++ rest))) : Wp n0 p e R s below Q T (mkF m pc Ls st) := by
  obtain ⟨hx, hby, hml, -, -, hown, hZ, hmn⟩ := K; obtain ⟨locs, S, e1, N, z⟩ := S; obtain ⟨hd, rfl⟩ := hd; subst hst has
  subst hr0
  obtain ⟨v1, _, ⟨T1, L1, k1, n1⟩, -, S1, ⟨Lc1, hQ1, l1, y1, z1⟩, st1⟩ := S.specialBack hx (y := y) hin hown (mvT hZ w1) (mvT hZ w2) (mvT hZ w4) hy (backOf (W := W) (Q := fun v h L => Q' v h ∧ n0 ≤ h.size ∧ Fr n0 L) M hZ w4 w5 hfr hlo) (g := mkF m pc Ls (argsL.reverse ++ .ref a :: rest)) rfl (by rw [hml]; exact hsz) (Steps.refl _) (a := a) (argsL := argsL) (rest := rest) hlen rfl (by show 2 * 0 + _ ≤ _; omega) (hb hby hd) (fun _ _ => ⟨rfl, e1, hce, hsl⟩)
  dsimp only [Pt.U, Pt.locs, Pt.cells, Pt.slots] at S1 l1 y1 z1 st1 hQ1
  subst l1 y1 z1
  exact wp_mono (fun t hr => st1.trans hr) (g T1 v1 T1.heap hQ1.1 ⟨_, S1, rfl, Fr.app N hQ1.2.2, hQ1.2.1⟩)
theorem callV (K : Cx own code mL ret mn n0 Z p l e R s m args below meth c) (S : St n0 p l e R s m args below meth c k n h T) {i mL' W : Nat} {y : MethodName} {bytes : ByteArray} {ret' : Option FieldType} {rm : Room} {as' : Array Value} {Q' : Option Value → Heap → Prop} {argsL : List Value} (M : Met n0 l Z y bytes mL' ret' rm [] as' h Q') (E : Exa Z h a y.cls) (w1 : (Jvm.Cond.methodLink own i y).before a0 Z = true) (w2 : (Jvm.Cond.declares y).before a0 Z = true) (w3 : (Jvm.Cond.selects y.cls y y).before a0 Z = true) (w6 : (Jvm.Cond.instanceMethod y).before a0 Z = true) (w4 : (Jvm.Cond.code y bytes mL' ret').before a0 Z = true) (w5 : (Jvm.Cond.initialized y.cls).before a0 Z = true) (hy : y.cls ≠ "java/lang/invoke/MethodHandle" ∧ y.cls ≠ "java/lang/invoke/VarHandle") (hfr : rm.frames + 1 ≤ R.frames) (hlo : W + (mL' + 11) + rm.locals ≤ R.locals) (hce : k + rm.cells ≤ R.cells) (hsl : n + rm.slots ≤ R.slots) (hsz : Ls.size = mL) (has : (.ref a :: argsL).toArray = as') (hlen : ∀ sig, parseMethodDescriptor y.desc = some sig → argsL.length = sig.parameters.length) (hst : st = argsL.reverse ++ .ref a :: rest) (hW : (rest.map fun v => v.category).sum ≤ W) (hd : Dc code pc (.invokevirtual i) 3 q) (g : ∀ T v h', Q' v h' → St n0 p l e R s m args below meth c (k + rm.cells) (n + rm.slots) h' T → Wp n0 p e R s below Q T (mkF m q Ls (v.toList ++ rest))) : Wp n0 p e R s below Q T (mkF m pc Ls st) := by
  obtain ⟨hx, hby, hml, -, -, hown, hZ, hmn⟩ := K; obtain ⟨locs, S, e1, N, z⟩ := S; obtain ⟨hd, rfl⟩ := hd; subst hst has
  obtain ⟨cq, kq, qa, qb, qc⟩ := isOf hZ e1 E
  obtain ⟨v1, _, ⟨T1, L1, k1, n1⟩, -, S1, ⟨Lc1, hQ1, l1, y1, z1⟩, st1⟩ := S.virtualBack hx (y := y) (z := y) hown (mvT hZ w1) (mvT hZ w2) (notFace_of_selects (args := #[]) (mvT hZ w3)) (mvT hZ w3) (mvT hZ w6) hy (backOf (W := W) (Q := fun v h L => Q' v h ∧ n0 ≤ h.size ∧ Fr n0 L) M hZ w4 w5 hfr hlo) qa qc (g := mkF m pc Ls (argsL.reverse ++ .ref a :: rest)) rfl (by rw [hml]; exact hsz) (Steps.refl _) (argsL := argsL) (rest := rest) hlen rfl (by show 2 * 0 + _ ≤ _; omega) (hb hby hd) (fun _ _ => ⟨rfl, e1, hce, hsl⟩)
  dsimp only [Pt.U, Pt.locs, Pt.cells, Pt.slots] at S1 l1 y1 z1 st1 hQ1
  subst l1 y1 z1
  exact wp_mono (fun t hr => st1.trans hr) (g T1 v1 T1.heap hQ1.1 ⟨_, S1, rfl, Fr.app N hQ1.2.2, hQ1.2.1⟩)
theorem callP (K : Cx own code mL ret mn n0 Z p l e R s m args below meth c) (S : St n0 p l e R s m args below meth c k n h T) {i mL' W : Nat} {y : MethodName} {bytes : ByteArray} {ret' : Option FieldType} {rm : Room} {as' : Array Value} {Q' : Option Value → Heap → Prop} {argsL : List Value} (M : Met n0 l Z y bytes mL' ret' rm [] as' h Q') (E : Exa Z h a y.cls) {y2 : MethodName} (hy2 : y2.cls = y.cls) (w1 : (Jvm.Cond.methodLink own i y).before a0 Z = true) (w2 : (Jvm.Cond.privateMethod y).before a0 Z = true) (w3 : (Jvm.Cond.selects y.cls y2 y2).before a0 Z = true) (w6 : (Jvm.Cond.instanceMethod y).before a0 Z = true) (w4 : (Jvm.Cond.code y bytes mL' ret').before a0 Z = true) (w5 : (Jvm.Cond.initialized y.cls).before a0 Z = true) (hy : y.cls ≠ "java/lang/invoke/MethodHandle" ∧ y.cls ≠ "java/lang/invoke/VarHandle") (hfr : rm.frames + 1 ≤ R.frames) (hlo : W + (mL' + 11) + rm.locals ≤ R.locals) (hce : k + rm.cells ≤ R.cells) (hsl : n + rm.slots ≤ R.slots) (hsz : Ls.size = mL) (has : (.ref a :: argsL).toArray = as') (hlen : ∀ sig, parseMethodDescriptor y.desc = some sig → argsL.length = sig.parameters.length) (hst : st = argsL.reverse ++ .ref a :: rest) (hW : (rest.map fun v => v.category).sum ≤ W) (hd : Dc code pc (.invokevirtual i) 3 q) (g : ∀ T v h', Q' v h' → St n0 p l e R s m args below meth c (k + rm.cells) (n + rm.slots) h' T → Wp n0 p e R s below Q T (mkF m q Ls (v.toList ++ rest))) : Wp n0 p e R s below Q T (mkF m pc Ls st) := by
  obtain ⟨hx, hby, hml, -, -, hown, hZ, hmn⟩ := K; obtain ⟨locs, S, e1, N, z⟩ := S; obtain ⟨hd, rfl⟩ := hd; subst hst has
  obtain ⟨cq, q1, q2⟩ := E.cell
  have w3' : (Jvm.Cond.selects y.cls y2 y2).before (args := #[]) s = true := mvT hZ w3
  have wp' := Cond.privateMethod_at (mvP hZ w2 (args := #[]))
  have w6' : (Jvm.Cond.instanceMethod y).before args s = true := mvT hZ w6
  obtain ⟨c1, r1, m1, f1, f2, f3, f4, k2, f5, f6⟩ := Cond.selects_spec w3'
  have f7 : s.vm.findClass y.cls = some m1.cls := by rw [← hy2]; exact findClass_of_methodNamed f3
  have hsel : (Jvm.Cond.selects y.cls y y).before args s = true := Stand.selects_self_of_private f7 f5 f6 wp' w6' hy
  obtain ⟨v1, _, ⟨T1, L1, k1, n1⟩, -, S1, ⟨Lc1, hQ1, l1, y1, z1⟩, st1⟩ := S.privateBack hx (y := y) hown (mvT hZ w1) w6' hsel wp' (mvT hZ w4) hy (backOf (W := W) (Q := fun v h L => Q' v h ∧ n0 ≤ h.size ∧ Fr n0 L) M hZ w4 w5 hfr hlo) (g := mkF m pc Ls (argsL.reverse ++ .ref a :: rest)) rfl (by rw [hml]; exact hsz) (Steps.refl _) (a := a) (by rw [e1]; exact q1) q2 (argsL := argsL) (rest := rest) hlen rfl (by show 2 * 0 + _ ≤ _; omega) (hb hby hd) (fun _ _ => ⟨rfl, e1, hce, hsl⟩)
  dsimp only [Pt.U, Pt.locs, Pt.cells, Pt.slots] at S1 l1 y1 z1 st1 hQ1
  subst l1 y1 z1
  exact wp_mono (fun t hr => st1.trans hr) (g T1 v1 T1.heap hQ1.1 ⟨_, S1, rfl, Fr.app N hQ1.2.2, hQ1.2.1⟩)
end Kit
end Jvm.Own
namespace Jvm.Pilot.@@N@@
open Jvm Jvm.ClassFile Sem Op Lib Jvm.Free Jvm.Stand Jvm.LawKit Jvm.RoadKit Bundle Jvm.Pilot.@@N@@.Jvm.D Jvm.Own
theorem hwi {a0 : Array Value} {Z : State} (hw : ∀ d ∈ tables_1, d.before a0 Z = true) (i : Nat) {d : Jvm.Cond} (h : tables_1[i]? = some d) : d.before a0 Z = true := hw _ (List.mem_of_getElem? h)
theorem d1_0 : Dc prog_29_method_1_code 0 (.aload_n 0) 1 1 := ⟨by decide +kernel, rfl⟩
theorem d1_1 : Dc prog_29_method_1_code 1 (.invokespecial 1) 3 4 := ⟨by decide +kernel, rfl⟩
theorem d1_4 : Dc prog_29_method_1_code 4 (.aload_n 0) 1 5 := ⟨by decide +kernel, rfl⟩
theorem d1_5 : Dc prog_29_method_1_code 5 (.lload_n 1) 1 6 := ⟨by decide +kernel, rfl⟩
theorem d1_6 : Dc prog_29_method_1_code 6 (.putfield 7) 3 9 := ⟨by decide +kernel, rfl⟩
theorem d1_9 : Dc prog_29_method_1_code 9 (.return_) 1 10 := ⟨by decide +kernel, rfl⟩
theorem ef_ini (m : MethodId) (a : Addr) (L : Int64) : entryFrame m #[.ref a, .long L] 3 = mkF m 0 #[.val (.ref a), .val (.long L), .second] [] := by first | (simp [entryFrame, mkF, argsToLocals, Value.category]; done) | rfl
set_option maxRecDepth 65536 in
set_option maxHeartbeats 40000000 in
theorem m_ini (l : Launch) (Z : State) (a0 : Array Value) (hw : ∀ d ∈ tables_1, d.before a0 Z = true) (n0 : Nat) (a : Addr) (L : Int64) (h : Heap) (hn : n0 ≤ h.size) (g_a : n0 ≤ a) (E_a : Exa Z h a "com/example/nine_elms/nineelms/server/FrameRoom") (F_limit_a : Fld Z h a "com/example/nine_elms/nineelms/server/FrameRoom" "limit" "J" (.long 0)) (F_held_a : Fld Z h a "com/example/nine_elms/nineelms/server/FrameRoom" "held" "J" (.long 0)) : Met n0 l Z (⟨"com/example/nine_elms/nineelms/server/FrameRoom", "<init>", "(J)V"⟩ : MethodName) prog_29_method_1_code 3 none ({ frames := 1, cells := 0, slots := 0, locals := 12 } : Room) [] #[.ref a, .long L] h (Ef none (fun h' => Exa Z h' a "com/example/nine_elms/nineelms/server/FrameRoom" ∧ Fld Z h' a "com/example/nine_elms/nineelms/server/FrameRoom" "limit" "J" (.long L) ∧ Fld Z h' a "com/example/nine_elms/nineelms/server/FrameRoom" "held" "J" (.long 0))) := by
  refine enter (plainFor_of_name (by first | (simp [plainName, overriddenIn]; done) | decide +kernel)) (fun m => ef_ini m a L) hn ?_
  intro p e s m below meth c T K S
  refine aload_n K S rfl rfl d1_0 ?_
  refine inito K S (W := 0) (hwi hw 7 rfl) (hwi hw 8 rfl) (hwi hw 9 rfl) rfl (by decide) (by decide) (by decide) d1_1 fun T S => ?_
  refine aload_n K S rfl rfl d1_4 ?_
  refine lload_n K S rfl d1_5 ?_
  refine putf K S (hwi hw 10 rfl) F_limit_a E_a (Or.inr ⟨(hwi hw 11 rfl), rfl, rfl⟩) (hwi hw 2 rfl) (ty := .long) (by decide) rfl rfl g_a d1_6 fun T h6_1 W S => ?_
  replace E_a := E_a.wr W
  replace F_limit_a := F_limit_a.same W
  replace F_held_a := F_held_a.other W (Or.inr (slot_ne (C := "com/example/nine_elms/nineelms/server/FrameRoom") (Or.inl (hwi hw 23 rfl)) (Or.inr (hwi hw 11 rfl)) (by decide) (t := .long) (t' := .long) (by decide) (by decide)))
  clear W
  refine retv K S (by decide) (by decide) d1_9 ?_
  exact ⟨rfl, E_a, F_limit_a, F_held_a⟩

theorem d3_0 : Dc prog_29_method_5_code 0 (.iconst 1) 1 1 := ⟨by decide +kernel, rfl⟩
theorem d3_1 : Dc prog_29_method_5_code 1 (.istore_n 2) 1 2 := ⟨by decide +kernel, rfl⟩
theorem d3_2 : Dc prog_29_method_5_code 2 (.iload_n 1) 1 3 := ⟨by decide +kernel, rfl⟩
theorem d3_3 : Dc prog_29_method_5_code 3 (.sipush 16384) 3 6 := ⟨by decide +kernel, rfl⟩
theorem d3_6 : Bc prog_29_method_5_code 6 (.if_icmp .le 39) (39) 9 45 := ⟨by decide +kernel, rfl, by decide, by decide⟩
theorem d3_9 : Dc prog_29_method_5_code 9 (.iload_n 1) 1 10 := ⟨by decide +kernel, rfl⟩
theorem d3_10 : Dc prog_29_method_5_code 10 (.i2l) 1 11 := ⟨by decide +kernel, rfl⟩
theorem d3_11 : Dc prog_29_method_5_code 11 (.aload_n 0) 1 12 := ⟨by decide +kernel, rfl⟩
theorem d3_12 : Dc prog_29_method_5_code 12 (.getfield 7) 3 15 := ⟨by decide +kernel, rfl⟩
theorem d3_15 : Dc prog_29_method_5_code 15 (.aload_n 0) 1 16 := ⟨by decide +kernel, rfl⟩
theorem d3_16 : Dc prog_29_method_5_code 16 (.getfield 26) 3 19 := ⟨by decide +kernel, rfl⟩
theorem d3_19 : Dc prog_29_method_5_code 19 (.lsub) 1 20 := ⟨by decide +kernel, rfl⟩
theorem d3_20 : Dc prog_29_method_5_code 20 (.lcmp) 1 21 := ⟨by decide +kernel, rfl⟩
theorem d3_21 : Bc prog_29_method_5_code 21 (.ifCond .gt 7) (7) 24 28 := ⟨by decide +kernel, rfl, by decide, by decide⟩
theorem d3_24 : Dc prog_29_method_5_code 24 (.iconst 1) 1 25 := ⟨by decide +kernel, rfl⟩
theorem d3_25 : Bc prog_29_method_5_code 25 (.goto 4) (4) 28 29 := ⟨by decide +kernel, rfl, by decide, by decide⟩
theorem d3_28 : Dc prog_29_method_5_code 28 (.iconst 0) 1 29 := ⟨by decide +kernel, rfl⟩
theorem d3_29 : Dc prog_29_method_5_code 29 (.istore_n 2) 1 30 := ⟨by decide +kernel, rfl⟩
theorem d3_30 : Dc prog_29_method_5_code 30 (.iload_n 2) 1 31 := ⟨by decide +kernel, rfl⟩
theorem d3_31 : Bc prog_29_method_5_code 31 (.ifCond .eq 14) (14) 34 45 := ⟨by decide +kernel, rfl, by decide, by decide⟩
theorem d3_34 : Dc prog_29_method_5_code 34 (.aload_n 0) 1 35 := ⟨by decide +kernel, rfl⟩
theorem d3_35 : Dc prog_29_method_5_code 35 (.dup) 1 36 := ⟨by decide +kernel, rfl⟩
theorem d3_36 : Dc prog_29_method_5_code 36 (.getfield 26) 3 39 := ⟨by decide +kernel, rfl⟩
theorem d3_39 : Dc prog_29_method_5_code 39 (.iload_n 1) 1 40 := ⟨by decide +kernel, rfl⟩
theorem d3_40 : Dc prog_29_method_5_code 40 (.i2l) 1 41 := ⟨by decide +kernel, rfl⟩
theorem d3_41 : Dc prog_29_method_5_code 41 (.ladd) 1 42 := ⟨by decide +kernel, rfl⟩
theorem d3_42 : Dc prog_29_method_5_code 42 (.putfield 26) 3 45 := ⟨by decide +kernel, rfl⟩
theorem d3_45 : Dc prog_29_method_5_code 45 (.iload_n 2) 1 46 := ⟨by decide +kernel, rfl⟩
theorem d3_46 : Dc prog_29_method_5_code 46 (.ireturn) 1 47 := ⟨by decide +kernel, rfl⟩
theorem ef_take (m : MethodId) (a : Addr) (x : Int32) (L : Int64) (H : Int64) : entryFrame m #[.ref a, .int x] 3 = mkF m 0 #[.val (.ref a), .val (.int x), .unset] [] := by first | (simp [entryFrame, mkF, argsToLocals, Value.category]; done) | rfl
set_option maxRecDepth 65536 in
set_option maxHeartbeats 40000000 in
theorem m_take (l : Launch) (Z : State) (a0 : Array Value) (hw : ∀ d ∈ tables_1, d.before a0 Z = true) (n0 : Nat) (a : Addr) (x : Int32) (L : Int64) (H : Int64) (h : Heap) (hn : n0 ≤ h.size) (g_a : n0 ≤ a) (E_a : Exa Z h a "com/example/nine_elms/nineelms/server/FrameRoom") (F_limit_a : Fld Z h a "com/example/nine_elms/nineelms/server/FrameRoom" "limit" "J" (.long L)) (F_held_a : Fld Z h a "com/example/nine_elms/nineelms/server/FrameRoom" "held" "J" (.long H)) (p0 : 0 ≤ H.toInt) (p1 : H.toInt = 0 ∨ H.toInt ≤ L.toInt) : Met n0 l Z (⟨"com/example/nine_elms/nineelms/server/FrameRoom", "take", "(I)Z"⟩ : MethodName) prog_29_method_5_code 3 (some .boolean) ({ frames := 0, cells := 0, slots := 0, locals := 0 } : Room) [] #[.ref a, .int x] h (Er (fun r h' => ∃ H2 : Int64, Exa Z h' a "com/example/nine_elms/nineelms/server/FrameRoom" ∧ Fld Z h' a "com/example/nine_elms/nineelms/server/FrameRoom" "limit" "J" (.long L) ∧ Fld Z h' a "com/example/nine_elms/nineelms/server/FrameRoom" "held" "J" (.long H2) ∧ ((x.toInt ≤ 16384 ∧ r.toInt = 1 ∧ H2.toInt = H.toInt) ∨ (16384 < x.toInt ∧ H.toInt + x.toInt ≤ L.toInt ∧ r.toInt = 1 ∧ H2.toInt = H.toInt + x.toInt) ∨ (16384 < x.toInt ∧ L.toInt < H.toInt + x.toInt ∧ r.toInt = 0 ∧ H2.toInt = H.toInt)))) := by
  refine enter (plainFor_of_name (by first | (simp [plainName, overriddenIn]; done) | decide +kernel)) (fun m => ef_take m a x L H) hn ?_
  intro p e s m below meth c T K S
  have rx := rng32 x
  have rL := rng64 L
  have rH := rng64 H
  refine iconst K S (x := (1 : Int32)) rfl d3_0 ?_
  refine istore_n K S (l' := #[.val (.ref a), .val (.int x), .val (.int (1 : Int32))]) rfl d3_1 ?_
  refine iload_n K S rfl d3_2 ?_
  refine sipush K S (x := (16384 : Int32)) rfl d3_3 ?_
  refine icmpz_le K S d3_6 (fun (c6 : ¬ 16384 < x.toInt) => ?_) (fun (c6 : 16384 < x.toInt) => ?_)
  · refine iload_n K S rfl d3_45 ?_
    refine retn K S (by simp) (y := (1 : Int32)) rfl (by decide) (by decide) d3_46 ?_
    exact ⟨_, rfl, _, E_a, F_limit_a, F_held_a, by have z0 : (0 : Int32).toInt = 0 := rfl; have z1 : (1 : Int32).toInt = 1 := rfl; omega⟩
  refine iload_n K S rfl d3_9 ?_
  refine i2l K S d3_10 ?_
  refine nmL fun t10 ht10 => ?_
  have ft10 : t10.toInt = x.toInt := by rw [ht10]; exact c_i2l x
  have rt10 := rng64 t10
  refine aload_n K S rfl rfl d3_11 ?_
  refine getf K S (hwi hw 10 rfl) F_limit_a d3_12 fun T S => ?_
  refine aload_n K S rfl rfl d3_15 ?_
  refine getf K S (hwi hw 22 rfl) F_held_a d3_16 fun T S => ?_
  refine lsub K S d3_19 ?_
  refine nmL fun t19 ht19 => ?_
  have ft19 : (t19.toInt - (L.toInt - H.toInt)) % 18446744073709551616 = 0 := by rw [ht19]; exact c_lsub L H
  have rt19 := rng64 t19
  refine lcmpz_gt K S d3_20 d3_21 (fun (c21 : t19.toInt < t10.toInt) => ?_) (fun (c21 : ¬ t19.toInt < t10.toInt) => ?_)
  · refine iconst K S (x := (0 : Int32)) rfl d3_28 ?_
    refine istore_n K S (l' := #[.val (.ref a), .val (.int x), .val (.int (0 : Int32))]) rfl d3_29 ?_
    refine iload_n K S rfl d3_30 ?_
    refine ificz_eq K S d3_31 (fun (c31 : 0 = 0) => ?_) (fun (c31 : ¬ 0 = 0) => ?_)
    rotate_left
    · exact absurd c31 (by decide)
    refine iload_n K S rfl d3_45 ?_
    refine retn K S (by simp) (y := (0 : Int32)) rfl (by decide) (by decide) d3_46 ?_
    exact ⟨_, rfl, _, E_a, F_limit_a, F_held_a, by have z0 : (0 : Int32).toInt = 0 := rfl; have z1 : (1 : Int32).toInt = 1 := rfl; omega⟩
  refine iconst K S (x := (1 : Int32)) rfl d3_24 ?_
  refine goto K S d3_25 ?_
  refine istore_n K S (l' := #[.val (.ref a), .val (.int x), .val (.int (1 : Int32))]) rfl d3_29 ?_
  refine iload_n K S rfl d3_30 ?_
  refine ificz_eq K S d3_31 (fun (c31 : 1 = 0) => ?_) (fun (c31 : ¬ 1 = 0) => ?_)
  · exact absurd c31 (by decide)
  refine aload_n K S rfl rfl d3_34 ?_
  refine dup K S rfl d3_35 ?_
  refine getf K S (hwi hw 22 rfl) F_held_a d3_36 fun T S => ?_
  refine iload_n K S rfl d3_39 ?_
  refine i2l K S d3_40 ?_
  refine nmL fun t40 ht40 => ?_
  have ft40 : t40.toInt = x.toInt := by rw [ht40]; exact c_i2l x
  have rt40 := rng64 t40
  refine ladd K S d3_41 ?_
  refine nmL fun t41 ht41 => ?_
  have ft41 : (t41.toInt - (H.toInt + t40.toInt)) % 18446744073709551616 = 0 := by rw [ht41]; exact c_ladd H t40
  have rt41 := rng64 t41
  refine putf K S (hwi hw 22 rfl) F_held_a E_a (Or.inl (hwi hw 23 rfl)) (hwi hw 2 rfl) (ty := .long) (by decide) rfl rfl g_a d3_42 fun T h42_1 W S => ?_
  replace E_a := E_a.wr W
  replace F_limit_a := F_limit_a.other W (Or.inr (slot_ne (C := "com/example/nine_elms/nineelms/server/FrameRoom") (Or.inr (hwi hw 11 rfl)) (Or.inl (hwi hw 23 rfl)) (by decide) (t := .long) (t' := .long) (by decide) (by decide)))
  replace F_held_a := F_held_a.same W
  clear W
  refine iload_n K S rfl d3_45 ?_
  refine retn K S (by simp) (y := (1 : Int32)) rfl (by decide) (by decide) d3_46 ?_
  exact ⟨_, rfl, _, E_a, F_limit_a, F_held_a, by have z0 : (0 : Int32).toInt = 0 := rfl; have z1 : (1 : Int32).toInt = 1 := rfl; omega⟩

theorem d4_0 : Dc prog_29_method_4_code 0 (.aload_n 0) 1 1 := ⟨by decide +kernel, rfl⟩
theorem d4_1 : Dc prog_29_method_4_code 1 (.getfield 26) 3 4 := ⟨by decide +kernel, rfl⟩
theorem d4_4 : Dc prog_29_method_4_code 4 (.lreturn) 1 5 := ⟨by decide +kernel, rfl⟩
theorem ef_held (m : MethodId) (a : Addr) (H : Int64) : entryFrame m #[.ref a] 1 = mkF m 0 #[.val (.ref a)] [] := by first | (simp [entryFrame, mkF, argsToLocals, Value.category]; done) | rfl
set_option maxRecDepth 65536 in
set_option maxHeartbeats 40000000 in
theorem m_held (l : Launch) (Z : State) (a0 : Array Value) (hw : ∀ d ∈ tables_1, d.before a0 Z = true) (n0 : Nat) (a : Addr) (H : Int64) (h : Heap) (hn : n0 ≤ h.size) (F_held_a : Fld Z h a "com/example/nine_elms/nineelms/server/FrameRoom" "held" "J" (.long H)) : Met n0 l Z (⟨"com/example/nine_elms/nineelms/server/FrameRoom", "held", "()J"⟩ : MethodName) prog_29_method_4_code 1 (some .long) ({ frames := 0, cells := 0, slots := 0, locals := 0 } : Room) [] #[.ref a] h (Pu (some (.long H)) h) := by
  refine enter (plainFor_of_name (by first | (simp [plainName, overriddenIn]; done) | decide +kernel)) (fun m => ef_held m a H) hn ?_
  intro p e s m below meth c T K S
  refine aload_n K S rfl rfl d4_0 ?_
  refine getf K S (hwi hw 22 rfl) F_held_a d4_1 fun T S => ?_
  refine retl K S (by decide) (by decide) d4_4 ?_
  exact ⟨rfl, rfl⟩

theorem d7_0 : Dc prog_29_method_3_code 0 (.aload_n 0) 1 1 := ⟨by decide +kernel, rfl⟩
theorem d7_1 : Dc prog_29_method_3_code 1 (.getfield 7) 3 4 := ⟨by decide +kernel, rfl⟩
theorem d7_4 : Dc prog_29_method_3_code 4 (.lreturn) 1 5 := ⟨by decide +kernel, rfl⟩
theorem ef_limit (m : MethodId) (a : Addr) (L : Int64) : entryFrame m #[.ref a] 1 = mkF m 0 #[.val (.ref a)] [] := by first | (simp [entryFrame, mkF, argsToLocals, Value.category]; done) | rfl
set_option maxRecDepth 65536 in
set_option maxHeartbeats 40000000 in
theorem m_limit (l : Launch) (Z : State) (a0 : Array Value) (hw : ∀ d ∈ tables_1, d.before a0 Z = true) (n0 : Nat) (a : Addr) (L : Int64) (h : Heap) (hn : n0 ≤ h.size) (F_limit_a : Fld Z h a "com/example/nine_elms/nineelms/server/FrameRoom" "limit" "J" (.long L)) : Met n0 l Z (⟨"com/example/nine_elms/nineelms/server/FrameRoom", "limit", "()J"⟩ : MethodName) prog_29_method_3_code 1 (some .long) ({ frames := 0, cells := 0, slots := 0, locals := 0 } : Room) [] #[.ref a] h (Pu (some (.long L)) h) := by
  refine enter (plainFor_of_name (by first | (simp [plainName, overriddenIn]; done) | decide +kernel)) (fun m => ef_limit m a L) hn ?_
  intro p e s m below meth c T K S
  refine aload_n K S rfl rfl d7_0 ?_
  refine getf K S (hwi hw 10 rfl) F_limit_a d7_1 fun T S => ?_
  refine retl K S (by decide) (by decide) d7_4 ?_
  exact ⟨rfl, rfl⟩

theorem d5_0 : Dc prog_29_method_6_code 0 (.iload_n 1) 1 1 := ⟨by decide +kernel, rfl⟩
theorem d5_1 : Dc prog_29_method_6_code 1 (.sipush 16384) 3 4 := ⟨by decide +kernel, rfl⟩
theorem d5_4 : Bc prog_29_method_6_code 4 (.if_icmp .le 14) (14) 7 18 := ⟨by decide +kernel, rfl, by decide, by decide⟩
theorem d5_7 : Dc prog_29_method_6_code 7 (.aload_n 0) 1 8 := ⟨by decide +kernel, rfl⟩
theorem d5_8 : Dc prog_29_method_6_code 8 (.dup) 1 9 := ⟨by decide +kernel, rfl⟩
theorem d5_9 : Dc prog_29_method_6_code 9 (.getfield 26) 3 12 := ⟨by decide +kernel, rfl⟩
theorem d5_12 : Dc prog_29_method_6_code 12 (.iload_n 1) 1 13 := ⟨by decide +kernel, rfl⟩
theorem d5_13 : Dc prog_29_method_6_code 13 (.i2l) 1 14 := ⟨by decide +kernel, rfl⟩
theorem d5_14 : Dc prog_29_method_6_code 14 (.lsub) 1 15 := ⟨by decide +kernel, rfl⟩
theorem d5_15 : Dc prog_29_method_6_code 15 (.putfield 26) 3 18 := ⟨by decide +kernel, rfl⟩
theorem d5_18 : Dc prog_29_method_6_code 18 (.return_) 1 19 := ⟨by decide +kernel, rfl⟩
theorem ef_give (m : MethodId) (a : Addr) (x : Int32) (L : Int64) (H : Int64) : entryFrame m #[.ref a, .int x] 2 = mkF m 0 #[.val (.ref a), .val (.int x)] [] := by first | (simp [entryFrame, mkF, argsToLocals, Value.category]; done) | rfl
set_option maxRecDepth 65536 in
set_option maxHeartbeats 40000000 in
theorem m_give (l : Launch) (Z : State) (a0 : Array Value) (hw : ∀ d ∈ tables_1, d.before a0 Z = true) (n0 : Nat) (a : Addr) (x : Int32) (L : Int64) (H : Int64) (h : Heap) (hn : n0 ≤ h.size) (g_a : n0 ≤ a) (E_a : Exa Z h a "com/example/nine_elms/nineelms/server/FrameRoom") (F_limit_a : Fld Z h a "com/example/nine_elms/nineelms/server/FrameRoom" "limit" "J" (.long L)) (F_held_a : Fld Z h a "com/example/nine_elms/nineelms/server/FrameRoom" "held" "J" (.long H)) (p0 : 0 ≤ H.toInt) (p1 : H.toInt ≤ 4611686018427387904) : Met n0 l Z (⟨"com/example/nine_elms/nineelms/server/FrameRoom", "giveBack", "(I)V"⟩ : MethodName) prog_29_method_6_code 2 none ({ frames := 0, cells := 0, slots := 0, locals := 0 } : Room) [] #[.ref a, .int x] h (Ef none (fun h' => ∃ H2 : Int64, Exa Z h' a "com/example/nine_elms/nineelms/server/FrameRoom" ∧ Fld Z h' a "com/example/nine_elms/nineelms/server/FrameRoom" "limit" "J" (.long L) ∧ Fld Z h' a "com/example/nine_elms/nineelms/server/FrameRoom" "held" "J" (.long H2) ∧ ((x.toInt ≤ 16384 ∧ H2.toInt = H.toInt) ∨ (16384 < x.toInt ∧ H2.toInt = H.toInt - x.toInt)))) := by
  refine enter (plainFor_of_name (by first | (simp [plainName, overriddenIn]; done) | decide +kernel)) (fun m => ef_give m a x L H) hn ?_
  intro p e s m below meth c T K S
  have rx := rng32 x
  have rH := rng64 H
  refine iload_n K S rfl d5_0 ?_
  refine sipush K S (x := (16384 : Int32)) rfl d5_1 ?_
  refine icmpz_le K S d5_4 (fun (c4 : ¬ 16384 < x.toInt) => ?_) (fun (c4 : 16384 < x.toInt) => ?_)
  · refine retv K S (by decide) (by decide) d5_18 ?_
    exact ⟨rfl, _, E_a, F_limit_a, F_held_a, by omega⟩
  refine aload_n K S rfl rfl d5_7 ?_
  refine dup K S rfl d5_8 ?_
  refine getf K S (hwi hw 22 rfl) F_held_a d5_9 fun T S => ?_
  refine iload_n K S rfl d5_12 ?_
  refine i2l K S d5_13 ?_
  refine nmL fun t13 ht13 => ?_
  have ft13 : t13.toInt = x.toInt := by rw [ht13]; exact c_i2l x
  have rt13 := rng64 t13
  refine lsub K S d5_14 ?_
  refine nmL fun t14 ht14 => ?_
  have ft14 : (t14.toInt - (H.toInt - t13.toInt)) % 18446744073709551616 = 0 := by rw [ht14]; exact c_lsub H t13
  have rt14 := rng64 t14
  refine putf K S (hwi hw 22 rfl) F_held_a E_a (Or.inl (hwi hw 23 rfl)) (hwi hw 2 rfl) (ty := .long) (by decide) rfl rfl g_a d5_15 fun T h15_1 W S => ?_
  replace E_a := E_a.wr W
  replace F_limit_a := F_limit_a.other W (Or.inr (slot_ne (C := "com/example/nine_elms/nineelms/server/FrameRoom") (Or.inr (hwi hw 11 rfl)) (Or.inl (hwi hw 23 rfl)) (by decide) (t := .long) (t' := .long) (by decide) (by decide)))
  replace F_held_a := F_held_a.same W
  clear W
  refine retv K S (by decide) (by decide) d5_18 ?_
  exact ⟨rfl, _, E_a, F_limit_a, F_held_a, by omega⟩

theorem d6_0 : Dc method_2_code 0 (.iload_n 2) 1 1 := ⟨by decide +kernel, rfl⟩
theorem d6_1 : Dc method_2_code 1 (.sipush 16384) 3 4 := ⟨by decide +kernel, rfl⟩
theorem d6_4 : Bc method_2_code 4 (.if_icmp .le 8) (8) 7 12 := ⟨by decide +kernel, rfl, by decide, by decide⟩
theorem d6_7 : Dc method_2_code 7 (.lload_n 0) 1 8 := ⟨by decide +kernel, rfl⟩
theorem d6_8 : Dc method_2_code 8 (.iload_n 2) 1 9 := ⟨by decide +kernel, rfl⟩
theorem d6_9 : Dc method_2_code 9 (.i2l) 1 10 := ⟨by decide +kernel, rfl⟩
theorem d6_10 : Dc method_2_code 10 (.lsub) 1 11 := ⟨by decide +kernel, rfl⟩
theorem d6_11 : Dc method_2_code 11 (.lreturn) 1 12 := ⟨by decide +kernel, rfl⟩
theorem d6_12 : Dc method_2_code 12 (.lload_n 0) 1 13 := ⟨by decide +kernel, rfl⟩
theorem d6_13 : Dc method_2_code 13 (.lreturn) 1 14 := ⟨by decide +kernel, rfl⟩
theorem ef_after (m : MethodId) (H : Int64) (x : Int32) : entryFrame m #[.long H, .int x] 3 = mkF m 0 #[.val (.long H), .second, .val (.int x)] [] := by first | (simp [entryFrame, mkF, argsToLocals, Value.category]; done) | rfl
set_option maxRecDepth 65536 in
set_option maxHeartbeats 40000000 in
theorem m_after (l : Launch) (Z : State) (a0 : Array Value) (hw : ∀ d ∈ tables_1, d.before a0 Z = true) (n0 : Nat) (H : Int64) (x : Int32) (h : Heap) (hn : n0 ≤ h.size) (p0 : 0 ≤ H.toInt) (p1 : H.toInt ≤ 4611686018427387904) : Met n0 l Z (⟨"com/example/nine_elms/nineelms/server/FrameRoomGiveBackPinLaw", "expectedAfter", "(JI)J"⟩ : MethodName) method_2_code 3 (some .long) ({ frames := 0, cells := 0, slots := 0, locals := 0 } : Room) [] #[.long H, .int x] h (PrL (fun r => (x.toInt ≤ 16384 ∧ r.toInt = H.toInt) ∨ (16384 < x.toInt ∧ r.toInt = H.toInt - x.toInt)) h) := by
  refine enter (plainFor_of_name (by first | (simp [plainName, overriddenIn]; done) | decide +kernel)) (fun m => ef_after m H x) hn ?_
  intro p e s m below meth c T K S
  have rx := rng32 x
  have rH := rng64 H
  refine iload_n K S rfl d6_0 ?_
  refine sipush K S (x := (16384 : Int32)) rfl d6_1 ?_
  refine icmpz_le K S d6_4 (fun (c4 : ¬ 16384 < x.toInt) => ?_) (fun (c4 : 16384 < x.toInt) => ?_)
  · refine lload_n K S rfl d6_12 ?_
    refine retl K S (by decide) (by decide) d6_13 ?_
    exact ⟨_, rfl, by omega, rfl⟩
  refine lload_n K S rfl d6_7 ?_
  refine iload_n K S rfl d6_8 ?_
  refine i2l K S d6_9 ?_
  refine nmL fun t9 ht9 => ?_
  have ft9 : t9.toInt = x.toInt := by rw [ht9]; exact c_i2l x
  have rt9 := rng64 t9
  refine lsub K S d6_10 ?_
  refine nmL fun t10 ht10 => ?_
  have ft10 : (t10.toInt - (H.toInt - t9.toInt)) % 18446744073709551616 = 0 := by rw [ht10]; exact c_lsub H t9
  have rt10 := rng64 t10
  refine retl K S (by decide) (by decide) d6_11 ?_
  exact ⟨_, rfl, by omega, rfl⟩

theorem d0_0 : Dc code 0 (.lload_n 0) 1 1 := ⟨at_0, rfl⟩
theorem d0_1 : Dc code 1 (.ldc2_w 9) 3 4 := ⟨at_1, rfl⟩
theorem d0_4 : Dc code 4 (.land) 1 5 := ⟨at_4, rfl⟩
theorem d0_5 : Dc code 5 (.lstore 5) 2 7 := ⟨at_5, rfl⟩
theorem d0_7 : Dc code 7 (.new 11) 3 10 := ⟨at_7, rfl⟩
theorem d0_10 : Dc code 10 (.dup) 1 11 := ⟨at_10, rfl⟩
theorem d0_11 : Dc code 11 (.lload 5) 2 13 := ⟨at_11, rfl⟩
theorem d0_13 : Dc code 13 (.invokespecial 13) 3 16 := ⟨at_13, rfl⟩
theorem d0_16 : Dc code 16 (.astore 7) 2 18 := ⟨at_16, rfl⟩
theorem d0_18 : Dc code 18 (.aload 7) 2 20 := ⟨at_18, rfl⟩
theorem d0_20 : Dc code 20 (.iload_n 2) 1 21 := ⟨at_20, rfl⟩
theorem d0_21 : Dc code 21 (.invokevirtual 16) 3 24 := ⟨at_21, rfl⟩
theorem d0_24 : Dc code 24 (.istore 8) 2 26 := ⟨at_24, rfl⟩
theorem d0_26 : Dc code 26 (.aload 7) 2 28 := ⟨at_26, rfl⟩
theorem d0_28 : Dc code 28 (.iload_n 3) 1 29 := ⟨at_28, rfl⟩
theorem d0_29 : Dc code 29 (.invokevirtual 16) 3 32 := ⟨at_29, rfl⟩
theorem d0_32 : Dc code 32 (.istore 9) 2 34 := ⟨at_32, rfl⟩
theorem d0_34 : Dc code 34 (.aload 7) 2 36 := ⟨at_34, rfl⟩
theorem d0_36 : Dc code 36 (.invokevirtual 20) 3 39 := ⟨at_36, rfl⟩
theorem d0_39 : Dc code 39 (.lstore 10) 2 41 := ⟨at_39, rfl⟩
theorem d0_41 : Dc code 41 (.iload_n 2) 1 42 := ⟨at_41, rfl⟩
theorem d0_42 : Dc code 42 (.istore 12) 2 44 := ⟨at_42, rfl⟩
theorem d0_44 : Dc code 44 (.iload_n 3) 1 45 := ⟨at_44, rfl⟩
theorem d0_45 : Dc code 45 (.istore 13) 2 47 := ⟨at_45, rfl⟩
theorem d0_47 : Dc code 47 (.iload 8) 2 49 := ⟨at_47, rfl⟩
theorem d0_49 : Dc code 49 (.istore 14) 2 51 := ⟨at_49, rfl⟩
theorem d0_51 : Dc code 51 (.iload 9) 2 53 := ⟨at_51, rfl⟩
theorem d0_53 : Dc code 53 (.istore 15) 2 55 := ⟨at_53, rfl⟩
theorem d0_55 : Dc code 55 (.iload 4) 2 57 := ⟨at_55, rfl⟩
theorem d0_57 : Dc code 57 (.iconst 1) 1 58 := ⟨at_57, rfl⟩
theorem d0_58 : Dc code 58 (.iand) 1 59 := ⟨at_58, rfl⟩
theorem d0_59 : Bc code 59 (.ifCond .eq 17) (17) 62 76 := ⟨at_59, rfl, by decide, by decide⟩
theorem d0_62 : Dc code 62 (.iload_n 3) 1 63 := ⟨at_62, rfl⟩
theorem d0_63 : Dc code 63 (.istore 12) 2 65 := ⟨at_63, rfl⟩
theorem d0_65 : Dc code 65 (.iload_n 2) 1 66 := ⟨at_65, rfl⟩
theorem d0_66 : Dc code 66 (.istore 13) 2 68 := ⟨at_66, rfl⟩
theorem d0_68 : Dc code 68 (.iload 9) 2 70 := ⟨at_68, rfl⟩
theorem d0_70 : Dc code 70 (.istore 14) 2 72 := ⟨at_70, rfl⟩
theorem d0_72 : Dc code 72 (.iload 8) 2 74 := ⟨at_72, rfl⟩
theorem d0_74 : Dc code 74 (.istore 15) 2 76 := ⟨at_74, rfl⟩
theorem d0_76 : Dc code 76 (.iload 14) 2 78 := ⟨at_76, rfl⟩
theorem d0_78 : Bc code 78 (.ifCond .eq 36) (36) 81 114 := ⟨at_78, rfl, by decide, by decide⟩
theorem d0_81 : Dc code 81 (.aload 7) 2 83 := ⟨at_81, rfl⟩
theorem d0_83 : Dc code 83 (.iload 12) 2 85 := ⟨at_83, rfl⟩
theorem d0_85 : Dc code 85 (.invokevirtual 24) 3 88 := ⟨at_85, rfl⟩
theorem d0_88 : Dc code 88 (.lload 10) 2 90 := ⟨at_88, rfl⟩
theorem d0_90 : Dc code 90 (.iload 12) 2 92 := ⟨at_90, rfl⟩
theorem d0_92 : Dc code 92 (.invokestatic 28) 3 95 := ⟨at_92, rfl⟩
theorem d0_95 : Dc code 95 (.lstore 16) 2 97 := ⟨at_95, rfl⟩
theorem d0_97 : Dc code 97 (.aload 7) 2 99 := ⟨at_97, rfl⟩
theorem d0_99 : Dc code 99 (.invokevirtual 20) 3 102 := ⟨at_99, rfl⟩
theorem d0_102 : Dc code 102 (.lload 16) 2 104 := ⟨at_102, rfl⟩
theorem d0_104 : Dc code 104 (.lcmp) 1 105 := ⟨at_104, rfl⟩
theorem d0_105 : Bc code 105 (.ifCond .eq 5) (5) 108 110 := ⟨at_105, rfl, by decide, by decide⟩
theorem d0_108 : Dc code 108 (.iconst 0) 1 109 := ⟨at_108, rfl⟩
theorem d0_109 : Dc code 109 (.ireturn) 1 110 := ⟨at_109, rfl⟩
theorem d0_110 : Dc code 110 (.lload 16) 2 112 := ⟨at_110, rfl⟩
theorem d0_112 : Dc code 112 (.lstore 10) 2 114 := ⟨at_112, rfl⟩
theorem d0_114 : Dc code 114 (.iload 15) 2 116 := ⟨at_114, rfl⟩
theorem d0_116 : Bc code 116 (.ifCond .eq 36) (36) 119 152 := ⟨at_116, rfl, by decide, by decide⟩
theorem d0_119 : Dc code 119 (.aload 7) 2 121 := ⟨at_119, rfl⟩
theorem d0_121 : Dc code 121 (.iload 13) 2 123 := ⟨at_121, rfl⟩
theorem d0_123 : Dc code 123 (.invokevirtual 24) 3 126 := ⟨at_123, rfl⟩
theorem d0_126 : Dc code 126 (.lload 10) 2 128 := ⟨at_126, rfl⟩
theorem d0_128 : Dc code 128 (.iload 13) 2 130 := ⟨at_128, rfl⟩
theorem d0_130 : Dc code 130 (.invokestatic 28) 3 133 := ⟨at_130, rfl⟩
theorem d0_133 : Dc code 133 (.lstore 16) 2 135 := ⟨at_133, rfl⟩
theorem d0_135 : Dc code 135 (.aload 7) 2 137 := ⟨at_135, rfl⟩
theorem d0_137 : Dc code 137 (.invokevirtual 20) 3 140 := ⟨at_137, rfl⟩
theorem d0_140 : Dc code 140 (.lload 16) 2 142 := ⟨at_140, rfl⟩
theorem d0_142 : Dc code 142 (.lcmp) 1 143 := ⟨at_142, rfl⟩
theorem d0_143 : Bc code 143 (.ifCond .eq 5) (5) 146 148 := ⟨at_143, rfl, by decide, by decide⟩
theorem d0_146 : Dc code 146 (.iconst 0) 1 147 := ⟨at_146, rfl⟩
theorem d0_147 : Dc code 147 (.ireturn) 1 148 := ⟨at_147, rfl⟩
theorem d0_148 : Dc code 148 (.lload 16) 2 150 := ⟨at_148, rfl⟩
theorem d0_150 : Dc code 150 (.lstore 10) 2 152 := ⟨at_150, rfl⟩
theorem d0_152 : Dc code 152 (.aload 7) 2 154 := ⟨at_152, rfl⟩
theorem d0_154 : Dc code 154 (.invokevirtual 20) 3 157 := ⟨at_154, rfl⟩
theorem d0_157 : Dc code 157 (.lconst 0) 1 158 := ⟨at_157, rfl⟩
theorem d0_158 : Dc code 158 (.lcmp) 1 159 := ⟨at_158, rfl⟩
theorem d0_159 : Bc code 159 (.ifCond .ne 18) (18) 162 177 := ⟨at_159, rfl, by decide, by decide⟩
theorem d0_162 : Dc code 162 (.aload 7) 2 164 := ⟨at_162, rfl⟩
theorem d0_164 : Dc code 164 (.invokevirtual 34) 3 167 := ⟨at_164, rfl⟩
theorem d0_167 : Dc code 167 (.lload 5) 2 169 := ⟨at_167, rfl⟩
theorem d0_169 : Dc code 169 (.lcmp) 1 170 := ⟨at_169, rfl⟩
theorem d0_170 : Bc code 170 (.ifCond .ne 7) (7) 173 177 := ⟨at_170, rfl, by decide, by decide⟩
theorem d0_173 : Dc code 173 (.iconst 1) 1 174 := ⟨at_173, rfl⟩
theorem d0_174 : Bc code 174 (.goto 4) (4) 177 178 := ⟨at_174, rfl, by decide, by decide⟩
theorem d0_177 : Dc code 177 (.iconst 0) 1 178 := ⟨at_177, rfl⟩
theorem d0_178 : Dc code 178 (.ireturn) 1 179 := ⟨at_178, rfl⟩
theorem pd_1 : parseMethodDescriptor "(J)V" = some ⟨[.long], none⟩ := by decide +kernel
theorem pd_3 : parseMethodDescriptor "(I)Z" = some ⟨[.int], (some .boolean)⟩ := by decide +kernel
theorem pd_4 : parseMethodDescriptor "()J" = some ⟨[], (some .long)⟩ := by decide +kernel
theorem pd_7 : parseMethodDescriptor "()J" = some ⟨[], (some .long)⟩ := by decide +kernel
theorem pd_5 : parseMethodDescriptor "(I)V" = some ⟨[.int], none⟩ := by decide +kernel
theorem pd_6 : parseMethodDescriptor "(JI)J" = some ⟨[.long, .int], (some .long)⟩ := by decide +kernel
theorem ef_law (m : MethodId) (x0 : Int64) (x1 : Int32) (x2 : Int32) (x3 : Int32) : entryFrame m #[.long x0, .int x1, .int x2, .int x3] maxLocals = mkF m 0 #[.val (.long x0), .second, .val (.int x1), .val (.int x2), .val (.int x3), .unset, .unset, .unset, .unset, .unset, .unset, .unset, .unset, .unset, .unset, .unset, .unset, .unset] [] := by first | (simp [entryFrame, mkF, argsToLocals, Value.category, maxLocals]; done) | rfl
set_option maxRecDepth 65536 in
set_option maxHeartbeats 40000000 in
theorem m_law (l : Launch) (Z : State) (a0 : Array Value) (hw : ∀ d ∈ tables_1, d.before a0 Z = true) (n0 : Nat) (x0 : Int64) (x1 : Int32) (x2 : Int32) (x3 : Int32) (h : Heap) (hn : n0 ≤ h.size) : Met n0 l Z x code maxLocals ret room_1 tables_1 #[.long x0, .int x1, .int x2, .int x3] h (fun v _ => v = some (.int 1)) := by
  refine enter (plainFor_of_name (by first | (simp [plainName, overriddenIn, x]; done) | decide +kernel)) (fun m => ef_law m x0 x1 x2 x3) hn ?_
  intro p e s m below meth c T K S
  have rx0 := rng64 x0
  have rx1 := rng32 x1
  have rx2 := rng32 x2
  refine lload_n K S rfl d0_0 ?_
  refine ldc2 K S (X := (9223372036854775807 : Int64)) (hwi hw 0 rfl) d0_1 ?_
  refine land K S d0_4 ?_
  refine nmL fun t4 ht4 => ?_
  have ft4 : t4.toInt = x0.toInt % 9223372036854775808 := by rw [ht4]; exact c_maskL x0 (9223372036854775807 : Int64) 63 (by decide) (by decide)
  have rt4 := rng64 t4
  refine lstore K S (l' := #[.val (.long x0), .second, .val (.int x1), .val (.int x2), .val (.int x3), .val (.long t4), .second, .unset, .unset, .unset, .unset, .unset, .unset, .unset, .unset, .unset, .unset, .unset]) rfl d0_5 ?_
  refine new K S (hwi hw 1 rfl) (hwi hw 2 rfl) (hwi hw 3 rfl) (by decide) (by decide) d0_7 fun T h7_1 o7 z_o7 g_o7 X E_o7 D S => ?_
  have F_limit_o7 : Fld Z h7_1 o7 "com/example/nine_elms/nineelms/server/FrameRoom" "limit" "J" (.long (0 : Int64)) := D (Or.inr (hwi hw 11 rfl)) (ty := .long) (by decide)
  have F_held_o7 : Fld Z h7_1 o7 "com/example/nine_elms/nineelms/server/FrameRoom" "held" "J" (.long (0 : Int64)) := D (Or.inl (hwi hw 23 rfl)) (ty := .long) (by decide)
  clear D X
  refine dup K S rfl d0_10 ?_
  refine lload K S rfl d0_11 ?_
  refine callC K S (W := 1) (m_ini l Z a0 hw n0 o7 t4 h7_1 (Sle S) g_o7 E_o7 F_limit_o7 F_held_o7) rfl rfl (hwi hw 4 rfl) (hwi hw 5 rfl) (hwi hw 6 rfl) (hwi hw 3 rfl) (by decide) (by decide) (by decide) (by decide) (by decide) rfl (argsL := [.long t4]) rfl (lenOf pd_1 rfl) (rest := [.ref o7]) rfl (Nat.le_of_eq rfl) d0_13 (ef fun T h13_2 hP S => ?_)
  obtain ⟨E_o7, F_limit_o7, F_held_o7⟩ := hP
  show Wp n0 p e _ s below _ T (mkF m 16 #[.val (.long x0), .second, .val (.int x1), .val (.int x2), .val (.int x3), .val (.long t4), .second, .unset, .unset, .unset, .unset, .unset, .unset, .unset, .unset, .unset, .unset, .unset] [.ref o7])
  refine astore K S (l' := #[.val (.long x0), .second, .val (.int x1), .val (.int x2), .val (.int x3), .val (.long t4), .second, .val (.ref o7), .unset, .unset, .unset, .unset, .unset, .unset, .unset, .unset, .unset, .unset]) rfl rfl d0_16 ?_
  refine aload K S rfl rfl d0_18 ?_
  refine iload_n K S rfl d0_20 ?_
  refine callV K S (W := 0) (m_take l Z a0 hw n0 o7 x1 t4 (0 : Int64) h13_2 (Sle S) g_o7 E_o7 F_limit_o7 F_held_o7 (by have Z0 : (0 : Int64).toInt = 0 := rfl; omega) (by have Z0 : (0 : Int64).toInt = 0 := rfl; omega)) E_o7 (hwi hw 12 rfl) (hwi hw 13 rfl) (hwi hw 15 rfl) (hwi hw 14 rfl) (hwi hw 16 rfl) (hwi hw 3 rfl) (by decide) (by decide) (by decide) (by decide) (by decide) rfl (argsL := [.int x1]) rfl (lenOf pd_3 rfl) (rest := []) rfl (Nat.le_of_eq rfl) d0_21 (er fun T r21 h21_3 hP S => ?_)
  obtain ⟨H21, E_o7, F_limit_o7, F_held_o7, q21⟩ := hP
  have rH21 := rng64 H21
  show Wp n0 p e _ s below _ T (mkF m 24 #[.val (.long x0), .second, .val (.int x1), .val (.int x2), .val (.int x3), .val (.long t4), .second, .val (.ref o7), .unset, .unset, .unset, .unset, .unset, .unset, .unset, .unset, .unset, .unset] [.int r21])
  refine istore K S (l' := #[.val (.long x0), .second, .val (.int x1), .val (.int x2), .val (.int x3), .val (.long t4), .second, .val (.ref o7), .val (.int r21), .unset, .unset, .unset, .unset, .unset, .unset, .unset, .unset, .unset]) rfl d0_24 ?_
  refine aload K S rfl rfl d0_26 ?_
  refine iload_n K S rfl d0_28 ?_
  refine callV K S (W := 0) (m_take l Z a0 hw n0 o7 x2 t4 H21 h21_3 (Sle S) g_o7 E_o7 F_limit_o7 F_held_o7 (by have Z0 : (0 : Int64).toInt = 0 := rfl; omega) (by have Z0 : (0 : Int64).toInt = 0 := rfl; omega)) E_o7 (hwi hw 12 rfl) (hwi hw 13 rfl) (hwi hw 15 rfl) (hwi hw 14 rfl) (hwi hw 16 rfl) (hwi hw 3 rfl) (by decide) (by decide) (by decide) (by decide) (by decide) rfl (argsL := [.int x2]) rfl (lenOf pd_3 rfl) (rest := []) rfl (Nat.le_of_eq rfl) d0_29 (er fun T r29 h29_4 hP S => ?_)
  obtain ⟨H29, E_o7, F_limit_o7, F_held_o7, q29⟩ := hP
  have rH29 := rng64 H29
  show Wp n0 p e _ s below _ T (mkF m 32 #[.val (.long x0), .second, .val (.int x1), .val (.int x2), .val (.int x3), .val (.long t4), .second, .val (.ref o7), .val (.int r21), .unset, .unset, .unset, .unset, .unset, .unset, .unset, .unset, .unset] [.int r29])
  refine istore K S (l' := #[.val (.long x0), .second, .val (.int x1), .val (.int x2), .val (.int x3), .val (.long t4), .second, .val (.ref o7), .val (.int r21), .val (.int r29), .unset, .unset, .unset, .unset, .unset, .unset, .unset, .unset]) rfl d0_32 ?_
  refine aload K S rfl rfl d0_34 ?_
  refine callV K S (W := 0) (m_held l Z a0 hw n0 o7 H29 h29_4 (Sle S) F_held_o7) E_o7 (hwi hw 17 rfl) (hwi hw 18 rfl) (hwi hw 20 rfl) (hwi hw 19 rfl) (hwi hw 21 rfl) (hwi hw 3 rfl) (by decide) (by decide) (by decide) (by decide) (by decide) rfl (argsL := []) rfl (lenOf pd_4 rfl) (rest := []) rfl (Nat.le_of_eq rfl) d0_36 (pu fun T S => ?_)
  show Wp n0 p e _ s below _ T (mkF m 39 #[.val (.long x0), .second, .val (.int x1), .val (.int x2), .val (.int x3), .val (.long t4), .second, .val (.ref o7), .val (.int r21), .val (.int r29), .unset, .unset, .unset, .unset, .unset, .unset, .unset, .unset] [.long H29])
  refine lstore K S (l' := #[.val (.long x0), .second, .val (.int x1), .val (.int x2), .val (.int x3), .val (.long t4), .second, .val (.ref o7), .val (.int r21), .val (.int r29), .val (.long H29), .second, .unset, .unset, .unset, .unset, .unset, .unset]) rfl d0_39 ?_
  refine iload_n K S rfl d0_41 ?_
  refine istore K S (l' := #[.val (.long x0), .second, .val (.int x1), .val (.int x2), .val (.int x3), .val (.long t4), .second, .val (.ref o7), .val (.int r21), .val (.int r29), .val (.long H29), .second, .val (.int x1), .unset, .unset, .unset, .unset, .unset]) rfl d0_42 ?_
  refine iload_n K S rfl d0_44 ?_
  refine istore K S (l' := #[.val (.long x0), .second, .val (.int x1), .val (.int x2), .val (.int x3), .val (.long t4), .second, .val (.ref o7), .val (.int r21), .val (.int r29), .val (.long H29), .second, .val (.int x1), .val (.int x2), .unset, .unset, .unset, .unset]) rfl d0_45 ?_
  refine iload K S rfl d0_47 ?_
  refine istore K S (l' := #[.val (.long x0), .second, .val (.int x1), .val (.int x2), .val (.int x3), .val (.long t4), .second, .val (.ref o7), .val (.int r21), .val (.int r29), .val (.long H29), .second, .val (.int x1), .val (.int x2), .val (.int r21), .unset, .unset, .unset]) rfl d0_49 ?_
  refine iload K S rfl d0_51 ?_
  refine istore K S (l' := #[.val (.long x0), .second, .val (.int x1), .val (.int x2), .val (.int x3), .val (.long t4), .second, .val (.ref o7), .val (.int r21), .val (.int r29), .val (.long H29), .second, .val (.int x1), .val (.int x2), .val (.int r21), .val (.int r29), .unset, .unset]) rfl d0_53 ?_
  refine iload K S rfl d0_55 ?_
  refine iconst K S (x := (1 : Int32)) rfl d0_57 ?_
  refine iand K S d0_58 ?_
  refine nmI fun t58 ht58 => ?_
  have ft58 : t58.toInt = x3.toInt % 2 := by rw [ht58]; exact c_mask x3 (1 : Int32) 1 (by decide) (by decide)
  have rt58 := rng32 t58
  refine ificz_eq K S d0_59 (fun (c59 : t58.toInt = 0) => ?_) (fun (c59 : ¬ t58.toInt = 0) => ?_)
  · refine iload K S rfl d0_76 ?_
    refine ificz_eq K S d0_78 (fun (c78 : r21.toInt = 0) => ?_) (fun (c78 : ¬ r21.toInt = 0) => ?_)
    · refine iload K S rfl d0_114 ?_
      refine ificz_eq K S d0_116 (fun (c116 : r29.toInt = 0) => ?_) (fun (c116 : ¬ r29.toInt = 0) => ?_)
      · refine aload K S rfl rfl d0_152 ?_
        refine callV K S (W := 0) (m_held l Z a0 hw n0 o7 H29 h29_4 (Sle S) F_held_o7) E_o7 (hwi hw 17 rfl) (hwi hw 18 rfl) (hwi hw 20 rfl) (hwi hw 19 rfl) (hwi hw 21 rfl) (hwi hw 3 rfl) (by decide) (by decide) (by decide) (by decide) (by decide) rfl (argsL := []) rfl (lenOf pd_4 rfl) (rest := []) rfl (Nat.le_of_eq rfl) d0_154 (pu fun T S => ?_)
        show Wp n0 p e _ s below _ T (mkF m 157 #[.val (.long x0), .second, .val (.int x1), .val (.int x2), .val (.int x3), .val (.long t4), .second, .val (.ref o7), .val (.int r21), .val (.int r29), .val (.long H29), .second, .val (.int x1), .val (.int x2), .val (.int r21), .val (.int r29), .unset, .unset] [.long H29])
        refine lconst K S (X := (0 : Int64)) rfl d0_157 ?_
        refine lcmpz_ne K S d0_158 d0_159 (fun (c159 : ¬ H29.toInt = 0) => ?_) (fun (c159 : H29.toInt = 0) => ?_)
        · exfalso; have Z0 : (0 : Int64).toInt = 0 := rfl; omega
        refine aload K S rfl rfl d0_162 ?_
        refine callV K S (W := 0) (m_limit l Z a0 hw n0 o7 t4 h29_4 (Sle S) F_limit_o7) E_o7 (hwi hw 33 rfl) (hwi hw 34 rfl) (hwi hw 36 rfl) (hwi hw 35 rfl) (hwi hw 37 rfl) (hwi hw 3 rfl) (by decide) (by decide) (by decide) (by decide) (by decide) rfl (argsL := []) rfl (lenOf pd_7 rfl) (rest := []) rfl (Nat.le_of_eq rfl) d0_164 (pu fun T S => ?_)
        show Wp n0 p e _ s below _ T (mkF m 167 #[.val (.long x0), .second, .val (.int x1), .val (.int x2), .val (.int x3), .val (.long t4), .second, .val (.ref o7), .val (.int r21), .val (.int r29), .val (.long H29), .second, .val (.int x1), .val (.int x2), .val (.int r21), .val (.int r29), .unset, .unset] [.long t4])
        refine lload K S rfl d0_167 ?_
        refine lcmpz_ne K S d0_169 d0_170 (fun (c170 : ¬ t4.toInt = t4.toInt) => ?_) (fun (c170 : t4.toInt = t4.toInt) => ?_)
        · exact absurd rfl c170
        refine iconst K S (x := (1 : Int32)) rfl d0_173 ?_
        refine goto K S d0_174 ?_
        refine retn K S (by simp) (y := (1 : Int32)) rfl (by decide) (by decide) d0_178 ?_
        rfl
      refine aload K S rfl rfl d0_119 ?_
      refine iload K S rfl d0_121 ?_
      refine callV K S (W := 0) (m_give l Z a0 hw n0 o7 x2 t4 H29 h29_4 (Sle S) g_o7 E_o7 F_limit_o7 F_held_o7 (by have Z0 : (0 : Int64).toInt = 0 := rfl; omega) (by have Z0 : (0 : Int64).toInt = 0 := rfl; omega)) E_o7 (hwi hw 24 rfl) (hwi hw 25 rfl) (hwi hw 27 rfl) (hwi hw 26 rfl) (hwi hw 28 rfl) (hwi hw 3 rfl) (by decide) (by decide) (by decide) (by decide) (by decide) rfl (argsL := [.int x2]) rfl (lenOf pd_5 rfl) (rest := []) rfl (Nat.le_of_eq rfl) d0_123 (ef fun T h123_5 hP S => ?_)
      obtain ⟨H123, E_o7, F_limit_o7, F_held_o7, q123⟩ := hP
      show Wp n0 p e _ s below _ T (mkF m 126 #[.val (.long x0), .second, .val (.int x1), .val (.int x2), .val (.int x3), .val (.long t4), .second, .val (.ref o7), .val (.int r21), .val (.int r29), .val (.long H29), .second, .val (.int x1), .val (.int x2), .val (.int r21), .val (.int r29), .unset, .unset] [])
      refine lload K S rfl d0_126 ?_
      refine iload K S rfl d0_128 ?_
      refine callS K S (W := 0) (m_after l Z a0 hw n0 H29 x2 h123_5 (Sle S) (by have Z0 : (0 : Int64).toInt = 0 := rfl; omega) (by have Z0 : (0 : Int64).toInt = 0 := rfl; omega)) (hwi hw 29 rfl) (hwi hw 30 rfl) (hwi hw 32 rfl) (hwi hw 31 rfl) (by decide) (by decide) (by decide) (by decide) (by decide) rfl (argsL := [.long H29, .int x2]) rfl (lenOf pd_6 rfl) (rest := []) rfl (Nat.le_of_eq rfl) d0_130 (prL fun T r130 pr130 S => ?_)
      show Wp n0 p e _ s below _ T (mkF m 133 #[.val (.long x0), .second, .val (.int x1), .val (.int x2), .val (.int x3), .val (.long t4), .second, .val (.ref o7), .val (.int r21), .val (.int r29), .val (.long H29), .second, .val (.int x1), .val (.int x2), .val (.int r21), .val (.int r29), .unset, .unset] [.long r130])
      refine lstore K S (l' := #[.val (.long x0), .second, .val (.int x1), .val (.int x2), .val (.int x3), .val (.long t4), .second, .val (.ref o7), .val (.int r21), .val (.int r29), .val (.long H29), .second, .val (.int x1), .val (.int x2), .val (.int r21), .val (.int r29), .val (.long r130), .second]) rfl d0_133 ?_
      refine aload K S rfl rfl d0_135 ?_
      refine callV K S (W := 0) (m_held l Z a0 hw n0 o7 H123 h123_5 (Sle S) F_held_o7) E_o7 (hwi hw 17 rfl) (hwi hw 18 rfl) (hwi hw 20 rfl) (hwi hw 19 rfl) (hwi hw 21 rfl) (hwi hw 3 rfl) (by decide) (by decide) (by decide) (by decide) (by decide) rfl (argsL := []) rfl (lenOf pd_4 rfl) (rest := []) rfl (Nat.le_of_eq rfl) d0_137 (pu fun T S => ?_)
      show Wp n0 p e _ s below _ T (mkF m 140 #[.val (.long x0), .second, .val (.int x1), .val (.int x2), .val (.int x3), .val (.long t4), .second, .val (.ref o7), .val (.int r21), .val (.int r29), .val (.long H29), .second, .val (.int x1), .val (.int x2), .val (.int r21), .val (.int r29), .val (.long r130), .second] [.long H123])
      refine lload K S rfl d0_140 ?_
      refine lcmpz_eq K S d0_142 d0_143 (fun (c143 : H123.toInt = r130.toInt) => ?_) (fun (c143 : ¬ H123.toInt = r130.toInt) => ?_)
      rotate_left
      · exfalso; have Z0 : (0 : Int64).toInt = 0 := rfl; omega
      refine lload K S rfl d0_148 ?_
      refine lstore K S (l' := #[.val (.long x0), .second, .val (.int x1), .val (.int x2), .val (.int x3), .val (.long t4), .second, .val (.ref o7), .val (.int r21), .val (.int r29), .val (.long r130), .second, .val (.int x1), .val (.int x2), .val (.int r21), .val (.int r29), .val (.long r130), .second]) rfl d0_150 ?_
      refine aload K S rfl rfl d0_152 ?_
      refine callV K S (W := 0) (m_held l Z a0 hw n0 o7 H123 h123_5 (Sle S) F_held_o7) E_o7 (hwi hw 17 rfl) (hwi hw 18 rfl) (hwi hw 20 rfl) (hwi hw 19 rfl) (hwi hw 21 rfl) (hwi hw 3 rfl) (by decide) (by decide) (by decide) (by decide) (by decide) rfl (argsL := []) rfl (lenOf pd_4 rfl) (rest := []) rfl (Nat.le_of_eq rfl) d0_154 (pu fun T S => ?_)
      show Wp n0 p e _ s below _ T (mkF m 157 #[.val (.long x0), .second, .val (.int x1), .val (.int x2), .val (.int x3), .val (.long t4), .second, .val (.ref o7), .val (.int r21), .val (.int r29), .val (.long r130), .second, .val (.int x1), .val (.int x2), .val (.int r21), .val (.int r29), .val (.long r130), .second] [.long H123])
      refine lconst K S (X := (0 : Int64)) rfl d0_157 ?_
      refine lcmpz_ne K S d0_158 d0_159 (fun (c159 : ¬ H123.toInt = 0) => ?_) (fun (c159 : H123.toInt = 0) => ?_)
      · exfalso; have Z0 : (0 : Int64).toInt = 0 := rfl; omega
      refine aload K S rfl rfl d0_162 ?_
      refine callV K S (W := 0) (m_limit l Z a0 hw n0 o7 t4 h123_5 (Sle S) F_limit_o7) E_o7 (hwi hw 33 rfl) (hwi hw 34 rfl) (hwi hw 36 rfl) (hwi hw 35 rfl) (hwi hw 37 rfl) (hwi hw 3 rfl) (by decide) (by decide) (by decide) (by decide) (by decide) rfl (argsL := []) rfl (lenOf pd_7 rfl) (rest := []) rfl (Nat.le_of_eq rfl) d0_164 (pu fun T S => ?_)
      show Wp n0 p e _ s below _ T (mkF m 167 #[.val (.long x0), .second, .val (.int x1), .val (.int x2), .val (.int x3), .val (.long t4), .second, .val (.ref o7), .val (.int r21), .val (.int r29), .val (.long r130), .second, .val (.int x1), .val (.int x2), .val (.int r21), .val (.int r29), .val (.long r130), .second] [.long t4])
      refine lload K S rfl d0_167 ?_
      refine lcmpz_ne K S d0_169 d0_170 (fun (c170 : ¬ t4.toInt = t4.toInt) => ?_) (fun (c170 : t4.toInt = t4.toInt) => ?_)
      · exact absurd rfl c170
      refine iconst K S (x := (1 : Int32)) rfl d0_173 ?_
      refine goto K S d0_174 ?_
      refine retn K S (by simp) (y := (1 : Int32)) rfl (by decide) (by decide) d0_178 ?_
      rfl
    refine aload K S rfl rfl d0_81 ?_
    refine iload K S rfl d0_83 ?_
    refine callV K S (W := 0) (m_give l Z a0 hw n0 o7 x1 t4 H29 h29_4 (Sle S) g_o7 E_o7 F_limit_o7 F_held_o7 (by have Z0 : (0 : Int64).toInt = 0 := rfl; omega) (by have Z0 : (0 : Int64).toInt = 0 := rfl; omega)) E_o7 (hwi hw 24 rfl) (hwi hw 25 rfl) (hwi hw 27 rfl) (hwi hw 26 rfl) (hwi hw 28 rfl) (hwi hw 3 rfl) (by decide) (by decide) (by decide) (by decide) (by decide) rfl (argsL := [.int x1]) rfl (lenOf pd_5 rfl) (rest := []) rfl (Nat.le_of_eq rfl) d0_85 (ef fun T h85_6 hP S => ?_)
    obtain ⟨H85, E_o7, F_limit_o7, F_held_o7, q85⟩ := hP
    show Wp n0 p e _ s below _ T (mkF m 88 #[.val (.long x0), .second, .val (.int x1), .val (.int x2), .val (.int x3), .val (.long t4), .second, .val (.ref o7), .val (.int r21), .val (.int r29), .val (.long H29), .second, .val (.int x1), .val (.int x2), .val (.int r21), .val (.int r29), .unset, .unset] [])
    refine lload K S rfl d0_88 ?_
    refine iload K S rfl d0_90 ?_
    refine callS K S (W := 0) (m_after l Z a0 hw n0 H29 x1 h85_6 (Sle S) (by have Z0 : (0 : Int64).toInt = 0 := rfl; omega) (by have Z0 : (0 : Int64).toInt = 0 := rfl; omega)) (hwi hw 29 rfl) (hwi hw 30 rfl) (hwi hw 32 rfl) (hwi hw 31 rfl) (by decide) (by decide) (by decide) (by decide) (by decide) rfl (argsL := [.long H29, .int x1]) rfl (lenOf pd_6 rfl) (rest := []) rfl (Nat.le_of_eq rfl) d0_92 (prL fun T r92 pr92 S => ?_)
    show Wp n0 p e _ s below _ T (mkF m 95 #[.val (.long x0), .second, .val (.int x1), .val (.int x2), .val (.int x3), .val (.long t4), .second, .val (.ref o7), .val (.int r21), .val (.int r29), .val (.long H29), .second, .val (.int x1), .val (.int x2), .val (.int r21), .val (.int r29), .unset, .unset] [.long r92])
    refine lstore K S (l' := #[.val (.long x0), .second, .val (.int x1), .val (.int x2), .val (.int x3), .val (.long t4), .second, .val (.ref o7), .val (.int r21), .val (.int r29), .val (.long H29), .second, .val (.int x1), .val (.int x2), .val (.int r21), .val (.int r29), .val (.long r92), .second]) rfl d0_95 ?_
    refine aload K S rfl rfl d0_97 ?_
    refine callV K S (W := 0) (m_held l Z a0 hw n0 o7 H85 h85_6 (Sle S) F_held_o7) E_o7 (hwi hw 17 rfl) (hwi hw 18 rfl) (hwi hw 20 rfl) (hwi hw 19 rfl) (hwi hw 21 rfl) (hwi hw 3 rfl) (by decide) (by decide) (by decide) (by decide) (by decide) rfl (argsL := []) rfl (lenOf pd_4 rfl) (rest := []) rfl (Nat.le_of_eq rfl) d0_99 (pu fun T S => ?_)
    show Wp n0 p e _ s below _ T (mkF m 102 #[.val (.long x0), .second, .val (.int x1), .val (.int x2), .val (.int x3), .val (.long t4), .second, .val (.ref o7), .val (.int r21), .val (.int r29), .val (.long H29), .second, .val (.int x1), .val (.int x2), .val (.int r21), .val (.int r29), .val (.long r92), .second] [.long H85])
    refine lload K S rfl d0_102 ?_
    refine lcmpz_eq K S d0_104 d0_105 (fun (c105 : H85.toInt = r92.toInt) => ?_) (fun (c105 : ¬ H85.toInt = r92.toInt) => ?_)
    rotate_left
    · exfalso; have Z0 : (0 : Int64).toInt = 0 := rfl; omega
    refine lload K S rfl d0_110 ?_
    refine lstore K S (l' := #[.val (.long x0), .second, .val (.int x1), .val (.int x2), .val (.int x3), .val (.long t4), .second, .val (.ref o7), .val (.int r21), .val (.int r29), .val (.long r92), .second, .val (.int x1), .val (.int x2), .val (.int r21), .val (.int r29), .val (.long r92), .second]) rfl d0_112 ?_
    refine iload K S rfl d0_114 ?_
    refine ificz_eq K S d0_116 (fun (c116 : r29.toInt = 0) => ?_) (fun (c116 : ¬ r29.toInt = 0) => ?_)
    · refine aload K S rfl rfl d0_152 ?_
      refine callV K S (W := 0) (m_held l Z a0 hw n0 o7 H85 h85_6 (Sle S) F_held_o7) E_o7 (hwi hw 17 rfl) (hwi hw 18 rfl) (hwi hw 20 rfl) (hwi hw 19 rfl) (hwi hw 21 rfl) (hwi hw 3 rfl) (by decide) (by decide) (by decide) (by decide) (by decide) rfl (argsL := []) rfl (lenOf pd_4 rfl) (rest := []) rfl (Nat.le_of_eq rfl) d0_154 (pu fun T S => ?_)
      show Wp n0 p e _ s below _ T (mkF m 157 #[.val (.long x0), .second, .val (.int x1), .val (.int x2), .val (.int x3), .val (.long t4), .second, .val (.ref o7), .val (.int r21), .val (.int r29), .val (.long r92), .second, .val (.int x1), .val (.int x2), .val (.int r21), .val (.int r29), .val (.long r92), .second] [.long H85])
      refine lconst K S (X := (0 : Int64)) rfl d0_157 ?_
      refine lcmpz_ne K S d0_158 d0_159 (fun (c159 : ¬ H85.toInt = 0) => ?_) (fun (c159 : H85.toInt = 0) => ?_)
      · exfalso; have Z0 : (0 : Int64).toInt = 0 := rfl; omega
      refine aload K S rfl rfl d0_162 ?_
      refine callV K S (W := 0) (m_limit l Z a0 hw n0 o7 t4 h85_6 (Sle S) F_limit_o7) E_o7 (hwi hw 33 rfl) (hwi hw 34 rfl) (hwi hw 36 rfl) (hwi hw 35 rfl) (hwi hw 37 rfl) (hwi hw 3 rfl) (by decide) (by decide) (by decide) (by decide) (by decide) rfl (argsL := []) rfl (lenOf pd_7 rfl) (rest := []) rfl (Nat.le_of_eq rfl) d0_164 (pu fun T S => ?_)
      show Wp n0 p e _ s below _ T (mkF m 167 #[.val (.long x0), .second, .val (.int x1), .val (.int x2), .val (.int x3), .val (.long t4), .second, .val (.ref o7), .val (.int r21), .val (.int r29), .val (.long r92), .second, .val (.int x1), .val (.int x2), .val (.int r21), .val (.int r29), .val (.long r92), .second] [.long t4])
      refine lload K S rfl d0_167 ?_
      refine lcmpz_ne K S d0_169 d0_170 (fun (c170 : ¬ t4.toInt = t4.toInt) => ?_) (fun (c170 : t4.toInt = t4.toInt) => ?_)
      · exact absurd rfl c170
      refine iconst K S (x := (1 : Int32)) rfl d0_173 ?_
      refine goto K S d0_174 ?_
      refine retn K S (by simp) (y := (1 : Int32)) rfl (by decide) (by decide) d0_178 ?_
      rfl
    refine aload K S rfl rfl d0_119 ?_
    refine iload K S rfl d0_121 ?_
    refine callV K S (W := 0) (m_give l Z a0 hw n0 o7 x2 t4 H85 h85_6 (Sle S) g_o7 E_o7 F_limit_o7 F_held_o7 (by have Z0 : (0 : Int64).toInt = 0 := rfl; omega) (by have Z0 : (0 : Int64).toInt = 0 := rfl; omega)) E_o7 (hwi hw 24 rfl) (hwi hw 25 rfl) (hwi hw 27 rfl) (hwi hw 26 rfl) (hwi hw 28 rfl) (hwi hw 3 rfl) (by decide) (by decide) (by decide) (by decide) (by decide) rfl (argsL := [.int x2]) rfl (lenOf pd_5 rfl) (rest := []) rfl (Nat.le_of_eq rfl) d0_123 (ef fun T h123_7 hP S => ?_)
    obtain ⟨H123, E_o7, F_limit_o7, F_held_o7, q123⟩ := hP
    show Wp n0 p e _ s below _ T (mkF m 126 #[.val (.long x0), .second, .val (.int x1), .val (.int x2), .val (.int x3), .val (.long t4), .second, .val (.ref o7), .val (.int r21), .val (.int r29), .val (.long r92), .second, .val (.int x1), .val (.int x2), .val (.int r21), .val (.int r29), .val (.long r92), .second] [])
    refine lload K S rfl d0_126 ?_
    refine iload K S rfl d0_128 ?_
    refine callS K S (W := 0) (m_after l Z a0 hw n0 r92 x2 h123_7 (Sle S) (by have Z0 : (0 : Int64).toInt = 0 := rfl; omega) (by have Z0 : (0 : Int64).toInt = 0 := rfl; omega)) (hwi hw 29 rfl) (hwi hw 30 rfl) (hwi hw 32 rfl) (hwi hw 31 rfl) (by decide) (by decide) (by decide) (by decide) (by decide) rfl (argsL := [.long r92, .int x2]) rfl (lenOf pd_6 rfl) (rest := []) rfl (Nat.le_of_eq rfl) d0_130 (prL fun T r130 pr130 S => ?_)
    show Wp n0 p e _ s below _ T (mkF m 133 #[.val (.long x0), .second, .val (.int x1), .val (.int x2), .val (.int x3), .val (.long t4), .second, .val (.ref o7), .val (.int r21), .val (.int r29), .val (.long r92), .second, .val (.int x1), .val (.int x2), .val (.int r21), .val (.int r29), .val (.long r92), .second] [.long r130])
    refine lstore K S (l' := #[.val (.long x0), .second, .val (.int x1), .val (.int x2), .val (.int x3), .val (.long t4), .second, .val (.ref o7), .val (.int r21), .val (.int r29), .val (.long r92), .second, .val (.int x1), .val (.int x2), .val (.int r21), .val (.int r29), .val (.long r130), .second]) rfl d0_133 ?_
    refine aload K S rfl rfl d0_135 ?_
    refine callV K S (W := 0) (m_held l Z a0 hw n0 o7 H123 h123_7 (Sle S) F_held_o7) E_o7 (hwi hw 17 rfl) (hwi hw 18 rfl) (hwi hw 20 rfl) (hwi hw 19 rfl) (hwi hw 21 rfl) (hwi hw 3 rfl) (by decide) (by decide) (by decide) (by decide) (by decide) rfl (argsL := []) rfl (lenOf pd_4 rfl) (rest := []) rfl (Nat.le_of_eq rfl) d0_137 (pu fun T S => ?_)
    show Wp n0 p e _ s below _ T (mkF m 140 #[.val (.long x0), .second, .val (.int x1), .val (.int x2), .val (.int x3), .val (.long t4), .second, .val (.ref o7), .val (.int r21), .val (.int r29), .val (.long r92), .second, .val (.int x1), .val (.int x2), .val (.int r21), .val (.int r29), .val (.long r130), .second] [.long H123])
    refine lload K S rfl d0_140 ?_
    refine lcmpz_eq K S d0_142 d0_143 (fun (c143 : H123.toInt = r130.toInt) => ?_) (fun (c143 : ¬ H123.toInt = r130.toInt) => ?_)
    rotate_left
    · exfalso; have Z0 : (0 : Int64).toInt = 0 := rfl; omega
    refine lload K S rfl d0_148 ?_
    refine lstore K S (l' := #[.val (.long x0), .second, .val (.int x1), .val (.int x2), .val (.int x3), .val (.long t4), .second, .val (.ref o7), .val (.int r21), .val (.int r29), .val (.long r130), .second, .val (.int x1), .val (.int x2), .val (.int r21), .val (.int r29), .val (.long r130), .second]) rfl d0_150 ?_
    refine aload K S rfl rfl d0_152 ?_
    refine callV K S (W := 0) (m_held l Z a0 hw n0 o7 H123 h123_7 (Sle S) F_held_o7) E_o7 (hwi hw 17 rfl) (hwi hw 18 rfl) (hwi hw 20 rfl) (hwi hw 19 rfl) (hwi hw 21 rfl) (hwi hw 3 rfl) (by decide) (by decide) (by decide) (by decide) (by decide) rfl (argsL := []) rfl (lenOf pd_4 rfl) (rest := []) rfl (Nat.le_of_eq rfl) d0_154 (pu fun T S => ?_)
    show Wp n0 p e _ s below _ T (mkF m 157 #[.val (.long x0), .second, .val (.int x1), .val (.int x2), .val (.int x3), .val (.long t4), .second, .val (.ref o7), .val (.int r21), .val (.int r29), .val (.long r130), .second, .val (.int x1), .val (.int x2), .val (.int r21), .val (.int r29), .val (.long r130), .second] [.long H123])
    refine lconst K S (X := (0 : Int64)) rfl d0_157 ?_
    refine lcmpz_ne K S d0_158 d0_159 (fun (c159 : ¬ H123.toInt = 0) => ?_) (fun (c159 : H123.toInt = 0) => ?_)
    · exfalso; have Z0 : (0 : Int64).toInt = 0 := rfl; omega
    refine aload K S rfl rfl d0_162 ?_
    refine callV K S (W := 0) (m_limit l Z a0 hw n0 o7 t4 h123_7 (Sle S) F_limit_o7) E_o7 (hwi hw 33 rfl) (hwi hw 34 rfl) (hwi hw 36 rfl) (hwi hw 35 rfl) (hwi hw 37 rfl) (hwi hw 3 rfl) (by decide) (by decide) (by decide) (by decide) (by decide) rfl (argsL := []) rfl (lenOf pd_7 rfl) (rest := []) rfl (Nat.le_of_eq rfl) d0_164 (pu fun T S => ?_)
    show Wp n0 p e _ s below _ T (mkF m 167 #[.val (.long x0), .second, .val (.int x1), .val (.int x2), .val (.int x3), .val (.long t4), .second, .val (.ref o7), .val (.int r21), .val (.int r29), .val (.long r130), .second, .val (.int x1), .val (.int x2), .val (.int r21), .val (.int r29), .val (.long r130), .second] [.long t4])
    refine lload K S rfl d0_167 ?_
    refine lcmpz_ne K S d0_169 d0_170 (fun (c170 : ¬ t4.toInt = t4.toInt) => ?_) (fun (c170 : t4.toInt = t4.toInt) => ?_)
    · exact absurd rfl c170
    refine iconst K S (x := (1 : Int32)) rfl d0_173 ?_
    refine goto K S d0_174 ?_
    refine retn K S (by simp) (y := (1 : Int32)) rfl (by decide) (by decide) d0_178 ?_
    rfl
  refine iload_n K S rfl d0_62 ?_
  refine istore K S (l' := #[.val (.long x0), .second, .val (.int x1), .val (.int x2), .val (.int x3), .val (.long t4), .second, .val (.ref o7), .val (.int r21), .val (.int r29), .val (.long H29), .second, .val (.int x2), .val (.int x2), .val (.int r21), .val (.int r29), .unset, .unset]) rfl d0_63 ?_
  refine iload_n K S rfl d0_65 ?_
  refine istore K S (l' := #[.val (.long x0), .second, .val (.int x1), .val (.int x2), .val (.int x3), .val (.long t4), .second, .val (.ref o7), .val (.int r21), .val (.int r29), .val (.long H29), .second, .val (.int x2), .val (.int x1), .val (.int r21), .val (.int r29), .unset, .unset]) rfl d0_66 ?_
  refine iload K S rfl d0_68 ?_
  refine istore K S (l' := #[.val (.long x0), .second, .val (.int x1), .val (.int x2), .val (.int x3), .val (.long t4), .second, .val (.ref o7), .val (.int r21), .val (.int r29), .val (.long H29), .second, .val (.int x2), .val (.int x1), .val (.int r29), .val (.int r29), .unset, .unset]) rfl d0_70 ?_
  refine iload K S rfl d0_72 ?_
  refine istore K S (l' := #[.val (.long x0), .second, .val (.int x1), .val (.int x2), .val (.int x3), .val (.long t4), .second, .val (.ref o7), .val (.int r21), .val (.int r29), .val (.long H29), .second, .val (.int x2), .val (.int x1), .val (.int r29), .val (.int r21), .unset, .unset]) rfl d0_74 ?_
  refine iload K S rfl d0_76 ?_
  refine ificz_eq K S d0_78 (fun (c78 : r29.toInt = 0) => ?_) (fun (c78 : ¬ r29.toInt = 0) => ?_)
  · refine iload K S rfl d0_114 ?_
    refine ificz_eq K S d0_116 (fun (c116 : r21.toInt = 0) => ?_) (fun (c116 : ¬ r21.toInt = 0) => ?_)
    · refine aload K S rfl rfl d0_152 ?_
      refine callV K S (W := 0) (m_held l Z a0 hw n0 o7 H29 h29_4 (Sle S) F_held_o7) E_o7 (hwi hw 17 rfl) (hwi hw 18 rfl) (hwi hw 20 rfl) (hwi hw 19 rfl) (hwi hw 21 rfl) (hwi hw 3 rfl) (by decide) (by decide) (by decide) (by decide) (by decide) rfl (argsL := []) rfl (lenOf pd_4 rfl) (rest := []) rfl (Nat.le_of_eq rfl) d0_154 (pu fun T S => ?_)
      show Wp n0 p e _ s below _ T (mkF m 157 #[.val (.long x0), .second, .val (.int x1), .val (.int x2), .val (.int x3), .val (.long t4), .second, .val (.ref o7), .val (.int r21), .val (.int r29), .val (.long H29), .second, .val (.int x2), .val (.int x1), .val (.int r29), .val (.int r21), .unset, .unset] [.long H29])
      refine lconst K S (X := (0 : Int64)) rfl d0_157 ?_
      refine lcmpz_ne K S d0_158 d0_159 (fun (c159 : ¬ H29.toInt = 0) => ?_) (fun (c159 : H29.toInt = 0) => ?_)
      · exfalso; have Z0 : (0 : Int64).toInt = 0 := rfl; omega
      refine aload K S rfl rfl d0_162 ?_
      refine callV K S (W := 0) (m_limit l Z a0 hw n0 o7 t4 h29_4 (Sle S) F_limit_o7) E_o7 (hwi hw 33 rfl) (hwi hw 34 rfl) (hwi hw 36 rfl) (hwi hw 35 rfl) (hwi hw 37 rfl) (hwi hw 3 rfl) (by decide) (by decide) (by decide) (by decide) (by decide) rfl (argsL := []) rfl (lenOf pd_7 rfl) (rest := []) rfl (Nat.le_of_eq rfl) d0_164 (pu fun T S => ?_)
      show Wp n0 p e _ s below _ T (mkF m 167 #[.val (.long x0), .second, .val (.int x1), .val (.int x2), .val (.int x3), .val (.long t4), .second, .val (.ref o7), .val (.int r21), .val (.int r29), .val (.long H29), .second, .val (.int x2), .val (.int x1), .val (.int r29), .val (.int r21), .unset, .unset] [.long t4])
      refine lload K S rfl d0_167 ?_
      refine lcmpz_ne K S d0_169 d0_170 (fun (c170 : ¬ t4.toInt = t4.toInt) => ?_) (fun (c170 : t4.toInt = t4.toInt) => ?_)
      · exact absurd rfl c170
      refine iconst K S (x := (1 : Int32)) rfl d0_173 ?_
      refine goto K S d0_174 ?_
      refine retn K S (by simp) (y := (1 : Int32)) rfl (by decide) (by decide) d0_178 ?_
      rfl
    refine aload K S rfl rfl d0_119 ?_
    refine iload K S rfl d0_121 ?_
    refine callV K S (W := 0) (m_give l Z a0 hw n0 o7 x1 t4 H29 h29_4 (Sle S) g_o7 E_o7 F_limit_o7 F_held_o7 (by have Z0 : (0 : Int64).toInt = 0 := rfl; omega) (by have Z0 : (0 : Int64).toInt = 0 := rfl; omega)) E_o7 (hwi hw 24 rfl) (hwi hw 25 rfl) (hwi hw 27 rfl) (hwi hw 26 rfl) (hwi hw 28 rfl) (hwi hw 3 rfl) (by decide) (by decide) (by decide) (by decide) (by decide) rfl (argsL := [.int x1]) rfl (lenOf pd_5 rfl) (rest := []) rfl (Nat.le_of_eq rfl) d0_123 (ef fun T h123_8 hP S => ?_)
    obtain ⟨H123, E_o7, F_limit_o7, F_held_o7, q123⟩ := hP
    show Wp n0 p e _ s below _ T (mkF m 126 #[.val (.long x0), .second, .val (.int x1), .val (.int x2), .val (.int x3), .val (.long t4), .second, .val (.ref o7), .val (.int r21), .val (.int r29), .val (.long H29), .second, .val (.int x2), .val (.int x1), .val (.int r29), .val (.int r21), .unset, .unset] [])
    refine lload K S rfl d0_126 ?_
    refine iload K S rfl d0_128 ?_
    refine callS K S (W := 0) (m_after l Z a0 hw n0 H29 x1 h123_8 (Sle S) (by have Z0 : (0 : Int64).toInt = 0 := rfl; omega) (by have Z0 : (0 : Int64).toInt = 0 := rfl; omega)) (hwi hw 29 rfl) (hwi hw 30 rfl) (hwi hw 32 rfl) (hwi hw 31 rfl) (by decide) (by decide) (by decide) (by decide) (by decide) rfl (argsL := [.long H29, .int x1]) rfl (lenOf pd_6 rfl) (rest := []) rfl (Nat.le_of_eq rfl) d0_130 (prL fun T r130 pr130 S => ?_)
    show Wp n0 p e _ s below _ T (mkF m 133 #[.val (.long x0), .second, .val (.int x1), .val (.int x2), .val (.int x3), .val (.long t4), .second, .val (.ref o7), .val (.int r21), .val (.int r29), .val (.long H29), .second, .val (.int x2), .val (.int x1), .val (.int r29), .val (.int r21), .unset, .unset] [.long r130])
    refine lstore K S (l' := #[.val (.long x0), .second, .val (.int x1), .val (.int x2), .val (.int x3), .val (.long t4), .second, .val (.ref o7), .val (.int r21), .val (.int r29), .val (.long H29), .second, .val (.int x2), .val (.int x1), .val (.int r29), .val (.int r21), .val (.long r130), .second]) rfl d0_133 ?_
    refine aload K S rfl rfl d0_135 ?_
    refine callV K S (W := 0) (m_held l Z a0 hw n0 o7 H123 h123_8 (Sle S) F_held_o7) E_o7 (hwi hw 17 rfl) (hwi hw 18 rfl) (hwi hw 20 rfl) (hwi hw 19 rfl) (hwi hw 21 rfl) (hwi hw 3 rfl) (by decide) (by decide) (by decide) (by decide) (by decide) rfl (argsL := []) rfl (lenOf pd_4 rfl) (rest := []) rfl (Nat.le_of_eq rfl) d0_137 (pu fun T S => ?_)
    show Wp n0 p e _ s below _ T (mkF m 140 #[.val (.long x0), .second, .val (.int x1), .val (.int x2), .val (.int x3), .val (.long t4), .second, .val (.ref o7), .val (.int r21), .val (.int r29), .val (.long H29), .second, .val (.int x2), .val (.int x1), .val (.int r29), .val (.int r21), .val (.long r130), .second] [.long H123])
    refine lload K S rfl d0_140 ?_
    refine lcmpz_eq K S d0_142 d0_143 (fun (c143 : H123.toInt = r130.toInt) => ?_) (fun (c143 : ¬ H123.toInt = r130.toInt) => ?_)
    rotate_left
    · exfalso; have Z0 : (0 : Int64).toInt = 0 := rfl; omega
    refine lload K S rfl d0_148 ?_
    refine lstore K S (l' := #[.val (.long x0), .second, .val (.int x1), .val (.int x2), .val (.int x3), .val (.long t4), .second, .val (.ref o7), .val (.int r21), .val (.int r29), .val (.long r130), .second, .val (.int x2), .val (.int x1), .val (.int r29), .val (.int r21), .val (.long r130), .second]) rfl d0_150 ?_
    refine aload K S rfl rfl d0_152 ?_
    refine callV K S (W := 0) (m_held l Z a0 hw n0 o7 H123 h123_8 (Sle S) F_held_o7) E_o7 (hwi hw 17 rfl) (hwi hw 18 rfl) (hwi hw 20 rfl) (hwi hw 19 rfl) (hwi hw 21 rfl) (hwi hw 3 rfl) (by decide) (by decide) (by decide) (by decide) (by decide) rfl (argsL := []) rfl (lenOf pd_4 rfl) (rest := []) rfl (Nat.le_of_eq rfl) d0_154 (pu fun T S => ?_)
    show Wp n0 p e _ s below _ T (mkF m 157 #[.val (.long x0), .second, .val (.int x1), .val (.int x2), .val (.int x3), .val (.long t4), .second, .val (.ref o7), .val (.int r21), .val (.int r29), .val (.long r130), .second, .val (.int x2), .val (.int x1), .val (.int r29), .val (.int r21), .val (.long r130), .second] [.long H123])
    refine lconst K S (X := (0 : Int64)) rfl d0_157 ?_
    refine lcmpz_ne K S d0_158 d0_159 (fun (c159 : ¬ H123.toInt = 0) => ?_) (fun (c159 : H123.toInt = 0) => ?_)
    · exfalso; have Z0 : (0 : Int64).toInt = 0 := rfl; omega
    refine aload K S rfl rfl d0_162 ?_
    refine callV K S (W := 0) (m_limit l Z a0 hw n0 o7 t4 h123_8 (Sle S) F_limit_o7) E_o7 (hwi hw 33 rfl) (hwi hw 34 rfl) (hwi hw 36 rfl) (hwi hw 35 rfl) (hwi hw 37 rfl) (hwi hw 3 rfl) (by decide) (by decide) (by decide) (by decide) (by decide) rfl (argsL := []) rfl (lenOf pd_7 rfl) (rest := []) rfl (Nat.le_of_eq rfl) d0_164 (pu fun T S => ?_)
    show Wp n0 p e _ s below _ T (mkF m 167 #[.val (.long x0), .second, .val (.int x1), .val (.int x2), .val (.int x3), .val (.long t4), .second, .val (.ref o7), .val (.int r21), .val (.int r29), .val (.long r130), .second, .val (.int x2), .val (.int x1), .val (.int r29), .val (.int r21), .val (.long r130), .second] [.long t4])
    refine lload K S rfl d0_167 ?_
    refine lcmpz_ne K S d0_169 d0_170 (fun (c170 : ¬ t4.toInt = t4.toInt) => ?_) (fun (c170 : t4.toInt = t4.toInt) => ?_)
    · exact absurd rfl c170
    refine iconst K S (x := (1 : Int32)) rfl d0_173 ?_
    refine goto K S d0_174 ?_
    refine retn K S (by simp) (y := (1 : Int32)) rfl (by decide) (by decide) d0_178 ?_
    rfl
  refine aload K S rfl rfl d0_81 ?_
  refine iload K S rfl d0_83 ?_
  refine callV K S (W := 0) (m_give l Z a0 hw n0 o7 x2 t4 H29 h29_4 (Sle S) g_o7 E_o7 F_limit_o7 F_held_o7 (by have Z0 : (0 : Int64).toInt = 0 := rfl; omega) (by have Z0 : (0 : Int64).toInt = 0 := rfl; omega)) E_o7 (hwi hw 24 rfl) (hwi hw 25 rfl) (hwi hw 27 rfl) (hwi hw 26 rfl) (hwi hw 28 rfl) (hwi hw 3 rfl) (by decide) (by decide) (by decide) (by decide) (by decide) rfl (argsL := [.int x2]) rfl (lenOf pd_5 rfl) (rest := []) rfl (Nat.le_of_eq rfl) d0_85 (ef fun T h85_9 hP S => ?_)
  obtain ⟨H85, E_o7, F_limit_o7, F_held_o7, q85⟩ := hP
  show Wp n0 p e _ s below _ T (mkF m 88 #[.val (.long x0), .second, .val (.int x1), .val (.int x2), .val (.int x3), .val (.long t4), .second, .val (.ref o7), .val (.int r21), .val (.int r29), .val (.long H29), .second, .val (.int x2), .val (.int x1), .val (.int r29), .val (.int r21), .unset, .unset] [])
  refine lload K S rfl d0_88 ?_
  refine iload K S rfl d0_90 ?_
  refine callS K S (W := 0) (m_after l Z a0 hw n0 H29 x2 h85_9 (Sle S) (by have Z0 : (0 : Int64).toInt = 0 := rfl; omega) (by have Z0 : (0 : Int64).toInt = 0 := rfl; omega)) (hwi hw 29 rfl) (hwi hw 30 rfl) (hwi hw 32 rfl) (hwi hw 31 rfl) (by decide) (by decide) (by decide) (by decide) (by decide) rfl (argsL := [.long H29, .int x2]) rfl (lenOf pd_6 rfl) (rest := []) rfl (Nat.le_of_eq rfl) d0_92 (prL fun T r92 pr92 S => ?_)
  show Wp n0 p e _ s below _ T (mkF m 95 #[.val (.long x0), .second, .val (.int x1), .val (.int x2), .val (.int x3), .val (.long t4), .second, .val (.ref o7), .val (.int r21), .val (.int r29), .val (.long H29), .second, .val (.int x2), .val (.int x1), .val (.int r29), .val (.int r21), .unset, .unset] [.long r92])
  refine lstore K S (l' := #[.val (.long x0), .second, .val (.int x1), .val (.int x2), .val (.int x3), .val (.long t4), .second, .val (.ref o7), .val (.int r21), .val (.int r29), .val (.long H29), .second, .val (.int x2), .val (.int x1), .val (.int r29), .val (.int r21), .val (.long r92), .second]) rfl d0_95 ?_
  refine aload K S rfl rfl d0_97 ?_
  refine callV K S (W := 0) (m_held l Z a0 hw n0 o7 H85 h85_9 (Sle S) F_held_o7) E_o7 (hwi hw 17 rfl) (hwi hw 18 rfl) (hwi hw 20 rfl) (hwi hw 19 rfl) (hwi hw 21 rfl) (hwi hw 3 rfl) (by decide) (by decide) (by decide) (by decide) (by decide) rfl (argsL := []) rfl (lenOf pd_4 rfl) (rest := []) rfl (Nat.le_of_eq rfl) d0_99 (pu fun T S => ?_)
  show Wp n0 p e _ s below _ T (mkF m 102 #[.val (.long x0), .second, .val (.int x1), .val (.int x2), .val (.int x3), .val (.long t4), .second, .val (.ref o7), .val (.int r21), .val (.int r29), .val (.long H29), .second, .val (.int x2), .val (.int x1), .val (.int r29), .val (.int r21), .val (.long r92), .second] [.long H85])
  refine lload K S rfl d0_102 ?_
  refine lcmpz_eq K S d0_104 d0_105 (fun (c105 : H85.toInt = r92.toInt) => ?_) (fun (c105 : ¬ H85.toInt = r92.toInt) => ?_)
  rotate_left
  · exfalso; have Z0 : (0 : Int64).toInt = 0 := rfl; omega
  refine lload K S rfl d0_110 ?_
  refine lstore K S (l' := #[.val (.long x0), .second, .val (.int x1), .val (.int x2), .val (.int x3), .val (.long t4), .second, .val (.ref o7), .val (.int r21), .val (.int r29), .val (.long r92), .second, .val (.int x2), .val (.int x1), .val (.int r29), .val (.int r21), .val (.long r92), .second]) rfl d0_112 ?_
  refine iload K S rfl d0_114 ?_
  refine ificz_eq K S d0_116 (fun (c116 : r21.toInt = 0) => ?_) (fun (c116 : ¬ r21.toInt = 0) => ?_)
  · refine aload K S rfl rfl d0_152 ?_
    refine callV K S (W := 0) (m_held l Z a0 hw n0 o7 H85 h85_9 (Sle S) F_held_o7) E_o7 (hwi hw 17 rfl) (hwi hw 18 rfl) (hwi hw 20 rfl) (hwi hw 19 rfl) (hwi hw 21 rfl) (hwi hw 3 rfl) (by decide) (by decide) (by decide) (by decide) (by decide) rfl (argsL := []) rfl (lenOf pd_4 rfl) (rest := []) rfl (Nat.le_of_eq rfl) d0_154 (pu fun T S => ?_)
    show Wp n0 p e _ s below _ T (mkF m 157 #[.val (.long x0), .second, .val (.int x1), .val (.int x2), .val (.int x3), .val (.long t4), .second, .val (.ref o7), .val (.int r21), .val (.int r29), .val (.long r92), .second, .val (.int x2), .val (.int x1), .val (.int r29), .val (.int r21), .val (.long r92), .second] [.long H85])
    refine lconst K S (X := (0 : Int64)) rfl d0_157 ?_
    refine lcmpz_ne K S d0_158 d0_159 (fun (c159 : ¬ H85.toInt = 0) => ?_) (fun (c159 : H85.toInt = 0) => ?_)
    · exfalso; have Z0 : (0 : Int64).toInt = 0 := rfl; omega
    refine aload K S rfl rfl d0_162 ?_
    refine callV K S (W := 0) (m_limit l Z a0 hw n0 o7 t4 h85_9 (Sle S) F_limit_o7) E_o7 (hwi hw 33 rfl) (hwi hw 34 rfl) (hwi hw 36 rfl) (hwi hw 35 rfl) (hwi hw 37 rfl) (hwi hw 3 rfl) (by decide) (by decide) (by decide) (by decide) (by decide) rfl (argsL := []) rfl (lenOf pd_7 rfl) (rest := []) rfl (Nat.le_of_eq rfl) d0_164 (pu fun T S => ?_)
    show Wp n0 p e _ s below _ T (mkF m 167 #[.val (.long x0), .second, .val (.int x1), .val (.int x2), .val (.int x3), .val (.long t4), .second, .val (.ref o7), .val (.int r21), .val (.int r29), .val (.long r92), .second, .val (.int x2), .val (.int x1), .val (.int r29), .val (.int r21), .val (.long r92), .second] [.long t4])
    refine lload K S rfl d0_167 ?_
    refine lcmpz_ne K S d0_169 d0_170 (fun (c170 : ¬ t4.toInt = t4.toInt) => ?_) (fun (c170 : t4.toInt = t4.toInt) => ?_)
    · exact absurd rfl c170
    refine iconst K S (x := (1 : Int32)) rfl d0_173 ?_
    refine goto K S d0_174 ?_
    refine retn K S (by simp) (y := (1 : Int32)) rfl (by decide) (by decide) d0_178 ?_
    rfl
  refine aload K S rfl rfl d0_119 ?_
  refine iload K S rfl d0_121 ?_
  refine callV K S (W := 0) (m_give l Z a0 hw n0 o7 x1 t4 H85 h85_9 (Sle S) g_o7 E_o7 F_limit_o7 F_held_o7 (by have Z0 : (0 : Int64).toInt = 0 := rfl; omega) (by have Z0 : (0 : Int64).toInt = 0 := rfl; omega)) E_o7 (hwi hw 24 rfl) (hwi hw 25 rfl) (hwi hw 27 rfl) (hwi hw 26 rfl) (hwi hw 28 rfl) (hwi hw 3 rfl) (by decide) (by decide) (by decide) (by decide) (by decide) rfl (argsL := [.int x1]) rfl (lenOf pd_5 rfl) (rest := []) rfl (Nat.le_of_eq rfl) d0_123 (ef fun T h123_10 hP S => ?_)
  obtain ⟨H123, E_o7, F_limit_o7, F_held_o7, q123⟩ := hP
  show Wp n0 p e _ s below _ T (mkF m 126 #[.val (.long x0), .second, .val (.int x1), .val (.int x2), .val (.int x3), .val (.long t4), .second, .val (.ref o7), .val (.int r21), .val (.int r29), .val (.long r92), .second, .val (.int x2), .val (.int x1), .val (.int r29), .val (.int r21), .val (.long r92), .second] [])
  refine lload K S rfl d0_126 ?_
  refine iload K S rfl d0_128 ?_
  refine callS K S (W := 0) (m_after l Z a0 hw n0 r92 x1 h123_10 (Sle S) (by have Z0 : (0 : Int64).toInt = 0 := rfl; omega) (by have Z0 : (0 : Int64).toInt = 0 := rfl; omega)) (hwi hw 29 rfl) (hwi hw 30 rfl) (hwi hw 32 rfl) (hwi hw 31 rfl) (by decide) (by decide) (by decide) (by decide) (by decide) rfl (argsL := [.long r92, .int x1]) rfl (lenOf pd_6 rfl) (rest := []) rfl (Nat.le_of_eq rfl) d0_130 (prL fun T r130 pr130 S => ?_)
  show Wp n0 p e _ s below _ T (mkF m 133 #[.val (.long x0), .second, .val (.int x1), .val (.int x2), .val (.int x3), .val (.long t4), .second, .val (.ref o7), .val (.int r21), .val (.int r29), .val (.long r92), .second, .val (.int x2), .val (.int x1), .val (.int r29), .val (.int r21), .val (.long r92), .second] [.long r130])
  refine lstore K S (l' := #[.val (.long x0), .second, .val (.int x1), .val (.int x2), .val (.int x3), .val (.long t4), .second, .val (.ref o7), .val (.int r21), .val (.int r29), .val (.long r92), .second, .val (.int x2), .val (.int x1), .val (.int r29), .val (.int r21), .val (.long r130), .second]) rfl d0_133 ?_
  refine aload K S rfl rfl d0_135 ?_
  refine callV K S (W := 0) (m_held l Z a0 hw n0 o7 H123 h123_10 (Sle S) F_held_o7) E_o7 (hwi hw 17 rfl) (hwi hw 18 rfl) (hwi hw 20 rfl) (hwi hw 19 rfl) (hwi hw 21 rfl) (hwi hw 3 rfl) (by decide) (by decide) (by decide) (by decide) (by decide) rfl (argsL := []) rfl (lenOf pd_4 rfl) (rest := []) rfl (Nat.le_of_eq rfl) d0_137 (pu fun T S => ?_)
  show Wp n0 p e _ s below _ T (mkF m 140 #[.val (.long x0), .second, .val (.int x1), .val (.int x2), .val (.int x3), .val (.long t4), .second, .val (.ref o7), .val (.int r21), .val (.int r29), .val (.long r92), .second, .val (.int x2), .val (.int x1), .val (.int r29), .val (.int r21), .val (.long r130), .second] [.long H123])
  refine lload K S rfl d0_140 ?_
  refine lcmpz_eq K S d0_142 d0_143 (fun (c143 : H123.toInt = r130.toInt) => ?_) (fun (c143 : ¬ H123.toInt = r130.toInt) => ?_)
  rotate_left
  · exfalso; have Z0 : (0 : Int64).toInt = 0 := rfl; omega
  refine lload K S rfl d0_148 ?_
  refine lstore K S (l' := #[.val (.long x0), .second, .val (.int x1), .val (.int x2), .val (.int x3), .val (.long t4), .second, .val (.ref o7), .val (.int r21), .val (.int r29), .val (.long r130), .second, .val (.int x2), .val (.int x1), .val (.int r29), .val (.int r21), .val (.long r130), .second]) rfl d0_150 ?_
  refine aload K S rfl rfl d0_152 ?_
  refine callV K S (W := 0) (m_held l Z a0 hw n0 o7 H123 h123_10 (Sle S) F_held_o7) E_o7 (hwi hw 17 rfl) (hwi hw 18 rfl) (hwi hw 20 rfl) (hwi hw 19 rfl) (hwi hw 21 rfl) (hwi hw 3 rfl) (by decide) (by decide) (by decide) (by decide) (by decide) rfl (argsL := []) rfl (lenOf pd_4 rfl) (rest := []) rfl (Nat.le_of_eq rfl) d0_154 (pu fun T S => ?_)
  show Wp n0 p e _ s below _ T (mkF m 157 #[.val (.long x0), .second, .val (.int x1), .val (.int x2), .val (.int x3), .val (.long t4), .second, .val (.ref o7), .val (.int r21), .val (.int r29), .val (.long r130), .second, .val (.int x2), .val (.int x1), .val (.int r29), .val (.int r21), .val (.long r130), .second] [.long H123])
  refine lconst K S (X := (0 : Int64)) rfl d0_157 ?_
  refine lcmpz_ne K S d0_158 d0_159 (fun (c159 : ¬ H123.toInt = 0) => ?_) (fun (c159 : H123.toInt = 0) => ?_)
  · exfalso; have Z0 : (0 : Int64).toInt = 0 := rfl; omega
  refine aload K S rfl rfl d0_162 ?_
  refine callV K S (W := 0) (m_limit l Z a0 hw n0 o7 t4 h123_10 (Sle S) F_limit_o7) E_o7 (hwi hw 33 rfl) (hwi hw 34 rfl) (hwi hw 36 rfl) (hwi hw 35 rfl) (hwi hw 37 rfl) (hwi hw 3 rfl) (by decide) (by decide) (by decide) (by decide) (by decide) rfl (argsL := []) rfl (lenOf pd_7 rfl) (rest := []) rfl (Nat.le_of_eq rfl) d0_164 (pu fun T S => ?_)
  show Wp n0 p e _ s below _ T (mkF m 167 #[.val (.long x0), .second, .val (.int x1), .val (.int x2), .val (.int x3), .val (.long t4), .second, .val (.ref o7), .val (.int r21), .val (.int r29), .val (.long r130), .second, .val (.int x2), .val (.int x1), .val (.int r29), .val (.int r21), .val (.long r130), .second] [.long t4])
  refine lload K S rfl d0_167 ?_
  refine lcmpz_ne K S d0_169 d0_170 (fun (c170 : ¬ t4.toInt = t4.toInt) => ?_) (fun (c170 : t4.toInt = t4.toInt) => ?_)
  · exact absurd rfl c170
  refine iconst K S (x := (1 : Int32)) rfl d0_173 ?_
  refine goto K S d0_174 ?_
  refine retn K S (by simp) (y := (1 : Int32)) rfl (by decide) (by decide) d0_178 ?_
  rfl

set_option maxRecDepth 65536 in
set_option maxHeartbeats 40000000 in
theorem comes_1 {Post : Tables → Env → Array Value → State → Outcome → State → Prop} (hpost : ∀ tb e args s v u, (limb_1_1.after args s (.returned v) u = true ∧ limb_1_2.after args s (.returned v) u = true ∧ True) → FrameEnd s (.returned v) u (Jvm.fieldLocs frame_1_writes args s ++ Jvm.arrayLocs frame_1_arrays args s ++ Jvm.staticLocs frame_1_statics s) 16 128 → Post tb e args s (.returned v) u) :
    ArmFor flags0 classFile x code maxLocals ret World_1 tables_1 room_1 Calls_1 rest_1 Pre_1 Post := by
  intro l hfl _ _ p e ha hc hk s m args below hf hA hF happ hP
  obtain ⟨hcalls, hrest, hpre⟩ := hP
  obtain ⟨-, -, -, hnamed, -, -, -, hat⟩ := (Spec.applies_iff hf).mp happ
  obtain ⟨hg, hn⟩ := and_e (Cond.before_iff.mp (show (Jvm.Cond.and given_1 narrow_1).before args s = true from hpre))
  obtain ⟨gc, r0⟩ := and_e hg
  obtain ⟨g0, r1⟩ := and_e r0
  obtain ⟨g1, r2⟩ := and_e r1
  obtain ⟨g2, r3⟩ := and_e r2
  obtain ⟨w0, w1, w2, w3, rfl⟩ : ∃ w0 w1 w2 w3 : Value, args = #[w0, w1, w2, w3] := by
    have hs : args.size = 4 := by simpa [Cond.value, given_1] using gc
    obtain ⟨L⟩ := args
    match L, hs with
    | [w0, w1, w2, w3], _ => exact ⟨w0, w1, w2, w3, rfl⟩
  have hw := fun d (hd : d ∈ tables_1) => atoms_spec (ws := Jvm.Cond.code x code maxLocals ret :: tables_1) hat d (List.mem_cons_of_mem _ hd)
  obtain ⟨i0, ei0⟩ := isL_v g0
  obtain rfl : w0 = (.long i0) := Option.some.inj ei0
  obtain ⟨i1, ei1⟩ := is_v g1
  obtain rfl : w1 = (.int i1) := Option.some.inj ei1
  obtain ⟨i2, ei2⟩ := is_v g2
  obtain rfl : w2 = (.int i2) := Option.some.inj ei2
  obtain ⟨i3, ei3⟩ := is_v r3
  obtain rfl : w3 = (.int i3) := Option.some.inj ei3
  obtain ⟨n, o, h1, h2, h3, _, L, rfl, ⟨rfl, -, N⟩, hq⟩ := m_law l s _ hw s.heap.size i0 i1 i2 i3 s.heap (Nat.le_refl _) p e ha hc hk s m _ below hf ((Spec.applies_iff_loose hf).mp happ).1 ⟨rfl, State.Warmed39.refl s, rfl⟩ trivial
  refine ⟨n, _, h1, h2, h3, hpost _ _ _ _ _ _ ⟨Cond.after_iff.mpr rfl, Cond.after_iff.mpr (eq_i res_at (Term.int_eval (1)) rfl), trivial⟩ ⟨hq.1, hq.2.1, (hq.2.2.sift fun y hy => Or.inr (N y hy)).mono (by decide) (by decide)⟩⟩
theorem main_1_1 : Claimed_1_1 := comes_1 fun _ _ _ _ _ _ h hF => ⟨h.1, hF⟩
theorem main_1_2 : Claimed_1_2 := comes_1 fun _ _ _ _ _ _ h hF => ⟨h.2.1, hF⟩
end Jvm.Pilot.@@N@@
namespace Jvm.Pilot.@@N@@
open Jvm Jvm.ClassFile Sem Op Lib Jvm.Free Jvm.Stand Jvm.Pilot.@@N@@.Jvm.D
/-! MADE BY PROGRAM (witnessworld.py) out of the Statement's table words and the real class files: 9 classes; the members and pool entries that the words name. The judged class is class 1, her method 2. -/
namespace start1
open Jvm.ClassFile
def u (s : String) : CpInfo := .utf8 (stringToUtf16 s)
/-- a pool by its gaps: so many unusable entries, then the entry; so many at the end -/
def gap : Nat → List CpInfo → List CpInfo
  | 0, r => r
  | n + 1, r => .unusable :: gap n r
def poolList (es : List (Nat × CpInfo)) (last : Nat) : List CpInfo := es.foldr (fun e r => gap e.1 (e.2 :: r)) (gap last [])
def pool (es : List (Nat × CpInfo)) (last : Nat) : Array CpInfo := ⟨poolList es last⟩
def fileOf (pool : Array CpInfo) (this : Nat) (attrs : Array Attribute := #[]) (ms : Array MethodInfo := #[]) (fl : Nat := 33) (sup : Nat := 0) (ifs : Array Nat := #[]) (fds : Array FieldInfo := #[]) : ClassFile where
  minorVersion := 0
  majorVersion := 65
  constantPool := pool
  accessFlags := fl
  thisClass := this
  superClass := sup
  interfaces := ifs
  fields := fds
  methods := ms
  attributes := attrs
def plain (name : String) (sup : Option ClassId) : Class where
  name := name
  kind := .ordinary
  loader := none
  accessFlags := 33
  super := sup
  interfaces := #[]
  cf := none
  fields := #[]
  methods := #[]
  instanceTypes := #[]
  staticTypes := #[]
  resolved := #[]
  callSites := []
  init := .initialized
  statics := none
  mirror := none

def pool0 : Array CpInfo := pool [(5, u "<init>"), (0, u "()V"), (1, .class_ 10), (1, u "java/lang/Object")] 113

def k0c0 : Code := { maxStack := 0, maxLocals := 1, code := object_method_1_code, exceptionTable := #[], attributes := #[] }
def k0m0 : Method := { name := "<init>", desc := "()V", sig := { parameters := [], returnType := none }, accessFlags := 1, code := some k0c0 }
/-- java/lang/Object -/
def k0 : Class := { plain "java/lang/Object" none with
  accessFlags := 33
  interfaces := #[]
  cf := some (fileOf pool0 8 #[] #[{ accessFlags := 1, nameIndex := 5, descriptorIndex := 6, attributes := #[] }] 33 0 #[] #[])
  fields := #[]
  methods := #[k0m0]
  instanceTypes := #[]
  staticTypes := #[]
  resolved := Array.replicate 124 none
  statics := none }

def pool1 : Array CpInfo := pool [(2, .class_ 4), (1, u "java/lang/Object"), (0, u "<init>"), (0, u "()V"), (2, .long 9223372036854775807), (1, .class_ 12), (0, u "com/example/nine_elms/nineelms/server/FrameRoom"), (0, .methodref 11 14), (0, .nameAndType 5 15), (0, u "(J)V"), (0, .methodref 11 17), (0, .nameAndType 18 19), (0, u "take"), (0, u "(I)Z"), (0, .methodref 11 21), (0, .nameAndType 22 23), (0, u "held"), (0, u "()J"), (0, .methodref 11 25), (0, .nameAndType 26 27), (0, u "giveBack"), (0, u "(I)V"), (0, .methodref 29 30), (0, .class_ 31), (0, .nameAndType 32 33), (0, u "com/example/nine_elms/nineelms/server/FrameRoomGiveBackPinLaw"), (0, u "expectedAfter"), (0, u "(JI)J"), (0, .methodref 11 35), (0, .nameAndType 36 23), (0, u "limit"), (3, u "law"), (0, u "(JIII)Z")] 2

def k1m0 : Method := { name := "<init>", desc := "()V", sig := { parameters := [], returnType := none }, accessFlags := 1, code := none }
def k1c1 : Code := { maxStack := 4, maxLocals := 3, code := method_2_code, exceptionTable := #[], attributes := #[] }
def k1m1 : Method := { name := "expectedAfter", desc := "(JI)J", sig := { parameters := [.long, .int], returnType := some .long }, accessFlags := 10, code := some k1c1 }
def k1c2 : Code := { maxStack := 4, maxLocals := 18, code := code, exceptionTable := #[], attributes := #[] }
def k1m2 : Method := { name := "law", desc := "(JIII)Z", sig := { parameters := [.long, .int, .int, .int], returnType := some .boolean }, accessFlags := 9, code := some k1c2 }
/-- com/example/nine_elms/nineelms/server/FrameRoomGiveBackPinLaw -/
def k1 : Class := { plain "com/example/nine_elms/nineelms/server/FrameRoomGiveBackPinLaw" (some 0) with
  accessFlags := 49
  interfaces := #[]
  cf := some (fileOf pool1 29 #[] #[{ accessFlags := 1, nameIndex := 5, descriptorIndex := 6, attributes := #[] }, { accessFlags := 10, nameIndex := 32, descriptorIndex := 33, attributes := #[] }, { accessFlags := 9, nameIndex := 40, descriptorIndex := 41, attributes := #[] }] 49 2 #[] #[])
  fields := #[]
  methods := #[k1m0, k1m1, k1m2]
  instanceTypes := #[]
  staticTypes := #[]
  resolved := Array.replicate 44 none
  statics := none }

def pool2 : Array CpInfo := pool [(1, .methodref 2 3), (0, .class_ 4), (0, .nameAndType 5 6), (0, u "java/lang/Object"), (0, u "<init>"), (0, u "()V"), (0, .fieldref 8 9), (0, .class_ 10), (0, .nameAndType 11 12), (0, u "com/example/nine_elms/nineelms/server/FrameRoom"), (0, u "limit"), (0, u "J"), (12, u "(J)V"), (0, .fieldref 8 27), (0, .nameAndType 28 12), (0, u "held"), (0, u "SMALL_FRAME"), (0, u "I"), (2, u "LEFT_OVER"), (5, u "()J"), (0, u "take"), (0, u "(I)Z"), (1, u "giveBack"), (0, u "(I)V")] 2

def k2c0 : Code := { maxStack := 3, maxLocals := 3, code := prog_29_method_1_code, exceptionTable := #[], attributes := #[] }
def k2m0 : Method := { name := "<init>", desc := "(J)V", sig := { parameters := [.long], returnType := none }, accessFlags := 0, code := some k2c0 }
def k2c1 : Code := { maxStack := 2, maxLocals := 1, code := prog_29_method_3_code, exceptionTable := #[], attributes := #[] }
def k2m1 : Method := { name := "limit", desc := "()J", sig := { parameters := [], returnType := some .long }, accessFlags := 0, code := some k2c1 }
def k2c2 : Code := { maxStack := 2, maxLocals := 1, code := prog_29_method_4_code, exceptionTable := #[], attributes := #[] }
def k2m2 : Method := { name := "held", desc := "()J", sig := { parameters := [], returnType := some .long }, accessFlags := 0, code := some k2c2 }
def k2c3 : Code := { maxStack := 6, maxLocals := 3, code := prog_29_method_5_code, exceptionTable := #[], attributes := #[] }
def k2m3 : Method := { name := "take", desc := "(I)Z", sig := { parameters := [.int], returnType := some .boolean }, accessFlags := 0, code := some k2c3 }
def k2c4 : Code := { maxStack := 5, maxLocals := 2, code := prog_29_method_6_code, exceptionTable := #[], attributes := #[] }
def k2m4 : Method := { name := "giveBack", desc := "(I)V", sig := { parameters := [.int], returnType := none }, accessFlags := 0, code := some k2c4 }
/-- com/example/nine_elms/nineelms/server/FrameRoom -/
def k2 : Class := { plain "com/example/nine_elms/nineelms/server/FrameRoom" (some 0) with
  accessFlags := 48
  interfaces := #[]
  cf := some (fileOf pool2 8 #[] #[{ accessFlags := 0, nameIndex := 5, descriptorIndex := 25, attributes := #[] }, { accessFlags := 0, nameIndex := 11, descriptorIndex := 39, attributes := #[] }, { accessFlags := 0, nameIndex := 28, descriptorIndex := 39, attributes := #[] }, { accessFlags := 0, nameIndex := 40, descriptorIndex := 41, attributes := #[] }, { accessFlags := 0, nameIndex := 43, descriptorIndex := 44, attributes := #[] }] 48 2 #[] #[{ accessFlags := 24, nameIndex := 29, descriptorIndex := 30, attributes := #[] }, { accessFlags := 26, nameIndex := 33, descriptorIndex := 30, attributes := #[] }, { accessFlags := 18, nameIndex := 11, descriptorIndex := 12, attributes := #[] }, { accessFlags := 2, nameIndex := 28, descriptorIndex := 12, attributes := #[] }])
  fields := #[{ name := "SMALL_FRAME", type := .int, accessFlags := 24, slot := 0, constantValue := 0 }, { name := "LEFT_OVER", type := .int, accessFlags := 26, slot := 1, constantValue := 0 }, { name := "limit", type := .long, accessFlags := 18, slot := 0, constantValue := 0 }, { name := "held", type := .long, accessFlags := 2, slot := 1, constantValue := 0 }]
  methods := #[k2m0, k2m1, k2m2, k2m3, k2m4]
  instanceTypes := #[.long, .long]
  staticTypes := #[.int, .int]
  resolved := Array.replicate 47 none
  statics := none }

def pool3 : Array CpInfo := pool [(1, u "java/lang/Cloneable"), (0, .class_ 1), (0, u "java/lang/Object"), (0, .class_ 3)] 3

/-- java/lang/Cloneable -/
def k3 : Class := { plain "java/lang/Cloneable" (some 0) with
  accessFlags := 1537
  interfaces := #[]
  cf := some (fileOf pool3 2 #[] #[] 1537 4 #[] #[])
  fields := #[]
  methods := #[]
  instanceTypes := #[]
  staticTypes := #[]
  resolved := Array.replicate 8 none
  statics := none }

def pool4 : Array CpInfo := pool [(1, u "java/io/Serializable"), (0, .class_ 1), (0, u "java/lang/Object"), (0, .class_ 3)] 3

/-- java/io/Serializable -/
def k4 : Class := { plain "java/io/Serializable" (some 0) with
  accessFlags := 1537
  interfaces := #[]
  cf := some (fileOf pool4 2 #[] #[] 1537 4 #[] #[])
  fields := #[]
  methods := #[]
  instanceTypes := #[]
  staticTypes := #[]
  resolved := Array.replicate 8 none
  statics := none }

/-- the primitive byte -/
def k5 : Class := { plain "byte" none with kind := .primitive 'B', accessFlags := 0x411 }
/-- [B -/
def k6 : Class := { plain "[B" (some 0) with kind := .array 5 .byte, interfaces := #[3, 4], accessFlags := 1041 }

/-- the primitive int -/
def k7 : Class := { plain "int" none with kind := .primitive 'I', accessFlags := 0x411 }
/-- [I -/
def k8 : Class := { plain "[I" (some 0) with kind := .array 7 .int, interfaces := #[3, 4], accessFlags := 1041 }

def heap : Heap := #[]
def classes : Array Class := #[k0, k1, k2, k3, k4, k5, k6, k7, k8]
def interned : List (Array UInt16 × Addr) := []
def slotsUsed : Nat := 0
def theMethod : MethodId := ⟨1, 2⟩
def args0 : Array Value := #[.long 5, .int 300, .int 7, .int 1]
def aboutOver (below : List Frame) : State where
  vm := { classes := classes, interned := interned.toArray }
  heap := heap
  slotsUsed := slotsUsed
  threads := #[{ frames := .invoking theMethod args0 :: below }]
def below0 : List Frame := [.native { method := ⟨0, 0⟩, args := #[] }]
def about1 : State := aboutOver below0
def p0 : Program := .bare "" "" ""
def e0 : Env := launch0.env 0 0 0
theorem w_frames : about1.frames = Frame.invoking theMethod args0 :: below0 := rfl
set_option maxRecDepth 65536 in
theorem w_args : argsFit about1.vm theMethod args0 = true := by decide +kernel
set_option maxRecDepth 65536 in
theorem w_heap : heapFits about1 = true := by decide +kernel
set_option maxRecDepth 65536 in
theorem w_runnable : about1.curStatus? = some .runnable := by decide +kernel
set_option maxRecDepth 65536 in
theorem w_alone : about1.alone = true := by decide +kernel
set_option maxRecDepth 65536 in
theorem w_named : about1.methodNamed? x = some theMethod := by decide +kernel
set_option maxRecDepth 65536 in
theorem w_hears : about1.hears theMethod below0 = true := by decide +kernel
set_option maxRecDepth 65536 in
theorem w_ripe : about1.ripe theMethod args0 below0 = true := by decide +kernel
theorem w_running : about1.status = .running := rfl
set_option maxRecDepth 65536 in
theorem w_room : about1.hasRoom e0.platform room_1 = true :=
  launch0.hasRoom_least _ room_1 (by decide +kernel) (by decide +kernel) (by decide +kernel) (by decide +kernel) (by decide +kernel) (by decide +kernel)
theorem allAtoms_all (ts : List Jvm.Cond) (a : Array Jvm.Value) (st : Jvm.State) : (allAtoms ts).before a st = ts.all (fun c => c.before a st) := by
  induction ts with
  | nil => rfl
  | cons c t ih =>
    show (Jvm.Cond.and c (allAtoms t)).before a st = _
    rw [Jvm.Cond.before_and, ih, List.all_cons]
def words1 : List Jvm.Cond := Jvm.Cond.code x code maxLocals ret :: tables_1
/-- a 'code' word, met by the world's own term for the bytes: nothing is compared byte by byte -/
theorem code_word {y : MethodName} {bytes : ByteArray} {mx : Nat} {rt : Option FieldType} {a : Array Value} {s : State} {m : MethodId} {meth : Method} {c : Code} (h1 : s.methodNamed? y = some m) (h2 : s.vm.method? m = some meth) (h3 : meth.code = some c) (h4 : c.code = bytes)
    (h5 : (c.maxLocals == mx && c.exceptionTable.isEmpty && decide (c.maxStack ≤ mostOperands) && decide (meth.sig.returnType = rt) && !meth.locks && decide (parseMethodDescriptor y.desc = some meth.sig)) = true) : (Jvm.Cond.code y bytes mx rt).before a s = true := by
  simp only [Bool.and_eq_true, beq_iff_eq, Bool.not_eq_true', decide_eq_true_eq] at h5
  obtain ⟨⟨⟨⟨⟨g1, g2⟩, g3⟩, g4⟩, g5⟩, g6⟩ := h5
  simp [Cond.before, Cond.holds, Cond.value, h1, h2, h3, h4, g1, g2, g3, g4, g5, g6]
def isCode : Jvm.Cond → Bool
  | .code _ _ _ _ => true
  | _ => false
theorem all_split {L : List Jvm.Cond} {P : Jvm.Cond → Bool} (h1 : L.all (fun c => isCode c || P c) = true) (h2 : ∀ c ∈ L.filter isCode, P c = true) : L.all P = true := by
  refine List.all_eq_true.mpr fun c hc => ?_
  have h := List.all_eq_true.mp h1 c hc
  rcases Bool.eq_false_or_eq_true (isCode c) with hi | hi
  · exact h2 c (List.mem_filter.mpr ⟨hc, hi⟩)
  · simpa [hi] using h
set_option maxRecDepth 65536 in
theorem w_c0 : (Jvm.Cond.code x code maxLocals ret).before args0 about1 = true := code_word (m := ⟨1, 2⟩) (meth := k1m2) (c := k1c2) (by decide +kernel) rfl rfl rfl (by decide +kernel)
set_option maxRecDepth 65536 in
theorem w_c1 : (Jvm.Cond.code ({ cls := "com/example/nine_elms/nineelms/server/FrameRoom", name := "<init>", desc := "(J)V" } : Jvm.MethodName) prog_29_method_1_code (3 : Nat) (Option.none : Option Jvm.ClassFile.FieldType)).before args0 about1 = true := code_word (m := ⟨2, 0⟩) (meth := k2m0) (c := k2c0) (by decide +kernel) rfl rfl rfl (by decide +kernel)
set_option maxRecDepth 65536 in
theorem w_c2 : (Jvm.Cond.code ({ cls := "java/lang/Object", name := "<init>", desc := "()V" } : Jvm.MethodName) object_method_1_code (1 : Nat) (Option.none : Option Jvm.ClassFile.FieldType)).before args0 about1 = true := code_word (m := ⟨0, 0⟩) (meth := k0m0) (c := k0c0) (by decide +kernel) rfl rfl rfl (by decide +kernel)
set_option maxRecDepth 65536 in
theorem w_c3 : (Jvm.Cond.code ({ cls := "com/example/nine_elms/nineelms/server/FrameRoom", name := "take", desc := "(I)Z" } : Jvm.MethodName) prog_29_method_5_code (3 : Nat) (Option.some Jvm.ClassFile.FieldType.boolean)).before args0 about1 = true := code_word (m := ⟨2, 3⟩) (meth := k2m3) (c := k2c3) (by decide +kernel) rfl rfl rfl (by decide +kernel)
set_option maxRecDepth 65536 in
theorem w_c4 : (Jvm.Cond.code ({ cls := "com/example/nine_elms/nineelms/server/FrameRoom", name := "held", desc := "()J" } : Jvm.MethodName) prog_29_method_4_code (1 : Nat) (Option.some Jvm.ClassFile.FieldType.long)).before args0 about1 = true := code_word (m := ⟨2, 2⟩) (meth := k2m2) (c := k2c2) (by decide +kernel) rfl rfl rfl (by decide +kernel)
set_option maxRecDepth 65536 in
theorem w_c5 : (Jvm.Cond.code ({ cls := "com/example/nine_elms/nineelms/server/FrameRoom", name := "giveBack", desc := "(I)V" } : Jvm.MethodName) prog_29_method_6_code (2 : Nat) (Option.none : Option Jvm.ClassFile.FieldType)).before args0 about1 = true := code_word (m := ⟨2, 4⟩) (meth := k2m4) (c := k2c4) (by decide +kernel) rfl rfl rfl (by decide +kernel)
set_option maxRecDepth 65536 in
theorem w_c6 : (Jvm.Cond.code ({ cls := "com/example/nine_elms/nineelms/server/FrameRoomGiveBackPinLaw", name := "expectedAfter", desc := "(JI)J" } : Jvm.MethodName) method_2_code (3 : Nat) (Option.some Jvm.ClassFile.FieldType.long)).before args0 about1 = true := code_word (m := ⟨1, 1⟩) (meth := k1m1) (c := k1c1) (by decide +kernel) rfl rfl rfl (by decide +kernel)
set_option maxRecDepth 65536 in
theorem w_c7 : (Jvm.Cond.code ({ cls := "com/example/nine_elms/nineelms/server/FrameRoom", name := "limit", desc := "()J" } : Jvm.MethodName) prog_29_method_3_code (1 : Nat) (Option.some Jvm.ClassFile.FieldType.long)).before args0 about1 = true := code_word (m := ⟨2, 1⟩) (meth := k2m1) (c := k2c1) (by decide +kernel) rfl rfl rfl (by decide +kernel)
def codes1 : List Jvm.Cond := [Jvm.Cond.code x code maxLocals ret, Jvm.Cond.code ({ cls := "com/example/nine_elms/nineelms/server/FrameRoom", name := "<init>", desc := "(J)V" } : Jvm.MethodName) prog_29_method_1_code (3 : Nat) (Option.none : Option Jvm.ClassFile.FieldType), Jvm.Cond.code ({ cls := "java/lang/Object", name := "<init>", desc := "()V" } : Jvm.MethodName) object_method_1_code (1 : Nat) (Option.none : Option Jvm.ClassFile.FieldType), Jvm.Cond.code ({ cls := "com/example/nine_elms/nineelms/server/FrameRoom", name := "take", desc := "(I)Z" } : Jvm.MethodName) prog_29_method_5_code (3 : Nat) (Option.some Jvm.ClassFile.FieldType.boolean), Jvm.Cond.code ({ cls := "com/example/nine_elms/nineelms/server/FrameRoom", name := "held", desc := "()J" } : Jvm.MethodName) prog_29_method_4_code (1 : Nat) (Option.some Jvm.ClassFile.FieldType.long), Jvm.Cond.code ({ cls := "com/example/nine_elms/nineelms/server/FrameRoom", name := "giveBack", desc := "(I)V" } : Jvm.MethodName) prog_29_method_6_code (2 : Nat) (Option.none : Option Jvm.ClassFile.FieldType), Jvm.Cond.code ({ cls := "com/example/nine_elms/nineelms/server/FrameRoomGiveBackPinLaw", name := "expectedAfter", desc := "(JI)J" } : Jvm.MethodName) method_2_code (3 : Nat) (Option.some Jvm.ClassFile.FieldType.long), Jvm.Cond.code ({ cls := "com/example/nine_elms/nineelms/server/FrameRoom", name := "limit", desc := "()J" } : Jvm.MethodName) prog_29_method_3_code (1 : Nat) (Option.some Jvm.ClassFile.FieldType.long)]
set_option maxRecDepth 65536 in
theorem codes_eq : words1.filter isCode = codes1 := rfl
theorem w_codes : ∀ c ∈ words1.filter isCode, c.before args0 about1 = true := by
  rw [codes_eq]
  intro c hc
  simp only [codes1, List.mem_cons, List.not_mem_nil, or_false] at hc
  rcases hc with rfl | rfl | rfl | rfl | rfl | rfl | rfl | rfl
  · exact w_c0
  · exact w_c1
  · exact w_c2
  · exact w_c3
  · exact w_c4
  · exact w_c5
  · exact w_c6
  · exact w_c7
set_option maxRecDepth 65536 in
theorem w_t1 : (words1.take 24).all (fun c => isCode c || c.before args0 about1) = true := by decide +kernel
set_option maxRecDepth 65536 in
theorem w_t2 : (words1.drop 24).all (fun c => isCode c || c.before args0 about1) = true := by decide +kernel
theorem w_tables : (allAtoms (Jvm.Cond.code x code maxLocals ret :: tables_1)).before args0 about1 = true := by
  rw [allAtoms_all]
  show words1.all (fun c => c.before args0 about1) = true
  refine all_split ?_ w_codes
  rw [← List.take_append_drop 24 words1, List.all_append, w_t1, w_t2]
  rfl
set_option maxRecDepth 65536 in
theorem w_case : (Jvm.Cond.and given_1 narrow_1).before args0 about1 = true := by decide +kernel
theorem w_applies : (headSpec (Jvm.Cond.code x code maxLocals ret :: tables_1) room_1).applies x e0.platform about1 = true :=
  (Spec.applies_iff w_frames).mpr ⟨w_running, w_runnable, w_alone, w_named, w_hears, w_ripe, w_room, w_tables⟩
theorem atStart : AtStart classFile x code maxLocals ret World_1 tables_1 room_1 Calls_1 rest_1 Pre_1 launch0 p0 e0 about1 theMethod args0 below0 :=
  ⟨lists_1, trivial, launch0.admits_env _ _ _, launch0.least_env, fairChoices_fair.cas, fairChoices_fair.clock, w_frames, w_args, w_heap, w_applies, trivial, trivial, w_case⟩
end start1
theorem witness_1 : WitnessClaimed_1 := ⟨start1.p0, start1.e0, start1.about1, start1.theMethod, start1.args0, start1.below0, start1.atStart⟩
end Jvm.Pilot.@@N@@
