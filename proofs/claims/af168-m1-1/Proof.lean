import JvmDerived
import JvmDerived.Pilot.@@N@@Statement
import JvmDerived.Pilot.@@N@@Code
set_option linter.unusedVariables false
set_option linter.unusedSimpArgs false
namespace Jvm.Own
open Jvm Sem ClassFile Op Lib Jvm.Stand Jvm.Free Jvm.LawKit Jvm.RoadKit
section Kit
/-- the fixed surroundings of one body's walk -/
def Cx (own : String) (code : ByteArray) (mL : Nat) (ret : Option FieldType) (mn : String) (n0 : Nat) (Z : State) (p : Program) (l : Launch) (e : Env) (R : Room) (s : State) (m : MethodId) (args : Array Value) (below : List Frame) (meth : Method) (c : Code) : Prop :=
  p.tables.exec = Jvm.exec ∧ c.code = code ∧ c.maxLocals = mL ∧ meth.sig.returnType = ret ∧ meth.locks = false ∧ s.vm.findClass own = some m.cls ∧ Z.Warmed39 s.vm ∧ meth.name = mn
/-- where the walk stands: k cells and n slots made so far, the heap h -/
def St (n0 : Nat) (p : Program) (l : Launch) (e : Env) (R : Room) (s : State) (m : MethodId) (args : Array Value) (below : List Frame) (meth : Method) (c : Code) (k n : Nat) (h : Heap) (T : State) : Prop :=
  ∃ locs, Stand p l e R s m args below meth c T locs k n ∧ T.heap = h ∧ Fr n0 locs ∧ n0 ≤ h.size
/-- from here the body comes to its end, and Q holds there -/
def Wp (n0 : Nat) (p : Program) (e : Env) (R : Room) (s : State) (below : List Frame) (Q : Option Value → Heap → Prop) (T : State) (g : JFrame) : Prop :=
  ∃ s₂ o, Steps p.tables e below (T.setTop g) s₂ ∧ s₂.status = .running ∧ Ended s₂ below o ∧ ∃ v L, o = .returned v ∧ (Q v s₂.heap ∧ n0 ≤ s₂.heap.size ∧ Fr n0 L) ∧ FrameEnd s o s₂ L R.cells R.slots
/-- a body's contract: entered with the arguments as' at the heap h it returns, and Q holds of what it returns and of the heap -/
def Met (n0 : Nat) (l : Launch) (Z : State) (y : MethodName) (bytes : ByteArray) (mL : Nat) (ret : Option FieldType) (rm : Room) (ws : List Jvm.Cond) (as' : Array Value) (h : Heap) (Q : Option Value → Heap → Prop) : Prop :=
  MetFree l y (head1 (Jvm.Cond.code y bytes mL ret :: ws) rm) (fun a U => a = as' ∧ Z.Warmed39 U.vm ∧ U.heap = h) (fun _ _ _ _ _ => True) (fun _ U o U' => ∃ v L, o = .returned v ∧ (Q v U'.heap ∧ n0 ≤ U'.heap.size ∧ Fr n0 L) ∧ FrameEnd U o U' L rm.cells rm.slots)
def Dc (code : ByteArray) (pc : Nat) (i : Instr) (len q : Nat) : Prop := decode code pc = .ok (i, len) ∧ pc + len = q
def Bc (code : ByteArray) (pc : Nat) (i : Instr) (o : Int) (q q' : Nat) : Prop := decode code pc = .ok (i, 3) ∧ pc + 3 = q ∧ 0 ≤ (pc : Int) + o ∧ ((pc : Int) + o).toNat = q'
/-- the place i that the int j names -/
def Ix (j : Int32) (i : Nat) : Prop := ¬ j < 0 ∧ j.toNatClampNeg = i
/-- an array of the values vs -/
def VA (Z : State) (h : Heap) (a : Addr) (ty : FieldType) (vs : List Value) : Prop := ∃ cl : Cell, Arr Z h a cl ty ∧ cl.slots = vs.toArray
variable {own : String} {code : ByteArray} {mL : Nat} {ret : Option FieldType} {mn : String} {n0 : Nat} {Z : State} {p : Program} {l : Launch} {e : Env} {R : Room} {s : State} {m : MethodId} {args : Array Value} {below : List Frame} {meth : Method} {c : Code} {T : State} {k n : Nat} {h h' : Heap} {Q : Option Value → Heap → Prop} {pc q q' : Nat} {Ls l' : Array Slot} {st rest : List Value} {a0 : Array Value} {ty : FieldType} {vs : List Value} {a b : Addr} {v w : Value} {x y : Int32} {X Y : Int64}
theorem VA.ext (F : VA Z h a ty vs) (E : Ext h h') : VA Z h' a ty vs := by obtain ⟨cl, A, r⟩ := F; exact ⟨cl, A.ext E, r⟩
theorem VA.other {sl : Nat} (F : VA Z h a ty vs) (W : Wr h h' b sl v) (ne : a ≠ b) : VA Z h' a ty vs := by obtain ⟨cl, A, r⟩ := F; exact ⟨cl, A.other W ne, r⟩
theorem VA.keep {ws : List Addr} (F : VA Z h a ty vs) (K : Keep h h' ws) (ne : a ∉ ws) : VA Z h' a ty vs := by obtain ⟨cl, A, r⟩ := F; exact ⟨cl, ⟨K.2.1 a cl A.1 ne, A.2⟩, r⟩
theorem VA.lt (F : VA Z h a ty vs) : a < h.size := by obtain ⟨cl, A, r⟩ := F; exact A.lt
theorem VA.wr {i : Nat} (F : VA Z h a ty vs) (W : Wr h h' a i v) : VA Z h' a ty (vs.set i v) := by
  obtain ⟨cl, A, r⟩ := F
  refine ⟨_, Arr.same W A, ?_⟩
  show cl.slots.setIfInBounds i v = _
  rw [r]; simp
theorem wp_mono {T' : State} {g g' : JFrame} (f : ∀ t, Steps p.tables e below (T'.setTop g') t → Steps p.tables e below (T.setTop g) t) (w : Wp n0 p e R s below Q T' g') : Wp n0 p e R s below Q T g := by
  obtain ⟨s₂, o, h1, r⟩ := w; exact ⟨s₂, o, f _ h1, r⟩
theorem nmI (g : ∀ z, z = x → Wp n0 p e R s below Q T (mkF m pc Ls (.int z :: st))) : Wp n0 p e R s below Q T (mkF m pc Ls (.int x :: st)) := g x rfl
theorem nmL (g : ∀ z, z = X → Wp n0 p e R s below Q T (mkF m pc Ls (.long z :: st))) : Wp n0 p e R s below Q T (mkF m pc Ls (.long X :: st)) := g X rfl
def Pu (r : Option Value) (h : Heap) : Option Value → Heap → Prop := fun v h' => v = r ∧ h' = h
def Ef (r : Option Value) (P : Heap → Prop) : Option Value → Heap → Prop := fun v h' => v = r ∧ P h'
def Pr (P : Int32 → Prop) (h : Heap) : Option Value → Heap → Prop := fun v h' => ∃ r, v = some (.int r) ∧ P r ∧ h' = h
def PrL (P : Int64 → Prop) (h : Heap) : Option Value → Heap → Prop := fun v h' => ∃ r, v = some (.long r) ∧ P r ∧ h' = h
def Er (P : Int32 → Heap → Prop) : Option Value → Heap → Prop := fun v h' => ∃ r, v = some (.int r) ∧ P r h'
def Ea (P : Addr → Heap → Prop) : Option Value → Heap → Prop := fun v h' => ∃ r, v = some (.ref r) ∧ P r h'
theorem own_b01 {x : Int32} (h : x.toInt = 0 ∨ x.toInt = 1) : nar .boolean x = x := by
  rcases h with h | h
  · have e : x = 0 := Int32.toInt_inj.mp h
    subst e; rfl
  · have e : x = 1 := Int32.toInt_inj.mp h
    subst e; rfl
theorem own_eqz {x y : Int32} (h : x.toInt = y.toInt) : x = y := Int32.toInt_inj.mp h
theorem own_eqZ {x y : Int64} (h : x.toInt = y.toInt) : x = y := Int64.toInt_inj.mp h
theorem own_lrem (x y : Int64) (d : Int) (hy : y.toInt = d) : (0 ≤ x.toInt → (x % y).toInt = x.toInt % d) ∧ (x.toInt < 0 → (x % y).toInt = -((-x.toInt) % d)) := by rw [Int64.toInt_mod, hy]; exact tr _ _
theorem own_nz {y : Int32} (h : 0 < y.toInt) : y ≠ 0 := fun q => by rw [q] at h; exact absurd h (by decide)
theorem own_nneg {x : Int32} (h : 0 ≤ x.toInt) : ¬ x < 0 := fun q => by
  have q' := Int32.lt_iff_toInt_lt.mp q
  have z0 : (0 : Int32).toInt = 0 := rfl
  omega
theorem own_cl {x : Int32} (h : 0 ≤ x.toInt) : (x.toNatClampNeg : Int) = x.toInt := by
  have e : x.toNatClampNeg = x.toInt.toNat := rfl
  omega
theorem own_ix {x : Int32} (h : 0 ≤ x.toInt) : Ix x x.toInt.toNat := ⟨own_nneg h, rfl⟩
theorem stO {i : Nat} {o : Slot} (ho : One o) (hold : Ls[i]? = some o) (hv : v.category = 1) (he : Ls.setIfInBounds i (.val v) = l') : storeLocals Ls i v = some l' := he ▸ XS.store1 hold ho hv
theorem Sle (S : St n0 p l e R s m args below meth c k n h T) : n0 ≤ h.size := by obtain ⟨_, _, _, _, z⟩ := S; exact z
theorem more {k' n' : Nat} (S : St n0 p l e R s m args below meth c k n h T) (hk : k ≤ k') (hn : n ≤ n') : St n0 p l e R s m args below meth c k' n' h T := by
  obtain ⟨locs, S, r⟩ := S; exact ⟨locs, S.more hk hn, r⟩
theorem pu {r : Option Value} (g : ∀ T, St n0 p l e R s m args below meth c k n h T → Wp n0 p e R s below Q T (mkF m q Ls (r.toList ++ rest))) : ∀ T v h', Pu r h v h' → St n0 p l e R s m args below meth c k n h' T → Wp n0 p e R s below Q T (mkF m q Ls (v.toList ++ rest)) := by
  intro T v h' hq S; obtain ⟨rfl, rfl⟩ := hq; exact g T S
theorem ef {r : Option Value} {P : Heap → Prop} (g : ∀ T h', P h' → St n0 p l e R s m args below meth c k n h' T → Wp n0 p e R s below Q T (mkF m q Ls (r.toList ++ rest))) : ∀ T v h', Ef r P v h' → St n0 p l e R s m args below meth c k n h' T → Wp n0 p e R s below Q T (mkF m q Ls (v.toList ++ rest)) := by
  intro T v h' hq S; obtain ⟨rfl, hp⟩ := hq; exact g T h' hp S
theorem pr {P : Int32 → Prop} (g : ∀ T r, P r → St n0 p l e R s m args below meth c k n h T → Wp n0 p e R s below Q T (mkF m q Ls (.int r :: rest))) : ∀ T v h', Pr P h v h' → St n0 p l e R s m args below meth c k n h' T → Wp n0 p e R s below Q T (mkF m q Ls (v.toList ++ rest)) := by
  intro T v h' hq S; obtain ⟨r, rfl, hp, rfl⟩ := hq; exact g T r hp S
theorem prL {P : Int64 → Prop} (g : ∀ T r, P r → St n0 p l e R s m args below meth c k n h T → Wp n0 p e R s below Q T (mkF m q Ls (.long r :: rest))) : ∀ T v h', PrL P h v h' → St n0 p l e R s m args below meth c k n h' T → Wp n0 p e R s below Q T (mkF m q Ls (v.toList ++ rest)) := by
  intro T v h' hq S; obtain ⟨r, rfl, hp, rfl⟩ := hq; exact g T r hp S
theorem er {P : Int32 → Heap → Prop} (g : ∀ T r h', P r h' → St n0 p l e R s m args below meth c k n h' T → Wp n0 p e R s below Q T (mkF m q Ls (.int r :: rest))) : ∀ T v h', Er P v h' → St n0 p l e R s m args below meth c k n h' T → Wp n0 p e R s below Q T (mkF m q Ls (v.toList ++ rest)) := by
  intro T v h' hq S; obtain ⟨r, rfl, hp⟩ := hq; exact g T r h' hp S
theorem ea {P : Addr → Heap → Prop} (g : ∀ T r h', P r h' → St n0 p l e R s m args below meth c k n h' T → Wp n0 p e R s below Q T (mkF m q Ls (.ref r :: rest))) : ∀ T v h', Ea P v h' → St n0 p l e R s m args below meth c k n h' T → Wp n0 p e R s below Q T (mkF m q Ls (v.toList ++ rest)) := by
  intro T v h' hq S; obtain ⟨r, rfl, hp⟩ := hq; exact g T r h' hp S
theorem enter {y : MethodName} {bytes : ByteArray} {rm : Room} {ws : List Jvm.Cond} {as' : Array Value} (hpn : plainFor y = true) (ef : ∀ m, entryFrame m as' mL = mkF m 0 Ls []) (hn : n0 ≤ h.size)
    (body : ∀ p e s m below meth c T, Cx y.cls bytes mL ret y.name n0 Z p l e rm s m as' below meth c → St n0 p l e rm s m as' below meth c 0 0 h T → Wp n0 p e rm s below Q T (mkF m 0 Ls [])) : Met n0 l Z y bytes mL ret rm ws as' h Q := by
  refine MetFree.of_bodySF hpn hisR ?_
  intro p e s m args below meth c s₁ Bd hml0 hP hK
  obtain ⟨rfl, hZ, hh⟩ := hP
  have e0 : s₁.heap = h := by rw [← hh, Bd.state]; rfl
  have w := body p e s m below meth c s₁ ⟨Bd.exec, Bd.bytes, hml0, Bd.returns, Bd.notSynchronized, findClass_of_methodNamed Bd.named, hZ, (name_of_methodNamed Bd.named Bd.method).1⟩ ⟨[], Stand.of_body Bd, e0, Fr.nil n0, hn⟩
  obtain ⟨s₂, o, h1, r⟩ := w
  exact ⟨s₂, o, castTop (ef m) h1, r⟩
theorem iadd (K : Cx own code mL ret mn n0 Z p l e R s m args below meth c) (S : St n0 p l e R s m args below meth c k n h T) (hd : Dc code pc (.iadd) 1 q) (g : Wp n0 p e R s below Q T (mkF m q Ls (.int (x + y) :: st))) : Wp n0 p e R s below Q T (mkF m pc Ls (.int y :: .int x :: st)) := by
  obtain ⟨hx, hby, -⟩ := K; obtain ⟨locs, S, -, -⟩ := S; obtain ⟨hd, rfl⟩ := hd
  exact wp_mono (fun t hr => XS.iadd S.here hx rfl (hb hby hd) rfl hr) g
theorem isub (K : Cx own code mL ret mn n0 Z p l e R s m args below meth c) (S : St n0 p l e R s m args below meth c k n h T) (hd : Dc code pc (.isub) 1 q) (g : Wp n0 p e R s below Q T (mkF m q Ls (.int (x - y) :: st))) : Wp n0 p e R s below Q T (mkF m pc Ls (.int y :: .int x :: st)) := by
  obtain ⟨hx, hby, -⟩ := K; obtain ⟨locs, S, -, -⟩ := S; obtain ⟨hd, rfl⟩ := hd
  exact wp_mono (fun t hr => XS.isub S.here hx rfl (hb hby hd) rfl hr) g
theorem imul (K : Cx own code mL ret mn n0 Z p l e R s m args below meth c) (S : St n0 p l e R s m args below meth c k n h T) (hd : Dc code pc (.imul) 1 q) (g : Wp n0 p e R s below Q T (mkF m q Ls (.int (x * y) :: st))) : Wp n0 p e R s below Q T (mkF m pc Ls (.int y :: .int x :: st)) := by
  obtain ⟨hx, hby, -⟩ := K; obtain ⟨locs, S, -, -⟩ := S; obtain ⟨hd, rfl⟩ := hd
  exact wp_mono (fun t hr => XS.imul S.here hx rfl (hb hby hd) rfl hr) g
theorem iand (K : Cx own code mL ret mn n0 Z p l e R s m args below meth c) (S : St n0 p l e R s m args below meth c k n h T) (hd : Dc code pc (.iand) 1 q) (g : Wp n0 p e R s below Q T (mkF m q Ls (.int (x &&& y) :: st))) : Wp n0 p e R s below Q T (mkF m pc Ls (.int y :: .int x :: st)) := by
  obtain ⟨hx, hby, -⟩ := K; obtain ⟨locs, S, -, -⟩ := S; obtain ⟨hd, rfl⟩ := hd
  exact wp_mono (fun t hr => XS.iand S.here hx rfl (hb hby hd) rfl hr) g
theorem ior (K : Cx own code mL ret mn n0 Z p l e R s m args below meth c) (S : St n0 p l e R s m args below meth c k n h T) (hd : Dc code pc (.ior) 1 q) (g : Wp n0 p e R s below Q T (mkF m q Ls (.int (x ||| y) :: st))) : Wp n0 p e R s below Q T (mkF m pc Ls (.int y :: .int x :: st)) := by
  obtain ⟨hx, hby, -⟩ := K; obtain ⟨locs, S, -, -⟩ := S; obtain ⟨hd, rfl⟩ := hd
  exact wp_mono (fun t hr => XT.ior S.here hx rfl (hb hby hd) rfl hr) g
theorem ixor (K : Cx own code mL ret mn n0 Z p l e R s m args below meth c) (S : St n0 p l e R s m args below meth c k n h T) (hd : Dc code pc (.ixor) 1 q) (g : Wp n0 p e R s below Q T (mkF m q Ls (.int (x ^^^ y) :: st))) : Wp n0 p e R s below Q T (mkF m pc Ls (.int y :: .int x :: st)) := by
  obtain ⟨hx, hby, -⟩ := K; obtain ⟨locs, S, -, -⟩ := S; obtain ⟨hd, rfl⟩ := hd
  exact wp_mono (fun t hr => XT.ixor S.here hx rfl (hb hby hd) rfl hr) g
theorem ishl (K : Cx own code mL ret mn n0 Z p l e R s m args below meth c) (S : St n0 p l e R s m args below meth c k n h T) (hd : Dc code pc (.ishl) 1 q) (g : Wp n0 p e R s below Q T (mkF m q Ls (.int (x <<< (y &&& 31)) :: st))) : Wp n0 p e R s below Q T (mkF m pc Ls (.int y :: .int x :: st)) := by
  obtain ⟨hx, hby, -⟩ := K; obtain ⟨locs, S, -, -⟩ := S; obtain ⟨hd, rfl⟩ := hd
  exact wp_mono (fun t hr => XT.ishl S.here hx rfl (hb hby hd) rfl hr) g
theorem ishr (K : Cx own code mL ret mn n0 Z p l e R s m args below meth c) (S : St n0 p l e R s m args below meth c k n h T) (hd : Dc code pc (.ishr) 1 q) (g : Wp n0 p e R s below Q T (mkF m q Ls (.int (x >>> (y &&& 31)) :: st))) : Wp n0 p e R s below Q T (mkF m pc Ls (.int y :: .int x :: st)) := by
  obtain ⟨hx, hby, -⟩ := K; obtain ⟨locs, S, -, -⟩ := S; obtain ⟨hd, rfl⟩ := hd
  exact wp_mono (fun t hr => XT.ishr S.here hx rfl (hb hby hd) rfl hr) g
theorem iushr (K : Cx own code mL ret mn n0 Z p l e R s m args below meth c) (S : St n0 p l e R s m args below meth c k n h T) (hd : Dc code pc (.iushr) 1 q) (g : Wp n0 p e R s below Q T (mkF m q Ls (.int (XT.ushr x y) :: st))) : Wp n0 p e R s below Q T (mkF m pc Ls (.int y :: .int x :: st)) := by
  obtain ⟨hx, hby, -⟩ := K; obtain ⟨locs, S, -, -⟩ := S; obtain ⟨hd, rfl⟩ := hd
  exact wp_mono (fun t hr => XT.iushr S.here hx rfl (hb hby hd) rfl hr) g
theorem idiv (K : Cx own code mL ret mn n0 Z p l e R s m args below meth c) (S : St n0 p l e R s m args below meth c k n h T) (hy : y ≠ 0) (hd : Dc code pc (.idiv) 1 q) (g : Wp n0 p e R s below Q T (mkF m q Ls (.int (x / y) :: st))) : Wp n0 p e R s below Q T (mkF m pc Ls (.int y :: .int x :: st)) := by
  obtain ⟨hx, hby, -⟩ := K; obtain ⟨locs, S, -, -⟩ := S; obtain ⟨hd, rfl⟩ := hd
  exact wp_mono (fun t hr => XS.idiv S.here hx rfl (hb hby hd) rfl hy hr) g
theorem irem (K : Cx own code mL ret mn n0 Z p l e R s m args below meth c) (S : St n0 p l e R s m args below meth c k n h T) (hy : y ≠ 0) (hd : Dc code pc (.irem) 1 q) (g : Wp n0 p e R s below Q T (mkF m q Ls (.int (x % y) :: st))) : Wp n0 p e R s below Q T (mkF m pc Ls (.int y :: .int x :: st)) := by
  obtain ⟨hx, hby, -⟩ := K; obtain ⟨locs, S, -, -⟩ := S; obtain ⟨hd, rfl⟩ := hd
  exact wp_mono (fun t hr => iremM S hx rfl (hb hby hd) rfl hy hr) g
theorem ladd (K : Cx own code mL ret mn n0 Z p l e R s m args below meth c) (S : St n0 p l e R s m args below meth c k n h T) (hd : Dc code pc (.ladd) 1 q) (g : Wp n0 p e R s below Q T (mkF m q Ls (.long (X + Y) :: st))) : Wp n0 p e R s below Q T (mkF m pc Ls (.long Y :: .long X :: st)) := by
  obtain ⟨hx, hby, -⟩ := K; obtain ⟨locs, S, -, -⟩ := S; obtain ⟨hd, rfl⟩ := hd
  exact wp_mono (fun t hr => XT.ladd S.here hx rfl (hb hby hd) rfl hr) g
theorem lsub (K : Cx own code mL ret mn n0 Z p l e R s m args below meth c) (S : St n0 p l e R s m args below meth c k n h T) (hd : Dc code pc (.lsub) 1 q) (g : Wp n0 p e R s below Q T (mkF m q Ls (.long (X - Y) :: st))) : Wp n0 p e R s below Q T (mkF m pc Ls (.long Y :: .long X :: st)) := by
  obtain ⟨hx, hby, -⟩ := K; obtain ⟨locs, S, -, -⟩ := S; obtain ⟨hd, rfl⟩ := hd
  exact wp_mono (fun t hr => XT.lsub S.here hx rfl (hb hby hd) rfl hr) g
theorem lmul (K : Cx own code mL ret mn n0 Z p l e R s m args below meth c) (S : St n0 p l e R s m args below meth c k n h T) (hd : Dc code pc (.lmul) 1 q) (g : Wp n0 p e R s below Q T (mkF m q Ls (.long (X * Y) :: st))) : Wp n0 p e R s below Q T (mkF m pc Ls (.long Y :: .long X :: st)) := by
  obtain ⟨hx, hby, -⟩ := K; obtain ⟨locs, S, -, -⟩ := S; obtain ⟨hd, rfl⟩ := hd
  exact wp_mono (fun t hr => XT.lmul S.here hx rfl (hb hby hd) rfl hr) g
theorem land (K : Cx own code mL ret mn n0 Z p l e R s m args below meth c) (S : St n0 p l e R s m args below meth c k n h T) (hd : Dc code pc (.land) 1 q) (g : Wp n0 p e R s below Q T (mkF m q Ls (.long (X &&& Y) :: st))) : Wp n0 p e R s below Q T (mkF m pc Ls (.long Y :: .long X :: st)) := by
  obtain ⟨hx, hby, -⟩ := K; obtain ⟨locs, S, -, -⟩ := S; obtain ⟨hd, rfl⟩ := hd
  exact wp_mono (fun t hr => XT.land S.here hx rfl (hb hby hd) rfl hr) g
theorem ldiv (K : Cx own code mL ret mn n0 Z p l e R s m args below meth c) (S : St n0 p l e R s m args below meth c k n h T) (hy : Y ≠ 0) (hd : Dc code pc (.ldiv) 1 q) (g : Wp n0 p e R s below Q T (mkF m q Ls (.long (X / Y) :: st))) : Wp n0 p e R s below Q T (mkF m pc Ls (.long Y :: .long X :: st)) := by
  obtain ⟨hx, hby, -⟩ := K; obtain ⟨locs, S, -, -⟩ := S; obtain ⟨hd, rfl⟩ := hd
  exact wp_mono (fun t hr => XT.ldiv S.here hx rfl (hb hby hd) rfl hy hr) g
theorem lrem (K : Cx own code mL ret mn n0 Z p l e R s m args below meth c) (S : St n0 p l e R s m args below meth c k n h T) (hy : Y ≠ 0) (hd : Dc code pc (.lrem) 1 q) (g : Wp n0 p e R s below Q T (mkF m q Ls (.long (X % Y) :: st))) : Wp n0 p e R s below Q T (mkF m pc Ls (.long Y :: .long X :: st)) := by
  obtain ⟨hx, hby, -⟩ := K; obtain ⟨locs, S, -, -⟩ := S; obtain ⟨hd, rfl⟩ := hd
  exact wp_mono (fun t hr => XT.lrem S.here hx rfl (hb hby hd) rfl hy (by rw [lrem_mod]; exact hr)) g
theorem lushr (K : Cx own code mL ret mn n0 Z p l e R s m args below meth c) (S : St n0 p l e R s m args below meth c k n h T) (hd : Dc code pc (.lushr) 1 q) (g : Wp n0 p e R s below Q T (mkF m q Ls (.long (XT.ushrL X y) :: st))) : Wp n0 p e R s below Q T (mkF m pc Ls (.int y :: .long X :: st)) := by
  obtain ⟨hx, hby, -⟩ := K; obtain ⟨locs, S, -, -⟩ := S; obtain ⟨hd, rfl⟩ := hd
  exact wp_mono (fun t hr => XT.lushr S.here hx rfl (hb hby hd) rfl hr) g
theorem i2l (K : Cx own code mL ret mn n0 Z p l e R s m args below meth c) (S : St n0 p l e R s m args below meth c k n h T) (hd : Dc code pc (.i2l) 1 q) (g : Wp n0 p e R s below Q T (mkF m q Ls (.long x.toInt64 :: st))) : Wp n0 p e R s below Q T (mkF m pc Ls (.int x :: st)) := by
  obtain ⟨hx, hby, -⟩ := K; obtain ⟨locs, S, -, -⟩ := S; obtain ⟨hd, rfl⟩ := hd
  exact wp_mono (fun t hr => XT.i2l S.here hx rfl (hb hby hd) rfl hr) g
theorem l2i (K : Cx own code mL ret mn n0 Z p l e R s m args below meth c) (S : St n0 p l e R s m args below meth c k n h T) (hd : Dc code pc (.l2i) 1 q) (g : Wp n0 p e R s below Q T (mkF m q Ls (.int X.toInt32 :: st))) : Wp n0 p e R s below Q T (mkF m pc Ls (.long X :: st)) := by
  obtain ⟨hx, hby, -⟩ := K; obtain ⟨locs, S, -, -⟩ := S; obtain ⟨hd, rfl⟩ := hd
  exact wp_mono (fun t hr => XT.l2i S.here hx rfl (hb hby hd) rfl hr) g
theorem i2b (K : Cx own code mL ret mn n0 Z p l e R s m args below meth c) (S : St n0 p l e R s m args below meth c k n h T) (hd : Dc code pc (.i2b) 1 q) (g : Wp n0 p e R s below Q T (mkF m q Ls (.int x.toInt8.toInt32 :: st))) : Wp n0 p e R s below Q T (mkF m pc Ls (.int x :: st)) := by
  obtain ⟨hx, hby, -⟩ := K; obtain ⟨locs, S, -, -⟩ := S; obtain ⟨hd, rfl⟩ := hd
  exact wp_mono (fun t hr => XT.i2b S.here hx rfl (hb hby hd) rfl hr) g
theorem i2s (K : Cx own code mL ret mn n0 Z p l e R s m args below meth c) (S : St n0 p l e R s m args below meth c k n h T) (hd : Dc code pc (.i2s) 1 q) (g : Wp n0 p e R s below Q T (mkF m q Ls (.int x.toInt16.toInt32 :: st))) : Wp n0 p e R s below Q T (mkF m pc Ls (.int x :: st)) := by
  obtain ⟨hx, hby, -⟩ := K; obtain ⟨locs, S, -, -⟩ := S; obtain ⟨hd, rfl⟩ := hd
  exact wp_mono (fun t hr => XT.i2s S.here hx rfl (hb hby hd) rfl hr) g
theorem i2c (K : Cx own code mL ret mn n0 Z p l e R s m args below meth c) (S : St n0 p l e R s m args below meth c k n h T) (hd : Dc code pc (.i2c) 1 q) (g : Wp n0 p e R s below Q T (mkF m q Ls (.int x.toUInt32.toUInt16.toUInt32.toInt32 :: st))) : Wp n0 p e R s below Q T (mkF m pc Ls (.int x :: st)) := by
  obtain ⟨hx, hby, -⟩ := K; obtain ⟨locs, S, -, -⟩ := S; obtain ⟨hd, rfl⟩ := hd
  exact wp_mono (fun t hr => XT.i2c S.here hx rfl (hb hby hd) rfl hr) g
theorem iconst (K : Cx own code mL ret mn n0 Z p l e R s m args below meth c) (S : St n0 p l e R s m args below meth c k n h T) {i : Int} (hv : Int32.ofInt i = x) (hd : Dc code pc (.iconst i) 1 q) (g : Wp n0 p e R s below Q T (mkF m q Ls (.int x :: st))) : Wp n0 p e R s below Q T (mkF m pc Ls st) := by
  obtain ⟨hx, hby, -⟩ := K; obtain ⟨locs, S, -, -⟩ := S; obtain ⟨hd, rfl⟩ := hd
  exact wp_mono (fun t hr => XS.iconst S.here hx rfl (hb hby hd) (by rw [hv]; exact hr)) g
theorem bipush (K : Cx own code mL ret mn n0 Z p l e R s m args below meth c) (S : St n0 p l e R s m args below meth c k n h T) {i : Int} (hv : (Int8.ofInt i).toInt32 = x) (hd : Dc code pc (.bipush i) 2 q) (g : Wp n0 p e R s below Q T (mkF m q Ls (.int x :: st))) : Wp n0 p e R s below Q T (mkF m pc Ls st) := by
  obtain ⟨hx, hby, -⟩ := K; obtain ⟨locs, S, -, -⟩ := S; obtain ⟨hd, rfl⟩ := hd
  exact wp_mono (fun t hr => XS.bipush S.here hx rfl (hb hby hd) (by rw [hv]; exact hr)) g
theorem sipush (K : Cx own code mL ret mn n0 Z p l e R s m args below meth c) (S : St n0 p l e R s m args below meth c k n h T) {i : Int} (hv : (Int16.ofInt i).toInt32 = x) (hd : Dc code pc (.sipush i) 3 q) (g : Wp n0 p e R s below Q T (mkF m q Ls (.int x :: st))) : Wp n0 p e R s below Q T (mkF m pc Ls st) := by
  obtain ⟨hx, hby, -⟩ := K; obtain ⟨locs, S, -, -⟩ := S; obtain ⟨hd, rfl⟩ := hd
  exact wp_mono (fun t hr => XS.sipush S.here hx rfl (hb hby hd) (by rw [hv]; exact hr)) g
theorem lconst (K : Cx own code mL ret mn n0 Z p l e R s m args below meth c) (S : St n0 p l e R s m args below meth c k n h T) {i : Fin 2} (hv : Int64.ofNat i = X) (hd : Dc code pc (.lconst i) 1 q) (g : Wp n0 p e R s below Q T (mkF m q Ls (.long X :: st))) : Wp n0 p e R s below Q T (mkF m pc Ls st) := by
  obtain ⟨hx, hby, -⟩ := K; obtain ⟨locs, S, -, -⟩ := S; obtain ⟨hd, rfl⟩ := hd
  exact wp_mono (fun t hr => XT.lconst S.here hx rfl (hb hby hd) (by rw [hv]; exact hr)) g
theorem anull (K : Cx own code mL ret mn n0 Z p l e R s m args below meth c) (S : St n0 p l e R s m args below meth c k n h T) (hd : Dc code pc (.aconst_null) 1 q) (g : Wp n0 p e R s below Q T (mkF m q Ls (.null :: st))) : Wp n0 p e R s below Q T (mkF m pc Ls st) := by
  obtain ⟨hx, hby, -⟩ := K; obtain ⟨locs, S, -, -⟩ := S; obtain ⟨hd, rfl⟩ := hd
  exact wp_mono (fun t hr => XS.aconstNull S.here hx rfl (hb hby hd) hr) g
theorem dup (K : Cx own code mL ret mn n0 Z p l e R s m args below meth c) (S : St n0 p l e R s m args below meth c k n h T) (hc : v.category = 1) (hd : Dc code pc (.dup) 1 q) (g : Wp n0 p e R s below Q T (mkF m q Ls (v :: v :: st))) : Wp n0 p e R s below Q T (mkF m pc Ls (v :: st)) := by
  obtain ⟨hx, hby, -⟩ := K; obtain ⟨locs, S, -, -⟩ := S; obtain ⟨hd, rfl⟩ := hd
  exact wp_mono (fun t hr => XS.dup S.here hx rfl (hb hby hd) rfl hc hr) g
theorem pop (K : Cx own code mL ret mn n0 Z p l e R s m args below meth c) (S : St n0 p l e R s m args below meth c k n h T) (hc : v.category = 1) (hd : Dc code pc (.pop) 1 q) (g : Wp n0 p e R s below Q T (mkF m q Ls st)) : Wp n0 p e R s below Q T (mkF m pc Ls (v :: st)) := by
  obtain ⟨hx, hby, -⟩ := K; obtain ⟨locs, S, -, -⟩ := S; obtain ⟨hd, rfl⟩ := hd
  exact wp_mono (fun t hr => XT.pop S.here hx rfl (hb hby hd) rfl hc hr) g
theorem dup_x1 (K : Cx own code mL ret mn n0 Z p l e R s m args below meth c) (S : St n0 p l e R s m args below meth c k n h T) (hc : v.category = 1) (hc' : w.category = 1) (hd : Dc code pc (.dup_x1) 1 q) (g : Wp n0 p e R s below Q T (mkF m q Ls (v :: w :: v :: st))) : Wp n0 p e R s below Q T (mkF m pc Ls (v :: w :: st)) := by
  obtain ⟨hx, hby, -⟩ := K; obtain ⟨locs, S, -, -⟩ := S; obtain ⟨hd, rfl⟩ := hd
  exact wp_mono (fun t hr => XT.dupX1 S.here hx rfl (hb hby hd) rfl hc hc' hr) g
theorem dup2 (K : Cx own code mL ret mn n0 Z p l e R s m args below meth c) (S : St n0 p l e R s m args below meth c k n h T) (hc : v.category = 1) (hc' : w.category = 1) (hd : Dc code pc (.dup2) 1 q) (g : Wp n0 p e R s below Q T (mkF m q Ls (v :: w :: v :: w :: st))) : Wp n0 p e R s below Q T (mkF m pc Ls (v :: w :: st)) := by
  obtain ⟨hx, hby, -⟩ := K; obtain ⟨locs, S, -, -⟩ := S; obtain ⟨hd, rfl⟩ := hd
  exact wp_mono (fun t hr => XT.dup2 S.here hx rfl (hb hby hd) rfl hc hc' hr) g
theorem iload (K : Cx own code mL ret mn n0 Z p l e R s m args below meth c) (S : St n0 p l e R s m args below meth c k n h T) {i : Nat} (hl : Ls[i]? = some (.val (.int x))) (hd : Dc code pc (.iload i) 2 q) (g : Wp n0 p e R s below Q T (mkF m q Ls (.int x :: st))) : Wp n0 p e R s below Q T (mkF m pc Ls st) := by
  obtain ⟨hx, hby, -⟩ := K; obtain ⟨locs, S, -, -⟩ := S; obtain ⟨hd, rfl⟩ := hd
  exact wp_mono (fun t hr => XS.iload S.here hx rfl (hb hby hd) hl hr) g
theorem iload_n (K : Cx own code mL ret mn n0 Z p l e R s m args below meth c) (S : St n0 p l e R s m args below meth c k n h T) {i : Fin 4} (hl : Ls[i.val]? = some (.val (.int x))) (hd : Dc code pc (.iload_n i) 1 q) (g : Wp n0 p e R s below Q T (mkF m q Ls (.int x :: st))) : Wp n0 p e R s below Q T (mkF m pc Ls st) := by
  obtain ⟨hx, hby, -⟩ := K; obtain ⟨locs, S, -, -⟩ := S; obtain ⟨hd, rfl⟩ := hd
  exact wp_mono (fun t hr => XS.iloadN S.here hx rfl (hb hby hd) hl hr) g
theorem aload (K : Cx own code mL ret mn n0 Z p l e R s m args below meth c) (S : St n0 p l e R s m args below meth c k n h T) {i : Nat} (hl : Ls[i]? = some (.val (v))) (hv : v.isRef = true) (hd : Dc code pc (.aload i) 2 q) (g : Wp n0 p e R s below Q T (mkF m q Ls (v :: st))) : Wp n0 p e R s below Q T (mkF m pc Ls st) := by
  obtain ⟨hx, hby, -⟩ := K; obtain ⟨locs, S, -, -⟩ := S; obtain ⟨hd, rfl⟩ := hd
  exact wp_mono (fun t hr => XS.aload S.here hx rfl (hb hby hd) hl hv hr) g
theorem aload_n (K : Cx own code mL ret mn n0 Z p l e R s m args below meth c) (S : St n0 p l e R s m args below meth c k n h T) {i : Fin 4} (hl : Ls[i.val]? = some (.val (v))) (hv : v.isRef = true) (hd : Dc code pc (.aload_n i) 1 q) (g : Wp n0 p e R s below Q T (mkF m q Ls (v :: st))) : Wp n0 p e R s below Q T (mkF m pc Ls st) := by
  obtain ⟨hx, hby, -⟩ := K; obtain ⟨locs, S, -, -⟩ := S; obtain ⟨hd, rfl⟩ := hd
  exact wp_mono (fun t hr => XS.aloadN S.here hx rfl (hb hby hd) hl hv hr) g
theorem lload (K : Cx own code mL ret mn n0 Z p l e R s m args below meth c) (S : St n0 p l e R s m args below meth c k n h T) {i : Nat} (hl : Ls[i]? = some (.val (.long X))) (hd : Dc code pc (.lload i) 2 q) (g : Wp n0 p e R s below Q T (mkF m q Ls (.long X :: st))) : Wp n0 p e R s below Q T (mkF m pc Ls st) := by
  obtain ⟨hx, hby, -⟩ := K; obtain ⟨locs, S, -, -⟩ := S; obtain ⟨hd, rfl⟩ := hd
  exact wp_mono (fun t hr => XT.lload S.here hx rfl (hb hby hd) hl hr) g
theorem lload_n (K : Cx own code mL ret mn n0 Z p l e R s m args below meth c) (S : St n0 p l e R s m args below meth c k n h T) {i : Fin 4} (hl : Ls[i.val]? = some (.val (.long X))) (hd : Dc code pc (.lload_n i) 1 q) (g : Wp n0 p e R s below Q T (mkF m q Ls (.long X :: st))) : Wp n0 p e R s below Q T (mkF m pc Ls st) := by
  obtain ⟨hx, hby, -⟩ := K; obtain ⟨locs, S, -, -⟩ := S; obtain ⟨hd, rfl⟩ := hd
  exact wp_mono (fun t hr => XT.lloadN S.here hx rfl (hb hby hd) hl hr) g
theorem istore (K : Cx own code mL ret mn n0 Z p l e R s m args below meth c) (S : St n0 p l e R s m args below meth c k n h T) {i : Nat} (hl : storeLocals Ls i (.int x) = some l') (hd : Dc code pc (.istore i) 2 q) (g : Wp n0 p e R s below Q T (mkF m q l' st)) : Wp n0 p e R s below Q T (mkF m pc Ls (.int x :: st)) := by
  obtain ⟨hx, hby, -⟩ := K; obtain ⟨locs, S, -, -⟩ := S; obtain ⟨hd, rfl⟩ := hd
  exact wp_mono (fun t hr => XS.istore S.here hx rfl (hb hby hd) rfl hl hr) g
theorem istore_n (K : Cx own code mL ret mn n0 Z p l e R s m args below meth c) (S : St n0 p l e R s m args below meth c k n h T) {i : Fin 4} (hl : storeLocals Ls i.val (.int x) = some l') (hd : Dc code pc (.istore_n i) 1 q) (g : Wp n0 p e R s below Q T (mkF m q l' st)) : Wp n0 p e R s below Q T (mkF m pc Ls (.int x :: st)) := by
  obtain ⟨hx, hby, -⟩ := K; obtain ⟨locs, S, -, -⟩ := S; obtain ⟨hd, rfl⟩ := hd
  exact wp_mono (fun t hr => XS.istoreN S.here hx rfl (hb hby hd) rfl hl hr) g
theorem astore (K : Cx own code mL ret mn n0 Z p l e R s m args below meth c) (S : St n0 p l e R s m args below meth c k n h T) {i : Nat} (hv : v.isRef = true) (hl : storeLocals Ls i (v) = some l') (hd : Dc code pc (.astore i) 2 q) (g : Wp n0 p e R s below Q T (mkF m q l' st)) : Wp n0 p e R s below Q T (mkF m pc Ls (v :: st)) := by
  obtain ⟨hx, hby, -⟩ := K; obtain ⟨locs, S, -, -⟩ := S; obtain ⟨hd, rfl⟩ := hd
  exact wp_mono (fun t hr => XS.astore S.here hx rfl (hb hby hd) rfl hv hl hr) g
theorem astore_n (K : Cx own code mL ret mn n0 Z p l e R s m args below meth c) (S : St n0 p l e R s m args below meth c k n h T) {i : Fin 4} (hv : v.isRef = true) (hl : storeLocals Ls i.val (v) = some l') (hd : Dc code pc (.astore_n i) 1 q) (g : Wp n0 p e R s below Q T (mkF m q l' st)) : Wp n0 p e R s below Q T (mkF m pc Ls (v :: st)) := by
  obtain ⟨hx, hby, -⟩ := K; obtain ⟨locs, S, -, -⟩ := S; obtain ⟨hd, rfl⟩ := hd
  exact wp_mono (fun t hr => XS.astoreN S.here hx rfl (hb hby hd) rfl hv hl hr) g
theorem lstore (K : Cx own code mL ret mn n0 Z p l e R s m args below meth c) (S : St n0 p l e R s m args below meth c k n h T) {i : Nat} (hl : storeLocals Ls i (.long X) = some l') (hd : Dc code pc (.lstore i) 2 q) (g : Wp n0 p e R s below Q T (mkF m q l' st)) : Wp n0 p e R s below Q T (mkF m pc Ls (.long X :: st)) := by
  obtain ⟨hx, hby, -⟩ := K; obtain ⟨locs, S, -, -⟩ := S; obtain ⟨hd, rfl⟩ := hd
  exact wp_mono (fun t hr => XT.lstore S.here hx rfl (hb hby hd) rfl hl hr) g
theorem lstore_n (K : Cx own code mL ret mn n0 Z p l e R s m args below meth c) (S : St n0 p l e R s m args below meth c k n h T) {i : Fin 4} (hl : storeLocals Ls i.val (.long X) = some l') (hd : Dc code pc (.lstore_n i) 1 q) (g : Wp n0 p e R s below Q T (mkF m q l' st)) : Wp n0 p e R s below Q T (mkF m pc Ls (.long X :: st)) := by
  obtain ⟨hx, hby, -⟩ := K; obtain ⟨locs, S, -, -⟩ := S; obtain ⟨hd, rfl⟩ := hd
  exact wp_mono (fun t hr => XT.lstoreN S.here hx rfl (hb hby hd) rfl hl hr) g
theorem iinc (K : Cx own code mL ret mn n0 Z p l e R s m args below meth c) (S : St n0 p l e R s m args below meth c k n h T) {i : Nat} {cst : Int} (hv : Int32.ofInt cst = y) (hl : Ls[i]? = some (.val (.int x))) (hl' : storeLocals Ls i (.int (x + y)) = some l') (hd : Dc code pc (.iinc i cst) 3 q) (g : Wp n0 p e R s below Q T (mkF m q l' st)) : Wp n0 p e R s below Q T (mkF m pc Ls st) := by
  obtain ⟨hx, hby, -⟩ := K; obtain ⟨locs, S, -, -⟩ := S; obtain ⟨hd, rfl⟩ := hd
  exact wp_mono (fun t hr => XS.iinc S.here hx rfl (hb hby hd) hl (by rw [hv]; exact hl') hr) g
theorem goto (K : Cx own code mL ret mn n0 Z p l e R s m args below meth c) (S : St n0 p l e R s m args below meth c k n h T) {o : Int} (hd : Bc code pc (.goto o) o q q') (g : Wp n0 p e R s below Q T (mkF m q' Ls st)) : Wp n0 p e R s below Q T (mkF m pc Ls st) := by
  obtain ⟨hx, hby, -⟩ := K; obtain ⟨locs, S, -, -⟩ := S; obtain ⟨hd, -, h1, h2⟩ := hd
  exact wp_mono (fun t hr => XS.goto S.here hx rfl rfl (hb hby hd) h1 h2 hr) g
theorem icmp (K : Cx own code mL ret mn n0 Z p l e R s m args below meth c) (S : St n0 p l e R s m args below meth c k n h T) {o : Int} {cd : ClassFile.Cond} (hd : Bc code pc (.if_icmp cd o) o q q') (g1 : if_icmp.holds cd x y = true → Wp n0 p e R s below Q T (mkF m q' Ls st)) (g2 : if_icmp.holds cd x y = false → Wp n0 p e R s below Q T (mkF m q Ls st)) : Wp n0 p e R s below Q T (mkF m pc Ls (.int y :: .int x :: st)) := by
  obtain ⟨hx, hby, -⟩ := K; obtain ⟨locs, S, -, -⟩ := S; obtain ⟨hd, rfl, h1, h2⟩ := hd
  cases hc : if_icmp.holds cd x y with
  | true => exact wp_mono (fun t hr => XS.icmpYes S.here hx rfl rfl (hb hby hd) rfl hc h1 h2 hr) (g1 hc)
  | false => exact wp_mono (fun t hr => XS.icmpNo S.here hx rfl (hb hby hd) rfl hc hr) (g2 hc)
theorem ific (K : Cx own code mL ret mn n0 Z p l e R s m args below meth c) (S : St n0 p l e R s m args below meth c k n h T) {o : Int} {cd : ClassFile.Cond} (hd : Bc code pc (.ifCond cd o) o q q') (g1 : if_icmp.holds cd x 0 = true → Wp n0 p e R s below Q T (mkF m q' Ls st)) (g2 : if_icmp.holds cd x 0 = false → Wp n0 p e R s below Q T (mkF m q Ls st)) : Wp n0 p e R s below Q T (mkF m pc Ls (.int x :: st)) := by
  obtain ⟨hx, hby, -⟩ := K; obtain ⟨locs, S, -, -⟩ := S; obtain ⟨hd, rfl, h1, h2⟩ := hd
  cases hc : if_icmp.holds cd x 0 with
  | true => exact wp_mono (fun t hr => XS.ifYes S.here hx rfl rfl (hb hby hd) rfl (by rw [if0]; exact hc) h1 h2 hr) (g1 hc)
  | false => exact wp_mono (fun t hr => XS.ifNo S.here hx rfl (hb hby hd) rfl (by rw [if0]; exact hc) hr) (g2 hc)
theorem icmp_lt (K : Cx own code mL ret mn n0 Z p l e R s m args below meth c) (S : St n0 p l e R s m args below meth c k n h T) {o : Int} (hd : Bc code pc (.if_icmp .lt o) o q q') (g1 : x < y → Wp n0 p e R s below Q T (mkF m q' Ls st)) (g2 : ¬ x < y → Wp n0 p e R s below Q T (mkF m q Ls st)) : Wp n0 p e R s below Q T (mkF m pc Ls (.int y :: .int x :: st)) := by
  by_cases hc : x < y
  · exact icmp K S hd (fun _ => g1 hc) (fun q => absurd ((tlt hc).1) (by rw [q]; decide))
  · exact icmp K S hd (fun q => absurd ((flt hc).1) (by rw [q]; decide)) (fun _ => g2 hc)
theorem ific_lt (K : Cx own code mL ret mn n0 Z p l e R s m args below meth c) (S : St n0 p l e R s m args below meth c k n h T) {o : Int} (hd : Bc code pc (.ifCond .lt o) o q q') (g1 : x < 0 → Wp n0 p e R s below Q T (mkF m q' Ls st)) (g2 : ¬ x < 0 → Wp n0 p e R s below Q T (mkF m q Ls st)) : Wp n0 p e R s below Q T (mkF m pc Ls (.int x :: st)) := by
  by_cases hc : x < 0
  · exact ific K S hd (fun _ => g1 hc) (fun q => absurd ((tlt hc).1) (by rw [q]; decide))
  · exact ific K S hd (fun q => absurd ((flt hc).1) (by rw [q]; decide)) (fun _ => g2 hc)
theorem icmp_ge (K : Cx own code mL ret mn n0 Z p l e R s m args below meth c) (S : St n0 p l e R s m args below meth c k n h T) {o : Int} (hd : Bc code pc (.if_icmp .ge o) o q q') (g1 : ¬ x < y → Wp n0 p e R s below Q T (mkF m q' Ls st)) (g2 : x < y → Wp n0 p e R s below Q T (mkF m q Ls st)) : Wp n0 p e R s below Q T (mkF m pc Ls (.int y :: .int x :: st)) := by
  by_cases hc : x < y
  · exact icmp K S hd (fun q => absurd ((tlt hc).2.1) (by rw [q]; decide)) (fun _ => g2 hc)
  · exact icmp K S hd (fun _ => g1 hc) (fun q => absurd ((flt hc).2.1) (by rw [q]; decide))
theorem ific_ge (K : Cx own code mL ret mn n0 Z p l e R s m args below meth c) (S : St n0 p l e R s m args below meth c k n h T) {o : Int} (hd : Bc code pc (.ifCond .ge o) o q q') (g1 : ¬ x < 0 → Wp n0 p e R s below Q T (mkF m q' Ls st)) (g2 : x < 0 → Wp n0 p e R s below Q T (mkF m q Ls st)) : Wp n0 p e R s below Q T (mkF m pc Ls (.int x :: st)) := by
  by_cases hc : x < 0
  · exact ific K S hd (fun q => absurd ((tlt hc).2.1) (by rw [q]; decide)) (fun _ => g2 hc)
  · exact ific K S hd (fun _ => g1 hc) (fun q => absurd ((flt hc).2.1) (by rw [q]; decide))
theorem icmp_gt (K : Cx own code mL ret mn n0 Z p l e R s m args below meth c) (S : St n0 p l e R s m args below meth c k n h T) {o : Int} (hd : Bc code pc (.if_icmp .gt o) o q q') (g1 : y < x → Wp n0 p e R s below Q T (mkF m q' Ls st)) (g2 : ¬ y < x → Wp n0 p e R s below Q T (mkF m q Ls st)) : Wp n0 p e R s below Q T (mkF m pc Ls (.int y :: .int x :: st)) := by
  by_cases hc : y < x
  · exact icmp K S hd (fun _ => g1 hc) (fun q => absurd ((tlt hc).2.2.1) (by rw [q]; decide))
  · exact icmp K S hd (fun q => absurd ((flt hc).2.2.1) (by rw [q]; decide)) (fun _ => g2 hc)
theorem ific_gt (K : Cx own code mL ret mn n0 Z p l e R s m args below meth c) (S : St n0 p l e R s m args below meth c k n h T) {o : Int} (hd : Bc code pc (.ifCond .gt o) o q q') (g1 : 0 < x → Wp n0 p e R s below Q T (mkF m q' Ls st)) (g2 : ¬ 0 < x → Wp n0 p e R s below Q T (mkF m q Ls st)) : Wp n0 p e R s below Q T (mkF m pc Ls (.int x :: st)) := by
  by_cases hc : 0 < x
  · exact ific K S hd (fun _ => g1 hc) (fun q => absurd ((tlt hc).2.2.1) (by rw [q]; decide))
  · exact ific K S hd (fun q => absurd ((flt hc).2.2.1) (by rw [q]; decide)) (fun _ => g2 hc)
theorem icmp_le (K : Cx own code mL ret mn n0 Z p l e R s m args below meth c) (S : St n0 p l e R s m args below meth c k n h T) {o : Int} (hd : Bc code pc (.if_icmp .le o) o q q') (g1 : ¬ y < x → Wp n0 p e R s below Q T (mkF m q' Ls st)) (g2 : y < x → Wp n0 p e R s below Q T (mkF m q Ls st)) : Wp n0 p e R s below Q T (mkF m pc Ls (.int y :: .int x :: st)) := by
  by_cases hc : y < x
  · exact icmp K S hd (fun q => absurd ((tlt hc).2.2.2) (by rw [q]; decide)) (fun _ => g2 hc)
  · exact icmp K S hd (fun _ => g1 hc) (fun q => absurd ((flt hc).2.2.2) (by rw [q]; decide))
theorem ific_le (K : Cx own code mL ret mn n0 Z p l e R s m args below meth c) (S : St n0 p l e R s m args below meth c k n h T) {o : Int} (hd : Bc code pc (.ifCond .le o) o q q') (g1 : ¬ 0 < x → Wp n0 p e R s below Q T (mkF m q' Ls st)) (g2 : 0 < x → Wp n0 p e R s below Q T (mkF m q Ls st)) : Wp n0 p e R s below Q T (mkF m pc Ls (.int x :: st)) := by
  by_cases hc : 0 < x
  · exact ific K S hd (fun q => absurd ((tlt hc).2.2.2) (by rw [q]; decide)) (fun _ => g2 hc)
  · exact ific K S hd (fun _ => g1 hc) (fun q => absurd ((flt hc).2.2.2) (by rw [q]; decide))
theorem icmp_eq (K : Cx own code mL ret mn n0 Z p l e R s m args below meth c) (S : St n0 p l e R s m args below meth c k n h T) {o : Int} (hd : Bc code pc (.if_icmp .eq o) o q q') (g1 : x = y → Wp n0 p e R s below Q T (mkF m q' Ls st)) (g2 : ¬ x = y → Wp n0 p e R s below Q T (mkF m q Ls st)) : Wp n0 p e R s below Q T (mkF m pc Ls (.int y :: .int x :: st)) := by
  by_cases hc : x = y
  · exact icmp K S hd (fun _ => g1 hc) (fun q => absurd ((teq hc).1) (by rw [q]; decide))
  · exact icmp K S hd (fun q => absurd ((feq hc).1) (by rw [q]; decide)) (fun _ => g2 hc)
theorem ific_eq (K : Cx own code mL ret mn n0 Z p l e R s m args below meth c) (S : St n0 p l e R s m args below meth c k n h T) {o : Int} (hd : Bc code pc (.ifCond .eq o) o q q') (g1 : x = 0 → Wp n0 p e R s below Q T (mkF m q' Ls st)) (g2 : ¬ x = 0 → Wp n0 p e R s below Q T (mkF m q Ls st)) : Wp n0 p e R s below Q T (mkF m pc Ls (.int x :: st)) := by
  by_cases hc : x = 0
  · exact ific K S hd (fun _ => g1 hc) (fun q => absurd ((teq hc).1) (by rw [q]; decide))
  · exact ific K S hd (fun q => absurd ((feq hc).1) (by rw [q]; decide)) (fun _ => g2 hc)
theorem icmp_ne (K : Cx own code mL ret mn n0 Z p l e R s m args below meth c) (S : St n0 p l e R s m args below meth c k n h T) {o : Int} (hd : Bc code pc (.if_icmp .ne o) o q q') (g1 : ¬ x = y → Wp n0 p e R s below Q T (mkF m q' Ls st)) (g2 : x = y → Wp n0 p e R s below Q T (mkF m q Ls st)) : Wp n0 p e R s below Q T (mkF m pc Ls (.int y :: .int x :: st)) := by
  by_cases hc : x = y
  · exact icmp K S hd (fun q => absurd ((teq hc).2) (by rw [q]; decide)) (fun _ => g2 hc)
  · exact icmp K S hd (fun _ => g1 hc) (fun q => absurd ((feq hc).2) (by rw [q]; decide))
theorem ific_ne (K : Cx own code mL ret mn n0 Z p l e R s m args below meth c) (S : St n0 p l e R s m args below meth c k n h T) {o : Int} (hd : Bc code pc (.ifCond .ne o) o q q') (g1 : ¬ x = 0 → Wp n0 p e R s below Q T (mkF m q' Ls st)) (g2 : x = 0 → Wp n0 p e R s below Q T (mkF m q Ls st)) : Wp n0 p e R s below Q T (mkF m pc Ls (.int x :: st)) := by
  by_cases hc : x = 0
  · exact ific K S hd (fun q => absurd ((teq hc).2) (by rw [q]; decide)) (fun _ => g2 hc)
  · exact ific K S hd (fun _ => g1 hc) (fun q => absurd ((feq hc).2) (by rw [q]; decide))
theorem lcmp_lt (K : Cx own code mL ret mn n0 Z p l e R s m args below meth c) (S : St n0 p l e R s m args below meth c k n h T) {o : Int} {pc1 : Nat} (hd1 : Dc code pc .lcmp 1 pc1) (hd : Bc code pc1 (.ifCond .lt o) o q q') (g1 : X < Y → Wp n0 p e R s below Q T (mkF m q' Ls st)) (g2 : ¬ X < Y → Wp n0 p e R s below Q T (mkF m q Ls st)) : Wp n0 p e R s below Q T (mkF m pc Ls (.long Y :: .long X :: st)) := by
  obtain ⟨hx, hby, -⟩ := K; obtain ⟨locs, S, -, -⟩ := S; obtain ⟨hd, rfl, h1, h2⟩ := hd; obtain ⟨hd1, rfl⟩ := hd1
  by_cases hc : X < Y
  · exact wp_mono (fun t hr => XT.lcmp S.here hx rfl (hb hby hd1) rfl (XS.ifYes S.here hx rfl rfl (hb hby hd) rfl (XT.ll_lt_t hc) h1 h2 hr)) (g1 hc)
  · exact wp_mono (fun t hr => XT.lcmp S.here hx rfl (hb hby hd1) rfl (XS.ifNo S.here hx rfl (hb hby hd) rfl (XT.ll_lt_f hc) hr)) (g2 hc)
theorem lcmp_ge (K : Cx own code mL ret mn n0 Z p l e R s m args below meth c) (S : St n0 p l e R s m args below meth c k n h T) {o : Int} {pc1 : Nat} (hd1 : Dc code pc .lcmp 1 pc1) (hd : Bc code pc1 (.ifCond .ge o) o q q') (g1 : ¬ X < Y → Wp n0 p e R s below Q T (mkF m q' Ls st)) (g2 : X < Y → Wp n0 p e R s below Q T (mkF m q Ls st)) : Wp n0 p e R s below Q T (mkF m pc Ls (.long Y :: .long X :: st)) := by
  obtain ⟨hx, hby, -⟩ := K; obtain ⟨locs, S, -, -⟩ := S; obtain ⟨hd, rfl, h1, h2⟩ := hd; obtain ⟨hd1, rfl⟩ := hd1
  by_cases hc : X < Y
  · exact wp_mono (fun t hr => XT.lcmp S.here hx rfl (hb hby hd1) rfl (XS.ifNo S.here hx rfl (hb hby hd) rfl (XT.ll_ge_f hc) hr)) (g2 hc)
  · exact wp_mono (fun t hr => XT.lcmp S.here hx rfl (hb hby hd1) rfl (XS.ifYes S.here hx rfl rfl (hb hby hd) rfl (XT.ll_ge_t hc) h1 h2 hr)) (g1 hc)
theorem lcmp_gt (K : Cx own code mL ret mn n0 Z p l e R s m args below meth c) (S : St n0 p l e R s m args below meth c k n h T) {o : Int} {pc1 : Nat} (hd1 : Dc code pc .lcmp 1 pc1) (hd : Bc code pc1 (.ifCond .gt o) o q q') (g1 : Y < X → Wp n0 p e R s below Q T (mkF m q' Ls st)) (g2 : ¬ Y < X → Wp n0 p e R s below Q T (mkF m q Ls st)) : Wp n0 p e R s below Q T (mkF m pc Ls (.long Y :: .long X :: st)) := by
  obtain ⟨hx, hby, -⟩ := K; obtain ⟨locs, S, -, -⟩ := S; obtain ⟨hd, rfl, h1, h2⟩ := hd; obtain ⟨hd1, rfl⟩ := hd1
  by_cases hc : Y < X
  · exact wp_mono (fun t hr => XT.lcmp S.here hx rfl (hb hby hd1) rfl (XS.ifYes S.here hx rfl rfl (hb hby hd) rfl (XT.ll_gt_t hc) h1 h2 hr)) (g1 hc)
  · exact wp_mono (fun t hr => XT.lcmp S.here hx rfl (hb hby hd1) rfl (XS.ifNo S.here hx rfl (hb hby hd) rfl (XT.ll_gt_f hc) hr)) (g2 hc)
theorem lcmp_le (K : Cx own code mL ret mn n0 Z p l e R s m args below meth c) (S : St n0 p l e R s m args below meth c k n h T) {o : Int} {pc1 : Nat} (hd1 : Dc code pc .lcmp 1 pc1) (hd : Bc code pc1 (.ifCond .le o) o q q') (g1 : ¬ Y < X → Wp n0 p e R s below Q T (mkF m q' Ls st)) (g2 : Y < X → Wp n0 p e R s below Q T (mkF m q Ls st)) : Wp n0 p e R s below Q T (mkF m pc Ls (.long Y :: .long X :: st)) := by
  obtain ⟨hx, hby, -⟩ := K; obtain ⟨locs, S, -, -⟩ := S; obtain ⟨hd, rfl, h1, h2⟩ := hd; obtain ⟨hd1, rfl⟩ := hd1
  by_cases hc : Y < X
  · exact wp_mono (fun t hr => XT.lcmp S.here hx rfl (hb hby hd1) rfl (XS.ifNo S.here hx rfl (hb hby hd) rfl (XT.ll_le_f hc) hr)) (g2 hc)
  · exact wp_mono (fun t hr => XT.lcmp S.here hx rfl (hb hby hd1) rfl (XS.ifYes S.here hx rfl rfl (hb hby hd) rfl (XT.ll_le_t hc) h1 h2 hr)) (g1 hc)
theorem lcmp_eq (K : Cx own code mL ret mn n0 Z p l e R s m args below meth c) (S : St n0 p l e R s m args below meth c k n h T) {o : Int} {pc1 : Nat} (hd1 : Dc code pc .lcmp 1 pc1) (hd : Bc code pc1 (.ifCond .eq o) o q q') (g1 : X = Y → Wp n0 p e R s below Q T (mkF m q' Ls st)) (g2 : ¬ X = Y → Wp n0 p e R s below Q T (mkF m q Ls st)) : Wp n0 p e R s below Q T (mkF m pc Ls (.long Y :: .long X :: st)) := by
  obtain ⟨hx, hby, -⟩ := K; obtain ⟨locs, S, -, -⟩ := S; obtain ⟨hd, rfl, h1, h2⟩ := hd; obtain ⟨hd1, rfl⟩ := hd1
  by_cases hc : X = Y
  · exact wp_mono (fun t hr => XT.lcmp S.here hx rfl (hb hby hd1) rfl (XS.ifYes S.here hx rfl rfl (hb hby hd) rfl (XT.ll_eq_t hc) h1 h2 hr)) (g1 hc)
  · exact wp_mono (fun t hr => XT.lcmp S.here hx rfl (hb hby hd1) rfl (XS.ifNo S.here hx rfl (hb hby hd) rfl (XT.ll_eq_f hc) hr)) (g2 hc)
theorem lcmp_ne (K : Cx own code mL ret mn n0 Z p l e R s m args below meth c) (S : St n0 p l e R s m args below meth c k n h T) {o : Int} {pc1 : Nat} (hd1 : Dc code pc .lcmp 1 pc1) (hd : Bc code pc1 (.ifCond .ne o) o q q') (g1 : ¬ X = Y → Wp n0 p e R s below Q T (mkF m q' Ls st)) (g2 : X = Y → Wp n0 p e R s below Q T (mkF m q Ls st)) : Wp n0 p e R s below Q T (mkF m pc Ls (.long Y :: .long X :: st)) := by
  obtain ⟨hx, hby, -⟩ := K; obtain ⟨locs, S, -, -⟩ := S; obtain ⟨hd, rfl, h1, h2⟩ := hd; obtain ⟨hd1, rfl⟩ := hd1
  by_cases hc : X = Y
  · exact wp_mono (fun t hr => XT.lcmp S.here hx rfl (hb hby hd1) rfl (XS.ifNo S.here hx rfl (hb hby hd) rfl (XT.ll_ne_f hc) hr)) (g2 hc)
  · exact wp_mono (fun t hr => XT.lcmp S.here hx rfl (hb hby hd1) rfl (XS.ifYes S.here hx rfl rfl (hb hby hd) rfl (XT.ll_ne_t hc) h1 h2 hr)) (g1 hc)
theorem icmpz_lt (K : Cx own code mL ret mn n0 Z p l e R s m args below meth c) (S : St n0 p l e R s m args below meth c k n h T) {o : Int} (hd : Bc code pc (.if_icmp .lt o) o q q') (g1 : x.toInt < y.toInt → Wp n0 p e R s below Q T (mkF m q' Ls st)) (g2 : ¬ x.toInt < y.toInt → Wp n0 p e R s below Q T (mkF m q Ls st)) : Wp n0 p e R s below Q T (mkF m pc Ls (.int y :: .int x :: st)) :=
  icmp_lt K S hd (fun q => g1 (Int32.lt_iff_toInt_lt.mp q)) (fun q => g2 (fun r => q (Int32.lt_iff_toInt_lt.mpr r)))
theorem ificz_lt (K : Cx own code mL ret mn n0 Z p l e R s m args below meth c) (S : St n0 p l e R s m args below meth c k n h T) {o : Int} (hd : Bc code pc (.ifCond .lt o) o q q') (g1 : x.toInt < 0 → Wp n0 p e R s below Q T (mkF m q' Ls st)) (g2 : ¬ x.toInt < 0 → Wp n0 p e R s below Q T (mkF m q Ls st)) : Wp n0 p e R s below Q T (mkF m pc Ls (.int x :: st)) :=
  ific_lt K S hd (fun q => g1 (Int32.lt_iff_toInt_lt.mp q)) (fun q => g2 (fun r => q (Int32.lt_iff_toInt_lt.mpr r)))
theorem lcmpz_lt (K : Cx own code mL ret mn n0 Z p l e R s m args below meth c) (S : St n0 p l e R s m args below meth c k n h T) {o : Int} {pc1 : Nat} (hd1 : Dc code pc .lcmp 1 pc1) (hd : Bc code pc1 (.ifCond .lt o) o q q') (g1 : X.toInt < Y.toInt → Wp n0 p e R s below Q T (mkF m q' Ls st)) (g2 : ¬ X.toInt < Y.toInt → Wp n0 p e R s below Q T (mkF m q Ls st)) : Wp n0 p e R s below Q T (mkF m pc Ls (.long Y :: .long X :: st)) :=
  lcmp_lt K S hd1 hd (fun q => g1 (Int64.lt_iff_toInt_lt.mp q)) (fun q => g2 (fun r => q (Int64.lt_iff_toInt_lt.mpr r)))
theorem icmpz_ge (K : Cx own code mL ret mn n0 Z p l e R s m args below meth c) (S : St n0 p l e R s m args below meth c k n h T) {o : Int} (hd : Bc code pc (.if_icmp .ge o) o q q') (g1 : ¬ x.toInt < y.toInt → Wp n0 p e R s below Q T (mkF m q' Ls st)) (g2 : x.toInt < y.toInt → Wp n0 p e R s below Q T (mkF m q Ls st)) : Wp n0 p e R s below Q T (mkF m pc Ls (.int y :: .int x :: st)) :=
  icmp_ge K S hd (fun q => g1 (fun r => q (Int32.lt_iff_toInt_lt.mpr r))) (fun q => g2 (Int32.lt_iff_toInt_lt.mp q))
theorem ificz_ge (K : Cx own code mL ret mn n0 Z p l e R s m args below meth c) (S : St n0 p l e R s m args below meth c k n h T) {o : Int} (hd : Bc code pc (.ifCond .ge o) o q q') (g1 : ¬ x.toInt < 0 → Wp n0 p e R s below Q T (mkF m q' Ls st)) (g2 : x.toInt < 0 → Wp n0 p e R s below Q T (mkF m q Ls st)) : Wp n0 p e R s below Q T (mkF m pc Ls (.int x :: st)) :=
  ific_ge K S hd (fun q => g1 (fun r => q (Int32.lt_iff_toInt_lt.mpr r))) (fun q => g2 (Int32.lt_iff_toInt_lt.mp q))
theorem lcmpz_ge (K : Cx own code mL ret mn n0 Z p l e R s m args below meth c) (S : St n0 p l e R s m args below meth c k n h T) {o : Int} {pc1 : Nat} (hd1 : Dc code pc .lcmp 1 pc1) (hd : Bc code pc1 (.ifCond .ge o) o q q') (g1 : ¬ X.toInt < Y.toInt → Wp n0 p e R s below Q T (mkF m q' Ls st)) (g2 : X.toInt < Y.toInt → Wp n0 p e R s below Q T (mkF m q Ls st)) : Wp n0 p e R s below Q T (mkF m pc Ls (.long Y :: .long X :: st)) :=
  lcmp_ge K S hd1 hd (fun q => g1 (fun r => q (Int64.lt_iff_toInt_lt.mpr r))) (fun q => g2 (Int64.lt_iff_toInt_lt.mp q))
theorem icmpz_gt (K : Cx own code mL ret mn n0 Z p l e R s m args below meth c) (S : St n0 p l e R s m args below meth c k n h T) {o : Int} (hd : Bc code pc (.if_icmp .gt o) o q q') (g1 : y.toInt < x.toInt → Wp n0 p e R s below Q T (mkF m q' Ls st)) (g2 : ¬ y.toInt < x.toInt → Wp n0 p e R s below Q T (mkF m q Ls st)) : Wp n0 p e R s below Q T (mkF m pc Ls (.int y :: .int x :: st)) :=
  icmp_gt K S hd (fun q => g1 (Int32.lt_iff_toInt_lt.mp q)) (fun q => g2 (fun r => q (Int32.lt_iff_toInt_lt.mpr r)))
theorem ificz_gt (K : Cx own code mL ret mn n0 Z p l e R s m args below meth c) (S : St n0 p l e R s m args below meth c k n h T) {o : Int} (hd : Bc code pc (.ifCond .gt o) o q q') (g1 : 0 < x.toInt → Wp n0 p e R s below Q T (mkF m q' Ls st)) (g2 : ¬ 0 < x.toInt → Wp n0 p e R s below Q T (mkF m q Ls st)) : Wp n0 p e R s below Q T (mkF m pc Ls (.int x :: st)) :=
  ific_gt K S hd (fun q => g1 (Int32.lt_iff_toInt_lt.mp q)) (fun q => g2 (fun r => q (Int32.lt_iff_toInt_lt.mpr r)))
theorem lcmpz_gt (K : Cx own code mL ret mn n0 Z p l e R s m args below meth c) (S : St n0 p l e R s m args below meth c k n h T) {o : Int} {pc1 : Nat} (hd1 : Dc code pc .lcmp 1 pc1) (hd : Bc code pc1 (.ifCond .gt o) o q q') (g1 : Y.toInt < X.toInt → Wp n0 p e R s below Q T (mkF m q' Ls st)) (g2 : ¬ Y.toInt < X.toInt → Wp n0 p e R s below Q T (mkF m q Ls st)) : Wp n0 p e R s below Q T (mkF m pc Ls (.long Y :: .long X :: st)) :=
  lcmp_gt K S hd1 hd (fun q => g1 (Int64.lt_iff_toInt_lt.mp q)) (fun q => g2 (fun r => q (Int64.lt_iff_toInt_lt.mpr r)))
theorem icmpz_le (K : Cx own code mL ret mn n0 Z p l e R s m args below meth c) (S : St n0 p l e R s m args below meth c k n h T) {o : Int} (hd : Bc code pc (.if_icmp .le o) o q q') (g1 : ¬ y.toInt < x.toInt → Wp n0 p e R s below Q T (mkF m q' Ls st)) (g2 : y.toInt < x.toInt → Wp n0 p e R s below Q T (mkF m q Ls st)) : Wp n0 p e R s below Q T (mkF m pc Ls (.int y :: .int x :: st)) :=
  icmp_le K S hd (fun q => g1 (fun r => q (Int32.lt_iff_toInt_lt.mpr r))) (fun q => g2 (Int32.lt_iff_toInt_lt.mp q))
theorem ificz_le (K : Cx own code mL ret mn n0 Z p l e R s m args below meth c) (S : St n0 p l e R s m args below meth c k n h T) {o : Int} (hd : Bc code pc (.ifCond .le o) o q q') (g1 : ¬ 0 < x.toInt → Wp n0 p e R s below Q T (mkF m q' Ls st)) (g2 : 0 < x.toInt → Wp n0 p e R s below Q T (mkF m q Ls st)) : Wp n0 p e R s below Q T (mkF m pc Ls (.int x :: st)) :=
  ific_le K S hd (fun q => g1 (fun r => q (Int32.lt_iff_toInt_lt.mpr r))) (fun q => g2 (Int32.lt_iff_toInt_lt.mp q))
theorem lcmpz_le (K : Cx own code mL ret mn n0 Z p l e R s m args below meth c) (S : St n0 p l e R s m args below meth c k n h T) {o : Int} {pc1 : Nat} (hd1 : Dc code pc .lcmp 1 pc1) (hd : Bc code pc1 (.ifCond .le o) o q q') (g1 : ¬ Y.toInt < X.toInt → Wp n0 p e R s below Q T (mkF m q' Ls st)) (g2 : Y.toInt < X.toInt → Wp n0 p e R s below Q T (mkF m q Ls st)) : Wp n0 p e R s below Q T (mkF m pc Ls (.long Y :: .long X :: st)) :=
  lcmp_le K S hd1 hd (fun q => g1 (fun r => q (Int64.lt_iff_toInt_lt.mpr r))) (fun q => g2 (Int64.lt_iff_toInt_lt.mp q))
theorem icmpz_eq (K : Cx own code mL ret mn n0 Z p l e R s m args below meth c) (S : St n0 p l e R s m args below meth c k n h T) {o : Int} (hd : Bc code pc (.if_icmp .eq o) o q q') (g1 : x.toInt = y.toInt → Wp n0 p e R s below Q T (mkF m q' Ls st)) (g2 : ¬ x.toInt = y.toInt → Wp n0 p e R s below Q T (mkF m q Ls st)) : Wp n0 p e R s below Q T (mkF m pc Ls (.int y :: .int x :: st)) :=
  icmp_eq K S hd (fun q => g1 (congrArg Int32.toInt q)) (fun q => g2 (fun r => q (Int32.toInt_inj.mp r)))
theorem ificz_eq (K : Cx own code mL ret mn n0 Z p l e R s m args below meth c) (S : St n0 p l e R s m args below meth c k n h T) {o : Int} (hd : Bc code pc (.ifCond .eq o) o q q') (g1 : x.toInt = 0 → Wp n0 p e R s below Q T (mkF m q' Ls st)) (g2 : ¬ x.toInt = 0 → Wp n0 p e R s below Q T (mkF m q Ls st)) : Wp n0 p e R s below Q T (mkF m pc Ls (.int x :: st)) :=
  ific_eq K S hd (fun q => g1 (congrArg Int32.toInt q)) (fun q => g2 (fun r => q (Int32.toInt_inj.mp r)))
theorem lcmpz_eq (K : Cx own code mL ret mn n0 Z p l e R s m args below meth c) (S : St n0 p l e R s m args below meth c k n h T) {o : Int} {pc1 : Nat} (hd1 : Dc code pc .lcmp 1 pc1) (hd : Bc code pc1 (.ifCond .eq o) o q q') (g1 : X.toInt = Y.toInt → Wp n0 p e R s below Q T (mkF m q' Ls st)) (g2 : ¬ X.toInt = Y.toInt → Wp n0 p e R s below Q T (mkF m q Ls st)) : Wp n0 p e R s below Q T (mkF m pc Ls (.long Y :: .long X :: st)) :=
  lcmp_eq K S hd1 hd (fun q => g1 (congrArg Int64.toInt q)) (fun q => g2 (fun r => q (Int64.toInt_inj.mp r)))
theorem icmpz_ne (K : Cx own code mL ret mn n0 Z p l e R s m args below meth c) (S : St n0 p l e R s m args below meth c k n h T) {o : Int} (hd : Bc code pc (.if_icmp .ne o) o q q') (g1 : ¬ x.toInt = y.toInt → Wp n0 p e R s below Q T (mkF m q' Ls st)) (g2 : x.toInt = y.toInt → Wp n0 p e R s below Q T (mkF m q Ls st)) : Wp n0 p e R s below Q T (mkF m pc Ls (.int y :: .int x :: st)) :=
  icmp_ne K S hd (fun q => g1 (fun r => q (Int32.toInt_inj.mp r))) (fun q => g2 (congrArg Int32.toInt q))
theorem ificz_ne (K : Cx own code mL ret mn n0 Z p l e R s m args below meth c) (S : St n0 p l e R s m args below meth c k n h T) {o : Int} (hd : Bc code pc (.ifCond .ne o) o q q') (g1 : ¬ x.toInt = 0 → Wp n0 p e R s below Q T (mkF m q' Ls st)) (g2 : x.toInt = 0 → Wp n0 p e R s below Q T (mkF m q Ls st)) : Wp n0 p e R s below Q T (mkF m pc Ls (.int x :: st)) :=
  ific_ne K S hd (fun q => g1 (fun r => q (Int32.toInt_inj.mp r))) (fun q => g2 (congrArg Int32.toInt q))
theorem lcmpz_ne (K : Cx own code mL ret mn n0 Z p l e R s m args below meth c) (S : St n0 p l e R s m args below meth c k n h T) {o : Int} {pc1 : Nat} (hd1 : Dc code pc .lcmp 1 pc1) (hd : Bc code pc1 (.ifCond .ne o) o q q') (g1 : ¬ X.toInt = Y.toInt → Wp n0 p e R s below Q T (mkF m q' Ls st)) (g2 : X.toInt = Y.toInt → Wp n0 p e R s below Q T (mkF m q Ls st)) : Wp n0 p e R s below Q T (mkF m pc Ls (.long Y :: .long X :: st)) :=
  lcmp_ne K S hd1 hd (fun q => g1 (fun r => q (Int64.toInt_inj.mp r))) (fun q => g2 (congrArg Int64.toInt q))
theorem ifnull_ref (K : Cx own code mL ret mn n0 Z p l e R s m args below meth c) (S : St n0 p l e R s m args below meth c k n h T) {o : Int} (hd : Bc code pc (.ifnull o) o q q') (g : Wp n0 p e R s below Q T (mkF m q Ls st)) : Wp n0 p e R s below Q T (mkF m pc Ls (.ref a :: st)) := by
  obtain ⟨hx, hby, -⟩ := K; obtain ⟨locs, S, -, -⟩ := S; obtain ⟨hd, rfl, h1, h2⟩ := hd
  exact wp_mono (fun t hr => XS.ifnullNo S.here hx rfl (hb hby hd) rfl hr) g
theorem ldc (K : Cx own code mL ret mn n0 Z p l e R s m args below meth c) (S : St n0 p l e R s m args below meth c k n h T) {i : Nat} (w : (Jvm.Cond.constant own i x).before a0 Z = true) (hd : Dc code pc (.ldc i) 2 q) (g : Wp n0 p e R s below Q T (mkF m q Ls (.int x :: st))) : Wp n0 p e R s below Q T (mkF m pc Ls st) := by
  obtain ⟨hx, hby, -, -, -, hown, hZ, -⟩ := K; obtain ⟨locs, S, -, -⟩ := S; obtain ⟨hd, rfl⟩ := hd
  refine wp_mono (T' := T) (g' := mkF m (pc + 2) Ls (.int x :: st)) (fun t hr => ?_) g
  exact S.ldcInt hx hown (mvT hZ w) (g := mkF m pc Ls st) rfl (hb hby hd) t hr
theorem ldc2 (K : Cx own code mL ret mn n0 Z p l e R s m args below meth c) (S : St n0 p l e R s m args below meth c k n h T) {i : Nat} (w : (Jvm.Cond.constantLong own i X).before a0 Z = true) (hd : Dc code pc (.ldc2_w i) 3 q) (g : Wp n0 p e R s below Q T (mkF m q Ls (.long X :: st))) : Wp n0 p e R s below Q T (mkF m pc Ls st) := by
  obtain ⟨hx, hby, -, -, -, hown, hZ, -⟩ := K; obtain ⟨locs, S, -, -⟩ := S; obtain ⟨hd, rfl⟩ := hd
  refine wp_mono (T' := T) (g' := mkF m (pc + 3) Ls (.long X :: st)) (fun t hr => ?_) g
  exact S.ldc2Long hx hown (mvT hZ w) (g := mkF m pc Ls st) rfl (hb hby hd) t hr
theorem getf (K : Cx own code mL ret mn n0 Z p l e R s m args below meth c) (S : St n0 p l e R s m args below meth c k n h T) {i : Nat} {O fn d : String} (w : (Jvm.Cond.fieldLink own i O fn d).before a0 Z = true) (F : Fld Z h a O fn d v) (hd : Dc code pc (.getfield i) 3 q) (g : ∀ T, St n0 p l e R s m args below meth c k n h T → Wp n0 p e R s below Q T (mkF m q Ls (v :: st))) : Wp n0 p e R s below Q T (mkF m pc Ls (.ref a :: st)) := by
  obtain ⟨hx, hby, -, -, -, hown, hZ, -⟩ := K; obtain ⟨locs, S, e1, N, z⟩ := S; obtain ⟨hd, rfl⟩ := hd
  obtain ⟨T1, S1, e2, st1⟩ := getF S hx hZ hown (host := "") (Or.inl w) Via.refl e1 F (g := mkF m pc Ls (.ref a :: st)) rfl rfl (hb hby hd)
  exact wp_mono st1 (g T1 ⟨locs, S1, e2, N, z⟩)
theorem putf (K : Cx own code mL ret mn n0 Z p l e R s m args below meth c) (S : St n0 p l e R s m args below meth c k n h T) {i kk : Nat} {O fn d C : String} {old : Value} (w : (Jvm.Cond.fieldLink own i O fn d).before a0 Z = true) (F : Fld Z h a O fn d old) (E : Exa Z h a C) (L : (Jvm.Cond.lays C O fn d).before a0 Z = true ∨ ((Jvm.Cond.laysFinal C O fn d).before a0 Z = true ∧ own = O ∧ mn = "<init>")) (wi : (Jvm.Cond.instantiable C kk).before a0 Z = true) (hty : parseFieldDescriptor d = some ty) (hn : narrow ty v = v) (hf : fits ty v = true) (ha : n0 ≤ a) (hd : Dc code pc (.putfield i) 3 q) (g : ∀ T h', Wr h h' a (Jvm.RoadKit.slotOf Z O fn d) v → St n0 p l e R s m args below meth c k n h' T → Wp n0 p e R s below Q T (mkF m q Ls st)) : Wp n0 p e R s below Q T (mkF m pc Ls (v :: .ref a :: st)) := by
  obtain ⟨hx, hby, -, -, -, hown, hZ, hmn⟩ := K; obtain ⟨locs, S, e1, N, z⟩ := S; obtain ⟨hd, rfl⟩ := hd
  obtain ⟨T1, h1, S1, e2, W1, st1⟩ := putF S hx hZ hown (host := "") (Or.inl w) Via.refl e1 F E (L.imp id fun q => ⟨q.1, q.2.1, hmn.trans q.2.2⟩) wi hty hn hf (g := mkF m pc Ls (v :: .ref a :: st)) rfl rfl (hb hby hd)
  exact wp_mono st1 (g T1 h1 W1 ⟨_, S1, e2, Fr.snoc S1 N ha, by rw [W1.size]; exact z⟩)
theorem new (K : Cx own code mL ret mn n0 Z p l e R s m args below meth c) (S : St n0 p l e R s m args below meth c k n h T) {i nn : Nat} {C : String} (w : (Jvm.Cond.classLink own i C).before a0 Z = true) (wi : (Jvm.Cond.instantiable C nn).before a0 Z = true) (wz : (Jvm.Cond.initialized C).before a0 Z = true) (hc : k + 1 ≤ R.cells) (hl : n + nn ≤ R.slots) (hd : Dc code pc (.new i) 3 q) (g : ∀ T h' a, a = h.size → n0 ≤ a → Ext h h' → Exa Z h' a C → (∀ {O nm d : String} {ty : FieldType}, Laid Z a0 C O nm d → parseFieldDescriptor d = some ty → Fld Z h' a O nm d (defaultValue ty)) → St n0 p l e R s m args below meth c (k + 1) (n + nn) h' T → Wp n0 p e R s below Q T (mkF m q Ls (.ref a :: st))) : Wp n0 p e R s below Q T (mkF m pc Ls st) := by
  obtain ⟨hx, hby, -, -, -, hown, hZ, hmn⟩ := K; obtain ⟨locs, S, e1, N, z⟩ := S; obtain ⟨hd, rfl⟩ := hd
  obtain ⟨T1, h1, S1, e2, E1, A1, D1, -, st1⟩ := newO S hx hZ hown w wi wz e1 (g := mkF m pc Ls st) rfl (hb hby hd) hc hl
  exact wp_mono st1 (g T1 h1 h.size rfl z E1 A1 D1 ⟨_, S1, e2, N, Nat.le_trans z E1.1⟩)
theorem newarr (K : Cx own code mL ret mn n0 Z p l e R s m args below meth c) (S : St n0 p l e R s m args below meth c k n h T) {aty : ArrayType} {cap : Nat} (w : (Jvm.Cond.arrayClass (newarray.typeOf aty)).before a0 Z = true) (hn : ¬ x < 0) (hcap : x.toNatClampNeg ≤ cap) (hb' : cap * 8 ≤ 536870912) (hc : k + 1 ≤ R.cells) (hl : n + cap ≤ R.slots) (hd : Dc code pc (.newarray aty) 2 q) (g : ∀ T h' a, a = h.size → n0 ≤ a → Ext h h' → VA Z h' a (newarray.typeOf aty) (List.replicate x.toNatClampNeg (defaultValue (newarray.typeOf aty))) → St n0 p l e R s m args below meth c (k + 1) (n + cap) h' T → Wp n0 p e R s below Q T (mkF m q Ls (.ref a :: st))) : Wp n0 p e R s below Q T (mkF m pc Ls (.int x :: st)) := by
  obtain ⟨hx, hby, -, -, -, hown, hZ, hmn⟩ := K; obtain ⟨locs, S, e1, N, z⟩ := S; obtain ⟨hd, rfl⟩ := hd
  obtain ⟨T1, h1, cA, S1, e2, E1, A1, st1⟩ := newP S hx hZ w e1 (g := mkF m pc Ls (.int x :: st)) rfl (hb hby hd) rfl hn hcap hb' hc hl
  exact wp_mono st1 (g T1 h1 h.size rfl z E1 ⟨_, A1, by simp [newA]⟩ ⟨_, S1, e2, N, Nat.le_trans z E1.1⟩)
theorem inito (K : Cx own code mL ret mn n0 Z p l e R s m args below meth c) (S : St n0 p l e R s m args below meth c k n h T) {i W : Nat} (w1 : (Jvm.Cond.methodLink own i Lib.objectInit).before a0 Z = true) (w2 : (Jvm.Cond.instanceMethod Lib.objectInit).before a0 Z = true) (w3 : (Jvm.Cond.code Lib.objectInit ⟨#[0xb1]⟩ 1 none).before a0 Z = true) (hsz : Ls.size = mL) (hf : 1 ≤ R.frames) (hW : (st.map fun v => v.category).sum ≤ W) (hl : W + 12 ≤ R.locals) (hd : Dc code pc (.invokespecial i) 3 q) (g : ∀ T, St n0 p l e R s m args below meth c k n h T → Wp n0 p e R s below Q T (mkF m q Ls st)) : Wp n0 p e R s below Q T (mkF m pc Ls (.ref a :: st)) := by
  obtain ⟨hx, hby, hml, -, -, hown, hZ, hmn⟩ := K; obtain ⟨locs, S, e1, N, z⟩ := S; obtain ⟨hd, rfl⟩ := hd
  obtain ⟨T1, S1, e2, st1⟩ := initO S hx hZ hown w1 w2 w3 e1 (g := mkF m pc Ls (.ref a :: st)) rfl (by rw [hml]; exact hsz) rfl (hb hby hd) hf (W := W) (by show 2 * 0 + _ ≤ _; omega) hl
  exact wp_mono st1 (g T1 ⟨_, S1, e2, N, z⟩)
theorem iaload (K : Cx own code mL ret mn n0 Z p l e R s m args below meth c) (S : St n0 p l e R s m args below meth c k n h T) {i : Nat} (A : VA Z h a .int vs) (hi : Ix x i) (hv : vs[i]? = some v) (hd : Dc code pc .iaload 1 q) (g : Wp n0 p e R s below Q T (mkF m q Ls (v :: st))) : Wp n0 p e R s below Q T (mkF m pc Ls (.int x :: .ref a :: st)) := by
  obtain ⟨hx, hby, -, -, -, hown, hZ, -⟩ := K; obtain ⟨locs, S, e1, N, z⟩ := S; obtain ⟨hd, rfl⟩ := hd; obtain ⟨cl, A, hs⟩ := A; obtain ⟨hi0, rfl⟩ := hi
  have hlt : x.toNatClampNeg < vs.length := (List.getElem?_eq_some_iff.mp hv).1
  exact wp_mono (fun t hr => S.iaload hx (by rw [e1]; exact A.1) (State.isArrayOf_alike hZ.alike A.2.1) A.2.2 (by rw [hs]; simp; exact ⟨Int32.not_lt.mp hi0, hlt⟩) (by rw [hs]; simpa using hv) (g := mkF m pc Ls (.int x :: .ref a :: st)) rfl rfl (hb hby hd) t hr) g
theorem laload (K : Cx own code mL ret mn n0 Z p l e R s m args below meth c) (S : St n0 p l e R s m args below meth c k n h T) {i : Nat} (A : VA Z h a .long vs) (hi : Ix x i) (hv : vs[i]? = some v) (hd : Dc code pc .laload 1 q) (g : Wp n0 p e R s below Q T (mkF m q Ls (v :: st))) : Wp n0 p e R s below Q T (mkF m pc Ls (.int x :: .ref a :: st)) := by
  obtain ⟨hx, hby, -, -, -, hown, hZ, -⟩ := K; obtain ⟨locs, S, e1, N, z⟩ := S; obtain ⟨hd, rfl⟩ := hd; obtain ⟨cl, A, hs⟩ := A; obtain ⟨hi0, rfl⟩ := hi
  have hlt : x.toNatClampNeg < vs.length := (List.getElem?_eq_some_iff.mp hv).1
  exact wp_mono (fun t hr => S.laload hx (by rw [e1]; exact A.1) (State.isArrayOf_alike hZ.alike A.2.1) A.2.2 (by rw [hs]; simp; exact ⟨Int32.not_lt.mp hi0, hlt⟩) (by rw [hs]; simpa using hv) (g := mkF m pc Ls (.int x :: .ref a :: st)) rfl rfl (hb hby hd) t hr) g
theorem caload (K : Cx own code mL ret mn n0 Z p l e R s m args below meth c) (S : St n0 p l e R s m args below meth c k n h T) {i : Nat} (A : VA Z h a .char vs) (hi : Ix x i) (hv : vs[i]? = some v) (hd : Dc code pc .caload 1 q) (g : Wp n0 p e R s below Q T (mkF m q Ls (v :: st))) : Wp n0 p e R s below Q T (mkF m pc Ls (.int x :: .ref a :: st)) := by
  obtain ⟨hx, hby, -, -, -, hown, hZ, -⟩ := K; obtain ⟨locs, S, e1, N, z⟩ := S; obtain ⟨hd, rfl⟩ := hd; obtain ⟨cl, A, hs⟩ := A; obtain ⟨hi0, rfl⟩ := hi
  have hlt : x.toNatClampNeg < vs.length := (List.getElem?_eq_some_iff.mp hv).1
  exact wp_mono (fun t hr => S.caload hx (by rw [e1]; exact A.1) (State.isArrayOf_alike hZ.alike A.2.1) A.2.2 (by rw [hs]; simp; exact ⟨Int32.not_lt.mp hi0, hlt⟩) (by rw [hs]; simpa using hv) (g := mkF m pc Ls (.int x :: .ref a :: st)) rfl rfl (hb hby hd) t hr) g
theorem baload (K : Cx own code mL ret mn n0 Z p l e R s m args below meth c) (S : St n0 p l e R s m args below meth c k n h T) {i : Nat} (A : VA Z h a .byte vs) (hi : Ix x i) (hv : vs[i]? = some v) (hd : Dc code pc .baload 1 q) (g : Wp n0 p e R s below Q T (mkF m q Ls (v :: st))) : Wp n0 p e R s below Q T (mkF m pc Ls (.int x :: .ref a :: st)) := by
  obtain ⟨hx, hby, -, -, -, hown, hZ, -⟩ := K; obtain ⟨locs, S, e1, N, z⟩ := S; obtain ⟨hd, rfl⟩ := hd; obtain ⟨cl, A, hs⟩ := A; obtain ⟨hi0, rfl⟩ := hi
  have hlt : x.toNatClampNeg < vs.length := (List.getElem?_eq_some_iff.mp hv).1
  exact wp_mono (fun t hr => S.baloadBytes hx (by rw [e1]; exact A.1) (State.isArrayOf_alike hZ.alike A.2.1) A.2.2 (by rw [hs]; simp; exact ⟨Int32.not_lt.mp hi0, hlt⟩) (by rw [hs]; simpa using hv) (g := mkF m pc Ls (.int x :: .ref a :: st)) rfl rfl (hb hby hd) t hr) g
theorem iastore (K : Cx own code mL ret mn n0 Z p l e R s m args below meth c) (S : St n0 p l e R s m args below meth c k n h T) {i : Nat} (A : VA Z h a .int vs) (hi : Ix x i) (hlt : i < vs.length) (ha : n0 ≤ a) (hd : Dc code pc .iastore 1 q) (g : ∀ T h', Wr h h' a i (.int y) → VA Z h' a .int (vs.set i (.int y)) → St n0 p l e R s m args below meth c k n h' T → Wp n0 p e R s below Q T (mkF m q Ls st)) : Wp n0 p e R s below Q T (mkF m pc Ls (.int y :: .int x :: .ref a :: st)) := by
  obtain ⟨hx, hby, -, -, -, hown, hZ, -⟩ := K; obtain ⟨locs, S, e1, N, z⟩ := S; obtain ⟨hd, rfl⟩ := hd; have A0 := A; obtain ⟨cl, A, hs⟩ := A; obtain ⟨hi0, rfl⟩ := hi
  obtain ⟨T1, h1, S1, e2, W1, st1⟩ := stI S hx hZ e1 A (by rw [hs]; simp; exact ⟨Int32.not_lt.mp hi0, hlt⟩) (g := mkF m pc Ls (.int y :: .int x :: .ref a :: st)) rfl rfl (hb hby hd)
  exact wp_mono st1 (g T1 h1 W1 (A0.wr W1) ⟨_, S1, e2, Fr.snoc S1 N ha, by rw [W1.size]; exact z⟩)
theorem lastore (K : Cx own code mL ret mn n0 Z p l e R s m args below meth c) (S : St n0 p l e R s m args below meth c k n h T) {i : Nat} (A : VA Z h a .long vs) (hi : Ix x i) (hlt : i < vs.length) (ha : n0 ≤ a) (hd : Dc code pc .lastore 1 q) (g : ∀ T h', Wr h h' a i (.long X) → VA Z h' a .long (vs.set i (.long X)) → St n0 p l e R s m args below meth c k n h' T → Wp n0 p e R s below Q T (mkF m q Ls st)) : Wp n0 p e R s below Q T (mkF m pc Ls (.long X :: .int x :: .ref a :: st)) := by
  obtain ⟨hx, hby, -, -, -, hown, hZ, -⟩ := K; obtain ⟨locs, S, e1, N, z⟩ := S; obtain ⟨hd, rfl⟩ := hd; have A0 := A; obtain ⟨cl, A, hs⟩ := A; obtain ⟨hi0, rfl⟩ := hi
  obtain ⟨T1, h1, S1, e2, W1, st1⟩ := stJ S hx hZ e1 A (by rw [hs]; simp; exact ⟨Int32.not_lt.mp hi0, hlt⟩) (g := mkF m pc Ls (.long X :: .int x :: .ref a :: st)) rfl rfl (hb hby hd)
  exact wp_mono st1 (g T1 h1 W1 (A0.wr W1) ⟨_, S1, e2, Fr.snoc S1 N ha, by rw [W1.size]; exact z⟩)
theorem castore (K : Cx own code mL ret mn n0 Z p l e R s m args below meth c) (S : St n0 p l e R s m args below meth c k n h T) {i : Nat} (A : VA Z h a .char vs) (hi : Ix x i) (hlt : i < vs.length) (ha : n0 ≤ a) (hd : Dc code pc .castore 1 q) (g : ∀ T h', Wr h h' a i (.int (nar .char y)) → VA Z h' a .char (vs.set i (.int (nar .char y))) → St n0 p l e R s m args below meth c k n h' T → Wp n0 p e R s below Q T (mkF m q Ls st)) : Wp n0 p e R s below Q T (mkF m pc Ls (.int y :: .int x :: .ref a :: st)) := by
  obtain ⟨hx, hby, -, -, -, hown, hZ, -⟩ := K; obtain ⟨locs, S, e1, N, z⟩ := S; obtain ⟨hd, rfl⟩ := hd; have A0 := A; obtain ⟨cl, A, hs⟩ := A; obtain ⟨hi0, rfl⟩ := hi
  obtain ⟨T1, h1, S1, e2, W1, st1⟩ := stC S hx hZ e1 A (by rw [hs]; simp; exact ⟨Int32.not_lt.mp hi0, hlt⟩) (g := mkF m pc Ls (.int y :: .int x :: .ref a :: st)) rfl rfl (hb hby hd)
  exact wp_mono st1 (g T1 h1 W1 (A0.wr W1) ⟨_, S1, e2, Fr.snoc S1 N ha, by rw [W1.size]; exact z⟩)
theorem bastore (K : Cx own code mL ret mn n0 Z p l e R s m args below meth c) (S : St n0 p l e R s m args below meth c k n h T) {i : Nat} (A : VA Z h a .byte vs) (hi : Ix x i) (hlt : i < vs.length) (ha : n0 ≤ a) (hd : Dc code pc .bastore 1 q) (g : ∀ T h', Wr h h' a i (.int (nar .byte y)) → VA Z h' a .byte (vs.set i (.int (nar .byte y))) → St n0 p l e R s m args below meth c k n h' T → Wp n0 p e R s below Q T (mkF m q Ls st)) : Wp n0 p e R s below Q T (mkF m pc Ls (.int y :: .int x :: .ref a :: st)) := by
  obtain ⟨hx, hby, -, -, -, hown, hZ, -⟩ := K; obtain ⟨locs, S, e1, N, z⟩ := S; obtain ⟨hd, rfl⟩ := hd; have A0 := A; obtain ⟨cl, A, hs⟩ := A; obtain ⟨hi0, rfl⟩ := hi
  obtain ⟨T1, h1, S1, e2, W1, st1⟩ := stB S hx hZ e1 A (by rw [hs]; simp; exact ⟨Int32.not_lt.mp hi0, hlt⟩) (g := mkF m pc Ls (.int y :: .int x :: .ref a :: st)) rfl rfl (hb hby hd)
  exact wp_mono st1 (g T1 h1 W1 (A0.wr W1) ⟨_, S1, e2, Fr.snoc S1 N ha, by rw [W1.size]; exact z⟩)
theorem alen (K : Cx own code mL ret mn n0 Z p l e R s m args below meth c) (S : St n0 p l e R s m args below meth c k n h T) (A : VA Z h a ty vs) (hx' : vs.length.toInt32 = x) (hd : Dc code pc .arraylength 1 q) (g : Wp n0 p e R s below Q T (mkF m q Ls (.int x :: st))) : Wp n0 p e R s below Q T (mkF m pc Ls (.ref a :: st)) := by
  obtain ⟨hx, hby, -, -, -, hown, hZ, -⟩ := K; obtain ⟨locs, S, e1, N, z⟩ := S; obtain ⟨hd, rfl⟩ := hd; obtain ⟨cl, A, hs⟩ := A
  refine wp_mono (fun t hr => S.arraylength hx (by rw [e1]; exact A.1) (State.isArrayOf_alike hZ.alike A.2.1) (g := mkF m pc Ls (.ref a :: st)) rfl rfl (hb hby hd) t hr) (T' := T) (g' := mkF m (pc + 1) Ls (.int cl.slots.size.toInt32 :: st)) ?_
  rw [hs]; simpa [hx'] using g
theorem retn (K : Cx own code mL (some ty) mn n0 Z p l e R s m args below meth c) (S : St n0 p l e R s m args below meth c k n h T) (ht : ty = .boolean ∨ ty = .byte ∨ ty = .char ∨ ty = .short) (hz : nar ty x = y) (hk : k ≤ R.cells) (hn : n ≤ R.slots) (hd : Dc code pc .ireturn 1 q) (hQ : Q (some (.int y)) h) : Wp n0 p e R s below Q T (mkF m pc Ls (.int x :: st)) := by
  obtain ⟨hx, hby, -, hret, hlk, -⟩ := K; obtain ⟨locs, S, e1, N, z⟩ := S; obtain ⟨hd, -⟩ := hd
  obtain ⟨fs, hr, hrun, hended, hW, hsame⟩ := S.leave (v := some (.int y)) (fun h => by rw [hret] at h; cases h) hlk
  refine ⟨_, _, retN S hx hret ht (hb hby hd) (by rw [hz]; exact hr), hrun, hended, _, _, rfl, ⟨?_, ?_, N⟩, ⟨_, rfl⟩, hW, hsame.mono hk hn⟩
  · show Q _ T.heap; rw [e1]; exact hQ
  · show n0 ≤ T.heap.size; rw [e1]; exact z
theorem reti (K : Cx own code mL (some .int) mn n0 Z p l e R s m args below meth c) (S : St n0 p l e R s m args below meth c k n h T) (hk : k ≤ R.cells) (hn : n ≤ R.slots) (hd : Dc code pc .ireturn 1 q) (hQ : Q (some (.int x)) h) : Wp n0 p e R s below Q T (mkF m pc Ls (.int x :: st)) := by
  obtain ⟨hx, hby, -, hret, hlk, -⟩ := K; obtain ⟨locs, S, e1, N, z⟩ := S; obtain ⟨hd, -⟩ := hd
  obtain ⟨fs, hr, hrun, hended, hW, hsame⟩ := S.leave (v := some (.int x)) (fun h => by rw [hret] at h; cases h) hlk
  refine ⟨_, _, retOut S hx hret rfl (Or.inl ⟨rfl, Or.inl rfl, _, rfl⟩) (hb hby hd) hr, hrun, hended, _, _, rfl, ⟨?_, ?_, N⟩, ⟨_, rfl⟩, hW, hsame.mono hk hn⟩
  · show Q _ T.heap; rw [e1]; exact hQ
  · show n0 ≤ T.heap.size; rw [e1]; exact z
theorem retl (K : Cx own code mL (some .long) mn n0 Z p l e R s m args below meth c) (S : St n0 p l e R s m args below meth c k n h T) (hk : k ≤ R.cells) (hn : n ≤ R.slots) (hd : Dc code pc .lreturn 1 q) (hQ : Q (some (.long X)) h) : Wp n0 p e R s below Q T (mkF m pc Ls (.long X :: st)) := by
  obtain ⟨hx, hby, -, hret, hlk, -⟩ := K; obtain ⟨locs, S, e1, N, z⟩ := S; obtain ⟨hd, -⟩ := hd
  obtain ⟨fs, hr, hrun, hended, hW, hsame⟩ := S.leave (v := some (.long X)) (fun h => by rw [hret] at h; cases h) hlk
  refine ⟨_, _, retOut S hx hret rfl (Or.inr (Or.inl ⟨rfl, rfl, _, rfl⟩)) (hb hby hd) hr, hrun, hended, _, _, rfl, ⟨?_, ?_, N⟩, ⟨_, rfl⟩, hW, hsame.mono hk hn⟩
  · show Q _ T.heap; rw [e1]; exact hQ
  · show n0 ≤ T.heap.size; rw [e1]; exact z
theorem reta (K : Cx own code mL (some ty) mn n0 Z p l e R s m args below meth c) (S : St n0 p l e R s m args below meth c k n h T) (hrf : ty.isReference = true) (hnr : narrow ty (.ref a) = .ref a) (hk : k ≤ R.cells) (hn : n ≤ R.slots) (hd : Dc code pc .areturn 1 q) (hQ : Q (some (.ref a)) h) : Wp n0 p e R s below Q T (mkF m pc Ls (.ref a :: st)) := by
  obtain ⟨hx, hby, -, hret, hlk, -⟩ := K; obtain ⟨locs, S, e1, N, z⟩ := S; obtain ⟨hd, -⟩ := hd
  obtain ⟨fs, hr, hrun, hended, hW, hsame⟩ := S.leave (v := some (.ref a)) (fun h => by rw [hret] at h; cases h) hlk
  refine ⟨_, _, retOut S hx hret hnr (Or.inr (Or.inr (Or.inr (Or.inr ⟨rfl, hrf, rfl⟩)))) (hb hby hd) hr, hrun, hended, _, _, rfl, ⟨?_, ?_, N⟩, ⟨_, rfl⟩, hW, hsame.mono hk hn⟩
  · show Q _ T.heap; rw [e1]; exact hQ
  · show n0 ≤ T.heap.size; rw [e1]; exact z
theorem retv (K : Cx own code mL (none) mn n0 Z p l e R s m args below meth c) (S : St n0 p l e R s m args below meth c k n h T) (hk : k ≤ R.cells) (hn : n ≤ R.slots) (hd : Dc code pc .return_ 1 q) (hQ : Q (none) h) : Wp n0 p e R s below Q T (mkF m pc Ls ([])) := by
  obtain ⟨hx, hby, -, hret, hlk, -⟩ := K; obtain ⟨locs, S, e1, N, z⟩ := S; obtain ⟨hd, -⟩ := hd
  obtain ⟨fs, hr, hrun, hended, hW, hsame⟩ := S.leave (v := none) (fun _ => rfl) hlk
  refine ⟨_, _, S.returnOut hx hret (hb hby hd) hr, hrun, hended, _, _, rfl, ⟨?_, ?_, N⟩, ⟨_, rfl⟩, hW, hsame.mono hk hn⟩
  · show Q _ T.heap; rw [e1]; exact hQ
  · show n0 ≤ T.heap.size; rw [e1]; exact z
theorem callS (K : Cx own code mL ret mn n0 Z p l e R s m args below meth c) (S : St n0 p l e R s m args below meth c k n h T) {i mL' W : Nat} {y : MethodName} {bytes : ByteArray} {ret' : Option FieldType} {rm : Room} {as' : Array Value} {Q' : Option Value → Heap → Prop} {argsL : List Value} (M : Met n0 l Z y bytes mL' ret' rm [] as' h Q') (w1 : (Jvm.Cond.methodLink own i y).before a0 Z = true) (w2 : (Jvm.Cond.static y).before a0 Z = true) (w4 : (Jvm.Cond.code y bytes mL' ret').before a0 Z = true) (w5 : (Jvm.Cond.initialized y.cls).before a0 Z = true) (hy : y.cls ≠ "java/lang/invoke/MethodHandle" ∧ y.cls ≠ "java/lang/invoke/VarHandle") (hfr : rm.frames + 1 ≤ R.frames) (hlo : W + (mL' + 11) + rm.locals ≤ R.locals) (hce : k + rm.cells ≤ R.cells) (hsl : n + rm.slots ≤ R.slots) (hsz : Ls.size = mL) (has : (argsL).toArray = as') (hlen : ∀ sig, parseMethodDescriptor y.desc = some sig → argsL.length = sig.parameters.length) (hst : st = argsL.reverse ++ rest) (hW : (rest.map fun v => v.category).sum ≤ W) (hd : Dc code pc (.invokestatic i) 3 q) (g : ∀ T v h', Q' v h' → St n0 p l e R s m args below meth c (k + rm.cells) (n + rm.slots) h' T → Wp n0 p e R s below Q T (mkF m q Ls (v.toList ++ rest))) : Wp n0 p e R s below Q T (mkF m pc Ls st) := by
  obtain ⟨hx, hby, hml, -, -, hown, hZ, hmn⟩ := K; obtain ⟨locs, S, e1, N, z⟩ := S; obtain ⟨hd, rfl⟩ := hd; subst hst has
  obtain ⟨v1, _, ⟨T1, L1, k1, n1⟩, -, S1, ⟨Lc1, hQ1, l1, y1, z1⟩, st1⟩ := Jvm.LawKit.callS S hx (y := y) hown (mvT hZ w1) (mvT hZ w2) (mvT hZ w5) (mvT hZ w4) hy (backOf (W := W) (Q := fun v h L => Q' v h ∧ n0 ≤ h.size ∧ Fr n0 L) M hZ w4 w5 hfr hlo) (g := mkF m pc Ls (argsL.reverse ++ rest)) rfl (by rw [hml]; exact hsz) (argsL := argsL) (rest := rest) hlen rfl (by show 2 * 0 + _ ≤ _; omega) (hb hby hd) (fun _ _ => ⟨rfl, e1, hce, hsl⟩)
  dsimp only [Pt.U, Pt.locs, Pt.cells, Pt.slots] at S1 l1 y1 z1 st1 hQ1
  subst l1 y1 z1
  exact wp_mono st1 (g T1 v1 T1.heap hQ1.1 ⟨_, S1, rfl, Fr.app N hQ1.2.2, hQ1.2.1⟩)
theorem callC (K : Cx own code mL ret mn n0 Z p l e R s m args below meth c) (S : St n0 p l e R s m args below meth c k n h T) {i mL' W : Nat} {y : MethodName} {bytes : ByteArray} {ret' : Option FieldType} {rm : Room} {as' : Array Value} {Q' : Option Value → Heap → Prop} {argsL : List Value} (M : Met n0 l Z y bytes mL' ret' rm [] as' h Q') (hin : y.name = "<init>") (hr0 : ret' = none) (w1 : (Jvm.Cond.methodLink own i y).before a0 Z = true) (w2 : (Jvm.Cond.instanceMethod y).before a0 Z = true) (w4 : (Jvm.Cond.code y bytes mL' ret').before a0 Z = true) (w5 : (Jvm.Cond.initialized y.cls).before a0 Z = true) (hy : y.cls ≠ "java/lang/invoke/MethodHandle" ∧ y.cls ≠ "java/lang/invoke/VarHandle") (hfr : rm.frames + 1 ≤ R.frames) (hlo : W + (mL' + 11) + rm.locals ≤ R.locals) (hce : k + rm.cells ≤ R.cells) (hsl : n + rm.slots ≤ R.slots) (hsz : Ls.size = mL) (has : (.ref a :: argsL).toArray = as') (hlen : ∀ sig, parseMethodDescriptor y.desc = some sig → argsL.length = sig.parameters.length) (hst : st = argsL.reverse ++ .ref a :: rest) (hW : (rest.map fun v => v.category).sum ≤ W) (hd : Dc code pc (.invokespecial i) 3 q) (g : ∀ T v h', Q' v h' → St n0 p l e R s m args below meth c (k + rm.cells) (n + rm.slots) h' T → Wp n0 p e R s below Q T (mkF m q Ls (v.toList ++ rest))) : Wp n0 p e R s below Q T (mkF m pc Ls st) := by
  obtain ⟨hx, hby, hml, -, -, hown, hZ, hmn⟩ := K; obtain ⟨locs, S, e1, N, z⟩ := S; obtain ⟨hd, rfl⟩ := hd; subst hst has
  subst hr0
  obtain ⟨v1, _, ⟨T1, L1, k1, n1⟩, -, S1, ⟨Lc1, hQ1, l1, y1, z1⟩, st1⟩ := S.specialBack hx (y := y) hin hown (mvT hZ w1) (mvT hZ w2) (mvT hZ w4) hy (backOf (W := W) (Q := fun v h L => Q' v h ∧ n0 ≤ h.size ∧ Fr n0 L) M hZ w4 w5 hfr hlo) (g := mkF m pc Ls (argsL.reverse ++ .ref a :: rest)) rfl (by rw [hml]; exact hsz) (Steps.refl _) (a := a) (argsL := argsL) (rest := rest) hlen rfl (by show 2 * 0 + _ ≤ _; omega) (hb hby hd) (fun _ _ => ⟨rfl, e1, hce, hsl⟩)
  dsimp only [Pt.U, Pt.locs, Pt.cells, Pt.slots] at S1 l1 y1 z1 st1 hQ1
  subst l1 y1 z1
  exact wp_mono (fun t hr => st1.trans hr) (g T1 v1 T1.heap hQ1.1 ⟨_, S1, rfl, Fr.app N hQ1.2.2, hQ1.2.1⟩)
theorem callV (K : Cx own code mL ret mn n0 Z p l e R s m args below meth c) (S : St n0 p l e R s m args below meth c k n h T) {i mL' W : Nat} {y : MethodName} {bytes : ByteArray} {ret' : Option FieldType} {rm : Room} {as' : Array Value} {Q' : Option Value → Heap → Prop} {argsL : List Value} (M : Met n0 l Z y bytes mL' ret' rm [] as' h Q') (E : Exa Z h a y.cls) (w1 : (Jvm.Cond.methodLink own i y).before a0 Z = true) (w2 : (Jvm.Cond.declares y).before a0 Z = true) (w3 : (Jvm.Cond.selects y.cls y y).before a0 Z = true) (w6 : (Jvm.Cond.instanceMethod y).before a0 Z = true) (w4 : (Jvm.Cond.code y bytes mL' ret').before a0 Z = true) (w5 : (Jvm.Cond.initialized y.cls).before a0 Z = true) (hy : y.cls ≠ "java/lang/invoke/MethodHandle" ∧ y.cls ≠ "java/lang/invoke/VarHandle") (hfr : rm.frames + 1 ≤ R.frames) (hlo : W + (mL' + 11) + rm.locals ≤ R.locals) (hce : k + rm.cells ≤ R.cells) (hsl : n + rm.slots ≤ R.slots) (hsz : Ls.size = mL) (has : (.ref a :: argsL).toArray = as') (hlen : ∀ sig, parseMethodDescriptor y.desc = some sig → argsL.length = sig.parameters.length) (hst : st = argsL.reverse ++ .ref a :: rest) (hW : (rest.map fun v => v.category).sum ≤ W) (hd : Dc code pc (.invokevirtual i) 3 q) (g : ∀ T v h', Q' v h' → St n0 p l e R s m args below meth c (k + rm.cells) (n + rm.slots) h' T → Wp n0 p e R s below Q T (mkF m q Ls (v.toList ++ rest))) : Wp n0 p e R s below Q T (mkF m pc Ls st) := by
  obtain ⟨hx, hby, hml, -, -, hown, hZ, hmn⟩ := K; obtain ⟨locs, S, e1, N, z⟩ := S; obtain ⟨hd, rfl⟩ := hd; subst hst has
  obtain ⟨cq, kq, qa, qb, qc⟩ := isOf hZ e1 E
  obtain ⟨v1, _, ⟨T1, L1, k1, n1⟩, -, S1, ⟨Lc1, hQ1, l1, y1, z1⟩, st1⟩ := S.virtualBack hx (y := y) (z := y) hown (mvT hZ w1) (mvT hZ w2) (notFace_of_selects (args := #[]) (mvT hZ w3)) (mvT hZ w3) (mvT hZ w6) hy (backOf (W := W) (Q := fun v h L => Q' v h ∧ n0 ≤ h.size ∧ Fr n0 L) M hZ w4 w5 hfr hlo) qa qc (g := mkF m pc Ls (argsL.reverse ++ .ref a :: rest)) rfl (by rw [hml]; exact hsz) (Steps.refl _) (argsL := argsL) (rest := rest) hlen rfl (by show 2 * 0 + _ ≤ _; omega) (hb hby hd) (fun _ _ => ⟨rfl, e1, hce, hsl⟩)
  dsimp only [Pt.U, Pt.locs, Pt.cells, Pt.slots] at S1 l1 y1 z1 st1 hQ1
  subst l1 y1 z1
  exact wp_mono (fun t hr => st1.trans hr) (g T1 v1 T1.heap hQ1.1 ⟨_, S1, rfl, Fr.app N hQ1.2.2, hQ1.2.1⟩)
theorem callP (K : Cx own code mL ret mn n0 Z p l e R s m args below meth c) (S : St n0 p l e R s m args below meth c k n h T) {i mL' W : Nat} {y : MethodName} {bytes : ByteArray} {ret' : Option FieldType} {rm : Room} {as' : Array Value} {Q' : Option Value → Heap → Prop} {argsL : List Value} (M : Met n0 l Z y bytes mL' ret' rm [] as' h Q') (E : Exa Z h a y.cls) {y2 : MethodName} (hy2 : y2.cls = y.cls) (w1 : (Jvm.Cond.methodLink own i y).before a0 Z = true) (w2 : (Jvm.Cond.privateMethod y).before a0 Z = true) (w3 : (Jvm.Cond.selects y.cls y2 y2).before a0 Z = true) (w6 : (Jvm.Cond.instanceMethod y).before a0 Z = true) (w4 : (Jvm.Cond.code y bytes mL' ret').before a0 Z = true) (w5 : (Jvm.Cond.initialized y.cls).before a0 Z = true) (hy : y.cls ≠ "java/lang/invoke/MethodHandle" ∧ y.cls ≠ "java/lang/invoke/VarHandle") (hfr : rm.frames + 1 ≤ R.frames) (hlo : W + (mL' + 11) + rm.locals ≤ R.locals) (hce : k + rm.cells ≤ R.cells) (hsl : n + rm.slots ≤ R.slots) (hsz : Ls.size = mL) (has : (.ref a :: argsL).toArray = as') (hlen : ∀ sig, parseMethodDescriptor y.desc = some sig → argsL.length = sig.parameters.length) (hst : st = argsL.reverse ++ .ref a :: rest) (hW : (rest.map fun v => v.category).sum ≤ W) (hd : Dc code pc (.invokevirtual i) 3 q) (g : ∀ T v h', Q' v h' → St n0 p l e R s m args below meth c (k + rm.cells) (n + rm.slots) h' T → Wp n0 p e R s below Q T (mkF m q Ls (v.toList ++ rest))) : Wp n0 p e R s below Q T (mkF m pc Ls st) := by
  obtain ⟨hx, hby, hml, -, -, hown, hZ, hmn⟩ := K; obtain ⟨locs, S, e1, N, z⟩ := S; obtain ⟨hd, rfl⟩ := hd; subst hst has
  obtain ⟨cq, q1, q2⟩ := E.cell
  have w3' : (Jvm.Cond.selects y.cls y2 y2).before (args := #[]) s = true := mvT hZ w3
  have wp' := Cond.privateMethod_at (mvP hZ w2 (args := #[]))
  have w6' : (Jvm.Cond.instanceMethod y).before args s = true := mvT hZ w6
  obtain ⟨c1, r1, m1, f1, f2, f3, f4, k2, f5, f6⟩ := Cond.selects_spec w3'
  have f7 : s.vm.findClass y.cls = some m1.cls := by rw [← hy2]; exact findClass_of_methodNamed f3
  have hsel : (Jvm.Cond.selects y.cls y y).before args s = true := Stand.selects_self_of_private f7 f5 f6 wp' w6' hy
  obtain ⟨v1, _, ⟨T1, L1, k1, n1⟩, -, S1, ⟨Lc1, hQ1, l1, y1, z1⟩, st1⟩ := S.privateBack hx (y := y) hown (mvT hZ w1) w6' hsel wp' (mvT hZ w4) hy (backOf (W := W) (Q := fun v h L => Q' v h ∧ n0 ≤ h.size ∧ Fr n0 L) M hZ w4 w5 hfr hlo) (g := mkF m pc Ls (argsL.reverse ++ .ref a :: rest)) rfl (by rw [hml]; exact hsz) (Steps.refl _) (a := a) (by rw [e1]; exact q1) q2 (argsL := argsL) (rest := rest) hlen rfl (by show 2 * 0 + _ ≤ _; omega) (hb hby hd) (fun _ _ => ⟨rfl, e1, hce, hsl⟩)
  dsimp only [Pt.U, Pt.locs, Pt.cells, Pt.slots] at S1 l1 y1 z1 st1 hQ1
  subst l1 y1 z1
  exact wp_mono (fun t hr => st1.trans hr) (g T1 v1 T1.heap hQ1.1 ⟨_, S1, rfl, Fr.app N hQ1.2.2, hQ1.2.1⟩)
end Kit
end Jvm.Own
namespace Jvm.Pilot.@@N@@
open Jvm Jvm.ClassFile Sem Op Lib Jvm.Free Jvm.Stand Jvm.LawKit Jvm.RoadKit Bundle Jvm.Pilot.@@N@@.Jvm.D Jvm.Own
theorem hwi {a0 : Array Value} {Z : State} (hw : ∀ d ∈ tables_1, d.before a0 Z = true) (i : Nat) {d : Jvm.Cond} (h : tables_1[i]? = some d) : d.before a0 Z = true := hw _ (List.mem_of_getElem? h)
abbrev PS := List (List Int32) × Int32 × Int32
def lget (xs : List Int32) (j : Int32) : Int32 := xs.getD j.toNatClampNeg 0
def lset (xs : List Int32) (j x : Int32) : List Int32 := xs.set j.toNatClampNeg x
def linb (xs : List Int32) (j : Int32) : Bool := decide (¬ j < 0) && decide (j.toNatClampNeg < xs.length)
def row (L : PS) (r : Nat) : List Int32 := L.1.getD r []
def fmA (L : PS) (q : Int32) (tb : List Int32) (tc : Int32) : PS :=
  ([lset (lset (row L 0) (lget (row L 1) q) (lget (row L 0) (lget (row L 5) (lget (row L 2) q)))) (lget (row L 5) (lget (row L 2) q)) q,
    lset (lset (row L 1) (lget (row L 0) (lget (row L 5) (lget (row L 2) q))) (lget (row L 1) q)) q (lget (row L 5) (lget (row L 2) q)),
    row L 2, row L 3, row L 4, lset (row L 5) (lget (row L 2) q) (lget (row L 5) (lget (row L 2) q) + 1), row L 6, tb], L.2.1, tc)
def fmark (L : PS) (q : Int32) : PS :=
  if lget (row L 1) q < lget (row L 5) (lget (row L 2) q) then L
  else if lget (row L 5) (lget (row L 2) q) = lget (row L 3) (lget (row L 2) q) then fmA L q (lset (row L 7) L.2.2 (lget (row L 2) q)) (L.2.2 + 1)
  else fmA L q (row L 7) L.2.2
def okmark (L : PS) (q : Int32) : Bool :=
  linb (row L 2) q && linb (row L 1) q && linb (row L 5) (lget (row L 2) q) && linb (row L 3) (lget (row L 2) q) && linb (row L 7) L.2.2 && linb (row L 0) (lget (row L 5) (lget (row L 2) q)) && linb (row L 0) (lget (row L 1) q) && linb (row L 1) (lget (row L 0) (lget (row L 5) (lget (row L 2) q)))
def okmark' (L : PS) (q : Int32) : Bool :=
  linb (row L 2) q && linb (row L 1) q && linb (row L 5) (lget (row L 2) q) && (decide (lget (row L 1) q < lget (row L 5) (lget (row L 2) q)) || okmark L q)
def finn : Nat → List Int32 → Int32 → Int32 → Int32 → List Int32 → List Int32
  | 0, _, _, _, _, b => b
  | n + 1, e, fr, j, bd, b => if j < bd then finn n e fr (j + 1) bd (lset b (lget e j) fr) else b
def okinn : Nat → List Int32 → Int32 → Int32 → Int32 → List Int32 → Bool
  | 0, _, _, _, _, _ => false
  | n + 1, e, fr, j, bd, b => if j < bd then linb e j && linb b (lget e j) && okinn n e fr (j + 1) bd (lset b (lget e j) fr) else true
def sb1 (L : PS) (k : Int32) : List Int32 := lset (row L 3) L.2.1 (lget (row L 3) k)
def fsA (L : PS) (k bd : Int32) : PS :=
  ([row L 0, row L 1, finn 8 (row L 0) L.2.1 (lget (sb1 L k) L.2.1) bd (row L 2), lset (sb1 L k) k bd, lset (row L 4) L.2.1 bd,
    lset (lset (row L 5) L.2.1 (lget (sb1 L k) L.2.1)) k (lget (lset (sb1 L k) k bd) k), lset (row L 6) L.2.1 k, row L 7], L.2.1 + 1, L.2.2)
def fsB (L : PS) (k : Int32) : PS := ([row L 0, row L 1, row L 2, row L 3, row L 4, lset (row L 5) k (lget (row L 3) k), row L 6, row L 7], L.2.1, L.2.2)
def fstep (L : PS) (i : Int32) : PS := if lget (row L 5) (lget (row L 7) i) < lget (row L 4) (lget (row L 7) i) then fsA L (lget (row L 7) i) (lget (row L 5) (lget (row L 7) i)) else fsB L (lget (row L 7) i)
def okA (L : PS) (k bd : Int32) : Bool := linb (row L 3) k && linb (row L 3) L.2.1 && linb (row L 4) L.2.1 && linb (row L 5) L.2.1 && linb (row L 6) L.2.1 && linb (sb1 L k) L.2.1 && linb (sb1 L k) k && linb (lset (sb1 L k) k bd) k && linb (lset (row L 5) L.2.1 (lget (sb1 L k) L.2.1)) k && okinn 8 (row L 0) L.2.1 (lget (sb1 L k) L.2.1) bd (row L 2)
def okstep (L : PS) (i : Int32) : Bool := linb (row L 7) i && linb (row L 5) (lget (row L 7) i) && linb (row L 4) (lget (row L 7) i) && (if lget (row L 5) (lget (row L 7) i) < lget (row L 4) (lget (row L 7) i) then okA L (lget (row L 7) i) (lget (row L 5) (lget (row L 7) i)) else linb (row L 3) (lget (row L 7) i))
def fout : Nat → PS → Int32 → PS
  | 0, L, _ => L
  | n + 1, L, i => if i < L.2.2 then fout n (fstep L i) (i + 1) else L
def okout : Nat → PS → Int32 → Bool
  | 0, _, _ => false
  | n + 1, L, i => if i < L.2.2 then okstep L i && okout n (fstep L i) (i + 1) else true
def fspl (L : PS) : PS := ((fout 8 L 0).1, (fout 8 L 0).2.1, 0)
def L0 : PS := ([[0, 1, 2, 3], [0, 1, 2, 3], [0, 0, 0, 0], [0, 0, 0, 0], [4, 0, 0, 0], [0, 0, 0, 0], [0, 0, 0, 0], [0, 0, 0, 0]], 1, 0)
theorem linb_lt {xs : List Int32} {j : Int32} (h : linb xs j = true) : j.toNatClampNeg < xs.length := by
  simp only [linb, Bool.and_eq_true, decide_eq_true_eq] at h; exact h.2
theorem linb_ix {xs : List Int32} {j : Int32} (h : linb xs j = true) : Ix j j.toNatClampNeg := by
  simp only [linb, Bool.and_eq_true, decide_eq_true_eq] at h; exact ⟨h.1, rfl⟩
theorem linb_get {xs : List Int32} {j : Int32} (h : linb xs j = true) : (xs.map Value.int)[j.toNatClampNeg]? = some (.int (lget xs j)) := by
  have := linb_lt h
  simp [lget, List.getElem?_map, this]
theorem linb_ml {xs : List Int32} {j : Int32} (h : linb xs j = true) : j.toNatClampNeg < (xs.map Value.int).length := by rw [List.length_map]; exact linb_lt h
theorem linb_set {xs : List Int32} {j k z : Int32} (h : linb xs j = true) : linb (lset xs k z) j = true := by
  simpa [linb, lset] using h
theorem lset_map {xs : List Int32} {j x : Int32} : (lset xs j x).map Value.int = (xs.map Value.int).set j.toNatClampNeg (.int x) := by simp [lset, List.map_set]
def PK (Z : State) (h : Heap) (o p0 p1 p2 p3 p4 p5 p6 p7 : Addr) (L : PS) : Prop := Exa Z h o "com/example/procsh/procsh/service/Partition" ∧ Fld Z h o "com/example/procsh/procsh/service/Partition" "elements" "[I" (.ref p0) ∧ Fld Z h o "com/example/procsh/procsh/service/Partition" "positionOf" "[I" (.ref p1) ∧ Fld Z h o "com/example/procsh/procsh/service/Partition" "blockOf" "[I" (.ref p2) ∧ Fld Z h o "com/example/procsh/procsh/service/Partition" "blockStart" "[I" (.ref p3) ∧ Fld Z h o "com/example/procsh/procsh/service/Partition" "blockEnd" "[I" (.ref p4) ∧ Fld Z h o "com/example/procsh/procsh/service/Partition" "markedEnd" "[I" (.ref p5) ∧ Fld Z h o "com/example/procsh/procsh/service/Partition" "origin" "[I" (.ref p6) ∧ Fld Z h o "com/example/procsh/procsh/service/Partition" "touchedBlocks" "[I" (.ref p7) ∧ Fld Z h o "com/example/procsh/procsh/service/Partition" "blocks" "I" (.int L.2.1) ∧ Fld Z h o "com/example/procsh/procsh/service/Partition" "touched" "I" (.int L.2.2) ∧ VA Z h p0 .int ((row L 0).map Value.int) ∧ VA Z h p1 .int ((row L 1).map Value.int) ∧ VA Z h p2 .int ((row L 2).map Value.int) ∧ VA Z h p3 .int ((row L 3).map Value.int) ∧ VA Z h p4 .int ((row L 4).map Value.int) ∧ VA Z h p5 .int ((row L 5).map Value.int) ∧ VA Z h p6 .int ((row L 6).map Value.int) ∧ VA Z h p7 .int ((row L 7).map Value.int)
def AD (n0 o p0 p1 p2 p3 p4 p5 p6 p7 : Nat) : Prop := n0 ≤ o ∧ o < p0 ∧ p0 < p1 ∧ p1 < p2 ∧ p2 < p3 ∧ p3 < p4 ∧ p4 < p5 ∧ p5 < p6 ∧ p6 < p7
theorem d1_0 : Dc prog_68_method_1_code 0 (.aload_n 0) 1 1 := ⟨by decide +kernel, rfl⟩
theorem d1_1 : Dc prog_68_method_1_code 1 (.invokespecial 1) 3 4 := ⟨by decide +kernel, rfl⟩
theorem d1_4 : Dc prog_68_method_1_code 4 (.aload_n 0) 1 5 := ⟨by decide +kernel, rfl⟩
theorem d1_5 : Dc prog_68_method_1_code 5 (.iload_n 1) 1 6 := ⟨by decide +kernel, rfl⟩
theorem d1_6 : Dc prog_68_method_1_code 6 (.newarray .int) 2 8 := ⟨by decide +kernel, rfl⟩
theorem d1_8 : Dc prog_68_method_1_code 8 (.putfield 7) 3 11 := ⟨by decide +kernel, rfl⟩
theorem d1_11 : Dc prog_68_method_1_code 11 (.aload_n 0) 1 12 := ⟨by decide +kernel, rfl⟩
theorem d1_12 : Dc prog_68_method_1_code 12 (.iload_n 1) 1 13 := ⟨by decide +kernel, rfl⟩
theorem d1_13 : Dc prog_68_method_1_code 13 (.newarray .int) 2 15 := ⟨by decide +kernel, rfl⟩
theorem d1_15 : Dc prog_68_method_1_code 15 (.putfield 13) 3 18 := ⟨by decide +kernel, rfl⟩
theorem d1_18 : Dc prog_68_method_1_code 18 (.iconst 0) 1 19 := ⟨by decide +kernel, rfl⟩
theorem d1_19 : Dc prog_68_method_1_code 19 (.istore_n 2) 1 20 := ⟨by decide +kernel, rfl⟩
theorem d1_20 : Dc prog_68_method_1_code 20 (.iload_n 2) 1 21 := ⟨by decide +kernel, rfl⟩
theorem d1_21 : Dc prog_68_method_1_code 21 (.iload_n 1) 1 22 := ⟨by decide +kernel, rfl⟩
theorem d1_22 : Bc prog_68_method_1_code 22 (.if_icmp .ge 23) (23) 25 45 := ⟨by decide +kernel, rfl, by decide, by decide⟩
theorem d1_25 : Dc prog_68_method_1_code 25 (.aload_n 0) 1 26 := ⟨by decide +kernel, rfl⟩
theorem d1_26 : Dc prog_68_method_1_code 26 (.getfield 7) 3 29 := ⟨by decide +kernel, rfl⟩
theorem d1_29 : Dc prog_68_method_1_code 29 (.iload_n 2) 1 30 := ⟨by decide +kernel, rfl⟩
theorem d1_30 : Dc prog_68_method_1_code 30 (.iload_n 2) 1 31 := ⟨by decide +kernel, rfl⟩
theorem d1_31 : Dc prog_68_method_1_code 31 (.iastore) 1 32 := ⟨by decide +kernel, rfl⟩
theorem d1_32 : Dc prog_68_method_1_code 32 (.aload_n 0) 1 33 := ⟨by decide +kernel, rfl⟩
theorem d1_33 : Dc prog_68_method_1_code 33 (.getfield 13) 3 36 := ⟨by decide +kernel, rfl⟩
theorem d1_36 : Dc prog_68_method_1_code 36 (.iload_n 2) 1 37 := ⟨by decide +kernel, rfl⟩
theorem d1_37 : Dc prog_68_method_1_code 37 (.iload_n 2) 1 38 := ⟨by decide +kernel, rfl⟩
theorem d1_38 : Dc prog_68_method_1_code 38 (.iastore) 1 39 := ⟨by decide +kernel, rfl⟩
theorem d1_39 : Dc prog_68_method_1_code 39 (.iinc 2 1) 3 42 := ⟨by decide +kernel, rfl⟩
theorem d1_42 : Bc prog_68_method_1_code 42 (.goto (-22)) (-22) 45 20 := ⟨by decide +kernel, rfl, by decide, by decide⟩
theorem d1_45 : Dc prog_68_method_1_code 45 (.aload_n 0) 1 46 := ⟨by decide +kernel, rfl⟩
theorem d1_46 : Dc prog_68_method_1_code 46 (.iload_n 1) 1 47 := ⟨by decide +kernel, rfl⟩
theorem d1_47 : Dc prog_68_method_1_code 47 (.newarray .int) 2 49 := ⟨by decide +kernel, rfl⟩
theorem d1_49 : Dc prog_68_method_1_code 49 (.putfield 16) 3 52 := ⟨by decide +kernel, rfl⟩
theorem d1_52 : Dc prog_68_method_1_code 52 (.aload_n 0) 1 53 := ⟨by decide +kernel, rfl⟩
theorem d1_53 : Dc prog_68_method_1_code 53 (.iload_n 1) 1 54 := ⟨by decide +kernel, rfl⟩
theorem d1_54 : Dc prog_68_method_1_code 54 (.newarray .int) 2 56 := ⟨by decide +kernel, rfl⟩
theorem d1_56 : Dc prog_68_method_1_code 56 (.putfield 19) 3 59 := ⟨by decide +kernel, rfl⟩
theorem d1_59 : Dc prog_68_method_1_code 59 (.aload_n 0) 1 60 := ⟨by decide +kernel, rfl⟩
theorem d1_60 : Dc prog_68_method_1_code 60 (.iload_n 1) 1 61 := ⟨by decide +kernel, rfl⟩
theorem d1_61 : Dc prog_68_method_1_code 61 (.newarray .int) 2 63 := ⟨by decide +kernel, rfl⟩
theorem d1_63 : Dc prog_68_method_1_code 63 (.putfield 22) 3 66 := ⟨by decide +kernel, rfl⟩
theorem d1_66 : Dc prog_68_method_1_code 66 (.aload_n 0) 1 67 := ⟨by decide +kernel, rfl⟩
theorem d1_67 : Dc prog_68_method_1_code 67 (.iload_n 1) 1 68 := ⟨by decide +kernel, rfl⟩
theorem d1_68 : Dc prog_68_method_1_code 68 (.newarray .int) 2 70 := ⟨by decide +kernel, rfl⟩
theorem d1_70 : Dc prog_68_method_1_code 70 (.putfield 25) 3 73 := ⟨by decide +kernel, rfl⟩
theorem d1_73 : Dc prog_68_method_1_code 73 (.aload_n 0) 1 74 := ⟨by decide +kernel, rfl⟩
theorem d1_74 : Dc prog_68_method_1_code 74 (.iload_n 1) 1 75 := ⟨by decide +kernel, rfl⟩
theorem d1_75 : Dc prog_68_method_1_code 75 (.newarray .int) 2 77 := ⟨by decide +kernel, rfl⟩
theorem d1_77 : Dc prog_68_method_1_code 77 (.putfield 28) 3 80 := ⟨by decide +kernel, rfl⟩
theorem d1_80 : Dc prog_68_method_1_code 80 (.aload_n 0) 1 81 := ⟨by decide +kernel, rfl⟩
theorem d1_81 : Dc prog_68_method_1_code 81 (.iload_n 1) 1 82 := ⟨by decide +kernel, rfl⟩
theorem d1_82 : Dc prog_68_method_1_code 82 (.newarray .int) 2 84 := ⟨by decide +kernel, rfl⟩
theorem d1_84 : Dc prog_68_method_1_code 84 (.putfield 31) 3 87 := ⟨by decide +kernel, rfl⟩
theorem d1_87 : Dc prog_68_method_1_code 87 (.aload_n 0) 1 88 := ⟨by decide +kernel, rfl⟩
theorem d1_88 : Dc prog_68_method_1_code 88 (.getfield 22) 3 91 := ⟨by decide +kernel, rfl⟩
theorem d1_91 : Dc prog_68_method_1_code 91 (.iconst 0) 1 92 := ⟨by decide +kernel, rfl⟩
theorem d1_92 : Dc prog_68_method_1_code 92 (.iload_n 1) 1 93 := ⟨by decide +kernel, rfl⟩
theorem d1_93 : Dc prog_68_method_1_code 93 (.iastore) 1 94 := ⟨by decide +kernel, rfl⟩
theorem d1_94 : Dc prog_68_method_1_code 94 (.aload_n 0) 1 95 := ⟨by decide +kernel, rfl⟩
theorem d1_95 : Dc prog_68_method_1_code 95 (.iconst 1) 1 96 := ⟨by decide +kernel, rfl⟩
theorem d1_96 : Dc prog_68_method_1_code 96 (.putfield 34) 3 99 := ⟨by decide +kernel, rfl⟩
theorem d1_99 : Dc prog_68_method_1_code 99 (.return_) 1 100 := ⟨by decide +kernel, rfl⟩
theorem ef_init (m : MethodId) (o : Addr) : entryFrame m #[.ref o, .int (4 : Int32)] 3 = mkF m 0 #[.val (.ref o), .val (.int (4 : Int32)), .unset] [] := by first | (simp [entryFrame, mkF, argsToLocals, Value.category]; done) | rfl
set_option maxRecDepth 65536 in
set_option maxHeartbeats 40000000 in
theorem m_init (l : Launch) (Z : State) (a0 : Array Value) (hw : ∀ d ∈ tables_1, d.before a0 Z = true) (n0 : Nat) (o : Addr) (h : Heap) (hn : n0 ≤ h.size) (g_o : n0 ≤ o) (E_o : Exa Z h o "com/example/procsh/procsh/service/Partition") (F_elements_o : Fld Z h o "com/example/procsh/procsh/service/Partition" "elements" "[I" (.null)) (F_positionOf_o : Fld Z h o "com/example/procsh/procsh/service/Partition" "positionOf" "[I" (.null)) (F_blockOf_o : Fld Z h o "com/example/procsh/procsh/service/Partition" "blockOf" "[I" (.null)) (F_blockStart_o : Fld Z h o "com/example/procsh/procsh/service/Partition" "blockStart" "[I" (.null)) (F_blockEnd_o : Fld Z h o "com/example/procsh/procsh/service/Partition" "blockEnd" "[I" (.null)) (F_markedEnd_o : Fld Z h o "com/example/procsh/procsh/service/Partition" "markedEnd" "[I" (.null)) (F_origin_o : Fld Z h o "com/example/procsh/procsh/service/Partition" "origin" "[I" (.null)) (F_touchedBlocks_o : Fld Z h o "com/example/procsh/procsh/service/Partition" "touchedBlocks" "[I" (.null)) (F_blocks_o : Fld Z h o "com/example/procsh/procsh/service/Partition" "blocks" "I" (.int 0)) (F_touched_o : Fld Z h o "com/example/procsh/procsh/service/Partition" "touched" "I" (.int 0)) : Met n0 l Z (⟨"com/example/procsh/procsh/service/Partition", "<init>", "(I)V"⟩ : MethodName) prog_68_method_1_code 3 none ({ frames := 1, cells := 8, slots := 32, locals := 12 } : Room) [] #[.ref o, .int (4 : Int32)] h (Ef none (fun h' => ∃ p0 p1 p2 p3 p4 p5 p6 p7, AD n0 o p0 p1 p2 p3 p4 p5 p6 p7 ∧ PK Z h' o p0 p1 p2 p3 p4 p5 p6 p7 L0)) := by
  refine enter (plainFor_of_name (by first | (simp [plainName, overriddenIn]; done) | decide +kernel)) (fun m => ef_init m o) hn ?_
  intro p e s m below meth c T K S
  refine aload_n K S rfl rfl d1_0 ?_
  refine inito K S (W := 0) (hwi hw 6 rfl) (hwi hw 7 rfl) (hwi hw 8 rfl) rfl (by decide) (by decide) (by decide) d1_1 fun T S => ?_
  refine aload_n K S rfl rfl d1_4 ?_
  refine iload_n K S rfl d1_5 ?_
  refine newarr K S (cap := 4) (hwi hw 9 rfl) (by decide) (by decide) (by decide) (by decide) (by decide) d1_6 fun T h6_1 p0 z_p0 g_p0 X A_p0 S => ?_
  have n_o_p0 : o ≠ p0 := by rw [z_p0]; exact Nat.ne_of_lt E_o.lt
  have l_o_p0 : o < p0 := by rw [z_p0]; exact E_o.lt
  replace E_o := E_o.ext X
  replace F_elements_o := F_elements_o.ext X
  replace F_positionOf_o := F_positionOf_o.ext X
  replace F_blockOf_o := F_blockOf_o.ext X
  replace F_blockStart_o := F_blockStart_o.ext X
  replace F_blockEnd_o := F_blockEnd_o.ext X
  replace F_markedEnd_o := F_markedEnd_o.ext X
  replace F_origin_o := F_origin_o.ext X
  replace F_touchedBlocks_o := F_touchedBlocks_o.ext X
  replace F_blocks_o := F_blocks_o.ext X
  replace F_touched_o := F_touched_o.ext X
  replace A_p0 : VA Z h6_1 p0 .int ([.int (0 : Int32), .int (0 : Int32), .int (0 : Int32), .int (0 : Int32)]) := A_p0
  clear X
  refine putf K S (hwi hw 10 rfl) F_elements_o E_o (Or.inr ⟨(hwi hw 11 rfl), rfl, rfl⟩) (hwi hw 1 rfl) (ty := .array .int) (by decide) rfl rfl g_o d1_8 fun T h8_2 W S => ?_
  replace E_o := E_o.wr W
  replace F_elements_o := F_elements_o.same W
  replace F_positionOf_o := F_positionOf_o.other W (Or.inr (slot_ne (C := "com/example/procsh/procsh/service/Partition") (Or.inr (hwi hw 13 rfl)) (Or.inr (hwi hw 11 rfl)) (by decide) (t := .array .int) (t' := .array .int) (by decide) (by decide)))
  replace F_blockOf_o := F_blockOf_o.other W (Or.inr (slot_ne (C := "com/example/procsh/procsh/service/Partition") (Or.inr (hwi hw 15 rfl)) (Or.inr (hwi hw 11 rfl)) (by decide) (t := .array .int) (t' := .array .int) (by decide) (by decide)))
  replace F_blockStart_o := F_blockStart_o.other W (Or.inr (slot_ne (C := "com/example/procsh/procsh/service/Partition") (Or.inr (hwi hw 17 rfl)) (Or.inr (hwi hw 11 rfl)) (by decide) (t := .array .int) (t' := .array .int) (by decide) (by decide)))
  replace F_blockEnd_o := F_blockEnd_o.other W (Or.inr (slot_ne (C := "com/example/procsh/procsh/service/Partition") (Or.inr (hwi hw 19 rfl)) (Or.inr (hwi hw 11 rfl)) (by decide) (t := .array .int) (t' := .array .int) (by decide) (by decide)))
  replace F_markedEnd_o := F_markedEnd_o.other W (Or.inr (slot_ne (C := "com/example/procsh/procsh/service/Partition") (Or.inr (hwi hw 21 rfl)) (Or.inr (hwi hw 11 rfl)) (by decide) (t := .array .int) (t' := .array .int) (by decide) (by decide)))
  replace F_origin_o := F_origin_o.other W (Or.inr (slot_ne (C := "com/example/procsh/procsh/service/Partition") (Or.inr (hwi hw 23 rfl)) (Or.inr (hwi hw 11 rfl)) (by decide) (t := .array .int) (t' := .array .int) (by decide) (by decide)))
  replace F_touchedBlocks_o := F_touchedBlocks_o.other W (Or.inr (slot_ne (C := "com/example/procsh/procsh/service/Partition") (Or.inr (hwi hw 25 rfl)) (Or.inr (hwi hw 11 rfl)) (by decide) (t := .array .int) (t' := .array .int) (by decide) (by decide)))
  replace F_blocks_o := F_blocks_o.other W (Or.inr (slot_ne (C := "com/example/procsh/procsh/service/Partition") (Or.inl (hwi hw 27 rfl)) (Or.inr (hwi hw 11 rfl)) (by decide) (t := .int) (t' := .array .int) (by decide) (by decide)))
  replace F_touched_o := F_touched_o.other W (Or.inr (slot_ne (C := "com/example/procsh/procsh/service/Partition") (Or.inl (hwi hw 41 rfl)) (Or.inr (hwi hw 11 rfl)) (by decide) (t := .int) (t' := .array .int) (by decide) (by decide)))
  replace A_p0 := A_p0.other W (by first | exact n_p0_o | exact Ne.symm n_o_p0 | omega)
  clear W
  refine aload_n K S rfl rfl d1_11 ?_
  refine iload_n K S rfl d1_12 ?_
  refine newarr K S (cap := 4) (hwi hw 9 rfl) (by decide) (by decide) (by decide) (by decide) (by decide) d1_13 fun T h13_3 p1 z_p1 g_p1 X A_p1 S => ?_
  have n_o_p1 : o ≠ p1 := by rw [z_p1]; exact Nat.ne_of_lt E_o.lt
  have l_o_p1 : o < p1 := by rw [z_p1]; exact E_o.lt
  have n_p0_p1 : p0 ≠ p1 := by rw [z_p1]; exact Nat.ne_of_lt A_p0.lt
  have l_p0_p1 : p0 < p1 := by rw [z_p1]; exact A_p0.lt
  replace E_o := E_o.ext X
  replace F_elements_o := F_elements_o.ext X
  replace F_positionOf_o := F_positionOf_o.ext X
  replace F_blockOf_o := F_blockOf_o.ext X
  replace F_blockStart_o := F_blockStart_o.ext X
  replace F_blockEnd_o := F_blockEnd_o.ext X
  replace F_markedEnd_o := F_markedEnd_o.ext X
  replace F_origin_o := F_origin_o.ext X
  replace F_touchedBlocks_o := F_touchedBlocks_o.ext X
  replace F_blocks_o := F_blocks_o.ext X
  replace F_touched_o := F_touched_o.ext X
  replace A_p0 := A_p0.ext X
  replace A_p1 : VA Z h13_3 p1 .int ([.int (0 : Int32), .int (0 : Int32), .int (0 : Int32), .int (0 : Int32)]) := A_p1
  clear X
  refine putf K S (hwi hw 12 rfl) F_positionOf_o E_o (Or.inr ⟨(hwi hw 13 rfl), rfl, rfl⟩) (hwi hw 1 rfl) (ty := .array .int) (by decide) rfl rfl g_o d1_15 fun T h15_4 W S => ?_
  replace E_o := E_o.wr W
  replace F_elements_o := F_elements_o.other W (Or.inr (slot_ne (C := "com/example/procsh/procsh/service/Partition") (Or.inr (hwi hw 11 rfl)) (Or.inr (hwi hw 13 rfl)) (by decide) (t := .array .int) (t' := .array .int) (by decide) (by decide)))
  replace F_positionOf_o := F_positionOf_o.same W
  replace F_blockOf_o := F_blockOf_o.other W (Or.inr (slot_ne (C := "com/example/procsh/procsh/service/Partition") (Or.inr (hwi hw 15 rfl)) (Or.inr (hwi hw 13 rfl)) (by decide) (t := .array .int) (t' := .array .int) (by decide) (by decide)))
  replace F_blockStart_o := F_blockStart_o.other W (Or.inr (slot_ne (C := "com/example/procsh/procsh/service/Partition") (Or.inr (hwi hw 17 rfl)) (Or.inr (hwi hw 13 rfl)) (by decide) (t := .array .int) (t' := .array .int) (by decide) (by decide)))
  replace F_blockEnd_o := F_blockEnd_o.other W (Or.inr (slot_ne (C := "com/example/procsh/procsh/service/Partition") (Or.inr (hwi hw 19 rfl)) (Or.inr (hwi hw 13 rfl)) (by decide) (t := .array .int) (t' := .array .int) (by decide) (by decide)))
  replace F_markedEnd_o := F_markedEnd_o.other W (Or.inr (slot_ne (C := "com/example/procsh/procsh/service/Partition") (Or.inr (hwi hw 21 rfl)) (Or.inr (hwi hw 13 rfl)) (by decide) (t := .array .int) (t' := .array .int) (by decide) (by decide)))
  replace F_origin_o := F_origin_o.other W (Or.inr (slot_ne (C := "com/example/procsh/procsh/service/Partition") (Or.inr (hwi hw 23 rfl)) (Or.inr (hwi hw 13 rfl)) (by decide) (t := .array .int) (t' := .array .int) (by decide) (by decide)))
  replace F_touchedBlocks_o := F_touchedBlocks_o.other W (Or.inr (slot_ne (C := "com/example/procsh/procsh/service/Partition") (Or.inr (hwi hw 25 rfl)) (Or.inr (hwi hw 13 rfl)) (by decide) (t := .array .int) (t' := .array .int) (by decide) (by decide)))
  replace F_blocks_o := F_blocks_o.other W (Or.inr (slot_ne (C := "com/example/procsh/procsh/service/Partition") (Or.inl (hwi hw 27 rfl)) (Or.inr (hwi hw 13 rfl)) (by decide) (t := .int) (t' := .array .int) (by decide) (by decide)))
  replace F_touched_o := F_touched_o.other W (Or.inr (slot_ne (C := "com/example/procsh/procsh/service/Partition") (Or.inl (hwi hw 41 rfl)) (Or.inr (hwi hw 13 rfl)) (by decide) (t := .int) (t' := .array .int) (by decide) (by decide)))
  replace A_p0 := A_p0.other W (by first | exact n_p0_o | exact Ne.symm n_o_p0 | omega)
  replace A_p1 := A_p1.other W (by first | exact n_p1_o | exact Ne.symm n_o_p1 | omega)
  clear W
  refine iconst K S (x := (0 : Int32)) rfl d1_18 ?_
  refine istore_n K S (l' := #[.val (.ref o), .val (.int (4 : Int32)), .val (.int (0 : Int32))]) rfl d1_19 ?_
  refine iload_n K S rfl d1_20 ?_
  refine iload_n K S rfl d1_21 ?_
  refine icmp_ge K S d1_22 (fun c22 => ?_) (fun c22 => ?_)
  · exact absurd c22 (by decide)
  refine aload_n K S rfl rfl d1_25 ?_
  refine getf K S (hwi hw 10 rfl) F_elements_o d1_26 fun T S => ?_
  refine iload_n K S rfl d1_29 ?_
  refine iload_n K S rfl d1_30 ?_
  refine iastore K S (i := 0) A_p0 ⟨by decide, rfl⟩ (show (0 : Nat) < 4 by decide) g_p0 d1_31 fun T h31_5 W B S => ?_
  replace E_o := E_o.wr W
  replace F_elements_o := F_elements_o.other W (Or.inl (by first | exact n_o_p0 | exact Ne.symm n_p0_o | omega))
  replace F_positionOf_o := F_positionOf_o.other W (Or.inl (by first | exact n_o_p0 | exact Ne.symm n_p0_o | omega))
  replace F_blockOf_o := F_blockOf_o.other W (Or.inl (by first | exact n_o_p0 | exact Ne.symm n_p0_o | omega))
  replace F_blockStart_o := F_blockStart_o.other W (Or.inl (by first | exact n_o_p0 | exact Ne.symm n_p0_o | omega))
  replace F_blockEnd_o := F_blockEnd_o.other W (Or.inl (by first | exact n_o_p0 | exact Ne.symm n_p0_o | omega))
  replace F_markedEnd_o := F_markedEnd_o.other W (Or.inl (by first | exact n_o_p0 | exact Ne.symm n_p0_o | omega))
  replace F_origin_o := F_origin_o.other W (Or.inl (by first | exact n_o_p0 | exact Ne.symm n_p0_o | omega))
  replace F_touchedBlocks_o := F_touchedBlocks_o.other W (Or.inl (by first | exact n_o_p0 | exact Ne.symm n_p0_o | omega))
  replace F_blocks_o := F_blocks_o.other W (Or.inl (by first | exact n_o_p0 | exact Ne.symm n_p0_o | omega))
  replace F_touched_o := F_touched_o.other W (Or.inl (by first | exact n_o_p0 | exact Ne.symm n_p0_o | omega))
  replace A_p1 := A_p1.other W (by first | exact n_p1_p0 | exact Ne.symm n_p0_p1 | omega)
  clear W
  replace A_p0 : VA Z h31_5 p0 .int ([.int (0 : Int32), .int (0 : Int32), .int (0 : Int32), .int (0 : Int32)]) := B
  refine aload_n K S rfl rfl d1_32 ?_
  refine getf K S (hwi hw 12 rfl) F_positionOf_o d1_33 fun T S => ?_
  refine iload_n K S rfl d1_36 ?_
  refine iload_n K S rfl d1_37 ?_
  refine iastore K S (i := 0) A_p1 ⟨by decide, rfl⟩ (show (0 : Nat) < 4 by decide) g_p1 d1_38 fun T h38_6 W B S => ?_
  replace E_o := E_o.wr W
  replace F_elements_o := F_elements_o.other W (Or.inl (by first | exact n_o_p1 | exact Ne.symm n_p1_o | omega))
  replace F_positionOf_o := F_positionOf_o.other W (Or.inl (by first | exact n_o_p1 | exact Ne.symm n_p1_o | omega))
  replace F_blockOf_o := F_blockOf_o.other W (Or.inl (by first | exact n_o_p1 | exact Ne.symm n_p1_o | omega))
  replace F_blockStart_o := F_blockStart_o.other W (Or.inl (by first | exact n_o_p1 | exact Ne.symm n_p1_o | omega))
  replace F_blockEnd_o := F_blockEnd_o.other W (Or.inl (by first | exact n_o_p1 | exact Ne.symm n_p1_o | omega))
  replace F_markedEnd_o := F_markedEnd_o.other W (Or.inl (by first | exact n_o_p1 | exact Ne.symm n_p1_o | omega))
  replace F_origin_o := F_origin_o.other W (Or.inl (by first | exact n_o_p1 | exact Ne.symm n_p1_o | omega))
  replace F_touchedBlocks_o := F_touchedBlocks_o.other W (Or.inl (by first | exact n_o_p1 | exact Ne.symm n_p1_o | omega))
  replace F_blocks_o := F_blocks_o.other W (Or.inl (by first | exact n_o_p1 | exact Ne.symm n_p1_o | omega))
  replace F_touched_o := F_touched_o.other W (Or.inl (by first | exact n_o_p1 | exact Ne.symm n_p1_o | omega))
  replace A_p0 := A_p0.other W (by first | exact n_p0_p1 | exact Ne.symm n_p1_p0 | omega)
  clear W
  replace A_p1 : VA Z h38_6 p1 .int ([.int (0 : Int32), .int (0 : Int32), .int (0 : Int32), .int (0 : Int32)]) := B
  refine iinc K S (y := (1 : Int32)) (x := (0 : Int32)) (l' := #[.val (.ref o), .val (.int (4 : Int32)), .val (.int (1 : Int32))]) rfl rfl rfl d1_39 ?_
  refine goto K S d1_42 ?_
  refine iload_n K S rfl d1_20 ?_
  refine iload_n K S rfl d1_21 ?_
  refine icmp_ge K S d1_22 (fun c22 => ?_) (fun c22 => ?_)
  · exact absurd c22 (by decide)
  refine aload_n K S rfl rfl d1_25 ?_
  refine getf K S (hwi hw 10 rfl) F_elements_o d1_26 fun T S => ?_
  refine iload_n K S rfl d1_29 ?_
  refine iload_n K S rfl d1_30 ?_
  refine iastore K S (i := 1) A_p0 ⟨by decide, rfl⟩ (show (1 : Nat) < 4 by decide) g_p0 d1_31 fun T h31_7 W B S => ?_
  replace E_o := E_o.wr W
  replace F_elements_o := F_elements_o.other W (Or.inl (by first | exact n_o_p0 | exact Ne.symm n_p0_o | omega))
  replace F_positionOf_o := F_positionOf_o.other W (Or.inl (by first | exact n_o_p0 | exact Ne.symm n_p0_o | omega))
  replace F_blockOf_o := F_blockOf_o.other W (Or.inl (by first | exact n_o_p0 | exact Ne.symm n_p0_o | omega))
  replace F_blockStart_o := F_blockStart_o.other W (Or.inl (by first | exact n_o_p0 | exact Ne.symm n_p0_o | omega))
  replace F_blockEnd_o := F_blockEnd_o.other W (Or.inl (by first | exact n_o_p0 | exact Ne.symm n_p0_o | omega))
  replace F_markedEnd_o := F_markedEnd_o.other W (Or.inl (by first | exact n_o_p0 | exact Ne.symm n_p0_o | omega))
  replace F_origin_o := F_origin_o.other W (Or.inl (by first | exact n_o_p0 | exact Ne.symm n_p0_o | omega))
  replace F_touchedBlocks_o := F_touchedBlocks_o.other W (Or.inl (by first | exact n_o_p0 | exact Ne.symm n_p0_o | omega))
  replace F_blocks_o := F_blocks_o.other W (Or.inl (by first | exact n_o_p0 | exact Ne.symm n_p0_o | omega))
  replace F_touched_o := F_touched_o.other W (Or.inl (by first | exact n_o_p0 | exact Ne.symm n_p0_o | omega))
  replace A_p1 := A_p1.other W (by first | exact n_p1_p0 | exact Ne.symm n_p0_p1 | omega)
  clear W
  replace A_p0 : VA Z h31_7 p0 .int ([.int (0 : Int32), .int (1 : Int32), .int (0 : Int32), .int (0 : Int32)]) := B
  refine aload_n K S rfl rfl d1_32 ?_
  refine getf K S (hwi hw 12 rfl) F_positionOf_o d1_33 fun T S => ?_
  refine iload_n K S rfl d1_36 ?_
  refine iload_n K S rfl d1_37 ?_
  refine iastore K S (i := 1) A_p1 ⟨by decide, rfl⟩ (show (1 : Nat) < 4 by decide) g_p1 d1_38 fun T h38_8 W B S => ?_
  replace E_o := E_o.wr W
  replace F_elements_o := F_elements_o.other W (Or.inl (by first | exact n_o_p1 | exact Ne.symm n_p1_o | omega))
  replace F_positionOf_o := F_positionOf_o.other W (Or.inl (by first | exact n_o_p1 | exact Ne.symm n_p1_o | omega))
  replace F_blockOf_o := F_blockOf_o.other W (Or.inl (by first | exact n_o_p1 | exact Ne.symm n_p1_o | omega))
  replace F_blockStart_o := F_blockStart_o.other W (Or.inl (by first | exact n_o_p1 | exact Ne.symm n_p1_o | omega))
  replace F_blockEnd_o := F_blockEnd_o.other W (Or.inl (by first | exact n_o_p1 | exact Ne.symm n_p1_o | omega))
  replace F_markedEnd_o := F_markedEnd_o.other W (Or.inl (by first | exact n_o_p1 | exact Ne.symm n_p1_o | omega))
  replace F_origin_o := F_origin_o.other W (Or.inl (by first | exact n_o_p1 | exact Ne.symm n_p1_o | omega))
  replace F_touchedBlocks_o := F_touchedBlocks_o.other W (Or.inl (by first | exact n_o_p1 | exact Ne.symm n_p1_o | omega))
  replace F_blocks_o := F_blocks_o.other W (Or.inl (by first | exact n_o_p1 | exact Ne.symm n_p1_o | omega))
  replace F_touched_o := F_touched_o.other W (Or.inl (by first | exact n_o_p1 | exact Ne.symm n_p1_o | omega))
  replace A_p0 := A_p0.other W (by first | exact n_p0_p1 | exact Ne.symm n_p1_p0 | omega)
  clear W
  replace A_p1 : VA Z h38_8 p1 .int ([.int (0 : Int32), .int (1 : Int32), .int (0 : Int32), .int (0 : Int32)]) := B
  refine iinc K S (y := (1 : Int32)) (x := (1 : Int32)) (l' := #[.val (.ref o), .val (.int (4 : Int32)), .val (.int (2 : Int32))]) rfl rfl rfl d1_39 ?_
  refine goto K S d1_42 ?_
  refine iload_n K S rfl d1_20 ?_
  refine iload_n K S rfl d1_21 ?_
  refine icmp_ge K S d1_22 (fun c22 => ?_) (fun c22 => ?_)
  · exact absurd c22 (by decide)
  refine aload_n K S rfl rfl d1_25 ?_
  refine getf K S (hwi hw 10 rfl) F_elements_o d1_26 fun T S => ?_
  refine iload_n K S rfl d1_29 ?_
  refine iload_n K S rfl d1_30 ?_
  refine iastore K S (i := 2) A_p0 ⟨by decide, rfl⟩ (show (2 : Nat) < 4 by decide) g_p0 d1_31 fun T h31_9 W B S => ?_
  replace E_o := E_o.wr W
  replace F_elements_o := F_elements_o.other W (Or.inl (by first | exact n_o_p0 | exact Ne.symm n_p0_o | omega))
  replace F_positionOf_o := F_positionOf_o.other W (Or.inl (by first | exact n_o_p0 | exact Ne.symm n_p0_o | omega))
  replace F_blockOf_o := F_blockOf_o.other W (Or.inl (by first | exact n_o_p0 | exact Ne.symm n_p0_o | omega))
  replace F_blockStart_o := F_blockStart_o.other W (Or.inl (by first | exact n_o_p0 | exact Ne.symm n_p0_o | omega))
  replace F_blockEnd_o := F_blockEnd_o.other W (Or.inl (by first | exact n_o_p0 | exact Ne.symm n_p0_o | omega))
  replace F_markedEnd_o := F_markedEnd_o.other W (Or.inl (by first | exact n_o_p0 | exact Ne.symm n_p0_o | omega))
  replace F_origin_o := F_origin_o.other W (Or.inl (by first | exact n_o_p0 | exact Ne.symm n_p0_o | omega))
  replace F_touchedBlocks_o := F_touchedBlocks_o.other W (Or.inl (by first | exact n_o_p0 | exact Ne.symm n_p0_o | omega))
  replace F_blocks_o := F_blocks_o.other W (Or.inl (by first | exact n_o_p0 | exact Ne.symm n_p0_o | omega))
  replace F_touched_o := F_touched_o.other W (Or.inl (by first | exact n_o_p0 | exact Ne.symm n_p0_o | omega))
  replace A_p1 := A_p1.other W (by first | exact n_p1_p0 | exact Ne.symm n_p0_p1 | omega)
  clear W
  replace A_p0 : VA Z h31_9 p0 .int ([.int (0 : Int32), .int (1 : Int32), .int (2 : Int32), .int (0 : Int32)]) := B
  refine aload_n K S rfl rfl d1_32 ?_
  refine getf K S (hwi hw 12 rfl) F_positionOf_o d1_33 fun T S => ?_
  refine iload_n K S rfl d1_36 ?_
  refine iload_n K S rfl d1_37 ?_
  refine iastore K S (i := 2) A_p1 ⟨by decide, rfl⟩ (show (2 : Nat) < 4 by decide) g_p1 d1_38 fun T h38_10 W B S => ?_
  replace E_o := E_o.wr W
  replace F_elements_o := F_elements_o.other W (Or.inl (by first | exact n_o_p1 | exact Ne.symm n_p1_o | omega))
  replace F_positionOf_o := F_positionOf_o.other W (Or.inl (by first | exact n_o_p1 | exact Ne.symm n_p1_o | omega))
  replace F_blockOf_o := F_blockOf_o.other W (Or.inl (by first | exact n_o_p1 | exact Ne.symm n_p1_o | omega))
  replace F_blockStart_o := F_blockStart_o.other W (Or.inl (by first | exact n_o_p1 | exact Ne.symm n_p1_o | omega))
  replace F_blockEnd_o := F_blockEnd_o.other W (Or.inl (by first | exact n_o_p1 | exact Ne.symm n_p1_o | omega))
  replace F_markedEnd_o := F_markedEnd_o.other W (Or.inl (by first | exact n_o_p1 | exact Ne.symm n_p1_o | omega))
  replace F_origin_o := F_origin_o.other W (Or.inl (by first | exact n_o_p1 | exact Ne.symm n_p1_o | omega))
  replace F_touchedBlocks_o := F_touchedBlocks_o.other W (Or.inl (by first | exact n_o_p1 | exact Ne.symm n_p1_o | omega))
  replace F_blocks_o := F_blocks_o.other W (Or.inl (by first | exact n_o_p1 | exact Ne.symm n_p1_o | omega))
  replace F_touched_o := F_touched_o.other W (Or.inl (by first | exact n_o_p1 | exact Ne.symm n_p1_o | omega))
  replace A_p0 := A_p0.other W (by first | exact n_p0_p1 | exact Ne.symm n_p1_p0 | omega)
  clear W
  replace A_p1 : VA Z h38_10 p1 .int ([.int (0 : Int32), .int (1 : Int32), .int (2 : Int32), .int (0 : Int32)]) := B
  refine iinc K S (y := (1 : Int32)) (x := (2 : Int32)) (l' := #[.val (.ref o), .val (.int (4 : Int32)), .val (.int (3 : Int32))]) rfl rfl rfl d1_39 ?_
  refine goto K S d1_42 ?_
  refine iload_n K S rfl d1_20 ?_
  refine iload_n K S rfl d1_21 ?_
  refine icmp_ge K S d1_22 (fun c22 => ?_) (fun c22 => ?_)
  · exact absurd c22 (by decide)
  refine aload_n K S rfl rfl d1_25 ?_
  refine getf K S (hwi hw 10 rfl) F_elements_o d1_26 fun T S => ?_
  refine iload_n K S rfl d1_29 ?_
  refine iload_n K S rfl d1_30 ?_
  refine iastore K S (i := 3) A_p0 ⟨by decide, rfl⟩ (show (3 : Nat) < 4 by decide) g_p0 d1_31 fun T h31_11 W B S => ?_
  replace E_o := E_o.wr W
  replace F_elements_o := F_elements_o.other W (Or.inl (by first | exact n_o_p0 | exact Ne.symm n_p0_o | omega))
  replace F_positionOf_o := F_positionOf_o.other W (Or.inl (by first | exact n_o_p0 | exact Ne.symm n_p0_o | omega))
  replace F_blockOf_o := F_blockOf_o.other W (Or.inl (by first | exact n_o_p0 | exact Ne.symm n_p0_o | omega))
  replace F_blockStart_o := F_blockStart_o.other W (Or.inl (by first | exact n_o_p0 | exact Ne.symm n_p0_o | omega))
  replace F_blockEnd_o := F_blockEnd_o.other W (Or.inl (by first | exact n_o_p0 | exact Ne.symm n_p0_o | omega))
  replace F_markedEnd_o := F_markedEnd_o.other W (Or.inl (by first | exact n_o_p0 | exact Ne.symm n_p0_o | omega))
  replace F_origin_o := F_origin_o.other W (Or.inl (by first | exact n_o_p0 | exact Ne.symm n_p0_o | omega))
  replace F_touchedBlocks_o := F_touchedBlocks_o.other W (Or.inl (by first | exact n_o_p0 | exact Ne.symm n_p0_o | omega))
  replace F_blocks_o := F_blocks_o.other W (Or.inl (by first | exact n_o_p0 | exact Ne.symm n_p0_o | omega))
  replace F_touched_o := F_touched_o.other W (Or.inl (by first | exact n_o_p0 | exact Ne.symm n_p0_o | omega))
  replace A_p1 := A_p1.other W (by first | exact n_p1_p0 | exact Ne.symm n_p0_p1 | omega)
  clear W
  replace A_p0 : VA Z h31_11 p0 .int ([.int (0 : Int32), .int (1 : Int32), .int (2 : Int32), .int (3 : Int32)]) := B
  refine aload_n K S rfl rfl d1_32 ?_
  refine getf K S (hwi hw 12 rfl) F_positionOf_o d1_33 fun T S => ?_
  refine iload_n K S rfl d1_36 ?_
  refine iload_n K S rfl d1_37 ?_
  refine iastore K S (i := 3) A_p1 ⟨by decide, rfl⟩ (show (3 : Nat) < 4 by decide) g_p1 d1_38 fun T h38_12 W B S => ?_
  replace E_o := E_o.wr W
  replace F_elements_o := F_elements_o.other W (Or.inl (by first | exact n_o_p1 | exact Ne.symm n_p1_o | omega))
  replace F_positionOf_o := F_positionOf_o.other W (Or.inl (by first | exact n_o_p1 | exact Ne.symm n_p1_o | omega))
  replace F_blockOf_o := F_blockOf_o.other W (Or.inl (by first | exact n_o_p1 | exact Ne.symm n_p1_o | omega))
  replace F_blockStart_o := F_blockStart_o.other W (Or.inl (by first | exact n_o_p1 | exact Ne.symm n_p1_o | omega))
  replace F_blockEnd_o := F_blockEnd_o.other W (Or.inl (by first | exact n_o_p1 | exact Ne.symm n_p1_o | omega))
  replace F_markedEnd_o := F_markedEnd_o.other W (Or.inl (by first | exact n_o_p1 | exact Ne.symm n_p1_o | omega))
  replace F_origin_o := F_origin_o.other W (Or.inl (by first | exact n_o_p1 | exact Ne.symm n_p1_o | omega))
  replace F_touchedBlocks_o := F_touchedBlocks_o.other W (Or.inl (by first | exact n_o_p1 | exact Ne.symm n_p1_o | omega))
  replace F_blocks_o := F_blocks_o.other W (Or.inl (by first | exact n_o_p1 | exact Ne.symm n_p1_o | omega))
  replace F_touched_o := F_touched_o.other W (Or.inl (by first | exact n_o_p1 | exact Ne.symm n_p1_o | omega))
  replace A_p0 := A_p0.other W (by first | exact n_p0_p1 | exact Ne.symm n_p1_p0 | omega)
  clear W
  replace A_p1 : VA Z h38_12 p1 .int ([.int (0 : Int32), .int (1 : Int32), .int (2 : Int32), .int (3 : Int32)]) := B
  refine iinc K S (y := (1 : Int32)) (x := (3 : Int32)) (l' := #[.val (.ref o), .val (.int (4 : Int32)), .val (.int (4 : Int32))]) rfl rfl rfl d1_39 ?_
  refine goto K S d1_42 ?_
  refine iload_n K S rfl d1_20 ?_
  refine iload_n K S rfl d1_21 ?_
  refine icmp_ge K S d1_22 (fun c22 => ?_) (fun c22 => ?_)
  rotate_left
  · exact absurd c22 (by decide)
  refine aload_n K S rfl rfl d1_45 ?_
  refine iload_n K S rfl d1_46 ?_
  refine newarr K S (cap := 4) (hwi hw 9 rfl) (by decide) (by decide) (by decide) (by decide) (by decide) d1_47 fun T h47_13 p2 z_p2 g_p2 X A_p2 S => ?_
  have n_o_p2 : o ≠ p2 := by rw [z_p2]; exact Nat.ne_of_lt E_o.lt
  have l_o_p2 : o < p2 := by rw [z_p2]; exact E_o.lt
  have n_p0_p2 : p0 ≠ p2 := by rw [z_p2]; exact Nat.ne_of_lt A_p0.lt
  have l_p0_p2 : p0 < p2 := by rw [z_p2]; exact A_p0.lt
  have n_p1_p2 : p1 ≠ p2 := by rw [z_p2]; exact Nat.ne_of_lt A_p1.lt
  have l_p1_p2 : p1 < p2 := by rw [z_p2]; exact A_p1.lt
  replace E_o := E_o.ext X
  replace F_elements_o := F_elements_o.ext X
  replace F_positionOf_o := F_positionOf_o.ext X
  replace F_blockOf_o := F_blockOf_o.ext X
  replace F_blockStart_o := F_blockStart_o.ext X
  replace F_blockEnd_o := F_blockEnd_o.ext X
  replace F_markedEnd_o := F_markedEnd_o.ext X
  replace F_origin_o := F_origin_o.ext X
  replace F_touchedBlocks_o := F_touchedBlocks_o.ext X
  replace F_blocks_o := F_blocks_o.ext X
  replace F_touched_o := F_touched_o.ext X
  replace A_p0 := A_p0.ext X
  replace A_p1 := A_p1.ext X
  replace A_p2 : VA Z h47_13 p2 .int ([.int (0 : Int32), .int (0 : Int32), .int (0 : Int32), .int (0 : Int32)]) := A_p2
  clear X
  refine putf K S (hwi hw 14 rfl) F_blockOf_o E_o (Or.inr ⟨(hwi hw 15 rfl), rfl, rfl⟩) (hwi hw 1 rfl) (ty := .array .int) (by decide) rfl rfl g_o d1_49 fun T h49_14 W S => ?_
  replace E_o := E_o.wr W
  replace F_elements_o := F_elements_o.other W (Or.inr (slot_ne (C := "com/example/procsh/procsh/service/Partition") (Or.inr (hwi hw 11 rfl)) (Or.inr (hwi hw 15 rfl)) (by decide) (t := .array .int) (t' := .array .int) (by decide) (by decide)))
  replace F_positionOf_o := F_positionOf_o.other W (Or.inr (slot_ne (C := "com/example/procsh/procsh/service/Partition") (Or.inr (hwi hw 13 rfl)) (Or.inr (hwi hw 15 rfl)) (by decide) (t := .array .int) (t' := .array .int) (by decide) (by decide)))
  replace F_blockOf_o := F_blockOf_o.same W
  replace F_blockStart_o := F_blockStart_o.other W (Or.inr (slot_ne (C := "com/example/procsh/procsh/service/Partition") (Or.inr (hwi hw 17 rfl)) (Or.inr (hwi hw 15 rfl)) (by decide) (t := .array .int) (t' := .array .int) (by decide) (by decide)))
  replace F_blockEnd_o := F_blockEnd_o.other W (Or.inr (slot_ne (C := "com/example/procsh/procsh/service/Partition") (Or.inr (hwi hw 19 rfl)) (Or.inr (hwi hw 15 rfl)) (by decide) (t := .array .int) (t' := .array .int) (by decide) (by decide)))
  replace F_markedEnd_o := F_markedEnd_o.other W (Or.inr (slot_ne (C := "com/example/procsh/procsh/service/Partition") (Or.inr (hwi hw 21 rfl)) (Or.inr (hwi hw 15 rfl)) (by decide) (t := .array .int) (t' := .array .int) (by decide) (by decide)))
  replace F_origin_o := F_origin_o.other W (Or.inr (slot_ne (C := "com/example/procsh/procsh/service/Partition") (Or.inr (hwi hw 23 rfl)) (Or.inr (hwi hw 15 rfl)) (by decide) (t := .array .int) (t' := .array .int) (by decide) (by decide)))
  replace F_touchedBlocks_o := F_touchedBlocks_o.other W (Or.inr (slot_ne (C := "com/example/procsh/procsh/service/Partition") (Or.inr (hwi hw 25 rfl)) (Or.inr (hwi hw 15 rfl)) (by decide) (t := .array .int) (t' := .array .int) (by decide) (by decide)))
  replace F_blocks_o := F_blocks_o.other W (Or.inr (slot_ne (C := "com/example/procsh/procsh/service/Partition") (Or.inl (hwi hw 27 rfl)) (Or.inr (hwi hw 15 rfl)) (by decide) (t := .int) (t' := .array .int) (by decide) (by decide)))
  replace F_touched_o := F_touched_o.other W (Or.inr (slot_ne (C := "com/example/procsh/procsh/service/Partition") (Or.inl (hwi hw 41 rfl)) (Or.inr (hwi hw 15 rfl)) (by decide) (t := .int) (t' := .array .int) (by decide) (by decide)))
  replace A_p0 := A_p0.other W (by first | exact n_p0_o | exact Ne.symm n_o_p0 | omega)
  replace A_p1 := A_p1.other W (by first | exact n_p1_o | exact Ne.symm n_o_p1 | omega)
  replace A_p2 := A_p2.other W (by first | exact n_p2_o | exact Ne.symm n_o_p2 | omega)
  clear W
  refine aload_n K S rfl rfl d1_52 ?_
  refine iload_n K S rfl d1_53 ?_
  refine newarr K S (cap := 4) (hwi hw 9 rfl) (by decide) (by decide) (by decide) (by decide) (by decide) d1_54 fun T h54_15 p3 z_p3 g_p3 X A_p3 S => ?_
  have n_o_p3 : o ≠ p3 := by rw [z_p3]; exact Nat.ne_of_lt E_o.lt
  have l_o_p3 : o < p3 := by rw [z_p3]; exact E_o.lt
  have n_p0_p3 : p0 ≠ p3 := by rw [z_p3]; exact Nat.ne_of_lt A_p0.lt
  have l_p0_p3 : p0 < p3 := by rw [z_p3]; exact A_p0.lt
  have n_p1_p3 : p1 ≠ p3 := by rw [z_p3]; exact Nat.ne_of_lt A_p1.lt
  have l_p1_p3 : p1 < p3 := by rw [z_p3]; exact A_p1.lt
  have n_p2_p3 : p2 ≠ p3 := by rw [z_p3]; exact Nat.ne_of_lt A_p2.lt
  have l_p2_p3 : p2 < p3 := by rw [z_p3]; exact A_p2.lt
  replace E_o := E_o.ext X
  replace F_elements_o := F_elements_o.ext X
  replace F_positionOf_o := F_positionOf_o.ext X
  replace F_blockOf_o := F_blockOf_o.ext X
  replace F_blockStart_o := F_blockStart_o.ext X
  replace F_blockEnd_o := F_blockEnd_o.ext X
  replace F_markedEnd_o := F_markedEnd_o.ext X
  replace F_origin_o := F_origin_o.ext X
  replace F_touchedBlocks_o := F_touchedBlocks_o.ext X
  replace F_blocks_o := F_blocks_o.ext X
  replace F_touched_o := F_touched_o.ext X
  replace A_p0 := A_p0.ext X
  replace A_p1 := A_p1.ext X
  replace A_p2 := A_p2.ext X
  replace A_p3 : VA Z h54_15 p3 .int ([.int (0 : Int32), .int (0 : Int32), .int (0 : Int32), .int (0 : Int32)]) := A_p3
  clear X
  refine putf K S (hwi hw 16 rfl) F_blockStart_o E_o (Or.inr ⟨(hwi hw 17 rfl), rfl, rfl⟩) (hwi hw 1 rfl) (ty := .array .int) (by decide) rfl rfl g_o d1_56 fun T h56_16 W S => ?_
  replace E_o := E_o.wr W
  replace F_elements_o := F_elements_o.other W (Or.inr (slot_ne (C := "com/example/procsh/procsh/service/Partition") (Or.inr (hwi hw 11 rfl)) (Or.inr (hwi hw 17 rfl)) (by decide) (t := .array .int) (t' := .array .int) (by decide) (by decide)))
  replace F_positionOf_o := F_positionOf_o.other W (Or.inr (slot_ne (C := "com/example/procsh/procsh/service/Partition") (Or.inr (hwi hw 13 rfl)) (Or.inr (hwi hw 17 rfl)) (by decide) (t := .array .int) (t' := .array .int) (by decide) (by decide)))
  replace F_blockOf_o := F_blockOf_o.other W (Or.inr (slot_ne (C := "com/example/procsh/procsh/service/Partition") (Or.inr (hwi hw 15 rfl)) (Or.inr (hwi hw 17 rfl)) (by decide) (t := .array .int) (t' := .array .int) (by decide) (by decide)))
  replace F_blockStart_o := F_blockStart_o.same W
  replace F_blockEnd_o := F_blockEnd_o.other W (Or.inr (slot_ne (C := "com/example/procsh/procsh/service/Partition") (Or.inr (hwi hw 19 rfl)) (Or.inr (hwi hw 17 rfl)) (by decide) (t := .array .int) (t' := .array .int) (by decide) (by decide)))
  replace F_markedEnd_o := F_markedEnd_o.other W (Or.inr (slot_ne (C := "com/example/procsh/procsh/service/Partition") (Or.inr (hwi hw 21 rfl)) (Or.inr (hwi hw 17 rfl)) (by decide) (t := .array .int) (t' := .array .int) (by decide) (by decide)))
  replace F_origin_o := F_origin_o.other W (Or.inr (slot_ne (C := "com/example/procsh/procsh/service/Partition") (Or.inr (hwi hw 23 rfl)) (Or.inr (hwi hw 17 rfl)) (by decide) (t := .array .int) (t' := .array .int) (by decide) (by decide)))
  replace F_touchedBlocks_o := F_touchedBlocks_o.other W (Or.inr (slot_ne (C := "com/example/procsh/procsh/service/Partition") (Or.inr (hwi hw 25 rfl)) (Or.inr (hwi hw 17 rfl)) (by decide) (t := .array .int) (t' := .array .int) (by decide) (by decide)))
  replace F_blocks_o := F_blocks_o.other W (Or.inr (slot_ne (C := "com/example/procsh/procsh/service/Partition") (Or.inl (hwi hw 27 rfl)) (Or.inr (hwi hw 17 rfl)) (by decide) (t := .int) (t' := .array .int) (by decide) (by decide)))
  replace F_touched_o := F_touched_o.other W (Or.inr (slot_ne (C := "com/example/procsh/procsh/service/Partition") (Or.inl (hwi hw 41 rfl)) (Or.inr (hwi hw 17 rfl)) (by decide) (t := .int) (t' := .array .int) (by decide) (by decide)))
  replace A_p0 := A_p0.other W (by first | exact n_p0_o | exact Ne.symm n_o_p0 | omega)
  replace A_p1 := A_p1.other W (by first | exact n_p1_o | exact Ne.symm n_o_p1 | omega)
  replace A_p2 := A_p2.other W (by first | exact n_p2_o | exact Ne.symm n_o_p2 | omega)
  replace A_p3 := A_p3.other W (by first | exact n_p3_o | exact Ne.symm n_o_p3 | omega)
  clear W
  refine aload_n K S rfl rfl d1_59 ?_
  refine iload_n K S rfl d1_60 ?_
  refine newarr K S (cap := 4) (hwi hw 9 rfl) (by decide) (by decide) (by decide) (by decide) (by decide) d1_61 fun T h61_17 p4 z_p4 g_p4 X A_p4 S => ?_
  have n_o_p4 : o ≠ p4 := by rw [z_p4]; exact Nat.ne_of_lt E_o.lt
  have l_o_p4 : o < p4 := by rw [z_p4]; exact E_o.lt
  have n_p0_p4 : p0 ≠ p4 := by rw [z_p4]; exact Nat.ne_of_lt A_p0.lt
  have l_p0_p4 : p0 < p4 := by rw [z_p4]; exact A_p0.lt
  have n_p1_p4 : p1 ≠ p4 := by rw [z_p4]; exact Nat.ne_of_lt A_p1.lt
  have l_p1_p4 : p1 < p4 := by rw [z_p4]; exact A_p1.lt
  have n_p2_p4 : p2 ≠ p4 := by rw [z_p4]; exact Nat.ne_of_lt A_p2.lt
  have l_p2_p4 : p2 < p4 := by rw [z_p4]; exact A_p2.lt
  have n_p3_p4 : p3 ≠ p4 := by rw [z_p4]; exact Nat.ne_of_lt A_p3.lt
  have l_p3_p4 : p3 < p4 := by rw [z_p4]; exact A_p3.lt
  replace E_o := E_o.ext X
  replace F_elements_o := F_elements_o.ext X
  replace F_positionOf_o := F_positionOf_o.ext X
  replace F_blockOf_o := F_blockOf_o.ext X
  replace F_blockStart_o := F_blockStart_o.ext X
  replace F_blockEnd_o := F_blockEnd_o.ext X
  replace F_markedEnd_o := F_markedEnd_o.ext X
  replace F_origin_o := F_origin_o.ext X
  replace F_touchedBlocks_o := F_touchedBlocks_o.ext X
  replace F_blocks_o := F_blocks_o.ext X
  replace F_touched_o := F_touched_o.ext X
  replace A_p0 := A_p0.ext X
  replace A_p1 := A_p1.ext X
  replace A_p2 := A_p2.ext X
  replace A_p3 := A_p3.ext X
  replace A_p4 : VA Z h61_17 p4 .int ([.int (0 : Int32), .int (0 : Int32), .int (0 : Int32), .int (0 : Int32)]) := A_p4
  clear X
  refine putf K S (hwi hw 18 rfl) F_blockEnd_o E_o (Or.inr ⟨(hwi hw 19 rfl), rfl, rfl⟩) (hwi hw 1 rfl) (ty := .array .int) (by decide) rfl rfl g_o d1_63 fun T h63_18 W S => ?_
  replace E_o := E_o.wr W
  replace F_elements_o := F_elements_o.other W (Or.inr (slot_ne (C := "com/example/procsh/procsh/service/Partition") (Or.inr (hwi hw 11 rfl)) (Or.inr (hwi hw 19 rfl)) (by decide) (t := .array .int) (t' := .array .int) (by decide) (by decide)))
  replace F_positionOf_o := F_positionOf_o.other W (Or.inr (slot_ne (C := "com/example/procsh/procsh/service/Partition") (Or.inr (hwi hw 13 rfl)) (Or.inr (hwi hw 19 rfl)) (by decide) (t := .array .int) (t' := .array .int) (by decide) (by decide)))
  replace F_blockOf_o := F_blockOf_o.other W (Or.inr (slot_ne (C := "com/example/procsh/procsh/service/Partition") (Or.inr (hwi hw 15 rfl)) (Or.inr (hwi hw 19 rfl)) (by decide) (t := .array .int) (t' := .array .int) (by decide) (by decide)))
  replace F_blockStart_o := F_blockStart_o.other W (Or.inr (slot_ne (C := "com/example/procsh/procsh/service/Partition") (Or.inr (hwi hw 17 rfl)) (Or.inr (hwi hw 19 rfl)) (by decide) (t := .array .int) (t' := .array .int) (by decide) (by decide)))
  replace F_blockEnd_o := F_blockEnd_o.same W
  replace F_markedEnd_o := F_markedEnd_o.other W (Or.inr (slot_ne (C := "com/example/procsh/procsh/service/Partition") (Or.inr (hwi hw 21 rfl)) (Or.inr (hwi hw 19 rfl)) (by decide) (t := .array .int) (t' := .array .int) (by decide) (by decide)))
  replace F_origin_o := F_origin_o.other W (Or.inr (slot_ne (C := "com/example/procsh/procsh/service/Partition") (Or.inr (hwi hw 23 rfl)) (Or.inr (hwi hw 19 rfl)) (by decide) (t := .array .int) (t' := .array .int) (by decide) (by decide)))
  replace F_touchedBlocks_o := F_touchedBlocks_o.other W (Or.inr (slot_ne (C := "com/example/procsh/procsh/service/Partition") (Or.inr (hwi hw 25 rfl)) (Or.inr (hwi hw 19 rfl)) (by decide) (t := .array .int) (t' := .array .int) (by decide) (by decide)))
  replace F_blocks_o := F_blocks_o.other W (Or.inr (slot_ne (C := "com/example/procsh/procsh/service/Partition") (Or.inl (hwi hw 27 rfl)) (Or.inr (hwi hw 19 rfl)) (by decide) (t := .int) (t' := .array .int) (by decide) (by decide)))
  replace F_touched_o := F_touched_o.other W (Or.inr (slot_ne (C := "com/example/procsh/procsh/service/Partition") (Or.inl (hwi hw 41 rfl)) (Or.inr (hwi hw 19 rfl)) (by decide) (t := .int) (t' := .array .int) (by decide) (by decide)))
  replace A_p0 := A_p0.other W (by first | exact n_p0_o | exact Ne.symm n_o_p0 | omega)
  replace A_p1 := A_p1.other W (by first | exact n_p1_o | exact Ne.symm n_o_p1 | omega)
  replace A_p2 := A_p2.other W (by first | exact n_p2_o | exact Ne.symm n_o_p2 | omega)
  replace A_p3 := A_p3.other W (by first | exact n_p3_o | exact Ne.symm n_o_p3 | omega)
  replace A_p4 := A_p4.other W (by first | exact n_p4_o | exact Ne.symm n_o_p4 | omega)
  clear W
  refine aload_n K S rfl rfl d1_66 ?_
  refine iload_n K S rfl d1_67 ?_
  refine newarr K S (cap := 4) (hwi hw 9 rfl) (by decide) (by decide) (by decide) (by decide) (by decide) d1_68 fun T h68_19 p5 z_p5 g_p5 X A_p5 S => ?_
  have n_o_p5 : o ≠ p5 := by rw [z_p5]; exact Nat.ne_of_lt E_o.lt
  have l_o_p5 : o < p5 := by rw [z_p5]; exact E_o.lt
  have n_p0_p5 : p0 ≠ p5 := by rw [z_p5]; exact Nat.ne_of_lt A_p0.lt
  have l_p0_p5 : p0 < p5 := by rw [z_p5]; exact A_p0.lt
  have n_p1_p5 : p1 ≠ p5 := by rw [z_p5]; exact Nat.ne_of_lt A_p1.lt
  have l_p1_p5 : p1 < p5 := by rw [z_p5]; exact A_p1.lt
  have n_p2_p5 : p2 ≠ p5 := by rw [z_p5]; exact Nat.ne_of_lt A_p2.lt
  have l_p2_p5 : p2 < p5 := by rw [z_p5]; exact A_p2.lt
  have n_p3_p5 : p3 ≠ p5 := by rw [z_p5]; exact Nat.ne_of_lt A_p3.lt
  have l_p3_p5 : p3 < p5 := by rw [z_p5]; exact A_p3.lt
  have n_p4_p5 : p4 ≠ p5 := by rw [z_p5]; exact Nat.ne_of_lt A_p4.lt
  have l_p4_p5 : p4 < p5 := by rw [z_p5]; exact A_p4.lt
  replace E_o := E_o.ext X
  replace F_elements_o := F_elements_o.ext X
  replace F_positionOf_o := F_positionOf_o.ext X
  replace F_blockOf_o := F_blockOf_o.ext X
  replace F_blockStart_o := F_blockStart_o.ext X
  replace F_blockEnd_o := F_blockEnd_o.ext X
  replace F_markedEnd_o := F_markedEnd_o.ext X
  replace F_origin_o := F_origin_o.ext X
  replace F_touchedBlocks_o := F_touchedBlocks_o.ext X
  replace F_blocks_o := F_blocks_o.ext X
  replace F_touched_o := F_touched_o.ext X
  replace A_p0 := A_p0.ext X
  replace A_p1 := A_p1.ext X
  replace A_p2 := A_p2.ext X
  replace A_p3 := A_p3.ext X
  replace A_p4 := A_p4.ext X
  replace A_p5 : VA Z h68_19 p5 .int ([.int (0 : Int32), .int (0 : Int32), .int (0 : Int32), .int (0 : Int32)]) := A_p5
  clear X
  refine putf K S (hwi hw 20 rfl) F_markedEnd_o E_o (Or.inr ⟨(hwi hw 21 rfl), rfl, rfl⟩) (hwi hw 1 rfl) (ty := .array .int) (by decide) rfl rfl g_o d1_70 fun T h70_20 W S => ?_
  replace E_o := E_o.wr W
  replace F_elements_o := F_elements_o.other W (Or.inr (slot_ne (C := "com/example/procsh/procsh/service/Partition") (Or.inr (hwi hw 11 rfl)) (Or.inr (hwi hw 21 rfl)) (by decide) (t := .array .int) (t' := .array .int) (by decide) (by decide)))
  replace F_positionOf_o := F_positionOf_o.other W (Or.inr (slot_ne (C := "com/example/procsh/procsh/service/Partition") (Or.inr (hwi hw 13 rfl)) (Or.inr (hwi hw 21 rfl)) (by decide) (t := .array .int) (t' := .array .int) (by decide) (by decide)))
  replace F_blockOf_o := F_blockOf_o.other W (Or.inr (slot_ne (C := "com/example/procsh/procsh/service/Partition") (Or.inr (hwi hw 15 rfl)) (Or.inr (hwi hw 21 rfl)) (by decide) (t := .array .int) (t' := .array .int) (by decide) (by decide)))
  replace F_blockStart_o := F_blockStart_o.other W (Or.inr (slot_ne (C := "com/example/procsh/procsh/service/Partition") (Or.inr (hwi hw 17 rfl)) (Or.inr (hwi hw 21 rfl)) (by decide) (t := .array .int) (t' := .array .int) (by decide) (by decide)))
  replace F_blockEnd_o := F_blockEnd_o.other W (Or.inr (slot_ne (C := "com/example/procsh/procsh/service/Partition") (Or.inr (hwi hw 19 rfl)) (Or.inr (hwi hw 21 rfl)) (by decide) (t := .array .int) (t' := .array .int) (by decide) (by decide)))
  replace F_markedEnd_o := F_markedEnd_o.same W
  replace F_origin_o := F_origin_o.other W (Or.inr (slot_ne (C := "com/example/procsh/procsh/service/Partition") (Or.inr (hwi hw 23 rfl)) (Or.inr (hwi hw 21 rfl)) (by decide) (t := .array .int) (t' := .array .int) (by decide) (by decide)))
  replace F_touchedBlocks_o := F_touchedBlocks_o.other W (Or.inr (slot_ne (C := "com/example/procsh/procsh/service/Partition") (Or.inr (hwi hw 25 rfl)) (Or.inr (hwi hw 21 rfl)) (by decide) (t := .array .int) (t' := .array .int) (by decide) (by decide)))
  replace F_blocks_o := F_blocks_o.other W (Or.inr (slot_ne (C := "com/example/procsh/procsh/service/Partition") (Or.inl (hwi hw 27 rfl)) (Or.inr (hwi hw 21 rfl)) (by decide) (t := .int) (t' := .array .int) (by decide) (by decide)))
  replace F_touched_o := F_touched_o.other W (Or.inr (slot_ne (C := "com/example/procsh/procsh/service/Partition") (Or.inl (hwi hw 41 rfl)) (Or.inr (hwi hw 21 rfl)) (by decide) (t := .int) (t' := .array .int) (by decide) (by decide)))
  replace A_p0 := A_p0.other W (by first | exact n_p0_o | exact Ne.symm n_o_p0 | omega)
  replace A_p1 := A_p1.other W (by first | exact n_p1_o | exact Ne.symm n_o_p1 | omega)
  replace A_p2 := A_p2.other W (by first | exact n_p2_o | exact Ne.symm n_o_p2 | omega)
  replace A_p3 := A_p3.other W (by first | exact n_p3_o | exact Ne.symm n_o_p3 | omega)
  replace A_p4 := A_p4.other W (by first | exact n_p4_o | exact Ne.symm n_o_p4 | omega)
  replace A_p5 := A_p5.other W (by first | exact n_p5_o | exact Ne.symm n_o_p5 | omega)
  clear W
  refine aload_n K S rfl rfl d1_73 ?_
  refine iload_n K S rfl d1_74 ?_
  refine newarr K S (cap := 4) (hwi hw 9 rfl) (by decide) (by decide) (by decide) (by decide) (by decide) d1_75 fun T h75_21 p6 z_p6 g_p6 X A_p6 S => ?_
  have n_o_p6 : o ≠ p6 := by rw [z_p6]; exact Nat.ne_of_lt E_o.lt
  have l_o_p6 : o < p6 := by rw [z_p6]; exact E_o.lt
  have n_p0_p6 : p0 ≠ p6 := by rw [z_p6]; exact Nat.ne_of_lt A_p0.lt
  have l_p0_p6 : p0 < p6 := by rw [z_p6]; exact A_p0.lt
  have n_p1_p6 : p1 ≠ p6 := by rw [z_p6]; exact Nat.ne_of_lt A_p1.lt
  have l_p1_p6 : p1 < p6 := by rw [z_p6]; exact A_p1.lt
  have n_p2_p6 : p2 ≠ p6 := by rw [z_p6]; exact Nat.ne_of_lt A_p2.lt
  have l_p2_p6 : p2 < p6 := by rw [z_p6]; exact A_p2.lt
  have n_p3_p6 : p3 ≠ p6 := by rw [z_p6]; exact Nat.ne_of_lt A_p3.lt
  have l_p3_p6 : p3 < p6 := by rw [z_p6]; exact A_p3.lt
  have n_p4_p6 : p4 ≠ p6 := by rw [z_p6]; exact Nat.ne_of_lt A_p4.lt
  have l_p4_p6 : p4 < p6 := by rw [z_p6]; exact A_p4.lt
  have n_p5_p6 : p5 ≠ p6 := by rw [z_p6]; exact Nat.ne_of_lt A_p5.lt
  have l_p5_p6 : p5 < p6 := by rw [z_p6]; exact A_p5.lt
  replace E_o := E_o.ext X
  replace F_elements_o := F_elements_o.ext X
  replace F_positionOf_o := F_positionOf_o.ext X
  replace F_blockOf_o := F_blockOf_o.ext X
  replace F_blockStart_o := F_blockStart_o.ext X
  replace F_blockEnd_o := F_blockEnd_o.ext X
  replace F_markedEnd_o := F_markedEnd_o.ext X
  replace F_origin_o := F_origin_o.ext X
  replace F_touchedBlocks_o := F_touchedBlocks_o.ext X
  replace F_blocks_o := F_blocks_o.ext X
  replace F_touched_o := F_touched_o.ext X
  replace A_p0 := A_p0.ext X
  replace A_p1 := A_p1.ext X
  replace A_p2 := A_p2.ext X
  replace A_p3 := A_p3.ext X
  replace A_p4 := A_p4.ext X
  replace A_p5 := A_p5.ext X
  replace A_p6 : VA Z h75_21 p6 .int ([.int (0 : Int32), .int (0 : Int32), .int (0 : Int32), .int (0 : Int32)]) := A_p6
  clear X
  refine putf K S (hwi hw 22 rfl) F_origin_o E_o (Or.inr ⟨(hwi hw 23 rfl), rfl, rfl⟩) (hwi hw 1 rfl) (ty := .array .int) (by decide) rfl rfl g_o d1_77 fun T h77_22 W S => ?_
  replace E_o := E_o.wr W
  replace F_elements_o := F_elements_o.other W (Or.inr (slot_ne (C := "com/example/procsh/procsh/service/Partition") (Or.inr (hwi hw 11 rfl)) (Or.inr (hwi hw 23 rfl)) (by decide) (t := .array .int) (t' := .array .int) (by decide) (by decide)))
  replace F_positionOf_o := F_positionOf_o.other W (Or.inr (slot_ne (C := "com/example/procsh/procsh/service/Partition") (Or.inr (hwi hw 13 rfl)) (Or.inr (hwi hw 23 rfl)) (by decide) (t := .array .int) (t' := .array .int) (by decide) (by decide)))
  replace F_blockOf_o := F_blockOf_o.other W (Or.inr (slot_ne (C := "com/example/procsh/procsh/service/Partition") (Or.inr (hwi hw 15 rfl)) (Or.inr (hwi hw 23 rfl)) (by decide) (t := .array .int) (t' := .array .int) (by decide) (by decide)))
  replace F_blockStart_o := F_blockStart_o.other W (Or.inr (slot_ne (C := "com/example/procsh/procsh/service/Partition") (Or.inr (hwi hw 17 rfl)) (Or.inr (hwi hw 23 rfl)) (by decide) (t := .array .int) (t' := .array .int) (by decide) (by decide)))
  replace F_blockEnd_o := F_blockEnd_o.other W (Or.inr (slot_ne (C := "com/example/procsh/procsh/service/Partition") (Or.inr (hwi hw 19 rfl)) (Or.inr (hwi hw 23 rfl)) (by decide) (t := .array .int) (t' := .array .int) (by decide) (by decide)))
  replace F_markedEnd_o := F_markedEnd_o.other W (Or.inr (slot_ne (C := "com/example/procsh/procsh/service/Partition") (Or.inr (hwi hw 21 rfl)) (Or.inr (hwi hw 23 rfl)) (by decide) (t := .array .int) (t' := .array .int) (by decide) (by decide)))
  replace F_origin_o := F_origin_o.same W
  replace F_touchedBlocks_o := F_touchedBlocks_o.other W (Or.inr (slot_ne (C := "com/example/procsh/procsh/service/Partition") (Or.inr (hwi hw 25 rfl)) (Or.inr (hwi hw 23 rfl)) (by decide) (t := .array .int) (t' := .array .int) (by decide) (by decide)))
  replace F_blocks_o := F_blocks_o.other W (Or.inr (slot_ne (C := "com/example/procsh/procsh/service/Partition") (Or.inl (hwi hw 27 rfl)) (Or.inr (hwi hw 23 rfl)) (by decide) (t := .int) (t' := .array .int) (by decide) (by decide)))
  replace F_touched_o := F_touched_o.other W (Or.inr (slot_ne (C := "com/example/procsh/procsh/service/Partition") (Or.inl (hwi hw 41 rfl)) (Or.inr (hwi hw 23 rfl)) (by decide) (t := .int) (t' := .array .int) (by decide) (by decide)))
  replace A_p0 := A_p0.other W (by first | exact n_p0_o | exact Ne.symm n_o_p0 | omega)
  replace A_p1 := A_p1.other W (by first | exact n_p1_o | exact Ne.symm n_o_p1 | omega)
  replace A_p2 := A_p2.other W (by first | exact n_p2_o | exact Ne.symm n_o_p2 | omega)
  replace A_p3 := A_p3.other W (by first | exact n_p3_o | exact Ne.symm n_o_p3 | omega)
  replace A_p4 := A_p4.other W (by first | exact n_p4_o | exact Ne.symm n_o_p4 | omega)
  replace A_p5 := A_p5.other W (by first | exact n_p5_o | exact Ne.symm n_o_p5 | omega)
  replace A_p6 := A_p6.other W (by first | exact n_p6_o | exact Ne.symm n_o_p6 | omega)
  clear W
  refine aload_n K S rfl rfl d1_80 ?_
  refine iload_n K S rfl d1_81 ?_
  refine newarr K S (cap := 4) (hwi hw 9 rfl) (by decide) (by decide) (by decide) (by decide) (by decide) d1_82 fun T h82_23 p7 z_p7 g_p7 X A_p7 S => ?_
  have n_o_p7 : o ≠ p7 := by rw [z_p7]; exact Nat.ne_of_lt E_o.lt
  have l_o_p7 : o < p7 := by rw [z_p7]; exact E_o.lt
  have n_p0_p7 : p0 ≠ p7 := by rw [z_p7]; exact Nat.ne_of_lt A_p0.lt
  have l_p0_p7 : p0 < p7 := by rw [z_p7]; exact A_p0.lt
  have n_p1_p7 : p1 ≠ p7 := by rw [z_p7]; exact Nat.ne_of_lt A_p1.lt
  have l_p1_p7 : p1 < p7 := by rw [z_p7]; exact A_p1.lt
  have n_p2_p7 : p2 ≠ p7 := by rw [z_p7]; exact Nat.ne_of_lt A_p2.lt
  have l_p2_p7 : p2 < p7 := by rw [z_p7]; exact A_p2.lt
  have n_p3_p7 : p3 ≠ p7 := by rw [z_p7]; exact Nat.ne_of_lt A_p3.lt
  have l_p3_p7 : p3 < p7 := by rw [z_p7]; exact A_p3.lt
  have n_p4_p7 : p4 ≠ p7 := by rw [z_p7]; exact Nat.ne_of_lt A_p4.lt
  have l_p4_p7 : p4 < p7 := by rw [z_p7]; exact A_p4.lt
  have n_p5_p7 : p5 ≠ p7 := by rw [z_p7]; exact Nat.ne_of_lt A_p5.lt
  have l_p5_p7 : p5 < p7 := by rw [z_p7]; exact A_p5.lt
  have n_p6_p7 : p6 ≠ p7 := by rw [z_p7]; exact Nat.ne_of_lt A_p6.lt
  have l_p6_p7 : p6 < p7 := by rw [z_p7]; exact A_p6.lt
  replace E_o := E_o.ext X
  replace F_elements_o := F_elements_o.ext X
  replace F_positionOf_o := F_positionOf_o.ext X
  replace F_blockOf_o := F_blockOf_o.ext X
  replace F_blockStart_o := F_blockStart_o.ext X
  replace F_blockEnd_o := F_blockEnd_o.ext X
  replace F_markedEnd_o := F_markedEnd_o.ext X
  replace F_origin_o := F_origin_o.ext X
  replace F_touchedBlocks_o := F_touchedBlocks_o.ext X
  replace F_blocks_o := F_blocks_o.ext X
  replace F_touched_o := F_touched_o.ext X
  replace A_p0 := A_p0.ext X
  replace A_p1 := A_p1.ext X
  replace A_p2 := A_p2.ext X
  replace A_p3 := A_p3.ext X
  replace A_p4 := A_p4.ext X
  replace A_p5 := A_p5.ext X
  replace A_p6 := A_p6.ext X
  replace A_p7 : VA Z h82_23 p7 .int ([.int (0 : Int32), .int (0 : Int32), .int (0 : Int32), .int (0 : Int32)]) := A_p7
  clear X
  refine putf K S (hwi hw 24 rfl) F_touchedBlocks_o E_o (Or.inr ⟨(hwi hw 25 rfl), rfl, rfl⟩) (hwi hw 1 rfl) (ty := .array .int) (by decide) rfl rfl g_o d1_84 fun T h84_24 W S => ?_
  replace E_o := E_o.wr W
  replace F_elements_o := F_elements_o.other W (Or.inr (slot_ne (C := "com/example/procsh/procsh/service/Partition") (Or.inr (hwi hw 11 rfl)) (Or.inr (hwi hw 25 rfl)) (by decide) (t := .array .int) (t' := .array .int) (by decide) (by decide)))
  replace F_positionOf_o := F_positionOf_o.other W (Or.inr (slot_ne (C := "com/example/procsh/procsh/service/Partition") (Or.inr (hwi hw 13 rfl)) (Or.inr (hwi hw 25 rfl)) (by decide) (t := .array .int) (t' := .array .int) (by decide) (by decide)))
  replace F_blockOf_o := F_blockOf_o.other W (Or.inr (slot_ne (C := "com/example/procsh/procsh/service/Partition") (Or.inr (hwi hw 15 rfl)) (Or.inr (hwi hw 25 rfl)) (by decide) (t := .array .int) (t' := .array .int) (by decide) (by decide)))
  replace F_blockStart_o := F_blockStart_o.other W (Or.inr (slot_ne (C := "com/example/procsh/procsh/service/Partition") (Or.inr (hwi hw 17 rfl)) (Or.inr (hwi hw 25 rfl)) (by decide) (t := .array .int) (t' := .array .int) (by decide) (by decide)))
  replace F_blockEnd_o := F_blockEnd_o.other W (Or.inr (slot_ne (C := "com/example/procsh/procsh/service/Partition") (Or.inr (hwi hw 19 rfl)) (Or.inr (hwi hw 25 rfl)) (by decide) (t := .array .int) (t' := .array .int) (by decide) (by decide)))
  replace F_markedEnd_o := F_markedEnd_o.other W (Or.inr (slot_ne (C := "com/example/procsh/procsh/service/Partition") (Or.inr (hwi hw 21 rfl)) (Or.inr (hwi hw 25 rfl)) (by decide) (t := .array .int) (t' := .array .int) (by decide) (by decide)))
  replace F_origin_o := F_origin_o.other W (Or.inr (slot_ne (C := "com/example/procsh/procsh/service/Partition") (Or.inr (hwi hw 23 rfl)) (Or.inr (hwi hw 25 rfl)) (by decide) (t := .array .int) (t' := .array .int) (by decide) (by decide)))
  replace F_touchedBlocks_o := F_touchedBlocks_o.same W
  replace F_blocks_o := F_blocks_o.other W (Or.inr (slot_ne (C := "com/example/procsh/procsh/service/Partition") (Or.inl (hwi hw 27 rfl)) (Or.inr (hwi hw 25 rfl)) (by decide) (t := .int) (t' := .array .int) (by decide) (by decide)))
  replace F_touched_o := F_touched_o.other W (Or.inr (slot_ne (C := "com/example/procsh/procsh/service/Partition") (Or.inl (hwi hw 41 rfl)) (Or.inr (hwi hw 25 rfl)) (by decide) (t := .int) (t' := .array .int) (by decide) (by decide)))
  replace A_p0 := A_p0.other W (by first | exact n_p0_o | exact Ne.symm n_o_p0 | omega)
  replace A_p1 := A_p1.other W (by first | exact n_p1_o | exact Ne.symm n_o_p1 | omega)
  replace A_p2 := A_p2.other W (by first | exact n_p2_o | exact Ne.symm n_o_p2 | omega)
  replace A_p3 := A_p3.other W (by first | exact n_p3_o | exact Ne.symm n_o_p3 | omega)
  replace A_p4 := A_p4.other W (by first | exact n_p4_o | exact Ne.symm n_o_p4 | omega)
  replace A_p5 := A_p5.other W (by first | exact n_p5_o | exact Ne.symm n_o_p5 | omega)
  replace A_p6 := A_p6.other W (by first | exact n_p6_o | exact Ne.symm n_o_p6 | omega)
  replace A_p7 := A_p7.other W (by first | exact n_p7_o | exact Ne.symm n_o_p7 | omega)
  clear W
  refine aload_n K S rfl rfl d1_87 ?_
  refine getf K S (hwi hw 18 rfl) F_blockEnd_o d1_88 fun T S => ?_
  refine iconst K S (x := (0 : Int32)) rfl d1_91 ?_
  refine iload_n K S rfl d1_92 ?_
  refine iastore K S (i := 0) A_p4 ⟨by decide, rfl⟩ (show (0 : Nat) < 4 by decide) g_p4 d1_93 fun T h93_25 W B S => ?_
  replace E_o := E_o.wr W
  replace F_elements_o := F_elements_o.other W (Or.inl (by first | exact n_o_p4 | exact Ne.symm n_p4_o | omega))
  replace F_positionOf_o := F_positionOf_o.other W (Or.inl (by first | exact n_o_p4 | exact Ne.symm n_p4_o | omega))
  replace F_blockOf_o := F_blockOf_o.other W (Or.inl (by first | exact n_o_p4 | exact Ne.symm n_p4_o | omega))
  replace F_blockStart_o := F_blockStart_o.other W (Or.inl (by first | exact n_o_p4 | exact Ne.symm n_p4_o | omega))
  replace F_blockEnd_o := F_blockEnd_o.other W (Or.inl (by first | exact n_o_p4 | exact Ne.symm n_p4_o | omega))
  replace F_markedEnd_o := F_markedEnd_o.other W (Or.inl (by first | exact n_o_p4 | exact Ne.symm n_p4_o | omega))
  replace F_origin_o := F_origin_o.other W (Or.inl (by first | exact n_o_p4 | exact Ne.symm n_p4_o | omega))
  replace F_touchedBlocks_o := F_touchedBlocks_o.other W (Or.inl (by first | exact n_o_p4 | exact Ne.symm n_p4_o | omega))
  replace F_blocks_o := F_blocks_o.other W (Or.inl (by first | exact n_o_p4 | exact Ne.symm n_p4_o | omega))
  replace F_touched_o := F_touched_o.other W (Or.inl (by first | exact n_o_p4 | exact Ne.symm n_p4_o | omega))
  replace A_p0 := A_p0.other W (by first | exact n_p0_p4 | exact Ne.symm n_p4_p0 | omega)
  replace A_p1 := A_p1.other W (by first | exact n_p1_p4 | exact Ne.symm n_p4_p1 | omega)
  replace A_p2 := A_p2.other W (by first | exact n_p2_p4 | exact Ne.symm n_p4_p2 | omega)
  replace A_p3 := A_p3.other W (by first | exact n_p3_p4 | exact Ne.symm n_p4_p3 | omega)
  replace A_p5 := A_p5.other W (by first | exact n_p5_p4 | exact Ne.symm n_p4_p5 | omega)
  replace A_p6 := A_p6.other W (by first | exact n_p6_p4 | exact Ne.symm n_p4_p6 | omega)
  replace A_p7 := A_p7.other W (by first | exact n_p7_p4 | exact Ne.symm n_p4_p7 | omega)
  clear W
  replace A_p4 : VA Z h93_25 p4 .int ([.int (4 : Int32), .int (0 : Int32), .int (0 : Int32), .int (0 : Int32)]) := B
  refine aload_n K S rfl rfl d1_94 ?_
  refine iconst K S (x := (1 : Int32)) rfl d1_95 ?_
  refine putf K S (hwi hw 26 rfl) F_blocks_o E_o (Or.inl (hwi hw 27 rfl)) (hwi hw 1 rfl) (ty := .int) (by decide) rfl rfl g_o d1_96 fun T h96_26 W S => ?_
  replace E_o := E_o.wr W
  replace F_elements_o := F_elements_o.other W (Or.inr (slot_ne (C := "com/example/procsh/procsh/service/Partition") (Or.inr (hwi hw 11 rfl)) (Or.inl (hwi hw 27 rfl)) (by decide) (t := .array .int) (t' := .int) (by decide) (by decide)))
  replace F_positionOf_o := F_positionOf_o.other W (Or.inr (slot_ne (C := "com/example/procsh/procsh/service/Partition") (Or.inr (hwi hw 13 rfl)) (Or.inl (hwi hw 27 rfl)) (by decide) (t := .array .int) (t' := .int) (by decide) (by decide)))
  replace F_blockOf_o := F_blockOf_o.other W (Or.inr (slot_ne (C := "com/example/procsh/procsh/service/Partition") (Or.inr (hwi hw 15 rfl)) (Or.inl (hwi hw 27 rfl)) (by decide) (t := .array .int) (t' := .int) (by decide) (by decide)))
  replace F_blockStart_o := F_blockStart_o.other W (Or.inr (slot_ne (C := "com/example/procsh/procsh/service/Partition") (Or.inr (hwi hw 17 rfl)) (Or.inl (hwi hw 27 rfl)) (by decide) (t := .array .int) (t' := .int) (by decide) (by decide)))
  replace F_blockEnd_o := F_blockEnd_o.other W (Or.inr (slot_ne (C := "com/example/procsh/procsh/service/Partition") (Or.inr (hwi hw 19 rfl)) (Or.inl (hwi hw 27 rfl)) (by decide) (t := .array .int) (t' := .int) (by decide) (by decide)))
  replace F_markedEnd_o := F_markedEnd_o.other W (Or.inr (slot_ne (C := "com/example/procsh/procsh/service/Partition") (Or.inr (hwi hw 21 rfl)) (Or.inl (hwi hw 27 rfl)) (by decide) (t := .array .int) (t' := .int) (by decide) (by decide)))
  replace F_origin_o := F_origin_o.other W (Or.inr (slot_ne (C := "com/example/procsh/procsh/service/Partition") (Or.inr (hwi hw 23 rfl)) (Or.inl (hwi hw 27 rfl)) (by decide) (t := .array .int) (t' := .int) (by decide) (by decide)))
  replace F_touchedBlocks_o := F_touchedBlocks_o.other W (Or.inr (slot_ne (C := "com/example/procsh/procsh/service/Partition") (Or.inr (hwi hw 25 rfl)) (Or.inl (hwi hw 27 rfl)) (by decide) (t := .array .int) (t' := .int) (by decide) (by decide)))
  replace F_blocks_o := F_blocks_o.same W
  replace F_touched_o := F_touched_o.other W (Or.inr (slot_ne (C := "com/example/procsh/procsh/service/Partition") (Or.inl (hwi hw 41 rfl)) (Or.inl (hwi hw 27 rfl)) (by decide) (t := .int) (t' := .int) (by decide) (by decide)))
  replace A_p0 := A_p0.other W (by first | exact n_p0_o | exact Ne.symm n_o_p0 | omega)
  replace A_p1 := A_p1.other W (by first | exact n_p1_o | exact Ne.symm n_o_p1 | omega)
  replace A_p2 := A_p2.other W (by first | exact n_p2_o | exact Ne.symm n_o_p2 | omega)
  replace A_p3 := A_p3.other W (by first | exact n_p3_o | exact Ne.symm n_o_p3 | omega)
  replace A_p4 := A_p4.other W (by first | exact n_p4_o | exact Ne.symm n_o_p4 | omega)
  replace A_p5 := A_p5.other W (by first | exact n_p5_o | exact Ne.symm n_o_p5 | omega)
  replace A_p6 := A_p6.other W (by first | exact n_p6_o | exact Ne.symm n_o_p6 | omega)
  replace A_p7 := A_p7.other W (by first | exact n_p7_o | exact Ne.symm n_o_p7 | omega)
  clear W
  refine retv K S (by decide) (by decide) d1_99 ?_
  exact ⟨rfl, p0, p1, p2, p3, p4, p5, p6, p7, ⟨g_o, l_o_p0, l_p0_p1, l_p1_p2, l_p2_p3, l_p3_p4, l_p4_p5, l_p5_p6, l_p6_p7⟩, ⟨E_o, F_elements_o, F_positionOf_o, F_blockOf_o, F_blockStart_o, F_blockEnd_o, F_markedEnd_o, F_origin_o, F_touchedBlocks_o, F_blocks_o, F_touched_o, A_p0, A_p1, A_p2, A_p3, A_p4, A_p5, A_p6, A_p7⟩⟩

theorem okm_1 {L : PS} {q : Int32} (h : okmark' L q = true) : linb (row L 2) q = true ∧ linb (row L 1) q = true ∧ linb (row L 5) (lget (row L 2) q) = true := by
  simp only [okmark', Bool.and_eq_true] at h; exact ⟨h.1.1.1, h.1.1.2, h.1.2⟩
theorem okm_2 {L : PS} {q : Int32} (h : okmark' L q = true) (c : ¬ lget (row L 1) q < lget (row L 5) (lget (row L 2) q)) : okmark L q = true := by
  simp only [okmark', Bool.and_eq_true, Bool.or_eq_true, decide_eq_true_eq] at h; exact h.2.resolve_left c
theorem okm_3 {L : PS} {q : Int32} (h : okmark' L q = true) (c : ¬ lget (row L 1) q < lget (row L 5) (lget (row L 2) q)) : linb (row L 3) (lget (row L 2) q) = true := by
  have g := okm_2 h c; simp only [okmark, Bool.and_eq_true] at g; exact g.1.1.1.1.2
theorem okm_4 {L : PS} {q : Int32} (h : okmark' L q = true) (c : ¬ lget (row L 1) q < lget (row L 5) (lget (row L 2) q)) : linb (row L 7) L.2.2 = true := by
  have g := okm_2 h c; simp only [okmark, Bool.and_eq_true] at g; exact g.1.1.1.2
theorem okm_5 {L : PS} {q : Int32} (h : okmark' L q = true) (c : ¬ lget (row L 1) q < lget (row L 5) (lget (row L 2) q)) : linb (row L 0) (lget (row L 5) (lget (row L 2) q)) = true := by
  have g := okm_2 h c; simp only [okmark, Bool.and_eq_true] at g; exact g.1.1.2
theorem okm_6 {L : PS} {q : Int32} (h : okmark' L q = true) (c : ¬ lget (row L 1) q < lget (row L 5) (lget (row L 2) q)) : linb (row L 0) (lget (row L 1) q) = true := by
  have g := okm_2 h c; simp only [okmark, Bool.and_eq_true] at g; exact g.1.2
theorem okm_7 {L : PS} {q : Int32} (h : okmark' L q = true) (c : ¬ lget (row L 1) q < lget (row L 5) (lget (row L 2) q)) : linb (row L 1) (lget (row L 0) (lget (row L 5) (lget (row L 2) q))) = true := by
  have g := okm_2 h c; simp only [okmark, Bool.and_eq_true] at g; exact g.2
theorem d6_0 : Dc prog_68_method_9_code 0 (.aload_n 0) 1 1 := ⟨by decide +kernel, rfl⟩
theorem d6_1 : Dc prog_68_method_9_code 1 (.getfield 16) 3 4 := ⟨by decide +kernel, rfl⟩
theorem d6_4 : Dc prog_68_method_9_code 4 (.iload_n 1) 1 5 := ⟨by decide +kernel, rfl⟩
theorem d6_5 : Dc prog_68_method_9_code 5 (.iaload) 1 6 := ⟨by decide +kernel, rfl⟩
theorem d6_6 : Dc prog_68_method_9_code 6 (.istore_n 2) 1 7 := ⟨by decide +kernel, rfl⟩
theorem d6_7 : Dc prog_68_method_9_code 7 (.aload_n 0) 1 8 := ⟨by decide +kernel, rfl⟩
theorem d6_8 : Dc prog_68_method_9_code 8 (.getfield 13) 3 11 := ⟨by decide +kernel, rfl⟩
theorem d6_11 : Dc prog_68_method_9_code 11 (.iload_n 1) 1 12 := ⟨by decide +kernel, rfl⟩
theorem d6_12 : Dc prog_68_method_9_code 12 (.iaload) 1 13 := ⟨by decide +kernel, rfl⟩
theorem d6_13 : Dc prog_68_method_9_code 13 (.istore_n 3) 1 14 := ⟨by decide +kernel, rfl⟩
theorem d6_14 : Dc prog_68_method_9_code 14 (.aload_n 0) 1 15 := ⟨by decide +kernel, rfl⟩
theorem d6_15 : Dc prog_68_method_9_code 15 (.getfield 25) 3 18 := ⟨by decide +kernel, rfl⟩
theorem d6_18 : Dc prog_68_method_9_code 18 (.iload_n 2) 1 19 := ⟨by decide +kernel, rfl⟩
theorem d6_19 : Dc prog_68_method_9_code 19 (.iaload) 1 20 := ⟨by decide +kernel, rfl⟩
theorem d6_20 : Dc prog_68_method_9_code 20 (.istore 4) 2 22 := ⟨by decide +kernel, rfl⟩
theorem d6_22 : Dc prog_68_method_9_code 22 (.iload_n 3) 1 23 := ⟨by decide +kernel, rfl⟩
theorem d6_23 : Dc prog_68_method_9_code 23 (.iload 4) 2 25 := ⟨by decide +kernel, rfl⟩
theorem d6_25 : Bc prog_68_method_9_code 25 (.if_icmp .ge 4) (4) 28 29 := ⟨by decide +kernel, rfl, by decide, by decide⟩
theorem d6_28 : Dc prog_68_method_9_code 28 (.return_) 1 29 := ⟨by decide +kernel, rfl⟩
theorem d6_29 : Dc prog_68_method_9_code 29 (.iload 4) 2 31 := ⟨by decide +kernel, rfl⟩
theorem d6_31 : Dc prog_68_method_9_code 31 (.aload_n 0) 1 32 := ⟨by decide +kernel, rfl⟩
theorem d6_32 : Dc prog_68_method_9_code 32 (.getfield 19) 3 35 := ⟨by decide +kernel, rfl⟩
theorem d6_35 : Dc prog_68_method_9_code 35 (.iload_n 2) 1 36 := ⟨by decide +kernel, rfl⟩
theorem d6_36 : Dc prog_68_method_9_code 36 (.iaload) 1 37 := ⟨by decide +kernel, rfl⟩
theorem d6_37 : Bc prog_68_method_9_code 37 (.if_icmp .ne 20) (20) 40 57 := ⟨by decide +kernel, rfl, by decide, by decide⟩
theorem d6_40 : Dc prog_68_method_9_code 40 (.aload_n 0) 1 41 := ⟨by decide +kernel, rfl⟩
theorem d6_41 : Dc prog_68_method_9_code 41 (.getfield 31) 3 44 := ⟨by decide +kernel, rfl⟩
theorem d6_44 : Dc prog_68_method_9_code 44 (.aload_n 0) 1 45 := ⟨by decide +kernel, rfl⟩
theorem d6_45 : Dc prog_68_method_9_code 45 (.dup) 1 46 := ⟨by decide +kernel, rfl⟩
theorem d6_46 : Dc prog_68_method_9_code 46 (.getfield 38) 3 49 := ⟨by decide +kernel, rfl⟩
theorem d6_49 : Dc prog_68_method_9_code 49 (.dup_x1) 1 50 := ⟨by decide +kernel, rfl⟩
theorem d6_50 : Dc prog_68_method_9_code 50 (.iconst 1) 1 51 := ⟨by decide +kernel, rfl⟩
theorem d6_51 : Dc prog_68_method_9_code 51 (.iadd) 1 52 := ⟨by decide +kernel, rfl⟩
theorem d6_52 : Dc prog_68_method_9_code 52 (.putfield 38) 3 55 := ⟨by decide +kernel, rfl⟩
theorem d6_55 : Dc prog_68_method_9_code 55 (.iload_n 2) 1 56 := ⟨by decide +kernel, rfl⟩
theorem d6_56 : Dc prog_68_method_9_code 56 (.iastore) 1 57 := ⟨by decide +kernel, rfl⟩
theorem d6_57 : Dc prog_68_method_9_code 57 (.aload_n 0) 1 58 := ⟨by decide +kernel, rfl⟩
theorem d6_58 : Dc prog_68_method_9_code 58 (.getfield 7) 3 61 := ⟨by decide +kernel, rfl⟩
theorem d6_61 : Dc prog_68_method_9_code 61 (.iload 4) 2 63 := ⟨by decide +kernel, rfl⟩
theorem d6_63 : Dc prog_68_method_9_code 63 (.iaload) 1 64 := ⟨by decide +kernel, rfl⟩
theorem d6_64 : Dc prog_68_method_9_code 64 (.istore 5) 2 66 := ⟨by decide +kernel, rfl⟩
theorem d6_66 : Dc prog_68_method_9_code 66 (.aload_n 0) 1 67 := ⟨by decide +kernel, rfl⟩
theorem d6_67 : Dc prog_68_method_9_code 67 (.getfield 7) 3 70 := ⟨by decide +kernel, rfl⟩
theorem d6_70 : Dc prog_68_method_9_code 70 (.iload_n 3) 1 71 := ⟨by decide +kernel, rfl⟩
theorem d6_71 : Dc prog_68_method_9_code 71 (.iload 5) 2 73 := ⟨by decide +kernel, rfl⟩
theorem d6_73 : Dc prog_68_method_9_code 73 (.iastore) 1 74 := ⟨by decide +kernel, rfl⟩
theorem d6_74 : Dc prog_68_method_9_code 74 (.aload_n 0) 1 75 := ⟨by decide +kernel, rfl⟩
theorem d6_75 : Dc prog_68_method_9_code 75 (.getfield 13) 3 78 := ⟨by decide +kernel, rfl⟩
theorem d6_78 : Dc prog_68_method_9_code 78 (.iload 5) 2 80 := ⟨by decide +kernel, rfl⟩
theorem d6_80 : Dc prog_68_method_9_code 80 (.iload_n 3) 1 81 := ⟨by decide +kernel, rfl⟩
theorem d6_81 : Dc prog_68_method_9_code 81 (.iastore) 1 82 := ⟨by decide +kernel, rfl⟩
theorem d6_82 : Dc prog_68_method_9_code 82 (.aload_n 0) 1 83 := ⟨by decide +kernel, rfl⟩
theorem d6_83 : Dc prog_68_method_9_code 83 (.getfield 7) 3 86 := ⟨by decide +kernel, rfl⟩
theorem d6_86 : Dc prog_68_method_9_code 86 (.iload 4) 2 88 := ⟨by decide +kernel, rfl⟩
theorem d6_88 : Dc prog_68_method_9_code 88 (.iload_n 1) 1 89 := ⟨by decide +kernel, rfl⟩
theorem d6_89 : Dc prog_68_method_9_code 89 (.iastore) 1 90 := ⟨by decide +kernel, rfl⟩
theorem d6_90 : Dc prog_68_method_9_code 90 (.aload_n 0) 1 91 := ⟨by decide +kernel, rfl⟩
theorem d6_91 : Dc prog_68_method_9_code 91 (.getfield 13) 3 94 := ⟨by decide +kernel, rfl⟩
theorem d6_94 : Dc prog_68_method_9_code 94 (.iload_n 1) 1 95 := ⟨by decide +kernel, rfl⟩
theorem d6_95 : Dc prog_68_method_9_code 95 (.iload 4) 2 97 := ⟨by decide +kernel, rfl⟩
theorem d6_97 : Dc prog_68_method_9_code 97 (.iastore) 1 98 := ⟨by decide +kernel, rfl⟩
theorem d6_98 : Dc prog_68_method_9_code 98 (.aload_n 0) 1 99 := ⟨by decide +kernel, rfl⟩
theorem d6_99 : Dc prog_68_method_9_code 99 (.getfield 25) 3 102 := ⟨by decide +kernel, rfl⟩
theorem d6_102 : Dc prog_68_method_9_code 102 (.iload_n 2) 1 103 := ⟨by decide +kernel, rfl⟩
theorem d6_103 : Dc prog_68_method_9_code 103 (.iload 4) 2 105 := ⟨by decide +kernel, rfl⟩
theorem d6_105 : Dc prog_68_method_9_code 105 (.iconst 1) 1 106 := ⟨by decide +kernel, rfl⟩
theorem d6_106 : Dc prog_68_method_9_code 106 (.iadd) 1 107 := ⟨by decide +kernel, rfl⟩
theorem d6_107 : Dc prog_68_method_9_code 107 (.iastore) 1 108 := ⟨by decide +kernel, rfl⟩
theorem d6_108 : Dc prog_68_method_9_code 108 (.return_) 1 109 := ⟨by decide +kernel, rfl⟩
theorem ef_mark (m : MethodId) (o : Addr) (p0 : Addr) (p1 : Addr) (p2 : Addr) (p3 : Addr) (p4 : Addr) (p5 : Addr) (p6 : Addr) (p7 : Addr) (q : Int32) (L : PS) : entryFrame m #[.ref o, .int q] 6 = mkF m 0 #[.val (.ref o), .val (.int q), .unset, .unset, .unset, .unset] [] := by first | (simp [entryFrame, mkF, argsToLocals, Value.category]; done) | rfl
set_option maxRecDepth 65536 in
set_option maxHeartbeats 40000000 in
theorem m_mark (l : Launch) (Z : State) (a0 : Array Value) (hw : ∀ d ∈ tables_1, d.before a0 Z = true) (n0 : Nat) (o : Addr) (p0 : Addr) (p1 : Addr) (p2 : Addr) (p3 : Addr) (p4 : Addr) (p5 : Addr) (p6 : Addr) (p7 : Addr) (q : Int32) (L : PS) (h : Heap) (hn : n0 ≤ h.size) (D : AD n0 o p0 p1 p2 p3 p4 p5 p6 p7) (H : PK Z h o p0 p1 p2 p3 p4 p5 p6 p7 L) (ok : okmark' L q = true) : Met n0 l Z (⟨"com/example/procsh/procsh/service/Partition", "mark", "(I)V"⟩ : MethodName) prog_68_method_9_code 6 none ({ frames := 0, cells := 0, slots := 0, locals := 0 } : Room) [] #[.ref o, .int q] h (Ef none (fun h' => PK Z h' o p0 p1 p2 p3 p4 p5 p6 p7 (fmark L q))) := by
  refine enter (plainFor_of_name (by first | (simp [plainName, overriddenIn]; done) | decide +kernel)) (fun m => ef_mark m o p0 p1 p2 p3 p4 p5 p6 p7 q L) hn ?_
  intro p e s m below meth c T K S
  obtain ⟨g_o, w0, w1, w2, w3, w4, w5, w6, w7⟩ := D
  obtain ⟨E_o, F_elements_o, F_positionOf_o, F_blockOf_o, F_blockStart_o, F_blockEnd_o, F_markedEnd_o, F_origin_o, F_touchedBlocks_o, F_blocks_o, F_touched_o, A_p0, A_p1, A_p2, A_p3, A_p4, A_p5, A_p6, A_p7⟩ := H
  have g_p0 : n0 ≤ p0 := by omega
  have g_p1 : n0 ≤ p1 := by omega
  have g_p2 : n0 ≤ p2 := by omega
  have g_p3 : n0 ≤ p3 := by omega
  have g_p4 : n0 ≤ p4 := by omega
  have g_p5 : n0 ≤ p5 := by omega
  have g_p6 : n0 ≤ p6 := by omega
  have g_p7 : n0 ≤ p7 := by omega
  have n_o_p0 : o ≠ p0 := Nat.ne_of_lt (by omega)
  have n_o_p1 : o ≠ p1 := Nat.ne_of_lt (by omega)
  have n_o_p2 : o ≠ p2 := Nat.ne_of_lt (by omega)
  have n_o_p3 : o ≠ p3 := Nat.ne_of_lt (by omega)
  have n_o_p4 : o ≠ p4 := Nat.ne_of_lt (by omega)
  have n_o_p5 : o ≠ p5 := Nat.ne_of_lt (by omega)
  have n_o_p6 : o ≠ p6 := Nat.ne_of_lt (by omega)
  have n_o_p7 : o ≠ p7 := Nat.ne_of_lt (by omega)
  have n_p0_p1 : p0 ≠ p1 := Nat.ne_of_lt (by omega)
  have n_p0_p2 : p0 ≠ p2 := Nat.ne_of_lt (by omega)
  have n_p0_p3 : p0 ≠ p3 := Nat.ne_of_lt (by omega)
  have n_p0_p4 : p0 ≠ p4 := Nat.ne_of_lt (by omega)
  have n_p0_p5 : p0 ≠ p5 := Nat.ne_of_lt (by omega)
  have n_p0_p6 : p0 ≠ p6 := Nat.ne_of_lt (by omega)
  have n_p0_p7 : p0 ≠ p7 := Nat.ne_of_lt (by omega)
  have n_p1_p2 : p1 ≠ p2 := Nat.ne_of_lt (by omega)
  have n_p1_p3 : p1 ≠ p3 := Nat.ne_of_lt (by omega)
  have n_p1_p4 : p1 ≠ p4 := Nat.ne_of_lt (by omega)
  have n_p1_p5 : p1 ≠ p5 := Nat.ne_of_lt (by omega)
  have n_p1_p6 : p1 ≠ p6 := Nat.ne_of_lt (by omega)
  have n_p1_p7 : p1 ≠ p7 := Nat.ne_of_lt (by omega)
  have n_p2_p3 : p2 ≠ p3 := Nat.ne_of_lt (by omega)
  have n_p2_p4 : p2 ≠ p4 := Nat.ne_of_lt (by omega)
  have n_p2_p5 : p2 ≠ p5 := Nat.ne_of_lt (by omega)
  have n_p2_p6 : p2 ≠ p6 := Nat.ne_of_lt (by omega)
  have n_p2_p7 : p2 ≠ p7 := Nat.ne_of_lt (by omega)
  have n_p3_p4 : p3 ≠ p4 := Nat.ne_of_lt (by omega)
  have n_p3_p5 : p3 ≠ p5 := Nat.ne_of_lt (by omega)
  have n_p3_p6 : p3 ≠ p6 := Nat.ne_of_lt (by omega)
  have n_p3_p7 : p3 ≠ p7 := Nat.ne_of_lt (by omega)
  have n_p4_p5 : p4 ≠ p5 := Nat.ne_of_lt (by omega)
  have n_p4_p6 : p4 ≠ p6 := Nat.ne_of_lt (by omega)
  have n_p4_p7 : p4 ≠ p7 := Nat.ne_of_lt (by omega)
  have n_p5_p6 : p5 ≠ p6 := Nat.ne_of_lt (by omega)
  have n_p5_p7 : p5 ≠ p7 := Nat.ne_of_lt (by omega)
  have n_p6_p7 : p6 ≠ p7 := Nat.ne_of_lt (by omega)
  obtain ⟨ok1, ok2, ok3⟩ := okm_1 ok
  refine aload_n K S rfl rfl d6_0 ?_
  refine getf K S (hwi hw 14 rfl) F_blockOf_o d6_1 fun T S => ?_
  refine iload_n K S rfl d6_4 ?_
  refine iaload K S (v := .int (lget (row L 2) q)) (i := q.toNatClampNeg) A_p2 (linb_ix (show linb (row L 2) q = true from ok1)) (linb_get (show linb (row L 2) q = true from ok1)) d6_5 ?_
  refine istore_n K S (l' := #[.val (.ref o), .val (.int q), .val (.int (lget (row L 2) q)), .unset, .unset, .unset]) rfl d6_6 ?_
  refine aload_n K S rfl rfl d6_7 ?_
  refine getf K S (hwi hw 12 rfl) F_positionOf_o d6_8 fun T S => ?_
  refine iload_n K S rfl d6_11 ?_
  refine iaload K S (v := .int (lget (row L 1) q)) (i := q.toNatClampNeg) A_p1 (linb_ix (show linb (row L 1) q = true from ok2)) (linb_get (show linb (row L 1) q = true from ok2)) d6_12 ?_
  refine istore_n K S (l' := #[.val (.ref o), .val (.int q), .val (.int (lget (row L 2) q)), .val (.int (lget (row L 1) q)), .unset, .unset]) rfl d6_13 ?_
  refine aload_n K S rfl rfl d6_14 ?_
  refine getf K S (hwi hw 20 rfl) F_markedEnd_o d6_15 fun T S => ?_
  refine iload_n K S rfl d6_18 ?_
  refine iaload K S (v := .int (lget (row L 5) (lget (row L 2) q))) (i := (lget (row L 2) q).toNatClampNeg) A_p5 (linb_ix (show linb (row L 5) (lget (row L 2) q) = true from ok3)) (linb_get (show linb (row L 5) (lget (row L 2) q) = true from ok3)) d6_19 ?_
  refine istore K S (l' := #[.val (.ref o), .val (.int q), .val (.int (lget (row L 2) q)), .val (.int (lget (row L 1) q)), .val (.int (lget (row L 5) (lget (row L 2) q))), .unset]) rfl d6_20 ?_
  refine iload_n K S rfl d6_22 ?_
  refine iload K S rfl d6_23 ?_
  refine icmp_ge K S d6_25 (fun c25 => ?_) (fun c25 => ?_)
  · refine iload K S rfl d6_29 ?_
    refine aload_n K S rfl rfl d6_31 ?_
    refine getf K S (hwi hw 16 rfl) F_blockStart_o d6_32 fun T S => ?_
    refine iload_n K S rfl d6_35 ?_
    refine iaload K S (v := .int (lget (row L 3) (lget (row L 2) q))) (i := (lget (row L 2) q).toNatClampNeg) A_p3 (linb_ix (show linb (row L 3) (lget (row L 2) q) = true from (okm_3 ok c25))) (linb_get (show linb (row L 3) (lget (row L 2) q) = true from (okm_3 ok c25))) d6_36 ?_
    refine icmp_ne K S d6_37 (fun c37 => ?_) (fun c37 => ?_)
    · refine aload_n K S rfl rfl d6_57 ?_
      refine getf K S (hwi hw 10 rfl) F_elements_o d6_58 fun T S => ?_
      refine iload K S rfl d6_61 ?_
      refine iaload K S (v := .int (lget (row L 0) (lget (row L 5) (lget (row L 2) q)))) (i := (lget (row L 5) (lget (row L 2) q)).toNatClampNeg) A_p0 (linb_ix (show linb (row L 0) (lget (row L 5) (lget (row L 2) q)) = true from (okm_5 ok c25))) (linb_get (show linb (row L 0) (lget (row L 5) (lget (row L 2) q)) = true from (okm_5 ok c25))) d6_63 ?_
      refine istore K S (l' := #[.val (.ref o), .val (.int q), .val (.int (lget (row L 2) q)), .val (.int (lget (row L 1) q)), .val (.int (lget (row L 5) (lget (row L 2) q))), .val (.int (lget (row L 0) (lget (row L 5) (lget (row L 2) q))))]) rfl d6_64 ?_
      refine aload_n K S rfl rfl d6_66 ?_
      refine getf K S (hwi hw 10 rfl) F_elements_o d6_67 fun T S => ?_
      refine iload_n K S rfl d6_70 ?_
      refine iload K S rfl d6_71 ?_
      refine iastore K S (i := (lget (row L 1) q).toNatClampNeg) A_p0 (linb_ix (show linb (row L 0) (lget (row L 1) q) = true from (okm_6 ok c25))) (linb_ml (show linb (row L 0) (lget (row L 1) q) = true from (okm_6 ok c25))) g_p0 d6_73 fun T h73_1 W B S => ?_
      replace E_o := E_o.wr W
      replace F_elements_o := F_elements_o.other W (Or.inl (by first | exact n_o_p0 | exact Ne.symm n_p0_o | omega))
      replace F_positionOf_o := F_positionOf_o.other W (Or.inl (by first | exact n_o_p0 | exact Ne.symm n_p0_o | omega))
      replace A_p1 := A_p1.other W (by first | exact n_p1_p0 | exact Ne.symm n_p0_p1 | omega)
      replace F_blockOf_o := F_blockOf_o.other W (Or.inl (by first | exact n_o_p0 | exact Ne.symm n_p0_o | omega))
      replace A_p2 := A_p2.other W (by first | exact n_p2_p0 | exact Ne.symm n_p0_p2 | omega)
      replace F_blockStart_o := F_blockStart_o.other W (Or.inl (by first | exact n_o_p0 | exact Ne.symm n_p0_o | omega))
      replace A_p3 := A_p3.other W (by first | exact n_p3_p0 | exact Ne.symm n_p0_p3 | omega)
      replace F_blockEnd_o := F_blockEnd_o.other W (Or.inl (by first | exact n_o_p0 | exact Ne.symm n_p0_o | omega))
      replace A_p4 := A_p4.other W (by first | exact n_p4_p0 | exact Ne.symm n_p0_p4 | omega)
      replace F_markedEnd_o := F_markedEnd_o.other W (Or.inl (by first | exact n_o_p0 | exact Ne.symm n_p0_o | omega))
      replace A_p5 := A_p5.other W (by first | exact n_p5_p0 | exact Ne.symm n_p0_p5 | omega)
      replace F_origin_o := F_origin_o.other W (Or.inl (by first | exact n_o_p0 | exact Ne.symm n_p0_o | omega))
      replace A_p6 := A_p6.other W (by first | exact n_p6_p0 | exact Ne.symm n_p0_p6 | omega)
      replace F_touchedBlocks_o := F_touchedBlocks_o.other W (Or.inl (by first | exact n_o_p0 | exact Ne.symm n_p0_o | omega))
      replace A_p7 := A_p7.other W (by first | exact n_p7_p0 | exact Ne.symm n_p0_p7 | omega)
      replace F_blocks_o := F_blocks_o.other W (Or.inl (by first | exact n_o_p0 | exact Ne.symm n_p0_o | omega))
      replace F_touched_o := F_touched_o.other W (Or.inl (by first | exact n_o_p0 | exact Ne.symm n_p0_o | omega))
      clear W
      replace A_p0 : VA Z h73_1 p0 .int ((lset (row L 0) (lget (row L 1) q) (lget (row L 0) (lget (row L 5) (lget (row L 2) q)))).map Value.int) := (by rw [lset_map]; exact B)
      refine aload_n K S rfl rfl d6_74 ?_
      refine getf K S (hwi hw 12 rfl) F_positionOf_o d6_75 fun T S => ?_
      refine iload K S rfl d6_78 ?_
      refine iload_n K S rfl d6_80 ?_
      refine iastore K S (i := (lget (row L 0) (lget (row L 5) (lget (row L 2) q))).toNatClampNeg) A_p1 (linb_ix (show linb (row L 1) (lget (row L 0) (lget (row L 5) (lget (row L 2) q))) = true from (okm_7 ok c25))) (linb_ml (show linb (row L 1) (lget (row L 0) (lget (row L 5) (lget (row L 2) q))) = true from (okm_7 ok c25))) g_p1 d6_81 fun T h81_2 W B S => ?_
      replace E_o := E_o.wr W
      replace F_elements_o := F_elements_o.other W (Or.inl (by first | exact n_o_p1 | exact Ne.symm n_p1_o | omega))
      replace A_p0 := A_p0.other W (by first | exact n_p0_p1 | exact Ne.symm n_p1_p0 | omega)
      replace F_positionOf_o := F_positionOf_o.other W (Or.inl (by first | exact n_o_p1 | exact Ne.symm n_p1_o | omega))
      replace F_blockOf_o := F_blockOf_o.other W (Or.inl (by first | exact n_o_p1 | exact Ne.symm n_p1_o | omega))
      replace A_p2 := A_p2.other W (by first | exact n_p2_p1 | exact Ne.symm n_p1_p2 | omega)
      replace F_blockStart_o := F_blockStart_o.other W (Or.inl (by first | exact n_o_p1 | exact Ne.symm n_p1_o | omega))
      replace A_p3 := A_p3.other W (by first | exact n_p3_p1 | exact Ne.symm n_p1_p3 | omega)
      replace F_blockEnd_o := F_blockEnd_o.other W (Or.inl (by first | exact n_o_p1 | exact Ne.symm n_p1_o | omega))
      replace A_p4 := A_p4.other W (by first | exact n_p4_p1 | exact Ne.symm n_p1_p4 | omega)
      replace F_markedEnd_o := F_markedEnd_o.other W (Or.inl (by first | exact n_o_p1 | exact Ne.symm n_p1_o | omega))
      replace A_p5 := A_p5.other W (by first | exact n_p5_p1 | exact Ne.symm n_p1_p5 | omega)
      replace F_origin_o := F_origin_o.other W (Or.inl (by first | exact n_o_p1 | exact Ne.symm n_p1_o | omega))
      replace A_p6 := A_p6.other W (by first | exact n_p6_p1 | exact Ne.symm n_p1_p6 | omega)
      replace F_touchedBlocks_o := F_touchedBlocks_o.other W (Or.inl (by first | exact n_o_p1 | exact Ne.symm n_p1_o | omega))
      replace A_p7 := A_p7.other W (by first | exact n_p7_p1 | exact Ne.symm n_p1_p7 | omega)
      replace F_blocks_o := F_blocks_o.other W (Or.inl (by first | exact n_o_p1 | exact Ne.symm n_p1_o | omega))
      replace F_touched_o := F_touched_o.other W (Or.inl (by first | exact n_o_p1 | exact Ne.symm n_p1_o | omega))
      clear W
      replace A_p1 : VA Z h81_2 p1 .int ((lset (row L 1) (lget (row L 0) (lget (row L 5) (lget (row L 2) q))) (lget (row L 1) q)).map Value.int) := (by rw [lset_map]; exact B)
      refine aload_n K S rfl rfl d6_82 ?_
      refine getf K S (hwi hw 10 rfl) F_elements_o d6_83 fun T S => ?_
      refine iload K S rfl d6_86 ?_
      refine iload_n K S rfl d6_88 ?_
      refine iastore K S (i := (lget (row L 5) (lget (row L 2) q)).toNatClampNeg) A_p0 (linb_ix (show linb (lset (row L 0) (lget (row L 1) q) (lget (row L 0) (lget (row L 5) (lget (row L 2) q)))) (lget (row L 5) (lget (row L 2) q)) = true from (linb_set (okm_5 ok c25)))) (linb_ml (show linb (lset (row L 0) (lget (row L 1) q) (lget (row L 0) (lget (row L 5) (lget (row L 2) q)))) (lget (row L 5) (lget (row L 2) q)) = true from (linb_set (okm_5 ok c25)))) g_p0 d6_89 fun T h89_3 W B S => ?_
      replace E_o := E_o.wr W
      replace F_elements_o := F_elements_o.other W (Or.inl (by first | exact n_o_p0 | exact Ne.symm n_p0_o | omega))
      replace F_positionOf_o := F_positionOf_o.other W (Or.inl (by first | exact n_o_p0 | exact Ne.symm n_p0_o | omega))
      replace A_p1 := A_p1.other W (by first | exact n_p1_p0 | exact Ne.symm n_p0_p1 | omega)
      replace F_blockOf_o := F_blockOf_o.other W (Or.inl (by first | exact n_o_p0 | exact Ne.symm n_p0_o | omega))
      replace A_p2 := A_p2.other W (by first | exact n_p2_p0 | exact Ne.symm n_p0_p2 | omega)
      replace F_blockStart_o := F_blockStart_o.other W (Or.inl (by first | exact n_o_p0 | exact Ne.symm n_p0_o | omega))
      replace A_p3 := A_p3.other W (by first | exact n_p3_p0 | exact Ne.symm n_p0_p3 | omega)
      replace F_blockEnd_o := F_blockEnd_o.other W (Or.inl (by first | exact n_o_p0 | exact Ne.symm n_p0_o | omega))
      replace A_p4 := A_p4.other W (by first | exact n_p4_p0 | exact Ne.symm n_p0_p4 | omega)
      replace F_markedEnd_o := F_markedEnd_o.other W (Or.inl (by first | exact n_o_p0 | exact Ne.symm n_p0_o | omega))
      replace A_p5 := A_p5.other W (by first | exact n_p5_p0 | exact Ne.symm n_p0_p5 | omega)
      replace F_origin_o := F_origin_o.other W (Or.inl (by first | exact n_o_p0 | exact Ne.symm n_p0_o | omega))
      replace A_p6 := A_p6.other W (by first | exact n_p6_p0 | exact Ne.symm n_p0_p6 | omega)
      replace F_touchedBlocks_o := F_touchedBlocks_o.other W (Or.inl (by first | exact n_o_p0 | exact Ne.symm n_p0_o | omega))
      replace A_p7 := A_p7.other W (by first | exact n_p7_p0 | exact Ne.symm n_p0_p7 | omega)
      replace F_blocks_o := F_blocks_o.other W (Or.inl (by first | exact n_o_p0 | exact Ne.symm n_p0_o | omega))
      replace F_touched_o := F_touched_o.other W (Or.inl (by first | exact n_o_p0 | exact Ne.symm n_p0_o | omega))
      clear W
      replace A_p0 : VA Z h89_3 p0 .int ((lset (lset (row L 0) (lget (row L 1) q) (lget (row L 0) (lget (row L 5) (lget (row L 2) q)))) (lget (row L 5) (lget (row L 2) q)) q).map Value.int) := (by rw [lset_map]; exact B)
      refine aload_n K S rfl rfl d6_90 ?_
      refine getf K S (hwi hw 12 rfl) F_positionOf_o d6_91 fun T S => ?_
      refine iload_n K S rfl d6_94 ?_
      refine iload K S rfl d6_95 ?_
      refine iastore K S (i := q.toNatClampNeg) A_p1 (linb_ix (show linb (lset (row L 1) (lget (row L 0) (lget (row L 5) (lget (row L 2) q))) (lget (row L 1) q)) q = true from (linb_set ok2))) (linb_ml (show linb (lset (row L 1) (lget (row L 0) (lget (row L 5) (lget (row L 2) q))) (lget (row L 1) q)) q = true from (linb_set ok2))) g_p1 d6_97 fun T h97_4 W B S => ?_
      replace E_o := E_o.wr W
      replace F_elements_o := F_elements_o.other W (Or.inl (by first | exact n_o_p1 | exact Ne.symm n_p1_o | omega))
      replace A_p0 := A_p0.other W (by first | exact n_p0_p1 | exact Ne.symm n_p1_p0 | omega)
      replace F_positionOf_o := F_positionOf_o.other W (Or.inl (by first | exact n_o_p1 | exact Ne.symm n_p1_o | omega))
      replace F_blockOf_o := F_blockOf_o.other W (Or.inl (by first | exact n_o_p1 | exact Ne.symm n_p1_o | omega))
      replace A_p2 := A_p2.other W (by first | exact n_p2_p1 | exact Ne.symm n_p1_p2 | omega)
      replace F_blockStart_o := F_blockStart_o.other W (Or.inl (by first | exact n_o_p1 | exact Ne.symm n_p1_o | omega))
      replace A_p3 := A_p3.other W (by first | exact n_p3_p1 | exact Ne.symm n_p1_p3 | omega)
      replace F_blockEnd_o := F_blockEnd_o.other W (Or.inl (by first | exact n_o_p1 | exact Ne.symm n_p1_o | omega))
      replace A_p4 := A_p4.other W (by first | exact n_p4_p1 | exact Ne.symm n_p1_p4 | omega)
      replace F_markedEnd_o := F_markedEnd_o.other W (Or.inl (by first | exact n_o_p1 | exact Ne.symm n_p1_o | omega))
      replace A_p5 := A_p5.other W (by first | exact n_p5_p1 | exact Ne.symm n_p1_p5 | omega)
      replace F_origin_o := F_origin_o.other W (Or.inl (by first | exact n_o_p1 | exact Ne.symm n_p1_o | omega))
      replace A_p6 := A_p6.other W (by first | exact n_p6_p1 | exact Ne.symm n_p1_p6 | omega)
      replace F_touchedBlocks_o := F_touchedBlocks_o.other W (Or.inl (by first | exact n_o_p1 | exact Ne.symm n_p1_o | omega))
      replace A_p7 := A_p7.other W (by first | exact n_p7_p1 | exact Ne.symm n_p1_p7 | omega)
      replace F_blocks_o := F_blocks_o.other W (Or.inl (by first | exact n_o_p1 | exact Ne.symm n_p1_o | omega))
      replace F_touched_o := F_touched_o.other W (Or.inl (by first | exact n_o_p1 | exact Ne.symm n_p1_o | omega))
      clear W
      replace A_p1 : VA Z h97_4 p1 .int ((lset (lset (row L 1) (lget (row L 0) (lget (row L 5) (lget (row L 2) q))) (lget (row L 1) q)) q (lget (row L 5) (lget (row L 2) q))).map Value.int) := (by rw [lset_map]; exact B)
      refine aload_n K S rfl rfl d6_98 ?_
      refine getf K S (hwi hw 20 rfl) F_markedEnd_o d6_99 fun T S => ?_
      refine iload_n K S rfl d6_102 ?_
      refine iload K S rfl d6_103 ?_
      refine iconst K S (x := (1 : Int32)) rfl d6_105 ?_
      refine iadd K S d6_106 ?_
      refine iastore K S (i := (lget (row L 2) q).toNatClampNeg) A_p5 (linb_ix (show linb (row L 5) (lget (row L 2) q) = true from ok3)) (linb_ml (show linb (row L 5) (lget (row L 2) q) = true from ok3)) g_p5 d6_107 fun T h107_5 W B S => ?_
      replace E_o := E_o.wr W
      replace F_elements_o := F_elements_o.other W (Or.inl (by first | exact n_o_p5 | exact Ne.symm n_p5_o | omega))
      replace A_p0 := A_p0.other W (by first | exact n_p0_p5 | exact Ne.symm n_p5_p0 | omega)
      replace F_positionOf_o := F_positionOf_o.other W (Or.inl (by first | exact n_o_p5 | exact Ne.symm n_p5_o | omega))
      replace A_p1 := A_p1.other W (by first | exact n_p1_p5 | exact Ne.symm n_p5_p1 | omega)
      replace F_blockOf_o := F_blockOf_o.other W (Or.inl (by first | exact n_o_p5 | exact Ne.symm n_p5_o | omega))
      replace A_p2 := A_p2.other W (by first | exact n_p2_p5 | exact Ne.symm n_p5_p2 | omega)
      replace F_blockStart_o := F_blockStart_o.other W (Or.inl (by first | exact n_o_p5 | exact Ne.symm n_p5_o | omega))
      replace A_p3 := A_p3.other W (by first | exact n_p3_p5 | exact Ne.symm n_p5_p3 | omega)
      replace F_blockEnd_o := F_blockEnd_o.other W (Or.inl (by first | exact n_o_p5 | exact Ne.symm n_p5_o | omega))
      replace A_p4 := A_p4.other W (by first | exact n_p4_p5 | exact Ne.symm n_p5_p4 | omega)
      replace F_markedEnd_o := F_markedEnd_o.other W (Or.inl (by first | exact n_o_p5 | exact Ne.symm n_p5_o | omega))
      replace F_origin_o := F_origin_o.other W (Or.inl (by first | exact n_o_p5 | exact Ne.symm n_p5_o | omega))
      replace A_p6 := A_p6.other W (by first | exact n_p6_p5 | exact Ne.symm n_p5_p6 | omega)
      replace F_touchedBlocks_o := F_touchedBlocks_o.other W (Or.inl (by first | exact n_o_p5 | exact Ne.symm n_p5_o | omega))
      replace A_p7 := A_p7.other W (by first | exact n_p7_p5 | exact Ne.symm n_p5_p7 | omega)
      replace F_blocks_o := F_blocks_o.other W (Or.inl (by first | exact n_o_p5 | exact Ne.symm n_p5_o | omega))
      replace F_touched_o := F_touched_o.other W (Or.inl (by first | exact n_o_p5 | exact Ne.symm n_p5_o | omega))
      clear W
      replace A_p5 : VA Z h107_5 p5 .int ((lset (row L 5) (lget (row L 2) q) ((lget (row L 5) (lget (row L 2) q)) + (1 : Int32))).map Value.int) := (by rw [lset_map]; exact B)
      refine retv K S (by decide) (by decide) d6_108 ?_
      exact ⟨rfl, by rw [fmark, if_neg c25, if_neg c37]; exact ⟨E_o, F_elements_o, F_positionOf_o, F_blockOf_o, F_blockStart_o, F_blockEnd_o, F_markedEnd_o, F_origin_o, F_touchedBlocks_o, F_blocks_o, F_touched_o, A_p0, A_p1, A_p2, A_p3, A_p4, A_p5, A_p6, A_p7⟩⟩
    refine aload_n K S rfl rfl d6_40 ?_
    refine getf K S (hwi hw 24 rfl) F_touchedBlocks_o d6_41 fun T S => ?_
    refine aload_n K S rfl rfl d6_44 ?_
    refine dup K S rfl d6_45 ?_
    refine getf K S (hwi hw 40 rfl) F_touched_o d6_46 fun T S => ?_
    refine dup_x1 K S rfl rfl d6_49 ?_
    refine iconst K S (x := (1 : Int32)) rfl d6_50 ?_
    refine iadd K S d6_51 ?_
    refine putf K S (hwi hw 40 rfl) F_touched_o E_o (Or.inl (hwi hw 41 rfl)) (hwi hw 1 rfl) (ty := .int) (by decide) rfl rfl g_o d6_52 fun T h52_6 W S => ?_
    replace E_o := E_o.wr W
    replace F_elements_o := F_elements_o.other W (Or.inr (slot_ne (C := "com/example/procsh/procsh/service/Partition") (Or.inr (hwi hw 11 rfl)) (Or.inl (hwi hw 41 rfl)) (by decide) (t := .array .int) (t' := .int) (by decide) (by decide)))
    replace A_p0 := A_p0.other W (by first | exact n_p0_o | exact Ne.symm n_o_p0 | omega)
    replace F_positionOf_o := F_positionOf_o.other W (Or.inr (slot_ne (C := "com/example/procsh/procsh/service/Partition") (Or.inr (hwi hw 13 rfl)) (Or.inl (hwi hw 41 rfl)) (by decide) (t := .array .int) (t' := .int) (by decide) (by decide)))
    replace A_p1 := A_p1.other W (by first | exact n_p1_o | exact Ne.symm n_o_p1 | omega)
    replace F_blockOf_o := F_blockOf_o.other W (Or.inr (slot_ne (C := "com/example/procsh/procsh/service/Partition") (Or.inr (hwi hw 15 rfl)) (Or.inl (hwi hw 41 rfl)) (by decide) (t := .array .int) (t' := .int) (by decide) (by decide)))
    replace A_p2 := A_p2.other W (by first | exact n_p2_o | exact Ne.symm n_o_p2 | omega)
    replace F_blockStart_o := F_blockStart_o.other W (Or.inr (slot_ne (C := "com/example/procsh/procsh/service/Partition") (Or.inr (hwi hw 17 rfl)) (Or.inl (hwi hw 41 rfl)) (by decide) (t := .array .int) (t' := .int) (by decide) (by decide)))
    replace A_p3 := A_p3.other W (by first | exact n_p3_o | exact Ne.symm n_o_p3 | omega)
    replace F_blockEnd_o := F_blockEnd_o.other W (Or.inr (slot_ne (C := "com/example/procsh/procsh/service/Partition") (Or.inr (hwi hw 19 rfl)) (Or.inl (hwi hw 41 rfl)) (by decide) (t := .array .int) (t' := .int) (by decide) (by decide)))
    replace A_p4 := A_p4.other W (by first | exact n_p4_o | exact Ne.symm n_o_p4 | omega)
    replace F_markedEnd_o := F_markedEnd_o.other W (Or.inr (slot_ne (C := "com/example/procsh/procsh/service/Partition") (Or.inr (hwi hw 21 rfl)) (Or.inl (hwi hw 41 rfl)) (by decide) (t := .array .int) (t' := .int) (by decide) (by decide)))
    replace A_p5 := A_p5.other W (by first | exact n_p5_o | exact Ne.symm n_o_p5 | omega)
    replace F_origin_o := F_origin_o.other W (Or.inr (slot_ne (C := "com/example/procsh/procsh/service/Partition") (Or.inr (hwi hw 23 rfl)) (Or.inl (hwi hw 41 rfl)) (by decide) (t := .array .int) (t' := .int) (by decide) (by decide)))
    replace A_p6 := A_p6.other W (by first | exact n_p6_o | exact Ne.symm n_o_p6 | omega)
    replace F_touchedBlocks_o := F_touchedBlocks_o.other W (Or.inr (slot_ne (C := "com/example/procsh/procsh/service/Partition") (Or.inr (hwi hw 25 rfl)) (Or.inl (hwi hw 41 rfl)) (by decide) (t := .array .int) (t' := .int) (by decide) (by decide)))
    replace A_p7 := A_p7.other W (by first | exact n_p7_o | exact Ne.symm n_o_p7 | omega)
    replace F_blocks_o := F_blocks_o.other W (Or.inr (slot_ne (C := "com/example/procsh/procsh/service/Partition") (Or.inl (hwi hw 27 rfl)) (Or.inl (hwi hw 41 rfl)) (by decide) (t := .int) (t' := .int) (by decide) (by decide)))
    replace F_touched_o := F_touched_o.same W
    clear W
    refine iload_n K S rfl d6_55 ?_
    refine iastore K S (i := (L.2.2).toNatClampNeg) A_p7 (linb_ix (show linb (row L 7) (L.2.2) = true from (okm_4 ok c25))) (linb_ml (show linb (row L 7) (L.2.2) = true from (okm_4 ok c25))) g_p7 d6_56 fun T h56_7 W B S => ?_
    replace E_o := E_o.wr W
    replace F_elements_o := F_elements_o.other W (Or.inl (by first | exact n_o_p7 | exact Ne.symm n_p7_o | omega))
    replace A_p0 := A_p0.other W (by first | exact n_p0_p7 | exact Ne.symm n_p7_p0 | omega)
    replace F_positionOf_o := F_positionOf_o.other W (Or.inl (by first | exact n_o_p7 | exact Ne.symm n_p7_o | omega))
    replace A_p1 := A_p1.other W (by first | exact n_p1_p7 | exact Ne.symm n_p7_p1 | omega)
    replace F_blockOf_o := F_blockOf_o.other W (Or.inl (by first | exact n_o_p7 | exact Ne.symm n_p7_o | omega))
    replace A_p2 := A_p2.other W (by first | exact n_p2_p7 | exact Ne.symm n_p7_p2 | omega)
    replace F_blockStart_o := F_blockStart_o.other W (Or.inl (by first | exact n_o_p7 | exact Ne.symm n_p7_o | omega))
    replace A_p3 := A_p3.other W (by first | exact n_p3_p7 | exact Ne.symm n_p7_p3 | omega)
    replace F_blockEnd_o := F_blockEnd_o.other W (Or.inl (by first | exact n_o_p7 | exact Ne.symm n_p7_o | omega))
    replace A_p4 := A_p4.other W (by first | exact n_p4_p7 | exact Ne.symm n_p7_p4 | omega)
    replace F_markedEnd_o := F_markedEnd_o.other W (Or.inl (by first | exact n_o_p7 | exact Ne.symm n_p7_o | omega))
    replace A_p5 := A_p5.other W (by first | exact n_p5_p7 | exact Ne.symm n_p7_p5 | omega)
    replace F_origin_o := F_origin_o.other W (Or.inl (by first | exact n_o_p7 | exact Ne.symm n_p7_o | omega))
    replace A_p6 := A_p6.other W (by first | exact n_p6_p7 | exact Ne.symm n_p7_p6 | omega)
    replace F_touchedBlocks_o := F_touchedBlocks_o.other W (Or.inl (by first | exact n_o_p7 | exact Ne.symm n_p7_o | omega))
    replace F_blocks_o := F_blocks_o.other W (Or.inl (by first | exact n_o_p7 | exact Ne.symm n_p7_o | omega))
    replace F_touched_o := F_touched_o.other W (Or.inl (by first | exact n_o_p7 | exact Ne.symm n_p7_o | omega))
    clear W
    replace A_p7 : VA Z h56_7 p7 .int ((lset (row L 7) (L.2.2) (lget (row L 2) q)).map Value.int) := (by rw [lset_map]; exact B)
    refine aload_n K S rfl rfl d6_57 ?_
    refine getf K S (hwi hw 10 rfl) F_elements_o d6_58 fun T S => ?_
    refine iload K S rfl d6_61 ?_
    refine iaload K S (v := .int (lget (row L 0) (lget (row L 5) (lget (row L 2) q)))) (i := (lget (row L 5) (lget (row L 2) q)).toNatClampNeg) A_p0 (linb_ix (show linb (row L 0) (lget (row L 5) (lget (row L 2) q)) = true from (okm_5 ok c25))) (linb_get (show linb (row L 0) (lget (row L 5) (lget (row L 2) q)) = true from (okm_5 ok c25))) d6_63 ?_
    refine istore K S (l' := #[.val (.ref o), .val (.int q), .val (.int (lget (row L 2) q)), .val (.int (lget (row L 1) q)), .val (.int (lget (row L 5) (lget (row L 2) q))), .val (.int (lget (row L 0) (lget (row L 5) (lget (row L 2) q))))]) rfl d6_64 ?_
    refine aload_n K S rfl rfl d6_66 ?_
    refine getf K S (hwi hw 10 rfl) F_elements_o d6_67 fun T S => ?_
    refine iload_n K S rfl d6_70 ?_
    refine iload K S rfl d6_71 ?_
    refine iastore K S (i := (lget (row L 1) q).toNatClampNeg) A_p0 (linb_ix (show linb (row L 0) (lget (row L 1) q) = true from (okm_6 ok c25))) (linb_ml (show linb (row L 0) (lget (row L 1) q) = true from (okm_6 ok c25))) g_p0 d6_73 fun T h73_8 W B S => ?_
    replace E_o := E_o.wr W
    replace F_elements_o := F_elements_o.other W (Or.inl (by first | exact n_o_p0 | exact Ne.symm n_p0_o | omega))
    replace F_positionOf_o := F_positionOf_o.other W (Or.inl (by first | exact n_o_p0 | exact Ne.symm n_p0_o | omega))
    replace A_p1 := A_p1.other W (by first | exact n_p1_p0 | exact Ne.symm n_p0_p1 | omega)
    replace F_blockOf_o := F_blockOf_o.other W (Or.inl (by first | exact n_o_p0 | exact Ne.symm n_p0_o | omega))
    replace A_p2 := A_p2.other W (by first | exact n_p2_p0 | exact Ne.symm n_p0_p2 | omega)
    replace F_blockStart_o := F_blockStart_o.other W (Or.inl (by first | exact n_o_p0 | exact Ne.symm n_p0_o | omega))
    replace A_p3 := A_p3.other W (by first | exact n_p3_p0 | exact Ne.symm n_p0_p3 | omega)
    replace F_blockEnd_o := F_blockEnd_o.other W (Or.inl (by first | exact n_o_p0 | exact Ne.symm n_p0_o | omega))
    replace A_p4 := A_p4.other W (by first | exact n_p4_p0 | exact Ne.symm n_p0_p4 | omega)
    replace F_markedEnd_o := F_markedEnd_o.other W (Or.inl (by first | exact n_o_p0 | exact Ne.symm n_p0_o | omega))
    replace A_p5 := A_p5.other W (by first | exact n_p5_p0 | exact Ne.symm n_p0_p5 | omega)
    replace F_origin_o := F_origin_o.other W (Or.inl (by first | exact n_o_p0 | exact Ne.symm n_p0_o | omega))
    replace A_p6 := A_p6.other W (by first | exact n_p6_p0 | exact Ne.symm n_p0_p6 | omega)
    replace F_touchedBlocks_o := F_touchedBlocks_o.other W (Or.inl (by first | exact n_o_p0 | exact Ne.symm n_p0_o | omega))
    replace A_p7 := A_p7.other W (by first | exact n_p7_p0 | exact Ne.symm n_p0_p7 | omega)
    replace F_blocks_o := F_blocks_o.other W (Or.inl (by first | exact n_o_p0 | exact Ne.symm n_p0_o | omega))
    replace F_touched_o := F_touched_o.other W (Or.inl (by first | exact n_o_p0 | exact Ne.symm n_p0_o | omega))
    clear W
    replace A_p0 : VA Z h73_8 p0 .int ((lset (row L 0) (lget (row L 1) q) (lget (row L 0) (lget (row L 5) (lget (row L 2) q)))).map Value.int) := (by rw [lset_map]; exact B)
    refine aload_n K S rfl rfl d6_74 ?_
    refine getf K S (hwi hw 12 rfl) F_positionOf_o d6_75 fun T S => ?_
    refine iload K S rfl d6_78 ?_
    refine iload_n K S rfl d6_80 ?_
    refine iastore K S (i := (lget (row L 0) (lget (row L 5) (lget (row L 2) q))).toNatClampNeg) A_p1 (linb_ix (show linb (row L 1) (lget (row L 0) (lget (row L 5) (lget (row L 2) q))) = true from (okm_7 ok c25))) (linb_ml (show linb (row L 1) (lget (row L 0) (lget (row L 5) (lget (row L 2) q))) = true from (okm_7 ok c25))) g_p1 d6_81 fun T h81_9 W B S => ?_
    replace E_o := E_o.wr W
    replace F_elements_o := F_elements_o.other W (Or.inl (by first | exact n_o_p1 | exact Ne.symm n_p1_o | omega))
    replace A_p0 := A_p0.other W (by first | exact n_p0_p1 | exact Ne.symm n_p1_p0 | omega)
    replace F_positionOf_o := F_positionOf_o.other W (Or.inl (by first | exact n_o_p1 | exact Ne.symm n_p1_o | omega))
    replace F_blockOf_o := F_blockOf_o.other W (Or.inl (by first | exact n_o_p1 | exact Ne.symm n_p1_o | omega))
    replace A_p2 := A_p2.other W (by first | exact n_p2_p1 | exact Ne.symm n_p1_p2 | omega)
    replace F_blockStart_o := F_blockStart_o.other W (Or.inl (by first | exact n_o_p1 | exact Ne.symm n_p1_o | omega))
    replace A_p3 := A_p3.other W (by first | exact n_p3_p1 | exact Ne.symm n_p1_p3 | omega)
    replace F_blockEnd_o := F_blockEnd_o.other W (Or.inl (by first | exact n_o_p1 | exact Ne.symm n_p1_o | omega))
    replace A_p4 := A_p4.other W (by first | exact n_p4_p1 | exact Ne.symm n_p1_p4 | omega)
    replace F_markedEnd_o := F_markedEnd_o.other W (Or.inl (by first | exact n_o_p1 | exact Ne.symm n_p1_o | omega))
    replace A_p5 := A_p5.other W (by first | exact n_p5_p1 | exact Ne.symm n_p1_p5 | omega)
    replace F_origin_o := F_origin_o.other W (Or.inl (by first | exact n_o_p1 | exact Ne.symm n_p1_o | omega))
    replace A_p6 := A_p6.other W (by first | exact n_p6_p1 | exact Ne.symm n_p1_p6 | omega)
    replace F_touchedBlocks_o := F_touchedBlocks_o.other W (Or.inl (by first | exact n_o_p1 | exact Ne.symm n_p1_o | omega))
    replace A_p7 := A_p7.other W (by first | exact n_p7_p1 | exact Ne.symm n_p1_p7 | omega)
    replace F_blocks_o := F_blocks_o.other W (Or.inl (by first | exact n_o_p1 | exact Ne.symm n_p1_o | omega))
    replace F_touched_o := F_touched_o.other W (Or.inl (by first | exact n_o_p1 | exact Ne.symm n_p1_o | omega))
    clear W
    replace A_p1 : VA Z h81_9 p1 .int ((lset (row L 1) (lget (row L 0) (lget (row L 5) (lget (row L 2) q))) (lget (row L 1) q)).map Value.int) := (by rw [lset_map]; exact B)
    refine aload_n K S rfl rfl d6_82 ?_
    refine getf K S (hwi hw 10 rfl) F_elements_o d6_83 fun T S => ?_
    refine iload K S rfl d6_86 ?_
    refine iload_n K S rfl d6_88 ?_
    refine iastore K S (i := (lget (row L 5) (lget (row L 2) q)).toNatClampNeg) A_p0 (linb_ix (show linb (lset (row L 0) (lget (row L 1) q) (lget (row L 0) (lget (row L 5) (lget (row L 2) q)))) (lget (row L 5) (lget (row L 2) q)) = true from (linb_set (okm_5 ok c25)))) (linb_ml (show linb (lset (row L 0) (lget (row L 1) q) (lget (row L 0) (lget (row L 5) (lget (row L 2) q)))) (lget (row L 5) (lget (row L 2) q)) = true from (linb_set (okm_5 ok c25)))) g_p0 d6_89 fun T h89_10 W B S => ?_
    replace E_o := E_o.wr W
    replace F_elements_o := F_elements_o.other W (Or.inl (by first | exact n_o_p0 | exact Ne.symm n_p0_o | omega))
    replace F_positionOf_o := F_positionOf_o.other W (Or.inl (by first | exact n_o_p0 | exact Ne.symm n_p0_o | omega))
    replace A_p1 := A_p1.other W (by first | exact n_p1_p0 | exact Ne.symm n_p0_p1 | omega)
    replace F_blockOf_o := F_blockOf_o.other W (Or.inl (by first | exact n_o_p0 | exact Ne.symm n_p0_o | omega))
    replace A_p2 := A_p2.other W (by first | exact n_p2_p0 | exact Ne.symm n_p0_p2 | omega)
    replace F_blockStart_o := F_blockStart_o.other W (Or.inl (by first | exact n_o_p0 | exact Ne.symm n_p0_o | omega))
    replace A_p3 := A_p3.other W (by first | exact n_p3_p0 | exact Ne.symm n_p0_p3 | omega)
    replace F_blockEnd_o := F_blockEnd_o.other W (Or.inl (by first | exact n_o_p0 | exact Ne.symm n_p0_o | omega))
    replace A_p4 := A_p4.other W (by first | exact n_p4_p0 | exact Ne.symm n_p0_p4 | omega)
    replace F_markedEnd_o := F_markedEnd_o.other W (Or.inl (by first | exact n_o_p0 | exact Ne.symm n_p0_o | omega))
    replace A_p5 := A_p5.other W (by first | exact n_p5_p0 | exact Ne.symm n_p0_p5 | omega)
    replace F_origin_o := F_origin_o.other W (Or.inl (by first | exact n_o_p0 | exact Ne.symm n_p0_o | omega))
    replace A_p6 := A_p6.other W (by first | exact n_p6_p0 | exact Ne.symm n_p0_p6 | omega)
    replace F_touchedBlocks_o := F_touchedBlocks_o.other W (Or.inl (by first | exact n_o_p0 | exact Ne.symm n_p0_o | omega))
    replace A_p7 := A_p7.other W (by first | exact n_p7_p0 | exact Ne.symm n_p0_p7 | omega)
    replace F_blocks_o := F_blocks_o.other W (Or.inl (by first | exact n_o_p0 | exact Ne.symm n_p0_o | omega))
    replace F_touched_o := F_touched_o.other W (Or.inl (by first | exact n_o_p0 | exact Ne.symm n_p0_o | omega))
    clear W
    replace A_p0 : VA Z h89_10 p0 .int ((lset (lset (row L 0) (lget (row L 1) q) (lget (row L 0) (lget (row L 5) (lget (row L 2) q)))) (lget (row L 5) (lget (row L 2) q)) q).map Value.int) := (by rw [lset_map]; exact B)
    refine aload_n K S rfl rfl d6_90 ?_
    refine getf K S (hwi hw 12 rfl) F_positionOf_o d6_91 fun T S => ?_
    refine iload_n K S rfl d6_94 ?_
    refine iload K S rfl d6_95 ?_
    refine iastore K S (i := q.toNatClampNeg) A_p1 (linb_ix (show linb (lset (row L 1) (lget (row L 0) (lget (row L 5) (lget (row L 2) q))) (lget (row L 1) q)) q = true from (linb_set ok2))) (linb_ml (show linb (lset (row L 1) (lget (row L 0) (lget (row L 5) (lget (row L 2) q))) (lget (row L 1) q)) q = true from (linb_set ok2))) g_p1 d6_97 fun T h97_11 W B S => ?_
    replace E_o := E_o.wr W
    replace F_elements_o := F_elements_o.other W (Or.inl (by first | exact n_o_p1 | exact Ne.symm n_p1_o | omega))
    replace A_p0 := A_p0.other W (by first | exact n_p0_p1 | exact Ne.symm n_p1_p0 | omega)
    replace F_positionOf_o := F_positionOf_o.other W (Or.inl (by first | exact n_o_p1 | exact Ne.symm n_p1_o | omega))
    replace F_blockOf_o := F_blockOf_o.other W (Or.inl (by first | exact n_o_p1 | exact Ne.symm n_p1_o | omega))
    replace A_p2 := A_p2.other W (by first | exact n_p2_p1 | exact Ne.symm n_p1_p2 | omega)
    replace F_blockStart_o := F_blockStart_o.other W (Or.inl (by first | exact n_o_p1 | exact Ne.symm n_p1_o | omega))
    replace A_p3 := A_p3.other W (by first | exact n_p3_p1 | exact Ne.symm n_p1_p3 | omega)
    replace F_blockEnd_o := F_blockEnd_o.other W (Or.inl (by first | exact n_o_p1 | exact Ne.symm n_p1_o | omega))
    replace A_p4 := A_p4.other W (by first | exact n_p4_p1 | exact Ne.symm n_p1_p4 | omega)
    replace F_markedEnd_o := F_markedEnd_o.other W (Or.inl (by first | exact n_o_p1 | exact Ne.symm n_p1_o | omega))
    replace A_p5 := A_p5.other W (by first | exact n_p5_p1 | exact Ne.symm n_p1_p5 | omega)
    replace F_origin_o := F_origin_o.other W (Or.inl (by first | exact n_o_p1 | exact Ne.symm n_p1_o | omega))
    replace A_p6 := A_p6.other W (by first | exact n_p6_p1 | exact Ne.symm n_p1_p6 | omega)
    replace F_touchedBlocks_o := F_touchedBlocks_o.other W (Or.inl (by first | exact n_o_p1 | exact Ne.symm n_p1_o | omega))
    replace A_p7 := A_p7.other W (by first | exact n_p7_p1 | exact Ne.symm n_p1_p7 | omega)
    replace F_blocks_o := F_blocks_o.other W (Or.inl (by first | exact n_o_p1 | exact Ne.symm n_p1_o | omega))
    replace F_touched_o := F_touched_o.other W (Or.inl (by first | exact n_o_p1 | exact Ne.symm n_p1_o | omega))
    clear W
    replace A_p1 : VA Z h97_11 p1 .int ((lset (lset (row L 1) (lget (row L 0) (lget (row L 5) (lget (row L 2) q))) (lget (row L 1) q)) q (lget (row L 5) (lget (row L 2) q))).map Value.int) := (by rw [lset_map]; exact B)
    refine aload_n K S rfl rfl d6_98 ?_
    refine getf K S (hwi hw 20 rfl) F_markedEnd_o d6_99 fun T S => ?_
    refine iload_n K S rfl d6_102 ?_
    refine iload K S rfl d6_103 ?_
    refine iconst K S (x := (1 : Int32)) rfl d6_105 ?_
    refine iadd K S d6_106 ?_
    refine iastore K S (i := (lget (row L 2) q).toNatClampNeg) A_p5 (linb_ix (show linb (row L 5) (lget (row L 2) q) = true from ok3)) (linb_ml (show linb (row L 5) (lget (row L 2) q) = true from ok3)) g_p5 d6_107 fun T h107_12 W B S => ?_
    replace E_o := E_o.wr W
    replace F_elements_o := F_elements_o.other W (Or.inl (by first | exact n_o_p5 | exact Ne.symm n_p5_o | omega))
    replace A_p0 := A_p0.other W (by first | exact n_p0_p5 | exact Ne.symm n_p5_p0 | omega)
    replace F_positionOf_o := F_positionOf_o.other W (Or.inl (by first | exact n_o_p5 | exact Ne.symm n_p5_o | omega))
    replace A_p1 := A_p1.other W (by first | exact n_p1_p5 | exact Ne.symm n_p5_p1 | omega)
    replace F_blockOf_o := F_blockOf_o.other W (Or.inl (by first | exact n_o_p5 | exact Ne.symm n_p5_o | omega))
    replace A_p2 := A_p2.other W (by first | exact n_p2_p5 | exact Ne.symm n_p5_p2 | omega)
    replace F_blockStart_o := F_blockStart_o.other W (Or.inl (by first | exact n_o_p5 | exact Ne.symm n_p5_o | omega))
    replace A_p3 := A_p3.other W (by first | exact n_p3_p5 | exact Ne.symm n_p5_p3 | omega)
    replace F_blockEnd_o := F_blockEnd_o.other W (Or.inl (by first | exact n_o_p5 | exact Ne.symm n_p5_o | omega))
    replace A_p4 := A_p4.other W (by first | exact n_p4_p5 | exact Ne.symm n_p5_p4 | omega)
    replace F_markedEnd_o := F_markedEnd_o.other W (Or.inl (by first | exact n_o_p5 | exact Ne.symm n_p5_o | omega))
    replace F_origin_o := F_origin_o.other W (Or.inl (by first | exact n_o_p5 | exact Ne.symm n_p5_o | omega))
    replace A_p6 := A_p6.other W (by first | exact n_p6_p5 | exact Ne.symm n_p5_p6 | omega)
    replace F_touchedBlocks_o := F_touchedBlocks_o.other W (Or.inl (by first | exact n_o_p5 | exact Ne.symm n_p5_o | omega))
    replace A_p7 := A_p7.other W (by first | exact n_p7_p5 | exact Ne.symm n_p5_p7 | omega)
    replace F_blocks_o := F_blocks_o.other W (Or.inl (by first | exact n_o_p5 | exact Ne.symm n_p5_o | omega))
    replace F_touched_o := F_touched_o.other W (Or.inl (by first | exact n_o_p5 | exact Ne.symm n_p5_o | omega))
    clear W
    replace A_p5 : VA Z h107_12 p5 .int ((lset (row L 5) (lget (row L 2) q) ((lget (row L 5) (lget (row L 2) q)) + (1 : Int32))).map Value.int) := (by rw [lset_map]; exact B)
    refine retv K S (by decide) (by decide) d6_108 ?_
    exact ⟨rfl, by rw [fmark, if_neg c25, if_pos c37]; exact ⟨E_o, F_elements_o, F_positionOf_o, F_blockOf_o, F_blockStart_o, F_blockEnd_o, F_markedEnd_o, F_origin_o, F_touchedBlocks_o, F_blocks_o, F_touched_o, A_p0, A_p1, A_p2, A_p3, A_p4, A_p5, A_p6, A_p7⟩⟩
  refine retv K S (by decide) (by decide) d6_28 ?_
  exact ⟨rfl, by rw [fmark, if_pos c25]; exact ⟨E_o, F_elements_o, F_positionOf_o, F_blockOf_o, F_blockStart_o, F_blockEnd_o, F_markedEnd_o, F_origin_o, F_touchedBlocks_o, F_blocks_o, F_touched_o, A_p0, A_p1, A_p2, A_p3, A_p4, A_p5, A_p6, A_p7⟩⟩

theorem okA_1 {L : PS} {k bd : Int32} (h : okA L k bd = true) : linb (row L 3) k = true := by
  simp only [okA, Bool.and_eq_true] at h; exact h.1.1.1.1.1.1.1.1.1
theorem okA_2 {L : PS} {k bd : Int32} (h : okA L k bd = true) : linb (row L 3) L.2.1 = true := by
  simp only [okA, Bool.and_eq_true] at h; exact h.1.1.1.1.1.1.1.1.2
theorem okA_3 {L : PS} {k bd : Int32} (h : okA L k bd = true) : linb (row L 4) L.2.1 = true := by
  simp only [okA, Bool.and_eq_true] at h; exact h.1.1.1.1.1.1.1.2
theorem okA_4 {L : PS} {k bd : Int32} (h : okA L k bd = true) : linb (row L 5) L.2.1 = true := by
  simp only [okA, Bool.and_eq_true] at h; exact h.1.1.1.1.1.1.2
theorem okA_5 {L : PS} {k bd : Int32} (h : okA L k bd = true) : linb (row L 6) L.2.1 = true := by
  simp only [okA, Bool.and_eq_true] at h; exact h.1.1.1.1.1.2
theorem okA_6 {L : PS} {k bd : Int32} (h : okA L k bd = true) : linb (sb1 L k) L.2.1 = true := by
  simp only [okA, Bool.and_eq_true] at h; exact h.1.1.1.1.2
theorem okA_7 {L : PS} {k bd : Int32} (h : okA L k bd = true) : linb (sb1 L k) k = true := by
  simp only [okA, Bool.and_eq_true] at h; exact h.1.1.1.2
theorem okA_8 {L : PS} {k bd : Int32} (h : okA L k bd = true) : linb (lset (sb1 L k) k bd) k = true := by
  simp only [okA, Bool.and_eq_true] at h; exact h.1.1.2
theorem okA_9 {L : PS} {k bd : Int32} (h : okA L k bd = true) : linb (lset (row L 5) L.2.1 (lget (sb1 L k) L.2.1)) k = true := by
  simp only [okA, Bool.and_eq_true] at h; exact h.1.2
theorem okA_10 {L : PS} {k bd : Int32} (h : okA L k bd = true) : okinn 8 (row L 0) L.2.1 (lget (sb1 L k) L.2.1) bd (row L 2) = true := by
  simp only [okA, Bool.and_eq_true] at h; exact h.2
theorem oks_1 {L : PS} {i : Int32} (h : okstep L i = true) : linb (row L 7) i = true ∧ linb (row L 5) (lget (row L 7) i) = true ∧ linb (row L 4) (lget (row L 7) i) = true := by
  simp only [okstep, Bool.and_eq_true] at h; exact ⟨h.1.1.1, h.1.1.2, h.1.2⟩
theorem oks_2 {L : PS} {i : Int32} (h : okstep L i = true) (c : lget (row L 5) (lget (row L 7) i) < lget (row L 4) (lget (row L 7) i)) : okA L (lget (row L 7) i) (lget (row L 5) (lget (row L 7) i)) = true := by
  simp only [okstep, Bool.and_eq_true, c, if_true] at h; exact h.2
theorem oks_3 {L : PS} {i : Int32} (h : okstep L i = true) (c : ¬ lget (row L 5) (lget (row L 7) i) < lget (row L 4) (lget (row L 7) i)) : linb (row L 3) (lget (row L 7) i) = true := by
  simp only [okstep, Bool.and_eq_true, c, if_false] at h; exact h.2
theorem d5_0 : Dc prog_68_method_10_code 0 (.iconst 0) 1 1 := ⟨by decide +kernel, rfl⟩
theorem d5_1 : Dc prog_68_method_10_code 1 (.istore_n 1) 1 2 := ⟨by decide +kernel, rfl⟩
theorem d5_2 : Dc prog_68_method_10_code 2 (.iload_n 1) 1 3 := ⟨by decide +kernel, rfl⟩
theorem d5_3 : Dc prog_68_method_10_code 3 (.aload_n 0) 1 4 := ⟨by decide +kernel, rfl⟩
theorem d5_4 : Dc prog_68_method_10_code 4 (.getfield 38) 3 7 := ⟨by decide +kernel, rfl⟩
theorem d5_7 : Bc prog_68_method_10_code 7 (.if_icmp .ge 143) (143) 10 150 := ⟨by decide +kernel, rfl, by decide, by decide⟩
theorem d5_10 : Dc prog_68_method_10_code 10 (.aload_n 0) 1 11 := ⟨by decide +kernel, rfl⟩
theorem d5_11 : Dc prog_68_method_10_code 11 (.getfield 31) 3 14 := ⟨by decide +kernel, rfl⟩
theorem d5_14 : Dc prog_68_method_10_code 14 (.iload_n 1) 1 15 := ⟨by decide +kernel, rfl⟩
theorem d5_15 : Dc prog_68_method_10_code 15 (.iaload) 1 16 := ⟨by decide +kernel, rfl⟩
theorem d5_16 : Dc prog_68_method_10_code 16 (.istore_n 2) 1 17 := ⟨by decide +kernel, rfl⟩
theorem d5_17 : Dc prog_68_method_10_code 17 (.aload_n 0) 1 18 := ⟨by decide +kernel, rfl⟩
theorem d5_18 : Dc prog_68_method_10_code 18 (.getfield 25) 3 21 := ⟨by decide +kernel, rfl⟩
theorem d5_21 : Dc prog_68_method_10_code 21 (.iload_n 2) 1 22 := ⟨by decide +kernel, rfl⟩
theorem d5_22 : Dc prog_68_method_10_code 22 (.iaload) 1 23 := ⟨by decide +kernel, rfl⟩
theorem d5_23 : Dc prog_68_method_10_code 23 (.istore_n 3) 1 24 := ⟨by decide +kernel, rfl⟩
theorem d5_24 : Dc prog_68_method_10_code 24 (.iload_n 3) 1 25 := ⟨by decide +kernel, rfl⟩
theorem d5_25 : Dc prog_68_method_10_code 25 (.aload_n 0) 1 26 := ⟨by decide +kernel, rfl⟩
theorem d5_26 : Dc prog_68_method_10_code 26 (.getfield 22) 3 29 := ⟨by decide +kernel, rfl⟩
theorem d5_29 : Dc prog_68_method_10_code 29 (.iload_n 2) 1 30 := ⟨by decide +kernel, rfl⟩
theorem d5_30 : Dc prog_68_method_10_code 30 (.iaload) 1 31 := ⟨by decide +kernel, rfl⟩
theorem d5_31 : Bc prog_68_method_10_code 31 (.if_icmp .ge 101) (101) 34 132 := ⟨by decide +kernel, rfl, by decide, by decide⟩
theorem d5_34 : Dc prog_68_method_10_code 34 (.aload_n 0) 1 35 := ⟨by decide +kernel, rfl⟩
theorem d5_35 : Dc prog_68_method_10_code 35 (.dup) 1 36 := ⟨by decide +kernel, rfl⟩
theorem d5_36 : Dc prog_68_method_10_code 36 (.getfield 34) 3 39 := ⟨by decide +kernel, rfl⟩
theorem d5_39 : Dc prog_68_method_10_code 39 (.dup_x1) 1 40 := ⟨by decide +kernel, rfl⟩
theorem d5_40 : Dc prog_68_method_10_code 40 (.iconst 1) 1 41 := ⟨by decide +kernel, rfl⟩
theorem d5_41 : Dc prog_68_method_10_code 41 (.iadd) 1 42 := ⟨by decide +kernel, rfl⟩
theorem d5_42 : Dc prog_68_method_10_code 42 (.putfield 34) 3 45 := ⟨by decide +kernel, rfl⟩
theorem d5_45 : Dc prog_68_method_10_code 45 (.istore 4) 2 47 := ⟨by decide +kernel, rfl⟩
theorem d5_47 : Dc prog_68_method_10_code 47 (.aload_n 0) 1 48 := ⟨by decide +kernel, rfl⟩
theorem d5_48 : Dc prog_68_method_10_code 48 (.getfield 19) 3 51 := ⟨by decide +kernel, rfl⟩
theorem d5_51 : Dc prog_68_method_10_code 51 (.iload 4) 2 53 := ⟨by decide +kernel, rfl⟩
theorem d5_53 : Dc prog_68_method_10_code 53 (.aload_n 0) 1 54 := ⟨by decide +kernel, rfl⟩
theorem d5_54 : Dc prog_68_method_10_code 54 (.getfield 19) 3 57 := ⟨by decide +kernel, rfl⟩
theorem d5_57 : Dc prog_68_method_10_code 57 (.iload_n 2) 1 58 := ⟨by decide +kernel, rfl⟩
theorem d5_58 : Dc prog_68_method_10_code 58 (.iaload) 1 59 := ⟨by decide +kernel, rfl⟩
theorem d5_59 : Dc prog_68_method_10_code 59 (.iastore) 1 60 := ⟨by decide +kernel, rfl⟩
theorem d5_60 : Dc prog_68_method_10_code 60 (.aload_n 0) 1 61 := ⟨by decide +kernel, rfl⟩
theorem d5_61 : Dc prog_68_method_10_code 61 (.getfield 22) 3 64 := ⟨by decide +kernel, rfl⟩
theorem d5_64 : Dc prog_68_method_10_code 64 (.iload 4) 2 66 := ⟨by decide +kernel, rfl⟩
theorem d5_66 : Dc prog_68_method_10_code 66 (.iload_n 3) 1 67 := ⟨by decide +kernel, rfl⟩
theorem d5_67 : Dc prog_68_method_10_code 67 (.iastore) 1 68 := ⟨by decide +kernel, rfl⟩
theorem d5_68 : Dc prog_68_method_10_code 68 (.aload_n 0) 1 69 := ⟨by decide +kernel, rfl⟩
theorem d5_69 : Dc prog_68_method_10_code 69 (.getfield 25) 3 72 := ⟨by decide +kernel, rfl⟩
theorem d5_72 : Dc prog_68_method_10_code 72 (.iload 4) 2 74 := ⟨by decide +kernel, rfl⟩
theorem d5_74 : Dc prog_68_method_10_code 74 (.aload_n 0) 1 75 := ⟨by decide +kernel, rfl⟩
theorem d5_75 : Dc prog_68_method_10_code 75 (.getfield 19) 3 78 := ⟨by decide +kernel, rfl⟩
theorem d5_78 : Dc prog_68_method_10_code 78 (.iload 4) 2 80 := ⟨by decide +kernel, rfl⟩
theorem d5_80 : Dc prog_68_method_10_code 80 (.iaload) 1 81 := ⟨by decide +kernel, rfl⟩
theorem d5_81 : Dc prog_68_method_10_code 81 (.iastore) 1 82 := ⟨by decide +kernel, rfl⟩
theorem d5_82 : Dc prog_68_method_10_code 82 (.aload_n 0) 1 83 := ⟨by decide +kernel, rfl⟩
theorem d5_83 : Dc prog_68_method_10_code 83 (.getfield 28) 3 86 := ⟨by decide +kernel, rfl⟩
theorem d5_86 : Dc prog_68_method_10_code 86 (.iload 4) 2 88 := ⟨by decide +kernel, rfl⟩
theorem d5_88 : Dc prog_68_method_10_code 88 (.iload_n 2) 1 89 := ⟨by decide +kernel, rfl⟩
theorem d5_89 : Dc prog_68_method_10_code 89 (.iastore) 1 90 := ⟨by decide +kernel, rfl⟩
theorem d5_90 : Dc prog_68_method_10_code 90 (.aload_n 0) 1 91 := ⟨by decide +kernel, rfl⟩
theorem d5_91 : Dc prog_68_method_10_code 91 (.getfield 19) 3 94 := ⟨by decide +kernel, rfl⟩
theorem d5_94 : Dc prog_68_method_10_code 94 (.iload 4) 2 96 := ⟨by decide +kernel, rfl⟩
theorem d5_96 : Dc prog_68_method_10_code 96 (.iaload) 1 97 := ⟨by decide +kernel, rfl⟩
theorem d5_97 : Dc prog_68_method_10_code 97 (.istore 5) 2 99 := ⟨by decide +kernel, rfl⟩
theorem d5_99 : Dc prog_68_method_10_code 99 (.iload 5) 2 101 := ⟨by decide +kernel, rfl⟩
theorem d5_101 : Dc prog_68_method_10_code 101 (.iload_n 3) 1 102 := ⟨by decide +kernel, rfl⟩
theorem d5_102 : Bc prog_68_method_10_code 102 (.if_icmp .ge 23) (23) 105 125 := ⟨by decide +kernel, rfl, by decide, by decide⟩
theorem d5_105 : Dc prog_68_method_10_code 105 (.aload_n 0) 1 106 := ⟨by decide +kernel, rfl⟩
theorem d5_106 : Dc prog_68_method_10_code 106 (.getfield 16) 3 109 := ⟨by decide +kernel, rfl⟩
theorem d5_109 : Dc prog_68_method_10_code 109 (.aload_n 0) 1 110 := ⟨by decide +kernel, rfl⟩
theorem d5_110 : Dc prog_68_method_10_code 110 (.getfield 7) 3 113 := ⟨by decide +kernel, rfl⟩
theorem d5_113 : Dc prog_68_method_10_code 113 (.iload 5) 2 115 := ⟨by decide +kernel, rfl⟩
theorem d5_115 : Dc prog_68_method_10_code 115 (.iaload) 1 116 := ⟨by decide +kernel, rfl⟩
theorem d5_116 : Dc prog_68_method_10_code 116 (.iload 4) 2 118 := ⟨by decide +kernel, rfl⟩
theorem d5_118 : Dc prog_68_method_10_code 118 (.iastore) 1 119 := ⟨by decide +kernel, rfl⟩
theorem d5_119 : Dc prog_68_method_10_code 119 (.iinc 5 1) 3 122 := ⟨by decide +kernel, rfl⟩
theorem d5_122 : Bc prog_68_method_10_code 122 (.goto (-23)) (-23) 125 99 := ⟨by decide +kernel, rfl, by decide, by decide⟩
theorem d5_125 : Dc prog_68_method_10_code 125 (.aload_n 0) 1 126 := ⟨by decide +kernel, rfl⟩
theorem d5_126 : Dc prog_68_method_10_code 126 (.getfield 19) 3 129 := ⟨by decide +kernel, rfl⟩
theorem d5_129 : Dc prog_68_method_10_code 129 (.iload_n 2) 1 130 := ⟨by decide +kernel, rfl⟩
theorem d5_130 : Dc prog_68_method_10_code 130 (.iload_n 3) 1 131 := ⟨by decide +kernel, rfl⟩
theorem d5_131 : Dc prog_68_method_10_code 131 (.iastore) 1 132 := ⟨by decide +kernel, rfl⟩
theorem d5_132 : Dc prog_68_method_10_code 132 (.aload_n 0) 1 133 := ⟨by decide +kernel, rfl⟩
theorem d5_133 : Dc prog_68_method_10_code 133 (.getfield 25) 3 136 := ⟨by decide +kernel, rfl⟩
theorem d5_136 : Dc prog_68_method_10_code 136 (.iload_n 2) 1 137 := ⟨by decide +kernel, rfl⟩
theorem d5_137 : Dc prog_68_method_10_code 137 (.aload_n 0) 1 138 := ⟨by decide +kernel, rfl⟩
theorem d5_138 : Dc prog_68_method_10_code 138 (.getfield 19) 3 141 := ⟨by decide +kernel, rfl⟩
theorem d5_141 : Dc prog_68_method_10_code 141 (.iload_n 2) 1 142 := ⟨by decide +kernel, rfl⟩
theorem d5_142 : Dc prog_68_method_10_code 142 (.iaload) 1 143 := ⟨by decide +kernel, rfl⟩
theorem d5_143 : Dc prog_68_method_10_code 143 (.iastore) 1 144 := ⟨by decide +kernel, rfl⟩
theorem d5_144 : Dc prog_68_method_10_code 144 (.iinc 1 1) 3 147 := ⟨by decide +kernel, rfl⟩
theorem d5_147 : Bc prog_68_method_10_code 147 (.goto (-145)) (-145) 150 2 := ⟨by decide +kernel, rfl, by decide, by decide⟩
theorem d5_150 : Dc prog_68_method_10_code 150 (.aload_n 0) 1 151 := ⟨by decide +kernel, rfl⟩
theorem d5_151 : Dc prog_68_method_10_code 151 (.iconst 0) 1 152 := ⟨by decide +kernel, rfl⟩
theorem d5_152 : Dc prog_68_method_10_code 152 (.putfield 38) 3 155 := ⟨by decide +kernel, rfl⟩
theorem d5_155 : Dc prog_68_method_10_code 155 (.return_) 1 156 := ⟨by decide +kernel, rfl⟩
theorem ef_split (m : MethodId) (o : Addr) (p0 : Addr) (p1 : Addr) (p2 : Addr) (p3 : Addr) (p4 : Addr) (p5 : Addr) (p6 : Addr) (p7 : Addr) (L9 : PS) : entryFrame m #[.ref o] 6 = mkF m 0 #[.val (.ref o), .unset, .unset, .unset, .unset, .unset] [] := by first | (simp [entryFrame, mkF, argsToLocals, Value.category]; done) | rfl
set_option maxRecDepth 65536 in
set_option maxHeartbeats 40000000 in
theorem m_split (l : Launch) (Z : State) (a0 : Array Value) (hw : ∀ d ∈ tables_1, d.before a0 Z = true) (n0 : Nat) (o : Addr) (p0 : Addr) (p1 : Addr) (p2 : Addr) (p3 : Addr) (p4 : Addr) (p5 : Addr) (p6 : Addr) (p7 : Addr) (L9 : PS) (h : Heap) (hn : n0 ≤ h.size) (D : AD n0 o p0 p1 p2 p3 p4 p5 p6 p7) (H : PK Z h o p0 p1 p2 p3 p4 p5 p6 p7 L9) (ok : okout 8 L9 0 = true) : Met n0 l Z (⟨"com/example/procsh/procsh/service/Partition", "splitMarked", "()V"⟩ : MethodName) prog_68_method_10_code 6 none ({ frames := 0, cells := 0, slots := 0, locals := 0 } : Room) [] #[.ref o] h (Ef none (fun h' => PK Z h' o p0 p1 p2 p3 p4 p5 p6 p7 (fspl L9))) := by
  refine enter (plainFor_of_name (by first | (simp [plainName, overriddenIn]; done) | decide +kernel)) (fun m => ef_split m o p0 p1 p2 p3 p4 p5 p6 p7 L9) hn ?_
  intro p e s m below meth c T K S
  obtain ⟨g_o, w0, w1, w2, w3, w4, w5, w6, w7⟩ := D
  have g_p0 : n0 ≤ p0 := by omega
  have g_p1 : n0 ≤ p1 := by omega
  have g_p2 : n0 ≤ p2 := by omega
  have g_p3 : n0 ≤ p3 := by omega
  have g_p4 : n0 ≤ p4 := by omega
  have g_p5 : n0 ≤ p5 := by omega
  have g_p6 : n0 ≤ p6 := by omega
  have g_p7 : n0 ≤ p7 := by omega
  have n_o_p0 : o ≠ p0 := Nat.ne_of_lt (by omega)
  have n_o_p1 : o ≠ p1 := Nat.ne_of_lt (by omega)
  have n_o_p2 : o ≠ p2 := Nat.ne_of_lt (by omega)
  have n_o_p3 : o ≠ p3 := Nat.ne_of_lt (by omega)
  have n_o_p4 : o ≠ p4 := Nat.ne_of_lt (by omega)
  have n_o_p5 : o ≠ p5 := Nat.ne_of_lt (by omega)
  have n_o_p6 : o ≠ p6 := Nat.ne_of_lt (by omega)
  have n_o_p7 : o ≠ p7 := Nat.ne_of_lt (by omega)
  have n_p0_p1 : p0 ≠ p1 := Nat.ne_of_lt (by omega)
  have n_p0_p2 : p0 ≠ p2 := Nat.ne_of_lt (by omega)
  have n_p0_p3 : p0 ≠ p3 := Nat.ne_of_lt (by omega)
  have n_p0_p4 : p0 ≠ p4 := Nat.ne_of_lt (by omega)
  have n_p0_p5 : p0 ≠ p5 := Nat.ne_of_lt (by omega)
  have n_p0_p6 : p0 ≠ p6 := Nat.ne_of_lt (by omega)
  have n_p0_p7 : p0 ≠ p7 := Nat.ne_of_lt (by omega)
  have n_p1_p2 : p1 ≠ p2 := Nat.ne_of_lt (by omega)
  have n_p1_p3 : p1 ≠ p3 := Nat.ne_of_lt (by omega)
  have n_p1_p4 : p1 ≠ p4 := Nat.ne_of_lt (by omega)
  have n_p1_p5 : p1 ≠ p5 := Nat.ne_of_lt (by omega)
  have n_p1_p6 : p1 ≠ p6 := Nat.ne_of_lt (by omega)
  have n_p1_p7 : p1 ≠ p7 := Nat.ne_of_lt (by omega)
  have n_p2_p3 : p2 ≠ p3 := Nat.ne_of_lt (by omega)
  have n_p2_p4 : p2 ≠ p4 := Nat.ne_of_lt (by omega)
  have n_p2_p5 : p2 ≠ p5 := Nat.ne_of_lt (by omega)
  have n_p2_p6 : p2 ≠ p6 := Nat.ne_of_lt (by omega)
  have n_p2_p7 : p2 ≠ p7 := Nat.ne_of_lt (by omega)
  have n_p3_p4 : p3 ≠ p4 := Nat.ne_of_lt (by omega)
  have n_p3_p5 : p3 ≠ p5 := Nat.ne_of_lt (by omega)
  have n_p3_p6 : p3 ≠ p6 := Nat.ne_of_lt (by omega)
  have n_p3_p7 : p3 ≠ p7 := Nat.ne_of_lt (by omega)
  have n_p4_p5 : p4 ≠ p5 := Nat.ne_of_lt (by omega)
  have n_p4_p6 : p4 ≠ p6 := Nat.ne_of_lt (by omega)
  have n_p4_p7 : p4 ≠ p7 := Nat.ne_of_lt (by omega)
  have n_p5_p6 : p5 ≠ p6 := Nat.ne_of_lt (by omega)
  have n_p5_p7 : p5 ≠ p7 := Nat.ne_of_lt (by omega)
  have n_p6_p7 : p6 ≠ p7 := Nat.ne_of_lt (by omega)
  have loop : ∀ (d : Nat) (L : PS) (i : Int32) (s2 s3 s4 s5 : Slot) (hc : Heap) (T : State), St n0 p l e ({ frames := 0, cells := 0, slots := 0, locals := 0 } : Room) s m #[.ref o] below meth c 0 0 hc T → One s2 → One s3 → One s4 → One s5 → okout d L i = true → PK Z hc o p0 p1 p2 p3 p4 p5 p6 p7 L → (∀ (L' : PS) (s1 s2 s3 s4 s5 : Slot) (hc : Heap) (T : State), L' = fout d L i → St n0 p l e ({ frames := 0, cells := 0, slots := 0, locals := 0 } : Room) s m #[.ref o] below meth c 0 0 hc T → PK Z hc o p0 p1 p2 p3 p4 p5 p6 p7 L' → Wp n0 p e ({ frames := 0, cells := 0, slots := 0, locals := 0 } : Room) s below (Ef none (fun h' => PK Z h' o p0 p1 p2 p3 p4 p5 p6 p7 (fspl L9))) T (mkF m 150 #[.val (.ref o), s1, s2, s3, s4, s5] [])) → Wp n0 p e ({ frames := 0, cells := 0, slots := 0, locals := 0 } : Room) s below (Ef none (fun h' => PK Z h' o p0 p1 p2 p3 p4 p5 p6 p7 (fspl L9))) T (mkF m 2 #[.val (.ref o), .val (.int i), s2, s3, s4, s5] []) := by
    intro d
    induction d with
    | zero => intro L i s2 s3 s4 s5 hc T S o_s2 o_s3 o_s4 o_s5 ok; cases ok
    | succ d ih =>
      intro L i s2 s3 s4 s5 hc T S o_s2 o_s3 o_s4 o_s5 ok H done
      have H0 := H
      obtain ⟨E_o, F_elements_o, F_positionOf_o, F_blockOf_o, F_blockStart_o, F_blockEnd_o, F_markedEnd_o, F_origin_o, F_touchedBlocks_o, F_blocks_o, F_touched_o, A_p0, A_p1, A_p2, A_p3, A_p4, A_p5, A_p6, A_p7⟩ := H
      refine iload_n K S rfl d5_2 ?_
      refine aload_n K S rfl rfl d5_3 ?_
      refine getf K S (hwi hw 40 rfl) F_touched_o d5_4 fun T S => ?_
      refine icmp_ge K S d5_7 (fun c7 => ?_) (fun c7 => ?_)
      · exact done L _ _ _ _ _ _ T (by rw [fout, if_neg c7]) S H0
      rw [okout, if_pos c7, Bool.and_eq_true] at ok
      obtain ⟨ok, okn⟩ := ok
      obtain ⟨k1, k2, k3⟩ := oks_1 ok
      refine aload_n K S rfl rfl d5_10 ?_
      refine getf K S (hwi hw 24 rfl) F_touchedBlocks_o d5_11 fun T S => ?_
      refine iload_n K S rfl d5_14 ?_
      refine iaload K S (v := .int (lget (row L 7) i)) (i := i.toNatClampNeg) A_p7 (linb_ix (show linb (row L 7) i = true from k1)) (linb_get (show linb (row L 7) i = true from k1)) d5_15 ?_
      refine istore_n K S (l' := #[.val (.ref o), .val (.int i), .val (.int (lget (row L 7) i)), s3, s4, s5]) (stO o_s2 rfl rfl rfl) d5_16 ?_
      refine aload_n K S rfl rfl d5_17 ?_
      refine getf K S (hwi hw 20 rfl) F_markedEnd_o d5_18 fun T S => ?_
      refine iload_n K S rfl d5_21 ?_
      refine iaload K S (v := .int (lget (row L 5) (lget (row L 7) i))) (i := (lget (row L 7) i).toNatClampNeg) A_p5 (linb_ix (show linb (row L 5) (lget (row L 7) i) = true from k2)) (linb_get (show linb (row L 5) (lget (row L 7) i) = true from k2)) d5_22 ?_
      refine istore_n K S (l' := #[.val (.ref o), .val (.int i), .val (.int (lget (row L 7) i)), .val (.int (lget (row L 5) (lget (row L 7) i))), s4, s5]) (stO o_s3 rfl rfl rfl) d5_23 ?_
      refine iload_n K S rfl d5_24 ?_
      refine aload_n K S rfl rfl d5_25 ?_
      refine getf K S (hwi hw 18 rfl) F_blockEnd_o d5_26 fun T S => ?_
      refine iload_n K S rfl d5_29 ?_
      refine iaload K S (v := .int (lget (row L 4) (lget (row L 7) i))) (i := (lget (row L 7) i).toNatClampNeg) A_p4 (linb_ix (show linb (row L 4) (lget (row L 7) i) = true from k3)) (linb_get (show linb (row L 4) (lget (row L 7) i) = true from k3)) d5_30 ?_
      refine icmp_ge K S d5_31 (fun c31 => ?_) (fun c31 => ?_)
      · refine aload_n K S rfl rfl d5_132 ?_
        refine getf K S (hwi hw 20 rfl) F_markedEnd_o d5_133 fun T S => ?_
        refine iload_n K S rfl d5_136 ?_
        refine aload_n K S rfl rfl d5_137 ?_
        refine getf K S (hwi hw 16 rfl) F_blockStart_o d5_138 fun T S => ?_
        refine iload_n K S rfl d5_141 ?_
        refine iaload K S (v := .int (lget (row L 3) (lget (row L 7) i))) (i := (lget (row L 7) i).toNatClampNeg) A_p3 (linb_ix (show linb (row L 3) (lget (row L 7) i) = true from (oks_3 ok c31))) (linb_get (show linb (row L 3) (lget (row L 7) i) = true from (oks_3 ok c31))) d5_142 ?_
        refine iastore K S (i := (lget (row L 7) i).toNatClampNeg) A_p5 (linb_ix (show linb (row L 5) (lget (row L 7) i) = true from k2)) (linb_ml (show linb (row L 5) (lget (row L 7) i) = true from k2)) g_p5 d5_143 fun T h143_1 W B S => ?_
        replace E_o := E_o.wr W
        replace F_elements_o := F_elements_o.other W (Or.inl (by first | exact n_o_p5 | exact Ne.symm n_p5_o | omega))
        replace A_p0 := A_p0.other W (by first | exact n_p0_p5 | exact Ne.symm n_p5_p0 | omega)
        replace F_positionOf_o := F_positionOf_o.other W (Or.inl (by first | exact n_o_p5 | exact Ne.symm n_p5_o | omega))
        replace A_p1 := A_p1.other W (by first | exact n_p1_p5 | exact Ne.symm n_p5_p1 | omega)
        replace F_blockOf_o := F_blockOf_o.other W (Or.inl (by first | exact n_o_p5 | exact Ne.symm n_p5_o | omega))
        replace A_p2 := A_p2.other W (by first | exact n_p2_p5 | exact Ne.symm n_p5_p2 | omega)
        replace F_blockStart_o := F_blockStart_o.other W (Or.inl (by first | exact n_o_p5 | exact Ne.symm n_p5_o | omega))
        replace A_p3 := A_p3.other W (by first | exact n_p3_p5 | exact Ne.symm n_p5_p3 | omega)
        replace F_blockEnd_o := F_blockEnd_o.other W (Or.inl (by first | exact n_o_p5 | exact Ne.symm n_p5_o | omega))
        replace A_p4 := A_p4.other W (by first | exact n_p4_p5 | exact Ne.symm n_p5_p4 | omega)
        replace F_markedEnd_o := F_markedEnd_o.other W (Or.inl (by first | exact n_o_p5 | exact Ne.symm n_p5_o | omega))
        replace F_origin_o := F_origin_o.other W (Or.inl (by first | exact n_o_p5 | exact Ne.symm n_p5_o | omega))
        replace A_p6 := A_p6.other W (by first | exact n_p6_p5 | exact Ne.symm n_p5_p6 | omega)
        replace F_touchedBlocks_o := F_touchedBlocks_o.other W (Or.inl (by first | exact n_o_p5 | exact Ne.symm n_p5_o | omega))
        replace A_p7 := A_p7.other W (by first | exact n_p7_p5 | exact Ne.symm n_p5_p7 | omega)
        replace F_blocks_o := F_blocks_o.other W (Or.inl (by first | exact n_o_p5 | exact Ne.symm n_p5_o | omega))
        replace F_touched_o := F_touched_o.other W (Or.inl (by first | exact n_o_p5 | exact Ne.symm n_p5_o | omega))
        clear W
        replace A_p5 : VA Z h143_1 p5 .int ((lset (row L 5) (lget (row L 7) i) (lget (row L 3) (lget (row L 7) i))).map Value.int) := (by rw [lset_map]; exact B)
        refine iinc K S (y := (1 : Int32)) (x := i) (l' := #[.val (.ref o), .val (.int (i + (1 : Int32))), .val (.int (lget (row L 7) i)), .val (.int (lget (row L 5) (lget (row L 7) i))), s4, s5]) rfl rfl rfl d5_144 ?_
        obtain ⟨v144, hv144⟩ : ∃ z, z = i + (1 : Int32) := ⟨_, rfl⟩
        rw [← hv144]
        refine goto K S d5_147 ?_
        have eS : fstep L i = (fsB L (lget (row L 7) i)) := (by rw [fstep, if_neg c31])
        rw [eS, ← hv144] at okn
        refine ih (fsB L (lget (row L 7) i)) v144 (.val (.int (lget (row L 7) i))) (.val (.int (lget (row L 5) (lget (row L 7) i)))) (s4) (s5) h143_1 T S (One.val rfl) (One.val rfl) o_s4 o_s5 okn ⟨E_o, F_elements_o, F_positionOf_o, F_blockOf_o, F_blockStart_o, F_blockEnd_o, F_markedEnd_o, F_origin_o, F_touchedBlocks_o, F_blocks_o, F_touched_o, A_p0, A_p1, A_p2, A_p3, A_p4, A_p5, A_p6, A_p7⟩ (fun L' s1 s2 s3 s4 s5 hc T eL S H => done L' s1 s2 s3 s4 s5 hc T ?_ S H)
        rw [fout, if_pos c7, eS, ← hv144]; exact eL
      have oka := oks_2 ok c31
      refine aload_n K S rfl rfl d5_34 ?_
      refine dup K S rfl d5_35 ?_
      refine getf K S (hwi hw 26 rfl) F_blocks_o d5_36 fun T S => ?_
      refine dup_x1 K S rfl rfl d5_39 ?_
      refine iconst K S (x := (1 : Int32)) rfl d5_40 ?_
      refine iadd K S d5_41 ?_
      refine putf K S (hwi hw 26 rfl) F_blocks_o E_o (Or.inl (hwi hw 27 rfl)) (hwi hw 1 rfl) (ty := .int) (by decide) rfl rfl g_o d5_42 fun T h42_2 W S => ?_
      replace E_o := E_o.wr W
      replace F_elements_o := F_elements_o.other W (Or.inr (slot_ne (C := "com/example/procsh/procsh/service/Partition") (Or.inr (hwi hw 11 rfl)) (Or.inl (hwi hw 27 rfl)) (by decide) (t := .array .int) (t' := .int) (by decide) (by decide)))
      replace A_p0 := A_p0.other W (by first | exact n_p0_o | exact Ne.symm n_o_p0 | omega)
      replace F_positionOf_o := F_positionOf_o.other W (Or.inr (slot_ne (C := "com/example/procsh/procsh/service/Partition") (Or.inr (hwi hw 13 rfl)) (Or.inl (hwi hw 27 rfl)) (by decide) (t := .array .int) (t' := .int) (by decide) (by decide)))
      replace A_p1 := A_p1.other W (by first | exact n_p1_o | exact Ne.symm n_o_p1 | omega)
      replace F_blockOf_o := F_blockOf_o.other W (Or.inr (slot_ne (C := "com/example/procsh/procsh/service/Partition") (Or.inr (hwi hw 15 rfl)) (Or.inl (hwi hw 27 rfl)) (by decide) (t := .array .int) (t' := .int) (by decide) (by decide)))
      replace A_p2 := A_p2.other W (by first | exact n_p2_o | exact Ne.symm n_o_p2 | omega)
      replace F_blockStart_o := F_blockStart_o.other W (Or.inr (slot_ne (C := "com/example/procsh/procsh/service/Partition") (Or.inr (hwi hw 17 rfl)) (Or.inl (hwi hw 27 rfl)) (by decide) (t := .array .int) (t' := .int) (by decide) (by decide)))
      replace A_p3 := A_p3.other W (by first | exact n_p3_o | exact Ne.symm n_o_p3 | omega)
      replace F_blockEnd_o := F_blockEnd_o.other W (Or.inr (slot_ne (C := "com/example/procsh/procsh/service/Partition") (Or.inr (hwi hw 19 rfl)) (Or.inl (hwi hw 27 rfl)) (by decide) (t := .array .int) (t' := .int) (by decide) (by decide)))
      replace A_p4 := A_p4.other W (by first | exact n_p4_o | exact Ne.symm n_o_p4 | omega)
      replace F_markedEnd_o := F_markedEnd_o.other W (Or.inr (slot_ne (C := "com/example/procsh/procsh/service/Partition") (Or.inr (hwi hw 21 rfl)) (Or.inl (hwi hw 27 rfl)) (by decide) (t := .array .int) (t' := .int) (by decide) (by decide)))
      replace A_p5 := A_p5.other W (by first | exact n_p5_o | exact Ne.symm n_o_p5 | omega)
      replace F_origin_o := F_origin_o.other W (Or.inr (slot_ne (C := "com/example/procsh/procsh/service/Partition") (Or.inr (hwi hw 23 rfl)) (Or.inl (hwi hw 27 rfl)) (by decide) (t := .array .int) (t' := .int) (by decide) (by decide)))
      replace A_p6 := A_p6.other W (by first | exact n_p6_o | exact Ne.symm n_o_p6 | omega)
      replace F_touchedBlocks_o := F_touchedBlocks_o.other W (Or.inr (slot_ne (C := "com/example/procsh/procsh/service/Partition") (Or.inr (hwi hw 25 rfl)) (Or.inl (hwi hw 27 rfl)) (by decide) (t := .array .int) (t' := .int) (by decide) (by decide)))
      replace A_p7 := A_p7.other W (by first | exact n_p7_o | exact Ne.symm n_o_p7 | omega)
      replace F_blocks_o := F_blocks_o.same W
      replace F_touched_o := F_touched_o.other W (Or.inr (slot_ne (C := "com/example/procsh/procsh/service/Partition") (Or.inl (hwi hw 41 rfl)) (Or.inl (hwi hw 27 rfl)) (by decide) (t := .int) (t' := .int) (by decide) (by decide)))
      clear W
      refine istore K S (l' := #[.val (.ref o), .val (.int i), .val (.int (lget (row L 7) i)), .val (.int (lget (row L 5) (lget (row L 7) i))), .val (.int (L.2.1)), s5]) (stO o_s4 rfl rfl rfl) d5_45 ?_
      refine aload_n K S rfl rfl d5_47 ?_
      refine getf K S (hwi hw 16 rfl) F_blockStart_o d5_48 fun T S => ?_
      refine iload K S rfl d5_51 ?_
      refine aload_n K S rfl rfl d5_53 ?_
      refine getf K S (hwi hw 16 rfl) F_blockStart_o d5_54 fun T S => ?_
      refine iload_n K S rfl d5_57 ?_
      refine iaload K S (v := .int (lget (row L 3) (lget (row L 7) i))) (i := (lget (row L 7) i).toNatClampNeg) A_p3 (linb_ix (show linb (row L 3) (lget (row L 7) i) = true from (okA_1 oka))) (linb_get (show linb (row L 3) (lget (row L 7) i) = true from (okA_1 oka))) d5_58 ?_
      refine iastore K S (i := (L.2.1).toNatClampNeg) A_p3 (linb_ix (show linb (row L 3) (L.2.1) = true from (okA_2 oka))) (linb_ml (show linb (row L 3) (L.2.1) = true from (okA_2 oka))) g_p3 d5_59 fun T h59_3 W B S => ?_
      replace E_o := E_o.wr W
      replace F_elements_o := F_elements_o.other W (Or.inl (by first | exact n_o_p3 | exact Ne.symm n_p3_o | omega))
      replace A_p0 := A_p0.other W (by first | exact n_p0_p3 | exact Ne.symm n_p3_p0 | omega)
      replace F_positionOf_o := F_positionOf_o.other W (Or.inl (by first | exact n_o_p3 | exact Ne.symm n_p3_o | omega))
      replace A_p1 := A_p1.other W (by first | exact n_p1_p3 | exact Ne.symm n_p3_p1 | omega)
      replace F_blockOf_o := F_blockOf_o.other W (Or.inl (by first | exact n_o_p3 | exact Ne.symm n_p3_o | omega))
      replace A_p2 := A_p2.other W (by first | exact n_p2_p3 | exact Ne.symm n_p3_p2 | omega)
      replace F_blockStart_o := F_blockStart_o.other W (Or.inl (by first | exact n_o_p3 | exact Ne.symm n_p3_o | omega))
      replace F_blockEnd_o := F_blockEnd_o.other W (Or.inl (by first | exact n_o_p3 | exact Ne.symm n_p3_o | omega))
      replace A_p4 := A_p4.other W (by first | exact n_p4_p3 | exact Ne.symm n_p3_p4 | omega)
      replace F_markedEnd_o := F_markedEnd_o.other W (Or.inl (by first | exact n_o_p3 | exact Ne.symm n_p3_o | omega))
      replace A_p5 := A_p5.other W (by first | exact n_p5_p3 | exact Ne.symm n_p3_p5 | omega)
      replace F_origin_o := F_origin_o.other W (Or.inl (by first | exact n_o_p3 | exact Ne.symm n_p3_o | omega))
      replace A_p6 := A_p6.other W (by first | exact n_p6_p3 | exact Ne.symm n_p3_p6 | omega)
      replace F_touchedBlocks_o := F_touchedBlocks_o.other W (Or.inl (by first | exact n_o_p3 | exact Ne.symm n_p3_o | omega))
      replace A_p7 := A_p7.other W (by first | exact n_p7_p3 | exact Ne.symm n_p3_p7 | omega)
      replace F_blocks_o := F_blocks_o.other W (Or.inl (by first | exact n_o_p3 | exact Ne.symm n_p3_o | omega))
      replace F_touched_o := F_touched_o.other W (Or.inl (by first | exact n_o_p3 | exact Ne.symm n_p3_o | omega))
      clear W
      replace A_p3 : VA Z h59_3 p3 .int ((sb1 L (lget (row L 7) i)).map Value.int) := (by rw [sb1, lset_map]; exact B)
      refine aload_n K S rfl rfl d5_60 ?_
      refine getf K S (hwi hw 18 rfl) F_blockEnd_o d5_61 fun T S => ?_
      refine iload K S rfl d5_64 ?_
      refine iload_n K S rfl d5_66 ?_
      refine iastore K S (i := (L.2.1).toNatClampNeg) A_p4 (linb_ix (show linb (row L 4) (L.2.1) = true from (okA_3 oka))) (linb_ml (show linb (row L 4) (L.2.1) = true from (okA_3 oka))) g_p4 d5_67 fun T h67_4 W B S => ?_
      replace E_o := E_o.wr W
      replace F_elements_o := F_elements_o.other W (Or.inl (by first | exact n_o_p4 | exact Ne.symm n_p4_o | omega))
      replace A_p0 := A_p0.other W (by first | exact n_p0_p4 | exact Ne.symm n_p4_p0 | omega)
      replace F_positionOf_o := F_positionOf_o.other W (Or.inl (by first | exact n_o_p4 | exact Ne.symm n_p4_o | omega))
      replace A_p1 := A_p1.other W (by first | exact n_p1_p4 | exact Ne.symm n_p4_p1 | omega)
      replace F_blockOf_o := F_blockOf_o.other W (Or.inl (by first | exact n_o_p4 | exact Ne.symm n_p4_o | omega))
      replace A_p2 := A_p2.other W (by first | exact n_p2_p4 | exact Ne.symm n_p4_p2 | omega)
      replace F_blockStart_o := F_blockStart_o.other W (Or.inl (by first | exact n_o_p4 | exact Ne.symm n_p4_o | omega))
      replace A_p3 := A_p3.other W (by first | exact n_p3_p4 | exact Ne.symm n_p4_p3 | omega)
      replace F_blockEnd_o := F_blockEnd_o.other W (Or.inl (by first | exact n_o_p4 | exact Ne.symm n_p4_o | omega))
      replace F_markedEnd_o := F_markedEnd_o.other W (Or.inl (by first | exact n_o_p4 | exact Ne.symm n_p4_o | omega))
      replace A_p5 := A_p5.other W (by first | exact n_p5_p4 | exact Ne.symm n_p4_p5 | omega)
      replace F_origin_o := F_origin_o.other W (Or.inl (by first | exact n_o_p4 | exact Ne.symm n_p4_o | omega))
      replace A_p6 := A_p6.other W (by first | exact n_p6_p4 | exact Ne.symm n_p4_p6 | omega)
      replace F_touchedBlocks_o := F_touchedBlocks_o.other W (Or.inl (by first | exact n_o_p4 | exact Ne.symm n_p4_o | omega))
      replace A_p7 := A_p7.other W (by first | exact n_p7_p4 | exact Ne.symm n_p4_p7 | omega)
      replace F_blocks_o := F_blocks_o.other W (Or.inl (by first | exact n_o_p4 | exact Ne.symm n_p4_o | omega))
      replace F_touched_o := F_touched_o.other W (Or.inl (by first | exact n_o_p4 | exact Ne.symm n_p4_o | omega))
      clear W
      replace A_p4 : VA Z h67_4 p4 .int ((lset (row L 4) (L.2.1) (lget (row L 5) (lget (row L 7) i))).map Value.int) := (by rw [lset_map]; exact B)
      refine aload_n K S rfl rfl d5_68 ?_
      refine getf K S (hwi hw 20 rfl) F_markedEnd_o d5_69 fun T S => ?_
      refine iload K S rfl d5_72 ?_
      refine aload_n K S rfl rfl d5_74 ?_
      refine getf K S (hwi hw 16 rfl) F_blockStart_o d5_75 fun T S => ?_
      refine iload K S rfl d5_78 ?_
      refine iaload K S (v := .int (lget (sb1 L (lget (row L 7) i)) (L.2.1))) (i := (L.2.1).toNatClampNeg) A_p3 (linb_ix (show linb (sb1 L (lget (row L 7) i)) (L.2.1) = true from (okA_6 oka))) (linb_get (show linb (sb1 L (lget (row L 7) i)) (L.2.1) = true from (okA_6 oka))) d5_80 ?_
      refine iastore K S (i := (L.2.1).toNatClampNeg) A_p5 (linb_ix (show linb (row L 5) (L.2.1) = true from (okA_4 oka))) (linb_ml (show linb (row L 5) (L.2.1) = true from (okA_4 oka))) g_p5 d5_81 fun T h81_5 W B S => ?_
      replace E_o := E_o.wr W
      replace F_elements_o := F_elements_o.other W (Or.inl (by first | exact n_o_p5 | exact Ne.symm n_p5_o | omega))
      replace A_p0 := A_p0.other W (by first | exact n_p0_p5 | exact Ne.symm n_p5_p0 | omega)
      replace F_positionOf_o := F_positionOf_o.other W (Or.inl (by first | exact n_o_p5 | exact Ne.symm n_p5_o | omega))
      replace A_p1 := A_p1.other W (by first | exact n_p1_p5 | exact Ne.symm n_p5_p1 | omega)
      replace F_blockOf_o := F_blockOf_o.other W (Or.inl (by first | exact n_o_p5 | exact Ne.symm n_p5_o | omega))
      replace A_p2 := A_p2.other W (by first | exact n_p2_p5 | exact Ne.symm n_p5_p2 | omega)
      replace F_blockStart_o := F_blockStart_o.other W (Or.inl (by first | exact n_o_p5 | exact Ne.symm n_p5_o | omega))
      replace A_p3 := A_p3.other W (by first | exact n_p3_p5 | exact Ne.symm n_p5_p3 | omega)
      replace F_blockEnd_o := F_blockEnd_o.other W (Or.inl (by first | exact n_o_p5 | exact Ne.symm n_p5_o | omega))
      replace A_p4 := A_p4.other W (by first | exact n_p4_p5 | exact Ne.symm n_p5_p4 | omega)
      replace F_markedEnd_o := F_markedEnd_o.other W (Or.inl (by first | exact n_o_p5 | exact Ne.symm n_p5_o | omega))
      replace F_origin_o := F_origin_o.other W (Or.inl (by first | exact n_o_p5 | exact Ne.symm n_p5_o | omega))
      replace A_p6 := A_p6.other W (by first | exact n_p6_p5 | exact Ne.symm n_p5_p6 | omega)
      replace F_touchedBlocks_o := F_touchedBlocks_o.other W (Or.inl (by first | exact n_o_p5 | exact Ne.symm n_p5_o | omega))
      replace A_p7 := A_p7.other W (by first | exact n_p7_p5 | exact Ne.symm n_p5_p7 | omega)
      replace F_blocks_o := F_blocks_o.other W (Or.inl (by first | exact n_o_p5 | exact Ne.symm n_p5_o | omega))
      replace F_touched_o := F_touched_o.other W (Or.inl (by first | exact n_o_p5 | exact Ne.symm n_p5_o | omega))
      clear W
      replace A_p5 : VA Z h81_5 p5 .int ((lset (row L 5) (L.2.1) (lget (sb1 L (lget (row L 7) i)) (L.2.1))).map Value.int) := (by rw [lset_map]; exact B)
      refine aload_n K S rfl rfl d5_82 ?_
      refine getf K S (hwi hw 22 rfl) F_origin_o d5_83 fun T S => ?_
      refine iload K S rfl d5_86 ?_
      refine iload_n K S rfl d5_88 ?_
      refine iastore K S (i := (L.2.1).toNatClampNeg) A_p6 (linb_ix (show linb (row L 6) (L.2.1) = true from (okA_5 oka))) (linb_ml (show linb (row L 6) (L.2.1) = true from (okA_5 oka))) g_p6 d5_89 fun T h89_6 W B S => ?_
      replace E_o := E_o.wr W
      replace F_elements_o := F_elements_o.other W (Or.inl (by first | exact n_o_p6 | exact Ne.symm n_p6_o | omega))
      replace A_p0 := A_p0.other W (by first | exact n_p0_p6 | exact Ne.symm n_p6_p0 | omega)
      replace F_positionOf_o := F_positionOf_o.other W (Or.inl (by first | exact n_o_p6 | exact Ne.symm n_p6_o | omega))
      replace A_p1 := A_p1.other W (by first | exact n_p1_p6 | exact Ne.symm n_p6_p1 | omega)
      replace F_blockOf_o := F_blockOf_o.other W (Or.inl (by first | exact n_o_p6 | exact Ne.symm n_p6_o | omega))
      replace A_p2 := A_p2.other W (by first | exact n_p2_p6 | exact Ne.symm n_p6_p2 | omega)
      replace F_blockStart_o := F_blockStart_o.other W (Or.inl (by first | exact n_o_p6 | exact Ne.symm n_p6_o | omega))
      replace A_p3 := A_p3.other W (by first | exact n_p3_p6 | exact Ne.symm n_p6_p3 | omega)
      replace F_blockEnd_o := F_blockEnd_o.other W (Or.inl (by first | exact n_o_p6 | exact Ne.symm n_p6_o | omega))
      replace A_p4 := A_p4.other W (by first | exact n_p4_p6 | exact Ne.symm n_p6_p4 | omega)
      replace F_markedEnd_o := F_markedEnd_o.other W (Or.inl (by first | exact n_o_p6 | exact Ne.symm n_p6_o | omega))
      replace A_p5 := A_p5.other W (by first | exact n_p5_p6 | exact Ne.symm n_p6_p5 | omega)
      replace F_origin_o := F_origin_o.other W (Or.inl (by first | exact n_o_p6 | exact Ne.symm n_p6_o | omega))
      replace F_touchedBlocks_o := F_touchedBlocks_o.other W (Or.inl (by first | exact n_o_p6 | exact Ne.symm n_p6_o | omega))
      replace A_p7 := A_p7.other W (by first | exact n_p7_p6 | exact Ne.symm n_p6_p7 | omega)
      replace F_blocks_o := F_blocks_o.other W (Or.inl (by first | exact n_o_p6 | exact Ne.symm n_p6_o | omega))
      replace F_touched_o := F_touched_o.other W (Or.inl (by first | exact n_o_p6 | exact Ne.symm n_p6_o | omega))
      clear W
      replace A_p6 : VA Z h89_6 p6 .int ((lset (row L 6) (L.2.1) (lget (row L 7) i)).map Value.int) := (by rw [lset_map]; exact B)
      refine aload_n K S rfl rfl d5_90 ?_
      refine getf K S (hwi hw 16 rfl) F_blockStart_o d5_91 fun T S => ?_
      refine iload K S rfl d5_94 ?_
      refine iaload K S (v := .int (lget (sb1 L (lget (row L 7) i)) (L.2.1))) (i := (L.2.1).toNatClampNeg) A_p3 (linb_ix (show linb (sb1 L (lget (row L 7) i)) (L.2.1) = true from (okA_6 oka))) (linb_get (show linb (sb1 L (lget (row L 7) i)) (L.2.1) = true from (okA_6 oka))) d5_96 ?_
      refine istore K S (l' := #[.val (.ref o), .val (.int i), .val (.int (lget (row L 7) i)), .val (.int (lget (row L 5) (lget (row L 7) i))), .val (.int (L.2.1)), .val (.int (lget (sb1 L (lget (row L 7) i)) (L.2.1)))]) (stO o_s5 rfl rfl rfl) d5_97 ?_
      have inn : ∀ (n : Nat) (j : Int32) (b : List Int32) (hc : Heap) (T : State), St n0 p l e ({ frames := 0, cells := 0, slots := 0, locals := 0 } : Room) s m #[.ref o] below meth c 0 0 hc T → okinn n (row L 0) L.2.1 j (lget (row L 5) (lget (row L 7) i)) b = true → (Exa Z hc o "com/example/procsh/procsh/service/Partition" ∧ Fld Z hc o "com/example/procsh/procsh/service/Partition" "elements" "[I" (.ref p0) ∧ Fld Z hc o "com/example/procsh/procsh/service/Partition" "positionOf" "[I" (.ref p1) ∧ Fld Z hc o "com/example/procsh/procsh/service/Partition" "blockOf" "[I" (.ref p2) ∧ Fld Z hc o "com/example/procsh/procsh/service/Partition" "blockStart" "[I" (.ref p3) ∧ Fld Z hc o "com/example/procsh/procsh/service/Partition" "blockEnd" "[I" (.ref p4) ∧ Fld Z hc o "com/example/procsh/procsh/service/Partition" "markedEnd" "[I" (.ref p5) ∧ Fld Z hc o "com/example/procsh/procsh/service/Partition" "origin" "[I" (.ref p6) ∧ Fld Z hc o "com/example/procsh/procsh/service/Partition" "touchedBlocks" "[I" (.ref p7) ∧ Fld Z hc o "com/example/procsh/procsh/service/Partition" "blocks" "I" (.int ((L.2.1) + (1 : Int32))) ∧ Fld Z hc o "com/example/procsh/procsh/service/Partition" "touched" "I" (.int (L.2.2)) ∧ VA Z hc p0 .int ((row L 0).map Value.int) ∧ VA Z hc p1 .int ((row L 1).map Value.int) ∧ VA Z hc p2 .int (b.map Value.int) ∧ VA Z hc p3 .int ((sb1 L (lget (row L 7) i)).map Value.int) ∧ VA Z hc p4 .int ((lset (row L 4) (L.2.1) (lget (row L 5) (lget (row L 7) i))).map Value.int) ∧ VA Z hc p5 .int ((lset (row L 5) (L.2.1) (lget (sb1 L (lget (row L 7) i)) (L.2.1))).map Value.int) ∧ VA Z hc p6 .int ((lset (row L 6) (L.2.1) (lget (row L 7) i)).map Value.int) ∧ VA Z hc p7 .int ((row L 7).map Value.int)) → (∀ (j' : Int32) (hc : Heap) (T : State), St n0 p l e ({ frames := 0, cells := 0, slots := 0, locals := 0 } : Room) s m #[.ref o] below meth c 0 0 hc T → (Exa Z hc o "com/example/procsh/procsh/service/Partition" ∧ Fld Z hc o "com/example/procsh/procsh/service/Partition" "elements" "[I" (.ref p0) ∧ Fld Z hc o "com/example/procsh/procsh/service/Partition" "positionOf" "[I" (.ref p1) ∧ Fld Z hc o "com/example/procsh/procsh/service/Partition" "blockOf" "[I" (.ref p2) ∧ Fld Z hc o "com/example/procsh/procsh/service/Partition" "blockStart" "[I" (.ref p3) ∧ Fld Z hc o "com/example/procsh/procsh/service/Partition" "blockEnd" "[I" (.ref p4) ∧ Fld Z hc o "com/example/procsh/procsh/service/Partition" "markedEnd" "[I" (.ref p5) ∧ Fld Z hc o "com/example/procsh/procsh/service/Partition" "origin" "[I" (.ref p6) ∧ Fld Z hc o "com/example/procsh/procsh/service/Partition" "touchedBlocks" "[I" (.ref p7) ∧ Fld Z hc o "com/example/procsh/procsh/service/Partition" "blocks" "I" (.int ((L.2.1) + (1 : Int32))) ∧ Fld Z hc o "com/example/procsh/procsh/service/Partition" "touched" "I" (.int (L.2.2)) ∧ VA Z hc p0 .int ((row L 0).map Value.int) ∧ VA Z hc p1 .int ((row L 1).map Value.int) ∧ VA Z hc p2 .int ((finn n (row L 0) L.2.1 j (lget (row L 5) (lget (row L 7) i)) b).map Value.int) ∧ VA Z hc p3 .int ((sb1 L (lget (row L 7) i)).map Value.int) ∧ VA Z hc p4 .int ((lset (row L 4) (L.2.1) (lget (row L 5) (lget (row L 7) i))).map Value.int) ∧ VA Z hc p5 .int ((lset (row L 5) (L.2.1) (lget (sb1 L (lget (row L 7) i)) (L.2.1))).map Value.int) ∧ VA Z hc p6 .int ((lset (row L 6) (L.2.1) (lget (row L 7) i)).map Value.int) ∧ VA Z hc p7 .int ((row L 7).map Value.int)) → Wp n0 p e ({ frames := 0, cells := 0, slots := 0, locals := 0 } : Room) s below (Ef none (fun h' => PK Z h' o p0 p1 p2 p3 p4 p5 p6 p7 (fspl L9))) T (mkF m 125 #[.val (.ref o), .val (.int i), .val (.int (lget (row L 7) i)), .val (.int (lget (row L 5) (lget (row L 7) i))), .val (.int (L.2.1)), .val (.int j')] [])) → Wp n0 p e ({ frames := 0, cells := 0, slots := 0, locals := 0 } : Room) s below (Ef none (fun h' => PK Z h' o p0 p1 p2 p3 p4 p5 p6 p7 (fspl L9))) T (mkF m 99 #[.val (.ref o), .val (.int i), .val (.int (lget (row L 7) i)), .val (.int (lget (row L 5) (lget (row L 7) i))), .val (.int (L.2.1)), .val (.int j)] []) := by
        intro n
        induction n with
        | zero => intro j b hc T S ok; cases ok
        | succ n ih2 =>
          intro j b hc T S ok hF done2
          have hF0 := hF
          obtain ⟨E_o, F_elements_o, F_positionOf_o, F_blockOf_o, F_blockStart_o, F_blockEnd_o, F_markedEnd_o, F_origin_o, F_touchedBlocks_o, F_blocks_o, F_touched_o, A_p0, A_p1, A_p2, A_p3, A_p4, A_p5, A_p6, A_p7⟩ := hF
          refine iload K S rfl d5_99 ?_
          refine iload_n K S rfl d5_101 ?_
          refine icmp_ge K S d5_102 (fun c102 => ?_) (fun c102 => ?_)
          · rw [finn, if_neg c102] at done2
            exact done2 j _ T S hF0
          rw [okinn, if_pos c102, Bool.and_eq_true, Bool.and_eq_true] at ok
          obtain ⟨⟨q1, q2⟩, q3⟩ := ok
          rw [finn, if_pos c102] at done2
          refine aload_n K S rfl rfl d5_105 ?_
          refine getf K S (hwi hw 14 rfl) F_blockOf_o d5_106 fun T S => ?_
          refine aload_n K S rfl rfl d5_109 ?_
          refine getf K S (hwi hw 10 rfl) F_elements_o d5_110 fun T S => ?_
          refine iload K S rfl d5_113 ?_
          refine iaload K S (v := .int (lget (row L 0) j)) (i := j.toNatClampNeg) A_p0 (linb_ix (show linb (row L 0) j = true from q1)) (linb_get (show linb (row L 0) j = true from q1)) d5_115 ?_
          refine iload K S rfl d5_116 ?_
          refine iastore K S (i := (lget (row L 0) j).toNatClampNeg) A_p2 (linb_ix (show linb b (lget (row L 0) j) = true from q2)) (linb_ml (show linb b (lget (row L 0) j) = true from q2)) g_p2 d5_118 fun T h118_7 W B S => ?_
          replace E_o := E_o.wr W
          replace F_elements_o := F_elements_o.other W (Or.inl (by first | exact n_o_p2 | exact Ne.symm n_p2_o | omega))
          replace A_p0 := A_p0.other W (by first | exact n_p0_p2 | exact Ne.symm n_p2_p0 | omega)
          replace F_positionOf_o := F_positionOf_o.other W (Or.inl (by first | exact n_o_p2 | exact Ne.symm n_p2_o | omega))
          replace A_p1 := A_p1.other W (by first | exact n_p1_p2 | exact Ne.symm n_p2_p1 | omega)
          replace F_blockOf_o := F_blockOf_o.other W (Or.inl (by first | exact n_o_p2 | exact Ne.symm n_p2_o | omega))
          replace F_blockStart_o := F_blockStart_o.other W (Or.inl (by first | exact n_o_p2 | exact Ne.symm n_p2_o | omega))
          replace A_p3 := A_p3.other W (by first | exact n_p3_p2 | exact Ne.symm n_p2_p3 | omega)
          replace F_blockEnd_o := F_blockEnd_o.other W (Or.inl (by first | exact n_o_p2 | exact Ne.symm n_p2_o | omega))
          replace A_p4 := A_p4.other W (by first | exact n_p4_p2 | exact Ne.symm n_p2_p4 | omega)
          replace F_markedEnd_o := F_markedEnd_o.other W (Or.inl (by first | exact n_o_p2 | exact Ne.symm n_p2_o | omega))
          replace A_p5 := A_p5.other W (by first | exact n_p5_p2 | exact Ne.symm n_p2_p5 | omega)
          replace F_origin_o := F_origin_o.other W (Or.inl (by first | exact n_o_p2 | exact Ne.symm n_p2_o | omega))
          replace A_p6 := A_p6.other W (by first | exact n_p6_p2 | exact Ne.symm n_p2_p6 | omega)
          replace F_touchedBlocks_o := F_touchedBlocks_o.other W (Or.inl (by first | exact n_o_p2 | exact Ne.symm n_p2_o | omega))
          replace A_p7 := A_p7.other W (by first | exact n_p7_p2 | exact Ne.symm n_p2_p7 | omega)
          replace F_blocks_o := F_blocks_o.other W (Or.inl (by first | exact n_o_p2 | exact Ne.symm n_p2_o | omega))
          replace F_touched_o := F_touched_o.other W (Or.inl (by first | exact n_o_p2 | exact Ne.symm n_p2_o | omega))
          clear W
          replace A_p2 : VA Z h118_7 p2 .int ((lset b (lget (row L 0) j) (L.2.1)).map Value.int) := (by rw [lset_map]; exact B)
          refine iinc K S (y := (1 : Int32)) (x := j) (l' := #[.val (.ref o), .val (.int i), .val (.int (lget (row L 7) i)), .val (.int (lget (row L 5) (lget (row L 7) i))), .val (.int (L.2.1)), .val (.int (j + (1 : Int32)))]) rfl rfl rfl d5_119 ?_
          obtain ⟨v119, hv119⟩ : ∃ z, z = j + (1 : Int32) := ⟨_, rfl⟩
          rw [← hv119]
          refine goto K S d5_122 ?_
          refine ih2 _ _ h118_7 T S ?_ ⟨E_o, F_elements_o, F_positionOf_o, F_blockOf_o, F_blockStart_o, F_blockEnd_o, F_markedEnd_o, F_origin_o, F_touchedBlocks_o, F_blocks_o, F_touched_o, A_p0, A_p1, A_p2, A_p3, A_p4, A_p5, A_p6, A_p7⟩ ?_
          · rw [hv119]; exact q3
          rw [hv119]; exact done2
      refine inn 8 _ _ _ T S (okA_10 oka) ⟨E_o, F_elements_o, F_positionOf_o, F_blockOf_o, F_blockStart_o, F_blockEnd_o, F_markedEnd_o, F_origin_o, F_touchedBlocks_o, F_blocks_o, F_touched_o, A_p0, A_p1, A_p2, A_p3, A_p4, A_p5, A_p6, A_p7⟩ (fun j' hc T S hF => ?_)
      obtain ⟨E_o, F_elements_o, F_positionOf_o, F_blockOf_o, F_blockStart_o, F_blockEnd_o, F_markedEnd_o, F_origin_o, F_touchedBlocks_o, F_blocks_o, F_touched_o, A_p0, A_p1, A_p2, A_p3, A_p4, A_p5, A_p6, A_p7⟩ := hF
      refine aload_n K S rfl rfl d5_125 ?_
      refine getf K S (hwi hw 16 rfl) F_blockStart_o d5_126 fun T S => ?_
      refine iload_n K S rfl d5_129 ?_
      refine iload_n K S rfl d5_130 ?_
      refine iastore K S (i := (lget (row L 7) i).toNatClampNeg) A_p3 (linb_ix (show linb (sb1 L (lget (row L 7) i)) (lget (row L 7) i) = true from (okA_7 oka))) (linb_ml (show linb (sb1 L (lget (row L 7) i)) (lget (row L 7) i) = true from (okA_7 oka))) g_p3 d5_131 fun T h131_8 W B S => ?_
      replace E_o := E_o.wr W
      replace F_elements_o := F_elements_o.other W (Or.inl (by first | exact n_o_p3 | exact Ne.symm n_p3_o | omega))
      replace A_p0 := A_p0.other W (by first | exact n_p0_p3 | exact Ne.symm n_p3_p0 | omega)
      replace F_positionOf_o := F_positionOf_o.other W (Or.inl (by first | exact n_o_p3 | exact Ne.symm n_p3_o | omega))
      replace A_p1 := A_p1.other W (by first | exact n_p1_p3 | exact Ne.symm n_p3_p1 | omega)
      replace F_blockOf_o := F_blockOf_o.other W (Or.inl (by first | exact n_o_p3 | exact Ne.symm n_p3_o | omega))
      replace A_p2 := A_p2.other W (by first | exact n_p2_p3 | exact Ne.symm n_p3_p2 | omega)
      replace F_blockStart_o := F_blockStart_o.other W (Or.inl (by first | exact n_o_p3 | exact Ne.symm n_p3_o | omega))
      replace F_blockEnd_o := F_blockEnd_o.other W (Or.inl (by first | exact n_o_p3 | exact Ne.symm n_p3_o | omega))
      replace A_p4 := A_p4.other W (by first | exact n_p4_p3 | exact Ne.symm n_p3_p4 | omega)
      replace F_markedEnd_o := F_markedEnd_o.other W (Or.inl (by first | exact n_o_p3 | exact Ne.symm n_p3_o | omega))
      replace A_p5 := A_p5.other W (by first | exact n_p5_p3 | exact Ne.symm n_p3_p5 | omega)
      replace F_origin_o := F_origin_o.other W (Or.inl (by first | exact n_o_p3 | exact Ne.symm n_p3_o | omega))
      replace A_p6 := A_p6.other W (by first | exact n_p6_p3 | exact Ne.symm n_p3_p6 | omega)
      replace F_touchedBlocks_o := F_touchedBlocks_o.other W (Or.inl (by first | exact n_o_p3 | exact Ne.symm n_p3_o | omega))
      replace A_p7 := A_p7.other W (by first | exact n_p7_p3 | exact Ne.symm n_p3_p7 | omega)
      replace F_blocks_o := F_blocks_o.other W (Or.inl (by first | exact n_o_p3 | exact Ne.symm n_p3_o | omega))
      replace F_touched_o := F_touched_o.other W (Or.inl (by first | exact n_o_p3 | exact Ne.symm n_p3_o | omega))
      clear W
      replace A_p3 : VA Z h131_8 p3 .int ((lset (sb1 L (lget (row L 7) i)) (lget (row L 7) i) (lget (row L 5) (lget (row L 7) i))).map Value.int) := (by rw [lset_map]; exact B)
      refine aload_n K S rfl rfl d5_132 ?_
      refine getf K S (hwi hw 20 rfl) F_markedEnd_o d5_133 fun T S => ?_
      refine iload_n K S rfl d5_136 ?_
      refine aload_n K S rfl rfl d5_137 ?_
      refine getf K S (hwi hw 16 rfl) F_blockStart_o d5_138 fun T S => ?_
      refine iload_n K S rfl d5_141 ?_
      refine iaload K S (v := .int (lget (lset (sb1 L (lget (row L 7) i)) (lget (row L 7) i) (lget (row L 5) (lget (row L 7) i))) (lget (row L 7) i))) (i := (lget (row L 7) i).toNatClampNeg) A_p3 (linb_ix (show linb (lset (sb1 L (lget (row L 7) i)) (lget (row L 7) i) (lget (row L 5) (lget (row L 7) i))) (lget (row L 7) i) = true from (okA_8 oka))) (linb_get (show linb (lset (sb1 L (lget (row L 7) i)) (lget (row L 7) i) (lget (row L 5) (lget (row L 7) i))) (lget (row L 7) i) = true from (okA_8 oka))) d5_142 ?_
      refine iastore K S (i := (lget (row L 7) i).toNatClampNeg) A_p5 (linb_ix (show linb (lset (row L 5) (L.2.1) (lget (sb1 L (lget (row L 7) i)) (L.2.1))) (lget (row L 7) i) = true from (okA_9 oka))) (linb_ml (show linb (lset (row L 5) (L.2.1) (lget (sb1 L (lget (row L 7) i)) (L.2.1))) (lget (row L 7) i) = true from (okA_9 oka))) g_p5 d5_143 fun T h143_9 W B S => ?_
      replace E_o := E_o.wr W
      replace F_elements_o := F_elements_o.other W (Or.inl (by first | exact n_o_p5 | exact Ne.symm n_p5_o | omega))
      replace A_p0 := A_p0.other W (by first | exact n_p0_p5 | exact Ne.symm n_p5_p0 | omega)
      replace F_positionOf_o := F_positionOf_o.other W (Or.inl (by first | exact n_o_p5 | exact Ne.symm n_p5_o | omega))
      replace A_p1 := A_p1.other W (by first | exact n_p1_p5 | exact Ne.symm n_p5_p1 | omega)
      replace F_blockOf_o := F_blockOf_o.other W (Or.inl (by first | exact n_o_p5 | exact Ne.symm n_p5_o | omega))
      replace A_p2 := A_p2.other W (by first | exact n_p2_p5 | exact Ne.symm n_p5_p2 | omega)
      replace F_blockStart_o := F_blockStart_o.other W (Or.inl (by first | exact n_o_p5 | exact Ne.symm n_p5_o | omega))
      replace A_p3 := A_p3.other W (by first | exact n_p3_p5 | exact Ne.symm n_p5_p3 | omega)
      replace F_blockEnd_o := F_blockEnd_o.other W (Or.inl (by first | exact n_o_p5 | exact Ne.symm n_p5_o | omega))
      replace A_p4 := A_p4.other W (by first | exact n_p4_p5 | exact Ne.symm n_p5_p4 | omega)
      replace F_markedEnd_o := F_markedEnd_o.other W (Or.inl (by first | exact n_o_p5 | exact Ne.symm n_p5_o | omega))
      replace F_origin_o := F_origin_o.other W (Or.inl (by first | exact n_o_p5 | exact Ne.symm n_p5_o | omega))
      replace A_p6 := A_p6.other W (by first | exact n_p6_p5 | exact Ne.symm n_p5_p6 | omega)
      replace F_touchedBlocks_o := F_touchedBlocks_o.other W (Or.inl (by first | exact n_o_p5 | exact Ne.symm n_p5_o | omega))
      replace A_p7 := A_p7.other W (by first | exact n_p7_p5 | exact Ne.symm n_p5_p7 | omega)
      replace F_blocks_o := F_blocks_o.other W (Or.inl (by first | exact n_o_p5 | exact Ne.symm n_p5_o | omega))
      replace F_touched_o := F_touched_o.other W (Or.inl (by first | exact n_o_p5 | exact Ne.symm n_p5_o | omega))
      clear W
      replace A_p5 : VA Z h143_9 p5 .int ((lset (lset (row L 5) (L.2.1) (lget (sb1 L (lget (row L 7) i)) (L.2.1))) (lget (row L 7) i) (lget (lset (sb1 L (lget (row L 7) i)) (lget (row L 7) i) (lget (row L 5) (lget (row L 7) i))) (lget (row L 7) i))).map Value.int) := (by rw [lset_map]; exact B)
      refine iinc K S (y := (1 : Int32)) (x := i) (l' := #[.val (.ref o), .val (.int (i + (1 : Int32))), .val (.int (lget (row L 7) i)), .val (.int (lget (row L 5) (lget (row L 7) i))), .val (.int (L.2.1)), .val (.int j')]) rfl rfl rfl d5_144 ?_
      obtain ⟨v144, hv144⟩ : ∃ z, z = i + (1 : Int32) := ⟨_, rfl⟩
      rw [← hv144]
      refine goto K S d5_147 ?_
      have eS : fstep L i = (fsA L (lget (row L 7) i) (lget (row L 5) (lget (row L 7) i))) := (by rw [fstep, if_pos c31])
      rw [eS, ← hv144] at okn
      refine ih (fsA L (lget (row L 7) i) (lget (row L 5) (lget (row L 7) i))) v144 (.val (.int (lget (row L 7) i))) (.val (.int (lget (row L 5) (lget (row L 7) i)))) (.val (.int (L.2.1))) (.val (.int j')) h143_9 T S (One.val rfl) (One.val rfl) (One.val rfl) (One.val rfl) okn ⟨E_o, F_elements_o, F_positionOf_o, F_blockOf_o, F_blockStart_o, F_blockEnd_o, F_markedEnd_o, F_origin_o, F_touchedBlocks_o, F_blocks_o, F_touched_o, A_p0, A_p1, A_p2, A_p3, A_p4, A_p5, A_p6, A_p7⟩ (fun L' s1 s2 s3 s4 s5 hc T eL S H => done L' s1 s2 s3 s4 s5 hc T ?_ S H)
      rw [fout, if_pos c7, eS, ← hv144]; exact eL
  refine iconst K S (x := (0 : Int32)) rfl d5_0 ?_
  refine istore_n K S (l' := #[.val (.ref o), .val (.int (0 : Int32)), .unset, .unset, .unset, .unset]) rfl d5_1 ?_
  refine loop 8 L9 0 _ _ _ _ h T S One.u One.u One.u One.u ok H (fun L' s1 s2 s3 s4 s5 hc T eL S H => ?_)
  obtain ⟨E_o, F_elements_o, F_positionOf_o, F_blockOf_o, F_blockStart_o, F_blockEnd_o, F_markedEnd_o, F_origin_o, F_touchedBlocks_o, F_blocks_o, F_touched_o, A_p0, A_p1, A_p2, A_p3, A_p4, A_p5, A_p6, A_p7⟩ := H
  refine aload_n K S rfl rfl d5_150 ?_
  refine iconst K S (x := (0 : Int32)) rfl d5_151 ?_
  refine putf K S (hwi hw 40 rfl) F_touched_o E_o (Or.inl (hwi hw 41 rfl)) (hwi hw 1 rfl) (ty := .int) (by decide) rfl rfl g_o d5_152 fun T h152_10 W S => ?_
  replace E_o := E_o.wr W
  replace F_elements_o := F_elements_o.other W (Or.inr (slot_ne (C := "com/example/procsh/procsh/service/Partition") (Or.inr (hwi hw 11 rfl)) (Or.inl (hwi hw 41 rfl)) (by decide) (t := .array .int) (t' := .int) (by decide) (by decide)))
  replace A_p0 := A_p0.other W (by first | exact n_p0_o | exact Ne.symm n_o_p0 | omega)
  replace F_positionOf_o := F_positionOf_o.other W (Or.inr (slot_ne (C := "com/example/procsh/procsh/service/Partition") (Or.inr (hwi hw 13 rfl)) (Or.inl (hwi hw 41 rfl)) (by decide) (t := .array .int) (t' := .int) (by decide) (by decide)))
  replace A_p1 := A_p1.other W (by first | exact n_p1_o | exact Ne.symm n_o_p1 | omega)
  replace F_blockOf_o := F_blockOf_o.other W (Or.inr (slot_ne (C := "com/example/procsh/procsh/service/Partition") (Or.inr (hwi hw 15 rfl)) (Or.inl (hwi hw 41 rfl)) (by decide) (t := .array .int) (t' := .int) (by decide) (by decide)))
  replace A_p2 := A_p2.other W (by first | exact n_p2_o | exact Ne.symm n_o_p2 | omega)
  replace F_blockStart_o := F_blockStart_o.other W (Or.inr (slot_ne (C := "com/example/procsh/procsh/service/Partition") (Or.inr (hwi hw 17 rfl)) (Or.inl (hwi hw 41 rfl)) (by decide) (t := .array .int) (t' := .int) (by decide) (by decide)))
  replace A_p3 := A_p3.other W (by first | exact n_p3_o | exact Ne.symm n_o_p3 | omega)
  replace F_blockEnd_o := F_blockEnd_o.other W (Or.inr (slot_ne (C := "com/example/procsh/procsh/service/Partition") (Or.inr (hwi hw 19 rfl)) (Or.inl (hwi hw 41 rfl)) (by decide) (t := .array .int) (t' := .int) (by decide) (by decide)))
  replace A_p4 := A_p4.other W (by first | exact n_p4_o | exact Ne.symm n_o_p4 | omega)
  replace F_markedEnd_o := F_markedEnd_o.other W (Or.inr (slot_ne (C := "com/example/procsh/procsh/service/Partition") (Or.inr (hwi hw 21 rfl)) (Or.inl (hwi hw 41 rfl)) (by decide) (t := .array .int) (t' := .int) (by decide) (by decide)))
  replace A_p5 := A_p5.other W (by first | exact n_p5_o | exact Ne.symm n_o_p5 | omega)
  replace F_origin_o := F_origin_o.other W (Or.inr (slot_ne (C := "com/example/procsh/procsh/service/Partition") (Or.inr (hwi hw 23 rfl)) (Or.inl (hwi hw 41 rfl)) (by decide) (t := .array .int) (t' := .int) (by decide) (by decide)))
  replace A_p6 := A_p6.other W (by first | exact n_p6_o | exact Ne.symm n_o_p6 | omega)
  replace F_touchedBlocks_o := F_touchedBlocks_o.other W (Or.inr (slot_ne (C := "com/example/procsh/procsh/service/Partition") (Or.inr (hwi hw 25 rfl)) (Or.inl (hwi hw 41 rfl)) (by decide) (t := .array .int) (t' := .int) (by decide) (by decide)))
  replace A_p7 := A_p7.other W (by first | exact n_p7_o | exact Ne.symm n_o_p7 | omega)
  replace F_blocks_o := F_blocks_o.other W (Or.inr (slot_ne (C := "com/example/procsh/procsh/service/Partition") (Or.inl (hwi hw 27 rfl)) (Or.inl (hwi hw 41 rfl)) (by decide) (t := .int) (t' := .int) (by decide) (by decide)))
  replace F_touched_o := F_touched_o.same W
  clear W
  refine retv K S (by decide) (by decide) d5_155 ?_
  exact ⟨rfl, by rw [fspl, ← eL]; exact ⟨E_o, F_elements_o, F_positionOf_o, F_blockOf_o, F_blockStart_o, F_blockEnd_o, F_markedEnd_o, F_origin_o, F_touchedBlocks_o, F_blocks_o, F_touched_o, A_p0, A_p1, A_p2, A_p3, A_p4, A_p5, A_p6, A_p7⟩⟩

theorem d10_0 : Dc prog_68_method_3_code 0 (.aload_n 0) 1 1 := ⟨by decide +kernel, rfl⟩
theorem d10_1 : Dc prog_68_method_3_code 1 (.getfield 16) 3 4 := ⟨by decide +kernel, rfl⟩
theorem d10_4 : Dc prog_68_method_3_code 4 (.iload_n 1) 1 5 := ⟨by decide +kernel, rfl⟩
theorem d10_5 : Dc prog_68_method_3_code 5 (.iaload) 1 6 := ⟨by decide +kernel, rfl⟩
theorem d10_6 : Dc prog_68_method_3_code 6 (.ireturn) 1 7 := ⟨by decide +kernel, rfl⟩
theorem ef_blockOf (m : MethodId) (o : Addr) (p0 : Addr) (p1 : Addr) (p2 : Addr) (p3 : Addr) (p4 : Addr) (p5 : Addr) (p6 : Addr) (p7 : Addr) (q : Int32) (L : PS) : entryFrame m #[.ref o, .int q] 2 = mkF m 0 #[.val (.ref o), .val (.int q)] [] := by first | (simp [entryFrame, mkF, argsToLocals, Value.category]; done) | rfl
set_option maxRecDepth 65536 in
set_option maxHeartbeats 40000000 in
theorem m_blockOf (l : Launch) (Z : State) (a0 : Array Value) (hw : ∀ d ∈ tables_1, d.before a0 Z = true) (n0 : Nat) (o : Addr) (p0 : Addr) (p1 : Addr) (p2 : Addr) (p3 : Addr) (p4 : Addr) (p5 : Addr) (p6 : Addr) (p7 : Addr) (q : Int32) (L : PS) (h : Heap) (hn : n0 ≤ h.size) (H : PK Z h o p0 p1 p2 p3 p4 p5 p6 p7 L) (ok : linb (row L 2) q = true) : Met n0 l Z (⟨"com/example/procsh/procsh/service/Partition", "blockOf", "(I)I"⟩ : MethodName) prog_68_method_3_code 2 (some .int) ({ frames := 0, cells := 0, slots := 0, locals := 0 } : Room) [] #[.ref o, .int q] h (Pu (some (.int (lget (row L 2) q))) h) := by
  refine enter (plainFor_of_name (by first | (simp [plainName, overriddenIn]; done) | decide +kernel)) (fun m => ef_blockOf m o p0 p1 p2 p3 p4 p5 p6 p7 q L) hn ?_
  intro p e s m below meth c T K S
  obtain ⟨E_o, F_elements_o, F_positionOf_o, F_blockOf_o, F_blockStart_o, F_blockEnd_o, F_markedEnd_o, F_origin_o, F_touchedBlocks_o, F_blocks_o, F_touched_o, A_p0, A_p1, A_p2, A_p3, A_p4, A_p5, A_p6, A_p7⟩ := H
  refine aload_n K S rfl rfl d10_0 ?_
  refine getf K S (hwi hw 14 rfl) F_blockOf_o d10_1 fun T S => ?_
  refine iload_n K S rfl d10_4 ?_
  refine iaload K S (v := .int (lget (row L 2) q)) (i := q.toNatClampNeg) A_p2 (linb_ix (show linb (row L 2) q = true from ok)) (linb_get (show linb (row L 2) q = true from ok)) d10_5 ?_
  refine reti K S (by decide) (by decide) d10_6 ?_
  exact ⟨rfl, rfl⟩

theorem d17_0 : Dc prog_68_method_4_code 0 (.aload_n 0) 1 1 := ⟨by decide +kernel, rfl⟩
theorem d17_1 : Dc prog_68_method_4_code 1 (.getfield 19) 3 4 := ⟨by decide +kernel, rfl⟩
theorem d17_4 : Dc prog_68_method_4_code 4 (.iload_n 1) 1 5 := ⟨by decide +kernel, rfl⟩
theorem d17_5 : Dc prog_68_method_4_code 5 (.iaload) 1 6 := ⟨by decide +kernel, rfl⟩
theorem d17_6 : Dc prog_68_method_4_code 6 (.ireturn) 1 7 := ⟨by decide +kernel, rfl⟩
theorem ef_start (m : MethodId) (o : Addr) (p0 : Addr) (p1 : Addr) (p2 : Addr) (p3 : Addr) (p4 : Addr) (p5 : Addr) (p6 : Addr) (p7 : Addr) (q : Int32) (L : PS) : entryFrame m #[.ref o, .int q] 2 = mkF m 0 #[.val (.ref o), .val (.int q)] [] := by first | (simp [entryFrame, mkF, argsToLocals, Value.category]; done) | rfl
set_option maxRecDepth 65536 in
set_option maxHeartbeats 40000000 in
theorem m_start (l : Launch) (Z : State) (a0 : Array Value) (hw : ∀ d ∈ tables_1, d.before a0 Z = true) (n0 : Nat) (o : Addr) (p0 : Addr) (p1 : Addr) (p2 : Addr) (p3 : Addr) (p4 : Addr) (p5 : Addr) (p6 : Addr) (p7 : Addr) (q : Int32) (L : PS) (h : Heap) (hn : n0 ≤ h.size) (H : PK Z h o p0 p1 p2 p3 p4 p5 p6 p7 L) (ok : linb (row L 3) q = true) : Met n0 l Z (⟨"com/example/procsh/procsh/service/Partition", "start", "(I)I"⟩ : MethodName) prog_68_method_4_code 2 (some .int) ({ frames := 0, cells := 0, slots := 0, locals := 0 } : Room) [] #[.ref o, .int q] h (Pu (some (.int (lget (row L 3) q))) h) := by
  refine enter (plainFor_of_name (by first | (simp [plainName, overriddenIn]; done) | decide +kernel)) (fun m => ef_start m o p0 p1 p2 p3 p4 p5 p6 p7 q L) hn ?_
  intro p e s m below meth c T K S
  obtain ⟨E_o, F_elements_o, F_positionOf_o, F_blockOf_o, F_blockStart_o, F_blockEnd_o, F_markedEnd_o, F_origin_o, F_touchedBlocks_o, F_blocks_o, F_touched_o, A_p0, A_p1, A_p2, A_p3, A_p4, A_p5, A_p6, A_p7⟩ := H
  refine aload_n K S rfl rfl d17_0 ?_
  refine getf K S (hwi hw 16 rfl) F_blockStart_o d17_1 fun T S => ?_
  refine iload_n K S rfl d17_4 ?_
  refine iaload K S (v := .int (lget (row L 3) q)) (i := q.toNatClampNeg) A_p3 (linb_ix (show linb (row L 3) q = true from ok)) (linb_get (show linb (row L 3) q = true from ok)) d17_5 ?_
  refine reti K S (by decide) (by decide) d17_6 ?_
  exact ⟨rfl, rfl⟩

theorem d18_0 : Dc prog_68_method_5_code 0 (.aload_n 0) 1 1 := ⟨by decide +kernel, rfl⟩
theorem d18_1 : Dc prog_68_method_5_code 1 (.getfield 22) 3 4 := ⟨by decide +kernel, rfl⟩
theorem d18_4 : Dc prog_68_method_5_code 4 (.iload_n 1) 1 5 := ⟨by decide +kernel, rfl⟩
theorem d18_5 : Dc prog_68_method_5_code 5 (.iaload) 1 6 := ⟨by decide +kernel, rfl⟩
theorem d18_6 : Dc prog_68_method_5_code 6 (.ireturn) 1 7 := ⟨by decide +kernel, rfl⟩
theorem ef_end (m : MethodId) (o : Addr) (p0 : Addr) (p1 : Addr) (p2 : Addr) (p3 : Addr) (p4 : Addr) (p5 : Addr) (p6 : Addr) (p7 : Addr) (q : Int32) (L : PS) : entryFrame m #[.ref o, .int q] 2 = mkF m 0 #[.val (.ref o), .val (.int q)] [] := by first | (simp [entryFrame, mkF, argsToLocals, Value.category]; done) | rfl
set_option maxRecDepth 65536 in
set_option maxHeartbeats 40000000 in
theorem m_end (l : Launch) (Z : State) (a0 : Array Value) (hw : ∀ d ∈ tables_1, d.before a0 Z = true) (n0 : Nat) (o : Addr) (p0 : Addr) (p1 : Addr) (p2 : Addr) (p3 : Addr) (p4 : Addr) (p5 : Addr) (p6 : Addr) (p7 : Addr) (q : Int32) (L : PS) (h : Heap) (hn : n0 ≤ h.size) (H : PK Z h o p0 p1 p2 p3 p4 p5 p6 p7 L) (ok : linb (row L 4) q = true) : Met n0 l Z (⟨"com/example/procsh/procsh/service/Partition", "end", "(I)I"⟩ : MethodName) prog_68_method_5_code 2 (some .int) ({ frames := 0, cells := 0, slots := 0, locals := 0 } : Room) [] #[.ref o, .int q] h (Pu (some (.int (lget (row L 4) q))) h) := by
  refine enter (plainFor_of_name (by first | (simp [plainName, overriddenIn]; done) | decide +kernel)) (fun m => ef_end m o p0 p1 p2 p3 p4 p5 p6 p7 q L) hn ?_
  intro p e s m below meth c T K S
  obtain ⟨E_o, F_elements_o, F_positionOf_o, F_blockOf_o, F_blockStart_o, F_blockEnd_o, F_markedEnd_o, F_origin_o, F_touchedBlocks_o, F_blocks_o, F_touched_o, A_p0, A_p1, A_p2, A_p3, A_p4, A_p5, A_p6, A_p7⟩ := H
  refine aload_n K S rfl rfl d18_0 ?_
  refine getf K S (hwi hw 18 rfl) F_blockEnd_o d18_1 fun T S => ?_
  refine iload_n K S rfl d18_4 ?_
  refine iaload K S (v := .int (lget (row L 4) q)) (i := q.toNatClampNeg) A_p4 (linb_ix (show linb (row L 4) q = true from ok)) (linb_get (show linb (row L 4) q = true from ok)) d18_5 ?_
  refine reti K S (by decide) (by decide) d18_6 ?_
  exact ⟨rfl, rfl⟩

theorem d16_0 : Dc prog_68_method_7_code 0 (.aload_n 0) 1 1 := ⟨by decide +kernel, rfl⟩
theorem d16_1 : Dc prog_68_method_7_code 1 (.getfield 7) 3 4 := ⟨by decide +kernel, rfl⟩
theorem d16_4 : Dc prog_68_method_7_code 4 (.iload_n 1) 1 5 := ⟨by decide +kernel, rfl⟩
theorem d16_5 : Dc prog_68_method_7_code 5 (.iaload) 1 6 := ⟨by decide +kernel, rfl⟩
theorem d16_6 : Dc prog_68_method_7_code 6 (.ireturn) 1 7 := ⟨by decide +kernel, rfl⟩
theorem ef_state (m : MethodId) (o : Addr) (p0 : Addr) (p1 : Addr) (p2 : Addr) (p3 : Addr) (p4 : Addr) (p5 : Addr) (p6 : Addr) (p7 : Addr) (q : Int32) (L : PS) : entryFrame m #[.ref o, .int q] 2 = mkF m 0 #[.val (.ref o), .val (.int q)] [] := by first | (simp [entryFrame, mkF, argsToLocals, Value.category]; done) | rfl
set_option maxRecDepth 65536 in
set_option maxHeartbeats 40000000 in
theorem m_state (l : Launch) (Z : State) (a0 : Array Value) (hw : ∀ d ∈ tables_1, d.before a0 Z = true) (n0 : Nat) (o : Addr) (p0 : Addr) (p1 : Addr) (p2 : Addr) (p3 : Addr) (p4 : Addr) (p5 : Addr) (p6 : Addr) (p7 : Addr) (q : Int32) (L : PS) (h : Heap) (hn : n0 ≤ h.size) (H : PK Z h o p0 p1 p2 p3 p4 p5 p6 p7 L) (ok : linb (row L 0) q = true) : Met n0 l Z (⟨"com/example/procsh/procsh/service/Partition", "state", "(I)I"⟩ : MethodName) prog_68_method_7_code 2 (some .int) ({ frames := 0, cells := 0, slots := 0, locals := 0 } : Room) [] #[.ref o, .int q] h (Pu (some (.int (lget (row L 0) q))) h) := by
  refine enter (plainFor_of_name (by first | (simp [plainName, overriddenIn]; done) | decide +kernel)) (fun m => ef_state m o p0 p1 p2 p3 p4 p5 p6 p7 q L) hn ?_
  intro p e s m below meth c T K S
  obtain ⟨E_o, F_elements_o, F_positionOf_o, F_blockOf_o, F_blockStart_o, F_blockEnd_o, F_markedEnd_o, F_origin_o, F_touchedBlocks_o, F_blocks_o, F_touched_o, A_p0, A_p1, A_p2, A_p3, A_p4, A_p5, A_p6, A_p7⟩ := H
  refine aload_n K S rfl rfl d16_0 ?_
  refine getf K S (hwi hw 10 rfl) F_elements_o d16_1 fun T S => ?_
  refine iload_n K S rfl d16_4 ?_
  refine iaload K S (v := .int (lget (row L 0) q)) (i := q.toNatClampNeg) A_p0 (linb_ix (show linb (row L 0) q = true from ok)) (linb_get (show linb (row L 0) q = true from ok)) d16_5 ?_
  refine reti K S (by decide) (by decide) d16_6 ?_
  exact ⟨rfl, rfl⟩

theorem d12_0 : Dc prog_68_method_8_code 0 (.aload_n 0) 1 1 := ⟨by decide +kernel, rfl⟩
theorem d12_1 : Dc prog_68_method_8_code 1 (.getfield 28) 3 4 := ⟨by decide +kernel, rfl⟩
theorem d12_4 : Dc prog_68_method_8_code 4 (.iload_n 1) 1 5 := ⟨by decide +kernel, rfl⟩
theorem d12_5 : Dc prog_68_method_8_code 5 (.iaload) 1 6 := ⟨by decide +kernel, rfl⟩
theorem d12_6 : Dc prog_68_method_8_code 6 (.ireturn) 1 7 := ⟨by decide +kernel, rfl⟩
theorem ef_origin (m : MethodId) (o : Addr) (p0 : Addr) (p1 : Addr) (p2 : Addr) (p3 : Addr) (p4 : Addr) (p5 : Addr) (p6 : Addr) (p7 : Addr) (q : Int32) (L : PS) : entryFrame m #[.ref o, .int q] 2 = mkF m 0 #[.val (.ref o), .val (.int q)] [] := by first | (simp [entryFrame, mkF, argsToLocals, Value.category]; done) | rfl
set_option maxRecDepth 65536 in
set_option maxHeartbeats 40000000 in
theorem m_origin (l : Launch) (Z : State) (a0 : Array Value) (hw : ∀ d ∈ tables_1, d.before a0 Z = true) (n0 : Nat) (o : Addr) (p0 : Addr) (p1 : Addr) (p2 : Addr) (p3 : Addr) (p4 : Addr) (p5 : Addr) (p6 : Addr) (p7 : Addr) (q : Int32) (L : PS) (h : Heap) (hn : n0 ≤ h.size) (H : PK Z h o p0 p1 p2 p3 p4 p5 p6 p7 L) (ok : linb (row L 6) q = true) : Met n0 l Z (⟨"com/example/procsh/procsh/service/Partition", "origin", "(I)I"⟩ : MethodName) prog_68_method_8_code 2 (some .int) ({ frames := 0, cells := 0, slots := 0, locals := 0 } : Room) [] #[.ref o, .int q] h (Pu (some (.int (lget (row L 6) q))) h) := by
  refine enter (plainFor_of_name (by first | (simp [plainName, overriddenIn]; done) | decide +kernel)) (fun m => ef_origin m o p0 p1 p2 p3 p4 p5 p6 p7 q L) hn ?_
  intro p e s m below meth c T K S
  obtain ⟨E_o, F_elements_o, F_positionOf_o, F_blockOf_o, F_blockStart_o, F_blockEnd_o, F_markedEnd_o, F_origin_o, F_touchedBlocks_o, F_blocks_o, F_touched_o, A_p0, A_p1, A_p2, A_p3, A_p4, A_p5, A_p6, A_p7⟩ := H
  refine aload_n K S rfl rfl d12_0 ?_
  refine getf K S (hwi hw 22 rfl) F_origin_o d12_1 fun T S => ?_
  refine iload_n K S rfl d12_4 ?_
  refine iaload K S (v := .int (lget (row L 6) q)) (i := q.toNatClampNeg) A_p6 (linb_ix (show linb (row L 6) q = true from ok)) (linb_get (show linb (row L 6) q = true from ok)) d12_5 ?_
  refine reti K S (by decide) (by decide) d12_6 ?_
  exact ⟨rfl, rfl⟩

theorem d8_0 : Dc prog_68_method_2_code 0 (.aload_n 0) 1 1 := ⟨by decide +kernel, rfl⟩
theorem d8_1 : Dc prog_68_method_2_code 1 (.getfield 34) 3 4 := ⟨by decide +kernel, rfl⟩
theorem d8_4 : Dc prog_68_method_2_code 4 (.ireturn) 1 5 := ⟨by decide +kernel, rfl⟩
theorem ef_blocks (m : MethodId) (o : Addr) (p0 : Addr) (p1 : Addr) (p2 : Addr) (p3 : Addr) (p4 : Addr) (p5 : Addr) (p6 : Addr) (p7 : Addr) (L : PS) : entryFrame m #[.ref o] 1 = mkF m 0 #[.val (.ref o)] [] := by first | (simp [entryFrame, mkF, argsToLocals, Value.category]; done) | rfl
set_option maxRecDepth 65536 in
set_option maxHeartbeats 40000000 in
theorem m_blocks (l : Launch) (Z : State) (a0 : Array Value) (hw : ∀ d ∈ tables_1, d.before a0 Z = true) (n0 : Nat) (o : Addr) (p0 : Addr) (p1 : Addr) (p2 : Addr) (p3 : Addr) (p4 : Addr) (p5 : Addr) (p6 : Addr) (p7 : Addr) (L : PS) (h : Heap) (hn : n0 ≤ h.size) (H : PK Z h o p0 p1 p2 p3 p4 p5 p6 p7 L) : Met n0 l Z (⟨"com/example/procsh/procsh/service/Partition", "blocks", "()I"⟩ : MethodName) prog_68_method_2_code 1 (some .int) ({ frames := 0, cells := 0, slots := 0, locals := 0 } : Room) [] #[.ref o] h (Pu (some (.int L.2.1)) h) := by
  refine enter (plainFor_of_name (by first | (simp [plainName, overriddenIn]; done) | decide +kernel)) (fun m => ef_blocks m o p0 p1 p2 p3 p4 p5 p6 p7 L) hn ?_
  intro p e s m below meth c T K S
  obtain ⟨E_o, F_elements_o, F_positionOf_o, F_blockOf_o, F_blockStart_o, F_blockEnd_o, F_markedEnd_o, F_origin_o, F_touchedBlocks_o, F_blocks_o, F_touched_o, A_p0, A_p1, A_p2, A_p3, A_p4, A_p5, A_p6, A_p7⟩ := H
  refine aload_n K S rfl rfl d8_0 ?_
  refine getf K S (hwi hw 26 rfl) F_blocks_o d8_1 fun T S => ?_
  refine reti K S (by decide) (by decide) d8_4 ?_
  exact ⟨rfl, rfl⟩

theorem d14_0 : Dc prog_68_method_6_code 0 (.aload_n 0) 1 1 := ⟨by decide +kernel, rfl⟩
theorem d14_1 : Dc prog_68_method_6_code 1 (.getfield 22) 3 4 := ⟨by decide +kernel, rfl⟩
theorem d14_4 : Dc prog_68_method_6_code 4 (.iload_n 1) 1 5 := ⟨by decide +kernel, rfl⟩
theorem d14_5 : Dc prog_68_method_6_code 5 (.iaload) 1 6 := ⟨by decide +kernel, rfl⟩
theorem d14_6 : Dc prog_68_method_6_code 6 (.aload_n 0) 1 7 := ⟨by decide +kernel, rfl⟩
theorem d14_7 : Dc prog_68_method_6_code 7 (.getfield 19) 3 10 := ⟨by decide +kernel, rfl⟩
theorem d14_10 : Dc prog_68_method_6_code 10 (.iload_n 1) 1 11 := ⟨by decide +kernel, rfl⟩
theorem d14_11 : Dc prog_68_method_6_code 11 (.iaload) 1 12 := ⟨by decide +kernel, rfl⟩
theorem d14_12 : Dc prog_68_method_6_code 12 (.isub) 1 13 := ⟨by decide +kernel, rfl⟩
theorem d14_13 : Dc prog_68_method_6_code 13 (.ireturn) 1 14 := ⟨by decide +kernel, rfl⟩
theorem ef_size (m : MethodId) (o : Addr) (p0 : Addr) (p1 : Addr) (p2 : Addr) (p3 : Addr) (p4 : Addr) (p5 : Addr) (p6 : Addr) (p7 : Addr) (q : Int32) (L : PS) : entryFrame m #[.ref o, .int q] 2 = mkF m 0 #[.val (.ref o), .val (.int q)] [] := by first | (simp [entryFrame, mkF, argsToLocals, Value.category]; done) | rfl
set_option maxRecDepth 65536 in
set_option maxHeartbeats 40000000 in
theorem m_size (l : Launch) (Z : State) (a0 : Array Value) (hw : ∀ d ∈ tables_1, d.before a0 Z = true) (n0 : Nat) (o : Addr) (p0 : Addr) (p1 : Addr) (p2 : Addr) (p3 : Addr) (p4 : Addr) (p5 : Addr) (p6 : Addr) (p7 : Addr) (q : Int32) (L : PS) (h : Heap) (hn : n0 ≤ h.size) (H : PK Z h o p0 p1 p2 p3 p4 p5 p6 p7 L) (ok : linb (row L 4) q = true) (ok2 : linb (row L 3) q = true) : Met n0 l Z (⟨"com/example/procsh/procsh/service/Partition", "size", "(I)I"⟩ : MethodName) prog_68_method_6_code 2 (some .int) ({ frames := 0, cells := 0, slots := 0, locals := 0 } : Room) [] #[.ref o, .int q] h (Pu (some (.int (lget (row L 4) q - lget (row L 3) q))) h) := by
  refine enter (plainFor_of_name (by first | (simp [plainName, overriddenIn]; done) | decide +kernel)) (fun m => ef_size m o p0 p1 p2 p3 p4 p5 p6 p7 q L) hn ?_
  intro p e s m below meth c T K S
  obtain ⟨E_o, F_elements_o, F_positionOf_o, F_blockOf_o, F_blockStart_o, F_blockEnd_o, F_markedEnd_o, F_origin_o, F_touchedBlocks_o, F_blocks_o, F_touched_o, A_p0, A_p1, A_p2, A_p3, A_p4, A_p5, A_p6, A_p7⟩ := H
  refine aload_n K S rfl rfl d14_0 ?_
  refine getf K S (hwi hw 18 rfl) F_blockEnd_o d14_1 fun T S => ?_
  refine iload_n K S rfl d14_4 ?_
  refine iaload K S (v := .int (lget (row L 4) q)) (i := q.toNatClampNeg) A_p4 (linb_ix (show linb (row L 4) q = true from ok)) (linb_get (show linb (row L 4) q = true from ok)) d14_5 ?_
  refine aload_n K S rfl rfl d14_6 ?_
  refine getf K S (hwi hw 16 rfl) F_blockStart_o d14_7 fun T S => ?_
  refine iload_n K S rfl d14_10 ?_
  refine iaload K S (v := .int (lget (row L 3) q)) (i := q.toNatClampNeg) A_p3 (linb_ix (show linb (row L 3) q = true from ok2)) (linb_get (show linb (row L 3) q = true from ok2)) d14_11 ?_
  refine isub K S d14_12 ?_
  refine reti K S (by decide) (by decide) d14_13 ?_
  exact ⟨rfl, rfl⟩

def bitz (m s : Int32) : Prop := (m >>> (s &&& 31)) &&& 1 = 0
instance (m s : Int32) : Decidable (bitz m s) := inferInstanceAs (Decidable ((m >>> (s &&& 31)) &&& 1 = 0))
def fmif (L : PS) (m s : Int32) : PS := if bitz m s then L else fmark L s
def okmif (L : PS) (m s : Int32) : Bool := if bitz m s then true else okmark' L s
def frd (L : PS) (m r t : Int32) : PS := fmif (fmif (fmif (fmif L m (r &&& 3)) m ((r + t) &&& 3)) m ((r + 2 * t) &&& 3)) m ((r + 3 * t) &&& 3)
def okrd (L : PS) (m r t : Int32) : Bool :=
  okmif L m (r &&& 3) && okmif (fmif L m (r &&& 3)) m ((r + t) &&& 3) && okmif (fmif (fmif L m (r &&& 3)) m ((r + t) &&& 3)) m ((r + 2 * t) &&& 3) && okmif (fmif (fmif (fmif L m (r &&& 3)) m ((r + t) &&& 3)) m ((r + 2 * t) &&& 3)) m ((r + 3 * t) &&& 3)
def ffp (m r t : Int32) : Int32 := if bitz m (r &&& 3) then (if bitz m ((r + t) &&& 3) then (if bitz m ((r + 2 * t) &&& 3) then (if bitz m ((r + 3 * t) &&& 3) then 4 else 3) else 2) else 1) else 0
def fxp (s a1 m2 sp0 sp1 id0 id1 : Int32) : Int32 := if bitz a1 s then (if bitz m2 s then 0 else if sp0 = 0 then 0 else id0) else (if bitz m2 s then 1 else if sp1 = 0 then 1 else id1)
def fb1 (m1 : Int32) : Int32 := if m1 = 0 then 1 else if m1 = 15 then 1 else 2
def fa1 (m1 : Int32) : Int32 := if m1 = 0 then 0 else if m1 = 15 then 0 else m1
def fa0 (m1 : Int32) : Int32 := 15 &&& (fa1 m1 ^^^ -1)
def fsp (k a : Int32) : Int32 := if k = 0 then 0 else if k = a then 0 else 1
def fsp0 (m1 m2 : Int32) : Int32 := fsp (m2 &&& fa0 m1) (fa0 m1)
def fsp1 (m1 m2 : Int32) : Int32 := fsp (m2 &&& fa1 m1) (fa1 m1)
def flt (m1 m2 r t : Int32) : Bool := decide (ffp (m2 &&& fa0 m1) r t < ffp (m2 &&& fa1 m1) r t)
def fid0 (m1 m2 r t : Int32) : Int32 := if fsp0 m1 m2 = 0 then 0 else if fsp1 m1 m2 = 0 then fb1 m1 else if flt m1 m2 r t = true then fb1 m1 else fb1 m1 + 1
def fid1 (m1 m2 r t : Int32) : Int32 := if fsp1 m1 m2 = 0 then 1 else if fsp0 m1 m2 = 0 then fb1 m1 else if flt m1 m2 r t = true then fb1 m1 + 1 else fb1 m1
def feb (m1 m2 : Int32) : Int32 := fb1 m1 + fsp0 m1 m2 + fsp1 m1 m2
def fx (m1 m2 r t s : Int32) : Int32 := fxp s (fa1 m1) m2 (fsp0 m1 m2) (fsp1 m1 m2) (fid0 m1 m2 r t) (fid1 m1 m2 r t)
def finc (xs : List Int32) (j : Int32) : List Int32 := lset xs j (lget xs j + 1)
def fzs (m1 m2 r t : Int32) : List Int32 := finc (finc (finc (finc [0, 0, 0, 0] (fx m1 m2 r t 0)) (fx m1 m2 r t 1)) (fx m1 m2 r t 2)) (fx m1 m2 r t 3)
def fos (m1 m2 r t : Int32) : List Int32 := if fsp1 m1 m2 = 0 then [0, 0, 0, 0] else lset [0, 0, 0, 0] (fid1 m1 m2 r t) 1
def okpos (L : PS) (q : Int32) : Bool :=
  linb (row L 0) q && decide (¬ lget (row L 0) q < 0) && decide (¬ 3 < lget (row L 0) q) && linb (row L 2) (lget (row L 0) q) && decide (¬ lget (row L 2) (lget (row L 0) q) < 0) && decide (¬ 3 < lget (row L 2) (lget (row L 0) q)) &&
  linb (row L 3) (lget (row L 2) (lget (row L 0) q)) && linb (row L 4) (lget (row L 2) (lget (row L 0) q)) && decide (¬ q < lget (row L 3) (lget (row L 2) (lget (row L 0) q))) && decide (q < lget (row L 4) (lget (row L 2) (lget (row L 0) q)))
def fpb (L : PS) (q : Int32) : Int32 := (1 : Int32) <<< (lget (row L 0) q &&& 31)
def own_z4 : List Int32 := [0, 0, 0, 0]
def chk2 (L : PS) (m1 m2 r t : Int32) : Bool :=
  linb own_z4 (fx m1 m2 r t 0) && linb own_z4 (fx m1 m2 r t 1) && linb own_z4 (fx m1 m2 r t 2) && linb own_z4 (fx m1 m2 r t 3) && linb own_z4 (fid1 m1 m2 r t) &&
  L.2.1 == feb m1 m2 && (List.all [0, 1, 2, 3] fun s => linb (row L 2) s && lget (row L 2) s == fx m1 m2 r t s && okpos L s) &&
  (List.all [1, 2, 3] fun k => decide (¬ k < feb m1 m2) || (linb (row L 6) k && lget (row L 6) k == lget (fos m1 m2 r t) k)) &&
  (List.all [0, 1, 2, 3] fun k => decide (¬ k < feb m1 m2) || (linb (row L 4) k && linb (row L 3) k && lget (row L 4) k - lget (row L 3) k == lget (fzs m1 m2 r t) k)) &&
  (fpb L 0 ||| fpb L 1 ||| fpb L 2 ||| fpb L 3) == 15
def sq (m r t : Int32) : List Int32 := (if bitz m (r &&& 3) then [] else [r &&& 3]) ++ ((if bitz m ((r + t) &&& 3) then [] else [(r + t) &&& 3]) ++ ((if bitz m ((r + 2 * t) &&& 3) then [] else [(r + 2 * t) &&& 3]) ++ (if bitz m ((r + 3 * t) &&& 3) then [] else [(r + 3 * t) &&& 3])))
def okf : PS → List Int32 → Bool
  | _, [] => true
  | L, q :: qs => okmark' L q && okf (fmark L q) qs
theorem frd_sq (L : PS) (m r t : Int32) : frd L m r t = (sq m r t).foldl fmark L := by
  unfold frd fmif sq
  split <;> split <;> split <;> split <;> simp only [List.nil_append, List.cons_append, List.append_nil, List.foldl_cons, List.foldl_nil]
theorem okrd_sq (L : PS) (m r t : Int32) : okrd L m r t = okf L (sq m r t) := by
  unfold okrd okmif fmif sq
  split <;> split <;> split <;> split <;> simp [okf, Bool.and_assoc]
def gid0 (m1 m2 : Int32) (b : Bool) : Int32 := if fsp0 m1 m2 = 0 then 0 else if fsp1 m1 m2 = 0 then fb1 m1 else if b = true then fb1 m1 else fb1 m1 + 1
def gid1 (m1 m2 : Int32) (b : Bool) : Int32 := if fsp1 m1 m2 = 0 then 1 else if fsp0 m1 m2 = 0 then fb1 m1 else if b = true then fb1 m1 + 1 else fb1 m1
def gx (m1 m2 : Int32) (b : Bool) (s : Int32) : Int32 := fxp s (fa1 m1) m2 (fsp0 m1 m2) (fsp1 m1 m2) (gid0 m1 m2 b) (gid1 m1 m2 b)
def gzs (m1 m2 : Int32) (b : Bool) : List Int32 := finc (finc (finc (finc [0, 0, 0, 0] (gx m1 m2 b 0)) (gx m1 m2 b 1)) (gx m1 m2 b 2)) (gx m1 m2 b 3)
def gos (m1 m2 : Int32) (b : Bool) : List Int32 := if fsp1 m1 m2 = 0 then [0, 0, 0, 0] else lset [0, 0, 0, 0] (gid1 m1 m2 b) 1
def gchk (L : PS) (m1 m2 : Int32) (b : Bool) : Bool :=
  linb own_z4 (gx m1 m2 b 0) && linb own_z4 (gx m1 m2 b 1) && linb own_z4 (gx m1 m2 b 2) && linb own_z4 (gx m1 m2 b 3) && linb own_z4 (gid1 m1 m2 b) &&
  L.2.1 == feb m1 m2 && (List.all [0, 1, 2, 3] fun s => linb (row L 2) s && lget (row L 2) s == gx m1 m2 b s && okpos L s) &&
  (List.all [1, 2, 3] fun k => decide (¬ k < feb m1 m2) || (linb (row L 6) k && lget (row L 6) k == lget (gos m1 m2 b) k)) &&
  (List.all [0, 1, 2, 3] fun k => decide (¬ k < feb m1 m2) || (linb (row L 4) k && linb (row L 3) k && lget (row L 4) k - lget (row L 3) k == lget (gzs m1 m2 b) k)) &&
  (fpb L 0 ||| fpb L 1 ||| fpb L 2 ||| fpb L 3) == 15
theorem gchk_eq (L : PS) (m1 m2 r t : Int32) : chk2 L m1 m2 r t = gchk L m1 m2 (flt m1 m2 r t) := rfl
theorem gid_free {m1 m2 : Int32} (h : fsp0 m1 m2 = 0 ∨ fsp1 m1 m2 = 0) (b b' : Bool) : gid0 m1 m2 b = gid0 m1 m2 b' ∧ gid1 m1 m2 b = gid1 m1 m2 b' := by
  unfold gid0 gid1
  rcases h with h | h <;> simp [h]
theorem gchk_free {m1 m2 : Int32} (h : fsp0 m1 m2 = 0 ∨ fsp1 m1 m2 = 0) (L : PS) (b b' : Bool) : gchk L m1 m2 b = gchk L m1 m2 b' := by
  obtain ⟨e0, e1⟩ := gid_free h b b'
  have e2 : gx m1 m2 b = gx m1 m2 b' := by funext s; rw [gx, gx, e0, e1]
  unfold gchk gzs gos
  rw [e1, e2]
theorem okmif_2 {L : PS} {m s : Int32} (h : okmif L m s = true) (c : ¬ ((m >>> (s &&& 31)) &&& 1 = 0)) : okmark' L s = true := by
  have c' : ¬ bitz m s := c
  rwa [okmif, if_neg c'] at h
theorem d4_0 : Dc method_3_code 0 (.iload_n 1) 1 1 := ⟨by decide +kernel, rfl⟩
theorem d4_1 : Dc method_3_code 1 (.iload_n 2) 1 2 := ⟨by decide +kernel, rfl⟩
theorem d4_2 : Dc method_3_code 2 (.ishr) 1 3 := ⟨by decide +kernel, rfl⟩
theorem d4_3 : Dc method_3_code 3 (.iconst 1) 1 4 := ⟨by decide +kernel, rfl⟩
theorem d4_4 : Dc method_3_code 4 (.iand) 1 5 := ⟨by decide +kernel, rfl⟩
theorem d4_5 : Bc method_3_code 5 (.ifCond .eq 8) (8) 8 13 := ⟨by decide +kernel, rfl, by decide, by decide⟩
theorem d4_8 : Dc method_3_code 8 (.aload_n 0) 1 9 := ⟨by decide +kernel, rfl⟩
theorem d4_9 : Dc method_3_code 9 (.iload_n 2) 1 10 := ⟨by decide +kernel, rfl⟩
theorem d4_10 : Dc method_3_code 10 (.invokevirtual 48) 3 13 := ⟨by decide +kernel, rfl⟩
theorem d4_13 : Dc method_3_code 13 (.return_) 1 14 := ⟨by decide +kernel, rfl⟩
theorem pd_6 : parseMethodDescriptor "(I)V" = some ⟨[.int], none⟩ := by decide +kernel
theorem ef_mif (m : MethodId) (o : Addr) (p0 : Addr) (p1 : Addr) (p2 : Addr) (p3 : Addr) (p4 : Addr) (p5 : Addr) (p6 : Addr) (p7 : Addr) (m1 : Int32) (q : Int32) (L : PS) : entryFrame m #[.ref o, .int m1, .int q] 3 = mkF m 0 #[.val (.ref o), .val (.int m1), .val (.int q)] [] := by first | (simp [entryFrame, mkF, argsToLocals, Value.category]; done) | rfl
set_option maxRecDepth 65536 in
set_option maxHeartbeats 40000000 in
theorem m_mif (l : Launch) (Z : State) (a0 : Array Value) (hw : ∀ d ∈ tables_1, d.before a0 Z = true) (n0 : Nat) (o : Addr) (p0 : Addr) (p1 : Addr) (p2 : Addr) (p3 : Addr) (p4 : Addr) (p5 : Addr) (p6 : Addr) (p7 : Addr) (m1 : Int32) (q : Int32) (L : PS) (h : Heap) (hn : n0 ≤ h.size) (D : AD n0 o p0 p1 p2 p3 p4 p5 p6 p7) (H : PK Z h o p0 p1 p2 p3 p4 p5 p6 p7 L) (ok : okmif L m1 q = true) : Met n0 l Z (⟨"com/example/procsh/procsh/service/PartitionSplitMarkedPinLaw", "markIf", "(Lcom/example/procsh/procsh/service/Partition;II)V"⟩ : MethodName) method_3_code 3 none ({ frames := 1, cells := 0, slots := 0, locals := 17 } : Room) [] #[.ref o, .int m1, .int q] h (Ef none (fun h' => PK Z h' o p0 p1 p2 p3 p4 p5 p6 p7 (fmif L m1 q))) := by
  refine enter (plainFor_of_name (by first | (simp [plainName, overriddenIn]; done) | decide +kernel)) (fun m => ef_mif m o p0 p1 p2 p3 p4 p5 p6 p7 m1 q L) hn ?_
  intro p e s m below meth c T K S
  have E_o := H.1
  refine iload_n K S rfl d4_0 ?_
  refine iload_n K S rfl d4_1 ?_
  refine ishr K S d4_2 ?_
  refine iconst K S (x := (1 : Int32)) rfl d4_3 ?_
  refine iand K S d4_4 ?_
  refine ific_eq K S d4_5 (fun c5 => ?_) (fun c5 => ?_)
  · refine retv K S (by decide) (by decide) d4_13 ?_
    exact ⟨rfl, by rw [fmif, if_pos (show bitz m1 q from c5)]; exact H⟩
  refine aload_n K S rfl rfl d4_8 ?_
  refine iload_n K S rfl d4_9 ?_
  refine callV K S (W := 0) (m_mark l Z a0 hw n0 o p0 p1 p2 p3 p4 p5 p6 p7 q L h (Sle S) D H (okmif_2 ok c5)) E_o (hwi hw 42 rfl) (hwi hw 43 rfl) (hwi hw 45 rfl) (hwi hw 44 rfl) (hwi hw 46 rfl) (hwi hw 2 rfl) (by decide) (by decide) (by decide) (by decide) (by decide) rfl (argsL := [.int q]) rfl (lenOf pd_6 rfl) (rest := []) rfl (Nat.le_of_eq rfl) d4_10 (ef fun T h10_1 hP S => ?_)
  have H := hP
  replace E_o := H.1
  show Wp n0 p e _ s below _ T (mkF m 13 #[.val (.ref o), .val (.int m1), .val (.int q)] [])
  refine retv K S (by decide) (by decide) d4_13 ?_
  exact ⟨rfl, by rw [fmif, if_neg (show ¬ bitz m1 q from c5)]; exact H⟩

theorem okrd_all {L : PS} {m r t : Int32} (h : okrd L m r t = true) : okmif L m (r &&& 3) = true ∧ okmif (fmif L m (r &&& 3)) m ((r + t) &&& 3) = true ∧ okmif (fmif (fmif L m (r &&& 3)) m ((r + t) &&& 3)) m ((r + 2 * t) &&& 3) = true ∧ okmif (fmif (fmif (fmif L m (r &&& 3)) m ((r + t) &&& 3)) m ((r + 2 * t) &&& 3)) m ((r + 3 * t) &&& 3) = true := by
  simp only [okrd, Bool.and_eq_true] at h; exact ⟨h.1.1.1, h.1.1.2, h.1.2, h.2⟩
theorem d3_0 : Dc method_4_code 0 (.aload_n 0) 1 1 := ⟨by decide +kernel, rfl⟩
theorem d3_1 : Dc method_4_code 1 (.iload_n 1) 1 2 := ⟨by decide +kernel, rfl⟩
theorem d3_2 : Dc method_4_code 2 (.iload_n 2) 1 3 := ⟨by decide +kernel, rfl⟩
theorem d3_3 : Dc method_4_code 3 (.iconst 3) 1 4 := ⟨by decide +kernel, rfl⟩
theorem d3_4 : Dc method_4_code 4 (.iand) 1 5 := ⟨by decide +kernel, rfl⟩
theorem d3_5 : Dc method_4_code 5 (.invokestatic 51) 3 8 := ⟨by decide +kernel, rfl⟩
theorem d3_8 : Dc method_4_code 8 (.aload_n 0) 1 9 := ⟨by decide +kernel, rfl⟩
theorem d3_9 : Dc method_4_code 9 (.iload_n 1) 1 10 := ⟨by decide +kernel, rfl⟩
theorem d3_10 : Dc method_4_code 10 (.iload_n 2) 1 11 := ⟨by decide +kernel, rfl⟩
theorem d3_11 : Dc method_4_code 11 (.iload_n 3) 1 12 := ⟨by decide +kernel, rfl⟩
theorem d3_12 : Dc method_4_code 12 (.iadd) 1 13 := ⟨by decide +kernel, rfl⟩
theorem d3_13 : Dc method_4_code 13 (.iconst 3) 1 14 := ⟨by decide +kernel, rfl⟩
theorem d3_14 : Dc method_4_code 14 (.iand) 1 15 := ⟨by decide +kernel, rfl⟩
theorem d3_15 : Dc method_4_code 15 (.invokestatic 51) 3 18 := ⟨by decide +kernel, rfl⟩
theorem d3_18 : Dc method_4_code 18 (.aload_n 0) 1 19 := ⟨by decide +kernel, rfl⟩
theorem d3_19 : Dc method_4_code 19 (.iload_n 1) 1 20 := ⟨by decide +kernel, rfl⟩
theorem d3_20 : Dc method_4_code 20 (.iload_n 2) 1 21 := ⟨by decide +kernel, rfl⟩
theorem d3_21 : Dc method_4_code 21 (.iconst 2) 1 22 := ⟨by decide +kernel, rfl⟩
theorem d3_22 : Dc method_4_code 22 (.iload_n 3) 1 23 := ⟨by decide +kernel, rfl⟩
theorem d3_23 : Dc method_4_code 23 (.imul) 1 24 := ⟨by decide +kernel, rfl⟩
theorem d3_24 : Dc method_4_code 24 (.iadd) 1 25 := ⟨by decide +kernel, rfl⟩
theorem d3_25 : Dc method_4_code 25 (.iconst 3) 1 26 := ⟨by decide +kernel, rfl⟩
theorem d3_26 : Dc method_4_code 26 (.iand) 1 27 := ⟨by decide +kernel, rfl⟩
theorem d3_27 : Dc method_4_code 27 (.invokestatic 51) 3 30 := ⟨by decide +kernel, rfl⟩
theorem d3_30 : Dc method_4_code 30 (.aload_n 0) 1 31 := ⟨by decide +kernel, rfl⟩
theorem d3_31 : Dc method_4_code 31 (.iload_n 1) 1 32 := ⟨by decide +kernel, rfl⟩
theorem d3_32 : Dc method_4_code 32 (.iload_n 2) 1 33 := ⟨by decide +kernel, rfl⟩
theorem d3_33 : Dc method_4_code 33 (.iconst 3) 1 34 := ⟨by decide +kernel, rfl⟩
theorem d3_34 : Dc method_4_code 34 (.iload_n 3) 1 35 := ⟨by decide +kernel, rfl⟩
theorem d3_35 : Dc method_4_code 35 (.imul) 1 36 := ⟨by decide +kernel, rfl⟩
theorem d3_36 : Dc method_4_code 36 (.iadd) 1 37 := ⟨by decide +kernel, rfl⟩
theorem d3_37 : Dc method_4_code 37 (.iconst 3) 1 38 := ⟨by decide +kernel, rfl⟩
theorem d3_38 : Dc method_4_code 38 (.iand) 1 39 := ⟨by decide +kernel, rfl⟩
theorem d3_39 : Dc method_4_code 39 (.invokestatic 51) 3 42 := ⟨by decide +kernel, rfl⟩
theorem d3_42 : Dc method_4_code 42 (.return_) 1 43 := ⟨by decide +kernel, rfl⟩
theorem pd_4 : parseMethodDescriptor "(Lcom/example/procsh/procsh/service/Partition;II)V" = some ⟨[.object "com/example/procsh/procsh/service/Partition", .int, .int], none⟩ := by decide +kernel
theorem ef_round (m : MethodId) (o : Addr) (p0 : Addr) (p1 : Addr) (p2 : Addr) (p3 : Addr) (p4 : Addr) (p5 : Addr) (p6 : Addr) (p7 : Addr) (m1 : Int32) (r : Int32) (t : Int32) (L : PS) : entryFrame m #[.ref o, .int m1, .int r, .int t] 4 = mkF m 0 #[.val (.ref o), .val (.int m1), .val (.int r), .val (.int t)] [] := by first | (simp [entryFrame, mkF, argsToLocals, Value.category]; done) | rfl
set_option maxRecDepth 65536 in
set_option maxHeartbeats 40000000 in
theorem m_round (l : Launch) (Z : State) (a0 : Array Value) (hw : ∀ d ∈ tables_1, d.before a0 Z = true) (n0 : Nat) (o : Addr) (p0 : Addr) (p1 : Addr) (p2 : Addr) (p3 : Addr) (p4 : Addr) (p5 : Addr) (p6 : Addr) (p7 : Addr) (m1 : Int32) (r : Int32) (t : Int32) (L : PS) (h : Heap) (hn : n0 ≤ h.size) (D : AD n0 o p0 p1 p2 p3 p4 p5 p6 p7) (H : PK Z h o p0 p1 p2 p3 p4 p5 p6 p7 L) (ok : okrd L m1 r t = true) : Met n0 l Z (⟨"com/example/procsh/procsh/service/PartitionSplitMarkedPinLaw", "markRound", "(Lcom/example/procsh/procsh/service/Partition;III)V"⟩ : MethodName) method_4_code 4 none ({ frames := 2, cells := 0, slots := 0, locals := 31 } : Room) [] #[.ref o, .int m1, .int r, .int t] h (Ef none (fun h' => PK Z h' o p0 p1 p2 p3 p4 p5 p6 p7 (frd L m1 r t))) := by
  refine enter (plainFor_of_name (by first | (simp [plainName, overriddenIn]; done) | decide +kernel)) (fun m => ef_round m o p0 p1 p2 p3 p4 p5 p6 p7 m1 r t L) hn ?_
  intro p e s m below meth c T K S
  have E_o := H.1
  obtain ⟨ok1, ok2, ok3, ok4⟩ := okrd_all ok
  refine aload_n K S rfl rfl d3_0 ?_
  refine iload_n K S rfl d3_1 ?_
  refine iload_n K S rfl d3_2 ?_
  refine iconst K S (x := (3 : Int32)) rfl d3_3 ?_
  refine iand K S d3_4 ?_
  refine callS K S (W := 0) (m_mif l Z a0 hw n0 o p0 p1 p2 p3 p4 p5 p6 p7 m1 (r &&& (3 : Int32)) L h (Sle S) D H ok1) (hwi hw 32 rfl) (hwi hw 33 rfl) (hwi hw 34 rfl) (hwi hw 30 rfl) (by decide) (by decide) (by decide) (by decide) (by decide) rfl (argsL := [.ref o, .int m1, .int (r &&& (3 : Int32))]) rfl (lenOf pd_4 rfl) (rest := []) rfl (Nat.le_of_eq rfl) d3_5 (ef fun T h5_1 hP S => ?_)
  have H := hP
  replace E_o := H.1
  show Wp n0 p e _ s below _ T (mkF m 8 #[.val (.ref o), .val (.int m1), .val (.int r), .val (.int t)] [])
  refine aload_n K S rfl rfl d3_8 ?_
  refine iload_n K S rfl d3_9 ?_
  refine iload_n K S rfl d3_10 ?_
  refine iload_n K S rfl d3_11 ?_
  refine iadd K S d3_12 ?_
  refine iconst K S (x := (3 : Int32)) rfl d3_13 ?_
  refine iand K S d3_14 ?_
  refine callS K S (W := 0) (m_mif l Z a0 hw n0 o p0 p1 p2 p3 p4 p5 p6 p7 m1 ((r + t) &&& (3 : Int32)) (fmif L m1 (r &&& (3 : Int32))) h5_1 (Sle S) D H ok2) (hwi hw 32 rfl) (hwi hw 33 rfl) (hwi hw 34 rfl) (hwi hw 30 rfl) (by decide) (by decide) (by decide) (by decide) (by decide) rfl (argsL := [.ref o, .int m1, .int ((r + t) &&& (3 : Int32))]) rfl (lenOf pd_4 rfl) (rest := []) rfl (Nat.le_of_eq rfl) d3_15 (ef fun T h15_2 hP S => ?_)
  have H := hP
  replace E_o := H.1
  show Wp n0 p e _ s below _ T (mkF m 18 #[.val (.ref o), .val (.int m1), .val (.int r), .val (.int t)] [])
  refine aload_n K S rfl rfl d3_18 ?_
  refine iload_n K S rfl d3_19 ?_
  refine iload_n K S rfl d3_20 ?_
  refine iconst K S (x := (2 : Int32)) rfl d3_21 ?_
  refine iload_n K S rfl d3_22 ?_
  refine imul K S d3_23 ?_
  refine iadd K S d3_24 ?_
  refine iconst K S (x := (3 : Int32)) rfl d3_25 ?_
  refine iand K S d3_26 ?_
  refine callS K S (W := 0) (m_mif l Z a0 hw n0 o p0 p1 p2 p3 p4 p5 p6 p7 m1 ((r + ((2 : Int32) * t)) &&& (3 : Int32)) (fmif (fmif L m1 (r &&& (3 : Int32))) m1 ((r + t) &&& (3 : Int32))) h15_2 (Sle S) D H ok3) (hwi hw 32 rfl) (hwi hw 33 rfl) (hwi hw 34 rfl) (hwi hw 30 rfl) (by decide) (by decide) (by decide) (by decide) (by decide) rfl (argsL := [.ref o, .int m1, .int ((r + ((2 : Int32) * t)) &&& (3 : Int32))]) rfl (lenOf pd_4 rfl) (rest := []) rfl (Nat.le_of_eq rfl) d3_27 (ef fun T h27_3 hP S => ?_)
  have H := hP
  replace E_o := H.1
  show Wp n0 p e _ s below _ T (mkF m 30 #[.val (.ref o), .val (.int m1), .val (.int r), .val (.int t)] [])
  refine aload_n K S rfl rfl d3_30 ?_
  refine iload_n K S rfl d3_31 ?_
  refine iload_n K S rfl d3_32 ?_
  refine iconst K S (x := (3 : Int32)) rfl d3_33 ?_
  refine iload_n K S rfl d3_34 ?_
  refine imul K S d3_35 ?_
  refine iadd K S d3_36 ?_
  refine iconst K S (x := (3 : Int32)) rfl d3_37 ?_
  refine iand K S d3_38 ?_
  refine callS K S (W := 0) (m_mif l Z a0 hw n0 o p0 p1 p2 p3 p4 p5 p6 p7 m1 ((r + ((3 : Int32) * t)) &&& (3 : Int32)) (fmif (fmif (fmif L m1 (r &&& (3 : Int32))) m1 ((r + t) &&& (3 : Int32))) m1 ((r + ((2 : Int32) * t)) &&& (3 : Int32))) h27_3 (Sle S) D H ok4) (hwi hw 32 rfl) (hwi hw 33 rfl) (hwi hw 34 rfl) (hwi hw 30 rfl) (by decide) (by decide) (by decide) (by decide) (by decide) rfl (argsL := [.ref o, .int m1, .int ((r + ((3 : Int32) * t)) &&& (3 : Int32))]) rfl (lenOf pd_4 rfl) (rest := []) rfl (Nat.le_of_eq rfl) d3_39 (ef fun T h39_4 hP S => ?_)
  have H := hP
  replace E_o := H.1
  show Wp n0 p e _ s below _ T (mkF m 42 #[.val (.ref o), .val (.int m1), .val (.int r), .val (.int t)] [])
  refine retv K S (by decide) (by decide) d3_42 ?_
  exact ⟨rfl, H⟩

theorem d19_0 : Dc method_5_code 0 (.iload_n 0) 1 1 := ⟨by decide +kernel, rfl⟩
theorem d19_1 : Dc method_5_code 1 (.iload_n 1) 1 2 := ⟨by decide +kernel, rfl⟩
theorem d19_2 : Dc method_5_code 2 (.iconst 3) 1 3 := ⟨by decide +kernel, rfl⟩
theorem d19_3 : Dc method_5_code 3 (.iand) 1 4 := ⟨by decide +kernel, rfl⟩
theorem d19_4 : Dc method_5_code 4 (.ishr) 1 5 := ⟨by decide +kernel, rfl⟩
theorem d19_5 : Dc method_5_code 5 (.iconst 1) 1 6 := ⟨by decide +kernel, rfl⟩
theorem d19_6 : Dc method_5_code 6 (.iand) 1 7 := ⟨by decide +kernel, rfl⟩
theorem d19_7 : Bc method_5_code 7 (.ifCond .eq 5) (5) 10 12 := ⟨by decide +kernel, rfl, by decide, by decide⟩
theorem d19_10 : Dc method_5_code 10 (.iconst 0) 1 11 := ⟨by decide +kernel, rfl⟩
theorem d19_11 : Dc method_5_code 11 (.ireturn) 1 12 := ⟨by decide +kernel, rfl⟩
theorem d19_12 : Dc method_5_code 12 (.iload_n 0) 1 13 := ⟨by decide +kernel, rfl⟩
theorem d19_13 : Dc method_5_code 13 (.iload_n 1) 1 14 := ⟨by decide +kernel, rfl⟩
theorem d19_14 : Dc method_5_code 14 (.iload_n 2) 1 15 := ⟨by decide +kernel, rfl⟩
theorem d19_15 : Dc method_5_code 15 (.iadd) 1 16 := ⟨by decide +kernel, rfl⟩
theorem d19_16 : Dc method_5_code 16 (.iconst 3) 1 17 := ⟨by decide +kernel, rfl⟩
theorem d19_17 : Dc method_5_code 17 (.iand) 1 18 := ⟨by decide +kernel, rfl⟩
theorem d19_18 : Dc method_5_code 18 (.ishr) 1 19 := ⟨by decide +kernel, rfl⟩
theorem d19_19 : Dc method_5_code 19 (.iconst 1) 1 20 := ⟨by decide +kernel, rfl⟩
theorem d19_20 : Dc method_5_code 20 (.iand) 1 21 := ⟨by decide +kernel, rfl⟩
theorem d19_21 : Bc method_5_code 21 (.ifCond .eq 5) (5) 24 26 := ⟨by decide +kernel, rfl, by decide, by decide⟩
theorem d19_24 : Dc method_5_code 24 (.iconst 1) 1 25 := ⟨by decide +kernel, rfl⟩
theorem d19_25 : Dc method_5_code 25 (.ireturn) 1 26 := ⟨by decide +kernel, rfl⟩
theorem d19_26 : Dc method_5_code 26 (.iload_n 0) 1 27 := ⟨by decide +kernel, rfl⟩
theorem d19_27 : Dc method_5_code 27 (.iload_n 1) 1 28 := ⟨by decide +kernel, rfl⟩
theorem d19_28 : Dc method_5_code 28 (.iconst 2) 1 29 := ⟨by decide +kernel, rfl⟩
theorem d19_29 : Dc method_5_code 29 (.iload_n 2) 1 30 := ⟨by decide +kernel, rfl⟩
theorem d19_30 : Dc method_5_code 30 (.imul) 1 31 := ⟨by decide +kernel, rfl⟩
theorem d19_31 : Dc method_5_code 31 (.iadd) 1 32 := ⟨by decide +kernel, rfl⟩
theorem d19_32 : Dc method_5_code 32 (.iconst 3) 1 33 := ⟨by decide +kernel, rfl⟩
theorem d19_33 : Dc method_5_code 33 (.iand) 1 34 := ⟨by decide +kernel, rfl⟩
theorem d19_34 : Dc method_5_code 34 (.ishr) 1 35 := ⟨by decide +kernel, rfl⟩
theorem d19_35 : Dc method_5_code 35 (.iconst 1) 1 36 := ⟨by decide +kernel, rfl⟩
theorem d19_36 : Dc method_5_code 36 (.iand) 1 37 := ⟨by decide +kernel, rfl⟩
theorem d19_37 : Bc method_5_code 37 (.ifCond .eq 5) (5) 40 42 := ⟨by decide +kernel, rfl, by decide, by decide⟩
theorem d19_40 : Dc method_5_code 40 (.iconst 2) 1 41 := ⟨by decide +kernel, rfl⟩
theorem d19_41 : Dc method_5_code 41 (.ireturn) 1 42 := ⟨by decide +kernel, rfl⟩
theorem d19_42 : Dc method_5_code 42 (.iload_n 0) 1 43 := ⟨by decide +kernel, rfl⟩
theorem d19_43 : Dc method_5_code 43 (.iload_n 1) 1 44 := ⟨by decide +kernel, rfl⟩
theorem d19_44 : Dc method_5_code 44 (.iconst 3) 1 45 := ⟨by decide +kernel, rfl⟩
theorem d19_45 : Dc method_5_code 45 (.iload_n 2) 1 46 := ⟨by decide +kernel, rfl⟩
theorem d19_46 : Dc method_5_code 46 (.imul) 1 47 := ⟨by decide +kernel, rfl⟩
theorem d19_47 : Dc method_5_code 47 (.iadd) 1 48 := ⟨by decide +kernel, rfl⟩
theorem d19_48 : Dc method_5_code 48 (.iconst 3) 1 49 := ⟨by decide +kernel, rfl⟩
theorem d19_49 : Dc method_5_code 49 (.iand) 1 50 := ⟨by decide +kernel, rfl⟩
theorem d19_50 : Dc method_5_code 50 (.ishr) 1 51 := ⟨by decide +kernel, rfl⟩
theorem d19_51 : Dc method_5_code 51 (.iconst 1) 1 52 := ⟨by decide +kernel, rfl⟩
theorem d19_52 : Dc method_5_code 52 (.iand) 1 53 := ⟨by decide +kernel, rfl⟩
theorem d19_53 : Bc method_5_code 53 (.ifCond .eq 5) (5) 56 58 := ⟨by decide +kernel, rfl, by decide, by decide⟩
theorem d19_56 : Dc method_5_code 56 (.iconst 3) 1 57 := ⟨by decide +kernel, rfl⟩
theorem d19_57 : Dc method_5_code 57 (.ireturn) 1 58 := ⟨by decide +kernel, rfl⟩
theorem d19_58 : Dc method_5_code 58 (.iconst 4) 1 59 := ⟨by decide +kernel, rfl⟩
theorem d19_59 : Dc method_5_code 59 (.ireturn) 1 60 := ⟨by decide +kernel, rfl⟩
theorem ef_fp (m : MethodId) (m1 : Int32) (r : Int32) (t : Int32) : entryFrame m #[.int m1, .int r, .int t] 3 = mkF m 0 #[.val (.int m1), .val (.int r), .val (.int t)] [] := by first | (simp [entryFrame, mkF, argsToLocals, Value.category]; done) | rfl
set_option maxRecDepth 65536 in
set_option maxHeartbeats 40000000 in
theorem m_fp (l : Launch) (Z : State) (a0 : Array Value) (hw : ∀ d ∈ tables_1, d.before a0 Z = true) (n0 : Nat) (m1 : Int32) (r : Int32) (t : Int32) (h : Heap) (hn : n0 ≤ h.size) : Met n0 l Z (⟨"com/example/procsh/procsh/service/PartitionSplitMarkedPinLaw", "firstPos", "(III)I"⟩ : MethodName) method_5_code 3 (some .int) ({ frames := 0, cells := 0, slots := 0, locals := 0 } : Room) [] #[.int m1, .int r, .int t] h (Pu (some (.int (ffp m1 r t))) h) := by
  refine enter (plainFor_of_name (by first | (simp [plainName, overriddenIn]; done) | decide +kernel)) (fun m => ef_fp m m1 r t) hn ?_
  intro p e s m below meth c T K S
  refine iload_n K S rfl d19_0 ?_
  refine iload_n K S rfl d19_1 ?_
  refine iconst K S (x := (3 : Int32)) rfl d19_2 ?_
  refine iand K S d19_3 ?_
  refine ishr K S d19_4 ?_
  refine iconst K S (x := (1 : Int32)) rfl d19_5 ?_
  refine iand K S d19_6 ?_
  refine ific_eq K S d19_7 (fun c7 => ?_) (fun c7 => ?_)
  · refine iload_n K S rfl d19_12 ?_
    refine iload_n K S rfl d19_13 ?_
    refine iload_n K S rfl d19_14 ?_
    refine iadd K S d19_15 ?_
    refine iconst K S (x := (3 : Int32)) rfl d19_16 ?_
    refine iand K S d19_17 ?_
    refine ishr K S d19_18 ?_
    refine iconst K S (x := (1 : Int32)) rfl d19_19 ?_
    refine iand K S d19_20 ?_
    refine ific_eq K S d19_21 (fun c21 => ?_) (fun c21 => ?_)
    · refine iload_n K S rfl d19_26 ?_
      refine iload_n K S rfl d19_27 ?_
      refine iconst K S (x := (2 : Int32)) rfl d19_28 ?_
      refine iload_n K S rfl d19_29 ?_
      refine imul K S d19_30 ?_
      refine iadd K S d19_31 ?_
      refine iconst K S (x := (3 : Int32)) rfl d19_32 ?_
      refine iand K S d19_33 ?_
      refine ishr K S d19_34 ?_
      refine iconst K S (x := (1 : Int32)) rfl d19_35 ?_
      refine iand K S d19_36 ?_
      refine ific_eq K S d19_37 (fun c37 => ?_) (fun c37 => ?_)
      · refine iload_n K S rfl d19_42 ?_
        refine iload_n K S rfl d19_43 ?_
        refine iconst K S (x := (3 : Int32)) rfl d19_44 ?_
        refine iload_n K S rfl d19_45 ?_
        refine imul K S d19_46 ?_
        refine iadd K S d19_47 ?_
        refine iconst K S (x := (3 : Int32)) rfl d19_48 ?_
        refine iand K S d19_49 ?_
        refine ishr K S d19_50 ?_
        refine iconst K S (x := (1 : Int32)) rfl d19_51 ?_
        refine iand K S d19_52 ?_
        refine ific_eq K S d19_53 (fun c53 => ?_) (fun c53 => ?_)
        · refine iconst K S (x := (4 : Int32)) rfl d19_58 ?_
          refine reti K S (by decide) (by decide) d19_59 ?_
          exact ⟨by rw [ffp, if_pos (show bitz m1 (r &&& 3) from c7), if_pos (show bitz m1 ((r + t) &&& 3) from c21), if_pos (show bitz m1 ((r + 2 * t) &&& 3) from c37), if_pos (show bitz m1 ((r + 3 * t) &&& 3) from c53)], rfl⟩
        refine iconst K S (x := (3 : Int32)) rfl d19_56 ?_
        refine reti K S (by decide) (by decide) d19_57 ?_
        exact ⟨by rw [ffp, if_pos (show bitz m1 (r &&& 3) from c7), if_pos (show bitz m1 ((r + t) &&& 3) from c21), if_pos (show bitz m1 ((r + 2 * t) &&& 3) from c37), if_neg (show ¬ bitz m1 ((r + 3 * t) &&& 3) from c53)], rfl⟩
      refine iconst K S (x := (2 : Int32)) rfl d19_40 ?_
      refine reti K S (by decide) (by decide) d19_41 ?_
      exact ⟨by rw [ffp, if_pos (show bitz m1 (r &&& 3) from c7), if_pos (show bitz m1 ((r + t) &&& 3) from c21), if_neg (show ¬ bitz m1 ((r + 2 * t) &&& 3) from c37)], rfl⟩
    refine iconst K S (x := (1 : Int32)) rfl d19_24 ?_
    refine reti K S (by decide) (by decide) d19_25 ?_
    exact ⟨by rw [ffp, if_pos (show bitz m1 (r &&& 3) from c7), if_neg (show ¬ bitz m1 ((r + t) &&& 3) from c21)], rfl⟩
  refine iconst K S (x := (0 : Int32)) rfl d19_10 ?_
  refine reti K S (by decide) (by decide) d19_11 ?_
  exact ⟨by rw [ffp, if_neg (show ¬ bitz m1 (r &&& 3) from c7)], rfl⟩

theorem d7_0 : Dc method_6_code 0 (.iload_n 1) 1 1 := ⟨by decide +kernel, rfl⟩
theorem d7_1 : Dc method_6_code 1 (.iload_n 0) 1 2 := ⟨by decide +kernel, rfl⟩
theorem d7_2 : Dc method_6_code 2 (.ishr) 1 3 := ⟨by decide +kernel, rfl⟩
theorem d7_3 : Dc method_6_code 3 (.iconst 1) 1 4 := ⟨by decide +kernel, rfl⟩
theorem d7_4 : Dc method_6_code 4 (.iand) 1 5 := ⟨by decide +kernel, rfl⟩
theorem d7_5 : Bc method_6_code 5 (.ifCond .eq 7) (7) 8 12 := ⟨by decide +kernel, rfl, by decide, by decide⟩
theorem d7_8 : Dc method_6_code 8 (.iconst 1) 1 9 := ⟨by decide +kernel, rfl⟩
theorem d7_9 : Bc method_6_code 9 (.goto 4) (4) 12 13 := ⟨by decide +kernel, rfl, by decide, by decide⟩
theorem d7_12 : Dc method_6_code 12 (.iconst 0) 1 13 := ⟨by decide +kernel, rfl⟩
theorem d7_13 : Dc method_6_code 13 (.istore 7) 2 15 := ⟨by decide +kernel, rfl⟩
theorem d7_15 : Dc method_6_code 15 (.iload_n 2) 1 16 := ⟨by decide +kernel, rfl⟩
theorem d7_16 : Dc method_6_code 16 (.iload_n 0) 1 17 := ⟨by decide +kernel, rfl⟩
theorem d7_17 : Dc method_6_code 17 (.ishr) 1 18 := ⟨by decide +kernel, rfl⟩
theorem d7_18 : Dc method_6_code 18 (.iconst 1) 1 19 := ⟨by decide +kernel, rfl⟩
theorem d7_19 : Dc method_6_code 19 (.iand) 1 20 := ⟨by decide +kernel, rfl⟩
theorem d7_20 : Bc method_6_code 20 (.ifCond .eq 7) (7) 23 27 := ⟨by decide +kernel, rfl, by decide, by decide⟩
theorem d7_23 : Dc method_6_code 23 (.iconst 1) 1 24 := ⟨by decide +kernel, rfl⟩
theorem d7_24 : Bc method_6_code 24 (.goto 4) (4) 27 28 := ⟨by decide +kernel, rfl, by decide, by decide⟩
theorem d7_27 : Dc method_6_code 27 (.iconst 0) 1 28 := ⟨by decide +kernel, rfl⟩
theorem d7_28 : Dc method_6_code 28 (.istore 8) 2 30 := ⟨by decide +kernel, rfl⟩
theorem d7_30 : Dc method_6_code 30 (.iload 7) 2 32 := ⟨by decide +kernel, rfl⟩
theorem d7_32 : Bc method_6_code 32 (.ifCond .eq 20) (20) 35 52 := ⟨by decide +kernel, rfl, by decide, by decide⟩
theorem d7_35 : Dc method_6_code 35 (.iload 8) 2 37 := ⟨by decide +kernel, rfl⟩
theorem d7_37 : Bc method_6_code 37 (.ifCond .eq 13) (13) 40 50 := ⟨by decide +kernel, rfl, by decide, by decide⟩
theorem d7_40 : Dc method_6_code 40 (.iload 4) 2 42 := ⟨by decide +kernel, rfl⟩
theorem d7_42 : Bc method_6_code 42 (.ifCond .eq 8) (8) 45 50 := ⟨by decide +kernel, rfl, by decide, by decide⟩
theorem d7_45 : Dc method_6_code 45 (.iload 6) 2 47 := ⟨by decide +kernel, rfl⟩
theorem d7_47 : Bc method_6_code 47 (.goto 4) (4) 50 51 := ⟨by decide +kernel, rfl, by decide, by decide⟩
theorem d7_50 : Dc method_6_code 50 (.iconst 1) 1 51 := ⟨by decide +kernel, rfl⟩
theorem d7_51 : Dc method_6_code 51 (.ireturn) 1 52 := ⟨by decide +kernel, rfl⟩
theorem d7_52 : Dc method_6_code 52 (.iload 8) 2 54 := ⟨by decide +kernel, rfl⟩
theorem d7_54 : Bc method_6_code 54 (.ifCond .eq 12) (12) 57 66 := ⟨by decide +kernel, rfl, by decide, by decide⟩
theorem d7_57 : Dc method_6_code 57 (.iload_n 3) 1 58 := ⟨by decide +kernel, rfl⟩
theorem d7_58 : Bc method_6_code 58 (.ifCond .eq 8) (8) 61 66 := ⟨by decide +kernel, rfl, by decide, by decide⟩
theorem d7_61 : Dc method_6_code 61 (.iload 5) 2 63 := ⟨by decide +kernel, rfl⟩
theorem d7_63 : Bc method_6_code 63 (.goto 4) (4) 66 67 := ⟨by decide +kernel, rfl, by decide, by decide⟩
theorem d7_66 : Dc method_6_code 66 (.iconst 0) 1 67 := ⟨by decide +kernel, rfl⟩
theorem d7_67 : Dc method_6_code 67 (.ireturn) 1 68 := ⟨by decide +kernel, rfl⟩
theorem ef_xp (m : MethodId) (q : Int32) (a1 : Int32) (m2 : Int32) (sp0 : Int32) (sp1 : Int32) (id0 : Int32) (id1 : Int32) : entryFrame m #[.int q, .int a1, .int m2, .int sp0, .int sp1, .int id0, .int id1] 9 = mkF m 0 #[.val (.int q), .val (.int a1), .val (.int m2), .val (.int sp0), .val (.int sp1), .val (.int id0), .val (.int id1), .unset, .unset] [] := by first | (simp [entryFrame, mkF, argsToLocals, Value.category]; done) | rfl
set_option maxRecDepth 65536 in
set_option maxHeartbeats 40000000 in
theorem m_xp (l : Launch) (Z : State) (a0 : Array Value) (hw : ∀ d ∈ tables_1, d.before a0 Z = true) (n0 : Nat) (q : Int32) (a1 : Int32) (m2 : Int32) (sp0 : Int32) (sp1 : Int32) (id0 : Int32) (id1 : Int32) (h : Heap) (hn : n0 ≤ h.size) : Met n0 l Z (⟨"com/example/procsh/procsh/service/PartitionSplitMarkedPinLaw", "expect", "(IIIZZII)I"⟩ : MethodName) method_6_code 9 (some .int) ({ frames := 0, cells := 0, slots := 0, locals := 0 } : Room) [] #[.int q, .int a1, .int m2, .int sp0, .int sp1, .int id0, .int id1] h (Pu (some (.int (fxp q a1 m2 sp0 sp1 id0 id1))) h) := by
  refine enter (plainFor_of_name (by first | (simp [plainName, overriddenIn]; done) | decide +kernel)) (fun m => ef_xp m q a1 m2 sp0 sp1 id0 id1) hn ?_
  intro p e s m below meth c T K S
  refine iload_n K S rfl d7_0 ?_
  refine iload_n K S rfl d7_1 ?_
  refine ishr K S d7_2 ?_
  refine iconst K S (x := (1 : Int32)) rfl d7_3 ?_
  refine iand K S d7_4 ?_
  refine ific_eq K S d7_5 (fun c5 => ?_) (fun c5 => ?_)
  · refine iconst K S (x := (0 : Int32)) rfl d7_12 ?_
    refine istore K S (l' := #[.val (.int q), .val (.int a1), .val (.int m2), .val (.int sp0), .val (.int sp1), .val (.int id0), .val (.int id1), .val (.int (0 : Int32)), .unset]) rfl d7_13 ?_
    refine iload_n K S rfl d7_15 ?_
    refine iload_n K S rfl d7_16 ?_
    refine ishr K S d7_17 ?_
    refine iconst K S (x := (1 : Int32)) rfl d7_18 ?_
    refine iand K S d7_19 ?_
    refine ific_eq K S d7_20 (fun c20 => ?_) (fun c20 => ?_)
    · refine iconst K S (x := (0 : Int32)) rfl d7_27 ?_
      refine istore K S (l' := #[.val (.int q), .val (.int a1), .val (.int m2), .val (.int sp0), .val (.int sp1), .val (.int id0), .val (.int id1), .val (.int (0 : Int32)), .val (.int (0 : Int32))]) rfl d7_28 ?_
      refine iload K S rfl d7_30 ?_
      refine ific_eq K S d7_32 (fun c32 => ?_) (fun c32 => ?_)
      rotate_left
      · exact absurd c32 (by decide)
      refine iload K S rfl d7_52 ?_
      refine ific_eq K S d7_54 (fun c54 => ?_) (fun c54 => ?_)
      rotate_left
      · exact absurd c54 (by decide)
      refine iconst K S (x := (0 : Int32)) rfl d7_66 ?_
      refine reti K S (by decide) (by decide) d7_67 ?_
      exact ⟨by rw [fxp, if_pos (show bitz a1 q from c5), if_pos (show bitz m2 q from c20)], rfl⟩
    refine iconst K S (x := (1 : Int32)) rfl d7_23 ?_
    refine goto K S d7_24 ?_
    refine istore K S (l' := #[.val (.int q), .val (.int a1), .val (.int m2), .val (.int sp0), .val (.int sp1), .val (.int id0), .val (.int id1), .val (.int (0 : Int32)), .val (.int (1 : Int32))]) rfl d7_28 ?_
    refine iload K S rfl d7_30 ?_
    refine ific_eq K S d7_32 (fun c32 => ?_) (fun c32 => ?_)
    rotate_left
    · exact absurd c32 (by decide)
    refine iload K S rfl d7_52 ?_
    refine ific_eq K S d7_54 (fun c54 => ?_) (fun c54 => ?_)
    · exact absurd c54 (by decide)
    refine iload_n K S rfl d7_57 ?_
    refine ific_eq K S d7_58 (fun c58 => ?_) (fun c58 => ?_)
    · refine iconst K S (x := (0 : Int32)) rfl d7_66 ?_
      refine reti K S (by decide) (by decide) d7_67 ?_
      exact ⟨by rw [fxp, if_pos (show bitz a1 q from c5), if_neg (show ¬ bitz m2 q from c20), if_pos c58], rfl⟩
    refine iload K S rfl d7_61 ?_
    refine goto K S d7_63 ?_
    refine reti K S (by decide) (by decide) d7_67 ?_
    exact ⟨by rw [fxp, if_pos (show bitz a1 q from c5), if_neg (show ¬ bitz m2 q from c20), if_neg c58], rfl⟩
  refine iconst K S (x := (1 : Int32)) rfl d7_8 ?_
  refine goto K S d7_9 ?_
  refine istore K S (l' := #[.val (.int q), .val (.int a1), .val (.int m2), .val (.int sp0), .val (.int sp1), .val (.int id0), .val (.int id1), .val (.int (1 : Int32)), .unset]) rfl d7_13 ?_
  refine iload_n K S rfl d7_15 ?_
  refine iload_n K S rfl d7_16 ?_
  refine ishr K S d7_17 ?_
  refine iconst K S (x := (1 : Int32)) rfl d7_18 ?_
  refine iand K S d7_19 ?_
  refine ific_eq K S d7_20 (fun c20 => ?_) (fun c20 => ?_)
  · refine iconst K S (x := (0 : Int32)) rfl d7_27 ?_
    refine istore K S (l' := #[.val (.int q), .val (.int a1), .val (.int m2), .val (.int sp0), .val (.int sp1), .val (.int id0), .val (.int id1), .val (.int (1 : Int32)), .val (.int (0 : Int32))]) rfl d7_28 ?_
    refine iload K S rfl d7_30 ?_
    refine ific_eq K S d7_32 (fun c32 => ?_) (fun c32 => ?_)
    · exact absurd c32 (by decide)
    refine iload K S rfl d7_35 ?_
    refine ific_eq K S d7_37 (fun c37 => ?_) (fun c37 => ?_)
    rotate_left
    · exact absurd c37 (by decide)
    refine iconst K S (x := (1 : Int32)) rfl d7_50 ?_
    refine reti K S (by decide) (by decide) d7_51 ?_
    exact ⟨by rw [fxp, if_neg (show ¬ bitz a1 q from c5), if_pos (show bitz m2 q from c20)], rfl⟩
  refine iconst K S (x := (1 : Int32)) rfl d7_23 ?_
  refine goto K S d7_24 ?_
  refine istore K S (l' := #[.val (.int q), .val (.int a1), .val (.int m2), .val (.int sp0), .val (.int sp1), .val (.int id0), .val (.int id1), .val (.int (1 : Int32)), .val (.int (1 : Int32))]) rfl d7_28 ?_
  refine iload K S rfl d7_30 ?_
  refine ific_eq K S d7_32 (fun c32 => ?_) (fun c32 => ?_)
  · exact absurd c32 (by decide)
  refine iload K S rfl d7_35 ?_
  refine ific_eq K S d7_37 (fun c37 => ?_) (fun c37 => ?_)
  · exact absurd c37 (by decide)
  refine iload K S rfl d7_40 ?_
  refine ific_eq K S d7_42 (fun c42 => ?_) (fun c42 => ?_)
  · refine iconst K S (x := (1 : Int32)) rfl d7_50 ?_
    refine reti K S (by decide) (by decide) d7_51 ?_
    exact ⟨by rw [fxp, if_neg (show ¬ bitz a1 q from c5), if_neg (show ¬ bitz m2 q from c20), if_pos c42], rfl⟩
  refine iload K S rfl d7_45 ?_
  refine goto K S d7_47 ?_
  refine reti K S (by decide) (by decide) d7_51 ?_
  exact ⟨by rw [fxp, if_neg (show ¬ bitz a1 q from c5), if_neg (show ¬ bitz m2 q from c20), if_neg c42], rfl⟩

theorem d9_0 : Dc method_7_code 0 (.aload_n 0) 1 1 := ⟨by decide +kernel, rfl⟩
theorem d9_1 : Dc method_7_code 1 (.iload_n 1) 1 2 := ⟨by decide +kernel, rfl⟩
theorem d9_2 : Dc method_7_code 2 (.invokevirtual 55) 3 5 := ⟨by decide +kernel, rfl⟩
theorem d9_5 : Dc method_7_code 5 (.aload_n 2) 1 6 := ⟨by decide +kernel, rfl⟩
theorem d9_6 : Dc method_7_code 6 (.iload_n 1) 1 7 := ⟨by decide +kernel, rfl⟩
theorem d9_7 : Dc method_7_code 7 (.iaload) 1 8 := ⟨by decide +kernel, rfl⟩
theorem d9_8 : Bc method_7_code 8 (.if_icmp .ne 7) (7) 11 15 := ⟨by decide +kernel, rfl, by decide, by decide⟩
theorem d9_11 : Dc method_7_code 11 (.iconst 1) 1 12 := ⟨by decide +kernel, rfl⟩
theorem d9_12 : Bc method_7_code 12 (.goto 4) (4) 15 16 := ⟨by decide +kernel, rfl, by decide, by decide⟩
theorem d9_15 : Dc method_7_code 15 (.iconst 0) 1 16 := ⟨by decide +kernel, rfl⟩
theorem d9_16 : Dc method_7_code 16 (.ireturn) 1 17 := ⟨by decide +kernel, rfl⟩
theorem pd_10 : parseMethodDescriptor "(I)I" = some ⟨[.int], (some .int)⟩ := by decide +kernel
theorem ef_cb (m : MethodId) (o : Addr) (p0 : Addr) (p1 : Addr) (p2 : Addr) (p3 : Addr) (p4 : Addr) (p5 : Addr) (p6 : Addr) (p7 : Addr) (q : Int32) (v : Addr) (xs : List Int32) (L : PS) : entryFrame m #[.ref o, .int q, .ref v] 3 = mkF m 0 #[.val (.ref o), .val (.int q), .val (.ref v)] [] := by first | (simp [entryFrame, mkF, argsToLocals, Value.category]; done) | rfl
set_option maxRecDepth 65536 in
set_option maxHeartbeats 40000000 in
theorem m_cb (l : Launch) (Z : State) (a0 : Array Value) (hw : ∀ d ∈ tables_1, d.before a0 Z = true) (n0 : Nat) (o : Addr) (p0 : Addr) (p1 : Addr) (p2 : Addr) (p3 : Addr) (p4 : Addr) (p5 : Addr) (p6 : Addr) (p7 : Addr) (q : Int32) (v : Addr) (xs : List Int32) (L : PS) (h : Heap) (hn : n0 ≤ h.size) (H : PK Z h o p0 p1 p2 p3 p4 p5 p6 p7 L) (A_v : VA Z h v .int (xs.map Value.int)) (ok : linb (row L 2) q = true) (okx : linb xs q = true) (he : lget (row L 2) q = lget xs q) : Met n0 l Z (⟨"com/example/procsh/procsh/service/PartitionSplitMarkedPinLaw", "checkBlockOf", "(Lcom/example/procsh/procsh/service/Partition;I[I)Z"⟩ : MethodName) method_7_code 3 (some .boolean) ({ frames := 1, cells := 0, slots := 0, locals := 13 } : Room) [] #[.ref o, .int q, .ref v] h (Pu (some (.int 1)) h) := by
  refine enter (plainFor_of_name (by first | (simp [plainName, overriddenIn]; done) | decide +kernel)) (fun m => ef_cb m o p0 p1 p2 p3 p4 p5 p6 p7 q v xs L) hn ?_
  intro p e s m below meth c T K S
  have E_o := H.1
  refine aload_n K S rfl rfl d9_0 ?_
  refine iload_n K S rfl d9_1 ?_
  refine callV K S (W := 0) (m_blockOf l Z a0 hw n0 o p0 p1 p2 p3 p4 p5 p6 p7 q L h (Sle S) H ok) E_o (hwi hw 58 rfl) (hwi hw 59 rfl) (hwi hw 61 rfl) (hwi hw 60 rfl) (hwi hw 62 rfl) (hwi hw 2 rfl) (by decide) (by decide) (by decide) (by decide) (by decide) rfl (argsL := [.int q]) rfl (lenOf pd_10 rfl) (rest := []) rfl (Nat.le_of_eq rfl) d9_2 (pu fun T S => ?_)
  show Wp n0 p e _ s below _ T (mkF m 5 #[.val (.ref o), .val (.int q), .val (.ref v)] [.int (lget (row L 2) q)])
  refine aload_n K S rfl rfl d9_5 ?_
  refine iload_n K S rfl d9_6 ?_
  refine iaload K S (v := .int (lget xs q)) (i := q.toNatClampNeg) A_v (linb_ix okx) (linb_get okx) d9_7 ?_
  refine icmp_ne K S d9_8 (fun c8 => ?_) (fun c8 => ?_)
  · exact absurd he c8
  refine iconst K S (x := (1 : Int32)) rfl d9_11 ?_
  refine goto K S d9_12 ?_
  refine retn K S (by simp) (y := (1 : Int32)) rfl (by decide) (by decide) d9_16 ?_
  exact ⟨rfl, rfl⟩

theorem d11_0 : Dc method_8_code 0 (.iload_n 1) 1 1 := ⟨by decide +kernel, rfl⟩
theorem d11_1 : Dc method_8_code 1 (.iload_n 2) 1 2 := ⟨by decide +kernel, rfl⟩
theorem d11_2 : Bc method_8_code 2 (.if_icmp .lt 5) (5) 5 7 := ⟨by decide +kernel, rfl, by decide, by decide⟩
theorem d11_5 : Dc method_8_code 5 (.iconst 1) 1 6 := ⟨by decide +kernel, rfl⟩
theorem d11_6 : Dc method_8_code 6 (.ireturn) 1 7 := ⟨by decide +kernel, rfl⟩
theorem d11_7 : Dc method_8_code 7 (.aload_n 0) 1 8 := ⟨by decide +kernel, rfl⟩
theorem d11_8 : Dc method_8_code 8 (.iload_n 1) 1 9 := ⟨by decide +kernel, rfl⟩
theorem d11_9 : Dc method_8_code 9 (.invokevirtual 59) 3 12 := ⟨by decide +kernel, rfl⟩
theorem d11_12 : Dc method_8_code 12 (.aload_n 3) 1 13 := ⟨by decide +kernel, rfl⟩
theorem d11_13 : Dc method_8_code 13 (.iload_n 1) 1 14 := ⟨by decide +kernel, rfl⟩
theorem d11_14 : Dc method_8_code 14 (.iaload) 1 15 := ⟨by decide +kernel, rfl⟩
theorem d11_15 : Bc method_8_code 15 (.if_icmp .ne 7) (7) 18 22 := ⟨by decide +kernel, rfl, by decide, by decide⟩
theorem d11_18 : Dc method_8_code 18 (.iconst 1) 1 19 := ⟨by decide +kernel, rfl⟩
theorem d11_19 : Bc method_8_code 19 (.goto 4) (4) 22 23 := ⟨by decide +kernel, rfl, by decide, by decide⟩
theorem d11_22 : Dc method_8_code 22 (.iconst 0) 1 23 := ⟨by decide +kernel, rfl⟩
theorem d11_23 : Dc method_8_code 23 (.ireturn) 1 24 := ⟨by decide +kernel, rfl⟩
theorem pd_12 : parseMethodDescriptor "(I)I" = some ⟨[.int], (some .int)⟩ := by decide +kernel
theorem ef_co (m : MethodId) (o : Addr) (p0 : Addr) (p1 : Addr) (p2 : Addr) (p3 : Addr) (p4 : Addr) (p5 : Addr) (p6 : Addr) (p7 : Addr) (q : Int32) (eb : Int32) (v : Addr) (xs : List Int32) (L : PS) : entryFrame m #[.ref o, .int q, .int eb, .ref v] 4 = mkF m 0 #[.val (.ref o), .val (.int q), .val (.int eb), .val (.ref v)] [] := by first | (simp [entryFrame, mkF, argsToLocals, Value.category]; done) | rfl
set_option maxRecDepth 65536 in
set_option maxHeartbeats 40000000 in
theorem m_co (l : Launch) (Z : State) (a0 : Array Value) (hw : ∀ d ∈ tables_1, d.before a0 Z = true) (n0 : Nat) (o : Addr) (p0 : Addr) (p1 : Addr) (p2 : Addr) (p3 : Addr) (p4 : Addr) (p5 : Addr) (p6 : Addr) (p7 : Addr) (q : Int32) (eb : Int32) (v : Addr) (xs : List Int32) (L : PS) (h : Heap) (hn : n0 ≤ h.size) (H : PK Z h o p0 p1 p2 p3 p4 p5 p6 p7 L) (A_v : VA Z h v .int (xs.map Value.int)) (okx : linb xs q = true) (he : q < eb → linb (row L 6) q = true ∧ lget (row L 6) q = lget xs q) : Met n0 l Z (⟨"com/example/procsh/procsh/service/PartitionSplitMarkedPinLaw", "checkOrigin", "(Lcom/example/procsh/procsh/service/Partition;II[I)Z"⟩ : MethodName) method_8_code 4 (some .boolean) ({ frames := 1, cells := 0, slots := 0, locals := 13 } : Room) [] #[.ref o, .int q, .int eb, .ref v] h (Pu (some (.int 1)) h) := by
  refine enter (plainFor_of_name (by first | (simp [plainName, overriddenIn]; done) | decide +kernel)) (fun m => ef_co m o p0 p1 p2 p3 p4 p5 p6 p7 q eb v xs L) hn ?_
  intro p e s m below meth c T K S
  have E_o := H.1
  refine iload_n K S rfl d11_0 ?_
  refine iload_n K S rfl d11_1 ?_
  refine icmp_lt K S d11_2 (fun c2 => ?_) (fun c2 => ?_)
  · refine aload_n K S rfl rfl d11_7 ?_
    refine iload_n K S rfl d11_8 ?_
    refine callV K S (W := 0) (m_origin l Z a0 hw n0 o p0 p1 p2 p3 p4 p5 p6 p7 q L h (Sle S) H (he c2).1) E_o (hwi hw 66 rfl) (hwi hw 67 rfl) (hwi hw 69 rfl) (hwi hw 68 rfl) (hwi hw 70 rfl) (hwi hw 2 rfl) (by decide) (by decide) (by decide) (by decide) (by decide) rfl (argsL := [.int q]) rfl (lenOf pd_12 rfl) (rest := []) rfl (Nat.le_of_eq rfl) d11_9 (pu fun T S => ?_)
    show Wp n0 p e _ s below _ T (mkF m 12 #[.val (.ref o), .val (.int q), .val (.int eb), .val (.ref v)] [.int (lget (row L 6) q)])
    refine aload_n K S rfl rfl d11_12 ?_
    refine iload_n K S rfl d11_13 ?_
    refine iaload K S (v := .int (lget xs q)) (i := q.toNatClampNeg) A_v (linb_ix okx) (linb_get okx) d11_14 ?_
    refine icmp_ne K S d11_15 (fun c15 => ?_) (fun c15 => ?_)
    · exact absurd (he c2).2 c15
    refine iconst K S (x := (1 : Int32)) rfl d11_18 ?_
    refine goto K S d11_19 ?_
    refine retn K S (by simp) (y := (1 : Int32)) rfl (by decide) (by decide) d11_23 ?_
    exact ⟨rfl, rfl⟩
  refine iconst K S (x := (1 : Int32)) rfl d11_5 ?_
  refine retn K S (by simp) (y := (1 : Int32)) rfl (by decide) (by decide) d11_6 ?_
  exact ⟨rfl, rfl⟩

theorem d13_0 : Dc method_9_code 0 (.iload_n 1) 1 1 := ⟨by decide +kernel, rfl⟩
theorem d13_1 : Dc method_9_code 1 (.iload_n 2) 1 2 := ⟨by decide +kernel, rfl⟩
theorem d13_2 : Bc method_9_code 2 (.if_icmp .lt 5) (5) 5 7 := ⟨by decide +kernel, rfl, by decide, by decide⟩
theorem d13_5 : Dc method_9_code 5 (.iconst 1) 1 6 := ⟨by decide +kernel, rfl⟩
theorem d13_6 : Dc method_9_code 6 (.ireturn) 1 7 := ⟨by decide +kernel, rfl⟩
theorem d13_7 : Dc method_9_code 7 (.aload_n 0) 1 8 := ⟨by decide +kernel, rfl⟩
theorem d13_8 : Dc method_9_code 8 (.iload_n 1) 1 9 := ⟨by decide +kernel, rfl⟩
theorem d13_9 : Dc method_9_code 9 (.invokevirtual 62) 3 12 := ⟨by decide +kernel, rfl⟩
theorem d13_12 : Dc method_9_code 12 (.aload_n 3) 1 13 := ⟨by decide +kernel, rfl⟩
theorem d13_13 : Dc method_9_code 13 (.iload_n 1) 1 14 := ⟨by decide +kernel, rfl⟩
theorem d13_14 : Dc method_9_code 14 (.iaload) 1 15 := ⟨by decide +kernel, rfl⟩
theorem d13_15 : Bc method_9_code 15 (.if_icmp .ne 7) (7) 18 22 := ⟨by decide +kernel, rfl, by decide, by decide⟩
theorem d13_18 : Dc method_9_code 18 (.iconst 1) 1 19 := ⟨by decide +kernel, rfl⟩
theorem d13_19 : Bc method_9_code 19 (.goto 4) (4) 22 23 := ⟨by decide +kernel, rfl, by decide, by decide⟩
theorem d13_22 : Dc method_9_code 22 (.iconst 0) 1 23 := ⟨by decide +kernel, rfl⟩
theorem d13_23 : Dc method_9_code 23 (.ireturn) 1 24 := ⟨by decide +kernel, rfl⟩
theorem pd_14 : parseMethodDescriptor "(I)I" = some ⟨[.int], (some .int)⟩ := by decide +kernel
theorem ef_cs (m : MethodId) (o : Addr) (p0 : Addr) (p1 : Addr) (p2 : Addr) (p3 : Addr) (p4 : Addr) (p5 : Addr) (p6 : Addr) (p7 : Addr) (q : Int32) (eb : Int32) (v : Addr) (xs : List Int32) (L : PS) : entryFrame m #[.ref o, .int q, .int eb, .ref v] 4 = mkF m 0 #[.val (.ref o), .val (.int q), .val (.int eb), .val (.ref v)] [] := by first | (simp [entryFrame, mkF, argsToLocals, Value.category]; done) | rfl
set_option maxRecDepth 65536 in
set_option maxHeartbeats 40000000 in
theorem m_cs (l : Launch) (Z : State) (a0 : Array Value) (hw : ∀ d ∈ tables_1, d.before a0 Z = true) (n0 : Nat) (o : Addr) (p0 : Addr) (p1 : Addr) (p2 : Addr) (p3 : Addr) (p4 : Addr) (p5 : Addr) (p6 : Addr) (p7 : Addr) (q : Int32) (eb : Int32) (v : Addr) (xs : List Int32) (L : PS) (h : Heap) (hn : n0 ≤ h.size) (H : PK Z h o p0 p1 p2 p3 p4 p5 p6 p7 L) (A_v : VA Z h v .int (xs.map Value.int)) (okx : linb xs q = true) (he : q < eb → linb (row L 4) q = true ∧ linb (row L 3) q = true ∧ lget (row L 4) q - lget (row L 3) q = lget xs q) : Met n0 l Z (⟨"com/example/procsh/procsh/service/PartitionSplitMarkedPinLaw", "checkSize", "(Lcom/example/procsh/procsh/service/Partition;II[I)Z"⟩ : MethodName) method_9_code 4 (some .boolean) ({ frames := 1, cells := 0, slots := 0, locals := 13 } : Room) [] #[.ref o, .int q, .int eb, .ref v] h (Pu (some (.int 1)) h) := by
  refine enter (plainFor_of_name (by first | (simp [plainName, overriddenIn]; done) | decide +kernel)) (fun m => ef_cs m o p0 p1 p2 p3 p4 p5 p6 p7 q eb v xs L) hn ?_
  intro p e s m below meth c T K S
  have E_o := H.1
  refine iload_n K S rfl d13_0 ?_
  refine iload_n K S rfl d13_1 ?_
  refine icmp_lt K S d13_2 (fun c2 => ?_) (fun c2 => ?_)
  · refine aload_n K S rfl rfl d13_7 ?_
    refine iload_n K S rfl d13_8 ?_
    refine callV K S (W := 0) (m_size l Z a0 hw n0 o p0 p1 p2 p3 p4 p5 p6 p7 q L h (Sle S) H (he c2).1 (he c2).2.1) E_o (hwi hw 74 rfl) (hwi hw 75 rfl) (hwi hw 77 rfl) (hwi hw 76 rfl) (hwi hw 78 rfl) (hwi hw 2 rfl) (by decide) (by decide) (by decide) (by decide) (by decide) rfl (argsL := [.int q]) rfl (lenOf pd_14 rfl) (rest := []) rfl (Nat.le_of_eq rfl) d13_9 (pu fun T S => ?_)
    show Wp n0 p e _ s below _ T (mkF m 12 #[.val (.ref o), .val (.int q), .val (.int eb), .val (.ref v)] [.int (lget (row L 4) q - lget (row L 3) q)])
    refine aload_n K S rfl rfl d13_12 ?_
    refine iload_n K S rfl d13_13 ?_
    refine iaload K S (v := .int (lget xs q)) (i := q.toNatClampNeg) A_v (linb_ix okx) (linb_get okx) d13_14 ?_
    refine icmp_ne K S d13_15 (fun c15 => ?_) (fun c15 => ?_)
    · exact absurd (he c2).2.2 c15
    refine iconst K S (x := (1 : Int32)) rfl d13_18 ?_
    refine goto K S d13_19 ?_
    refine retn K S (by simp) (y := (1 : Int32)) rfl (by decide) (by decide) d13_23 ?_
    exact ⟨rfl, rfl⟩
  refine iconst K S (x := (1 : Int32)) rfl d13_5 ?_
  refine retn K S (by simp) (y := (1 : Int32)) rfl (by decide) (by decide) d13_6 ?_
  exact ⟨rfl, rfl⟩

theorem okpos_all {L : PS} {q : Int32} (h : okpos L q = true) : linb (row L 0) q = true ∧ ¬ lget (row L 0) q < 0 ∧ ¬ 3 < lget (row L 0) q ∧ linb (row L 2) (lget (row L 0) q) = true ∧ ¬ lget (row L 2) (lget (row L 0) q) < 0 ∧ ¬ 3 < lget (row L 2) (lget (row L 0) q) ∧ linb (row L 3) (lget (row L 2) (lget (row L 0) q)) = true ∧ linb (row L 4) (lget (row L 2) (lget (row L 0) q)) = true ∧ ¬ q < lget (row L 3) (lget (row L 2) (lget (row L 0) q)) ∧ q < lget (row L 4) (lget (row L 2) (lget (row L 0) q)) := by
  simp only [okpos, Bool.and_eq_true, decide_eq_true_eq] at h
  exact ⟨h.1.1.1.1.1.1.1.1.1, h.1.1.1.1.1.1.1.1.2, h.1.1.1.1.1.1.1.2, h.1.1.1.1.1.1.2, h.1.1.1.1.1.2, h.1.1.1.1.2, h.1.1.1.2, h.1.1.2, h.1.2, h.2⟩
theorem d15_0 : Dc method_10_code 0 (.aload_n 0) 1 1 := ⟨by decide +kernel, rfl⟩
theorem d15_1 : Dc method_10_code 1 (.iload_n 1) 1 2 := ⟨by decide +kernel, rfl⟩
theorem d15_2 : Dc method_10_code 2 (.invokevirtual 65) 3 5 := ⟨by decide +kernel, rfl⟩
theorem d15_5 : Dc method_10_code 5 (.istore_n 2) 1 6 := ⟨by decide +kernel, rfl⟩
theorem d15_6 : Dc method_10_code 6 (.iload_n 2) 1 7 := ⟨by decide +kernel, rfl⟩
theorem d15_7 : Bc method_10_code 7 (.ifCond .lt 8) (8) 10 15 := ⟨by decide +kernel, rfl, by decide, by decide⟩
theorem d15_10 : Dc method_10_code 10 (.iload_n 2) 1 11 := ⟨by decide +kernel, rfl⟩
theorem d15_11 : Dc method_10_code 11 (.iconst 3) 1 12 := ⟨by decide +kernel, rfl⟩
theorem d15_12 : Bc method_10_code 12 (.if_icmp .le 5) (5) 15 17 := ⟨by decide +kernel, rfl, by decide, by decide⟩
theorem d15_15 : Dc method_10_code 15 (.iconst 0) 1 16 := ⟨by decide +kernel, rfl⟩
theorem d15_16 : Dc method_10_code 16 (.ireturn) 1 17 := ⟨by decide +kernel, rfl⟩
theorem d15_17 : Dc method_10_code 17 (.aload_n 0) 1 18 := ⟨by decide +kernel, rfl⟩
theorem d15_18 : Dc method_10_code 18 (.iload_n 2) 1 19 := ⟨by decide +kernel, rfl⟩
theorem d15_19 : Dc method_10_code 19 (.invokevirtual 55) 3 22 := ⟨by decide +kernel, rfl⟩
theorem d15_22 : Dc method_10_code 22 (.istore_n 3) 1 23 := ⟨by decide +kernel, rfl⟩
theorem d15_23 : Dc method_10_code 23 (.iload_n 3) 1 24 := ⟨by decide +kernel, rfl⟩
theorem d15_24 : Bc method_10_code 24 (.ifCond .lt 8) (8) 27 32 := ⟨by decide +kernel, rfl, by decide, by decide⟩
theorem d15_27 : Dc method_10_code 27 (.iload_n 3) 1 28 := ⟨by decide +kernel, rfl⟩
theorem d15_28 : Dc method_10_code 28 (.iconst 3) 1 29 := ⟨by decide +kernel, rfl⟩
theorem d15_29 : Bc method_10_code 29 (.if_icmp .le 5) (5) 32 34 := ⟨by decide +kernel, rfl, by decide, by decide⟩
theorem d15_32 : Dc method_10_code 32 (.iconst 0) 1 33 := ⟨by decide +kernel, rfl⟩
theorem d15_33 : Dc method_10_code 33 (.ireturn) 1 34 := ⟨by decide +kernel, rfl⟩
theorem d15_34 : Dc method_10_code 34 (.aload_n 0) 1 35 := ⟨by decide +kernel, rfl⟩
theorem d15_35 : Dc method_10_code 35 (.iload_n 3) 1 36 := ⟨by decide +kernel, rfl⟩
theorem d15_36 : Dc method_10_code 36 (.invokevirtual 68) 3 39 := ⟨by decide +kernel, rfl⟩
theorem d15_39 : Dc method_10_code 39 (.iload_n 1) 1 40 := ⟨by decide +kernel, rfl⟩
theorem d15_40 : Bc method_10_code 40 (.if_icmp .gt 12) (12) 43 52 := ⟨by decide +kernel, rfl, by decide, by decide⟩
theorem d15_43 : Dc method_10_code 43 (.iload_n 1) 1 44 := ⟨by decide +kernel, rfl⟩
theorem d15_44 : Dc method_10_code 44 (.aload_n 0) 1 45 := ⟨by decide +kernel, rfl⟩
theorem d15_45 : Dc method_10_code 45 (.iload_n 3) 1 46 := ⟨by decide +kernel, rfl⟩
theorem d15_46 : Dc method_10_code 46 (.invokevirtual 71) 3 49 := ⟨by decide +kernel, rfl⟩
theorem d15_49 : Bc method_10_code 49 (.if_icmp .lt 5) (5) 52 54 := ⟨by decide +kernel, rfl, by decide, by decide⟩
theorem d15_52 : Dc method_10_code 52 (.iconst 0) 1 53 := ⟨by decide +kernel, rfl⟩
theorem d15_53 : Dc method_10_code 53 (.ireturn) 1 54 := ⟨by decide +kernel, rfl⟩
theorem d15_54 : Dc method_10_code 54 (.iconst 1) 1 55 := ⟨by decide +kernel, rfl⟩
theorem d15_55 : Dc method_10_code 55 (.iload_n 2) 1 56 := ⟨by decide +kernel, rfl⟩
theorem d15_56 : Dc method_10_code 56 (.ishl) 1 57 := ⟨by decide +kernel, rfl⟩
theorem d15_57 : Dc method_10_code 57 (.ireturn) 1 58 := ⟨by decide +kernel, rfl⟩
theorem pd_16 : parseMethodDescriptor "(I)I" = some ⟨[.int], (some .int)⟩ := by decide +kernel
theorem pd_17 : parseMethodDescriptor "(I)I" = some ⟨[.int], (some .int)⟩ := by decide +kernel
theorem pd_18 : parseMethodDescriptor "(I)I" = some ⟨[.int], (some .int)⟩ := by decide +kernel
theorem ef_pb (m : MethodId) (o : Addr) (p0 : Addr) (p1 : Addr) (p2 : Addr) (p3 : Addr) (p4 : Addr) (p5 : Addr) (p6 : Addr) (p7 : Addr) (q : Int32) (L : PS) : entryFrame m #[.ref o, .int q] 4 = mkF m 0 #[.val (.ref o), .val (.int q), .unset, .unset] [] := by first | (simp [entryFrame, mkF, argsToLocals, Value.category]; done) | rfl
set_option maxRecDepth 65536 in
set_option maxHeartbeats 40000000 in
theorem m_pb (l : Launch) (Z : State) (a0 : Array Value) (hw : ∀ d ∈ tables_1, d.before a0 Z = true) (n0 : Nat) (o : Addr) (p0 : Addr) (p1 : Addr) (p2 : Addr) (p3 : Addr) (p4 : Addr) (p5 : Addr) (p6 : Addr) (p7 : Addr) (q : Int32) (L : PS) (h : Heap) (hn : n0 ≤ h.size) (H : PK Z h o p0 p1 p2 p3 p4 p5 p6 p7 L) (ok : okpos L q = true) : Met n0 l Z (⟨"com/example/procsh/procsh/service/PartitionSplitMarkedPinLaw", "posBit", "(Lcom/example/procsh/procsh/service/Partition;I)I"⟩ : MethodName) method_10_code 4 (some .int) ({ frames := 1, cells := 0, slots := 0, locals := 14 } : Room) [] #[.ref o, .int q] h (Pu (some (.int (fpb L q))) h) := by
  refine enter (plainFor_of_name (by first | (simp [plainName, overriddenIn]; done) | decide +kernel)) (fun m => ef_pb m o p0 p1 p2 p3 p4 p5 p6 p7 q L) hn ?_
  intro p e s m below meth c T K S
  have E_o := H.1
  obtain ⟨k0, k1, k2, k3, k4, k5, k6, k7, k8, k9⟩ := okpos_all ok
  refine aload_n K S rfl rfl d15_0 ?_
  refine iload_n K S rfl d15_1 ?_
  refine callV K S (W := 0) (m_state l Z a0 hw n0 o p0 p1 p2 p3 p4 p5 p6 p7 q L h (Sle S) H k0) E_o (hwi hw 82 rfl) (hwi hw 83 rfl) (hwi hw 85 rfl) (hwi hw 84 rfl) (hwi hw 86 rfl) (hwi hw 2 rfl) (by decide) (by decide) (by decide) (by decide) (by decide) rfl (argsL := [.int q]) rfl (lenOf pd_16 rfl) (rest := []) rfl (Nat.le_of_eq rfl) d15_2 (pu fun T S => ?_)
  show Wp n0 p e _ s below _ T (mkF m 5 #[.val (.ref o), .val (.int q), .unset, .unset] [.int (lget (row L 0) q)])
  refine istore_n K S (l' := #[.val (.ref o), .val (.int q), .val (.int (lget (row L 0) q)), .unset]) rfl d15_5 ?_
  refine iload_n K S rfl d15_6 ?_
  refine ific_lt K S d15_7 (fun c7 => ?_) (fun c7 => ?_)
  · exact absurd c7 k1
  refine iload_n K S rfl d15_10 ?_
  refine iconst K S (x := (3 : Int32)) rfl d15_11 ?_
  refine icmp_le K S d15_12 (fun c12 => ?_) (fun c12 => ?_)
  rotate_left
  · exact absurd c12 k2
  refine aload_n K S rfl rfl d15_17 ?_
  refine iload_n K S rfl d15_18 ?_
  refine callV K S (W := 0) (m_blockOf l Z a0 hw n0 o p0 p1 p2 p3 p4 p5 p6 p7 (lget (row L 0) q) L h (Sle S) H k3) E_o (hwi hw 58 rfl) (hwi hw 59 rfl) (hwi hw 61 rfl) (hwi hw 60 rfl) (hwi hw 62 rfl) (hwi hw 2 rfl) (by decide) (by decide) (by decide) (by decide) (by decide) rfl (argsL := [.int (lget (row L 0) q)]) rfl (lenOf pd_10 rfl) (rest := []) rfl (Nat.le_of_eq rfl) d15_19 (pu fun T S => ?_)
  show Wp n0 p e _ s below _ T (mkF m 22 #[.val (.ref o), .val (.int q), .val (.int (lget (row L 0) q)), .unset] [.int (lget (row L 2) (lget (row L 0) q))])
  refine istore_n K S (l' := #[.val (.ref o), .val (.int q), .val (.int (lget (row L 0) q)), .val (.int (lget (row L 2) (lget (row L 0) q)))]) rfl d15_22 ?_
  refine iload_n K S rfl d15_23 ?_
  refine ific_lt K S d15_24 (fun c24 => ?_) (fun c24 => ?_)
  · exact absurd c24 k4
  refine iload_n K S rfl d15_27 ?_
  refine iconst K S (x := (3 : Int32)) rfl d15_28 ?_
  refine icmp_le K S d15_29 (fun c29 => ?_) (fun c29 => ?_)
  rotate_left
  · exact absurd c29 k5
  refine aload_n K S rfl rfl d15_34 ?_
  refine iload_n K S rfl d15_35 ?_
  refine callV K S (W := 0) (m_start l Z a0 hw n0 o p0 p1 p2 p3 p4 p5 p6 p7 (lget (row L 2) (lget (row L 0) q)) L h (Sle S) H k6) E_o (hwi hw 87 rfl) (hwi hw 88 rfl) (hwi hw 90 rfl) (hwi hw 89 rfl) (hwi hw 91 rfl) (hwi hw 2 rfl) (by decide) (by decide) (by decide) (by decide) (by decide) rfl (argsL := [.int (lget (row L 2) (lget (row L 0) q))]) rfl (lenOf pd_17 rfl) (rest := []) rfl (Nat.le_of_eq rfl) d15_36 (pu fun T S => ?_)
  show Wp n0 p e _ s below _ T (mkF m 39 #[.val (.ref o), .val (.int q), .val (.int (lget (row L 0) q)), .val (.int (lget (row L 2) (lget (row L 0) q)))] [.int (lget (row L 3) (lget (row L 2) (lget (row L 0) q)))])
  refine iload_n K S rfl d15_39 ?_
  refine icmp_gt K S d15_40 (fun c40 => ?_) (fun c40 => ?_)
  · exact absurd c40 k8
  refine iload_n K S rfl d15_43 ?_
  refine aload_n K S rfl rfl d15_44 ?_
  refine iload_n K S rfl d15_45 ?_
  refine callV K S (W := 1) (m_end l Z a0 hw n0 o p0 p1 p2 p3 p4 p5 p6 p7 (lget (row L 2) (lget (row L 0) q)) L h (Sle S) H k7) E_o (hwi hw 92 rfl) (hwi hw 93 rfl) (hwi hw 95 rfl) (hwi hw 94 rfl) (hwi hw 96 rfl) (hwi hw 2 rfl) (by decide) (by decide) (by decide) (by decide) (by decide) rfl (argsL := [.int (lget (row L 2) (lget (row L 0) q))]) rfl (lenOf pd_18 rfl) (rest := [.int q]) rfl (Nat.le_of_eq rfl) d15_46 (pu fun T S => ?_)
  show Wp n0 p e _ s below _ T (mkF m 49 #[.val (.ref o), .val (.int q), .val (.int (lget (row L 0) q)), .val (.int (lget (row L 2) (lget (row L 0) q)))] [.int (lget (row L 4) (lget (row L 2) (lget (row L 0) q))), .int q])
  refine icmp_lt K S d15_49 (fun c49 => ?_) (fun c49 => ?_)
  rotate_left
  · exact absurd k9 c49
  refine iconst K S (x := (1 : Int32)) rfl d15_54 ?_
  refine iload_n K S rfl d15_55 ?_
  refine ishl K S d15_56 ?_
  refine reti K S (by decide) (by decide) d15_57 ?_
  exact ⟨rfl, rfl⟩

theorem PK.keep {Z : State} {h h' : Heap} {o p0 p1 p2 p3 p4 p5 p6 p7 : Addr} {L : PS} {ws : List Addr} (H : PK Z h o p0 p1 p2 p3 p4 p5 p6 p7 L) (K : Keep h h' ws) (ho : o ∉ ws) (h0 : p0 ∉ ws) (h1 : p1 ∉ ws) (h2 : p2 ∉ ws) (h3 : p3 ∉ ws) (h4 : p4 ∉ ws) (h5 : p5 ∉ ws) (h6 : p6 ∉ ws) (h7 : p7 ∉ ws) : PK Z h' o p0 p1 p2 p3 p4 p5 p6 p7 L := by
  obtain ⟨E_o, F_elements_o, F_positionOf_o, F_blockOf_o, F_blockStart_o, F_blockEnd_o, F_markedEnd_o, F_origin_o, F_touchedBlocks_o, F_blocks_o, F_touched_o, A_p0, A_p1, A_p2, A_p3, A_p4, A_p5, A_p6, A_p7⟩ := H
  exact ⟨E_o.keep K, F_elements_o.keep K ho, F_positionOf_o.keep K ho, F_blockOf_o.keep K ho, F_blockStart_o.keep K ho, F_blockEnd_o.keep K ho, F_markedEnd_o.keep K ho, F_origin_o.keep K ho, F_touchedBlocks_o.keep K ho, F_blocks_o.keep K ho, F_touched_o.keep K ho, A_p0.keep K h0, A_p1.keep K h1, A_p2.keep K h2, A_p3.keep K h3, A_p4.keep K h4, A_p5.keep K h5, A_p6.keep K h6, A_p7.keep K h7⟩
theorem PK.lts {Z : State} {h : Heap} {o p0 p1 p2 p3 p4 p5 p6 p7 : Addr} {L : PS} (H : PK Z h o p0 p1 p2 p3 p4 p5 p6 p7 L) : o < h.size ∧ p0 < h.size ∧ p1 < h.size ∧ p2 < h.size ∧ p3 < h.size ∧ p4 < h.size ∧ p5 < h.size ∧ p6 < h.size ∧ p7 < h.size := by
  obtain ⟨E_o, F_elements_o, F_positionOf_o, F_blockOf_o, F_blockStart_o, F_blockEnd_o, F_markedEnd_o, F_origin_o, F_touchedBlocks_o, F_blocks_o, F_touched_o, A_p0, A_p1, A_p2, A_p3, A_p4, A_p5, A_p6, A_p7⟩ := H
  exact ⟨E_o.lt, A_p0.lt, A_p1.lt, A_p2.lt, A_p3.lt, A_p4.lt, A_p5.lt, A_p6.lt, A_p7.lt⟩
def own_U : List (Int32 × List Int32) := [(0, []), (1, [0]), (2, [1]), (3, [0, 1]), (3, [1, 0]), (4, [2]), (5, [0, 2]), (5, [2, 0]), (6, [1, 2]), (6, [2, 1]), (7, [0, 1, 2]), (7, [0, 2, 1]), (7, [1, 2, 0]), (7, [1, 0, 2]), (7, [2, 0, 1]), (7, [2, 1, 0]), (8, [3]), (9, [0, 3]), (9, [3, 0]), (10, [1, 3]), (10, [3, 1]), (11, [0, 1, 3]), (11, [0, 3, 1]), (11, [1, 3, 0]), (11, [1, 0, 3]), (11, [3, 0, 1]), (11, [3, 1, 0]), (12, [2, 3]), (12, [3, 2]), (13, [0, 2, 3]), (13, [0, 3, 2]), (13, [2, 3, 0]), (13, [2, 0, 3]), (13, [3, 0, 2]), (13, [3, 2, 0]), (14, [1, 2, 3]), (14, [3, 2, 1]), (14, [1, 3, 2]), (14, [2, 3, 1]), (14, [2, 1, 3]), (14, [3, 1, 2]), (15, [0, 1, 2, 3]), (15, [0, 3, 2, 1]), (15, [1, 2, 3, 0]), (15, [1, 0, 3, 2]), (15, [2, 3, 0, 1]), (15, [2, 1, 0, 3]), (15, [3, 0, 1, 2]), (15, [3, 2, 1, 0])]
def own_T : List (Int32 × PS) := [(0, ([[0, 1, 2, 3], [0, 1, 2, 3], [0, 0, 0, 0], [0, 0, 0, 0], [4, 0, 0, 0], [0, 0, 0, 0], [0, 0, 0, 0], [0, 0, 0, 0]], 1, 0)), (1, ([[0, 1, 2, 3], [0, 1, 2, 3], [1, 0, 0, 0], [1, 0, 0, 0], [4, 1, 0, 0], [1, 0, 0, 0], [0, 0, 0, 0], [0, 0, 0, 0]], 2, 0)), (2, ([[1, 0, 2, 3], [1, 0, 2, 3], [0, 1, 0, 0], [1, 0, 0, 0], [4, 1, 0, 0], [1, 0, 0, 0], [0, 0, 0, 0], [0, 0, 0, 0]], 2, 0)), (3, ([[0, 1, 2, 3], [0, 1, 2, 3], [1, 1, 0, 0], [2, 0, 0, 0], [4, 2, 0, 0], [2, 0, 0, 0], [0, 0, 0, 0], [0, 0, 0, 0]], 2, 0)), (3, ([[1, 0, 2, 3], [1, 0, 2, 3], [1, 1, 0, 0], [2, 0, 0, 0], [4, 2, 0, 0], [2, 0, 0, 0], [0, 0, 0, 0], [0, 0, 0, 0]], 2, 0)), (4, ([[2, 1, 0, 3], [2, 1, 0, 3], [0, 0, 1, 0], [1, 0, 0, 0], [4, 1, 0, 0], [1, 0, 0, 0], [0, 0, 0, 0], [0, 0, 0, 0]], 2, 0)), (5, ([[0, 2, 1, 3], [0, 2, 1, 3], [1, 0, 1, 0], [2, 0, 0, 0], [4, 2, 0, 0], [2, 0, 0, 0], [0, 0, 0, 0], [0, 0, 0, 0]], 2, 0)), (5, ([[2, 0, 1, 3], [1, 2, 0, 3], [1, 0, 1, 0], [2, 0, 0, 0], [4, 2, 0, 0], [2, 0, 0, 0], [0, 0, 0, 0], [0, 0, 0, 0]], 2, 0)), (6, ([[1, 2, 0, 3], [2, 0, 1, 3], [0, 1, 1, 0], [2, 0, 0, 0], [4, 2, 0, 0], [2, 0, 0, 0], [0, 0, 0, 0], [0, 0, 0, 0]], 2, 0)), (6, ([[2, 1, 0, 3], [2, 1, 0, 3], [0, 1, 1, 0], [2, 0, 0, 0], [4, 2, 0, 0], [2, 0, 0, 0], [0, 0, 0, 0], [0, 0, 0, 0]], 2, 0)), (7, ([[0, 1, 2, 3], [0, 1, 2, 3], [1, 1, 1, 0], [3, 0, 0, 0], [4, 3, 0, 0], [3, 0, 0, 0], [0, 0, 0, 0], [0, 0, 0, 0]], 2, 0)), (7, ([[0, 2, 1, 3], [0, 2, 1, 3], [1, 1, 1, 0], [3, 0, 0, 0], [4, 3, 0, 0], [3, 0, 0, 0], [0, 0, 0, 0], [0, 0, 0, 0]], 2, 0)), (7, ([[1, 2, 0, 3], [2, 0, 1, 3], [1, 1, 1, 0], [3, 0, 0, 0], [4, 3, 0, 0], [3, 0, 0, 0], [0, 0, 0, 0], [0, 0, 0, 0]], 2, 0)), (7, ([[1, 0, 2, 3], [1, 0, 2, 3], [1, 1, 1, 0], [3, 0, 0, 0], [4, 3, 0, 0], [3, 0, 0, 0], [0, 0, 0, 0], [0, 0, 0, 0]], 2, 0)), (7, ([[2, 0, 1, 3], [1, 2, 0, 3], [1, 1, 1, 0], [3, 0, 0, 0], [4, 3, 0, 0], [3, 0, 0, 0], [0, 0, 0, 0], [0, 0, 0, 0]], 2, 0)), (7, ([[2, 1, 0, 3], [2, 1, 0, 3], [1, 1, 1, 0], [3, 0, 0, 0], [4, 3, 0, 0], [3, 0, 0, 0], [0, 0, 0, 0], [0, 0, 0, 0]], 2, 0)), (8, ([[3, 1, 2, 0], [3, 1, 2, 0], [0, 0, 0, 1], [1, 0, 0, 0], [4, 1, 0, 0], [1, 0, 0, 0], [0, 0, 0, 0], [0, 0, 0, 0]], 2, 0)), (9, ([[0, 3, 2, 1], [0, 3, 2, 1], [1, 0, 0, 1], [2, 0, 0, 0], [4, 2, 0, 0], [2, 0, 0, 0], [0, 0, 0, 0], [0, 0, 0, 0]], 2, 0)), (9, ([[3, 0, 2, 1], [1, 3, 2, 0], [1, 0, 0, 1], [2, 0, 0, 0], [4, 2, 0, 0], [2, 0, 0, 0], [0, 0, 0, 0], [0, 0, 0, 0]], 2, 0)), (10, ([[1, 3, 2, 0], [3, 0, 2, 1], [0, 1, 0, 1], [2, 0, 0, 0], [4, 2, 0, 0], [2, 0, 0, 0], [0, 0, 0, 0], [0, 0, 0, 0]], 2, 0)), (10, ([[3, 1, 2, 0], [3, 1, 2, 0], [0, 1, 0, 1], [2, 0, 0, 0], [4, 2, 0, 0], [2, 0, 0, 0], [0, 0, 0, 0], [0, 0, 0, 0]], 2, 0)), (11, ([[0, 1, 3, 2], [0, 1, 3, 2], [1, 1, 0, 1], [3, 0, 0, 0], [4, 3, 0, 0], [3, 0, 0, 0], [0, 0, 0, 0], [0, 0, 0, 0]], 2, 0)), (11, ([[0, 3, 1, 2], [0, 2, 3, 1], [1, 1, 0, 1], [3, 0, 0, 0], [4, 3, 0, 0], [3, 0, 0, 0], [0, 0, 0, 0], [0, 0, 0, 0]], 2, 0)), (11, ([[1, 3, 0, 2], [2, 0, 3, 1], [1, 1, 0, 1], [3, 0, 0, 0], [4, 3, 0, 0], [3, 0, 0, 0], [0, 0, 0, 0], [0, 0, 0, 0]], 2, 0)), (11, ([[1, 0, 3, 2], [1, 0, 3, 2], [1, 1, 0, 1], [3, 0, 0, 0], [4, 3, 0, 0], [3, 0, 0, 0], [0, 0, 0, 0], [0, 0, 0, 0]], 2, 0)), (11, ([[3, 0, 1, 2], [1, 2, 3, 0], [1, 1, 0, 1], [3, 0, 0, 0], [4, 3, 0, 0], [3, 0, 0, 0], [0, 0, 0, 0], [0, 0, 0, 0]], 2, 0)), (11, ([[3, 1, 0, 2], [2, 1, 3, 0], [1, 1, 0, 1], [3, 0, 0, 0], [4, 3, 0, 0], [3, 0, 0, 0], [0, 0, 0, 0], [0, 0, 0, 0]], 2, 0)), (12, ([[2, 3, 0, 1], [2, 3, 0, 1], [0, 0, 1, 1], [2, 0, 0, 0], [4, 2, 0, 0], [2, 0, 0, 0], [0, 0, 0, 0], [0, 0, 0, 0]], 2, 0)), (12, ([[3, 2, 1, 0], [3, 2, 1, 0], [0, 0, 1, 1], [2, 0, 0, 0], [4, 2, 0, 0], [2, 0, 0, 0], [0, 0, 0, 0], [0, 0, 0, 0]], 2, 0)), (13, ([[0, 2, 3, 1], [0, 3, 1, 2], [1, 0, 1, 1], [3, 0, 0, 0], [4, 3, 0, 0], [3, 0, 0, 0], [0, 0, 0, 0], [0, 0, 0, 0]], 2, 0)), (13, ([[0, 3, 2, 1], [0, 3, 2, 1], [1, 0, 1, 1], [3, 0, 0, 0], [4, 3, 0, 0], [3, 0, 0, 0], [0, 0, 0, 0], [0, 0, 0, 0]], 2, 0)), (13, ([[2, 3, 0, 1], [2, 3, 0, 1], [1, 0, 1, 1], [3, 0, 0, 0], [4, 3, 0, 0], [3, 0, 0, 0], [0, 0, 0, 0], [0, 0, 0, 0]], 2, 0)), (13, ([[2, 0, 3, 1], [1, 3, 0, 2], [1, 0, 1, 1], [3, 0, 0, 0], [4, 3, 0, 0], [3, 0, 0, 0], [0, 0, 0, 0], [0, 0, 0, 0]], 2, 0)), (13, ([[3, 0, 2, 1], [1, 3, 2, 0], [1, 0, 1, 1], [3, 0, 0, 0], [4, 3, 0, 0], [3, 0, 0, 0], [0, 0, 0, 0], [0, 0, 0, 0]], 2, 0)), (13, ([[3, 2, 0, 1], [2, 3, 1, 0], [1, 0, 1, 1], [3, 0, 0, 0], [4, 3, 0, 0], [3, 0, 0, 0], [0, 0, 0, 0], [0, 0, 0, 0]], 2, 0)), (14, ([[1, 2, 3, 0], [3, 0, 1, 2], [0, 1, 1, 1], [3, 0, 0, 0], [4, 3, 0, 0], [3, 0, 0, 0], [0, 0, 0, 0], [0, 0, 0, 0]], 2, 0)), (14, ([[3, 2, 1, 0], [3, 2, 1, 0], [0, 1, 1, 1], [3, 0, 0, 0], [4, 3, 0, 0], [3, 0, 0, 0], [0, 0, 0, 0], [0, 0, 0, 0]], 2, 0)), (14, ([[1, 3, 2, 0], [3, 0, 2, 1], [0, 1, 1, 1], [3, 0, 0, 0], [4, 3, 0, 0], [3, 0, 0, 0], [0, 0, 0, 0], [0, 0, 0, 0]], 2, 0)), (14, ([[2, 3, 1, 0], [3, 2, 0, 1], [0, 1, 1, 1], [3, 0, 0, 0], [4, 3, 0, 0], [3, 0, 0, 0], [0, 0, 0, 0], [0, 0, 0, 0]], 2, 0)), (14, ([[2, 1, 3, 0], [3, 1, 0, 2], [0, 1, 1, 1], [3, 0, 0, 0], [4, 3, 0, 0], [3, 0, 0, 0], [0, 0, 0, 0], [0, 0, 0, 0]], 2, 0)), (14, ([[3, 1, 2, 0], [3, 1, 2, 0], [0, 1, 1, 1], [3, 0, 0, 0], [4, 3, 0, 0], [3, 0, 0, 0], [0, 0, 0, 0], [0, 0, 0, 0]], 2, 0)), (15, ([[0, 1, 2, 3], [0, 1, 2, 3], [0, 0, 0, 0], [0, 0, 0, 0], [4, 0, 0, 0], [0, 0, 0, 0], [0, 0, 0, 0], [0, 0, 0, 0]], 1, 0)), (15, ([[0, 3, 2, 1], [0, 3, 2, 1], [0, 0, 0, 0], [0, 0, 0, 0], [4, 0, 0, 0], [0, 0, 0, 0], [0, 0, 0, 0], [0, 0, 0, 0]], 1, 0)), (15, ([[1, 2, 3, 0], [3, 0, 1, 2], [0, 0, 0, 0], [0, 0, 0, 0], [4, 0, 0, 0], [0, 0, 0, 0], [0, 0, 0, 0], [0, 0, 0, 0]], 1, 0)), (15, ([[1, 0, 3, 2], [1, 0, 3, 2], [0, 0, 0, 0], [0, 0, 0, 0], [4, 0, 0, 0], [0, 0, 0, 0], [0, 0, 0, 0], [0, 0, 0, 0]], 1, 0)), (15, ([[2, 3, 0, 1], [2, 3, 0, 1], [0, 0, 0, 0], [0, 0, 0, 0], [4, 0, 0, 0], [0, 0, 0, 0], [0, 0, 0, 0], [0, 0, 0, 0]], 1, 0)), (15, ([[2, 1, 0, 3], [2, 1, 0, 3], [0, 0, 0, 0], [0, 0, 0, 0], [4, 0, 0, 0], [0, 0, 0, 0], [0, 0, 0, 0], [0, 0, 0, 0]], 1, 0)), (15, ([[3, 0, 1, 2], [1, 2, 3, 0], [0, 0, 0, 0], [0, 0, 0, 0], [4, 0, 0, 0], [0, 0, 0, 0], [0, 0, 0, 0], [0, 0, 0, 0]], 1, 0)), (15, ([[3, 2, 1, 0], [3, 2, 1, 0], [0, 0, 0, 0], [0, 0, 0, 0], [4, 0, 0, 0], [0, 0, 0, 0], [0, 0, 0, 0], [0, 0, 0, 0]], 1, 0))]
def own_N (i : Fin 4) : Int32 := Int32.ofNat i.val
def own_M (i : Fin 16) : Int32 := Int32.ofNat i.val
def own_t (i : Fin 2) : Int32 := if i.val = 0 then 1 else 3
theorem own_fin4 (x : Int32) : ∃ i : Fin 4, x &&& 3 = own_N i := by
  have e : (x &&& 3).toInt = x.toInt % 4 := c_mask x 3 2 (by decide) (by decide)
  have h2 : (x &&& 3).toInt.toNat < 4 := by omega
  refine ⟨⟨(x &&& 3).toInt.toNat, h2⟩, Int32.toInt_inj.mp ?_⟩
  show _ = (Int32.ofNat (x &&& 3).toInt.toNat).toInt
  rw [Int32.toInt_ofNat_of_lt (by omega)]
  omega
theorem own_fin16 (x : Int32) : ∃ i : Fin 16, x &&& 15 = own_M i := by
  have e : (x &&& 15).toInt = x.toInt % 16 := c_mask x 15 4 (by decide) (by decide)
  have h2 : (x &&& 15).toInt.toNat < 16 := by omega
  refine ⟨⟨(x &&& 15).toInt.toNat, h2⟩, Int32.toInt_inj.mp ?_⟩
  show _ = (Int32.ofNat (x &&& 15).toInt.toNat).toInt
  rw [Int32.toInt_ofNat_of_lt (by omega)]
  omega
set_option maxRecDepth 100000 in
theorem own_A : ∀ (a : Fin 16) (r : Fin 4) (t : Fin 2), (okrd L0 (own_M a) (own_N r) (own_t t) && okout 8 (frd L0 (own_M a) (own_N r) (own_t t)) 0 && own_T.contains (own_M a, fspl (frd L0 (own_M a) (own_N r) (own_t t)))) = true := by decide +kernel
def own_lt (m1 : Int32) (qs : List Int32) : Bool := decide (bitz (fa1 m1) (qs.headD 0))
set_option maxRecDepth 100000 in
theorem own_C : ∀ (a : Fin 16) (b : Fin 16) (r : Fin 4) (t : Fin 2), fsp0 (own_M a) (own_M b) = 0 ∨ fsp1 (own_M a) (own_M b) = 0 ∨ flt (own_M a) (own_M b) (own_N r) (own_t t) = own_lt (own_M a) (sq (own_M b) (own_N r) (own_t t)) := by decide +kernel
set_option maxRecDepth 100000 in
theorem own_D : ∀ (b : Fin 16) (r : Fin 4) (t : Fin 2), own_U.contains (own_M b, sq (own_M b) (own_N r) (own_t t)) = true := by decide +kernel
def own_G (L : PS) (m1 m2 : Int32) (qs : List Int32) : Bool := okf L qs && okout 8 (qs.foldl fmark L) 0 && gchk (fspl (qs.foldl fmark L)) m1 m2 (own_lt m1 qs)
set_option maxRecDepth 100000 in
theorem own_B : (own_T.all fun x => own_U.all fun y => own_G x.2 x.1 y.1 y.2) = true := by decide +kernel
theorem own_AB (a b : Fin 16) (r1 r2 : Fin 4) (t1 t2 : Fin 2) {m1 m2 q1 q2 s1 s2 : Int32} (ha : m1 = own_M a) (hb : m2 = own_M b) (hr1 : q1 = own_N r1) (hr2 : q2 = own_N r2) (ht1 : s1 = own_t t1) (ht2 : s2 = own_t t2) {L1 L2 L3 L4 : PS} (h1 : L1 = frd L0 m1 q1 s1) (h2 : L2 = fspl L1) (h3 : L3 = frd L2 m2 q2 s2) (h4 : L4 = fspl L3) :
    okrd L0 m1 q1 s1 = true ∧ okout 8 L1 0 = true ∧ okrd L2 m2 q2 s2 = true ∧ okout 8 L3 0 = true ∧ chk2 L4 m1 m2 q2 s2 = true := by
  subst h4 h3 h2 h1 ha hb hr1 hr2 ht1 ht2
  have A := own_A a r1 t1
  simp only [Bool.and_eq_true] at A
  have B := own_B
  rw [List.all_eq_true] at B
  have B2 := B _ (List.contains_iff_mem.mp A.2)
  rw [List.all_eq_true] at B2
  have G := B2 _ (List.contains_iff_mem.mp (own_D b r2 t2))
  simp only [own_G, Bool.and_eq_true] at G
  rw [okrd_sq (fspl (frd L0 (own_M a) (own_N r1) (own_t t1))), frd_sq (fspl (frd L0 (own_M a) (own_N r1) (own_t t1))), gchk_eq]
  refine ⟨A.1.1, A.1.2, G.1.1, G.1.2, ?_⟩
  rcases own_C a b r2 t2 with q | q | q
  · rw [gchk_free (Or.inl q) _ _ (own_lt (own_M a) (sq (own_M b) (own_N r2) (own_t t2)))]; exact G.2
  · rw [gchk_free (Or.inr q) _ _ (own_lt (own_M a) (sq (own_M b) (own_N r2) (own_t t2)))]; exact G.2
  · rw [q]; exact G.2
theorem chk2_all {L : PS} {m1 m2 r t : Int32} (h : chk2 L m1 m2 r t = true) :
    (linb own_z4 (fx m1 m2 r t 0) = true ∧ linb own_z4 (fx m1 m2 r t 1) = true ∧ linb own_z4 (fx m1 m2 r t 2) = true ∧ linb own_z4 (fx m1 m2 r t 3) = true ∧ linb own_z4 (fid1 m1 m2 r t) = true) ∧ L.2.1 = feb m1 m2 ∧
    (∀ s ∈ ([0, 1, 2, 3] : List Int32), linb (row L 2) s = true ∧ lget (row L 2) s = fx m1 m2 r t s ∧ okpos L s = true) ∧
    (∀ k ∈ ([1, 2, 3] : List Int32), k < feb m1 m2 → linb (row L 6) k = true ∧ lget (row L 6) k = lget (fos m1 m2 r t) k) ∧
    (∀ k ∈ ([0, 1, 2, 3] : List Int32), k < feb m1 m2 → linb (row L 4) k = true ∧ linb (row L 3) k = true ∧ lget (row L 4) k - lget (row L 3) k = lget (fzs m1 m2 r t) k) ∧
    (fpb L 0 ||| fpb L 1 ||| fpb L 2 ||| fpb L 3) = 15 := by
  simp only [chk2, Bool.and_eq_true, beq_iff_eq] at h
  obtain ⟨⟨⟨⟨⟨⟨⟨⟨⟨a0, a1⟩, a2⟩, a3⟩, a4⟩, b⟩, c⟩, d⟩, e⟩, f⟩ := h
  refine ⟨⟨a0, a1, a2, a3, a4⟩, b, fun s hs => ?_, fun k hk hl => ?_, fun k hk hl => ?_, f⟩
  · have q := List.all_eq_true.mp c s hs
    simp only [Bool.and_eq_true, beq_iff_eq] at q; exact ⟨q.1.1, q.1.2, q.2⟩
  · have q := List.all_eq_true.mp d k hk
    simp only [Bool.or_eq_true, Bool.and_eq_true, beq_iff_eq, decide_eq_true_eq] at q; exact q.resolve_left (fun z => z hl)
  · have q := List.all_eq_true.mp e k hk
    simp only [Bool.or_eq_true, Bool.and_eq_true, beq_iff_eq, decide_eq_true_eq] at q; exact ⟨(q.resolve_left (fun z => z hl)).1.1, (q.resolve_left (fun z => z hl)).1.2, (q.resolve_left (fun z => z hl)).2⟩
theorem own_zl0 (m1 m2 r2 t2 : Int32) {j : Int32} (h : linb own_z4 j = true) : linb [(0 : Int32), (0 : Int32), (0 : Int32), (0 : Int32)] j = true := by
  simpa [linb, finc, lset, own_z4] using h
theorem own_zl1 (m1 m2 r2 t2 : Int32) {j : Int32} (h : linb own_z4 j = true) : linb (finc [(0 : Int32), (0 : Int32), (0 : Int32), (0 : Int32)] (fx m1 m2 r2 t2 0)) j = true := by
  simpa [linb, finc, lset, own_z4] using h
theorem own_zl2 (m1 m2 r2 t2 : Int32) {j : Int32} (h : linb own_z4 j = true) : linb (finc (finc [(0 : Int32), (0 : Int32), (0 : Int32), (0 : Int32)] (fx m1 m2 r2 t2 0)) (fx m1 m2 r2 t2 1)) j = true := by
  simpa [linb, finc, lset, own_z4] using h
theorem own_zl3 (m1 m2 r2 t2 : Int32) {j : Int32} (h : linb own_z4 j = true) : linb (finc (finc (finc [(0 : Int32), (0 : Int32), (0 : Int32), (0 : Int32)] (fx m1 m2 r2 t2 0)) (fx m1 m2 r2 t2 1)) (fx m1 m2 r2 t2 2)) j = true := by
  simpa [linb, finc, lset, own_z4] using h
theorem own_l4 {a b c d : Int32} (j : Int32) (h : linb own_z4 j = true) : linb [a, b, c, d] j = true := by
  simpa [linb, own_z4] using h
theorem own_fosl {m1 m2 r2 t2 : Int32} (j : Int32) (h : linb own_z4 j = true) : linb (fos m1 m2 r2 t2) j = true := by
  unfold fos; split <;> simpa [linb, lset, own_z4] using h
theorem own_fzsl {m1 m2 r2 t2 : Int32} (j : Int32) (h : linb own_z4 j = true) : linb (fzs m1 m2 r2 t2) j = true := by
  simpa [linb, fzs, finc, lset, own_z4] using h
theorem d0_0 : Dc code 0 (.iload_n 0) 1 1 := ⟨at_0, rfl⟩
theorem d0_1 : Dc code 1 (.bipush 15) 2 3 := ⟨at_1, rfl⟩
theorem d0_3 : Dc code 3 (.iand) 1 4 := ⟨at_3, rfl⟩
theorem d0_4 : Dc code 4 (.istore 5) 2 6 := ⟨at_4, rfl⟩
theorem d0_6 : Dc code 6 (.iload_n 1) 1 7 := ⟨at_6, rfl⟩
theorem d0_7 : Dc code 7 (.bipush 15) 2 9 := ⟨at_7, rfl⟩
theorem d0_9 : Dc code 9 (.iand) 1 10 := ⟨at_9, rfl⟩
theorem d0_10 : Dc code 10 (.istore 6) 2 12 := ⟨at_10, rfl⟩
theorem d0_12 : Dc code 12 (.iload_n 2) 1 13 := ⟨at_12, rfl⟩
theorem d0_13 : Dc code 13 (.iconst 3) 1 14 := ⟨at_13, rfl⟩
theorem d0_14 : Dc code 14 (.iand) 1 15 := ⟨at_14, rfl⟩
theorem d0_15 : Dc code 15 (.istore 7) 2 17 := ⟨at_15, rfl⟩
theorem d0_17 : Dc code 17 (.iload_n 3) 1 18 := ⟨at_17, rfl⟩
theorem d0_18 : Dc code 18 (.iconst 3) 1 19 := ⟨at_18, rfl⟩
theorem d0_19 : Dc code 19 (.iand) 1 20 := ⟨at_19, rfl⟩
theorem d0_20 : Dc code 20 (.istore 8) 2 22 := ⟨at_20, rfl⟩
theorem d0_22 : Dc code 22 (.iload 4) 2 24 := ⟨at_22, rfl⟩
theorem d0_24 : Dc code 24 (.iconst 1) 1 25 := ⟨at_24, rfl⟩
theorem d0_25 : Dc code 25 (.iand) 1 26 := ⟨at_25, rfl⟩
theorem d0_26 : Bc code 26 (.ifCond .eq 7) (7) 29 33 := ⟨at_26, rfl, by decide, by decide⟩
theorem d0_29 : Dc code 29 (.iconst 3) 1 30 := ⟨at_29, rfl⟩
theorem d0_30 : Bc code 30 (.goto 4) (4) 33 34 := ⟨at_30, rfl, by decide, by decide⟩
theorem d0_33 : Dc code 33 (.iconst 1) 1 34 := ⟨at_33, rfl⟩
theorem d0_34 : Dc code 34 (.istore 9) 2 36 := ⟨at_34, rfl⟩
theorem d0_36 : Dc code 36 (.iload 4) 2 38 := ⟨at_36, rfl⟩
theorem d0_38 : Dc code 38 (.iconst 2) 1 39 := ⟨at_38, rfl⟩
theorem d0_39 : Dc code 39 (.iand) 1 40 := ⟨at_39, rfl⟩
theorem d0_40 : Bc code 40 (.ifCond .eq 7) (7) 43 47 := ⟨at_40, rfl, by decide, by decide⟩
theorem d0_43 : Dc code 43 (.iconst 3) 1 44 := ⟨at_43, rfl⟩
theorem d0_44 : Bc code 44 (.goto 4) (4) 47 48 := ⟨at_44, rfl, by decide, by decide⟩
theorem d0_47 : Dc code 47 (.iconst 1) 1 48 := ⟨at_47, rfl⟩
theorem d0_48 : Dc code 48 (.istore 10) 2 50 := ⟨at_48, rfl⟩
theorem d0_50 : Dc code 50 (.new 7) 3 53 := ⟨at_50, rfl⟩
theorem d0_53 : Dc code 53 (.dup) 1 54 := ⟨at_53, rfl⟩
theorem d0_54 : Dc code 54 (.iconst 4) 1 55 := ⟨at_54, rfl⟩
theorem d0_55 : Dc code 55 (.invokespecial 9) 3 58 := ⟨at_55, rfl⟩
theorem d0_58 : Dc code 58 (.astore 11) 2 60 := ⟨at_58, rfl⟩
theorem d0_60 : Dc code 60 (.aload 11) 2 62 := ⟨at_60, rfl⟩
theorem d0_62 : Dc code 62 (.iload 5) 2 64 := ⟨at_62, rfl⟩
theorem d0_64 : Dc code 64 (.iload 7) 2 66 := ⟨at_64, rfl⟩
theorem d0_66 : Dc code 66 (.iload 9) 2 68 := ⟨at_66, rfl⟩
theorem d0_68 : Dc code 68 (.invokestatic 12) 3 71 := ⟨at_68, rfl⟩
theorem d0_71 : Dc code 71 (.aload 11) 2 73 := ⟨at_71, rfl⟩
theorem d0_73 : Dc code 73 (.invokevirtual 18) 3 76 := ⟨at_73, rfl⟩
theorem d0_76 : Dc code 76 (.aload 11) 2 78 := ⟨at_76, rfl⟩
theorem d0_78 : Dc code 78 (.iload 6) 2 80 := ⟨at_78, rfl⟩
theorem d0_80 : Dc code 80 (.iload 8) 2 82 := ⟨at_80, rfl⟩
theorem d0_82 : Dc code 82 (.iload 10) 2 84 := ⟨at_82, rfl⟩
theorem d0_84 : Dc code 84 (.invokestatic 12) 3 87 := ⟨at_84, rfl⟩
theorem d0_87 : Dc code 87 (.aload 11) 2 89 := ⟨at_87, rfl⟩
theorem d0_89 : Dc code 89 (.invokevirtual 18) 3 92 := ⟨at_89, rfl⟩
theorem d0_92 : Dc code 92 (.iload 5) 2 94 := ⟨at_92, rfl⟩
theorem d0_94 : Bc code 94 (.ifCond .eq 14) (14) 97 108 := ⟨at_94, rfl, by decide, by decide⟩
theorem d0_97 : Dc code 97 (.iload 5) 2 99 := ⟨at_97, rfl⟩
theorem d0_99 : Dc code 99 (.bipush 15) 2 101 := ⟨at_99, rfl⟩
theorem d0_101 : Bc code 101 (.if_icmp .eq 7) (7) 104 108 := ⟨at_101, rfl, by decide, by decide⟩
theorem d0_104 : Dc code 104 (.iconst 1) 1 105 := ⟨at_104, rfl⟩
theorem d0_105 : Bc code 105 (.goto 4) (4) 108 109 := ⟨at_105, rfl, by decide, by decide⟩
theorem d0_108 : Dc code 108 (.iconst 0) 1 109 := ⟨at_108, rfl⟩
theorem d0_109 : Dc code 109 (.istore 12) 2 111 := ⟨at_109, rfl⟩
theorem d0_111 : Dc code 111 (.iload 12) 2 113 := ⟨at_111, rfl⟩
theorem d0_113 : Bc code 113 (.ifCond .eq 7) (7) 116 120 := ⟨at_113, rfl, by decide, by decide⟩
theorem d0_116 : Dc code 116 (.iconst 2) 1 117 := ⟨at_116, rfl⟩
theorem d0_117 : Bc code 117 (.goto 4) (4) 120 121 := ⟨at_117, rfl, by decide, by decide⟩
theorem d0_120 : Dc code 120 (.iconst 1) 1 121 := ⟨at_120, rfl⟩
theorem d0_121 : Dc code 121 (.istore 13) 2 123 := ⟨at_121, rfl⟩
theorem d0_123 : Dc code 123 (.iload 12) 2 125 := ⟨at_123, rfl⟩
theorem d0_125 : Bc code 125 (.ifCond .eq 8) (8) 128 133 := ⟨at_125, rfl, by decide, by decide⟩
theorem d0_128 : Dc code 128 (.iload 5) 2 130 := ⟨at_128, rfl⟩
theorem d0_130 : Bc code 130 (.goto 4) (4) 133 134 := ⟨at_130, rfl, by decide, by decide⟩
theorem d0_133 : Dc code 133 (.iconst 0) 1 134 := ⟨at_133, rfl⟩
theorem d0_134 : Dc code 134 (.istore 14) 2 136 := ⟨at_134, rfl⟩
theorem d0_136 : Dc code 136 (.bipush 15) 2 138 := ⟨at_136, rfl⟩
theorem d0_138 : Dc code 138 (.iload 14) 2 140 := ⟨at_138, rfl⟩
theorem d0_140 : Dc code 140 (.iconst (-1)) 1 141 := ⟨at_140, rfl⟩
theorem d0_141 : Dc code 141 (.ixor) 1 142 := ⟨at_141, rfl⟩
theorem d0_142 : Dc code 142 (.iand) 1 143 := ⟨at_142, rfl⟩
theorem d0_143 : Dc code 143 (.istore 15) 2 145 := ⟨at_143, rfl⟩
theorem d0_145 : Dc code 145 (.iload 6) 2 147 := ⟨at_145, rfl⟩
theorem d0_147 : Dc code 147 (.iload 15) 2 149 := ⟨at_147, rfl⟩
theorem d0_149 : Dc code 149 (.iand) 1 150 := ⟨at_149, rfl⟩
theorem d0_150 : Dc code 150 (.istore 16) 2 152 := ⟨at_150, rfl⟩
theorem d0_152 : Dc code 152 (.iload 6) 2 154 := ⟨at_152, rfl⟩
theorem d0_154 : Dc code 154 (.iload 14) 2 156 := ⟨at_154, rfl⟩
theorem d0_156 : Dc code 156 (.iand) 1 157 := ⟨at_156, rfl⟩
theorem d0_157 : Dc code 157 (.istore 17) 2 159 := ⟨at_157, rfl⟩
theorem d0_159 : Dc code 159 (.iload 16) 2 161 := ⟨at_159, rfl⟩
theorem d0_161 : Bc code 161 (.ifCond .eq 14) (14) 164 175 := ⟨at_161, rfl, by decide, by decide⟩
theorem d0_164 : Dc code 164 (.iload 16) 2 166 := ⟨at_164, rfl⟩
theorem d0_166 : Dc code 166 (.iload 15) 2 168 := ⟨at_166, rfl⟩
theorem d0_168 : Bc code 168 (.if_icmp .eq 7) (7) 171 175 := ⟨at_168, rfl, by decide, by decide⟩
theorem d0_171 : Dc code 171 (.iconst 1) 1 172 := ⟨at_171, rfl⟩
theorem d0_172 : Bc code 172 (.goto 4) (4) 175 176 := ⟨at_172, rfl, by decide, by decide⟩
theorem d0_175 : Dc code 175 (.iconst 0) 1 176 := ⟨at_175, rfl⟩
theorem d0_176 : Dc code 176 (.istore 18) 2 178 := ⟨at_176, rfl⟩
theorem d0_178 : Dc code 178 (.iload 17) 2 180 := ⟨at_178, rfl⟩
theorem d0_180 : Bc code 180 (.ifCond .eq 14) (14) 183 194 := ⟨at_180, rfl, by decide, by decide⟩
theorem d0_183 : Dc code 183 (.iload 17) 2 185 := ⟨at_183, rfl⟩
theorem d0_185 : Dc code 185 (.iload 14) 2 187 := ⟨at_185, rfl⟩
theorem d0_187 : Bc code 187 (.if_icmp .eq 7) (7) 190 194 := ⟨at_187, rfl, by decide, by decide⟩
theorem d0_190 : Dc code 190 (.iconst 1) 1 191 := ⟨at_190, rfl⟩
theorem d0_191 : Bc code 191 (.goto 4) (4) 194 195 := ⟨at_191, rfl, by decide, by decide⟩
theorem d0_194 : Dc code 194 (.iconst 0) 1 195 := ⟨at_194, rfl⟩
theorem d0_195 : Dc code 195 (.istore 19) 2 197 := ⟨at_195, rfl⟩
theorem d0_197 : Dc code 197 (.iconst 0) 1 198 := ⟨at_197, rfl⟩
theorem d0_198 : Dc code 198 (.istore 20) 2 200 := ⟨at_198, rfl⟩
theorem d0_200 : Dc code 200 (.iconst 1) 1 201 := ⟨at_200, rfl⟩
theorem d0_201 : Dc code 201 (.istore 21) 2 203 := ⟨at_201, rfl⟩
theorem d0_203 : Dc code 203 (.iload 18) 2 205 := ⟨at_203, rfl⟩
theorem d0_205 : Bc code 205 (.ifCond .eq 63) (63) 208 268 := ⟨at_205, rfl, by decide, by decide⟩
theorem d0_208 : Dc code 208 (.iload 19) 2 210 := ⟨at_208, rfl⟩
theorem d0_210 : Bc code 210 (.ifCond .eq 58) (58) 213 268 := ⟨at_210, rfl, by decide, by decide⟩
theorem d0_213 : Dc code 213 (.iload 16) 2 215 := ⟨at_213, rfl⟩
theorem d0_215 : Dc code 215 (.iload 8) 2 217 := ⟨at_215, rfl⟩
theorem d0_217 : Dc code 217 (.iload 10) 2 219 := ⟨at_217, rfl⟩
theorem d0_219 : Dc code 219 (.invokestatic 21) 3 222 := ⟨at_219, rfl⟩
theorem d0_222 : Dc code 222 (.istore 22) 2 224 := ⟨at_222, rfl⟩
theorem d0_224 : Dc code 224 (.iload 17) 2 226 := ⟨at_224, rfl⟩
theorem d0_226 : Dc code 226 (.iload 8) 2 228 := ⟨at_226, rfl⟩
theorem d0_228 : Dc code 228 (.iload 10) 2 230 := ⟨at_228, rfl⟩
theorem d0_230 : Dc code 230 (.invokestatic 21) 3 233 := ⟨at_230, rfl⟩
theorem d0_233 : Dc code 233 (.istore 23) 2 235 := ⟨at_233, rfl⟩
theorem d0_235 : Dc code 235 (.iload 22) 2 237 := ⟨at_235, rfl⟩
theorem d0_237 : Dc code 237 (.iload 23) 2 239 := ⟨at_237, rfl⟩
theorem d0_239 : Bc code 239 (.if_icmp .ge 16) (16) 242 255 := ⟨at_239, rfl, by decide, by decide⟩
theorem d0_242 : Dc code 242 (.iload 13) 2 244 := ⟨at_242, rfl⟩
theorem d0_244 : Dc code 244 (.istore 20) 2 246 := ⟨at_244, rfl⟩
theorem d0_246 : Dc code 246 (.iload 13) 2 248 := ⟨at_246, rfl⟩
theorem d0_248 : Dc code 248 (.iconst 1) 1 249 := ⟨at_248, rfl⟩
theorem d0_249 : Dc code 249 (.iadd) 1 250 := ⟨at_249, rfl⟩
theorem d0_250 : Dc code 250 (.istore 21) 2 252 := ⟨at_250, rfl⟩
theorem d0_252 : Bc code 252 (.goto 13) (13) 255 265 := ⟨at_252, rfl, by decide, by decide⟩
theorem d0_255 : Dc code 255 (.iload 13) 2 257 := ⟨at_255, rfl⟩
theorem d0_257 : Dc code 257 (.istore 21) 2 259 := ⟨at_257, rfl⟩
theorem d0_259 : Dc code 259 (.iload 13) 2 261 := ⟨at_259, rfl⟩
theorem d0_261 : Dc code 261 (.iconst 1) 1 262 := ⟨at_261, rfl⟩
theorem d0_262 : Dc code 262 (.iadd) 1 263 := ⟨at_262, rfl⟩
theorem d0_263 : Dc code 263 (.istore 20) 2 265 := ⟨at_263, rfl⟩
theorem d0_265 : Bc code 265 (.goto 24) (24) 268 289 := ⟨at_265, rfl, by decide, by decide⟩
theorem d0_268 : Dc code 268 (.iload 18) 2 270 := ⟨at_268, rfl⟩
theorem d0_270 : Bc code 270 (.ifCond .eq 10) (10) 273 280 := ⟨at_270, rfl, by decide, by decide⟩
theorem d0_273 : Dc code 273 (.iload 13) 2 275 := ⟨at_273, rfl⟩
theorem d0_275 : Dc code 275 (.istore 20) 2 277 := ⟨at_275, rfl⟩
theorem d0_277 : Bc code 277 (.goto 12) (12) 280 289 := ⟨at_277, rfl, by decide, by decide⟩
theorem d0_280 : Dc code 280 (.iload 19) 2 282 := ⟨at_280, rfl⟩
theorem d0_282 : Bc code 282 (.ifCond .eq 7) (7) 285 289 := ⟨at_282, rfl, by decide, by decide⟩
theorem d0_285 : Dc code 285 (.iload 13) 2 287 := ⟨at_285, rfl⟩
theorem d0_287 : Dc code 287 (.istore 21) 2 289 := ⟨at_287, rfl⟩
theorem d0_289 : Dc code 289 (.iload 13) 2 291 := ⟨at_289, rfl⟩
theorem d0_291 : Dc code 291 (.iload 18) 2 293 := ⟨at_291, rfl⟩
theorem d0_293 : Bc code 293 (.ifCond .eq 7) (7) 296 300 := ⟨at_293, rfl, by decide, by decide⟩
theorem d0_296 : Dc code 296 (.iconst 1) 1 297 := ⟨at_296, rfl⟩
theorem d0_297 : Bc code 297 (.goto 4) (4) 300 301 := ⟨at_297, rfl, by decide, by decide⟩
theorem d0_300 : Dc code 300 (.iconst 0) 1 301 := ⟨at_300, rfl⟩
theorem d0_301 : Dc code 301 (.iadd) 1 302 := ⟨at_301, rfl⟩
theorem d0_302 : Dc code 302 (.iload 19) 2 304 := ⟨at_302, rfl⟩
theorem d0_304 : Bc code 304 (.ifCond .eq 7) (7) 307 311 := ⟨at_304, rfl, by decide, by decide⟩
theorem d0_307 : Dc code 307 (.iconst 1) 1 308 := ⟨at_307, rfl⟩
theorem d0_308 : Bc code 308 (.goto 4) (4) 311 312 := ⟨at_308, rfl, by decide, by decide⟩
theorem d0_311 : Dc code 311 (.iconst 0) 1 312 := ⟨at_311, rfl⟩
theorem d0_312 : Dc code 312 (.iadd) 1 313 := ⟨at_312, rfl⟩
theorem d0_313 : Dc code 313 (.istore 22) 2 315 := ⟨at_313, rfl⟩
theorem d0_315 : Dc code 315 (.iconst 4) 1 316 := ⟨at_315, rfl⟩
theorem d0_316 : Dc code 316 (.newarray .int) 2 318 := ⟨at_316, rfl⟩
theorem d0_318 : Dc code 318 (.astore 23) 2 320 := ⟨at_318, rfl⟩
theorem d0_320 : Dc code 320 (.aload 23) 2 322 := ⟨at_320, rfl⟩
theorem d0_322 : Dc code 322 (.iconst 0) 1 323 := ⟨at_322, rfl⟩
theorem d0_323 : Dc code 323 (.iconst 0) 1 324 := ⟨at_323, rfl⟩
theorem d0_324 : Dc code 324 (.iload 14) 2 326 := ⟨at_324, rfl⟩
theorem d0_326 : Dc code 326 (.iload 6) 2 328 := ⟨at_326, rfl⟩
theorem d0_328 : Dc code 328 (.iload 18) 2 330 := ⟨at_328, rfl⟩
theorem d0_330 : Dc code 330 (.iload 19) 2 332 := ⟨at_330, rfl⟩
theorem d0_332 : Dc code 332 (.iload 20) 2 334 := ⟨at_332, rfl⟩
theorem d0_334 : Dc code 334 (.iload 21) 2 336 := ⟨at_334, rfl⟩
theorem d0_336 : Dc code 336 (.invokestatic 25) 3 339 := ⟨at_336, rfl⟩
theorem d0_339 : Dc code 339 (.iastore) 1 340 := ⟨at_339, rfl⟩
theorem d0_340 : Dc code 340 (.aload 23) 2 342 := ⟨at_340, rfl⟩
theorem d0_342 : Dc code 342 (.iconst 1) 1 343 := ⟨at_342, rfl⟩
theorem d0_343 : Dc code 343 (.iconst 1) 1 344 := ⟨at_343, rfl⟩
theorem d0_344 : Dc code 344 (.iload 14) 2 346 := ⟨at_344, rfl⟩
theorem d0_346 : Dc code 346 (.iload 6) 2 348 := ⟨at_346, rfl⟩
theorem d0_348 : Dc code 348 (.iload 18) 2 350 := ⟨at_348, rfl⟩
theorem d0_350 : Dc code 350 (.iload 19) 2 352 := ⟨at_350, rfl⟩
theorem d0_352 : Dc code 352 (.iload 20) 2 354 := ⟨at_352, rfl⟩
theorem d0_354 : Dc code 354 (.iload 21) 2 356 := ⟨at_354, rfl⟩
theorem d0_356 : Dc code 356 (.invokestatic 25) 3 359 := ⟨at_356, rfl⟩
theorem d0_359 : Dc code 359 (.iastore) 1 360 := ⟨at_359, rfl⟩
theorem d0_360 : Dc code 360 (.aload 23) 2 362 := ⟨at_360, rfl⟩
theorem d0_362 : Dc code 362 (.iconst 2) 1 363 := ⟨at_362, rfl⟩
theorem d0_363 : Dc code 363 (.iconst 2) 1 364 := ⟨at_363, rfl⟩
theorem d0_364 : Dc code 364 (.iload 14) 2 366 := ⟨at_364, rfl⟩
theorem d0_366 : Dc code 366 (.iload 6) 2 368 := ⟨at_366, rfl⟩
theorem d0_368 : Dc code 368 (.iload 18) 2 370 := ⟨at_368, rfl⟩
theorem d0_370 : Dc code 370 (.iload 19) 2 372 := ⟨at_370, rfl⟩
theorem d0_372 : Dc code 372 (.iload 20) 2 374 := ⟨at_372, rfl⟩
theorem d0_374 : Dc code 374 (.iload 21) 2 376 := ⟨at_374, rfl⟩
theorem d0_376 : Dc code 376 (.invokestatic 25) 3 379 := ⟨at_376, rfl⟩
theorem d0_379 : Dc code 379 (.iastore) 1 380 := ⟨at_379, rfl⟩
theorem d0_380 : Dc code 380 (.aload 23) 2 382 := ⟨at_380, rfl⟩
theorem d0_382 : Dc code 382 (.iconst 3) 1 383 := ⟨at_382, rfl⟩
theorem d0_383 : Dc code 383 (.iconst 3) 1 384 := ⟨at_383, rfl⟩
theorem d0_384 : Dc code 384 (.iload 14) 2 386 := ⟨at_384, rfl⟩
theorem d0_386 : Dc code 386 (.iload 6) 2 388 := ⟨at_386, rfl⟩
theorem d0_388 : Dc code 388 (.iload 18) 2 390 := ⟨at_388, rfl⟩
theorem d0_390 : Dc code 390 (.iload 19) 2 392 := ⟨at_390, rfl⟩
theorem d0_392 : Dc code 392 (.iload 20) 2 394 := ⟨at_392, rfl⟩
theorem d0_394 : Dc code 394 (.iload 21) 2 396 := ⟨at_394, rfl⟩
theorem d0_396 : Dc code 396 (.invokestatic 25) 3 399 := ⟨at_396, rfl⟩
theorem d0_399 : Dc code 399 (.iastore) 1 400 := ⟨at_399, rfl⟩
theorem d0_400 : Dc code 400 (.iconst 4) 1 401 := ⟨at_400, rfl⟩
theorem d0_401 : Dc code 401 (.newarray .int) 2 403 := ⟨at_401, rfl⟩
theorem d0_403 : Dc code 403 (.astore 24) 2 405 := ⟨at_403, rfl⟩
theorem d0_405 : Dc code 405 (.aload 24) 2 407 := ⟨at_405, rfl⟩
theorem d0_407 : Dc code 407 (.aload 23) 2 409 := ⟨at_407, rfl⟩
theorem d0_409 : Dc code 409 (.iconst 0) 1 410 := ⟨at_409, rfl⟩
theorem d0_410 : Dc code 410 (.iaload) 1 411 := ⟨at_410, rfl⟩
theorem d0_411 : Dc code 411 (.dup2) 1 412 := ⟨at_411, rfl⟩
theorem d0_412 : Dc code 412 (.iaload) 1 413 := ⟨at_412, rfl⟩
theorem d0_413 : Dc code 413 (.iconst 1) 1 414 := ⟨at_413, rfl⟩
theorem d0_414 : Dc code 414 (.iadd) 1 415 := ⟨at_414, rfl⟩
theorem d0_415 : Dc code 415 (.iastore) 1 416 := ⟨at_415, rfl⟩
theorem d0_416 : Dc code 416 (.aload 24) 2 418 := ⟨at_416, rfl⟩
theorem d0_418 : Dc code 418 (.aload 23) 2 420 := ⟨at_418, rfl⟩
theorem d0_420 : Dc code 420 (.iconst 1) 1 421 := ⟨at_420, rfl⟩
theorem d0_421 : Dc code 421 (.iaload) 1 422 := ⟨at_421, rfl⟩
theorem d0_422 : Dc code 422 (.dup2) 1 423 := ⟨at_422, rfl⟩
theorem d0_423 : Dc code 423 (.iaload) 1 424 := ⟨at_423, rfl⟩
theorem d0_424 : Dc code 424 (.iconst 1) 1 425 := ⟨at_424, rfl⟩
theorem d0_425 : Dc code 425 (.iadd) 1 426 := ⟨at_425, rfl⟩
theorem d0_426 : Dc code 426 (.iastore) 1 427 := ⟨at_426, rfl⟩
theorem d0_427 : Dc code 427 (.aload 24) 2 429 := ⟨at_427, rfl⟩
theorem d0_429 : Dc code 429 (.aload 23) 2 431 := ⟨at_429, rfl⟩
theorem d0_431 : Dc code 431 (.iconst 2) 1 432 := ⟨at_431, rfl⟩
theorem d0_432 : Dc code 432 (.iaload) 1 433 := ⟨at_432, rfl⟩
theorem d0_433 : Dc code 433 (.dup2) 1 434 := ⟨at_433, rfl⟩
theorem d0_434 : Dc code 434 (.iaload) 1 435 := ⟨at_434, rfl⟩
theorem d0_435 : Dc code 435 (.iconst 1) 1 436 := ⟨at_435, rfl⟩
theorem d0_436 : Dc code 436 (.iadd) 1 437 := ⟨at_436, rfl⟩
theorem d0_437 : Dc code 437 (.iastore) 1 438 := ⟨at_437, rfl⟩
theorem d0_438 : Dc code 438 (.aload 24) 2 440 := ⟨at_438, rfl⟩
theorem d0_440 : Dc code 440 (.aload 23) 2 442 := ⟨at_440, rfl⟩
theorem d0_442 : Dc code 442 (.iconst 3) 1 443 := ⟨at_442, rfl⟩
theorem d0_443 : Dc code 443 (.iaload) 1 444 := ⟨at_443, rfl⟩
theorem d0_444 : Dc code 444 (.dup2) 1 445 := ⟨at_444, rfl⟩
theorem d0_445 : Dc code 445 (.iaload) 1 446 := ⟨at_445, rfl⟩
theorem d0_446 : Dc code 446 (.iconst 1) 1 447 := ⟨at_446, rfl⟩
theorem d0_447 : Dc code 447 (.iadd) 1 448 := ⟨at_447, rfl⟩
theorem d0_448 : Dc code 448 (.iastore) 1 449 := ⟨at_448, rfl⟩
theorem d0_449 : Dc code 449 (.iconst 4) 1 450 := ⟨at_449, rfl⟩
theorem d0_450 : Dc code 450 (.newarray .int) 2 452 := ⟨at_450, rfl⟩
theorem d0_452 : Dc code 452 (.astore 25) 2 454 := ⟨at_452, rfl⟩
theorem d0_454 : Dc code 454 (.iload 19) 2 456 := ⟨at_454, rfl⟩
theorem d0_456 : Bc code 456 (.ifCond .eq 9) (9) 459 465 := ⟨at_456, rfl, by decide, by decide⟩
theorem d0_459 : Dc code 459 (.aload 25) 2 461 := ⟨at_459, rfl⟩
theorem d0_461 : Dc code 461 (.iload 21) 2 463 := ⟨at_461, rfl⟩
theorem d0_463 : Dc code 463 (.iconst 1) 1 464 := ⟨at_463, rfl⟩
theorem d0_464 : Dc code 464 (.iastore) 1 465 := ⟨at_464, rfl⟩
theorem d0_465 : Dc code 465 (.aload 11) 2 467 := ⟨at_465, rfl⟩
theorem d0_467 : Dc code 467 (.invokevirtual 29) 3 470 := ⟨at_467, rfl⟩
theorem d0_470 : Dc code 470 (.iload 22) 2 472 := ⟨at_470, rfl⟩
theorem d0_472 : Bc code 472 (.if_icmp .ne 7) (7) 475 479 := ⟨at_472, rfl, by decide, by decide⟩
theorem d0_475 : Dc code 475 (.iconst 1) 1 476 := ⟨at_475, rfl⟩
theorem d0_476 : Bc code 476 (.goto 4) (4) 479 480 := ⟨at_476, rfl, by decide, by decide⟩
theorem d0_479 : Dc code 479 (.iconst 0) 1 480 := ⟨at_479, rfl⟩
theorem d0_480 : Dc code 480 (.istore 26) 2 482 := ⟨at_480, rfl⟩
theorem d0_482 : Dc code 482 (.iload 26) 2 484 := ⟨at_482, rfl⟩
theorem d0_484 : Dc code 484 (.aload 11) 2 486 := ⟨at_484, rfl⟩
theorem d0_486 : Dc code 486 (.iconst 0) 1 487 := ⟨at_486, rfl⟩
theorem d0_487 : Dc code 487 (.aload 23) 2 489 := ⟨at_487, rfl⟩
theorem d0_489 : Dc code 489 (.invokestatic 33) 3 492 := ⟨at_489, rfl⟩
theorem d0_492 : Dc code 492 (.iand) 1 493 := ⟨at_492, rfl⟩
theorem d0_493 : Dc code 493 (.istore 26) 2 495 := ⟨at_493, rfl⟩
theorem d0_495 : Dc code 495 (.iload 26) 2 497 := ⟨at_495, rfl⟩
theorem d0_497 : Dc code 497 (.aload 11) 2 499 := ⟨at_497, rfl⟩
theorem d0_499 : Dc code 499 (.iconst 1) 1 500 := ⟨at_499, rfl⟩
theorem d0_500 : Dc code 500 (.aload 23) 2 502 := ⟨at_500, rfl⟩
theorem d0_502 : Dc code 502 (.invokestatic 33) 3 505 := ⟨at_502, rfl⟩
theorem d0_505 : Dc code 505 (.iand) 1 506 := ⟨at_505, rfl⟩
theorem d0_506 : Dc code 506 (.istore 26) 2 508 := ⟨at_506, rfl⟩
theorem d0_508 : Dc code 508 (.iload 26) 2 510 := ⟨at_508, rfl⟩
theorem d0_510 : Dc code 510 (.aload 11) 2 512 := ⟨at_510, rfl⟩
theorem d0_512 : Dc code 512 (.iconst 2) 1 513 := ⟨at_512, rfl⟩
theorem d0_513 : Dc code 513 (.aload 23) 2 515 := ⟨at_513, rfl⟩
theorem d0_515 : Dc code 515 (.invokestatic 33) 3 518 := ⟨at_515, rfl⟩
theorem d0_518 : Dc code 518 (.iand) 1 519 := ⟨at_518, rfl⟩
theorem d0_519 : Dc code 519 (.istore 26) 2 521 := ⟨at_519, rfl⟩
theorem d0_521 : Dc code 521 (.iload 26) 2 523 := ⟨at_521, rfl⟩
theorem d0_523 : Dc code 523 (.aload 11) 2 525 := ⟨at_523, rfl⟩
theorem d0_525 : Dc code 525 (.iconst 3) 1 526 := ⟨at_525, rfl⟩
theorem d0_526 : Dc code 526 (.aload 23) 2 528 := ⟨at_526, rfl⟩
theorem d0_528 : Dc code 528 (.invokestatic 33) 3 531 := ⟨at_528, rfl⟩
theorem d0_531 : Dc code 531 (.iand) 1 532 := ⟨at_531, rfl⟩
theorem d0_532 : Dc code 532 (.istore 26) 2 534 := ⟨at_532, rfl⟩
theorem d0_534 : Dc code 534 (.iload 26) 2 536 := ⟨at_534, rfl⟩
theorem d0_536 : Dc code 536 (.aload 11) 2 538 := ⟨at_536, rfl⟩
theorem d0_538 : Dc code 538 (.iconst 1) 1 539 := ⟨at_538, rfl⟩
theorem d0_539 : Dc code 539 (.iload 22) 2 541 := ⟨at_539, rfl⟩
theorem d0_541 : Dc code 541 (.aload 25) 2 543 := ⟨at_541, rfl⟩
theorem d0_543 : Dc code 543 (.invokestatic 37) 3 546 := ⟨at_543, rfl⟩
theorem d0_546 : Dc code 546 (.iand) 1 547 := ⟨at_546, rfl⟩
theorem d0_547 : Dc code 547 (.istore 26) 2 549 := ⟨at_547, rfl⟩
theorem d0_549 : Dc code 549 (.iload 26) 2 551 := ⟨at_549, rfl⟩
theorem d0_551 : Dc code 551 (.aload 11) 2 553 := ⟨at_551, rfl⟩
theorem d0_553 : Dc code 553 (.iconst 2) 1 554 := ⟨at_553, rfl⟩
theorem d0_554 : Dc code 554 (.iload 22) 2 556 := ⟨at_554, rfl⟩
theorem d0_556 : Dc code 556 (.aload 25) 2 558 := ⟨at_556, rfl⟩
theorem d0_558 : Dc code 558 (.invokestatic 37) 3 561 := ⟨at_558, rfl⟩
theorem d0_561 : Dc code 561 (.iand) 1 562 := ⟨at_561, rfl⟩
theorem d0_562 : Dc code 562 (.istore 26) 2 564 := ⟨at_562, rfl⟩
theorem d0_564 : Dc code 564 (.iload 26) 2 566 := ⟨at_564, rfl⟩
theorem d0_566 : Dc code 566 (.aload 11) 2 568 := ⟨at_566, rfl⟩
theorem d0_568 : Dc code 568 (.iconst 3) 1 569 := ⟨at_568, rfl⟩
theorem d0_569 : Dc code 569 (.iload 22) 2 571 := ⟨at_569, rfl⟩
theorem d0_571 : Dc code 571 (.aload 25) 2 573 := ⟨at_571, rfl⟩
theorem d0_573 : Dc code 573 (.invokestatic 37) 3 576 := ⟨at_573, rfl⟩
theorem d0_576 : Dc code 576 (.iand) 1 577 := ⟨at_576, rfl⟩
theorem d0_577 : Dc code 577 (.istore 26) 2 579 := ⟨at_577, rfl⟩
theorem d0_579 : Dc code 579 (.iload 26) 2 581 := ⟨at_579, rfl⟩
theorem d0_581 : Dc code 581 (.aload 11) 2 583 := ⟨at_581, rfl⟩
theorem d0_583 : Dc code 583 (.iconst 0) 1 584 := ⟨at_583, rfl⟩
theorem d0_584 : Dc code 584 (.iload 22) 2 586 := ⟨at_584, rfl⟩
theorem d0_586 : Dc code 586 (.aload 24) 2 588 := ⟨at_586, rfl⟩
theorem d0_588 : Dc code 588 (.invokestatic 41) 3 591 := ⟨at_588, rfl⟩
theorem d0_591 : Dc code 591 (.iand) 1 592 := ⟨at_591, rfl⟩
theorem d0_592 : Dc code 592 (.istore 26) 2 594 := ⟨at_592, rfl⟩
theorem d0_594 : Dc code 594 (.iload 26) 2 596 := ⟨at_594, rfl⟩
theorem d0_596 : Dc code 596 (.aload 11) 2 598 := ⟨at_596, rfl⟩
theorem d0_598 : Dc code 598 (.iconst 1) 1 599 := ⟨at_598, rfl⟩
theorem d0_599 : Dc code 599 (.iload 22) 2 601 := ⟨at_599, rfl⟩
theorem d0_601 : Dc code 601 (.aload 24) 2 603 := ⟨at_601, rfl⟩
theorem d0_603 : Dc code 603 (.invokestatic 41) 3 606 := ⟨at_603, rfl⟩
theorem d0_606 : Dc code 606 (.iand) 1 607 := ⟨at_606, rfl⟩
theorem d0_607 : Dc code 607 (.istore 26) 2 609 := ⟨at_607, rfl⟩
theorem d0_609 : Dc code 609 (.iload 26) 2 611 := ⟨at_609, rfl⟩
theorem d0_611 : Dc code 611 (.aload 11) 2 613 := ⟨at_611, rfl⟩
theorem d0_613 : Dc code 613 (.iconst 2) 1 614 := ⟨at_613, rfl⟩
theorem d0_614 : Dc code 614 (.iload 22) 2 616 := ⟨at_614, rfl⟩
theorem d0_616 : Dc code 616 (.aload 24) 2 618 := ⟨at_616, rfl⟩
theorem d0_618 : Dc code 618 (.invokestatic 41) 3 621 := ⟨at_618, rfl⟩
theorem d0_621 : Dc code 621 (.iand) 1 622 := ⟨at_621, rfl⟩
theorem d0_622 : Dc code 622 (.istore 26) 2 624 := ⟨at_622, rfl⟩
theorem d0_624 : Dc code 624 (.iload 26) 2 626 := ⟨at_624, rfl⟩
theorem d0_626 : Dc code 626 (.aload 11) 2 628 := ⟨at_626, rfl⟩
theorem d0_628 : Dc code 628 (.iconst 3) 1 629 := ⟨at_628, rfl⟩
theorem d0_629 : Dc code 629 (.iload 22) 2 631 := ⟨at_629, rfl⟩
theorem d0_631 : Dc code 631 (.aload 24) 2 633 := ⟨at_631, rfl⟩
theorem d0_633 : Dc code 633 (.invokestatic 41) 3 636 := ⟨at_633, rfl⟩
theorem d0_636 : Dc code 636 (.iand) 1 637 := ⟨at_636, rfl⟩
theorem d0_637 : Dc code 637 (.istore 26) 2 639 := ⟨at_637, rfl⟩
theorem d0_639 : Dc code 639 (.aload 11) 2 641 := ⟨at_639, rfl⟩
theorem d0_641 : Dc code 641 (.iconst 0) 1 642 := ⟨at_641, rfl⟩
theorem d0_642 : Dc code 642 (.invokestatic 44) 3 645 := ⟨at_642, rfl⟩
theorem d0_645 : Dc code 645 (.aload 11) 2 647 := ⟨at_645, rfl⟩
theorem d0_647 : Dc code 647 (.iconst 1) 1 648 := ⟨at_647, rfl⟩
theorem d0_648 : Dc code 648 (.invokestatic 44) 3 651 := ⟨at_648, rfl⟩
theorem d0_651 : Dc code 651 (.ior) 1 652 := ⟨at_651, rfl⟩
theorem d0_652 : Dc code 652 (.aload 11) 2 654 := ⟨at_652, rfl⟩
theorem d0_654 : Dc code 654 (.iconst 2) 1 655 := ⟨at_654, rfl⟩
theorem d0_655 : Dc code 655 (.invokestatic 44) 3 658 := ⟨at_655, rfl⟩
theorem d0_658 : Dc code 658 (.ior) 1 659 := ⟨at_658, rfl⟩
theorem d0_659 : Dc code 659 (.aload 11) 2 661 := ⟨at_659, rfl⟩
theorem d0_661 : Dc code 661 (.iconst 3) 1 662 := ⟨at_661, rfl⟩
theorem d0_662 : Dc code 662 (.invokestatic 44) 3 665 := ⟨at_662, rfl⟩
theorem d0_665 : Dc code 665 (.ior) 1 666 := ⟨at_665, rfl⟩
theorem d0_666 : Dc code 666 (.istore 27) 2 668 := ⟨at_666, rfl⟩
theorem d0_668 : Dc code 668 (.iload 26) 2 670 := ⟨at_668, rfl⟩
theorem d0_670 : Dc code 670 (.iload 27) 2 672 := ⟨at_670, rfl⟩
theorem d0_672 : Dc code 672 (.bipush 15) 2 674 := ⟨at_672, rfl⟩
theorem d0_674 : Bc code 674 (.if_icmp .ne 7) (7) 677 681 := ⟨at_674, rfl, by decide, by decide⟩
theorem d0_677 : Dc code 677 (.iconst 1) 1 678 := ⟨at_677, rfl⟩
theorem d0_678 : Bc code 678 (.goto 4) (4) 681 682 := ⟨at_678, rfl, by decide, by decide⟩
theorem d0_681 : Dc code 681 (.iconst 0) 1 682 := ⟨at_681, rfl⟩
theorem d0_682 : Dc code 682 (.iand) 1 683 := ⟨at_682, rfl⟩
theorem d0_683 : Dc code 683 (.istore 26) 2 685 := ⟨at_683, rfl⟩
theorem d0_685 : Dc code 685 (.iload 26) 2 687 := ⟨at_685, rfl⟩
theorem d0_687 : Dc code 687 (.ireturn) 1 688 := ⟨at_687, rfl⟩
theorem pd_1 : parseMethodDescriptor "(I)V" = some ⟨[.int], none⟩ := by decide +kernel
theorem pd_3 : parseMethodDescriptor "(Lcom/example/procsh/procsh/service/Partition;III)V" = some ⟨[.object "com/example/procsh/procsh/service/Partition", .int, .int, .int], none⟩ := by decide +kernel
theorem pd_5 : parseMethodDescriptor "()V" = some ⟨[], none⟩ := by decide +kernel
theorem pd_7 : parseMethodDescriptor "(IIIZZII)I" = some ⟨[.int, .int, .int, .boolean, .boolean, .int, .int], (some .int)⟩ := by decide +kernel
theorem pd_8 : parseMethodDescriptor "()I" = some ⟨[], (some .int)⟩ := by decide +kernel
theorem pd_9 : parseMethodDescriptor "(Lcom/example/procsh/procsh/service/Partition;I[I)Z" = some ⟨[.object "com/example/procsh/procsh/service/Partition", .int, .array .int], (some .boolean)⟩ := by decide +kernel
theorem pd_11 : parseMethodDescriptor "(Lcom/example/procsh/procsh/service/Partition;II[I)Z" = some ⟨[.object "com/example/procsh/procsh/service/Partition", .int, .int, .array .int], (some .boolean)⟩ := by decide +kernel
theorem pd_13 : parseMethodDescriptor "(Lcom/example/procsh/procsh/service/Partition;II[I)Z" = some ⟨[.object "com/example/procsh/procsh/service/Partition", .int, .int, .array .int], (some .boolean)⟩ := by decide +kernel
theorem pd_15 : parseMethodDescriptor "(Lcom/example/procsh/procsh/service/Partition;I)I" = some ⟨[.object "com/example/procsh/procsh/service/Partition", .int], (some .int)⟩ := by decide +kernel
theorem pd_19 : parseMethodDescriptor "(III)I" = some ⟨[.int, .int, .int], (some .int)⟩ := by decide +kernel
theorem ef_law (m : MethodId) (x0 : Int32) (x1 : Int32) (x2 : Int32) (x3 : Int32) (x4 : Int32) : entryFrame m #[.int x0, .int x1, .int x2, .int x3, .int x4] maxLocals = mkF m 0 #[.val (.int x0), .val (.int x1), .val (.int x2), .val (.int x3), .val (.int x4), .unset, .unset, .unset, .unset, .unset, .unset, .unset, .unset, .unset, .unset, .unset, .unset, .unset, .unset, .unset, .unset, .unset, .unset, .unset, .unset, .unset, .unset, .unset] [] := by first | (simp [entryFrame, mkF, argsToLocals, Value.category, maxLocals]; done) | rfl
set_option maxRecDepth 65536 in
set_option maxHeartbeats 40000000 in
theorem m_law (l : Launch) (Z : State) (a0 : Array Value) (hw : ∀ d ∈ tables_1, d.before a0 Z = true) (n0 : Nat) (x0 : Int32) (x1 : Int32) (x2 : Int32) (x3 : Int32) (x4 : Int32) (h : Heap) (hn : n0 ≤ h.size) : Met n0 l Z x code maxLocals ret room_1 tables_1 #[.int x0, .int x1, .int x2, .int x3, .int x4] h (fun v _ => v = some (.int 1)) := by
  refine enter (plainFor_of_name (by first | (simp [plainName, overriddenIn, x]; done) | decide +kernel)) (fun m => ef_law m x0 x1 x2 x3 x4) hn ?_
  intro p e s m below meth c T K S
  refine iload_n K S rfl d0_0 ?_
  refine bipush K S (x := (15 : Int32)) rfl d0_1 ?_
  refine iand K S d0_3 ?_
  refine nmI fun m1 hm1 => ?_
  refine istore K S (l' := #[.val (.int x0), .val (.int x1), .val (.int x2), .val (.int x3), .val (.int x4), .val (.int m1), .unset, .unset, .unset, .unset, .unset, .unset, .unset, .unset, .unset, .unset, .unset, .unset, .unset, .unset, .unset, .unset, .unset, .unset, .unset, .unset, .unset, .unset]) rfl d0_4 ?_
  refine iload_n K S rfl d0_6 ?_
  refine bipush K S (x := (15 : Int32)) rfl d0_7 ?_
  refine iand K S d0_9 ?_
  refine nmI fun m2 hm2 => ?_
  refine istore K S (l' := #[.val (.int x0), .val (.int x1), .val (.int x2), .val (.int x3), .val (.int x4), .val (.int m1), .val (.int m2), .unset, .unset, .unset, .unset, .unset, .unset, .unset, .unset, .unset, .unset, .unset, .unset, .unset, .unset, .unset, .unset, .unset, .unset, .unset, .unset, .unset]) rfl d0_10 ?_
  refine iload_n K S rfl d0_12 ?_
  refine iconst K S (x := (3 : Int32)) rfl d0_13 ?_
  refine iand K S d0_14 ?_
  refine nmI fun r1 hr1 => ?_
  refine istore K S (l' := #[.val (.int x0), .val (.int x1), .val (.int x2), .val (.int x3), .val (.int x4), .val (.int m1), .val (.int m2), .val (.int r1), .unset, .unset, .unset, .unset, .unset, .unset, .unset, .unset, .unset, .unset, .unset, .unset, .unset, .unset, .unset, .unset, .unset, .unset, .unset, .unset]) rfl d0_15 ?_
  refine iload_n K S rfl d0_17 ?_
  refine iconst K S (x := (3 : Int32)) rfl d0_18 ?_
  refine iand K S d0_19 ?_
  refine nmI fun r2 hr2 => ?_
  refine istore K S (l' := #[.val (.int x0), .val (.int x1), .val (.int x2), .val (.int x3), .val (.int x4), .val (.int m1), .val (.int m2), .val (.int r1), .val (.int r2), .unset, .unset, .unset, .unset, .unset, .unset, .unset, .unset, .unset, .unset, .unset, .unset, .unset, .unset, .unset, .unset, .unset, .unset, .unset]) rfl d0_20 ?_
  obtain ⟨ja, qm1⟩ := own_fin16 x0
  have ha := hm1.trans qm1
  obtain ⟨jb, qm2⟩ := own_fin16 x1
  have hb := hm2.trans qm2
  obtain ⟨jr1, qr1⟩ := own_fin4 x2
  have hr1' := hr1.trans qr1
  obtain ⟨jr2, qr2⟩ := own_fin4 x3
  have hr2' := hr2.trans qr2
  have J50 : ∀ (t1 t2 : Int32) (jt1 jt2 : Fin 2) (ht1 : t1 = own_t jt1) (ht2 : t2 = own_t jt2), Wp n0 p e room_1 s below (fun v _ => v = some (.int 1)) T (mkF m 50 #[.val (.int x0), .val (.int x1), .val (.int x2), .val (.int x3), .val (.int x4), .val (.int m1), .val (.int m2), .val (.int r1), .val (.int r2), .val (.int t1), .val (.int t2), .unset, .unset, .unset, .unset, .unset, .unset, .unset, .unset, .unset, .unset, .unset, .unset, .unset, .unset, .unset, .unset, .unset] []) := by
    intro t1 t2 jt1 jt2 ht1 ht2
    refine new K S (hwi hw 0 rfl) (hwi hw 1 rfl) (hwi hw 2 rfl) (by decide) (by decide) d0_50 fun T h50_1 o50 z_o50 g_o50 X E_o50 D S => ?_
    have F_elements_o50 : Fld Z h50_1 o50 "com/example/procsh/procsh/service/Partition" "elements" "[I" (.null) := D (Or.inr (hwi hw 11 rfl)) (ty := .array .int) (by decide)
    have F_positionOf_o50 : Fld Z h50_1 o50 "com/example/procsh/procsh/service/Partition" "positionOf" "[I" (.null) := D (Or.inr (hwi hw 13 rfl)) (ty := .array .int) (by decide)
    have F_blockOf_o50 : Fld Z h50_1 o50 "com/example/procsh/procsh/service/Partition" "blockOf" "[I" (.null) := D (Or.inr (hwi hw 15 rfl)) (ty := .array .int) (by decide)
    have F_blockStart_o50 : Fld Z h50_1 o50 "com/example/procsh/procsh/service/Partition" "blockStart" "[I" (.null) := D (Or.inr (hwi hw 17 rfl)) (ty := .array .int) (by decide)
    have F_blockEnd_o50 : Fld Z h50_1 o50 "com/example/procsh/procsh/service/Partition" "blockEnd" "[I" (.null) := D (Or.inr (hwi hw 19 rfl)) (ty := .array .int) (by decide)
    have F_markedEnd_o50 : Fld Z h50_1 o50 "com/example/procsh/procsh/service/Partition" "markedEnd" "[I" (.null) := D (Or.inr (hwi hw 21 rfl)) (ty := .array .int) (by decide)
    have F_origin_o50 : Fld Z h50_1 o50 "com/example/procsh/procsh/service/Partition" "origin" "[I" (.null) := D (Or.inr (hwi hw 23 rfl)) (ty := .array .int) (by decide)
    have F_touchedBlocks_o50 : Fld Z h50_1 o50 "com/example/procsh/procsh/service/Partition" "touchedBlocks" "[I" (.null) := D (Or.inr (hwi hw 25 rfl)) (ty := .array .int) (by decide)
    have F_blocks_o50 : Fld Z h50_1 o50 "com/example/procsh/procsh/service/Partition" "blocks" "I" (.int (0 : Int32)) := D (Or.inl (hwi hw 27 rfl)) (ty := .int) (by decide)
    have F_touched_o50 : Fld Z h50_1 o50 "com/example/procsh/procsh/service/Partition" "touched" "I" (.int (0 : Int32)) := D (Or.inl (hwi hw 41 rfl)) (ty := .int) (by decide)
    clear D X
    refine dup K S rfl d0_53 ?_
    refine iconst K S (x := (4 : Int32)) rfl d0_54 ?_
    refine callC K S (W := 1) (m_init l Z a0 hw n0 o50 h50_1 (Sle S) g_o50 E_o50 F_elements_o50 F_positionOf_o50 F_blockOf_o50 F_blockStart_o50 F_blockEnd_o50 F_markedEnd_o50 F_origin_o50 F_touchedBlocks_o50 F_blocks_o50 F_touched_o50) rfl rfl (hwi hw 3 rfl) (hwi hw 4 rfl) (hwi hw 5 rfl) (hwi hw 2 rfl) (by decide) (by decide) (by decide) (by decide) (by decide) rfl (argsL := [.int (4 : Int32)]) rfl (lenOf pd_1 rfl) (rest := [.ref o50]) rfl (Nat.le_of_eq rfl) d0_55 (ef fun T h55_2 hP S => ?_)
    obtain ⟨p0, p1, p2, p3, p4, p5, p6, p7, D, H⟩ := hP
    clear F_elements_o50
    clear F_positionOf_o50
    clear F_blockOf_o50
    clear F_blockStart_o50
    clear F_blockEnd_o50
    clear F_markedEnd_o50
    clear F_origin_o50
    clear F_touchedBlocks_o50
    clear F_blocks_o50
    clear F_touched_o50
    replace E_o50 := H.1
    obtain ⟨L1, h1⟩ : ∃ z, z = frd L0 m1 r1 t1 := ⟨_, rfl⟩
    obtain ⟨L2, h2⟩ : ∃ z, z = fspl L1 := ⟨_, rfl⟩
    obtain ⟨L3, h3⟩ : ∃ z, z = frd L2 m2 r2 t2 := ⟨_, rfl⟩
    obtain ⟨L4, h4⟩ : ∃ z, z = fspl L3 := ⟨_, rfl⟩
    obtain ⟨k1, k2, k3, k4, kc⟩ := own_AB ja jb jr1 jr2 jt1 jt2 ha hb hr1' hr2' ht1 ht2 h1 h2 h3 h4
    obtain ⟨⟨z0, z1, z2, z3, z4⟩, y0, y1, y2, y3, y4⟩ := chk2_all kc
    show Wp n0 p e _ s below _ T (mkF m 58 #[.val (.int x0), .val (.int x1), .val (.int x2), .val (.int x3), .val (.int x4), .val (.int m1), .val (.int m2), .val (.int r1), .val (.int r2), .val (.int t1), .val (.int t2), .unset, .unset, .unset, .unset, .unset, .unset, .unset, .unset, .unset, .unset, .unset, .unset, .unset, .unset, .unset, .unset, .unset] [.ref o50])
    refine astore K S (l' := #[.val (.int x0), .val (.int x1), .val (.int x2), .val (.int x3), .val (.int x4), .val (.int m1), .val (.int m2), .val (.int r1), .val (.int r2), .val (.int t1), .val (.int t2), .val (.ref o50), .unset, .unset, .unset, .unset, .unset, .unset, .unset, .unset, .unset, .unset, .unset, .unset, .unset, .unset, .unset, .unset]) rfl rfl d0_58 ?_
    refine aload K S rfl rfl d0_60 ?_
    refine iload K S rfl d0_62 ?_
    refine iload K S rfl d0_64 ?_
    refine iload K S rfl d0_66 ?_
    refine callS K S (W := 0) (m_round l Z a0 hw n0 o50 p0 p1 p2 p3 p4 p5 p6 p7 m1 r1 t1 L0 h55_2 (Sle S) D H k1) (hwi hw 28 rfl) (hwi hw 29 rfl) (hwi hw 31 rfl) (hwi hw 30 rfl) (by decide) (by decide) (by decide) (by decide) (by decide) rfl (argsL := [.ref o50, .int m1, .int r1, .int t1]) rfl (lenOf pd_3 rfl) (rest := []) rfl (Nat.le_of_eq rfl) d0_68 (ef fun T h68_3 hP S => ?_)
    rw [← h1] at hP
    have H := hP
    replace E_o50 := H.1
    show Wp n0 p e _ s below _ T (mkF m 71 #[.val (.int x0), .val (.int x1), .val (.int x2), .val (.int x3), .val (.int x4), .val (.int m1), .val (.int m2), .val (.int r1), .val (.int r2), .val (.int t1), .val (.int t2), .val (.ref o50), .unset, .unset, .unset, .unset, .unset, .unset, .unset, .unset, .unset, .unset, .unset, .unset, .unset, .unset, .unset, .unset] [])
    refine aload K S rfl rfl d0_71 ?_
    refine callV K S (W := 0) (m_split l Z a0 hw n0 o50 p0 p1 p2 p3 p4 p5 p6 p7 L1 h68_3 (Sle S) D H k2) E_o50 (hwi hw 35 rfl) (hwi hw 36 rfl) (hwi hw 38 rfl) (hwi hw 37 rfl) (hwi hw 39 rfl) (hwi hw 2 rfl) (by decide) (by decide) (by decide) (by decide) (by decide) rfl (argsL := []) rfl (lenOf pd_5 rfl) (rest := []) rfl (Nat.le_of_eq rfl) d0_73 (ef fun T h73_4 hP S => ?_)
    rw [← h2] at hP
    have H := hP
    replace E_o50 := H.1
    show Wp n0 p e _ s below _ T (mkF m 76 #[.val (.int x0), .val (.int x1), .val (.int x2), .val (.int x3), .val (.int x4), .val (.int m1), .val (.int m2), .val (.int r1), .val (.int r2), .val (.int t1), .val (.int t2), .val (.ref o50), .unset, .unset, .unset, .unset, .unset, .unset, .unset, .unset, .unset, .unset, .unset, .unset, .unset, .unset, .unset, .unset] [])
    refine aload K S rfl rfl d0_76 ?_
    refine iload K S rfl d0_78 ?_
    refine iload K S rfl d0_80 ?_
    refine iload K S rfl d0_82 ?_
    refine callS K S (W := 0) (m_round l Z a0 hw n0 o50 p0 p1 p2 p3 p4 p5 p6 p7 m2 r2 t2 L2 h73_4 (Sle S) D H k3) (hwi hw 28 rfl) (hwi hw 29 rfl) (hwi hw 31 rfl) (hwi hw 30 rfl) (by decide) (by decide) (by decide) (by decide) (by decide) rfl (argsL := [.ref o50, .int m2, .int r2, .int t2]) rfl (lenOf pd_3 rfl) (rest := []) rfl (Nat.le_of_eq rfl) d0_84 (ef fun T h84_5 hP S => ?_)
    rw [← h3] at hP
    have H := hP
    replace E_o50 := H.1
    show Wp n0 p e _ s below _ T (mkF m 87 #[.val (.int x0), .val (.int x1), .val (.int x2), .val (.int x3), .val (.int x4), .val (.int m1), .val (.int m2), .val (.int r1), .val (.int r2), .val (.int t1), .val (.int t2), .val (.ref o50), .unset, .unset, .unset, .unset, .unset, .unset, .unset, .unset, .unset, .unset, .unset, .unset, .unset, .unset, .unset, .unset] [])
    refine aload K S rfl rfl d0_87 ?_
    refine callV K S (W := 0) (m_split l Z a0 hw n0 o50 p0 p1 p2 p3 p4 p5 p6 p7 L3 h84_5 (Sle S) D H k4) E_o50 (hwi hw 35 rfl) (hwi hw 36 rfl) (hwi hw 38 rfl) (hwi hw 37 rfl) (hwi hw 39 rfl) (hwi hw 2 rfl) (by decide) (by decide) (by decide) (by decide) (by decide) rfl (argsL := []) rfl (lenOf pd_5 rfl) (rest := []) rfl (Nat.le_of_eq rfl) d0_89 (ef fun T h89_6 hP S => ?_)
    rw [← h4] at hP
    have H := hP
    replace E_o50 := H.1
    show Wp n0 p e _ s below _ T (mkF m 92 #[.val (.int x0), .val (.int x1), .val (.int x2), .val (.int x3), .val (.int x4), .val (.int m1), .val (.int m2), .val (.int r1), .val (.int r2), .val (.int t1), .val (.int t2), .val (.ref o50), .unset, .unset, .unset, .unset, .unset, .unset, .unset, .unset, .unset, .unset, .unset, .unset, .unset, .unset, .unset, .unset] [])
    have J315 : ∀ (T : State) (s12 s13 s15 s16 s17 s23 : Slot), St n0 p l e room_1 s m #[.int x0, .int x1, .int x2, .int x3, .int x4] below meth c 9 42 h89_6 T → One s23 → Wp n0 p e room_1 s below (fun v _ => v = some (.int 1)) T (mkF m 315 #[.val (.int x0), .val (.int x1), .val (.int x2), .val (.int x3), .val (.int x4), .val (.int m1), .val (.int m2), .val (.int r1), .val (.int r2), .val (.int t1), .val (.int t2), .val (.ref o50), s12, s13, .val (.int (fa1 m1)), s15, s16, s17, .val (.int (fsp0 m1 m2)), .val (.int (fsp1 m1 m2)), .val (.int (fid0 m1 m2 r2 t2)), .val (.int (fid1 m1 m2 r2 t2)), .val (.int (feb m1 m2)), s23, .unset, .unset, .unset, .unset] []) := by
      intro T s12 s13 s15 s16 s17 s23 S o_s23
      refine iconst K S (x := (4 : Int32)) rfl d0_315 ?_
      refine newarr K S (cap := 4) (hwi hw 9 rfl) (by decide) (by decide) (by decide) (by decide) (by decide) d0_316 fun T h316_7 o316 z_o316 g_o316 X A_o316 S => ?_
      have n_o50_o316 : o50 ≠ o316 := by rw [z_o316]; exact Nat.ne_of_lt E_o50.lt
      replace E_o50 := E_o50.ext X
      have n_o50_o316 : o50 ≠ o316 := by rw [z_o316]; exact Nat.ne_of_lt H.lts.1
      have n_p0_o316 : p0 ≠ o316 := by rw [z_o316]; exact Nat.ne_of_lt H.lts.2.1
      have n_p1_o316 : p1 ≠ o316 := by rw [z_o316]; exact Nat.ne_of_lt H.lts.2.2.1
      have n_p2_o316 : p2 ≠ o316 := by rw [z_o316]; exact Nat.ne_of_lt H.lts.2.2.2.1
      have n_p3_o316 : p3 ≠ o316 := by rw [z_o316]; exact Nat.ne_of_lt H.lts.2.2.2.2.1
      have n_p4_o316 : p4 ≠ o316 := by rw [z_o316]; exact Nat.ne_of_lt H.lts.2.2.2.2.2.1
      have n_p5_o316 : p5 ≠ o316 := by rw [z_o316]; exact Nat.ne_of_lt H.lts.2.2.2.2.2.2.1
      have n_p6_o316 : p6 ≠ o316 := by rw [z_o316]; exact Nat.ne_of_lt H.lts.2.2.2.2.2.2.2.1
      have n_p7_o316 : p7 ≠ o316 := by rw [z_o316]; exact Nat.ne_of_lt H.lts.2.2.2.2.2.2.2.2
      replace H := H.keep ((Keep.refl _ []).ext X) nin0 nin0 nin0 nin0 nin0 nin0 nin0 nin0 nin0
      replace A_o316 : VA Z h316_7 o316 .int ([.int (0 : Int32), .int (0 : Int32), .int (0 : Int32), .int (0 : Int32)]) := A_o316
      clear X
      refine astore K S (l' := #[.val (.int x0), .val (.int x1), .val (.int x2), .val (.int x3), .val (.int x4), .val (.int m1), .val (.int m2), .val (.int r1), .val (.int r2), .val (.int t1), .val (.int t2), .val (.ref o50), s12, s13, .val (.int (fa1 m1)), s15, s16, s17, .val (.int (fsp0 m1 m2)), .val (.int (fsp1 m1 m2)), .val (.int (fid0 m1 m2 r2 t2)), .val (.int (fid1 m1 m2 r2 t2)), .val (.int (feb m1 m2)), .val (.ref o316), .unset, .unset, .unset, .unset]) rfl (stO o_s23 rfl rfl rfl) d0_318 ?_
      refine aload K S rfl rfl d0_320 ?_
      refine iconst K S (x := (0 : Int32)) rfl d0_322 ?_
      refine iconst K S (x := (0 : Int32)) rfl d0_323 ?_
      refine iload K S rfl d0_324 ?_
      refine iload K S rfl d0_326 ?_
      refine iload K S rfl d0_328 ?_
      refine iload K S rfl d0_330 ?_
      refine iload K S rfl d0_332 ?_
      refine iload K S rfl d0_334 ?_
      refine callS K S (W := 2) (m_xp l Z a0 hw n0 (0 : Int32) (fa1 m1) m2 (fsp0 m1 m2) (fsp1 m1 m2) (fid0 m1 m2 r2 t2) (fid1 m1 m2 r2 t2) h316_7 (Sle S) ) (hwi hw 47 rfl) (hwi hw 48 rfl) (hwi hw 49 rfl) (hwi hw 30 rfl) (by decide) (by decide) (by decide) (by decide) (by decide) rfl (argsL := [.int (0 : Int32), .int (fa1 m1), .int m2, .int (fsp0 m1 m2), .int (fsp1 m1 m2), .int (fid0 m1 m2 r2 t2), .int (fid1 m1 m2 r2 t2)]) rfl (lenOf pd_7 rfl) (rest := [.int (0 : Int32), .ref o316]) rfl (Nat.le_of_eq rfl) d0_336 (pu fun T S => ?_)
      show Wp n0 p e _ s below _ T (mkF m 339 #[.val (.int x0), .val (.int x1), .val (.int x2), .val (.int x3), .val (.int x4), .val (.int m1), .val (.int m2), .val (.int r1), .val (.int r2), .val (.int t1), .val (.int t2), .val (.ref o50), s12, s13, .val (.int (fa1 m1)), s15, s16, s17, .val (.int (fsp0 m1 m2)), .val (.int (fsp1 m1 m2)), .val (.int (fid0 m1 m2 r2 t2)), .val (.int (fid1 m1 m2 r2 t2)), .val (.int (feb m1 m2)), .val (.ref o316), .unset, .unset, .unset, .unset] [.int (fx m1 m2 r2 t2 (0 : Int32)), .int (0 : Int32), .ref o316])
      refine iastore K S (i := 0) A_o316 ⟨by decide, rfl⟩ (show (0 : Nat) < 4 by decide) g_o316 d0_339 fun T h339_8 W B S => ?_
      replace E_o50 := E_o50.wr W
      replace H := H.keep (Keep.of_wr W) (ninS (by first | exact n_o50_o316 | exact Ne.symm n_o316_o50 | omega) nin0) (ninS (by first | exact n_p0_o316 | exact Ne.symm n_o316_p0 | omega) nin0) (ninS (by first | exact n_p1_o316 | exact Ne.symm n_o316_p1 | omega) nin0) (ninS (by first | exact n_p2_o316 | exact Ne.symm n_o316_p2 | omega) nin0) (ninS (by first | exact n_p3_o316 | exact Ne.symm n_o316_p3 | omega) nin0) (ninS (by first | exact n_p4_o316 | exact Ne.symm n_o316_p4 | omega) nin0) (ninS (by first | exact n_p5_o316 | exact Ne.symm n_o316_p5 | omega) nin0) (ninS (by first | exact n_p6_o316 | exact Ne.symm n_o316_p6 | omega) nin0) (ninS (by first | exact n_p7_o316 | exact Ne.symm n_o316_p7 | omega) nin0)
      clear W
      replace A_o316 : VA Z h339_8 o316 .int ([.int (fx m1 m2 r2 t2 (0 : Int32)), .int (0 : Int32), .int (0 : Int32), .int (0 : Int32)]) := B
      refine aload K S rfl rfl d0_340 ?_
      refine iconst K S (x := (1 : Int32)) rfl d0_342 ?_
      refine iconst K S (x := (1 : Int32)) rfl d0_343 ?_
      refine iload K S rfl d0_344 ?_
      refine iload K S rfl d0_346 ?_
      refine iload K S rfl d0_348 ?_
      refine iload K S rfl d0_350 ?_
      refine iload K S rfl d0_352 ?_
      refine iload K S rfl d0_354 ?_
      refine callS K S (W := 2) (m_xp l Z a0 hw n0 (1 : Int32) (fa1 m1) m2 (fsp0 m1 m2) (fsp1 m1 m2) (fid0 m1 m2 r2 t2) (fid1 m1 m2 r2 t2) h339_8 (Sle S) ) (hwi hw 47 rfl) (hwi hw 48 rfl) (hwi hw 49 rfl) (hwi hw 30 rfl) (by decide) (by decide) (by decide) (by decide) (by decide) rfl (argsL := [.int (1 : Int32), .int (fa1 m1), .int m2, .int (fsp0 m1 m2), .int (fsp1 m1 m2), .int (fid0 m1 m2 r2 t2), .int (fid1 m1 m2 r2 t2)]) rfl (lenOf pd_7 rfl) (rest := [.int (1 : Int32), .ref o316]) rfl (Nat.le_of_eq rfl) d0_356 (pu fun T S => ?_)
      show Wp n0 p e _ s below _ T (mkF m 359 #[.val (.int x0), .val (.int x1), .val (.int x2), .val (.int x3), .val (.int x4), .val (.int m1), .val (.int m2), .val (.int r1), .val (.int r2), .val (.int t1), .val (.int t2), .val (.ref o50), s12, s13, .val (.int (fa1 m1)), s15, s16, s17, .val (.int (fsp0 m1 m2)), .val (.int (fsp1 m1 m2)), .val (.int (fid0 m1 m2 r2 t2)), .val (.int (fid1 m1 m2 r2 t2)), .val (.int (feb m1 m2)), .val (.ref o316), .unset, .unset, .unset, .unset] [.int (fx m1 m2 r2 t2 (1 : Int32)), .int (1 : Int32), .ref o316])
      refine iastore K S (i := 1) A_o316 ⟨by decide, rfl⟩ (show (1 : Nat) < 4 by decide) g_o316 d0_359 fun T h359_9 W B S => ?_
      replace E_o50 := E_o50.wr W
      replace H := H.keep (Keep.of_wr W) (ninS (by first | exact n_o50_o316 | exact Ne.symm n_o316_o50 | omega) nin0) (ninS (by first | exact n_p0_o316 | exact Ne.symm n_o316_p0 | omega) nin0) (ninS (by first | exact n_p1_o316 | exact Ne.symm n_o316_p1 | omega) nin0) (ninS (by first | exact n_p2_o316 | exact Ne.symm n_o316_p2 | omega) nin0) (ninS (by first | exact n_p3_o316 | exact Ne.symm n_o316_p3 | omega) nin0) (ninS (by first | exact n_p4_o316 | exact Ne.symm n_o316_p4 | omega) nin0) (ninS (by first | exact n_p5_o316 | exact Ne.symm n_o316_p5 | omega) nin0) (ninS (by first | exact n_p6_o316 | exact Ne.symm n_o316_p6 | omega) nin0) (ninS (by first | exact n_p7_o316 | exact Ne.symm n_o316_p7 | omega) nin0)
      clear W
      replace A_o316 : VA Z h359_9 o316 .int ([.int (fx m1 m2 r2 t2 (0 : Int32)), .int (fx m1 m2 r2 t2 (1 : Int32)), .int (0 : Int32), .int (0 : Int32)]) := B
      refine aload K S rfl rfl d0_360 ?_
      refine iconst K S (x := (2 : Int32)) rfl d0_362 ?_
      refine iconst K S (x := (2 : Int32)) rfl d0_363 ?_
      refine iload K S rfl d0_364 ?_
      refine iload K S rfl d0_366 ?_
      refine iload K S rfl d0_368 ?_
      refine iload K S rfl d0_370 ?_
      refine iload K S rfl d0_372 ?_
      refine iload K S rfl d0_374 ?_
      refine callS K S (W := 2) (m_xp l Z a0 hw n0 (2 : Int32) (fa1 m1) m2 (fsp0 m1 m2) (fsp1 m1 m2) (fid0 m1 m2 r2 t2) (fid1 m1 m2 r2 t2) h359_9 (Sle S) ) (hwi hw 47 rfl) (hwi hw 48 rfl) (hwi hw 49 rfl) (hwi hw 30 rfl) (by decide) (by decide) (by decide) (by decide) (by decide) rfl (argsL := [.int (2 : Int32), .int (fa1 m1), .int m2, .int (fsp0 m1 m2), .int (fsp1 m1 m2), .int (fid0 m1 m2 r2 t2), .int (fid1 m1 m2 r2 t2)]) rfl (lenOf pd_7 rfl) (rest := [.int (2 : Int32), .ref o316]) rfl (Nat.le_of_eq rfl) d0_376 (pu fun T S => ?_)
      show Wp n0 p e _ s below _ T (mkF m 379 #[.val (.int x0), .val (.int x1), .val (.int x2), .val (.int x3), .val (.int x4), .val (.int m1), .val (.int m2), .val (.int r1), .val (.int r2), .val (.int t1), .val (.int t2), .val (.ref o50), s12, s13, .val (.int (fa1 m1)), s15, s16, s17, .val (.int (fsp0 m1 m2)), .val (.int (fsp1 m1 m2)), .val (.int (fid0 m1 m2 r2 t2)), .val (.int (fid1 m1 m2 r2 t2)), .val (.int (feb m1 m2)), .val (.ref o316), .unset, .unset, .unset, .unset] [.int (fx m1 m2 r2 t2 (2 : Int32)), .int (2 : Int32), .ref o316])
      refine iastore K S (i := 2) A_o316 ⟨by decide, rfl⟩ (show (2 : Nat) < 4 by decide) g_o316 d0_379 fun T h379_10 W B S => ?_
      replace E_o50 := E_o50.wr W
      replace H := H.keep (Keep.of_wr W) (ninS (by first | exact n_o50_o316 | exact Ne.symm n_o316_o50 | omega) nin0) (ninS (by first | exact n_p0_o316 | exact Ne.symm n_o316_p0 | omega) nin0) (ninS (by first | exact n_p1_o316 | exact Ne.symm n_o316_p1 | omega) nin0) (ninS (by first | exact n_p2_o316 | exact Ne.symm n_o316_p2 | omega) nin0) (ninS (by first | exact n_p3_o316 | exact Ne.symm n_o316_p3 | omega) nin0) (ninS (by first | exact n_p4_o316 | exact Ne.symm n_o316_p4 | omega) nin0) (ninS (by first | exact n_p5_o316 | exact Ne.symm n_o316_p5 | omega) nin0) (ninS (by first | exact n_p6_o316 | exact Ne.symm n_o316_p6 | omega) nin0) (ninS (by first | exact n_p7_o316 | exact Ne.symm n_o316_p7 | omega) nin0)
      clear W
      replace A_o316 : VA Z h379_10 o316 .int ([.int (fx m1 m2 r2 t2 (0 : Int32)), .int (fx m1 m2 r2 t2 (1 : Int32)), .int (fx m1 m2 r2 t2 (2 : Int32)), .int (0 : Int32)]) := B
      refine aload K S rfl rfl d0_380 ?_
      refine iconst K S (x := (3 : Int32)) rfl d0_382 ?_
      refine iconst K S (x := (3 : Int32)) rfl d0_383 ?_
      refine iload K S rfl d0_384 ?_
      refine iload K S rfl d0_386 ?_
      refine iload K S rfl d0_388 ?_
      refine iload K S rfl d0_390 ?_
      refine iload K S rfl d0_392 ?_
      refine iload K S rfl d0_394 ?_
      refine callS K S (W := 2) (m_xp l Z a0 hw n0 (3 : Int32) (fa1 m1) m2 (fsp0 m1 m2) (fsp1 m1 m2) (fid0 m1 m2 r2 t2) (fid1 m1 m2 r2 t2) h379_10 (Sle S) ) (hwi hw 47 rfl) (hwi hw 48 rfl) (hwi hw 49 rfl) (hwi hw 30 rfl) (by decide) (by decide) (by decide) (by decide) (by decide) rfl (argsL := [.int (3 : Int32), .int (fa1 m1), .int m2, .int (fsp0 m1 m2), .int (fsp1 m1 m2), .int (fid0 m1 m2 r2 t2), .int (fid1 m1 m2 r2 t2)]) rfl (lenOf pd_7 rfl) (rest := [.int (3 : Int32), .ref o316]) rfl (Nat.le_of_eq rfl) d0_396 (pu fun T S => ?_)
      show Wp n0 p e _ s below _ T (mkF m 399 #[.val (.int x0), .val (.int x1), .val (.int x2), .val (.int x3), .val (.int x4), .val (.int m1), .val (.int m2), .val (.int r1), .val (.int r2), .val (.int t1), .val (.int t2), .val (.ref o50), s12, s13, .val (.int (fa1 m1)), s15, s16, s17, .val (.int (fsp0 m1 m2)), .val (.int (fsp1 m1 m2)), .val (.int (fid0 m1 m2 r2 t2)), .val (.int (fid1 m1 m2 r2 t2)), .val (.int (feb m1 m2)), .val (.ref o316), .unset, .unset, .unset, .unset] [.int (fx m1 m2 r2 t2 (3 : Int32)), .int (3 : Int32), .ref o316])
      refine iastore K S (i := 3) A_o316 ⟨by decide, rfl⟩ (show (3 : Nat) < 4 by decide) g_o316 d0_399 fun T h399_11 W B S => ?_
      replace E_o50 := E_o50.wr W
      replace H := H.keep (Keep.of_wr W) (ninS (by first | exact n_o50_o316 | exact Ne.symm n_o316_o50 | omega) nin0) (ninS (by first | exact n_p0_o316 | exact Ne.symm n_o316_p0 | omega) nin0) (ninS (by first | exact n_p1_o316 | exact Ne.symm n_o316_p1 | omega) nin0) (ninS (by first | exact n_p2_o316 | exact Ne.symm n_o316_p2 | omega) nin0) (ninS (by first | exact n_p3_o316 | exact Ne.symm n_o316_p3 | omega) nin0) (ninS (by first | exact n_p4_o316 | exact Ne.symm n_o316_p4 | omega) nin0) (ninS (by first | exact n_p5_o316 | exact Ne.symm n_o316_p5 | omega) nin0) (ninS (by first | exact n_p6_o316 | exact Ne.symm n_o316_p6 | omega) nin0) (ninS (by first | exact n_p7_o316 | exact Ne.symm n_o316_p7 | omega) nin0)
      clear W
      replace A_o316 : VA Z h399_11 o316 .int ([.int (fx m1 m2 r2 t2 (0 : Int32)), .int (fx m1 m2 r2 t2 (1 : Int32)), .int (fx m1 m2 r2 t2 (2 : Int32)), .int (fx m1 m2 r2 t2 (3 : Int32))]) := B
      refine iconst K S (x := (4 : Int32)) rfl d0_400 ?_
      refine newarr K S (cap := 4) (hwi hw 9 rfl) (by decide) (by decide) (by decide) (by decide) (by decide) d0_401 fun T h401_12 o401 z_o401 g_o401 X A_o401 S => ?_
      have n_o50_o401 : o50 ≠ o401 := by rw [z_o401]; exact Nat.ne_of_lt E_o50.lt
      have n_o316_o401 : o316 ≠ o401 := by rw [z_o401]; exact Nat.ne_of_lt A_o316.lt
      replace E_o50 := E_o50.ext X
      replace A_o316 := A_o316.ext X
      have n_o50_o401 : o50 ≠ o401 := by rw [z_o401]; exact Nat.ne_of_lt H.lts.1
      have n_p0_o401 : p0 ≠ o401 := by rw [z_o401]; exact Nat.ne_of_lt H.lts.2.1
      have n_p1_o401 : p1 ≠ o401 := by rw [z_o401]; exact Nat.ne_of_lt H.lts.2.2.1
      have n_p2_o401 : p2 ≠ o401 := by rw [z_o401]; exact Nat.ne_of_lt H.lts.2.2.2.1
      have n_p3_o401 : p3 ≠ o401 := by rw [z_o401]; exact Nat.ne_of_lt H.lts.2.2.2.2.1
      have n_p4_o401 : p4 ≠ o401 := by rw [z_o401]; exact Nat.ne_of_lt H.lts.2.2.2.2.2.1
      have n_p5_o401 : p5 ≠ o401 := by rw [z_o401]; exact Nat.ne_of_lt H.lts.2.2.2.2.2.2.1
      have n_p6_o401 : p6 ≠ o401 := by rw [z_o401]; exact Nat.ne_of_lt H.lts.2.2.2.2.2.2.2.1
      have n_p7_o401 : p7 ≠ o401 := by rw [z_o401]; exact Nat.ne_of_lt H.lts.2.2.2.2.2.2.2.2
      replace H := H.keep ((Keep.refl _ []).ext X) nin0 nin0 nin0 nin0 nin0 nin0 nin0 nin0 nin0
      replace A_o401 : VA Z h401_12 o401 .int ([.int (0 : Int32), .int (0 : Int32), .int (0 : Int32), .int (0 : Int32)]) := A_o401
      clear X
      refine astore K S (l' := #[.val (.int x0), .val (.int x1), .val (.int x2), .val (.int x3), .val (.int x4), .val (.int m1), .val (.int m2), .val (.int r1), .val (.int r2), .val (.int t1), .val (.int t2), .val (.ref o50), s12, s13, .val (.int (fa1 m1)), s15, s16, s17, .val (.int (fsp0 m1 m2)), .val (.int (fsp1 m1 m2)), .val (.int (fid0 m1 m2 r2 t2)), .val (.int (fid1 m1 m2 r2 t2)), .val (.int (feb m1 m2)), .val (.ref o316), .val (.ref o401), .unset, .unset, .unset]) rfl rfl d0_403 ?_
      refine aload K S rfl rfl d0_405 ?_
      refine aload K S rfl rfl d0_407 ?_
      refine iconst K S (x := (0 : Int32)) rfl d0_409 ?_
      refine iaload K S (v := .int (fx m1 m2 r2 t2 (0 : Int32))) (i := 0) A_o316 ⟨by decide, rfl⟩ rfl d0_410 ?_
      refine dup2 K S rfl rfl d0_411 ?_
      refine iaload K S (v := .int (lget [(0 : Int32), (0 : Int32), (0 : Int32), (0 : Int32)] (fx m1 m2 r2 t2 (0 : Int32)))) (i := (fx m1 m2 r2 t2 (0 : Int32)).toNatClampNeg) (show VA Z h401_12 o401 .int (List.map Value.int [(0 : Int32), (0 : Int32), (0 : Int32), (0 : Int32)]) from A_o401) (linb_ix (show linb [(0 : Int32), (0 : Int32), (0 : Int32), (0 : Int32)] (fx m1 m2 r2 t2 0) = true from own_zl0 m1 m2 r2 t2 z0)) (linb_get (show linb [(0 : Int32), (0 : Int32), (0 : Int32), (0 : Int32)] (fx m1 m2 r2 t2 0) = true from own_zl0 m1 m2 r2 t2 z0)) d0_412 ?_
      refine iconst K S (x := (1 : Int32)) rfl d0_413 ?_
      refine iadd K S d0_414 ?_
      refine iastore K S (i := (fx m1 m2 r2 t2 (0 : Int32)).toNatClampNeg) A_o401 (linb_ix (show linb [(0 : Int32), (0 : Int32), (0 : Int32), (0 : Int32)] (fx m1 m2 r2 t2 0) = true from own_zl0 m1 m2 r2 t2 z0)) (linb_ml (show linb [(0 : Int32), (0 : Int32), (0 : Int32), (0 : Int32)] (fx m1 m2 r2 t2 0) = true from own_zl0 m1 m2 r2 t2 z0)) g_o401 d0_415 fun T h415_13 W B S => ?_
      replace E_o50 := E_o50.wr W
      replace A_o316 := A_o316.other W (by first | exact n_o316_o401 | exact Ne.symm n_o401_o316 | omega)
      replace H := H.keep (Keep.of_wr W) (ninS (by first | exact n_o50_o401 | exact Ne.symm n_o401_o50 | omega) nin0) (ninS (by first | exact n_p0_o401 | exact Ne.symm n_o401_p0 | omega) nin0) (ninS (by first | exact n_p1_o401 | exact Ne.symm n_o401_p1 | omega) nin0) (ninS (by first | exact n_p2_o401 | exact Ne.symm n_o401_p2 | omega) nin0) (ninS (by first | exact n_p3_o401 | exact Ne.symm n_o401_p3 | omega) nin0) (ninS (by first | exact n_p4_o401 | exact Ne.symm n_o401_p4 | omega) nin0) (ninS (by first | exact n_p5_o401 | exact Ne.symm n_o401_p5 | omega) nin0) (ninS (by first | exact n_p6_o401 | exact Ne.symm n_o401_p6 | omega) nin0) (ninS (by first | exact n_p7_o401 | exact Ne.symm n_o401_p7 | omega) nin0)
      clear W
      replace A_o401 : VA Z h415_13 o401 .int ((finc [(0 : Int32), (0 : Int32), (0 : Int32), (0 : Int32)] (fx m1 m2 r2 t2 0)).map Value.int) := (by rw [finc, lset_map]; exact B)
      refine aload K S rfl rfl d0_416 ?_
      refine aload K S rfl rfl d0_418 ?_
      refine iconst K S (x := (1 : Int32)) rfl d0_420 ?_
      refine iaload K S (v := .int (fx m1 m2 r2 t2 (1 : Int32))) (i := 1) A_o316 ⟨by decide, rfl⟩ rfl d0_421 ?_
      refine dup2 K S rfl rfl d0_422 ?_
      refine iaload K S (v := .int (lget (finc [(0 : Int32), (0 : Int32), (0 : Int32), (0 : Int32)] (fx m1 m2 r2 t2 0)) (fx m1 m2 r2 t2 (1 : Int32)))) (i := (fx m1 m2 r2 t2 (1 : Int32)).toNatClampNeg) (show VA Z h415_13 o401 .int (List.map Value.int (finc [(0 : Int32), (0 : Int32), (0 : Int32), (0 : Int32)] (fx m1 m2 r2 t2 0))) from A_o401) (linb_ix (show linb (finc [(0 : Int32), (0 : Int32), (0 : Int32), (0 : Int32)] (fx m1 m2 r2 t2 0)) (fx m1 m2 r2 t2 1) = true from own_zl1 m1 m2 r2 t2 z1)) (linb_get (show linb (finc [(0 : Int32), (0 : Int32), (0 : Int32), (0 : Int32)] (fx m1 m2 r2 t2 0)) (fx m1 m2 r2 t2 1) = true from own_zl1 m1 m2 r2 t2 z1)) d0_423 ?_
      refine iconst K S (x := (1 : Int32)) rfl d0_424 ?_
      refine iadd K S d0_425 ?_
      refine iastore K S (i := (fx m1 m2 r2 t2 (1 : Int32)).toNatClampNeg) A_o401 (linb_ix (show linb (finc [(0 : Int32), (0 : Int32), (0 : Int32), (0 : Int32)] (fx m1 m2 r2 t2 0)) (fx m1 m2 r2 t2 1) = true from own_zl1 m1 m2 r2 t2 z1)) (linb_ml (show linb (finc [(0 : Int32), (0 : Int32), (0 : Int32), (0 : Int32)] (fx m1 m2 r2 t2 0)) (fx m1 m2 r2 t2 1) = true from own_zl1 m1 m2 r2 t2 z1)) g_o401 d0_426 fun T h426_14 W B S => ?_
      replace E_o50 := E_o50.wr W
      replace A_o316 := A_o316.other W (by first | exact n_o316_o401 | exact Ne.symm n_o401_o316 | omega)
      replace H := H.keep (Keep.of_wr W) (ninS (by first | exact n_o50_o401 | exact Ne.symm n_o401_o50 | omega) nin0) (ninS (by first | exact n_p0_o401 | exact Ne.symm n_o401_p0 | omega) nin0) (ninS (by first | exact n_p1_o401 | exact Ne.symm n_o401_p1 | omega) nin0) (ninS (by first | exact n_p2_o401 | exact Ne.symm n_o401_p2 | omega) nin0) (ninS (by first | exact n_p3_o401 | exact Ne.symm n_o401_p3 | omega) nin0) (ninS (by first | exact n_p4_o401 | exact Ne.symm n_o401_p4 | omega) nin0) (ninS (by first | exact n_p5_o401 | exact Ne.symm n_o401_p5 | omega) nin0) (ninS (by first | exact n_p6_o401 | exact Ne.symm n_o401_p6 | omega) nin0) (ninS (by first | exact n_p7_o401 | exact Ne.symm n_o401_p7 | omega) nin0)
      clear W
      replace A_o401 : VA Z h426_14 o401 .int ((finc (finc [(0 : Int32), (0 : Int32), (0 : Int32), (0 : Int32)] (fx m1 m2 r2 t2 0)) (fx m1 m2 r2 t2 1)).map Value.int) := (by rw [finc, lset_map]; exact B)
      refine aload K S rfl rfl d0_427 ?_
      refine aload K S rfl rfl d0_429 ?_
      refine iconst K S (x := (2 : Int32)) rfl d0_431 ?_
      refine iaload K S (v := .int (fx m1 m2 r2 t2 (2 : Int32))) (i := 2) A_o316 ⟨by decide, rfl⟩ rfl d0_432 ?_
      refine dup2 K S rfl rfl d0_433 ?_
      refine iaload K S (v := .int (lget (finc (finc [(0 : Int32), (0 : Int32), (0 : Int32), (0 : Int32)] (fx m1 m2 r2 t2 0)) (fx m1 m2 r2 t2 1)) (fx m1 m2 r2 t2 (2 : Int32)))) (i := (fx m1 m2 r2 t2 (2 : Int32)).toNatClampNeg) (show VA Z h426_14 o401 .int (List.map Value.int (finc (finc [(0 : Int32), (0 : Int32), (0 : Int32), (0 : Int32)] (fx m1 m2 r2 t2 0)) (fx m1 m2 r2 t2 1))) from A_o401) (linb_ix (show linb (finc (finc [(0 : Int32), (0 : Int32), (0 : Int32), (0 : Int32)] (fx m1 m2 r2 t2 0)) (fx m1 m2 r2 t2 1)) (fx m1 m2 r2 t2 2) = true from own_zl2 m1 m2 r2 t2 z2)) (linb_get (show linb (finc (finc [(0 : Int32), (0 : Int32), (0 : Int32), (0 : Int32)] (fx m1 m2 r2 t2 0)) (fx m1 m2 r2 t2 1)) (fx m1 m2 r2 t2 2) = true from own_zl2 m1 m2 r2 t2 z2)) d0_434 ?_
      refine iconst K S (x := (1 : Int32)) rfl d0_435 ?_
      refine iadd K S d0_436 ?_
      refine iastore K S (i := (fx m1 m2 r2 t2 (2 : Int32)).toNatClampNeg) A_o401 (linb_ix (show linb (finc (finc [(0 : Int32), (0 : Int32), (0 : Int32), (0 : Int32)] (fx m1 m2 r2 t2 0)) (fx m1 m2 r2 t2 1)) (fx m1 m2 r2 t2 2) = true from own_zl2 m1 m2 r2 t2 z2)) (linb_ml (show linb (finc (finc [(0 : Int32), (0 : Int32), (0 : Int32), (0 : Int32)] (fx m1 m2 r2 t2 0)) (fx m1 m2 r2 t2 1)) (fx m1 m2 r2 t2 2) = true from own_zl2 m1 m2 r2 t2 z2)) g_o401 d0_437 fun T h437_15 W B S => ?_
      replace E_o50 := E_o50.wr W
      replace A_o316 := A_o316.other W (by first | exact n_o316_o401 | exact Ne.symm n_o401_o316 | omega)
      replace H := H.keep (Keep.of_wr W) (ninS (by first | exact n_o50_o401 | exact Ne.symm n_o401_o50 | omega) nin0) (ninS (by first | exact n_p0_o401 | exact Ne.symm n_o401_p0 | omega) nin0) (ninS (by first | exact n_p1_o401 | exact Ne.symm n_o401_p1 | omega) nin0) (ninS (by first | exact n_p2_o401 | exact Ne.symm n_o401_p2 | omega) nin0) (ninS (by first | exact n_p3_o401 | exact Ne.symm n_o401_p3 | omega) nin0) (ninS (by first | exact n_p4_o401 | exact Ne.symm n_o401_p4 | omega) nin0) (ninS (by first | exact n_p5_o401 | exact Ne.symm n_o401_p5 | omega) nin0) (ninS (by first | exact n_p6_o401 | exact Ne.symm n_o401_p6 | omega) nin0) (ninS (by first | exact n_p7_o401 | exact Ne.symm n_o401_p7 | omega) nin0)
      clear W
      replace A_o401 : VA Z h437_15 o401 .int ((finc (finc (finc [(0 : Int32), (0 : Int32), (0 : Int32), (0 : Int32)] (fx m1 m2 r2 t2 0)) (fx m1 m2 r2 t2 1)) (fx m1 m2 r2 t2 2)).map Value.int) := (by rw [finc, lset_map]; exact B)
      refine aload K S rfl rfl d0_438 ?_
      refine aload K S rfl rfl d0_440 ?_
      refine iconst K S (x := (3 : Int32)) rfl d0_442 ?_
      refine iaload K S (v := .int (fx m1 m2 r2 t2 (3 : Int32))) (i := 3) A_o316 ⟨by decide, rfl⟩ rfl d0_443 ?_
      refine dup2 K S rfl rfl d0_444 ?_
      refine iaload K S (v := .int (lget (finc (finc (finc [(0 : Int32), (0 : Int32), (0 : Int32), (0 : Int32)] (fx m1 m2 r2 t2 0)) (fx m1 m2 r2 t2 1)) (fx m1 m2 r2 t2 2)) (fx m1 m2 r2 t2 (3 : Int32)))) (i := (fx m1 m2 r2 t2 (3 : Int32)).toNatClampNeg) (show VA Z h437_15 o401 .int (List.map Value.int (finc (finc (finc [(0 : Int32), (0 : Int32), (0 : Int32), (0 : Int32)] (fx m1 m2 r2 t2 0)) (fx m1 m2 r2 t2 1)) (fx m1 m2 r2 t2 2))) from A_o401) (linb_ix (show linb (finc (finc (finc [(0 : Int32), (0 : Int32), (0 : Int32), (0 : Int32)] (fx m1 m2 r2 t2 0)) (fx m1 m2 r2 t2 1)) (fx m1 m2 r2 t2 2)) (fx m1 m2 r2 t2 3) = true from own_zl3 m1 m2 r2 t2 z3)) (linb_get (show linb (finc (finc (finc [(0 : Int32), (0 : Int32), (0 : Int32), (0 : Int32)] (fx m1 m2 r2 t2 0)) (fx m1 m2 r2 t2 1)) (fx m1 m2 r2 t2 2)) (fx m1 m2 r2 t2 3) = true from own_zl3 m1 m2 r2 t2 z3)) d0_445 ?_
      refine iconst K S (x := (1 : Int32)) rfl d0_446 ?_
      refine iadd K S d0_447 ?_
      refine iastore K S (i := (fx m1 m2 r2 t2 (3 : Int32)).toNatClampNeg) A_o401 (linb_ix (show linb (finc (finc (finc [(0 : Int32), (0 : Int32), (0 : Int32), (0 : Int32)] (fx m1 m2 r2 t2 0)) (fx m1 m2 r2 t2 1)) (fx m1 m2 r2 t2 2)) (fx m1 m2 r2 t2 3) = true from own_zl3 m1 m2 r2 t2 z3)) (linb_ml (show linb (finc (finc (finc [(0 : Int32), (0 : Int32), (0 : Int32), (0 : Int32)] (fx m1 m2 r2 t2 0)) (fx m1 m2 r2 t2 1)) (fx m1 m2 r2 t2 2)) (fx m1 m2 r2 t2 3) = true from own_zl3 m1 m2 r2 t2 z3)) g_o401 d0_448 fun T h448_16 W B S => ?_
      replace E_o50 := E_o50.wr W
      replace A_o316 := A_o316.other W (by first | exact n_o316_o401 | exact Ne.symm n_o401_o316 | omega)
      replace H := H.keep (Keep.of_wr W) (ninS (by first | exact n_o50_o401 | exact Ne.symm n_o401_o50 | omega) nin0) (ninS (by first | exact n_p0_o401 | exact Ne.symm n_o401_p0 | omega) nin0) (ninS (by first | exact n_p1_o401 | exact Ne.symm n_o401_p1 | omega) nin0) (ninS (by first | exact n_p2_o401 | exact Ne.symm n_o401_p2 | omega) nin0) (ninS (by first | exact n_p3_o401 | exact Ne.symm n_o401_p3 | omega) nin0) (ninS (by first | exact n_p4_o401 | exact Ne.symm n_o401_p4 | omega) nin0) (ninS (by first | exact n_p5_o401 | exact Ne.symm n_o401_p5 | omega) nin0) (ninS (by first | exact n_p6_o401 | exact Ne.symm n_o401_p6 | omega) nin0) (ninS (by first | exact n_p7_o401 | exact Ne.symm n_o401_p7 | omega) nin0)
      clear W
      replace A_o401 : VA Z h448_16 o401 .int ((finc (finc (finc (finc [(0 : Int32), (0 : Int32), (0 : Int32), (0 : Int32)] (fx m1 m2 r2 t2 0)) (fx m1 m2 r2 t2 1)) (fx m1 m2 r2 t2 2)) (fx m1 m2 r2 t2 3)).map Value.int) := (by rw [finc, lset_map]; exact B)
      refine iconst K S (x := (4 : Int32)) rfl d0_449 ?_
      refine newarr K S (cap := 4) (hwi hw 9 rfl) (by decide) (by decide) (by decide) (by decide) (by decide) d0_450 fun T h450_17 o450 z_o450 g_o450 X A_o450 S => ?_
      have n_o50_o450 : o50 ≠ o450 := by rw [z_o450]; exact Nat.ne_of_lt E_o50.lt
      have n_o316_o450 : o316 ≠ o450 := by rw [z_o450]; exact Nat.ne_of_lt A_o316.lt
      have n_o401_o450 : o401 ≠ o450 := by rw [z_o450]; exact Nat.ne_of_lt A_o401.lt
      replace E_o50 := E_o50.ext X
      replace A_o316 := A_o316.ext X
      replace A_o401 := A_o401.ext X
      have n_o50_o450 : o50 ≠ o450 := by rw [z_o450]; exact Nat.ne_of_lt H.lts.1
      have n_p0_o450 : p0 ≠ o450 := by rw [z_o450]; exact Nat.ne_of_lt H.lts.2.1
      have n_p1_o450 : p1 ≠ o450 := by rw [z_o450]; exact Nat.ne_of_lt H.lts.2.2.1
      have n_p2_o450 : p2 ≠ o450 := by rw [z_o450]; exact Nat.ne_of_lt H.lts.2.2.2.1
      have n_p3_o450 : p3 ≠ o450 := by rw [z_o450]; exact Nat.ne_of_lt H.lts.2.2.2.2.1
      have n_p4_o450 : p4 ≠ o450 := by rw [z_o450]; exact Nat.ne_of_lt H.lts.2.2.2.2.2.1
      have n_p5_o450 : p5 ≠ o450 := by rw [z_o450]; exact Nat.ne_of_lt H.lts.2.2.2.2.2.2.1
      have n_p6_o450 : p6 ≠ o450 := by rw [z_o450]; exact Nat.ne_of_lt H.lts.2.2.2.2.2.2.2.1
      have n_p7_o450 : p7 ≠ o450 := by rw [z_o450]; exact Nat.ne_of_lt H.lts.2.2.2.2.2.2.2.2
      replace H := H.keep ((Keep.refl _ []).ext X) nin0 nin0 nin0 nin0 nin0 nin0 nin0 nin0 nin0
      replace A_o450 : VA Z h450_17 o450 .int ([.int (0 : Int32), .int (0 : Int32), .int (0 : Int32), .int (0 : Int32)]) := A_o450
      clear X
      refine astore K S (l' := #[.val (.int x0), .val (.int x1), .val (.int x2), .val (.int x3), .val (.int x4), .val (.int m1), .val (.int m2), .val (.int r1), .val (.int r2), .val (.int t1), .val (.int t2), .val (.ref o50), s12, s13, .val (.int (fa1 m1)), s15, s16, s17, .val (.int (fsp0 m1 m2)), .val (.int (fsp1 m1 m2)), .val (.int (fid0 m1 m2 r2 t2)), .val (.int (fid1 m1 m2 r2 t2)), .val (.int (feb m1 m2)), .val (.ref o316), .val (.ref o401), .val (.ref o450), .unset, .unset]) rfl rfl d0_452 ?_
      refine iload K S rfl d0_454 ?_
      refine ific_eq K S d0_456 (fun c456 => ?_) (fun c456 => ?_)
      · replace A_o450 : VA Z h450_17 o450 .int ((fos m1 m2 r2 t2).map Value.int) := by rw [fos, if_pos c456]; exact A_o450
        replace A_o401 : VA Z h450_17 o401 .int ((fzs m1 m2 r2 t2).map Value.int) := A_o401
        refine aload K S rfl rfl d0_465 ?_
        refine callV K S (W := 0) (m_blocks l Z a0 hw n0 o50 p0 p1 p2 p3 p4 p5 p6 p7 L4 h450_17 (Sle S) H) E_o50 (hwi hw 50 rfl) (hwi hw 51 rfl) (hwi hw 53 rfl) (hwi hw 52 rfl) (hwi hw 54 rfl) (hwi hw 2 rfl) (by decide) (by decide) (by decide) (by decide) (by decide) rfl (argsL := []) rfl (lenOf pd_8 rfl) (rest := []) rfl (Nat.le_of_eq rfl) d0_467 (pu fun T S => ?_)
        show Wp n0 p e _ s below _ T (mkF m 470 #[.val (.int x0), .val (.int x1), .val (.int x2), .val (.int x3), .val (.int x4), .val (.int m1), .val (.int m2), .val (.int r1), .val (.int r2), .val (.int t1), .val (.int t2), .val (.ref o50), s12, s13, .val (.int (fa1 m1)), s15, s16, s17, .val (.int (fsp0 m1 m2)), .val (.int (fsp1 m1 m2)), .val (.int (fid0 m1 m2 r2 t2)), .val (.int (fid1 m1 m2 r2 t2)), .val (.int (feb m1 m2)), .val (.ref o316), .val (.ref o401), .val (.ref o450), .unset, .unset] [.int (L4.2.1)])
        refine iload K S rfl d0_470 ?_
        refine icmp_ne K S d0_472 (fun c472 => ?_) (fun c472 => ?_)
        · exact absurd y0 c472
        refine iconst K S (x := (1 : Int32)) rfl d0_475 ?_
        refine goto K S d0_476 ?_
        refine istore K S (l' := #[.val (.int x0), .val (.int x1), .val (.int x2), .val (.int x3), .val (.int x4), .val (.int m1), .val (.int m2), .val (.int r1), .val (.int r2), .val (.int t1), .val (.int t2), .val (.ref o50), s12, s13, .val (.int (fa1 m1)), s15, s16, s17, .val (.int (fsp0 m1 m2)), .val (.int (fsp1 m1 m2)), .val (.int (fid0 m1 m2 r2 t2)), .val (.int (fid1 m1 m2 r2 t2)), .val (.int (feb m1 m2)), .val (.ref o316), .val (.ref o401), .val (.ref o450), .val (.int (1 : Int32)), .unset]) rfl d0_480 ?_
        refine iload K S rfl d0_482 ?_
        refine aload K S rfl rfl d0_484 ?_
        refine iconst K S (x := (0 : Int32)) rfl d0_486 ?_
        refine aload K S rfl rfl d0_487 ?_
        refine callS K S (W := 1) (m_cb l Z a0 hw n0 o50 p0 p1 p2 p3 p4 p5 p6 p7 (0 : Int32) o316 [fx m1 m2 r2 t2 0, fx m1 m2 r2 t2 1, fx m1 m2 r2 t2 2, fx m1 m2 r2 t2 3] L4 h450_17 (Sle S) H (show VA Z h450_17 o316 .int (List.map Value.int [fx m1 m2 r2 t2 0, fx m1 m2 r2 t2 1, fx m1 m2 r2 t2 2, fx m1 m2 r2 t2 3]) from A_o316) (y1 _ (by decide)).1 (own_l4 _ (by decide)) (y1 _ (by decide)).2.1) (hwi hw 55 rfl) (hwi hw 56 rfl) (hwi hw 57 rfl) (hwi hw 30 rfl) (by decide) (by decide) (by decide) (by decide) (by decide) rfl (argsL := [.ref o50, .int (0 : Int32), .ref o316]) rfl (lenOf pd_9 rfl) (rest := [.int (1 : Int32)]) rfl (Nat.le_of_eq rfl) d0_489 (pu fun T S => ?_)
        show Wp n0 p e _ s below _ T (mkF m 492 #[.val (.int x0), .val (.int x1), .val (.int x2), .val (.int x3), .val (.int x4), .val (.int m1), .val (.int m2), .val (.int r1), .val (.int r2), .val (.int t1), .val (.int t2), .val (.ref o50), s12, s13, .val (.int (fa1 m1)), s15, s16, s17, .val (.int (fsp0 m1 m2)), .val (.int (fsp1 m1 m2)), .val (.int (fid0 m1 m2 r2 t2)), .val (.int (fid1 m1 m2 r2 t2)), .val (.int (feb m1 m2)), .val (.ref o316), .val (.ref o401), .val (.ref o450), .val (.int (1 : Int32)), .unset] [.int (1 : Int32), .int (1 : Int32)])
        refine iand K S d0_492 ?_
        show Wp n0 p e _ s below _ T (mkF m 493 #[.val (.int x0), .val (.int x1), .val (.int x2), .val (.int x3), .val (.int x4), .val (.int m1), .val (.int m2), .val (.int r1), .val (.int r2), .val (.int t1), .val (.int t2), .val (.ref o50), s12, s13, .val (.int (fa1 m1)), s15, s16, s17, .val (.int (fsp0 m1 m2)), .val (.int (fsp1 m1 m2)), .val (.int (fid0 m1 m2 r2 t2)), .val (.int (fid1 m1 m2 r2 t2)), .val (.int (feb m1 m2)), .val (.ref o316), .val (.ref o401), .val (.ref o450), .val (.int (1 : Int32)), .unset] [.int (1 : Int32)])
        refine istore K S (l' := #[.val (.int x0), .val (.int x1), .val (.int x2), .val (.int x3), .val (.int x4), .val (.int m1), .val (.int m2), .val (.int r1), .val (.int r2), .val (.int t1), .val (.int t2), .val (.ref o50), s12, s13, .val (.int (fa1 m1)), s15, s16, s17, .val (.int (fsp0 m1 m2)), .val (.int (fsp1 m1 m2)), .val (.int (fid0 m1 m2 r2 t2)), .val (.int (fid1 m1 m2 r2 t2)), .val (.int (feb m1 m2)), .val (.ref o316), .val (.ref o401), .val (.ref o450), .val (.int (1 : Int32)), .unset]) rfl d0_493 ?_
        refine iload K S rfl d0_495 ?_
        refine aload K S rfl rfl d0_497 ?_
        refine iconst K S (x := (1 : Int32)) rfl d0_499 ?_
        refine aload K S rfl rfl d0_500 ?_
        refine callS K S (W := 1) (m_cb l Z a0 hw n0 o50 p0 p1 p2 p3 p4 p5 p6 p7 (1 : Int32) o316 [fx m1 m2 r2 t2 0, fx m1 m2 r2 t2 1, fx m1 m2 r2 t2 2, fx m1 m2 r2 t2 3] L4 h450_17 (Sle S) H (show VA Z h450_17 o316 .int (List.map Value.int [fx m1 m2 r2 t2 0, fx m1 m2 r2 t2 1, fx m1 m2 r2 t2 2, fx m1 m2 r2 t2 3]) from A_o316) (y1 _ (by decide)).1 (own_l4 _ (by decide)) (y1 _ (by decide)).2.1) (hwi hw 55 rfl) (hwi hw 56 rfl) (hwi hw 57 rfl) (hwi hw 30 rfl) (by decide) (by decide) (by decide) (by decide) (by decide) rfl (argsL := [.ref o50, .int (1 : Int32), .ref o316]) rfl (lenOf pd_9 rfl) (rest := [.int (1 : Int32)]) rfl (Nat.le_of_eq rfl) d0_502 (pu fun T S => ?_)
        show Wp n0 p e _ s below _ T (mkF m 505 #[.val (.int x0), .val (.int x1), .val (.int x2), .val (.int x3), .val (.int x4), .val (.int m1), .val (.int m2), .val (.int r1), .val (.int r2), .val (.int t1), .val (.int t2), .val (.ref o50), s12, s13, .val (.int (fa1 m1)), s15, s16, s17, .val (.int (fsp0 m1 m2)), .val (.int (fsp1 m1 m2)), .val (.int (fid0 m1 m2 r2 t2)), .val (.int (fid1 m1 m2 r2 t2)), .val (.int (feb m1 m2)), .val (.ref o316), .val (.ref o401), .val (.ref o450), .val (.int (1 : Int32)), .unset] [.int (1 : Int32), .int (1 : Int32)])
        refine iand K S d0_505 ?_
        show Wp n0 p e _ s below _ T (mkF m 506 #[.val (.int x0), .val (.int x1), .val (.int x2), .val (.int x3), .val (.int x4), .val (.int m1), .val (.int m2), .val (.int r1), .val (.int r2), .val (.int t1), .val (.int t2), .val (.ref o50), s12, s13, .val (.int (fa1 m1)), s15, s16, s17, .val (.int (fsp0 m1 m2)), .val (.int (fsp1 m1 m2)), .val (.int (fid0 m1 m2 r2 t2)), .val (.int (fid1 m1 m2 r2 t2)), .val (.int (feb m1 m2)), .val (.ref o316), .val (.ref o401), .val (.ref o450), .val (.int (1 : Int32)), .unset] [.int (1 : Int32)])
        refine istore K S (l' := #[.val (.int x0), .val (.int x1), .val (.int x2), .val (.int x3), .val (.int x4), .val (.int m1), .val (.int m2), .val (.int r1), .val (.int r2), .val (.int t1), .val (.int t2), .val (.ref o50), s12, s13, .val (.int (fa1 m1)), s15, s16, s17, .val (.int (fsp0 m1 m2)), .val (.int (fsp1 m1 m2)), .val (.int (fid0 m1 m2 r2 t2)), .val (.int (fid1 m1 m2 r2 t2)), .val (.int (feb m1 m2)), .val (.ref o316), .val (.ref o401), .val (.ref o450), .val (.int (1 : Int32)), .unset]) rfl d0_506 ?_
        refine iload K S rfl d0_508 ?_
        refine aload K S rfl rfl d0_510 ?_
        refine iconst K S (x := (2 : Int32)) rfl d0_512 ?_
        refine aload K S rfl rfl d0_513 ?_
        refine callS K S (W := 1) (m_cb l Z a0 hw n0 o50 p0 p1 p2 p3 p4 p5 p6 p7 (2 : Int32) o316 [fx m1 m2 r2 t2 0, fx m1 m2 r2 t2 1, fx m1 m2 r2 t2 2, fx m1 m2 r2 t2 3] L4 h450_17 (Sle S) H (show VA Z h450_17 o316 .int (List.map Value.int [fx m1 m2 r2 t2 0, fx m1 m2 r2 t2 1, fx m1 m2 r2 t2 2, fx m1 m2 r2 t2 3]) from A_o316) (y1 _ (by decide)).1 (own_l4 _ (by decide)) (y1 _ (by decide)).2.1) (hwi hw 55 rfl) (hwi hw 56 rfl) (hwi hw 57 rfl) (hwi hw 30 rfl) (by decide) (by decide) (by decide) (by decide) (by decide) rfl (argsL := [.ref o50, .int (2 : Int32), .ref o316]) rfl (lenOf pd_9 rfl) (rest := [.int (1 : Int32)]) rfl (Nat.le_of_eq rfl) d0_515 (pu fun T S => ?_)
        show Wp n0 p e _ s below _ T (mkF m 518 #[.val (.int x0), .val (.int x1), .val (.int x2), .val (.int x3), .val (.int x4), .val (.int m1), .val (.int m2), .val (.int r1), .val (.int r2), .val (.int t1), .val (.int t2), .val (.ref o50), s12, s13, .val (.int (fa1 m1)), s15, s16, s17, .val (.int (fsp0 m1 m2)), .val (.int (fsp1 m1 m2)), .val (.int (fid0 m1 m2 r2 t2)), .val (.int (fid1 m1 m2 r2 t2)), .val (.int (feb m1 m2)), .val (.ref o316), .val (.ref o401), .val (.ref o450), .val (.int (1 : Int32)), .unset] [.int (1 : Int32), .int (1 : Int32)])
        refine iand K S d0_518 ?_
        show Wp n0 p e _ s below _ T (mkF m 519 #[.val (.int x0), .val (.int x1), .val (.int x2), .val (.int x3), .val (.int x4), .val (.int m1), .val (.int m2), .val (.int r1), .val (.int r2), .val (.int t1), .val (.int t2), .val (.ref o50), s12, s13, .val (.int (fa1 m1)), s15, s16, s17, .val (.int (fsp0 m1 m2)), .val (.int (fsp1 m1 m2)), .val (.int (fid0 m1 m2 r2 t2)), .val (.int (fid1 m1 m2 r2 t2)), .val (.int (feb m1 m2)), .val (.ref o316), .val (.ref o401), .val (.ref o450), .val (.int (1 : Int32)), .unset] [.int (1 : Int32)])
        refine istore K S (l' := #[.val (.int x0), .val (.int x1), .val (.int x2), .val (.int x3), .val (.int x4), .val (.int m1), .val (.int m2), .val (.int r1), .val (.int r2), .val (.int t1), .val (.int t2), .val (.ref o50), s12, s13, .val (.int (fa1 m1)), s15, s16, s17, .val (.int (fsp0 m1 m2)), .val (.int (fsp1 m1 m2)), .val (.int (fid0 m1 m2 r2 t2)), .val (.int (fid1 m1 m2 r2 t2)), .val (.int (feb m1 m2)), .val (.ref o316), .val (.ref o401), .val (.ref o450), .val (.int (1 : Int32)), .unset]) rfl d0_519 ?_
        refine iload K S rfl d0_521 ?_
        refine aload K S rfl rfl d0_523 ?_
        refine iconst K S (x := (3 : Int32)) rfl d0_525 ?_
        refine aload K S rfl rfl d0_526 ?_
        refine callS K S (W := 1) (m_cb l Z a0 hw n0 o50 p0 p1 p2 p3 p4 p5 p6 p7 (3 : Int32) o316 [fx m1 m2 r2 t2 0, fx m1 m2 r2 t2 1, fx m1 m2 r2 t2 2, fx m1 m2 r2 t2 3] L4 h450_17 (Sle S) H (show VA Z h450_17 o316 .int (List.map Value.int [fx m1 m2 r2 t2 0, fx m1 m2 r2 t2 1, fx m1 m2 r2 t2 2, fx m1 m2 r2 t2 3]) from A_o316) (y1 _ (by decide)).1 (own_l4 _ (by decide)) (y1 _ (by decide)).2.1) (hwi hw 55 rfl) (hwi hw 56 rfl) (hwi hw 57 rfl) (hwi hw 30 rfl) (by decide) (by decide) (by decide) (by decide) (by decide) rfl (argsL := [.ref o50, .int (3 : Int32), .ref o316]) rfl (lenOf pd_9 rfl) (rest := [.int (1 : Int32)]) rfl (Nat.le_of_eq rfl) d0_528 (pu fun T S => ?_)
        show Wp n0 p e _ s below _ T (mkF m 531 #[.val (.int x0), .val (.int x1), .val (.int x2), .val (.int x3), .val (.int x4), .val (.int m1), .val (.int m2), .val (.int r1), .val (.int r2), .val (.int t1), .val (.int t2), .val (.ref o50), s12, s13, .val (.int (fa1 m1)), s15, s16, s17, .val (.int (fsp0 m1 m2)), .val (.int (fsp1 m1 m2)), .val (.int (fid0 m1 m2 r2 t2)), .val (.int (fid1 m1 m2 r2 t2)), .val (.int (feb m1 m2)), .val (.ref o316), .val (.ref o401), .val (.ref o450), .val (.int (1 : Int32)), .unset] [.int (1 : Int32), .int (1 : Int32)])
        refine iand K S d0_531 ?_
        show Wp n0 p e _ s below _ T (mkF m 532 #[.val (.int x0), .val (.int x1), .val (.int x2), .val (.int x3), .val (.int x4), .val (.int m1), .val (.int m2), .val (.int r1), .val (.int r2), .val (.int t1), .val (.int t2), .val (.ref o50), s12, s13, .val (.int (fa1 m1)), s15, s16, s17, .val (.int (fsp0 m1 m2)), .val (.int (fsp1 m1 m2)), .val (.int (fid0 m1 m2 r2 t2)), .val (.int (fid1 m1 m2 r2 t2)), .val (.int (feb m1 m2)), .val (.ref o316), .val (.ref o401), .val (.ref o450), .val (.int (1 : Int32)), .unset] [.int (1 : Int32)])
        refine istore K S (l' := #[.val (.int x0), .val (.int x1), .val (.int x2), .val (.int x3), .val (.int x4), .val (.int m1), .val (.int m2), .val (.int r1), .val (.int r2), .val (.int t1), .val (.int t2), .val (.ref o50), s12, s13, .val (.int (fa1 m1)), s15, s16, s17, .val (.int (fsp0 m1 m2)), .val (.int (fsp1 m1 m2)), .val (.int (fid0 m1 m2 r2 t2)), .val (.int (fid1 m1 m2 r2 t2)), .val (.int (feb m1 m2)), .val (.ref o316), .val (.ref o401), .val (.ref o450), .val (.int (1 : Int32)), .unset]) rfl d0_532 ?_
        refine iload K S rfl d0_534 ?_
        refine aload K S rfl rfl d0_536 ?_
        refine iconst K S (x := (1 : Int32)) rfl d0_538 ?_
        refine iload K S rfl d0_539 ?_
        refine aload K S rfl rfl d0_541 ?_
        refine callS K S (W := 1) (m_co l Z a0 hw n0 o50 p0 p1 p2 p3 p4 p5 p6 p7 (1 : Int32) (feb m1 m2) o450 (fos m1 m2 r2 t2) L4 h450_17 (Sle S) H A_o450 (own_fosl _ (by decide)) (y2 _ (by decide))) (hwi hw 63 rfl) (hwi hw 64 rfl) (hwi hw 65 rfl) (hwi hw 30 rfl) (by decide) (by decide) (by decide) (by decide) (by decide) rfl (argsL := [.ref o50, .int (1 : Int32), .int (feb m1 m2), .ref o450]) rfl (lenOf pd_11 rfl) (rest := [.int (1 : Int32)]) rfl (Nat.le_of_eq rfl) d0_543 (pu fun T S => ?_)
        show Wp n0 p e _ s below _ T (mkF m 546 #[.val (.int x0), .val (.int x1), .val (.int x2), .val (.int x3), .val (.int x4), .val (.int m1), .val (.int m2), .val (.int r1), .val (.int r2), .val (.int t1), .val (.int t2), .val (.ref o50), s12, s13, .val (.int (fa1 m1)), s15, s16, s17, .val (.int (fsp0 m1 m2)), .val (.int (fsp1 m1 m2)), .val (.int (fid0 m1 m2 r2 t2)), .val (.int (fid1 m1 m2 r2 t2)), .val (.int (feb m1 m2)), .val (.ref o316), .val (.ref o401), .val (.ref o450), .val (.int (1 : Int32)), .unset] [.int (1 : Int32), .int (1 : Int32)])
        refine iand K S d0_546 ?_
        show Wp n0 p e _ s below _ T (mkF m 547 #[.val (.int x0), .val (.int x1), .val (.int x2), .val (.int x3), .val (.int x4), .val (.int m1), .val (.int m2), .val (.int r1), .val (.int r2), .val (.int t1), .val (.int t2), .val (.ref o50), s12, s13, .val (.int (fa1 m1)), s15, s16, s17, .val (.int (fsp0 m1 m2)), .val (.int (fsp1 m1 m2)), .val (.int (fid0 m1 m2 r2 t2)), .val (.int (fid1 m1 m2 r2 t2)), .val (.int (feb m1 m2)), .val (.ref o316), .val (.ref o401), .val (.ref o450), .val (.int (1 : Int32)), .unset] [.int (1 : Int32)])
        refine istore K S (l' := #[.val (.int x0), .val (.int x1), .val (.int x2), .val (.int x3), .val (.int x4), .val (.int m1), .val (.int m2), .val (.int r1), .val (.int r2), .val (.int t1), .val (.int t2), .val (.ref o50), s12, s13, .val (.int (fa1 m1)), s15, s16, s17, .val (.int (fsp0 m1 m2)), .val (.int (fsp1 m1 m2)), .val (.int (fid0 m1 m2 r2 t2)), .val (.int (fid1 m1 m2 r2 t2)), .val (.int (feb m1 m2)), .val (.ref o316), .val (.ref o401), .val (.ref o450), .val (.int (1 : Int32)), .unset]) rfl d0_547 ?_
        refine iload K S rfl d0_549 ?_
        refine aload K S rfl rfl d0_551 ?_
        refine iconst K S (x := (2 : Int32)) rfl d0_553 ?_
        refine iload K S rfl d0_554 ?_
        refine aload K S rfl rfl d0_556 ?_
        refine callS K S (W := 1) (m_co l Z a0 hw n0 o50 p0 p1 p2 p3 p4 p5 p6 p7 (2 : Int32) (feb m1 m2) o450 (fos m1 m2 r2 t2) L4 h450_17 (Sle S) H A_o450 (own_fosl _ (by decide)) (y2 _ (by decide))) (hwi hw 63 rfl) (hwi hw 64 rfl) (hwi hw 65 rfl) (hwi hw 30 rfl) (by decide) (by decide) (by decide) (by decide) (by decide) rfl (argsL := [.ref o50, .int (2 : Int32), .int (feb m1 m2), .ref o450]) rfl (lenOf pd_11 rfl) (rest := [.int (1 : Int32)]) rfl (Nat.le_of_eq rfl) d0_558 (pu fun T S => ?_)
        show Wp n0 p e _ s below _ T (mkF m 561 #[.val (.int x0), .val (.int x1), .val (.int x2), .val (.int x3), .val (.int x4), .val (.int m1), .val (.int m2), .val (.int r1), .val (.int r2), .val (.int t1), .val (.int t2), .val (.ref o50), s12, s13, .val (.int (fa1 m1)), s15, s16, s17, .val (.int (fsp0 m1 m2)), .val (.int (fsp1 m1 m2)), .val (.int (fid0 m1 m2 r2 t2)), .val (.int (fid1 m1 m2 r2 t2)), .val (.int (feb m1 m2)), .val (.ref o316), .val (.ref o401), .val (.ref o450), .val (.int (1 : Int32)), .unset] [.int (1 : Int32), .int (1 : Int32)])
        refine iand K S d0_561 ?_
        show Wp n0 p e _ s below _ T (mkF m 562 #[.val (.int x0), .val (.int x1), .val (.int x2), .val (.int x3), .val (.int x4), .val (.int m1), .val (.int m2), .val (.int r1), .val (.int r2), .val (.int t1), .val (.int t2), .val (.ref o50), s12, s13, .val (.int (fa1 m1)), s15, s16, s17, .val (.int (fsp0 m1 m2)), .val (.int (fsp1 m1 m2)), .val (.int (fid0 m1 m2 r2 t2)), .val (.int (fid1 m1 m2 r2 t2)), .val (.int (feb m1 m2)), .val (.ref o316), .val (.ref o401), .val (.ref o450), .val (.int (1 : Int32)), .unset] [.int (1 : Int32)])
        refine istore K S (l' := #[.val (.int x0), .val (.int x1), .val (.int x2), .val (.int x3), .val (.int x4), .val (.int m1), .val (.int m2), .val (.int r1), .val (.int r2), .val (.int t1), .val (.int t2), .val (.ref o50), s12, s13, .val (.int (fa1 m1)), s15, s16, s17, .val (.int (fsp0 m1 m2)), .val (.int (fsp1 m1 m2)), .val (.int (fid0 m1 m2 r2 t2)), .val (.int (fid1 m1 m2 r2 t2)), .val (.int (feb m1 m2)), .val (.ref o316), .val (.ref o401), .val (.ref o450), .val (.int (1 : Int32)), .unset]) rfl d0_562 ?_
        refine iload K S rfl d0_564 ?_
        refine aload K S rfl rfl d0_566 ?_
        refine iconst K S (x := (3 : Int32)) rfl d0_568 ?_
        refine iload K S rfl d0_569 ?_
        refine aload K S rfl rfl d0_571 ?_
        refine callS K S (W := 1) (m_co l Z a0 hw n0 o50 p0 p1 p2 p3 p4 p5 p6 p7 (3 : Int32) (feb m1 m2) o450 (fos m1 m2 r2 t2) L4 h450_17 (Sle S) H A_o450 (own_fosl _ (by decide)) (y2 _ (by decide))) (hwi hw 63 rfl) (hwi hw 64 rfl) (hwi hw 65 rfl) (hwi hw 30 rfl) (by decide) (by decide) (by decide) (by decide) (by decide) rfl (argsL := [.ref o50, .int (3 : Int32), .int (feb m1 m2), .ref o450]) rfl (lenOf pd_11 rfl) (rest := [.int (1 : Int32)]) rfl (Nat.le_of_eq rfl) d0_573 (pu fun T S => ?_)
        show Wp n0 p e _ s below _ T (mkF m 576 #[.val (.int x0), .val (.int x1), .val (.int x2), .val (.int x3), .val (.int x4), .val (.int m1), .val (.int m2), .val (.int r1), .val (.int r2), .val (.int t1), .val (.int t2), .val (.ref o50), s12, s13, .val (.int (fa1 m1)), s15, s16, s17, .val (.int (fsp0 m1 m2)), .val (.int (fsp1 m1 m2)), .val (.int (fid0 m1 m2 r2 t2)), .val (.int (fid1 m1 m2 r2 t2)), .val (.int (feb m1 m2)), .val (.ref o316), .val (.ref o401), .val (.ref o450), .val (.int (1 : Int32)), .unset] [.int (1 : Int32), .int (1 : Int32)])
        refine iand K S d0_576 ?_
        show Wp n0 p e _ s below _ T (mkF m 577 #[.val (.int x0), .val (.int x1), .val (.int x2), .val (.int x3), .val (.int x4), .val (.int m1), .val (.int m2), .val (.int r1), .val (.int r2), .val (.int t1), .val (.int t2), .val (.ref o50), s12, s13, .val (.int (fa1 m1)), s15, s16, s17, .val (.int (fsp0 m1 m2)), .val (.int (fsp1 m1 m2)), .val (.int (fid0 m1 m2 r2 t2)), .val (.int (fid1 m1 m2 r2 t2)), .val (.int (feb m1 m2)), .val (.ref o316), .val (.ref o401), .val (.ref o450), .val (.int (1 : Int32)), .unset] [.int (1 : Int32)])
        refine istore K S (l' := #[.val (.int x0), .val (.int x1), .val (.int x2), .val (.int x3), .val (.int x4), .val (.int m1), .val (.int m2), .val (.int r1), .val (.int r2), .val (.int t1), .val (.int t2), .val (.ref o50), s12, s13, .val (.int (fa1 m1)), s15, s16, s17, .val (.int (fsp0 m1 m2)), .val (.int (fsp1 m1 m2)), .val (.int (fid0 m1 m2 r2 t2)), .val (.int (fid1 m1 m2 r2 t2)), .val (.int (feb m1 m2)), .val (.ref o316), .val (.ref o401), .val (.ref o450), .val (.int (1 : Int32)), .unset]) rfl d0_577 ?_
        refine iload K S rfl d0_579 ?_
        refine aload K S rfl rfl d0_581 ?_
        refine iconst K S (x := (0 : Int32)) rfl d0_583 ?_
        refine iload K S rfl d0_584 ?_
        refine aload K S rfl rfl d0_586 ?_
        refine callS K S (W := 1) (m_cs l Z a0 hw n0 o50 p0 p1 p2 p3 p4 p5 p6 p7 (0 : Int32) (feb m1 m2) o401 (fzs m1 m2 r2 t2) L4 h450_17 (Sle S) H A_o401 (own_fzsl _ (by decide)) (y3 _ (by decide))) (hwi hw 71 rfl) (hwi hw 72 rfl) (hwi hw 73 rfl) (hwi hw 30 rfl) (by decide) (by decide) (by decide) (by decide) (by decide) rfl (argsL := [.ref o50, .int (0 : Int32), .int (feb m1 m2), .ref o401]) rfl (lenOf pd_13 rfl) (rest := [.int (1 : Int32)]) rfl (Nat.le_of_eq rfl) d0_588 (pu fun T S => ?_)
        show Wp n0 p e _ s below _ T (mkF m 591 #[.val (.int x0), .val (.int x1), .val (.int x2), .val (.int x3), .val (.int x4), .val (.int m1), .val (.int m2), .val (.int r1), .val (.int r2), .val (.int t1), .val (.int t2), .val (.ref o50), s12, s13, .val (.int (fa1 m1)), s15, s16, s17, .val (.int (fsp0 m1 m2)), .val (.int (fsp1 m1 m2)), .val (.int (fid0 m1 m2 r2 t2)), .val (.int (fid1 m1 m2 r2 t2)), .val (.int (feb m1 m2)), .val (.ref o316), .val (.ref o401), .val (.ref o450), .val (.int (1 : Int32)), .unset] [.int (1 : Int32), .int (1 : Int32)])
        refine iand K S d0_591 ?_
        show Wp n0 p e _ s below _ T (mkF m 592 #[.val (.int x0), .val (.int x1), .val (.int x2), .val (.int x3), .val (.int x4), .val (.int m1), .val (.int m2), .val (.int r1), .val (.int r2), .val (.int t1), .val (.int t2), .val (.ref o50), s12, s13, .val (.int (fa1 m1)), s15, s16, s17, .val (.int (fsp0 m1 m2)), .val (.int (fsp1 m1 m2)), .val (.int (fid0 m1 m2 r2 t2)), .val (.int (fid1 m1 m2 r2 t2)), .val (.int (feb m1 m2)), .val (.ref o316), .val (.ref o401), .val (.ref o450), .val (.int (1 : Int32)), .unset] [.int (1 : Int32)])
        refine istore K S (l' := #[.val (.int x0), .val (.int x1), .val (.int x2), .val (.int x3), .val (.int x4), .val (.int m1), .val (.int m2), .val (.int r1), .val (.int r2), .val (.int t1), .val (.int t2), .val (.ref o50), s12, s13, .val (.int (fa1 m1)), s15, s16, s17, .val (.int (fsp0 m1 m2)), .val (.int (fsp1 m1 m2)), .val (.int (fid0 m1 m2 r2 t2)), .val (.int (fid1 m1 m2 r2 t2)), .val (.int (feb m1 m2)), .val (.ref o316), .val (.ref o401), .val (.ref o450), .val (.int (1 : Int32)), .unset]) rfl d0_592 ?_
        refine iload K S rfl d0_594 ?_
        refine aload K S rfl rfl d0_596 ?_
        refine iconst K S (x := (1 : Int32)) rfl d0_598 ?_
        refine iload K S rfl d0_599 ?_
        refine aload K S rfl rfl d0_601 ?_
        refine callS K S (W := 1) (m_cs l Z a0 hw n0 o50 p0 p1 p2 p3 p4 p5 p6 p7 (1 : Int32) (feb m1 m2) o401 (fzs m1 m2 r2 t2) L4 h450_17 (Sle S) H A_o401 (own_fzsl _ (by decide)) (y3 _ (by decide))) (hwi hw 71 rfl) (hwi hw 72 rfl) (hwi hw 73 rfl) (hwi hw 30 rfl) (by decide) (by decide) (by decide) (by decide) (by decide) rfl (argsL := [.ref o50, .int (1 : Int32), .int (feb m1 m2), .ref o401]) rfl (lenOf pd_13 rfl) (rest := [.int (1 : Int32)]) rfl (Nat.le_of_eq rfl) d0_603 (pu fun T S => ?_)
        show Wp n0 p e _ s below _ T (mkF m 606 #[.val (.int x0), .val (.int x1), .val (.int x2), .val (.int x3), .val (.int x4), .val (.int m1), .val (.int m2), .val (.int r1), .val (.int r2), .val (.int t1), .val (.int t2), .val (.ref o50), s12, s13, .val (.int (fa1 m1)), s15, s16, s17, .val (.int (fsp0 m1 m2)), .val (.int (fsp1 m1 m2)), .val (.int (fid0 m1 m2 r2 t2)), .val (.int (fid1 m1 m2 r2 t2)), .val (.int (feb m1 m2)), .val (.ref o316), .val (.ref o401), .val (.ref o450), .val (.int (1 : Int32)), .unset] [.int (1 : Int32), .int (1 : Int32)])
        refine iand K S d0_606 ?_
        show Wp n0 p e _ s below _ T (mkF m 607 #[.val (.int x0), .val (.int x1), .val (.int x2), .val (.int x3), .val (.int x4), .val (.int m1), .val (.int m2), .val (.int r1), .val (.int r2), .val (.int t1), .val (.int t2), .val (.ref o50), s12, s13, .val (.int (fa1 m1)), s15, s16, s17, .val (.int (fsp0 m1 m2)), .val (.int (fsp1 m1 m2)), .val (.int (fid0 m1 m2 r2 t2)), .val (.int (fid1 m1 m2 r2 t2)), .val (.int (feb m1 m2)), .val (.ref o316), .val (.ref o401), .val (.ref o450), .val (.int (1 : Int32)), .unset] [.int (1 : Int32)])
        refine istore K S (l' := #[.val (.int x0), .val (.int x1), .val (.int x2), .val (.int x3), .val (.int x4), .val (.int m1), .val (.int m2), .val (.int r1), .val (.int r2), .val (.int t1), .val (.int t2), .val (.ref o50), s12, s13, .val (.int (fa1 m1)), s15, s16, s17, .val (.int (fsp0 m1 m2)), .val (.int (fsp1 m1 m2)), .val (.int (fid0 m1 m2 r2 t2)), .val (.int (fid1 m1 m2 r2 t2)), .val (.int (feb m1 m2)), .val (.ref o316), .val (.ref o401), .val (.ref o450), .val (.int (1 : Int32)), .unset]) rfl d0_607 ?_
        refine iload K S rfl d0_609 ?_
        refine aload K S rfl rfl d0_611 ?_
        refine iconst K S (x := (2 : Int32)) rfl d0_613 ?_
        refine iload K S rfl d0_614 ?_
        refine aload K S rfl rfl d0_616 ?_
        refine callS K S (W := 1) (m_cs l Z a0 hw n0 o50 p0 p1 p2 p3 p4 p5 p6 p7 (2 : Int32) (feb m1 m2) o401 (fzs m1 m2 r2 t2) L4 h450_17 (Sle S) H A_o401 (own_fzsl _ (by decide)) (y3 _ (by decide))) (hwi hw 71 rfl) (hwi hw 72 rfl) (hwi hw 73 rfl) (hwi hw 30 rfl) (by decide) (by decide) (by decide) (by decide) (by decide) rfl (argsL := [.ref o50, .int (2 : Int32), .int (feb m1 m2), .ref o401]) rfl (lenOf pd_13 rfl) (rest := [.int (1 : Int32)]) rfl (Nat.le_of_eq rfl) d0_618 (pu fun T S => ?_)
        show Wp n0 p e _ s below _ T (mkF m 621 #[.val (.int x0), .val (.int x1), .val (.int x2), .val (.int x3), .val (.int x4), .val (.int m1), .val (.int m2), .val (.int r1), .val (.int r2), .val (.int t1), .val (.int t2), .val (.ref o50), s12, s13, .val (.int (fa1 m1)), s15, s16, s17, .val (.int (fsp0 m1 m2)), .val (.int (fsp1 m1 m2)), .val (.int (fid0 m1 m2 r2 t2)), .val (.int (fid1 m1 m2 r2 t2)), .val (.int (feb m1 m2)), .val (.ref o316), .val (.ref o401), .val (.ref o450), .val (.int (1 : Int32)), .unset] [.int (1 : Int32), .int (1 : Int32)])
        refine iand K S d0_621 ?_
        show Wp n0 p e _ s below _ T (mkF m 622 #[.val (.int x0), .val (.int x1), .val (.int x2), .val (.int x3), .val (.int x4), .val (.int m1), .val (.int m2), .val (.int r1), .val (.int r2), .val (.int t1), .val (.int t2), .val (.ref o50), s12, s13, .val (.int (fa1 m1)), s15, s16, s17, .val (.int (fsp0 m1 m2)), .val (.int (fsp1 m1 m2)), .val (.int (fid0 m1 m2 r2 t2)), .val (.int (fid1 m1 m2 r2 t2)), .val (.int (feb m1 m2)), .val (.ref o316), .val (.ref o401), .val (.ref o450), .val (.int (1 : Int32)), .unset] [.int (1 : Int32)])
        refine istore K S (l' := #[.val (.int x0), .val (.int x1), .val (.int x2), .val (.int x3), .val (.int x4), .val (.int m1), .val (.int m2), .val (.int r1), .val (.int r2), .val (.int t1), .val (.int t2), .val (.ref o50), s12, s13, .val (.int (fa1 m1)), s15, s16, s17, .val (.int (fsp0 m1 m2)), .val (.int (fsp1 m1 m2)), .val (.int (fid0 m1 m2 r2 t2)), .val (.int (fid1 m1 m2 r2 t2)), .val (.int (feb m1 m2)), .val (.ref o316), .val (.ref o401), .val (.ref o450), .val (.int (1 : Int32)), .unset]) rfl d0_622 ?_
        refine iload K S rfl d0_624 ?_
        refine aload K S rfl rfl d0_626 ?_
        refine iconst K S (x := (3 : Int32)) rfl d0_628 ?_
        refine iload K S rfl d0_629 ?_
        refine aload K S rfl rfl d0_631 ?_
        refine callS K S (W := 1) (m_cs l Z a0 hw n0 o50 p0 p1 p2 p3 p4 p5 p6 p7 (3 : Int32) (feb m1 m2) o401 (fzs m1 m2 r2 t2) L4 h450_17 (Sle S) H A_o401 (own_fzsl _ (by decide)) (y3 _ (by decide))) (hwi hw 71 rfl) (hwi hw 72 rfl) (hwi hw 73 rfl) (hwi hw 30 rfl) (by decide) (by decide) (by decide) (by decide) (by decide) rfl (argsL := [.ref o50, .int (3 : Int32), .int (feb m1 m2), .ref o401]) rfl (lenOf pd_13 rfl) (rest := [.int (1 : Int32)]) rfl (Nat.le_of_eq rfl) d0_633 (pu fun T S => ?_)
        show Wp n0 p e _ s below _ T (mkF m 636 #[.val (.int x0), .val (.int x1), .val (.int x2), .val (.int x3), .val (.int x4), .val (.int m1), .val (.int m2), .val (.int r1), .val (.int r2), .val (.int t1), .val (.int t2), .val (.ref o50), s12, s13, .val (.int (fa1 m1)), s15, s16, s17, .val (.int (fsp0 m1 m2)), .val (.int (fsp1 m1 m2)), .val (.int (fid0 m1 m2 r2 t2)), .val (.int (fid1 m1 m2 r2 t2)), .val (.int (feb m1 m2)), .val (.ref o316), .val (.ref o401), .val (.ref o450), .val (.int (1 : Int32)), .unset] [.int (1 : Int32), .int (1 : Int32)])
        refine iand K S d0_636 ?_
        show Wp n0 p e _ s below _ T (mkF m 637 #[.val (.int x0), .val (.int x1), .val (.int x2), .val (.int x3), .val (.int x4), .val (.int m1), .val (.int m2), .val (.int r1), .val (.int r2), .val (.int t1), .val (.int t2), .val (.ref o50), s12, s13, .val (.int (fa1 m1)), s15, s16, s17, .val (.int (fsp0 m1 m2)), .val (.int (fsp1 m1 m2)), .val (.int (fid0 m1 m2 r2 t2)), .val (.int (fid1 m1 m2 r2 t2)), .val (.int (feb m1 m2)), .val (.ref o316), .val (.ref o401), .val (.ref o450), .val (.int (1 : Int32)), .unset] [.int (1 : Int32)])
        refine istore K S (l' := #[.val (.int x0), .val (.int x1), .val (.int x2), .val (.int x3), .val (.int x4), .val (.int m1), .val (.int m2), .val (.int r1), .val (.int r2), .val (.int t1), .val (.int t2), .val (.ref o50), s12, s13, .val (.int (fa1 m1)), s15, s16, s17, .val (.int (fsp0 m1 m2)), .val (.int (fsp1 m1 m2)), .val (.int (fid0 m1 m2 r2 t2)), .val (.int (fid1 m1 m2 r2 t2)), .val (.int (feb m1 m2)), .val (.ref o316), .val (.ref o401), .val (.ref o450), .val (.int (1 : Int32)), .unset]) rfl d0_637 ?_
        refine aload K S rfl rfl d0_639 ?_
        refine iconst K S (x := (0 : Int32)) rfl d0_641 ?_
        refine callS K S (W := 0) (m_pb l Z a0 hw n0 o50 p0 p1 p2 p3 p4 p5 p6 p7 (0 : Int32) L4 h450_17 (Sle S) H (y1 _ (by decide)).2.2) (hwi hw 79 rfl) (hwi hw 80 rfl) (hwi hw 81 rfl) (hwi hw 30 rfl) (by decide) (by decide) (by decide) (by decide) (by decide) rfl (argsL := [.ref o50, .int (0 : Int32)]) rfl (lenOf pd_15 rfl) (rest := []) rfl (Nat.le_of_eq rfl) d0_642 (pu fun T S => ?_)
        show Wp n0 p e _ s below _ T (mkF m 645 #[.val (.int x0), .val (.int x1), .val (.int x2), .val (.int x3), .val (.int x4), .val (.int m1), .val (.int m2), .val (.int r1), .val (.int r2), .val (.int t1), .val (.int t2), .val (.ref o50), s12, s13, .val (.int (fa1 m1)), s15, s16, s17, .val (.int (fsp0 m1 m2)), .val (.int (fsp1 m1 m2)), .val (.int (fid0 m1 m2 r2 t2)), .val (.int (fid1 m1 m2 r2 t2)), .val (.int (feb m1 m2)), .val (.ref o316), .val (.ref o401), .val (.ref o450), .val (.int (1 : Int32)), .unset] [.int (fpb L4 (0 : Int32))])
        refine aload K S rfl rfl d0_645 ?_
        refine iconst K S (x := (1 : Int32)) rfl d0_647 ?_
        refine callS K S (W := 1) (m_pb l Z a0 hw n0 o50 p0 p1 p2 p3 p4 p5 p6 p7 (1 : Int32) L4 h450_17 (Sle S) H (y1 _ (by decide)).2.2) (hwi hw 79 rfl) (hwi hw 80 rfl) (hwi hw 81 rfl) (hwi hw 30 rfl) (by decide) (by decide) (by decide) (by decide) (by decide) rfl (argsL := [.ref o50, .int (1 : Int32)]) rfl (lenOf pd_15 rfl) (rest := [.int (fpb L4 (0 : Int32))]) rfl (Nat.le_of_eq rfl) d0_648 (pu fun T S => ?_)
        show Wp n0 p e _ s below _ T (mkF m 651 #[.val (.int x0), .val (.int x1), .val (.int x2), .val (.int x3), .val (.int x4), .val (.int m1), .val (.int m2), .val (.int r1), .val (.int r2), .val (.int t1), .val (.int t2), .val (.ref o50), s12, s13, .val (.int (fa1 m1)), s15, s16, s17, .val (.int (fsp0 m1 m2)), .val (.int (fsp1 m1 m2)), .val (.int (fid0 m1 m2 r2 t2)), .val (.int (fid1 m1 m2 r2 t2)), .val (.int (feb m1 m2)), .val (.ref o316), .val (.ref o401), .val (.ref o450), .val (.int (1 : Int32)), .unset] [.int (fpb L4 (1 : Int32)), .int (fpb L4 (0 : Int32))])
        refine ior K S d0_651 ?_
        refine aload K S rfl rfl d0_652 ?_
        refine iconst K S (x := (2 : Int32)) rfl d0_654 ?_
        refine callS K S (W := 1) (m_pb l Z a0 hw n0 o50 p0 p1 p2 p3 p4 p5 p6 p7 (2 : Int32) L4 h450_17 (Sle S) H (y1 _ (by decide)).2.2) (hwi hw 79 rfl) (hwi hw 80 rfl) (hwi hw 81 rfl) (hwi hw 30 rfl) (by decide) (by decide) (by decide) (by decide) (by decide) rfl (argsL := [.ref o50, .int (2 : Int32)]) rfl (lenOf pd_15 rfl) (rest := [.int ((fpb L4 (0 : Int32)) ||| (fpb L4 (1 : Int32)))]) rfl (Nat.le_of_eq rfl) d0_655 (pu fun T S => ?_)
        show Wp n0 p e _ s below _ T (mkF m 658 #[.val (.int x0), .val (.int x1), .val (.int x2), .val (.int x3), .val (.int x4), .val (.int m1), .val (.int m2), .val (.int r1), .val (.int r2), .val (.int t1), .val (.int t2), .val (.ref o50), s12, s13, .val (.int (fa1 m1)), s15, s16, s17, .val (.int (fsp0 m1 m2)), .val (.int (fsp1 m1 m2)), .val (.int (fid0 m1 m2 r2 t2)), .val (.int (fid1 m1 m2 r2 t2)), .val (.int (feb m1 m2)), .val (.ref o316), .val (.ref o401), .val (.ref o450), .val (.int (1 : Int32)), .unset] [.int (fpb L4 (2 : Int32)), .int ((fpb L4 (0 : Int32)) ||| (fpb L4 (1 : Int32)))])
        refine ior K S d0_658 ?_
        refine aload K S rfl rfl d0_659 ?_
        refine iconst K S (x := (3 : Int32)) rfl d0_661 ?_
        refine callS K S (W := 1) (m_pb l Z a0 hw n0 o50 p0 p1 p2 p3 p4 p5 p6 p7 (3 : Int32) L4 h450_17 (Sle S) H (y1 _ (by decide)).2.2) (hwi hw 79 rfl) (hwi hw 80 rfl) (hwi hw 81 rfl) (hwi hw 30 rfl) (by decide) (by decide) (by decide) (by decide) (by decide) rfl (argsL := [.ref o50, .int (3 : Int32)]) rfl (lenOf pd_15 rfl) (rest := [.int (((fpb L4 (0 : Int32)) ||| (fpb L4 (1 : Int32))) ||| (fpb L4 (2 : Int32)))]) rfl (Nat.le_of_eq rfl) d0_662 (pu fun T S => ?_)
        show Wp n0 p e _ s below _ T (mkF m 665 #[.val (.int x0), .val (.int x1), .val (.int x2), .val (.int x3), .val (.int x4), .val (.int m1), .val (.int m2), .val (.int r1), .val (.int r2), .val (.int t1), .val (.int t2), .val (.ref o50), s12, s13, .val (.int (fa1 m1)), s15, s16, s17, .val (.int (fsp0 m1 m2)), .val (.int (fsp1 m1 m2)), .val (.int (fid0 m1 m2 r2 t2)), .val (.int (fid1 m1 m2 r2 t2)), .val (.int (feb m1 m2)), .val (.ref o316), .val (.ref o401), .val (.ref o450), .val (.int (1 : Int32)), .unset] [.int (fpb L4 (3 : Int32)), .int (((fpb L4 (0 : Int32)) ||| (fpb L4 (1 : Int32))) ||| (fpb L4 (2 : Int32)))])
        refine ior K S d0_665 ?_
        refine istore K S (l' := #[.val (.int x0), .val (.int x1), .val (.int x2), .val (.int x3), .val (.int x4), .val (.int m1), .val (.int m2), .val (.int r1), .val (.int r2), .val (.int t1), .val (.int t2), .val (.ref o50), s12, s13, .val (.int (fa1 m1)), s15, s16, s17, .val (.int (fsp0 m1 m2)), .val (.int (fsp1 m1 m2)), .val (.int (fid0 m1 m2 r2 t2)), .val (.int (fid1 m1 m2 r2 t2)), .val (.int (feb m1 m2)), .val (.ref o316), .val (.ref o401), .val (.ref o450), .val (.int (1 : Int32)), .val (.int ((((fpb L4 (0 : Int32)) ||| (fpb L4 (1 : Int32))) ||| (fpb L4 (2 : Int32))) ||| (fpb L4 (3 : Int32))))]) rfl d0_666 ?_
        refine iload K S rfl d0_668 ?_
        refine iload K S rfl d0_670 ?_
        refine bipush K S (x := (15 : Int32)) rfl d0_672 ?_
        refine icmp_ne K S d0_674 (fun c674 => ?_) (fun c674 => ?_)
        · exact absurd y4 c674
        refine iconst K S (x := (1 : Int32)) rfl d0_677 ?_
        refine goto K S d0_678 ?_
        refine iand K S d0_682 ?_
        show Wp n0 p e _ s below _ T (mkF m 683 #[.val (.int x0), .val (.int x1), .val (.int x2), .val (.int x3), .val (.int x4), .val (.int m1), .val (.int m2), .val (.int r1), .val (.int r2), .val (.int t1), .val (.int t2), .val (.ref o50), s12, s13, .val (.int (fa1 m1)), s15, s16, s17, .val (.int (fsp0 m1 m2)), .val (.int (fsp1 m1 m2)), .val (.int (fid0 m1 m2 r2 t2)), .val (.int (fid1 m1 m2 r2 t2)), .val (.int (feb m1 m2)), .val (.ref o316), .val (.ref o401), .val (.ref o450), .val (.int (1 : Int32)), .val (.int ((((fpb L4 (0 : Int32)) ||| (fpb L4 (1 : Int32))) ||| (fpb L4 (2 : Int32))) ||| (fpb L4 (3 : Int32))))] [.int (1 : Int32)])
        refine istore K S (l' := #[.val (.int x0), .val (.int x1), .val (.int x2), .val (.int x3), .val (.int x4), .val (.int m1), .val (.int m2), .val (.int r1), .val (.int r2), .val (.int t1), .val (.int t2), .val (.ref o50), s12, s13, .val (.int (fa1 m1)), s15, s16, s17, .val (.int (fsp0 m1 m2)), .val (.int (fsp1 m1 m2)), .val (.int (fid0 m1 m2 r2 t2)), .val (.int (fid1 m1 m2 r2 t2)), .val (.int (feb m1 m2)), .val (.ref o316), .val (.ref o401), .val (.ref o450), .val (.int (1 : Int32)), .val (.int ((((fpb L4 (0 : Int32)) ||| (fpb L4 (1 : Int32))) ||| (fpb L4 (2 : Int32))) ||| (fpb L4 (3 : Int32))))]) rfl d0_683 ?_
        refine iload K S rfl d0_685 ?_
        refine retn K S (by simp) (y := (1 : Int32)) rfl (by decide) (by decide) d0_687 ?_
        rfl
      refine aload K S rfl rfl d0_459 ?_
      refine iload K S rfl d0_461 ?_
      refine iconst K S (x := (1 : Int32)) rfl d0_463 ?_
      refine iastore K S (i := (fid1 m1 m2 r2 t2).toNatClampNeg) A_o450 (linb_ix (show linb [(0 : Int32), (0 : Int32), (0 : Int32), (0 : Int32)] (fid1 m1 m2 r2 t2) = true from z4)) (linb_ml (show linb [(0 : Int32), (0 : Int32), (0 : Int32), (0 : Int32)] (fid1 m1 m2 r2 t2) = true from z4)) g_o450 d0_464 fun T h464_18 W B S => ?_
      replace E_o50 := E_o50.wr W
      replace A_o316 := A_o316.other W (by first | exact n_o316_o450 | exact Ne.symm n_o450_o316 | omega)
      replace A_o401 := A_o401.other W (by first | exact n_o401_o450 | exact Ne.symm n_o450_o401 | omega)
      replace H := H.keep (Keep.of_wr W) (ninS (by first | exact n_o50_o450 | exact Ne.symm n_o450_o50 | omega) nin0) (ninS (by first | exact n_p0_o450 | exact Ne.symm n_o450_p0 | omega) nin0) (ninS (by first | exact n_p1_o450 | exact Ne.symm n_o450_p1 | omega) nin0) (ninS (by first | exact n_p2_o450 | exact Ne.symm n_o450_p2 | omega) nin0) (ninS (by first | exact n_p3_o450 | exact Ne.symm n_o450_p3 | omega) nin0) (ninS (by first | exact n_p4_o450 | exact Ne.symm n_o450_p4 | omega) nin0) (ninS (by first | exact n_p5_o450 | exact Ne.symm n_o450_p5 | omega) nin0) (ninS (by first | exact n_p6_o450 | exact Ne.symm n_o450_p6 | omega) nin0) (ninS (by first | exact n_p7_o450 | exact Ne.symm n_o450_p7 | omega) nin0)
      clear W
      replace A_o450 : VA Z h464_18 o450 .int ((lset [(0 : Int32), (0 : Int32), (0 : Int32), (0 : Int32)] (fid1 m1 m2 r2 t2) (1 : Int32)).map Value.int) := (by rw [lset_map]; exact B)
      replace A_o450 : VA Z h464_18 o450 .int ((fos m1 m2 r2 t2).map Value.int) := by rw [fos, if_neg c456]; exact A_o450
      replace A_o401 : VA Z h464_18 o401 .int ((fzs m1 m2 r2 t2).map Value.int) := A_o401
      refine aload K S rfl rfl d0_465 ?_
      refine callV K S (W := 0) (m_blocks l Z a0 hw n0 o50 p0 p1 p2 p3 p4 p5 p6 p7 L4 h464_18 (Sle S) H) E_o50 (hwi hw 50 rfl) (hwi hw 51 rfl) (hwi hw 53 rfl) (hwi hw 52 rfl) (hwi hw 54 rfl) (hwi hw 2 rfl) (by decide) (by decide) (by decide) (by decide) (by decide) rfl (argsL := []) rfl (lenOf pd_8 rfl) (rest := []) rfl (Nat.le_of_eq rfl) d0_467 (pu fun T S => ?_)
      show Wp n0 p e _ s below _ T (mkF m 470 #[.val (.int x0), .val (.int x1), .val (.int x2), .val (.int x3), .val (.int x4), .val (.int m1), .val (.int m2), .val (.int r1), .val (.int r2), .val (.int t1), .val (.int t2), .val (.ref o50), s12, s13, .val (.int (fa1 m1)), s15, s16, s17, .val (.int (fsp0 m1 m2)), .val (.int (fsp1 m1 m2)), .val (.int (fid0 m1 m2 r2 t2)), .val (.int (fid1 m1 m2 r2 t2)), .val (.int (feb m1 m2)), .val (.ref o316), .val (.ref o401), .val (.ref o450), .unset, .unset] [.int (L4.2.1)])
      refine iload K S rfl d0_470 ?_
      refine icmp_ne K S d0_472 (fun c472 => ?_) (fun c472 => ?_)
      · exact absurd y0 c472
      refine iconst K S (x := (1 : Int32)) rfl d0_475 ?_
      refine goto K S d0_476 ?_
      refine istore K S (l' := #[.val (.int x0), .val (.int x1), .val (.int x2), .val (.int x3), .val (.int x4), .val (.int m1), .val (.int m2), .val (.int r1), .val (.int r2), .val (.int t1), .val (.int t2), .val (.ref o50), s12, s13, .val (.int (fa1 m1)), s15, s16, s17, .val (.int (fsp0 m1 m2)), .val (.int (fsp1 m1 m2)), .val (.int (fid0 m1 m2 r2 t2)), .val (.int (fid1 m1 m2 r2 t2)), .val (.int (feb m1 m2)), .val (.ref o316), .val (.ref o401), .val (.ref o450), .val (.int (1 : Int32)), .unset]) rfl d0_480 ?_
      refine iload K S rfl d0_482 ?_
      refine aload K S rfl rfl d0_484 ?_
      refine iconst K S (x := (0 : Int32)) rfl d0_486 ?_
      refine aload K S rfl rfl d0_487 ?_
      refine callS K S (W := 1) (m_cb l Z a0 hw n0 o50 p0 p1 p2 p3 p4 p5 p6 p7 (0 : Int32) o316 [fx m1 m2 r2 t2 0, fx m1 m2 r2 t2 1, fx m1 m2 r2 t2 2, fx m1 m2 r2 t2 3] L4 h464_18 (Sle S) H (show VA Z h464_18 o316 .int (List.map Value.int [fx m1 m2 r2 t2 0, fx m1 m2 r2 t2 1, fx m1 m2 r2 t2 2, fx m1 m2 r2 t2 3]) from A_o316) (y1 _ (by decide)).1 (own_l4 _ (by decide)) (y1 _ (by decide)).2.1) (hwi hw 55 rfl) (hwi hw 56 rfl) (hwi hw 57 rfl) (hwi hw 30 rfl) (by decide) (by decide) (by decide) (by decide) (by decide) rfl (argsL := [.ref o50, .int (0 : Int32), .ref o316]) rfl (lenOf pd_9 rfl) (rest := [.int (1 : Int32)]) rfl (Nat.le_of_eq rfl) d0_489 (pu fun T S => ?_)
      show Wp n0 p e _ s below _ T (mkF m 492 #[.val (.int x0), .val (.int x1), .val (.int x2), .val (.int x3), .val (.int x4), .val (.int m1), .val (.int m2), .val (.int r1), .val (.int r2), .val (.int t1), .val (.int t2), .val (.ref o50), s12, s13, .val (.int (fa1 m1)), s15, s16, s17, .val (.int (fsp0 m1 m2)), .val (.int (fsp1 m1 m2)), .val (.int (fid0 m1 m2 r2 t2)), .val (.int (fid1 m1 m2 r2 t2)), .val (.int (feb m1 m2)), .val (.ref o316), .val (.ref o401), .val (.ref o450), .val (.int (1 : Int32)), .unset] [.int (1 : Int32), .int (1 : Int32)])
      refine iand K S d0_492 ?_
      show Wp n0 p e _ s below _ T (mkF m 493 #[.val (.int x0), .val (.int x1), .val (.int x2), .val (.int x3), .val (.int x4), .val (.int m1), .val (.int m2), .val (.int r1), .val (.int r2), .val (.int t1), .val (.int t2), .val (.ref o50), s12, s13, .val (.int (fa1 m1)), s15, s16, s17, .val (.int (fsp0 m1 m2)), .val (.int (fsp1 m1 m2)), .val (.int (fid0 m1 m2 r2 t2)), .val (.int (fid1 m1 m2 r2 t2)), .val (.int (feb m1 m2)), .val (.ref o316), .val (.ref o401), .val (.ref o450), .val (.int (1 : Int32)), .unset] [.int (1 : Int32)])
      refine istore K S (l' := #[.val (.int x0), .val (.int x1), .val (.int x2), .val (.int x3), .val (.int x4), .val (.int m1), .val (.int m2), .val (.int r1), .val (.int r2), .val (.int t1), .val (.int t2), .val (.ref o50), s12, s13, .val (.int (fa1 m1)), s15, s16, s17, .val (.int (fsp0 m1 m2)), .val (.int (fsp1 m1 m2)), .val (.int (fid0 m1 m2 r2 t2)), .val (.int (fid1 m1 m2 r2 t2)), .val (.int (feb m1 m2)), .val (.ref o316), .val (.ref o401), .val (.ref o450), .val (.int (1 : Int32)), .unset]) rfl d0_493 ?_
      refine iload K S rfl d0_495 ?_
      refine aload K S rfl rfl d0_497 ?_
      refine iconst K S (x := (1 : Int32)) rfl d0_499 ?_
      refine aload K S rfl rfl d0_500 ?_
      refine callS K S (W := 1) (m_cb l Z a0 hw n0 o50 p0 p1 p2 p3 p4 p5 p6 p7 (1 : Int32) o316 [fx m1 m2 r2 t2 0, fx m1 m2 r2 t2 1, fx m1 m2 r2 t2 2, fx m1 m2 r2 t2 3] L4 h464_18 (Sle S) H (show VA Z h464_18 o316 .int (List.map Value.int [fx m1 m2 r2 t2 0, fx m1 m2 r2 t2 1, fx m1 m2 r2 t2 2, fx m1 m2 r2 t2 3]) from A_o316) (y1 _ (by decide)).1 (own_l4 _ (by decide)) (y1 _ (by decide)).2.1) (hwi hw 55 rfl) (hwi hw 56 rfl) (hwi hw 57 rfl) (hwi hw 30 rfl) (by decide) (by decide) (by decide) (by decide) (by decide) rfl (argsL := [.ref o50, .int (1 : Int32), .ref o316]) rfl (lenOf pd_9 rfl) (rest := [.int (1 : Int32)]) rfl (Nat.le_of_eq rfl) d0_502 (pu fun T S => ?_)
      show Wp n0 p e _ s below _ T (mkF m 505 #[.val (.int x0), .val (.int x1), .val (.int x2), .val (.int x3), .val (.int x4), .val (.int m1), .val (.int m2), .val (.int r1), .val (.int r2), .val (.int t1), .val (.int t2), .val (.ref o50), s12, s13, .val (.int (fa1 m1)), s15, s16, s17, .val (.int (fsp0 m1 m2)), .val (.int (fsp1 m1 m2)), .val (.int (fid0 m1 m2 r2 t2)), .val (.int (fid1 m1 m2 r2 t2)), .val (.int (feb m1 m2)), .val (.ref o316), .val (.ref o401), .val (.ref o450), .val (.int (1 : Int32)), .unset] [.int (1 : Int32), .int (1 : Int32)])
      refine iand K S d0_505 ?_
      show Wp n0 p e _ s below _ T (mkF m 506 #[.val (.int x0), .val (.int x1), .val (.int x2), .val (.int x3), .val (.int x4), .val (.int m1), .val (.int m2), .val (.int r1), .val (.int r2), .val (.int t1), .val (.int t2), .val (.ref o50), s12, s13, .val (.int (fa1 m1)), s15, s16, s17, .val (.int (fsp0 m1 m2)), .val (.int (fsp1 m1 m2)), .val (.int (fid0 m1 m2 r2 t2)), .val (.int (fid1 m1 m2 r2 t2)), .val (.int (feb m1 m2)), .val (.ref o316), .val (.ref o401), .val (.ref o450), .val (.int (1 : Int32)), .unset] [.int (1 : Int32)])
      refine istore K S (l' := #[.val (.int x0), .val (.int x1), .val (.int x2), .val (.int x3), .val (.int x4), .val (.int m1), .val (.int m2), .val (.int r1), .val (.int r2), .val (.int t1), .val (.int t2), .val (.ref o50), s12, s13, .val (.int (fa1 m1)), s15, s16, s17, .val (.int (fsp0 m1 m2)), .val (.int (fsp1 m1 m2)), .val (.int (fid0 m1 m2 r2 t2)), .val (.int (fid1 m1 m2 r2 t2)), .val (.int (feb m1 m2)), .val (.ref o316), .val (.ref o401), .val (.ref o450), .val (.int (1 : Int32)), .unset]) rfl d0_506 ?_
      refine iload K S rfl d0_508 ?_
      refine aload K S rfl rfl d0_510 ?_
      refine iconst K S (x := (2 : Int32)) rfl d0_512 ?_
      refine aload K S rfl rfl d0_513 ?_
      refine callS K S (W := 1) (m_cb l Z a0 hw n0 o50 p0 p1 p2 p3 p4 p5 p6 p7 (2 : Int32) o316 [fx m1 m2 r2 t2 0, fx m1 m2 r2 t2 1, fx m1 m2 r2 t2 2, fx m1 m2 r2 t2 3] L4 h464_18 (Sle S) H (show VA Z h464_18 o316 .int (List.map Value.int [fx m1 m2 r2 t2 0, fx m1 m2 r2 t2 1, fx m1 m2 r2 t2 2, fx m1 m2 r2 t2 3]) from A_o316) (y1 _ (by decide)).1 (own_l4 _ (by decide)) (y1 _ (by decide)).2.1) (hwi hw 55 rfl) (hwi hw 56 rfl) (hwi hw 57 rfl) (hwi hw 30 rfl) (by decide) (by decide) (by decide) (by decide) (by decide) rfl (argsL := [.ref o50, .int (2 : Int32), .ref o316]) rfl (lenOf pd_9 rfl) (rest := [.int (1 : Int32)]) rfl (Nat.le_of_eq rfl) d0_515 (pu fun T S => ?_)
      show Wp n0 p e _ s below _ T (mkF m 518 #[.val (.int x0), .val (.int x1), .val (.int x2), .val (.int x3), .val (.int x4), .val (.int m1), .val (.int m2), .val (.int r1), .val (.int r2), .val (.int t1), .val (.int t2), .val (.ref o50), s12, s13, .val (.int (fa1 m1)), s15, s16, s17, .val (.int (fsp0 m1 m2)), .val (.int (fsp1 m1 m2)), .val (.int (fid0 m1 m2 r2 t2)), .val (.int (fid1 m1 m2 r2 t2)), .val (.int (feb m1 m2)), .val (.ref o316), .val (.ref o401), .val (.ref o450), .val (.int (1 : Int32)), .unset] [.int (1 : Int32), .int (1 : Int32)])
      refine iand K S d0_518 ?_
      show Wp n0 p e _ s below _ T (mkF m 519 #[.val (.int x0), .val (.int x1), .val (.int x2), .val (.int x3), .val (.int x4), .val (.int m1), .val (.int m2), .val (.int r1), .val (.int r2), .val (.int t1), .val (.int t2), .val (.ref o50), s12, s13, .val (.int (fa1 m1)), s15, s16, s17, .val (.int (fsp0 m1 m2)), .val (.int (fsp1 m1 m2)), .val (.int (fid0 m1 m2 r2 t2)), .val (.int (fid1 m1 m2 r2 t2)), .val (.int (feb m1 m2)), .val (.ref o316), .val (.ref o401), .val (.ref o450), .val (.int (1 : Int32)), .unset] [.int (1 : Int32)])
      refine istore K S (l' := #[.val (.int x0), .val (.int x1), .val (.int x2), .val (.int x3), .val (.int x4), .val (.int m1), .val (.int m2), .val (.int r1), .val (.int r2), .val (.int t1), .val (.int t2), .val (.ref o50), s12, s13, .val (.int (fa1 m1)), s15, s16, s17, .val (.int (fsp0 m1 m2)), .val (.int (fsp1 m1 m2)), .val (.int (fid0 m1 m2 r2 t2)), .val (.int (fid1 m1 m2 r2 t2)), .val (.int (feb m1 m2)), .val (.ref o316), .val (.ref o401), .val (.ref o450), .val (.int (1 : Int32)), .unset]) rfl d0_519 ?_
      refine iload K S rfl d0_521 ?_
      refine aload K S rfl rfl d0_523 ?_
      refine iconst K S (x := (3 : Int32)) rfl d0_525 ?_
      refine aload K S rfl rfl d0_526 ?_
      refine callS K S (W := 1) (m_cb l Z a0 hw n0 o50 p0 p1 p2 p3 p4 p5 p6 p7 (3 : Int32) o316 [fx m1 m2 r2 t2 0, fx m1 m2 r2 t2 1, fx m1 m2 r2 t2 2, fx m1 m2 r2 t2 3] L4 h464_18 (Sle S) H (show VA Z h464_18 o316 .int (List.map Value.int [fx m1 m2 r2 t2 0, fx m1 m2 r2 t2 1, fx m1 m2 r2 t2 2, fx m1 m2 r2 t2 3]) from A_o316) (y1 _ (by decide)).1 (own_l4 _ (by decide)) (y1 _ (by decide)).2.1) (hwi hw 55 rfl) (hwi hw 56 rfl) (hwi hw 57 rfl) (hwi hw 30 rfl) (by decide) (by decide) (by decide) (by decide) (by decide) rfl (argsL := [.ref o50, .int (3 : Int32), .ref o316]) rfl (lenOf pd_9 rfl) (rest := [.int (1 : Int32)]) rfl (Nat.le_of_eq rfl) d0_528 (pu fun T S => ?_)
      show Wp n0 p e _ s below _ T (mkF m 531 #[.val (.int x0), .val (.int x1), .val (.int x2), .val (.int x3), .val (.int x4), .val (.int m1), .val (.int m2), .val (.int r1), .val (.int r2), .val (.int t1), .val (.int t2), .val (.ref o50), s12, s13, .val (.int (fa1 m1)), s15, s16, s17, .val (.int (fsp0 m1 m2)), .val (.int (fsp1 m1 m2)), .val (.int (fid0 m1 m2 r2 t2)), .val (.int (fid1 m1 m2 r2 t2)), .val (.int (feb m1 m2)), .val (.ref o316), .val (.ref o401), .val (.ref o450), .val (.int (1 : Int32)), .unset] [.int (1 : Int32), .int (1 : Int32)])
      refine iand K S d0_531 ?_
      show Wp n0 p e _ s below _ T (mkF m 532 #[.val (.int x0), .val (.int x1), .val (.int x2), .val (.int x3), .val (.int x4), .val (.int m1), .val (.int m2), .val (.int r1), .val (.int r2), .val (.int t1), .val (.int t2), .val (.ref o50), s12, s13, .val (.int (fa1 m1)), s15, s16, s17, .val (.int (fsp0 m1 m2)), .val (.int (fsp1 m1 m2)), .val (.int (fid0 m1 m2 r2 t2)), .val (.int (fid1 m1 m2 r2 t2)), .val (.int (feb m1 m2)), .val (.ref o316), .val (.ref o401), .val (.ref o450), .val (.int (1 : Int32)), .unset] [.int (1 : Int32)])
      refine istore K S (l' := #[.val (.int x0), .val (.int x1), .val (.int x2), .val (.int x3), .val (.int x4), .val (.int m1), .val (.int m2), .val (.int r1), .val (.int r2), .val (.int t1), .val (.int t2), .val (.ref o50), s12, s13, .val (.int (fa1 m1)), s15, s16, s17, .val (.int (fsp0 m1 m2)), .val (.int (fsp1 m1 m2)), .val (.int (fid0 m1 m2 r2 t2)), .val (.int (fid1 m1 m2 r2 t2)), .val (.int (feb m1 m2)), .val (.ref o316), .val (.ref o401), .val (.ref o450), .val (.int (1 : Int32)), .unset]) rfl d0_532 ?_
      refine iload K S rfl d0_534 ?_
      refine aload K S rfl rfl d0_536 ?_
      refine iconst K S (x := (1 : Int32)) rfl d0_538 ?_
      refine iload K S rfl d0_539 ?_
      refine aload K S rfl rfl d0_541 ?_
      refine callS K S (W := 1) (m_co l Z a0 hw n0 o50 p0 p1 p2 p3 p4 p5 p6 p7 (1 : Int32) (feb m1 m2) o450 (fos m1 m2 r2 t2) L4 h464_18 (Sle S) H A_o450 (own_fosl _ (by decide)) (y2 _ (by decide))) (hwi hw 63 rfl) (hwi hw 64 rfl) (hwi hw 65 rfl) (hwi hw 30 rfl) (by decide) (by decide) (by decide) (by decide) (by decide) rfl (argsL := [.ref o50, .int (1 : Int32), .int (feb m1 m2), .ref o450]) rfl (lenOf pd_11 rfl) (rest := [.int (1 : Int32)]) rfl (Nat.le_of_eq rfl) d0_543 (pu fun T S => ?_)
      show Wp n0 p e _ s below _ T (mkF m 546 #[.val (.int x0), .val (.int x1), .val (.int x2), .val (.int x3), .val (.int x4), .val (.int m1), .val (.int m2), .val (.int r1), .val (.int r2), .val (.int t1), .val (.int t2), .val (.ref o50), s12, s13, .val (.int (fa1 m1)), s15, s16, s17, .val (.int (fsp0 m1 m2)), .val (.int (fsp1 m1 m2)), .val (.int (fid0 m1 m2 r2 t2)), .val (.int (fid1 m1 m2 r2 t2)), .val (.int (feb m1 m2)), .val (.ref o316), .val (.ref o401), .val (.ref o450), .val (.int (1 : Int32)), .unset] [.int (1 : Int32), .int (1 : Int32)])
      refine iand K S d0_546 ?_
      show Wp n0 p e _ s below _ T (mkF m 547 #[.val (.int x0), .val (.int x1), .val (.int x2), .val (.int x3), .val (.int x4), .val (.int m1), .val (.int m2), .val (.int r1), .val (.int r2), .val (.int t1), .val (.int t2), .val (.ref o50), s12, s13, .val (.int (fa1 m1)), s15, s16, s17, .val (.int (fsp0 m1 m2)), .val (.int (fsp1 m1 m2)), .val (.int (fid0 m1 m2 r2 t2)), .val (.int (fid1 m1 m2 r2 t2)), .val (.int (feb m1 m2)), .val (.ref o316), .val (.ref o401), .val (.ref o450), .val (.int (1 : Int32)), .unset] [.int (1 : Int32)])
      refine istore K S (l' := #[.val (.int x0), .val (.int x1), .val (.int x2), .val (.int x3), .val (.int x4), .val (.int m1), .val (.int m2), .val (.int r1), .val (.int r2), .val (.int t1), .val (.int t2), .val (.ref o50), s12, s13, .val (.int (fa1 m1)), s15, s16, s17, .val (.int (fsp0 m1 m2)), .val (.int (fsp1 m1 m2)), .val (.int (fid0 m1 m2 r2 t2)), .val (.int (fid1 m1 m2 r2 t2)), .val (.int (feb m1 m2)), .val (.ref o316), .val (.ref o401), .val (.ref o450), .val (.int (1 : Int32)), .unset]) rfl d0_547 ?_
      refine iload K S rfl d0_549 ?_
      refine aload K S rfl rfl d0_551 ?_
      refine iconst K S (x := (2 : Int32)) rfl d0_553 ?_
      refine iload K S rfl d0_554 ?_
      refine aload K S rfl rfl d0_556 ?_
      refine callS K S (W := 1) (m_co l Z a0 hw n0 o50 p0 p1 p2 p3 p4 p5 p6 p7 (2 : Int32) (feb m1 m2) o450 (fos m1 m2 r2 t2) L4 h464_18 (Sle S) H A_o450 (own_fosl _ (by decide)) (y2 _ (by decide))) (hwi hw 63 rfl) (hwi hw 64 rfl) (hwi hw 65 rfl) (hwi hw 30 rfl) (by decide) (by decide) (by decide) (by decide) (by decide) rfl (argsL := [.ref o50, .int (2 : Int32), .int (feb m1 m2), .ref o450]) rfl (lenOf pd_11 rfl) (rest := [.int (1 : Int32)]) rfl (Nat.le_of_eq rfl) d0_558 (pu fun T S => ?_)
      show Wp n0 p e _ s below _ T (mkF m 561 #[.val (.int x0), .val (.int x1), .val (.int x2), .val (.int x3), .val (.int x4), .val (.int m1), .val (.int m2), .val (.int r1), .val (.int r2), .val (.int t1), .val (.int t2), .val (.ref o50), s12, s13, .val (.int (fa1 m1)), s15, s16, s17, .val (.int (fsp0 m1 m2)), .val (.int (fsp1 m1 m2)), .val (.int (fid0 m1 m2 r2 t2)), .val (.int (fid1 m1 m2 r2 t2)), .val (.int (feb m1 m2)), .val (.ref o316), .val (.ref o401), .val (.ref o450), .val (.int (1 : Int32)), .unset] [.int (1 : Int32), .int (1 : Int32)])
      refine iand K S d0_561 ?_
      show Wp n0 p e _ s below _ T (mkF m 562 #[.val (.int x0), .val (.int x1), .val (.int x2), .val (.int x3), .val (.int x4), .val (.int m1), .val (.int m2), .val (.int r1), .val (.int r2), .val (.int t1), .val (.int t2), .val (.ref o50), s12, s13, .val (.int (fa1 m1)), s15, s16, s17, .val (.int (fsp0 m1 m2)), .val (.int (fsp1 m1 m2)), .val (.int (fid0 m1 m2 r2 t2)), .val (.int (fid1 m1 m2 r2 t2)), .val (.int (feb m1 m2)), .val (.ref o316), .val (.ref o401), .val (.ref o450), .val (.int (1 : Int32)), .unset] [.int (1 : Int32)])
      refine istore K S (l' := #[.val (.int x0), .val (.int x1), .val (.int x2), .val (.int x3), .val (.int x4), .val (.int m1), .val (.int m2), .val (.int r1), .val (.int r2), .val (.int t1), .val (.int t2), .val (.ref o50), s12, s13, .val (.int (fa1 m1)), s15, s16, s17, .val (.int (fsp0 m1 m2)), .val (.int (fsp1 m1 m2)), .val (.int (fid0 m1 m2 r2 t2)), .val (.int (fid1 m1 m2 r2 t2)), .val (.int (feb m1 m2)), .val (.ref o316), .val (.ref o401), .val (.ref o450), .val (.int (1 : Int32)), .unset]) rfl d0_562 ?_
      refine iload K S rfl d0_564 ?_
      refine aload K S rfl rfl d0_566 ?_
      refine iconst K S (x := (3 : Int32)) rfl d0_568 ?_
      refine iload K S rfl d0_569 ?_
      refine aload K S rfl rfl d0_571 ?_
      refine callS K S (W := 1) (m_co l Z a0 hw n0 o50 p0 p1 p2 p3 p4 p5 p6 p7 (3 : Int32) (feb m1 m2) o450 (fos m1 m2 r2 t2) L4 h464_18 (Sle S) H A_o450 (own_fosl _ (by decide)) (y2 _ (by decide))) (hwi hw 63 rfl) (hwi hw 64 rfl) (hwi hw 65 rfl) (hwi hw 30 rfl) (by decide) (by decide) (by decide) (by decide) (by decide) rfl (argsL := [.ref o50, .int (3 : Int32), .int (feb m1 m2), .ref o450]) rfl (lenOf pd_11 rfl) (rest := [.int (1 : Int32)]) rfl (Nat.le_of_eq rfl) d0_573 (pu fun T S => ?_)
      show Wp n0 p e _ s below _ T (mkF m 576 #[.val (.int x0), .val (.int x1), .val (.int x2), .val (.int x3), .val (.int x4), .val (.int m1), .val (.int m2), .val (.int r1), .val (.int r2), .val (.int t1), .val (.int t2), .val (.ref o50), s12, s13, .val (.int (fa1 m1)), s15, s16, s17, .val (.int (fsp0 m1 m2)), .val (.int (fsp1 m1 m2)), .val (.int (fid0 m1 m2 r2 t2)), .val (.int (fid1 m1 m2 r2 t2)), .val (.int (feb m1 m2)), .val (.ref o316), .val (.ref o401), .val (.ref o450), .val (.int (1 : Int32)), .unset] [.int (1 : Int32), .int (1 : Int32)])
      refine iand K S d0_576 ?_
      show Wp n0 p e _ s below _ T (mkF m 577 #[.val (.int x0), .val (.int x1), .val (.int x2), .val (.int x3), .val (.int x4), .val (.int m1), .val (.int m2), .val (.int r1), .val (.int r2), .val (.int t1), .val (.int t2), .val (.ref o50), s12, s13, .val (.int (fa1 m1)), s15, s16, s17, .val (.int (fsp0 m1 m2)), .val (.int (fsp1 m1 m2)), .val (.int (fid0 m1 m2 r2 t2)), .val (.int (fid1 m1 m2 r2 t2)), .val (.int (feb m1 m2)), .val (.ref o316), .val (.ref o401), .val (.ref o450), .val (.int (1 : Int32)), .unset] [.int (1 : Int32)])
      refine istore K S (l' := #[.val (.int x0), .val (.int x1), .val (.int x2), .val (.int x3), .val (.int x4), .val (.int m1), .val (.int m2), .val (.int r1), .val (.int r2), .val (.int t1), .val (.int t2), .val (.ref o50), s12, s13, .val (.int (fa1 m1)), s15, s16, s17, .val (.int (fsp0 m1 m2)), .val (.int (fsp1 m1 m2)), .val (.int (fid0 m1 m2 r2 t2)), .val (.int (fid1 m1 m2 r2 t2)), .val (.int (feb m1 m2)), .val (.ref o316), .val (.ref o401), .val (.ref o450), .val (.int (1 : Int32)), .unset]) rfl d0_577 ?_
      refine iload K S rfl d0_579 ?_
      refine aload K S rfl rfl d0_581 ?_
      refine iconst K S (x := (0 : Int32)) rfl d0_583 ?_
      refine iload K S rfl d0_584 ?_
      refine aload K S rfl rfl d0_586 ?_
      refine callS K S (W := 1) (m_cs l Z a0 hw n0 o50 p0 p1 p2 p3 p4 p5 p6 p7 (0 : Int32) (feb m1 m2) o401 (fzs m1 m2 r2 t2) L4 h464_18 (Sle S) H A_o401 (own_fzsl _ (by decide)) (y3 _ (by decide))) (hwi hw 71 rfl) (hwi hw 72 rfl) (hwi hw 73 rfl) (hwi hw 30 rfl) (by decide) (by decide) (by decide) (by decide) (by decide) rfl (argsL := [.ref o50, .int (0 : Int32), .int (feb m1 m2), .ref o401]) rfl (lenOf pd_13 rfl) (rest := [.int (1 : Int32)]) rfl (Nat.le_of_eq rfl) d0_588 (pu fun T S => ?_)
      show Wp n0 p e _ s below _ T (mkF m 591 #[.val (.int x0), .val (.int x1), .val (.int x2), .val (.int x3), .val (.int x4), .val (.int m1), .val (.int m2), .val (.int r1), .val (.int r2), .val (.int t1), .val (.int t2), .val (.ref o50), s12, s13, .val (.int (fa1 m1)), s15, s16, s17, .val (.int (fsp0 m1 m2)), .val (.int (fsp1 m1 m2)), .val (.int (fid0 m1 m2 r2 t2)), .val (.int (fid1 m1 m2 r2 t2)), .val (.int (feb m1 m2)), .val (.ref o316), .val (.ref o401), .val (.ref o450), .val (.int (1 : Int32)), .unset] [.int (1 : Int32), .int (1 : Int32)])
      refine iand K S d0_591 ?_
      show Wp n0 p e _ s below _ T (mkF m 592 #[.val (.int x0), .val (.int x1), .val (.int x2), .val (.int x3), .val (.int x4), .val (.int m1), .val (.int m2), .val (.int r1), .val (.int r2), .val (.int t1), .val (.int t2), .val (.ref o50), s12, s13, .val (.int (fa1 m1)), s15, s16, s17, .val (.int (fsp0 m1 m2)), .val (.int (fsp1 m1 m2)), .val (.int (fid0 m1 m2 r2 t2)), .val (.int (fid1 m1 m2 r2 t2)), .val (.int (feb m1 m2)), .val (.ref o316), .val (.ref o401), .val (.ref o450), .val (.int (1 : Int32)), .unset] [.int (1 : Int32)])
      refine istore K S (l' := #[.val (.int x0), .val (.int x1), .val (.int x2), .val (.int x3), .val (.int x4), .val (.int m1), .val (.int m2), .val (.int r1), .val (.int r2), .val (.int t1), .val (.int t2), .val (.ref o50), s12, s13, .val (.int (fa1 m1)), s15, s16, s17, .val (.int (fsp0 m1 m2)), .val (.int (fsp1 m1 m2)), .val (.int (fid0 m1 m2 r2 t2)), .val (.int (fid1 m1 m2 r2 t2)), .val (.int (feb m1 m2)), .val (.ref o316), .val (.ref o401), .val (.ref o450), .val (.int (1 : Int32)), .unset]) rfl d0_592 ?_
      refine iload K S rfl d0_594 ?_
      refine aload K S rfl rfl d0_596 ?_
      refine iconst K S (x := (1 : Int32)) rfl d0_598 ?_
      refine iload K S rfl d0_599 ?_
      refine aload K S rfl rfl d0_601 ?_
      refine callS K S (W := 1) (m_cs l Z a0 hw n0 o50 p0 p1 p2 p3 p4 p5 p6 p7 (1 : Int32) (feb m1 m2) o401 (fzs m1 m2 r2 t2) L4 h464_18 (Sle S) H A_o401 (own_fzsl _ (by decide)) (y3 _ (by decide))) (hwi hw 71 rfl) (hwi hw 72 rfl) (hwi hw 73 rfl) (hwi hw 30 rfl) (by decide) (by decide) (by decide) (by decide) (by decide) rfl (argsL := [.ref o50, .int (1 : Int32), .int (feb m1 m2), .ref o401]) rfl (lenOf pd_13 rfl) (rest := [.int (1 : Int32)]) rfl (Nat.le_of_eq rfl) d0_603 (pu fun T S => ?_)
      show Wp n0 p e _ s below _ T (mkF m 606 #[.val (.int x0), .val (.int x1), .val (.int x2), .val (.int x3), .val (.int x4), .val (.int m1), .val (.int m2), .val (.int r1), .val (.int r2), .val (.int t1), .val (.int t2), .val (.ref o50), s12, s13, .val (.int (fa1 m1)), s15, s16, s17, .val (.int (fsp0 m1 m2)), .val (.int (fsp1 m1 m2)), .val (.int (fid0 m1 m2 r2 t2)), .val (.int (fid1 m1 m2 r2 t2)), .val (.int (feb m1 m2)), .val (.ref o316), .val (.ref o401), .val (.ref o450), .val (.int (1 : Int32)), .unset] [.int (1 : Int32), .int (1 : Int32)])
      refine iand K S d0_606 ?_
      show Wp n0 p e _ s below _ T (mkF m 607 #[.val (.int x0), .val (.int x1), .val (.int x2), .val (.int x3), .val (.int x4), .val (.int m1), .val (.int m2), .val (.int r1), .val (.int r2), .val (.int t1), .val (.int t2), .val (.ref o50), s12, s13, .val (.int (fa1 m1)), s15, s16, s17, .val (.int (fsp0 m1 m2)), .val (.int (fsp1 m1 m2)), .val (.int (fid0 m1 m2 r2 t2)), .val (.int (fid1 m1 m2 r2 t2)), .val (.int (feb m1 m2)), .val (.ref o316), .val (.ref o401), .val (.ref o450), .val (.int (1 : Int32)), .unset] [.int (1 : Int32)])
      refine istore K S (l' := #[.val (.int x0), .val (.int x1), .val (.int x2), .val (.int x3), .val (.int x4), .val (.int m1), .val (.int m2), .val (.int r1), .val (.int r2), .val (.int t1), .val (.int t2), .val (.ref o50), s12, s13, .val (.int (fa1 m1)), s15, s16, s17, .val (.int (fsp0 m1 m2)), .val (.int (fsp1 m1 m2)), .val (.int (fid0 m1 m2 r2 t2)), .val (.int (fid1 m1 m2 r2 t2)), .val (.int (feb m1 m2)), .val (.ref o316), .val (.ref o401), .val (.ref o450), .val (.int (1 : Int32)), .unset]) rfl d0_607 ?_
      refine iload K S rfl d0_609 ?_
      refine aload K S rfl rfl d0_611 ?_
      refine iconst K S (x := (2 : Int32)) rfl d0_613 ?_
      refine iload K S rfl d0_614 ?_
      refine aload K S rfl rfl d0_616 ?_
      refine callS K S (W := 1) (m_cs l Z a0 hw n0 o50 p0 p1 p2 p3 p4 p5 p6 p7 (2 : Int32) (feb m1 m2) o401 (fzs m1 m2 r2 t2) L4 h464_18 (Sle S) H A_o401 (own_fzsl _ (by decide)) (y3 _ (by decide))) (hwi hw 71 rfl) (hwi hw 72 rfl) (hwi hw 73 rfl) (hwi hw 30 rfl) (by decide) (by decide) (by decide) (by decide) (by decide) rfl (argsL := [.ref o50, .int (2 : Int32), .int (feb m1 m2), .ref o401]) rfl (lenOf pd_13 rfl) (rest := [.int (1 : Int32)]) rfl (Nat.le_of_eq rfl) d0_618 (pu fun T S => ?_)
      show Wp n0 p e _ s below _ T (mkF m 621 #[.val (.int x0), .val (.int x1), .val (.int x2), .val (.int x3), .val (.int x4), .val (.int m1), .val (.int m2), .val (.int r1), .val (.int r2), .val (.int t1), .val (.int t2), .val (.ref o50), s12, s13, .val (.int (fa1 m1)), s15, s16, s17, .val (.int (fsp0 m1 m2)), .val (.int (fsp1 m1 m2)), .val (.int (fid0 m1 m2 r2 t2)), .val (.int (fid1 m1 m2 r2 t2)), .val (.int (feb m1 m2)), .val (.ref o316), .val (.ref o401), .val (.ref o450), .val (.int (1 : Int32)), .unset] [.int (1 : Int32), .int (1 : Int32)])
      refine iand K S d0_621 ?_
      show Wp n0 p e _ s below _ T (mkF m 622 #[.val (.int x0), .val (.int x1), .val (.int x2), .val (.int x3), .val (.int x4), .val (.int m1), .val (.int m2), .val (.int r1), .val (.int r2), .val (.int t1), .val (.int t2), .val (.ref o50), s12, s13, .val (.int (fa1 m1)), s15, s16, s17, .val (.int (fsp0 m1 m2)), .val (.int (fsp1 m1 m2)), .val (.int (fid0 m1 m2 r2 t2)), .val (.int (fid1 m1 m2 r2 t2)), .val (.int (feb m1 m2)), .val (.ref o316), .val (.ref o401), .val (.ref o450), .val (.int (1 : Int32)), .unset] [.int (1 : Int32)])
      refine istore K S (l' := #[.val (.int x0), .val (.int x1), .val (.int x2), .val (.int x3), .val (.int x4), .val (.int m1), .val (.int m2), .val (.int r1), .val (.int r2), .val (.int t1), .val (.int t2), .val (.ref o50), s12, s13, .val (.int (fa1 m1)), s15, s16, s17, .val (.int (fsp0 m1 m2)), .val (.int (fsp1 m1 m2)), .val (.int (fid0 m1 m2 r2 t2)), .val (.int (fid1 m1 m2 r2 t2)), .val (.int (feb m1 m2)), .val (.ref o316), .val (.ref o401), .val (.ref o450), .val (.int (1 : Int32)), .unset]) rfl d0_622 ?_
      refine iload K S rfl d0_624 ?_
      refine aload K S rfl rfl d0_626 ?_
      refine iconst K S (x := (3 : Int32)) rfl d0_628 ?_
      refine iload K S rfl d0_629 ?_
      refine aload K S rfl rfl d0_631 ?_
      refine callS K S (W := 1) (m_cs l Z a0 hw n0 o50 p0 p1 p2 p3 p4 p5 p6 p7 (3 : Int32) (feb m1 m2) o401 (fzs m1 m2 r2 t2) L4 h464_18 (Sle S) H A_o401 (own_fzsl _ (by decide)) (y3 _ (by decide))) (hwi hw 71 rfl) (hwi hw 72 rfl) (hwi hw 73 rfl) (hwi hw 30 rfl) (by decide) (by decide) (by decide) (by decide) (by decide) rfl (argsL := [.ref o50, .int (3 : Int32), .int (feb m1 m2), .ref o401]) rfl (lenOf pd_13 rfl) (rest := [.int (1 : Int32)]) rfl (Nat.le_of_eq rfl) d0_633 (pu fun T S => ?_)
      show Wp n0 p e _ s below _ T (mkF m 636 #[.val (.int x0), .val (.int x1), .val (.int x2), .val (.int x3), .val (.int x4), .val (.int m1), .val (.int m2), .val (.int r1), .val (.int r2), .val (.int t1), .val (.int t2), .val (.ref o50), s12, s13, .val (.int (fa1 m1)), s15, s16, s17, .val (.int (fsp0 m1 m2)), .val (.int (fsp1 m1 m2)), .val (.int (fid0 m1 m2 r2 t2)), .val (.int (fid1 m1 m2 r2 t2)), .val (.int (feb m1 m2)), .val (.ref o316), .val (.ref o401), .val (.ref o450), .val (.int (1 : Int32)), .unset] [.int (1 : Int32), .int (1 : Int32)])
      refine iand K S d0_636 ?_
      show Wp n0 p e _ s below _ T (mkF m 637 #[.val (.int x0), .val (.int x1), .val (.int x2), .val (.int x3), .val (.int x4), .val (.int m1), .val (.int m2), .val (.int r1), .val (.int r2), .val (.int t1), .val (.int t2), .val (.ref o50), s12, s13, .val (.int (fa1 m1)), s15, s16, s17, .val (.int (fsp0 m1 m2)), .val (.int (fsp1 m1 m2)), .val (.int (fid0 m1 m2 r2 t2)), .val (.int (fid1 m1 m2 r2 t2)), .val (.int (feb m1 m2)), .val (.ref o316), .val (.ref o401), .val (.ref o450), .val (.int (1 : Int32)), .unset] [.int (1 : Int32)])
      refine istore K S (l' := #[.val (.int x0), .val (.int x1), .val (.int x2), .val (.int x3), .val (.int x4), .val (.int m1), .val (.int m2), .val (.int r1), .val (.int r2), .val (.int t1), .val (.int t2), .val (.ref o50), s12, s13, .val (.int (fa1 m1)), s15, s16, s17, .val (.int (fsp0 m1 m2)), .val (.int (fsp1 m1 m2)), .val (.int (fid0 m1 m2 r2 t2)), .val (.int (fid1 m1 m2 r2 t2)), .val (.int (feb m1 m2)), .val (.ref o316), .val (.ref o401), .val (.ref o450), .val (.int (1 : Int32)), .unset]) rfl d0_637 ?_
      refine aload K S rfl rfl d0_639 ?_
      refine iconst K S (x := (0 : Int32)) rfl d0_641 ?_
      refine callS K S (W := 0) (m_pb l Z a0 hw n0 o50 p0 p1 p2 p3 p4 p5 p6 p7 (0 : Int32) L4 h464_18 (Sle S) H (y1 _ (by decide)).2.2) (hwi hw 79 rfl) (hwi hw 80 rfl) (hwi hw 81 rfl) (hwi hw 30 rfl) (by decide) (by decide) (by decide) (by decide) (by decide) rfl (argsL := [.ref o50, .int (0 : Int32)]) rfl (lenOf pd_15 rfl) (rest := []) rfl (Nat.le_of_eq rfl) d0_642 (pu fun T S => ?_)
      show Wp n0 p e _ s below _ T (mkF m 645 #[.val (.int x0), .val (.int x1), .val (.int x2), .val (.int x3), .val (.int x4), .val (.int m1), .val (.int m2), .val (.int r1), .val (.int r2), .val (.int t1), .val (.int t2), .val (.ref o50), s12, s13, .val (.int (fa1 m1)), s15, s16, s17, .val (.int (fsp0 m1 m2)), .val (.int (fsp1 m1 m2)), .val (.int (fid0 m1 m2 r2 t2)), .val (.int (fid1 m1 m2 r2 t2)), .val (.int (feb m1 m2)), .val (.ref o316), .val (.ref o401), .val (.ref o450), .val (.int (1 : Int32)), .unset] [.int (fpb L4 (0 : Int32))])
      refine aload K S rfl rfl d0_645 ?_
      refine iconst K S (x := (1 : Int32)) rfl d0_647 ?_
      refine callS K S (W := 1) (m_pb l Z a0 hw n0 o50 p0 p1 p2 p3 p4 p5 p6 p7 (1 : Int32) L4 h464_18 (Sle S) H (y1 _ (by decide)).2.2) (hwi hw 79 rfl) (hwi hw 80 rfl) (hwi hw 81 rfl) (hwi hw 30 rfl) (by decide) (by decide) (by decide) (by decide) (by decide) rfl (argsL := [.ref o50, .int (1 : Int32)]) rfl (lenOf pd_15 rfl) (rest := [.int (fpb L4 (0 : Int32))]) rfl (Nat.le_of_eq rfl) d0_648 (pu fun T S => ?_)
      show Wp n0 p e _ s below _ T (mkF m 651 #[.val (.int x0), .val (.int x1), .val (.int x2), .val (.int x3), .val (.int x4), .val (.int m1), .val (.int m2), .val (.int r1), .val (.int r2), .val (.int t1), .val (.int t2), .val (.ref o50), s12, s13, .val (.int (fa1 m1)), s15, s16, s17, .val (.int (fsp0 m1 m2)), .val (.int (fsp1 m1 m2)), .val (.int (fid0 m1 m2 r2 t2)), .val (.int (fid1 m1 m2 r2 t2)), .val (.int (feb m1 m2)), .val (.ref o316), .val (.ref o401), .val (.ref o450), .val (.int (1 : Int32)), .unset] [.int (fpb L4 (1 : Int32)), .int (fpb L4 (0 : Int32))])
      refine ior K S d0_651 ?_
      refine aload K S rfl rfl d0_652 ?_
      refine iconst K S (x := (2 : Int32)) rfl d0_654 ?_
      refine callS K S (W := 1) (m_pb l Z a0 hw n0 o50 p0 p1 p2 p3 p4 p5 p6 p7 (2 : Int32) L4 h464_18 (Sle S) H (y1 _ (by decide)).2.2) (hwi hw 79 rfl) (hwi hw 80 rfl) (hwi hw 81 rfl) (hwi hw 30 rfl) (by decide) (by decide) (by decide) (by decide) (by decide) rfl (argsL := [.ref o50, .int (2 : Int32)]) rfl (lenOf pd_15 rfl) (rest := [.int ((fpb L4 (0 : Int32)) ||| (fpb L4 (1 : Int32)))]) rfl (Nat.le_of_eq rfl) d0_655 (pu fun T S => ?_)
      show Wp n0 p e _ s below _ T (mkF m 658 #[.val (.int x0), .val (.int x1), .val (.int x2), .val (.int x3), .val (.int x4), .val (.int m1), .val (.int m2), .val (.int r1), .val (.int r2), .val (.int t1), .val (.int t2), .val (.ref o50), s12, s13, .val (.int (fa1 m1)), s15, s16, s17, .val (.int (fsp0 m1 m2)), .val (.int (fsp1 m1 m2)), .val (.int (fid0 m1 m2 r2 t2)), .val (.int (fid1 m1 m2 r2 t2)), .val (.int (feb m1 m2)), .val (.ref o316), .val (.ref o401), .val (.ref o450), .val (.int (1 : Int32)), .unset] [.int (fpb L4 (2 : Int32)), .int ((fpb L4 (0 : Int32)) ||| (fpb L4 (1 : Int32)))])
      refine ior K S d0_658 ?_
      refine aload K S rfl rfl d0_659 ?_
      refine iconst K S (x := (3 : Int32)) rfl d0_661 ?_
      refine callS K S (W := 1) (m_pb l Z a0 hw n0 o50 p0 p1 p2 p3 p4 p5 p6 p7 (3 : Int32) L4 h464_18 (Sle S) H (y1 _ (by decide)).2.2) (hwi hw 79 rfl) (hwi hw 80 rfl) (hwi hw 81 rfl) (hwi hw 30 rfl) (by decide) (by decide) (by decide) (by decide) (by decide) rfl (argsL := [.ref o50, .int (3 : Int32)]) rfl (lenOf pd_15 rfl) (rest := [.int (((fpb L4 (0 : Int32)) ||| (fpb L4 (1 : Int32))) ||| (fpb L4 (2 : Int32)))]) rfl (Nat.le_of_eq rfl) d0_662 (pu fun T S => ?_)
      show Wp n0 p e _ s below _ T (mkF m 665 #[.val (.int x0), .val (.int x1), .val (.int x2), .val (.int x3), .val (.int x4), .val (.int m1), .val (.int m2), .val (.int r1), .val (.int r2), .val (.int t1), .val (.int t2), .val (.ref o50), s12, s13, .val (.int (fa1 m1)), s15, s16, s17, .val (.int (fsp0 m1 m2)), .val (.int (fsp1 m1 m2)), .val (.int (fid0 m1 m2 r2 t2)), .val (.int (fid1 m1 m2 r2 t2)), .val (.int (feb m1 m2)), .val (.ref o316), .val (.ref o401), .val (.ref o450), .val (.int (1 : Int32)), .unset] [.int (fpb L4 (3 : Int32)), .int (((fpb L4 (0 : Int32)) ||| (fpb L4 (1 : Int32))) ||| (fpb L4 (2 : Int32)))])
      refine ior K S d0_665 ?_
      refine istore K S (l' := #[.val (.int x0), .val (.int x1), .val (.int x2), .val (.int x3), .val (.int x4), .val (.int m1), .val (.int m2), .val (.int r1), .val (.int r2), .val (.int t1), .val (.int t2), .val (.ref o50), s12, s13, .val (.int (fa1 m1)), s15, s16, s17, .val (.int (fsp0 m1 m2)), .val (.int (fsp1 m1 m2)), .val (.int (fid0 m1 m2 r2 t2)), .val (.int (fid1 m1 m2 r2 t2)), .val (.int (feb m1 m2)), .val (.ref o316), .val (.ref o401), .val (.ref o450), .val (.int (1 : Int32)), .val (.int ((((fpb L4 (0 : Int32)) ||| (fpb L4 (1 : Int32))) ||| (fpb L4 (2 : Int32))) ||| (fpb L4 (3 : Int32))))]) rfl d0_666 ?_
      refine iload K S rfl d0_668 ?_
      refine iload K S rfl d0_670 ?_
      refine bipush K S (x := (15 : Int32)) rfl d0_672 ?_
      refine icmp_ne K S d0_674 (fun c674 => ?_) (fun c674 => ?_)
      · exact absurd y4 c674
      refine iconst K S (x := (1 : Int32)) rfl d0_677 ?_
      refine goto K S d0_678 ?_
      refine iand K S d0_682 ?_
      show Wp n0 p e _ s below _ T (mkF m 683 #[.val (.int x0), .val (.int x1), .val (.int x2), .val (.int x3), .val (.int x4), .val (.int m1), .val (.int m2), .val (.int r1), .val (.int r2), .val (.int t1), .val (.int t2), .val (.ref o50), s12, s13, .val (.int (fa1 m1)), s15, s16, s17, .val (.int (fsp0 m1 m2)), .val (.int (fsp1 m1 m2)), .val (.int (fid0 m1 m2 r2 t2)), .val (.int (fid1 m1 m2 r2 t2)), .val (.int (feb m1 m2)), .val (.ref o316), .val (.ref o401), .val (.ref o450), .val (.int (1 : Int32)), .val (.int ((((fpb L4 (0 : Int32)) ||| (fpb L4 (1 : Int32))) ||| (fpb L4 (2 : Int32))) ||| (fpb L4 (3 : Int32))))] [.int (1 : Int32)])
      refine istore K S (l' := #[.val (.int x0), .val (.int x1), .val (.int x2), .val (.int x3), .val (.int x4), .val (.int m1), .val (.int m2), .val (.int r1), .val (.int r2), .val (.int t1), .val (.int t2), .val (.ref o50), s12, s13, .val (.int (fa1 m1)), s15, s16, s17, .val (.int (fsp0 m1 m2)), .val (.int (fsp1 m1 m2)), .val (.int (fid0 m1 m2 r2 t2)), .val (.int (fid1 m1 m2 r2 t2)), .val (.int (feb m1 m2)), .val (.ref o316), .val (.ref o401), .val (.ref o450), .val (.int (1 : Int32)), .val (.int ((((fpb L4 (0 : Int32)) ||| (fpb L4 (1 : Int32))) ||| (fpb L4 (2 : Int32))) ||| (fpb L4 (3 : Int32))))]) rfl d0_683 ?_
      refine iload K S rfl d0_685 ?_
      refine retn K S (by simp) (y := (1 : Int32)) rfl (by decide) (by decide) d0_687 ?_
      rfl
    refine iload K S rfl d0_92 ?_
    refine ific_eq K S d0_94 (fun c94 => ?_) (fun c94 => ?_)
    · refine iconst K S (x := (0 : Int32)) rfl d0_108 ?_
      refine istore K S (l' := #[.val (.int x0), .val (.int x1), .val (.int x2), .val (.int x3), .val (.int x4), .val (.int m1), .val (.int m2), .val (.int r1), .val (.int r2), .val (.int t1), .val (.int t2), .val (.ref o50), .val (.int (0 : Int32)), .unset, .unset, .unset, .unset, .unset, .unset, .unset, .unset, .unset, .unset, .unset, .unset, .unset, .unset, .unset]) rfl d0_109 ?_
      refine iload K S rfl d0_111 ?_
      refine ific_eq K S d0_113 (fun c113 => ?_) (fun c113 => ?_)
      rotate_left
      · exact absurd c113 (by decide)
      refine iconst K S (x := (1 : Int32)) rfl d0_120 ?_
      refine istore K S (l' := #[.val (.int x0), .val (.int x1), .val (.int x2), .val (.int x3), .val (.int x4), .val (.int m1), .val (.int m2), .val (.int r1), .val (.int r2), .val (.int t1), .val (.int t2), .val (.ref o50), .val (.int (0 : Int32)), .val (.int (1 : Int32)), .unset, .unset, .unset, .unset, .unset, .unset, .unset, .unset, .unset, .unset, .unset, .unset, .unset, .unset]) rfl d0_121 ?_
      refine iload K S rfl d0_123 ?_
      refine ific_eq K S d0_125 (fun c125 => ?_) (fun c125 => ?_)
      rotate_left
      · exact absurd c125 (by decide)
      refine iconst K S (x := (0 : Int32)) rfl d0_133 ?_
      refine istore K S (l' := #[.val (.int x0), .val (.int x1), .val (.int x2), .val (.int x3), .val (.int x4), .val (.int m1), .val (.int m2), .val (.int r1), .val (.int r2), .val (.int t1), .val (.int t2), .val (.ref o50), .val (.int (0 : Int32)), .val (.int (1 : Int32)), .val (.int (0 : Int32)), .unset, .unset, .unset, .unset, .unset, .unset, .unset, .unset, .unset, .unset, .unset, .unset, .unset]) rfl d0_134 ?_
      refine bipush K S (x := (15 : Int32)) rfl d0_136 ?_
      refine iload K S rfl d0_138 ?_
      refine iconst K S (x := (-1 : Int32)) rfl d0_140 ?_
      refine ixor K S d0_141 ?_
      refine iand K S d0_142 ?_
      refine istore K S (l' := #[.val (.int x0), .val (.int x1), .val (.int x2), .val (.int x3), .val (.int x4), .val (.int m1), .val (.int m2), .val (.int r1), .val (.int r2), .val (.int t1), .val (.int t2), .val (.ref o50), .val (.int (0 : Int32)), .val (.int (1 : Int32)), .val (.int (0 : Int32)), .val (.int ((15 : Int32) &&& ((0 : Int32) ^^^ (-1 : Int32)))), .unset, .unset, .unset, .unset, .unset, .unset, .unset, .unset, .unset, .unset, .unset, .unset]) rfl d0_143 ?_
      refine iload K S rfl d0_145 ?_
      refine iload K S rfl d0_147 ?_
      refine iand K S d0_149 ?_
      refine istore K S (l' := #[.val (.int x0), .val (.int x1), .val (.int x2), .val (.int x3), .val (.int x4), .val (.int m1), .val (.int m2), .val (.int r1), .val (.int r2), .val (.int t1), .val (.int t2), .val (.ref o50), .val (.int (0 : Int32)), .val (.int (1 : Int32)), .val (.int (0 : Int32)), .val (.int ((15 : Int32) &&& ((0 : Int32) ^^^ (-1 : Int32)))), .val (.int (m2 &&& ((15 : Int32) &&& ((0 : Int32) ^^^ (-1 : Int32))))), .unset, .unset, .unset, .unset, .unset, .unset, .unset, .unset, .unset, .unset, .unset]) rfl d0_150 ?_
      refine iload K S rfl d0_152 ?_
      refine iload K S rfl d0_154 ?_
      refine iand K S d0_156 ?_
      refine istore K S (l' := #[.val (.int x0), .val (.int x1), .val (.int x2), .val (.int x3), .val (.int x4), .val (.int m1), .val (.int m2), .val (.int r1), .val (.int r2), .val (.int t1), .val (.int t2), .val (.ref o50), .val (.int (0 : Int32)), .val (.int (1 : Int32)), .val (.int (0 : Int32)), .val (.int ((15 : Int32) &&& ((0 : Int32) ^^^ (-1 : Int32)))), .val (.int (m2 &&& ((15 : Int32) &&& ((0 : Int32) ^^^ (-1 : Int32))))), .val (.int (m2 &&& (0 : Int32))), .unset, .unset, .unset, .unset, .unset, .unset, .unset, .unset, .unset, .unset]) rfl d0_157 ?_
      refine iload K S rfl d0_159 ?_
      refine ific_eq K S d0_161 (fun c161 => ?_) (fun c161 => ?_)
      · refine iconst K S (x := (0 : Int32)) rfl d0_175 ?_
        refine istore K S (l' := #[.val (.int x0), .val (.int x1), .val (.int x2), .val (.int x3), .val (.int x4), .val (.int m1), .val (.int m2), .val (.int r1), .val (.int r2), .val (.int t1), .val (.int t2), .val (.ref o50), .val (.int (0 : Int32)), .val (.int (1 : Int32)), .val (.int (0 : Int32)), .val (.int ((15 : Int32) &&& ((0 : Int32) ^^^ (-1 : Int32)))), .val (.int (m2 &&& ((15 : Int32) &&& ((0 : Int32) ^^^ (-1 : Int32))))), .val (.int (m2 &&& (0 : Int32))), .val (.int (0 : Int32)), .unset, .unset, .unset, .unset, .unset, .unset, .unset, .unset, .unset]) rfl d0_176 ?_
        refine iload K S rfl d0_178 ?_
        refine ific_eq K S d0_180 (fun c180 => ?_) (fun c180 => ?_)
        · refine iconst K S (x := (0 : Int32)) rfl d0_194 ?_
          refine istore K S (l' := #[.val (.int x0), .val (.int x1), .val (.int x2), .val (.int x3), .val (.int x4), .val (.int m1), .val (.int m2), .val (.int r1), .val (.int r2), .val (.int t1), .val (.int t2), .val (.ref o50), .val (.int (0 : Int32)), .val (.int (1 : Int32)), .val (.int (0 : Int32)), .val (.int ((15 : Int32) &&& ((0 : Int32) ^^^ (-1 : Int32)))), .val (.int (m2 &&& ((15 : Int32) &&& ((0 : Int32) ^^^ (-1 : Int32))))), .val (.int (m2 &&& (0 : Int32))), .val (.int (0 : Int32)), .val (.int (0 : Int32)), .unset, .unset, .unset, .unset, .unset, .unset, .unset, .unset]) rfl d0_195 ?_
          refine iconst K S (x := (0 : Int32)) rfl d0_197 ?_
          refine istore K S (l' := #[.val (.int x0), .val (.int x1), .val (.int x2), .val (.int x3), .val (.int x4), .val (.int m1), .val (.int m2), .val (.int r1), .val (.int r2), .val (.int t1), .val (.int t2), .val (.ref o50), .val (.int (0 : Int32)), .val (.int (1 : Int32)), .val (.int (0 : Int32)), .val (.int ((15 : Int32) &&& ((0 : Int32) ^^^ (-1 : Int32)))), .val (.int (m2 &&& ((15 : Int32) &&& ((0 : Int32) ^^^ (-1 : Int32))))), .val (.int (m2 &&& (0 : Int32))), .val (.int (0 : Int32)), .val (.int (0 : Int32)), .val (.int (0 : Int32)), .unset, .unset, .unset, .unset, .unset, .unset, .unset]) rfl d0_198 ?_
          refine iconst K S (x := (1 : Int32)) rfl d0_200 ?_
          refine istore K S (l' := #[.val (.int x0), .val (.int x1), .val (.int x2), .val (.int x3), .val (.int x4), .val (.int m1), .val (.int m2), .val (.int r1), .val (.int r2), .val (.int t1), .val (.int t2), .val (.ref o50), .val (.int (0 : Int32)), .val (.int (1 : Int32)), .val (.int (0 : Int32)), .val (.int ((15 : Int32) &&& ((0 : Int32) ^^^ (-1 : Int32)))), .val (.int (m2 &&& ((15 : Int32) &&& ((0 : Int32) ^^^ (-1 : Int32))))), .val (.int (m2 &&& (0 : Int32))), .val (.int (0 : Int32)), .val (.int (0 : Int32)), .val (.int (0 : Int32)), .val (.int (1 : Int32)), .unset, .unset, .unset, .unset, .unset, .unset]) rfl d0_201 ?_
          refine iload K S rfl d0_203 ?_
          refine ific_eq K S d0_205 (fun c205 => ?_) (fun c205 => ?_)
          rotate_left
          · exact absurd c205 (by decide)
          refine iload K S rfl d0_268 ?_
          refine ific_eq K S d0_270 (fun c270 => ?_) (fun c270 => ?_)
          rotate_left
          · exact absurd c270 (by decide)
          refine iload K S rfl d0_280 ?_
          refine ific_eq K S d0_282 (fun c282 => ?_) (fun c282 => ?_)
          rotate_left
          · exact absurd c282 (by decide)
          refine iload K S rfl d0_289 ?_
          refine iload K S rfl d0_291 ?_
          refine ific_eq K S d0_293 (fun c293 => ?_) (fun c293 => ?_)
          rotate_left
          · exact absurd c293 (by decide)
          refine iconst K S (x := (0 : Int32)) rfl d0_300 ?_
          refine iadd K S d0_301 ?_
          show Wp n0 p e _ s below _ T (mkF m 302 #[.val (.int x0), .val (.int x1), .val (.int x2), .val (.int x3), .val (.int x4), .val (.int m1), .val (.int m2), .val (.int r1), .val (.int r2), .val (.int t1), .val (.int t2), .val (.ref o50), .val (.int (0 : Int32)), .val (.int (1 : Int32)), .val (.int (0 : Int32)), .val (.int ((15 : Int32) &&& ((0 : Int32) ^^^ (-1 : Int32)))), .val (.int (m2 &&& ((15 : Int32) &&& ((0 : Int32) ^^^ (-1 : Int32))))), .val (.int (m2 &&& (0 : Int32))), .val (.int (0 : Int32)), .val (.int (0 : Int32)), .val (.int (0 : Int32)), .val (.int (1 : Int32)), .unset, .unset, .unset, .unset, .unset, .unset] [.int (1 : Int32)])
          refine iload K S rfl d0_302 ?_
          refine ific_eq K S d0_304 (fun c304 => ?_) (fun c304 => ?_)
          rotate_left
          · exact absurd c304 (by decide)
          refine iconst K S (x := (0 : Int32)) rfl d0_311 ?_
          refine iadd K S d0_312 ?_
          show Wp n0 p e _ s below _ T (mkF m 313 #[.val (.int x0), .val (.int x1), .val (.int x2), .val (.int x3), .val (.int x4), .val (.int m1), .val (.int m2), .val (.int r1), .val (.int r2), .val (.int t1), .val (.int t2), .val (.ref o50), .val (.int (0 : Int32)), .val (.int (1 : Int32)), .val (.int (0 : Int32)), .val (.int ((15 : Int32) &&& ((0 : Int32) ^^^ (-1 : Int32)))), .val (.int (m2 &&& ((15 : Int32) &&& ((0 : Int32) ^^^ (-1 : Int32))))), .val (.int (m2 &&& (0 : Int32))), .val (.int (0 : Int32)), .val (.int (0 : Int32)), .val (.int (0 : Int32)), .val (.int (1 : Int32)), .unset, .unset, .unset, .unset, .unset, .unset] [.int (1 : Int32)])
          refine istore K S (l' := #[.val (.int x0), .val (.int x1), .val (.int x2), .val (.int x3), .val (.int x4), .val (.int m1), .val (.int m2), .val (.int r1), .val (.int r2), .val (.int t1), .val (.int t2), .val (.ref o50), .val (.int (0 : Int32)), .val (.int (1 : Int32)), .val (.int (0 : Int32)), .val (.int ((15 : Int32) &&& ((0 : Int32) ^^^ (-1 : Int32)))), .val (.int (m2 &&& ((15 : Int32) &&& ((0 : Int32) ^^^ (-1 : Int32))))), .val (.int (m2 &&& (0 : Int32))), .val (.int (0 : Int32)), .val (.int (0 : Int32)), .val (.int (0 : Int32)), .val (.int (1 : Int32)), .val (.int (1 : Int32)), .unset, .unset, .unset, .unset, .unset]) rfl d0_313 ?_
          have eb1 : fb1 m1 = (1 : Int32) := by simp [fb1, c94]
          have ea1 : fa1 m1 = (0 : Int32) := by simp [fa1, c94]
          have ea0 : fa0 m1 = ((15 : Int32) &&& ((0 : Int32) ^^^ (-1 : Int32))) := by rw [fa0, ea1]
          have efsp0 : fsp0 m1 m2 = (0 : Int32) := by rw [fsp0, ea0, fsp, if_pos c161]
          have efsp1 : fsp1 m1 m2 = (0 : Int32) := by rw [fsp1, ea1, fsp, if_pos c180]
          have ei0 : fid0 m1 m2 r2 t2 = (0 : Int32) := by simp [fid0, efsp0, efsp1, eb1]
          have ei1 : fid1 m1 m2 r2 t2 = (1 : Int32) := by simp [fid1, efsp0, efsp1, eb1]
          have eeb : feb m1 m2 = (1 : Int32) := by rw [feb, efsp0, efsp1, eb1] <;> decide
          have J := J315 T (.val (.int (0 : Int32))) (.val (.int (1 : Int32))) (.val (.int ((15 : Int32) &&& ((0 : Int32) ^^^ (-1 : Int32))))) (.val (.int (m2 &&& ((15 : Int32) &&& ((0 : Int32) ^^^ (-1 : Int32)))))) (.val (.int (m2 &&& (0 : Int32)))) (.unset) S One.u
          rw [ea1, efsp0, efsp1, ei0, ei1, eeb] at J
          exact J
        refine iload K S rfl d0_183 ?_
        refine iload K S rfl d0_185 ?_
        refine icmp_eq K S d0_187 (fun c187 => ?_) (fun c187 => ?_)
        · refine iconst K S (x := (0 : Int32)) rfl d0_194 ?_
          refine istore K S (l' := #[.val (.int x0), .val (.int x1), .val (.int x2), .val (.int x3), .val (.int x4), .val (.int m1), .val (.int m2), .val (.int r1), .val (.int r2), .val (.int t1), .val (.int t2), .val (.ref o50), .val (.int (0 : Int32)), .val (.int (1 : Int32)), .val (.int (0 : Int32)), .val (.int ((15 : Int32) &&& ((0 : Int32) ^^^ (-1 : Int32)))), .val (.int (m2 &&& ((15 : Int32) &&& ((0 : Int32) ^^^ (-1 : Int32))))), .val (.int (m2 &&& (0 : Int32))), .val (.int (0 : Int32)), .val (.int (0 : Int32)), .unset, .unset, .unset, .unset, .unset, .unset, .unset, .unset]) rfl d0_195 ?_
          refine iconst K S (x := (0 : Int32)) rfl d0_197 ?_
          refine istore K S (l' := #[.val (.int x0), .val (.int x1), .val (.int x2), .val (.int x3), .val (.int x4), .val (.int m1), .val (.int m2), .val (.int r1), .val (.int r2), .val (.int t1), .val (.int t2), .val (.ref o50), .val (.int (0 : Int32)), .val (.int (1 : Int32)), .val (.int (0 : Int32)), .val (.int ((15 : Int32) &&& ((0 : Int32) ^^^ (-1 : Int32)))), .val (.int (m2 &&& ((15 : Int32) &&& ((0 : Int32) ^^^ (-1 : Int32))))), .val (.int (m2 &&& (0 : Int32))), .val (.int (0 : Int32)), .val (.int (0 : Int32)), .val (.int (0 : Int32)), .unset, .unset, .unset, .unset, .unset, .unset, .unset]) rfl d0_198 ?_
          refine iconst K S (x := (1 : Int32)) rfl d0_200 ?_
          refine istore K S (l' := #[.val (.int x0), .val (.int x1), .val (.int x2), .val (.int x3), .val (.int x4), .val (.int m1), .val (.int m2), .val (.int r1), .val (.int r2), .val (.int t1), .val (.int t2), .val (.ref o50), .val (.int (0 : Int32)), .val (.int (1 : Int32)), .val (.int (0 : Int32)), .val (.int ((15 : Int32) &&& ((0 : Int32) ^^^ (-1 : Int32)))), .val (.int (m2 &&& ((15 : Int32) &&& ((0 : Int32) ^^^ (-1 : Int32))))), .val (.int (m2 &&& (0 : Int32))), .val (.int (0 : Int32)), .val (.int (0 : Int32)), .val (.int (0 : Int32)), .val (.int (1 : Int32)), .unset, .unset, .unset, .unset, .unset, .unset]) rfl d0_201 ?_
          refine iload K S rfl d0_203 ?_
          refine ific_eq K S d0_205 (fun c205 => ?_) (fun c205 => ?_)
          rotate_left
          · exact absurd c205 (by decide)
          refine iload K S rfl d0_268 ?_
          refine ific_eq K S d0_270 (fun c270 => ?_) (fun c270 => ?_)
          rotate_left
          · exact absurd c270 (by decide)
          refine iload K S rfl d0_280 ?_
          refine ific_eq K S d0_282 (fun c282 => ?_) (fun c282 => ?_)
          rotate_left
          · exact absurd c282 (by decide)
          refine iload K S rfl d0_289 ?_
          refine iload K S rfl d0_291 ?_
          refine ific_eq K S d0_293 (fun c293 => ?_) (fun c293 => ?_)
          rotate_left
          · exact absurd c293 (by decide)
          refine iconst K S (x := (0 : Int32)) rfl d0_300 ?_
          refine iadd K S d0_301 ?_
          show Wp n0 p e _ s below _ T (mkF m 302 #[.val (.int x0), .val (.int x1), .val (.int x2), .val (.int x3), .val (.int x4), .val (.int m1), .val (.int m2), .val (.int r1), .val (.int r2), .val (.int t1), .val (.int t2), .val (.ref o50), .val (.int (0 : Int32)), .val (.int (1 : Int32)), .val (.int (0 : Int32)), .val (.int ((15 : Int32) &&& ((0 : Int32) ^^^ (-1 : Int32)))), .val (.int (m2 &&& ((15 : Int32) &&& ((0 : Int32) ^^^ (-1 : Int32))))), .val (.int (m2 &&& (0 : Int32))), .val (.int (0 : Int32)), .val (.int (0 : Int32)), .val (.int (0 : Int32)), .val (.int (1 : Int32)), .unset, .unset, .unset, .unset, .unset, .unset] [.int (1 : Int32)])
          refine iload K S rfl d0_302 ?_
          refine ific_eq K S d0_304 (fun c304 => ?_) (fun c304 => ?_)
          rotate_left
          · exact absurd c304 (by decide)
          refine iconst K S (x := (0 : Int32)) rfl d0_311 ?_
          refine iadd K S d0_312 ?_
          show Wp n0 p e _ s below _ T (mkF m 313 #[.val (.int x0), .val (.int x1), .val (.int x2), .val (.int x3), .val (.int x4), .val (.int m1), .val (.int m2), .val (.int r1), .val (.int r2), .val (.int t1), .val (.int t2), .val (.ref o50), .val (.int (0 : Int32)), .val (.int (1 : Int32)), .val (.int (0 : Int32)), .val (.int ((15 : Int32) &&& ((0 : Int32) ^^^ (-1 : Int32)))), .val (.int (m2 &&& ((15 : Int32) &&& ((0 : Int32) ^^^ (-1 : Int32))))), .val (.int (m2 &&& (0 : Int32))), .val (.int (0 : Int32)), .val (.int (0 : Int32)), .val (.int (0 : Int32)), .val (.int (1 : Int32)), .unset, .unset, .unset, .unset, .unset, .unset] [.int (1 : Int32)])
          refine istore K S (l' := #[.val (.int x0), .val (.int x1), .val (.int x2), .val (.int x3), .val (.int x4), .val (.int m1), .val (.int m2), .val (.int r1), .val (.int r2), .val (.int t1), .val (.int t2), .val (.ref o50), .val (.int (0 : Int32)), .val (.int (1 : Int32)), .val (.int (0 : Int32)), .val (.int ((15 : Int32) &&& ((0 : Int32) ^^^ (-1 : Int32)))), .val (.int (m2 &&& ((15 : Int32) &&& ((0 : Int32) ^^^ (-1 : Int32))))), .val (.int (m2 &&& (0 : Int32))), .val (.int (0 : Int32)), .val (.int (0 : Int32)), .val (.int (0 : Int32)), .val (.int (1 : Int32)), .val (.int (1 : Int32)), .unset, .unset, .unset, .unset, .unset]) rfl d0_313 ?_
          have eb1 : fb1 m1 = (1 : Int32) := by simp [fb1, c94]
          have ea1 : fa1 m1 = (0 : Int32) := by simp [fa1, c94]
          have ea0 : fa0 m1 = ((15 : Int32) &&& ((0 : Int32) ^^^ (-1 : Int32))) := by rw [fa0, ea1]
          have efsp0 : fsp0 m1 m2 = (0 : Int32) := by rw [fsp0, ea0, fsp, if_pos c161]
          have efsp1 : fsp1 m1 m2 = (0 : Int32) := by rw [fsp1, ea1, fsp, if_neg c180, if_pos c187]
          have ei0 : fid0 m1 m2 r2 t2 = (0 : Int32) := by simp [fid0, efsp0, efsp1, eb1]
          have ei1 : fid1 m1 m2 r2 t2 = (1 : Int32) := by simp [fid1, efsp0, efsp1, eb1]
          have eeb : feb m1 m2 = (1 : Int32) := by rw [feb, efsp0, efsp1, eb1] <;> decide
          have J := J315 T (.val (.int (0 : Int32))) (.val (.int (1 : Int32))) (.val (.int ((15 : Int32) &&& ((0 : Int32) ^^^ (-1 : Int32))))) (.val (.int (m2 &&& ((15 : Int32) &&& ((0 : Int32) ^^^ (-1 : Int32)))))) (.val (.int (m2 &&& (0 : Int32)))) (.unset) S One.u
          rw [ea1, efsp0, efsp1, ei0, ei1, eeb] at J
          exact J
        refine iconst K S (x := (1 : Int32)) rfl d0_190 ?_
        refine goto K S d0_191 ?_
        refine istore K S (l' := #[.val (.int x0), .val (.int x1), .val (.int x2), .val (.int x3), .val (.int x4), .val (.int m1), .val (.int m2), .val (.int r1), .val (.int r2), .val (.int t1), .val (.int t2), .val (.ref o50), .val (.int (0 : Int32)), .val (.int (1 : Int32)), .val (.int (0 : Int32)), .val (.int ((15 : Int32) &&& ((0 : Int32) ^^^ (-1 : Int32)))), .val (.int (m2 &&& ((15 : Int32) &&& ((0 : Int32) ^^^ (-1 : Int32))))), .val (.int (m2 &&& (0 : Int32))), .val (.int (0 : Int32)), .val (.int (1 : Int32)), .unset, .unset, .unset, .unset, .unset, .unset, .unset, .unset]) rfl d0_195 ?_
        refine iconst K S (x := (0 : Int32)) rfl d0_197 ?_
        refine istore K S (l' := #[.val (.int x0), .val (.int x1), .val (.int x2), .val (.int x3), .val (.int x4), .val (.int m1), .val (.int m2), .val (.int r1), .val (.int r2), .val (.int t1), .val (.int t2), .val (.ref o50), .val (.int (0 : Int32)), .val (.int (1 : Int32)), .val (.int (0 : Int32)), .val (.int ((15 : Int32) &&& ((0 : Int32) ^^^ (-1 : Int32)))), .val (.int (m2 &&& ((15 : Int32) &&& ((0 : Int32) ^^^ (-1 : Int32))))), .val (.int (m2 &&& (0 : Int32))), .val (.int (0 : Int32)), .val (.int (1 : Int32)), .val (.int (0 : Int32)), .unset, .unset, .unset, .unset, .unset, .unset, .unset]) rfl d0_198 ?_
        refine iconst K S (x := (1 : Int32)) rfl d0_200 ?_
        refine istore K S (l' := #[.val (.int x0), .val (.int x1), .val (.int x2), .val (.int x3), .val (.int x4), .val (.int m1), .val (.int m2), .val (.int r1), .val (.int r2), .val (.int t1), .val (.int t2), .val (.ref o50), .val (.int (0 : Int32)), .val (.int (1 : Int32)), .val (.int (0 : Int32)), .val (.int ((15 : Int32) &&& ((0 : Int32) ^^^ (-1 : Int32)))), .val (.int (m2 &&& ((15 : Int32) &&& ((0 : Int32) ^^^ (-1 : Int32))))), .val (.int (m2 &&& (0 : Int32))), .val (.int (0 : Int32)), .val (.int (1 : Int32)), .val (.int (0 : Int32)), .val (.int (1 : Int32)), .unset, .unset, .unset, .unset, .unset, .unset]) rfl d0_201 ?_
        refine iload K S rfl d0_203 ?_
        refine ific_eq K S d0_205 (fun c205 => ?_) (fun c205 => ?_)
        rotate_left
        · exact absurd c205 (by decide)
        refine iload K S rfl d0_268 ?_
        refine ific_eq K S d0_270 (fun c270 => ?_) (fun c270 => ?_)
        rotate_left
        · exact absurd c270 (by decide)
        refine iload K S rfl d0_280 ?_
        refine ific_eq K S d0_282 (fun c282 => ?_) (fun c282 => ?_)
        · exact absurd c282 (by decide)
        refine iload K S rfl d0_285 ?_
        refine istore K S (l' := #[.val (.int x0), .val (.int x1), .val (.int x2), .val (.int x3), .val (.int x4), .val (.int m1), .val (.int m2), .val (.int r1), .val (.int r2), .val (.int t1), .val (.int t2), .val (.ref o50), .val (.int (0 : Int32)), .val (.int (1 : Int32)), .val (.int (0 : Int32)), .val (.int ((15 : Int32) &&& ((0 : Int32) ^^^ (-1 : Int32)))), .val (.int (m2 &&& ((15 : Int32) &&& ((0 : Int32) ^^^ (-1 : Int32))))), .val (.int (m2 &&& (0 : Int32))), .val (.int (0 : Int32)), .val (.int (1 : Int32)), .val (.int (0 : Int32)), .val (.int (1 : Int32)), .unset, .unset, .unset, .unset, .unset, .unset]) rfl d0_287 ?_
        refine iload K S rfl d0_289 ?_
        refine iload K S rfl d0_291 ?_
        refine ific_eq K S d0_293 (fun c293 => ?_) (fun c293 => ?_)
        rotate_left
        · exact absurd c293 (by decide)
        refine iconst K S (x := (0 : Int32)) rfl d0_300 ?_
        refine iadd K S d0_301 ?_
        show Wp n0 p e _ s below _ T (mkF m 302 #[.val (.int x0), .val (.int x1), .val (.int x2), .val (.int x3), .val (.int x4), .val (.int m1), .val (.int m2), .val (.int r1), .val (.int r2), .val (.int t1), .val (.int t2), .val (.ref o50), .val (.int (0 : Int32)), .val (.int (1 : Int32)), .val (.int (0 : Int32)), .val (.int ((15 : Int32) &&& ((0 : Int32) ^^^ (-1 : Int32)))), .val (.int (m2 &&& ((15 : Int32) &&& ((0 : Int32) ^^^ (-1 : Int32))))), .val (.int (m2 &&& (0 : Int32))), .val (.int (0 : Int32)), .val (.int (1 : Int32)), .val (.int (0 : Int32)), .val (.int (1 : Int32)), .unset, .unset, .unset, .unset, .unset, .unset] [.int (1 : Int32)])
        refine iload K S rfl d0_302 ?_
        refine ific_eq K S d0_304 (fun c304 => ?_) (fun c304 => ?_)
        · exact absurd c304 (by decide)
        refine iconst K S (x := (1 : Int32)) rfl d0_307 ?_
        refine goto K S d0_308 ?_
        refine iadd K S d0_312 ?_
        show Wp n0 p e _ s below _ T (mkF m 313 #[.val (.int x0), .val (.int x1), .val (.int x2), .val (.int x3), .val (.int x4), .val (.int m1), .val (.int m2), .val (.int r1), .val (.int r2), .val (.int t1), .val (.int t2), .val (.ref o50), .val (.int (0 : Int32)), .val (.int (1 : Int32)), .val (.int (0 : Int32)), .val (.int ((15 : Int32) &&& ((0 : Int32) ^^^ (-1 : Int32)))), .val (.int (m2 &&& ((15 : Int32) &&& ((0 : Int32) ^^^ (-1 : Int32))))), .val (.int (m2 &&& (0 : Int32))), .val (.int (0 : Int32)), .val (.int (1 : Int32)), .val (.int (0 : Int32)), .val (.int (1 : Int32)), .unset, .unset, .unset, .unset, .unset, .unset] [.int (2 : Int32)])
        refine istore K S (l' := #[.val (.int x0), .val (.int x1), .val (.int x2), .val (.int x3), .val (.int x4), .val (.int m1), .val (.int m2), .val (.int r1), .val (.int r2), .val (.int t1), .val (.int t2), .val (.ref o50), .val (.int (0 : Int32)), .val (.int (1 : Int32)), .val (.int (0 : Int32)), .val (.int ((15 : Int32) &&& ((0 : Int32) ^^^ (-1 : Int32)))), .val (.int (m2 &&& ((15 : Int32) &&& ((0 : Int32) ^^^ (-1 : Int32))))), .val (.int (m2 &&& (0 : Int32))), .val (.int (0 : Int32)), .val (.int (1 : Int32)), .val (.int (0 : Int32)), .val (.int (1 : Int32)), .val (.int (2 : Int32)), .unset, .unset, .unset, .unset, .unset]) rfl d0_313 ?_
        have eb1 : fb1 m1 = (1 : Int32) := by simp [fb1, c94]
        have ea1 : fa1 m1 = (0 : Int32) := by simp [fa1, c94]
        have ea0 : fa0 m1 = ((15 : Int32) &&& ((0 : Int32) ^^^ (-1 : Int32))) := by rw [fa0, ea1]
        have efsp0 : fsp0 m1 m2 = (0 : Int32) := by rw [fsp0, ea0, fsp, if_pos c161]
        have efsp1 : fsp1 m1 m2 = (1 : Int32) := by rw [fsp1, ea1, fsp, if_neg c180, if_neg c187]
        have ei0 : fid0 m1 m2 r2 t2 = (0 : Int32) := by simp [fid0, efsp0, efsp1, eb1]
        have ei1 : fid1 m1 m2 r2 t2 = (1 : Int32) := by simp [fid1, efsp0, efsp1, eb1]
        have eeb : feb m1 m2 = (2 : Int32) := by rw [feb, efsp0, efsp1, eb1] <;> decide
        have J := J315 T (.val (.int (0 : Int32))) (.val (.int (1 : Int32))) (.val (.int ((15 : Int32) &&& ((0 : Int32) ^^^ (-1 : Int32))))) (.val (.int (m2 &&& ((15 : Int32) &&& ((0 : Int32) ^^^ (-1 : Int32)))))) (.val (.int (m2 &&& (0 : Int32)))) (.unset) S One.u
        rw [ea1, efsp0, efsp1, ei0, ei1, eeb] at J
        exact J
      refine iload K S rfl d0_164 ?_
      refine iload K S rfl d0_166 ?_
      refine icmp_eq K S d0_168 (fun c168 => ?_) (fun c168 => ?_)
      · refine iconst K S (x := (0 : Int32)) rfl d0_175 ?_
        refine istore K S (l' := #[.val (.int x0), .val (.int x1), .val (.int x2), .val (.int x3), .val (.int x4), .val (.int m1), .val (.int m2), .val (.int r1), .val (.int r2), .val (.int t1), .val (.int t2), .val (.ref o50), .val (.int (0 : Int32)), .val (.int (1 : Int32)), .val (.int (0 : Int32)), .val (.int ((15 : Int32) &&& ((0 : Int32) ^^^ (-1 : Int32)))), .val (.int (m2 &&& ((15 : Int32) &&& ((0 : Int32) ^^^ (-1 : Int32))))), .val (.int (m2 &&& (0 : Int32))), .val (.int (0 : Int32)), .unset, .unset, .unset, .unset, .unset, .unset, .unset, .unset, .unset]) rfl d0_176 ?_
        refine iload K S rfl d0_178 ?_
        refine ific_eq K S d0_180 (fun c180 => ?_) (fun c180 => ?_)
        · refine iconst K S (x := (0 : Int32)) rfl d0_194 ?_
          refine istore K S (l' := #[.val (.int x0), .val (.int x1), .val (.int x2), .val (.int x3), .val (.int x4), .val (.int m1), .val (.int m2), .val (.int r1), .val (.int r2), .val (.int t1), .val (.int t2), .val (.ref o50), .val (.int (0 : Int32)), .val (.int (1 : Int32)), .val (.int (0 : Int32)), .val (.int ((15 : Int32) &&& ((0 : Int32) ^^^ (-1 : Int32)))), .val (.int (m2 &&& ((15 : Int32) &&& ((0 : Int32) ^^^ (-1 : Int32))))), .val (.int (m2 &&& (0 : Int32))), .val (.int (0 : Int32)), .val (.int (0 : Int32)), .unset, .unset, .unset, .unset, .unset, .unset, .unset, .unset]) rfl d0_195 ?_
          refine iconst K S (x := (0 : Int32)) rfl d0_197 ?_
          refine istore K S (l' := #[.val (.int x0), .val (.int x1), .val (.int x2), .val (.int x3), .val (.int x4), .val (.int m1), .val (.int m2), .val (.int r1), .val (.int r2), .val (.int t1), .val (.int t2), .val (.ref o50), .val (.int (0 : Int32)), .val (.int (1 : Int32)), .val (.int (0 : Int32)), .val (.int ((15 : Int32) &&& ((0 : Int32) ^^^ (-1 : Int32)))), .val (.int (m2 &&& ((15 : Int32) &&& ((0 : Int32) ^^^ (-1 : Int32))))), .val (.int (m2 &&& (0 : Int32))), .val (.int (0 : Int32)), .val (.int (0 : Int32)), .val (.int (0 : Int32)), .unset, .unset, .unset, .unset, .unset, .unset, .unset]) rfl d0_198 ?_
          refine iconst K S (x := (1 : Int32)) rfl d0_200 ?_
          refine istore K S (l' := #[.val (.int x0), .val (.int x1), .val (.int x2), .val (.int x3), .val (.int x4), .val (.int m1), .val (.int m2), .val (.int r1), .val (.int r2), .val (.int t1), .val (.int t2), .val (.ref o50), .val (.int (0 : Int32)), .val (.int (1 : Int32)), .val (.int (0 : Int32)), .val (.int ((15 : Int32) &&& ((0 : Int32) ^^^ (-1 : Int32)))), .val (.int (m2 &&& ((15 : Int32) &&& ((0 : Int32) ^^^ (-1 : Int32))))), .val (.int (m2 &&& (0 : Int32))), .val (.int (0 : Int32)), .val (.int (0 : Int32)), .val (.int (0 : Int32)), .val (.int (1 : Int32)), .unset, .unset, .unset, .unset, .unset, .unset]) rfl d0_201 ?_
          refine iload K S rfl d0_203 ?_
          refine ific_eq K S d0_205 (fun c205 => ?_) (fun c205 => ?_)
          rotate_left
          · exact absurd c205 (by decide)
          refine iload K S rfl d0_268 ?_
          refine ific_eq K S d0_270 (fun c270 => ?_) (fun c270 => ?_)
          rotate_left
          · exact absurd c270 (by decide)
          refine iload K S rfl d0_280 ?_
          refine ific_eq K S d0_282 (fun c282 => ?_) (fun c282 => ?_)
          rotate_left
          · exact absurd c282 (by decide)
          refine iload K S rfl d0_289 ?_
          refine iload K S rfl d0_291 ?_
          refine ific_eq K S d0_293 (fun c293 => ?_) (fun c293 => ?_)
          rotate_left
          · exact absurd c293 (by decide)
          refine iconst K S (x := (0 : Int32)) rfl d0_300 ?_
          refine iadd K S d0_301 ?_
          show Wp n0 p e _ s below _ T (mkF m 302 #[.val (.int x0), .val (.int x1), .val (.int x2), .val (.int x3), .val (.int x4), .val (.int m1), .val (.int m2), .val (.int r1), .val (.int r2), .val (.int t1), .val (.int t2), .val (.ref o50), .val (.int (0 : Int32)), .val (.int (1 : Int32)), .val (.int (0 : Int32)), .val (.int ((15 : Int32) &&& ((0 : Int32) ^^^ (-1 : Int32)))), .val (.int (m2 &&& ((15 : Int32) &&& ((0 : Int32) ^^^ (-1 : Int32))))), .val (.int (m2 &&& (0 : Int32))), .val (.int (0 : Int32)), .val (.int (0 : Int32)), .val (.int (0 : Int32)), .val (.int (1 : Int32)), .unset, .unset, .unset, .unset, .unset, .unset] [.int (1 : Int32)])
          refine iload K S rfl d0_302 ?_
          refine ific_eq K S d0_304 (fun c304 => ?_) (fun c304 => ?_)
          rotate_left
          · exact absurd c304 (by decide)
          refine iconst K S (x := (0 : Int32)) rfl d0_311 ?_
          refine iadd K S d0_312 ?_
          show Wp n0 p e _ s below _ T (mkF m 313 #[.val (.int x0), .val (.int x1), .val (.int x2), .val (.int x3), .val (.int x4), .val (.int m1), .val (.int m2), .val (.int r1), .val (.int r2), .val (.int t1), .val (.int t2), .val (.ref o50), .val (.int (0 : Int32)), .val (.int (1 : Int32)), .val (.int (0 : Int32)), .val (.int ((15 : Int32) &&& ((0 : Int32) ^^^ (-1 : Int32)))), .val (.int (m2 &&& ((15 : Int32) &&& ((0 : Int32) ^^^ (-1 : Int32))))), .val (.int (m2 &&& (0 : Int32))), .val (.int (0 : Int32)), .val (.int (0 : Int32)), .val (.int (0 : Int32)), .val (.int (1 : Int32)), .unset, .unset, .unset, .unset, .unset, .unset] [.int (1 : Int32)])
          refine istore K S (l' := #[.val (.int x0), .val (.int x1), .val (.int x2), .val (.int x3), .val (.int x4), .val (.int m1), .val (.int m2), .val (.int r1), .val (.int r2), .val (.int t1), .val (.int t2), .val (.ref o50), .val (.int (0 : Int32)), .val (.int (1 : Int32)), .val (.int (0 : Int32)), .val (.int ((15 : Int32) &&& ((0 : Int32) ^^^ (-1 : Int32)))), .val (.int (m2 &&& ((15 : Int32) &&& ((0 : Int32) ^^^ (-1 : Int32))))), .val (.int (m2 &&& (0 : Int32))), .val (.int (0 : Int32)), .val (.int (0 : Int32)), .val (.int (0 : Int32)), .val (.int (1 : Int32)), .val (.int (1 : Int32)), .unset, .unset, .unset, .unset, .unset]) rfl d0_313 ?_
          have eb1 : fb1 m1 = (1 : Int32) := by simp [fb1, c94]
          have ea1 : fa1 m1 = (0 : Int32) := by simp [fa1, c94]
          have ea0 : fa0 m1 = ((15 : Int32) &&& ((0 : Int32) ^^^ (-1 : Int32))) := by rw [fa0, ea1]
          have efsp0 : fsp0 m1 m2 = (0 : Int32) := by rw [fsp0, ea0, fsp, if_neg c161, if_pos c168]
          have efsp1 : fsp1 m1 m2 = (0 : Int32) := by rw [fsp1, ea1, fsp, if_pos c180]
          have ei0 : fid0 m1 m2 r2 t2 = (0 : Int32) := by simp [fid0, efsp0, efsp1, eb1]
          have ei1 : fid1 m1 m2 r2 t2 = (1 : Int32) := by simp [fid1, efsp0, efsp1, eb1]
          have eeb : feb m1 m2 = (1 : Int32) := by rw [feb, efsp0, efsp1, eb1] <;> decide
          have J := J315 T (.val (.int (0 : Int32))) (.val (.int (1 : Int32))) (.val (.int ((15 : Int32) &&& ((0 : Int32) ^^^ (-1 : Int32))))) (.val (.int (m2 &&& ((15 : Int32) &&& ((0 : Int32) ^^^ (-1 : Int32)))))) (.val (.int (m2 &&& (0 : Int32)))) (.unset) S One.u
          rw [ea1, efsp0, efsp1, ei0, ei1, eeb] at J
          exact J
        refine iload K S rfl d0_183 ?_
        refine iload K S rfl d0_185 ?_
        refine icmp_eq K S d0_187 (fun c187 => ?_) (fun c187 => ?_)
        · refine iconst K S (x := (0 : Int32)) rfl d0_194 ?_
          refine istore K S (l' := #[.val (.int x0), .val (.int x1), .val (.int x2), .val (.int x3), .val (.int x4), .val (.int m1), .val (.int m2), .val (.int r1), .val (.int r2), .val (.int t1), .val (.int t2), .val (.ref o50), .val (.int (0 : Int32)), .val (.int (1 : Int32)), .val (.int (0 : Int32)), .val (.int ((15 : Int32) &&& ((0 : Int32) ^^^ (-1 : Int32)))), .val (.int (m2 &&& ((15 : Int32) &&& ((0 : Int32) ^^^ (-1 : Int32))))), .val (.int (m2 &&& (0 : Int32))), .val (.int (0 : Int32)), .val (.int (0 : Int32)), .unset, .unset, .unset, .unset, .unset, .unset, .unset, .unset]) rfl d0_195 ?_
          refine iconst K S (x := (0 : Int32)) rfl d0_197 ?_
          refine istore K S (l' := #[.val (.int x0), .val (.int x1), .val (.int x2), .val (.int x3), .val (.int x4), .val (.int m1), .val (.int m2), .val (.int r1), .val (.int r2), .val (.int t1), .val (.int t2), .val (.ref o50), .val (.int (0 : Int32)), .val (.int (1 : Int32)), .val (.int (0 : Int32)), .val (.int ((15 : Int32) &&& ((0 : Int32) ^^^ (-1 : Int32)))), .val (.int (m2 &&& ((15 : Int32) &&& ((0 : Int32) ^^^ (-1 : Int32))))), .val (.int (m2 &&& (0 : Int32))), .val (.int (0 : Int32)), .val (.int (0 : Int32)), .val (.int (0 : Int32)), .unset, .unset, .unset, .unset, .unset, .unset, .unset]) rfl d0_198 ?_
          refine iconst K S (x := (1 : Int32)) rfl d0_200 ?_
          refine istore K S (l' := #[.val (.int x0), .val (.int x1), .val (.int x2), .val (.int x3), .val (.int x4), .val (.int m1), .val (.int m2), .val (.int r1), .val (.int r2), .val (.int t1), .val (.int t2), .val (.ref o50), .val (.int (0 : Int32)), .val (.int (1 : Int32)), .val (.int (0 : Int32)), .val (.int ((15 : Int32) &&& ((0 : Int32) ^^^ (-1 : Int32)))), .val (.int (m2 &&& ((15 : Int32) &&& ((0 : Int32) ^^^ (-1 : Int32))))), .val (.int (m2 &&& (0 : Int32))), .val (.int (0 : Int32)), .val (.int (0 : Int32)), .val (.int (0 : Int32)), .val (.int (1 : Int32)), .unset, .unset, .unset, .unset, .unset, .unset]) rfl d0_201 ?_
          refine iload K S rfl d0_203 ?_
          refine ific_eq K S d0_205 (fun c205 => ?_) (fun c205 => ?_)
          rotate_left
          · exact absurd c205 (by decide)
          refine iload K S rfl d0_268 ?_
          refine ific_eq K S d0_270 (fun c270 => ?_) (fun c270 => ?_)
          rotate_left
          · exact absurd c270 (by decide)
          refine iload K S rfl d0_280 ?_
          refine ific_eq K S d0_282 (fun c282 => ?_) (fun c282 => ?_)
          rotate_left
          · exact absurd c282 (by decide)
          refine iload K S rfl d0_289 ?_
          refine iload K S rfl d0_291 ?_
          refine ific_eq K S d0_293 (fun c293 => ?_) (fun c293 => ?_)
          rotate_left
          · exact absurd c293 (by decide)
          refine iconst K S (x := (0 : Int32)) rfl d0_300 ?_
          refine iadd K S d0_301 ?_
          show Wp n0 p e _ s below _ T (mkF m 302 #[.val (.int x0), .val (.int x1), .val (.int x2), .val (.int x3), .val (.int x4), .val (.int m1), .val (.int m2), .val (.int r1), .val (.int r2), .val (.int t1), .val (.int t2), .val (.ref o50), .val (.int (0 : Int32)), .val (.int (1 : Int32)), .val (.int (0 : Int32)), .val (.int ((15 : Int32) &&& ((0 : Int32) ^^^ (-1 : Int32)))), .val (.int (m2 &&& ((15 : Int32) &&& ((0 : Int32) ^^^ (-1 : Int32))))), .val (.int (m2 &&& (0 : Int32))), .val (.int (0 : Int32)), .val (.int (0 : Int32)), .val (.int (0 : Int32)), .val (.int (1 : Int32)), .unset, .unset, .unset, .unset, .unset, .unset] [.int (1 : Int32)])
          refine iload K S rfl d0_302 ?_
          refine ific_eq K S d0_304 (fun c304 => ?_) (fun c304 => ?_)
          rotate_left
          · exact absurd c304 (by decide)
          refine iconst K S (x := (0 : Int32)) rfl d0_311 ?_
          refine iadd K S d0_312 ?_
          show Wp n0 p e _ s below _ T (mkF m 313 #[.val (.int x0), .val (.int x1), .val (.int x2), .val (.int x3), .val (.int x4), .val (.int m1), .val (.int m2), .val (.int r1), .val (.int r2), .val (.int t1), .val (.int t2), .val (.ref o50), .val (.int (0 : Int32)), .val (.int (1 : Int32)), .val (.int (0 : Int32)), .val (.int ((15 : Int32) &&& ((0 : Int32) ^^^ (-1 : Int32)))), .val (.int (m2 &&& ((15 : Int32) &&& ((0 : Int32) ^^^ (-1 : Int32))))), .val (.int (m2 &&& (0 : Int32))), .val (.int (0 : Int32)), .val (.int (0 : Int32)), .val (.int (0 : Int32)), .val (.int (1 : Int32)), .unset, .unset, .unset, .unset, .unset, .unset] [.int (1 : Int32)])
          refine istore K S (l' := #[.val (.int x0), .val (.int x1), .val (.int x2), .val (.int x3), .val (.int x4), .val (.int m1), .val (.int m2), .val (.int r1), .val (.int r2), .val (.int t1), .val (.int t2), .val (.ref o50), .val (.int (0 : Int32)), .val (.int (1 : Int32)), .val (.int (0 : Int32)), .val (.int ((15 : Int32) &&& ((0 : Int32) ^^^ (-1 : Int32)))), .val (.int (m2 &&& ((15 : Int32) &&& ((0 : Int32) ^^^ (-1 : Int32))))), .val (.int (m2 &&& (0 : Int32))), .val (.int (0 : Int32)), .val (.int (0 : Int32)), .val (.int (0 : Int32)), .val (.int (1 : Int32)), .val (.int (1 : Int32)), .unset, .unset, .unset, .unset, .unset]) rfl d0_313 ?_
          have eb1 : fb1 m1 = (1 : Int32) := by simp [fb1, c94]
          have ea1 : fa1 m1 = (0 : Int32) := by simp [fa1, c94]
          have ea0 : fa0 m1 = ((15 : Int32) &&& ((0 : Int32) ^^^ (-1 : Int32))) := by rw [fa0, ea1]
          have efsp0 : fsp0 m1 m2 = (0 : Int32) := by rw [fsp0, ea0, fsp, if_neg c161, if_pos c168]
          have efsp1 : fsp1 m1 m2 = (0 : Int32) := by rw [fsp1, ea1, fsp, if_neg c180, if_pos c187]
          have ei0 : fid0 m1 m2 r2 t2 = (0 : Int32) := by simp [fid0, efsp0, efsp1, eb1]
          have ei1 : fid1 m1 m2 r2 t2 = (1 : Int32) := by simp [fid1, efsp0, efsp1, eb1]
          have eeb : feb m1 m2 = (1 : Int32) := by rw [feb, efsp0, efsp1, eb1] <;> decide
          have J := J315 T (.val (.int (0 : Int32))) (.val (.int (1 : Int32))) (.val (.int ((15 : Int32) &&& ((0 : Int32) ^^^ (-1 : Int32))))) (.val (.int (m2 &&& ((15 : Int32) &&& ((0 : Int32) ^^^ (-1 : Int32)))))) (.val (.int (m2 &&& (0 : Int32)))) (.unset) S One.u
          rw [ea1, efsp0, efsp1, ei0, ei1, eeb] at J
          exact J
        refine iconst K S (x := (1 : Int32)) rfl d0_190 ?_
        refine goto K S d0_191 ?_
        refine istore K S (l' := #[.val (.int x0), .val (.int x1), .val (.int x2), .val (.int x3), .val (.int x4), .val (.int m1), .val (.int m2), .val (.int r1), .val (.int r2), .val (.int t1), .val (.int t2), .val (.ref o50), .val (.int (0 : Int32)), .val (.int (1 : Int32)), .val (.int (0 : Int32)), .val (.int ((15 : Int32) &&& ((0 : Int32) ^^^ (-1 : Int32)))), .val (.int (m2 &&& ((15 : Int32) &&& ((0 : Int32) ^^^ (-1 : Int32))))), .val (.int (m2 &&& (0 : Int32))), .val (.int (0 : Int32)), .val (.int (1 : Int32)), .unset, .unset, .unset, .unset, .unset, .unset, .unset, .unset]) rfl d0_195 ?_
        refine iconst K S (x := (0 : Int32)) rfl d0_197 ?_
        refine istore K S (l' := #[.val (.int x0), .val (.int x1), .val (.int x2), .val (.int x3), .val (.int x4), .val (.int m1), .val (.int m2), .val (.int r1), .val (.int r2), .val (.int t1), .val (.int t2), .val (.ref o50), .val (.int (0 : Int32)), .val (.int (1 : Int32)), .val (.int (0 : Int32)), .val (.int ((15 : Int32) &&& ((0 : Int32) ^^^ (-1 : Int32)))), .val (.int (m2 &&& ((15 : Int32) &&& ((0 : Int32) ^^^ (-1 : Int32))))), .val (.int (m2 &&& (0 : Int32))), .val (.int (0 : Int32)), .val (.int (1 : Int32)), .val (.int (0 : Int32)), .unset, .unset, .unset, .unset, .unset, .unset, .unset]) rfl d0_198 ?_
        refine iconst K S (x := (1 : Int32)) rfl d0_200 ?_
        refine istore K S (l' := #[.val (.int x0), .val (.int x1), .val (.int x2), .val (.int x3), .val (.int x4), .val (.int m1), .val (.int m2), .val (.int r1), .val (.int r2), .val (.int t1), .val (.int t2), .val (.ref o50), .val (.int (0 : Int32)), .val (.int (1 : Int32)), .val (.int (0 : Int32)), .val (.int ((15 : Int32) &&& ((0 : Int32) ^^^ (-1 : Int32)))), .val (.int (m2 &&& ((15 : Int32) &&& ((0 : Int32) ^^^ (-1 : Int32))))), .val (.int (m2 &&& (0 : Int32))), .val (.int (0 : Int32)), .val (.int (1 : Int32)), .val (.int (0 : Int32)), .val (.int (1 : Int32)), .unset, .unset, .unset, .unset, .unset, .unset]) rfl d0_201 ?_
        refine iload K S rfl d0_203 ?_
        refine ific_eq K S d0_205 (fun c205 => ?_) (fun c205 => ?_)
        rotate_left
        · exact absurd c205 (by decide)
        refine iload K S rfl d0_268 ?_
        refine ific_eq K S d0_270 (fun c270 => ?_) (fun c270 => ?_)
        rotate_left
        · exact absurd c270 (by decide)
        refine iload K S rfl d0_280 ?_
        refine ific_eq K S d0_282 (fun c282 => ?_) (fun c282 => ?_)
        · exact absurd c282 (by decide)
        refine iload K S rfl d0_285 ?_
        refine istore K S (l' := #[.val (.int x0), .val (.int x1), .val (.int x2), .val (.int x3), .val (.int x4), .val (.int m1), .val (.int m2), .val (.int r1), .val (.int r2), .val (.int t1), .val (.int t2), .val (.ref o50), .val (.int (0 : Int32)), .val (.int (1 : Int32)), .val (.int (0 : Int32)), .val (.int ((15 : Int32) &&& ((0 : Int32) ^^^ (-1 : Int32)))), .val (.int (m2 &&& ((15 : Int32) &&& ((0 : Int32) ^^^ (-1 : Int32))))), .val (.int (m2 &&& (0 : Int32))), .val (.int (0 : Int32)), .val (.int (1 : Int32)), .val (.int (0 : Int32)), .val (.int (1 : Int32)), .unset, .unset, .unset, .unset, .unset, .unset]) rfl d0_287 ?_
        refine iload K S rfl d0_289 ?_
        refine iload K S rfl d0_291 ?_
        refine ific_eq K S d0_293 (fun c293 => ?_) (fun c293 => ?_)
        rotate_left
        · exact absurd c293 (by decide)
        refine iconst K S (x := (0 : Int32)) rfl d0_300 ?_
        refine iadd K S d0_301 ?_
        show Wp n0 p e _ s below _ T (mkF m 302 #[.val (.int x0), .val (.int x1), .val (.int x2), .val (.int x3), .val (.int x4), .val (.int m1), .val (.int m2), .val (.int r1), .val (.int r2), .val (.int t1), .val (.int t2), .val (.ref o50), .val (.int (0 : Int32)), .val (.int (1 : Int32)), .val (.int (0 : Int32)), .val (.int ((15 : Int32) &&& ((0 : Int32) ^^^ (-1 : Int32)))), .val (.int (m2 &&& ((15 : Int32) &&& ((0 : Int32) ^^^ (-1 : Int32))))), .val (.int (m2 &&& (0 : Int32))), .val (.int (0 : Int32)), .val (.int (1 : Int32)), .val (.int (0 : Int32)), .val (.int (1 : Int32)), .unset, .unset, .unset, .unset, .unset, .unset] [.int (1 : Int32)])
        refine iload K S rfl d0_302 ?_
        refine ific_eq K S d0_304 (fun c304 => ?_) (fun c304 => ?_)
        · exact absurd c304 (by decide)
        refine iconst K S (x := (1 : Int32)) rfl d0_307 ?_
        refine goto K S d0_308 ?_
        refine iadd K S d0_312 ?_
        show Wp n0 p e _ s below _ T (mkF m 313 #[.val (.int x0), .val (.int x1), .val (.int x2), .val (.int x3), .val (.int x4), .val (.int m1), .val (.int m2), .val (.int r1), .val (.int r2), .val (.int t1), .val (.int t2), .val (.ref o50), .val (.int (0 : Int32)), .val (.int (1 : Int32)), .val (.int (0 : Int32)), .val (.int ((15 : Int32) &&& ((0 : Int32) ^^^ (-1 : Int32)))), .val (.int (m2 &&& ((15 : Int32) &&& ((0 : Int32) ^^^ (-1 : Int32))))), .val (.int (m2 &&& (0 : Int32))), .val (.int (0 : Int32)), .val (.int (1 : Int32)), .val (.int (0 : Int32)), .val (.int (1 : Int32)), .unset, .unset, .unset, .unset, .unset, .unset] [.int (2 : Int32)])
        refine istore K S (l' := #[.val (.int x0), .val (.int x1), .val (.int x2), .val (.int x3), .val (.int x4), .val (.int m1), .val (.int m2), .val (.int r1), .val (.int r2), .val (.int t1), .val (.int t2), .val (.ref o50), .val (.int (0 : Int32)), .val (.int (1 : Int32)), .val (.int (0 : Int32)), .val (.int ((15 : Int32) &&& ((0 : Int32) ^^^ (-1 : Int32)))), .val (.int (m2 &&& ((15 : Int32) &&& ((0 : Int32) ^^^ (-1 : Int32))))), .val (.int (m2 &&& (0 : Int32))), .val (.int (0 : Int32)), .val (.int (1 : Int32)), .val (.int (0 : Int32)), .val (.int (1 : Int32)), .val (.int (2 : Int32)), .unset, .unset, .unset, .unset, .unset]) rfl d0_313 ?_
        have eb1 : fb1 m1 = (1 : Int32) := by simp [fb1, c94]
        have ea1 : fa1 m1 = (0 : Int32) := by simp [fa1, c94]
        have ea0 : fa0 m1 = ((15 : Int32) &&& ((0 : Int32) ^^^ (-1 : Int32))) := by rw [fa0, ea1]
        have efsp0 : fsp0 m1 m2 = (0 : Int32) := by rw [fsp0, ea0, fsp, if_neg c161, if_pos c168]
        have efsp1 : fsp1 m1 m2 = (1 : Int32) := by rw [fsp1, ea1, fsp, if_neg c180, if_neg c187]
        have ei0 : fid0 m1 m2 r2 t2 = (0 : Int32) := by simp [fid0, efsp0, efsp1, eb1]
        have ei1 : fid1 m1 m2 r2 t2 = (1 : Int32) := by simp [fid1, efsp0, efsp1, eb1]
        have eeb : feb m1 m2 = (2 : Int32) := by rw [feb, efsp0, efsp1, eb1] <;> decide
        have J := J315 T (.val (.int (0 : Int32))) (.val (.int (1 : Int32))) (.val (.int ((15 : Int32) &&& ((0 : Int32) ^^^ (-1 : Int32))))) (.val (.int (m2 &&& ((15 : Int32) &&& ((0 : Int32) ^^^ (-1 : Int32)))))) (.val (.int (m2 &&& (0 : Int32)))) (.unset) S One.u
        rw [ea1, efsp0, efsp1, ei0, ei1, eeb] at J
        exact J
      refine iconst K S (x := (1 : Int32)) rfl d0_171 ?_
      refine goto K S d0_172 ?_
      refine istore K S (l' := #[.val (.int x0), .val (.int x1), .val (.int x2), .val (.int x3), .val (.int x4), .val (.int m1), .val (.int m2), .val (.int r1), .val (.int r2), .val (.int t1), .val (.int t2), .val (.ref o50), .val (.int (0 : Int32)), .val (.int (1 : Int32)), .val (.int (0 : Int32)), .val (.int ((15 : Int32) &&& ((0 : Int32) ^^^ (-1 : Int32)))), .val (.int (m2 &&& ((15 : Int32) &&& ((0 : Int32) ^^^ (-1 : Int32))))), .val (.int (m2 &&& (0 : Int32))), .val (.int (1 : Int32)), .unset, .unset, .unset, .unset, .unset, .unset, .unset, .unset, .unset]) rfl d0_176 ?_
      refine iload K S rfl d0_178 ?_
      refine ific_eq K S d0_180 (fun c180 => ?_) (fun c180 => ?_)
      · refine iconst K S (x := (0 : Int32)) rfl d0_194 ?_
        refine istore K S (l' := #[.val (.int x0), .val (.int x1), .val (.int x2), .val (.int x3), .val (.int x4), .val (.int m1), .val (.int m2), .val (.int r1), .val (.int r2), .val (.int t1), .val (.int t2), .val (.ref o50), .val (.int (0 : Int32)), .val (.int (1 : Int32)), .val (.int (0 : Int32)), .val (.int ((15 : Int32) &&& ((0 : Int32) ^^^ (-1 : Int32)))), .val (.int (m2 &&& ((15 : Int32) &&& ((0 : Int32) ^^^ (-1 : Int32))))), .val (.int (m2 &&& (0 : Int32))), .val (.int (1 : Int32)), .val (.int (0 : Int32)), .unset, .unset, .unset, .unset, .unset, .unset, .unset, .unset]) rfl d0_195 ?_
        refine iconst K S (x := (0 : Int32)) rfl d0_197 ?_
        refine istore K S (l' := #[.val (.int x0), .val (.int x1), .val (.int x2), .val (.int x3), .val (.int x4), .val (.int m1), .val (.int m2), .val (.int r1), .val (.int r2), .val (.int t1), .val (.int t2), .val (.ref o50), .val (.int (0 : Int32)), .val (.int (1 : Int32)), .val (.int (0 : Int32)), .val (.int ((15 : Int32) &&& ((0 : Int32) ^^^ (-1 : Int32)))), .val (.int (m2 &&& ((15 : Int32) &&& ((0 : Int32) ^^^ (-1 : Int32))))), .val (.int (m2 &&& (0 : Int32))), .val (.int (1 : Int32)), .val (.int (0 : Int32)), .val (.int (0 : Int32)), .unset, .unset, .unset, .unset, .unset, .unset, .unset]) rfl d0_198 ?_
        refine iconst K S (x := (1 : Int32)) rfl d0_200 ?_
        refine istore K S (l' := #[.val (.int x0), .val (.int x1), .val (.int x2), .val (.int x3), .val (.int x4), .val (.int m1), .val (.int m2), .val (.int r1), .val (.int r2), .val (.int t1), .val (.int t2), .val (.ref o50), .val (.int (0 : Int32)), .val (.int (1 : Int32)), .val (.int (0 : Int32)), .val (.int ((15 : Int32) &&& ((0 : Int32) ^^^ (-1 : Int32)))), .val (.int (m2 &&& ((15 : Int32) &&& ((0 : Int32) ^^^ (-1 : Int32))))), .val (.int (m2 &&& (0 : Int32))), .val (.int (1 : Int32)), .val (.int (0 : Int32)), .val (.int (0 : Int32)), .val (.int (1 : Int32)), .unset, .unset, .unset, .unset, .unset, .unset]) rfl d0_201 ?_
        refine iload K S rfl d0_203 ?_
        refine ific_eq K S d0_205 (fun c205 => ?_) (fun c205 => ?_)
        · exact absurd c205 (by decide)
        refine iload K S rfl d0_208 ?_
        refine ific_eq K S d0_210 (fun c210 => ?_) (fun c210 => ?_)
        rotate_left
        · exact absurd c210 (by decide)
        refine iload K S rfl d0_268 ?_
        refine ific_eq K S d0_270 (fun c270 => ?_) (fun c270 => ?_)
        · exact absurd c270 (by decide)
        refine iload K S rfl d0_273 ?_
        refine istore K S (l' := #[.val (.int x0), .val (.int x1), .val (.int x2), .val (.int x3), .val (.int x4), .val (.int m1), .val (.int m2), .val (.int r1), .val (.int r2), .val (.int t1), .val (.int t2), .val (.ref o50), .val (.int (0 : Int32)), .val (.int (1 : Int32)), .val (.int (0 : Int32)), .val (.int ((15 : Int32) &&& ((0 : Int32) ^^^ (-1 : Int32)))), .val (.int (m2 &&& ((15 : Int32) &&& ((0 : Int32) ^^^ (-1 : Int32))))), .val (.int (m2 &&& (0 : Int32))), .val (.int (1 : Int32)), .val (.int (0 : Int32)), .val (.int (1 : Int32)), .val (.int (1 : Int32)), .unset, .unset, .unset, .unset, .unset, .unset]) rfl d0_275 ?_
        refine goto K S d0_277 ?_
        refine iload K S rfl d0_289 ?_
        refine iload K S rfl d0_291 ?_
        refine ific_eq K S d0_293 (fun c293 => ?_) (fun c293 => ?_)
        · exact absurd c293 (by decide)
        refine iconst K S (x := (1 : Int32)) rfl d0_296 ?_
        refine goto K S d0_297 ?_
        refine iadd K S d0_301 ?_
        show Wp n0 p e _ s below _ T (mkF m 302 #[.val (.int x0), .val (.int x1), .val (.int x2), .val (.int x3), .val (.int x4), .val (.int m1), .val (.int m2), .val (.int r1), .val (.int r2), .val (.int t1), .val (.int t2), .val (.ref o50), .val (.int (0 : Int32)), .val (.int (1 : Int32)), .val (.int (0 : Int32)), .val (.int ((15 : Int32) &&& ((0 : Int32) ^^^ (-1 : Int32)))), .val (.int (m2 &&& ((15 : Int32) &&& ((0 : Int32) ^^^ (-1 : Int32))))), .val (.int (m2 &&& (0 : Int32))), .val (.int (1 : Int32)), .val (.int (0 : Int32)), .val (.int (1 : Int32)), .val (.int (1 : Int32)), .unset, .unset, .unset, .unset, .unset, .unset] [.int (2 : Int32)])
        refine iload K S rfl d0_302 ?_
        refine ific_eq K S d0_304 (fun c304 => ?_) (fun c304 => ?_)
        rotate_left
        · exact absurd c304 (by decide)
        refine iconst K S (x := (0 : Int32)) rfl d0_311 ?_
        refine iadd K S d0_312 ?_
        show Wp n0 p e _ s below _ T (mkF m 313 #[.val (.int x0), .val (.int x1), .val (.int x2), .val (.int x3), .val (.int x4), .val (.int m1), .val (.int m2), .val (.int r1), .val (.int r2), .val (.int t1), .val (.int t2), .val (.ref o50), .val (.int (0 : Int32)), .val (.int (1 : Int32)), .val (.int (0 : Int32)), .val (.int ((15 : Int32) &&& ((0 : Int32) ^^^ (-1 : Int32)))), .val (.int (m2 &&& ((15 : Int32) &&& ((0 : Int32) ^^^ (-1 : Int32))))), .val (.int (m2 &&& (0 : Int32))), .val (.int (1 : Int32)), .val (.int (0 : Int32)), .val (.int (1 : Int32)), .val (.int (1 : Int32)), .unset, .unset, .unset, .unset, .unset, .unset] [.int (2 : Int32)])
        refine istore K S (l' := #[.val (.int x0), .val (.int x1), .val (.int x2), .val (.int x3), .val (.int x4), .val (.int m1), .val (.int m2), .val (.int r1), .val (.int r2), .val (.int t1), .val (.int t2), .val (.ref o50), .val (.int (0 : Int32)), .val (.int (1 : Int32)), .val (.int (0 : Int32)), .val (.int ((15 : Int32) &&& ((0 : Int32) ^^^ (-1 : Int32)))), .val (.int (m2 &&& ((15 : Int32) &&& ((0 : Int32) ^^^ (-1 : Int32))))), .val (.int (m2 &&& (0 : Int32))), .val (.int (1 : Int32)), .val (.int (0 : Int32)), .val (.int (1 : Int32)), .val (.int (1 : Int32)), .val (.int (2 : Int32)), .unset, .unset, .unset, .unset, .unset]) rfl d0_313 ?_
        have eb1 : fb1 m1 = (1 : Int32) := by simp [fb1, c94]
        have ea1 : fa1 m1 = (0 : Int32) := by simp [fa1, c94]
        have ea0 : fa0 m1 = ((15 : Int32) &&& ((0 : Int32) ^^^ (-1 : Int32))) := by rw [fa0, ea1]
        have efsp0 : fsp0 m1 m2 = (1 : Int32) := by rw [fsp0, ea0, fsp, if_neg c161, if_neg c168]
        have efsp1 : fsp1 m1 m2 = (0 : Int32) := by rw [fsp1, ea1, fsp, if_pos c180]
        have ei0 : fid0 m1 m2 r2 t2 = (1 : Int32) := by simp [fid0, efsp0, efsp1, eb1]
        have ei1 : fid1 m1 m2 r2 t2 = (1 : Int32) := by simp [fid1, efsp0, efsp1, eb1]
        have eeb : feb m1 m2 = (2 : Int32) := by rw [feb, efsp0, efsp1, eb1] <;> decide
        have J := J315 T (.val (.int (0 : Int32))) (.val (.int (1 : Int32))) (.val (.int ((15 : Int32) &&& ((0 : Int32) ^^^ (-1 : Int32))))) (.val (.int (m2 &&& ((15 : Int32) &&& ((0 : Int32) ^^^ (-1 : Int32)))))) (.val (.int (m2 &&& (0 : Int32)))) (.unset) S One.u
        rw [ea1, efsp0, efsp1, ei0, ei1, eeb] at J
        exact J
      refine iload K S rfl d0_183 ?_
      refine iload K S rfl d0_185 ?_
      refine icmp_eq K S d0_187 (fun c187 => ?_) (fun c187 => ?_)
      · refine iconst K S (x := (0 : Int32)) rfl d0_194 ?_
        refine istore K S (l' := #[.val (.int x0), .val (.int x1), .val (.int x2), .val (.int x3), .val (.int x4), .val (.int m1), .val (.int m2), .val (.int r1), .val (.int r2), .val (.int t1), .val (.int t2), .val (.ref o50), .val (.int (0 : Int32)), .val (.int (1 : Int32)), .val (.int (0 : Int32)), .val (.int ((15 : Int32) &&& ((0 : Int32) ^^^ (-1 : Int32)))), .val (.int (m2 &&& ((15 : Int32) &&& ((0 : Int32) ^^^ (-1 : Int32))))), .val (.int (m2 &&& (0 : Int32))), .val (.int (1 : Int32)), .val (.int (0 : Int32)), .unset, .unset, .unset, .unset, .unset, .unset, .unset, .unset]) rfl d0_195 ?_
        refine iconst K S (x := (0 : Int32)) rfl d0_197 ?_
        refine istore K S (l' := #[.val (.int x0), .val (.int x1), .val (.int x2), .val (.int x3), .val (.int x4), .val (.int m1), .val (.int m2), .val (.int r1), .val (.int r2), .val (.int t1), .val (.int t2), .val (.ref o50), .val (.int (0 : Int32)), .val (.int (1 : Int32)), .val (.int (0 : Int32)), .val (.int ((15 : Int32) &&& ((0 : Int32) ^^^ (-1 : Int32)))), .val (.int (m2 &&& ((15 : Int32) &&& ((0 : Int32) ^^^ (-1 : Int32))))), .val (.int (m2 &&& (0 : Int32))), .val (.int (1 : Int32)), .val (.int (0 : Int32)), .val (.int (0 : Int32)), .unset, .unset, .unset, .unset, .unset, .unset, .unset]) rfl d0_198 ?_
        refine iconst K S (x := (1 : Int32)) rfl d0_200 ?_
        refine istore K S (l' := #[.val (.int x0), .val (.int x1), .val (.int x2), .val (.int x3), .val (.int x4), .val (.int m1), .val (.int m2), .val (.int r1), .val (.int r2), .val (.int t1), .val (.int t2), .val (.ref o50), .val (.int (0 : Int32)), .val (.int (1 : Int32)), .val (.int (0 : Int32)), .val (.int ((15 : Int32) &&& ((0 : Int32) ^^^ (-1 : Int32)))), .val (.int (m2 &&& ((15 : Int32) &&& ((0 : Int32) ^^^ (-1 : Int32))))), .val (.int (m2 &&& (0 : Int32))), .val (.int (1 : Int32)), .val (.int (0 : Int32)), .val (.int (0 : Int32)), .val (.int (1 : Int32)), .unset, .unset, .unset, .unset, .unset, .unset]) rfl d0_201 ?_
        refine iload K S rfl d0_203 ?_
        refine ific_eq K S d0_205 (fun c205 => ?_) (fun c205 => ?_)
        · exact absurd c205 (by decide)
        refine iload K S rfl d0_208 ?_
        refine ific_eq K S d0_210 (fun c210 => ?_) (fun c210 => ?_)
        rotate_left
        · exact absurd c210 (by decide)
        refine iload K S rfl d0_268 ?_
        refine ific_eq K S d0_270 (fun c270 => ?_) (fun c270 => ?_)
        · exact absurd c270 (by decide)
        refine iload K S rfl d0_273 ?_
        refine istore K S (l' := #[.val (.int x0), .val (.int x1), .val (.int x2), .val (.int x3), .val (.int x4), .val (.int m1), .val (.int m2), .val (.int r1), .val (.int r2), .val (.int t1), .val (.int t2), .val (.ref o50), .val (.int (0 : Int32)), .val (.int (1 : Int32)), .val (.int (0 : Int32)), .val (.int ((15 : Int32) &&& ((0 : Int32) ^^^ (-1 : Int32)))), .val (.int (m2 &&& ((15 : Int32) &&& ((0 : Int32) ^^^ (-1 : Int32))))), .val (.int (m2 &&& (0 : Int32))), .val (.int (1 : Int32)), .val (.int (0 : Int32)), .val (.int (1 : Int32)), .val (.int (1 : Int32)), .unset, .unset, .unset, .unset, .unset, .unset]) rfl d0_275 ?_
        refine goto K S d0_277 ?_
        refine iload K S rfl d0_289 ?_
        refine iload K S rfl d0_291 ?_
        refine ific_eq K S d0_293 (fun c293 => ?_) (fun c293 => ?_)
        · exact absurd c293 (by decide)
        refine iconst K S (x := (1 : Int32)) rfl d0_296 ?_
        refine goto K S d0_297 ?_
        refine iadd K S d0_301 ?_
        show Wp n0 p e _ s below _ T (mkF m 302 #[.val (.int x0), .val (.int x1), .val (.int x2), .val (.int x3), .val (.int x4), .val (.int m1), .val (.int m2), .val (.int r1), .val (.int r2), .val (.int t1), .val (.int t2), .val (.ref o50), .val (.int (0 : Int32)), .val (.int (1 : Int32)), .val (.int (0 : Int32)), .val (.int ((15 : Int32) &&& ((0 : Int32) ^^^ (-1 : Int32)))), .val (.int (m2 &&& ((15 : Int32) &&& ((0 : Int32) ^^^ (-1 : Int32))))), .val (.int (m2 &&& (0 : Int32))), .val (.int (1 : Int32)), .val (.int (0 : Int32)), .val (.int (1 : Int32)), .val (.int (1 : Int32)), .unset, .unset, .unset, .unset, .unset, .unset] [.int (2 : Int32)])
        refine iload K S rfl d0_302 ?_
        refine ific_eq K S d0_304 (fun c304 => ?_) (fun c304 => ?_)
        rotate_left
        · exact absurd c304 (by decide)
        refine iconst K S (x := (0 : Int32)) rfl d0_311 ?_
        refine iadd K S d0_312 ?_
        show Wp n0 p e _ s below _ T (mkF m 313 #[.val (.int x0), .val (.int x1), .val (.int x2), .val (.int x3), .val (.int x4), .val (.int m1), .val (.int m2), .val (.int r1), .val (.int r2), .val (.int t1), .val (.int t2), .val (.ref o50), .val (.int (0 : Int32)), .val (.int (1 : Int32)), .val (.int (0 : Int32)), .val (.int ((15 : Int32) &&& ((0 : Int32) ^^^ (-1 : Int32)))), .val (.int (m2 &&& ((15 : Int32) &&& ((0 : Int32) ^^^ (-1 : Int32))))), .val (.int (m2 &&& (0 : Int32))), .val (.int (1 : Int32)), .val (.int (0 : Int32)), .val (.int (1 : Int32)), .val (.int (1 : Int32)), .unset, .unset, .unset, .unset, .unset, .unset] [.int (2 : Int32)])
        refine istore K S (l' := #[.val (.int x0), .val (.int x1), .val (.int x2), .val (.int x3), .val (.int x4), .val (.int m1), .val (.int m2), .val (.int r1), .val (.int r2), .val (.int t1), .val (.int t2), .val (.ref o50), .val (.int (0 : Int32)), .val (.int (1 : Int32)), .val (.int (0 : Int32)), .val (.int ((15 : Int32) &&& ((0 : Int32) ^^^ (-1 : Int32)))), .val (.int (m2 &&& ((15 : Int32) &&& ((0 : Int32) ^^^ (-1 : Int32))))), .val (.int (m2 &&& (0 : Int32))), .val (.int (1 : Int32)), .val (.int (0 : Int32)), .val (.int (1 : Int32)), .val (.int (1 : Int32)), .val (.int (2 : Int32)), .unset, .unset, .unset, .unset, .unset]) rfl d0_313 ?_
        have eb1 : fb1 m1 = (1 : Int32) := by simp [fb1, c94]
        have ea1 : fa1 m1 = (0 : Int32) := by simp [fa1, c94]
        have ea0 : fa0 m1 = ((15 : Int32) &&& ((0 : Int32) ^^^ (-1 : Int32))) := by rw [fa0, ea1]
        have efsp0 : fsp0 m1 m2 = (1 : Int32) := by rw [fsp0, ea0, fsp, if_neg c161, if_neg c168]
        have efsp1 : fsp1 m1 m2 = (0 : Int32) := by rw [fsp1, ea1, fsp, if_neg c180, if_pos c187]
        have ei0 : fid0 m1 m2 r2 t2 = (1 : Int32) := by simp [fid0, efsp0, efsp1, eb1]
        have ei1 : fid1 m1 m2 r2 t2 = (1 : Int32) := by simp [fid1, efsp0, efsp1, eb1]
        have eeb : feb m1 m2 = (2 : Int32) := by rw [feb, efsp0, efsp1, eb1] <;> decide
        have J := J315 T (.val (.int (0 : Int32))) (.val (.int (1 : Int32))) (.val (.int ((15 : Int32) &&& ((0 : Int32) ^^^ (-1 : Int32))))) (.val (.int (m2 &&& ((15 : Int32) &&& ((0 : Int32) ^^^ (-1 : Int32)))))) (.val (.int (m2 &&& (0 : Int32)))) (.unset) S One.u
        rw [ea1, efsp0, efsp1, ei0, ei1, eeb] at J
        exact J
      refine iconst K S (x := (1 : Int32)) rfl d0_190 ?_
      refine goto K S d0_191 ?_
      refine istore K S (l' := #[.val (.int x0), .val (.int x1), .val (.int x2), .val (.int x3), .val (.int x4), .val (.int m1), .val (.int m2), .val (.int r1), .val (.int r2), .val (.int t1), .val (.int t2), .val (.ref o50), .val (.int (0 : Int32)), .val (.int (1 : Int32)), .val (.int (0 : Int32)), .val (.int ((15 : Int32) &&& ((0 : Int32) ^^^ (-1 : Int32)))), .val (.int (m2 &&& ((15 : Int32) &&& ((0 : Int32) ^^^ (-1 : Int32))))), .val (.int (m2 &&& (0 : Int32))), .val (.int (1 : Int32)), .val (.int (1 : Int32)), .unset, .unset, .unset, .unset, .unset, .unset, .unset, .unset]) rfl d0_195 ?_
      refine iconst K S (x := (0 : Int32)) rfl d0_197 ?_
      refine istore K S (l' := #[.val (.int x0), .val (.int x1), .val (.int x2), .val (.int x3), .val (.int x4), .val (.int m1), .val (.int m2), .val (.int r1), .val (.int r2), .val (.int t1), .val (.int t2), .val (.ref o50), .val (.int (0 : Int32)), .val (.int (1 : Int32)), .val (.int (0 : Int32)), .val (.int ((15 : Int32) &&& ((0 : Int32) ^^^ (-1 : Int32)))), .val (.int (m2 &&& ((15 : Int32) &&& ((0 : Int32) ^^^ (-1 : Int32))))), .val (.int (m2 &&& (0 : Int32))), .val (.int (1 : Int32)), .val (.int (1 : Int32)), .val (.int (0 : Int32)), .unset, .unset, .unset, .unset, .unset, .unset, .unset]) rfl d0_198 ?_
      refine iconst K S (x := (1 : Int32)) rfl d0_200 ?_
      refine istore K S (l' := #[.val (.int x0), .val (.int x1), .val (.int x2), .val (.int x3), .val (.int x4), .val (.int m1), .val (.int m2), .val (.int r1), .val (.int r2), .val (.int t1), .val (.int t2), .val (.ref o50), .val (.int (0 : Int32)), .val (.int (1 : Int32)), .val (.int (0 : Int32)), .val (.int ((15 : Int32) &&& ((0 : Int32) ^^^ (-1 : Int32)))), .val (.int (m2 &&& ((15 : Int32) &&& ((0 : Int32) ^^^ (-1 : Int32))))), .val (.int (m2 &&& (0 : Int32))), .val (.int (1 : Int32)), .val (.int (1 : Int32)), .val (.int (0 : Int32)), .val (.int (1 : Int32)), .unset, .unset, .unset, .unset, .unset, .unset]) rfl d0_201 ?_
      refine iload K S rfl d0_203 ?_
      refine ific_eq K S d0_205 (fun c205 => ?_) (fun c205 => ?_)
      · exact absurd c205 (by decide)
      refine iload K S rfl d0_208 ?_
      refine ific_eq K S d0_210 (fun c210 => ?_) (fun c210 => ?_)
      · exact absurd c210 (by decide)
      refine iload K S rfl d0_213 ?_
      refine iload K S rfl d0_215 ?_
      refine iload K S rfl d0_217 ?_
      refine callS K S (W := 0) (m_fp l Z a0 hw n0 (m2 &&& ((15 : Int32) &&& ((0 : Int32) ^^^ (-1 : Int32)))) r2 t2 h89_6 (Sle S) ) (hwi hw 97 rfl) (hwi hw 98 rfl) (hwi hw 99 rfl) (hwi hw 30 rfl) (by decide) (by decide) (by decide) (by decide) (by decide) rfl (argsL := [.int (m2 &&& ((15 : Int32) &&& ((0 : Int32) ^^^ (-1 : Int32)))), .int r2, .int t2]) rfl (lenOf pd_19 rfl) (rest := []) rfl (Nat.le_of_eq rfl) d0_219 (pu fun T S => ?_)
      show Wp n0 p e _ s below _ T (mkF m 222 #[.val (.int x0), .val (.int x1), .val (.int x2), .val (.int x3), .val (.int x4), .val (.int m1), .val (.int m2), .val (.int r1), .val (.int r2), .val (.int t1), .val (.int t2), .val (.ref o50), .val (.int (0 : Int32)), .val (.int (1 : Int32)), .val (.int (0 : Int32)), .val (.int ((15 : Int32) &&& ((0 : Int32) ^^^ (-1 : Int32)))), .val (.int (m2 &&& ((15 : Int32) &&& ((0 : Int32) ^^^ (-1 : Int32))))), .val (.int (m2 &&& (0 : Int32))), .val (.int (1 : Int32)), .val (.int (1 : Int32)), .val (.int (0 : Int32)), .val (.int (1 : Int32)), .unset, .unset, .unset, .unset, .unset, .unset] [.int (ffp (m2 &&& ((15 : Int32) &&& ((0 : Int32) ^^^ (-1 : Int32)))) r2 t2)])
      refine istore K S (l' := #[.val (.int x0), .val (.int x1), .val (.int x2), .val (.int x3), .val (.int x4), .val (.int m1), .val (.int m2), .val (.int r1), .val (.int r2), .val (.int t1), .val (.int t2), .val (.ref o50), .val (.int (0 : Int32)), .val (.int (1 : Int32)), .val (.int (0 : Int32)), .val (.int ((15 : Int32) &&& ((0 : Int32) ^^^ (-1 : Int32)))), .val (.int (m2 &&& ((15 : Int32) &&& ((0 : Int32) ^^^ (-1 : Int32))))), .val (.int (m2 &&& (0 : Int32))), .val (.int (1 : Int32)), .val (.int (1 : Int32)), .val (.int (0 : Int32)), .val (.int (1 : Int32)), .val (.int (ffp (m2 &&& ((15 : Int32) &&& ((0 : Int32) ^^^ (-1 : Int32)))) r2 t2)), .unset, .unset, .unset, .unset, .unset]) rfl d0_222 ?_
      refine iload K S rfl d0_224 ?_
      refine iload K S rfl d0_226 ?_
      refine iload K S rfl d0_228 ?_
      refine callS K S (W := 0) (m_fp l Z a0 hw n0 (m2 &&& (0 : Int32)) r2 t2 h89_6 (Sle S) ) (hwi hw 97 rfl) (hwi hw 98 rfl) (hwi hw 99 rfl) (hwi hw 30 rfl) (by decide) (by decide) (by decide) (by decide) (by decide) rfl (argsL := [.int (m2 &&& (0 : Int32)), .int r2, .int t2]) rfl (lenOf pd_19 rfl) (rest := []) rfl (Nat.le_of_eq rfl) d0_230 (pu fun T S => ?_)
      show Wp n0 p e _ s below _ T (mkF m 233 #[.val (.int x0), .val (.int x1), .val (.int x2), .val (.int x3), .val (.int x4), .val (.int m1), .val (.int m2), .val (.int r1), .val (.int r2), .val (.int t1), .val (.int t2), .val (.ref o50), .val (.int (0 : Int32)), .val (.int (1 : Int32)), .val (.int (0 : Int32)), .val (.int ((15 : Int32) &&& ((0 : Int32) ^^^ (-1 : Int32)))), .val (.int (m2 &&& ((15 : Int32) &&& ((0 : Int32) ^^^ (-1 : Int32))))), .val (.int (m2 &&& (0 : Int32))), .val (.int (1 : Int32)), .val (.int (1 : Int32)), .val (.int (0 : Int32)), .val (.int (1 : Int32)), .val (.int (ffp (m2 &&& ((15 : Int32) &&& ((0 : Int32) ^^^ (-1 : Int32)))) r2 t2)), .unset, .unset, .unset, .unset, .unset] [.int (ffp (m2 &&& (0 : Int32)) r2 t2)])
      refine istore K S (l' := #[.val (.int x0), .val (.int x1), .val (.int x2), .val (.int x3), .val (.int x4), .val (.int m1), .val (.int m2), .val (.int r1), .val (.int r2), .val (.int t1), .val (.int t2), .val (.ref o50), .val (.int (0 : Int32)), .val (.int (1 : Int32)), .val (.int (0 : Int32)), .val (.int ((15 : Int32) &&& ((0 : Int32) ^^^ (-1 : Int32)))), .val (.int (m2 &&& ((15 : Int32) &&& ((0 : Int32) ^^^ (-1 : Int32))))), .val (.int (m2 &&& (0 : Int32))), .val (.int (1 : Int32)), .val (.int (1 : Int32)), .val (.int (0 : Int32)), .val (.int (1 : Int32)), .val (.int (ffp (m2 &&& ((15 : Int32) &&& ((0 : Int32) ^^^ (-1 : Int32)))) r2 t2)), .val (.int (ffp (m2 &&& (0 : Int32)) r2 t2)), .unset, .unset, .unset, .unset]) rfl d0_233 ?_
      refine iload K S rfl d0_235 ?_
      refine iload K S rfl d0_237 ?_
      refine icmp_ge K S d0_239 (fun c239 => ?_) (fun c239 => ?_)
      · refine iload K S rfl d0_255 ?_
        refine istore K S (l' := #[.val (.int x0), .val (.int x1), .val (.int x2), .val (.int x3), .val (.int x4), .val (.int m1), .val (.int m2), .val (.int r1), .val (.int r2), .val (.int t1), .val (.int t2), .val (.ref o50), .val (.int (0 : Int32)), .val (.int (1 : Int32)), .val (.int (0 : Int32)), .val (.int ((15 : Int32) &&& ((0 : Int32) ^^^ (-1 : Int32)))), .val (.int (m2 &&& ((15 : Int32) &&& ((0 : Int32) ^^^ (-1 : Int32))))), .val (.int (m2 &&& (0 : Int32))), .val (.int (1 : Int32)), .val (.int (1 : Int32)), .val (.int (0 : Int32)), .val (.int (1 : Int32)), .val (.int (ffp (m2 &&& ((15 : Int32) &&& ((0 : Int32) ^^^ (-1 : Int32)))) r2 t2)), .val (.int (ffp (m2 &&& (0 : Int32)) r2 t2)), .unset, .unset, .unset, .unset]) rfl d0_257 ?_
        refine iload K S rfl d0_259 ?_
        refine iconst K S (x := (1 : Int32)) rfl d0_261 ?_
        refine iadd K S d0_262 ?_
        show Wp n0 p e _ s below _ T (mkF m 263 #[.val (.int x0), .val (.int x1), .val (.int x2), .val (.int x3), .val (.int x4), .val (.int m1), .val (.int m2), .val (.int r1), .val (.int r2), .val (.int t1), .val (.int t2), .val (.ref o50), .val (.int (0 : Int32)), .val (.int (1 : Int32)), .val (.int (0 : Int32)), .val (.int ((15 : Int32) &&& ((0 : Int32) ^^^ (-1 : Int32)))), .val (.int (m2 &&& ((15 : Int32) &&& ((0 : Int32) ^^^ (-1 : Int32))))), .val (.int (m2 &&& (0 : Int32))), .val (.int (1 : Int32)), .val (.int (1 : Int32)), .val (.int (0 : Int32)), .val (.int (1 : Int32)), .val (.int (ffp (m2 &&& ((15 : Int32) &&& ((0 : Int32) ^^^ (-1 : Int32)))) r2 t2)), .val (.int (ffp (m2 &&& (0 : Int32)) r2 t2)), .unset, .unset, .unset, .unset] [.int (2 : Int32)])
        refine istore K S (l' := #[.val (.int x0), .val (.int x1), .val (.int x2), .val (.int x3), .val (.int x4), .val (.int m1), .val (.int m2), .val (.int r1), .val (.int r2), .val (.int t1), .val (.int t2), .val (.ref o50), .val (.int (0 : Int32)), .val (.int (1 : Int32)), .val (.int (0 : Int32)), .val (.int ((15 : Int32) &&& ((0 : Int32) ^^^ (-1 : Int32)))), .val (.int (m2 &&& ((15 : Int32) &&& ((0 : Int32) ^^^ (-1 : Int32))))), .val (.int (m2 &&& (0 : Int32))), .val (.int (1 : Int32)), .val (.int (1 : Int32)), .val (.int (2 : Int32)), .val (.int (1 : Int32)), .val (.int (ffp (m2 &&& ((15 : Int32) &&& ((0 : Int32) ^^^ (-1 : Int32)))) r2 t2)), .val (.int (ffp (m2 &&& (0 : Int32)) r2 t2)), .unset, .unset, .unset, .unset]) rfl d0_263 ?_
        refine goto K S d0_265 ?_
        refine iload K S rfl d0_289 ?_
        refine iload K S rfl d0_291 ?_
        refine ific_eq K S d0_293 (fun c293 => ?_) (fun c293 => ?_)
        · exact absurd c293 (by decide)
        refine iconst K S (x := (1 : Int32)) rfl d0_296 ?_
        refine goto K S d0_297 ?_
        refine iadd K S d0_301 ?_
        show Wp n0 p e _ s below _ T (mkF m 302 #[.val (.int x0), .val (.int x1), .val (.int x2), .val (.int x3), .val (.int x4), .val (.int m1), .val (.int m2), .val (.int r1), .val (.int r2), .val (.int t1), .val (.int t2), .val (.ref o50), .val (.int (0 : Int32)), .val (.int (1 : Int32)), .val (.int (0 : Int32)), .val (.int ((15 : Int32) &&& ((0 : Int32) ^^^ (-1 : Int32)))), .val (.int (m2 &&& ((15 : Int32) &&& ((0 : Int32) ^^^ (-1 : Int32))))), .val (.int (m2 &&& (0 : Int32))), .val (.int (1 : Int32)), .val (.int (1 : Int32)), .val (.int (2 : Int32)), .val (.int (1 : Int32)), .val (.int (ffp (m2 &&& ((15 : Int32) &&& ((0 : Int32) ^^^ (-1 : Int32)))) r2 t2)), .val (.int (ffp (m2 &&& (0 : Int32)) r2 t2)), .unset, .unset, .unset, .unset] [.int (2 : Int32)])
        refine iload K S rfl d0_302 ?_
        refine ific_eq K S d0_304 (fun c304 => ?_) (fun c304 => ?_)
        · exact absurd c304 (by decide)
        refine iconst K S (x := (1 : Int32)) rfl d0_307 ?_
        refine goto K S d0_308 ?_
        refine iadd K S d0_312 ?_
        show Wp n0 p e _ s below _ T (mkF m 313 #[.val (.int x0), .val (.int x1), .val (.int x2), .val (.int x3), .val (.int x4), .val (.int m1), .val (.int m2), .val (.int r1), .val (.int r2), .val (.int t1), .val (.int t2), .val (.ref o50), .val (.int (0 : Int32)), .val (.int (1 : Int32)), .val (.int (0 : Int32)), .val (.int ((15 : Int32) &&& ((0 : Int32) ^^^ (-1 : Int32)))), .val (.int (m2 &&& ((15 : Int32) &&& ((0 : Int32) ^^^ (-1 : Int32))))), .val (.int (m2 &&& (0 : Int32))), .val (.int (1 : Int32)), .val (.int (1 : Int32)), .val (.int (2 : Int32)), .val (.int (1 : Int32)), .val (.int (ffp (m2 &&& ((15 : Int32) &&& ((0 : Int32) ^^^ (-1 : Int32)))) r2 t2)), .val (.int (ffp (m2 &&& (0 : Int32)) r2 t2)), .unset, .unset, .unset, .unset] [.int (3 : Int32)])
        refine istore K S (l' := #[.val (.int x0), .val (.int x1), .val (.int x2), .val (.int x3), .val (.int x4), .val (.int m1), .val (.int m2), .val (.int r1), .val (.int r2), .val (.int t1), .val (.int t2), .val (.ref o50), .val (.int (0 : Int32)), .val (.int (1 : Int32)), .val (.int (0 : Int32)), .val (.int ((15 : Int32) &&& ((0 : Int32) ^^^ (-1 : Int32)))), .val (.int (m2 &&& ((15 : Int32) &&& ((0 : Int32) ^^^ (-1 : Int32))))), .val (.int (m2 &&& (0 : Int32))), .val (.int (1 : Int32)), .val (.int (1 : Int32)), .val (.int (2 : Int32)), .val (.int (1 : Int32)), .val (.int (3 : Int32)), .val (.int (ffp (m2 &&& (0 : Int32)) r2 t2)), .unset, .unset, .unset, .unset]) rfl d0_313 ?_
        have eb1 : fb1 m1 = (1 : Int32) := by simp [fb1, c94]
        have ea1 : fa1 m1 = (0 : Int32) := by simp [fa1, c94]
        have ea0 : fa0 m1 = ((15 : Int32) &&& ((0 : Int32) ^^^ (-1 : Int32))) := by rw [fa0, ea1]
        have efsp0 : fsp0 m1 m2 = (1 : Int32) := by rw [fsp0, ea0, fsp, if_neg c161, if_neg c168]
        have efsp1 : fsp1 m1 m2 = (1 : Int32) := by rw [fsp1, ea1, fsp, if_neg c180, if_neg c187]
        have el : flt m1 m2 r2 t2 = false := by rw [flt, ea0, ea1]; exact decide_eq_false c239
        have ei0 : fid0 m1 m2 r2 t2 = (2 : Int32) := by simp [fid0, efsp0, efsp1, eb1, el]
        have ei1 : fid1 m1 m2 r2 t2 = (1 : Int32) := by simp [fid1, efsp0, efsp1, eb1, el]
        have eeb : feb m1 m2 = (3 : Int32) := by rw [feb, efsp0, efsp1, eb1] <;> decide
        have J := J315 T (.val (.int (0 : Int32))) (.val (.int (1 : Int32))) (.val (.int ((15 : Int32) &&& ((0 : Int32) ^^^ (-1 : Int32))))) (.val (.int (m2 &&& ((15 : Int32) &&& ((0 : Int32) ^^^ (-1 : Int32)))))) (.val (.int (m2 &&& (0 : Int32)))) (.val (.int (ffp (m2 &&& (0 : Int32)) r2 t2))) S (One.val rfl)
        rw [ea1, efsp0, efsp1, ei0, ei1, eeb] at J
        exact J
      refine iload K S rfl d0_242 ?_
      refine istore K S (l' := #[.val (.int x0), .val (.int x1), .val (.int x2), .val (.int x3), .val (.int x4), .val (.int m1), .val (.int m2), .val (.int r1), .val (.int r2), .val (.int t1), .val (.int t2), .val (.ref o50), .val (.int (0 : Int32)), .val (.int (1 : Int32)), .val (.int (0 : Int32)), .val (.int ((15 : Int32) &&& ((0 : Int32) ^^^ (-1 : Int32)))), .val (.int (m2 &&& ((15 : Int32) &&& ((0 : Int32) ^^^ (-1 : Int32))))), .val (.int (m2 &&& (0 : Int32))), .val (.int (1 : Int32)), .val (.int (1 : Int32)), .val (.int (1 : Int32)), .val (.int (1 : Int32)), .val (.int (ffp (m2 &&& ((15 : Int32) &&& ((0 : Int32) ^^^ (-1 : Int32)))) r2 t2)), .val (.int (ffp (m2 &&& (0 : Int32)) r2 t2)), .unset, .unset, .unset, .unset]) rfl d0_244 ?_
      refine iload K S rfl d0_246 ?_
      refine iconst K S (x := (1 : Int32)) rfl d0_248 ?_
      refine iadd K S d0_249 ?_
      show Wp n0 p e _ s below _ T (mkF m 250 #[.val (.int x0), .val (.int x1), .val (.int x2), .val (.int x3), .val (.int x4), .val (.int m1), .val (.int m2), .val (.int r1), .val (.int r2), .val (.int t1), .val (.int t2), .val (.ref o50), .val (.int (0 : Int32)), .val (.int (1 : Int32)), .val (.int (0 : Int32)), .val (.int ((15 : Int32) &&& ((0 : Int32) ^^^ (-1 : Int32)))), .val (.int (m2 &&& ((15 : Int32) &&& ((0 : Int32) ^^^ (-1 : Int32))))), .val (.int (m2 &&& (0 : Int32))), .val (.int (1 : Int32)), .val (.int (1 : Int32)), .val (.int (1 : Int32)), .val (.int (1 : Int32)), .val (.int (ffp (m2 &&& ((15 : Int32) &&& ((0 : Int32) ^^^ (-1 : Int32)))) r2 t2)), .val (.int (ffp (m2 &&& (0 : Int32)) r2 t2)), .unset, .unset, .unset, .unset] [.int (2 : Int32)])
      refine istore K S (l' := #[.val (.int x0), .val (.int x1), .val (.int x2), .val (.int x3), .val (.int x4), .val (.int m1), .val (.int m2), .val (.int r1), .val (.int r2), .val (.int t1), .val (.int t2), .val (.ref o50), .val (.int (0 : Int32)), .val (.int (1 : Int32)), .val (.int (0 : Int32)), .val (.int ((15 : Int32) &&& ((0 : Int32) ^^^ (-1 : Int32)))), .val (.int (m2 &&& ((15 : Int32) &&& ((0 : Int32) ^^^ (-1 : Int32))))), .val (.int (m2 &&& (0 : Int32))), .val (.int (1 : Int32)), .val (.int (1 : Int32)), .val (.int (1 : Int32)), .val (.int (2 : Int32)), .val (.int (ffp (m2 &&& ((15 : Int32) &&& ((0 : Int32) ^^^ (-1 : Int32)))) r2 t2)), .val (.int (ffp (m2 &&& (0 : Int32)) r2 t2)), .unset, .unset, .unset, .unset]) rfl d0_250 ?_
      refine goto K S d0_252 ?_
      refine goto K S d0_265 ?_
      refine iload K S rfl d0_289 ?_
      refine iload K S rfl d0_291 ?_
      refine ific_eq K S d0_293 (fun c293 => ?_) (fun c293 => ?_)
      · exact absurd c293 (by decide)
      refine iconst K S (x := (1 : Int32)) rfl d0_296 ?_
      refine goto K S d0_297 ?_
      refine iadd K S d0_301 ?_
      show Wp n0 p e _ s below _ T (mkF m 302 #[.val (.int x0), .val (.int x1), .val (.int x2), .val (.int x3), .val (.int x4), .val (.int m1), .val (.int m2), .val (.int r1), .val (.int r2), .val (.int t1), .val (.int t2), .val (.ref o50), .val (.int (0 : Int32)), .val (.int (1 : Int32)), .val (.int (0 : Int32)), .val (.int ((15 : Int32) &&& ((0 : Int32) ^^^ (-1 : Int32)))), .val (.int (m2 &&& ((15 : Int32) &&& ((0 : Int32) ^^^ (-1 : Int32))))), .val (.int (m2 &&& (0 : Int32))), .val (.int (1 : Int32)), .val (.int (1 : Int32)), .val (.int (1 : Int32)), .val (.int (2 : Int32)), .val (.int (ffp (m2 &&& ((15 : Int32) &&& ((0 : Int32) ^^^ (-1 : Int32)))) r2 t2)), .val (.int (ffp (m2 &&& (0 : Int32)) r2 t2)), .unset, .unset, .unset, .unset] [.int (2 : Int32)])
      refine iload K S rfl d0_302 ?_
      refine ific_eq K S d0_304 (fun c304 => ?_) (fun c304 => ?_)
      · exact absurd c304 (by decide)
      refine iconst K S (x := (1 : Int32)) rfl d0_307 ?_
      refine goto K S d0_308 ?_
      refine iadd K S d0_312 ?_
      show Wp n0 p e _ s below _ T (mkF m 313 #[.val (.int x0), .val (.int x1), .val (.int x2), .val (.int x3), .val (.int x4), .val (.int m1), .val (.int m2), .val (.int r1), .val (.int r2), .val (.int t1), .val (.int t2), .val (.ref o50), .val (.int (0 : Int32)), .val (.int (1 : Int32)), .val (.int (0 : Int32)), .val (.int ((15 : Int32) &&& ((0 : Int32) ^^^ (-1 : Int32)))), .val (.int (m2 &&& ((15 : Int32) &&& ((0 : Int32) ^^^ (-1 : Int32))))), .val (.int (m2 &&& (0 : Int32))), .val (.int (1 : Int32)), .val (.int (1 : Int32)), .val (.int (1 : Int32)), .val (.int (2 : Int32)), .val (.int (ffp (m2 &&& ((15 : Int32) &&& ((0 : Int32) ^^^ (-1 : Int32)))) r2 t2)), .val (.int (ffp (m2 &&& (0 : Int32)) r2 t2)), .unset, .unset, .unset, .unset] [.int (3 : Int32)])
      refine istore K S (l' := #[.val (.int x0), .val (.int x1), .val (.int x2), .val (.int x3), .val (.int x4), .val (.int m1), .val (.int m2), .val (.int r1), .val (.int r2), .val (.int t1), .val (.int t2), .val (.ref o50), .val (.int (0 : Int32)), .val (.int (1 : Int32)), .val (.int (0 : Int32)), .val (.int ((15 : Int32) &&& ((0 : Int32) ^^^ (-1 : Int32)))), .val (.int (m2 &&& ((15 : Int32) &&& ((0 : Int32) ^^^ (-1 : Int32))))), .val (.int (m2 &&& (0 : Int32))), .val (.int (1 : Int32)), .val (.int (1 : Int32)), .val (.int (1 : Int32)), .val (.int (2 : Int32)), .val (.int (3 : Int32)), .val (.int (ffp (m2 &&& (0 : Int32)) r2 t2)), .unset, .unset, .unset, .unset]) rfl d0_313 ?_
      have eb1 : fb1 m1 = (1 : Int32) := by simp [fb1, c94]
      have ea1 : fa1 m1 = (0 : Int32) := by simp [fa1, c94]
      have ea0 : fa0 m1 = ((15 : Int32) &&& ((0 : Int32) ^^^ (-1 : Int32))) := by rw [fa0, ea1]
      have efsp0 : fsp0 m1 m2 = (1 : Int32) := by rw [fsp0, ea0, fsp, if_neg c161, if_neg c168]
      have efsp1 : fsp1 m1 m2 = (1 : Int32) := by rw [fsp1, ea1, fsp, if_neg c180, if_neg c187]
      have el : flt m1 m2 r2 t2 = true := by rw [flt, ea0, ea1]; exact decide_eq_true c239
      have ei0 : fid0 m1 m2 r2 t2 = (1 : Int32) := by simp [fid0, efsp0, efsp1, eb1, el]
      have ei1 : fid1 m1 m2 r2 t2 = (2 : Int32) := by simp [fid1, efsp0, efsp1, eb1, el]
      have eeb : feb m1 m2 = (3 : Int32) := by rw [feb, efsp0, efsp1, eb1] <;> decide
      have J := J315 T (.val (.int (0 : Int32))) (.val (.int (1 : Int32))) (.val (.int ((15 : Int32) &&& ((0 : Int32) ^^^ (-1 : Int32))))) (.val (.int (m2 &&& ((15 : Int32) &&& ((0 : Int32) ^^^ (-1 : Int32)))))) (.val (.int (m2 &&& (0 : Int32)))) (.val (.int (ffp (m2 &&& (0 : Int32)) r2 t2))) S (One.val rfl)
      rw [ea1, efsp0, efsp1, ei0, ei1, eeb] at J
      exact J
    refine iload K S rfl d0_97 ?_
    refine bipush K S (x := (15 : Int32)) rfl d0_99 ?_
    refine icmp_eq K S d0_101 (fun c101 => ?_) (fun c101 => ?_)
    · refine iconst K S (x := (0 : Int32)) rfl d0_108 ?_
      refine istore K S (l' := #[.val (.int x0), .val (.int x1), .val (.int x2), .val (.int x3), .val (.int x4), .val (.int m1), .val (.int m2), .val (.int r1), .val (.int r2), .val (.int t1), .val (.int t2), .val (.ref o50), .val (.int (0 : Int32)), .unset, .unset, .unset, .unset, .unset, .unset, .unset, .unset, .unset, .unset, .unset, .unset, .unset, .unset, .unset]) rfl d0_109 ?_
      refine iload K S rfl d0_111 ?_
      refine ific_eq K S d0_113 (fun c113 => ?_) (fun c113 => ?_)
      rotate_left
      · exact absurd c113 (by decide)
      refine iconst K S (x := (1 : Int32)) rfl d0_120 ?_
      refine istore K S (l' := #[.val (.int x0), .val (.int x1), .val (.int x2), .val (.int x3), .val (.int x4), .val (.int m1), .val (.int m2), .val (.int r1), .val (.int r2), .val (.int t1), .val (.int t2), .val (.ref o50), .val (.int (0 : Int32)), .val (.int (1 : Int32)), .unset, .unset, .unset, .unset, .unset, .unset, .unset, .unset, .unset, .unset, .unset, .unset, .unset, .unset]) rfl d0_121 ?_
      refine iload K S rfl d0_123 ?_
      refine ific_eq K S d0_125 (fun c125 => ?_) (fun c125 => ?_)
      rotate_left
      · exact absurd c125 (by decide)
      refine iconst K S (x := (0 : Int32)) rfl d0_133 ?_
      refine istore K S (l' := #[.val (.int x0), .val (.int x1), .val (.int x2), .val (.int x3), .val (.int x4), .val (.int m1), .val (.int m2), .val (.int r1), .val (.int r2), .val (.int t1), .val (.int t2), .val (.ref o50), .val (.int (0 : Int32)), .val (.int (1 : Int32)), .val (.int (0 : Int32)), .unset, .unset, .unset, .unset, .unset, .unset, .unset, .unset, .unset, .unset, .unset, .unset, .unset]) rfl d0_134 ?_
      refine bipush K S (x := (15 : Int32)) rfl d0_136 ?_
      refine iload K S rfl d0_138 ?_
      refine iconst K S (x := (-1 : Int32)) rfl d0_140 ?_
      refine ixor K S d0_141 ?_
      refine iand K S d0_142 ?_
      refine istore K S (l' := #[.val (.int x0), .val (.int x1), .val (.int x2), .val (.int x3), .val (.int x4), .val (.int m1), .val (.int m2), .val (.int r1), .val (.int r2), .val (.int t1), .val (.int t2), .val (.ref o50), .val (.int (0 : Int32)), .val (.int (1 : Int32)), .val (.int (0 : Int32)), .val (.int ((15 : Int32) &&& ((0 : Int32) ^^^ (-1 : Int32)))), .unset, .unset, .unset, .unset, .unset, .unset, .unset, .unset, .unset, .unset, .unset, .unset]) rfl d0_143 ?_
      refine iload K S rfl d0_145 ?_
      refine iload K S rfl d0_147 ?_
      refine iand K S d0_149 ?_
      refine istore K S (l' := #[.val (.int x0), .val (.int x1), .val (.int x2), .val (.int x3), .val (.int x4), .val (.int m1), .val (.int m2), .val (.int r1), .val (.int r2), .val (.int t1), .val (.int t2), .val (.ref o50), .val (.int (0 : Int32)), .val (.int (1 : Int32)), .val (.int (0 : Int32)), .val (.int ((15 : Int32) &&& ((0 : Int32) ^^^ (-1 : Int32)))), .val (.int (m2 &&& ((15 : Int32) &&& ((0 : Int32) ^^^ (-1 : Int32))))), .unset, .unset, .unset, .unset, .unset, .unset, .unset, .unset, .unset, .unset, .unset]) rfl d0_150 ?_
      refine iload K S rfl d0_152 ?_
      refine iload K S rfl d0_154 ?_
      refine iand K S d0_156 ?_
      refine istore K S (l' := #[.val (.int x0), .val (.int x1), .val (.int x2), .val (.int x3), .val (.int x4), .val (.int m1), .val (.int m2), .val (.int r1), .val (.int r2), .val (.int t1), .val (.int t2), .val (.ref o50), .val (.int (0 : Int32)), .val (.int (1 : Int32)), .val (.int (0 : Int32)), .val (.int ((15 : Int32) &&& ((0 : Int32) ^^^ (-1 : Int32)))), .val (.int (m2 &&& ((15 : Int32) &&& ((0 : Int32) ^^^ (-1 : Int32))))), .val (.int (m2 &&& (0 : Int32))), .unset, .unset, .unset, .unset, .unset, .unset, .unset, .unset, .unset, .unset]) rfl d0_157 ?_
      refine iload K S rfl d0_159 ?_
      refine ific_eq K S d0_161 (fun c161 => ?_) (fun c161 => ?_)
      · refine iconst K S (x := (0 : Int32)) rfl d0_175 ?_
        refine istore K S (l' := #[.val (.int x0), .val (.int x1), .val (.int x2), .val (.int x3), .val (.int x4), .val (.int m1), .val (.int m2), .val (.int r1), .val (.int r2), .val (.int t1), .val (.int t2), .val (.ref o50), .val (.int (0 : Int32)), .val (.int (1 : Int32)), .val (.int (0 : Int32)), .val (.int ((15 : Int32) &&& ((0 : Int32) ^^^ (-1 : Int32)))), .val (.int (m2 &&& ((15 : Int32) &&& ((0 : Int32) ^^^ (-1 : Int32))))), .val (.int (m2 &&& (0 : Int32))), .val (.int (0 : Int32)), .unset, .unset, .unset, .unset, .unset, .unset, .unset, .unset, .unset]) rfl d0_176 ?_
        refine iload K S rfl d0_178 ?_
        refine ific_eq K S d0_180 (fun c180 => ?_) (fun c180 => ?_)
        · refine iconst K S (x := (0 : Int32)) rfl d0_194 ?_
          refine istore K S (l' := #[.val (.int x0), .val (.int x1), .val (.int x2), .val (.int x3), .val (.int x4), .val (.int m1), .val (.int m2), .val (.int r1), .val (.int r2), .val (.int t1), .val (.int t2), .val (.ref o50), .val (.int (0 : Int32)), .val (.int (1 : Int32)), .val (.int (0 : Int32)), .val (.int ((15 : Int32) &&& ((0 : Int32) ^^^ (-1 : Int32)))), .val (.int (m2 &&& ((15 : Int32) &&& ((0 : Int32) ^^^ (-1 : Int32))))), .val (.int (m2 &&& (0 : Int32))), .val (.int (0 : Int32)), .val (.int (0 : Int32)), .unset, .unset, .unset, .unset, .unset, .unset, .unset, .unset]) rfl d0_195 ?_
          refine iconst K S (x := (0 : Int32)) rfl d0_197 ?_
          refine istore K S (l' := #[.val (.int x0), .val (.int x1), .val (.int x2), .val (.int x3), .val (.int x4), .val (.int m1), .val (.int m2), .val (.int r1), .val (.int r2), .val (.int t1), .val (.int t2), .val (.ref o50), .val (.int (0 : Int32)), .val (.int (1 : Int32)), .val (.int (0 : Int32)), .val (.int ((15 : Int32) &&& ((0 : Int32) ^^^ (-1 : Int32)))), .val (.int (m2 &&& ((15 : Int32) &&& ((0 : Int32) ^^^ (-1 : Int32))))), .val (.int (m2 &&& (0 : Int32))), .val (.int (0 : Int32)), .val (.int (0 : Int32)), .val (.int (0 : Int32)), .unset, .unset, .unset, .unset, .unset, .unset, .unset]) rfl d0_198 ?_
          refine iconst K S (x := (1 : Int32)) rfl d0_200 ?_
          refine istore K S (l' := #[.val (.int x0), .val (.int x1), .val (.int x2), .val (.int x3), .val (.int x4), .val (.int m1), .val (.int m2), .val (.int r1), .val (.int r2), .val (.int t1), .val (.int t2), .val (.ref o50), .val (.int (0 : Int32)), .val (.int (1 : Int32)), .val (.int (0 : Int32)), .val (.int ((15 : Int32) &&& ((0 : Int32) ^^^ (-1 : Int32)))), .val (.int (m2 &&& ((15 : Int32) &&& ((0 : Int32) ^^^ (-1 : Int32))))), .val (.int (m2 &&& (0 : Int32))), .val (.int (0 : Int32)), .val (.int (0 : Int32)), .val (.int (0 : Int32)), .val (.int (1 : Int32)), .unset, .unset, .unset, .unset, .unset, .unset]) rfl d0_201 ?_
          refine iload K S rfl d0_203 ?_
          refine ific_eq K S d0_205 (fun c205 => ?_) (fun c205 => ?_)
          rotate_left
          · exact absurd c205 (by decide)
          refine iload K S rfl d0_268 ?_
          refine ific_eq K S d0_270 (fun c270 => ?_) (fun c270 => ?_)
          rotate_left
          · exact absurd c270 (by decide)
          refine iload K S rfl d0_280 ?_
          refine ific_eq K S d0_282 (fun c282 => ?_) (fun c282 => ?_)
          rotate_left
          · exact absurd c282 (by decide)
          refine iload K S rfl d0_289 ?_
          refine iload K S rfl d0_291 ?_
          refine ific_eq K S d0_293 (fun c293 => ?_) (fun c293 => ?_)
          rotate_left
          · exact absurd c293 (by decide)
          refine iconst K S (x := (0 : Int32)) rfl d0_300 ?_
          refine iadd K S d0_301 ?_
          show Wp n0 p e _ s below _ T (mkF m 302 #[.val (.int x0), .val (.int x1), .val (.int x2), .val (.int x3), .val (.int x4), .val (.int m1), .val (.int m2), .val (.int r1), .val (.int r2), .val (.int t1), .val (.int t2), .val (.ref o50), .val (.int (0 : Int32)), .val (.int (1 : Int32)), .val (.int (0 : Int32)), .val (.int ((15 : Int32) &&& ((0 : Int32) ^^^ (-1 : Int32)))), .val (.int (m2 &&& ((15 : Int32) &&& ((0 : Int32) ^^^ (-1 : Int32))))), .val (.int (m2 &&& (0 : Int32))), .val (.int (0 : Int32)), .val (.int (0 : Int32)), .val (.int (0 : Int32)), .val (.int (1 : Int32)), .unset, .unset, .unset, .unset, .unset, .unset] [.int (1 : Int32)])
          refine iload K S rfl d0_302 ?_
          refine ific_eq K S d0_304 (fun c304 => ?_) (fun c304 => ?_)
          rotate_left
          · exact absurd c304 (by decide)
          refine iconst K S (x := (0 : Int32)) rfl d0_311 ?_
          refine iadd K S d0_312 ?_
          show Wp n0 p e _ s below _ T (mkF m 313 #[.val (.int x0), .val (.int x1), .val (.int x2), .val (.int x3), .val (.int x4), .val (.int m1), .val (.int m2), .val (.int r1), .val (.int r2), .val (.int t1), .val (.int t2), .val (.ref o50), .val (.int (0 : Int32)), .val (.int (1 : Int32)), .val (.int (0 : Int32)), .val (.int ((15 : Int32) &&& ((0 : Int32) ^^^ (-1 : Int32)))), .val (.int (m2 &&& ((15 : Int32) &&& ((0 : Int32) ^^^ (-1 : Int32))))), .val (.int (m2 &&& (0 : Int32))), .val (.int (0 : Int32)), .val (.int (0 : Int32)), .val (.int (0 : Int32)), .val (.int (1 : Int32)), .unset, .unset, .unset, .unset, .unset, .unset] [.int (1 : Int32)])
          refine istore K S (l' := #[.val (.int x0), .val (.int x1), .val (.int x2), .val (.int x3), .val (.int x4), .val (.int m1), .val (.int m2), .val (.int r1), .val (.int r2), .val (.int t1), .val (.int t2), .val (.ref o50), .val (.int (0 : Int32)), .val (.int (1 : Int32)), .val (.int (0 : Int32)), .val (.int ((15 : Int32) &&& ((0 : Int32) ^^^ (-1 : Int32)))), .val (.int (m2 &&& ((15 : Int32) &&& ((0 : Int32) ^^^ (-1 : Int32))))), .val (.int (m2 &&& (0 : Int32))), .val (.int (0 : Int32)), .val (.int (0 : Int32)), .val (.int (0 : Int32)), .val (.int (1 : Int32)), .val (.int (1 : Int32)), .unset, .unset, .unset, .unset, .unset]) rfl d0_313 ?_
          have eb1 : fb1 m1 = (1 : Int32) := by simp [fb1, c94, c101]
          have ea1 : fa1 m1 = (0 : Int32) := by simp [fa1, c94, c101]
          have ea0 : fa0 m1 = ((15 : Int32) &&& ((0 : Int32) ^^^ (-1 : Int32))) := by rw [fa0, ea1]
          have efsp0 : fsp0 m1 m2 = (0 : Int32) := by rw [fsp0, ea0, fsp, if_pos c161]
          have efsp1 : fsp1 m1 m2 = (0 : Int32) := by rw [fsp1, ea1, fsp, if_pos c180]
          have ei0 : fid0 m1 m2 r2 t2 = (0 : Int32) := by simp [fid0, efsp0, efsp1, eb1]
          have ei1 : fid1 m1 m2 r2 t2 = (1 : Int32) := by simp [fid1, efsp0, efsp1, eb1]
          have eeb : feb m1 m2 = (1 : Int32) := by rw [feb, efsp0, efsp1, eb1] <;> decide
          have J := J315 T (.val (.int (0 : Int32))) (.val (.int (1 : Int32))) (.val (.int ((15 : Int32) &&& ((0 : Int32) ^^^ (-1 : Int32))))) (.val (.int (m2 &&& ((15 : Int32) &&& ((0 : Int32) ^^^ (-1 : Int32)))))) (.val (.int (m2 &&& (0 : Int32)))) (.unset) S One.u
          rw [ea1, efsp0, efsp1, ei0, ei1, eeb] at J
          exact J
        refine iload K S rfl d0_183 ?_
        refine iload K S rfl d0_185 ?_
        refine icmp_eq K S d0_187 (fun c187 => ?_) (fun c187 => ?_)
        · refine iconst K S (x := (0 : Int32)) rfl d0_194 ?_
          refine istore K S (l' := #[.val (.int x0), .val (.int x1), .val (.int x2), .val (.int x3), .val (.int x4), .val (.int m1), .val (.int m2), .val (.int r1), .val (.int r2), .val (.int t1), .val (.int t2), .val (.ref o50), .val (.int (0 : Int32)), .val (.int (1 : Int32)), .val (.int (0 : Int32)), .val (.int ((15 : Int32) &&& ((0 : Int32) ^^^ (-1 : Int32)))), .val (.int (m2 &&& ((15 : Int32) &&& ((0 : Int32) ^^^ (-1 : Int32))))), .val (.int (m2 &&& (0 : Int32))), .val (.int (0 : Int32)), .val (.int (0 : Int32)), .unset, .unset, .unset, .unset, .unset, .unset, .unset, .unset]) rfl d0_195 ?_
          refine iconst K S (x := (0 : Int32)) rfl d0_197 ?_
          refine istore K S (l' := #[.val (.int x0), .val (.int x1), .val (.int x2), .val (.int x3), .val (.int x4), .val (.int m1), .val (.int m2), .val (.int r1), .val (.int r2), .val (.int t1), .val (.int t2), .val (.ref o50), .val (.int (0 : Int32)), .val (.int (1 : Int32)), .val (.int (0 : Int32)), .val (.int ((15 : Int32) &&& ((0 : Int32) ^^^ (-1 : Int32)))), .val (.int (m2 &&& ((15 : Int32) &&& ((0 : Int32) ^^^ (-1 : Int32))))), .val (.int (m2 &&& (0 : Int32))), .val (.int (0 : Int32)), .val (.int (0 : Int32)), .val (.int (0 : Int32)), .unset, .unset, .unset, .unset, .unset, .unset, .unset]) rfl d0_198 ?_
          refine iconst K S (x := (1 : Int32)) rfl d0_200 ?_
          refine istore K S (l' := #[.val (.int x0), .val (.int x1), .val (.int x2), .val (.int x3), .val (.int x4), .val (.int m1), .val (.int m2), .val (.int r1), .val (.int r2), .val (.int t1), .val (.int t2), .val (.ref o50), .val (.int (0 : Int32)), .val (.int (1 : Int32)), .val (.int (0 : Int32)), .val (.int ((15 : Int32) &&& ((0 : Int32) ^^^ (-1 : Int32)))), .val (.int (m2 &&& ((15 : Int32) &&& ((0 : Int32) ^^^ (-1 : Int32))))), .val (.int (m2 &&& (0 : Int32))), .val (.int (0 : Int32)), .val (.int (0 : Int32)), .val (.int (0 : Int32)), .val (.int (1 : Int32)), .unset, .unset, .unset, .unset, .unset, .unset]) rfl d0_201 ?_
          refine iload K S rfl d0_203 ?_
          refine ific_eq K S d0_205 (fun c205 => ?_) (fun c205 => ?_)
          rotate_left
          · exact absurd c205 (by decide)
          refine iload K S rfl d0_268 ?_
          refine ific_eq K S d0_270 (fun c270 => ?_) (fun c270 => ?_)
          rotate_left
          · exact absurd c270 (by decide)
          refine iload K S rfl d0_280 ?_
          refine ific_eq K S d0_282 (fun c282 => ?_) (fun c282 => ?_)
          rotate_left
          · exact absurd c282 (by decide)
          refine iload K S rfl d0_289 ?_
          refine iload K S rfl d0_291 ?_
          refine ific_eq K S d0_293 (fun c293 => ?_) (fun c293 => ?_)
          rotate_left
          · exact absurd c293 (by decide)
          refine iconst K S (x := (0 : Int32)) rfl d0_300 ?_
          refine iadd K S d0_301 ?_
          show Wp n0 p e _ s below _ T (mkF m 302 #[.val (.int x0), .val (.int x1), .val (.int x2), .val (.int x3), .val (.int x4), .val (.int m1), .val (.int m2), .val (.int r1), .val (.int r2), .val (.int t1), .val (.int t2), .val (.ref o50), .val (.int (0 : Int32)), .val (.int (1 : Int32)), .val (.int (0 : Int32)), .val (.int ((15 : Int32) &&& ((0 : Int32) ^^^ (-1 : Int32)))), .val (.int (m2 &&& ((15 : Int32) &&& ((0 : Int32) ^^^ (-1 : Int32))))), .val (.int (m2 &&& (0 : Int32))), .val (.int (0 : Int32)), .val (.int (0 : Int32)), .val (.int (0 : Int32)), .val (.int (1 : Int32)), .unset, .unset, .unset, .unset, .unset, .unset] [.int (1 : Int32)])
          refine iload K S rfl d0_302 ?_
          refine ific_eq K S d0_304 (fun c304 => ?_) (fun c304 => ?_)
          rotate_left
          · exact absurd c304 (by decide)
          refine iconst K S (x := (0 : Int32)) rfl d0_311 ?_
          refine iadd K S d0_312 ?_
          show Wp n0 p e _ s below _ T (mkF m 313 #[.val (.int x0), .val (.int x1), .val (.int x2), .val (.int x3), .val (.int x4), .val (.int m1), .val (.int m2), .val (.int r1), .val (.int r2), .val (.int t1), .val (.int t2), .val (.ref o50), .val (.int (0 : Int32)), .val (.int (1 : Int32)), .val (.int (0 : Int32)), .val (.int ((15 : Int32) &&& ((0 : Int32) ^^^ (-1 : Int32)))), .val (.int (m2 &&& ((15 : Int32) &&& ((0 : Int32) ^^^ (-1 : Int32))))), .val (.int (m2 &&& (0 : Int32))), .val (.int (0 : Int32)), .val (.int (0 : Int32)), .val (.int (0 : Int32)), .val (.int (1 : Int32)), .unset, .unset, .unset, .unset, .unset, .unset] [.int (1 : Int32)])
          refine istore K S (l' := #[.val (.int x0), .val (.int x1), .val (.int x2), .val (.int x3), .val (.int x4), .val (.int m1), .val (.int m2), .val (.int r1), .val (.int r2), .val (.int t1), .val (.int t2), .val (.ref o50), .val (.int (0 : Int32)), .val (.int (1 : Int32)), .val (.int (0 : Int32)), .val (.int ((15 : Int32) &&& ((0 : Int32) ^^^ (-1 : Int32)))), .val (.int (m2 &&& ((15 : Int32) &&& ((0 : Int32) ^^^ (-1 : Int32))))), .val (.int (m2 &&& (0 : Int32))), .val (.int (0 : Int32)), .val (.int (0 : Int32)), .val (.int (0 : Int32)), .val (.int (1 : Int32)), .val (.int (1 : Int32)), .unset, .unset, .unset, .unset, .unset]) rfl d0_313 ?_
          have eb1 : fb1 m1 = (1 : Int32) := by simp [fb1, c94, c101]
          have ea1 : fa1 m1 = (0 : Int32) := by simp [fa1, c94, c101]
          have ea0 : fa0 m1 = ((15 : Int32) &&& ((0 : Int32) ^^^ (-1 : Int32))) := by rw [fa0, ea1]
          have efsp0 : fsp0 m1 m2 = (0 : Int32) := by rw [fsp0, ea0, fsp, if_pos c161]
          have efsp1 : fsp1 m1 m2 = (0 : Int32) := by rw [fsp1, ea1, fsp, if_neg c180, if_pos c187]
          have ei0 : fid0 m1 m2 r2 t2 = (0 : Int32) := by simp [fid0, efsp0, efsp1, eb1]
          have ei1 : fid1 m1 m2 r2 t2 = (1 : Int32) := by simp [fid1, efsp0, efsp1, eb1]
          have eeb : feb m1 m2 = (1 : Int32) := by rw [feb, efsp0, efsp1, eb1] <;> decide
          have J := J315 T (.val (.int (0 : Int32))) (.val (.int (1 : Int32))) (.val (.int ((15 : Int32) &&& ((0 : Int32) ^^^ (-1 : Int32))))) (.val (.int (m2 &&& ((15 : Int32) &&& ((0 : Int32) ^^^ (-1 : Int32)))))) (.val (.int (m2 &&& (0 : Int32)))) (.unset) S One.u
          rw [ea1, efsp0, efsp1, ei0, ei1, eeb] at J
          exact J
        refine iconst K S (x := (1 : Int32)) rfl d0_190 ?_
        refine goto K S d0_191 ?_
        refine istore K S (l' := #[.val (.int x0), .val (.int x1), .val (.int x2), .val (.int x3), .val (.int x4), .val (.int m1), .val (.int m2), .val (.int r1), .val (.int r2), .val (.int t1), .val (.int t2), .val (.ref o50), .val (.int (0 : Int32)), .val (.int (1 : Int32)), .val (.int (0 : Int32)), .val (.int ((15 : Int32) &&& ((0 : Int32) ^^^ (-1 : Int32)))), .val (.int (m2 &&& ((15 : Int32) &&& ((0 : Int32) ^^^ (-1 : Int32))))), .val (.int (m2 &&& (0 : Int32))), .val (.int (0 : Int32)), .val (.int (1 : Int32)), .unset, .unset, .unset, .unset, .unset, .unset, .unset, .unset]) rfl d0_195 ?_
        refine iconst K S (x := (0 : Int32)) rfl d0_197 ?_
        refine istore K S (l' := #[.val (.int x0), .val (.int x1), .val (.int x2), .val (.int x3), .val (.int x4), .val (.int m1), .val (.int m2), .val (.int r1), .val (.int r2), .val (.int t1), .val (.int t2), .val (.ref o50), .val (.int (0 : Int32)), .val (.int (1 : Int32)), .val (.int (0 : Int32)), .val (.int ((15 : Int32) &&& ((0 : Int32) ^^^ (-1 : Int32)))), .val (.int (m2 &&& ((15 : Int32) &&& ((0 : Int32) ^^^ (-1 : Int32))))), .val (.int (m2 &&& (0 : Int32))), .val (.int (0 : Int32)), .val (.int (1 : Int32)), .val (.int (0 : Int32)), .unset, .unset, .unset, .unset, .unset, .unset, .unset]) rfl d0_198 ?_
        refine iconst K S (x := (1 : Int32)) rfl d0_200 ?_
        refine istore K S (l' := #[.val (.int x0), .val (.int x1), .val (.int x2), .val (.int x3), .val (.int x4), .val (.int m1), .val (.int m2), .val (.int r1), .val (.int r2), .val (.int t1), .val (.int t2), .val (.ref o50), .val (.int (0 : Int32)), .val (.int (1 : Int32)), .val (.int (0 : Int32)), .val (.int ((15 : Int32) &&& ((0 : Int32) ^^^ (-1 : Int32)))), .val (.int (m2 &&& ((15 : Int32) &&& ((0 : Int32) ^^^ (-1 : Int32))))), .val (.int (m2 &&& (0 : Int32))), .val (.int (0 : Int32)), .val (.int (1 : Int32)), .val (.int (0 : Int32)), .val (.int (1 : Int32)), .unset, .unset, .unset, .unset, .unset, .unset]) rfl d0_201 ?_
        refine iload K S rfl d0_203 ?_
        refine ific_eq K S d0_205 (fun c205 => ?_) (fun c205 => ?_)
        rotate_left
        · exact absurd c205 (by decide)
        refine iload K S rfl d0_268 ?_
        refine ific_eq K S d0_270 (fun c270 => ?_) (fun c270 => ?_)
        rotate_left
        · exact absurd c270 (by decide)
        refine iload K S rfl d0_280 ?_
        refine ific_eq K S d0_282 (fun c282 => ?_) (fun c282 => ?_)
        · exact absurd c282 (by decide)
        refine iload K S rfl d0_285 ?_
        refine istore K S (l' := #[.val (.int x0), .val (.int x1), .val (.int x2), .val (.int x3), .val (.int x4), .val (.int m1), .val (.int m2), .val (.int r1), .val (.int r2), .val (.int t1), .val (.int t2), .val (.ref o50), .val (.int (0 : Int32)), .val (.int (1 : Int32)), .val (.int (0 : Int32)), .val (.int ((15 : Int32) &&& ((0 : Int32) ^^^ (-1 : Int32)))), .val (.int (m2 &&& ((15 : Int32) &&& ((0 : Int32) ^^^ (-1 : Int32))))), .val (.int (m2 &&& (0 : Int32))), .val (.int (0 : Int32)), .val (.int (1 : Int32)), .val (.int (0 : Int32)), .val (.int (1 : Int32)), .unset, .unset, .unset, .unset, .unset, .unset]) rfl d0_287 ?_
        refine iload K S rfl d0_289 ?_
        refine iload K S rfl d0_291 ?_
        refine ific_eq K S d0_293 (fun c293 => ?_) (fun c293 => ?_)
        rotate_left
        · exact absurd c293 (by decide)
        refine iconst K S (x := (0 : Int32)) rfl d0_300 ?_
        refine iadd K S d0_301 ?_
        show Wp n0 p e _ s below _ T (mkF m 302 #[.val (.int x0), .val (.int x1), .val (.int x2), .val (.int x3), .val (.int x4), .val (.int m1), .val (.int m2), .val (.int r1), .val (.int r2), .val (.int t1), .val (.int t2), .val (.ref o50), .val (.int (0 : Int32)), .val (.int (1 : Int32)), .val (.int (0 : Int32)), .val (.int ((15 : Int32) &&& ((0 : Int32) ^^^ (-1 : Int32)))), .val (.int (m2 &&& ((15 : Int32) &&& ((0 : Int32) ^^^ (-1 : Int32))))), .val (.int (m2 &&& (0 : Int32))), .val (.int (0 : Int32)), .val (.int (1 : Int32)), .val (.int (0 : Int32)), .val (.int (1 : Int32)), .unset, .unset, .unset, .unset, .unset, .unset] [.int (1 : Int32)])
        refine iload K S rfl d0_302 ?_
        refine ific_eq K S d0_304 (fun c304 => ?_) (fun c304 => ?_)
        · exact absurd c304 (by decide)
        refine iconst K S (x := (1 : Int32)) rfl d0_307 ?_
        refine goto K S d0_308 ?_
        refine iadd K S d0_312 ?_
        show Wp n0 p e _ s below _ T (mkF m 313 #[.val (.int x0), .val (.int x1), .val (.int x2), .val (.int x3), .val (.int x4), .val (.int m1), .val (.int m2), .val (.int r1), .val (.int r2), .val (.int t1), .val (.int t2), .val (.ref o50), .val (.int (0 : Int32)), .val (.int (1 : Int32)), .val (.int (0 : Int32)), .val (.int ((15 : Int32) &&& ((0 : Int32) ^^^ (-1 : Int32)))), .val (.int (m2 &&& ((15 : Int32) &&& ((0 : Int32) ^^^ (-1 : Int32))))), .val (.int (m2 &&& (0 : Int32))), .val (.int (0 : Int32)), .val (.int (1 : Int32)), .val (.int (0 : Int32)), .val (.int (1 : Int32)), .unset, .unset, .unset, .unset, .unset, .unset] [.int (2 : Int32)])
        refine istore K S (l' := #[.val (.int x0), .val (.int x1), .val (.int x2), .val (.int x3), .val (.int x4), .val (.int m1), .val (.int m2), .val (.int r1), .val (.int r2), .val (.int t1), .val (.int t2), .val (.ref o50), .val (.int (0 : Int32)), .val (.int (1 : Int32)), .val (.int (0 : Int32)), .val (.int ((15 : Int32) &&& ((0 : Int32) ^^^ (-1 : Int32)))), .val (.int (m2 &&& ((15 : Int32) &&& ((0 : Int32) ^^^ (-1 : Int32))))), .val (.int (m2 &&& (0 : Int32))), .val (.int (0 : Int32)), .val (.int (1 : Int32)), .val (.int (0 : Int32)), .val (.int (1 : Int32)), .val (.int (2 : Int32)), .unset, .unset, .unset, .unset, .unset]) rfl d0_313 ?_
        have eb1 : fb1 m1 = (1 : Int32) := by simp [fb1, c94, c101]
        have ea1 : fa1 m1 = (0 : Int32) := by simp [fa1, c94, c101]
        have ea0 : fa0 m1 = ((15 : Int32) &&& ((0 : Int32) ^^^ (-1 : Int32))) := by rw [fa0, ea1]
        have efsp0 : fsp0 m1 m2 = (0 : Int32) := by rw [fsp0, ea0, fsp, if_pos c161]
        have efsp1 : fsp1 m1 m2 = (1 : Int32) := by rw [fsp1, ea1, fsp, if_neg c180, if_neg c187]
        have ei0 : fid0 m1 m2 r2 t2 = (0 : Int32) := by simp [fid0, efsp0, efsp1, eb1]
        have ei1 : fid1 m1 m2 r2 t2 = (1 : Int32) := by simp [fid1, efsp0, efsp1, eb1]
        have eeb : feb m1 m2 = (2 : Int32) := by rw [feb, efsp0, efsp1, eb1] <;> decide
        have J := J315 T (.val (.int (0 : Int32))) (.val (.int (1 : Int32))) (.val (.int ((15 : Int32) &&& ((0 : Int32) ^^^ (-1 : Int32))))) (.val (.int (m2 &&& ((15 : Int32) &&& ((0 : Int32) ^^^ (-1 : Int32)))))) (.val (.int (m2 &&& (0 : Int32)))) (.unset) S One.u
        rw [ea1, efsp0, efsp1, ei0, ei1, eeb] at J
        exact J
      refine iload K S rfl d0_164 ?_
      refine iload K S rfl d0_166 ?_
      refine icmp_eq K S d0_168 (fun c168 => ?_) (fun c168 => ?_)
      · refine iconst K S (x := (0 : Int32)) rfl d0_175 ?_
        refine istore K S (l' := #[.val (.int x0), .val (.int x1), .val (.int x2), .val (.int x3), .val (.int x4), .val (.int m1), .val (.int m2), .val (.int r1), .val (.int r2), .val (.int t1), .val (.int t2), .val (.ref o50), .val (.int (0 : Int32)), .val (.int (1 : Int32)), .val (.int (0 : Int32)), .val (.int ((15 : Int32) &&& ((0 : Int32) ^^^ (-1 : Int32)))), .val (.int (m2 &&& ((15 : Int32) &&& ((0 : Int32) ^^^ (-1 : Int32))))), .val (.int (m2 &&& (0 : Int32))), .val (.int (0 : Int32)), .unset, .unset, .unset, .unset, .unset, .unset, .unset, .unset, .unset]) rfl d0_176 ?_
        refine iload K S rfl d0_178 ?_
        refine ific_eq K S d0_180 (fun c180 => ?_) (fun c180 => ?_)
        · refine iconst K S (x := (0 : Int32)) rfl d0_194 ?_
          refine istore K S (l' := #[.val (.int x0), .val (.int x1), .val (.int x2), .val (.int x3), .val (.int x4), .val (.int m1), .val (.int m2), .val (.int r1), .val (.int r2), .val (.int t1), .val (.int t2), .val (.ref o50), .val (.int (0 : Int32)), .val (.int (1 : Int32)), .val (.int (0 : Int32)), .val (.int ((15 : Int32) &&& ((0 : Int32) ^^^ (-1 : Int32)))), .val (.int (m2 &&& ((15 : Int32) &&& ((0 : Int32) ^^^ (-1 : Int32))))), .val (.int (m2 &&& (0 : Int32))), .val (.int (0 : Int32)), .val (.int (0 : Int32)), .unset, .unset, .unset, .unset, .unset, .unset, .unset, .unset]) rfl d0_195 ?_
          refine iconst K S (x := (0 : Int32)) rfl d0_197 ?_
          refine istore K S (l' := #[.val (.int x0), .val (.int x1), .val (.int x2), .val (.int x3), .val (.int x4), .val (.int m1), .val (.int m2), .val (.int r1), .val (.int r2), .val (.int t1), .val (.int t2), .val (.ref o50), .val (.int (0 : Int32)), .val (.int (1 : Int32)), .val (.int (0 : Int32)), .val (.int ((15 : Int32) &&& ((0 : Int32) ^^^ (-1 : Int32)))), .val (.int (m2 &&& ((15 : Int32) &&& ((0 : Int32) ^^^ (-1 : Int32))))), .val (.int (m2 &&& (0 : Int32))), .val (.int (0 : Int32)), .val (.int (0 : Int32)), .val (.int (0 : Int32)), .unset, .unset, .unset, .unset, .unset, .unset, .unset]) rfl d0_198 ?_
          refine iconst K S (x := (1 : Int32)) rfl d0_200 ?_
          refine istore K S (l' := #[.val (.int x0), .val (.int x1), .val (.int x2), .val (.int x3), .val (.int x4), .val (.int m1), .val (.int m2), .val (.int r1), .val (.int r2), .val (.int t1), .val (.int t2), .val (.ref o50), .val (.int (0 : Int32)), .val (.int (1 : Int32)), .val (.int (0 : Int32)), .val (.int ((15 : Int32) &&& ((0 : Int32) ^^^ (-1 : Int32)))), .val (.int (m2 &&& ((15 : Int32) &&& ((0 : Int32) ^^^ (-1 : Int32))))), .val (.int (m2 &&& (0 : Int32))), .val (.int (0 : Int32)), .val (.int (0 : Int32)), .val (.int (0 : Int32)), .val (.int (1 : Int32)), .unset, .unset, .unset, .unset, .unset, .unset]) rfl d0_201 ?_
          refine iload K S rfl d0_203 ?_
          refine ific_eq K S d0_205 (fun c205 => ?_) (fun c205 => ?_)
          rotate_left
          · exact absurd c205 (by decide)
          refine iload K S rfl d0_268 ?_
          refine ific_eq K S d0_270 (fun c270 => ?_) (fun c270 => ?_)
          rotate_left
          · exact absurd c270 (by decide)
          refine iload K S rfl d0_280 ?_
          refine ific_eq K S d0_282 (fun c282 => ?_) (fun c282 => ?_)
          rotate_left
          · exact absurd c282 (by decide)
          refine iload K S rfl d0_289 ?_
          refine iload K S rfl d0_291 ?_
          refine ific_eq K S d0_293 (fun c293 => ?_) (fun c293 => ?_)
          rotate_left
          · exact absurd c293 (by decide)
          refine iconst K S (x := (0 : Int32)) rfl d0_300 ?_
          refine iadd K S d0_301 ?_
          show Wp n0 p e _ s below _ T (mkF m 302 #[.val (.int x0), .val (.int x1), .val (.int x2), .val (.int x3), .val (.int x4), .val (.int m1), .val (.int m2), .val (.int r1), .val (.int r2), .val (.int t1), .val (.int t2), .val (.ref o50), .val (.int (0 : Int32)), .val (.int (1 : Int32)), .val (.int (0 : Int32)), .val (.int ((15 : Int32) &&& ((0 : Int32) ^^^ (-1 : Int32)))), .val (.int (m2 &&& ((15 : Int32) &&& ((0 : Int32) ^^^ (-1 : Int32))))), .val (.int (m2 &&& (0 : Int32))), .val (.int (0 : Int32)), .val (.int (0 : Int32)), .val (.int (0 : Int32)), .val (.int (1 : Int32)), .unset, .unset, .unset, .unset, .unset, .unset] [.int (1 : Int32)])
          refine iload K S rfl d0_302 ?_
          refine ific_eq K S d0_304 (fun c304 => ?_) (fun c304 => ?_)
          rotate_left
          · exact absurd c304 (by decide)
          refine iconst K S (x := (0 : Int32)) rfl d0_311 ?_
          refine iadd K S d0_312 ?_
          show Wp n0 p e _ s below _ T (mkF m 313 #[.val (.int x0), .val (.int x1), .val (.int x2), .val (.int x3), .val (.int x4), .val (.int m1), .val (.int m2), .val (.int r1), .val (.int r2), .val (.int t1), .val (.int t2), .val (.ref o50), .val (.int (0 : Int32)), .val (.int (1 : Int32)), .val (.int (0 : Int32)), .val (.int ((15 : Int32) &&& ((0 : Int32) ^^^ (-1 : Int32)))), .val (.int (m2 &&& ((15 : Int32) &&& ((0 : Int32) ^^^ (-1 : Int32))))), .val (.int (m2 &&& (0 : Int32))), .val (.int (0 : Int32)), .val (.int (0 : Int32)), .val (.int (0 : Int32)), .val (.int (1 : Int32)), .unset, .unset, .unset, .unset, .unset, .unset] [.int (1 : Int32)])
          refine istore K S (l' := #[.val (.int x0), .val (.int x1), .val (.int x2), .val (.int x3), .val (.int x4), .val (.int m1), .val (.int m2), .val (.int r1), .val (.int r2), .val (.int t1), .val (.int t2), .val (.ref o50), .val (.int (0 : Int32)), .val (.int (1 : Int32)), .val (.int (0 : Int32)), .val (.int ((15 : Int32) &&& ((0 : Int32) ^^^ (-1 : Int32)))), .val (.int (m2 &&& ((15 : Int32) &&& ((0 : Int32) ^^^ (-1 : Int32))))), .val (.int (m2 &&& (0 : Int32))), .val (.int (0 : Int32)), .val (.int (0 : Int32)), .val (.int (0 : Int32)), .val (.int (1 : Int32)), .val (.int (1 : Int32)), .unset, .unset, .unset, .unset, .unset]) rfl d0_313 ?_
          have eb1 : fb1 m1 = (1 : Int32) := by simp [fb1, c94, c101]
          have ea1 : fa1 m1 = (0 : Int32) := by simp [fa1, c94, c101]
          have ea0 : fa0 m1 = ((15 : Int32) &&& ((0 : Int32) ^^^ (-1 : Int32))) := by rw [fa0, ea1]
          have efsp0 : fsp0 m1 m2 = (0 : Int32) := by rw [fsp0, ea0, fsp, if_neg c161, if_pos c168]
          have efsp1 : fsp1 m1 m2 = (0 : Int32) := by rw [fsp1, ea1, fsp, if_pos c180]
          have ei0 : fid0 m1 m2 r2 t2 = (0 : Int32) := by simp [fid0, efsp0, efsp1, eb1]
          have ei1 : fid1 m1 m2 r2 t2 = (1 : Int32) := by simp [fid1, efsp0, efsp1, eb1]
          have eeb : feb m1 m2 = (1 : Int32) := by rw [feb, efsp0, efsp1, eb1] <;> decide
          have J := J315 T (.val (.int (0 : Int32))) (.val (.int (1 : Int32))) (.val (.int ((15 : Int32) &&& ((0 : Int32) ^^^ (-1 : Int32))))) (.val (.int (m2 &&& ((15 : Int32) &&& ((0 : Int32) ^^^ (-1 : Int32)))))) (.val (.int (m2 &&& (0 : Int32)))) (.unset) S One.u
          rw [ea1, efsp0, efsp1, ei0, ei1, eeb] at J
          exact J
        refine iload K S rfl d0_183 ?_
        refine iload K S rfl d0_185 ?_
        refine icmp_eq K S d0_187 (fun c187 => ?_) (fun c187 => ?_)
        · refine iconst K S (x := (0 : Int32)) rfl d0_194 ?_
          refine istore K S (l' := #[.val (.int x0), .val (.int x1), .val (.int x2), .val (.int x3), .val (.int x4), .val (.int m1), .val (.int m2), .val (.int r1), .val (.int r2), .val (.int t1), .val (.int t2), .val (.ref o50), .val (.int (0 : Int32)), .val (.int (1 : Int32)), .val (.int (0 : Int32)), .val (.int ((15 : Int32) &&& ((0 : Int32) ^^^ (-1 : Int32)))), .val (.int (m2 &&& ((15 : Int32) &&& ((0 : Int32) ^^^ (-1 : Int32))))), .val (.int (m2 &&& (0 : Int32))), .val (.int (0 : Int32)), .val (.int (0 : Int32)), .unset, .unset, .unset, .unset, .unset, .unset, .unset, .unset]) rfl d0_195 ?_
          refine iconst K S (x := (0 : Int32)) rfl d0_197 ?_
          refine istore K S (l' := #[.val (.int x0), .val (.int x1), .val (.int x2), .val (.int x3), .val (.int x4), .val (.int m1), .val (.int m2), .val (.int r1), .val (.int r2), .val (.int t1), .val (.int t2), .val (.ref o50), .val (.int (0 : Int32)), .val (.int (1 : Int32)), .val (.int (0 : Int32)), .val (.int ((15 : Int32) &&& ((0 : Int32) ^^^ (-1 : Int32)))), .val (.int (m2 &&& ((15 : Int32) &&& ((0 : Int32) ^^^ (-1 : Int32))))), .val (.int (m2 &&& (0 : Int32))), .val (.int (0 : Int32)), .val (.int (0 : Int32)), .val (.int (0 : Int32)), .unset, .unset, .unset, .unset, .unset, .unset, .unset]) rfl d0_198 ?_
          refine iconst K S (x := (1 : Int32)) rfl d0_200 ?_
          refine istore K S (l' := #[.val (.int x0), .val (.int x1), .val (.int x2), .val (.int x3), .val (.int x4), .val (.int m1), .val (.int m2), .val (.int r1), .val (.int r2), .val (.int t1), .val (.int t2), .val (.ref o50), .val (.int (0 : Int32)), .val (.int (1 : Int32)), .val (.int (0 : Int32)), .val (.int ((15 : Int32) &&& ((0 : Int32) ^^^ (-1 : Int32)))), .val (.int (m2 &&& ((15 : Int32) &&& ((0 : Int32) ^^^ (-1 : Int32))))), .val (.int (m2 &&& (0 : Int32))), .val (.int (0 : Int32)), .val (.int (0 : Int32)), .val (.int (0 : Int32)), .val (.int (1 : Int32)), .unset, .unset, .unset, .unset, .unset, .unset]) rfl d0_201 ?_
          refine iload K S rfl d0_203 ?_
          refine ific_eq K S d0_205 (fun c205 => ?_) (fun c205 => ?_)
          rotate_left
          · exact absurd c205 (by decide)
          refine iload K S rfl d0_268 ?_
          refine ific_eq K S d0_270 (fun c270 => ?_) (fun c270 => ?_)
          rotate_left
          · exact absurd c270 (by decide)
          refine iload K S rfl d0_280 ?_
          refine ific_eq K S d0_282 (fun c282 => ?_) (fun c282 => ?_)
          rotate_left
          · exact absurd c282 (by decide)
          refine iload K S rfl d0_289 ?_
          refine iload K S rfl d0_291 ?_
          refine ific_eq K S d0_293 (fun c293 => ?_) (fun c293 => ?_)
          rotate_left
          · exact absurd c293 (by decide)
          refine iconst K S (x := (0 : Int32)) rfl d0_300 ?_
          refine iadd K S d0_301 ?_
          show Wp n0 p e _ s below _ T (mkF m 302 #[.val (.int x0), .val (.int x1), .val (.int x2), .val (.int x3), .val (.int x4), .val (.int m1), .val (.int m2), .val (.int r1), .val (.int r2), .val (.int t1), .val (.int t2), .val (.ref o50), .val (.int (0 : Int32)), .val (.int (1 : Int32)), .val (.int (0 : Int32)), .val (.int ((15 : Int32) &&& ((0 : Int32) ^^^ (-1 : Int32)))), .val (.int (m2 &&& ((15 : Int32) &&& ((0 : Int32) ^^^ (-1 : Int32))))), .val (.int (m2 &&& (0 : Int32))), .val (.int (0 : Int32)), .val (.int (0 : Int32)), .val (.int (0 : Int32)), .val (.int (1 : Int32)), .unset, .unset, .unset, .unset, .unset, .unset] [.int (1 : Int32)])
          refine iload K S rfl d0_302 ?_
          refine ific_eq K S d0_304 (fun c304 => ?_) (fun c304 => ?_)
          rotate_left
          · exact absurd c304 (by decide)
          refine iconst K S (x := (0 : Int32)) rfl d0_311 ?_
          refine iadd K S d0_312 ?_
          show Wp n0 p e _ s below _ T (mkF m 313 #[.val (.int x0), .val (.int x1), .val (.int x2), .val (.int x3), .val (.int x4), .val (.int m1), .val (.int m2), .val (.int r1), .val (.int r2), .val (.int t1), .val (.int t2), .val (.ref o50), .val (.int (0 : Int32)), .val (.int (1 : Int32)), .val (.int (0 : Int32)), .val (.int ((15 : Int32) &&& ((0 : Int32) ^^^ (-1 : Int32)))), .val (.int (m2 &&& ((15 : Int32) &&& ((0 : Int32) ^^^ (-1 : Int32))))), .val (.int (m2 &&& (0 : Int32))), .val (.int (0 : Int32)), .val (.int (0 : Int32)), .val (.int (0 : Int32)), .val (.int (1 : Int32)), .unset, .unset, .unset, .unset, .unset, .unset] [.int (1 : Int32)])
          refine istore K S (l' := #[.val (.int x0), .val (.int x1), .val (.int x2), .val (.int x3), .val (.int x4), .val (.int m1), .val (.int m2), .val (.int r1), .val (.int r2), .val (.int t1), .val (.int t2), .val (.ref o50), .val (.int (0 : Int32)), .val (.int (1 : Int32)), .val (.int (0 : Int32)), .val (.int ((15 : Int32) &&& ((0 : Int32) ^^^ (-1 : Int32)))), .val (.int (m2 &&& ((15 : Int32) &&& ((0 : Int32) ^^^ (-1 : Int32))))), .val (.int (m2 &&& (0 : Int32))), .val (.int (0 : Int32)), .val (.int (0 : Int32)), .val (.int (0 : Int32)), .val (.int (1 : Int32)), .val (.int (1 : Int32)), .unset, .unset, .unset, .unset, .unset]) rfl d0_313 ?_
          have eb1 : fb1 m1 = (1 : Int32) := by simp [fb1, c94, c101]
          have ea1 : fa1 m1 = (0 : Int32) := by simp [fa1, c94, c101]
          have ea0 : fa0 m1 = ((15 : Int32) &&& ((0 : Int32) ^^^ (-1 : Int32))) := by rw [fa0, ea1]
          have efsp0 : fsp0 m1 m2 = (0 : Int32) := by rw [fsp0, ea0, fsp, if_neg c161, if_pos c168]
          have efsp1 : fsp1 m1 m2 = (0 : Int32) := by rw [fsp1, ea1, fsp, if_neg c180, if_pos c187]
          have ei0 : fid0 m1 m2 r2 t2 = (0 : Int32) := by simp [fid0, efsp0, efsp1, eb1]
          have ei1 : fid1 m1 m2 r2 t2 = (1 : Int32) := by simp [fid1, efsp0, efsp1, eb1]
          have eeb : feb m1 m2 = (1 : Int32) := by rw [feb, efsp0, efsp1, eb1] <;> decide
          have J := J315 T (.val (.int (0 : Int32))) (.val (.int (1 : Int32))) (.val (.int ((15 : Int32) &&& ((0 : Int32) ^^^ (-1 : Int32))))) (.val (.int (m2 &&& ((15 : Int32) &&& ((0 : Int32) ^^^ (-1 : Int32)))))) (.val (.int (m2 &&& (0 : Int32)))) (.unset) S One.u
          rw [ea1, efsp0, efsp1, ei0, ei1, eeb] at J
          exact J
        refine iconst K S (x := (1 : Int32)) rfl d0_190 ?_
        refine goto K S d0_191 ?_
        refine istore K S (l' := #[.val (.int x0), .val (.int x1), .val (.int x2), .val (.int x3), .val (.int x4), .val (.int m1), .val (.int m2), .val (.int r1), .val (.int r2), .val (.int t1), .val (.int t2), .val (.ref o50), .val (.int (0 : Int32)), .val (.int (1 : Int32)), .val (.int (0 : Int32)), .val (.int ((15 : Int32) &&& ((0 : Int32) ^^^ (-1 : Int32)))), .val (.int (m2 &&& ((15 : Int32) &&& ((0 : Int32) ^^^ (-1 : Int32))))), .val (.int (m2 &&& (0 : Int32))), .val (.int (0 : Int32)), .val (.int (1 : Int32)), .unset, .unset, .unset, .unset, .unset, .unset, .unset, .unset]) rfl d0_195 ?_
        refine iconst K S (x := (0 : Int32)) rfl d0_197 ?_
        refine istore K S (l' := #[.val (.int x0), .val (.int x1), .val (.int x2), .val (.int x3), .val (.int x4), .val (.int m1), .val (.int m2), .val (.int r1), .val (.int r2), .val (.int t1), .val (.int t2), .val (.ref o50), .val (.int (0 : Int32)), .val (.int (1 : Int32)), .val (.int (0 : Int32)), .val (.int ((15 : Int32) &&& ((0 : Int32) ^^^ (-1 : Int32)))), .val (.int (m2 &&& ((15 : Int32) &&& ((0 : Int32) ^^^ (-1 : Int32))))), .val (.int (m2 &&& (0 : Int32))), .val (.int (0 : Int32)), .val (.int (1 : Int32)), .val (.int (0 : Int32)), .unset, .unset, .unset, .unset, .unset, .unset, .unset]) rfl d0_198 ?_
        refine iconst K S (x := (1 : Int32)) rfl d0_200 ?_
        refine istore K S (l' := #[.val (.int x0), .val (.int x1), .val (.int x2), .val (.int x3), .val (.int x4), .val (.int m1), .val (.int m2), .val (.int r1), .val (.int r2), .val (.int t1), .val (.int t2), .val (.ref o50), .val (.int (0 : Int32)), .val (.int (1 : Int32)), .val (.int (0 : Int32)), .val (.int ((15 : Int32) &&& ((0 : Int32) ^^^ (-1 : Int32)))), .val (.int (m2 &&& ((15 : Int32) &&& ((0 : Int32) ^^^ (-1 : Int32))))), .val (.int (m2 &&& (0 : Int32))), .val (.int (0 : Int32)), .val (.int (1 : Int32)), .val (.int (0 : Int32)), .val (.int (1 : Int32)), .unset, .unset, .unset, .unset, .unset, .unset]) rfl d0_201 ?_
        refine iload K S rfl d0_203 ?_
        refine ific_eq K S d0_205 (fun c205 => ?_) (fun c205 => ?_)
        rotate_left
        · exact absurd c205 (by decide)
        refine iload K S rfl d0_268 ?_
        refine ific_eq K S d0_270 (fun c270 => ?_) (fun c270 => ?_)
        rotate_left
        · exact absurd c270 (by decide)
        refine iload K S rfl d0_280 ?_
        refine ific_eq K S d0_282 (fun c282 => ?_) (fun c282 => ?_)
        · exact absurd c282 (by decide)
        refine iload K S rfl d0_285 ?_
        refine istore K S (l' := #[.val (.int x0), .val (.int x1), .val (.int x2), .val (.int x3), .val (.int x4), .val (.int m1), .val (.int m2), .val (.int r1), .val (.int r2), .val (.int t1), .val (.int t2), .val (.ref o50), .val (.int (0 : Int32)), .val (.int (1 : Int32)), .val (.int (0 : Int32)), .val (.int ((15 : Int32) &&& ((0 : Int32) ^^^ (-1 : Int32)))), .val (.int (m2 &&& ((15 : Int32) &&& ((0 : Int32) ^^^ (-1 : Int32))))), .val (.int (m2 &&& (0 : Int32))), .val (.int (0 : Int32)), .val (.int (1 : Int32)), .val (.int (0 : Int32)), .val (.int (1 : Int32)), .unset, .unset, .unset, .unset, .unset, .unset]) rfl d0_287 ?_
        refine iload K S rfl d0_289 ?_
        refine iload K S rfl d0_291 ?_
        refine ific_eq K S d0_293 (fun c293 => ?_) (fun c293 => ?_)
        rotate_left
        · exact absurd c293 (by decide)
        refine iconst K S (x := (0 : Int32)) rfl d0_300 ?_
        refine iadd K S d0_301 ?_
        show Wp n0 p e _ s below _ T (mkF m 302 #[.val (.int x0), .val (.int x1), .val (.int x2), .val (.int x3), .val (.int x4), .val (.int m1), .val (.int m2), .val (.int r1), .val (.int r2), .val (.int t1), .val (.int t2), .val (.ref o50), .val (.int (0 : Int32)), .val (.int (1 : Int32)), .val (.int (0 : Int32)), .val (.int ((15 : Int32) &&& ((0 : Int32) ^^^ (-1 : Int32)))), .val (.int (m2 &&& ((15 : Int32) &&& ((0 : Int32) ^^^ (-1 : Int32))))), .val (.int (m2 &&& (0 : Int32))), .val (.int (0 : Int32)), .val (.int (1 : Int32)), .val (.int (0 : Int32)), .val (.int (1 : Int32)), .unset, .unset, .unset, .unset, .unset, .unset] [.int (1 : Int32)])
        refine iload K S rfl d0_302 ?_
        refine ific_eq K S d0_304 (fun c304 => ?_) (fun c304 => ?_)
        · exact absurd c304 (by decide)
        refine iconst K S (x := (1 : Int32)) rfl d0_307 ?_
        refine goto K S d0_308 ?_
        refine iadd K S d0_312 ?_
        show Wp n0 p e _ s below _ T (mkF m 313 #[.val (.int x0), .val (.int x1), .val (.int x2), .val (.int x3), .val (.int x4), .val (.int m1), .val (.int m2), .val (.int r1), .val (.int r2), .val (.int t1), .val (.int t2), .val (.ref o50), .val (.int (0 : Int32)), .val (.int (1 : Int32)), .val (.int (0 : Int32)), .val (.int ((15 : Int32) &&& ((0 : Int32) ^^^ (-1 : Int32)))), .val (.int (m2 &&& ((15 : Int32) &&& ((0 : Int32) ^^^ (-1 : Int32))))), .val (.int (m2 &&& (0 : Int32))), .val (.int (0 : Int32)), .val (.int (1 : Int32)), .val (.int (0 : Int32)), .val (.int (1 : Int32)), .unset, .unset, .unset, .unset, .unset, .unset] [.int (2 : Int32)])
        refine istore K S (l' := #[.val (.int x0), .val (.int x1), .val (.int x2), .val (.int x3), .val (.int x4), .val (.int m1), .val (.int m2), .val (.int r1), .val (.int r2), .val (.int t1), .val (.int t2), .val (.ref o50), .val (.int (0 : Int32)), .val (.int (1 : Int32)), .val (.int (0 : Int32)), .val (.int ((15 : Int32) &&& ((0 : Int32) ^^^ (-1 : Int32)))), .val (.int (m2 &&& ((15 : Int32) &&& ((0 : Int32) ^^^ (-1 : Int32))))), .val (.int (m2 &&& (0 : Int32))), .val (.int (0 : Int32)), .val (.int (1 : Int32)), .val (.int (0 : Int32)), .val (.int (1 : Int32)), .val (.int (2 : Int32)), .unset, .unset, .unset, .unset, .unset]) rfl d0_313 ?_
        have eb1 : fb1 m1 = (1 : Int32) := by simp [fb1, c94, c101]
        have ea1 : fa1 m1 = (0 : Int32) := by simp [fa1, c94, c101]
        have ea0 : fa0 m1 = ((15 : Int32) &&& ((0 : Int32) ^^^ (-1 : Int32))) := by rw [fa0, ea1]
        have efsp0 : fsp0 m1 m2 = (0 : Int32) := by rw [fsp0, ea0, fsp, if_neg c161, if_pos c168]
        have efsp1 : fsp1 m1 m2 = (1 : Int32) := by rw [fsp1, ea1, fsp, if_neg c180, if_neg c187]
        have ei0 : fid0 m1 m2 r2 t2 = (0 : Int32) := by simp [fid0, efsp0, efsp1, eb1]
        have ei1 : fid1 m1 m2 r2 t2 = (1 : Int32) := by simp [fid1, efsp0, efsp1, eb1]
        have eeb : feb m1 m2 = (2 : Int32) := by rw [feb, efsp0, efsp1, eb1] <;> decide
        have J := J315 T (.val (.int (0 : Int32))) (.val (.int (1 : Int32))) (.val (.int ((15 : Int32) &&& ((0 : Int32) ^^^ (-1 : Int32))))) (.val (.int (m2 &&& ((15 : Int32) &&& ((0 : Int32) ^^^ (-1 : Int32)))))) (.val (.int (m2 &&& (0 : Int32)))) (.unset) S One.u
        rw [ea1, efsp0, efsp1, ei0, ei1, eeb] at J
        exact J
      refine iconst K S (x := (1 : Int32)) rfl d0_171 ?_
      refine goto K S d0_172 ?_
      refine istore K S (l' := #[.val (.int x0), .val (.int x1), .val (.int x2), .val (.int x3), .val (.int x4), .val (.int m1), .val (.int m2), .val (.int r1), .val (.int r2), .val (.int t1), .val (.int t2), .val (.ref o50), .val (.int (0 : Int32)), .val (.int (1 : Int32)), .val (.int (0 : Int32)), .val (.int ((15 : Int32) &&& ((0 : Int32) ^^^ (-1 : Int32)))), .val (.int (m2 &&& ((15 : Int32) &&& ((0 : Int32) ^^^ (-1 : Int32))))), .val (.int (m2 &&& (0 : Int32))), .val (.int (1 : Int32)), .unset, .unset, .unset, .unset, .unset, .unset, .unset, .unset, .unset]) rfl d0_176 ?_
      refine iload K S rfl d0_178 ?_
      refine ific_eq K S d0_180 (fun c180 => ?_) (fun c180 => ?_)
      · refine iconst K S (x := (0 : Int32)) rfl d0_194 ?_
        refine istore K S (l' := #[.val (.int x0), .val (.int x1), .val (.int x2), .val (.int x3), .val (.int x4), .val (.int m1), .val (.int m2), .val (.int r1), .val (.int r2), .val (.int t1), .val (.int t2), .val (.ref o50), .val (.int (0 : Int32)), .val (.int (1 : Int32)), .val (.int (0 : Int32)), .val (.int ((15 : Int32) &&& ((0 : Int32) ^^^ (-1 : Int32)))), .val (.int (m2 &&& ((15 : Int32) &&& ((0 : Int32) ^^^ (-1 : Int32))))), .val (.int (m2 &&& (0 : Int32))), .val (.int (1 : Int32)), .val (.int (0 : Int32)), .unset, .unset, .unset, .unset, .unset, .unset, .unset, .unset]) rfl d0_195 ?_
        refine iconst K S (x := (0 : Int32)) rfl d0_197 ?_
        refine istore K S (l' := #[.val (.int x0), .val (.int x1), .val (.int x2), .val (.int x3), .val (.int x4), .val (.int m1), .val (.int m2), .val (.int r1), .val (.int r2), .val (.int t1), .val (.int t2), .val (.ref o50), .val (.int (0 : Int32)), .val (.int (1 : Int32)), .val (.int (0 : Int32)), .val (.int ((15 : Int32) &&& ((0 : Int32) ^^^ (-1 : Int32)))), .val (.int (m2 &&& ((15 : Int32) &&& ((0 : Int32) ^^^ (-1 : Int32))))), .val (.int (m2 &&& (0 : Int32))), .val (.int (1 : Int32)), .val (.int (0 : Int32)), .val (.int (0 : Int32)), .unset, .unset, .unset, .unset, .unset, .unset, .unset]) rfl d0_198 ?_
        refine iconst K S (x := (1 : Int32)) rfl d0_200 ?_
        refine istore K S (l' := #[.val (.int x0), .val (.int x1), .val (.int x2), .val (.int x3), .val (.int x4), .val (.int m1), .val (.int m2), .val (.int r1), .val (.int r2), .val (.int t1), .val (.int t2), .val (.ref o50), .val (.int (0 : Int32)), .val (.int (1 : Int32)), .val (.int (0 : Int32)), .val (.int ((15 : Int32) &&& ((0 : Int32) ^^^ (-1 : Int32)))), .val (.int (m2 &&& ((15 : Int32) &&& ((0 : Int32) ^^^ (-1 : Int32))))), .val (.int (m2 &&& (0 : Int32))), .val (.int (1 : Int32)), .val (.int (0 : Int32)), .val (.int (0 : Int32)), .val (.int (1 : Int32)), .unset, .unset, .unset, .unset, .unset, .unset]) rfl d0_201 ?_
        refine iload K S rfl d0_203 ?_
        refine ific_eq K S d0_205 (fun c205 => ?_) (fun c205 => ?_)
        · exact absurd c205 (by decide)
        refine iload K S rfl d0_208 ?_
        refine ific_eq K S d0_210 (fun c210 => ?_) (fun c210 => ?_)
        rotate_left
        · exact absurd c210 (by decide)
        refine iload K S rfl d0_268 ?_
        refine ific_eq K S d0_270 (fun c270 => ?_) (fun c270 => ?_)
        · exact absurd c270 (by decide)
        refine iload K S rfl d0_273 ?_
        refine istore K S (l' := #[.val (.int x0), .val (.int x1), .val (.int x2), .val (.int x3), .val (.int x4), .val (.int m1), .val (.int m2), .val (.int r1), .val (.int r2), .val (.int t1), .val (.int t2), .val (.ref o50), .val (.int (0 : Int32)), .val (.int (1 : Int32)), .val (.int (0 : Int32)), .val (.int ((15 : Int32) &&& ((0 : Int32) ^^^ (-1 : Int32)))), .val (.int (m2 &&& ((15 : Int32) &&& ((0 : Int32) ^^^ (-1 : Int32))))), .val (.int (m2 &&& (0 : Int32))), .val (.int (1 : Int32)), .val (.int (0 : Int32)), .val (.int (1 : Int32)), .val (.int (1 : Int32)), .unset, .unset, .unset, .unset, .unset, .unset]) rfl d0_275 ?_
        refine goto K S d0_277 ?_
        refine iload K S rfl d0_289 ?_
        refine iload K S rfl d0_291 ?_
        refine ific_eq K S d0_293 (fun c293 => ?_) (fun c293 => ?_)
        · exact absurd c293 (by decide)
        refine iconst K S (x := (1 : Int32)) rfl d0_296 ?_
        refine goto K S d0_297 ?_
        refine iadd K S d0_301 ?_
        show Wp n0 p e _ s below _ T (mkF m 302 #[.val (.int x0), .val (.int x1), .val (.int x2), .val (.int x3), .val (.int x4), .val (.int m1), .val (.int m2), .val (.int r1), .val (.int r2), .val (.int t1), .val (.int t2), .val (.ref o50), .val (.int (0 : Int32)), .val (.int (1 : Int32)), .val (.int (0 : Int32)), .val (.int ((15 : Int32) &&& ((0 : Int32) ^^^ (-1 : Int32)))), .val (.int (m2 &&& ((15 : Int32) &&& ((0 : Int32) ^^^ (-1 : Int32))))), .val (.int (m2 &&& (0 : Int32))), .val (.int (1 : Int32)), .val (.int (0 : Int32)), .val (.int (1 : Int32)), .val (.int (1 : Int32)), .unset, .unset, .unset, .unset, .unset, .unset] [.int (2 : Int32)])
        refine iload K S rfl d0_302 ?_
        refine ific_eq K S d0_304 (fun c304 => ?_) (fun c304 => ?_)
        rotate_left
        · exact absurd c304 (by decide)
        refine iconst K S (x := (0 : Int32)) rfl d0_311 ?_
        refine iadd K S d0_312 ?_
        show Wp n0 p e _ s below _ T (mkF m 313 #[.val (.int x0), .val (.int x1), .val (.int x2), .val (.int x3), .val (.int x4), .val (.int m1), .val (.int m2), .val (.int r1), .val (.int r2), .val (.int t1), .val (.int t2), .val (.ref o50), .val (.int (0 : Int32)), .val (.int (1 : Int32)), .val (.int (0 : Int32)), .val (.int ((15 : Int32) &&& ((0 : Int32) ^^^ (-1 : Int32)))), .val (.int (m2 &&& ((15 : Int32) &&& ((0 : Int32) ^^^ (-1 : Int32))))), .val (.int (m2 &&& (0 : Int32))), .val (.int (1 : Int32)), .val (.int (0 : Int32)), .val (.int (1 : Int32)), .val (.int (1 : Int32)), .unset, .unset, .unset, .unset, .unset, .unset] [.int (2 : Int32)])
        refine istore K S (l' := #[.val (.int x0), .val (.int x1), .val (.int x2), .val (.int x3), .val (.int x4), .val (.int m1), .val (.int m2), .val (.int r1), .val (.int r2), .val (.int t1), .val (.int t2), .val (.ref o50), .val (.int (0 : Int32)), .val (.int (1 : Int32)), .val (.int (0 : Int32)), .val (.int ((15 : Int32) &&& ((0 : Int32) ^^^ (-1 : Int32)))), .val (.int (m2 &&& ((15 : Int32) &&& ((0 : Int32) ^^^ (-1 : Int32))))), .val (.int (m2 &&& (0 : Int32))), .val (.int (1 : Int32)), .val (.int (0 : Int32)), .val (.int (1 : Int32)), .val (.int (1 : Int32)), .val (.int (2 : Int32)), .unset, .unset, .unset, .unset, .unset]) rfl d0_313 ?_
        have eb1 : fb1 m1 = (1 : Int32) := by simp [fb1, c94, c101]
        have ea1 : fa1 m1 = (0 : Int32) := by simp [fa1, c94, c101]
        have ea0 : fa0 m1 = ((15 : Int32) &&& ((0 : Int32) ^^^ (-1 : Int32))) := by rw [fa0, ea1]
        have efsp0 : fsp0 m1 m2 = (1 : Int32) := by rw [fsp0, ea0, fsp, if_neg c161, if_neg c168]
        have efsp1 : fsp1 m1 m2 = (0 : Int32) := by rw [fsp1, ea1, fsp, if_pos c180]
        have ei0 : fid0 m1 m2 r2 t2 = (1 : Int32) := by simp [fid0, efsp0, efsp1, eb1]
        have ei1 : fid1 m1 m2 r2 t2 = (1 : Int32) := by simp [fid1, efsp0, efsp1, eb1]
        have eeb : feb m1 m2 = (2 : Int32) := by rw [feb, efsp0, efsp1, eb1] <;> decide
        have J := J315 T (.val (.int (0 : Int32))) (.val (.int (1 : Int32))) (.val (.int ((15 : Int32) &&& ((0 : Int32) ^^^ (-1 : Int32))))) (.val (.int (m2 &&& ((15 : Int32) &&& ((0 : Int32) ^^^ (-1 : Int32)))))) (.val (.int (m2 &&& (0 : Int32)))) (.unset) S One.u
        rw [ea1, efsp0, efsp1, ei0, ei1, eeb] at J
        exact J
      refine iload K S rfl d0_183 ?_
      refine iload K S rfl d0_185 ?_
      refine icmp_eq K S d0_187 (fun c187 => ?_) (fun c187 => ?_)
      · refine iconst K S (x := (0 : Int32)) rfl d0_194 ?_
        refine istore K S (l' := #[.val (.int x0), .val (.int x1), .val (.int x2), .val (.int x3), .val (.int x4), .val (.int m1), .val (.int m2), .val (.int r1), .val (.int r2), .val (.int t1), .val (.int t2), .val (.ref o50), .val (.int (0 : Int32)), .val (.int (1 : Int32)), .val (.int (0 : Int32)), .val (.int ((15 : Int32) &&& ((0 : Int32) ^^^ (-1 : Int32)))), .val (.int (m2 &&& ((15 : Int32) &&& ((0 : Int32) ^^^ (-1 : Int32))))), .val (.int (m2 &&& (0 : Int32))), .val (.int (1 : Int32)), .val (.int (0 : Int32)), .unset, .unset, .unset, .unset, .unset, .unset, .unset, .unset]) rfl d0_195 ?_
        refine iconst K S (x := (0 : Int32)) rfl d0_197 ?_
        refine istore K S (l' := #[.val (.int x0), .val (.int x1), .val (.int x2), .val (.int x3), .val (.int x4), .val (.int m1), .val (.int m2), .val (.int r1), .val (.int r2), .val (.int t1), .val (.int t2), .val (.ref o50), .val (.int (0 : Int32)), .val (.int (1 : Int32)), .val (.int (0 : Int32)), .val (.int ((15 : Int32) &&& ((0 : Int32) ^^^ (-1 : Int32)))), .val (.int (m2 &&& ((15 : Int32) &&& ((0 : Int32) ^^^ (-1 : Int32))))), .val (.int (m2 &&& (0 : Int32))), .val (.int (1 : Int32)), .val (.int (0 : Int32)), .val (.int (0 : Int32)), .unset, .unset, .unset, .unset, .unset, .unset, .unset]) rfl d0_198 ?_
        refine iconst K S (x := (1 : Int32)) rfl d0_200 ?_
        refine istore K S (l' := #[.val (.int x0), .val (.int x1), .val (.int x2), .val (.int x3), .val (.int x4), .val (.int m1), .val (.int m2), .val (.int r1), .val (.int r2), .val (.int t1), .val (.int t2), .val (.ref o50), .val (.int (0 : Int32)), .val (.int (1 : Int32)), .val (.int (0 : Int32)), .val (.int ((15 : Int32) &&& ((0 : Int32) ^^^ (-1 : Int32)))), .val (.int (m2 &&& ((15 : Int32) &&& ((0 : Int32) ^^^ (-1 : Int32))))), .val (.int (m2 &&& (0 : Int32))), .val (.int (1 : Int32)), .val (.int (0 : Int32)), .val (.int (0 : Int32)), .val (.int (1 : Int32)), .unset, .unset, .unset, .unset, .unset, .unset]) rfl d0_201 ?_
        refine iload K S rfl d0_203 ?_
        refine ific_eq K S d0_205 (fun c205 => ?_) (fun c205 => ?_)
        · exact absurd c205 (by decide)
        refine iload K S rfl d0_208 ?_
        refine ific_eq K S d0_210 (fun c210 => ?_) (fun c210 => ?_)
        rotate_left
        · exact absurd c210 (by decide)
        refine iload K S rfl d0_268 ?_
        refine ific_eq K S d0_270 (fun c270 => ?_) (fun c270 => ?_)
        · exact absurd c270 (by decide)
        refine iload K S rfl d0_273 ?_
        refine istore K S (l' := #[.val (.int x0), .val (.int x1), .val (.int x2), .val (.int x3), .val (.int x4), .val (.int m1), .val (.int m2), .val (.int r1), .val (.int r2), .val (.int t1), .val (.int t2), .val (.ref o50), .val (.int (0 : Int32)), .val (.int (1 : Int32)), .val (.int (0 : Int32)), .val (.int ((15 : Int32) &&& ((0 : Int32) ^^^ (-1 : Int32)))), .val (.int (m2 &&& ((15 : Int32) &&& ((0 : Int32) ^^^ (-1 : Int32))))), .val (.int (m2 &&& (0 : Int32))), .val (.int (1 : Int32)), .val (.int (0 : Int32)), .val (.int (1 : Int32)), .val (.int (1 : Int32)), .unset, .unset, .unset, .unset, .unset, .unset]) rfl d0_275 ?_
        refine goto K S d0_277 ?_
        refine iload K S rfl d0_289 ?_
        refine iload K S rfl d0_291 ?_
        refine ific_eq K S d0_293 (fun c293 => ?_) (fun c293 => ?_)
        · exact absurd c293 (by decide)
        refine iconst K S (x := (1 : Int32)) rfl d0_296 ?_
        refine goto K S d0_297 ?_
        refine iadd K S d0_301 ?_
        show Wp n0 p e _ s below _ T (mkF m 302 #[.val (.int x0), .val (.int x1), .val (.int x2), .val (.int x3), .val (.int x4), .val (.int m1), .val (.int m2), .val (.int r1), .val (.int r2), .val (.int t1), .val (.int t2), .val (.ref o50), .val (.int (0 : Int32)), .val (.int (1 : Int32)), .val (.int (0 : Int32)), .val (.int ((15 : Int32) &&& ((0 : Int32) ^^^ (-1 : Int32)))), .val (.int (m2 &&& ((15 : Int32) &&& ((0 : Int32) ^^^ (-1 : Int32))))), .val (.int (m2 &&& (0 : Int32))), .val (.int (1 : Int32)), .val (.int (0 : Int32)), .val (.int (1 : Int32)), .val (.int (1 : Int32)), .unset, .unset, .unset, .unset, .unset, .unset] [.int (2 : Int32)])
        refine iload K S rfl d0_302 ?_
        refine ific_eq K S d0_304 (fun c304 => ?_) (fun c304 => ?_)
        rotate_left
        · exact absurd c304 (by decide)
        refine iconst K S (x := (0 : Int32)) rfl d0_311 ?_
        refine iadd K S d0_312 ?_
        show Wp n0 p e _ s below _ T (mkF m 313 #[.val (.int x0), .val (.int x1), .val (.int x2), .val (.int x3), .val (.int x4), .val (.int m1), .val (.int m2), .val (.int r1), .val (.int r2), .val (.int t1), .val (.int t2), .val (.ref o50), .val (.int (0 : Int32)), .val (.int (1 : Int32)), .val (.int (0 : Int32)), .val (.int ((15 : Int32) &&& ((0 : Int32) ^^^ (-1 : Int32)))), .val (.int (m2 &&& ((15 : Int32) &&& ((0 : Int32) ^^^ (-1 : Int32))))), .val (.int (m2 &&& (0 : Int32))), .val (.int (1 : Int32)), .val (.int (0 : Int32)), .val (.int (1 : Int32)), .val (.int (1 : Int32)), .unset, .unset, .unset, .unset, .unset, .unset] [.int (2 : Int32)])
        refine istore K S (l' := #[.val (.int x0), .val (.int x1), .val (.int x2), .val (.int x3), .val (.int x4), .val (.int m1), .val (.int m2), .val (.int r1), .val (.int r2), .val (.int t1), .val (.int t2), .val (.ref o50), .val (.int (0 : Int32)), .val (.int (1 : Int32)), .val (.int (0 : Int32)), .val (.int ((15 : Int32) &&& ((0 : Int32) ^^^ (-1 : Int32)))), .val (.int (m2 &&& ((15 : Int32) &&& ((0 : Int32) ^^^ (-1 : Int32))))), .val (.int (m2 &&& (0 : Int32))), .val (.int (1 : Int32)), .val (.int (0 : Int32)), .val (.int (1 : Int32)), .val (.int (1 : Int32)), .val (.int (2 : Int32)), .unset, .unset, .unset, .unset, .unset]) rfl d0_313 ?_
        have eb1 : fb1 m1 = (1 : Int32) := by simp [fb1, c94, c101]
        have ea1 : fa1 m1 = (0 : Int32) := by simp [fa1, c94, c101]
        have ea0 : fa0 m1 = ((15 : Int32) &&& ((0 : Int32) ^^^ (-1 : Int32))) := by rw [fa0, ea1]
        have efsp0 : fsp0 m1 m2 = (1 : Int32) := by rw [fsp0, ea0, fsp, if_neg c161, if_neg c168]
        have efsp1 : fsp1 m1 m2 = (0 : Int32) := by rw [fsp1, ea1, fsp, if_neg c180, if_pos c187]
        have ei0 : fid0 m1 m2 r2 t2 = (1 : Int32) := by simp [fid0, efsp0, efsp1, eb1]
        have ei1 : fid1 m1 m2 r2 t2 = (1 : Int32) := by simp [fid1, efsp0, efsp1, eb1]
        have eeb : feb m1 m2 = (2 : Int32) := by rw [feb, efsp0, efsp1, eb1] <;> decide
        have J := J315 T (.val (.int (0 : Int32))) (.val (.int (1 : Int32))) (.val (.int ((15 : Int32) &&& ((0 : Int32) ^^^ (-1 : Int32))))) (.val (.int (m2 &&& ((15 : Int32) &&& ((0 : Int32) ^^^ (-1 : Int32)))))) (.val (.int (m2 &&& (0 : Int32)))) (.unset) S One.u
        rw [ea1, efsp0, efsp1, ei0, ei1, eeb] at J
        exact J
      refine iconst K S (x := (1 : Int32)) rfl d0_190 ?_
      refine goto K S d0_191 ?_
      refine istore K S (l' := #[.val (.int x0), .val (.int x1), .val (.int x2), .val (.int x3), .val (.int x4), .val (.int m1), .val (.int m2), .val (.int r1), .val (.int r2), .val (.int t1), .val (.int t2), .val (.ref o50), .val (.int (0 : Int32)), .val (.int (1 : Int32)), .val (.int (0 : Int32)), .val (.int ((15 : Int32) &&& ((0 : Int32) ^^^ (-1 : Int32)))), .val (.int (m2 &&& ((15 : Int32) &&& ((0 : Int32) ^^^ (-1 : Int32))))), .val (.int (m2 &&& (0 : Int32))), .val (.int (1 : Int32)), .val (.int (1 : Int32)), .unset, .unset, .unset, .unset, .unset, .unset, .unset, .unset]) rfl d0_195 ?_
      refine iconst K S (x := (0 : Int32)) rfl d0_197 ?_
      refine istore K S (l' := #[.val (.int x0), .val (.int x1), .val (.int x2), .val (.int x3), .val (.int x4), .val (.int m1), .val (.int m2), .val (.int r1), .val (.int r2), .val (.int t1), .val (.int t2), .val (.ref o50), .val (.int (0 : Int32)), .val (.int (1 : Int32)), .val (.int (0 : Int32)), .val (.int ((15 : Int32) &&& ((0 : Int32) ^^^ (-1 : Int32)))), .val (.int (m2 &&& ((15 : Int32) &&& ((0 : Int32) ^^^ (-1 : Int32))))), .val (.int (m2 &&& (0 : Int32))), .val (.int (1 : Int32)), .val (.int (1 : Int32)), .val (.int (0 : Int32)), .unset, .unset, .unset, .unset, .unset, .unset, .unset]) rfl d0_198 ?_
      refine iconst K S (x := (1 : Int32)) rfl d0_200 ?_
      refine istore K S (l' := #[.val (.int x0), .val (.int x1), .val (.int x2), .val (.int x3), .val (.int x4), .val (.int m1), .val (.int m2), .val (.int r1), .val (.int r2), .val (.int t1), .val (.int t2), .val (.ref o50), .val (.int (0 : Int32)), .val (.int (1 : Int32)), .val (.int (0 : Int32)), .val (.int ((15 : Int32) &&& ((0 : Int32) ^^^ (-1 : Int32)))), .val (.int (m2 &&& ((15 : Int32) &&& ((0 : Int32) ^^^ (-1 : Int32))))), .val (.int (m2 &&& (0 : Int32))), .val (.int (1 : Int32)), .val (.int (1 : Int32)), .val (.int (0 : Int32)), .val (.int (1 : Int32)), .unset, .unset, .unset, .unset, .unset, .unset]) rfl d0_201 ?_
      refine iload K S rfl d0_203 ?_
      refine ific_eq K S d0_205 (fun c205 => ?_) (fun c205 => ?_)
      · exact absurd c205 (by decide)
      refine iload K S rfl d0_208 ?_
      refine ific_eq K S d0_210 (fun c210 => ?_) (fun c210 => ?_)
      · exact absurd c210 (by decide)
      refine iload K S rfl d0_213 ?_
      refine iload K S rfl d0_215 ?_
      refine iload K S rfl d0_217 ?_
      refine callS K S (W := 0) (m_fp l Z a0 hw n0 (m2 &&& ((15 : Int32) &&& ((0 : Int32) ^^^ (-1 : Int32)))) r2 t2 h89_6 (Sle S) ) (hwi hw 97 rfl) (hwi hw 98 rfl) (hwi hw 99 rfl) (hwi hw 30 rfl) (by decide) (by decide) (by decide) (by decide) (by decide) rfl (argsL := [.int (m2 &&& ((15 : Int32) &&& ((0 : Int32) ^^^ (-1 : Int32)))), .int r2, .int t2]) rfl (lenOf pd_19 rfl) (rest := []) rfl (Nat.le_of_eq rfl) d0_219 (pu fun T S => ?_)
      show Wp n0 p e _ s below _ T (mkF m 222 #[.val (.int x0), .val (.int x1), .val (.int x2), .val (.int x3), .val (.int x4), .val (.int m1), .val (.int m2), .val (.int r1), .val (.int r2), .val (.int t1), .val (.int t2), .val (.ref o50), .val (.int (0 : Int32)), .val (.int (1 : Int32)), .val (.int (0 : Int32)), .val (.int ((15 : Int32) &&& ((0 : Int32) ^^^ (-1 : Int32)))), .val (.int (m2 &&& ((15 : Int32) &&& ((0 : Int32) ^^^ (-1 : Int32))))), .val (.int (m2 &&& (0 : Int32))), .val (.int (1 : Int32)), .val (.int (1 : Int32)), .val (.int (0 : Int32)), .val (.int (1 : Int32)), .unset, .unset, .unset, .unset, .unset, .unset] [.int (ffp (m2 &&& ((15 : Int32) &&& ((0 : Int32) ^^^ (-1 : Int32)))) r2 t2)])
      refine istore K S (l' := #[.val (.int x0), .val (.int x1), .val (.int x2), .val (.int x3), .val (.int x4), .val (.int m1), .val (.int m2), .val (.int r1), .val (.int r2), .val (.int t1), .val (.int t2), .val (.ref o50), .val (.int (0 : Int32)), .val (.int (1 : Int32)), .val (.int (0 : Int32)), .val (.int ((15 : Int32) &&& ((0 : Int32) ^^^ (-1 : Int32)))), .val (.int (m2 &&& ((15 : Int32) &&& ((0 : Int32) ^^^ (-1 : Int32))))), .val (.int (m2 &&& (0 : Int32))), .val (.int (1 : Int32)), .val (.int (1 : Int32)), .val (.int (0 : Int32)), .val (.int (1 : Int32)), .val (.int (ffp (m2 &&& ((15 : Int32) &&& ((0 : Int32) ^^^ (-1 : Int32)))) r2 t2)), .unset, .unset, .unset, .unset, .unset]) rfl d0_222 ?_
      refine iload K S rfl d0_224 ?_
      refine iload K S rfl d0_226 ?_
      refine iload K S rfl d0_228 ?_
      refine callS K S (W := 0) (m_fp l Z a0 hw n0 (m2 &&& (0 : Int32)) r2 t2 h89_6 (Sle S) ) (hwi hw 97 rfl) (hwi hw 98 rfl) (hwi hw 99 rfl) (hwi hw 30 rfl) (by decide) (by decide) (by decide) (by decide) (by decide) rfl (argsL := [.int (m2 &&& (0 : Int32)), .int r2, .int t2]) rfl (lenOf pd_19 rfl) (rest := []) rfl (Nat.le_of_eq rfl) d0_230 (pu fun T S => ?_)
      show Wp n0 p e _ s below _ T (mkF m 233 #[.val (.int x0), .val (.int x1), .val (.int x2), .val (.int x3), .val (.int x4), .val (.int m1), .val (.int m2), .val (.int r1), .val (.int r2), .val (.int t1), .val (.int t2), .val (.ref o50), .val (.int (0 : Int32)), .val (.int (1 : Int32)), .val (.int (0 : Int32)), .val (.int ((15 : Int32) &&& ((0 : Int32) ^^^ (-1 : Int32)))), .val (.int (m2 &&& ((15 : Int32) &&& ((0 : Int32) ^^^ (-1 : Int32))))), .val (.int (m2 &&& (0 : Int32))), .val (.int (1 : Int32)), .val (.int (1 : Int32)), .val (.int (0 : Int32)), .val (.int (1 : Int32)), .val (.int (ffp (m2 &&& ((15 : Int32) &&& ((0 : Int32) ^^^ (-1 : Int32)))) r2 t2)), .unset, .unset, .unset, .unset, .unset] [.int (ffp (m2 &&& (0 : Int32)) r2 t2)])
      refine istore K S (l' := #[.val (.int x0), .val (.int x1), .val (.int x2), .val (.int x3), .val (.int x4), .val (.int m1), .val (.int m2), .val (.int r1), .val (.int r2), .val (.int t1), .val (.int t2), .val (.ref o50), .val (.int (0 : Int32)), .val (.int (1 : Int32)), .val (.int (0 : Int32)), .val (.int ((15 : Int32) &&& ((0 : Int32) ^^^ (-1 : Int32)))), .val (.int (m2 &&& ((15 : Int32) &&& ((0 : Int32) ^^^ (-1 : Int32))))), .val (.int (m2 &&& (0 : Int32))), .val (.int (1 : Int32)), .val (.int (1 : Int32)), .val (.int (0 : Int32)), .val (.int (1 : Int32)), .val (.int (ffp (m2 &&& ((15 : Int32) &&& ((0 : Int32) ^^^ (-1 : Int32)))) r2 t2)), .val (.int (ffp (m2 &&& (0 : Int32)) r2 t2)), .unset, .unset, .unset, .unset]) rfl d0_233 ?_
      refine iload K S rfl d0_235 ?_
      refine iload K S rfl d0_237 ?_
      refine icmp_ge K S d0_239 (fun c239 => ?_) (fun c239 => ?_)
      · refine iload K S rfl d0_255 ?_
        refine istore K S (l' := #[.val (.int x0), .val (.int x1), .val (.int x2), .val (.int x3), .val (.int x4), .val (.int m1), .val (.int m2), .val (.int r1), .val (.int r2), .val (.int t1), .val (.int t2), .val (.ref o50), .val (.int (0 : Int32)), .val (.int (1 : Int32)), .val (.int (0 : Int32)), .val (.int ((15 : Int32) &&& ((0 : Int32) ^^^ (-1 : Int32)))), .val (.int (m2 &&& ((15 : Int32) &&& ((0 : Int32) ^^^ (-1 : Int32))))), .val (.int (m2 &&& (0 : Int32))), .val (.int (1 : Int32)), .val (.int (1 : Int32)), .val (.int (0 : Int32)), .val (.int (1 : Int32)), .val (.int (ffp (m2 &&& ((15 : Int32) &&& ((0 : Int32) ^^^ (-1 : Int32)))) r2 t2)), .val (.int (ffp (m2 &&& (0 : Int32)) r2 t2)), .unset, .unset, .unset, .unset]) rfl d0_257 ?_
        refine iload K S rfl d0_259 ?_
        refine iconst K S (x := (1 : Int32)) rfl d0_261 ?_
        refine iadd K S d0_262 ?_
        show Wp n0 p e _ s below _ T (mkF m 263 #[.val (.int x0), .val (.int x1), .val (.int x2), .val (.int x3), .val (.int x4), .val (.int m1), .val (.int m2), .val (.int r1), .val (.int r2), .val (.int t1), .val (.int t2), .val (.ref o50), .val (.int (0 : Int32)), .val (.int (1 : Int32)), .val (.int (0 : Int32)), .val (.int ((15 : Int32) &&& ((0 : Int32) ^^^ (-1 : Int32)))), .val (.int (m2 &&& ((15 : Int32) &&& ((0 : Int32) ^^^ (-1 : Int32))))), .val (.int (m2 &&& (0 : Int32))), .val (.int (1 : Int32)), .val (.int (1 : Int32)), .val (.int (0 : Int32)), .val (.int (1 : Int32)), .val (.int (ffp (m2 &&& ((15 : Int32) &&& ((0 : Int32) ^^^ (-1 : Int32)))) r2 t2)), .val (.int (ffp (m2 &&& (0 : Int32)) r2 t2)), .unset, .unset, .unset, .unset] [.int (2 : Int32)])
        refine istore K S (l' := #[.val (.int x0), .val (.int x1), .val (.int x2), .val (.int x3), .val (.int x4), .val (.int m1), .val (.int m2), .val (.int r1), .val (.int r2), .val (.int t1), .val (.int t2), .val (.ref o50), .val (.int (0 : Int32)), .val (.int (1 : Int32)), .val (.int (0 : Int32)), .val (.int ((15 : Int32) &&& ((0 : Int32) ^^^ (-1 : Int32)))), .val (.int (m2 &&& ((15 : Int32) &&& ((0 : Int32) ^^^ (-1 : Int32))))), .val (.int (m2 &&& (0 : Int32))), .val (.int (1 : Int32)), .val (.int (1 : Int32)), .val (.int (2 : Int32)), .val (.int (1 : Int32)), .val (.int (ffp (m2 &&& ((15 : Int32) &&& ((0 : Int32) ^^^ (-1 : Int32)))) r2 t2)), .val (.int (ffp (m2 &&& (0 : Int32)) r2 t2)), .unset, .unset, .unset, .unset]) rfl d0_263 ?_
        refine goto K S d0_265 ?_
        refine iload K S rfl d0_289 ?_
        refine iload K S rfl d0_291 ?_
        refine ific_eq K S d0_293 (fun c293 => ?_) (fun c293 => ?_)
        · exact absurd c293 (by decide)
        refine iconst K S (x := (1 : Int32)) rfl d0_296 ?_
        refine goto K S d0_297 ?_
        refine iadd K S d0_301 ?_
        show Wp n0 p e _ s below _ T (mkF m 302 #[.val (.int x0), .val (.int x1), .val (.int x2), .val (.int x3), .val (.int x4), .val (.int m1), .val (.int m2), .val (.int r1), .val (.int r2), .val (.int t1), .val (.int t2), .val (.ref o50), .val (.int (0 : Int32)), .val (.int (1 : Int32)), .val (.int (0 : Int32)), .val (.int ((15 : Int32) &&& ((0 : Int32) ^^^ (-1 : Int32)))), .val (.int (m2 &&& ((15 : Int32) &&& ((0 : Int32) ^^^ (-1 : Int32))))), .val (.int (m2 &&& (0 : Int32))), .val (.int (1 : Int32)), .val (.int (1 : Int32)), .val (.int (2 : Int32)), .val (.int (1 : Int32)), .val (.int (ffp (m2 &&& ((15 : Int32) &&& ((0 : Int32) ^^^ (-1 : Int32)))) r2 t2)), .val (.int (ffp (m2 &&& (0 : Int32)) r2 t2)), .unset, .unset, .unset, .unset] [.int (2 : Int32)])
        refine iload K S rfl d0_302 ?_
        refine ific_eq K S d0_304 (fun c304 => ?_) (fun c304 => ?_)
        · exact absurd c304 (by decide)
        refine iconst K S (x := (1 : Int32)) rfl d0_307 ?_
        refine goto K S d0_308 ?_
        refine iadd K S d0_312 ?_
        show Wp n0 p e _ s below _ T (mkF m 313 #[.val (.int x0), .val (.int x1), .val (.int x2), .val (.int x3), .val (.int x4), .val (.int m1), .val (.int m2), .val (.int r1), .val (.int r2), .val (.int t1), .val (.int t2), .val (.ref o50), .val (.int (0 : Int32)), .val (.int (1 : Int32)), .val (.int (0 : Int32)), .val (.int ((15 : Int32) &&& ((0 : Int32) ^^^ (-1 : Int32)))), .val (.int (m2 &&& ((15 : Int32) &&& ((0 : Int32) ^^^ (-1 : Int32))))), .val (.int (m2 &&& (0 : Int32))), .val (.int (1 : Int32)), .val (.int (1 : Int32)), .val (.int (2 : Int32)), .val (.int (1 : Int32)), .val (.int (ffp (m2 &&& ((15 : Int32) &&& ((0 : Int32) ^^^ (-1 : Int32)))) r2 t2)), .val (.int (ffp (m2 &&& (0 : Int32)) r2 t2)), .unset, .unset, .unset, .unset] [.int (3 : Int32)])
        refine istore K S (l' := #[.val (.int x0), .val (.int x1), .val (.int x2), .val (.int x3), .val (.int x4), .val (.int m1), .val (.int m2), .val (.int r1), .val (.int r2), .val (.int t1), .val (.int t2), .val (.ref o50), .val (.int (0 : Int32)), .val (.int (1 : Int32)), .val (.int (0 : Int32)), .val (.int ((15 : Int32) &&& ((0 : Int32) ^^^ (-1 : Int32)))), .val (.int (m2 &&& ((15 : Int32) &&& ((0 : Int32) ^^^ (-1 : Int32))))), .val (.int (m2 &&& (0 : Int32))), .val (.int (1 : Int32)), .val (.int (1 : Int32)), .val (.int (2 : Int32)), .val (.int (1 : Int32)), .val (.int (3 : Int32)), .val (.int (ffp (m2 &&& (0 : Int32)) r2 t2)), .unset, .unset, .unset, .unset]) rfl d0_313 ?_
        have eb1 : fb1 m1 = (1 : Int32) := by simp [fb1, c94, c101]
        have ea1 : fa1 m1 = (0 : Int32) := by simp [fa1, c94, c101]
        have ea0 : fa0 m1 = ((15 : Int32) &&& ((0 : Int32) ^^^ (-1 : Int32))) := by rw [fa0, ea1]
        have efsp0 : fsp0 m1 m2 = (1 : Int32) := by rw [fsp0, ea0, fsp, if_neg c161, if_neg c168]
        have efsp1 : fsp1 m1 m2 = (1 : Int32) := by rw [fsp1, ea1, fsp, if_neg c180, if_neg c187]
        have el : flt m1 m2 r2 t2 = false := by rw [flt, ea0, ea1]; exact decide_eq_false c239
        have ei0 : fid0 m1 m2 r2 t2 = (2 : Int32) := by simp [fid0, efsp0, efsp1, eb1, el]
        have ei1 : fid1 m1 m2 r2 t2 = (1 : Int32) := by simp [fid1, efsp0, efsp1, eb1, el]
        have eeb : feb m1 m2 = (3 : Int32) := by rw [feb, efsp0, efsp1, eb1] <;> decide
        have J := J315 T (.val (.int (0 : Int32))) (.val (.int (1 : Int32))) (.val (.int ((15 : Int32) &&& ((0 : Int32) ^^^ (-1 : Int32))))) (.val (.int (m2 &&& ((15 : Int32) &&& ((0 : Int32) ^^^ (-1 : Int32)))))) (.val (.int (m2 &&& (0 : Int32)))) (.val (.int (ffp (m2 &&& (0 : Int32)) r2 t2))) S (One.val rfl)
        rw [ea1, efsp0, efsp1, ei0, ei1, eeb] at J
        exact J
      refine iload K S rfl d0_242 ?_
      refine istore K S (l' := #[.val (.int x0), .val (.int x1), .val (.int x2), .val (.int x3), .val (.int x4), .val (.int m1), .val (.int m2), .val (.int r1), .val (.int r2), .val (.int t1), .val (.int t2), .val (.ref o50), .val (.int (0 : Int32)), .val (.int (1 : Int32)), .val (.int (0 : Int32)), .val (.int ((15 : Int32) &&& ((0 : Int32) ^^^ (-1 : Int32)))), .val (.int (m2 &&& ((15 : Int32) &&& ((0 : Int32) ^^^ (-1 : Int32))))), .val (.int (m2 &&& (0 : Int32))), .val (.int (1 : Int32)), .val (.int (1 : Int32)), .val (.int (1 : Int32)), .val (.int (1 : Int32)), .val (.int (ffp (m2 &&& ((15 : Int32) &&& ((0 : Int32) ^^^ (-1 : Int32)))) r2 t2)), .val (.int (ffp (m2 &&& (0 : Int32)) r2 t2)), .unset, .unset, .unset, .unset]) rfl d0_244 ?_
      refine iload K S rfl d0_246 ?_
      refine iconst K S (x := (1 : Int32)) rfl d0_248 ?_
      refine iadd K S d0_249 ?_
      show Wp n0 p e _ s below _ T (mkF m 250 #[.val (.int x0), .val (.int x1), .val (.int x2), .val (.int x3), .val (.int x4), .val (.int m1), .val (.int m2), .val (.int r1), .val (.int r2), .val (.int t1), .val (.int t2), .val (.ref o50), .val (.int (0 : Int32)), .val (.int (1 : Int32)), .val (.int (0 : Int32)), .val (.int ((15 : Int32) &&& ((0 : Int32) ^^^ (-1 : Int32)))), .val (.int (m2 &&& ((15 : Int32) &&& ((0 : Int32) ^^^ (-1 : Int32))))), .val (.int (m2 &&& (0 : Int32))), .val (.int (1 : Int32)), .val (.int (1 : Int32)), .val (.int (1 : Int32)), .val (.int (1 : Int32)), .val (.int (ffp (m2 &&& ((15 : Int32) &&& ((0 : Int32) ^^^ (-1 : Int32)))) r2 t2)), .val (.int (ffp (m2 &&& (0 : Int32)) r2 t2)), .unset, .unset, .unset, .unset] [.int (2 : Int32)])
      refine istore K S (l' := #[.val (.int x0), .val (.int x1), .val (.int x2), .val (.int x3), .val (.int x4), .val (.int m1), .val (.int m2), .val (.int r1), .val (.int r2), .val (.int t1), .val (.int t2), .val (.ref o50), .val (.int (0 : Int32)), .val (.int (1 : Int32)), .val (.int (0 : Int32)), .val (.int ((15 : Int32) &&& ((0 : Int32) ^^^ (-1 : Int32)))), .val (.int (m2 &&& ((15 : Int32) &&& ((0 : Int32) ^^^ (-1 : Int32))))), .val (.int (m2 &&& (0 : Int32))), .val (.int (1 : Int32)), .val (.int (1 : Int32)), .val (.int (1 : Int32)), .val (.int (2 : Int32)), .val (.int (ffp (m2 &&& ((15 : Int32) &&& ((0 : Int32) ^^^ (-1 : Int32)))) r2 t2)), .val (.int (ffp (m2 &&& (0 : Int32)) r2 t2)), .unset, .unset, .unset, .unset]) rfl d0_250 ?_
      refine goto K S d0_252 ?_
      refine goto K S d0_265 ?_
      refine iload K S rfl d0_289 ?_
      refine iload K S rfl d0_291 ?_
      refine ific_eq K S d0_293 (fun c293 => ?_) (fun c293 => ?_)
      · exact absurd c293 (by decide)
      refine iconst K S (x := (1 : Int32)) rfl d0_296 ?_
      refine goto K S d0_297 ?_
      refine iadd K S d0_301 ?_
      show Wp n0 p e _ s below _ T (mkF m 302 #[.val (.int x0), .val (.int x1), .val (.int x2), .val (.int x3), .val (.int x4), .val (.int m1), .val (.int m2), .val (.int r1), .val (.int r2), .val (.int t1), .val (.int t2), .val (.ref o50), .val (.int (0 : Int32)), .val (.int (1 : Int32)), .val (.int (0 : Int32)), .val (.int ((15 : Int32) &&& ((0 : Int32) ^^^ (-1 : Int32)))), .val (.int (m2 &&& ((15 : Int32) &&& ((0 : Int32) ^^^ (-1 : Int32))))), .val (.int (m2 &&& (0 : Int32))), .val (.int (1 : Int32)), .val (.int (1 : Int32)), .val (.int (1 : Int32)), .val (.int (2 : Int32)), .val (.int (ffp (m2 &&& ((15 : Int32) &&& ((0 : Int32) ^^^ (-1 : Int32)))) r2 t2)), .val (.int (ffp (m2 &&& (0 : Int32)) r2 t2)), .unset, .unset, .unset, .unset] [.int (2 : Int32)])
      refine iload K S rfl d0_302 ?_
      refine ific_eq K S d0_304 (fun c304 => ?_) (fun c304 => ?_)
      · exact absurd c304 (by decide)
      refine iconst K S (x := (1 : Int32)) rfl d0_307 ?_
      refine goto K S d0_308 ?_
      refine iadd K S d0_312 ?_
      show Wp n0 p e _ s below _ T (mkF m 313 #[.val (.int x0), .val (.int x1), .val (.int x2), .val (.int x3), .val (.int x4), .val (.int m1), .val (.int m2), .val (.int r1), .val (.int r2), .val (.int t1), .val (.int t2), .val (.ref o50), .val (.int (0 : Int32)), .val (.int (1 : Int32)), .val (.int (0 : Int32)), .val (.int ((15 : Int32) &&& ((0 : Int32) ^^^ (-1 : Int32)))), .val (.int (m2 &&& ((15 : Int32) &&& ((0 : Int32) ^^^ (-1 : Int32))))), .val (.int (m2 &&& (0 : Int32))), .val (.int (1 : Int32)), .val (.int (1 : Int32)), .val (.int (1 : Int32)), .val (.int (2 : Int32)), .val (.int (ffp (m2 &&& ((15 : Int32) &&& ((0 : Int32) ^^^ (-1 : Int32)))) r2 t2)), .val (.int (ffp (m2 &&& (0 : Int32)) r2 t2)), .unset, .unset, .unset, .unset] [.int (3 : Int32)])
      refine istore K S (l' := #[.val (.int x0), .val (.int x1), .val (.int x2), .val (.int x3), .val (.int x4), .val (.int m1), .val (.int m2), .val (.int r1), .val (.int r2), .val (.int t1), .val (.int t2), .val (.ref o50), .val (.int (0 : Int32)), .val (.int (1 : Int32)), .val (.int (0 : Int32)), .val (.int ((15 : Int32) &&& ((0 : Int32) ^^^ (-1 : Int32)))), .val (.int (m2 &&& ((15 : Int32) &&& ((0 : Int32) ^^^ (-1 : Int32))))), .val (.int (m2 &&& (0 : Int32))), .val (.int (1 : Int32)), .val (.int (1 : Int32)), .val (.int (1 : Int32)), .val (.int (2 : Int32)), .val (.int (3 : Int32)), .val (.int (ffp (m2 &&& (0 : Int32)) r2 t2)), .unset, .unset, .unset, .unset]) rfl d0_313 ?_
      have eb1 : fb1 m1 = (1 : Int32) := by simp [fb1, c94, c101]
      have ea1 : fa1 m1 = (0 : Int32) := by simp [fa1, c94, c101]
      have ea0 : fa0 m1 = ((15 : Int32) &&& ((0 : Int32) ^^^ (-1 : Int32))) := by rw [fa0, ea1]
      have efsp0 : fsp0 m1 m2 = (1 : Int32) := by rw [fsp0, ea0, fsp, if_neg c161, if_neg c168]
      have efsp1 : fsp1 m1 m2 = (1 : Int32) := by rw [fsp1, ea1, fsp, if_neg c180, if_neg c187]
      have el : flt m1 m2 r2 t2 = true := by rw [flt, ea0, ea1]; exact decide_eq_true c239
      have ei0 : fid0 m1 m2 r2 t2 = (1 : Int32) := by simp [fid0, efsp0, efsp1, eb1, el]
      have ei1 : fid1 m1 m2 r2 t2 = (2 : Int32) := by simp [fid1, efsp0, efsp1, eb1, el]
      have eeb : feb m1 m2 = (3 : Int32) := by rw [feb, efsp0, efsp1, eb1] <;> decide
      have J := J315 T (.val (.int (0 : Int32))) (.val (.int (1 : Int32))) (.val (.int ((15 : Int32) &&& ((0 : Int32) ^^^ (-1 : Int32))))) (.val (.int (m2 &&& ((15 : Int32) &&& ((0 : Int32) ^^^ (-1 : Int32)))))) (.val (.int (m2 &&& (0 : Int32)))) (.val (.int (ffp (m2 &&& (0 : Int32)) r2 t2))) S (One.val rfl)
      rw [ea1, efsp0, efsp1, ei0, ei1, eeb] at J
      exact J
    refine iconst K S (x := (1 : Int32)) rfl d0_104 ?_
    refine goto K S d0_105 ?_
    refine istore K S (l' := #[.val (.int x0), .val (.int x1), .val (.int x2), .val (.int x3), .val (.int x4), .val (.int m1), .val (.int m2), .val (.int r1), .val (.int r2), .val (.int t1), .val (.int t2), .val (.ref o50), .val (.int (1 : Int32)), .unset, .unset, .unset, .unset, .unset, .unset, .unset, .unset, .unset, .unset, .unset, .unset, .unset, .unset, .unset]) rfl d0_109 ?_
    refine iload K S rfl d0_111 ?_
    refine ific_eq K S d0_113 (fun c113 => ?_) (fun c113 => ?_)
    · exact absurd c113 (by decide)
    refine iconst K S (x := (2 : Int32)) rfl d0_116 ?_
    refine goto K S d0_117 ?_
    refine istore K S (l' := #[.val (.int x0), .val (.int x1), .val (.int x2), .val (.int x3), .val (.int x4), .val (.int m1), .val (.int m2), .val (.int r1), .val (.int r2), .val (.int t1), .val (.int t2), .val (.ref o50), .val (.int (1 : Int32)), .val (.int (2 : Int32)), .unset, .unset, .unset, .unset, .unset, .unset, .unset, .unset, .unset, .unset, .unset, .unset, .unset, .unset]) rfl d0_121 ?_
    refine iload K S rfl d0_123 ?_
    refine ific_eq K S d0_125 (fun c125 => ?_) (fun c125 => ?_)
    · exact absurd c125 (by decide)
    refine iload K S rfl d0_128 ?_
    refine goto K S d0_130 ?_
    refine istore K S (l' := #[.val (.int x0), .val (.int x1), .val (.int x2), .val (.int x3), .val (.int x4), .val (.int m1), .val (.int m2), .val (.int r1), .val (.int r2), .val (.int t1), .val (.int t2), .val (.ref o50), .val (.int (1 : Int32)), .val (.int (2 : Int32)), .val (.int m1), .unset, .unset, .unset, .unset, .unset, .unset, .unset, .unset, .unset, .unset, .unset, .unset, .unset]) rfl d0_134 ?_
    refine bipush K S (x := (15 : Int32)) rfl d0_136 ?_
    refine iload K S rfl d0_138 ?_
    refine iconst K S (x := (-1 : Int32)) rfl d0_140 ?_
    refine ixor K S d0_141 ?_
    refine iand K S d0_142 ?_
    refine istore K S (l' := #[.val (.int x0), .val (.int x1), .val (.int x2), .val (.int x3), .val (.int x4), .val (.int m1), .val (.int m2), .val (.int r1), .val (.int r2), .val (.int t1), .val (.int t2), .val (.ref o50), .val (.int (1 : Int32)), .val (.int (2 : Int32)), .val (.int m1), .val (.int ((15 : Int32) &&& (m1 ^^^ (-1 : Int32)))), .unset, .unset, .unset, .unset, .unset, .unset, .unset, .unset, .unset, .unset, .unset, .unset]) rfl d0_143 ?_
    refine iload K S rfl d0_145 ?_
    refine iload K S rfl d0_147 ?_
    refine iand K S d0_149 ?_
    refine istore K S (l' := #[.val (.int x0), .val (.int x1), .val (.int x2), .val (.int x3), .val (.int x4), .val (.int m1), .val (.int m2), .val (.int r1), .val (.int r2), .val (.int t1), .val (.int t2), .val (.ref o50), .val (.int (1 : Int32)), .val (.int (2 : Int32)), .val (.int m1), .val (.int ((15 : Int32) &&& (m1 ^^^ (-1 : Int32)))), .val (.int (m2 &&& ((15 : Int32) &&& (m1 ^^^ (-1 : Int32))))), .unset, .unset, .unset, .unset, .unset, .unset, .unset, .unset, .unset, .unset, .unset]) rfl d0_150 ?_
    refine iload K S rfl d0_152 ?_
    refine iload K S rfl d0_154 ?_
    refine iand K S d0_156 ?_
    refine istore K S (l' := #[.val (.int x0), .val (.int x1), .val (.int x2), .val (.int x3), .val (.int x4), .val (.int m1), .val (.int m2), .val (.int r1), .val (.int r2), .val (.int t1), .val (.int t2), .val (.ref o50), .val (.int (1 : Int32)), .val (.int (2 : Int32)), .val (.int m1), .val (.int ((15 : Int32) &&& (m1 ^^^ (-1 : Int32)))), .val (.int (m2 &&& ((15 : Int32) &&& (m1 ^^^ (-1 : Int32))))), .val (.int (m2 &&& m1)), .unset, .unset, .unset, .unset, .unset, .unset, .unset, .unset, .unset, .unset]) rfl d0_157 ?_
    refine iload K S rfl d0_159 ?_
    refine ific_eq K S d0_161 (fun c161 => ?_) (fun c161 => ?_)
    · refine iconst K S (x := (0 : Int32)) rfl d0_175 ?_
      refine istore K S (l' := #[.val (.int x0), .val (.int x1), .val (.int x2), .val (.int x3), .val (.int x4), .val (.int m1), .val (.int m2), .val (.int r1), .val (.int r2), .val (.int t1), .val (.int t2), .val (.ref o50), .val (.int (1 : Int32)), .val (.int (2 : Int32)), .val (.int m1), .val (.int ((15 : Int32) &&& (m1 ^^^ (-1 : Int32)))), .val (.int (m2 &&& ((15 : Int32) &&& (m1 ^^^ (-1 : Int32))))), .val (.int (m2 &&& m1)), .val (.int (0 : Int32)), .unset, .unset, .unset, .unset, .unset, .unset, .unset, .unset, .unset]) rfl d0_176 ?_
      refine iload K S rfl d0_178 ?_
      refine ific_eq K S d0_180 (fun c180 => ?_) (fun c180 => ?_)
      · refine iconst K S (x := (0 : Int32)) rfl d0_194 ?_
        refine istore K S (l' := #[.val (.int x0), .val (.int x1), .val (.int x2), .val (.int x3), .val (.int x4), .val (.int m1), .val (.int m2), .val (.int r1), .val (.int r2), .val (.int t1), .val (.int t2), .val (.ref o50), .val (.int (1 : Int32)), .val (.int (2 : Int32)), .val (.int m1), .val (.int ((15 : Int32) &&& (m1 ^^^ (-1 : Int32)))), .val (.int (m2 &&& ((15 : Int32) &&& (m1 ^^^ (-1 : Int32))))), .val (.int (m2 &&& m1)), .val (.int (0 : Int32)), .val (.int (0 : Int32)), .unset, .unset, .unset, .unset, .unset, .unset, .unset, .unset]) rfl d0_195 ?_
        refine iconst K S (x := (0 : Int32)) rfl d0_197 ?_
        refine istore K S (l' := #[.val (.int x0), .val (.int x1), .val (.int x2), .val (.int x3), .val (.int x4), .val (.int m1), .val (.int m2), .val (.int r1), .val (.int r2), .val (.int t1), .val (.int t2), .val (.ref o50), .val (.int (1 : Int32)), .val (.int (2 : Int32)), .val (.int m1), .val (.int ((15 : Int32) &&& (m1 ^^^ (-1 : Int32)))), .val (.int (m2 &&& ((15 : Int32) &&& (m1 ^^^ (-1 : Int32))))), .val (.int (m2 &&& m1)), .val (.int (0 : Int32)), .val (.int (0 : Int32)), .val (.int (0 : Int32)), .unset, .unset, .unset, .unset, .unset, .unset, .unset]) rfl d0_198 ?_
        refine iconst K S (x := (1 : Int32)) rfl d0_200 ?_
        refine istore K S (l' := #[.val (.int x0), .val (.int x1), .val (.int x2), .val (.int x3), .val (.int x4), .val (.int m1), .val (.int m2), .val (.int r1), .val (.int r2), .val (.int t1), .val (.int t2), .val (.ref o50), .val (.int (1 : Int32)), .val (.int (2 : Int32)), .val (.int m1), .val (.int ((15 : Int32) &&& (m1 ^^^ (-1 : Int32)))), .val (.int (m2 &&& ((15 : Int32) &&& (m1 ^^^ (-1 : Int32))))), .val (.int (m2 &&& m1)), .val (.int (0 : Int32)), .val (.int (0 : Int32)), .val (.int (0 : Int32)), .val (.int (1 : Int32)), .unset, .unset, .unset, .unset, .unset, .unset]) rfl d0_201 ?_
        refine iload K S rfl d0_203 ?_
        refine ific_eq K S d0_205 (fun c205 => ?_) (fun c205 => ?_)
        rotate_left
        · exact absurd c205 (by decide)
        refine iload K S rfl d0_268 ?_
        refine ific_eq K S d0_270 (fun c270 => ?_) (fun c270 => ?_)
        rotate_left
        · exact absurd c270 (by decide)
        refine iload K S rfl d0_280 ?_
        refine ific_eq K S d0_282 (fun c282 => ?_) (fun c282 => ?_)
        rotate_left
        · exact absurd c282 (by decide)
        refine iload K S rfl d0_289 ?_
        refine iload K S rfl d0_291 ?_
        refine ific_eq K S d0_293 (fun c293 => ?_) (fun c293 => ?_)
        rotate_left
        · exact absurd c293 (by decide)
        refine iconst K S (x := (0 : Int32)) rfl d0_300 ?_
        refine iadd K S d0_301 ?_
        show Wp n0 p e _ s below _ T (mkF m 302 #[.val (.int x0), .val (.int x1), .val (.int x2), .val (.int x3), .val (.int x4), .val (.int m1), .val (.int m2), .val (.int r1), .val (.int r2), .val (.int t1), .val (.int t2), .val (.ref o50), .val (.int (1 : Int32)), .val (.int (2 : Int32)), .val (.int m1), .val (.int ((15 : Int32) &&& (m1 ^^^ (-1 : Int32)))), .val (.int (m2 &&& ((15 : Int32) &&& (m1 ^^^ (-1 : Int32))))), .val (.int (m2 &&& m1)), .val (.int (0 : Int32)), .val (.int (0 : Int32)), .val (.int (0 : Int32)), .val (.int (1 : Int32)), .unset, .unset, .unset, .unset, .unset, .unset] [.int (2 : Int32)])
        refine iload K S rfl d0_302 ?_
        refine ific_eq K S d0_304 (fun c304 => ?_) (fun c304 => ?_)
        rotate_left
        · exact absurd c304 (by decide)
        refine iconst K S (x := (0 : Int32)) rfl d0_311 ?_
        refine iadd K S d0_312 ?_
        show Wp n0 p e _ s below _ T (mkF m 313 #[.val (.int x0), .val (.int x1), .val (.int x2), .val (.int x3), .val (.int x4), .val (.int m1), .val (.int m2), .val (.int r1), .val (.int r2), .val (.int t1), .val (.int t2), .val (.ref o50), .val (.int (1 : Int32)), .val (.int (2 : Int32)), .val (.int m1), .val (.int ((15 : Int32) &&& (m1 ^^^ (-1 : Int32)))), .val (.int (m2 &&& ((15 : Int32) &&& (m1 ^^^ (-1 : Int32))))), .val (.int (m2 &&& m1)), .val (.int (0 : Int32)), .val (.int (0 : Int32)), .val (.int (0 : Int32)), .val (.int (1 : Int32)), .unset, .unset, .unset, .unset, .unset, .unset] [.int (2 : Int32)])
        refine istore K S (l' := #[.val (.int x0), .val (.int x1), .val (.int x2), .val (.int x3), .val (.int x4), .val (.int m1), .val (.int m2), .val (.int r1), .val (.int r2), .val (.int t1), .val (.int t2), .val (.ref o50), .val (.int (1 : Int32)), .val (.int (2 : Int32)), .val (.int m1), .val (.int ((15 : Int32) &&& (m1 ^^^ (-1 : Int32)))), .val (.int (m2 &&& ((15 : Int32) &&& (m1 ^^^ (-1 : Int32))))), .val (.int (m2 &&& m1)), .val (.int (0 : Int32)), .val (.int (0 : Int32)), .val (.int (0 : Int32)), .val (.int (1 : Int32)), .val (.int (2 : Int32)), .unset, .unset, .unset, .unset, .unset]) rfl d0_313 ?_
        have eb1 : fb1 m1 = (2 : Int32) := by simp [fb1, c94, c101]
        have ea1 : fa1 m1 = m1 := by simp [fa1, c94, c101]
        have ea0 : fa0 m1 = ((15 : Int32) &&& (m1 ^^^ (-1 : Int32))) := by rw [fa0, ea1]
        have efsp0 : fsp0 m1 m2 = (0 : Int32) := by rw [fsp0, ea0, fsp, if_pos c161]
        have efsp1 : fsp1 m1 m2 = (0 : Int32) := by rw [fsp1, ea1, fsp, if_pos c180]
        have ei0 : fid0 m1 m2 r2 t2 = (0 : Int32) := by simp [fid0, efsp0, efsp1, eb1]
        have ei1 : fid1 m1 m2 r2 t2 = (1 : Int32) := by simp [fid1, efsp0, efsp1, eb1]
        have eeb : feb m1 m2 = (2 : Int32) := by rw [feb, efsp0, efsp1, eb1] <;> decide
        have J := J315 T (.val (.int (1 : Int32))) (.val (.int (2 : Int32))) (.val (.int ((15 : Int32) &&& (m1 ^^^ (-1 : Int32))))) (.val (.int (m2 &&& ((15 : Int32) &&& (m1 ^^^ (-1 : Int32)))))) (.val (.int (m2 &&& m1))) (.unset) S One.u
        rw [ea1, efsp0, efsp1, ei0, ei1, eeb] at J
        exact J
      refine iload K S rfl d0_183 ?_
      refine iload K S rfl d0_185 ?_
      refine icmp_eq K S d0_187 (fun c187 => ?_) (fun c187 => ?_)
      · refine iconst K S (x := (0 : Int32)) rfl d0_194 ?_
        refine istore K S (l' := #[.val (.int x0), .val (.int x1), .val (.int x2), .val (.int x3), .val (.int x4), .val (.int m1), .val (.int m2), .val (.int r1), .val (.int r2), .val (.int t1), .val (.int t2), .val (.ref o50), .val (.int (1 : Int32)), .val (.int (2 : Int32)), .val (.int m1), .val (.int ((15 : Int32) &&& (m1 ^^^ (-1 : Int32)))), .val (.int (m2 &&& ((15 : Int32) &&& (m1 ^^^ (-1 : Int32))))), .val (.int (m2 &&& m1)), .val (.int (0 : Int32)), .val (.int (0 : Int32)), .unset, .unset, .unset, .unset, .unset, .unset, .unset, .unset]) rfl d0_195 ?_
        refine iconst K S (x := (0 : Int32)) rfl d0_197 ?_
        refine istore K S (l' := #[.val (.int x0), .val (.int x1), .val (.int x2), .val (.int x3), .val (.int x4), .val (.int m1), .val (.int m2), .val (.int r1), .val (.int r2), .val (.int t1), .val (.int t2), .val (.ref o50), .val (.int (1 : Int32)), .val (.int (2 : Int32)), .val (.int m1), .val (.int ((15 : Int32) &&& (m1 ^^^ (-1 : Int32)))), .val (.int (m2 &&& ((15 : Int32) &&& (m1 ^^^ (-1 : Int32))))), .val (.int (m2 &&& m1)), .val (.int (0 : Int32)), .val (.int (0 : Int32)), .val (.int (0 : Int32)), .unset, .unset, .unset, .unset, .unset, .unset, .unset]) rfl d0_198 ?_
        refine iconst K S (x := (1 : Int32)) rfl d0_200 ?_
        refine istore K S (l' := #[.val (.int x0), .val (.int x1), .val (.int x2), .val (.int x3), .val (.int x4), .val (.int m1), .val (.int m2), .val (.int r1), .val (.int r2), .val (.int t1), .val (.int t2), .val (.ref o50), .val (.int (1 : Int32)), .val (.int (2 : Int32)), .val (.int m1), .val (.int ((15 : Int32) &&& (m1 ^^^ (-1 : Int32)))), .val (.int (m2 &&& ((15 : Int32) &&& (m1 ^^^ (-1 : Int32))))), .val (.int (m2 &&& m1)), .val (.int (0 : Int32)), .val (.int (0 : Int32)), .val (.int (0 : Int32)), .val (.int (1 : Int32)), .unset, .unset, .unset, .unset, .unset, .unset]) rfl d0_201 ?_
        refine iload K S rfl d0_203 ?_
        refine ific_eq K S d0_205 (fun c205 => ?_) (fun c205 => ?_)
        rotate_left
        · exact absurd c205 (by decide)
        refine iload K S rfl d0_268 ?_
        refine ific_eq K S d0_270 (fun c270 => ?_) (fun c270 => ?_)
        rotate_left
        · exact absurd c270 (by decide)
        refine iload K S rfl d0_280 ?_
        refine ific_eq K S d0_282 (fun c282 => ?_) (fun c282 => ?_)
        rotate_left
        · exact absurd c282 (by decide)
        refine iload K S rfl d0_289 ?_
        refine iload K S rfl d0_291 ?_
        refine ific_eq K S d0_293 (fun c293 => ?_) (fun c293 => ?_)
        rotate_left
        · exact absurd c293 (by decide)
        refine iconst K S (x := (0 : Int32)) rfl d0_300 ?_
        refine iadd K S d0_301 ?_
        show Wp n0 p e _ s below _ T (mkF m 302 #[.val (.int x0), .val (.int x1), .val (.int x2), .val (.int x3), .val (.int x4), .val (.int m1), .val (.int m2), .val (.int r1), .val (.int r2), .val (.int t1), .val (.int t2), .val (.ref o50), .val (.int (1 : Int32)), .val (.int (2 : Int32)), .val (.int m1), .val (.int ((15 : Int32) &&& (m1 ^^^ (-1 : Int32)))), .val (.int (m2 &&& ((15 : Int32) &&& (m1 ^^^ (-1 : Int32))))), .val (.int (m2 &&& m1)), .val (.int (0 : Int32)), .val (.int (0 : Int32)), .val (.int (0 : Int32)), .val (.int (1 : Int32)), .unset, .unset, .unset, .unset, .unset, .unset] [.int (2 : Int32)])
        refine iload K S rfl d0_302 ?_
        refine ific_eq K S d0_304 (fun c304 => ?_) (fun c304 => ?_)
        rotate_left
        · exact absurd c304 (by decide)
        refine iconst K S (x := (0 : Int32)) rfl d0_311 ?_
        refine iadd K S d0_312 ?_
        show Wp n0 p e _ s below _ T (mkF m 313 #[.val (.int x0), .val (.int x1), .val (.int x2), .val (.int x3), .val (.int x4), .val (.int m1), .val (.int m2), .val (.int r1), .val (.int r2), .val (.int t1), .val (.int t2), .val (.ref o50), .val (.int (1 : Int32)), .val (.int (2 : Int32)), .val (.int m1), .val (.int ((15 : Int32) &&& (m1 ^^^ (-1 : Int32)))), .val (.int (m2 &&& ((15 : Int32) &&& (m1 ^^^ (-1 : Int32))))), .val (.int (m2 &&& m1)), .val (.int (0 : Int32)), .val (.int (0 : Int32)), .val (.int (0 : Int32)), .val (.int (1 : Int32)), .unset, .unset, .unset, .unset, .unset, .unset] [.int (2 : Int32)])
        refine istore K S (l' := #[.val (.int x0), .val (.int x1), .val (.int x2), .val (.int x3), .val (.int x4), .val (.int m1), .val (.int m2), .val (.int r1), .val (.int r2), .val (.int t1), .val (.int t2), .val (.ref o50), .val (.int (1 : Int32)), .val (.int (2 : Int32)), .val (.int m1), .val (.int ((15 : Int32) &&& (m1 ^^^ (-1 : Int32)))), .val (.int (m2 &&& ((15 : Int32) &&& (m1 ^^^ (-1 : Int32))))), .val (.int (m2 &&& m1)), .val (.int (0 : Int32)), .val (.int (0 : Int32)), .val (.int (0 : Int32)), .val (.int (1 : Int32)), .val (.int (2 : Int32)), .unset, .unset, .unset, .unset, .unset]) rfl d0_313 ?_
        have eb1 : fb1 m1 = (2 : Int32) := by simp [fb1, c94, c101]
        have ea1 : fa1 m1 = m1 := by simp [fa1, c94, c101]
        have ea0 : fa0 m1 = ((15 : Int32) &&& (m1 ^^^ (-1 : Int32))) := by rw [fa0, ea1]
        have efsp0 : fsp0 m1 m2 = (0 : Int32) := by rw [fsp0, ea0, fsp, if_pos c161]
        have efsp1 : fsp1 m1 m2 = (0 : Int32) := by rw [fsp1, ea1, fsp, if_neg c180, if_pos c187]
        have ei0 : fid0 m1 m2 r2 t2 = (0 : Int32) := by simp [fid0, efsp0, efsp1, eb1]
        have ei1 : fid1 m1 m2 r2 t2 = (1 : Int32) := by simp [fid1, efsp0, efsp1, eb1]
        have eeb : feb m1 m2 = (2 : Int32) := by rw [feb, efsp0, efsp1, eb1] <;> decide
        have J := J315 T (.val (.int (1 : Int32))) (.val (.int (2 : Int32))) (.val (.int ((15 : Int32) &&& (m1 ^^^ (-1 : Int32))))) (.val (.int (m2 &&& ((15 : Int32) &&& (m1 ^^^ (-1 : Int32)))))) (.val (.int (m2 &&& m1))) (.unset) S One.u
        rw [ea1, efsp0, efsp1, ei0, ei1, eeb] at J
        exact J
      refine iconst K S (x := (1 : Int32)) rfl d0_190 ?_
      refine goto K S d0_191 ?_
      refine istore K S (l' := #[.val (.int x0), .val (.int x1), .val (.int x2), .val (.int x3), .val (.int x4), .val (.int m1), .val (.int m2), .val (.int r1), .val (.int r2), .val (.int t1), .val (.int t2), .val (.ref o50), .val (.int (1 : Int32)), .val (.int (2 : Int32)), .val (.int m1), .val (.int ((15 : Int32) &&& (m1 ^^^ (-1 : Int32)))), .val (.int (m2 &&& ((15 : Int32) &&& (m1 ^^^ (-1 : Int32))))), .val (.int (m2 &&& m1)), .val (.int (0 : Int32)), .val (.int (1 : Int32)), .unset, .unset, .unset, .unset, .unset, .unset, .unset, .unset]) rfl d0_195 ?_
      refine iconst K S (x := (0 : Int32)) rfl d0_197 ?_
      refine istore K S (l' := #[.val (.int x0), .val (.int x1), .val (.int x2), .val (.int x3), .val (.int x4), .val (.int m1), .val (.int m2), .val (.int r1), .val (.int r2), .val (.int t1), .val (.int t2), .val (.ref o50), .val (.int (1 : Int32)), .val (.int (2 : Int32)), .val (.int m1), .val (.int ((15 : Int32) &&& (m1 ^^^ (-1 : Int32)))), .val (.int (m2 &&& ((15 : Int32) &&& (m1 ^^^ (-1 : Int32))))), .val (.int (m2 &&& m1)), .val (.int (0 : Int32)), .val (.int (1 : Int32)), .val (.int (0 : Int32)), .unset, .unset, .unset, .unset, .unset, .unset, .unset]) rfl d0_198 ?_
      refine iconst K S (x := (1 : Int32)) rfl d0_200 ?_
      refine istore K S (l' := #[.val (.int x0), .val (.int x1), .val (.int x2), .val (.int x3), .val (.int x4), .val (.int m1), .val (.int m2), .val (.int r1), .val (.int r2), .val (.int t1), .val (.int t2), .val (.ref o50), .val (.int (1 : Int32)), .val (.int (2 : Int32)), .val (.int m1), .val (.int ((15 : Int32) &&& (m1 ^^^ (-1 : Int32)))), .val (.int (m2 &&& ((15 : Int32) &&& (m1 ^^^ (-1 : Int32))))), .val (.int (m2 &&& m1)), .val (.int (0 : Int32)), .val (.int (1 : Int32)), .val (.int (0 : Int32)), .val (.int (1 : Int32)), .unset, .unset, .unset, .unset, .unset, .unset]) rfl d0_201 ?_
      refine iload K S rfl d0_203 ?_
      refine ific_eq K S d0_205 (fun c205 => ?_) (fun c205 => ?_)
      rotate_left
      · exact absurd c205 (by decide)
      refine iload K S rfl d0_268 ?_
      refine ific_eq K S d0_270 (fun c270 => ?_) (fun c270 => ?_)
      rotate_left
      · exact absurd c270 (by decide)
      refine iload K S rfl d0_280 ?_
      refine ific_eq K S d0_282 (fun c282 => ?_) (fun c282 => ?_)
      · exact absurd c282 (by decide)
      refine iload K S rfl d0_285 ?_
      refine istore K S (l' := #[.val (.int x0), .val (.int x1), .val (.int x2), .val (.int x3), .val (.int x4), .val (.int m1), .val (.int m2), .val (.int r1), .val (.int r2), .val (.int t1), .val (.int t2), .val (.ref o50), .val (.int (1 : Int32)), .val (.int (2 : Int32)), .val (.int m1), .val (.int ((15 : Int32) &&& (m1 ^^^ (-1 : Int32)))), .val (.int (m2 &&& ((15 : Int32) &&& (m1 ^^^ (-1 : Int32))))), .val (.int (m2 &&& m1)), .val (.int (0 : Int32)), .val (.int (1 : Int32)), .val (.int (0 : Int32)), .val (.int (2 : Int32)), .unset, .unset, .unset, .unset, .unset, .unset]) rfl d0_287 ?_
      refine iload K S rfl d0_289 ?_
      refine iload K S rfl d0_291 ?_
      refine ific_eq K S d0_293 (fun c293 => ?_) (fun c293 => ?_)
      rotate_left
      · exact absurd c293 (by decide)
      refine iconst K S (x := (0 : Int32)) rfl d0_300 ?_
      refine iadd K S d0_301 ?_
      show Wp n0 p e _ s below _ T (mkF m 302 #[.val (.int x0), .val (.int x1), .val (.int x2), .val (.int x3), .val (.int x4), .val (.int m1), .val (.int m2), .val (.int r1), .val (.int r2), .val (.int t1), .val (.int t2), .val (.ref o50), .val (.int (1 : Int32)), .val (.int (2 : Int32)), .val (.int m1), .val (.int ((15 : Int32) &&& (m1 ^^^ (-1 : Int32)))), .val (.int (m2 &&& ((15 : Int32) &&& (m1 ^^^ (-1 : Int32))))), .val (.int (m2 &&& m1)), .val (.int (0 : Int32)), .val (.int (1 : Int32)), .val (.int (0 : Int32)), .val (.int (2 : Int32)), .unset, .unset, .unset, .unset, .unset, .unset] [.int (2 : Int32)])
      refine iload K S rfl d0_302 ?_
      refine ific_eq K S d0_304 (fun c304 => ?_) (fun c304 => ?_)
      · exact absurd c304 (by decide)
      refine iconst K S (x := (1 : Int32)) rfl d0_307 ?_
      refine goto K S d0_308 ?_
      refine iadd K S d0_312 ?_
      show Wp n0 p e _ s below _ T (mkF m 313 #[.val (.int x0), .val (.int x1), .val (.int x2), .val (.int x3), .val (.int x4), .val (.int m1), .val (.int m2), .val (.int r1), .val (.int r2), .val (.int t1), .val (.int t2), .val (.ref o50), .val (.int (1 : Int32)), .val (.int (2 : Int32)), .val (.int m1), .val (.int ((15 : Int32) &&& (m1 ^^^ (-1 : Int32)))), .val (.int (m2 &&& ((15 : Int32) &&& (m1 ^^^ (-1 : Int32))))), .val (.int (m2 &&& m1)), .val (.int (0 : Int32)), .val (.int (1 : Int32)), .val (.int (0 : Int32)), .val (.int (2 : Int32)), .unset, .unset, .unset, .unset, .unset, .unset] [.int (3 : Int32)])
      refine istore K S (l' := #[.val (.int x0), .val (.int x1), .val (.int x2), .val (.int x3), .val (.int x4), .val (.int m1), .val (.int m2), .val (.int r1), .val (.int r2), .val (.int t1), .val (.int t2), .val (.ref o50), .val (.int (1 : Int32)), .val (.int (2 : Int32)), .val (.int m1), .val (.int ((15 : Int32) &&& (m1 ^^^ (-1 : Int32)))), .val (.int (m2 &&& ((15 : Int32) &&& (m1 ^^^ (-1 : Int32))))), .val (.int (m2 &&& m1)), .val (.int (0 : Int32)), .val (.int (1 : Int32)), .val (.int (0 : Int32)), .val (.int (2 : Int32)), .val (.int (3 : Int32)), .unset, .unset, .unset, .unset, .unset]) rfl d0_313 ?_
      have eb1 : fb1 m1 = (2 : Int32) := by simp [fb1, c94, c101]
      have ea1 : fa1 m1 = m1 := by simp [fa1, c94, c101]
      have ea0 : fa0 m1 = ((15 : Int32) &&& (m1 ^^^ (-1 : Int32))) := by rw [fa0, ea1]
      have efsp0 : fsp0 m1 m2 = (0 : Int32) := by rw [fsp0, ea0, fsp, if_pos c161]
      have efsp1 : fsp1 m1 m2 = (1 : Int32) := by rw [fsp1, ea1, fsp, if_neg c180, if_neg c187]
      have ei0 : fid0 m1 m2 r2 t2 = (0 : Int32) := by simp [fid0, efsp0, efsp1, eb1]
      have ei1 : fid1 m1 m2 r2 t2 = (2 : Int32) := by simp [fid1, efsp0, efsp1, eb1]
      have eeb : feb m1 m2 = (3 : Int32) := by rw [feb, efsp0, efsp1, eb1] <;> decide
      have J := J315 T (.val (.int (1 : Int32))) (.val (.int (2 : Int32))) (.val (.int ((15 : Int32) &&& (m1 ^^^ (-1 : Int32))))) (.val (.int (m2 &&& ((15 : Int32) &&& (m1 ^^^ (-1 : Int32)))))) (.val (.int (m2 &&& m1))) (.unset) S One.u
      rw [ea1, efsp0, efsp1, ei0, ei1, eeb] at J
      exact J
    refine iload K S rfl d0_164 ?_
    refine iload K S rfl d0_166 ?_
    refine icmp_eq K S d0_168 (fun c168 => ?_) (fun c168 => ?_)
    · refine iconst K S (x := (0 : Int32)) rfl d0_175 ?_
      refine istore K S (l' := #[.val (.int x0), .val (.int x1), .val (.int x2), .val (.int x3), .val (.int x4), .val (.int m1), .val (.int m2), .val (.int r1), .val (.int r2), .val (.int t1), .val (.int t2), .val (.ref o50), .val (.int (1 : Int32)), .val (.int (2 : Int32)), .val (.int m1), .val (.int ((15 : Int32) &&& (m1 ^^^ (-1 : Int32)))), .val (.int (m2 &&& ((15 : Int32) &&& (m1 ^^^ (-1 : Int32))))), .val (.int (m2 &&& m1)), .val (.int (0 : Int32)), .unset, .unset, .unset, .unset, .unset, .unset, .unset, .unset, .unset]) rfl d0_176 ?_
      refine iload K S rfl d0_178 ?_
      refine ific_eq K S d0_180 (fun c180 => ?_) (fun c180 => ?_)
      · refine iconst K S (x := (0 : Int32)) rfl d0_194 ?_
        refine istore K S (l' := #[.val (.int x0), .val (.int x1), .val (.int x2), .val (.int x3), .val (.int x4), .val (.int m1), .val (.int m2), .val (.int r1), .val (.int r2), .val (.int t1), .val (.int t2), .val (.ref o50), .val (.int (1 : Int32)), .val (.int (2 : Int32)), .val (.int m1), .val (.int ((15 : Int32) &&& (m1 ^^^ (-1 : Int32)))), .val (.int (m2 &&& ((15 : Int32) &&& (m1 ^^^ (-1 : Int32))))), .val (.int (m2 &&& m1)), .val (.int (0 : Int32)), .val (.int (0 : Int32)), .unset, .unset, .unset, .unset, .unset, .unset, .unset, .unset]) rfl d0_195 ?_
        refine iconst K S (x := (0 : Int32)) rfl d0_197 ?_
        refine istore K S (l' := #[.val (.int x0), .val (.int x1), .val (.int x2), .val (.int x3), .val (.int x4), .val (.int m1), .val (.int m2), .val (.int r1), .val (.int r2), .val (.int t1), .val (.int t2), .val (.ref o50), .val (.int (1 : Int32)), .val (.int (2 : Int32)), .val (.int m1), .val (.int ((15 : Int32) &&& (m1 ^^^ (-1 : Int32)))), .val (.int (m2 &&& ((15 : Int32) &&& (m1 ^^^ (-1 : Int32))))), .val (.int (m2 &&& m1)), .val (.int (0 : Int32)), .val (.int (0 : Int32)), .val (.int (0 : Int32)), .unset, .unset, .unset, .unset, .unset, .unset, .unset]) rfl d0_198 ?_
        refine iconst K S (x := (1 : Int32)) rfl d0_200 ?_
        refine istore K S (l' := #[.val (.int x0), .val (.int x1), .val (.int x2), .val (.int x3), .val (.int x4), .val (.int m1), .val (.int m2), .val (.int r1), .val (.int r2), .val (.int t1), .val (.int t2), .val (.ref o50), .val (.int (1 : Int32)), .val (.int (2 : Int32)), .val (.int m1), .val (.int ((15 : Int32) &&& (m1 ^^^ (-1 : Int32)))), .val (.int (m2 &&& ((15 : Int32) &&& (m1 ^^^ (-1 : Int32))))), .val (.int (m2 &&& m1)), .val (.int (0 : Int32)), .val (.int (0 : Int32)), .val (.int (0 : Int32)), .val (.int (1 : Int32)), .unset, .unset, .unset, .unset, .unset, .unset]) rfl d0_201 ?_
        refine iload K S rfl d0_203 ?_
        refine ific_eq K S d0_205 (fun c205 => ?_) (fun c205 => ?_)
        rotate_left
        · exact absurd c205 (by decide)
        refine iload K S rfl d0_268 ?_
        refine ific_eq K S d0_270 (fun c270 => ?_) (fun c270 => ?_)
        rotate_left
        · exact absurd c270 (by decide)
        refine iload K S rfl d0_280 ?_
        refine ific_eq K S d0_282 (fun c282 => ?_) (fun c282 => ?_)
        rotate_left
        · exact absurd c282 (by decide)
        refine iload K S rfl d0_289 ?_
        refine iload K S rfl d0_291 ?_
        refine ific_eq K S d0_293 (fun c293 => ?_) (fun c293 => ?_)
        rotate_left
        · exact absurd c293 (by decide)
        refine iconst K S (x := (0 : Int32)) rfl d0_300 ?_
        refine iadd K S d0_301 ?_
        show Wp n0 p e _ s below _ T (mkF m 302 #[.val (.int x0), .val (.int x1), .val (.int x2), .val (.int x3), .val (.int x4), .val (.int m1), .val (.int m2), .val (.int r1), .val (.int r2), .val (.int t1), .val (.int t2), .val (.ref o50), .val (.int (1 : Int32)), .val (.int (2 : Int32)), .val (.int m1), .val (.int ((15 : Int32) &&& (m1 ^^^ (-1 : Int32)))), .val (.int (m2 &&& ((15 : Int32) &&& (m1 ^^^ (-1 : Int32))))), .val (.int (m2 &&& m1)), .val (.int (0 : Int32)), .val (.int (0 : Int32)), .val (.int (0 : Int32)), .val (.int (1 : Int32)), .unset, .unset, .unset, .unset, .unset, .unset] [.int (2 : Int32)])
        refine iload K S rfl d0_302 ?_
        refine ific_eq K S d0_304 (fun c304 => ?_) (fun c304 => ?_)
        rotate_left
        · exact absurd c304 (by decide)
        refine iconst K S (x := (0 : Int32)) rfl d0_311 ?_
        refine iadd K S d0_312 ?_
        show Wp n0 p e _ s below _ T (mkF m 313 #[.val (.int x0), .val (.int x1), .val (.int x2), .val (.int x3), .val (.int x4), .val (.int m1), .val (.int m2), .val (.int r1), .val (.int r2), .val (.int t1), .val (.int t2), .val (.ref o50), .val (.int (1 : Int32)), .val (.int (2 : Int32)), .val (.int m1), .val (.int ((15 : Int32) &&& (m1 ^^^ (-1 : Int32)))), .val (.int (m2 &&& ((15 : Int32) &&& (m1 ^^^ (-1 : Int32))))), .val (.int (m2 &&& m1)), .val (.int (0 : Int32)), .val (.int (0 : Int32)), .val (.int (0 : Int32)), .val (.int (1 : Int32)), .unset, .unset, .unset, .unset, .unset, .unset] [.int (2 : Int32)])
        refine istore K S (l' := #[.val (.int x0), .val (.int x1), .val (.int x2), .val (.int x3), .val (.int x4), .val (.int m1), .val (.int m2), .val (.int r1), .val (.int r2), .val (.int t1), .val (.int t2), .val (.ref o50), .val (.int (1 : Int32)), .val (.int (2 : Int32)), .val (.int m1), .val (.int ((15 : Int32) &&& (m1 ^^^ (-1 : Int32)))), .val (.int (m2 &&& ((15 : Int32) &&& (m1 ^^^ (-1 : Int32))))), .val (.int (m2 &&& m1)), .val (.int (0 : Int32)), .val (.int (0 : Int32)), .val (.int (0 : Int32)), .val (.int (1 : Int32)), .val (.int (2 : Int32)), .unset, .unset, .unset, .unset, .unset]) rfl d0_313 ?_
        have eb1 : fb1 m1 = (2 : Int32) := by simp [fb1, c94, c101]
        have ea1 : fa1 m1 = m1 := by simp [fa1, c94, c101]
        have ea0 : fa0 m1 = ((15 : Int32) &&& (m1 ^^^ (-1 : Int32))) := by rw [fa0, ea1]
        have efsp0 : fsp0 m1 m2 = (0 : Int32) := by rw [fsp0, ea0, fsp, if_neg c161, if_pos c168]
        have efsp1 : fsp1 m1 m2 = (0 : Int32) := by rw [fsp1, ea1, fsp, if_pos c180]
        have ei0 : fid0 m1 m2 r2 t2 = (0 : Int32) := by simp [fid0, efsp0, efsp1, eb1]
        have ei1 : fid1 m1 m2 r2 t2 = (1 : Int32) := by simp [fid1, efsp0, efsp1, eb1]
        have eeb : feb m1 m2 = (2 : Int32) := by rw [feb, efsp0, efsp1, eb1] <;> decide
        have J := J315 T (.val (.int (1 : Int32))) (.val (.int (2 : Int32))) (.val (.int ((15 : Int32) &&& (m1 ^^^ (-1 : Int32))))) (.val (.int (m2 &&& ((15 : Int32) &&& (m1 ^^^ (-1 : Int32)))))) (.val (.int (m2 &&& m1))) (.unset) S One.u
        rw [ea1, efsp0, efsp1, ei0, ei1, eeb] at J
        exact J
      refine iload K S rfl d0_183 ?_
      refine iload K S rfl d0_185 ?_
      refine icmp_eq K S d0_187 (fun c187 => ?_) (fun c187 => ?_)
      · refine iconst K S (x := (0 : Int32)) rfl d0_194 ?_
        refine istore K S (l' := #[.val (.int x0), .val (.int x1), .val (.int x2), .val (.int x3), .val (.int x4), .val (.int m1), .val (.int m2), .val (.int r1), .val (.int r2), .val (.int t1), .val (.int t2), .val (.ref o50), .val (.int (1 : Int32)), .val (.int (2 : Int32)), .val (.int m1), .val (.int ((15 : Int32) &&& (m1 ^^^ (-1 : Int32)))), .val (.int (m2 &&& ((15 : Int32) &&& (m1 ^^^ (-1 : Int32))))), .val (.int (m2 &&& m1)), .val (.int (0 : Int32)), .val (.int (0 : Int32)), .unset, .unset, .unset, .unset, .unset, .unset, .unset, .unset]) rfl d0_195 ?_
        refine iconst K S (x := (0 : Int32)) rfl d0_197 ?_
        refine istore K S (l' := #[.val (.int x0), .val (.int x1), .val (.int x2), .val (.int x3), .val (.int x4), .val (.int m1), .val (.int m2), .val (.int r1), .val (.int r2), .val (.int t1), .val (.int t2), .val (.ref o50), .val (.int (1 : Int32)), .val (.int (2 : Int32)), .val (.int m1), .val (.int ((15 : Int32) &&& (m1 ^^^ (-1 : Int32)))), .val (.int (m2 &&& ((15 : Int32) &&& (m1 ^^^ (-1 : Int32))))), .val (.int (m2 &&& m1)), .val (.int (0 : Int32)), .val (.int (0 : Int32)), .val (.int (0 : Int32)), .unset, .unset, .unset, .unset, .unset, .unset, .unset]) rfl d0_198 ?_
        refine iconst K S (x := (1 : Int32)) rfl d0_200 ?_
        refine istore K S (l' := #[.val (.int x0), .val (.int x1), .val (.int x2), .val (.int x3), .val (.int x4), .val (.int m1), .val (.int m2), .val (.int r1), .val (.int r2), .val (.int t1), .val (.int t2), .val (.ref o50), .val (.int (1 : Int32)), .val (.int (2 : Int32)), .val (.int m1), .val (.int ((15 : Int32) &&& (m1 ^^^ (-1 : Int32)))), .val (.int (m2 &&& ((15 : Int32) &&& (m1 ^^^ (-1 : Int32))))), .val (.int (m2 &&& m1)), .val (.int (0 : Int32)), .val (.int (0 : Int32)), .val (.int (0 : Int32)), .val (.int (1 : Int32)), .unset, .unset, .unset, .unset, .unset, .unset]) rfl d0_201 ?_
        refine iload K S rfl d0_203 ?_
        refine ific_eq K S d0_205 (fun c205 => ?_) (fun c205 => ?_)
        rotate_left
        · exact absurd c205 (by decide)
        refine iload K S rfl d0_268 ?_
        refine ific_eq K S d0_270 (fun c270 => ?_) (fun c270 => ?_)
        rotate_left
        · exact absurd c270 (by decide)
        refine iload K S rfl d0_280 ?_
        refine ific_eq K S d0_282 (fun c282 => ?_) (fun c282 => ?_)
        rotate_left
        · exact absurd c282 (by decide)
        refine iload K S rfl d0_289 ?_
        refine iload K S rfl d0_291 ?_
        refine ific_eq K S d0_293 (fun c293 => ?_) (fun c293 => ?_)
        rotate_left
        · exact absurd c293 (by decide)
        refine iconst K S (x := (0 : Int32)) rfl d0_300 ?_
        refine iadd K S d0_301 ?_
        show Wp n0 p e _ s below _ T (mkF m 302 #[.val (.int x0), .val (.int x1), .val (.int x2), .val (.int x3), .val (.int x4), .val (.int m1), .val (.int m2), .val (.int r1), .val (.int r2), .val (.int t1), .val (.int t2), .val (.ref o50), .val (.int (1 : Int32)), .val (.int (2 : Int32)), .val (.int m1), .val (.int ((15 : Int32) &&& (m1 ^^^ (-1 : Int32)))), .val (.int (m2 &&& ((15 : Int32) &&& (m1 ^^^ (-1 : Int32))))), .val (.int (m2 &&& m1)), .val (.int (0 : Int32)), .val (.int (0 : Int32)), .val (.int (0 : Int32)), .val (.int (1 : Int32)), .unset, .unset, .unset, .unset, .unset, .unset] [.int (2 : Int32)])
        refine iload K S rfl d0_302 ?_
        refine ific_eq K S d0_304 (fun c304 => ?_) (fun c304 => ?_)
        rotate_left
        · exact absurd c304 (by decide)
        refine iconst K S (x := (0 : Int32)) rfl d0_311 ?_
        refine iadd K S d0_312 ?_
        show Wp n0 p e _ s below _ T (mkF m 313 #[.val (.int x0), .val (.int x1), .val (.int x2), .val (.int x3), .val (.int x4), .val (.int m1), .val (.int m2), .val (.int r1), .val (.int r2), .val (.int t1), .val (.int t2), .val (.ref o50), .val (.int (1 : Int32)), .val (.int (2 : Int32)), .val (.int m1), .val (.int ((15 : Int32) &&& (m1 ^^^ (-1 : Int32)))), .val (.int (m2 &&& ((15 : Int32) &&& (m1 ^^^ (-1 : Int32))))), .val (.int (m2 &&& m1)), .val (.int (0 : Int32)), .val (.int (0 : Int32)), .val (.int (0 : Int32)), .val (.int (1 : Int32)), .unset, .unset, .unset, .unset, .unset, .unset] [.int (2 : Int32)])
        refine istore K S (l' := #[.val (.int x0), .val (.int x1), .val (.int x2), .val (.int x3), .val (.int x4), .val (.int m1), .val (.int m2), .val (.int r1), .val (.int r2), .val (.int t1), .val (.int t2), .val (.ref o50), .val (.int (1 : Int32)), .val (.int (2 : Int32)), .val (.int m1), .val (.int ((15 : Int32) &&& (m1 ^^^ (-1 : Int32)))), .val (.int (m2 &&& ((15 : Int32) &&& (m1 ^^^ (-1 : Int32))))), .val (.int (m2 &&& m1)), .val (.int (0 : Int32)), .val (.int (0 : Int32)), .val (.int (0 : Int32)), .val (.int (1 : Int32)), .val (.int (2 : Int32)), .unset, .unset, .unset, .unset, .unset]) rfl d0_313 ?_
        have eb1 : fb1 m1 = (2 : Int32) := by simp [fb1, c94, c101]
        have ea1 : fa1 m1 = m1 := by simp [fa1, c94, c101]
        have ea0 : fa0 m1 = ((15 : Int32) &&& (m1 ^^^ (-1 : Int32))) := by rw [fa0, ea1]
        have efsp0 : fsp0 m1 m2 = (0 : Int32) := by rw [fsp0, ea0, fsp, if_neg c161, if_pos c168]
        have efsp1 : fsp1 m1 m2 = (0 : Int32) := by rw [fsp1, ea1, fsp, if_neg c180, if_pos c187]
        have ei0 : fid0 m1 m2 r2 t2 = (0 : Int32) := by simp [fid0, efsp0, efsp1, eb1]
        have ei1 : fid1 m1 m2 r2 t2 = (1 : Int32) := by simp [fid1, efsp0, efsp1, eb1]
        have eeb : feb m1 m2 = (2 : Int32) := by rw [feb, efsp0, efsp1, eb1] <;> decide
        have J := J315 T (.val (.int (1 : Int32))) (.val (.int (2 : Int32))) (.val (.int ((15 : Int32) &&& (m1 ^^^ (-1 : Int32))))) (.val (.int (m2 &&& ((15 : Int32) &&& (m1 ^^^ (-1 : Int32)))))) (.val (.int (m2 &&& m1))) (.unset) S One.u
        rw [ea1, efsp0, efsp1, ei0, ei1, eeb] at J
        exact J
      refine iconst K S (x := (1 : Int32)) rfl d0_190 ?_
      refine goto K S d0_191 ?_
      refine istore K S (l' := #[.val (.int x0), .val (.int x1), .val (.int x2), .val (.int x3), .val (.int x4), .val (.int m1), .val (.int m2), .val (.int r1), .val (.int r2), .val (.int t1), .val (.int t2), .val (.ref o50), .val (.int (1 : Int32)), .val (.int (2 : Int32)), .val (.int m1), .val (.int ((15 : Int32) &&& (m1 ^^^ (-1 : Int32)))), .val (.int (m2 &&& ((15 : Int32) &&& (m1 ^^^ (-1 : Int32))))), .val (.int (m2 &&& m1)), .val (.int (0 : Int32)), .val (.int (1 : Int32)), .unset, .unset, .unset, .unset, .unset, .unset, .unset, .unset]) rfl d0_195 ?_
      refine iconst K S (x := (0 : Int32)) rfl d0_197 ?_
      refine istore K S (l' := #[.val (.int x0), .val (.int x1), .val (.int x2), .val (.int x3), .val (.int x4), .val (.int m1), .val (.int m2), .val (.int r1), .val (.int r2), .val (.int t1), .val (.int t2), .val (.ref o50), .val (.int (1 : Int32)), .val (.int (2 : Int32)), .val (.int m1), .val (.int ((15 : Int32) &&& (m1 ^^^ (-1 : Int32)))), .val (.int (m2 &&& ((15 : Int32) &&& (m1 ^^^ (-1 : Int32))))), .val (.int (m2 &&& m1)), .val (.int (0 : Int32)), .val (.int (1 : Int32)), .val (.int (0 : Int32)), .unset, .unset, .unset, .unset, .unset, .unset, .unset]) rfl d0_198 ?_
      refine iconst K S (x := (1 : Int32)) rfl d0_200 ?_
      refine istore K S (l' := #[.val (.int x0), .val (.int x1), .val (.int x2), .val (.int x3), .val (.int x4), .val (.int m1), .val (.int m2), .val (.int r1), .val (.int r2), .val (.int t1), .val (.int t2), .val (.ref o50), .val (.int (1 : Int32)), .val (.int (2 : Int32)), .val (.int m1), .val (.int ((15 : Int32) &&& (m1 ^^^ (-1 : Int32)))), .val (.int (m2 &&& ((15 : Int32) &&& (m1 ^^^ (-1 : Int32))))), .val (.int (m2 &&& m1)), .val (.int (0 : Int32)), .val (.int (1 : Int32)), .val (.int (0 : Int32)), .val (.int (1 : Int32)), .unset, .unset, .unset, .unset, .unset, .unset]) rfl d0_201 ?_
      refine iload K S rfl d0_203 ?_
      refine ific_eq K S d0_205 (fun c205 => ?_) (fun c205 => ?_)
      rotate_left
      · exact absurd c205 (by decide)
      refine iload K S rfl d0_268 ?_
      refine ific_eq K S d0_270 (fun c270 => ?_) (fun c270 => ?_)
      rotate_left
      · exact absurd c270 (by decide)
      refine iload K S rfl d0_280 ?_
      refine ific_eq K S d0_282 (fun c282 => ?_) (fun c282 => ?_)
      · exact absurd c282 (by decide)
      refine iload K S rfl d0_285 ?_
      refine istore K S (l' := #[.val (.int x0), .val (.int x1), .val (.int x2), .val (.int x3), .val (.int x4), .val (.int m1), .val (.int m2), .val (.int r1), .val (.int r2), .val (.int t1), .val (.int t2), .val (.ref o50), .val (.int (1 : Int32)), .val (.int (2 : Int32)), .val (.int m1), .val (.int ((15 : Int32) &&& (m1 ^^^ (-1 : Int32)))), .val (.int (m2 &&& ((15 : Int32) &&& (m1 ^^^ (-1 : Int32))))), .val (.int (m2 &&& m1)), .val (.int (0 : Int32)), .val (.int (1 : Int32)), .val (.int (0 : Int32)), .val (.int (2 : Int32)), .unset, .unset, .unset, .unset, .unset, .unset]) rfl d0_287 ?_
      refine iload K S rfl d0_289 ?_
      refine iload K S rfl d0_291 ?_
      refine ific_eq K S d0_293 (fun c293 => ?_) (fun c293 => ?_)
      rotate_left
      · exact absurd c293 (by decide)
      refine iconst K S (x := (0 : Int32)) rfl d0_300 ?_
      refine iadd K S d0_301 ?_
      show Wp n0 p e _ s below _ T (mkF m 302 #[.val (.int x0), .val (.int x1), .val (.int x2), .val (.int x3), .val (.int x4), .val (.int m1), .val (.int m2), .val (.int r1), .val (.int r2), .val (.int t1), .val (.int t2), .val (.ref o50), .val (.int (1 : Int32)), .val (.int (2 : Int32)), .val (.int m1), .val (.int ((15 : Int32) &&& (m1 ^^^ (-1 : Int32)))), .val (.int (m2 &&& ((15 : Int32) &&& (m1 ^^^ (-1 : Int32))))), .val (.int (m2 &&& m1)), .val (.int (0 : Int32)), .val (.int (1 : Int32)), .val (.int (0 : Int32)), .val (.int (2 : Int32)), .unset, .unset, .unset, .unset, .unset, .unset] [.int (2 : Int32)])
      refine iload K S rfl d0_302 ?_
      refine ific_eq K S d0_304 (fun c304 => ?_) (fun c304 => ?_)
      · exact absurd c304 (by decide)
      refine iconst K S (x := (1 : Int32)) rfl d0_307 ?_
      refine goto K S d0_308 ?_
      refine iadd K S d0_312 ?_
      show Wp n0 p e _ s below _ T (mkF m 313 #[.val (.int x0), .val (.int x1), .val (.int x2), .val (.int x3), .val (.int x4), .val (.int m1), .val (.int m2), .val (.int r1), .val (.int r2), .val (.int t1), .val (.int t2), .val (.ref o50), .val (.int (1 : Int32)), .val (.int (2 : Int32)), .val (.int m1), .val (.int ((15 : Int32) &&& (m1 ^^^ (-1 : Int32)))), .val (.int (m2 &&& ((15 : Int32) &&& (m1 ^^^ (-1 : Int32))))), .val (.int (m2 &&& m1)), .val (.int (0 : Int32)), .val (.int (1 : Int32)), .val (.int (0 : Int32)), .val (.int (2 : Int32)), .unset, .unset, .unset, .unset, .unset, .unset] [.int (3 : Int32)])
      refine istore K S (l' := #[.val (.int x0), .val (.int x1), .val (.int x2), .val (.int x3), .val (.int x4), .val (.int m1), .val (.int m2), .val (.int r1), .val (.int r2), .val (.int t1), .val (.int t2), .val (.ref o50), .val (.int (1 : Int32)), .val (.int (2 : Int32)), .val (.int m1), .val (.int ((15 : Int32) &&& (m1 ^^^ (-1 : Int32)))), .val (.int (m2 &&& ((15 : Int32) &&& (m1 ^^^ (-1 : Int32))))), .val (.int (m2 &&& m1)), .val (.int (0 : Int32)), .val (.int (1 : Int32)), .val (.int (0 : Int32)), .val (.int (2 : Int32)), .val (.int (3 : Int32)), .unset, .unset, .unset, .unset, .unset]) rfl d0_313 ?_
      have eb1 : fb1 m1 = (2 : Int32) := by simp [fb1, c94, c101]
      have ea1 : fa1 m1 = m1 := by simp [fa1, c94, c101]
      have ea0 : fa0 m1 = ((15 : Int32) &&& (m1 ^^^ (-1 : Int32))) := by rw [fa0, ea1]
      have efsp0 : fsp0 m1 m2 = (0 : Int32) := by rw [fsp0, ea0, fsp, if_neg c161, if_pos c168]
      have efsp1 : fsp1 m1 m2 = (1 : Int32) := by rw [fsp1, ea1, fsp, if_neg c180, if_neg c187]
      have ei0 : fid0 m1 m2 r2 t2 = (0 : Int32) := by simp [fid0, efsp0, efsp1, eb1]
      have ei1 : fid1 m1 m2 r2 t2 = (2 : Int32) := by simp [fid1, efsp0, efsp1, eb1]
      have eeb : feb m1 m2 = (3 : Int32) := by rw [feb, efsp0, efsp1, eb1] <;> decide
      have J := J315 T (.val (.int (1 : Int32))) (.val (.int (2 : Int32))) (.val (.int ((15 : Int32) &&& (m1 ^^^ (-1 : Int32))))) (.val (.int (m2 &&& ((15 : Int32) &&& (m1 ^^^ (-1 : Int32)))))) (.val (.int (m2 &&& m1))) (.unset) S One.u
      rw [ea1, efsp0, efsp1, ei0, ei1, eeb] at J
      exact J
    refine iconst K S (x := (1 : Int32)) rfl d0_171 ?_
    refine goto K S d0_172 ?_
    refine istore K S (l' := #[.val (.int x0), .val (.int x1), .val (.int x2), .val (.int x3), .val (.int x4), .val (.int m1), .val (.int m2), .val (.int r1), .val (.int r2), .val (.int t1), .val (.int t2), .val (.ref o50), .val (.int (1 : Int32)), .val (.int (2 : Int32)), .val (.int m1), .val (.int ((15 : Int32) &&& (m1 ^^^ (-1 : Int32)))), .val (.int (m2 &&& ((15 : Int32) &&& (m1 ^^^ (-1 : Int32))))), .val (.int (m2 &&& m1)), .val (.int (1 : Int32)), .unset, .unset, .unset, .unset, .unset, .unset, .unset, .unset, .unset]) rfl d0_176 ?_
    refine iload K S rfl d0_178 ?_
    refine ific_eq K S d0_180 (fun c180 => ?_) (fun c180 => ?_)
    · refine iconst K S (x := (0 : Int32)) rfl d0_194 ?_
      refine istore K S (l' := #[.val (.int x0), .val (.int x1), .val (.int x2), .val (.int x3), .val (.int x4), .val (.int m1), .val (.int m2), .val (.int r1), .val (.int r2), .val (.int t1), .val (.int t2), .val (.ref o50), .val (.int (1 : Int32)), .val (.int (2 : Int32)), .val (.int m1), .val (.int ((15 : Int32) &&& (m1 ^^^ (-1 : Int32)))), .val (.int (m2 &&& ((15 : Int32) &&& (m1 ^^^ (-1 : Int32))))), .val (.int (m2 &&& m1)), .val (.int (1 : Int32)), .val (.int (0 : Int32)), .unset, .unset, .unset, .unset, .unset, .unset, .unset, .unset]) rfl d0_195 ?_
      refine iconst K S (x := (0 : Int32)) rfl d0_197 ?_
      refine istore K S (l' := #[.val (.int x0), .val (.int x1), .val (.int x2), .val (.int x3), .val (.int x4), .val (.int m1), .val (.int m2), .val (.int r1), .val (.int r2), .val (.int t1), .val (.int t2), .val (.ref o50), .val (.int (1 : Int32)), .val (.int (2 : Int32)), .val (.int m1), .val (.int ((15 : Int32) &&& (m1 ^^^ (-1 : Int32)))), .val (.int (m2 &&& ((15 : Int32) &&& (m1 ^^^ (-1 : Int32))))), .val (.int (m2 &&& m1)), .val (.int (1 : Int32)), .val (.int (0 : Int32)), .val (.int (0 : Int32)), .unset, .unset, .unset, .unset, .unset, .unset, .unset]) rfl d0_198 ?_
      refine iconst K S (x := (1 : Int32)) rfl d0_200 ?_
      refine istore K S (l' := #[.val (.int x0), .val (.int x1), .val (.int x2), .val (.int x3), .val (.int x4), .val (.int m1), .val (.int m2), .val (.int r1), .val (.int r2), .val (.int t1), .val (.int t2), .val (.ref o50), .val (.int (1 : Int32)), .val (.int (2 : Int32)), .val (.int m1), .val (.int ((15 : Int32) &&& (m1 ^^^ (-1 : Int32)))), .val (.int (m2 &&& ((15 : Int32) &&& (m1 ^^^ (-1 : Int32))))), .val (.int (m2 &&& m1)), .val (.int (1 : Int32)), .val (.int (0 : Int32)), .val (.int (0 : Int32)), .val (.int (1 : Int32)), .unset, .unset, .unset, .unset, .unset, .unset]) rfl d0_201 ?_
      refine iload K S rfl d0_203 ?_
      refine ific_eq K S d0_205 (fun c205 => ?_) (fun c205 => ?_)
      · exact absurd c205 (by decide)
      refine iload K S rfl d0_208 ?_
      refine ific_eq K S d0_210 (fun c210 => ?_) (fun c210 => ?_)
      rotate_left
      · exact absurd c210 (by decide)
      refine iload K S rfl d0_268 ?_
      refine ific_eq K S d0_270 (fun c270 => ?_) (fun c270 => ?_)
      · exact absurd c270 (by decide)
      refine iload K S rfl d0_273 ?_
      refine istore K S (l' := #[.val (.int x0), .val (.int x1), .val (.int x2), .val (.int x3), .val (.int x4), .val (.int m1), .val (.int m2), .val (.int r1), .val (.int r2), .val (.int t1), .val (.int t2), .val (.ref o50), .val (.int (1 : Int32)), .val (.int (2 : Int32)), .val (.int m1), .val (.int ((15 : Int32) &&& (m1 ^^^ (-1 : Int32)))), .val (.int (m2 &&& ((15 : Int32) &&& (m1 ^^^ (-1 : Int32))))), .val (.int (m2 &&& m1)), .val (.int (1 : Int32)), .val (.int (0 : Int32)), .val (.int (2 : Int32)), .val (.int (1 : Int32)), .unset, .unset, .unset, .unset, .unset, .unset]) rfl d0_275 ?_
      refine goto K S d0_277 ?_
      refine iload K S rfl d0_289 ?_
      refine iload K S rfl d0_291 ?_
      refine ific_eq K S d0_293 (fun c293 => ?_) (fun c293 => ?_)
      · exact absurd c293 (by decide)
      refine iconst K S (x := (1 : Int32)) rfl d0_296 ?_
      refine goto K S d0_297 ?_
      refine iadd K S d0_301 ?_
      show Wp n0 p e _ s below _ T (mkF m 302 #[.val (.int x0), .val (.int x1), .val (.int x2), .val (.int x3), .val (.int x4), .val (.int m1), .val (.int m2), .val (.int r1), .val (.int r2), .val (.int t1), .val (.int t2), .val (.ref o50), .val (.int (1 : Int32)), .val (.int (2 : Int32)), .val (.int m1), .val (.int ((15 : Int32) &&& (m1 ^^^ (-1 : Int32)))), .val (.int (m2 &&& ((15 : Int32) &&& (m1 ^^^ (-1 : Int32))))), .val (.int (m2 &&& m1)), .val (.int (1 : Int32)), .val (.int (0 : Int32)), .val (.int (2 : Int32)), .val (.int (1 : Int32)), .unset, .unset, .unset, .unset, .unset, .unset] [.int (3 : Int32)])
      refine iload K S rfl d0_302 ?_
      refine ific_eq K S d0_304 (fun c304 => ?_) (fun c304 => ?_)
      rotate_left
      · exact absurd c304 (by decide)
      refine iconst K S (x := (0 : Int32)) rfl d0_311 ?_
      refine iadd K S d0_312 ?_
      show Wp n0 p e _ s below _ T (mkF m 313 #[.val (.int x0), .val (.int x1), .val (.int x2), .val (.int x3), .val (.int x4), .val (.int m1), .val (.int m2), .val (.int r1), .val (.int r2), .val (.int t1), .val (.int t2), .val (.ref o50), .val (.int (1 : Int32)), .val (.int (2 : Int32)), .val (.int m1), .val (.int ((15 : Int32) &&& (m1 ^^^ (-1 : Int32)))), .val (.int (m2 &&& ((15 : Int32) &&& (m1 ^^^ (-1 : Int32))))), .val (.int (m2 &&& m1)), .val (.int (1 : Int32)), .val (.int (0 : Int32)), .val (.int (2 : Int32)), .val (.int (1 : Int32)), .unset, .unset, .unset, .unset, .unset, .unset] [.int (3 : Int32)])
      refine istore K S (l' := #[.val (.int x0), .val (.int x1), .val (.int x2), .val (.int x3), .val (.int x4), .val (.int m1), .val (.int m2), .val (.int r1), .val (.int r2), .val (.int t1), .val (.int t2), .val (.ref o50), .val (.int (1 : Int32)), .val (.int (2 : Int32)), .val (.int m1), .val (.int ((15 : Int32) &&& (m1 ^^^ (-1 : Int32)))), .val (.int (m2 &&& ((15 : Int32) &&& (m1 ^^^ (-1 : Int32))))), .val (.int (m2 &&& m1)), .val (.int (1 : Int32)), .val (.int (0 : Int32)), .val (.int (2 : Int32)), .val (.int (1 : Int32)), .val (.int (3 : Int32)), .unset, .unset, .unset, .unset, .unset]) rfl d0_313 ?_
      have eb1 : fb1 m1 = (2 : Int32) := by simp [fb1, c94, c101]
      have ea1 : fa1 m1 = m1 := by simp [fa1, c94, c101]
      have ea0 : fa0 m1 = ((15 : Int32) &&& (m1 ^^^ (-1 : Int32))) := by rw [fa0, ea1]
      have efsp0 : fsp0 m1 m2 = (1 : Int32) := by rw [fsp0, ea0, fsp, if_neg c161, if_neg c168]
      have efsp1 : fsp1 m1 m2 = (0 : Int32) := by rw [fsp1, ea1, fsp, if_pos c180]
      have ei0 : fid0 m1 m2 r2 t2 = (2 : Int32) := by simp [fid0, efsp0, efsp1, eb1]
      have ei1 : fid1 m1 m2 r2 t2 = (1 : Int32) := by simp [fid1, efsp0, efsp1, eb1]
      have eeb : feb m1 m2 = (3 : Int32) := by rw [feb, efsp0, efsp1, eb1] <;> decide
      have J := J315 T (.val (.int (1 : Int32))) (.val (.int (2 : Int32))) (.val (.int ((15 : Int32) &&& (m1 ^^^ (-1 : Int32))))) (.val (.int (m2 &&& ((15 : Int32) &&& (m1 ^^^ (-1 : Int32)))))) (.val (.int (m2 &&& m1))) (.unset) S One.u
      rw [ea1, efsp0, efsp1, ei0, ei1, eeb] at J
      exact J
    refine iload K S rfl d0_183 ?_
    refine iload K S rfl d0_185 ?_
    refine icmp_eq K S d0_187 (fun c187 => ?_) (fun c187 => ?_)
    · refine iconst K S (x := (0 : Int32)) rfl d0_194 ?_
      refine istore K S (l' := #[.val (.int x0), .val (.int x1), .val (.int x2), .val (.int x3), .val (.int x4), .val (.int m1), .val (.int m2), .val (.int r1), .val (.int r2), .val (.int t1), .val (.int t2), .val (.ref o50), .val (.int (1 : Int32)), .val (.int (2 : Int32)), .val (.int m1), .val (.int ((15 : Int32) &&& (m1 ^^^ (-1 : Int32)))), .val (.int (m2 &&& ((15 : Int32) &&& (m1 ^^^ (-1 : Int32))))), .val (.int (m2 &&& m1)), .val (.int (1 : Int32)), .val (.int (0 : Int32)), .unset, .unset, .unset, .unset, .unset, .unset, .unset, .unset]) rfl d0_195 ?_
      refine iconst K S (x := (0 : Int32)) rfl d0_197 ?_
      refine istore K S (l' := #[.val (.int x0), .val (.int x1), .val (.int x2), .val (.int x3), .val (.int x4), .val (.int m1), .val (.int m2), .val (.int r1), .val (.int r2), .val (.int t1), .val (.int t2), .val (.ref o50), .val (.int (1 : Int32)), .val (.int (2 : Int32)), .val (.int m1), .val (.int ((15 : Int32) &&& (m1 ^^^ (-1 : Int32)))), .val (.int (m2 &&& ((15 : Int32) &&& (m1 ^^^ (-1 : Int32))))), .val (.int (m2 &&& m1)), .val (.int (1 : Int32)), .val (.int (0 : Int32)), .val (.int (0 : Int32)), .unset, .unset, .unset, .unset, .unset, .unset, .unset]) rfl d0_198 ?_
      refine iconst K S (x := (1 : Int32)) rfl d0_200 ?_
      refine istore K S (l' := #[.val (.int x0), .val (.int x1), .val (.int x2), .val (.int x3), .val (.int x4), .val (.int m1), .val (.int m2), .val (.int r1), .val (.int r2), .val (.int t1), .val (.int t2), .val (.ref o50), .val (.int (1 : Int32)), .val (.int (2 : Int32)), .val (.int m1), .val (.int ((15 : Int32) &&& (m1 ^^^ (-1 : Int32)))), .val (.int (m2 &&& ((15 : Int32) &&& (m1 ^^^ (-1 : Int32))))), .val (.int (m2 &&& m1)), .val (.int (1 : Int32)), .val (.int (0 : Int32)), .val (.int (0 : Int32)), .val (.int (1 : Int32)), .unset, .unset, .unset, .unset, .unset, .unset]) rfl d0_201 ?_
      refine iload K S rfl d0_203 ?_
      refine ific_eq K S d0_205 (fun c205 => ?_) (fun c205 => ?_)
      · exact absurd c205 (by decide)
      refine iload K S rfl d0_208 ?_
      refine ific_eq K S d0_210 (fun c210 => ?_) (fun c210 => ?_)
      rotate_left
      · exact absurd c210 (by decide)
      refine iload K S rfl d0_268 ?_
      refine ific_eq K S d0_270 (fun c270 => ?_) (fun c270 => ?_)
      · exact absurd c270 (by decide)
      refine iload K S rfl d0_273 ?_
      refine istore K S (l' := #[.val (.int x0), .val (.int x1), .val (.int x2), .val (.int x3), .val (.int x4), .val (.int m1), .val (.int m2), .val (.int r1), .val (.int r2), .val (.int t1), .val (.int t2), .val (.ref o50), .val (.int (1 : Int32)), .val (.int (2 : Int32)), .val (.int m1), .val (.int ((15 : Int32) &&& (m1 ^^^ (-1 : Int32)))), .val (.int (m2 &&& ((15 : Int32) &&& (m1 ^^^ (-1 : Int32))))), .val (.int (m2 &&& m1)), .val (.int (1 : Int32)), .val (.int (0 : Int32)), .val (.int (2 : Int32)), .val (.int (1 : Int32)), .unset, .unset, .unset, .unset, .unset, .unset]) rfl d0_275 ?_
      refine goto K S d0_277 ?_
      refine iload K S rfl d0_289 ?_
      refine iload K S rfl d0_291 ?_
      refine ific_eq K S d0_293 (fun c293 => ?_) (fun c293 => ?_)
      · exact absurd c293 (by decide)
      refine iconst K S (x := (1 : Int32)) rfl d0_296 ?_
      refine goto K S d0_297 ?_
      refine iadd K S d0_301 ?_
      show Wp n0 p e _ s below _ T (mkF m 302 #[.val (.int x0), .val (.int x1), .val (.int x2), .val (.int x3), .val (.int x4), .val (.int m1), .val (.int m2), .val (.int r1), .val (.int r2), .val (.int t1), .val (.int t2), .val (.ref o50), .val (.int (1 : Int32)), .val (.int (2 : Int32)), .val (.int m1), .val (.int ((15 : Int32) &&& (m1 ^^^ (-1 : Int32)))), .val (.int (m2 &&& ((15 : Int32) &&& (m1 ^^^ (-1 : Int32))))), .val (.int (m2 &&& m1)), .val (.int (1 : Int32)), .val (.int (0 : Int32)), .val (.int (2 : Int32)), .val (.int (1 : Int32)), .unset, .unset, .unset, .unset, .unset, .unset] [.int (3 : Int32)])
      refine iload K S rfl d0_302 ?_
      refine ific_eq K S d0_304 (fun c304 => ?_) (fun c304 => ?_)
      rotate_left
      · exact absurd c304 (by decide)
      refine iconst K S (x := (0 : Int32)) rfl d0_311 ?_
      refine iadd K S d0_312 ?_
      show Wp n0 p e _ s below _ T (mkF m 313 #[.val (.int x0), .val (.int x1), .val (.int x2), .val (.int x3), .val (.int x4), .val (.int m1), .val (.int m2), .val (.int r1), .val (.int r2), .val (.int t1), .val (.int t2), .val (.ref o50), .val (.int (1 : Int32)), .val (.int (2 : Int32)), .val (.int m1), .val (.int ((15 : Int32) &&& (m1 ^^^ (-1 : Int32)))), .val (.int (m2 &&& ((15 : Int32) &&& (m1 ^^^ (-1 : Int32))))), .val (.int (m2 &&& m1)), .val (.int (1 : Int32)), .val (.int (0 : Int32)), .val (.int (2 : Int32)), .val (.int (1 : Int32)), .unset, .unset, .unset, .unset, .unset, .unset] [.int (3 : Int32)])
      refine istore K S (l' := #[.val (.int x0), .val (.int x1), .val (.int x2), .val (.int x3), .val (.int x4), .val (.int m1), .val (.int m2), .val (.int r1), .val (.int r2), .val (.int t1), .val (.int t2), .val (.ref o50), .val (.int (1 : Int32)), .val (.int (2 : Int32)), .val (.int m1), .val (.int ((15 : Int32) &&& (m1 ^^^ (-1 : Int32)))), .val (.int (m2 &&& ((15 : Int32) &&& (m1 ^^^ (-1 : Int32))))), .val (.int (m2 &&& m1)), .val (.int (1 : Int32)), .val (.int (0 : Int32)), .val (.int (2 : Int32)), .val (.int (1 : Int32)), .val (.int (3 : Int32)), .unset, .unset, .unset, .unset, .unset]) rfl d0_313 ?_
      have eb1 : fb1 m1 = (2 : Int32) := by simp [fb1, c94, c101]
      have ea1 : fa1 m1 = m1 := by simp [fa1, c94, c101]
      have ea0 : fa0 m1 = ((15 : Int32) &&& (m1 ^^^ (-1 : Int32))) := by rw [fa0, ea1]
      have efsp0 : fsp0 m1 m2 = (1 : Int32) := by rw [fsp0, ea0, fsp, if_neg c161, if_neg c168]
      have efsp1 : fsp1 m1 m2 = (0 : Int32) := by rw [fsp1, ea1, fsp, if_neg c180, if_pos c187]
      have ei0 : fid0 m1 m2 r2 t2 = (2 : Int32) := by simp [fid0, efsp0, efsp1, eb1]
      have ei1 : fid1 m1 m2 r2 t2 = (1 : Int32) := by simp [fid1, efsp0, efsp1, eb1]
      have eeb : feb m1 m2 = (3 : Int32) := by rw [feb, efsp0, efsp1, eb1] <;> decide
      have J := J315 T (.val (.int (1 : Int32))) (.val (.int (2 : Int32))) (.val (.int ((15 : Int32) &&& (m1 ^^^ (-1 : Int32))))) (.val (.int (m2 &&& ((15 : Int32) &&& (m1 ^^^ (-1 : Int32)))))) (.val (.int (m2 &&& m1))) (.unset) S One.u
      rw [ea1, efsp0, efsp1, ei0, ei1, eeb] at J
      exact J
    refine iconst K S (x := (1 : Int32)) rfl d0_190 ?_
    refine goto K S d0_191 ?_
    refine istore K S (l' := #[.val (.int x0), .val (.int x1), .val (.int x2), .val (.int x3), .val (.int x4), .val (.int m1), .val (.int m2), .val (.int r1), .val (.int r2), .val (.int t1), .val (.int t2), .val (.ref o50), .val (.int (1 : Int32)), .val (.int (2 : Int32)), .val (.int m1), .val (.int ((15 : Int32) &&& (m1 ^^^ (-1 : Int32)))), .val (.int (m2 &&& ((15 : Int32) &&& (m1 ^^^ (-1 : Int32))))), .val (.int (m2 &&& m1)), .val (.int (1 : Int32)), .val (.int (1 : Int32)), .unset, .unset, .unset, .unset, .unset, .unset, .unset, .unset]) rfl d0_195 ?_
    refine iconst K S (x := (0 : Int32)) rfl d0_197 ?_
    refine istore K S (l' := #[.val (.int x0), .val (.int x1), .val (.int x2), .val (.int x3), .val (.int x4), .val (.int m1), .val (.int m2), .val (.int r1), .val (.int r2), .val (.int t1), .val (.int t2), .val (.ref o50), .val (.int (1 : Int32)), .val (.int (2 : Int32)), .val (.int m1), .val (.int ((15 : Int32) &&& (m1 ^^^ (-1 : Int32)))), .val (.int (m2 &&& ((15 : Int32) &&& (m1 ^^^ (-1 : Int32))))), .val (.int (m2 &&& m1)), .val (.int (1 : Int32)), .val (.int (1 : Int32)), .val (.int (0 : Int32)), .unset, .unset, .unset, .unset, .unset, .unset, .unset]) rfl d0_198 ?_
    refine iconst K S (x := (1 : Int32)) rfl d0_200 ?_
    refine istore K S (l' := #[.val (.int x0), .val (.int x1), .val (.int x2), .val (.int x3), .val (.int x4), .val (.int m1), .val (.int m2), .val (.int r1), .val (.int r2), .val (.int t1), .val (.int t2), .val (.ref o50), .val (.int (1 : Int32)), .val (.int (2 : Int32)), .val (.int m1), .val (.int ((15 : Int32) &&& (m1 ^^^ (-1 : Int32)))), .val (.int (m2 &&& ((15 : Int32) &&& (m1 ^^^ (-1 : Int32))))), .val (.int (m2 &&& m1)), .val (.int (1 : Int32)), .val (.int (1 : Int32)), .val (.int (0 : Int32)), .val (.int (1 : Int32)), .unset, .unset, .unset, .unset, .unset, .unset]) rfl d0_201 ?_
    refine iload K S rfl d0_203 ?_
    refine ific_eq K S d0_205 (fun c205 => ?_) (fun c205 => ?_)
    · exact absurd c205 (by decide)
    refine iload K S rfl d0_208 ?_
    refine ific_eq K S d0_210 (fun c210 => ?_) (fun c210 => ?_)
    · exact absurd c210 (by decide)
    refine iload K S rfl d0_213 ?_
    refine iload K S rfl d0_215 ?_
    refine iload K S rfl d0_217 ?_
    refine callS K S (W := 0) (m_fp l Z a0 hw n0 (m2 &&& ((15 : Int32) &&& (m1 ^^^ (-1 : Int32)))) r2 t2 h89_6 (Sle S) ) (hwi hw 97 rfl) (hwi hw 98 rfl) (hwi hw 99 rfl) (hwi hw 30 rfl) (by decide) (by decide) (by decide) (by decide) (by decide) rfl (argsL := [.int (m2 &&& ((15 : Int32) &&& (m1 ^^^ (-1 : Int32)))), .int r2, .int t2]) rfl (lenOf pd_19 rfl) (rest := []) rfl (Nat.le_of_eq rfl) d0_219 (pu fun T S => ?_)
    show Wp n0 p e _ s below _ T (mkF m 222 #[.val (.int x0), .val (.int x1), .val (.int x2), .val (.int x3), .val (.int x4), .val (.int m1), .val (.int m2), .val (.int r1), .val (.int r2), .val (.int t1), .val (.int t2), .val (.ref o50), .val (.int (1 : Int32)), .val (.int (2 : Int32)), .val (.int m1), .val (.int ((15 : Int32) &&& (m1 ^^^ (-1 : Int32)))), .val (.int (m2 &&& ((15 : Int32) &&& (m1 ^^^ (-1 : Int32))))), .val (.int (m2 &&& m1)), .val (.int (1 : Int32)), .val (.int (1 : Int32)), .val (.int (0 : Int32)), .val (.int (1 : Int32)), .unset, .unset, .unset, .unset, .unset, .unset] [.int (ffp (m2 &&& ((15 : Int32) &&& (m1 ^^^ (-1 : Int32)))) r2 t2)])
    refine istore K S (l' := #[.val (.int x0), .val (.int x1), .val (.int x2), .val (.int x3), .val (.int x4), .val (.int m1), .val (.int m2), .val (.int r1), .val (.int r2), .val (.int t1), .val (.int t2), .val (.ref o50), .val (.int (1 : Int32)), .val (.int (2 : Int32)), .val (.int m1), .val (.int ((15 : Int32) &&& (m1 ^^^ (-1 : Int32)))), .val (.int (m2 &&& ((15 : Int32) &&& (m1 ^^^ (-1 : Int32))))), .val (.int (m2 &&& m1)), .val (.int (1 : Int32)), .val (.int (1 : Int32)), .val (.int (0 : Int32)), .val (.int (1 : Int32)), .val (.int (ffp (m2 &&& ((15 : Int32) &&& (m1 ^^^ (-1 : Int32)))) r2 t2)), .unset, .unset, .unset, .unset, .unset]) rfl d0_222 ?_
    refine iload K S rfl d0_224 ?_
    refine iload K S rfl d0_226 ?_
    refine iload K S rfl d0_228 ?_
    refine callS K S (W := 0) (m_fp l Z a0 hw n0 (m2 &&& m1) r2 t2 h89_6 (Sle S) ) (hwi hw 97 rfl) (hwi hw 98 rfl) (hwi hw 99 rfl) (hwi hw 30 rfl) (by decide) (by decide) (by decide) (by decide) (by decide) rfl (argsL := [.int (m2 &&& m1), .int r2, .int t2]) rfl (lenOf pd_19 rfl) (rest := []) rfl (Nat.le_of_eq rfl) d0_230 (pu fun T S => ?_)
    show Wp n0 p e _ s below _ T (mkF m 233 #[.val (.int x0), .val (.int x1), .val (.int x2), .val (.int x3), .val (.int x4), .val (.int m1), .val (.int m2), .val (.int r1), .val (.int r2), .val (.int t1), .val (.int t2), .val (.ref o50), .val (.int (1 : Int32)), .val (.int (2 : Int32)), .val (.int m1), .val (.int ((15 : Int32) &&& (m1 ^^^ (-1 : Int32)))), .val (.int (m2 &&& ((15 : Int32) &&& (m1 ^^^ (-1 : Int32))))), .val (.int (m2 &&& m1)), .val (.int (1 : Int32)), .val (.int (1 : Int32)), .val (.int (0 : Int32)), .val (.int (1 : Int32)), .val (.int (ffp (m2 &&& ((15 : Int32) &&& (m1 ^^^ (-1 : Int32)))) r2 t2)), .unset, .unset, .unset, .unset, .unset] [.int (ffp (m2 &&& m1) r2 t2)])
    refine istore K S (l' := #[.val (.int x0), .val (.int x1), .val (.int x2), .val (.int x3), .val (.int x4), .val (.int m1), .val (.int m2), .val (.int r1), .val (.int r2), .val (.int t1), .val (.int t2), .val (.ref o50), .val (.int (1 : Int32)), .val (.int (2 : Int32)), .val (.int m1), .val (.int ((15 : Int32) &&& (m1 ^^^ (-1 : Int32)))), .val (.int (m2 &&& ((15 : Int32) &&& (m1 ^^^ (-1 : Int32))))), .val (.int (m2 &&& m1)), .val (.int (1 : Int32)), .val (.int (1 : Int32)), .val (.int (0 : Int32)), .val (.int (1 : Int32)), .val (.int (ffp (m2 &&& ((15 : Int32) &&& (m1 ^^^ (-1 : Int32)))) r2 t2)), .val (.int (ffp (m2 &&& m1) r2 t2)), .unset, .unset, .unset, .unset]) rfl d0_233 ?_
    refine iload K S rfl d0_235 ?_
    refine iload K S rfl d0_237 ?_
    refine icmp_ge K S d0_239 (fun c239 => ?_) (fun c239 => ?_)
    · refine iload K S rfl d0_255 ?_
      refine istore K S (l' := #[.val (.int x0), .val (.int x1), .val (.int x2), .val (.int x3), .val (.int x4), .val (.int m1), .val (.int m2), .val (.int r1), .val (.int r2), .val (.int t1), .val (.int t2), .val (.ref o50), .val (.int (1 : Int32)), .val (.int (2 : Int32)), .val (.int m1), .val (.int ((15 : Int32) &&& (m1 ^^^ (-1 : Int32)))), .val (.int (m2 &&& ((15 : Int32) &&& (m1 ^^^ (-1 : Int32))))), .val (.int (m2 &&& m1)), .val (.int (1 : Int32)), .val (.int (1 : Int32)), .val (.int (0 : Int32)), .val (.int (2 : Int32)), .val (.int (ffp (m2 &&& ((15 : Int32) &&& (m1 ^^^ (-1 : Int32)))) r2 t2)), .val (.int (ffp (m2 &&& m1) r2 t2)), .unset, .unset, .unset, .unset]) rfl d0_257 ?_
      refine iload K S rfl d0_259 ?_
      refine iconst K S (x := (1 : Int32)) rfl d0_261 ?_
      refine iadd K S d0_262 ?_
      show Wp n0 p e _ s below _ T (mkF m 263 #[.val (.int x0), .val (.int x1), .val (.int x2), .val (.int x3), .val (.int x4), .val (.int m1), .val (.int m2), .val (.int r1), .val (.int r2), .val (.int t1), .val (.int t2), .val (.ref o50), .val (.int (1 : Int32)), .val (.int (2 : Int32)), .val (.int m1), .val (.int ((15 : Int32) &&& (m1 ^^^ (-1 : Int32)))), .val (.int (m2 &&& ((15 : Int32) &&& (m1 ^^^ (-1 : Int32))))), .val (.int (m2 &&& m1)), .val (.int (1 : Int32)), .val (.int (1 : Int32)), .val (.int (0 : Int32)), .val (.int (2 : Int32)), .val (.int (ffp (m2 &&& ((15 : Int32) &&& (m1 ^^^ (-1 : Int32)))) r2 t2)), .val (.int (ffp (m2 &&& m1) r2 t2)), .unset, .unset, .unset, .unset] [.int (3 : Int32)])
      refine istore K S (l' := #[.val (.int x0), .val (.int x1), .val (.int x2), .val (.int x3), .val (.int x4), .val (.int m1), .val (.int m2), .val (.int r1), .val (.int r2), .val (.int t1), .val (.int t2), .val (.ref o50), .val (.int (1 : Int32)), .val (.int (2 : Int32)), .val (.int m1), .val (.int ((15 : Int32) &&& (m1 ^^^ (-1 : Int32)))), .val (.int (m2 &&& ((15 : Int32) &&& (m1 ^^^ (-1 : Int32))))), .val (.int (m2 &&& m1)), .val (.int (1 : Int32)), .val (.int (1 : Int32)), .val (.int (3 : Int32)), .val (.int (2 : Int32)), .val (.int (ffp (m2 &&& ((15 : Int32) &&& (m1 ^^^ (-1 : Int32)))) r2 t2)), .val (.int (ffp (m2 &&& m1) r2 t2)), .unset, .unset, .unset, .unset]) rfl d0_263 ?_
      refine goto K S d0_265 ?_
      refine iload K S rfl d0_289 ?_
      refine iload K S rfl d0_291 ?_
      refine ific_eq K S d0_293 (fun c293 => ?_) (fun c293 => ?_)
      · exact absurd c293 (by decide)
      refine iconst K S (x := (1 : Int32)) rfl d0_296 ?_
      refine goto K S d0_297 ?_
      refine iadd K S d0_301 ?_
      show Wp n0 p e _ s below _ T (mkF m 302 #[.val (.int x0), .val (.int x1), .val (.int x2), .val (.int x3), .val (.int x4), .val (.int m1), .val (.int m2), .val (.int r1), .val (.int r2), .val (.int t1), .val (.int t2), .val (.ref o50), .val (.int (1 : Int32)), .val (.int (2 : Int32)), .val (.int m1), .val (.int ((15 : Int32) &&& (m1 ^^^ (-1 : Int32)))), .val (.int (m2 &&& ((15 : Int32) &&& (m1 ^^^ (-1 : Int32))))), .val (.int (m2 &&& m1)), .val (.int (1 : Int32)), .val (.int (1 : Int32)), .val (.int (3 : Int32)), .val (.int (2 : Int32)), .val (.int (ffp (m2 &&& ((15 : Int32) &&& (m1 ^^^ (-1 : Int32)))) r2 t2)), .val (.int (ffp (m2 &&& m1) r2 t2)), .unset, .unset, .unset, .unset] [.int (3 : Int32)])
      refine iload K S rfl d0_302 ?_
      refine ific_eq K S d0_304 (fun c304 => ?_) (fun c304 => ?_)
      · exact absurd c304 (by decide)
      refine iconst K S (x := (1 : Int32)) rfl d0_307 ?_
      refine goto K S d0_308 ?_
      refine iadd K S d0_312 ?_
      show Wp n0 p e _ s below _ T (mkF m 313 #[.val (.int x0), .val (.int x1), .val (.int x2), .val (.int x3), .val (.int x4), .val (.int m1), .val (.int m2), .val (.int r1), .val (.int r2), .val (.int t1), .val (.int t2), .val (.ref o50), .val (.int (1 : Int32)), .val (.int (2 : Int32)), .val (.int m1), .val (.int ((15 : Int32) &&& (m1 ^^^ (-1 : Int32)))), .val (.int (m2 &&& ((15 : Int32) &&& (m1 ^^^ (-1 : Int32))))), .val (.int (m2 &&& m1)), .val (.int (1 : Int32)), .val (.int (1 : Int32)), .val (.int (3 : Int32)), .val (.int (2 : Int32)), .val (.int (ffp (m2 &&& ((15 : Int32) &&& (m1 ^^^ (-1 : Int32)))) r2 t2)), .val (.int (ffp (m2 &&& m1) r2 t2)), .unset, .unset, .unset, .unset] [.int (4 : Int32)])
      refine istore K S (l' := #[.val (.int x0), .val (.int x1), .val (.int x2), .val (.int x3), .val (.int x4), .val (.int m1), .val (.int m2), .val (.int r1), .val (.int r2), .val (.int t1), .val (.int t2), .val (.ref o50), .val (.int (1 : Int32)), .val (.int (2 : Int32)), .val (.int m1), .val (.int ((15 : Int32) &&& (m1 ^^^ (-1 : Int32)))), .val (.int (m2 &&& ((15 : Int32) &&& (m1 ^^^ (-1 : Int32))))), .val (.int (m2 &&& m1)), .val (.int (1 : Int32)), .val (.int (1 : Int32)), .val (.int (3 : Int32)), .val (.int (2 : Int32)), .val (.int (4 : Int32)), .val (.int (ffp (m2 &&& m1) r2 t2)), .unset, .unset, .unset, .unset]) rfl d0_313 ?_
      have eb1 : fb1 m1 = (2 : Int32) := by simp [fb1, c94, c101]
      have ea1 : fa1 m1 = m1 := by simp [fa1, c94, c101]
      have ea0 : fa0 m1 = ((15 : Int32) &&& (m1 ^^^ (-1 : Int32))) := by rw [fa0, ea1]
      have efsp0 : fsp0 m1 m2 = (1 : Int32) := by rw [fsp0, ea0, fsp, if_neg c161, if_neg c168]
      have efsp1 : fsp1 m1 m2 = (1 : Int32) := by rw [fsp1, ea1, fsp, if_neg c180, if_neg c187]
      have el : flt m1 m2 r2 t2 = false := by rw [flt, ea0, ea1]; exact decide_eq_false c239
      have ei0 : fid0 m1 m2 r2 t2 = (3 : Int32) := by simp [fid0, efsp0, efsp1, eb1, el]
      have ei1 : fid1 m1 m2 r2 t2 = (2 : Int32) := by simp [fid1, efsp0, efsp1, eb1, el]
      have eeb : feb m1 m2 = (4 : Int32) := by rw [feb, efsp0, efsp1, eb1] <;> decide
      have J := J315 T (.val (.int (1 : Int32))) (.val (.int (2 : Int32))) (.val (.int ((15 : Int32) &&& (m1 ^^^ (-1 : Int32))))) (.val (.int (m2 &&& ((15 : Int32) &&& (m1 ^^^ (-1 : Int32)))))) (.val (.int (m2 &&& m1))) (.val (.int (ffp (m2 &&& m1) r2 t2))) S (One.val rfl)
      rw [ea1, efsp0, efsp1, ei0, ei1, eeb] at J
      exact J
    refine iload K S rfl d0_242 ?_
    refine istore K S (l' := #[.val (.int x0), .val (.int x1), .val (.int x2), .val (.int x3), .val (.int x4), .val (.int m1), .val (.int m2), .val (.int r1), .val (.int r2), .val (.int t1), .val (.int t2), .val (.ref o50), .val (.int (1 : Int32)), .val (.int (2 : Int32)), .val (.int m1), .val (.int ((15 : Int32) &&& (m1 ^^^ (-1 : Int32)))), .val (.int (m2 &&& ((15 : Int32) &&& (m1 ^^^ (-1 : Int32))))), .val (.int (m2 &&& m1)), .val (.int (1 : Int32)), .val (.int (1 : Int32)), .val (.int (2 : Int32)), .val (.int (1 : Int32)), .val (.int (ffp (m2 &&& ((15 : Int32) &&& (m1 ^^^ (-1 : Int32)))) r2 t2)), .val (.int (ffp (m2 &&& m1) r2 t2)), .unset, .unset, .unset, .unset]) rfl d0_244 ?_
    refine iload K S rfl d0_246 ?_
    refine iconst K S (x := (1 : Int32)) rfl d0_248 ?_
    refine iadd K S d0_249 ?_
    show Wp n0 p e _ s below _ T (mkF m 250 #[.val (.int x0), .val (.int x1), .val (.int x2), .val (.int x3), .val (.int x4), .val (.int m1), .val (.int m2), .val (.int r1), .val (.int r2), .val (.int t1), .val (.int t2), .val (.ref o50), .val (.int (1 : Int32)), .val (.int (2 : Int32)), .val (.int m1), .val (.int ((15 : Int32) &&& (m1 ^^^ (-1 : Int32)))), .val (.int (m2 &&& ((15 : Int32) &&& (m1 ^^^ (-1 : Int32))))), .val (.int (m2 &&& m1)), .val (.int (1 : Int32)), .val (.int (1 : Int32)), .val (.int (2 : Int32)), .val (.int (1 : Int32)), .val (.int (ffp (m2 &&& ((15 : Int32) &&& (m1 ^^^ (-1 : Int32)))) r2 t2)), .val (.int (ffp (m2 &&& m1) r2 t2)), .unset, .unset, .unset, .unset] [.int (3 : Int32)])
    refine istore K S (l' := #[.val (.int x0), .val (.int x1), .val (.int x2), .val (.int x3), .val (.int x4), .val (.int m1), .val (.int m2), .val (.int r1), .val (.int r2), .val (.int t1), .val (.int t2), .val (.ref o50), .val (.int (1 : Int32)), .val (.int (2 : Int32)), .val (.int m1), .val (.int ((15 : Int32) &&& (m1 ^^^ (-1 : Int32)))), .val (.int (m2 &&& ((15 : Int32) &&& (m1 ^^^ (-1 : Int32))))), .val (.int (m2 &&& m1)), .val (.int (1 : Int32)), .val (.int (1 : Int32)), .val (.int (2 : Int32)), .val (.int (3 : Int32)), .val (.int (ffp (m2 &&& ((15 : Int32) &&& (m1 ^^^ (-1 : Int32)))) r2 t2)), .val (.int (ffp (m2 &&& m1) r2 t2)), .unset, .unset, .unset, .unset]) rfl d0_250 ?_
    refine goto K S d0_252 ?_
    refine goto K S d0_265 ?_
    refine iload K S rfl d0_289 ?_
    refine iload K S rfl d0_291 ?_
    refine ific_eq K S d0_293 (fun c293 => ?_) (fun c293 => ?_)
    · exact absurd c293 (by decide)
    refine iconst K S (x := (1 : Int32)) rfl d0_296 ?_
    refine goto K S d0_297 ?_
    refine iadd K S d0_301 ?_
    show Wp n0 p e _ s below _ T (mkF m 302 #[.val (.int x0), .val (.int x1), .val (.int x2), .val (.int x3), .val (.int x4), .val (.int m1), .val (.int m2), .val (.int r1), .val (.int r2), .val (.int t1), .val (.int t2), .val (.ref o50), .val (.int (1 : Int32)), .val (.int (2 : Int32)), .val (.int m1), .val (.int ((15 : Int32) &&& (m1 ^^^ (-1 : Int32)))), .val (.int (m2 &&& ((15 : Int32) &&& (m1 ^^^ (-1 : Int32))))), .val (.int (m2 &&& m1)), .val (.int (1 : Int32)), .val (.int (1 : Int32)), .val (.int (2 : Int32)), .val (.int (3 : Int32)), .val (.int (ffp (m2 &&& ((15 : Int32) &&& (m1 ^^^ (-1 : Int32)))) r2 t2)), .val (.int (ffp (m2 &&& m1) r2 t2)), .unset, .unset, .unset, .unset] [.int (3 : Int32)])
    refine iload K S rfl d0_302 ?_
    refine ific_eq K S d0_304 (fun c304 => ?_) (fun c304 => ?_)
    · exact absurd c304 (by decide)
    refine iconst K S (x := (1 : Int32)) rfl d0_307 ?_
    refine goto K S d0_308 ?_
    refine iadd K S d0_312 ?_
    show Wp n0 p e _ s below _ T (mkF m 313 #[.val (.int x0), .val (.int x1), .val (.int x2), .val (.int x3), .val (.int x4), .val (.int m1), .val (.int m2), .val (.int r1), .val (.int r2), .val (.int t1), .val (.int t2), .val (.ref o50), .val (.int (1 : Int32)), .val (.int (2 : Int32)), .val (.int m1), .val (.int ((15 : Int32) &&& (m1 ^^^ (-1 : Int32)))), .val (.int (m2 &&& ((15 : Int32) &&& (m1 ^^^ (-1 : Int32))))), .val (.int (m2 &&& m1)), .val (.int (1 : Int32)), .val (.int (1 : Int32)), .val (.int (2 : Int32)), .val (.int (3 : Int32)), .val (.int (ffp (m2 &&& ((15 : Int32) &&& (m1 ^^^ (-1 : Int32)))) r2 t2)), .val (.int (ffp (m2 &&& m1) r2 t2)), .unset, .unset, .unset, .unset] [.int (4 : Int32)])
    refine istore K S (l' := #[.val (.int x0), .val (.int x1), .val (.int x2), .val (.int x3), .val (.int x4), .val (.int m1), .val (.int m2), .val (.int r1), .val (.int r2), .val (.int t1), .val (.int t2), .val (.ref o50), .val (.int (1 : Int32)), .val (.int (2 : Int32)), .val (.int m1), .val (.int ((15 : Int32) &&& (m1 ^^^ (-1 : Int32)))), .val (.int (m2 &&& ((15 : Int32) &&& (m1 ^^^ (-1 : Int32))))), .val (.int (m2 &&& m1)), .val (.int (1 : Int32)), .val (.int (1 : Int32)), .val (.int (2 : Int32)), .val (.int (3 : Int32)), .val (.int (4 : Int32)), .val (.int (ffp (m2 &&& m1) r2 t2)), .unset, .unset, .unset, .unset]) rfl d0_313 ?_
    have eb1 : fb1 m1 = (2 : Int32) := by simp [fb1, c94, c101]
    have ea1 : fa1 m1 = m1 := by simp [fa1, c94, c101]
    have ea0 : fa0 m1 = ((15 : Int32) &&& (m1 ^^^ (-1 : Int32))) := by rw [fa0, ea1]
    have efsp0 : fsp0 m1 m2 = (1 : Int32) := by rw [fsp0, ea0, fsp, if_neg c161, if_neg c168]
    have efsp1 : fsp1 m1 m2 = (1 : Int32) := by rw [fsp1, ea1, fsp, if_neg c180, if_neg c187]
    have el : flt m1 m2 r2 t2 = true := by rw [flt, ea0, ea1]; exact decide_eq_true c239
    have ei0 : fid0 m1 m2 r2 t2 = (2 : Int32) := by simp [fid0, efsp0, efsp1, eb1, el]
    have ei1 : fid1 m1 m2 r2 t2 = (3 : Int32) := by simp [fid1, efsp0, efsp1, eb1, el]
    have eeb : feb m1 m2 = (4 : Int32) := by rw [feb, efsp0, efsp1, eb1] <;> decide
    have J := J315 T (.val (.int (1 : Int32))) (.val (.int (2 : Int32))) (.val (.int ((15 : Int32) &&& (m1 ^^^ (-1 : Int32))))) (.val (.int (m2 &&& ((15 : Int32) &&& (m1 ^^^ (-1 : Int32)))))) (.val (.int (m2 &&& m1))) (.val (.int (ffp (m2 &&& m1) r2 t2))) S (One.val rfl)
    rw [ea1, efsp0, efsp1, ei0, ei1, eeb] at J
    exact J
  refine iload K S rfl d0_22 ?_
  refine iconst K S (x := (1 : Int32)) rfl d0_24 ?_
  refine iand K S d0_25 ?_
  refine ific_eq K S d0_26 (fun c26 => ?_) (fun c26 => ?_)
  · refine iconst K S (x := (1 : Int32)) rfl d0_33 ?_
    refine istore K S (l' := #[.val (.int x0), .val (.int x1), .val (.int x2), .val (.int x3), .val (.int x4), .val (.int m1), .val (.int m2), .val (.int r1), .val (.int r2), .val (.int (1 : Int32)), .unset, .unset, .unset, .unset, .unset, .unset, .unset, .unset, .unset, .unset, .unset, .unset, .unset, .unset, .unset, .unset, .unset, .unset]) rfl d0_34 ?_
    refine iload K S rfl d0_36 ?_
    refine iconst K S (x := (2 : Int32)) rfl d0_38 ?_
    refine iand K S d0_39 ?_
    refine ific_eq K S d0_40 (fun c40 => ?_) (fun c40 => ?_)
    · refine iconst K S (x := (1 : Int32)) rfl d0_47 ?_
      refine istore K S (l' := #[.val (.int x0), .val (.int x1), .val (.int x2), .val (.int x3), .val (.int x4), .val (.int m1), .val (.int m2), .val (.int r1), .val (.int r2), .val (.int (1 : Int32)), .val (.int (1 : Int32)), .unset, .unset, .unset, .unset, .unset, .unset, .unset, .unset, .unset, .unset, .unset, .unset, .unset, .unset, .unset, .unset, .unset]) rfl d0_48 ?_
      exact J50 _ _ ⟨0, by decide⟩ ⟨0, by decide⟩ rfl rfl
    refine iconst K S (x := (3 : Int32)) rfl d0_43 ?_
    refine goto K S d0_44 ?_
    refine istore K S (l' := #[.val (.int x0), .val (.int x1), .val (.int x2), .val (.int x3), .val (.int x4), .val (.int m1), .val (.int m2), .val (.int r1), .val (.int r2), .val (.int (1 : Int32)), .val (.int (3 : Int32)), .unset, .unset, .unset, .unset, .unset, .unset, .unset, .unset, .unset, .unset, .unset, .unset, .unset, .unset, .unset, .unset, .unset]) rfl d0_48 ?_
    exact J50 _ _ ⟨0, by decide⟩ ⟨1, by decide⟩ rfl rfl
  refine iconst K S (x := (3 : Int32)) rfl d0_29 ?_
  refine goto K S d0_30 ?_
  refine istore K S (l' := #[.val (.int x0), .val (.int x1), .val (.int x2), .val (.int x3), .val (.int x4), .val (.int m1), .val (.int m2), .val (.int r1), .val (.int r2), .val (.int (3 : Int32)), .unset, .unset, .unset, .unset, .unset, .unset, .unset, .unset, .unset, .unset, .unset, .unset, .unset, .unset, .unset, .unset, .unset, .unset]) rfl d0_34 ?_
  refine iload K S rfl d0_36 ?_
  refine iconst K S (x := (2 : Int32)) rfl d0_38 ?_
  refine iand K S d0_39 ?_
  refine ific_eq K S d0_40 (fun c40 => ?_) (fun c40 => ?_)
  · refine iconst K S (x := (1 : Int32)) rfl d0_47 ?_
    refine istore K S (l' := #[.val (.int x0), .val (.int x1), .val (.int x2), .val (.int x3), .val (.int x4), .val (.int m1), .val (.int m2), .val (.int r1), .val (.int r2), .val (.int (3 : Int32)), .val (.int (1 : Int32)), .unset, .unset, .unset, .unset, .unset, .unset, .unset, .unset, .unset, .unset, .unset, .unset, .unset, .unset, .unset, .unset, .unset]) rfl d0_48 ?_
    exact J50 _ _ ⟨1, by decide⟩ ⟨0, by decide⟩ rfl rfl
  refine iconst K S (x := (3 : Int32)) rfl d0_43 ?_
  refine goto K S d0_44 ?_
  refine istore K S (l' := #[.val (.int x0), .val (.int x1), .val (.int x2), .val (.int x3), .val (.int x4), .val (.int m1), .val (.int m2), .val (.int r1), .val (.int r2), .val (.int (3 : Int32)), .val (.int (3 : Int32)), .unset, .unset, .unset, .unset, .unset, .unset, .unset, .unset, .unset, .unset, .unset, .unset, .unset, .unset, .unset, .unset, .unset]) rfl d0_48 ?_
  exact J50 _ _ ⟨1, by decide⟩ ⟨1, by decide⟩ rfl rfl

set_option maxRecDepth 65536 in
set_option maxHeartbeats 40000000 in
theorem comes_1 {Post : Tables → Env → Array Value → State → Outcome → State → Prop} (hpost : ∀ tb e args s v u, (limb_1_1.after args s (.returned v) u = true ∧ limb_1_2.after args s (.returned v) u = true ∧ True) → FrameEnd s (.returned v) u (Jvm.fieldLocs frame_1_writes args s ++ Jvm.arrayLocs frame_1_arrays args s ++ Jvm.staticLocs frame_1_statics s) 32 192 → Post tb e args s (.returned v) u) :
    ArmFor flags0 classFile x code maxLocals ret World_1 tables_1 room_1 Calls_1 rest_1 Pre_1 Post := by
  intro l hfl _ _ p e ha hc hk s m args below hf hA hF happ hP
  obtain ⟨hcalls, hrest, hpre⟩ := hP
  obtain ⟨-, -, -, hnamed, -, -, -, hat⟩ := (Spec.applies_iff hf).mp happ
  obtain ⟨hg, hn⟩ := and_e (Cond.before_iff.mp (show (Jvm.Cond.and given_1 narrow_1).before args s = true from hpre))
  obtain ⟨gc, r0⟩ := and_e hg
  obtain ⟨g0, r1⟩ := and_e r0
  obtain ⟨g1, r2⟩ := and_e r1
  obtain ⟨g2, r3⟩ := and_e r2
  obtain ⟨g3, r4⟩ := and_e r3
  obtain ⟨w0, w1, w2, w3, w4, rfl⟩ : ∃ w0 w1 w2 w3 w4 : Value, args = #[w0, w1, w2, w3, w4] := by
    have hs : args.size = 5 := by simpa [Cond.value, given_1] using gc
    obtain ⟨L⟩ := args
    match L, hs with
    | [w0, w1, w2, w3, w4], _ => exact ⟨w0, w1, w2, w3, w4, rfl⟩
  have hw := fun d (hd : d ∈ tables_1) => atoms_spec (ws := Jvm.Cond.code x code maxLocals ret :: tables_1) hat d (List.mem_cons_of_mem _ hd)
  obtain ⟨i0, ei0⟩ := is_v g0
  obtain rfl : w0 = (.int i0) := Option.some.inj ei0
  obtain ⟨i1, ei1⟩ := is_v g1
  obtain rfl : w1 = (.int i1) := Option.some.inj ei1
  obtain ⟨i2, ei2⟩ := is_v g2
  obtain rfl : w2 = (.int i2) := Option.some.inj ei2
  obtain ⟨i3, ei3⟩ := is_v g3
  obtain rfl : w3 = (.int i3) := Option.some.inj ei3
  obtain ⟨i4, ei4⟩ := is_v r4
  obtain rfl : w4 = (.int i4) := Option.some.inj ei4
  obtain ⟨n, o, h1, h2, h3, _, L, rfl, ⟨rfl, -, N⟩, hq⟩ := m_law l s _ hw s.heap.size i0 i1 i2 i3 i4 s.heap (Nat.le_refl _) p e ha hc hk s m _ below hf ((Spec.applies_iff_loose hf).mp happ).1 ⟨rfl, State.Warmed39.refl s, rfl⟩ trivial
  refine ⟨n, _, h1, h2, h3, hpost _ _ _ _ _ _ ⟨Cond.after_iff.mpr rfl, Cond.after_iff.mpr (eq_i res_at (Term.int_eval (1)) rfl), trivial⟩ ⟨hq.1, hq.2.1, (hq.2.2.sift fun y hy => Or.inr (N y hy)).mono (by decide) (by decide)⟩⟩
theorem main_1_1 : Claimed_1_1 := comes_1 fun _ _ _ _ _ _ h hF => ⟨h.1, hF⟩
theorem main_1_2 : Claimed_1_2 := comes_1 fun _ _ _ _ _ _ h hF => ⟨h.2.1, hF⟩
end Jvm.Pilot.@@N@@
namespace Jvm.Pilot.@@N@@
open Jvm Jvm.ClassFile Sem Op Lib Jvm.Free Jvm.Stand Jvm.Pilot.@@N@@.Jvm.D
/-! MADE BY PROGRAM (witnessworld.py) out of the Statement's table words and the real class files: 9 classes; the members and pool entries that the words name. The judged class is class 1, her method 1. -/
namespace start1
open Jvm.ClassFile
def u (s : String) : CpInfo := .utf8 (stringToUtf16 s)
/-- a pool by its gaps: so many unusable entries, then the entry; so many at the end -/
def gap : Nat → List CpInfo → List CpInfo
  | 0, r => r
  | n + 1, r => .unusable :: gap n r
def poolList (es : List (Nat × CpInfo)) (last : Nat) : List CpInfo := es.foldr (fun e r => gap e.1 (e.2 :: r)) (gap last [])
def pool (es : List (Nat × CpInfo)) (last : Nat) : Array CpInfo := ⟨poolList es last⟩
def fileOf (pool : Array CpInfo) (this : Nat) (attrs : Array Attribute := #[]) (ms : Array MethodInfo := #[]) (fl : Nat := 33) (sup : Nat := 0) (ifs : Array Nat := #[]) (fds : Array FieldInfo := #[]) : ClassFile where
  minorVersion := 0
  majorVersion := 65
  constantPool := pool
  accessFlags := fl
  thisClass := this
  superClass := sup
  interfaces := ifs
  fields := fds
  methods := ms
  attributes := attrs
def plain (name : String) (sup : Option ClassId) : Class where
  name := name
  kind := .ordinary
  loader := none
  accessFlags := 33
  super := sup
  interfaces := #[]
  cf := none
  fields := #[]
  methods := #[]
  instanceTypes := #[]
  staticTypes := #[]
  resolved := #[]
  callSites := []
  init := .initialized
  statics := none
  mirror := none

def pool0 : Array CpInfo := pool [(5, u "<init>"), (0, u "()V"), (1, .class_ 10), (1, u "java/lang/Object")] 113

def k0c0 : Code := { maxStack := 0, maxLocals := 1, code := object_method_1_code, exceptionTable := #[], attributes := #[] }
def k0m0 : Method := { name := "<init>", desc := "()V", sig := { parameters := [], returnType := none }, accessFlags := 1, code := some k0c0 }
/-- java/lang/Object -/
def k0 : Class := { plain "java/lang/Object" none with
  accessFlags := 33
  interfaces := #[]
  cf := some (fileOf pool0 8 #[] #[{ accessFlags := 1, nameIndex := 5, descriptorIndex := 6, attributes := #[] }] 33 0 #[] #[])
  fields := #[]
  methods := #[k0m0]
  instanceTypes := #[]
  staticTypes := #[]
  resolved := Array.replicate 124 none
  statics := none }

def pool1 : Array CpInfo := pool [(2, .class_ 4), (1, u "java/lang/Object"), (0, u "<init>"), (0, u "()V"), (0, .class_ 8), (0, u "com/example/procsh/procsh/service/Partition"), (0, .methodref 7 10), (0, .nameAndType 5 11), (0, u "(I)V"), (0, .methodref 13 14), (0, .class_ 15), (0, .nameAndType 16 17), (0, u "com/example/procsh/procsh/service/PartitionSplitMarkedPinLaw"), (0, u "markRound"), (0, u "(Lcom/example/procsh/procsh/service/Partition;III)V"), (0, .methodref 7 19), (0, .nameAndType 20 6), (0, u "splitMarked"), (0, .methodref 13 22), (0, .nameAndType 23 24), (0, u "firstPos"), (0, u "(III)I"), (0, .methodref 13 26), (0, .nameAndType 27 28), (0, u "expect"), (0, u "(IIIZZII)I"), (0, .methodref 7 30), (0, .nameAndType 31 32), (0, u "blocks"), (0, u "()I"), (0, .methodref 13 34), (0, .nameAndType 35 36), (0, u "checkBlockOf"), (0, u "(Lcom/example/procsh/procsh/service/Partition;I[I)Z"), (0, .methodref 13 38), (0, .nameAndType 39 40), (0, u "checkOrigin"), (0, u "(Lcom/example/procsh/procsh/service/Partition;II[I)Z"), (0, .methodref 13 42), (0, .nameAndType 43 40), (0, u "checkSize"), (0, .methodref 13 45), (0, .nameAndType 46 47), (0, u "posBit"), (0, u "(Lcom/example/procsh/procsh/service/Partition;I)I"), (0, .methodref 7 49), (0, .nameAndType 50 11), (0, u "mark"), (0, .methodref 13 52), (0, .nameAndType 53 54), (0, u "markIf"), (0, u "(Lcom/example/procsh/procsh/service/Partition;II)V"), (0, .methodref 7 56), (0, .nameAndType 57 58), (0, u "blockOf"), (0, u "(I)I"), (0, .methodref 7 60), (0, .nameAndType 61 58), (0, u "origin"), (0, .methodref 7 63), (0, .nameAndType 64 58), (0, u "size"), (0, .methodref 7 66), (0, .nameAndType 67 58), (0, u "state"), (0, .methodref 7 69), (0, .nameAndType 70 58), (0, u "start"), (0, .methodref 7 72), (0, .nameAndType 73 58), (0, u "end"), (2, u "law"), (0, u "(IIIII)Z")] 5

def k1m0 : Method := { name := "<init>", desc := "()V", sig := { parameters := [], returnType := none }, accessFlags := 2, code := none }
def k1c1 : Code := { maxStack := 9, maxLocals := 28, code := code, exceptionTable := #[], attributes := #[] }
def k1m1 : Method := { name := "law", desc := "(IIIII)Z", sig := { parameters := [.int, .int, .int, .int, .int], returnType := some .boolean }, accessFlags := 9, code := some k1c1 }
def k1c2 : Code := { maxStack := 2, maxLocals := 3, code := method_3_code, exceptionTable := #[], attributes := #[] }
def k1m2 : Method := { name := "markIf", desc := "(Lcom/example/procsh/procsh/service/Partition;II)V", sig := { parameters := [(.object "com/example/procsh/procsh/service/Partition"), .int, .int], returnType := none }, accessFlags := 10, code := some k1c2 }
def k1c3 : Code := { maxStack := 5, maxLocals := 4, code := method_4_code, exceptionTable := #[], attributes := #[] }
def k1m3 : Method := { name := "markRound", desc := "(Lcom/example/procsh/procsh/service/Partition;III)V", sig := { parameters := [(.object "com/example/procsh/procsh/service/Partition"), .int, .int, .int], returnType := none }, accessFlags := 10, code := some k1c3 }
def k1c4 : Code := { maxStack := 4, maxLocals := 3, code := method_5_code, exceptionTable := #[], attributes := #[] }
def k1m4 : Method := { name := "firstPos", desc := "(III)I", sig := { parameters := [.int, .int, .int], returnType := some .int }, accessFlags := 10, code := some k1c4 }
def k1c5 : Code := { maxStack := 2, maxLocals := 9, code := method_6_code, exceptionTable := #[], attributes := #[] }
def k1m5 : Method := { name := "expect", desc := "(IIIZZII)I", sig := { parameters := [.int, .int, .int, .boolean, .boolean, .int, .int], returnType := some .int }, accessFlags := 10, code := some k1c5 }
def k1c6 : Code := { maxStack := 3, maxLocals := 3, code := method_7_code, exceptionTable := #[], attributes := #[] }
def k1m6 : Method := { name := "checkBlockOf", desc := "(Lcom/example/procsh/procsh/service/Partition;I[I)Z", sig := { parameters := [(.object "com/example/procsh/procsh/service/Partition"), .int, (.array .int)], returnType := some .boolean }, accessFlags := 10, code := some k1c6 }
def k1c7 : Code := { maxStack := 3, maxLocals := 4, code := method_8_code, exceptionTable := #[], attributes := #[] }
def k1m7 : Method := { name := "checkOrigin", desc := "(Lcom/example/procsh/procsh/service/Partition;II[I)Z", sig := { parameters := [(.object "com/example/procsh/procsh/service/Partition"), .int, .int, (.array .int)], returnType := some .boolean }, accessFlags := 10, code := some k1c7 }
def k1c8 : Code := { maxStack := 3, maxLocals := 4, code := method_9_code, exceptionTable := #[], attributes := #[] }
def k1m8 : Method := { name := "checkSize", desc := "(Lcom/example/procsh/procsh/service/Partition;II[I)Z", sig := { parameters := [(.object "com/example/procsh/procsh/service/Partition"), .int, .int, (.array .int)], returnType := some .boolean }, accessFlags := 10, code := some k1c8 }
def k1c9 : Code := { maxStack := 3, maxLocals := 4, code := method_10_code, exceptionTable := #[], attributes := #[] }
def k1m9 : Method := { name := "posBit", desc := "(Lcom/example/procsh/procsh/service/Partition;I)I", sig := { parameters := [(.object "com/example/procsh/procsh/service/Partition"), .int], returnType := some .int }, accessFlags := 10, code := some k1c9 }
/-- com/example/procsh/procsh/service/PartitionSplitMarkedPinLaw -/
def k1 : Class := { plain "com/example/procsh/procsh/service/PartitionSplitMarkedPinLaw" (some 0) with
  accessFlags := 49
  interfaces := #[]
  cf := some (fileOf pool1 13 #[] #[{ accessFlags := 2, nameIndex := 5, descriptorIndex := 6, attributes := #[] }, { accessFlags := 9, nameIndex := 76, descriptorIndex := 77, attributes := #[] }, { accessFlags := 10, nameIndex := 53, descriptorIndex := 54, attributes := #[] }, { accessFlags := 10, nameIndex := 16, descriptorIndex := 17, attributes := #[] }, { accessFlags := 10, nameIndex := 23, descriptorIndex := 24, attributes := #[] }, { accessFlags := 10, nameIndex := 27, descriptorIndex := 28, attributes := #[] }, { accessFlags := 10, nameIndex := 35, descriptorIndex := 36, attributes := #[] }, { accessFlags := 10, nameIndex := 39, descriptorIndex := 40, attributes := #[] }, { accessFlags := 10, nameIndex := 43, descriptorIndex := 40, attributes := #[] }, { accessFlags := 10, nameIndex := 46, descriptorIndex := 47, attributes := #[] }] 49 2 #[] #[])
  fields := #[]
  methods := #[k1m0, k1m1, k1m2, k1m3, k1m4, k1m5, k1m6, k1m7, k1m8, k1m9]
  instanceTypes := #[]
  staticTypes := #[]
  resolved := Array.replicate 83 none
  statics := none }

def pool2 : Array CpInfo := pool [(1, .methodref 2 3), (0, .class_ 4), (0, .nameAndType 5 6), (0, u "java/lang/Object"), (0, u "<init>"), (0, u "()V"), (0, .fieldref 8 9), (0, .class_ 10), (0, .nameAndType 11 12), (0, u "com/example/procsh/procsh/service/Partition"), (0, u "elements"), (0, u "[I"), (0, .fieldref 8 14), (0, .nameAndType 15 12), (0, u "positionOf"), (0, .fieldref 8 17), (0, .nameAndType 18 12), (0, u "blockOf"), (0, .fieldref 8 20), (0, .nameAndType 21 12), (0, u "blockStart"), (0, .fieldref 8 23), (0, .nameAndType 24 12), (0, u "blockEnd"), (0, .fieldref 8 26), (0, .nameAndType 27 12), (0, u "markedEnd"), (0, .fieldref 8 29), (0, .nameAndType 30 12), (0, u "origin"), (0, .fieldref 8 32), (0, .nameAndType 33 12), (0, u "touchedBlocks"), (0, .fieldref 8 35), (0, .nameAndType 36 37), (0, u "blocks"), (0, u "I"), (0, .fieldref 8 39), (0, .nameAndType 40 37), (0, u "touched"), (0, u "(I)V"), (3, u "()I"), (0, u "(I)I"), (0, u "start"), (0, u "end"), (0, u "size"), (0, u "state"), (0, u "mark"), (0, u "splitMarked")] 2

def k2c0 : Code := { maxStack := 3, maxLocals := 3, code := prog_68_method_1_code, exceptionTable := #[], attributes := #[] }
def k2m0 : Method := { name := "<init>", desc := "(I)V", sig := { parameters := [.int], returnType := none }, accessFlags := 0, code := some k2c0 }
def k2c1 : Code := { maxStack := 1, maxLocals := 1, code := prog_68_method_2_code, exceptionTable := #[], attributes := #[] }
def k2m1 : Method := { name := "blocks", desc := "()I", sig := { parameters := [], returnType := some .int }, accessFlags := 0, code := some k2c1 }
def k2c2 : Code := { maxStack := 2, maxLocals := 2, code := prog_68_method_3_code, exceptionTable := #[], attributes := #[] }
def k2m2 : Method := { name := "blockOf", desc := "(I)I", sig := { parameters := [.int], returnType := some .int }, accessFlags := 0, code := some k2c2 }
def k2c3 : Code := { maxStack := 2, maxLocals := 2, code := prog_68_method_4_code, exceptionTable := #[], attributes := #[] }
def k2m3 : Method := { name := "start", desc := "(I)I", sig := { parameters := [.int], returnType := some .int }, accessFlags := 0, code := some k2c3 }
def k2c4 : Code := { maxStack := 2, maxLocals := 2, code := prog_68_method_5_code, exceptionTable := #[], attributes := #[] }
def k2m4 : Method := { name := "end", desc := "(I)I", sig := { parameters := [.int], returnType := some .int }, accessFlags := 0, code := some k2c4 }
def k2c5 : Code := { maxStack := 3, maxLocals := 2, code := prog_68_method_6_code, exceptionTable := #[], attributes := #[] }
def k2m5 : Method := { name := "size", desc := "(I)I", sig := { parameters := [.int], returnType := some .int }, accessFlags := 0, code := some k2c5 }
def k2c6 : Code := { maxStack := 2, maxLocals := 2, code := prog_68_method_7_code, exceptionTable := #[], attributes := #[] }
def k2m6 : Method := { name := "state", desc := "(I)I", sig := { parameters := [.int], returnType := some .int }, accessFlags := 0, code := some k2c6 }
def k2c7 : Code := { maxStack := 2, maxLocals := 2, code := prog_68_method_8_code, exceptionTable := #[], attributes := #[] }
def k2m7 : Method := { name := "origin", desc := "(I)I", sig := { parameters := [.int], returnType := some .int }, accessFlags := 0, code := some k2c7 }
def k2c8 : Code := { maxStack := 5, maxLocals := 6, code := prog_68_method_9_code, exceptionTable := #[], attributes := #[] }
def k2m8 : Method := { name := "mark", desc := "(I)V", sig := { parameters := [.int], returnType := none }, accessFlags := 0, code := some k2c8 }
def k2c9 : Code := { maxStack := 4, maxLocals := 6, code := prog_68_method_10_code, exceptionTable := #[], attributes := #[] }
def k2m9 : Method := { name := "splitMarked", desc := "()V", sig := { parameters := [], returnType := none }, accessFlags := 0, code := some k2c9 }
/-- com/example/procsh/procsh/service/Partition -/
def k2 : Class := { plain "com/example/procsh/procsh/service/Partition" (some 0) with
  accessFlags := 32
  interfaces := #[]
  cf := some (fileOf pool2 8 #[] #[{ accessFlags := 0, nameIndex := 5, descriptorIndex := 41, attributes := #[] }, { accessFlags := 0, nameIndex := 36, descriptorIndex := 45, attributes := #[] }, { accessFlags := 0, nameIndex := 18, descriptorIndex := 46, attributes := #[] }, { accessFlags := 0, nameIndex := 47, descriptorIndex := 46, attributes := #[] }, { accessFlags := 0, nameIndex := 48, descriptorIndex := 46, attributes := #[] }, { accessFlags := 0, nameIndex := 49, descriptorIndex := 46, attributes := #[] }, { accessFlags := 0, nameIndex := 50, descriptorIndex := 46, attributes := #[] }, { accessFlags := 0, nameIndex := 30, descriptorIndex := 46, attributes := #[] }, { accessFlags := 0, nameIndex := 51, descriptorIndex := 41, attributes := #[] }, { accessFlags := 0, nameIndex := 52, descriptorIndex := 6, attributes := #[] }] 32 2 #[] #[{ accessFlags := 18, nameIndex := 11, descriptorIndex := 12, attributes := #[] }, { accessFlags := 18, nameIndex := 15, descriptorIndex := 12, attributes := #[] }, { accessFlags := 18, nameIndex := 18, descriptorIndex := 12, attributes := #[] }, { accessFlags := 18, nameIndex := 21, descriptorIndex := 12, attributes := #[] }, { accessFlags := 18, nameIndex := 24, descriptorIndex := 12, attributes := #[] }, { accessFlags := 18, nameIndex := 27, descriptorIndex := 12, attributes := #[] }, { accessFlags := 18, nameIndex := 30, descriptorIndex := 12, attributes := #[] }, { accessFlags := 18, nameIndex := 33, descriptorIndex := 12, attributes := #[] }, { accessFlags := 2, nameIndex := 36, descriptorIndex := 37, attributes := #[] }, { accessFlags := 2, nameIndex := 40, descriptorIndex := 37, attributes := #[] }])
  fields := #[{ name := "elements", type := (.array .int), accessFlags := 18, slot := 0, constantValue := 0 }, { name := "positionOf", type := (.array .int), accessFlags := 18, slot := 1, constantValue := 0 }, { name := "blockOf", type := (.array .int), accessFlags := 18, slot := 2, constantValue := 0 }, { name := "blockStart", type := (.array .int), accessFlags := 18, slot := 3, constantValue := 0 }, { name := "blockEnd", type := (.array .int), accessFlags := 18, slot := 4, constantValue := 0 }, { name := "markedEnd", type := (.array .int), accessFlags := 18, slot := 5, constantValue := 0 }, { name := "origin", type := (.array .int), accessFlags := 18, slot := 6, constantValue := 0 }, { name := "touchedBlocks", type := (.array .int), accessFlags := 18, slot := 7, constantValue := 0 }, { name := "blocks", type := .int, accessFlags := 2, slot := 8, constantValue := 0 }, { name := "touched", type := .int, accessFlags := 2, slot := 9, constantValue := 0 }]
  methods := #[k2m0, k2m1, k2m2, k2m3, k2m4, k2m5, k2m6, k2m7, k2m8, k2m9]
  instanceTypes := #[(.array .int), (.array .int), (.array .int), (.array .int), (.array .int), (.array .int), (.array .int), (.array .int), .int, .int]
  staticTypes := #[]
  resolved := Array.replicate 55 none
  statics := none }

def pool3 : Array CpInfo := pool [(1, u "java/lang/Cloneable"), (0, .class_ 1), (0, u "java/lang/Object"), (0, .class_ 3)] 3

/-- java/lang/Cloneable -/
def k3 : Class := { plain "java/lang/Cloneable" (some 0) with
  accessFlags := 1537
  interfaces := #[]
  cf := some (fileOf pool3 2 #[] #[] 1537 4 #[] #[])
  fields := #[]
  methods := #[]
  instanceTypes := #[]
  staticTypes := #[]
  resolved := Array.replicate 8 none
  statics := none }

def pool4 : Array CpInfo := pool [(1, u "java/io/Serializable"), (0, .class_ 1), (0, u "java/lang/Object"), (0, .class_ 3)] 3

/-- java/io/Serializable -/
def k4 : Class := { plain "java/io/Serializable" (some 0) with
  accessFlags := 1537
  interfaces := #[]
  cf := some (fileOf pool4 2 #[] #[] 1537 4 #[] #[])
  fields := #[]
  methods := #[]
  instanceTypes := #[]
  staticTypes := #[]
  resolved := Array.replicate 8 none
  statics := none }

/-- the primitive byte -/
def k5 : Class := { plain "byte" none with kind := .primitive 'B', accessFlags := 0x411 }
/-- [B -/
def k6 : Class := { plain "[B" (some 0) with kind := .array 5 .byte, interfaces := #[3, 4], accessFlags := 1041 }

/-- the primitive int -/
def k7 : Class := { plain "int" none with kind := .primitive 'I', accessFlags := 0x411 }
/-- [I -/
def k8 : Class := { plain "[I" (some 0) with kind := .array 7 .int, interfaces := #[3, 4], accessFlags := 1041 }

def heap : Heap := #[]
def classes : Array Class := #[k0, k1, k2, k3, k4, k5, k6, k7, k8]
def interned : List (Array UInt16 × Addr) := []
def slotsUsed : Nat := 0
def theMethod : MethodId := ⟨1, 1⟩
def args0 : Array Value := #[.int 5, .int 300, .int 7, .int 3, .int 1]
def aboutOver (below : List Frame) : State where
  vm := { classes := classes, interned := interned.toArray }
  heap := heap
  slotsUsed := slotsUsed
  threads := #[{ frames := .invoking theMethod args0 :: below }]
def below0 : List Frame := [.native { method := ⟨0, 0⟩, args := #[] }]
def about1 : State := aboutOver below0
def p0 : Program := .bare "" "" ""
def e0 : Env := launch0.env 0 0 0
theorem w_frames : about1.frames = Frame.invoking theMethod args0 :: below0 := rfl
set_option maxRecDepth 65536 in
theorem w_args : argsFit about1.vm theMethod args0 = true := by decide +kernel
set_option maxRecDepth 65536 in
theorem w_heap : heapFits about1 = true := by decide +kernel
set_option maxRecDepth 65536 in
theorem w_runnable : about1.curStatus? = some .runnable := by decide +kernel
set_option maxRecDepth 65536 in
theorem w_alone : about1.alone = true := by decide +kernel
set_option maxRecDepth 65536 in
theorem w_named : about1.methodNamed? x = some theMethod := by decide +kernel
set_option maxRecDepth 65536 in
theorem w_hears : about1.hears theMethod below0 = true := by decide +kernel
set_option maxRecDepth 65536 in
theorem w_ripe : about1.ripe theMethod args0 below0 = true := by decide +kernel
theorem w_running : about1.status = .running := rfl
set_option maxRecDepth 65536 in
theorem w_room : about1.hasRoom e0.platform room_1 = true :=
  launch0.hasRoom_least _ room_1 (by decide +kernel) (by decide +kernel) (by decide +kernel) (by decide +kernel) (by decide +kernel) (by decide +kernel)
theorem allAtoms_all (ts : List Jvm.Cond) (a : Array Jvm.Value) (st : Jvm.State) : (allAtoms ts).before a st = ts.all (fun c => c.before a st) := by
  induction ts with
  | nil => rfl
  | cons c t ih =>
    show (Jvm.Cond.and c (allAtoms t)).before a st = _
    rw [Jvm.Cond.before_and, ih, List.all_cons]
def words1 : List Jvm.Cond := Jvm.Cond.code x code maxLocals ret :: tables_1
/-- a 'code' word, met by the world's own term for the bytes: nothing is compared byte by byte -/
theorem code_word {y : MethodName} {bytes : ByteArray} {mx : Nat} {rt : Option FieldType} {a : Array Value} {s : State} {m : MethodId} {meth : Method} {c : Code} (h1 : s.methodNamed? y = some m) (h2 : s.vm.method? m = some meth) (h3 : meth.code = some c) (h4 : c.code = bytes)
    (h5 : (c.maxLocals == mx && c.exceptionTable.isEmpty && decide (c.maxStack ≤ mostOperands) && decide (meth.sig.returnType = rt) && !meth.locks && decide (parseMethodDescriptor y.desc = some meth.sig)) = true) : (Jvm.Cond.code y bytes mx rt).before a s = true := by
  simp only [Bool.and_eq_true, beq_iff_eq, Bool.not_eq_true', decide_eq_true_eq] at h5
  obtain ⟨⟨⟨⟨⟨g1, g2⟩, g3⟩, g4⟩, g5⟩, g6⟩ := h5
  simp [Cond.before, Cond.holds, Cond.value, h1, h2, h3, h4, g1, g2, g3, g4, g5, g6]
def isCode : Jvm.Cond → Bool
  | .code _ _ _ _ => true
  | _ => false
theorem all_split {L : List Jvm.Cond} {P : Jvm.Cond → Bool} (h1 : L.all (fun c => isCode c || P c) = true) (h2 : ∀ c ∈ L.filter isCode, P c = true) : L.all P = true := by
  refine List.all_eq_true.mpr fun c hc => ?_
  have h := List.all_eq_true.mp h1 c hc
  rcases Bool.eq_false_or_eq_true (isCode c) with hi | hi
  · exact h2 c (List.mem_filter.mpr ⟨hc, hi⟩)
  · simpa [hi] using h
set_option maxRecDepth 65536 in
theorem w_c0 : (Jvm.Cond.code x code maxLocals ret).before args0 about1 = true := code_word (m := ⟨1, 1⟩) (meth := k1m1) (c := k1c1) (by decide +kernel) rfl rfl rfl (by decide +kernel)
set_option maxRecDepth 65536 in
theorem w_c1 : (Jvm.Cond.code ({ cls := "com/example/procsh/procsh/service/Partition", name := "<init>", desc := "(I)V" } : Jvm.MethodName) prog_68_method_1_code (3 : Nat) (Option.none : Option Jvm.ClassFile.FieldType)).before args0 about1 = true := code_word (m := ⟨2, 0⟩) (meth := k2m0) (c := k2c0) (by decide +kernel) rfl rfl rfl (by decide +kernel)
set_option maxRecDepth 65536 in
theorem w_c2 : (Jvm.Cond.code ({ cls := "java/lang/Object", name := "<init>", desc := "()V" } : Jvm.MethodName) object_method_1_code (1 : Nat) (Option.none : Option Jvm.ClassFile.FieldType)).before args0 about1 = true := code_word (m := ⟨0, 0⟩) (meth := k0m0) (c := k0c0) (by decide +kernel) rfl rfl rfl (by decide +kernel)
set_option maxRecDepth 65536 in
theorem w_c3 : (Jvm.Cond.code ({ cls := "com/example/procsh/procsh/service/PartitionSplitMarkedPinLaw", name := "markRound", desc := "(Lcom/example/procsh/procsh/service/Partition;III)V" } : Jvm.MethodName) method_4_code (4 : Nat) (Option.none : Option Jvm.ClassFile.FieldType)).before args0 about1 = true := code_word (m := ⟨1, 3⟩) (meth := k1m3) (c := k1c3) (by decide +kernel) rfl rfl rfl (by decide +kernel)
set_option maxRecDepth 65536 in
theorem w_c4 : (Jvm.Cond.code ({ cls := "com/example/procsh/procsh/service/PartitionSplitMarkedPinLaw", name := "markIf", desc := "(Lcom/example/procsh/procsh/service/Partition;II)V" } : Jvm.MethodName) method_3_code (3 : Nat) (Option.none : Option Jvm.ClassFile.FieldType)).before args0 about1 = true := code_word (m := ⟨1, 2⟩) (meth := k1m2) (c := k1c2) (by decide +kernel) rfl rfl rfl (by decide +kernel)
set_option maxRecDepth 65536 in
theorem w_c5 : (Jvm.Cond.code ({ cls := "com/example/procsh/procsh/service/Partition", name := "splitMarked", desc := "()V" } : Jvm.MethodName) prog_68_method_10_code (6 : Nat) (Option.none : Option Jvm.ClassFile.FieldType)).before args0 about1 = true := code_word (m := ⟨2, 9⟩) (meth := k2m9) (c := k2c9) (by decide +kernel) rfl rfl rfl (by decide +kernel)
set_option maxRecDepth 65536 in
theorem w_c6 : (Jvm.Cond.code ({ cls := "com/example/procsh/procsh/service/Partition", name := "mark", desc := "(I)V" } : Jvm.MethodName) prog_68_method_9_code (6 : Nat) (Option.none : Option Jvm.ClassFile.FieldType)).before args0 about1 = true := code_word (m := ⟨2, 8⟩) (meth := k2m8) (c := k2c8) (by decide +kernel) rfl rfl rfl (by decide +kernel)
set_option maxRecDepth 65536 in
theorem w_c7 : (Jvm.Cond.code ({ cls := "com/example/procsh/procsh/service/PartitionSplitMarkedPinLaw", name := "expect", desc := "(IIIZZII)I" } : Jvm.MethodName) method_6_code (9 : Nat) (Option.some Jvm.ClassFile.FieldType.int)).before args0 about1 = true := code_word (m := ⟨1, 5⟩) (meth := k1m5) (c := k1c5) (by decide +kernel) rfl rfl rfl (by decide +kernel)
set_option maxRecDepth 65536 in
theorem w_c8 : (Jvm.Cond.code ({ cls := "com/example/procsh/procsh/service/Partition", name := "blocks", desc := "()I" } : Jvm.MethodName) prog_68_method_2_code (1 : Nat) (Option.some Jvm.ClassFile.FieldType.int)).before args0 about1 = true := code_word (m := ⟨2, 1⟩) (meth := k2m1) (c := k2c1) (by decide +kernel) rfl rfl rfl (by decide +kernel)
set_option maxRecDepth 65536 in
theorem w_c9 : (Jvm.Cond.code ({ cls := "com/example/procsh/procsh/service/PartitionSplitMarkedPinLaw", name := "checkBlockOf", desc := "(Lcom/example/procsh/procsh/service/Partition;I[I)Z" } : Jvm.MethodName) method_7_code (3 : Nat) (Option.some Jvm.ClassFile.FieldType.boolean)).before args0 about1 = true := code_word (m := ⟨1, 6⟩) (meth := k1m6) (c := k1c6) (by decide +kernel) rfl rfl rfl (by decide +kernel)
set_option maxRecDepth 65536 in
theorem w_c10 : (Jvm.Cond.code ({ cls := "com/example/procsh/procsh/service/Partition", name := "blockOf", desc := "(I)I" } : Jvm.MethodName) prog_68_method_3_code (2 : Nat) (Option.some Jvm.ClassFile.FieldType.int)).before args0 about1 = true := code_word (m := ⟨2, 2⟩) (meth := k2m2) (c := k2c2) (by decide +kernel) rfl rfl rfl (by decide +kernel)
set_option maxRecDepth 65536 in
theorem w_c11 : (Jvm.Cond.code ({ cls := "com/example/procsh/procsh/service/PartitionSplitMarkedPinLaw", name := "checkOrigin", desc := "(Lcom/example/procsh/procsh/service/Partition;II[I)Z" } : Jvm.MethodName) method_8_code (4 : Nat) (Option.some Jvm.ClassFile.FieldType.boolean)).before args0 about1 = true := code_word (m := ⟨1, 7⟩) (meth := k1m7) (c := k1c7) (by decide +kernel) rfl rfl rfl (by decide +kernel)
set_option maxRecDepth 65536 in
theorem w_c12 : (Jvm.Cond.code ({ cls := "com/example/procsh/procsh/service/Partition", name := "origin", desc := "(I)I" } : Jvm.MethodName) prog_68_method_8_code (2 : Nat) (Option.some Jvm.ClassFile.FieldType.int)).before args0 about1 = true := code_word (m := ⟨2, 7⟩) (meth := k2m7) (c := k2c7) (by decide +kernel) rfl rfl rfl (by decide +kernel)
set_option maxRecDepth 65536 in
theorem w_c13 : (Jvm.Cond.code ({ cls := "com/example/procsh/procsh/service/PartitionSplitMarkedPinLaw", name := "checkSize", desc := "(Lcom/example/procsh/procsh/service/Partition;II[I)Z" } : Jvm.MethodName) method_9_code (4 : Nat) (Option.some Jvm.ClassFile.FieldType.boolean)).before args0 about1 = true := code_word (m := ⟨1, 8⟩) (meth := k1m8) (c := k1c8) (by decide +kernel) rfl rfl rfl (by decide +kernel)
set_option maxRecDepth 65536 in
theorem w_c14 : (Jvm.Cond.code ({ cls := "com/example/procsh/procsh/service/Partition", name := "size", desc := "(I)I" } : Jvm.MethodName) prog_68_method_6_code (2 : Nat) (Option.some Jvm.ClassFile.FieldType.int)).before args0 about1 = true := code_word (m := ⟨2, 5⟩) (meth := k2m5) (c := k2c5) (by decide +kernel) rfl rfl rfl (by decide +kernel)
set_option maxRecDepth 65536 in
theorem w_c15 : (Jvm.Cond.code ({ cls := "com/example/procsh/procsh/service/PartitionSplitMarkedPinLaw", name := "posBit", desc := "(Lcom/example/procsh/procsh/service/Partition;I)I" } : Jvm.MethodName) method_10_code (4 : Nat) (Option.some Jvm.ClassFile.FieldType.int)).before args0 about1 = true := code_word (m := ⟨1, 9⟩) (meth := k1m9) (c := k1c9) (by decide +kernel) rfl rfl rfl (by decide +kernel)
set_option maxRecDepth 65536 in
theorem w_c16 : (Jvm.Cond.code ({ cls := "com/example/procsh/procsh/service/Partition", name := "state", desc := "(I)I" } : Jvm.MethodName) prog_68_method_7_code (2 : Nat) (Option.some Jvm.ClassFile.FieldType.int)).before args0 about1 = true := code_word (m := ⟨2, 6⟩) (meth := k2m6) (c := k2c6) (by decide +kernel) rfl rfl rfl (by decide +kernel)
set_option maxRecDepth 65536 in
theorem w_c17 : (Jvm.Cond.code ({ cls := "com/example/procsh/procsh/service/Partition", name := "start", desc := "(I)I" } : Jvm.MethodName) prog_68_method_4_code (2 : Nat) (Option.some Jvm.ClassFile.FieldType.int)).before args0 about1 = true := code_word (m := ⟨2, 3⟩) (meth := k2m3) (c := k2c3) (by decide +kernel) rfl rfl rfl (by decide +kernel)
set_option maxRecDepth 65536 in
theorem w_c18 : (Jvm.Cond.code ({ cls := "com/example/procsh/procsh/service/Partition", name := "end", desc := "(I)I" } : Jvm.MethodName) prog_68_method_5_code (2 : Nat) (Option.some Jvm.ClassFile.FieldType.int)).before args0 about1 = true := code_word (m := ⟨2, 4⟩) (meth := k2m4) (c := k2c4) (by decide +kernel) rfl rfl rfl (by decide +kernel)
set_option maxRecDepth 65536 in
theorem w_c19 : (Jvm.Cond.code ({ cls := "com/example/procsh/procsh/service/PartitionSplitMarkedPinLaw", name := "firstPos", desc := "(III)I" } : Jvm.MethodName) method_5_code (3 : Nat) (Option.some Jvm.ClassFile.FieldType.int)).before args0 about1 = true := code_word (m := ⟨1, 4⟩) (meth := k1m4) (c := k1c4) (by decide +kernel) rfl rfl rfl (by decide +kernel)
def codes1 : List Jvm.Cond := [Jvm.Cond.code x code maxLocals ret, Jvm.Cond.code ({ cls := "com/example/procsh/procsh/service/Partition", name := "<init>", desc := "(I)V" } : Jvm.MethodName) prog_68_method_1_code (3 : Nat) (Option.none : Option Jvm.ClassFile.FieldType), Jvm.Cond.code ({ cls := "java/lang/Object", name := "<init>", desc := "()V" } : Jvm.MethodName) object_method_1_code (1 : Nat) (Option.none : Option Jvm.ClassFile.FieldType), Jvm.Cond.code ({ cls := "com/example/procsh/procsh/service/PartitionSplitMarkedPinLaw", name := "markRound", desc := "(Lcom/example/procsh/procsh/service/Partition;III)V" } : Jvm.MethodName) method_4_code (4 : Nat) (Option.none : Option Jvm.ClassFile.FieldType), Jvm.Cond.code ({ cls := "com/example/procsh/procsh/service/PartitionSplitMarkedPinLaw", name := "markIf", desc := "(Lcom/example/procsh/procsh/service/Partition;II)V" } : Jvm.MethodName) method_3_code (3 : Nat) (Option.none : Option Jvm.ClassFile.FieldType), Jvm.Cond.code ({ cls := "com/example/procsh/procsh/service/Partition", name := "splitMarked", desc := "()V" } : Jvm.MethodName) prog_68_method_10_code (6 : Nat) (Option.none : Option Jvm.ClassFile.FieldType), Jvm.Cond.code ({ cls := "com/example/procsh/procsh/service/Partition", name := "mark", desc := "(I)V" } : Jvm.MethodName) prog_68_method_9_code (6 : Nat) (Option.none : Option Jvm.ClassFile.FieldType), Jvm.Cond.code ({ cls := "com/example/procsh/procsh/service/PartitionSplitMarkedPinLaw", name := "expect", desc := "(IIIZZII)I" } : Jvm.MethodName) method_6_code (9 : Nat) (Option.some Jvm.ClassFile.FieldType.int), Jvm.Cond.code ({ cls := "com/example/procsh/procsh/service/Partition", name := "blocks", desc := "()I" } : Jvm.MethodName) prog_68_method_2_code (1 : Nat) (Option.some Jvm.ClassFile.FieldType.int), Jvm.Cond.code ({ cls := "com/example/procsh/procsh/service/PartitionSplitMarkedPinLaw", name := "checkBlockOf", desc := "(Lcom/example/procsh/procsh/service/Partition;I[I)Z" } : Jvm.MethodName) method_7_code (3 : Nat) (Option.some Jvm.ClassFile.FieldType.boolean), Jvm.Cond.code ({ cls := "com/example/procsh/procsh/service/Partition", name := "blockOf", desc := "(I)I" } : Jvm.MethodName) prog_68_method_3_code (2 : Nat) (Option.some Jvm.ClassFile.FieldType.int), Jvm.Cond.code ({ cls := "com/example/procsh/procsh/service/PartitionSplitMarkedPinLaw", name := "checkOrigin", desc := "(Lcom/example/procsh/procsh/service/Partition;II[I)Z" } : Jvm.MethodName) method_8_code (4 : Nat) (Option.some Jvm.ClassFile.FieldType.boolean), Jvm.Cond.code ({ cls := "com/example/procsh/procsh/service/Partition", name := "origin", desc := "(I)I" } : Jvm.MethodName) prog_68_method_8_code (2 : Nat) (Option.some Jvm.ClassFile.FieldType.int), Jvm.Cond.code ({ cls := "com/example/procsh/procsh/service/PartitionSplitMarkedPinLaw", name := "checkSize", desc := "(Lcom/example/procsh/procsh/service/Partition;II[I)Z" } : Jvm.MethodName) method_9_code (4 : Nat) (Option.some Jvm.ClassFile.FieldType.boolean), Jvm.Cond.code ({ cls := "com/example/procsh/procsh/service/Partition", name := "size", desc := "(I)I" } : Jvm.MethodName) prog_68_method_6_code (2 : Nat) (Option.some Jvm.ClassFile.FieldType.int), Jvm.Cond.code ({ cls := "com/example/procsh/procsh/service/PartitionSplitMarkedPinLaw", name := "posBit", desc := "(Lcom/example/procsh/procsh/service/Partition;I)I" } : Jvm.MethodName) method_10_code (4 : Nat) (Option.some Jvm.ClassFile.FieldType.int), Jvm.Cond.code ({ cls := "com/example/procsh/procsh/service/Partition", name := "state", desc := "(I)I" } : Jvm.MethodName) prog_68_method_7_code (2 : Nat) (Option.some Jvm.ClassFile.FieldType.int), Jvm.Cond.code ({ cls := "com/example/procsh/procsh/service/Partition", name := "start", desc := "(I)I" } : Jvm.MethodName) prog_68_method_4_code (2 : Nat) (Option.some Jvm.ClassFile.FieldType.int), Jvm.Cond.code ({ cls := "com/example/procsh/procsh/service/Partition", name := "end", desc := "(I)I" } : Jvm.MethodName) prog_68_method_5_code (2 : Nat) (Option.some Jvm.ClassFile.FieldType.int), Jvm.Cond.code ({ cls := "com/example/procsh/procsh/service/PartitionSplitMarkedPinLaw", name := "firstPos", desc := "(III)I" } : Jvm.MethodName) method_5_code (3 : Nat) (Option.some Jvm.ClassFile.FieldType.int)]
set_option maxRecDepth 65536 in
theorem codes_eq : words1.filter isCode = codes1 := rfl
theorem w_codes : ∀ c ∈ words1.filter isCode, c.before args0 about1 = true := by
  rw [codes_eq]
  intro c hc
  simp only [codes1, List.mem_cons, List.not_mem_nil, or_false] at hc
  rcases hc with rfl | rfl | rfl | rfl | rfl | rfl | rfl | rfl | rfl | rfl | rfl | rfl | rfl | rfl | rfl | rfl | rfl | rfl | rfl | rfl
  · exact w_c0
  · exact w_c1
  · exact w_c2
  · exact w_c3
  · exact w_c4
  · exact w_c5
  · exact w_c6
  · exact w_c7
  · exact w_c8
  · exact w_c9
  · exact w_c10
  · exact w_c11
  · exact w_c12
  · exact w_c13
  · exact w_c14
  · exact w_c15
  · exact w_c16
  · exact w_c17
  · exact w_c18
  · exact w_c19
set_option maxRecDepth 65536 in
theorem w_t1 : (words1.take 24).all (fun c => isCode c || c.before args0 about1) = true := by decide +kernel
set_option maxRecDepth 65536 in
theorem w_t2 : ((words1.drop 24).take 24).all (fun c => isCode c || c.before args0 about1) = true := by decide +kernel
set_option maxRecDepth 65536 in
theorem w_t3 : (((words1.drop 24).drop 24).take 24).all (fun c => isCode c || c.before args0 about1) = true := by decide +kernel
set_option maxRecDepth 65536 in
theorem w_t4 : ((((words1.drop 24).drop 24).drop 24).take 24).all (fun c => isCode c || c.before args0 about1) = true := by decide +kernel
set_option maxRecDepth 65536 in
theorem w_t5 : ((((words1.drop 24).drop 24).drop 24).drop 24).all (fun c => isCode c || c.before args0 about1) = true := by decide +kernel
theorem w_tables : (allAtoms (Jvm.Cond.code x code maxLocals ret :: tables_1)).before args0 about1 = true := by
  rw [allAtoms_all]
  show words1.all (fun c => c.before args0 about1) = true
  refine all_split ?_ w_codes
  rw [← List.take_append_drop 24 words1, List.all_append, w_t1, ← List.take_append_drop 24 (words1.drop 24), List.all_append, w_t2, ← List.take_append_drop 24 ((words1.drop 24).drop 24), List.all_append, w_t3, ← List.take_append_drop 24 (((words1.drop 24).drop 24).drop 24), List.all_append, w_t4, w_t5]
  rfl
set_option maxRecDepth 65536 in
theorem w_case : (Jvm.Cond.and given_1 narrow_1).before args0 about1 = true := by decide +kernel
theorem w_applies : (headSpec (Jvm.Cond.code x code maxLocals ret :: tables_1) room_1).applies x e0.platform about1 = true :=
  (Spec.applies_iff w_frames).mpr ⟨w_running, w_runnable, w_alone, w_named, w_hears, w_ripe, w_room, w_tables⟩
theorem atStart : AtStart classFile x code maxLocals ret World_1 tables_1 room_1 Calls_1 rest_1 Pre_1 launch0 p0 e0 about1 theMethod args0 below0 :=
  ⟨lists_1, trivial, launch0.admits_env _ _ _, launch0.least_env, fairChoices_fair.cas, fairChoices_fair.clock, w_frames, w_args, w_heap, w_applies, trivial, trivial, w_case⟩
end start1
theorem witness_1 : WitnessClaimed_1 := ⟨start1.p0, start1.e0, start1.about1, start1.theMethod, start1.args0, start1.below0, start1.atStart⟩
end Jvm.Pilot.@@N@@
