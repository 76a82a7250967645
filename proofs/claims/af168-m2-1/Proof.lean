import JvmDerived
import JvmDerived.Pilot.@@N@@Statement
import JvmDerived.Pilot.@@N@@Code
set_option linter.unusedVariables false
set_option linter.unusedSimpArgs false
namespace Jvm.Own
open Jvm Sem ClassFile Op Lib Jvm.Stand Jvm.Free Jvm.LawKit Jvm.RoadKit
section Kit
/-- the fixed surroundings of one body's walk -/
def Cx (own : String) (code : ByteArray) (mL : Nat) (ret : Option FieldType) (mn : String) (n0 : Nat) (Z : State) (p : Program) (l : Launch) (e : Env) (R : Room) (s : State) (m : MethodId) (args : Array Value) (below : List Frame) (meth : Method) (c : Code) : Prop :=
  p.tables.exec = Jvm.exec ∧ c.code = code ∧ c.maxLocals = mL ∧ meth.sig.returnType = ret ∧ meth.locks = false ∧ s.vm.findClass own = some m.cls ∧ Z.Warmed39 s.vm ∧ meth.name = mn
/-- where the walk stands: k cells and n slots made so far, the heap h -/
def St (n0 : Nat) (p : Program) (l : Launch) (e : Env) (R : Room) (s : State) (m : MethodId) (args : Array Value) (below : List Frame) (meth : Method) (c : Code) (k n : Nat) (h : Heap) (T : State) : Prop :=
  ∃ locs, Stand p l e R s m args below meth c T locs k n ∧ T.heap = h ∧ Fr n0 locs ∧ n0 ≤ h.size
/-- from here the body comes to its end, and Q holds there -/
def Wp (n0 : Nat) (p : Program) (e : Env) (R : Room) (s : State) (below : List Frame) (Q : Option Value → Heap → Prop) (T : State) (g : JFrame) : Prop :=
  ∃ s₂ o, Steps p.tables e below (T.setTop g) s₂ ∧ s₂.status = .running ∧ Ended s₂ below o ∧ ∃ v L, o = .returned v ∧ (Q v s₂.heap ∧ n0 ≤ s₂.heap.size ∧ Fr n0 L) ∧ FrameEnd s o s₂ L R.cells R.slots
/-- a body's contract: entered with the arguments as' at the heap h it returns, and Q holds of what it returns and of the heap -/
def Met (n0 : Nat) (l : Launch) (Z : State) (y : MethodName) (bytes : ByteArray) (mL : Nat) (ret : Option FieldType) (rm : Room) (ws : List Jvm.Cond) (as' : Array Value) (h : Heap) (Q : Option Value → Heap → Prop) : Prop :=
  MetFree l y (head1 (Jvm.Cond.code y bytes mL ret :: ws) rm) (fun a U => a = as' ∧ Z.Warmed39 U.vm ∧ U.heap = h) (fun _ _ _ _ _ => True) (fun _ U o U' => ∃ v L, o = .returned v ∧ (Q v U'.heap ∧ n0 ≤ U'.heap.size ∧ Fr n0 L) ∧ FrameEnd U o U' L rm.cells rm.slots)
def Dc (code : ByteArray) (pc : Nat) (i : Instr) (len q : Nat) : Prop := decode code pc = .ok (i, len) ∧ pc + len = q
def Bc (code : ByteArray) (pc : Nat) (i : Instr) (o : Int) (q q' : Nat) : Prop := decode code pc = .ok (i, 3) ∧ pc + 3 = q ∧ 0 ≤ (pc : Int) + o ∧ ((pc : Int) + o).toNat = q'
/-- the place i that the int j names -/
def Ix (j : Int32) (i : Nat) : Prop := ¬ j < 0 ∧ j.toNatClampNeg = i
/-- an array of the values vs -/
def VA (Z : State) (h : Heap) (a : Addr) (ty : FieldType) (vs : List Value) : Prop := ∃ cl : Cell, Arr Z h a cl ty ∧ cl.slots = vs.toArray
variable {own : String} {code : ByteArray} {mL : Nat} {ret : Option FieldType} {mn : String} {n0 : Nat} {Z : State} {p : Program} {l : Launch} {e : Env} {R : Room} {s : State} {m : MethodId} {args : Array Value} {below : List Frame} {meth : Method} {c : Code} {T : State} {k n : Nat} {h h' : Heap} {Q : Option Value → Heap → Prop} {pc q q' : Nat} {Ls l' : Array Slot} {st rest : List Value} {a0 : Array Value} {ty : FieldType} {vs : List Value} {a b : Addr} {v w : Value} {x y : Int32} {X Y : Int64}
theorem VA.ext (F : VA Z h a ty vs) (E : Ext h h') : VA Z h' a ty vs := by obtain ⟨cl, A, r⟩ := F; exact ⟨cl, A.ext E, r⟩
theorem VA.other {sl : Nat} (F : VA Z h a ty vs) (W : Wr h h' b sl v) (ne : a ≠ b) : VA Z h' a ty vs := by obtain ⟨cl, A, r⟩ := F; exact ⟨cl, A.other W ne, r⟩
theorem VA.keep {ws : List Addr} (F : VA Z h a ty vs) (K : Keep h h' ws) (ne : a ∉ ws) : VA Z h' a ty vs := by obtain ⟨cl, A, r⟩ := F; exact ⟨cl, ⟨K.2.1 a cl A.1 ne, A.2⟩, r⟩
theorem VA.lt (F : VA Z h a ty vs) : a < h.size := by obtain ⟨cl, A, r⟩ := F; exact A.lt
theorem VA.wr {i : Nat} (F : VA Z h a ty vs) (W : Wr h h' a i v) : VA Z h' a ty (vs.set i v) := by
  obtain ⟨cl, A, r⟩ := F
  refine ⟨_, Arr.same W A, ?_⟩
  show cl.slots.setIfInBounds i v = _
  rw [r]; simp
theorem wp_mono {T' : State} {g g' : JFrame} (f : ∀ t, Steps p.tables e below (T'.setTop g') t → Steps p.tables e below (T.setTop g) t) (w : Wp n0 p e R s below Q T' g') : Wp n0 p e R s below Q T g := by
  obtain ⟨s₂, o, h1, r⟩ := w; exact ⟨s₂, o, f _ h1, r⟩
theorem nmI (g : ∀ z, z = x → Wp n0 p e R s below Q T (mkF m pc Ls (.int z :: st))) : Wp n0 p e R s below Q T (mkF m pc Ls (.int x :: st)) := g x rfl
theorem nmL (g : ∀ z, z = X → Wp n0 p e R s below Q T (mkF m pc Ls (.long z :: st))) : Wp n0 p e R s below Q T (mkF m pc Ls (.long X :: st)) := g X rfl
def Pu (r : Option Value) (h : Heap) : Option Value → Heap → Prop := fun v h' => v = r ∧ h' = h
def Ef (r : Option Value) (P : Heap → Prop) : Option Value → Heap → Prop := fun v h' => v = r ∧ P h'
def Pr (P : Int32 → Prop) (h : Heap) : Option Value → Heap → Prop := fun v h' => ∃ r, v = some (.int r) ∧ P r ∧ h' = h
def PrL (P : Int64 → Prop) (h : Heap) : Option Value → Heap → Prop := fun v h' => ∃ r, v = some (.long r) ∧ P r ∧ h' = h
def Er (P : Int32 → Heap → Prop) : Option Value → Heap → Prop := fun v h' => ∃ r, v = some (.int r) ∧ P r h'
def Ea (P : Addr → Heap → Prop) : Option Value → Heap → Prop := fun v h' => ∃ r, v = some (.ref r) ∧ P r h'
theorem own_b01 {x : Int32} (h : x.toInt = 0 ∨ x.toInt = 1) : nar .boolean x = x := by
  rcases h with h | h
  · have e : x = 0 := Int32.toInt_inj.mp h
    subst e; rfl
  · have e : x = 1 := Int32.toInt_inj.mp h
    subst e; rfl
theorem own_eqz {x y : Int32} (h : x.toInt = y.toInt) : x = y := Int32.toInt_inj.mp h
theorem own_eqZ {x y : Int64} (h : x.toInt = y.toInt) : x = y := Int64.toInt_inj.mp h
theorem own_lrem (x y : Int64) (d : Int) (hy : y.toInt = d) : (0 ≤ x.toInt → (x % y).toInt = x.toInt % d) ∧ (x.toInt < 0 → (x % y).toInt = -((-x.toInt) % d)) := by rw [Int64.toInt_mod, hy]; exact tr _ _
theorem own_nz {y : Int32} (h : 0 < y.toInt) : y ≠ 0 := fun q => by rw [q] at h; exact absurd h (by decide)
theorem own_nneg {x : Int32} (h : 0 ≤ x.toInt) : ¬ x < 0 := fun q => by
  have q' := Int32.lt_iff_toInt_lt.mp q
  have z0 : (0 : Int32).toInt = 0 := rfl
  omega
theorem own_cl {x : Int32} (h : 0 ≤ x.toInt) : (x.toNatClampNeg : Int) = x.toInt := by
  have e : x.toNatClampNeg = x.toInt.toNat := rfl
  omega
theorem own_ix {x : Int32} (h : 0 ≤ x.toInt) : Ix x x.toInt.toNat := ⟨own_nneg h, rfl⟩
theorem stO {i : Nat} {o : Slot} (ho : One o) (hold : Ls[i]? = some o) (hv : v.category = 1) (he : Ls.setIfInBounds i (.val v) = l') : storeLocals Ls i v = some l' := he ▸ XS.store1 hold ho hv
theorem Sle (S : St n0 p l e R s m args below meth c k n h T) : n0 ≤ h.size := by obtain ⟨_, _, _, _, z⟩ := S; exact z
theorem more {k' n' : Nat} (S : St n0 p l e R s m args below meth c k n h T) (hk : k ≤ k') (hn : n ≤ n') : St n0 p l e R s m args below meth c k' n' h T := by
  obtain ⟨locs, S, r⟩ := S; exact ⟨locs, S.more hk hn, r⟩
theorem pu {r : Option Value} (g : ∀ T, St n0 p l e R s m args below meth c k n h T → Wp n0 p e R s below Q T (mkF m q Ls (r.toList ++ rest))) : ∀ T v h', Pu r h v h' → St n0 p l e R s m args below meth c k n h' T → Wp n0 p e R s below Q T (mkF m q Ls (v.toList ++ rest)) := by
  intro T v h' hq S; obtain ⟨rfl, rfl⟩ := hq; exact g T S
theorem ef {r : Option Value} {P : Heap → Prop} (g : ∀ T h', P h' → St n0 p l e R s m args below meth c k n h' T → Wp n0 p e R s below Q T (mkF m q Ls (r.toList ++ rest))) : ∀ T v h', Ef r P v h' → St n0 p l e R s m args below meth c k n h' T → Wp n0 p e R s below Q T (mkF m q Ls (v.toList ++ rest)) := by
  intro T v h' hq S; obtain ⟨rfl, hp⟩ := hq; exact g T h' hp S
theorem pr {P : Int32 → Prop} (g : ∀ T r, P r → St n0 p l e R s m args below meth c k n h T → Wp n0 p e R s below Q T (mkF m q Ls (.int r :: rest))) : ∀ T v h', Pr P h v h' → St n0 p l e R s m args below meth c k n h' T → Wp n0 p e R s below Q T (mkF m q Ls (v.toList ++ rest)) := by
  intro T v h' hq S; obtain ⟨r, rfl, hp, rfl⟩ := hq; exact g T r hp S
theorem prL {P : Int64 → Prop} (g : ∀ T r, P r → St n0 p l e R s m args below meth c k n h T → Wp n0 p e R s below Q T (mkF m q Ls (.long r :: rest))) : ∀ T v h', PrL P h v h' → St n0 p l e R s m args below meth c k n h' T → Wp n0 p e R s below Q T (mkF m q Ls (v.toList ++ rest)) := by
  intro T v h' hq S; obtain ⟨r, rfl, hp, rfl⟩ := hq; exact g T r hp S
theorem er {P : Int32 → Heap → Prop} (g : ∀ T r h', P r h' → St n0 p l e R s m args below meth c k n h' T → Wp n0 p e R s below Q T (mkF m q Ls (.int r :: rest))) : ∀ T v h', Er P v h' → St n0 p l e R s m args below meth c k n h' T → Wp n0 p e R s below Q T (mkF m q Ls (v.toList ++ rest)) := by
  intro T v h' hq S; obtain ⟨r, rfl, hp⟩ := hq; exact g T r h' hp S
theorem ea {P : Addr → Heap → Prop} (g : ∀ T r h', P r h' → St n0 p l e R s m args below meth c k n h' T → Wp n0 p e R s below Q T (mkF m q Ls (.ref r :: rest))) : ∀ T v h', Ea P v h' → St n0 p l e R s m args below meth c k n h' T → Wp n0 p e R s below Q T (mkF m q Ls (v.toList ++ rest)) := by
  intro T v h' hq S; obtain ⟨r, rfl, hp⟩ := hq; exact g T r h' hp S
theorem enter {y : MethodName} {bytes : ByteArray} {rm : Room} {ws : List Jvm.Cond} {as' : Array Value} (hpn : plainFor y = true) (ef : ∀ m, entryFrame m as' mL = mkF m 0 Ls []) (hn : n0 ≤ h.size)
    (body : ∀ p e s m below meth c T, Cx y.cls bytes mL ret y.name n0 Z p l e rm s m as' below meth c → St n0 p l e rm s m as' below meth c 0 0 h T → Wp n0 p e rm s below Q T (mkF m 0 Ls [])) : Met n0 l Z y bytes mL ret rm ws as' h Q := by
  refine MetFree.of_bodySF hpn hisR ?_
  intro p e s m args below meth c s₁ Bd hml0 hP hK
  obtain ⟨rfl, hZ, hh⟩ := hP
  have e0 : s₁.heap = h := by rw [← hh, Bd.state]; rfl
  have w := body p e s m below meth c s₁ ⟨Bd.exec, Bd.bytes, hml0, Bd.returns, Bd.notSynchronized, findClass_of_methodNamed Bd.named, hZ, (name_of_methodNamed Bd.named Bd.method).1⟩ ⟨[], Stand.of_body Bd, e0, Fr.nil n0, hn⟩
  obtain ⟨s₂, o, h1, r⟩ := w
  exact ⟨s₂, o, castTop (ef m) h1, r⟩
theorem iadd (K : Cx own code mL ret mn n0 Z p l e R s m args below meth c) (S : St n0 p l e R s m args below meth c k n h T) (hd : Dc code pc (.iadd) 1 q) (g : Wp n0 p e R s below Q T (mkF m q Ls (.int (x + y) :: st))) : Wp n0 p e R s below Q T (mkF m pc Ls (.int y :: .int x :: st)) := by
  obtain ⟨hx, hby, -⟩ := K; obtain ⟨locs, S, -, -⟩ := S; obtain ⟨hd, rfl⟩ := hd
  exact wp_mono (fun t hr => XS.iadd S.here hx rfl (hb hby hd) rfl hr) g
theorem isub (K : Cx own code mL ret mn n0 Z p l e R s m args below meth c) (S : St n0 p l e R s m args below meth c k n h T) (hd : Dc code pc (.isub) 1 q) (g : Wp n0 p e R s below Q T (mkF m q Ls (.int (x - y) :: st))) : Wp n0 p e R s below Q T (mkF m pc Ls (.int y :: .int x :: st)) := by
  obtain ⟨hx, hby, -⟩ := K; obtain ⟨locs, S, -, -⟩ := S; obtain ⟨hd, rfl⟩ := hd
  exact wp_mono (fun t hr => XS.isub S.here hx rfl (hb hby hd) rfl hr) g
theorem imul (K : Cx own code mL ret mn n0 Z p l e R s m args below meth c) (S : St n0 p l e R s m args below meth c k n h T) (hd : Dc code pc (.imul) 1 q) (g : Wp n0 p e R s below Q T (mkF m q Ls (.int (x * y) :: st))) : Wp n0 p e R s below Q T (mkF m pc Ls (.int y :: .int x :: st)) := by
  obtain ⟨hx, hby, -⟩ := K; obtain ⟨locs, S, -, -⟩ := S; obtain ⟨hd, rfl⟩ := hd
  exact wp_mono (fun t hr => XS.imul S.here hx rfl (hb hby hd) rfl hr) g
theorem iand (K : Cx own code mL ret mn n0 Z p l e R s m args below meth c) (S : St n0 p l e R s m args below meth c k n h T) (hd : Dc code pc (.iand) 1 q) (g : Wp n0 p e R s below Q T (mkF m q Ls (.int (x &&& y) :: st))) : Wp n0 p e R s below Q T (mkF m pc Ls (.int y :: .int x :: st)) := by
  obtain ⟨hx, hby, -⟩ := K; obtain ⟨locs, S, -, -⟩ := S; obtain ⟨hd, rfl⟩ := hd
  exact wp_mono (fun t hr => XS.iand S.here hx rfl (hb hby hd) rfl hr) g
theorem ior (K : Cx own code mL ret mn n0 Z p l e R s m args below meth c) (S : St n0 p l e R s m args below meth c k n h T) (hd : Dc code pc (.ior) 1 q) (g : Wp n0 p e R s below Q T (mkF m q Ls (.int (x ||| y) :: st))) : Wp n0 p e R s below Q T (mkF m pc Ls (.int y :: .int x :: st)) := by
  obtain ⟨hx, hby, -⟩ := K; obtain ⟨locs, S, -, -⟩ := S; obtain ⟨hd, rfl⟩ := hd
  exact wp_mono (fun t hr => XT.ior S.here hx rfl (hb hby hd) rfl hr) g
theorem ixor (K : Cx own code mL ret mn n0 Z p l e R s m args below meth c) (S : St n0 p l e R s m args below meth c k n h T) (hd : Dc code pc (.ixor) 1 q) (g : Wp n0 p e R s below Q T (mkF m q Ls (.int (x ^^^ y) :: st))) : Wp n0 p e R s below Q T (mkF m pc Ls (.int y :: .int x :: st)) := by
  obtain ⟨hx, hby, -⟩ := K; obtain ⟨locs, S, -, -⟩ := S; obtain ⟨hd, rfl⟩ := hd
  exact wp_mono (fun t hr => XT.ixor S.here hx rfl (hb hby hd) rfl hr) g
theorem ishl (K : Cx own code mL ret mn n0 Z p l e R s m args below meth c) (S : St n0 p l e R s m args below meth c k n h T) (hd : Dc code pc (.ishl) 1 q) (g : Wp n0 p e R s below Q T (mkF m q Ls (.int (x <<< (y &&& 31)) :: st))) : Wp n0 p e R s below Q T (mkF m pc Ls (.int y :: .int x :: st)) := by
  obtain ⟨hx, hby, -⟩ := K; obtain ⟨locs, S, -, -⟩ := S; obtain ⟨hd, rfl⟩ := hd
  exact wp_mono (fun t hr => XT.ishl S.here hx rfl (hb hby hd) rfl hr) g
theorem ishr (K : Cx own code mL ret mn n0 Z p l e R s m args below meth c) (S : St n0 p l e R s m args below meth c k n h T) (hd : Dc code pc (.ishr) 1 q) (g : Wp n0 p e R s below Q T (mkF m q Ls (.int (x >>> (y &&& 31)) :: st))) : Wp n0 p e R s below Q T (mkF m pc Ls (.int y :: .int x :: st)) := by
  obtain ⟨hx, hby, -⟩ := K; obtain ⟨locs, S, -, -⟩ := S; obtain ⟨hd, rfl⟩ := hd
  exact wp_mono (fun t hr => XT.ishr S.here hx rfl (hb hby hd) rfl hr) g
theorem iushr (K : Cx own code mL ret mn n0 Z p l e R s m args below meth c) (S : St n0 p l e R s m args below meth c k n h T) (hd : Dc code pc (.iushr) 1 q) (g : Wp n0 p e R s below Q T (mkF m q Ls (.int (XT.ushr x y) :: st))) : Wp n0 p e R s below Q T (mkF m pc Ls (.int y :: .int x :: st)) := by
  obtain ⟨hx, hby, -⟩ := K; obtain ⟨locs, S, -, -⟩ := S; obtain ⟨hd, rfl⟩ := hd
  exact wp_mono (fun t hr => XT.iushr S.here hx rfl (hb hby hd) rfl hr) g
theorem idiv (K : Cx own code mL ret mn n0 Z p l e R s m args below meth c) (S : St n0 p l e R s m args below meth c k n h T) (hy : y ≠ 0) (hd : Dc code pc (.idiv) 1 q) (g : Wp n0 p e R s below Q T (mkF m q Ls (.int (x / y) :: st))) : Wp n0 p e R s below Q T (mkF m pc Ls (.int y :: .int x :: st)) := by
  obtain ⟨hx, hby, -⟩ := K; obtain ⟨locs, S, -, -⟩ := S; obtain ⟨hd, rfl⟩ := hd
  exact wp_mono (fun t hr => XS.idiv S.here hx rfl (hb hby hd) rfl hy hr) g
theorem irem (K : Cx own code mL ret mn n0 Z p l e R s m args below meth c) (S : St n0 p l e R s m args below meth c k n h T) (hy : y ≠ 0) (hd : Dc code pc (.irem) 1 q) (g : Wp n0 p e R s below Q T (mkF m q Ls (.int (x % y) :: st))) : Wp n0 p e R s below Q T (mkF m pc Ls (.int y :: .int x :: st)) := by
  obtain ⟨hx, hby, -⟩ := K; obtain ⟨locs, S, -, -⟩ := S; obtain ⟨hd, rfl⟩ := hd
  exact wp_mono (fun t hr => iremM S hx rfl (hb hby hd) rfl hy hr) g
theorem ladd (K : Cx own code mL ret mn n0 Z p l e R s m args below meth c) (S : St n0 p l e R s m args below meth c k n h T) (hd : Dc code pc (.ladd) 1 q) (g : Wp n0 p e R s below Q T (mkF m q Ls (.long (X + Y) :: st))) : Wp n0 p e R s below Q T (mkF m pc Ls (.long Y :: .long X :: st)) := by
  obtain ⟨hx, hby, -⟩ := K; obtain ⟨locs, S, -, -⟩ := S; obtain ⟨hd, rfl⟩ := hd
  exact wp_mono (fun t hr => XT.ladd S.here hx rfl (hb hby hd) rfl hr) g
theorem lsub (K : Cx own code mL ret mn n0 Z p l e R s m args below meth c) (S : St n0 p l e R s m args below meth c k n h T) (hd : Dc code pc (.lsub) 1 q) (g : Wp n0 p e R s below Q T (mkF m q Ls (.long (X - Y) :: st))) : Wp n0 p e R s below Q T (mkF m pc Ls (.long Y :: .long X :: st)) := by
  obtain ⟨hx, hby, -⟩ := K; obtain ⟨locs, S, -, -⟩ := S; obtain ⟨hd, rfl⟩ := hd
  exact wp_mono (fun t hr => XT.lsub S.here hx rfl (hb hby hd) rfl hr) g
theorem lmul (K : Cx own code mL ret mn n0 Z p l e R s m args below meth c) (S : St n0 p l e R s m args below meth c k n h T) (hd : Dc code pc (.lmul) 1 q) (g : Wp n0 p e R s below Q T (mkF m q Ls (.long (X * Y) :: st))) : Wp n0 p e R s below Q T (mkF m pc Ls (.long Y :: .long X :: st)) := by
  obtain ⟨hx, hby, -⟩ := K; obtain ⟨locs, S, -, -⟩ := S; obtain ⟨hd, rfl⟩ := hd
  exact wp_mono (fun t hr => XT.lmul S.here hx rfl (hb hby hd) rfl hr) g
theorem land (K : Cx own code mL ret mn n0 Z p l e R s m args below meth c) (S : St n0 p l e R s m args below meth c k n h T) (hd : Dc code pc (.land) 1 q) (g : Wp n0 p e R s below Q T (mkF m q Ls (.long (X &&& Y) :: st))) : Wp n0 p e R s below Q T (mkF m pc Ls (.long Y :: .long X :: st)) := by
  obtain ⟨hx, hby, -⟩ := K; obtain ⟨locs, S, -, -⟩ := S; obtain ⟨hd, rfl⟩ := hd
  exact wp_mono (fun t hr => XT.land S.here hx rfl (hb hby hd) rfl hr) g
theorem ldiv (K : Cx own code mL ret mn n0 Z p l e R s m args below meth c) (S : St n0 p l e R s m args below meth c k n h T) (hy : Y ≠ 0) (hd : Dc code pc (.ldiv) 1 q) (g : Wp n0 p e R s below Q T (mkF m q Ls (.long (X / Y) :: st))) : Wp n0 p e R s below Q T (mkF m pc Ls (.long Y :: .long X :: st)) := by
  obtain ⟨hx, hby, -⟩ := K; obtain ⟨locs, S, -, -⟩ := S; obtain ⟨hd, rfl⟩ := hd
  exact wp_mono (fun t hr => XT.ldiv S.here hx rfl (hb hby hd) rfl hy hr) g
theorem lrem (K : Cx own code mL ret mn n0 Z p l e R s m args below meth c) (S : St n0 p l e R s m args below meth c k n h T) (hy : Y ≠ 0) (hd : Dc code pc (.lrem) 1 q) (g : Wp n0 p e R s below Q T (mkF m q Ls (.long (X % Y) :: st))) : Wp n0 p e R s below Q T (mkF m pc Ls (.long Y :: .long X :: st)) := by
  obtain ⟨hx, hby, -⟩ := K; obtain ⟨locs, S, -, -⟩ := S; obtain ⟨hd, rfl⟩ := hd
  exact wp_mono (fun t hr => XT.lrem S.here hx rfl (hb hby hd) rfl hy (by rw [lrem_mod]; exact hr)) g
theorem lushr (K : Cx own code mL ret mn n0 Z p l e R s m args below meth c) (S : St n0 p l e R s m args below meth c k n h T) (hd : Dc code pc (.lushr) 1 q) (g : Wp n0 p e R s below Q T (mkF m q Ls (.long (XT.ushrL X y) :: st))) : Wp n0 p e R s below Q T (mkF m pc Ls (.int y :: .long X :: st)) := by
  obtain ⟨hx, hby, -⟩ := K; obtain ⟨locs, S, -, -⟩ := S; obtain ⟨hd, rfl⟩ := hd
  exact wp_mono (fun t hr => XT.lushr S.here hx rfl (hb hby hd) rfl hr) g
theorem i2l (K : Cx own code mL ret mn n0 Z p l e R s m args below meth c) (S : St n0 p l e R s m args below meth c k n h T) (hd : Dc code pc (.i2l) 1 q) (g : Wp n0 p e R s below Q T (mkF m q Ls (.long x.toInt64 :: st))) : Wp n0 p e R s below Q T (mkF m pc Ls (.int x :: st)) := by
  obtain ⟨hx, hby, -⟩ := K; obtain ⟨locs, S, -, -⟩ := S; obtain ⟨hd, rfl⟩ := hd
  exact wp_mono (fun t hr => XT.i2l S.here hx rfl (hb hby hd) rfl hr) g
theorem l2i (K : Cx own code mL ret mn n0 Z p l e R s m args below meth c) (S : St n0 p l e R s m args below meth c k n h T) (hd : Dc code pc (.l2i) 1 q) (g : Wp n0 p e R s below Q T (mkF m q Ls (.int X.toInt32 :: st))) : Wp n0 p e R s below Q T (mkF m pc Ls (.long X :: st)) := by
  obtain ⟨hx, hby, -⟩ := K; obtain ⟨locs, S, -, -⟩ := S; obtain ⟨hd, rfl⟩ := hd
  exact wp_mono (fun t hr => XT.l2i S.here hx rfl (hb hby hd) rfl hr) g
theorem i2b (K : Cx own code mL ret mn n0 Z p l e R s m args below meth c) (S : St n0 p l e R s m args below meth c k n h T) (hd : Dc code pc (.i2b) 1 q) (g : Wp n0 p e R s below Q T (mkF m q Ls (.int x.toInt8.toInt32 :: st))) : Wp n0 p e R s below Q T (mkF m pc Ls (.int x :: st)) := by
  obtain ⟨hx, hby, -⟩ := K; obtain ⟨locs, S, -, -⟩ := S; obtain ⟨hd, rfl⟩ := hd
  exact wp_mono (fun t hr => XT.i2b S.here hx rfl (hb hby hd) rfl hr) g
theorem i2s (K : Cx own code mL ret mn n0 Z p l e R s m args below meth c) (S : St n0 p l e R s m args below meth c k n h T) (hd : Dc code pc (.i2s) 1 q) (g : Wp n0 p e R s below Q T (mkF m q Ls (.int x.toInt16.toInt32 :: st))) : Wp n0 p e R s below Q T (mkF m pc Ls (.int x :: st)) := by
  obtain ⟨hx, hby, -⟩ := K; obtain ⟨locs, S, -, -⟩ := S; obtain ⟨hd, rfl⟩ := hd
  exact wp_mono (fun t hr => XT.i2s S.here hx rfl (hb hby hd) rfl hr) g
theorem i2c (K : Cx own code mL ret mn n0 Z p l e R s m args below meth c) (S : St n0 p l e R s m args below meth c k n h T) (hd : Dc code pc (.i2c) 1 q) (g : Wp n0 p e R s below Q T (mkF m q Ls (.int x.toUInt32.toUInt16.toUInt32.toInt32 :: st))) : Wp n0 p e R s below Q T (mkF m pc Ls (.int x :: st)) := by
  obtain ⟨hx, hby, -⟩ := K; obtain ⟨locs, S, -, -⟩ := S; obtain ⟨hd, rfl⟩ := hd
  exact wp_mono (fun t hr => XT.i2c S.here hx rfl (hb hby hd) rfl hr) g
theorem iconst (K : Cx own code mL ret mn n0 Z p l e R s m args below meth c) (S : St n0 p l e R s m args below meth c k n h T) {i : Int} (hv : Int32.ofInt i = x) (hd : Dc code pc (.iconst i) 1 q) (g : Wp n0 p e R s below Q T (mkF m q Ls (.int x :: st))) : Wp n0 p e R s below Q T (mkF m pc Ls st) := by
  obtain ⟨hx, hby, -⟩ := K; obtain ⟨locs, S, -, -⟩ := S; obtain ⟨hd, rfl⟩ := hd
  exact wp_mono (fun t hr => XS.iconst S.here hx rfl (hb hby hd) (by rw [hv]; exact hr)) g
theorem bipush (K : Cx own code mL ret mn n0 Z p l e R s m args below meth c) (S : St n0 p l e R s m args below meth c k n h T) {i : Int} (hv : (Int8.ofInt i).toInt32 = x) (hd : Dc code pc (.bipush i) 2 q) (g : Wp n0 p e R s below Q T (mkF m q Ls (.int x :: st))) : Wp n0 p e R s below Q T (mkF m pc Ls st) := by
  obtain ⟨hx, hby, -⟩ := K; obtain ⟨locs, S, -, -⟩ := S; obtain ⟨hd, rfl⟩ := hd
  exact wp_mono (fun t hr => XS.bipush S.here hx rfl (hb hby hd) (by rw [hv]; exact hr)) g
theorem sipush (K : Cx own code mL ret mn n0 Z p l e R s m args below meth c) (S : St n0 p l e R s m args below meth c k n h T) {i : Int} (hv : (Int16.ofInt i).toInt32 = x) (hd : Dc code pc (.sipush i) 3 q) (g : Wp n0 p e R s below Q T (mkF m q Ls (.int x :: st))) : Wp n0 p e R s below Q T (mkF m pc Ls st) := by
  obtain ⟨hx, hby, -⟩ := K; obtain ⟨locs, S, -, -⟩ := S; obtain ⟨hd, rfl⟩ := hd
  exact wp_mono (fun t hr => XS.sipush S.here hx rfl (hb hby hd) (by rw [hv]; exact hr)) g
theorem lconst (K : Cx own code mL ret mn n0 Z p l e R s m args below meth c) (S : St n0 p l e R s m args below meth c k n h T) {i : Fin 2} (hv : Int64.ofNat i = X) (hd : Dc code pc (.lconst i) 1 q) (g : Wp n0 p e R s below Q T (mkF m q Ls (.long X :: st))) : Wp n0 p e R s below Q T (mkF m pc Ls st) := by
  obtain ⟨hx, hby, -⟩ := K; obtain ⟨locs, S, -, -⟩ := S; obtain ⟨hd, rfl⟩ := hd
  exact wp_mono (fun t hr => XT.lconst S.here hx rfl (hb hby hd) (by rw [hv]; exact hr)) g
theorem anull (K : Cx own code mL ret mn n0 Z p l e R s m args below meth c) (S : St n0 p l e R s m args below meth c k n h T) (hd : Dc code pc (.aconst_null) 1 q) (g : Wp n0 p e R s below Q T (mkF m q Ls (.null :: st))) : Wp n0 p e R s below Q T (mkF m pc Ls st) := by
  obtain ⟨hx, hby, -⟩ := K; obtain ⟨locs, S, -, -⟩ := S; obtain ⟨hd, rfl⟩ := hd
  exact wp_mono (fun t hr => XS.aconstNull S.here hx rfl (hb hby hd) hr) g
theorem dup (K : Cx own code mL ret mn n0 Z p l e R s m args below meth c) (S : St n0 p l e R s m args below meth c k n h T) (hc : v.category = 1) (hd : Dc code pc (.dup) 1 q) (g : Wp n0 p e R s below Q T (mkF m q Ls (v :: v :: st))) : Wp n0 p e R s below Q T (mkF m pc Ls (v :: st)) := by
  obtain ⟨hx, hby, -⟩ := K; obtain ⟨locs, S, -, -⟩ := S; obtain ⟨hd, rfl⟩ := hd
  exact wp_mono (fun t hr => XS.dup S.here hx rfl (hb hby hd) rfl hc hr) g
theorem pop (K : Cx own code mL ret mn n0 Z p l e R s m args below meth c) (S : St n0 p l e R s m args below meth c k n h T) (hc : v.category = 1) (hd : Dc code pc (.pop) 1 q) (g : Wp n0 p e R s below Q T (mkF m q Ls st)) : Wp n0 p e R s below Q T (mkF m pc Ls (v :: st)) := by
  obtain ⟨hx, hby, -⟩ := K; obtain ⟨locs, S, -, -⟩ := S; obtain ⟨hd, rfl⟩ := hd
  exact wp_mono (fun t hr => XT.pop S.here hx rfl (hb hby hd) rfl hc hr) g
theorem dup_x1 (K : Cx own code mL ret mn n0 Z p l e R s m args below meth c) (S : St n0 p l e R s m args below meth c k n h T) (hc : v.category = 1) (hc' : w.category = 1) (hd : Dc code pc (.dup_x1) 1 q) (g : Wp n0 p e R s below Q T (mkF m q Ls (v :: w :: v :: st))) : Wp n0 p e R s below Q T (mkF m pc Ls (v :: w :: st)) := by
  obtain ⟨hx, hby, -⟩ := K; obtain ⟨locs, S, -, -⟩ := S; obtain ⟨hd, rfl⟩ := hd
  exact wp_mono (fun t hr => XT.dupX1 S.here hx rfl (hb hby hd) rfl hc hc' hr) g
theorem dup2 (K : Cx own code mL ret mn n0 Z p l e R s m args below meth c) (S : St n0 p l e R s m args below meth c k n h T) (hc : v.category = 1) (hc' : w.category = 1) (hd : Dc code pc (.dup2) 1 q) (g : Wp n0 p e R s below Q T (mkF m q Ls (v :: w :: v :: w :: st))) : Wp n0 p e R s below Q T (mkF m pc Ls (v :: w :: st)) := by
  obtain ⟨hx, hby, -⟩ := K; obtain ⟨locs, S, -, -⟩ := S; obtain ⟨hd, rfl⟩ := hd
  exact wp_mono (fun t hr => XT.dup2 S.here hx rfl (hb hby hd) rfl hc hc' hr) g
theorem iload (K : Cx own code mL ret mn n0 Z p l e R s m args below meth c) (S : St n0 p l e R s m args below meth c k n h T) {i : Nat} (hl : Ls[i]? = some (.val (.int x))) (hd : Dc code pc (.iload i) 2 q) (g : Wp n0 p e R s below Q T (mkF m q Ls (.int x :: st))) : Wp n0 p e R s below Q T (mkF m pc Ls st) := by
  obtain ⟨hx, hby, -⟩ := K; obtain ⟨locs, S, -, -⟩ := S; obtain ⟨hd, rfl⟩ := hd
  exact wp_mono (fun t hr => XS.iload S.here hx rfl (hb hby hd) hl hr) g
theorem iload_n (K : Cx own code mL ret mn n0 Z p l e R s m args below meth c) (S : St n0 p l e R s m args below meth c k n h T) {i : Fin 4} (hl : Ls[i.val]? = some (.val (.int x))) (hd : Dc code pc (.iload_n i) 1 q) (g : Wp n0 p e R s below Q T (mkF m q Ls (.int x :: st))) : Wp n0 p e R s below Q T (mkF m pc Ls st) := by
  obtain ⟨hx, hby, -⟩ := K; obtain ⟨locs, S, -, -⟩ := S; obtain ⟨hd, rfl⟩ := hd
  exact wp_mono (fun t hr => XS.iloadN S.here hx rfl (hb hby hd) hl hr) g
theorem aload (K : Cx own code mL ret mn n0 Z p l e R s m args below meth c) (S : St n0 p l e R s m args below meth c k n h T) {i : Nat} (hl : Ls[i]? = some (.val (v))) (hv : v.isRef = true) (hd : Dc code pc (.aload i) 2 q) (g : Wp n0 p e R s below Q T (mkF m q Ls (v :: st))) : Wp n0 p e R s below Q T (mkF m pc Ls st) := by
  obtain ⟨hx, hby, -⟩ := K; obtain ⟨locs, S, -, -⟩ := S; obtain ⟨hd, rfl⟩ := hd
  exact wp_mono (fun t hr => XS.aload S.here hx rfl (hb hby hd) hl hv hr) g
theorem aload_n (K : Cx own code mL ret mn n0 Z p l e R s m args below meth c) (S : St n0 p l e R s m args below meth c k n h T) {i : Fin 4} (hl : Ls[i.val]? = some (.val (v))) (hv : v.isRef = true) (hd : Dc code pc (.aload_n i) 1 q) (g : Wp n0 p e R s below Q T (mkF m q Ls (v :: st))) : Wp n0 p e R s below Q T (mkF m pc Ls st) := by
  obtain ⟨hx, hby, -⟩ := K; obtain ⟨locs, S, -, -⟩ := S; obtain ⟨hd, rfl⟩ := hd
  exact wp_mono (fun t hr => XS.aloadN S.here hx rfl (hb hby hd) hl hv hr) g
theorem lload (K : Cx own code mL ret mn n0 Z p l e R s m args below meth c) (S : St n0 p l e R s m args below meth c k n h T) {i : Nat} (hl : Ls[i]? = some (.val (.long X))) (hd : Dc code pc (.lload i) 2 q) (g : Wp n0 p e R s below Q T (mkF m q Ls (.long X :: st))) : Wp n0 p e R s below Q T (mkF m pc Ls st) := by
  obtain ⟨hx, hby, -⟩ := K; obtain ⟨locs, S, -, -⟩ := S; obtain ⟨hd, rfl⟩ := hd
  exact wp_mono (fun t hr => XT.lload S.here hx rfl (hb hby hd) hl hr) g
theorem lload_n (K : Cx own code mL ret mn n0 Z p l e R s m args below meth c) (S : St n0 p l e R s m args below meth c k n h T) {i : Fin 4} (hl : Ls[i.val]? = some (.val (.long X))) (hd : Dc code pc (.lload_n i) 1 q) (g : Wp n0 p e R s below Q T (mkF m q Ls (.long X :: st))) : Wp n0 p e R s below Q T (mkF m pc Ls st) := by
  obtain ⟨hx, hby, -⟩ := K; obtain ⟨locs, S, -, -⟩ := S; obtain ⟨hd, rfl⟩ := hd
  exact wp_mono (fun t hr => XT.lloadN S.here hx rfl (hb hby hd) hl hr) g
theorem istore (K : Cx own code mL ret mn n0 Z p l e R s m args below meth c) (S : St n0 p l e R s m args below meth c k n h T) {i : Nat} (hl : storeLocals Ls i (.int x) = some l') (hd : Dc code pc (.istore i) 2 q) (g : Wp n0 p e R s below Q T (mkF m q l' st)) : Wp n0 p e R s below Q T (mkF m pc Ls (.int x :: st)) := by
  obtain ⟨hx, hby, -⟩ := K; obtain ⟨locs, S, -, -⟩ := S; obtain ⟨hd, rfl⟩ := hd
  exact wp_mono (fun t hr => XS.istore S.here hx rfl (hb hby hd) rfl hl hr) g
theorem istore_n (K : Cx own code mL ret mn n0 Z p l e R s m args below meth c) (S : St n0 p l e R s m args below meth c k n h T) {i : Fin 4} (hl : storeLocals Ls i.val (.int x) = some l') (hd : Dc code pc (.istore_n i) 1 q) (g : Wp n0 p e R s below Q T (mkF m q l' st)) : Wp n0 p e R s below Q T (mkF m pc Ls (.int x :: st)) := by
  obtain ⟨hx, hby, -⟩ := K; obtain ⟨locs, S, -, -⟩ := S; obtain ⟨hd, rfl⟩ := hd
  exact wp_mono (fun t hr => XS.istoreN S.here hx rfl (hb hby hd) rfl hl hr) g
theorem astore (K : Cx own code mL ret mn n0 Z p l e R s m args below meth c) (S : St n0 p l e R s m args below meth c k n h T) {i : Nat} (hv : v.isRef = true) (hl : storeLocals Ls i (v) = some l') (hd : Dc code pc (.astore i) 2 q) (g : Wp n0 p e R s below Q T (mkF m q l' st)) : Wp n0 p e R s below Q T (mkF m pc Ls (v :: st)) := by
  obtain ⟨hx, hby, -⟩ := K; obtain ⟨locs, S, -, -⟩ := S; obtain ⟨hd, rfl⟩ := hd
  exact wp_mono (fun t hr => XS.astore S.here hx rfl (hb hby hd) rfl hv hl hr) g
theorem astore_n (K : Cx own code mL ret mn n0 Z p l e R s m args below meth c) (S : St n0 p l e R s m args below meth c k n h T) {i : Fin 4} (hv : v.isRef = true) (hl : storeLocals Ls i.val (v) = some l') (hd : Dc code pc (.astore_n i) 1 q) (g : Wp n0 p e R s below Q T (mkF m q l' st)) : Wp n0 p e R s below Q T (mkF m pc Ls (v :: st)) := by
  obtain ⟨hx, hby, -⟩ := K; obtain ⟨locs, S, -, -⟩ := S; obtain ⟨hd, rfl⟩ := hd
  exact wp_mono (fun t hr => XS.astoreN S.here hx rfl (hb hby hd) rfl hv hl hr) g
theorem lstore (K : Cx own code mL ret mn n0 Z p l e R s m args below meth c) (S : St n0 p l e R s m args below meth c k n h T) {i : Nat} (hl : storeLocals Ls i (.long X) = some l') (hd : Dc code pc (.lstore i) 2 q) (g : Wp n0 p e R s below Q T (mkF m q l' st)) : Wp n0 p e R s below Q T (mkF m pc Ls (.long X :: st)) := by
  obtain ⟨hx, hby, -⟩ := K; obtain ⟨locs, S, -, -⟩ := S; obtain ⟨hd, rfl⟩ := hd
  exact wp_mono (fun t hr => XT.lstore S.here hx rfl (hb hby hd) rfl hl hr) g
theorem lstore_n (K : Cx own code mL ret mn n0 Z p l e R s m args below meth c) (S : St n0 p l e R s m args below meth c k n h T) {i : Fin 4} (hl : storeLocals Ls i.val (.long X) = some l') (hd : Dc code pc (.lstore_n i) 1 q) (g : Wp n0 p e R s below Q T (mkF m q l' st)) : Wp n0 p e R s below Q T (mkF m pc Ls (.long X :: st)) := by
  obtain ⟨hx, hby, -⟩ := K; obtain ⟨locs, S, -, -⟩ := S; obtain ⟨hd, rfl⟩ := hd
  exact wp_mono (fun t hr => XT.lstoreN S.here hx rfl (hb hby hd) rfl hl hr) g
theorem iinc (K : Cx own code mL ret mn n0 Z p l e R s m args below meth c) (S : St n0 p l e R s m args below meth c k n h T) {i : Nat} {cst : Int} (hv : Int32.ofInt cst = y) (hl : Ls[i]? = some (.val (.int x))) (hl' : storeLocals Ls i (.int (x + y)) = some l') (hd : Dc code pc (.iinc i cst) 3 q) (g : Wp n0 p e R s below Q T (mkF m q l' st)) : Wp n0 p e R s below Q T (mkF m pc Ls st) := by
  obtain ⟨hx, hby, -⟩ := K; obtain ⟨locs, S, -, -⟩ := S; obtain ⟨hd, rfl⟩ := hd
  exact wp_mono (fun t hr => XS.iinc S.here hx rfl (hb hby hd) hl (by rw [hv]; exact hl') hr) g
theorem goto (K : Cx own code mL ret mn n0 Z p l e R s m args below meth c) (S : St n0 p l e R s m args below meth c k n h T) {o : Int} (hd : Bc code pc (.goto o) o q q') (g : Wp n0 p e R s below Q T (mkF m q' Ls st)) : Wp n0 p e R s below Q T (mkF m pc Ls st) := by
  obtain ⟨hx, hby, -⟩ := K; obtain ⟨locs, S, -, -⟩ := S; obtain ⟨hd, -, h1, h2⟩ := hd
  exact wp_mono (fun t hr => XS.goto S.here hx rfl rfl (hb hby hd) h1 h2 hr) g
theorem icmp (K : Cx own code mL ret mn n0 Z p l e R s m args below meth c) (S : St n0 p l e R s m args below meth c k n h T) {o : Int} {cd : ClassFile.Cond} (hd : Bc code pc (.if_icmp cd o) o q q') (g1 : if_icmp.holds cd x y = true → Wp n0 p e R s below Q T (mkF m q' Ls st)) (g2 : if_icmp.holds cd x y = false → Wp n0 p e R s below Q T (mkF m q Ls st)) : Wp n0 p e R s below Q T (mkF m pc Ls (.int y :: .int x :: st)) := by
  obtain ⟨hx, hby, -⟩ := K; obtain ⟨locs, S, -, -⟩ := S; obtain ⟨hd, rfl, h1, h2⟩ := hd
  cases hc : if_icmp.holds cd x y with
  | true => exact wp_mono (fun t hr => XS.icmpYes S.here hx rfl rfl (hb hby hd) rfl hc h1 h2 hr) (g1 hc)
  | false => exact wp_mono (fun t hr => XS.icmpNo S.here hx rfl (hb hby hd) rfl hc hr) (g2 hc)
theorem ific (K : Cx own code mL ret mn n0 Z p l e R s m args below meth c) (S : St n0 p l e R s m args below meth c k n h T) {o : Int} {cd : ClassFile.Cond} (hd : Bc code pc (.ifCond cd o) o q q') (g1 : if_icmp.holds cd x 0 = true → Wp n0 p e R s below Q T (mkF m q' Ls st)) (g2 : if_icmp.holds cd x 0 = false → Wp n0 p e R s below Q T (mkF m q Ls st)) : Wp n0 p e R s below Q T (mkF m pc Ls (.int x :: st)) := by
  obtain ⟨hx, hby, -⟩ := K; obtain ⟨locs, S, -, -⟩ := S; obtain ⟨hd, rfl, h1, h2⟩ := hd
  cases hc : if_icmp.holds cd x 0 with
  | true => exact wp_mono (fun t hr => XS.ifYes S.here hx rfl rfl (hb hby hd) rfl (by rw [if0]; exact hc) h1 h2 hr) (g1 hc)
  | false => exact wp_mono (fun t hr => XS.ifNo S.here hx rfl (hb hby hd) rfl (by rw [if0]; exact hc) hr) (g2 hc)
theorem icmp_lt (K : Cx own code mL ret mn n0 Z p l e R s m args below meth c) (S : St n0 p l e R s m args below meth c k n h T) {o : Int} (hd : Bc code pc (.if_icmp .lt o) o q q') (g1 : x < y → Wp n0 p e R s below Q T (mkF m q' Ls st)) (g2 : ¬ x < y → Wp n0 p e R s below Q T (mkF m q Ls st)) : Wp n0 p e R s below Q T (mkF m pc Ls (.int y :: .int x :: st)) := by
  by_cases hc : x < y
  · exact icmp K S hd (fun _ => g1 hc) (fun q => absurd ((tlt hc).1) (by rw [q]; decide))
  · exact icmp K S hd (fun q => absurd ((flt hc).1) (by rw [q]; decide)) (fun _ => g2 hc)
theorem ific_lt (K : Cx own code mL ret mn n0 Z p l e R s m args below meth c) (S : St n0 p l e R s m args below meth c k n h T) {o : Int} (hd : Bc code pc (.ifCond .lt o) o q q') (g1 : x < 0 → Wp n0 p e R s below Q T (mkF m q' Ls st)) (g2 : ¬ x < 0 → Wp n0 p e R s below Q T (mkF m q Ls st)) : Wp n0 p e R s below Q T (mkF m pc Ls (.int x :: st)) := by
  by_cases hc : x < 0
  · exact ific K S hd (fun _ => g1 hc) (fun q => absurd ((tlt hc).1) (by rw [q]; decide))
  · exact ific K S hd (fun q => absurd ((flt hc).1) (by rw [q]; decide)) (fun _ => g2 hc)
theorem icmp_ge (K : Cx own code mL ret mn n0 Z p l e R s m args below meth c) (S : St n0 p l e R s m args below meth c k n h T) {o : Int} (hd : Bc code pc (.if_icmp .ge o) o q q') (g1 : ¬ x < y → Wp n0 p e R s below Q T (mkF m q' Ls st)) (g2 : x < y → Wp n0 p e R s below Q T (mkF m q Ls st)) : Wp n0 p e R s below Q T (mkF m pc Ls (.int y :: .int x :: st)) := by
  by_cases hc : x < y
  · exact icmp K S hd (fun q => absurd ((tlt hc).2.1) (by rw [q]; decide)) (fun _ => g2 hc)
  · exact icmp K S hd (fun _ => g1 hc) (fun q => absurd ((flt hc).2.1) (by rw [q]; decide))
theorem ific_ge (K : Cx own code mL ret mn n0 Z p l e R s m args below meth c) (S : St n0 p l e R s m args below meth c k n h T) {o : Int} (hd : Bc code pc (.ifCond .ge o) o q q') (g1 : ¬ x < 0 → Wp n0 p e R s below Q T (mkF m q' Ls st)) (g2 : x < 0 → Wp n0 p e R s below Q T (mkF m q Ls st)) : Wp n0 p e R s below Q T (mkF m pc Ls (.int x :: st)) := by
  by_cases hc : x < 0
  · exact ific K S hd (fun q => absurd ((tlt hc).2.1) (by rw [q]; decide)) (fun _ => g2 hc)
  · exact ific K S hd (fun _ => g1 hc) (fun q => absurd ((flt hc).2.1) (by rw [q]; decide))
theorem icmp_gt (K : Cx own code mL ret mn n0 Z p l e R s m args below meth c) (S : St n0 p l e R s m args below meth c k n h T) {o : Int} (hd : Bc code pc (.if_icmp .gt o) o q q') (g1 : y < x → Wp n0 p e R s below Q T (mkF m q' Ls st)) (g2 : ¬ y < x → Wp n0 p e R s below Q T (mkF m q Ls st)) : Wp n0 p e R s below Q T (mkF m pc Ls (.int y :: .int x :: st)) := by
  by_cases hc : y < x
  · exact icmp K S hd (fun _ => g1 hc) (fun q => absurd ((tlt hc).2.2.1) (by rw [q]; decide))
  · exact icmp K S hd (fun q => absurd ((flt hc).2.2.1) (by rw [q]; decide)) (fun _ => g2 hc)
theorem ific_gt (K : Cx own code mL ret mn n0 Z p l e R s m args below meth c) (S : St n0 p l e R s m args below meth c k n h T) {o : Int} (hd : Bc code pc (.ifCond .gt o) o q q') (g1 : 0 < x → Wp n0 p e R s below Q T (mkF m q' Ls st)) (g2 : ¬ 0 < x → Wp n0 p e R s below Q T (mkF m q Ls st)) : Wp n0 p e R s below Q T (mkF m pc Ls (.int x :: st)) := by
  by_cases hc : 0 < x
  · exact ific K S hd (fun _ => g1 hc) (fun q => absurd ((tlt hc).2.2.1) (by rw [q]; decide))
  · exact ific K S hd (fun q => absurd ((flt hc).2.2.1) (by rw [q]; decide)) (fun _ => g2 hc)
theorem icmp_le (K : Cx own code mL ret mn n0 Z p l e R s m args below meth c) (S : St n0 p l e R s m args below meth c k n h T) {o : Int} (hd : Bc code pc (.if_icmp .le o) o q q') (g1 : ¬ y < x → Wp n0 p e R s below Q T (mkF m q' Ls st)) (g2 : y < x → Wp n0 p e R s below Q T (mkF m q Ls st)) : Wp n0 p e R s below Q T (mkF m pc Ls (.int y :: .int x :: st)) := by
  by_cases hc : y < x
  · exact icmp K S hd (fun q => absurd ((tlt hc).2.2.2) (by rw [q]; decide)) (fun _ => g2 hc)
  · exact icmp K S hd (fun _ => g1 hc) (fun q => absurd ((flt hc).2.2.2) (by rw [q]; decide))
theorem ific_le (K : Cx own code mL ret mn n0 Z p l e R s m args below meth c) (S : St n0 p l e R s m args below meth c k n h T) {o : Int} (hd : Bc code pc (.ifCond .le o) o q q') (g1 : ¬ 0 < x → Wp n0 p e R s below Q T (mkF m q' Ls st)) (g2 : 0 < x → Wp n0 p e R s below Q T (mkF m q Ls st)) : Wp n0 p e R s below Q T (mkF m pc Ls (.int x :: st)) := by
  by_cases hc : 0 < x
  · exact ific K S hd (fun q => absurd ((tlt hc).2.2.2) (by rw [q]; decide)) (fun _ => g2 hc)
  · exact ific K S hd (fun _ => g1 hc) (fun q => absurd ((flt hc).2.2.2) (by rw [q]; decide))
theorem icmp_eq (K : Cx own code mL ret mn n0 Z p l e R s m args below meth c) (S : St n0 p l e R s m args below meth c k n h T) {o : Int} (hd : Bc code pc (.if_icmp .eq o) o q q') (g1 : x = y → Wp n0 p e R s below Q T (mkF m q' Ls st)) (g2 : ¬ x = y → Wp n0 p e R s below Q T (mkF m q Ls st)) : Wp n0 p e R s below Q T (mkF m pc Ls (.int y :: .int x :: st)) := by
  by_cases hc : x = y
  · exact icmp K S hd (fun _ => g1 hc) (fun q => absurd ((teq hc).1) (by rw [q]; decide))
  · exact icmp K S hd (fun q => absurd ((feq hc).1) (by rw [q]; decide)) (fun _ => g2 hc)
theorem ific_eq (K : Cx own code mL ret mn n0 Z p l e R s m args below meth c) (S : St n0 p l e R s m args below meth c k n h T) {o : Int} (hd : Bc code pc (.ifCond .eq o) o q q') (g1 : x = 0 → Wp n0 p e R s below Q T (mkF m q' Ls st)) (g2 : ¬ x = 0 → Wp n0 p e R s below Q T (mkF m q Ls st)) : Wp n0 p e R s below Q T (mkF m pc Ls (.int x :: st)) := by
  by_cases hc : x = 0
  · exact ific K S hd (fun _ => g1 hc) (fun q => absurd ((teq hc).1) (by rw [q]; decide))
  · exact ific K S hd (fun q => absurd ((feq hc).1) (by rw [q]; decide)) (fun _ => g2 hc)
theorem icmp_ne (K : Cx own code mL ret mn n0 Z p l e R s m args below meth c) (S : St n0 p l e R s m args below meth c k n h T) {o : Int} (hd : Bc code pc (.if_icmp .ne o) o q q') (g1 : ¬ x = y → Wp n0 p e R s below Q T (mkF m q' Ls st)) (g2 : x = y → Wp n0 p e R s below Q T (mkF m q Ls st)) : Wp n0 p e R s below Q T (mkF m pc Ls (.int y :: .int x :: st)) := by
  by_cases hc : x = y
  · exact icmp K S hd (fun q => absurd ((teq hc).2) (by rw [q]; decide)) (fun _ => g2 hc)
  · exact icmp K S hd (fun _ => g1 hc) (fun q => absurd ((feq hc).2) (by rw [q]; decide))
theorem ific_ne (K : Cx own code mL ret mn n0 Z p l e R s m args below meth c) (S : St n0 p l e R s m args below meth c k n h T) {o : Int} (hd : Bc code pc (.ifCond .ne o) o q q') (g1 : ¬ x = 0 → Wp n0 p e R s below Q T (mkF m q' Ls st)) (g2 : x = 0 → Wp n0 p e R s below Q T (mkF m q Ls st)) : Wp n0 p e R s below Q T (mkF m pc Ls (.int x :: st)) := by
  by_cases hc : x = 0
  · exact ific K S hd (fun q => absurd ((teq hc).2) (by rw [q]; decide)) (fun _ => g2 hc)
  · exact ific K S hd (fun _ => g1 hc) (fun q => absurd ((feq hc).2) (by rw [q]; decide))
theorem lcmp_lt (K : Cx own code mL ret mn n0 Z p l e R s m args below meth c) (S : St n0 p l e R s m args below meth c k n h T) {o : Int} {pc1 : Nat} (hd1 : Dc code pc .lcmp 1 pc1) (hd : Bc code pc1 (.ifCond .lt o) o q q') (g1 : X < Y → Wp n0 p e R s below Q T (mkF m q' Ls st)) (g2 : ¬ X < Y → Wp n0 p e R s below Q T (mkF m q Ls st)) : Wp n0 p e R s below Q T (mkF m pc Ls (.long Y :: .long X :: st)) := by
  obtain ⟨hx, hby, -⟩ := K; obtain ⟨locs, S, -, -⟩ := S; obtain ⟨hd, rfl, h1, h2⟩ := hd; obtain ⟨hd1, rfl⟩ := hd1
  by_cases hc : X < Y
  · exact wp_mono (fun t hr => XT.lcmp S.here hx rfl (hb hby hd1) rfl (XS.ifYes S.here hx rfl rfl (hb hby hd) rfl (XT.ll_lt_t hc) h1 h2 hr)) (g1 hc)
  · exact wp_mono (fun t hr => XT.lcmp S.here hx rfl (hb hby hd1) rfl (XS.ifNo S.here hx rfl (hb hby hd) rfl (XT.ll_lt_f hc) hr)) (g2 hc)
theorem lcmp_ge (K : Cx own code mL ret mn n0 Z p l e R s m args below meth c) (S : St n0 p l e R s m args below meth c k n h T) {o : Int} {pc1 : Nat} (hd1 : Dc code pc .lcmp 1 pc1) (hd : Bc code pc1 (.ifCond .ge o) o q q') (g1 : ¬ X < Y → Wp n0 p e R s below Q T (mkF m q' Ls st)) (g2 : X < Y → Wp n0 p e R s below Q T (mkF m q Ls st)) : Wp n0 p e R s below Q T (mkF m pc Ls (.long Y :: .long X :: st)) := by
  obtain ⟨hx, hby, -⟩ := K; obtain ⟨locs, S, -, -⟩ := S; obtain ⟨hd, rfl, h1, h2⟩ := hd; obtain ⟨hd1, rfl⟩ := hd1
  by_cases hc : X < Y
  · exact wp_mono (fun t hr => XT.lcmp S.here hx rfl (hb hby hd1) rfl (XS.ifNo S.here hx rfl (hb hby hd) rfl (XT.ll_ge_f hc) hr)) (g2 hc)
  · exact wp_mono (fun t hr => XT.lcmp S.here hx rfl (hb hby hd1) rfl (XS.ifYes S.here hx rfl rfl (hb hby hd) rfl (XT.ll_ge_t hc) h1 h2 hr)) (g1 hc)
theorem lcmp_gt (K : Cx own code mL ret mn n0 Z p l e R s m args below meth c) (S : St n0 p l e R s m args below meth c k n h T) {o : Int} {pc1 : Nat} (hd1 : Dc code pc .lcmp 1 pc1) (hd : Bc code pc1 (.ifCond .gt o) o q q') (g1 : Y < X → Wp n0 p e R s below Q T (mkF m q' Ls st)) (g2 : ¬ Y < X → Wp n0 p e R s below Q T (mkF m q Ls st)) : Wp n0 p e R s below Q T (mkF m pc Ls (.long Y :: .long X :: st)) := by
  obtain ⟨hx, hby, -⟩ := K; obtain ⟨locs, S, -, -⟩ := S; obtain ⟨hd, rfl, h1, h2⟩ := hd; obtain ⟨hd1, rfl⟩ := hd1
  by_cases hc : Y < X
  · exact wp_mono (fun t hr => XT.lcmp S.here hx rfl (hb hby hd1) rfl (XS.ifYes S.here hx rfl rfl (hb hby hd) rfl (XT.ll_gt_t hc) h1 h2 hr)) (g1 hc)
  · exact wp_mono (fun t hr => XT.lcmp S.here hx rfl (hb hby hd1) rfl (XS.ifNo S.here hx rfl (hb hby hd) rfl (XT.ll_gt_f hc) hr)) (g2 hc)
theorem lcmp_le (K : Cx own code mL ret mn n0 Z p l e R s m args below meth c) (S : St n0 p l e R s m args below meth c k n h T) {o : Int} {pc1 : Nat} (hd1 : Dc code pc .lcmp 1 pc1) (hd : Bc code pc1 (.ifCond .le o) o q q') (g1 : ¬ Y < X → Wp n0 p e R s below Q T (mkF m q' Ls st)) (g2 : Y < X → Wp n0 p e R s below Q T (mkF m q Ls st)) : Wp n0 p e R s below Q T (mkF m pc Ls (.long Y :: .long X :: st)) := by
  obtain ⟨hx, hby, -⟩ := K; obtain ⟨locs, S, -, -⟩ := S; obtain ⟨hd, rfl, h1, h2⟩ := hd; obtain ⟨hd1, rfl⟩ := hd1
  by_cases hc : Y < X
  · exact wp_mono (fun t hr => XT.lcmp S.here hx rfl (hb hby hd1) rfl (XS.ifNo S.here hx rfl (hb hby hd) rfl (XT.ll_le_f hc) hr)) (g2 hc)
  · exact wp_mono (fun t hr => XT.lcmp S.here hx rfl (hb hby hd1) rfl (XS.ifYes S.here hx rfl rfl (hb hby hd) rfl (XT.ll_le_t hc) h1 h2 hr)) (g1 hc)
theorem lcmp_eq (K : Cx own code mL ret mn n0 Z p l e R s m args below meth c) (S : St n0 p l e R s m args below meth c k n h T) {o : Int} {pc1 : Nat} (hd1 : Dc code pc .lcmp 1 pc1) (hd : Bc code pc1 (.ifCond .eq o) o q q') (g1 : X = Y → Wp n0 p e R s below Q T (mkF m q' Ls st)) (g2 : ¬ X = Y → Wp n0 p e R s below Q T (mkF m q Ls st)) : Wp n0 p e R s below Q T (mkF m pc Ls (.long Y :: .long X :: st)) := by
  obtain ⟨hx, hby, -⟩ := K; obtain ⟨locs, S, -, -⟩ := S; obtain ⟨hd, rfl, h1, h2⟩ := hd; obtain ⟨hd1, rfl⟩ := hd1
  by_cases hc : X = Y
  · exact wp_mono (fun t hr => XT.lcmp S.here hx rfl (hb hby hd1) rfl (XS.ifYes S.here hx rfl rfl (hb hby hd) rfl (XT.ll_eq_t hc) h1 h2 hr)) (g1 hc)
  · exact wp_mono (fun t hr => XT.lcmp S.here hx rfl (hb hby hd1) rfl (XS.ifNo S.here hx rfl (hb hby hd) rfl (XT.ll_eq_f hc) hr)) (g2 hc)
theorem lcmp_ne (K : Cx own code mL ret mn n0 Z p l e R s m args below meth c) (S : St n0 p l e R s m args below meth c k n h T) {o : Int} {pc1 : Nat} (hd1 : Dc code pc .lcmp 1 pc1) (hd : Bc code pc1 (.ifCond .ne o) o q q') (g1 : ¬ X = Y → Wp n0 p e R s below Q T (mkF m q' Ls st)) (g2 : X = Y → Wp n0 p e R s below Q T (mkF m q Ls st)) : Wp n0 p e R s below Q T (mkF m pc Ls (.long Y :: .long X :: st)) := by
  obtain ⟨hx, hby, -⟩ := K; obtain ⟨locs, S, -, -⟩ := S; obtain ⟨hd, rfl, h1, h2⟩ := hd; obtain ⟨hd1, rfl⟩ := hd1
  by_cases hc : X = Y
  · exact wp_mono (fun t hr => XT.lcmp S.here hx rfl (hb hby hd1) rfl (XS.ifNo S.here hx rfl (hb hby hd) rfl (XT.ll_ne_f hc) hr)) (g2 hc)
  · exact wp_mono (fun t hr => XT.lcmp S.here hx rfl (hb hby hd1) rfl (XS.ifYes S.here hx rfl rfl (hb hby hd) rfl (XT.ll_ne_t hc) h1 h2 hr)) (g1 hc)
theorem icmpz_lt (K : Cx own code mL ret mn n0 Z p l e R s m args below meth c) (S : St n0 p l e R s m args below meth c k n h T) {o : Int} (hd : Bc code pc (.if_icmp .lt o) o q q') (g1 : x.toInt < y.toInt → Wp n0 p e R s below Q T (mkF m q' Ls st)) (g2 : ¬ x.toInt < y.toInt → Wp n0 p e R s below Q T (mkF m q Ls st)) : Wp n0 p e R s below Q T (mkF m pc Ls (.int y :: .int x :: st)) :=
  icmp_lt K S hd (fun q => g1 (Int32.lt_iff_toInt_lt.mp q)) (fun q => g2 (fun r => q (Int32.lt_iff_toInt_lt.mpr r)))
theorem ificz_lt (K : Cx own code mL ret mn n0 Z p l e R s m args below meth c) (S : St n0 p l e R s m args below meth c k n h T) {o : Int} (hd : Bc code pc (.ifCond .lt o) o q q') (g1 : x.toInt < 0 → Wp n0 p e R s below Q T (mkF m q' Ls st)) (g2 : ¬ x.toInt < 0 → Wp n0 p e R s below Q T (mkF m q Ls st)) : Wp n0 p e R s below Q T (mkF m pc Ls (.int x :: st)) :=
  ific_lt K S hd (fun q => g1 (Int32.lt_iff_toInt_lt.mp q)) (fun q => g2 (fun r => q (Int32.lt_iff_toInt_lt.mpr r)))
theorem lcmpz_lt (K : Cx own code mL ret mn n0 Z p l e R s m args below meth c) (S : St n0 p l e R s m args below meth c k n h T) {o : Int} {pc1 : Nat} (hd1 : Dc code pc .lcmp 1 pc1) (hd : Bc code pc1 (.ifCond .lt o) o q q') (g1 : X.toInt < Y.toInt → Wp n0 p e R s below Q T (mkF m q' Ls st)) (g2 : ¬ X.toInt < Y.toInt → Wp n0 p e R s below Q T (mkF m q Ls st)) : Wp n0 p e R s below Q T (mkF m pc Ls (.long Y :: .long X :: st)) :=
  lcmp_lt K S hd1 hd (fun q => g1 (Int64.lt_iff_toInt_lt.mp q)) (fun q => g2 (fun r => q (Int64.lt_iff_toInt_lt.mpr r)))
theorem icmpz_ge (K : Cx own code mL ret mn n0 Z p l e R s m args below meth c) (S : St n0 p l e R s m args below meth c k n h T) {o : Int} (hd : Bc code pc (.if_icmp .ge o) o q q') (g1 : ¬ x.toInt < y.toInt → Wp n0 p e R s below Q T (mkF m q' Ls st)) (g2 : x.toInt < y.toInt → Wp n0 p e R s below Q T (mkF m q Ls st)) : Wp n0 p e R s below Q T (mkF m pc Ls (.int y :: .int x :: st)) :=
  icmp_ge K S hd (fun q => g1 (fun r => q (Int32.lt_iff_toInt_lt.mpr r))) (fun q => g2 (Int32.lt_iff_toInt_lt.mp q))
theorem ificz_ge (K : Cx own code mL ret mn n0 Z p l e R s m args below meth c) (S : St n0 p l e R s m args below meth c k n h T) {o : Int} (hd : Bc code pc (.ifCond .ge o) o q q') (g1 : ¬ x.toInt < 0 → Wp n0 p e R s below Q T (mkF m q' Ls st)) (g2 : x.toInt < 0 → Wp n0 p e R s below Q T (mkF m q Ls st)) : Wp n0 p e R s below Q T (mkF m pc Ls (.int x :: st)) :=
  ific_ge K S hd (fun q => g1 (fun r => q (Int32.lt_iff_toInt_lt.mpr r))) (fun q => g2 (Int32.lt_iff_toInt_lt.mp q))
theorem lcmpz_ge (K : Cx own code mL ret mn n0 Z p l e R s m args below meth c) (S : St n0 p l e R s m args below meth c k n h T) {o : Int} {pc1 : Nat} (hd1 : Dc code pc .lcmp 1 pc1) (hd : Bc code pc1 (.ifCond .ge o) o q q') (g1 : ¬ X.toInt < Y.toInt → Wp n0 p e R s below Q T (mkF m q' Ls st)) (g2 : X.toInt < Y.toInt → Wp n0 p e R s below Q T (mkF m q Ls st)) : Wp n0 p e R s below Q T (mkF m pc Ls (.long Y :: .long X :: st)) :=
  lcmp_ge K S hd1 hd (fun q => g1 (fun r => q (Int64.lt_iff_toInt_lt.mpr r))) (fun q => g2 (Int64.lt_iff_toInt_lt.mp q))
theorem icmpz_gt (K : Cx own code mL ret mn n0 Z p l e R s m args below meth c) (S : St n0 p l e R s m args below meth c k n h T) {o : Int} (hd : Bc code pc (.if_icmp .gt o) o q q') (g1 : y.toInt < x.toInt → Wp n0 p e R s below Q T (mkF m q' Ls st)) (g2 : ¬ y.toInt < x.toInt → Wp n0 p e R s below Q T (mkF m q Ls st)) : Wp n0 p e R s below Q T (mkF m pc Ls (.int y :: .int x :: st)) :=
  icmp_gt K S hd (fun q => g1 (Int32.lt_iff_toInt_lt.mp q)) (fun q => g2 (fun r => q (Int32.lt_iff_toInt_lt.mpr r)))
theorem ificz_gt (K : Cx own code mL ret mn n0 Z p l e R s m args below meth c) (S : St n0 p l e R s m args below meth c k n h T) {o : Int} (hd : Bc code pc (.ifCond .gt o) o q q') (g1 : 0 < x.toInt → Wp n0 p e R s below Q T (mkF m q' Ls st)) (g2 : ¬ 0 < x.toInt → Wp n0 p e R s below Q T (mkF m q Ls st)) : Wp n0 p e R s below Q T (mkF m pc Ls (.int x :: st)) :=
  ific_gt K S hd (fun q => g1 (Int32.lt_iff_toInt_lt.mp q)) (fun q => g2 (fun r => q (Int32.lt_iff_toInt_lt.mpr r)))
theorem lcmpz_gt (K : Cx own code mL ret mn n0 Z p l e R s m args below meth c) (S : St n0 p l e R s m args below meth c k n h T) {o : Int} {pc1 : Nat} (hd1 : Dc code pc .lcmp 1 pc1) (hd : Bc code pc1 (.ifCond .gt o) o q q') (g1 : Y.toInt < X.toInt → Wp n0 p e R s below Q T (mkF m q' Ls st)) (g2 : ¬ Y.toInt < X.toInt → Wp n0 p e R s below Q T (mkF m q Ls st)) : Wp n0 p e R s below Q T (mkF m pc Ls (.long Y :: .long X :: st)) :=
  lcmp_gt K S hd1 hd (fun q => g1 (Int64.lt_iff_toInt_lt.mp q)) (fun q => g2 (fun r => q (Int64.lt_iff_toInt_lt.mpr r)))
theorem icmpz_le (K : Cx own code mL ret mn n0 Z p l e R s m args below meth c) (S : St n0 p l e R s m args below meth c k n h T) {o : Int} (hd : Bc code pc (.if_icmp .le o) o q q') (g1 : ¬ y.toInt < x.toInt → Wp n0 p e R s below Q T (mkF m q' Ls st)) (g2 : y.toInt < x.toInt → Wp n0 p e R s below Q T (mkF m q Ls st)) : Wp n0 p e R s below Q T (mkF m pc Ls (.int y :: .int x :: st)) :=
  icmp_le K S hd (fun q => g1 (fun r => q (Int32.lt_iff_toInt_lt.mpr r))) (fun q => g2 (Int32.lt_iff_toInt_lt.mp q))
theorem ificz_le (K : Cx own code mL ret mn n0 Z p l e R s m args below meth c) (S : St n0 p l e R s m args below meth c k n h T) {o : Int} (hd : Bc code pc (.ifCond .le o) o q q') (g1 : ¬ 0 < x.toInt → Wp n0 p e R s below Q T (mkF m q' Ls st)) (g2 : 0 < x.toInt → Wp n0 p e R s below Q T (mkF m q Ls st)) : Wp n0 p e R s below Q T (mkF m pc Ls (.int x :: st)) :=
  ific_le K S hd (fun q => g1 (fun r => q (Int32.lt_iff_toInt_lt.mpr r))) (fun q => g2 (Int32.lt_iff_toInt_lt.mp q))
theorem lcmpz_le (K : Cx own code mL ret mn n0 Z p l e R s m args below meth c) (S : St n0 p l e R s m args below meth c k n h T) {o : Int} {pc1 : Nat} (hd1 : Dc code pc .lcmp 1 pc1) (hd : Bc code pc1 (.ifCond .le o) o q q') (g1 : ¬ Y.toInt < X.toInt → Wp n0 p e R s below Q T (mkF m q' Ls st)) (g2 : Y.toInt < X.toInt → Wp n0 p e R s below Q T (mkF m q Ls st)) : Wp n0 p e R s below Q T (mkF m pc Ls (.long Y :: .long X :: st)) :=
  lcmp_le K S hd1 hd (fun q => g1 (fun r => q (Int64.lt_iff_toInt_lt.mpr r))) (fun q => g2 (Int64.lt_iff_toInt_lt.mp q))
theorem icmpz_eq (K : Cx own code mL ret mn n0 Z p l e R s m args below meth c) (S : St n0 p l e R s m args below meth c k n h T) {o : Int} (hd : Bc code pc (.if_icmp .eq o) o q q') (g1 : x.toInt = y.toInt → Wp n0 p e R s below Q T (mkF m q' Ls st)) (g2 : ¬ x.toInt = y.toInt → Wp n0 p e R s below Q T (mkF m q Ls st)) : Wp n0 p e R s below Q T (mkF m pc Ls (.int y :: .int x :: st)) :=
  icmp_eq K S hd (fun q => g1 (congrArg Int32.toInt q)) (fun q => g2 (fun r => q (Int32.toInt_inj.mp r)))
theorem ificz_eq (K : Cx own code mL ret mn n0 Z p l e R s m args below meth c) (S : St n0 p l e R s m args below meth c k n h T) {o : Int} (hd : Bc code pc (.ifCond .eq o) o q q') (g1 : x.toInt = 0 → Wp n0 p e R s below Q T (mkF m q' Ls st)) (g2 : ¬ x.toInt = 0 → Wp n0 p e R s below Q T (mkF m q Ls st)) : Wp n0 p e R s below Q T (mkF m pc Ls (.int x :: st)) :=
  ific_eq K S hd (fun q => g1 (congrArg Int32.toInt q)) (fun q => g2 (fun r => q (Int32.toInt_inj.mp r)))
theorem lcmpz_eq (K : Cx own code mL ret mn n0 Z p l e R s m args below meth c) (S : St n0 p l e R s m args below meth c k n h T) {o : Int} {pc1 : Nat} (hd1 : Dc code pc .lcmp 1 pc1) (hd : Bc code pc1 (.ifCond .eq o) o q q') (g1 : X.toInt = Y.toInt → Wp n0 p e R s below Q T (mkF m q' Ls st)) (g2 : ¬ X.toInt = Y.toInt → Wp n0 p e R s below Q T (mkF m q Ls st)) : Wp n0 p e R s below Q T (mkF m pc Ls (.long Y :: .long X :: st)) :=
  lcmp_eq K S hd1 hd (fun q => g1 (congrArg Int64.toInt q)) (fun q => g2 (fun r => q (Int64.toInt_inj.mp r)))
theorem icmpz_ne (K : Cx own code mL ret mn n0 Z p l e R s m args below meth c) (S : St n0 p l e R s m args below meth c k n h T) {o : Int} (hd : Bc code pc (.if_icmp .ne o) o q q') (g1 : ¬ x.toInt = y.toInt → Wp n0 p e R s below Q T (mkF m q' Ls st)) (g2 : x.toInt = y.toInt → Wp n0 p e R s below Q T (mkF m q Ls st)) : Wp n0 p e R s below Q T (mkF m pc Ls (.int y :: .int x :: st)) :=
  icmp_ne K S hd (fun q => g1 (fun r => q (Int32.toInt_inj.mp r))) (fun q => g2 (congrArg Int32.toInt q))
theorem ificz_ne (K : Cx own code mL ret mn n0 Z p l e R s m args below meth c) (S : St n0 p l e R s m args below meth c k n h T) {o : Int} (hd : Bc code pc (.ifCond .ne o) o q q') (g1 : ¬ x.toInt = 0 → Wp n0 p e R s below Q T (mkF m q' Ls st)) (g2 : x.toInt = 0 → Wp n0 p e R s below Q T (mkF m q Ls st)) : Wp n0 p e R s below Q T (mkF m pc Ls (.int x :: st)) :=
  ific_ne K S hd (fun q => g1 (fun r => q (Int32.toInt_inj.mp r))) (fun q => g2 (congrArg Int32.toInt q))
theorem lcmpz_ne (K : Cx own code mL ret mn n0 Z p l e R s m args below meth c) (S : St n0 p l e R s m args below meth c k n h T) {o : Int} {pc1 : Nat} (hd1 : Dc code pc .lcmp 1 pc1) (hd : Bc code pc1 (.ifCond .ne o) o q q') (g1 : ¬ X.toInt = Y.toInt → Wp n0 p e R s below Q T (mkF m q' Ls st)) (g2 : X.toInt = Y.toInt → Wp n0 p e R s below Q T (mkF m q Ls st)) : Wp n0 p e R s below Q T (mkF m pc Ls (.long Y :: .long X :: st)) :=
  lcmp_ne K S hd1 hd (fun q => g1 (fun r => q (Int64.toInt_inj.mp r))) (fun q => g2 (congrArg Int64.toInt q))
theorem ifnull_ref (K : Cx own code mL ret mn n0 Z p l e R s m args below meth c) (S : St n0 p l e R s m args below meth c k n h T) {o : Int} (hd : Bc code pc (.ifnull o) o q q') (g : Wp n0 p e R s below Q T (mkF m q Ls st)) : Wp n0 p e R s below Q T (mkF m pc Ls (.ref a :: st)) := by
  obtain ⟨hx, hby, -⟩ := K; obtain ⟨locs, S, -, -⟩ := S; obtain ⟨hd, rfl, h1, h2⟩ := hd
  exact wp_mono (fun t hr => XS.ifnullNo S.here hx rfl (hb hby hd) rfl hr) g
theorem ldc (K : Cx own code mL ret mn n0 Z p l e R s m args below meth c) (S : St n0 p l e R s m args below meth c k n h T) {i : Nat} (w : (Jvm.Cond.constant own i x).before a0 Z = true) (hd : Dc code pc (.ldc i) 2 q) (g : Wp n0 p e R s below Q T (mkF m q Ls (.int x :: st))) : Wp n0 p e R s below Q T (mkF m pc Ls st) := by
  obtain ⟨hx, hby, -, -, -, hown, hZ, -⟩ := K; obtain ⟨locs, S, -, -⟩ := S; obtain ⟨hd, rfl⟩ := hd
  refine wp_mono (T' := T) (g' := mkF m (pc + 2) Ls (.int x :: st)) (fun t hr => ?_) g
  exact S.ldcInt hx hown (mvT hZ w) (g := mkF m pc Ls st) rfl (hb hby hd) t hr
theorem ldc2 (K : Cx own code mL ret mn n0 Z p l e R s m args below meth c) (S : St n0 p l e R s m args below meth c k n h T) {i : Nat} (w : (Jvm.Cond.constantLong own i X).before a0 Z = true) (hd : Dc code pc (.ldc2_w i) 3 q) (g : Wp n0 p e R s below Q T (mkF m q Ls (.long X :: st))) : Wp n0 p e R s below Q T (mkF m pc Ls st) := by
  obtain ⟨hx, hby, -, -, -, hown, hZ, -⟩ := K; obtain ⟨locs, S, -, -⟩ := S; obtain ⟨hd, rfl⟩ := hd
  refine wp_mono (T' := T) (g' := mkF m (pc + 3) Ls (.long X :: st)) (fun t hr => ?_) g
  exact S.ldc2Long hx hown (mvT hZ w) (g := mkF m pc Ls st) rfl (hb hby hd) t hr
theorem getf (K : Cx own code mL ret mn n0 Z p l e R s m args below meth c) (S : St n0 p l e R s m args below meth c k n h T) {i : Nat} {O fn d : String} (w : (Jvm.Cond.fieldLink own i O fn d).before a0 Z = true) (F : Fld Z h a O fn d v) (hd : Dc code pc (.getfield i) 3 q) (g : ∀ T, St n0 p l e R s m args below meth c k n h T → Wp n0 p e R s below Q T (mkF m q Ls (v :: st))) : Wp n0 p e R s below Q T (mkF m pc Ls (.ref a :: st)) := by
  obtain ⟨hx, hby, -, -, -, hown, hZ, -⟩ := K; obtain ⟨locs, S, e1, N, z⟩ := S; obtain ⟨hd, rfl⟩ := hd
  obtain ⟨T1, S1, e2, st1⟩ := getF S hx hZ hown (host := "") (Or.inl w) Via.refl e1 F (g := mkF m pc Ls (.ref a :: st)) rfl rfl (hb hby hd)
  exact wp_mono st1 (g T1 ⟨locs, S1, e2, N, z⟩)
theorem putf (K : Cx own code mL ret mn n0 Z p l e R s m args below meth c) (S : St n0 p l e R s m args below meth c k n h T) {i kk : Nat} {O fn d C : String} {old : Value} (w : (Jvm.Cond.fieldLink own i O fn d).before a0 Z = true) (F : Fld Z h a O fn d old) (E : Exa Z h a C) (L : (Jvm.Cond.lays C O fn d).before a0 Z = true ∨ ((Jvm.Cond.laysFinal C O fn d).before a0 Z = true ∧ own = O ∧ mn = "<init>")) (wi : (Jvm.Cond.instantiable C kk).before a0 Z = true) (hty : parseFieldDescriptor d = some ty) (hn : narrow ty v = v) (hf : fits ty v = true) (ha : n0 ≤ a) (hd : Dc code pc (.putfield i) 3 q) (g : ∀ T h', Wr h h' a (Jvm.RoadKit.slotOf Z O fn d) v → St n0 p l e R s m args below meth c k n h' T → Wp n0 p e R s below Q T (mkF m q Ls st)) : Wp n0 p e R s below Q T (mkF m pc Ls (v :: .ref a :: st)) := by
  obtain ⟨hx, hby, -, -, -, hown, hZ, hmn⟩ := K; obtain ⟨locs, S, e1, N, z⟩ := S; obtain ⟨hd, rfl⟩ := hd
  obtain ⟨T1, h1, S1, e2, W1, st1⟩ := putF S hx hZ hown (host := "") (Or.inl w) Via.refl e1 F E (L.imp id fun q => ⟨q.1, q.2.1, hmn.trans q.2.2⟩) wi hty hn hf (g := mkF m pc Ls (v :: .ref a :: st)) rfl rfl (hb hby hd)
  exact wp_mono st1 (g T1 h1 W1 ⟨_, S1, e2, Fr.snoc S1 N ha, by rw [W1.size]; exact z⟩)
theorem new (K : Cx own code mL ret mn n0 Z p l e R s m args below meth c) (S : St n0 p l e R s m args below meth c k n h T) {i nn : Nat} {C : String} (w : (Jvm.Cond.classLink own i C).before a0 Z = true) (wi : (Jvm.Cond.instantiable C nn).before a0 Z = true) (wz : (Jvm.Cond.initialized C).before a0 Z = true) (hc : k + 1 ≤ R.cells) (hl : n + nn ≤ R.slots) (hd : Dc code pc (.new i) 3 q) (g : ∀ T h' a, a = h.size → n0 ≤ a → Ext h h' → Exa Z h' a C → (∀ {O nm d : String} {ty : FieldType}, Laid Z a0 C O nm d → parseFieldDescriptor d = some ty → Fld Z h' a O nm d (defaultValue ty)) → St n0 p l e R s m args below meth c (k + 1) (n + nn) h' T → Wp n0 p e R s below Q T (mkF m q Ls (.ref a :: st))) : Wp n0 p e R s below Q T (mkF m pc Ls st) := by
  obtain ⟨hx, hby, -, -, -, hown, hZ, hmn⟩ := K; obtain ⟨locs, S, e1, N, z⟩ := S; obtain ⟨hd, rfl⟩ := hd
  obtain ⟨T1, h1, S1, e2, E1, A1, D1, -, st1⟩ := newO S hx hZ hown w wi wz e1 (g := mkF m pc Ls st) rfl (hb hby hd) hc hl
  exact wp_mono st1 (g T1 h1 h.size rfl z E1 A1 D1 ⟨_, S1, e2, N, Nat.le_trans z E1.1⟩)
theorem newarr (K : Cx own code mL ret mn n0 Z p l e R s m args below meth c) (S : St n0 p l e R s m args below meth c k n h T) {aty : ArrayType} {cap : Nat} (w : (Jvm.Cond.arrayClass (newarray.typeOf aty)).before a0 Z = true) (hn : ¬ x < 0) (hcap : x.toNatClampNeg ≤ cap) (hb' : cap * 8 ≤ 536870912) (hc : k + 1 ≤ R.cells) (hl : n + cap ≤ R.slots) (hd : Dc code pc (.newarray aty) 2 q) (g : ∀ T h' a, a = h.size → n0 ≤ a → Ext h h' → VA Z h' a (newarray.typeOf aty) (List.replicate x.toNatClampNeg (defaultValue (newarray.typeOf aty))) → St n0 p l e R s m args below meth c (k + 1) (n + cap) h' T → Wp n0 p e R s below Q T (mkF m q Ls (.ref a :: st))) : Wp n0 p e R s below Q T (mkF m pc Ls (.int x :: st)) := by
  obtain ⟨hx, hby, -, -, -, hown, hZ, hmn⟩ := K; obtain ⟨locs, S, e1, N, z⟩ := S; obtain ⟨hd, rfl⟩ := hd
  obtain ⟨T1, h1, cA, S1, e2, E1, A1, st1⟩ := newP S hx hZ w e1 (g := mkF m pc Ls (.int x :: st)) rfl (hb hby hd) rfl hn hcap hb' hc hl
  exact wp_mono st1 (g T1 h1 h.size rfl z E1 ⟨_, A1, by simp [newA]⟩ ⟨_, S1, e2, N, Nat.le_trans z E1.1⟩)
theorem inito (K : Cx own code mL ret mn n0 Z p l e R s m args below meth c) (S : St n0 p l e R s m args below meth c k n h T) {i W : Nat} (w1 : (Jvm.Cond.methodLink own i Lib.objectInit).before a0 Z = true) (w2 : (Jvm.Cond.instanceMethod Lib.objectInit).before a0 Z = true) (w3 : (Jvm.Cond.code Lib.objectInit ⟨#[0xb1]⟩ 1 none).before a0 Z = true) (hsz : Ls.size = mL) (hf : 1 ≤ R.frames) (hW : (st.map fun v => v.category).sum ≤ W) (hl : W + 12 ≤ R.locals) (hd : Dc code pc (.invokespecial i) 3 q) (g : ∀ T, St n0 p l e R s m args below meth c k n h T → Wp n0 p e R s below Q T (mkF m q Ls st)) : Wp n0 p e R s below Q T (mkF m pc Ls (.ref a :: st)) := by
  obtain ⟨hx, hby, hml, -, -, hown, hZ, hmn⟩ := K; obtain ⟨locs, S, e1, N, z⟩ := S; obtain ⟨hd, rfl⟩ := hd
  obtain ⟨T1, S1, e2, st1⟩ := initO S hx hZ hown w1 w2 w3 e1 (g := mkF m pc Ls (.ref a :: st)) rfl (by rw [hml]; exact hsz) rfl (hb hby hd) hf (W := W) (by show 2 * 0 + _ ≤ _; omega) hl
  exact wp_mono st1 (g T1 ⟨_, S1, e2, N, z⟩)
theorem iaload (K : Cx own code mL ret mn n0 Z p l e R s m args below meth c) (S : St n0 p l e R s m args below meth c k n h T) {i : Nat} (A : VA Z h a .int vs) (hi : Ix x i) (hv : vs[i]? = some v) (hd : Dc code pc .iaload 1 q) (g : Wp n0 p e R s below Q T (mkF m q Ls (v :: st))) : Wp n0 p e R s below Q T (mkF m pc Ls (.int x :: .ref a :: st)) := by
  obtain ⟨hx, hby, -, -, -, hown, hZ, -⟩ := K; obtain ⟨locs, S, e1, N, z⟩ := S; obtain ⟨hd, rfl⟩ := hd; obtain ⟨cl, A, hs⟩ := A; obtain ⟨hi0, rfl⟩ := hi
  have hlt : x.toNatClampNeg < vs.length := (List.getElem?_eq_some_iff.mp hv).1
  exact wp_mono (fun t hr => S.iaload hx (by rw [e1]; exact A.1) (State.isArrayOf_alike hZ.alike A.2.1) A.2.2 (by rw [hs]; simp; exact ⟨Int32.not_lt.mp hi0, hlt⟩) (by rw [hs]; simpa using hv) (g := mkF m pc Ls (.int x :: .ref a :: st)) rfl rfl (hb hby hd) t hr) g
theorem laload (K : Cx own code mL ret mn n0 Z p l e R s m args below meth c) (S : St n0 p l e R s m args below meth c k n h T) {i : Nat} (A : VA Z h a .long vs) (hi : Ix x i) (hv : vs[i]? = some v) (hd : Dc code pc .laload 1 q) (g : Wp n0 p e R s below Q T (mkF m q Ls (v :: st))) : Wp n0 p e R s below Q T (mkF m pc Ls (.int x :: .ref a :: st)) := by
  obtain ⟨hx, hby, -, -, -, hown, hZ, -⟩ := K; obtain ⟨locs, S, e1, N, z⟩ := S; obtain ⟨hd, rfl⟩ := hd; obtain ⟨cl, A, hs⟩ := A; obtain ⟨hi0, rfl⟩ := hi
  have hlt : x.toNatClampNeg < vs.length := (List.getElem?_eq_some_iff.mp hv).1
  exact wp_mono (fun t hr => S.laload hx (by rw [e1]; exact A.1) (State.isArrayOf_alike hZ.alike A.2.1) A.2.2 (by rw [hs]; simp; exact ⟨Int32.not_lt.mp hi0, hlt⟩) (by rw [hs]; simpa using hv) (g := mkF m pc Ls (.int x :: .ref a :: st)) rfl rfl (hb hby hd) t hr) g
theorem caload (K : Cx own code mL ret mn n0 Z p l e R s m args below meth c) (S : St n0 p l e R s m args below meth c k n h T) {i : Nat} (A : VA Z h a .char vs) (hi : Ix x i) (hv : vs[i]? = some v) (hd : Dc code pc .caload 1 q) (g : Wp n0 p e R s below Q T (mkF m q Ls (v :: st))) : Wp n0 p e R s below Q T (mkF m pc Ls (.int x :: .ref a :: st)) := by
  obtain ⟨hx, hby, -, -, -, hown, hZ, -⟩ := K; obtain ⟨locs, S, e1, N, z⟩ := S; obtain ⟨hd, rfl⟩ := hd; obtain ⟨cl, A, hs⟩ := A; obtain ⟨hi0, rfl⟩ := hi
  have hlt : x.toNatClampNeg < vs.length := (List.getElem?_eq_some_iff.mp hv).1
  exact wp_mono (fun t hr => S.caload hx (by rw [e1]; exact A.1) (State.isArrayOf_alike hZ.alike A.2.1) A.2.2 (by rw [hs]; simp; exact ⟨Int32.not_lt.mp hi0, hlt⟩) (by rw [hs]; simpa using hv) (g := mkF m pc Ls (.int x :: .ref a :: st)) rfl rfl (hb hby hd) t hr) g
theorem baload (K : Cx own code mL ret mn n0 Z p l e R s m args below meth c) (S : St n0 p l e R s m args below meth c k n h T) {i : Nat} (A : VA Z h a .byte vs) (hi : Ix x i) (hv : vs[i]? = some v) (hd : Dc code pc .baload 1 q) (g : Wp n0 p e R s below Q T (mkF m q Ls (v :: st))) : Wp n0 p e R s below Q T (mkF m pc Ls (.int x :: .ref a :: st)) := by
  obtain ⟨hx, hby, -, -, -, hown, hZ, -⟩ := K; obtain ⟨locs, S, e1, N, z⟩ := S; obtain ⟨hd, rfl⟩ := hd; obtain ⟨cl, A, hs⟩ := A; obtain ⟨hi0, rfl⟩ := hi
  have hlt : x.toNatClampNeg < vs.length := (List.getElem?_eq_some_iff.mp hv).1
  exact wp_mono (fun t hr => S.baloadBytes hx (by rw [e1]; exact A.1) (State.isArrayOf_alike hZ.alike A.2.1) A.2.2 (by rw [hs]; simp; exact ⟨Int32.not_lt.mp hi0, hlt⟩) (by rw [hs]; simpa using hv) (g := mkF m pc Ls (.int x :: .ref a :: st)) rfl rfl (hb hby hd) t hr) g
theorem iastore (K : Cx own code mL ret mn n0 Z p l e R s m args below meth c) (S : St n0 p l e R s m args below meth c k n h T) {i : Nat} (A : VA Z h a .int vs) (hi : Ix x i) (hlt : i < vs.length) (ha : n0 ≤ a) (hd : Dc code pc .iastore 1 q) (g : ∀ T h', Wr h h' a i (.int y) → VA Z h' a .int (vs.set i (.int y)) → St n0 p l e R s m args below meth c k n h' T → Wp n0 p e R s below Q T (mkF m q Ls st)) : Wp n0 p e R s below Q T (mkF m pc Ls (.int y :: .int x :: .ref a :: st)) := by
  obtain ⟨hx, hby, -, -, -, hown, hZ, -⟩ := K; obtain ⟨locs, S, e1, N, z⟩ := S; obtain ⟨hd, rfl⟩ := hd; have A0 := A; obtain ⟨cl, A, hs⟩ := A; obtain ⟨hi0, rfl⟩ := hi
  obtain ⟨T1, h1, S1, e2, W1, st1⟩ := stI S hx hZ e1 A (by rw [hs]; simp; exact ⟨Int32.not_lt.mp hi0, hlt⟩) (g := mkF m pc Ls (.int y :: .int x :: .ref a :: st)) rfl rfl (hb hby hd)
  exact wp_mono st1 (g T1 h1 W1 (A0.wr W1) ⟨_, S1, e2, Fr.snoc S1 N ha, by rw [W1.size]; exact z⟩)
theorem lastore (K : Cx own code mL ret mn n0 Z p l e R s m args below meth c) (S : St n0 p l e R s m args below meth c k n h T) {i : Nat} (A : VA Z h a .long vs) (hi : Ix x i) (hlt : i < vs.length) (ha : n0 ≤ a) (hd : Dc code pc .lastore 1 q) (g : ∀ T h', Wr h h' a i (.long X) → VA Z h' a .long (vs.set i (.long X)) → St n0 p l e R s m args below meth c k n h' T → Wp n0 p e R s below Q T (mkF m q Ls st)) : Wp n0 p e R s below Q T (mkF m pc Ls (.long X :: .int x :: .ref a :: st)) := by
  obtain ⟨hx, hby, -, -, -, hown, hZ, -⟩ := K; obtain ⟨locs, S, e1, N, z⟩ := S; obtain ⟨hd, rfl⟩ := hd; have A0 := A; obtain ⟨cl, A, hs⟩ := A; obtain ⟨hi0, rfl⟩ := hi
  obtain ⟨T1, h1, S1, e2, W1, st1⟩ := stJ S hx hZ e1 A (by rw [hs]; simp; exact ⟨Int32.not_lt.mp hi0, hlt⟩) (g := mkF m pc Ls (.long X :: .int x :: .ref a :: st)) rfl rfl (hb hby hd)
  exact wp_mono st1 (g T1 h1 W1 (A0.wr W1) ⟨_, S1, e2, Fr.snoc S1 N ha, by rw [W1.size]; exact z⟩)
theorem castore (K : Cx own code mL ret mn n0 Z p l e R s m args below meth c) (S : St n0 p l e R s m args below meth c k n h T) {i : Nat} (A : VA Z h a .char vs) (hi : Ix x i) (hlt : i < vs.length) (ha : n0 ≤ a) (hd : Dc code pc .castore 1 q) (g : ∀ T h', Wr h h' a i (.int (nar .char y)) → VA Z h' a .char (vs.set i (.int (nar .char y))) → St n0 p l e R s m args below meth c k n h' T → Wp n0 p e R s below Q T (mkF m q Ls st)) : Wp n0 p e R s below Q T (mkF m pc Ls (.int y :: .int x :: .ref a :: st)) := by
  obtain ⟨hx, hby, -, -, -, hown, hZ, -⟩ := K; obtain ⟨locs, S, e1, N, z⟩ := S; obtain ⟨hd, rfl⟩ := hd; have A0 := A; obtain ⟨cl, A, hs⟩ := A; obtain ⟨hi0, rfl⟩ := hi
  obtain ⟨T1, h1, S1, e2, W1, st1⟩ := stC S hx hZ e1 A (by rw [hs]; simp; exact ⟨Int32.not_lt.mp hi0, hlt⟩) (g := mkF m pc Ls (.int y :: .int x :: .ref a :: st)) rfl rfl (hb hby hd)
  exact wp_mono st1 (g T1 h1 W1 (A0.wr W1) ⟨_, S1, e2, Fr.snoc S1 N ha, by rw [W1.size]; exact z⟩)
theorem bastore (K : Cx own code mL ret mn n0 Z p l e R s m args below meth c) (S : St n0 p l e R s m args below meth c k n h T) {i : Nat} (A : VA Z h a .byte vs) (hi : Ix x i) (hlt : i < vs.length) (ha : n0 ≤ a) (hd : Dc code pc .bastore 1 q) (g : ∀ T h', Wr h h' a i (.int (nar .byte y)) → VA Z h' a .byte (vs.set i (.int (nar .byte y))) → St n0 p l e R s m args below meth c k n h' T → Wp n0 p e R s below Q T (mkF m q Ls st)) : Wp n0 p e R s below Q T (mkF m pc Ls (.int y :: .int x :: .ref a :: st)) := by
  obtain ⟨hx, hby, -, -, -, hown, hZ, -⟩ := K; obtain ⟨locs, S, e1, N, z⟩ := S; obtain ⟨hd, rfl⟩ := hd; have A0 := A; obtain ⟨cl, A, hs⟩ := A; obtain ⟨hi0, rfl⟩ := hi
  obtain ⟨T1, h1, S1, e2, W1, st1⟩ := stB S hx hZ e1 A (by rw [hs]; simp; exact ⟨Int32.not_lt.mp hi0, hlt⟩) (g := mkF m pc Ls (.int y :: .int x :: .ref a :: st)) rfl rfl (hb hby hd)
  exact wp_mono st1 (g T1 h1 W1 (A0.wr W1) ⟨_, S1, e2, Fr.snoc S1 N ha, by rw [W1.size]; exact z⟩)
theorem alen (K : Cx own code mL ret mn n0 Z p l e R s m args below meth c) (S : St n0 p l e R s m args below meth c k n h T) (A : VA Z h a ty vs) (hx' : vs.length.toInt32 = x) (hd : Dc code pc .arraylength 1 q) (g : Wp n0 p e R s below Q T (mkF m q Ls (.int x :: st))) : Wp n0 p e R s below Q T (mkF m pc Ls (.ref a :: st)) := by
  obtain ⟨hx, hby, -, -, -, hown, hZ, -⟩ := K; obtain ⟨locs, S, e1, N, z⟩ := S; obtain ⟨hd, rfl⟩ := hd; obtain ⟨cl, A, hs⟩ := A
  refine wp_mono (fun t hr => S.arraylength hx (by rw [e1]; exact A.1) (State.isArrayOf_alike hZ.alike A.2.1) (g := mkF m pc Ls (.ref a :: st)) rfl rfl (hb hby hd) t hr) (T' := T) (g' := mkF m (pc + 1) Ls (.int cl.slots.size.toInt32 :: st)) ?_
  rw [hs]; simpa [hx'] using g
theorem retn (K : Cx own code mL (some ty) mn n0 Z p l e R s m args below meth c) (S : St n0 p l e R s m args below meth c k n h T) (ht : ty = .boolean ∨ ty = .byte ∨ ty = .char ∨ ty = .short) (hz : nar ty x = y) (hk : k ≤ R.cells) (hn : n ≤ R.slots) (hd : Dc code pc .ireturn 1 q) (hQ : Q (some (.int y)) h) : Wp n0 p e R s below Q T (mkF m pc Ls (.int x :: st)) := by
  obtain ⟨hx, hby, -, hret, hlk, -⟩ := K; obtain ⟨locs, S, e1, N, z⟩ := S; obtain ⟨hd, -⟩ := hd
  obtain ⟨fs, hr, hrun, hended, hW, hsame⟩ := S.leave (v := some (.int y)) (fun h => by rw [hret] at h; cases h) hlk
  refine ⟨_, _, retN S hx hret ht (hb hby hd) (by rw [hz]; exact hr), hrun, hended, _, _, rfl, ⟨?_, ?_, N⟩, ⟨_, rfl⟩, hW, hsame.mono hk hn⟩
  · show Q _ T.heap; rw [e1]; exact hQ
  · show n0 ≤ T.heap.size; rw [e1]; exact z
theorem reti (K : Cx own code mL (some .int) mn n0 Z p l e R s m args below meth c) (S : St n0 p l e R s m args below meth c k n h T) (hk : k ≤ R.cells) (hn : n ≤ R.slots) (hd : Dc code pc .ireturn 1 q) (hQ : Q (some (.int x)) h) : Wp n0 p e R s below Q T (mkF m pc Ls (.int x :: st)) := by
  obtain ⟨hx, hby, -, hret, hlk, -⟩ := K; obtain ⟨locs, S, e1, N, z⟩ := S; obtain ⟨hd, -⟩ := hd
  obtain ⟨fs, hr, hrun, hended, hW, hsame⟩ := S.leave (v := some (.int x)) (fun h => by rw [hret] at h; cases h) hlk
  refine ⟨_, _, retOut S hx hret rfl (Or.inl ⟨rfl, Or.inl rfl, _, rfl⟩) (hb hby hd) hr, hrun, hended, _, _, rfl, ⟨?_, ?_, N⟩, ⟨_, rfl⟩, hW, hsame.mono hk hn⟩
  · show Q _ T.heap; rw [e1]; exact hQ
  · show n0 ≤ T.heap.size; rw [e1]; exact z
theorem retl (K : Cx own code mL (some .long) mn n0 Z p l e R s m args below meth c) (S : St n0 p l e R s m args below meth c k n h T) (hk : k ≤ R.cells) (hn : n ≤ R.slots) (hd : Dc code pc .lreturn 1 q) (hQ : Q (some (.long X)) h) : Wp n0 p e R s below Q T (mkF m pc Ls (.long X :: st)) := by
  obtain ⟨hx, hby, -, hret, hlk, -⟩ := K; obtain ⟨locs, S, e1, N, z⟩ := S; obtain ⟨hd, -⟩ := hd
  obtain ⟨fs, hr, hrun, hended, hW, hsame⟩ := S.leave (v := some (.long X)) (fun h => by rw [hret] at h; cases h) hlk
  refine ⟨_, _, retOut S hx hret rfl (Or.inr (Or.inl ⟨rfl, rfl, _, rfl⟩)) (hb hby hd) hr, hrun, hended, _, _, rfl, ⟨?_, ?_, N⟩, ⟨_, rfl⟩, hW, hsame.mono hk hn⟩
  · show Q _ T.heap; rw [e1]; exact hQ
  · show n0 ≤ T.heap.size; rw [e1]; exact z
theorem reta (K : Cx own code mL (some ty) mn n0 Z p l e R s m args below meth c) (S : St n0 p l e R s m args below meth c k n h T) (hrf : ty.isReference = true) (hnr : narrow ty (.ref a) = .ref a) (hk : k ≤ R.cells) (hn : n ≤ R.slots) (hd : Dc code pc .areturn 1 q) (hQ : Q (some (.ref a)) h) : Wp n0 p e R s below Q T (mkF m pc Ls (.ref a :: st)) := by
  obtain ⟨hx, hby, -, hret, hlk, -⟩ := K; obtain ⟨locs, S, e1, N, z⟩ := S; obtain ⟨hd, -⟩ := hd
  obtain ⟨fs, hr, hrun, hended, hW, hsame⟩ := S.leave (v := some (.ref a)) (fun h => by rw [hret] at h; cases h) hlk
  refine ⟨_, _, retOut S hx hret hnr (Or.inr (Or.inr (Or.inr (Or.inr ⟨rfl, hrf, rfl⟩)))) (hb hby hd) hr, hrun, hended, _, _, rfl, ⟨?_, ?_, N⟩, ⟨_, rfl⟩, hW, hsame.mono hk hn⟩
  · show Q _ T.heap; rw [e1]; exact hQ
  · show n0 ≤ T.heap.size; rw [e1]; exact z
theorem retv (K : Cx own code mL (none) mn n0 Z p l e R s m args below meth c) (S : St n0 p l e R s m args below meth c k n h T) (hk : k ≤ R.cells) (hn : n ≤ R.slots) (hd : Dc code pc .return_ 1 q) (hQ : Q (none) h) : Wp n0 p e R s below Q T (mkF m pc Ls ([])) := by
  obtain ⟨hx, hby, -, hret, hlk, -⟩ := K; obtain ⟨locs, S, e1, N, z⟩ := S; obtain ⟨hd, -⟩ := hd
  obtain ⟨fs, hr, hrun, hended, hW, hsame⟩ := S.leave (v := none) (fun _ => rfl) hlk
  refine ⟨_, _, S.returnOut hx hret (hb hby hd) hr, hrun, hended, _, _, rfl, ⟨?_, ?_, N⟩, ⟨_, rfl⟩, hW, hsame.mono hk hn⟩
  · show Q _ T.heap; rw [e1]; exact hQ
  · show n0 ≤ T.heap.size; rw [e1]; exact z
theorem callS (K : Cx own code mL ret mn n0 Z p l e R s m args below meth c) (S : St n0 p l e R s m args below meth c k n h T) {i mL' W : Nat} {y : MethodName} {bytes : ByteArray} {ret' : Option FieldType} {rm : Room} {as' : Array Value} {Q' : Option Value → Heap → Prop} {argsL : List Value} (M : Met n0 l Z y bytes mL' ret' rm [] as' h Q') (w1 : (Jvm.Cond.methodLink own i y).before a0 Z = true) (w2 : (Jvm.Cond.static y).before a0 Z = true) (w4 : (Jvm.Cond.code y bytes mL' ret').before a0 Z = true) (w5 : (Jvm.Cond.initialized y.cls).before a0 Z = true) (hy : y.cls ≠ "java/lang/invoke/MethodHandle" ∧ y.cls ≠ "java/lang/invoke/VarHandle") (hfr : rm.frames + 1 ≤ R.frames) (hlo : W + (mL' + 11) + rm.locals ≤ R.locals) (hce : k + rm.cells ≤ R.cells) (hsl : n + rm.slots ≤ R.slots) (hsz : Ls.size = mL) (has : (argsL).toArray = as') (hlen : ∀ sig, parseMethodDescriptor y.desc = some sig → argsL.length = sig.parameters.length) (hst : st = argsL.reverse ++ rest) (hW : (rest.map fun v => v.category).sum ≤ W) (hd : Dc code pc (.invokestatic i) 3 q) (g : ∀ T v h', Q' v h' → St n0 p l e R s m args below meth c (k + rm.cells) (n + rm.slots) h' T → Wp n0 p e R s below Q T (mkF m q Ls (v.toList ++ rest))) : Wp n0 p e R s below Q T (mkF m pc Ls st) := by
  obtain ⟨hx, hby, hml, -, -, hown, hZ, hmn⟩ := K; obtain ⟨locs, S, e1, N, z⟩ := S; obtain ⟨hd, rfl⟩ := hd; subst hst has
  obtain ⟨v1, _, ⟨T1, L1, k1, n1⟩, -, S1, ⟨Lc1, hQ1, l1, y1, z1⟩, st1⟩ := Jvm.LawKit.callS S hx (y := y) hown (mvT hZ w1) (mvT hZ w2) (mvT hZ w5) (mvT hZ w4) hy (backOf (W := W) (Q := fun v h L => Q' v h ∧ n0 ≤ h.size ∧ Fr n0 L) M hZ w4 w5 hfr hlo) (g := mkF m pc Ls (argsL.reverse ++ rest)) rfl (by rw [hml]; exact hsz) (argsL := argsL) (rest := rest) hlen rfl (by show 2 * 0 + _ ≤ _; omega) (hb hby hd) (fun _ _ => ⟨rfl, e1, hce, hsl⟩)
  dsimp only [Pt.U, Pt.locs, Pt.cells, Pt.slots] at S1 l1 y1 z1 st1 hQ1
  subst l1 y1 z1
  exact wp_mono st1 (g T1 v1 T1.heap hQ1.1 ⟨_, S1, rfl, Fr.app N hQ1.2.2, hQ1.2.1⟩)
theorem callC (K : Cx own code mL ret mn n0 Z p l e R s m args below meth c) (S : St n0 p l e R s m args below meth c k n h T) {i mL' W : Nat} {y : MethodName} {bytes : ByteArray} {ret' : Option FieldType} {rm : Room} {as' : Array Value} {Q' : Option Value → Heap → Prop} {argsL : List Value} (M : Met n0 l Z y bytes mL' ret' rm [] as' h Q') (hin : y.name = "<init>") (hr0 : ret' = none) (w1 : (Jvm.Cond.methodLink own i y).before a0 Z = true) (w2 : (Jvm.Cond.instanceMethod y).before a0 Z = true) (w4 : (Jvm.Cond.code y bytes mL' ret').before a0 Z = true) (w5 : (Jvm.Cond.initialized y.cls).before a0 Z = true) (hy : y.cls ≠ "java/lang/invoke/MethodHandle" ∧ y.cls ≠ "java/lang/invoke/VarHandle") (hfr : rm.frames + 1 ≤ R.frames) (hlo : W + (mL' + 11) + rm.locals ≤ R.locals) (hce : k + rm.cells ≤ R.cells) (hsl : n + rm.slots ≤ R.slots) (hsz : Ls.size = mL) (has : (.ref a :: argsL).toArray = as') (hlen : ∀ sig, parseMethodDescriptor y.desc = some sig → argsL.length = sig.parameters.length) (hst : st = argsL.reverse ++ .ref a :: rest) (hW : (rest.map fun v => v.category).sum ≤ W) (hd : Dc code pc (.invokespecial i) 3 q) (g : ∀ T v h', Q' v h' → St n0 p l e R s m args below meth c (k + rm.cells) (n + rm.slots) h' T → Wp n0 p e R s below Q T (mkF m q Ls (v.toList ++ rest))) : Wp n0 p e R s below Q T (mkF m pc Ls st) := by
  obtain ⟨hx, hby, hml, -, -, hown, hZ, hmn⟩ := K; obtain ⟨locs, S, e1, N, z⟩ := S; obtain ⟨hd, rfl⟩ := hd; subst hst has
  subst hr0
  obtain ⟨v1, _, ⟨T1, L1, k1, n1⟩, -, S1, ⟨Lc1, hQ1, l1, y1, z1⟩, st1⟩ := S.specialBack hx (y := y) hin hown (mvT hZ w1) (mvT hZ w2) (mvT hZ w4) hy (backOf (W := W) (Q := fun v h L => Q' v h ∧ n0 ≤ h.size ∧ Fr n0 L) M hZ w4 w5 hfr hlo) (g := mkF m pc Ls (argsL.reverse ++ .ref a :: rest)) rfl (by rw [hml]; exact hsz) (Steps.refl _) (a := a) (argsL := argsL) (rest := rest) hlen rfl (by show 2 * 0 + _ ≤ _; omega) (hb hby hd) (fun _ _ => ⟨rfl, e1, hce, hsl⟩)
  dsimp only [Pt.U, Pt.locs, Pt.cells, Pt.slots] at S1 l1 y1 z1 st1 hQ1
  subst l1 y1 z1
  exact wp_mono (fun t hr => st1.trans hr) (g T1 v1 T1.heap hQ1.1 ⟨_, S1, rfl, Fr.app N hQ1.2.2, hQ1.2.1⟩)
theorem callV (K : Cx own code mL ret mn n0 Z p l e R s m args below meth c) (S : St n0 p l e R s m args below meth c k n h T) {i mL' W : Nat} {y : MethodName} {bytes : ByteArray} {ret' : Option FieldType} {rm : Room} {as' : Array Value} {Q' : Option Value → Heap → Prop} {argsL : List Value} (M : Met n0 l Z y bytes mL' ret' rm [] as' h Q') (E : Exa Z h a y.cls) (w1 : (Jvm.Cond.methodLink own i y).before a0 Z = true) (w2 : (Jvm.Cond.declares y).before a0 Z = true) (w3 : (Jvm.Cond.selects y.cls y y).before a0 Z = true) (w6 : (Jvm.Cond.instanceMethod y).before a0 Z = true) (w4 : (Jvm.Cond.code y bytes mL' ret').before a0 Z = true) (w5 : (Jvm.Cond.initialized y.cls).before a0 Z = true) (hy : y.cls ≠ "java/lang/invoke/MethodHandle" ∧ y.cls ≠ "java/lang/invoke/VarHandle") (hfr : rm.frames + 1 ≤ R.frames) (hlo : W + (mL' + 11) + rm.locals ≤ R.locals) (hce : k + rm.cells ≤ R.cells) (hsl : n + rm.slots ≤ R.slots) (hsz : Ls.size = mL) (has : (.ref a :: argsL).toArray = as') (hlen : ∀ sig, parseMethodDescriptor y.desc = some sig → argsL.length = sig.parameters.length) (hst : st = argsL.reverse ++ .ref a :: rest) (hW : (rest.map fun v => v.category).sum ≤ W) (hd : Dc code pc (.invokevirtual i) 3 q) (g : ∀ T v h', Q' v h' → St n0 p l e R s m args below meth c (k + rm.cells) (n + rm.slots) h' T → Wp n0 p e R s below Q T (mkF m q Ls (v.toList ++ rest))) : Wp n0 p e R s below Q T (mkF m pc Ls st) := by
  obtain ⟨hx, hby, hml, -, -, hown, hZ, hmn⟩ := K; obtain ⟨locs, S, e1, N, z⟩ := S; obtain ⟨hd, rfl⟩ := hd; subst hst has
  obtain ⟨cq, kq, qa, qb, qc⟩ := isOf hZ e1 E
  obtain ⟨v1, _, ⟨T1, L1, k1, n1⟩, -, S1, ⟨Lc1, hQ1, l1, y1, z1⟩, st1⟩ := S.virtualBack hx (y := y) (z := y) hown (mvT hZ w1) (mvT hZ w2) (notFace_of_selects (args := #[]) (mvT hZ w3)) (mvT hZ w3) (mvT hZ w6) hy (backOf (W := W) (Q := fun v h L => Q' v h ∧ n0 ≤ h.size ∧ Fr n0 L) M hZ w4 w5 hfr hlo) qa qc (g := mkF m pc Ls (argsL.reverse ++ .ref a :: rest)) rfl (by rw [hml]; exact hsz) (Steps.refl _) (argsL := argsL) (rest := rest) hlen rfl (by show 2 * 0 + _ ≤ _; omega) (hb hby hd) (fun _ _ => ⟨rfl, e1, hce, hsl⟩)
  dsimp only [Pt.U, Pt.locs, Pt.cells, Pt.slots] at S1 l1 y1 z1 st1 hQ1
  subst l1 y1 z1
  exact wp_mono (fun t hr => st1.trans hr) (g T1 v1 T1.heap hQ1.1 ⟨_, S1, rfl, Fr.app N hQ1.2.2, hQ1.2.1⟩)
theorem callP (K : Cx own code mL ret mn n0 Z p l e R s m args below meth c) (S : St n0 p l e R s m args below meth c k n h T) {i mL' W : Nat} {y : MethodName} {bytes : ByteArray} {ret' : Option FieldType} {rm : Room} {as' : Array Value} {Q' : Option Value → Heap → Prop} {argsL : List Value} (M : Met n0 l Z y bytes mL' ret' rm [] as' h Q') (E : Exa Z h a y.cls) {y2 : MethodName} (hy2 : y2.cls = y.cls) (w1 : (Jvm.Cond.methodLink own i y).before a0 Z = true) (w2 : (Jvm.Cond.privateMethod y).before a0 Z = true) (w3 : (Jvm.Cond.selects y.cls y2 y2).before a0 Z = true) (w6 : (Jvm.Cond.instanceMethod y).before a0 Z = true) (w4 : (Jvm.Cond.code y bytes mL' ret').before a0 Z = true) (w5 : (Jvm.Cond.initialized y.cls).before a0 Z = true) (hy : y.cls ≠ "java/lang/invoke/MethodHandle" ∧ y.cls ≠ "java/lang/invoke/VarHandle") (hfr : rm.frames + 1 ≤ R.frames) (hlo : W + (mL' + 11) + rm.locals ≤ R.locals) (hce : k + rm.cells ≤ R.cells) (hsl : n + rm.slots ≤ R.slots) (hsz : Ls.size = mL) (has : (.ref a :: argsL).toArray = as') (hlen : ∀ sig, parseMethodDescriptor y.desc = some sig → argsL.length = sig.parameters.length) (hst : st = argsL.reverse ++ .ref a :: rest) (hW : (rest.map fun v => v.category).sum ≤ W) (hd : Dc code pc (.invokevirtual i) 3 q) (g : ∀ T v h', Q' v h' → St n0 p l e R s m args below meth c (k + rm.cells) (n + rm.slots) h' T → Wp n0 p e R s below Q T (mkF m q Ls (v.toList ++ rest))) : Wp n0 p e R s below Q T (mkF m pc Ls st) := by
  obtain ⟨hx, hby, hml, -, -, hown, hZ, hmn⟩ := K; obtain ⟨locs, S, e1, N, z⟩ := S; obtain ⟨hd, rfl⟩ := hd; subst hst has
  obtain ⟨cq, q1, q2⟩ := E.cell
  have w3' : (Jvm.Cond.selects y.cls y2 y2).before (args := #[]) s = true := mvT hZ w3
  have wp' := Cond.privateMethod_at (mvP hZ w2 (args := #[]))
  have w6' : (Jvm.Cond.instanceMethod y).before args s = true := mvT hZ w6
  obtain ⟨c1, r1, m1, f1, f2, f3, f4, k2, f5, f6⟩ := Cond.selects_spec w3'
  have f7 : s.vm.findClass y.cls = some m1.cls := by rw [← hy2]; exact findClass_of_methodNamed f3
  have hsel : (Jvm.Cond.selects y.cls y y).before args s = true := Stand.selects_self_of_private f7 f5 f6 wp' w6' hy
  obtain ⟨v1, _, ⟨T1, L1, k1, n1⟩, -, S1, ⟨Lc1, hQ1, l1, y1, z1⟩, st1⟩ := S.privateBack hx (y := y) hown (mvT hZ w1) w6' hsel wp' (mvT hZ w4) hy (backOf (W := W) (Q := fun v h L => Q' v h ∧ n0 ≤ h.size ∧ Fr n0 L) M hZ w4 w5 hfr hlo) (g := mkF m pc Ls (argsL.reverse ++ .ref a :: rest)) rfl (by rw [hml]; exact hsz) (Steps.refl _) (a := a) (by rw [e1]; exact q1) q2 (argsL := argsL) (rest := rest) hlen rfl (by show 2 * 0 + _ ≤ _; omega) (hb hby hd) (fun _ _ => ⟨rfl, e1, hce, hsl⟩)
  dsimp only [Pt.U, Pt.locs, Pt.cells, Pt.slots] at S1 l1 y1 z1 st1 hQ1
  subst l1 y1 z1
  exact wp_mono (fun t hr => st1.trans hr) (g T1 v1 T1.heap hQ1.1 ⟨_, S1, rfl, Fr.app N hQ1.2.2, hQ1.2.1⟩)
end Kit
end Jvm.Own
namespace Jvm.Pilot.@@N@@
open Jvm Jvm.ClassFile Sem Op Lib Jvm.Free Jvm.Stand Jvm.LawKit Jvm.RoadKit Bundle Jvm.Pilot.@@N@@.Jvm.D Jvm.Own
theorem hwi {a0 : Array Value} {Z : State} (hw : ∀ d ∈ tables_1, d.before a0 Z = true) (i : Nat) {d : Jvm.Cond} (h : tables_1[i]? = some d) : d.before a0 Z = true := hw _ (List.mem_of_getElem? h)
abbrev PS := List (List Int32) × Int32 × Int32
def lget (xs : List Int32) (j : Int32) : Int32 := xs.getD j.toNatClampNeg 0
def lset (xs : List Int32) (j x : Int32) : List Int32 := xs.set j.toNatClampNeg x
def linb (xs : List Int32) (j : Int32) : Bool := decide (¬ j < 0) && decide (j.toNatClampNeg < xs.length)
def row (L : PS) (r : Nat) : List Int32 := L.1.getD r []
def fmA (L : PS) (q : Int32) (tb : List Int32) (tc : Int32) : PS :=
  ([lset (lset (row L 0) (lget (row L 1) q) (lget (row L 0) (lget (row L 5) (lget (row L 2) q)))) (lget (row L 5) (lget (row L 2) q)) q,
    lset (lset (row L 1) (lget (row L 0) (lget (row L 5) (lget (row L 2) q))) (lget (row L 1) q)) q (lget (row L 5) (lget (row L 2) q)),
    row L 2, row L 3, row L 4, lset (row L 5) (lget (row L 2) q) (lget (row L 5) (lget (row L 2) q) + 1), row L 6, tb], L.2.1, tc)
def fmark (L : PS) (q : Int32) : PS :=
  if lget (row L 1) q < lget (row L 5) (lget (row L 2) q) then L
  else if lget (row L 5) (lget (row L 2) q) = lget (row L 3) (lget (row L 2) q) then fmA L q (lset (row L 7) L.2.2 (lget (row L 2) q)) (L.2.2 + 1)
  else fmA L q (row L 7) L.2.2
def okmark (L : PS) (q : Int32) : Bool :=
  linb (row L 2) q && linb (row L 1) q && linb (row L 5) (lget (row L 2) q) && linb (row L 3) (lget (row L 2) q) && linb (row L 7) L.2.2 && linb (row L 0) (lget (row L 5) (lget (row L 2) q)) && linb (row L 0) (lget (row L 1) q) && linb (row L 1) (lget (row L 0) (lget (row L 5) (lget (row L 2) q)))
def okmark' (L : PS) (q : Int32) : Bool :=
  linb (row L 2) q && linb (row L 1) q && linb (row L 5) (lget (row L 2) q) && (decide (lget (row L 1) q < lget (row L 5) (lget (row L 2) q)) || okmark L q)
def finn : Nat → List Int32 → Int32 → Int32 → Int32 → List Int32 → List Int32
  | 0, _, _, _, _, b => b
  | n + 1, e, fr, j, bd, b => if j < bd then finn n e fr (j + 1) bd (lset b (lget e j) fr) else b
def okinn : Nat → List Int32 → Int32 → Int32 → Int32 → List Int32 → Bool
  | 0, _, _, _, _, _ => false
  | n + 1, e, fr, j, bd, b => if j < bd then linb e j && linb b (lget e j) && okinn n e fr (j + 1) bd (lset b (lget e j) fr) else true
def sb1 (L : PS) (k : Int32) : List Int32 := lset (row L 3) L.2.1 (lget (row L 3) k)
def fsA (L : PS) (k bd : Int32) : PS :=
  ([row L 0, row L 1, finn 8 (row L 0) L.2.1 (lget (sb1 L k) L.2.1) bd (row L 2), lset (sb1 L k) k bd, lset (row L 4) L.2.1 bd,
    lset (lset (row L 5) L.2.1 (lget (sb1 L k) L.2.1)) k (lget (lset (sb1 L k) k bd) k), lset (row L 6) L.2.1 k, row L 7], L.2.1 + 1, L.2.2)
def fsB (L : PS) (k : Int32) : PS := ([row L 0, row L 1, row L 2, row L 3, row L 4, lset (row L 5) k (lget (row L 3) k), row L 6, row L 7], L.2.1, L.2.2)
def fstep (L : PS) (i : Int32) : PS := if lget (row L 5) (lget (row L 7) i) < lget (row L 4) (lget (row L 7) i) then fsA L (lget (row L 7) i) (lget (row L 5) (lget (row L 7) i)) else fsB L (lget (row L 7) i)
def okA (L : PS) (k bd : Int32) : Bool := linb (row L 3) k && linb (row L 3) L.2.1 && linb (row L 4) L.2.1 && linb (row L 5) L.2.1 && linb (row L 6) L.2.1 && linb (sb1 L k) L.2.1 && linb (sb1 L k) k && linb (lset (sb1 L k) k bd) k && linb (lset (row L 5) L.2.1 (lget (sb1 L k) L.2.1)) k && okinn 8 (row L 0) L.2.1 (lget (sb1 L k) L.2.1) bd (row L 2)
def okstep (L : PS) (i : Int32) : Bool := linb (row L 7) i && linb (row L 5) (lget (row L 7) i) && linb (row L 4) (lget (row L 7) i) && (if lget (row L 5) (lget (row L 7) i) < lget (row L 4) (lget (row L 7) i) then okA L (lget (row L 7) i) (lget (row L 5) (lget (row L 7) i)) else linb (row L 3) (lget (row L 7) i))
def fout : Nat → PS → Int32 → PS
  | 0, L, _ => L
  | n + 1, L, i => if i < L.2.2 then fout n (fstep L i) (i + 1) else L
def okout : Nat → PS → Int32 → Bool
  | 0, _, _ => false
  | n + 1, L, i => if i < L.2.2 then okstep L i && okout n (fstep L i) (i + 1) else true
def fspl (L : PS) : PS := ((fout 8 L 0).1, (fout 8 L 0).2.1, 0)
def L0 : PS := ([[0, 1, 2, 3], [0, 1, 2, 3], [0, 0, 0, 0], [0, 0, 0, 0], [4, 0, 0, 0], [0, 0, 0, 0], [0, 0, 0, 0], [0, 0, 0, 0]], 1, 0)
theorem linb_lt {xs : List Int32} {j : Int32} (h : linb xs j = true) : j.toNatClampNeg < xs.length := by
  simp only [linb, Bool.and_eq_true, decide_eq_true_eq] at h; exact h.2
theorem linb_ix {xs : List Int32} {j : Int32} (h : linb xs j = true) : Ix j j.toNatClampNeg := by
  simp only [linb, Bool.and_eq_true, decide_eq_true_eq] at h; exact ⟨h.1, rfl⟩
theorem linb_get {xs : List Int32} {j : Int32} (h : linb xs j = true) : (xs.map Value.int)[j.toNatClampNeg]? = some (.int (lget xs j)) := by
  have := linb_lt h
  simp [lget, List.getElem?_map, this]
theorem linb_ml {xs : List Int32} {j : Int32} (h : linb xs j = true) : j.toNatClampNeg < (xs.map Value.int).length := by rw [List.length_map]; exact linb_lt h
theorem linb_set {xs : List Int32} {j k z : Int32} (h : linb xs j = true) : linb (lset xs k z) j = true := by
  simpa [linb, lset] using h
theorem lset_map {xs : List Int32} {j x : Int32} : (lset xs j x).map Value.int = (xs.map Value.int).set j.toNatClampNeg (.int x) := by simp [lset, List.map_set]
def PK (Z : State) (h : Heap) (o p0 p1 p2 p3 p4 p5 p6 p7 : Addr) (L : PS) : Prop := Exa Z h o "com/example/procsh/procsh/service/Partition" ∧ Fld Z h o "com/example/procsh/procsh/service/Partition" "elements" "[I" (.ref p0) ∧ Fld Z h o "com/example/procsh/procsh/service/Partition" "positionOf" "[I" (.ref p1) ∧ Fld Z h o "com/example/procsh/procsh/service/Partition" "blockOf" "[I" (.ref p2) ∧ Fld Z h o "com/example/procsh/procsh/service/Partition" "blockStart" "[I" (.ref p3) ∧ Fld Z h o "com/example/procsh/procsh/service/Partition" "blockEnd" "[I" (.ref p4) ∧ Fld Z h o "com/example/procsh/procsh/service/Partition" "markedEnd" "[I" (.ref p5) ∧ Fld Z h o "com/example/procsh/procsh/service/Partition" "origin" "[I" (.ref p6) ∧ Fld Z h o "com/example/procsh/procsh/service/Partition" "touchedBlocks" "[I" (.ref p7) ∧ Fld Z h o "com/example/procsh/procsh/service/Partition" "blocks" "I" (.int L.2.1) ∧ Fld Z h o "com/example/procsh/procsh/service/Partition" "touched" "I" (.int L.2.2) ∧ VA Z h p0 .int ((row L 0).map Value.int) ∧ VA Z h p1 .int ((row L 1).map Value.int) ∧ VA Z h p2 .int ((row L 2).map Value.int) ∧ VA Z h p3 .int ((row L 3).map Value.int) ∧ VA Z h p4 .int ((row L 4).map Value.int) ∧ VA Z h p5 .int ((row L 5).map Value.int) ∧ VA Z h p6 .int ((row L 6).map Value.int) ∧ VA Z h p7 .int ((row L 7).map Value.int)
def AD (n0 o p0 p1 p2 p3 p4 p5 p6 p7 : Nat) : Prop := n0 ≤ o ∧ o < p0 ∧ p0 < p1 ∧ p1 < p2 ∧ p2 < p3 ∧ p3 < p4 ∧ p4 < p5 ∧ p5 < p6 ∧ p6 < p7
theorem d1_0 : Dc prog_68_method_1_code 0 (.aload_n 0) 1 1 := ⟨by decide +kernel, rfl⟩
theorem d1_1 : Dc prog_68_method_1_code 1 (.invokespecial 1) 3 4 := ⟨by decide +kernel, rfl⟩
theorem d1_4 : Dc prog_68_method_1_code 4 (.aload_n 0) 1 5 := ⟨by decide +kernel, rfl⟩
theorem d1_5 : Dc prog_68_method_1_code 5 (.iload_n 1) 1 6 := ⟨by decide +kernel, rfl⟩
theorem d1_6 : Dc prog_68_method_1_code 6 (.newarray .int) 2 8 := ⟨by decide +kernel, rfl⟩
theorem d1_8 : Dc prog_68_method_1_code 8 (.putfield 7) 3 11 := ⟨by decide +kernel, rfl⟩
theorem d1_11 : Dc prog_68_method_1_code 11 (.aload_n 0) 1 12 := ⟨by decide +kernel, rfl⟩
theorem d1_12 : Dc prog_68_method_1_code 12 (.iload_n 1) 1 13 := ⟨by decide +kernel, rfl⟩
theorem d1_13 : Dc prog_68_method_1_code 13 (.newarray .int) 2 15 := ⟨by decide +kernel, rfl⟩
theorem d1_15 : Dc prog_68_method_1_code 15 (.putfield 13) 3 18 := ⟨by decide +kernel, rfl⟩
theorem d1_18 : Dc prog_68_method_1_code 18 (.iconst 0) 1 19 := ⟨by decide +kernel, rfl⟩
theorem d1_19 : Dc prog_68_method_1_code 19 (.istore_n 2) 1 20 := ⟨by decide +kernel, rfl⟩
theorem d1_20 : Dc prog_68_method_1_code 20 (.iload_n 2) 1 21 := ⟨by decide +kernel, rfl⟩
theorem d1_21 : Dc prog_68_method_1_code 21 (.iload_n 1) 1 22 := ⟨by decide +kernel, rfl⟩
theorem d1_22 : Bc prog_68_method_1_code 22 (.if_icmp .ge 23) (23) 25 45 := ⟨by decide +kernel, rfl, by decide, by decide⟩
theorem d1_25 : Dc prog_68_method_1_code 25 (.aload_n 0) 1 26 := ⟨by decide +kernel, rfl⟩
theorem d1_26 : Dc prog_68_method_1_code 26 (.getfield 7) 3 29 := ⟨by decide +kernel, rfl⟩
theorem d1_29 : Dc prog_68_method_1_code 29 (.iload_n 2) 1 30 := ⟨by decide +kernel, rfl⟩
theorem d1_30 : Dc prog_68_method_1_code 30 (.iload_n 2) 1 31 := ⟨by decide +kernel, rfl⟩
theorem d1_31 : Dc prog_68_method_1_code 31 (.iastore) 1 32 := ⟨by decide +kernel, rfl⟩
theorem d1_32 : Dc prog_68_method_1_code 32 (.aload_n 0) 1 33 := ⟨by decide +kernel, rfl⟩
theorem d1_33 : Dc prog_68_method_1_code 33 (.getfield 13) 3 36 := ⟨by decide +kernel, rfl⟩
theorem d1_36 : Dc prog_68_method_1_code 36 (.iload_n 2) 1 37 := ⟨by decide +kernel, rfl⟩
theorem d1_37 : Dc prog_68_method_1_code 37 (.iload_n 2) 1 38 := ⟨by decide +kernel, rfl⟩
theorem d1_38 : Dc prog_68_method_1_code 38 (.iastore) 1 39 := ⟨by decide +kernel, rfl⟩
theorem d1_39 : Dc prog_68_method_1_code 39 (.iinc 2 1) 3 42 := ⟨by decide +kernel, rfl⟩
theorem d1_42 : Bc prog_68_method_1_code 42 (.goto (-22)) (-22) 45 20 := ⟨by decide +kernel, rfl, by decide, by decide⟩
theorem d1_45 : Dc prog_68_method_1_code 45 (.aload_n 0) 1 46 := ⟨by decide +kernel, rfl⟩
theorem d1_46 : Dc prog_68_method_1_code 46 (.iload_n 1) 1 47 := ⟨by decide +kernel, rfl⟩
theorem d1_47 : Dc prog_68_method_1_code 47 (.newarray .int) 2 49 := ⟨by decide +kernel, rfl⟩
theorem d1_49 : Dc prog_68_method_1_code 49 (.putfield 16) 3 52 := ⟨by decide +kernel, rfl⟩
theorem d1_52 : Dc prog_68_method_1_code 52 (.aload_n 0) 1 53 := ⟨by decide +kernel, rfl⟩
theorem d1_53 : Dc prog_68_method_1_code 53 (.iload_n 1) 1 54 := ⟨by decide +kernel, rfl⟩
theorem d1_54 : Dc prog_68_method_1_code 54 (.newarray .int) 2 56 := ⟨by decide +kernel, rfl⟩
theorem d1_56 : Dc prog_68_method_1_code 56 (.putfield 19) 3 59 := ⟨by decide +kernel, rfl⟩
theorem d1_59 : Dc prog_68_method_1_code 59 (.aload_n 0) 1 60 := ⟨by decide +kernel, rfl⟩
theorem d1_60 : Dc prog_68_method_1_code 60 (.iload_n 1) 1 61 := ⟨by decide +kernel, rfl⟩
theorem d1_61 : Dc prog_68_method_1_code 61 (.newarray .int) 2 63 := ⟨by decide +kernel, rfl⟩
theorem d1_63 : Dc prog_68_method_1_code 63 (.putfield 22) 3 66 := ⟨by decide +kernel, rfl⟩
theorem d1_66 : Dc prog_68_method_1_code 66 (.aload_n 0) 1 67 := ⟨by decide +kernel, rfl⟩
theorem d1_67 : Dc prog_68_method_1_code 67 (.iload_n 1) 1 68 := ⟨by decide +kernel, rfl⟩
theorem d1_68 : Dc prog_68_method_1_code 68 (.newarray .int) 2 70 := ⟨by decide +kernel, rfl⟩
theorem d1_70 : Dc prog_68_method_1_code 70 (.putfield 25) 3 73 := ⟨by decide +kernel, rfl⟩
theorem d1_73 : Dc prog_68_method_1_code 73 (.aload_n 0) 1 74 := ⟨by decide +kernel, rfl⟩
theorem d1_74 : Dc prog_68_method_1_code 74 (.iload_n 1) 1 75 := ⟨by decide +kernel, rfl⟩
theorem d1_75 : Dc prog_68_method_1_code 75 (.newarray .int) 2 77 := ⟨by decide +kernel, rfl⟩
theorem d1_77 : Dc prog_68_method_1_code 77 (.putfield 28) 3 80 := ⟨by decide +kernel, rfl⟩
theorem d1_80 : Dc prog_68_method_1_code 80 (.aload_n 0) 1 81 := ⟨by decide +kernel, rfl⟩
theorem d1_81 : Dc prog_68_method_1_code 81 (.iload_n 1) 1 82 := ⟨by decide +kernel, rfl⟩
theorem d1_82 : Dc prog_68_method_1_code 82 (.newarray .int) 2 84 := ⟨by decide +kernel, rfl⟩
theorem d1_84 : Dc prog_68_method_1_code 84 (.putfield 31) 3 87 := ⟨by decide +kernel, rfl⟩
theorem d1_87 : Dc prog_68_method_1_code 87 (.aload_n 0) 1 88 := ⟨by decide +kernel, rfl⟩
theorem d1_88 : Dc prog_68_method_1_code 88 (.getfield 22) 3 91 := ⟨by decide +kernel, rfl⟩
theorem d1_91 : Dc prog_68_method_1_code 91 (.iconst 0) 1 92 := ⟨by decide +kernel, rfl⟩
theorem d1_92 : Dc prog_68_method_1_code 92 (.iload_n 1) 1 93 := ⟨by decide +kernel, rfl⟩
theorem d1_93 : Dc prog_68_method_1_code 93 (.iastore) 1 94 := ⟨by decide +kernel, rfl⟩
theorem d1_94 : Dc prog_68_method_1_code 94 (.aload_n 0) 1 95 := ⟨by decide +kernel, rfl⟩
theorem d1_95 : Dc prog_68_method_1_code 95 (.iconst 1) 1 96 := ⟨by decide +kernel, rfl⟩
theorem d1_96 : Dc prog_68_method_1_code 96 (.putfield 34) 3 99 := ⟨by decide +kernel, rfl⟩
theorem d1_99 : Dc prog_68_method_1_code 99 (.return_) 1 100 := ⟨by decide +kernel, rfl⟩
theorem ef_init (m : MethodId) (o : Addr) : entryFrame m #[.ref o, .int (4 : Int32)] 3 = mkF m 0 #[.val (.ref o), .val (.int (4 : Int32)), .unset] [] := by first | (simp [entryFrame, mkF, argsToLocals, Value.category]; done) | rfl
set_option maxRecDepth 65536 in
set_option maxHeartbeats 40000000 in
theorem m_init (l : Launch) (Z : State) (a0 : Array Value) (hw : ∀ d ∈ tables_1, d.before a0 Z = true) (n0 : Nat) (o : Addr) (h : Heap) (hn : n0 ≤ h.size) (g_o : n0 ≤ o) (E_o : Exa Z h o "com/example/procsh/procsh/service/Partition") (F_elements_o : Fld Z h o "com/example/procsh/procsh/service/Partition" "elements" "[I" (.null)) (F_positionOf_o : Fld Z h o "com/example/procsh/procsh/service/Partition" "positionOf" "[I" (.null)) (F_blockOf_o : Fld Z h o "com/example/procsh/procsh/service/Partition" "blockOf" "[I" (.null)) (F_blockStart_o : Fld Z h o "com/example/procsh/procsh/service/Partition" "blockStart" "[I" (.null)) (F_blockEnd_o : Fld Z h o "com/example/procsh/procsh/service/Partition" "blockEnd" "[I" (.null)) (F_markedEnd_o : Fld Z h o "com/example/procsh/procsh/service/Partition" "markedEnd" "[I" (.null)) (F_origin_o : Fld Z h o "com/example/procsh/procsh/service/Partition" "origin" "[I" (.null)) (F_touchedBlocks_o : Fld Z h o "com/example/procsh/procsh/service/Partition" "touchedBlocks" "[I" (.null)) (F_blocks_o : Fld Z h o "com/example/procsh/procsh/service/Partition" "blocks" "I" (.int 0)) (F_touched_o : Fld Z h o "com/example/procsh/procsh/service/Partition" "touched" "I" (.int 0)) : Met n0 l Z (⟨"com/example/procsh/procsh/service/Partition", "<init>", "(I)V"⟩ : MethodName) prog_68_method_1_code 3 none ({ frames := 1, cells := 8, slots := 32, locals := 12 } : Room) [] #[.ref o, .int (4 : Int32)] h (Ef none (fun h' => ∃ p0 p1 p2 p3 p4 p5 p6 p7, AD n0 o p0 p1 p2 p3 p4 p5 p6 p7 ∧ PK Z h' o p0 p1 p2 p3 p4 p5 p6 p7 L0)) := by
  refine enter (plainFor_of_name (by first | (simp [plainName, overriddenIn]; done) | decide +kernel)) (fun m => ef_init m o) hn ?_
  intro p e s m below meth c T K S
  refine aload_n K S rfl rfl d1_0 ?_
  refine inito K S (W := 0) (hwi hw 6 rfl) (hwi hw 7 rfl) (hwi hw 8 rfl) rfl (by decide) (by decide) (by decide) d1_1 fun T S => ?_
  refine aload_n K S rfl rfl d1_4 ?_
  refine iload_n K S rfl d1_5 ?_
  refine newarr K S (cap := 4) (hwi hw 9 rfl) (by decide) (by decide) (by decide) (by decide) (by decide) d1_6 fun T h6_1 p0 z_p0 g_p0 X A_p0 S => ?_
  have n_o_p0 : o ≠ p0 := by rw [z_p0]; exact Nat.ne_of_lt E_o.lt
  have l_o_p0 : o < p0 := by rw [z_p0]; exact E_o.lt
  replace E_o := E_o.ext X
  replace F_elements_o := F_elements_o.ext X
  replace F_positionOf_o := F_positionOf_o.ext X
  replace F_blockOf_o := F_blockOf_o.ext X
  replace F_blockStart_o := F_blockStart_o.ext X
  replace F_blockEnd_o := F_blockEnd_o.ext X
  replace F_markedEnd_o := F_markedEnd_o.ext X
  replace F_origin_o := F_origin_o.ext X
  replace F_touchedBlocks_o := F_touchedBlocks_o.ext X
  replace F_blocks_o := F_blocks_o.ext X
  replace F_touched_o := F_touched_o.ext X
  replace A_p0 : VA Z h6_1 p0 .int ([.int (0 : Int32), .int (0 : Int32), .int (0 : Int32), .int (0 : Int32)]) := A_p0
  clear X
  refine putf K S (hwi hw 10 rfl) F_elements_o E_o (Or.inr ⟨(hwi hw 11 rfl), rfl, rfl⟩) (hwi hw 1 rfl) (ty := .array .int) (by decide) rfl rfl g_o d1_8 fun T h8_2 W S => ?_
  replace E_o := E_o.wr W
  replace F_elements_o := F_elements_o.same W
  replace F_positionOf_o := F_positionOf_o.other W (Or.inr (slot_ne (C := "com/example/procsh/procsh/service/Partition") (Or.inr (hwi hw 13 rfl)) (Or.inr (hwi hw 11 rfl)) (by decide) (t := .array .int) (t' := .array .int) (by decide) (by decide)))
  replace F_blockOf_o := F_blockOf_o.other W (Or.inr (slot_ne (C := "com/example/procsh/procsh/service/Partition") (Or.inr (hwi hw 15 rfl)) (Or.inr (hwi hw 11 rfl)) (by decide) (t := .array .int) (t' := .array .int) (by decide) (by decide)))
  replace F_blockStart_o := F_blockStart_o.other W (Or.inr (slot_ne (C := "com/example/procsh/procsh/service/Partition") (Or.inr (hwi hw 17 rfl)) (Or.inr (hwi hw 11 rfl)) (by decide) (t := .array .int) (t' := .array .int) (by decide) (by decide)))
  replace F_blockEnd_o := F_blockEnd_o.other W (Or.inr (slot_ne (C := "com/example/procsh/procsh/service/Partition") (Or.inr (hwi hw 19 rfl)) (Or.inr (hwi hw 11 rfl)) (by decide) (t := .array .int) (t' := .array .int) (by decide) (by decide)))
  replace F_markedEnd_o := F_markedEnd_o.other W (Or.inr (slot_ne (C := "com/example/procsh/procsh/service/Partition") (Or.inr (hwi hw 21 rfl)) (Or.inr (hwi hw 11 rfl)) (by decide) (t := .array .int) (t' := .array .int) (by decide) (by decide)))
  replace F_origin_o := F_origin_o.other W (Or.inr (slot_ne (C := "com/example/procsh/procsh/service/Partition") (Or.inr (hwi hw 23 rfl)) (Or.inr (hwi hw 11 rfl)) (by decide) (t := .array .int) (t' := .array .int) (by decide) (by decide)))
  replace F_touchedBlocks_o := F_touchedBlocks_o.other W (Or.inr (slot_ne (C := "com/example/procsh/procsh/service/Partition") (Or.inr (hwi hw 25 rfl)) (Or.inr (hwi hw 11 rfl)) (by decide) (t := .array .int) (t' := .array .int) (by decide) (by decide)))
  replace F_blocks_o := F_blocks_o.other W (Or.inr (slot_ne (C := "com/example/procsh/procsh/service/Partition") (Or.inl (hwi hw 27 rfl)) (Or.inr (hwi hw 11 rfl)) (by decide) (t := .int) (t' := .array .int) (by decide) (by decide)))
  replace F_touched_o := F_touched_o.other W (Or.inr (slot_ne (C := "com/example/procsh/procsh/service/Partition") (Or.inl (hwi hw 34 rfl)) (Or.inr (hwi hw 11 rfl)) (by decide) (t := .int) (t' := .array .int) (by decide) (by decide)))
  replace A_p0 := A_p0.other W (by first | exact n_p0_o | exact Ne.symm n_o_p0 | omega)
  clear W
  refine aload_n K S rfl rfl d1_11 ?_
  refine iload_n K S rfl d1_12 ?_
  refine newarr K S (cap := 4) (hwi hw 9 rfl) (by decide) (by decide) (by decide) (by decide) (by decide) d1_13 fun T h13_3 p1 z_p1 g_p1 X A_p1 S => ?_
  have n_o_p1 : o ≠ p1 := by rw [z_p1]; exact Nat.ne_of_lt E_o.lt
  have l_o_p1 : o < p1 := by rw [z_p1]; exact E_o.lt
  have n_p0_p1 : p0 ≠ p1 := by rw [z_p1]; exact Nat.ne_of_lt A_p0.lt
  have l_p0_p1 : p0 < p1 := by rw [z_p1]; exact A_p0.lt
  replace E_o := E_o.ext X
  replace F_elements_o := F_elements_o.ext X
  replace F_positionOf_o := F_positionOf_o.ext X
  replace F_blockOf_o := F_blockOf_o.ext X
  replace F_blockStart_o := F_blockStart_o.ext X
  replace F_blockEnd_o := F_blockEnd_o.ext X
  replace F_markedEnd_o := F_markedEnd_o.ext X
  replace F_origin_o := F_origin_o.ext X
  replace F_touchedBlocks_o := F_touchedBlocks_o.ext X
  replace F_blocks_o := F_blocks_o.ext X
  replace F_touched_o := F_touched_o.ext X
  replace A_p0 := A_p0.ext X
  replace A_p1 : VA Z h13_3 p1 .int ([.int (0 : Int32), .int (0 : Int32), .int (0 : Int32), .int (0 : Int32)]) := A_p1
  clear X
  refine putf K S (hwi hw 12 rfl) F_positionOf_o E_o (Or.inr ⟨(hwi hw 13 rfl), rfl, rfl⟩) (hwi hw 1 rfl) (ty := .array .int) (by decide) rfl rfl g_o d1_15 fun T h15_4 W S => ?_
  replace E_o := E_o.wr W
  replace F_elements_o := F_elements_o.other W (Or.inr (slot_ne (C := "com/example/procsh/procsh/service/Partition") (Or.inr (hwi hw 11 rfl)) (Or.inr (hwi hw 13 rfl)) (by decide) (t := .array .int) (t' := .array .int) (by decide) (by decide)))
  replace F_positionOf_o := F_positionOf_o.same W
  replace F_blockOf_o := F_blockOf_o.other W (Or.inr (slot_ne (C := "com/example/procsh/procsh/service/Partition") (Or.inr (hwi hw 15 rfl)) (Or.inr (hwi hw 13 rfl)) (by decide) (t := .array .int) (t' := .array .int) (by decide) (by decide)))
  replace F_blockStart_o := F_blockStart_o.other W (Or.inr (slot_ne (C := "com/example/procsh/procsh/service/Partition") (Or.inr (hwi hw 17 rfl)) (Or.inr (hwi hw 13 rfl)) (by decide) (t := .array .int) (t' := .array .int) (by decide) (by decide)))
  replace F_blockEnd_o := F_blockEnd_o.other W (Or.inr (slot_ne (C := "com/example/procsh/procsh/service/Partition") (Or.inr (hwi hw 19 rfl)) (Or.inr (hwi hw 13 rfl)) (by decide) (t := .array .int) (t' := .array .int) (by decide) (by decide)))
  replace F_markedEnd_o := F_markedEnd_o.other W (Or.inr (slot_ne (C := "com/example/procsh/procsh/service/Partition") (Or.inr (hwi hw 21 rfl)) (Or.inr (hwi hw 13 rfl)) (by decide) (t := .array .int) (t' := .array .int) (by decide) (by decide)))
  replace F_origin_o := F_origin_o.other W (Or.inr (slot_ne (C := "com/example/procsh/procsh/service/Partition") (Or.inr (hwi hw 23 rfl)) (Or.inr (hwi hw 13 rfl)) (by decide) (t := .array .int) (t' := .array .int) (by decide) (by decide)))
  replace F_touchedBlocks_o := F_touchedBlocks_o.other W (Or.inr (slot_ne (C := "com/example/procsh/procsh/service/Partition") (Or.inr (hwi hw 25 rfl)) (Or.inr (hwi hw 13 rfl)) (by decide) (t := .array .int) (t' := .array .int) (by decide) (by decide)))
  replace F_blocks_o := F_blocks_o.other W (Or.inr (slot_ne (C := "com/example/procsh/procsh/service/Partition") (Or.inl (hwi hw 27 rfl)) (Or.inr (hwi hw 13 rfl)) (by decide) (t := .int) (t' := .array .int) (by decide) (by decide)))
  replace F_touched_o := F_touched_o.other W (Or.inr (slot_ne (C := "com/example/procsh/procsh/service/Partition") (Or.inl (hwi hw 34 rfl)) (Or.inr (hwi hw 13 rfl)) (by decide) (t := .int) (t' := .array .int) (by decide) (by decide)))
  replace A_p0 := A_p0.other W (by first | exact n_p0_o | exact Ne.symm n_o_p0 | omega)
  replace A_p1 := A_p1.other W (by first | exact n_p1_o | exact Ne.symm n_o_p1 | omega)
  clear W
  refine iconst K S (x := (0 : Int32)) rfl d1_18 ?_
  refine istore_n K S (l' := #[.val (.ref o), .val (.int (4 : Int32)), .val (.int (0 : Int32))]) rfl d1_19 ?_
  refine iload_n K S rfl d1_20 ?_
  refine iload_n K S rfl d1_21 ?_
  refine icmp_ge K S d1_22 (fun c22 => ?_) (fun c22 => ?_)
  · exact absurd c22 (by decide)
  refine aload_n K S rfl rfl d1_25 ?_
  refine getf K S (hwi hw 10 rfl) F_elements_o d1_26 fun T S => ?_
  refine iload_n K S rfl d1_29 ?_
  refine iload_n K S rfl d1_30 ?_
  refine iastore K S (i := 0) A_p0 ⟨by decide, rfl⟩ (show (0 : Nat) < 4 by decide) g_p0 d1_31 fun T h31_5 W B S => ?_
  replace E_o := E_o.wr W
  replace F_elements_o := F_elements_o.other W (Or.inl (by first | exact n_o_p0 | exact Ne.symm n_p0_o | omega))
  replace F_positionOf_o := F_positionOf_o.other W (Or.inl (by first | exact n_o_p0 | exact Ne.symm n_p0_o | omega))
  replace F_blockOf_o := F_blockOf_o.other W (Or.inl (by first | exact n_o_p0 | exact Ne.symm n_p0_o | omega))
  replace F_blockStart_o := F_blockStart_o.other W (Or.inl (by first | exact n_o_p0 | exact Ne.symm n_p0_o | omega))
  replace F_blockEnd_o := F_blockEnd_o.other W (Or.inl (by first | exact n_o_p0 | exact Ne.symm n_p0_o | omega))
  replace F_markedEnd_o := F_markedEnd_o.other W (Or.inl (by first | exact n_o_p0 | exact Ne.symm n_p0_o | omega))
  replace F_origin_o := F_origin_o.other W (Or.inl (by first | exact n_o_p0 | exact Ne.symm n_p0_o | omega))
  replace F_touchedBlocks_o := F_touchedBlocks_o.other W (Or.inl (by first | exact n_o_p0 | exact Ne.symm n_p0_o | omega))
  replace F_blocks_o := F_blocks_o.other W (Or.inl (by first | exact n_o_p0 | exact Ne.symm n_p0_o | omega))
  replace F_touched_o := F_touched_o.other W (Or.inl (by first | exact n_o_p0 | exact Ne.symm n_p0_o | omega))
  replace A_p1 := A_p1.other W (by first | exact n_p1_p0 | exact Ne.symm n_p0_p1 | omega)
  clear W
  replace A_p0 : VA Z h31_5 p0 .int ([.int (0 : Int32), .int (0 : Int32), .int (0 : Int32), .int (0 : Int32)]) := B
  refine aload_n K S rfl rfl d1_32 ?_
  refine getf K S (hwi hw 12 rfl) F_positionOf_o d1_33 fun T S => ?_
  refine iload_n K S rfl d1_36 ?_
  refine iload_n K S rfl d1_37 ?_
  refine iastore K S (i := 0) A_p1 ⟨by decide, rfl⟩ (show (0 : Nat) < 4 by decide) g_p1 d1_38 fun T h38_6 W B S => ?_
  replace E_o := E_o.wr W
  replace F_elements_o := F_elements_o.other W (Or.inl (by first | exact n_o_p1 | exact Ne.symm n_p1_o | omega))
  replace F_positionOf_o := F_positionOf_o.other W (Or.inl (by first | exact n_o_p1 | exact Ne.symm n_p1_o | omega))
  replace F_blockOf_o := F_blockOf_o.other W (Or.inl (by first | exact n_o_p1 | exact Ne.symm n_p1_o | omega))
  replace F_blockStart_o := F_blockStart_o.other W (Or.inl (by first | exact n_o_p1 | exact Ne.symm n_p1_o | omega))
  replace F_blockEnd_o := F_blockEnd_o.other W (Or.inl (by first | exact n_o_p1 | exact Ne.symm n_p1_o | omega))
  replace F_markedEnd_o := F_markedEnd_o.other W (Or.inl (by first | exact n_o_p1 | exact Ne.symm n_p1_o | omega))
  replace F_origin_o := F_origin_o.other W (Or.inl (by first | exact n_o_p1 | exact Ne.symm n_p1_o | omega))
  replace F_touchedBlocks_o := F_touchedBlocks_o.other W (Or.inl (by first | exact n_o_p1 | exact Ne.symm n_p1_o | omega))
  replace F_blocks_o := F_blocks_o.other W (Or.inl (by first | exact n_o_p1 | exact Ne.symm n_p1_o | omega))
  replace F_touched_o := F_touched_o.other W (Or.inl (by first | exact n_o_p1 | exact Ne.symm n_p1_o | omega))
  replace A_p0 := A_p0.other W (by first | exact n_p0_p1 | exact Ne.symm n_p1_p0 | omega)
  clear W
  replace A_p1 : VA Z h38_6 p1 .int ([.int (0 : Int32), .int (0 : Int32), .int (0 : Int32), .int (0 : Int32)]) := B
  refine iinc K S (y := (1 : Int32)) (x := (0 : Int32)) (l' := #[.val (.ref o), .val (.int (4 : Int32)), .val (.int (1 : Int32))]) rfl rfl rfl d1_39 ?_
  refine goto K S d1_42 ?_
  refine iload_n K S rfl d1_20 ?_
  refine iload_n K S rfl d1_21 ?_
  refine icmp_ge K S d1_22 (fun c22 => ?_) (fun c22 => ?_)
  · exact absurd c22 (by decide)
  refine aload_n K S rfl rfl d1_25 ?_
  refine getf K S (hwi hw 10 rfl) F_elements_o d1_26 fun T S => ?_
  refine iload_n K S rfl d1_29 ?_
  refine iload_n K S rfl d1_30 ?_
  refine iastore K S (i := 1) A_p0 ⟨by decide, rfl⟩ (show (1 : Nat) < 4 by decide) g_p0 d1_31 fun T h31_7 W B S => ?_
  replace E_o := E_o.wr W
  replace F_elements_o := F_elements_o.other W (Or.inl (by first | exact n_o_p0 | exact Ne.symm n_p0_o | omega))
  replace F_positionOf_o := F_positionOf_o.other W (Or.inl (by first | exact n_o_p0 | exact Ne.symm n_p0_o | omega))
  replace F_blockOf_o := F_blockOf_o.other W (Or.inl (by first | exact n_o_p0 | exact Ne.symm n_p0_o | omega))
  replace F_blockStart_o := F_blockStart_o.other W (Or.inl (by first | exact n_o_p0 | exact Ne.symm n_p0_o | omega))
  replace F_blockEnd_o := F_blockEnd_o.other W (Or.inl (by first | exact n_o_p0 | exact Ne.symm n_p0_o | omega))
  replace F_markedEnd_o := F_markedEnd_o.other W (Or.inl (by first | exact n_o_p0 | exact Ne.symm n_p0_o | omega))
  replace F_origin_o := F_origin_o.other W (Or.inl (by first | exact n_o_p0 | exact Ne.symm n_p0_o | omega))
  replace F_touchedBlocks_o := F_touchedBlocks_o.other W (Or.inl (by first | exact n_o_p0 | exact Ne.symm n_p0_o | omega))
  replace F_blocks_o := F_blocks_o.other W (Or.inl (by first | exact n_o_p0 | exact Ne.symm n_p0_o | omega))
  replace F_touched_o := F_touched_o.other W (Or.inl (by first | exact n_o_p0 | exact Ne.symm n_p0_o | omega))
  replace A_p1 := A_p1.other W (by first | exact n_p1_p0 | exact Ne.symm n_p0_p1 | omega)
  clear W
  replace A_p0 : VA Z h31_7 p0 .int ([.int (0 : Int32), .int (1 : Int32), .int (0 : Int32), .int (0 : Int32)]) := B
  refine aload_n K S rfl rfl d1_32 ?_
  refine getf K S (hwi hw 12 rfl) F_positionOf_o d1_33 fun T S => ?_
  refine iload_n K S rfl d1_36 ?_
  refine iload_n K S rfl d1_37 ?_
  refine iastore K S (i := 1) A_p1 ⟨by decide, rfl⟩ (show (1 : Nat) < 4 by decide) g_p1 d1_38 fun T h38_8 W B S => ?_
  replace E_o := E_o.wr W
  replace F_elements_o := F_elements_o.other W (Or.inl (by first | exact n_o_p1 | exact Ne.symm n_p1_o | omega))
  replace F_positionOf_o := F_positionOf_o.other W (Or.inl (by first | exact n_o_p1 | exact Ne.symm n_p1_o | omega))
  replace F_blockOf_o := F_blockOf_o.other W (Or.inl (by first | exact n_o_p1 | exact Ne.symm n_p1_o | omega))
  replace F_blockStart_o := F_blockStart_o.other W (Or.inl (by first | exact n_o_p1 | exact Ne.symm n_p1_o | omega))
  replace F_blockEnd_o := F_blockEnd_o.other W (Or.inl (by first | exact n_o_p1 | exact Ne.symm n_p1_o | omega))
  replace F_markedEnd_o := F_markedEnd_o.other W (Or.inl (by first | exact n_o_p1 | exact Ne.symm n_p1_o | omega))
  replace F_origin_o := F_origin_o.other W (Or.inl (by first | exact n_o_p1 | exact Ne.symm n_p1_o | omega))
  replace F_touchedBlocks_o := F_touchedBlocks_o.other W (Or.inl (by first | exact n_o_p1 | exact Ne.symm n_p1_o | omega))
  replace F_blocks_o := F_blocks_o.other W (Or.inl (by first | exact n_o_p1 | exact Ne.symm n_p1_o | omega))
  replace F_touched_o := F_touched_o.other W (Or.inl (by first | exact n_o_p1 | exact Ne.symm n_p1_o | omega))
  replace A_p0 := A_p0.other W (by first | exact n_p0_p1 | exact Ne.symm n_p1_p0 | omega)
  clear W
  replace A_p1 : VA Z h38_8 p1 .int ([.int (0 : Int32), .int (1 : Int32), .int (0 : Int32), .int (0 : Int32)]) := B
  refine iinc K S (y := (1 : Int32)) (x := (1 : Int32)) (l' := #[.val (.ref o), .val (.int (4 : Int32)), .val (.int (2 : Int32))]) rfl rfl rfl d1_39 ?_
  refine goto K S d1_42 ?_
  refine iload_n K S rfl d1_20 ?_
  refine iload_n K S rfl d1_21 ?_
  refine icmp_ge K S d1_22 (fun c22 => ?_) (fun c22 => ?_)
  · exact absurd c22 (by decide)
  refine aload_n K S rfl rfl d1_25 ?_
  refine getf K S (hwi hw 10 rfl) F_elements_o d1_26 fun T S => ?_
  refine iload_n K S rfl d1_29 ?_
  refine iload_n K S rfl d1_30 ?_
  refine iastore K S (i := 2) A_p0 ⟨by decide, rfl⟩ (show (2 : Nat) < 4 by decide) g_p0 d1_31 fun T h31_9 W B S => ?_
  replace E_o := E_o.wr W
  replace F_elements_o := F_elements_o.other W (Or.inl (by first | exact n_o_p0 | exact Ne.symm n_p0_o | omega))
  replace F_positionOf_o := F_positionOf_o.other W (Or.inl (by first | exact n_o_p0 | exact Ne.symm n_p0_o | omega))
  replace F_blockOf_o := F_blockOf_o.other W (Or.inl (by first | exact n_o_p0 | exact Ne.symm n_p0_o | omega))
  replace F_blockStart_o := F_blockStart_o.other W (Or.inl (by first | exact n_o_p0 | exact Ne.symm n_p0_o | omega))
  replace F_blockEnd_o := F_blockEnd_o.other W (Or.inl (by first | exact n_o_p0 | exact Ne.symm n_p0_o | omega))
  replace F_markedEnd_o := F_markedEnd_o.other W (Or.inl (by first | exact n_o_p0 | exact Ne.symm n_p0_o | omega))
  replace F_origin_o := F_origin_o.other W (Or.inl (by first | exact n_o_p0 | exact Ne.symm n_p0_o | omega))
  replace F_touchedBlocks_o := F_touchedBlocks_o.other W (Or.inl (by first | exact n_o_p0 | exact Ne.symm n_p0_o | omega))
  replace F_blocks_o := F_blocks_o.other W (Or.inl (by first | exact n_o_p0 | exact Ne.symm n_p0_o | omega))
  replace F_touched_o := F_touched_o.other W (Or.inl (by first | exact n_o_p0 | exact Ne.symm n_p0_o | omega))
  replace A_p1 := A_p1.other W (by first | exact n_p1_p0 | exact Ne.symm n_p0_p1 | omega)
  clear W
  replace A_p0 : VA Z h31_9 p0 .int ([.int (0 : Int32), .int (1 : Int32), .int (2 : Int32), .int (0 : Int32)]) := B
  refine aload_n K S rfl rfl d1_32 ?_
  refine getf K S (hwi hw 12 rfl) F_positionOf_o d1_33 fun T S => ?_
  refine iload_n K S rfl d1_36 ?_
  refine iload_n K S rfl d1_37 ?_
  refine iastore K S (i := 2) A_p1 ⟨by decide, rfl⟩ (show (2 : Nat) < 4 by decide) g_p1 d1_38 fun T h38_10 W B S => ?_
  replace E_o := E_o.wr W
  replace F_elements_o := F_elements_o.other W (Or.inl (by first | exact n_o_p1 | exact Ne.symm n_p1_o | omega))
  replace F_positionOf_o := F_positionOf_o.other W (Or.inl (by first | exact n_o_p1 | exact Ne.symm n_p1_o | omega))
  replace F_blockOf_o := F_blockOf_o.other W (Or.inl (by first | exact n_o_p1 | exact Ne.symm n_p1_o | omega))
  replace F_blockStart_o := F_blockStart_o.other W (Or.inl (by first | exact n_o_p1 | exact Ne.symm n_p1_o | omega))
  replace F_blockEnd_o := F_blockEnd_o.other W (Or.inl (by first | exact n_o_p1 | exact Ne.symm n_p1_o | omega))
  replace F_markedEnd_o := F_markedEnd_o.other W (Or.inl (by first | exact n_o_p1 | exact Ne.symm n_p1_o | omega))
  replace F_origin_o := F_origin_o.other W (Or.inl (by first | exact n_o_p1 | exact Ne.symm n_p1_o | omega))
  replace F_touchedBlocks_o := F_touchedBlocks_o.other W (Or.inl (by first | exact n_o_p1 | exact Ne.symm n_p1_o | omega))
  replace F_blocks_o := F_blocks_o.other W (Or.inl (by first | exact n_o_p1 | exact Ne.symm n_p1_o | omega))
  replace F_touched_o := F_touched_o.other W (Or.inl (by first | exact n_o_p1 | exact Ne.symm n_p1_o | omega))
  replace A_p0 := A_p0.other W (by first | exact n_p0_p1 | exact Ne.symm n_p1_p0 | omega)
  clear W
  replace A_p1 : VA Z h38_10 p1 .int ([.int (0 : Int32), .int (1 : Int32), .int (2 : Int32), .int (0 : Int32)]) := B
  refine iinc K S (y := (1 : Int32)) (x := (2 : Int32)) (l' := #[.val (.ref o), .val (.int (4 : Int32)), .val (.int (3 : Int32))]) rfl rfl rfl d1_39 ?_
  refine goto K S d1_42 ?_
  refine iload_n K S rfl d1_20 ?_
  refine iload_n K S rfl d1_21 ?_
  refine icmp_ge K S d1_22 (fun c22 => ?_) (fun c22 => ?_)
  · exact absurd c22 (by decide)
  refine aload_n K S rfl rfl d1_25 ?_
  refine getf K S (hwi hw 10 rfl) F_elements_o d1_26 fun T S => ?_
  refine iload_n K S rfl d1_29 ?_
  refine iload_n K S rfl d1_30 ?_
  refine iastore K S (i := 3) A_p0 ⟨by decide, rfl⟩ (show (3 : Nat) < 4 by decide) g_p0 d1_31 fun T h31_11 W B S => ?_
  replace E_o := E_o.wr W
  replace F_elements_o := F_elements_o.other W (Or.inl (by first | exact n_o_p0 | exact Ne.symm n_p0_o | omega))
  replace F_positionOf_o := F_positionOf_o.other W (Or.inl (by first | exact n_o_p0 | exact Ne.symm n_p0_o | omega))
  replace F_blockOf_o := F_blockOf_o.other W (Or.inl (by first | exact n_o_p0 | exact Ne.symm n_p0_o | omega))
  replace F_blockStart_o := F_blockStart_o.other W (Or.inl (by first | exact n_o_p0 | exact Ne.symm n_p0_o | omega))
  replace F_blockEnd_o := F_blockEnd_o.other W (Or.inl (by first | exact n_o_p0 | exact Ne.symm n_p0_o | omega))
  replace F_markedEnd_o := F_markedEnd_o.other W (Or.inl (by first | exact n_o_p0 | exact Ne.symm n_p0_o | omega))
  replace F_origin_o := F_origin_o.other W (Or.inl (by first | exact n_o_p0 | exact Ne.symm n_p0_o | omega))
  replace F_touchedBlocks_o := F_touchedBlocks_o.other W (Or.inl (by first | exact n_o_p0 | exact Ne.symm n_p0_o | omega))
  replace F_blocks_o := F_blocks_o.other W (Or.inl (by first | exact n_o_p0 | exact Ne.symm n_p0_o | omega))
  replace F_touched_o := F_touched_o.other W (Or.inl (by first | exact n_o_p0 | exact Ne.symm n_p0_o | omega))
  replace A_p1 := A_p1.other W (by first | exact n_p1_p0 | exact Ne.symm n_p0_p1 | omega)
  clear W
  replace A_p0 : VA Z h31_11 p0 .int ([.int (0 : Int32), .int (1 : Int32), .int (2 : Int32), .int (3 : Int32)]) := B
  refine aload_n K S rfl rfl d1_32 ?_
  refine getf K S (hwi hw 12 rfl) F_positionOf_o d1_33 fun T S => ?_
  refine iload_n K S rfl d1_36 ?_
  refine iload_n K S rfl d1_37 ?_
  refine iastore K S (i := 3) A_p1 ⟨by decide, rfl⟩ (show (3 : Nat) < 4 by decide) g_p1 d1_38 fun T h38_12 W B S => ?_
  replace E_o := E_o.wr W
  replace F_elements_o := F_elements_o.other W (Or.inl (by first | exact n_o_p1 | exact Ne.symm n_p1_o | omega))
  replace F_positionOf_o := F_positionOf_o.other W (Or.inl (by first | exact n_o_p1 | exact Ne.symm n_p1_o | omega))
  replace F_blockOf_o := F_blockOf_o.other W (Or.inl (by first | exact n_o_p1 | exact Ne.symm n_p1_o | omega))
  replace F_blockStart_o := F_blockStart_o.other W (Or.inl (by first | exact n_o_p1 | exact Ne.symm n_p1_o | omega))
  replace F_blockEnd_o := F_blockEnd_o.other W (Or.inl (by first | exact n_o_p1 | exact Ne.symm n_p1_o | omega))
  replace F_markedEnd_o := F_markedEnd_o.other W (Or.inl (by first | exact n_o_p1 | exact Ne.symm n_p1_o | omega))
  replace F_origin_o := F_origin_o.other W (Or.inl (by first | exact n_o_p1 | exact Ne.symm n_p1_o | omega))
  replace F_touchedBlocks_o := F_touchedBlocks_o.other W (Or.inl (by first | exact n_o_p1 | exact Ne.symm n_p1_o | omega))
  replace F_blocks_o := F_blocks_o.other W (Or.inl (by first | exact n_o_p1 | exact Ne.symm n_p1_o | omega))
  replace F_touched_o := F_touched_o.other W (Or.inl (by first | exact n_o_p1 | exact Ne.symm n_p1_o | omega))
  replace A_p0 := A_p0.other W (by first | exact n_p0_p1 | exact Ne.symm n_p1_p0 | omega)
  clear W
  replace A_p1 : VA Z h38_12 p1 .int ([.int (0 : Int32), .int (1 : Int32), .int (2 : Int32), .int (3 : Int32)]) := B
  refine iinc K S (y := (1 : Int32)) (x := (3 : Int32)) (l' := #[.val (.ref o), .val (.int (4 : Int32)), .val (.int (4 : Int32))]) rfl rfl rfl d1_39 ?_
  refine goto K S d1_42 ?_
  refine iload_n K S rfl d1_20 ?_
  refine iload_n K S rfl d1_21 ?_
  refine icmp_ge K S d1_22 (fun c22 => ?_) (fun c22 => ?_)
  rotate_left
  · exact absurd c22 (by decide)
  refine aload_n K S rfl rfl d1_45 ?_
  refine iload_n K S rfl d1_46 ?_
  refine newarr K S (cap := 4) (hwi hw 9 rfl) (by decide) (by decide) (by decide) (by decide) (by decide) d1_47 fun T h47_13 p2 z_p2 g_p2 X A_p2 S => ?_
  have n_o_p2 : o ≠ p2 := by rw [z_p2]; exact Nat.ne_of_lt E_o.lt
  have l_o_p2 : o < p2 := by rw [z_p2]; exact E_o.lt
  have n_p0_p2 : p0 ≠ p2 := by rw [z_p2]; exact Nat.ne_of_lt A_p0.lt
  have l_p0_p2 : p0 < p2 := by rw [z_p2]; exact A_p0.lt
  have n_p1_p2 : p1 ≠ p2 := by rw [z_p2]; exact Nat.ne_of_lt A_p1.lt
  have l_p1_p2 : p1 < p2 := by rw [z_p2]; exact A_p1.lt
  replace E_o := E_o.ext X
  replace F_elements_o := F_elements_o.ext X
  replace F_positionOf_o := F_positionOf_o.ext X
  replace F_blockOf_o := F_blockOf_o.ext X
  replace F_blockStart_o := F_blockStart_o.ext X
  replace F_blockEnd_o := F_blockEnd_o.ext X
  replace F_markedEnd_o := F_markedEnd_o.ext X
  replace F_origin_o := F_origin_o.ext X
  replace F_touchedBlocks_o := F_touchedBlocks_o.ext X
  replace F_blocks_o := F_blocks_o.ext X
  replace F_touched_o := F_touched_o.ext X
  replace A_p0 := A_p0.ext X
  replace A_p1 := A_p1.ext X
  replace A_p2 : VA Z h47_13 p2 .int ([.int (0 : Int32), .int (0 : Int32), .int (0 : Int32), .int (0 : Int32)]) := A_p2
  clear X
  refine putf K S (hwi hw 14 rfl) F_blockOf_o E_o (Or.inr ⟨(hwi hw 15 rfl), rfl, rfl⟩) (hwi hw 1 rfl) (ty := .array .int) (by decide) rfl rfl g_o d1_49 fun T h49_14 W S => ?_
  replace E_o := E_o.wr W
  replace F_elements_o := F_elements_o.other W (Or.inr (slot_ne (C := "com/example/procsh/procsh/service/Partition") (Or.inr (hwi hw 11 rfl)) (Or.inr (hwi hw 15 rfl)) (by decide) (t := .array .int) (t' := .array .int) (by decide) (by decide)))
  replace F_positionOf_o := F_positionOf_o.other W (Or.inr (slot_ne (C := "com/example/procsh/procsh/service/Partition") (Or.inr (hwi hw 13 rfl)) (Or.inr (hwi hw 15 rfl)) (by decide) (t := .array .int) (t' := .array .int) (by decide) (by decide)))
  replace F_blockOf_o := F_blockOf_o.same W
  replace F_blockStart_o := F_blockStart_o.other W (Or.inr (slot_ne (C := "com/example/procsh/procsh/service/Partition") (Or.inr (hwi hw 17 rfl)) (Or.inr (hwi hw 15 rfl)) (by decide) (t := .array .int) (t' := .array .int) (by decide) (by decide)))
  replace F_blockEnd_o := F_blockEnd_o.other W (Or.inr (slot_ne (C := "com/example/procsh/procsh/service/Partition") (Or.inr (hwi hw 19 rfl)) (Or.inr (hwi hw 15 rfl)) (by decide) (t := .array .int) (t' := .array .int) (by decide) (by decide)))
  replace F_markedEnd_o := F_markedEnd_o.other W (Or.inr (slot_ne (C := "com/example/procsh/procsh/service/Partition") (Or.inr (hwi hw 21 rfl)) (Or.inr (hwi hw 15 rfl)) (by decide) (t := .array .int) (t' := .array .int) (by decide) (by decide)))
  replace F_origin_o := F_origin_o.other W (Or.inr (slot_ne (C := "com/example/procsh/procsh/service/Partition") (Or.inr (hwi hw 23 rfl)) (Or.inr (hwi hw 15 rfl)) (by decide) (t := .array .int) (t' := .array .int) (by decide) (by decide)))
  replace F_touchedBlocks_o := F_touchedBlocks_o.other W (Or.inr (slot_ne (C := "com/example/procsh/procsh/service/Partition") (Or.inr (hwi hw 25 rfl)) (Or.inr (hwi hw 15 rfl)) (by decide) (t := .array .int) (t' := .array .int) (by decide) (by decide)))
  replace F_blocks_o := F_blocks_o.other W (Or.inr (slot_ne (C := "com/example/procsh/procsh/service/Partition") (Or.inl (hwi hw 27 rfl)) (Or.inr (hwi hw 15 rfl)) (by decide) (t := .int) (t' := .array .int) (by decide) (by decide)))
  replace F_touched_o := F_touched_o.other W (Or.inr (slot_ne (C := "com/example/procsh/procsh/service/Partition") (Or.inl (hwi hw 34 rfl)) (Or.inr (hwi hw 15 rfl)) (by decide) (t := .int) (t' := .array .int) (by decide) (by decide)))
  replace A_p0 := A_p0.other W (by first | exact n_p0_o | exact Ne.symm n_o_p0 | omega)
  replace A_p1 := A_p1.other W (by first | exact n_p1_o | exact Ne.symm n_o_p1 | omega)
  replace A_p2 := A_p2.other W (by first | exact n_p2_o | exact Ne.symm n_o_p2 | omega)
  clear W
  refine aload_n K S rfl rfl d1_52 ?_
  refine iload_n K S rfl d1_53 ?_
  refine newarr K S (cap := 4) (hwi hw 9 rfl) (by decide) (by decide) (by decide) (by decide) (by decide) d1_54 fun T h54_15 p3 z_p3 g_p3 X A_p3 S => ?_
  have n_o_p3 : o ≠ p3 := by rw [z_p3]; exact Nat.ne_of_lt E_o.lt
  have l_o_p3 : o < p3 := by rw [z_p3]; exact E_o.lt
  have n_p0_p3 : p0 ≠ p3 := by rw [z_p3]; exact Nat.ne_of_lt A_p0.lt
  have l_p0_p3 : p0 < p3 := by rw [z_p3]; exact A_p0.lt
  have n_p1_p3 : p1 ≠ p3 := by rw [z_p3]; exact Nat.ne_of_lt A_p1.lt
  have l_p1_p3 : p1 < p3 := by rw [z_p3]; exact A_p1.lt
  have n_p2_p3 : p2 ≠ p3 := by rw [z_p3]; exact Nat.ne_of_lt A_p2.lt
  have l_p2_p3 : p2 < p3 := by rw [z_p3]; exact A_p2.lt
  replace E_o := E_o.ext X
  replace F_elements_o := F_elements_o.ext X
  replace F_positionOf_o := F_positionOf_o.ext X
  replace F_blockOf_o := F_blockOf_o.ext X
  replace F_blockStart_o := F_blockStart_o.ext X
  replace F_blockEnd_o := F_blockEnd_o.ext X
  replace F_markedEnd_o := F_markedEnd_o.ext X
  replace F_origin_o := F_origin_o.ext X
  replace F_touchedBlocks_o := F_touchedBlocks_o.ext X
  replace F_blocks_o := F_blocks_o.ext X
  replace F_touched_o := F_touched_o.ext X
  replace A_p0 := A_p0.ext X
  replace A_p1 := A_p1.ext X
  replace A_p2 := A_p2.ext X
  replace A_p3 : VA Z h54_15 p3 .int ([.int (0 : Int32), .int (0 : Int32), .int (0 : Int32), .int (0 : Int32)]) := A_p3
  clear X
  refine putf K S (hwi hw 16 rfl) F_blockStart_o E_o (Or.inr ⟨(hwi hw 17 rfl), rfl, rfl⟩) (hwi hw 1 rfl) (ty := .array .int) (by decide) rfl rfl g_o d1_56 fun T h56_16 W S => ?_
  replace E_o := E_o.wr W
  replace F_elements_o := F_elements_o.other W (Or.inr (slot_ne (C := "com/example/procsh/procsh/service/Partition") (Or.inr (hwi hw 11 rfl)) (Or.inr (hwi hw 17 rfl)) (by decide) (t := .array .int) (t' := .array .int) (by decide) (by decide)))
  replace F_positionOf_o := F_positionOf_o.other W (Or.inr (slot_ne (C := "com/example/procsh/procsh/service/Partition") (Or.inr (hwi hw 13 rfl)) (Or.inr (hwi hw 17 rfl)) (by decide) (t := .array .int) (t' := .array .int) (by decide) (by decide)))
  replace F_blockOf_o := F_blockOf_o.other W (Or.inr (slot_ne (C := "com/example/procsh/procsh/service/Partition") (Or.inr (hwi hw 15 rfl)) (Or.inr (hwi hw 17 rfl)) (by decide) (t := .array .int) (t' := .array .int) (by decide) (by decide)))
  replace F_blockStart_o := F_blockStart_o.same W
  replace F_blockEnd_o := F_blockEnd_o.other W (Or.inr (slot_ne (C := "com/example/procsh/procsh/service/Partition") (Or.inr (hwi hw 19 rfl)) (Or.inr (hwi hw 17 rfl)) (by decide) (t := .array .int) (t' := .array .int) (by decide) (by decide)))
  replace F_markedEnd_o := F_markedEnd_o.other W (Or.inr (slot_ne (C := "com/example/procsh/procsh/service/Partition") (Or.inr (hwi hw 21 rfl)) (Or.inr (hwi hw 17 rfl)) (by decide) (t := .array .int) (t' := .array .int) (by decide) (by decide)))
  replace F_origin_o := F_origin_o.other W (Or.inr (slot_ne (C := "com/example/procsh/procsh/service/Partition") (Or.inr (hwi hw 23 rfl)) (Or.inr (hwi hw 17 rfl)) (by decide) (t := .array .int) (t' := .array .int) (by decide) (by decide)))
  replace F_touchedBlocks_o := F_touchedBlocks_o.other W (Or.inr (slot_ne (C := "com/example/procsh/procsh/service/Partition") (Or.inr (hwi hw 25 rfl)) (Or.inr (hwi hw 17 rfl)) (by decide) (t := .array .int) (t' := .array .int) (by decide) (by decide)))
  replace F_blocks_o := F_blocks_o.other W (Or.inr (slot_ne (C := "com/example/procsh/procsh/service/Partition") (Or.inl (hwi hw 27 rfl)) (Or.inr (hwi hw 17 rfl)) (by decide) (t := .int) (t' := .array .int) (by decide) (by decide)))
  replace F_touched_o := F_touched_o.other W (Or.inr (slot_ne (C := "com/example/procsh/procsh/service/Partition") (Or.inl (hwi hw 34 rfl)) (Or.inr (hwi hw 17 rfl)) (by decide) (t := .int) (t' := .array .int) (by decide) (by decide)))
  replace A_p0 := A_p0.other W (by first | exact n_p0_o | exact Ne.symm n_o_p0 | omega)
  replace A_p1 := A_p1.other W (by first | exact n_p1_o | exact Ne.symm n_o_p1 | omega)
  replace A_p2 := A_p2.other W (by first | exact n_p2_o | exact Ne.symm n_o_p2 | omega)
  replace A_p3 := A_p3.other W (by first | exact n_p3_o | exact Ne.symm n_o_p3 | omega)
  clear W
  refine aload_n K S rfl rfl d1_59 ?_
  refine iload_n K S rfl d1_60 ?_
  refine newarr K S (cap := 4) (hwi hw 9 rfl) (by decide) (by decide) (by decide) (by decide) (by decide) d1_61 fun T h61_17 p4 z_p4 g_p4 X A_p4 S => ?_
  have n_o_p4 : o ≠ p4 := by rw [z_p4]; exact Nat.ne_of_lt E_o.lt
  have l_o_p4 : o < p4 := by rw [z_p4]; exact E_o.lt
  have n_p0_p4 : p0 ≠ p4 := by rw [z_p4]; exact Nat.ne_of_lt A_p0.lt
  have l_p0_p4 : p0 < p4 := by rw [z_p4]; exact A_p0.lt
  have n_p1_p4 : p1 ≠ p4 := by rw [z_p4]; exact Nat.ne_of_lt A_p1.lt
  have l_p1_p4 : p1 < p4 := by rw [z_p4]; exact A_p1.lt
  have n_p2_p4 : p2 ≠ p4 := by rw [z_p4]; exact Nat.ne_of_lt A_p2.lt
  have l_p2_p4 : p2 < p4 := by rw [z_p4]; exact A_p2.lt
  have n_p3_p4 : p3 ≠ p4 := by rw [z_p4]; exact Nat.ne_of_lt A_p3.lt
  have l_p3_p4 : p3 < p4 := by rw [z_p4]; exact A_p3.lt
  replace E_o := E_o.ext X
  replace F_elements_o := F_elements_o.ext X
  replace F_positionOf_o := F_positionOf_o.ext X
  replace F_blockOf_o := F_blockOf_o.ext X
  replace F_blockStart_o := F_blockStart_o.ext X
  replace F_blockEnd_o := F_blockEnd_o.ext X
  replace F_markedEnd_o := F_markedEnd_o.ext X
  replace F_origin_o := F_origin_o.ext X
  replace F_touchedBlocks_o := F_touchedBlocks_o.ext X
  replace F_blocks_o := F_blocks_o.ext X
  replace F_touched_o := F_touched_o.ext X
  replace A_p0 := A_p0.ext X
  replace A_p1 := A_p1.ext X
  replace A_p2 := A_p2.ext X
  replace A_p3 := A_p3.ext X
  replace A_p4 : VA Z h61_17 p4 .int ([.int (0 : Int32), .int (0 : Int32), .int (0 : Int32), .int (0 : Int32)]) := A_p4
  clear X
  refine putf K S (hwi hw 18 rfl) F_blockEnd_o E_o (Or.inr ⟨(hwi hw 19 rfl), rfl, rfl⟩) (hwi hw 1 rfl) (ty := .array .int) (by decide) rfl rfl g_o d1_63 fun T h63_18 W S => ?_
  replace E_o := E_o.wr W
  replace F_elements_o := F_elements_o.other W (Or.inr (slot_ne (C := "com/example/procsh/procsh/service/Partition") (Or.inr (hwi hw 11 rfl)) (Or.inr (hwi hw 19 rfl)) (by decide) (t := .array .int) (t' := .array .int) (by decide) (by decide)))
  replace F_positionOf_o := F_positionOf_o.other W (Or.inr (slot_ne (C := "com/example/procsh/procsh/service/Partition") (Or.inr (hwi hw 13 rfl)) (Or.inr (hwi hw 19 rfl)) (by decide) (t := .array .int) (t' := .array .int) (by decide) (by decide)))
  replace F_blockOf_o := F_blockOf_o.other W (Or.inr (slot_ne (C := "com/example/procsh/procsh/service/Partition") (Or.inr (hwi hw 15 rfl)) (Or.inr (hwi hw 19 rfl)) (by decide) (t := .array .int) (t' := .array .int) (by decide) (by decide)))
  replace F_blockStart_o := F_blockStart_o.other W (Or.inr (slot_ne (C := "com/example/procsh/procsh/service/Partition") (Or.inr (hwi hw 17 rfl)) (Or.inr (hwi hw 19 rfl)) (by decide) (t := .array .int) (t' := .array .int) (by decide) (by decide)))
  replace F_blockEnd_o := F_blockEnd_o.same W
  replace F_markedEnd_o := F_markedEnd_o.other W (Or.inr (slot_ne (C := "com/example/procsh/procsh/service/Partition") (Or.inr (hwi hw 21 rfl)) (Or.inr (hwi hw 19 rfl)) (by decide) (t := .array .int) (t' := .array .int) (by decide) (by decide)))
  replace F_origin_o := F_origin_o.other W (Or.inr (slot_ne (C := "com/example/procsh/procsh/service/Partition") (Or.inr (hwi hw 23 rfl)) (Or.inr (hwi hw 19 rfl)) (by decide) (t := .array .int) (t' := .array .int) (by decide) (by decide)))
  replace F_touchedBlocks_o := F_touchedBlocks_o.other W (Or.inr (slot_ne (C := "com/example/procsh/procsh/service/Partition") (Or.inr (hwi hw 25 rfl)) (Or.inr (hwi hw 19 rfl)) (by decide) (t := .array .int) (t' := .array .int) (by decide) (by decide)))
  replace F_blocks_o := F_blocks_o.other W (Or.inr (slot_ne (C := "com/example/procsh/procsh/service/Partition") (Or.inl (hwi hw 27 rfl)) (Or.inr (hwi hw 19 rfl)) (by decide) (t := .int) (t' := .array .int) (by decide) (by decide)))
  replace F_touched_o := F_touched_o.other W (Or.inr (slot_ne (C := "com/example/procsh/procsh/service/Partition") (Or.inl (hwi hw 34 rfl)) (Or.inr (hwi hw 19 rfl)) (by decide) (t := .int) (t' := .array .int) (by decide) (by decide)))
  replace A_p0 := A_p0.other W (by first | exact n_p0_o | exact Ne.symm n_o_p0 | omega)
  replace A_p1 := A_p1.other W (by first | exact n_p1_o | exact Ne.symm n_o_p1 | omega)
  replace A_p2 := A_p2.other W (by first | exact n_p2_o | exact Ne.symm n_o_p2 | omega)
  replace A_p3 := A_p3.other W (by first | exact n_p3_o | exact Ne.symm n_o_p3 | omega)
  replace A_p4 := A_p4.other W (by first | exact n_p4_o | exact Ne.symm n_o_p4 | omega)
  clear W
  refine aload_n K S rfl rfl d1_66 ?_
  refine iload_n K S rfl d1_67 ?_
  refine newarr K S (cap := 4) (hwi hw 9 rfl) (by decide) (by decide) (by decide) (by decide) (by decide) d1_68 fun T h68_19 p5 z_p5 g_p5 X A_p5 S => ?_
  have n_o_p5 : o ≠ p5 := by rw [z_p5]; exact Nat.ne_of_lt E_o.lt
  have l_o_p5 : o < p5 := by rw [z_p5]; exact E_o.lt
  have n_p0_p5 : p0 ≠ p5 := by rw [z_p5]; exact Nat.ne_of_lt A_p0.lt
  have l_p0_p5 : p0 < p5 := by rw [z_p5]; exact A_p0.lt
  have n_p1_p5 : p1 ≠ p5 := by rw [z_p5]; exact Nat.ne_of_lt A_p1.lt
  have l_p1_p5 : p1 < p5 := by rw [z_p5]; exact A_p1.lt
  have n_p2_p5 : p2 ≠ p5 := by rw [z_p5]; exact Nat.ne_of_lt A_p2.lt
  have l_p2_p5 : p2 < p5 := by rw [z_p5]; exact A_p2.lt
  have n_p3_p5 : p3 ≠ p5 := by rw [z_p5]; exact Nat.ne_of_lt A_p3.lt
  have l_p3_p5 : p3 < p5 := by rw [z_p5]; exact A_p3.lt
  have n_p4_p5 : p4 ≠ p5 := by rw [z_p5]; exact Nat.ne_of_lt A_p4.lt
  have l_p4_p5 : p4 < p5 := by rw [z_p5]; exact A_p4.lt
  replace E_o := E_o.ext X
  replace F_elements_o := F_elements_o.ext X
  replace F_positionOf_o := F_positionOf_o.ext X
  replace F_blockOf_o := F_blockOf_o.ext X
  replace F_blockStart_o := F_blockStart_o.ext X
  replace F_blockEnd_o := F_blockEnd_o.ext X
  replace F_markedEnd_o := F_markedEnd_o.ext X
  replace F_origin_o := F_origin_o.ext X
  replace F_touchedBlocks_o := F_touchedBlocks_o.ext X
  replace F_blocks_o := F_blocks_o.ext X
  replace F_touched_o := F_touched_o.ext X
  replace A_p0 := A_p0.ext X
  replace A_p1 := A_p1.ext X
  replace A_p2 := A_p2.ext X
  replace A_p3 := A_p3.ext X
  replace A_p4 := A_p4.ext X
  replace A_p5 : VA Z h68_19 p5 .int ([.int (0 : Int32), .int (0 : Int32), .int (0 : Int32), .int (0 : Int32)]) := A_p5
  clear X
  refine putf K S (hwi hw 20 rfl) F_markedEnd_o E_o (Or.inr ⟨(hwi hw 21 rfl), rfl, rfl⟩) (hwi hw 1 rfl) (ty := .array .int) (by decide) rfl rfl g_o d1_70 fun T h70_20 W S => ?_
  replace E_o := E_o.wr W
  replace F_elements_o := F_elements_o.other W (Or.inr (slot_ne (C := "com/example/procsh/procsh/service/Partition") (Or.inr (hwi hw 11 rfl)) (Or.inr (hwi hw 21 rfl)) (by decide) (t := .array .int) (t' := .array .int) (by decide) (by decide)))
  replace F_positionOf_o := F_positionOf_o.other W (Or.inr (slot_ne (C := "com/example/procsh/procsh/service/Partition") (Or.inr (hwi hw 13 rfl)) (Or.inr (hwi hw 21 rfl)) (by decide) (t := .array .int) (t' := .array .int) (by decide) (by decide)))
  replace F_blockOf_o := F_blockOf_o.other W (Or.inr (slot_ne (C := "com/example/procsh/procsh/service/Partition") (Or.inr (hwi hw 15 rfl)) (Or.inr (hwi hw 21 rfl)) (by decide) (t := .array .int) (t' := .array .int) (by decide) (by decide)))
  replace F_blockStart_o := F_blockStart_o.other W (Or.inr (slot_ne (C := "com/example/procsh/procsh/service/Partition") (Or.inr (hwi hw 17 rfl)) (Or.inr (hwi hw 21 rfl)) (by decide) (t := .array .int) (t' := .array .int) (by decide) (by decide)))
  replace F_blockEnd_o := F_blockEnd_o.other W (Or.inr (slot_ne (C := "com/example/procsh/procsh/service/Partition") (Or.inr (hwi hw 19 rfl)) (Or.inr (hwi hw 21 rfl)) (by decide) (t := .array .int) (t' := .array .int) (by decide) (by decide)))
  replace F_markedEnd_o := F_markedEnd_o.same W
  replace F_origin_o := F_origin_o.other W (Or.inr (slot_ne (C := "com/example/procsh/procsh/service/Partition") (Or.inr (hwi hw 23 rfl)) (Or.inr (hwi hw 21 rfl)) (by decide) (t := .array .int) (t' := .array .int) (by decide) (by decide)))
  replace F_touchedBlocks_o := F_touchedBlocks_o.other W (Or.inr (slot_ne (C := "com/example/procsh/procsh/service/Partition") (Or.inr (hwi hw 25 rfl)) (Or.inr (hwi hw 21 rfl)) (by decide) (t := .array .int) (t' := .array .int) (by decide) (by decide)))
  replace F_blocks_o := F_blocks_o.other W (Or.inr (slot_ne (C := "com/example/procsh/procsh/service/Partition") (Or.inl (hwi hw 27 rfl)) (Or.inr (hwi hw 21 rfl)) (by decide) (t := .int) (t' := .array .int) (by decide) (by decide)))
  replace F_touched_o := F_touched_o.other W (Or.inr (slot_ne (C := "com/example/procsh/procsh/service/Partition") (Or.inl (hwi hw 34 rfl)) (Or.inr (hwi hw 21 rfl)) (by decide) (t := .int) (t' := .array .int) (by decide) (by decide)))
  replace A_p0 := A_p0.other W (by first | exact n_p0_o | exact Ne.symm n_o_p0 | omega)
  replace A_p1 := A_p1.other W (by first | exact n_p1_o | exact Ne.symm n_o_p1 | omega)
  replace A_p2 := A_p2.other W (by first | exact n_p2_o | exact Ne.symm n_o_p2 | omega)
  replace A_p3 := A_p3.other W (by first | exact n_p3_o | exact Ne.symm n_o_p3 | omega)
  replace A_p4 := A_p4.other W (by first | exact n_p4_o | exact Ne.symm n_o_p4 | omega)
  replace A_p5 := A_p5.other W (by first | exact n_p5_o | exact Ne.symm n_o_p5 | omega)
  clear W
  refine aload_n K S rfl rfl d1_73 ?_
  refine iload_n K S rfl d1_74 ?_
  refine newarr K S (cap := 4) (hwi hw 9 rfl) (by decide) (by decide) (by decide) (by decide) (by decide) d1_75 fun T h75_21 p6 z_p6 g_p6 X A_p6 S => ?_
  have n_o_p6 : o ≠ p6 := by rw [z_p6]; exact Nat.ne_of_lt E_o.lt
  have l_o_p6 : o < p6 := by rw [z_p6]; exact E_o.lt
  have n_p0_p6 : p0 ≠ p6 := by rw [z_p6]; exact Nat.ne_of_lt A_p0.lt
  have l_p0_p6 : p0 < p6 := by rw [z_p6]; exact A_p0.lt
  have n_p1_p6 : p1 ≠ p6 := by rw [z_p6]; exact Nat.ne_of_lt A_p1.lt
  have l_p1_p6 : p1 < p6 := by rw [z_p6]; exact A_p1.lt
  have n_p2_p6 : p2 ≠ p6 := by rw [z_p6]; exact Nat.ne_of_lt A_p2.lt
  have l_p2_p6 : p2 < p6 := by rw [z_p6]; exact A_p2.lt
  have n_p3_p6 : p3 ≠ p6 := by rw [z_p6]; exact Nat.ne_of_lt A_p3.lt
  have l_p3_p6 : p3 < p6 := by rw [z_p6]; exact A_p3.lt
  have n_p4_p6 : p4 ≠ p6 := by rw [z_p6]; exact Nat.ne_of_lt A_p4.lt
  have l_p4_p6 : p4 < p6 := by rw [z_p6]; exact A_p4.lt
  have n_p5_p6 : p5 ≠ p6 := by rw [z_p6]; exact Nat.ne_of_lt A_p5.lt
  have l_p5_p6 : p5 < p6 := by rw [z_p6]; exact A_p5.lt
  replace E_o := E_o.ext X
  replace F_elements_o := F_elements_o.ext X
  replace F_positionOf_o := F_positionOf_o.ext X
  replace F_blockOf_o := F_blockOf_o.ext X
  replace F_blockStart_o := F_blockStart_o.ext X
  replace F_blockEnd_o := F_blockEnd_o.ext X
  replace F_markedEnd_o := F_markedEnd_o.ext X
  replace F_origin_o := F_origin_o.ext X
  replace F_touchedBlocks_o := F_touchedBlocks_o.ext X
  replace F_blocks_o := F_blocks_o.ext X
  replace F_touched_o := F_touched_o.ext X
  replace A_p0 := A_p0.ext X
  replace A_p1 := A_p1.ext X
  replace A_p2 := A_p2.ext X
  replace A_p3 := A_p3.ext X
  replace A_p4 := A_p4.ext X
  replace A_p5 := A_p5.ext X
  replace A_p6 : VA Z h75_21 p6 .int ([.int (0 : Int32), .int (0 : Int32), .int (0 : Int32), .int (0 : Int32)]) := A_p6
  clear X
  refine putf K S (hwi hw 22 rfl) F_origin_o E_o (Or.inr ⟨(hwi hw 23 rfl), rfl, rfl⟩) (hwi hw 1 rfl) (ty := .array .int) (by decide) rfl rfl g_o d1_77 fun T h77_22 W S => ?_
  replace E_o := E_o.wr W
  replace F_elements_o := F_elements_o.other W (Or.inr (slot_ne (C := "com/example/procsh/procsh/service/Partition") (Or.inr (hwi hw 11 rfl)) (Or.inr (hwi hw 23 rfl)) (by decide) (t := .array .int) (t' := .array .int) (by decide) (by decide)))
  replace F_positionOf_o := F_positionOf_o.other W (Or.inr (slot_ne (C := "com/example/procsh/procsh/service/Partition") (Or.inr (hwi hw 13 rfl)) (Or.inr (hwi hw 23 rfl)) (by decide) (t := .array .int) (t' := .array .int) (by decide) (by decide)))
  replace F_blockOf_o := F_blockOf_o.other W (Or.inr (slot_ne (C := "com/example/procsh/procsh/service/Partition") (Or.inr (hwi hw 15 rfl)) (Or.inr (hwi hw 23 rfl)) (by decide) (t := .array .int) (t' := .array .int) (by decide) (by decide)))
  replace F_blockStart_o := F_blockStart_o.other W (Or.inr (slot_ne (C := "com/example/procsh/procsh/service/Partition") (Or.inr (hwi hw 17 rfl)) (Or.inr (hwi hw 23 rfl)) (by decide) (t := .array .int) (t' := .array .int) (by decide) (by decide)))
  replace F_blockEnd_o := F_blockEnd_o.other W (Or.inr (slot_ne (C := "com/example/procsh/procsh/service/Partition") (Or.inr (hwi hw 19 rfl)) (Or.inr (hwi hw 23 rfl)) (by decide) (t := .array .int) (t' := .array .int) (by decide) (by decide)))
  replace F_markedEnd_o := F_markedEnd_o.other W (Or.inr (slot_ne (C := "com/example/procsh/procsh/service/Partition") (Or.inr (hwi hw 21 rfl)) (Or.inr (hwi hw 23 rfl)) (by decide) (t := .array .int) (t' := .array .int) (by decide) (by decide)))
  replace F_origin_o := F_origin_o.same W
  replace F_touchedBlocks_o := F_touchedBlocks_o.other W (Or.inr (slot_ne (C := "com/example/procsh/procsh/service/Partition") (Or.inr (hwi hw 25 rfl)) (Or.inr (hwi hw 23 rfl)) (by decide) (t := .array .int) (t' := .array .int) (by decide) (by decide)))
  replace F_blocks_o := F_blocks_o.other W (Or.inr (slot_ne (C := "com/example/procsh/procsh/service/Partition") (Or.inl (hwi hw 27 rfl)) (Or.inr (hwi hw 23 rfl)) (by decide) (t := .int) (t' := .array .int) (by decide) (by decide)))
  replace F_touched_o := F_touched_o.other W (Or.inr (slot_ne (C := "com/example/procsh/procsh/service/Partition") (Or.inl (hwi hw 34 rfl)) (Or.inr (hwi hw 23 rfl)) (by decide) (t := .int) (t' := .array .int) (by decide) (by decide)))
  replace A_p0 := A_p0.other W (by first | exact n_p0_o | exact Ne.symm n_o_p0 | omega)
  replace A_p1 := A_p1.other W (by first | exact n_p1_o | exact Ne.symm n_o_p1 | omega)
  replace A_p2 := A_p2.other W (by first | exact n_p2_o | exact Ne.symm n_o_p2 | omega)
  replace A_p3 := A_p3.other W (by first | exact n_p3_o | exact Ne.symm n_o_p3 | omega)
  replace A_p4 := A_p4.other W (by first | exact n_p4_o | exact Ne.symm n_o_p4 | omega)
  replace A_p5 := A_p5.other W (by first | exact n_p5_o | exact Ne.symm n_o_p5 | omega)
  replace A_p6 := A_p6.other W (by first | exact n_p6_o | exact Ne.symm n_o_p6 | omega)
  clear W
  refine aload_n K S rfl rfl d1_80 ?_
  refine iload_n K S rfl d1_81 ?_
  refine newarr K S (cap := 4) (hwi hw 9 rfl) (by decide) (by decide) (by decide) (by decide) (by decide) d1_82 fun T h82_23 p7 z_p7 g_p7 X A_p7 S => ?_
  have n_o_p7 : o ≠ p7 := by rw [z_p7]; exact Nat.ne_of_lt E_o.lt
  have l_o_p7 : o < p7 := by rw [z_p7]; exact E_o.lt
  have n_p0_p7 : p0 ≠ p7 := by rw [z_p7]; exact Nat.ne_of_lt A_p0.lt
  have l_p0_p7 : p0 < p7 := by rw [z_p7]; exact A_p0.lt
  have n_p1_p7 : p1 ≠ p7 := by rw [z_p7]; exact Nat.ne_of_lt A_p1.lt
  have l_p1_p7 : p1 < p7 := by rw [z_p7]; exact A_p1.lt
  have n_p2_p7 : p2 ≠ p7 := by rw [z_p7]; exact Nat.ne_of_lt A_p2.lt
  have l_p2_p7 : p2 < p7 := by rw [z_p7]; exact A_p2.lt
  have n_p3_p7 : p3 ≠ p7 := by rw [z_p7]; exact Nat.ne_of_lt A_p3.lt
  have l_p3_p7 : p3 < p7 := by rw [z_p7]; exact A_p3.lt
  have n_p4_p7 : p4 ≠ p7 := by rw [z_p7]; exact Nat.ne_of_lt A_p4.lt
  have l_p4_p7 : p4 < p7 := by rw [z_p7]; exact A_p4.lt
  have n_p5_p7 : p5 ≠ p7 := by rw [z_p7]; exact Nat.ne_of_lt A_p5.lt
  have l_p5_p7 : p5 < p7 := by rw [z_p7]; exact A_p5.lt
  have n_p6_p7 : p6 ≠ p7 := by rw [z_p7]; exact Nat.ne_of_lt A_p6.lt
  have l_p6_p7 : p6 < p7 := by rw [z_p7]; exact A_p6.lt
  replace E_o := E_o.ext X
  replace F_elements_o := F_elements_o.ext X
  replace F_positionOf_o := F_positionOf_o.ext X
  replace F_blockOf_o := F_blockOf_o.ext X
  replace F_blockStart_o := F_blockStart_o.ext X
  replace F_blockEnd_o := F_blockEnd_o.ext X
  replace F_markedEnd_o := F_markedEnd_o.ext X
  replace F_origin_o := F_origin_o.ext X
  replace F_touchedBlocks_o := F_touchedBlocks_o.ext X
  replace F_blocks_o := F_blocks_o.ext X
  replace F_touched_o := F_touched_o.ext X
  replace A_p0 := A_p0.ext X
  replace A_p1 := A_p1.ext X
  replace A_p2 := A_p2.ext X
  replace A_p3 := A_p3.ext X
  replace A_p4 := A_p4.ext X
  replace A_p5 := A_p5.ext X
  replace A_p6 := A_p6.ext X
  replace A_p7 : VA Z h82_23 p7 .int ([.int (0 : Int32), .int (0 : Int32), .int (0 : Int32), .int (0 : Int32)]) := A_p7
  clear X
  refine putf K S (hwi hw 24 rfl) F_touchedBlocks_o E_o (Or.inr ⟨(hwi hw 25 rfl), rfl, rfl⟩) (hwi hw 1 rfl) (ty := .array .int) (by decide) rfl rfl g_o d1_84 fun T h84_24 W S => ?_
  replace E_o := E_o.wr W
  replace F_elements_o := F_elements_o.other W (Or.inr (slot_ne (C := "com/example/procsh/procsh/service/Partition") (Or.inr (hwi hw 11 rfl)) (Or.inr (hwi hw 25 rfl)) (by decide) (t := .array .int) (t' := .array .int) (by decide) (by decide)))
  replace F_positionOf_o := F_positionOf_o.other W (Or.inr (slot_ne (C := "com/example/procsh/procsh/service/Partition") (Or.inr (hwi hw 13 rfl)) (Or.inr (hwi hw 25 rfl)) (by decide) (t := .array .int) (t' := .array .int) (by decide) (by decide)))
  replace F_blockOf_o := F_blockOf_o.other W (Or.inr (slot_ne (C := "com/example/procsh/procsh/service/Partition") (Or.inr (hwi hw 15 rfl)) (Or.inr (hwi hw 25 rfl)) (by decide) (t := .array .int) (t' := .array .int) (by decide) (by decide)))
  replace F_blockStart_o := F_blockStart_o.other W (Or.inr (slot_ne (C := "com/example/procsh/procsh/service/Partition") (Or.inr (hwi hw 17 rfl)) (Or.inr (hwi hw 25 rfl)) (by decide) (t := .array .int) (t' := .array .int) (by decide) (by decide)))
  replace F_blockEnd_o := F_blockEnd_o.other W (Or.inr (slot_ne (C := "com/example/procsh/procsh/service/Partition") (Or.inr (hwi hw 19 rfl)) (Or.inr (hwi hw 25 rfl)) (by decide) (t := .array .int) (t' := .array .int) (by decide) (by decide)))
  replace F_markedEnd_o := F_markedEnd_o.other W (Or.inr (slot_ne (C := "com/example/procsh/procsh/service/Partition") (Or.inr (hwi hw 21 rfl)) (Or.inr (hwi hw 25 rfl)) (by decide) (t := .array .int) (t' := .array .int) (by decide) (by decide)))
  replace F_origin_o := F_origin_o.other W (Or.inr (slot_ne (C := "com/example/procsh/procsh/service/Partition") (Or.inr (hwi hw 23 rfl)) (Or.inr (hwi hw 25 rfl)) (by decide) (t := .array .int) (t' := .array .int) (by decide) (by decide)))
  replace F_touchedBlocks_o := F_touchedBlocks_o.same W
  replace F_blocks_o := F_blocks_o.other W (Or.inr (slot_ne (C := "com/example/procsh/procsh/service/Partition") (Or.inl (hwi hw 27 rfl)) (Or.inr (hwi hw 25 rfl)) (by decide) (t := .int) (t' := .array .int) (by decide) (by decide)))
  replace F_touched_o := F_touched_o.other W (Or.inr (slot_ne (C := "com/example/procsh/procsh/service/Partition") (Or.inl (hwi hw 34 rfl)) (Or.inr (hwi hw 25 rfl)) (by decide) (t := .int) (t' := .array .int) (by decide) (by decide)))
  replace A_p0 := A_p0.other W (by first | exact n_p0_o | exact Ne.symm n_o_p0 | omega)
  replace A_p1 := A_p1.other W (by first | exact n_p1_o | exact Ne.symm n_o_p1 | omega)
  replace A_p2 := A_p2.other W (by first | exact n_p2_o | exact Ne.symm n_o_p2 | omega)
  replace A_p3 := A_p3.other W (by first | exact n_p3_o | exact Ne.symm n_o_p3 | omega)
  replace A_p4 := A_p4.other W (by first | exact n_p4_o | exact Ne.symm n_o_p4 | omega)
  replace A_p5 := A_p5.other W (by first | exact n_p5_o | exact Ne.symm n_o_p5 | omega)
  replace A_p6 := A_p6.other W (by first | exact n_p6_o | exact Ne.symm n_o_p6 | omega)
  replace A_p7 := A_p7.other W (by first | exact n_p7_o | exact Ne.symm n_o_p7 | omega)
  clear W
  refine aload_n K S rfl rfl d1_87 ?_
  refine getf K S (hwi hw 18 rfl) F_blockEnd_o d1_88 fun T S => ?_
  refine iconst K S (x := (0 : Int32)) rfl d1_91 ?_
  refine iload_n K S rfl d1_92 ?_
  refine iastore K S (i := 0) A_p4 ⟨by decide, rfl⟩ (show (0 : Nat) < 4 by decide) g_p4 d1_93 fun T h93_25 W B S => ?_
  replace E_o := E_o.wr W
  replace F_elements_o := F_elements_o.other W (Or.inl (by first | exact n_o_p4 | exact Ne.symm n_p4_o | omega))
  replace F_positionOf_o := F_positionOf_o.other W (Or.inl (by first | exact n_o_p4 | exact Ne.symm n_p4_o | omega))
  replace F_blockOf_o := F_blockOf_o.other W (Or.inl (by first | exact n_o_p4 | exact Ne.symm n_p4_o | omega))
  replace F_blockStart_o := F_blockStart_o.other W (Or.inl (by first | exact n_o_p4 | exact Ne.symm n_p4_o | omega))
  replace F_blockEnd_o := F_blockEnd_o.other W (Or.inl (by first | exact n_o_p4 | exact Ne.symm n_p4_o | omega))
  replace F_markedEnd_o := F_markedEnd_o.other W (Or.inl (by first | exact n_o_p4 | exact Ne.symm n_p4_o | omega))
  replace F_origin_o := F_origin_o.other W (Or.inl (by first | exact n_o_p4 | exact Ne.symm n_p4_o | omega))
  replace F_touchedBlocks_o := F_touchedBlocks_o.other W (Or.inl (by first | exact n_o_p4 | exact Ne.symm n_p4_o | omega))
  replace F_blocks_o := F_blocks_o.other W (Or.inl (by first | exact n_o_p4 | exact Ne.symm n_p4_o | omega))
  replace F_touched_o := F_touched_o.other W (Or.inl (by first | exact n_o_p4 | exact Ne.symm n_p4_o | omega))
  replace A_p0 := A_p0.other W (by first | exact n_p0_p4 | exact Ne.symm n_p4_p0 | omega)
  replace A_p1 := A_p1.other W (by first | exact n_p1_p4 | exact Ne.symm n_p4_p1 | omega)
  replace A_p2 := A_p2.other W (by first | exact n_p2_p4 | exact Ne.symm n_p4_p2 | omega)
  replace A_p3 := A_p3.other W (by first | exact n_p3_p4 | exact Ne.symm n_p4_p3 | omega)
  replace A_p5 := A_p5.other W (by first | exact n_p5_p4 | exact Ne.symm n_p4_p5 | omega)
  replace A_p6 := A_p6.other W (by first | exact n_p6_p4 | exact Ne.symm n_p4_p6 | omega)
  replace A_p7 := A_p7.other W (by first | exact n_p7_p4 | exact Ne.symm n_p4_p7 | omega)
  clear W
  replace A_p4 : VA Z h93_25 p4 .int ([.int (4 : Int32), .int (0 : Int32), .int (0 : Int32), .int (0 : Int32)]) := B
  refine aload_n K S rfl rfl d1_94 ?_
  refine iconst K S (x := (1 : Int32)) rfl d1_95 ?_
  refine putf K S (hwi hw 26 rfl) F_blocks_o E_o (Or.inl (hwi hw 27 rfl)) (hwi hw 1 rfl) (ty := .int) (by decide) rfl rfl g_o d1_96 fun T h96_26 W S => ?_
  replace E_o := E_o.wr W
  replace F_elements_o := F_elements_o.other W (Or.inr (slot_ne (C := "com/example/procsh/procsh/service/Partition") (Or.inr (hwi hw 11 rfl)) (Or.inl (hwi hw 27 rfl)) (by decide) (t := .array .int) (t' := .int) (by decide) (by decide)))
  replace F_positionOf_o := F_positionOf_o.other W (Or.inr (slot_ne (C := "com/example/procsh/procsh/service/Partition") (Or.inr (hwi hw 13 rfl)) (Or.inl (hwi hw 27 rfl)) (by decide) (t := .array .int) (t' := .int) (by decide) (by decide)))
  replace F_blockOf_o := F_blockOf_o.other W (Or.inr (slot_ne (C := "com/example/procsh/procsh/service/Partition") (Or.inr (hwi hw 15 rfl)) (Or.inl (hwi hw 27 rfl)) (by decide) (t := .array .int) (t' := .int) (by decide) (by decide)))
  replace F_blockStart_o := F_blockStart_o.other W (Or.inr (slot_ne (C := "com/example/procsh/procsh/service/Partition") (Or.inr (hwi hw 17 rfl)) (Or.inl (hwi hw 27 rfl)) (by decide) (t := .array .int) (t' := .int) (by decide) (by decide)))
  replace F_blockEnd_o := F_blockEnd_o.other W (Or.inr (slot_ne (C := "com/example/procsh/procsh/service/Partition") (Or.inr (hwi hw 19 rfl)) (Or.inl (hwi hw 27 rfl)) (by decide) (t := .array .int) (t' := .int) (by decide) (by decide)))
  replace F_markedEnd_o := F_markedEnd_o.other W (Or.inr (slot_ne (C := "com/example/procsh/procsh/service/Partition") (Or.inr (hwi hw 21 rfl)) (Or.inl (hwi hw 27 rfl)) (by decide) (t := .array .int) (t' := .int) (by decide) (by decide)))
  replace F_origin_o := F_origin_o.other W (Or.inr (slot_ne (C := "com/example/procsh/procsh/service/Partition") (Or.inr (hwi hw 23 rfl)) (Or.inl (hwi hw 27 rfl)) (by decide) (t := .array .int) (t' := .int) (by decide) (by decide)))
  replace F_touchedBlocks_o := F_touchedBlocks_o.other W (Or.inr (slot_ne (C := "com/example/procsh/procsh/service/Partition") (Or.inr (hwi hw 25 rfl)) (Or.inl (hwi hw 27 rfl)) (by decide) (t := .array .int) (t' := .int) (by decide) (by decide)))
  replace F_blocks_o := F_blocks_o.same W
  replace F_touched_o := F_touched_o.other W (Or.inr (slot_ne (C := "com/example/procsh/procsh/service/Partition") (Or.inl (hwi hw 34 rfl)) (Or.inl (hwi hw 27 rfl)) (by decide) (t := .int) (t' := .int) (by decide) (by decide)))
  replace A_p0 := A_p0.other W (by first | exact n_p0_o | exact Ne.symm n_o_p0 | omega)
  replace A_p1 := A_p1.other W (by first | exact n_p1_o | exact Ne.symm n_o_p1 | omega)
  replace A_p2 := A_p2.other W (by first | exact n_p2_o | exact Ne.symm n_o_p2 | omega)
  replace A_p3 := A_p3.other W (by first | exact n_p3_o | exact Ne.symm n_o_p3 | omega)
  replace A_p4 := A_p4.other W (by first | exact n_p4_o | exact Ne.symm n_o_p4 | omega)
  replace A_p5 := A_p5.other W (by first | exact n_p5_o | exact Ne.symm n_o_p5 | omega)
  replace A_p6 := A_p6.other W (by first | exact n_p6_o | exact Ne.symm n_o_p6 | omega)
  replace A_p7 := A_p7.other W (by first | exact n_p7_o | exact Ne.symm n_o_p7 | omega)
  clear W
  refine retv K S (by decide) (by decide) d1_99 ?_
  exact ⟨rfl, p0, p1, p2, p3, p4, p5, p6, p7, ⟨g_o, l_o_p0, l_p0_p1, l_p1_p2, l_p2_p3, l_p3_p4, l_p4_p5, l_p5_p6, l_p6_p7⟩, ⟨E_o, F_elements_o, F_positionOf_o, F_blockOf_o, F_blockStart_o, F_blockEnd_o, F_markedEnd_o, F_origin_o, F_touchedBlocks_o, F_blocks_o, F_touched_o, A_p0, A_p1, A_p2, A_p3, A_p4, A_p5, A_p6, A_p7⟩⟩

theorem okm_1 {L : PS} {q : Int32} (h : okmark' L q = true) : linb (row L 2) q = true ∧ linb (row L 1) q = true ∧ linb (row L 5) (lget (row L 2) q) = true := by
  simp only [okmark', Bool.and_eq_true] at h; exact ⟨h.1.1.1, h.1.1.2, h.1.2⟩
theorem okm_2 {L : PS} {q : Int32} (h : okmark' L q = true) (c : ¬ lget (row L 1) q < lget (row L 5) (lget (row L 2) q)) : okmark L q = true := by
  simp only [okmark', Bool.and_eq_true, Bool.or_eq_true, decide_eq_true_eq] at h; exact h.2.resolve_left c
theorem okm_3 {L : PS} {q : Int32} (h : okmark' L q = true) (c : ¬ lget (row L 1) q < lget (row L 5) (lget (row L 2) q)) : linb (row L 3) (lget (row L 2) q) = true := by
  have g := okm_2 h c; simp only [okmark, Bool.and_eq_true] at g; exact g.1.1.1.1.2
theorem okm_4 {L : PS} {q : Int32} (h : okmark' L q = true) (c : ¬ lget (row L 1) q < lget (row L 5) (lget (row L 2) q)) : linb (row L 7) L.2.2 = true := by
  have g := okm_2 h c; simp only [okmark, Bool.and_eq_true] at g; exact g.1.1.1.2
theorem okm_5 {L : PS} {q : Int32} (h : okmark' L q = true) (c : ¬ lget (row L 1) q < lget (row L 5) (lget (row L 2) q)) : linb (row L 0) (lget (row L 5) (lget (row L 2) q)) = true := by
  have g := okm_2 h c; simp only [okmark, Bool.and_eq_true] at g; exact g.1.1.2
theorem okm_6 {L : PS} {q : Int32} (h : okmark' L q = true) (c : ¬ lget (row L 1) q < lget (row L 5) (lget (row L 2) q)) : linb (row L 0) (lget (row L 1) q) = true := by
  have g := okm_2 h c; simp only [okmark, Bool.and_eq_true] at g; exact g.1.2
theorem okm_7 {L : PS} {q : Int32} (h : okmark' L q = true) (c : ¬ lget (row L 1) q < lget (row L 5) (lget (row L 2) q)) : linb (row L 1) (lget (row L 0) (lget (row L 5) (lget (row L 2) q))) = true := by
  have g := okm_2 h c; simp only [okmark, Bool.and_eq_true] at g; exact g.2
theorem d3_0 : Dc prog_68_method_9_code 0 (.aload_n 0) 1 1 := ⟨by decide +kernel, rfl⟩
theorem d3_1 : Dc prog_68_method_9_code 1 (.getfield 16) 3 4 := ⟨by decide +kernel, rfl⟩
theorem d3_4 : Dc prog_68_method_9_code 4 (.iload_n 1) 1 5 := ⟨by decide +kernel, rfl⟩
theorem d3_5 : Dc prog_68_method_9_code 5 (.iaload) 1 6 := ⟨by decide +kernel, rfl⟩
theorem d3_6 : Dc prog_68_method_9_code 6 (.istore_n 2) 1 7 := ⟨by decide +kernel, rfl⟩
theorem d3_7 : Dc prog_68_method_9_code 7 (.aload_n 0) 1 8 := ⟨by decide +kernel, rfl⟩
theorem d3_8 : Dc prog_68_method_9_code 8 (.getfield 13) 3 11 := ⟨by decide +kernel, rfl⟩
theorem d3_11 : Dc prog_68_method_9_code 11 (.iload_n 1) 1 12 := ⟨by decide +kernel, rfl⟩
theorem d3_12 : Dc prog_68_method_9_code 12 (.iaload) 1 13 := ⟨by decide +kernel, rfl⟩
theorem d3_13 : Dc prog_68_method_9_code 13 (.istore_n 3) 1 14 := ⟨by decide +kernel, rfl⟩
theorem d3_14 : Dc prog_68_method_9_code 14 (.aload_n 0) 1 15 := ⟨by decide +kernel, rfl⟩
theorem d3_15 : Dc prog_68_method_9_code 15 (.getfield 25) 3 18 := ⟨by decide +kernel, rfl⟩
theorem d3_18 : Dc prog_68_method_9_code 18 (.iload_n 2) 1 19 := ⟨by decide +kernel, rfl⟩
theorem d3_19 : Dc prog_68_method_9_code 19 (.iaload) 1 20 := ⟨by decide +kernel, rfl⟩
theorem d3_20 : Dc prog_68_method_9_code 20 (.istore 4) 2 22 := ⟨by decide +kernel, rfl⟩
theorem d3_22 : Dc prog_68_method_9_code 22 (.iload_n 3) 1 23 := ⟨by decide +kernel, rfl⟩
theorem d3_23 : Dc prog_68_method_9_code 23 (.iload 4) 2 25 := ⟨by decide +kernel, rfl⟩
theorem d3_25 : Bc prog_68_method_9_code 25 (.if_icmp .ge 4) (4) 28 29 := ⟨by decide +kernel, rfl, by decide, by decide⟩
theorem d3_28 : Dc prog_68_method_9_code 28 (.return_) 1 29 := ⟨by decide +kernel, rfl⟩
theorem d3_29 : Dc prog_68_method_9_code 29 (.iload 4) 2 31 := ⟨by decide +kernel, rfl⟩
theorem d3_31 : Dc prog_68_method_9_code 31 (.aload_n 0) 1 32 := ⟨by decide +kernel, rfl⟩
theorem d3_32 : Dc prog_68_method_9_code 32 (.getfield 19) 3 35 := ⟨by decide +kernel, rfl⟩
theorem d3_35 : Dc prog_68_method_9_code 35 (.iload_n 2) 1 36 := ⟨by decide +kernel, rfl⟩
theorem d3_36 : Dc prog_68_method_9_code 36 (.iaload) 1 37 := ⟨by decide +kernel, rfl⟩
theorem d3_37 : Bc prog_68_method_9_code 37 (.if_icmp .ne 20) (20) 40 57 := ⟨by decide +kernel, rfl, by decide, by decide⟩
theorem d3_40 : Dc prog_68_method_9_code 40 (.aload_n 0) 1 41 := ⟨by decide +kernel, rfl⟩
theorem d3_41 : Dc prog_68_method_9_code 41 (.getfield 31) 3 44 := ⟨by decide +kernel, rfl⟩
theorem d3_44 : Dc prog_68_method_9_code 44 (.aload_n 0) 1 45 := ⟨by decide +kernel, rfl⟩
theorem d3_45 : Dc prog_68_method_9_code 45 (.dup) 1 46 := ⟨by decide +kernel, rfl⟩
theorem d3_46 : Dc prog_68_method_9_code 46 (.getfield 38) 3 49 := ⟨by decide +kernel, rfl⟩
theorem d3_49 : Dc prog_68_method_9_code 49 (.dup_x1) 1 50 := ⟨by decide +kernel, rfl⟩
theorem d3_50 : Dc prog_68_method_9_code 50 (.iconst 1) 1 51 := ⟨by decide +kernel, rfl⟩
theorem d3_51 : Dc prog_68_method_9_code 51 (.iadd) 1 52 := ⟨by decide +kernel, rfl⟩
theorem d3_52 : Dc prog_68_method_9_code 52 (.putfield 38) 3 55 := ⟨by decide +kernel, rfl⟩
theorem d3_55 : Dc prog_68_method_9_code 55 (.iload_n 2) 1 56 := ⟨by decide +kernel, rfl⟩
theorem d3_56 : Dc prog_68_method_9_code 56 (.iastore) 1 57 := ⟨by decide +kernel, rfl⟩
theorem d3_57 : Dc prog_68_method_9_code 57 (.aload_n 0) 1 58 := ⟨by decide +kernel, rfl⟩
theorem d3_58 : Dc prog_68_method_9_code 58 (.getfield 7) 3 61 := ⟨by decide +kernel, rfl⟩
theorem d3_61 : Dc prog_68_method_9_code 61 (.iload 4) 2 63 := ⟨by decide +kernel, rfl⟩
theorem d3_63 : Dc prog_68_method_9_code 63 (.iaload) 1 64 := ⟨by decide +kernel, rfl⟩
theorem d3_64 : Dc prog_68_method_9_code 64 (.istore 5) 2 66 := ⟨by decide +kernel, rfl⟩
theorem d3_66 : Dc prog_68_method_9_code 66 (.aload_n 0) 1 67 := ⟨by decide +kernel, rfl⟩
theorem d3_67 : Dc prog_68_method_9_code 67 (.getfield 7) 3 70 := ⟨by decide +kernel, rfl⟩
theorem d3_70 : Dc prog_68_method_9_code 70 (.iload_n 3) 1 71 := ⟨by decide +kernel, rfl⟩
theorem d3_71 : Dc prog_68_method_9_code 71 (.iload 5) 2 73 := ⟨by decide +kernel, rfl⟩
theorem d3_73 : Dc prog_68_method_9_code 73 (.iastore) 1 74 := ⟨by decide +kernel, rfl⟩
theorem d3_74 : Dc prog_68_method_9_code 74 (.aload_n 0) 1 75 := ⟨by decide +kernel, rfl⟩
theorem d3_75 : Dc prog_68_method_9_code 75 (.getfield 13) 3 78 := ⟨by decide +kernel, rfl⟩
theorem d3_78 : Dc prog_68_method_9_code 78 (.iload 5) 2 80 := ⟨by decide +kernel, rfl⟩
theorem d3_80 : Dc prog_68_method_9_code 80 (.iload_n 3) 1 81 := ⟨by decide +kernel, rfl⟩
theorem d3_81 : Dc prog_68_method_9_code 81 (.iastore) 1 82 := ⟨by decide +kernel, rfl⟩
theorem d3_82 : Dc prog_68_method_9_code 82 (.aload_n 0) 1 83 := ⟨by decide +kernel, rfl⟩
theorem d3_83 : Dc prog_68_method_9_code 83 (.getfield 7) 3 86 := ⟨by decide +kernel, rfl⟩
theorem d3_86 : Dc prog_68_method_9_code 86 (.iload 4) 2 88 := ⟨by decide +kernel, rfl⟩
theorem d3_88 : Dc prog_68_method_9_code 88 (.iload_n 1) 1 89 := ⟨by decide +kernel, rfl⟩
theorem d3_89 : Dc prog_68_method_9_code 89 (.iastore) 1 90 := ⟨by decide +kernel, rfl⟩
theorem d3_90 : Dc prog_68_method_9_code 90 (.aload_n 0) 1 91 := ⟨by decide +kernel, rfl⟩
theorem d3_91 : Dc prog_68_method_9_code 91 (.getfield 13) 3 94 := ⟨by decide +kernel, rfl⟩
theorem d3_94 : Dc prog_68_method_9_code 94 (.iload_n 1) 1 95 := ⟨by decide +kernel, rfl⟩
theorem d3_95 : Dc prog_68_method_9_code 95 (.iload 4) 2 97 := ⟨by decide +kernel, rfl⟩
theorem d3_97 : Dc prog_68_method_9_code 97 (.iastore) 1 98 := ⟨by decide +kernel, rfl⟩
theorem d3_98 : Dc prog_68_method_9_code 98 (.aload_n 0) 1 99 := ⟨by decide +kernel, rfl⟩
theorem d3_99 : Dc prog_68_method_9_code 99 (.getfield 25) 3 102 := ⟨by decide +kernel, rfl⟩
theorem d3_102 : Dc prog_68_method_9_code 102 (.iload_n 2) 1 103 := ⟨by decide +kernel, rfl⟩
theorem d3_103 : Dc prog_68_method_9_code 103 (.iload 4) 2 105 := ⟨by decide +kernel, rfl⟩
theorem d3_105 : Dc prog_68_method_9_code 105 (.iconst 1) 1 106 := ⟨by decide +kernel, rfl⟩
theorem d3_106 : Dc prog_68_method_9_code 106 (.iadd) 1 107 := ⟨by decide +kernel, rfl⟩
theorem d3_107 : Dc prog_68_method_9_code 107 (.iastore) 1 108 := ⟨by decide +kernel, rfl⟩
theorem d3_108 : Dc prog_68_method_9_code 108 (.return_) 1 109 := ⟨by decide +kernel, rfl⟩
theorem ef_mark (m : MethodId) (o : Addr) (p0 : Addr) (p1 : Addr) (p2 : Addr) (p3 : Addr) (p4 : Addr) (p5 : Addr) (p6 : Addr) (p7 : Addr) (q : Int32) (L : PS) : entryFrame m #[.ref o, .int q] 6 = mkF m 0 #[.val (.ref o), .val (.int q), .unset, .unset, .unset, .unset] [] := by first | (simp [entryFrame, mkF, argsToLocals, Value.category]; done) | rfl
set_option maxRecDepth 65536 in
set_option maxHeartbeats 40000000 in
theorem m_mark (l : Launch) (Z : State) (a0 : Array Value) (hw : ∀ d ∈ tables_1, d.before a0 Z = true) (n0 : Nat) (o : Addr) (p0 : Addr) (p1 : Addr) (p2 : Addr) (p3 : Addr) (p4 : Addr) (p5 : Addr) (p6 : Addr) (p7 : Addr) (q : Int32) (L : PS) (h : Heap) (hn : n0 ≤ h.size) (D : AD n0 o p0 p1 p2 p3 p4 p5 p6 p7) (H : PK Z h o p0 p1 p2 p3 p4 p5 p6 p7 L) (ok : okmark' L q = true) : Met n0 l Z (⟨"com/example/procsh/procsh/service/Partition", "mark", "(I)V"⟩ : MethodName) prog_68_method_9_code 6 none ({ frames := 0, cells := 0, slots := 0, locals := 0 } : Room) [] #[.ref o, .int q] h (Ef none (fun h' => PK Z h' o p0 p1 p2 p3 p4 p5 p6 p7 (fmark L q))) := by
  refine enter (plainFor_of_name (by first | (simp [plainName, overriddenIn]; done) | decide +kernel)) (fun m => ef_mark m o p0 p1 p2 p3 p4 p5 p6 p7 q L) hn ?_
  intro p e s m below meth c T K S
  obtain ⟨g_o, w0, w1, w2, w3, w4, w5, w6, w7⟩ := D
  obtain ⟨E_o, F_elements_o, F_positionOf_o, F_blockOf_o, F_blockStart_o, F_blockEnd_o, F_markedEnd_o, F_origin_o, F_touchedBlocks_o, F_blocks_o, F_touched_o, A_p0, A_p1, A_p2, A_p3, A_p4, A_p5, A_p6, A_p7⟩ := H
  have g_p0 : n0 ≤ p0 := by omega
  have g_p1 : n0 ≤ p1 := by omega
  have g_p2 : n0 ≤ p2 := by omega
  have g_p3 : n0 ≤ p3 := by omega
  have g_p4 : n0 ≤ p4 := by omega
  have g_p5 : n0 ≤ p5 := by omega
  have g_p6 : n0 ≤ p6 := by omega
  have g_p7 : n0 ≤ p7 := by omega
  have n_o_p0 : o ≠ p0 := Nat.ne_of_lt (by omega)
  have n_o_p1 : o ≠ p1 := Nat.ne_of_lt (by omega)
  have n_o_p2 : o ≠ p2 := Nat.ne_of_lt (by omega)
  have n_o_p3 : o ≠ p3 := Nat.ne_of_lt (by omega)
  have n_o_p4 : o ≠ p4 := Nat.ne_of_lt (by omega)
  have n_o_p5 : o ≠ p5 := Nat.ne_of_lt (by omega)
  have n_o_p6 : o ≠ p6 := Nat.ne_of_lt (by omega)
  have n_o_p7 : o ≠ p7 := Nat.ne_of_lt (by omega)
  have n_p0_p1 : p0 ≠ p1 := Nat.ne_of_lt (by omega)
  have n_p0_p2 : p0 ≠ p2 := Nat.ne_of_lt (by omega)
  have n_p0_p3 : p0 ≠ p3 := Nat.ne_of_lt (by omega)
  have n_p0_p4 : p0 ≠ p4 := Nat.ne_of_lt (by omega)
  have n_p0_p5 : p0 ≠ p5 := Nat.ne_of_lt (by omega)
  have n_p0_p6 : p0 ≠ p6 := Nat.ne_of_lt (by omega)
  have n_p0_p7 : p0 ≠ p7 := Nat.ne_of_lt (by omega)
  have n_p1_p2 : p1 ≠ p2 := Nat.ne_of_lt (by omega)
  have n_p1_p3 : p1 ≠ p3 := Nat.ne_of_lt (by omega)
  have n_p1_p4 : p1 ≠ p4 := Nat.ne_of_lt (by omega)
  have n_p1_p5 : p1 ≠ p5 := Nat.ne_of_lt (by omega)
  have n_p1_p6 : p1 ≠ p6 := Nat.ne_of_lt (by omega)
  have n_p1_p7 : p1 ≠ p7 := Nat.ne_of_lt (by omega)
  have n_p2_p3 : p2 ≠ p3 := Nat.ne_of_lt (by omega)
  have n_p2_p4 : p2 ≠ p4 := Nat.ne_of_lt (by omega)
  have n_p2_p5 : p2 ≠ p5 := Nat.ne_of_lt (by omega)
  have n_p2_p6 : p2 ≠ p6 := Nat.ne_of_lt (by omega)
  have n_p2_p7 : p2 ≠ p7 := Nat.ne_of_lt (by omega)
  have n_p3_p4 : p3 ≠ p4 := Nat.ne_of_lt (by omega)
  have n_p3_p5 : p3 ≠ p5 := Nat.ne_of_lt (by omega)
  have n_p3_p6 : p3 ≠ p6 := Nat.ne_of_lt (by omega)
  have n_p3_p7 : p3 ≠ p7 := Nat.ne_of_lt (by omega)
  have n_p4_p5 : p4 ≠ p5 := Nat.ne_of_lt (by omega)
  have n_p4_p6 : p4 ≠ p6 := Nat.ne_of_lt (by omega)
  have n_p4_p7 : p4 ≠ p7 := Nat.ne_of_lt (by omega)
  have n_p5_p6 : p5 ≠ p6 := Nat.ne_of_lt (by omega)
  have n_p5_p7 : p5 ≠ p7 := Nat.ne_of_lt (by omega)
  have n_p6_p7 : p6 ≠ p7 := Nat.ne_of_lt (by omega)
  obtain ⟨ok1, ok2, ok3⟩ := okm_1 ok
  refine aload_n K S rfl rfl d3_0 ?_
  refine getf K S (hwi hw 14 rfl) F_blockOf_o d3_1 fun T S => ?_
  refine iload_n K S rfl d3_4 ?_
  refine iaload K S (v := .int (lget (row L 2) q)) (i := q.toNatClampNeg) A_p2 (linb_ix (show linb (row L 2) q = true from ok1)) (linb_get (show linb (row L 2) q = true from ok1)) d3_5 ?_
  refine istore_n K S (l' := #[.val (.ref o), .val (.int q), .val (.int (lget (row L 2) q)), .unset, .unset, .unset]) rfl d3_6 ?_
  refine aload_n K S rfl rfl d3_7 ?_
  refine getf K S (hwi hw 12 rfl) F_positionOf_o d3_8 fun T S => ?_
  refine iload_n K S rfl d3_11 ?_
  refine iaload K S (v := .int (lget (row L 1) q)) (i := q.toNatClampNeg) A_p1 (linb_ix (show linb (row L 1) q = true from ok2)) (linb_get (show linb (row L 1) q = true from ok2)) d3_12 ?_
  refine istore_n K S (l' := #[.val (.ref o), .val (.int q), .val (.int (lget (row L 2) q)), .val (.int (lget (row L 1) q)), .unset, .unset]) rfl d3_13 ?_
  refine aload_n K S rfl rfl d3_14 ?_
  refine getf K S (hwi hw 20 rfl) F_markedEnd_o d3_15 fun T S => ?_
  refine iload_n K S rfl d3_18 ?_
  refine iaload K S (v := .int (lget (row L 5) (lget (row L 2) q))) (i := (lget (row L 2) q).toNatClampNeg) A_p5 (linb_ix (show linb (row L 5) (lget (row L 2) q) = true from ok3)) (linb_get (show linb (row L 5) (lget (row L 2) q) = true from ok3)) d3_19 ?_
  refine istore K S (l' := #[.val (.ref o), .val (.int q), .val (.int (lget (row L 2) q)), .val (.int (lget (row L 1) q)), .val (.int (lget (row L 5) (lget (row L 2) q))), .unset]) rfl d3_20 ?_
  refine iload_n K S rfl d3_22 ?_
  refine iload K S rfl d3_23 ?_
  refine icmp_ge K S d3_25 (fun c25 => ?_) (fun c25 => ?_)
  · refine iload K S rfl d3_29 ?_
    refine aload_n K S rfl rfl d3_31 ?_
    refine getf K S (hwi hw 16 rfl) F_blockStart_o d3_32 fun T S => ?_
    refine iload_n K S rfl d3_35 ?_
    refine iaload K S (v := .int (lget (row L 3) (lget (row L 2) q))) (i := (lget (row L 2) q).toNatClampNeg) A_p3 (linb_ix (show linb (row L 3) (lget (row L 2) q) = true from (okm_3 ok c25))) (linb_get (show linb (row L 3) (lget (row L 2) q) = true from (okm_3 ok c25))) d3_36 ?_
    refine icmp_ne K S d3_37 (fun c37 => ?_) (fun c37 => ?_)
    · refine aload_n K S rfl rfl d3_57 ?_
      refine getf K S (hwi hw 10 rfl) F_elements_o d3_58 fun T S => ?_
      refine iload K S rfl d3_61 ?_
      refine iaload K S (v := .int (lget (row L 0) (lget (row L 5) (lget (row L 2) q)))) (i := (lget (row L 5) (lget (row L 2) q)).toNatClampNeg) A_p0 (linb_ix (show linb (row L 0) (lget (row L 5) (lget (row L 2) q)) = true from (okm_5 ok c25))) (linb_get (show linb (row L 0) (lget (row L 5) (lget (row L 2) q)) = true from (okm_5 ok c25))) d3_63 ?_
      refine istore K S (l' := #[.val (.ref o), .val (.int q), .val (.int (lget (row L 2) q)), .val (.int (lget (row L 1) q)), .val (.int (lget (row L 5) (lget (row L 2) q))), .val (.int (lget (row L 0) (lget (row L 5) (lget (row L 2) q))))]) rfl d3_64 ?_
      refine aload_n K S rfl rfl d3_66 ?_
      refine getf K S (hwi hw 10 rfl) F_elements_o d3_67 fun T S => ?_
      refine iload_n K S rfl d3_70 ?_
      refine iload K S rfl d3_71 ?_
      refine iastore K S (i := (lget (row L 1) q).toNatClampNeg) A_p0 (linb_ix (show linb (row L 0) (lget (row L 1) q) = true from (okm_6 ok c25))) (linb_ml (show linb (row L 0) (lget (row L 1) q) = true from (okm_6 ok c25))) g_p0 d3_73 fun T h73_1 W B S => ?_
      replace E_o := E_o.wr W
      replace F_elements_o := F_elements_o.other W (Or.inl (by first | exact n_o_p0 | exact Ne.symm n_p0_o | omega))
      replace F_positionOf_o := F_positionOf_o.other W (Or.inl (by first | exact n_o_p0 | exact Ne.symm n_p0_o | omega))
      replace A_p1 := A_p1.other W (by first | exact n_p1_p0 | exact Ne.symm n_p0_p1 | omega)
      replace F_blockOf_o := F_blockOf_o.other W (Or.inl (by first | exact n_o_p0 | exact Ne.symm n_p0_o | omega))
      replace A_p2 := A_p2.other W (by first | exact n_p2_p0 | exact Ne.symm n_p0_p2 | omega)
      replace F_blockStart_o := F_blockStart_o.other W (Or.inl (by first | exact n_o_p0 | exact Ne.symm n_p0_o | omega))
      replace A_p3 := A_p3.other W (by first | exact n_p3_p0 | exact Ne.symm n_p0_p3 | omega)
      replace F_blockEnd_o := F_blockEnd_o.other W (Or.inl (by first | exact n_o_p0 | exact Ne.symm n_p0_o | omega))
      replace A_p4 := A_p4.other W (by first | exact n_p4_p0 | exact Ne.symm n_p0_p4 | omega)
      replace F_markedEnd_o := F_markedEnd_o.other W (Or.inl (by first | exact n_o_p0 | exact Ne.symm n_p0_o | omega))
      replace A_p5 := A_p5.other W (by first | exact n_p5_p0 | exact Ne.symm n_p0_p5 | omega)
      replace F_origin_o := F_origin_o.other W (Or.inl (by first | exact n_o_p0 | exact Ne.symm n_p0_o | omega))
      replace A_p6 := A_p6.other W (by first | exact n_p6_p0 | exact Ne.symm n_p0_p6 | omega)
      replace F_touchedBlocks_o := F_touchedBlocks_o.other W (Or.inl (by first | exact n_o_p0 | exact Ne.symm n_p0_o | omega))
      replace A_p7 := A_p7.other W (by first | exact n_p7_p0 | exact Ne.symm n_p0_p7 | omega)
      replace F_blocks_o := F_blocks_o.other W (Or.inl (by first | exact n_o_p0 | exact Ne.symm n_p0_o | omega))
      replace F_touched_o := F_touched_o.other W (Or.inl (by first | exact n_o_p0 | exact Ne.symm n_p0_o | omega))
      clear W
      replace A_p0 : VA Z h73_1 p0 .int ((lset (row L 0) (lget (row L 1) q) (lget (row L 0) (lget (row L 5) (lget (row L 2) q)))).map Value.int) := (by rw [lset_map]; exact B)
      refine aload_n K S rfl rfl d3_74 ?_
      refine getf K S (hwi hw 12 rfl) F_positionOf_o d3_75 fun T S => ?_
      refine iload K S rfl d3_78 ?_
      refine iload_n K S rfl d3_80 ?_
      refine iastore K S (i := (lget (row L 0) (lget (row L 5) (lget (row L 2) q))).toNatClampNeg) A_p1 (linb_ix (show linb (row L 1) (lget (row L 0) (lget (row L 5) (lget (row L 2) q))) = true from (okm_7 ok c25))) (linb_ml (show linb (row L 1) (lget (row L 0) (lget (row L 5) (lget (row L 2) q))) = true from (okm_7 ok c25))) g_p1 d3_81 fun T h81_2 W B S => ?_
      replace E_o := E_o.wr W
      replace F_elements_o := F_elements_o.other W (Or.inl (by first | exact n_o_p1 | exact Ne.symm n_p1_o | omega))
      replace A_p0 := A_p0.other W (by first | exact n_p0_p1 | exact Ne.symm n_p1_p0 | omega)
      replace F_positionOf_o := F_positionOf_o.other W (Or.inl (by first | exact n_o_p1 | exact Ne.symm n_p1_o | omega))
      replace F_blockOf_o := F_blockOf_o.other W (Or.inl (by first | exact n_o_p1 | exact Ne.symm n_p1_o | omega))
      replace A_p2 := A_p2.other W (by first | exact n_p2_p1 | exact Ne.symm n_p1_p2 | omega)
      replace F_blockStart_o := F_blockStart_o.other W (Or.inl (by first | exact n_o_p1 | exact Ne.symm n_p1_o | omega))
      replace A_p3 := A_p3.other W (by first | exact n_p3_p1 | exact Ne.symm n_p1_p3 | omega)
      replace F_blockEnd_o := F_blockEnd_o.other W (Or.inl (by first | exact n_o_p1 | exact Ne.symm n_p1_o | omega))
      replace A_p4 := A_p4.other W (by first | exact n_p4_p1 | exact Ne.symm n_p1_p4 | omega)
      replace F_markedEnd_o := F_markedEnd_o.other W (Or.inl (by first | exact n_o_p1 | exact Ne.symm n_p1_o | omega))
      replace A_p5 := A_p5.other W (by first | exact n_p5_p1 | exact Ne.symm n_p1_p5 | omega)
      replace F_origin_o := F_origin_o.other W (Or.inl (by first | exact n_o_p1 | exact Ne.symm n_p1_o | omega))
      replace A_p6 := A_p6.other W (by first | exact n_p6_p1 | exact Ne.symm n_p1_p6 | omega)
      replace F_touchedBlocks_o := F_touchedBlocks_o.other W (Or.inl (by first | exact n_o_p1 | exact Ne.symm n_p1_o | omega))
      replace A_p7 := A_p7.other W (by first | exact n_p7_p1 | exact Ne.symm n_p1_p7 | omega)
      replace F_blocks_o := F_blocks_o.other W (Or.inl (by first | exact n_o_p1 | exact Ne.symm n_p1_o | omega))
      replace F_touched_o := F_touched_o.other W (Or.inl (by first | exact n_o_p1 | exact Ne.symm n_p1_o | omega))
      clear W
      replace A_p1 : VA Z h81_2 p1 .int ((lset (row L 1) (lget (row L 0) (lget (row L 5) (lget (row L 2) q))) (lget (row L 1) q)).map Value.int) := (by rw [lset_map]; exact B)
      refine aload_n K S rfl rfl d3_82 ?_
      refine getf K S (hwi hw 10 rfl) F_elements_o d3_83 fun T S => ?_
      refine iload K S rfl d3_86 ?_
      refine iload_n K S rfl d3_88 ?_
      refine iastore K S (i := (lget (row L 5) (lget (row L 2) q)).toNatClampNeg) A_p0 (linb_ix (show linb (lset (row L 0) (lget (row L 1) q) (lget (row L 0) (lget (row L 5) (lget (row L 2) q)))) (lget (row L 5) (lget (row L 2) q)) = true from (linb_set (okm_5 ok c25)))) (linb_ml (show linb (lset (row L 0) (lget (row L 1) q) (lget (row L 0) (lget (row L 5) (lget (row L 2) q)))) (lget (row L 5) (lget (row L 2) q)) = true from (linb_set (okm_5 ok c25)))) g_p0 d3_89 fun T h89_3 W B S => ?_
      replace E_o := E_o.wr W
      replace F_elements_o := F_elements_o.other W (Or.inl (by first | exact n_o_p0 | exact Ne.symm n_p0_o | omega))
      replace F_positionOf_o := F_positionOf_o.other W (Or.inl (by first | exact n_o_p0 | exact Ne.symm n_p0_o | omega))
      replace A_p1 := A_p1.other W (by first | exact n_p1_p0 | exact Ne.symm n_p0_p1 | omega)
      replace F_blockOf_o := F_blockOf_o.other W (Or.inl (by first | exact n_o_p0 | exact Ne.symm n_p0_o | omega))
      replace A_p2 := A_p2.other W (by first | exact n_p2_p0 | exact Ne.symm n_p0_p2 | omega)
      replace F_blockStart_o := F_blockStart_o.other W (Or.inl (by first | exact n_o_p0 | exact Ne.symm n_p0_o | omega))
      replace A_p3 := A_p3.other W (by first | exact n_p3_p0 | exact Ne.symm n_p0_p3 | omega)
      replace F_blockEnd_o := F_blockEnd_o.other W (Or.inl (by first | exact n_o_p0 | exact Ne.symm n_p0_o | omega))
      replace A_p4 := A_p4.other W (by first | exact n_p4_p0 | exact Ne.symm n_p0_p4 | omega)
      replace F_markedEnd_o := F_markedEnd_o.other W (Or.inl (by first | exact n_o_p0 | exact Ne.symm n_p0_o | omega))
      replace A_p5 := A_p5.other W (by first | exact n_p5_p0 | exact Ne.symm n_p0_p5 | omega)
      replace F_origin_o := F_origin_o.other W (Or.inl (by first | exact n_o_p0 | exact Ne.symm n_p0_o | omega))
      replace A_p6 := A_p6.other W (by first | exact n_p6_p0 | exact Ne.symm n_p0_p6 | omega)
      replace F_touchedBlocks_o := F_touchedBlocks_o.other W (Or.inl (by first | exact n_o_p0 | exact Ne.symm n_p0_o | omega))
      replace A_p7 := A_p7.other W (by first | exact n_p7_p0 | exact Ne.symm n_p0_p7 | omega)
      replace F_blocks_o := F_blocks_o.other W (Or.inl (by first | exact n_o_p0 | exact Ne.symm n_p0_o | omega))
      replace F_touched_o := F_touched_o.other W (Or.inl (by first | exact n_o_p0 | exact Ne.symm n_p0_o | omega))
      clear W
      replace A_p0 : VA Z h89_3 p0 .int ((lset (lset (row L 0) (lget (row L 1) q) (lget (row L 0) (lget (row L 5) (lget (row L 2) q)))) (lget (row L 5) (lget (row L 2) q)) q).map Value.int) := (by rw [lset_map]; exact B)
      refine aload_n K S rfl rfl d3_90 ?_
      refine getf K S (hwi hw 12 rfl) F_positionOf_o d3_91 fun T S => ?_
      refine iload_n K S rfl d3_94 ?_
      refine iload K S rfl d3_95 ?_
      refine iastore K S (i := q.toNatClampNeg) A_p1 (linb_ix (show linb (lset (row L 1) (lget (row L 0) (lget (row L 5) (lget (row L 2) q))) (lget (row L 1) q)) q = true from (linb_set ok2))) (linb_ml (show linb (lset (row L 1) (lget (row L 0) (lget (row L 5) (lget (row L 2) q))) (lget (row L 1) q)) q = true from (linb_set ok2))) g_p1 d3_97 fun T h97_4 W B S => ?_
      replace E_o := E_o.wr W
      replace F_elements_o := F_elements_o.other W (Or.inl (by first | exact n_o_p1 | exact Ne.symm n_p1_o | omega))
      replace A_p0 := A_p0.other W (by first | exact n_p0_p1 | exact Ne.symm n_p1_p0 | omega)
      replace F_positionOf_o := F_positionOf_o.other W (Or.inl (by first | exact n_o_p1 | exact Ne.symm n_p1_o | omega))
      replace F_blockOf_o := F_blockOf_o.other W (Or.inl (by first | exact n_o_p1 | exact Ne.symm n_p1_o | omega))
      replace A_p2 := A_p2.other W (by first | exact n_p2_p1 | exact Ne.symm n_p1_p2 | omega)
      replace F_blockStart_o := F_blockStart_o.other W (Or.inl (by first | exact n_o_p1 | exact Ne.symm n_p1_o | omega))
      replace A_p3 := A_p3.other W (by first | exact n_p3_p1 | exact Ne.symm n_p1_p3 | omega)
      replace F_blockEnd_o := F_blockEnd_o.other W (Or.inl (by first | exact n_o_p1 | exact Ne.symm n_p1_o | omega))
      replace A_p4 := A_p4.other W (by first | exact n_p4_p1 | exact Ne.symm n_p1_p4 | omega)
      replace F_markedEnd_o := F_markedEnd_o.other W (Or.inl (by first | exact n_o_p1 | exact Ne.symm n_p1_o | omega))
      replace A_p5 := A_p5.other W (by first | exact n_p5_p1 | exact Ne.symm n_p1_p5 | omega)
      replace F_origin_o := F_origin_o.other W (Or.inl (by first | exact n_o_p1 | exact Ne.symm n_p1_o | omega))
      replace A_p6 := A_p6.other W (by first | exact n_p6_p1 | exact Ne.symm n_p1_p6 | omega)
      replace F_touchedBlocks_o := F_touchedBlocks_o.other W (Or.inl (by first | exact n_o_p1 | exact Ne.symm n_p1_o | omega))
      replace A_p7 := A_p7.other W (by first | exact n_p7_p1 | exact Ne.symm n_p1_p7 | omega)
      replace F_blocks_o := F_blocks_o.other W (Or.inl (by first | exact n_o_p1 | exact Ne.symm n_p1_o | omega))
      replace F_touched_o := F_touched_o.other W (Or.inl (by first | exact n_o_p1 | exact Ne.symm n_p1_o | omega))
      clear W
      replace A_p1 : VA Z h97_4 p1 .int ((lset (lset (row L 1) (lget (row L 0) (lget (row L 5) (lget (row L 2) q))) (lget (row L 1) q)) q (lget (row L 5) (lget (row L 2) q))).map Value.int) := (by rw [lset_map]; exact B)
      refine aload_n K S rfl rfl d3_98 ?_
      refine getf K S (hwi hw 20 rfl) F_markedEnd_o d3_99 fun T S => ?_
      refine iload_n K S rfl d3_102 ?_
      refine iload K S rfl d3_103 ?_
      refine iconst K S (x := (1 : Int32)) rfl d3_105 ?_
      refine iadd K S d3_106 ?_
      refine iastore K S (i := (lget (row L 2) q).toNatClampNeg) A_p5 (linb_ix (show linb (row L 5) (lget (row L 2) q) = true from ok3)) (linb_ml (show linb (row L 5) (lget (row L 2) q) = true from ok3)) g_p5 d3_107 fun T h107_5 W B S => ?_
      replace E_o := E_o.wr W
      replace F_elements_o := F_elements_o.other W (Or.inl (by first | exact n_o_p5 | exact Ne.symm n_p5_o | omega))
      replace A_p0 := A_p0.other W (by first | exact n_p0_p5 | exact Ne.symm n_p5_p0 | omega)
      replace F_positionOf_o := F_positionOf_o.other W (Or.inl (by first | exact n_o_p5 | exact Ne.symm n_p5_o | omega))
      replace A_p1 := A_p1.other W (by first | exact n_p1_p5 | exact Ne.symm n_p5_p1 | omega)
      replace F_blockOf_o := F_blockOf_o.other W (Or.inl (by first | exact n_o_p5 | exact Ne.symm n_p5_o | omega))
      replace A_p2 := A_p2.other W (by first | exact n_p2_p5 | exact Ne.symm n_p5_p2 | omega)
      replace F_blockStart_o := F_blockStart_o.other W (Or.inl (by first | exact n_o_p5 | exact Ne.symm n_p5_o | omega))
      replace A_p3 := A_p3.other W (by first | exact n_p3_p5 | exact Ne.symm n_p5_p3 | omega)
      replace F_blockEnd_o := F_blockEnd_o.other W (Or.inl (by first | exact n_o_p5 | exact Ne.symm n_p5_o | omega))
      replace A_p4 := A_p4.other W (by first | exact n_p4_p5 | exact Ne.symm n_p5_p4 | omega)
      replace F_markedEnd_o := F_markedEnd_o.other W (Or.inl (by first | exact n_o_p5 | exact Ne.symm n_p5_o | omega))
      replace F_origin_o := F_origin_o.other W (Or.inl (by first | exact n_o_p5 | exact Ne.symm n_p5_o | omega))
      replace A_p6 := A_p6.other W (by first | exact n_p6_p5 | exact Ne.symm n_p5_p6 | omega)
      replace F_touchedBlocks_o := F_touchedBlocks_o.other W (Or.inl (by first | exact n_o_p5 | exact Ne.symm n_p5_o | omega))
      replace A_p7 := A_p7.other W (by first | exact n_p7_p5 | exact Ne.symm n_p5_p7 | omega)
      replace F_blocks_o := F_blocks_o.other W (Or.inl (by first | exact n_o_p5 | exact Ne.symm n_p5_o | omega))
      replace F_touched_o := F_touched_o.other W (Or.inl (by first | exact n_o_p5 | exact Ne.symm n_p5_o | omega))
      clear W
      replace A_p5 : VA Z h107_5 p5 .int ((lset (row L 5) (lget (row L 2) q) ((lget (row L 5) (lget (row L 2) q)) + (1 : Int32))).map Value.int) := (by rw [lset_map]; exact B)
      refine retv K S (by decide) (by decide) d3_108 ?_
      exact ⟨rfl, by rw [fmark, if_neg c25, if_neg c37]; exact ⟨E_o, F_elements_o, F_positionOf_o, F_blockOf_o, F_blockStart_o, F_blockEnd_o, F_markedEnd_o, F_origin_o, F_touchedBlocks_o, F_blocks_o, F_touched_o, A_p0, A_p1, A_p2, A_p3, A_p4, A_p5, A_p6, A_p7⟩⟩
    refine aload_n K S rfl rfl d3_40 ?_
    refine getf K S (hwi hw 24 rfl) F_touchedBlocks_o d3_41 fun T S => ?_
    refine aload_n K S rfl rfl d3_44 ?_
    refine dup K S rfl d3_45 ?_
    refine getf K S (hwi hw 33 rfl) F_touched_o d3_46 fun T S => ?_
    refine dup_x1 K S rfl rfl d3_49 ?_
    refine iconst K S (x := (1 : Int32)) rfl d3_50 ?_
    refine iadd K S d3_51 ?_
    refine putf K S (hwi hw 33 rfl) F_touched_o E_o (Or.inl (hwi hw 34 rfl)) (hwi hw 1 rfl) (ty := .int) (by decide) rfl rfl g_o d3_52 fun T h52_6 W S => ?_
    replace E_o := E_o.wr W
    replace F_elements_o := F_elements_o.other W (Or.inr (slot_ne (C := "com/example/procsh/procsh/service/Partition") (Or.inr (hwi hw 11 rfl)) (Or.inl (hwi hw 34 rfl)) (by decide) (t := .array .int) (t' := .int) (by decide) (by decide)))
    replace A_p0 := A_p0.other W (by first | exact n_p0_o | exact Ne.symm n_o_p0 | omega)
    replace F_positionOf_o := F_positionOf_o.other W (Or.inr (slot_ne (C := "com/example/procsh/procsh/service/Partition") (Or.inr (hwi hw 13 rfl)) (Or.inl (hwi hw 34 rfl)) (by decide) (t := .array .int) (t' := .int) (by decide) (by decide)))
    replace A_p1 := A_p1.other W (by first | exact n_p1_o | exact Ne.symm n_o_p1 | omega)
    replace F_blockOf_o := F_blockOf_o.other W (Or.inr (slot_ne (C := "com/example/procsh/procsh/service/Partition") (Or.inr (hwi hw 15 rfl)) (Or.inl (hwi hw 34 rfl)) (by decide) (t := .array .int) (t' := .int) (by decide) (by decide)))
    replace A_p2 := A_p2.other W (by first | exact n_p2_o | exact Ne.symm n_o_p2 | omega)
    replace F_blockStart_o := F_blockStart_o.other W (Or.inr (slot_ne (C := "com/example/procsh/procsh/service/Partition") (Or.inr (hwi hw 17 rfl)) (Or.inl (hwi hw 34 rfl)) (by decide) (t := .array .int) (t' := .int) (by decide) (by decide)))
    replace A_p3 := A_p3.other W (by first | exact n_p3_o | exact Ne.symm n_o_p3 | omega)
    replace F_blockEnd_o := F_blockEnd_o.other W (Or.inr (slot_ne (C := "com/example/procsh/procsh/service/Partition") (Or.inr (hwi hw 19 rfl)) (Or.inl (hwi hw 34 rfl)) (by decide) (t := .array .int) (t' := .int) (by decide) (by decide)))
    replace A_p4 := A_p4.other W (by first | exact n_p4_o | exact Ne.symm n_o_p4 | omega)
    replace F_markedEnd_o := F_markedEnd_o.other W (Or.inr (slot_ne (C := "com/example/procsh/procsh/service/Partition") (Or.inr (hwi hw 21 rfl)) (Or.inl (hwi hw 34 rfl)) (by decide) (t := .array .int) (t' := .int) (by decide) (by decide)))
    replace A_p5 := A_p5.other W (by first | exact n_p5_o | exact Ne.symm n_o_p5 | omega)
    replace F_origin_o := F_origin_o.other W (Or.inr (slot_ne (C := "com/example/procsh/procsh/service/Partition") (Or.inr (hwi hw 23 rfl)) (Or.inl (hwi hw 34 rfl)) (by decide) (t := .array .int) (t' := .int) (by decide) (by decide)))
    replace A_p6 := A_p6.other W (by first | exact n_p6_o | exact Ne.symm n_o_p6 | omega)
    replace F_touchedBlocks_o := F_touchedBlocks_o.other W (Or.inr (slot_ne (C := "com/example/procsh/procsh/service/Partition") (Or.inr (hwi hw 25 rfl)) (Or.inl (hwi hw 34 rfl)) (by decide) (t := .array .int) (t' := .int) (by decide) (by decide)))
    replace A_p7 := A_p7.other W (by first | exact n_p7_o | exact Ne.symm n_o_p7 | omega)
    replace F_blocks_o := F_blocks_o.other W (Or.inr (slot_ne (C := "com/example/procsh/procsh/service/Partition") (Or.inl (hwi hw 27 rfl)) (Or.inl (hwi hw 34 rfl)) (by decide) (t := .int) (t' := .int) (by decide) (by decide)))
    replace F_touched_o := F_touched_o.same W
    clear W
    refine iload_n K S rfl d3_55 ?_
    refine iastore K S (i := (L.2.2).toNatClampNeg) A_p7 (linb_ix (show linb (row L 7) (L.2.2) = true from (okm_4 ok c25))) (linb_ml (show linb (row L 7) (L.2.2) = true from (okm_4 ok c25))) g_p7 d3_56 fun T h56_7 W B S => ?_
    replace E_o := E_o.wr W
    replace F_elements_o := F_elements_o.other W (Or.inl (by first | exact n_o_p7 | exact Ne.symm n_p7_o | omega))
    replace A_p0 := A_p0.other W (by first | exact n_p0_p7 | exact Ne.symm n_p7_p0 | omega)
    replace F_positionOf_o := F_positionOf_o.other W (Or.inl (by first | exact n_o_p7 | exact Ne.symm n_p7_o | omega))
    replace A_p1 := A_p1.other W (by first | exact n_p1_p7 | exact Ne.symm n_p7_p1 | omega)
    replace F_blockOf_o := F_blockOf_o.other W (Or.inl (by first | exact n_o_p7 | exact Ne.symm n_p7_o | omega))
    replace A_p2 := A_p2.other W (by first | exact n_p2_p7 | exact Ne.symm n_p7_p2 | omega)
    replace F_blockStart_o := F_blockStart_o.other W (Or.inl (by first | exact n_o_p7 | exact Ne.symm n_p7_o | omega))
    replace A_p3 := A_p3.other W (by first | exact n_p3_p7 | exact Ne.symm n_p7_p3 | omega)
    replace F_blockEnd_o := F_blockEnd_o.other W (Or.inl (by first | exact n_o_p7 | exact Ne.symm n_p7_o | omega))
    replace A_p4 := A_p4.other W (by first | exact n_p4_p7 | exact Ne.symm n_p7_p4 | omega)
    replace F_markedEnd_o := F_markedEnd_o.other W (Or.inl (by first | exact n_o_p7 | exact Ne.symm n_p7_o | omega))
    replace A_p5 := A_p5.other W (by first | exact n_p5_p7 | exact Ne.symm n_p7_p5 | omega)
    replace F_origin_o := F_origin_o.other W (Or.inl (by first | exact n_o_p7 | exact Ne.symm n_p7_o | omega))
    replace A_p6 := A_p6.other W (by first | exact n_p6_p7 | exact Ne.symm n_p7_p6 | omega)
    replace F_touchedBlocks_o := F_touchedBlocks_o.other W (Or.inl (by first | exact n_o_p7 | exact Ne.symm n_p7_o | omega))
    replace F_blocks_o := F_blocks_o.other W (Or.inl (by first | exact n_o_p7 | exact Ne.symm n_p7_o | omega))
    replace F_touched_o := F_touched_o.other W (Or.inl (by first | exact n_o_p7 | exact Ne.symm n_p7_o | omega))
    clear W
    replace A_p7 : VA Z h56_7 p7 .int ((lset (row L 7) (L.2.2) (lget (row L 2) q)).map Value.int) := (by rw [lset_map]; exact B)
    refine aload_n K S rfl rfl d3_57 ?_
    refine getf K S (hwi hw 10 rfl) F_elements_o d3_58 fun T S => ?_
    refine iload K S rfl d3_61 ?_
    refine iaload K S (v := .int (lget (row L 0) (lget (row L 5) (lget (row L 2) q)))) (i := (lget (row L 5) (lget (row L 2) q)).toNatClampNeg) A_p0 (linb_ix (show linb (row L 0) (lget (row L 5) (lget (row L 2) q)) = true from (okm_5 ok c25))) (linb_get (show linb (row L 0) (lget (row L 5) (lget (row L 2) q)) = true from (okm_5 ok c25))) d3_63 ?_
    refine istore K S (l' := #[.val (.ref o), .val (.int q), .val (.int (lget (row L 2) q)), .val (.int (lget (row L 1) q)), .val (.int (lget (row L 5) (lget (row L 2) q))), .val (.int (lget (row L 0) (lget (row L 5) (lget (row L 2) q))))]) rfl d3_64 ?_
    refine aload_n K S rfl rfl d3_66 ?_
    refine getf K S (hwi hw 10 rfl) F_elements_o d3_67 fun T S => ?_
    refine iload_n K S rfl d3_70 ?_
    refine iload K S rfl d3_71 ?_
    refine iastore K S (i := (lget (row L 1) q).toNatClampNeg) A_p0 (linb_ix (show linb (row L 0) (lget (row L 1) q) = true from (okm_6 ok c25))) (linb_ml (show linb (row L 0) (lget (row L 1) q) = true from (okm_6 ok c25))) g_p0 d3_73 fun T h73_8 W B S => ?_
    replace E_o := E_o.wr W
    replace F_elements_o := F_elements_o.other W (Or.inl (by first | exact n_o_p0 | exact Ne.symm n_p0_o | omega))
    replace F_positionOf_o := F_positionOf_o.other W (Or.inl (by first | exact n_o_p0 | exact Ne.symm n_p0_o | omega))
    replace A_p1 := A_p1.other W (by first | exact n_p1_p0 | exact Ne.symm n_p0_p1 | omega)
    replace F_blockOf_o := F_blockOf_o.other W (Or.inl (by first | exact n_o_p0 | exact Ne.symm n_p0_o | omega))
    replace A_p2 := A_p2.other W (by first | exact n_p2_p0 | exact Ne.symm n_p0_p2 | omega)
    replace F_blockStart_o := F_blockStart_o.other W (Or.inl (by first | exact n_o_p0 | exact Ne.symm n_p0_o | omega))
    replace A_p3 := A_p3.other W (by first | exact n_p3_p0 | exact Ne.symm n_p0_p3 | omega)
    replace F_blockEnd_o := F_blockEnd_o.other W (Or.inl (by first | exact n_o_p0 | exact Ne.symm n_p0_o | omega))
    replace A_p4 := A_p4.other W (by first | exact n_p4_p0 | exact Ne.symm n_p0_p4 | omega)
    replace F_markedEnd_o := F_markedEnd_o.other W (Or.inl (by first | exact n_o_p0 | exact Ne.symm n_p0_o | omega))
    replace A_p5 := A_p5.other W (by first | exact n_p5_p0 | exact Ne.symm n_p0_p5 | omega)
    replace F_origin_o := F_origin_o.other W (Or.inl (by first | exact n_o_p0 | exact Ne.symm n_p0_o | omega))
    replace A_p6 := A_p6.other W (by first | exact n_p6_p0 | exact Ne.symm n_p0_p6 | omega)
    replace F_touchedBlocks_o := F_touchedBlocks_o.other W (Or.inl (by first | exact n_o_p0 | exact Ne.symm n_p0_o | omega))
    replace A_p7 := A_p7.other W (by first | exact n_p7_p0 | exact Ne.symm n_p0_p7 | omega)
    replace F_blocks_o := F_blocks_o.other W (Or.inl (by first | exact n_o_p0 | exact Ne.symm n_p0_o | omega))
    replace F_touched_o := F_touched_o.other W (Or.inl (by first | exact n_o_p0 | exact Ne.symm n_p0_o | omega))
    clear W
    replace A_p0 : VA Z h73_8 p0 .int ((lset (row L 0) (lget (row L 1) q) (lget (row L 0) (lget (row L 5) (lget (row L 2) q)))).map Value.int) := (by rw [lset_map]; exact B)
    refine aload_n K S rfl rfl d3_74 ?_
    refine getf K S (hwi hw 12 rfl) F_positionOf_o d3_75 fun T S => ?_
    refine iload K S rfl d3_78 ?_
    refine iload_n K S rfl d3_80 ?_
    refine iastore K S (i := (lget (row L 0) (lget (row L 5) (lget (row L 2) q))).toNatClampNeg) A_p1 (linb_ix (show linb (row L 1) (lget (row L 0) (lget (row L 5) (lget (row L 2) q))) = true from (okm_7 ok c25))) (linb_ml (show linb (row L 1) (lget (row L 0) (lget (row L 5) (lget (row L 2) q))) = true from (okm_7 ok c25))) g_p1 d3_81 fun T h81_9 W B S => ?_
    replace E_o := E_o.wr W
    replace F_elements_o := F_elements_o.other W (Or.inl (by first | exact n_o_p1 | exact Ne.symm n_p1_o | omega))
    replace A_p0 := A_p0.other W (by first | exact n_p0_p1 | exact Ne.symm n_p1_p0 | omega)
    replace F_positionOf_o := F_positionOf_o.other W (Or.inl (by first | exact n_o_p1 | exact Ne.symm n_p1_o | omega))
    replace F_blockOf_o := F_blockOf_o.other W (Or.inl (by first | exact n_o_p1 | exact Ne.symm n_p1_o | omega))
    replace A_p2 := A_p2.other W (by first | exact n_p2_p1 | exact Ne.symm n_p1_p2 | omega)
    replace F_blockStart_o := F_blockStart_o.other W (Or.inl (by first | exact n_o_p1 | exact Ne.symm n_p1_o | omega))
    replace A_p3 := A_p3.other W (by first | exact n_p3_p1 | exact Ne.symm n_p1_p3 | omega)
    replace F_blockEnd_o := F_blockEnd_o.other W (Or.inl (by first | exact n_o_p1 | exact Ne.symm n_p1_o | omega))
    replace A_p4 := A_p4.other W (by first | exact n_p4_p1 | exact Ne.symm n_p1_p4 | omega)
    replace F_markedEnd_o := F_markedEnd_o.other W (Or.inl (by first | exact n_o_p1 | exact Ne.symm n_p1_o | omega))
    replace A_p5 := A_p5.other W (by first | exact n_p5_p1 | exact Ne.symm n_p1_p5 | omega)
    replace F_origin_o := F_origin_o.other W (Or.inl (by first | exact n_o_p1 | exact Ne.symm n_p1_o | omega))
    replace A_p6 := A_p6.other W (by first | exact n_p6_p1 | exact Ne.symm n_p1_p6 | omega)
    replace F_touchedBlocks_o := F_touchedBlocks_o.other W (Or.inl (by first | exact n_o_p1 | exact Ne.symm n_p1_o | omega))
    replace A_p7 := A_p7.other W (by first | exact n_p7_p1 | exact Ne.symm n_p1_p7 | omega)
    replace F_blocks_o := F_blocks_o.other W (Or.inl (by first | exact n_o_p1 | exact Ne.symm n_p1_o | omega))
    replace F_touched_o := F_touched_o.other W (Or.inl (by first | exact n_o_p1 | exact Ne.symm n_p1_o | omega))
    clear W
    replace A_p1 : VA Z h81_9 p1 .int ((lset (row L 1) (lget (row L 0) (lget (row L 5) (lget (row L 2) q))) (lget (row L 1) q)).map Value.int) := (by rw [lset_map]; exact B)
    refine aload_n K S rfl rfl d3_82 ?_
    refine getf K S (hwi hw 10 rfl) F_elements_o d3_83 fun T S => ?_
    refine iload K S rfl d3_86 ?_
    refine iload_n K S rfl d3_88 ?_
    refine iastore K S (i := (lget (row L 5) (lget (row L 2) q)).toNatClampNeg) A_p0 (linb_ix (show linb (lset (row L 0) (lget (row L 1) q) (lget (row L 0) (lget (row L 5) (lget (row L 2) q)))) (lget (row L 5) (lget (row L 2) q)) = true from (linb_set (okm_5 ok c25)))) (linb_ml (show linb (lset (row L 0) (lget (row L 1) q) (lget (row L 0) (lget (row L 5) (lget (row L 2) q)))) (lget (row L 5) (lget (row L 2) q)) = true from (linb_set (okm_5 ok c25)))) g_p0 d3_89 fun T h89_10 W B S => ?_
    replace E_o := E_o.wr W
    replace F_elements_o := F_elements_o.other W (Or.inl (by first | exact n_o_p0 | exact Ne.symm n_p0_o | omega))
    replace F_positionOf_o := F_positionOf_o.other W (Or.inl (by first | exact n_o_p0 | exact Ne.symm n_p0_o | omega))
    replace A_p1 := A_p1.other W (by first | exact n_p1_p0 | exact Ne.symm n_p0_p1 | omega)
    replace F_blockOf_o := F_blockOf_o.other W (Or.inl (by first | exact n_o_p0 | exact Ne.symm n_p0_o | omega))
    replace A_p2 := A_p2.other W (by first | exact n_p2_p0 | exact Ne.symm n_p0_p2 | omega)
    replace F_blockStart_o := F_blockStart_o.other W (Or.inl (by first | exact n_o_p0 | exact Ne.symm n_p0_o | omega))
    replace A_p3 := A_p3.other W (by first | exact n_p3_p0 | exact Ne.symm n_p0_p3 | omega)
    replace F_blockEnd_o := F_blockEnd_o.other W (Or.inl (by first | exact n_o_p0 | exact Ne.symm n_p0_o | omega))
    replace A_p4 := A_p4.other W (by first | exact n_p4_p0 | exact Ne.symm n_p0_p4 | omega)
    replace F_markedEnd_o := F_markedEnd_o.other W (Or.inl (by first | exact n_o_p0 | exact Ne.symm n_p0_o | omega))
    replace A_p5 := A_p5.other W (by first | exact n_p5_p0 | exact Ne.symm n_p0_p5 | omega)
    replace F_origin_o := F_origin_o.other W (Or.inl (by first | exact n_o_p0 | exact Ne.symm n_p0_o | omega))
    replace A_p6 := A_p6.other W (by first | exact n_p6_p0 | exact Ne.symm n_p0_p6 | omega)
    replace F_touchedBlocks_o := F_touchedBlocks_o.other W (Or.inl (by first | exact n_o_p0 | exact Ne.symm n_p0_o | omega))
    replace A_p7 := A_p7.other W (by first | exact n_p7_p0 | exact Ne.symm n_p0_p7 | omega)
    replace F_blocks_o := F_blocks_o.other W (Or.inl (by first | exact n_o_p0 | exact Ne.symm n_p0_o | omega))
    replace F_touched_o := F_touched_o.other W (Or.inl (by first | exact n_o_p0 | exact Ne.symm n_p0_o | omega))
    clear W
    replace A_p0 : VA Z h89_10 p0 .int ((lset (lset (row L 0) (lget (row L 1) q) (lget (row L 0) (lget (row L 5) (lget (row L 2) q)))) (lget (row L 5) (lget (row L 2) q)) q).map Value.int) := (by rw [lset_map]; exact B)
    refine aload_n K S rfl rfl d3_90 ?_
    refine getf K S (hwi hw 12 rfl) F_positionOf_o d3_91 fun T S => ?_
    refine iload_n K S rfl d3_94 ?_
    refine iload K S rfl d3_95 ?_
    refine iastore K S (i := q.toNatClampNeg) A_p1 (linb_ix (show linb (lset (row L 1) (lget (row L 0) (lget (row L 5) (lget (row L 2) q))) (lget (row L 1) q)) q = true from (linb_set ok2))) (linb_ml (show linb (lset (row L 1) (lget (row L 0) (lget (row L 5) (lget (row L 2) q))) (lget (row L 1) q)) q = true from (linb_set ok2))) g_p1 d3_97 fun T h97_11 W B S => ?_
    replace E_o := E_o.wr W
    replace F_elements_o := F_elements_o.other W (Or.inl (by first | exact n_o_p1 | exact Ne.symm n_p1_o | omega))
    replace A_p0 := A_p0.other W (by first | exact n_p0_p1 | exact Ne.symm n_p1_p0 | omega)
    replace F_positionOf_o := F_positionOf_o.other W (Or.inl (by first | exact n_o_p1 | exact Ne.symm n_p1_o | omega))
    replace F_blockOf_o := F_blockOf_o.other W (Or.inl (by first | exact n_o_p1 | exact Ne.symm n_p1_o | omega))
    replace A_p2 := A_p2.other W (by first | exact n_p2_p1 | exact Ne.symm n_p1_p2 | omega)
    replace F_blockStart_o := F_blockStart_o.other W (Or.inl (by first | exact n_o_p1 | exact Ne.symm n_p1_o | omega))
    replace A_p3 := A_p3.other W (by first | exact n_p3_p1 | exact Ne.symm n_p1_p3 | omega)
    replace F_blockEnd_o := F_blockEnd_o.other W (Or.inl (by first | exact n_o_p1 | exact Ne.symm n_p1_o | omega))
    replace A_p4 := A_p4.other W (by first | exact n_p4_p1 | exact Ne.symm n_p1_p4 | omega)
    replace F_markedEnd_o := F_markedEnd_o.other W (Or.inl (by first | exact n_o_p1 | exact Ne.symm n_p1_o | omega))
    replace A_p5 := A_p5.other W (by first | exact n_p5_p1 | exact Ne.symm n_p1_p5 | omega)
    replace F_origin_o := F_origin_o.other W (Or.inl (by first | exact n_o_p1 | exact Ne.symm n_p1_o | omega))
    replace A_p6 := A_p6.other W (by first | exact n_p6_p1 | exact Ne.symm n_p1_p6 | omega)
    replace F_touchedBlocks_o := F_touchedBlocks_o.other W (Or.inl (by first | exact n_o_p1 | exact Ne.symm n_p1_o | omega))
    replace A_p7 := A_p7.other W (by first | exact n_p7_p1 | exact Ne.symm n_p1_p7 | omega)
    replace F_blocks_o := F_blocks_o.other W (Or.inl (by first | exact n_o_p1 | exact Ne.symm n_p1_o | omega))
    replace F_touched_o := F_touched_o.other W (Or.inl (by first | exact n_o_p1 | exact Ne.symm n_p1_o | omega))
    clear W
    replace A_p1 : VA Z h97_11 p1 .int ((lset (lset (row L 1) (lget (row L 0) (lget (row L 5) (lget (row L 2) q))) (lget (row L 1) q)) q (lget (row L 5) (lget (row L 2) q))).map Value.int) := (by rw [lset_map]; exact B)
    refine aload_n K S rfl rfl d3_98 ?_
    refine getf K S (hwi hw 20 rfl) F_markedEnd_o d3_99 fun T S => ?_
    refine iload_n K S rfl d3_102 ?_
    refine iload K S rfl d3_103 ?_
    refine iconst K S (x := (1 : Int32)) rfl d3_105 ?_
    refine iadd K S d3_106 ?_
    refine iastore K S (i := (lget (row L 2) q).toNatClampNeg) A_p5 (linb_ix (show linb (row L 5) (lget (row L 2) q) = true from ok3)) (linb_ml (show linb (row L 5) (lget (row L 2) q) = true from ok3)) g_p5 d3_107 fun T h107_12 W B S => ?_
    replace E_o := E_o.wr W
    replace F_elements_o := F_elements_o.other W (Or.inl (by first | exact n_o_p5 | exact Ne.symm n_p5_o | omega))
    replace A_p0 := A_p0.other W (by first | exact n_p0_p5 | exact Ne.symm n_p5_p0 | omega)
    replace F_positionOf_o := F_positionOf_o.other W (Or.inl (by first | exact n_o_p5 | exact Ne.symm n_p5_o | omega))
    replace A_p1 := A_p1.other W (by first | exact n_p1_p5 | exact Ne.symm n_p5_p1 | omega)
    replace F_blockOf_o := F_blockOf_o.other W (Or.inl (by first | exact n_o_p5 | exact Ne.symm n_p5_o | omega))
    replace A_p2 := A_p2.other W (by first | exact n_p2_p5 | exact Ne.symm n_p5_p2 | omega)
    replace F_blockStart_o := F_blockStart_o.other W (Or.inl (by first | exact n_o_p5 | exact Ne.symm n_p5_o | omega))
    replace A_p3 := A_p3.other W (by first | exact n_p3_p5 | exact Ne.symm n_p5_p3 | omega)
    replace F_blockEnd_o := F_blockEnd_o.other W (Or.inl (by first | exact n_o_p5 | exact Ne.symm n_p5_o | omega))
    replace A_p4 := A_p4.other W (by first | exact n_p4_p5 | exact Ne.symm n_p5_p4 | omega)
    replace F_markedEnd_o := F_markedEnd_o.other W (Or.inl (by first | exact n_o_p5 | exact Ne.symm n_p5_o | omega))
    replace F_origin_o := F_origin_o.other W (Or.inl (by first | exact n_o_p5 | exact Ne.symm n_p5_o | omega))
    replace A_p6 := A_p6.other W (by first | exact n_p6_p5 | exact Ne.symm n_p5_p6 | omega)
    replace F_touchedBlocks_o := F_touchedBlocks_o.other W (Or.inl (by first | exact n_o_p5 | exact Ne.symm n_p5_o | omega))
    replace A_p7 := A_p7.other W (by first | exact n_p7_p5 | exact Ne.symm n_p5_p7 | omega)
    replace F_blocks_o := F_blocks_o.other W (Or.inl (by first | exact n_o_p5 | exact Ne.symm n_p5_o | omega))
    replace F_touched_o := F_touched_o.other W (Or.inl (by first | exact n_o_p5 | exact Ne.symm n_p5_o | omega))
    clear W
    replace A_p5 : VA Z h107_12 p5 .int ((lset (row L 5) (lget (row L 2) q) ((lget (row L 5) (lget (row L 2) q)) + (1 : Int32))).map Value.int) := (by rw [lset_map]; exact B)
    refine retv K S (by decide) (by decide) d3_108 ?_
    exact ⟨rfl, by rw [fmark, if_neg c25, if_pos c37]; exact ⟨E_o, F_elements_o, F_positionOf_o, F_blockOf_o, F_blockStart_o, F_blockEnd_o, F_markedEnd_o, F_origin_o, F_touchedBlocks_o, F_blocks_o, F_touched_o, A_p0, A_p1, A_p2, A_p3, A_p4, A_p5, A_p6, A_p7⟩⟩
  refine retv K S (by decide) (by decide) d3_28 ?_
  exact ⟨rfl, by rw [fmark, if_pos c25]; exact ⟨E_o, F_elements_o, F_positionOf_o, F_blockOf_o, F_blockStart_o, F_blockEnd_o, F_markedEnd_o, F_origin_o, F_touchedBlocks_o, F_blocks_o, F_touched_o, A_p0, A_p1, A_p2, A_p3, A_p4, A_p5, A_p6, A_p7⟩⟩

theorem okA_1 {L : PS} {k bd : Int32} (h : okA L k bd = true) : linb (row L 3) k = true := by
  simp only [okA, Bool.and_eq_true] at h; exact h.1.1.1.1.1.1.1.1.1
theorem okA_2 {L : PS} {k bd : Int32} (h : okA L k bd = true) : linb (row L 3) L.2.1 = true := by
  simp only [okA, Bool.and_eq_true] at h; exact h.1.1.1.1.1.1.1.1.2
theorem okA_3 {L : PS} {k bd : Int32} (h : okA L k bd = true) : linb (row L 4) L.2.1 = true := by
  simp only [okA, Bool.and_eq_true] at h; exact h.1.1.1.1.1.1.1.2
theorem okA_4 {L : PS} {k bd : Int32} (h : okA L k bd = true) : linb (row L 5) L.2.1 = true := by
  simp only [okA, Bool.and_eq_true] at h; exact h.1.1.1.1.1.1.2
theorem okA_5 {L : PS} {k bd : Int32} (h : okA L k bd = true) : linb (row L 6) L.2.1 = true := by
  simp only [okA, Bool.and_eq_true] at h; exact h.1.1.1.1.1.2
theorem okA_6 {L : PS} {k bd : Int32} (h : okA L k bd = true) : linb (sb1 L k) L.2.1 = true := by
  simp only [okA, Bool.and_eq_true] at h; exact h.1.1.1.1.2
theorem okA_7 {L : PS} {k bd : Int32} (h : okA L k bd = true) : linb (sb1 L k) k = true := by
  simp only [okA, Bool.and_eq_true] at h; exact h.1.1.1.2
theorem okA_8 {L : PS} {k bd : Int32} (h : okA L k bd = true) : linb (lset (sb1 L k) k bd) k = true := by
  simp only [okA, Bool.and_eq_true] at h; exact h.1.1.2
theorem okA_9 {L : PS} {k bd : Int32} (h : okA L k bd = true) : linb (lset (row L 5) L.2.1 (lget (sb1 L k) L.2.1)) k = true := by
  simp only [okA, Bool.and_eq_true] at h; exact h.1.2
theorem okA_10 {L : PS} {k bd : Int32} (h : okA L k bd = true) : okinn 8 (row L 0) L.2.1 (lget (sb1 L k) L.2.1) bd (row L 2) = true := by
  simp only [okA, Bool.and_eq_true] at h; exact h.2
theorem oks_1 {L : PS} {i : Int32} (h : okstep L i = true) : linb (row L 7) i = true ∧ linb (row L 5) (lget (row L 7) i) = true ∧ linb (row L 4) (lget (row L 7) i) = true := by
  simp only [okstep, Bool.and_eq_true] at h; exact ⟨h.1.1.1, h.1.1.2, h.1.2⟩
theorem oks_2 {L : PS} {i : Int32} (h : okstep L i = true) (c : lget (row L 5) (lget (row L 7) i) < lget (row L 4) (lget (row L 7) i)) : okA L (lget (row L 7) i) (lget (row L 5) (lget (row L 7) i)) = true := by
  simp only [okstep, Bool.and_eq_true, c, if_true] at h; exact h.2
theorem oks_3 {L : PS} {i : Int32} (h : okstep L i = true) (c : ¬ lget (row L 5) (lget (row L 7) i) < lget (row L 4) (lget (row L 7) i)) : linb (row L 3) (lget (row L 7) i) = true := by
  simp only [okstep, Bool.and_eq_true, c, if_false] at h; exact h.2
theorem d4_0 : Dc prog_68_method_10_code 0 (.iconst 0) 1 1 := ⟨by decide +kernel, rfl⟩
theorem d4_1 : Dc prog_68_method_10_code 1 (.istore_n 1) 1 2 := ⟨by decide +kernel, rfl⟩
theorem d4_2 : Dc prog_68_method_10_code 2 (.iload_n 1) 1 3 := ⟨by decide +kernel, rfl⟩
theorem d4_3 : Dc prog_68_method_10_code 3 (.aload_n 0) 1 4 := ⟨by decide +kernel, rfl⟩
theorem d4_4 : Dc prog_68_method_10_code 4 (.getfield 38) 3 7 := ⟨by decide +kernel, rfl⟩
theorem d4_7 : Bc prog_68_method_10_code 7 (.if_icmp .ge 143) (143) 10 150 := ⟨by decide +kernel, rfl, by decide, by decide⟩
theorem d4_10 : Dc prog_68_method_10_code 10 (.aload_n 0) 1 11 := ⟨by decide +kernel, rfl⟩
theorem d4_11 : Dc prog_68_method_10_code 11 (.getfield 31) 3 14 := ⟨by decide +kernel, rfl⟩
theorem d4_14 : Dc prog_68_method_10_code 14 (.iload_n 1) 1 15 := ⟨by decide +kernel, rfl⟩
theorem d4_15 : Dc prog_68_method_10_code 15 (.iaload) 1 16 := ⟨by decide +kernel, rfl⟩
theorem d4_16 : Dc prog_68_method_10_code 16 (.istore_n 2) 1 17 := ⟨by decide +kernel, rfl⟩
theorem d4_17 : Dc prog_68_method_10_code 17 (.aload_n 0) 1 18 := ⟨by decide +kernel, rfl⟩
theorem d4_18 : Dc prog_68_method_10_code 18 (.getfield 25) 3 21 := ⟨by decide +kernel, rfl⟩
theorem d4_21 : Dc prog_68_method_10_code 21 (.iload_n 2) 1 22 := ⟨by decide +kernel, rfl⟩
theorem d4_22 : Dc prog_68_method_10_code 22 (.iaload) 1 23 := ⟨by decide +kernel, rfl⟩
theorem d4_23 : Dc prog_68_method_10_code 23 (.istore_n 3) 1 24 := ⟨by decide +kernel, rfl⟩
theorem d4_24 : Dc prog_68_method_10_code 24 (.iload_n 3) 1 25 := ⟨by decide +kernel, rfl⟩
theorem d4_25 : Dc prog_68_method_10_code 25 (.aload_n 0) 1 26 := ⟨by decide +kernel, rfl⟩
theorem d4_26 : Dc prog_68_method_10_code 26 (.getfield 22) 3 29 := ⟨by decide +kernel, rfl⟩
theorem d4_29 : Dc prog_68_method_10_code 29 (.iload_n 2) 1 30 := ⟨by decide +kernel, rfl⟩
theorem d4_30 : Dc prog_68_method_10_code 30 (.iaload) 1 31 := ⟨by decide +kernel, rfl⟩
theorem d4_31 : Bc prog_68_method_10_code 31 (.if_icmp .ge 101) (101) 34 132 := ⟨by decide +kernel, rfl, by decide, by decide⟩
theorem d4_34 : Dc prog_68_method_10_code 34 (.aload_n 0) 1 35 := ⟨by decide +kernel, rfl⟩
theorem d4_35 : Dc prog_68_method_10_code 35 (.dup) 1 36 := ⟨by decide +kernel, rfl⟩
theorem d4_36 : Dc prog_68_method_10_code 36 (.getfield 34) 3 39 := ⟨by decide +kernel, rfl⟩
theorem d4_39 : Dc prog_68_method_10_code 39 (.dup_x1) 1 40 := ⟨by decide +kernel, rfl⟩
theorem d4_40 : Dc prog_68_method_10_code 40 (.iconst 1) 1 41 := ⟨by decide +kernel, rfl⟩
theorem d4_41 : Dc prog_68_method_10_code 41 (.iadd) 1 42 := ⟨by decide +kernel, rfl⟩
theorem d4_42 : Dc prog_68_method_10_code 42 (.putfield 34) 3 45 := ⟨by decide +kernel, rfl⟩
theorem d4_45 : Dc prog_68_method_10_code 45 (.istore 4) 2 47 := ⟨by decide +kernel, rfl⟩
theorem d4_47 : Dc prog_68_method_10_code 47 (.aload_n 0) 1 48 := ⟨by decide +kernel, rfl⟩
theorem d4_48 : Dc prog_68_method_10_code 48 (.getfield 19) 3 51 := ⟨by decide +kernel, rfl⟩
theorem d4_51 : Dc prog_68_method_10_code 51 (.iload 4) 2 53 := ⟨by decide +kernel, rfl⟩
theorem d4_53 : Dc prog_68_method_10_code 53 (.aload_n 0) 1 54 := ⟨by decide +kernel, rfl⟩
theorem d4_54 : Dc prog_68_method_10_code 54 (.getfield 19) 3 57 := ⟨by decide +kernel, rfl⟩
theorem d4_57 : Dc prog_68_method_10_code 57 (.iload_n 2) 1 58 := ⟨by decide +kernel, rfl⟩
theorem d4_58 : Dc prog_68_method_10_code 58 (.iaload) 1 59 := ⟨by decide +kernel, rfl⟩
theorem d4_59 : Dc prog_68_method_10_code 59 (.iastore) 1 60 := ⟨by decide +kernel, rfl⟩
theorem d4_60 : Dc prog_68_method_10_code 60 (.aload_n 0) 1 61 := ⟨by decide +kernel, rfl⟩
theorem d4_61 : Dc prog_68_method_10_code 61 (.getfield 22) 3 64 := ⟨by decide +kernel, rfl⟩
theorem d4_64 : Dc prog_68_method_10_code 64 (.iload 4) 2 66 := ⟨by decide +kernel, rfl⟩
theorem d4_66 : Dc prog_68_method_10_code 66 (.iload_n 3) 1 67 := ⟨by decide +kernel, rfl⟩
theorem d4_67 : Dc prog_68_method_10_code 67 (.iastore) 1 68 := ⟨by decide +kernel, rfl⟩
theorem d4_68 : Dc prog_68_method_10_code 68 (.aload_n 0) 1 69 := ⟨by decide +kernel, rfl⟩
theorem d4_69 : Dc prog_68_method_10_code 69 (.getfield 25) 3 72 := ⟨by decide +kernel, rfl⟩
theorem d4_72 : Dc prog_68_method_10_code 72 (.iload 4) 2 74 := ⟨by decide +kernel, rfl⟩
theorem d4_74 : Dc prog_68_method_10_code 74 (.aload_n 0) 1 75 := ⟨by decide +kernel, rfl⟩
theorem d4_75 : Dc prog_68_method_10_code 75 (.getfield 19) 3 78 := ⟨by decide +kernel, rfl⟩
theorem d4_78 : Dc prog_68_method_10_code 78 (.iload 4) 2 80 := ⟨by decide +kernel, rfl⟩
theorem d4_80 : Dc prog_68_method_10_code 80 (.iaload) 1 81 := ⟨by decide +kernel, rfl⟩
theorem d4_81 : Dc prog_68_method_10_code 81 (.iastore) 1 82 := ⟨by decide +kernel, rfl⟩
theorem d4_82 : Dc prog_68_method_10_code 82 (.aload_n 0) 1 83 := ⟨by decide +kernel, rfl⟩
theorem d4_83 : Dc prog_68_method_10_code 83 (.getfield 28) 3 86 := ⟨by decide +kernel, rfl⟩
theorem d4_86 : Dc prog_68_method_10_code 86 (.iload 4) 2 88 := ⟨by decide +kernel, rfl⟩
theorem d4_88 : Dc prog_68_method_10_code 88 (.iload_n 2) 1 89 := ⟨by decide +kernel, rfl⟩
theorem d4_89 : Dc prog_68_method_10_code 89 (.iastore) 1 90 := ⟨by decide +kernel, rfl⟩
theorem d4_90 : Dc prog_68_method_10_code 90 (.aload_n 0) 1 91 := ⟨by decide +kernel, rfl⟩
theorem d4_91 : Dc prog_68_method_10_code 91 (.getfield 19) 3 94 := ⟨by decide +kernel, rfl⟩
theorem d4_94 : Dc prog_68_method_10_code 94 (.iload 4) 2 96 := ⟨by decide +kernel, rfl⟩
theorem d4_96 : Dc prog_68_method_10_code 96 (.iaload) 1 97 := ⟨by decide +kernel, rfl⟩
theorem d4_97 : Dc prog_68_method_10_code 97 (.istore 5) 2 99 := ⟨by decide +kernel, rfl⟩
theorem d4_99 : Dc prog_68_method_10_code 99 (.iload 5) 2 101 := ⟨by decide +kernel, rfl⟩
theorem d4_101 : Dc prog_68_method_10_code 101 (.iload_n 3) 1 102 := ⟨by decide +kernel, rfl⟩
theorem d4_102 : Bc prog_68_method_10_code 102 (.if_icmp .ge 23) (23) 105 125 := ⟨by decide +kernel, rfl, by decide, by decide⟩
theorem d4_105 : Dc prog_68_method_10_code 105 (.aload_n 0) 1 106 := ⟨by decide +kernel, rfl⟩
theorem d4_106 : Dc prog_68_method_10_code 106 (.getfield 16) 3 109 := ⟨by decide +kernel, rfl⟩
theorem d4_109 : Dc prog_68_method_10_code 109 (.aload_n 0) 1 110 := ⟨by decide +kernel, rfl⟩
theorem d4_110 : Dc prog_68_method_10_code 110 (.getfield 7) 3 113 := ⟨by decide +kernel, rfl⟩
theorem d4_113 : Dc prog_68_method_10_code 113 (.iload 5) 2 115 := ⟨by decide +kernel, rfl⟩
theorem d4_115 : Dc prog_68_method_10_code 115 (.iaload) 1 116 := ⟨by decide +kernel, rfl⟩
theorem d4_116 : Dc prog_68_method_10_code 116 (.iload 4) 2 118 := ⟨by decide +kernel, rfl⟩
theorem d4_118 : Dc prog_68_method_10_code 118 (.iastore) 1 119 := ⟨by decide +kernel, rfl⟩
theorem d4_119 : Dc prog_68_method_10_code 119 (.iinc 5 1) 3 122 := ⟨by decide +kernel, rfl⟩
theorem d4_122 : Bc prog_68_method_10_code 122 (.goto (-23)) (-23) 125 99 := ⟨by decide +kernel, rfl, by decide, by decide⟩
theorem d4_125 : Dc prog_68_method_10_code 125 (.aload_n 0) 1 126 := ⟨by decide +kernel, rfl⟩
theorem d4_126 : Dc prog_68_method_10_code 126 (.getfield 19) 3 129 := ⟨by decide +kernel, rfl⟩
theorem d4_129 : Dc prog_68_method_10_code 129 (.iload_n 2) 1 130 := ⟨by decide +kernel, rfl⟩
theorem d4_130 : Dc prog_68_method_10_code 130 (.iload_n 3) 1 131 := ⟨by decide +kernel, rfl⟩
theorem d4_131 : Dc prog_68_method_10_code 131 (.iastore) 1 132 := ⟨by decide +kernel, rfl⟩
theorem d4_132 : Dc prog_68_method_10_code 132 (.aload_n 0) 1 133 := ⟨by decide +kernel, rfl⟩
theorem d4_133 : Dc prog_68_method_10_code 133 (.getfield 25) 3 136 := ⟨by decide +kernel, rfl⟩
theorem d4_136 : Dc prog_68_method_10_code 136 (.iload_n 2) 1 137 := ⟨by decide +kernel, rfl⟩
theorem d4_137 : Dc prog_68_method_10_code 137 (.aload_n 0) 1 138 := ⟨by decide +kernel, rfl⟩
theorem d4_138 : Dc prog_68_method_10_code 138 (.getfield 19) 3 141 := ⟨by decide +kernel, rfl⟩
theorem d4_141 : Dc prog_68_method_10_code 141 (.iload_n 2) 1 142 := ⟨by decide +kernel, rfl⟩
theorem d4_142 : Dc prog_68_method_10_code 142 (.iaload) 1 143 := ⟨by decide +kernel, rfl⟩
theorem d4_143 : Dc prog_68_method_10_code 143 (.iastore) 1 144 := ⟨by decide +kernel, rfl⟩
theorem d4_144 : Dc prog_68_method_10_code 144 (.iinc 1 1) 3 147 := ⟨by decide +kernel, rfl⟩
theorem d4_147 : Bc prog_68_method_10_code 147 (.goto (-145)) (-145) 150 2 := ⟨by decide +kernel, rfl, by decide, by decide⟩
theorem d4_150 : Dc prog_68_method_10_code 150 (.aload_n 0) 1 151 := ⟨by decide +kernel, rfl⟩
theorem d4_151 : Dc prog_68_method_10_code 151 (.iconst 0) 1 152 := ⟨by decide +kernel, rfl⟩
theorem d4_152 : Dc prog_68_method_10_code 152 (.putfield 38) 3 155 := ⟨by decide +kernel, rfl⟩
theorem d4_155 : Dc prog_68_method_10_code 155 (.return_) 1 156 := ⟨by decide +kernel, rfl⟩
theorem ef_split (m : MethodId) (o : Addr) (p0 : Addr) (p1 : Addr) (p2 : Addr) (p3 : Addr) (p4 : Addr) (p5 : Addr) (p6 : Addr) (p7 : Addr) (L9 : PS) : entryFrame m #[.ref o] 6 = mkF m 0 #[.val (.ref o), .unset, .unset, .unset, .unset, .unset] [] := by first | (simp [entryFrame, mkF, argsToLocals, Value.category]; done) | rfl
set_option maxRecDepth 65536 in
set_option maxHeartbeats 40000000 in
theorem m_split (l : Launch) (Z : State) (a0 : Array Value) (hw : ∀ d ∈ tables_1, d.before a0 Z = true) (n0 : Nat) (o : Addr) (p0 : Addr) (p1 : Addr) (p2 : Addr) (p3 : Addr) (p4 : Addr) (p5 : Addr) (p6 : Addr) (p7 : Addr) (L9 : PS) (h : Heap) (hn : n0 ≤ h.size) (D : AD n0 o p0 p1 p2 p3 p4 p5 p6 p7) (H : PK Z h o p0 p1 p2 p3 p4 p5 p6 p7 L9) (ok : okout 8 L9 0 = true) : Met n0 l Z (⟨"com/example/procsh/procsh/service/Partition", "splitMarked", "()V"⟩ : MethodName) prog_68_method_10_code 6 none ({ frames := 0, cells := 0, slots := 0, locals := 0 } : Room) [] #[.ref o] h (Ef none (fun h' => PK Z h' o p0 p1 p2 p3 p4 p5 p6 p7 (fspl L9))) := by
  refine enter (plainFor_of_name (by first | (simp [plainName, overriddenIn]; done) | decide +kernel)) (fun m => ef_split m o p0 p1 p2 p3 p4 p5 p6 p7 L9) hn ?_
  intro p e s m below meth c T K S
  obtain ⟨g_o, w0, w1, w2, w3, w4, w5, w6, w7⟩ := D
  have g_p0 : n0 ≤ p0 := by omega
  have g_p1 : n0 ≤ p1 := by omega
  have g_p2 : n0 ≤ p2 := by omega
  have g_p3 : n0 ≤ p3 := by omega
  have g_p4 : n0 ≤ p4 := by omega
  have g_p5 : n0 ≤ p5 := by omega
  have g_p6 : n0 ≤ p6 := by omega
  have g_p7 : n0 ≤ p7 := by omega
  have n_o_p0 : o ≠ p0 := Nat.ne_of_lt (by omega)
  have n_o_p1 : o ≠ p1 := Nat.ne_of_lt (by omega)
  have n_o_p2 : o ≠ p2 := Nat.ne_of_lt (by omega)
  have n_o_p3 : o ≠ p3 := Nat.ne_of_lt (by omega)
  have n_o_p4 : o ≠ p4 := Nat.ne_of_lt (by omega)
  have n_o_p5 : o ≠ p5 := Nat.ne_of_lt (by omega)
  have n_o_p6 : o ≠ p6 := Nat.ne_of_lt (by omega)
  have n_o_p7 : o ≠ p7 := Nat.ne_of_lt (by omega)
  have n_p0_p1 : p0 ≠ p1 := Nat.ne_of_lt (by omega)
  have n_p0_p2 : p0 ≠ p2 := Nat.ne_of_lt (by omega)
  have n_p0_p3 : p0 ≠ p3 := Nat.ne_of_lt (by omega)
  have n_p0_p4 : p0 ≠ p4 := Nat.ne_of_lt (by omega)
  have n_p0_p5 : p0 ≠ p5 := Nat.ne_of_lt (by omega)
  have n_p0_p6 : p0 ≠ p6 := Nat.ne_of_lt (by omega)
  have n_p0_p7 : p0 ≠ p7 := Nat.ne_of_lt (by omega)
  have n_p1_p2 : p1 ≠ p2 := Nat.ne_of_lt (by omega)
  have n_p1_p3 : p1 ≠ p3 := Nat.ne_of_lt (by omega)
  have n_p1_p4 : p1 ≠ p4 := Nat.ne_of_lt (by omega)
  have n_p1_p5 : p1 ≠ p5 := Nat.ne_of_lt (by omega)
  have n_p1_p6 : p1 ≠ p6 := Nat.ne_of_lt (by omega)
  have n_p1_p7 : p1 ≠ p7 := Nat.ne_of_lt (by omega)
  have n_p2_p3 : p2 ≠ p3 := Nat.ne_of_lt (by omega)
  have n_p2_p4 : p2 ≠ p4 := Nat.ne_of_lt (by omega)
  have n_p2_p5 : p2 ≠ p5 := Nat.ne_of_lt (by omega)
  have n_p2_p6 : p2 ≠ p6 := Nat.ne_of_lt (by omega)
  have n_p2_p7 : p2 ≠ p7 := Nat.ne_of_lt (by omega)
  have n_p3_p4 : p3 ≠ p4 := Nat.ne_of_lt (by omega)
  have n_p3_p5 : p3 ≠ p5 := Nat.ne_of_lt (by omega)
  have n_p3_p6 : p3 ≠ p6 := Nat.ne_of_lt (by omega)
  have n_p3_p7 : p3 ≠ p7 := Nat.ne_of_lt (by omega)
  have n_p4_p5 : p4 ≠ p5 := Nat.ne_of_lt (by omega)
  have n_p4_p6 : p4 ≠ p6 := Nat.ne_of_lt (by omega)
  have n_p4_p7 : p4 ≠ p7 := Nat.ne_of_lt (by omega)
  have n_p5_p6 : p5 ≠ p6 := Nat.ne_of_lt (by omega)
  have n_p5_p7 : p5 ≠ p7 := Nat.ne_of_lt (by omega)
  have n_p6_p7 : p6 ≠ p7 := Nat.ne_of_lt (by omega)
  have loop : ∀ (d : Nat) (L : PS) (i : Int32) (s2 s3 s4 s5 : Slot) (hc : Heap) (T : State), St n0 p l e ({ frames := 0, cells := 0, slots := 0, locals := 0 } : Room) s m #[.ref o] below meth c 0 0 hc T → One s2 → One s3 → One s4 → One s5 → okout d L i = true → PK Z hc o p0 p1 p2 p3 p4 p5 p6 p7 L → (∀ (L' : PS) (s1 s2 s3 s4 s5 : Slot) (hc : Heap) (T : State), L' = fout d L i → St n0 p l e ({ frames := 0, cells := 0, slots := 0, locals := 0 } : Room) s m #[.ref o] below meth c 0 0 hc T → PK Z hc o p0 p1 p2 p3 p4 p5 p6 p7 L' → Wp n0 p e ({ frames := 0, cells := 0, slots := 0, locals := 0 } : Room) s below (Ef none (fun h' => PK Z h' o p0 p1 p2 p3 p4 p5 p6 p7 (fspl L9))) T (mkF m 150 #[.val (.ref o), s1, s2, s3, s4, s5] [])) → Wp n0 p e ({ frames := 0, cells := 0, slots := 0, locals := 0 } : Room) s below (Ef none (fun h' => PK Z h' o p0 p1 p2 p3 p4 p5 p6 p7 (fspl L9))) T (mkF m 2 #[.val (.ref o), .val (.int i), s2, s3, s4, s5] []) := by
    intro d
    induction d with
    | zero => intro L i s2 s3 s4 s5 hc T S o_s2 o_s3 o_s4 o_s5 ok; cases ok
    | succ d ih =>
      intro L i s2 s3 s4 s5 hc T S o_s2 o_s3 o_s4 o_s5 ok H done
      have H0 := H
      obtain ⟨E_o, F_elements_o, F_positionOf_o, F_blockOf_o, F_blockStart_o, F_blockEnd_o, F_markedEnd_o, F_origin_o, F_touchedBlocks_o, F_blocks_o, F_touched_o, A_p0, A_p1, A_p2, A_p3, A_p4, A_p5, A_p6, A_p7⟩ := H
      refine iload_n K S rfl d4_2 ?_
      refine aload_n K S rfl rfl d4_3 ?_
      refine getf K S (hwi hw 33 rfl) F_touched_o d4_4 fun T S => ?_
      refine icmp_ge K S d4_7 (fun c7 => ?_) (fun c7 => ?_)
      · exact done L _ _ _ _ _ _ T (by rw [fout, if_neg c7]) S H0
      rw [okout, if_pos c7, Bool.and_eq_true] at ok
      obtain ⟨ok, okn⟩ := ok
      obtain ⟨k1, k2, k3⟩ := oks_1 ok
      refine aload_n K S rfl rfl d4_10 ?_
      refine getf K S (hwi hw 24 rfl) F_touchedBlocks_o d4_11 fun T S => ?_
      refine iload_n K S rfl d4_14 ?_
      refine iaload K S (v := .int (lget (row L 7) i)) (i := i.toNatClampNeg) A_p7 (linb_ix (show linb (row L 7) i = true from k1)) (linb_get (show linb (row L 7) i = true from k1)) d4_15 ?_
      refine istore_n K S (l' := #[.val (.ref o), .val (.int i), .val (.int (lget (row L 7) i)), s3, s4, s5]) (stO o_s2 rfl rfl rfl) d4_16 ?_
      refine aload_n K S rfl rfl d4_17 ?_
      refine getf K S (hwi hw 20 rfl) F_markedEnd_o d4_18 fun T S => ?_
      refine iload_n K S rfl d4_21 ?_
      refine iaload K S (v := .int (lget (row L 5) (lget (row L 7) i))) (i := (lget (row L 7) i).toNatClampNeg) A_p5 (linb_ix (show linb (row L 5) (lget (row L 7) i) = true from k2)) (linb_get (show linb (row L 5) (lget (row L 7) i) = true from k2)) d4_22 ?_
      refine istore_n K S (l' := #[.val (.ref o), .val (.int i), .val (.int (lget (row L 7) i)), .val (.int (lget (row L 5) (lget (row L 7) i))), s4, s5]) (stO o_s3 rfl rfl rfl) d4_23 ?_
      refine iload_n K S rfl d4_24 ?_
      refine aload_n K S rfl rfl d4_25 ?_
      refine getf K S (hwi hw 18 rfl) F_blockEnd_o d4_26 fun T S => ?_
      refine iload_n K S rfl d4_29 ?_
      refine iaload K S (v := .int (lget (row L 4) (lget (row L 7) i))) (i := (lget (row L 7) i).toNatClampNeg) A_p4 (linb_ix (show linb (row L 4) (lget (row L 7) i) = true from k3)) (linb_get (show linb (row L 4) (lget (row L 7) i) = true from k3)) d4_30 ?_
      refine icmp_ge K S d4_31 (fun c31 => ?_) (fun c31 => ?_)
      · refine aload_n K S rfl rfl d4_132 ?_
        refine getf K S (hwi hw 20 rfl) F_markedEnd_o d4_133 fun T S => ?_
        refine iload_n K S rfl d4_136 ?_
        refine aload_n K S rfl rfl d4_137 ?_
        refine getf K S (hwi hw 16 rfl) F_blockStart_o d4_138 fun T S => ?_
        refine iload_n K S rfl d4_141 ?_
        refine iaload K S (v := .int (lget (row L 3) (lget (row L 7) i))) (i := (lget (row L 7) i).toNatClampNeg) A_p3 (linb_ix (show linb (row L 3) (lget (row L 7) i) = true from (oks_3 ok c31))) (linb_get (show linb (row L 3) (lget (row L 7) i) = true from (oks_3 ok c31))) d4_142 ?_
        refine iastore K S (i := (lget (row L 7) i).toNatClampNeg) A_p5 (linb_ix (show linb (row L 5) (lget (row L 7) i) = true from k2)) (linb_ml (show linb (row L 5) (lget (row L 7) i) = true from k2)) g_p5 d4_143 fun T h143_1 W B S => ?_
        replace E_o := E_o.wr W
        replace F_elements_o := F_elements_o.other W (Or.inl (by first | exact n_o_p5 | exact Ne.symm n_p5_o | omega))
        replace A_p0 := A_p0.other W (by first | exact n_p0_p5 | exact Ne.symm n_p5_p0 | omega)
        replace F_positionOf_o := F_positionOf_o.other W (Or.inl (by first | exact n_o_p5 | exact Ne.symm n_p5_o | omega))
        replace A_p1 := A_p1.other W (by first | exact n_p1_p5 | exact Ne.symm n_p5_p1 | omega)
        replace F_blockOf_o := F_blockOf_o.other W (Or.inl (by first | exact n_o_p5 | exact Ne.symm n_p5_o | omega))
        replace A_p2 := A_p2.other W (by first | exact n_p2_p5 | exact Ne.symm n_p5_p2 | omega)
        replace F_blockStart_o := F_blockStart_o.other W (Or.inl (by first | exact n_o_p5 | exact Ne.symm n_p5_o | omega))
        replace A_p3 := A_p3.other W (by first | exact n_p3_p5 | exact Ne.symm n_p5_p3 | omega)
        replace F_blockEnd_o := F_blockEnd_o.other W (Or.inl (by first | exact n_o_p5 | exact Ne.symm n_p5_o | omega))
        replace A_p4 := A_p4.other W (by first | exact n_p4_p5 | exact Ne.symm n_p5_p4 | omega)
        replace F_markedEnd_o := F_markedEnd_o.other W (Or.inl (by first | exact n_o_p5 | exact Ne.symm n_p5_o | omega))
        replace F_origin_o := F_origin_o.other W (Or.inl (by first | exact n_o_p5 | exact Ne.symm n_p5_o | omega))
        replace A_p6 := A_p6.other W (by first | exact n_p6_p5 | exact Ne.symm n_p5_p6 | omega)
        replace F_touchedBlocks_o := F_touchedBlocks_o.other W (Or.inl (by first | exact n_o_p5 | exact Ne.symm n_p5_o | omega))
        replace A_p7 := A_p7.other W (by first | exact n_p7_p5 | exact Ne.symm n_p5_p7 | omega)
        replace F_blocks_o := F_blocks_o.other W (Or.inl (by first | exact n_o_p5 | exact Ne.symm n_p5_o | omega))
        replace F_touched_o := F_touched_o.other W (Or.inl (by first | exact n_o_p5 | exact Ne.symm n_p5_o | omega))
        clear W
        replace A_p5 : VA Z h143_1 p5 .int ((lset (row L 5) (lget (row L 7) i) (lget (row L 3) (lget (row L 7) i))).map Value.int) := (by rw [lset_map]; exact B)
        refine iinc K S (y := (1 : Int32)) (x := i) (l' := #[.val (.ref o), .val (.int (i + (1 : Int32))), .val (.int (lget (row L 7) i)), .val (.int (lget (row L 5) (lget (row L 7) i))), s4, s5]) rfl rfl rfl d4_144 ?_
        obtain ⟨v144, hv144⟩ : ∃ z, z = i + (1 : Int32) := ⟨_, rfl⟩
        rw [← hv144]
        refine goto K S d4_147 ?_
        have eS : fstep L i = (fsB L (lget (row L 7) i)) := (by rw [fstep, if_neg c31])
        rw [eS, ← hv144] at okn
        refine ih (fsB L (lget (row L 7) i)) v144 (.val (.int (lget (row L 7) i))) (.val (.int (lget (row L 5) (lget (row L 7) i)))) (s4) (s5) h143_1 T S (One.val rfl) (One.val rfl) o_s4 o_s5 okn ⟨E_o, F_elements_o, F_positionOf_o, F_blockOf_o, F_blockStart_o, F_blockEnd_o, F_markedEnd_o, F_origin_o, F_touchedBlocks_o, F_blocks_o, F_touched_o, A_p0, A_p1, A_p2, A_p3, A_p4, A_p5, A_p6, A_p7⟩ (fun L' s1 s2 s3 s4 s5 hc T eL S H => done L' s1 s2 s3 s4 s5 hc T ?_ S H)
        rw [fout, if_pos c7, eS, ← hv144]; exact eL
      have oka := oks_2 ok c31
      refine aload_n K S rfl rfl d4_34 ?_
      refine dup K S rfl d4_35 ?_
      refine getf K S (hwi hw 26 rfl) F_blocks_o d4_36 fun T S => ?_
      refine dup_x1 K S rfl rfl d4_39 ?_
      refine iconst K S (x := (1 : Int32)) rfl d4_40 ?_
      refine iadd K S d4_41 ?_
      refine putf K S (hwi hw 26 rfl) F_blocks_o E_o (Or.inl (hwi hw 27 rfl)) (hwi hw 1 rfl) (ty := .int) (by decide) rfl rfl g_o d4_42 fun T h42_2 W S => ?_
      replace E_o := E_o.wr W
      replace F_elements_o := F_elements_o.other W (Or.inr (slot_ne (C := "com/example/procsh/procsh/service/Partition") (Or.inr (hwi hw 11 rfl)) (Or.inl (hwi hw 27 rfl)) (by decide) (t := .array .int) (t' := .int) (by decide) (by decide)))
      replace A_p0 := A_p0.other W (by first | exact n_p0_o | exact Ne.symm n_o_p0 | omega)
      replace F_positionOf_o := F_positionOf_o.other W (Or.inr (slot_ne (C := "com/example/procsh/procsh/service/Partition") (Or.inr (hwi hw 13 rfl)) (Or.inl (hwi hw 27 rfl)) (by decide) (t := .array .int) (t' := .int) (by decide) (by decide)))
      replace A_p1 := A_p1.other W (by first | exact n_p1_o | exact Ne.symm n_o_p1 | omega)
      replace F_blockOf_o := F_blockOf_o.other W (Or.inr (slot_ne (C := "com/example/procsh/procsh/service/Partition") (Or.inr (hwi hw 15 rfl)) (Or.inl (hwi hw 27 rfl)) (by decide) (t := .array .int) (t' := .int) (by decide) (by decide)))
      replace A_p2 := A_p2.other W (by first | exact n_p2_o | exact Ne.symm n_o_p2 | omega)
      replace F_blockStart_o := F_blockStart_o.other W (Or.inr (slot_ne (C := "com/example/procsh/procsh/service/Partition") (Or.inr (hwi hw 17 rfl)) (Or.inl (hwi hw 27 rfl)) (by decide) (t := .array .int) (t' := .int) (by decide) (by decide)))
      replace A_p3 := A_p3.other W (by first | exact n_p3_o | exact Ne.symm n_o_p3 | omega)
      replace F_blockEnd_o := F_blockEnd_o.other W (Or.inr (slot_ne (C := "com/example/procsh/procsh/service/Partition") (Or.inr (hwi hw 19 rfl)) (Or.inl (hwi hw 27 rfl)) (by decide) (t := .array .int) (t' := .int) (by decide) (by decide)))
      replace A_p4 := A_p4.other W (by first | exact n_p4_o | exact Ne.symm n_o_p4 | omega)
      replace F_markedEnd_o := F_markedEnd_o.other W (Or.inr (slot_ne (C := "com/example/procsh/procsh/service/Partition") (Or.inr (hwi hw 21 rfl)) (Or.inl (hwi hw 27 rfl)) (by decide) (t := .array .int) (t' := .int) (by decide) (by decide)))
      replace A_p5 := A_p5.other W (by first | exact n_p5_o | exact Ne.symm n_o_p5 | omega)
      replace F_origin_o := F_origin_o.other W (Or.inr (slot_ne (C := "com/example/procsh/procsh/service/Partition") (Or.inr (hwi hw 23 rfl)) (Or.inl (hwi hw 27 rfl)) (by decide) (t := .array .int) (t' := .int) (by decide) (by decide)))
      replace A_p6 := A_p6.other W (by first | exact n_p6_o | exact Ne.symm n_o_p6 | omega)
      replace F_touchedBlocks_o := F_touchedBlocks_o.other W (Or.inr (slot_ne (C := "com/example/procsh/procsh/service/Partition") (Or.inr (hwi hw 25 rfl)) (Or.inl (hwi hw 27 rfl)) (by decide) (t := .array .int) (t' := .int) (by decide) (by decide)))
      replace A_p7 := A_p7.other W (by first | exact n_p7_o | exact Ne.symm n_o_p7 | omega)
      replace F_blocks_o := F_blocks_o.same W
      replace F_touched_o := F_touched_o.other W (Or.inr (slot_ne (C := "com/example/procsh/procsh/service/Partition") (Or.inl (hwi hw 34 rfl)) (Or.inl (hwi hw 27 rfl)) (by decide) (t := .int) (t' := .int) (by decide) (by decide)))
      clear W
      refine istore K S (l' := #[.val (.ref o), .val (.int i), .val (.int (lget (row L 7) i)), .val (.int (lget (row L 5) (lget (row L 7) i))), .val (.int (L.2.1)), s5]) (stO o_s4 rfl rfl rfl) d4_45 ?_
      refine aload_n K S rfl rfl d4_47 ?_
      refine getf K S (hwi hw 16 rfl) F_blockStart_o d4_48 fun T S => ?_
      refine iload K S rfl d4_51 ?_
      refine aload_n K S rfl rfl d4_53 ?_
      refine getf K S (hwi hw 16 rfl) F_blockStart_o d4_54 fun T S => ?_
      refine iload_n K S rfl d4_57 ?_
      refine iaload K S (v := .int (lget (row L 3) (lget (row L 7) i))) (i := (lget (row L 7) i).toNatClampNeg) A_p3 (linb_ix (show linb (row L 3) (lget (row L 7) i) = true from (okA_1 oka))) (linb_get (show linb (row L 3) (lget (row L 7) i) = true from (okA_1 oka))) d4_58 ?_
      refine iastore K S (i := (L.2.1).toNatClampNeg) A_p3 (linb_ix (show linb (row L 3) (L.2.1) = true from (okA_2 oka))) (linb_ml (show linb (row L 3) (L.2.1) = true from (okA_2 oka))) g_p3 d4_59 fun T h59_3 W B S => ?_
      replace E_o := E_o.wr W
      replace F_elements_o := F_elements_o.other W (Or.inl (by first | exact n_o_p3 | exact Ne.symm n_p3_o | omega))
      replace A_p0 := A_p0.other W (by first | exact n_p0_p3 | exact Ne.symm n_p3_p0 | omega)
      replace F_positionOf_o := F_positionOf_o.other W (Or.inl (by first | exact n_o_p3 | exact Ne.symm n_p3_o | omega))
      replace A_p1 := A_p1.other W (by first | exact n_p1_p3 | exact Ne.symm n_p3_p1 | omega)
      replace F_blockOf_o := F_blockOf_o.other W (Or.inl (by first | exact n_o_p3 | exact Ne.symm n_p3_o | omega))
      replace A_p2 := A_p2.other W (by first | exact n_p2_p3 | exact Ne.symm n_p3_p2 | omega)
      replace F_blockStart_o := F_blockStart_o.other W (Or.inl (by first | exact n_o_p3 | exact Ne.symm n_p3_o | omega))
      replace F_blockEnd_o := F_blockEnd_o.other W (Or.inl (by first | exact n_o_p3 | exact Ne.symm n_p3_o | omega))
      replace A_p4 := A_p4.other W (by first | exact n_p4_p3 | exact Ne.symm n_p3_p4 | omega)
      replace F_markedEnd_o := F_markedEnd_o.other W (Or.inl (by first | exact n_o_p3 | exact Ne.symm n_p3_o | omega))
      replace A_p5 := A_p5.other W (by first | exact n_p5_p3 | exact Ne.symm n_p3_p5 | omega)
      replace F_origin_o := F_origin_o.other W (Or.inl (by first | exact n_o_p3 | exact Ne.symm n_p3_o | omega))
      replace A_p6 := A_p6.other W (by first | exact n_p6_p3 | exact Ne.symm n_p3_p6 | omega)
      replace F_touchedBlocks_o := F_touchedBlocks_o.other W (Or.inl (by first | exact n_o_p3 | exact Ne.symm n_p3_o | omega))
      replace A_p7 := A_p7.other W (by first | exact n_p7_p3 | exact Ne.symm n_p3_p7 | omega)
      replace F_blocks_o := F_blocks_o.other W (Or.inl (by first | exact n_o_p3 | exact Ne.symm n_p3_o | omega))
      replace F_touched_o := F_touched_o.other W (Or.inl (by first | exact n_o_p3 | exact Ne.symm n_p3_o | omega))
      clear W
      replace A_p3 : VA Z h59_3 p3 .int ((sb1 L (lget (row L 7) i)).map Value.int) := (by rw [sb1, lset_map]; exact B)
      refine aload_n K S rfl rfl d4_60 ?_
      refine getf K S (hwi hw 18 rfl) F_blockEnd_o d4_61 fun T S => ?_
      refine iload K S rfl d4_64 ?_
      refine iload_n K S rfl d4_66 ?_
      refine iastore K S (i := (L.2.1).toNatClampNeg) A_p4 (linb_ix (show linb (row L 4) (L.2.1) = true from (okA_3 oka))) (linb_ml (show linb (row L 4) (L.2.1) = true from (okA_3 oka))) g_p4 d4_67 fun T h67_4 W B S => ?_
      replace E_o := E_o.wr W
      replace F_elements_o := F_elements_o.other W (Or.inl (by first | exact n_o_p4 | exact Ne.symm n_p4_o | omega))
      replace A_p0 := A_p0.other W (by first | exact n_p0_p4 | exact Ne.symm n_p4_p0 | omega)
      replace F_positionOf_o := F_positionOf_o.other W (Or.inl (by first | exact n_o_p4 | exact Ne.symm n_p4_o | omega))
      replace A_p1 := A_p1.other W (by first | exact n_p1_p4 | exact Ne.symm n_p4_p1 | omega)
      replace F_blockOf_o := F_blockOf_o.other W (Or.inl (by first | exact n_o_p4 | exact Ne.symm n_p4_o | omega))
      replace A_p2 := A_p2.other W (by first | exact n_p2_p4 | exact Ne.symm n_p4_p2 | omega)
      replace F_blockStart_o := F_blockStart_o.other W (Or.inl (by first | exact n_o_p4 | exact Ne.symm n_p4_o | omega))
      replace A_p3 := A_p3.other W (by first | exact n_p3_p4 | exact Ne.symm n_p4_p3 | omega)
      replace F_blockEnd_o := F_blockEnd_o.other W (Or.inl (by first | exact n_o_p4 | exact Ne.symm n_p4_o | omega))
      replace F_markedEnd_o := F_markedEnd_o.other W (Or.inl (by first | exact n_o_p4 | exact Ne.symm n_p4_o | omega))
      replace A_p5 := A_p5.other W (by first | exact n_p5_p4 | exact Ne.symm n_p4_p5 | omega)
      replace F_origin_o := F_origin_o.other W (Or.inl (by first | exact n_o_p4 | exact Ne.symm n_p4_o | omega))
      replace A_p6 := A_p6.other W (by first | exact n_p6_p4 | exact Ne.symm n_p4_p6 | omega)
      replace F_touchedBlocks_o := F_touchedBlocks_o.other W (Or.inl (by first | exact n_o_p4 | exact Ne.symm n_p4_o | omega))
      replace A_p7 := A_p7.other W (by first | exact n_p7_p4 | exact Ne.symm n_p4_p7 | omega)
      replace F_blocks_o := F_blocks_o.other W (Or.inl (by first | exact n_o_p4 | exact Ne.symm n_p4_o | omega))
      replace F_touched_o := F_touched_o.other W (Or.inl (by first | exact n_o_p4 | exact Ne.symm n_p4_o | omega))
      clear W
      replace A_p4 : VA Z h67_4 p4 .int ((lset (row L 4) (L.2.1) (lget (row L 5) (lget (row L 7) i))).map Value.int) := (by rw [lset_map]; exact B)
      refine aload_n K S rfl rfl d4_68 ?_
      refine getf K S (hwi hw 20 rfl) F_markedEnd_o d4_69 fun T S => ?_
      refine iload K S rfl d4_72 ?_
      refine aload_n K S rfl rfl d4_74 ?_
      refine getf K S (hwi hw 16 rfl) F_blockStart_o d4_75 fun T S => ?_
      refine iload K S rfl d4_78 ?_
      refine iaload K S (v := .int (lget (sb1 L (lget (row L 7) i)) (L.2.1))) (i := (L.2.1).toNatClampNeg) A_p3 (linb_ix (show linb (sb1 L (lget (row L 7) i)) (L.2.1) = true from (okA_6 oka))) (linb_get (show linb (sb1 L (lget (row L 7) i)) (L.2.1) = true from (okA_6 oka))) d4_80 ?_
      refine iastore K S (i := (L.2.1).toNatClampNeg) A_p5 (linb_ix (show linb (row L 5) (L.2.1) = true from (okA_4 oka))) (linb_ml (show linb (row L 5) (L.2.1) = true from (okA_4 oka))) g_p5 d4_81 fun T h81_5 W B S => ?_
      replace E_o := E_o.wr W
      replace F_elements_o := F_elements_o.other W (Or.inl (by first | exact n_o_p5 | exact Ne.symm n_p5_o | omega))
      replace A_p0 := A_p0.other W (by first | exact n_p0_p5 | exact Ne.symm n_p5_p0 | omega)
      replace F_positionOf_o := F_positionOf_o.other W (Or.inl (by first | exact n_o_p5 | exact Ne.symm n_p5_o | omega))
      replace A_p1 := A_p1.other W (by first | exact n_p1_p5 | exact Ne.symm n_p5_p1 | omega)
      replace F_blockOf_o := F_blockOf_o.other W (Or.inl (by first | exact n_o_p5 | exact Ne.symm n_p5_o | omega))
      replace A_p2 := A_p2.other W (by first | exact n_p2_p5 | exact Ne.symm n_p5_p2 | omega)
      replace F_blockStart_o := F_blockStart_o.other W (Or.inl (by first | exact n_o_p5 | exact Ne.symm n_p5_o | omega))
      replace A_p3 := A_p3.other W (by first | exact n_p3_p5 | exact Ne.symm n_p5_p3 | omega)
      replace F_blockEnd_o := F_blockEnd_o.other W (Or.inl (by first | exact n_o_p5 | exact Ne.symm n_p5_o | omega))
      replace A_p4 := A_p4.other W (by first | exact n_p4_p5 | exact Ne.symm n_p5_p4 | omega)
      replace F_markedEnd_o := F_markedEnd_o.other W (Or.inl (by first | exact n_o_p5 | exact Ne.symm n_p5_o | omega))
      replace F_origin_o := F_origin_o.other W (Or.inl (by first | exact n_o_p5 | exact Ne.symm n_p5_o | omega))
      replace A_p6 := A_p6.other W (by first | exact n_p6_p5 | exact Ne.symm n_p5_p6 | omega)
      replace F_touchedBlocks_o := F_touchedBlocks_o.other W (Or.inl (by first | exact n_o_p5 | exact Ne.symm n_p5_o | omega))
      replace A_p7 := A_p7.other W (by first | exact n_p7_p5 | exact Ne.symm n_p5_p7 | omega)
      replace F_blocks_o := F_blocks_o.other W (Or.inl (by first | exact n_o_p5 | exact Ne.symm n_p5_o | omega))
      replace F_touched_o := F_touched_o.other W (Or.inl (by first | exact n_o_p5 | exact Ne.symm n_p5_o | omega))
      clear W
      replace A_p5 : VA Z h81_5 p5 .int ((lset (row L 5) (L.2.1) (lget (sb1 L (lget (row L 7) i)) (L.2.1))).map Value.int) := (by rw [lset_map]; exact B)
      refine aload_n K S rfl rfl d4_82 ?_
      refine getf K S (hwi hw 22 rfl) F_origin_o d4_83 fun T S => ?_
      refine iload K S rfl d4_86 ?_
      refine iload_n K S rfl d4_88 ?_
      refine iastore K S (i := (L.2.1).toNatClampNeg) A_p6 (linb_ix (show linb (row L 6) (L.2.1) = true from (okA_5 oka))) (linb_ml (show linb (row L 6) (L.2.1) = true from (okA_5 oka))) g_p6 d4_89 fun T h89_6 W B S => ?_
      replace E_o := E_o.wr W
      replace F_elements_o := F_elements_o.other W (Or.inl (by first | exact n_o_p6 | exact Ne.symm n_p6_o | omega))
      replace A_p0 := A_p0.other W (by first | exact n_p0_p6 | exact Ne.symm n_p6_p0 | omega)
      replace F_positionOf_o := F_positionOf_o.other W (Or.inl (by first | exact n_o_p6 | exact Ne.symm n_p6_o | omega))
      replace A_p1 := A_p1.other W (by first | exact n_p1_p6 | exact Ne.symm n_p6_p1 | omega)
      replace F_blockOf_o := F_blockOf_o.other W (Or.inl (by first | exact n_o_p6 | exact Ne.symm n_p6_o | omega))
      replace A_p2 := A_p2.other W (by first | exact n_p2_p6 | exact Ne.symm n_p6_p2 | omega)
      replace F_blockStart_o := F_blockStart_o.other W (Or.inl (by first | exact n_o_p6 | exact Ne.symm n_p6_o | omega))
      replace A_p3 := A_p3.other W (by first | exact n_p3_p6 | exact Ne.symm n_p6_p3 | omega)
      replace F_blockEnd_o := F_blockEnd_o.other W (Or.inl (by first | exact n_o_p6 | exact Ne.symm n_p6_o | omega))
      replace A_p4 := A_p4.other W (by first | exact n_p4_p6 | exact Ne.symm n_p6_p4 | omega)
      replace F_markedEnd_o := F_markedEnd_o.other W (Or.inl (by first | exact n_o_p6 | exact Ne.symm n_p6_o | omega))
      replace A_p5 := A_p5.other W (by first | exact n_p5_p6 | exact Ne.symm n_p6_p5 | omega)
      replace F_origin_o := F_origin_o.other W (Or.inl (by first | exact n_o_p6 | exact Ne.symm n_p6_o | omega))
      replace F_touchedBlocks_o := F_touchedBlocks_o.other W (Or.inl (by first | exact n_o_p6 | exact Ne.symm n_p6_o | omega))
      replace A_p7 := A_p7.other W (by first | exact n_p7_p6 | exact Ne.symm n_p6_p7 | omega)
      replace F_blocks_o := F_blocks_o.other W (Or.inl (by first | exact n_o_p6 | exact Ne.symm n_p6_o | omega))
      replace F_touched_o := F_touched_o.other W (Or.inl (by first | exact n_o_p6 | exact Ne.symm n_p6_o | omega))
      clear W
      replace A_p6 : VA Z h89_6 p6 .int ((lset (row L 6) (L.2.1) (lget (row L 7) i)).map Value.int) := (by rw [lset_map]; exact B)
      refine aload_n K S rfl rfl d4_90 ?_
      refine getf K S (hwi hw 16 rfl) F_blockStart_o d4_91 fun T S => ?_
      refine iload K S rfl d4_94 ?_
      refine iaload K S (v := .int (lget (sb1 L (lget (row L 7) i)) (L.2.1))) (i := (L.2.1).toNatClampNeg) A_p3 (linb_ix (show linb (sb1 L (lget (row L 7) i)) (L.2.1) = true from (okA_6 oka))) (linb_get (show linb (sb1 L (lget (row L 7) i)) (L.2.1) = true from (okA_6 oka))) d4_96 ?_
      refine istore K S (l' := #[.val (.ref o), .val (.int i), .val (.int (lget (row L 7) i)), .val (.int (lget (row L 5) (lget (row L 7) i))), .val (.int (L.2.1)), .val (.int (lget (sb1 L (lget (row L 7) i)) (L.2.1)))]) (stO o_s5 rfl rfl rfl) d4_97 ?_
      have inn : ∀ (n : Nat) (j : Int32) (b : List Int32) (hc : Heap) (T : State), St n0 p l e ({ frames := 0, cells := 0, slots := 0, locals := 0 } : Room) s m #[.ref o] below meth c 0 0 hc T → okinn n (row L 0) L.2.1 j (lget (row L 5) (lget (row L 7) i)) b = true → (Exa Z hc o "com/example/procsh/procsh/service/Partition" ∧ Fld Z hc o "com/example/procsh/procsh/service/Partition" "elements" "[I" (.ref p0) ∧ Fld Z hc o "com/example/procsh/procsh/service/Partition" "positionOf" "[I" (.ref p1) ∧ Fld Z hc o "com/example/procsh/procsh/service/Partition" "blockOf" "[I" (.ref p2) ∧ Fld Z hc o "com/example/procsh/procsh/service/Partition" "blockStart" "[I" (.ref p3) ∧ Fld Z hc o "com/example/procsh/procsh/service/Partition" "blockEnd" "[I" (.ref p4) ∧ Fld Z hc o "com/example/procsh/procsh/service/Partition" "markedEnd" "[I" (.ref p5) ∧ Fld Z hc o "com/example/procsh/procsh/service/Partition" "origin" "[I" (.ref p6) ∧ Fld Z hc o "com/example/procsh/procsh/service/Partition" "touchedBlocks" "[I" (.ref p7) ∧ Fld Z hc o "com/example/procsh/procsh/service/Partition" "blocks" "I" (.int ((L.2.1) + (1 : Int32))) ∧ Fld Z hc o "com/example/procsh/procsh/service/Partition" "touched" "I" (.int (L.2.2)) ∧ VA Z hc p0 .int ((row L 0).map Value.int) ∧ VA Z hc p1 .int ((row L 1).map Value.int) ∧ VA Z hc p2 .int (b.map Value.int) ∧ VA Z hc p3 .int ((sb1 L (lget (row L 7) i)).map Value.int) ∧ VA Z hc p4 .int ((lset (row L 4) (L.2.1) (lget (row L 5) (lget (row L 7) i))).map Value.int) ∧ VA Z hc p5 .int ((lset (row L 5) (L.2.1) (lget (sb1 L (lget (row L 7) i)) (L.2.1))).map Value.int) ∧ VA Z hc p6 .int ((lset (row L 6) (L.2.1) (lget (row L 7) i)).map Value.int) ∧ VA Z hc p7 .int ((row L 7).map Value.int)) → (∀ (j' : Int32) (hc : Heap) (T : State), St n0 p l e ({ frames := 0, cells := 0, slots := 0, locals := 0 } : Room) s m #[.ref o] below meth c 0 0 hc T → (Exa Z hc o "com/example/procsh/procsh/service/Partition" ∧ Fld Z hc o "com/example/procsh/procsh/service/Partition" "elements" "[I" (.ref p0) ∧ Fld Z hc o "com/example/procsh/procsh/service/Partition" "positionOf" "[I" (.ref p1) ∧ Fld Z hc o "com/example/procsh/procsh/service/Partition" "blockOf" "[I" (.ref p2) ∧ Fld Z hc o "com/example/procsh/procsh/service/Partition" "blockStart" "[I" (.ref p3) ∧ Fld Z hc o "com/example/procsh/procsh/service/Partition" "blockEnd" "[I" (.ref p4) ∧ Fld Z hc o "com/example/procsh/procsh/service/Partition" "markedEnd" "[I" (.ref p5) ∧ Fld Z hc o "com/example/procsh/procsh/service/Partition" "origin" "[I" (.ref p6) ∧ Fld Z hc o "com/example/procsh/procsh/service/Partition" "touchedBlocks" "[I" (.ref p7) ∧ Fld Z hc o "com/example/procsh/procsh/service/Partition" "blocks" "I" (.int ((L.2.1) + (1 : Int32))) ∧ Fld Z hc o "com/example/procsh/procsh/service/Partition" "touched" "I" (.int (L.2.2)) ∧ VA Z hc p0 .int ((row L 0).map Value.int) ∧ VA Z hc p1 .int ((row L 1).map Value.int) ∧ VA Z hc p2 .int ((finn n (row L 0) L.2.1 j (lget (row L 5) (lget (row L 7) i)) b).map Value.int) ∧ VA Z hc p3 .int ((sb1 L (lget (row L 7) i)).map Value.int) ∧ VA Z hc p4 .int ((lset (row L 4) (L.2.1) (lget (row L 5) (lget (row L 7) i))).map Value.int) ∧ VA Z hc p5 .int ((lset (row L 5) (L.2.1) (lget (sb1 L (lget (row L 7) i)) (L.2.1))).map Value.int) ∧ VA Z hc p6 .int ((lset (row L 6) (L.2.1) (lget (row L 7) i)).map Value.int) ∧ VA Z hc p7 .int ((row L 7).map Value.int)) → Wp n0 p e ({ frames := 0, cells := 0, slots := 0, locals := 0 } : Room) s below (Ef none (fun h' => PK Z h' o p0 p1 p2 p3 p4 p5 p6 p7 (fspl L9))) T (mkF m 125 #[.val (.ref o), .val (.int i), .val (.int (lget (row L 7) i)), .val (.int (lget (row L 5) (lget (row L 7) i))), .val (.int (L.2.1)), .val (.int j')] [])) → Wp n0 p e ({ frames := 0, cells := 0, slots := 0, locals := 0 } : Room) s below (Ef none (fun h' => PK Z h' o p0 p1 p2 p3 p4 p5 p6 p7 (fspl L9))) T (mkF m 99 #[.val (.ref o), .val (.int i), .val (.int (lget (row L 7) i)), .val (.int (lget (row L 5) (lget (row L 7) i))), .val (.int (L.2.1)), .val (.int j)] []) := by
        intro n
        induction n with
        | zero => intro j b hc T S ok; cases ok
        | succ n ih2 =>
          intro j b hc T S ok hF done2
          have hF0 := hF
          obtain ⟨E_o, F_elements_o, F_positionOf_o, F_blockOf_o, F_blockStart_o, F_blockEnd_o, F_markedEnd_o, F_origin_o, F_touchedBlocks_o, F_blocks_o, F_touched_o, A_p0, A_p1, A_p2, A_p3, A_p4, A_p5, A_p6, A_p7⟩ := hF
          refine iload K S rfl d4_99 ?_
          refine iload_n K S rfl d4_101 ?_
          refine icmp_ge K S d4_102 (fun c102 => ?_) (fun c102 => ?_)
          · rw [finn, if_neg c102] at done2
            exact done2 j _ T S hF0
          rw [okinn, if_pos c102, Bool.and_eq_true, Bool.and_eq_true] at ok
          obtain ⟨⟨q1, q2⟩, q3⟩ := ok
          rw [finn, if_pos c102] at done2
          refine aload_n K S rfl rfl d4_105 ?_
          refine getf K S (hwi hw 14 rfl) F_blockOf_o d4_106 fun T S => ?_
          refine aload_n K S rfl rfl d4_109 ?_
          refine getf K S (hwi hw 10 rfl) F_elements_o d4_110 fun T S => ?_
          refine iload K S rfl d4_113 ?_
          refine iaload K S (v := .int (lget (row L 0) j)) (i := j.toNatClampNeg) A_p0 (linb_ix (show linb (row L 0) j = true from q1)) (linb_get (show linb (row L 0) j = true from q1)) d4_115 ?_
          refine iload K S rfl d4_116 ?_
          refine iastore K S (i := (lget (row L 0) j).toNatClampNeg) A_p2 (linb_ix (show linb b (lget (row L 0) j) = true from q2)) (linb_ml (show linb b (lget (row L 0) j) = true from q2)) g_p2 d4_118 fun T h118_7 W B S => ?_
          replace E_o := E_o.wr W
          replace F_elements_o := F_elements_o.other W (Or.inl (by first | exact n_o_p2 | exact Ne.symm n_p2_o | omega))
          replace A_p0 := A_p0.other W (by first | exact n_p0_p2 | exact Ne.symm n_p2_p0 | omega)
          replace F_positionOf_o := F_positionOf_o.other W (Or.inl (by first | exact n_o_p2 | exact Ne.symm n_p2_o | omega))
          replace A_p1 := A_p1.other W (by first | exact n_p1_p2 | exact Ne.symm n_p2_p1 | omega)
          replace F_blockOf_o := F_blockOf_o.other W (Or.inl (by first | exact n_o_p2 | exact Ne.symm n_p2_o | omega))
          replace F_blockStart_o := F_blockStart_o.other W (Or.inl (by first | exact n_o_p2 | exact Ne.symm n_p2_o | omega))
          replace A_p3 := A_p3.other W (by first | exact n_p3_p2 | exact Ne.symm n_p2_p3 | omega)
          replace F_blockEnd_o := F_blockEnd_o.other W (Or.inl (by first | exact n_o_p2 | exact Ne.symm n_p2_o | omega))
          replace A_p4 := A_p4.other W (by first | exact n_p4_p2 | exact Ne.symm n_p2_p4 | omega)
          replace F_markedEnd_o := F_markedEnd_o.other W (Or.inl (by first | exact n_o_p2 | exact Ne.symm n_p2_o | omega))
          replace A_p5 := A_p5.other W (by first | exact n_p5_p2 | exact Ne.symm n_p2_p5 | omega)
          replace F_origin_o := F_origin_o.other W (Or.inl (by first | exact n_o_p2 | exact Ne.symm n_p2_o | omega))
          replace A_p6 := A_p6.other W (by first | exact n_p6_p2 | exact Ne.symm n_p2_p6 | omega)
          replace F_touchedBlocks_o := F_touchedBlocks_o.other W (Or.inl (by first | exact n_o_p2 | exact Ne.symm n_p2_o | omega))
          replace A_p7 := A_p7.other W (by first | exact n_p7_p2 | exact Ne.symm n_p2_p7 | omega)
          replace F_blocks_o := F_blocks_o.other W (Or.inl (by first | exact n_o_p2 | exact Ne.symm n_p2_o | omega))
          replace F_touched_o := F_touched_o.other W (Or.inl (by first | exact n_o_p2 | exact Ne.symm n_p2_o | omega))
          clear W
          replace A_p2 : VA Z h118_7 p2 .int ((lset b (lget (row L 0) j) (L.2.1)).map Value.int) := (by rw [lset_map]; exact B)
          refine iinc K S (y := (1 : Int32)) (x := j) (l' := #[.val (.ref o), .val (.int i), .val (.int (lget (row L 7) i)), .val (.int (lget (row L 5) (lget (row L 7) i))), .val (.int (L.2.1)), .val (.int (j + (1 : Int32)))]) rfl rfl rfl d4_119 ?_
          obtain ⟨v119, hv119⟩ : ∃ z, z = j + (1 : Int32) := ⟨_, rfl⟩
          rw [← hv119]
          refine goto K S d4_122 ?_
          refine ih2 _ _ h118_7 T S ?_ ⟨E_o, F_elements_o, F_positionOf_o, F_blockOf_o, F_blockStart_o, F_blockEnd_o, F_markedEnd_o, F_origin_o, F_touchedBlocks_o, F_blocks_o, F_touched_o, A_p0, A_p1, A_p2, A_p3, A_p4, A_p5, A_p6, A_p7⟩ ?_
          · rw [hv119]; exact q3
          rw [hv119]; exact done2
      refine inn 8 _ _ _ T S (okA_10 oka) ⟨E_o, F_elements_o, F_positionOf_o, F_blockOf_o, F_blockStart_o, F_blockEnd_o, F_markedEnd_o, F_origin_o, F_touchedBlocks_o, F_blocks_o, F_touched_o, A_p0, A_p1, A_p2, A_p3, A_p4, A_p5, A_p6, A_p7⟩ (fun j' hc T S hF => ?_)
      obtain ⟨E_o, F_elements_o, F_positionOf_o, F_blockOf_o, F_blockStart_o, F_blockEnd_o, F_markedEnd_o, F_origin_o, F_touchedBlocks_o, F_blocks_o, F_touched_o, A_p0, A_p1, A_p2, A_p3, A_p4, A_p5, A_p6, A_p7⟩ := hF
      refine aload_n K S rfl rfl d4_125 ?_
      refine getf K S (hwi hw 16 rfl) F_blockStart_o d4_126 fun T S => ?_
      refine iload_n K S rfl d4_129 ?_
      refine iload_n K S rfl d4_130 ?_
      refine iastore K S (i := (lget (row L 7) i).toNatClampNeg) A_p3 (linb_ix (show linb (sb1 L (lget (row L 7) i)) (lget (row L 7) i) = true from (okA_7 oka))) (linb_ml (show linb (sb1 L (lget (row L 7) i)) (lget (row L 7) i) = true from (okA_7 oka))) g_p3 d4_131 fun T h131_8 W B S => ?_
      replace E_o := E_o.wr W
      replace F_elements_o := F_elements_o.other W (Or.inl (by first | exact n_o_p3 | exact Ne.symm n_p3_o | omega))
      replace A_p0 := A_p0.other W (by first | exact n_p0_p3 | exact Ne.symm n_p3_p0 | omega)
      replace F_positionOf_o := F_positionOf_o.other W (Or.inl (by first | exact n_o_p3 | exact Ne.symm n_p3_o | omega))
      replace A_p1 := A_p1.other W (by first | exact n_p1_p3 | exact Ne.symm n_p3_p1 | omega)
      replace F_blockOf_o := F_blockOf_o.other W (Or.inl (by first | exact n_o_p3 | exact Ne.symm n_p3_o | omega))
      replace A_p2 := A_p2.other W (by first | exact n_p2_p3 | exact Ne.symm n_p3_p2 | omega)
      replace F_blockStart_o := F_blockStart_o.other W (Or.inl (by first | exact n_o_p3 | exact Ne.symm n_p3_o | omega))
      replace F_blockEnd_o := F_blockEnd_o.other W (Or.inl (by first | exact n_o_p3 | exact Ne.symm n_p3_o | omega))
      replace A_p4 := A_p4.other W (by first | exact n_p4_p3 | exact Ne.symm n_p3_p4 | omega)
      replace F_markedEnd_o := F_markedEnd_o.other W (Or.inl (by first | exact n_o_p3 | exact Ne.symm n_p3_o | omega))
      replace A_p5 := A_p5.other W (by first | exact n_p5_p3 | exact Ne.symm n_p3_p5 | omega)
      replace F_origin_o := F_origin_o.other W (Or.inl (by first | exact n_o_p3 | exact Ne.symm n_p3_o | omega))
      replace A_p6 := A_p6.other W (by first | exact n_p6_p3 | exact Ne.symm n_p3_p6 | omega)
      replace F_touchedBlocks_o := F_touchedBlocks_o.other W (Or.inl (by first | exact n_o_p3 | exact Ne.symm n_p3_o | omega))
      replace A_p7 := A_p7.other W (by first | exact n_p7_p3 | exact Ne.symm n_p3_p7 | omega)
      replace F_blocks_o := F_blocks_o.other W (Or.inl (by first | exact n_o_p3 | exact Ne.symm n_p3_o | omega))
      replace F_touched_o := F_touched_o.other W (Or.inl (by first | exact n_o_p3 | exact Ne.symm n_p3_o | omega))
      clear W
      replace A_p3 : VA Z h131_8 p3 .int ((lset (sb1 L (lget (row L 7) i)) (lget (row L 7) i) (lget (row L 5) (lget (row L 7) i))).map Value.int) := (by rw [lset_map]; exact B)
      refine aload_n K S rfl rfl d4_132 ?_
      refine getf K S (hwi hw 20 rfl) F_markedEnd_o d4_133 fun T S => ?_
      refine iload_n K S rfl d4_136 ?_
      refine aload_n K S rfl rfl d4_137 ?_
      refine getf K S (hwi hw 16 rfl) F_blockStart_o d4_138 fun T S => ?_
      refine iload_n K S rfl d4_141 ?_
      refine iaload K S (v := .int (lget (lset (sb1 L (lget (row L 7) i)) (lget (row L 7) i) (lget (row L 5) (lget (row L 7) i))) (lget (row L 7) i))) (i := (lget (row L 7) i).toNatClampNeg) A_p3 (linb_ix (show linb (lset (sb1 L (lget (row L 7) i)) (lget (row L 7) i) (lget (row L 5) (lget (row L 7) i))) (lget (row L 7) i) = true from (okA_8 oka))) (linb_get (show linb (lset (sb1 L (lget (row L 7) i)) (lget (row L 7) i) (lget (row L 5) (lget (row L 7) i))) (lget (row L 7) i) = true from (okA_8 oka))) d4_142 ?_
      refine iastore K S (i := (lget (row L 7) i).toNatClampNeg) A_p5 (linb_ix (show linb (lset (row L 5) (L.2.1) (lget (sb1 L (lget (row L 7) i)) (L.2.1))) (lget (row L 7) i) = true from (okA_9 oka))) (linb_ml (show linb (lset (row L 5) (L.2.1) (lget (sb1 L (lget (row L 7) i)) (L.2.1))) (lget (row L 7) i) = true from (okA_9 oka))) g_p5 d4_143 fun T h143_9 W B S => ?_
      replace E_o := E_o.wr W
      replace F_elements_o := F_elements_o.other W (Or.inl (by first | exact n_o_p5 | exact Ne.symm n_p5_o | omega))
      replace A_p0 := A_p0.other W (by first | exact n_p0_p5 | exact Ne.symm n_p5_p0 | omega)
      replace F_positionOf_o := F_positionOf_o.other W (Or.inl (by first | exact n_o_p5 | exact Ne.symm n_p5_o | omega))
      replace A_p1 := A_p1.other W (by first | exact n_p1_p5 | exact Ne.symm n_p5_p1 | omega)
      replace F_blockOf_o := F_blockOf_o.other W (Or.inl (by first | exact n_o_p5 | exact Ne.symm n_p5_o | omega))
      replace A_p2 := A_p2.other W (by first | exact n_p2_p5 | exact Ne.symm n_p5_p2 | omega)
      replace F_blockStart_o := F_blockStart_o.other W (Or.inl (by first | exact n_o_p5 | exact Ne.symm n_p5_o | omega))
      replace A_p3 := A_p3.other W (by first | exact n_p3_p5 | exact Ne.symm n_p5_p3 | omega)
      replace F_blockEnd_o := F_blockEnd_o.other W (Or.inl (by first | exact n_o_p5 | exact Ne.symm n_p5_o | omega))
      replace A_p4 := A_p4.other W (by first | exact n_p4_p5 | exact Ne.symm n_p5_p4 | omega)
      replace F_markedEnd_o := F_markedEnd_o.other W (Or.inl (by first | exact n_o_p5 | exact Ne.symm n_p5_o | omega))
      replace F_origin_o := F_origin_o.other W (Or.inl (by first | exact n_o_p5 | exact Ne.symm n_p5_o | omega))
      replace A_p6 := A_p6.other W (by first | exact n_p6_p5 | exact Ne.symm n_p5_p6 | omega)
      replace F_touchedBlocks_o := F_touchedBlocks_o.other W (Or.inl (by first | exact n_o_p5 | exact Ne.symm n_p5_o | omega))
      replace A_p7 := A_p7.other W (by first | exact n_p7_p5 | exact Ne.symm n_p5_p7 | omega)
      replace F_blocks_o := F_blocks_o.other W (Or.inl (by first | exact n_o_p5 | exact Ne.symm n_p5_o | omega))
      replace F_touched_o := F_touched_o.other W (Or.inl (by first | exact n_o_p5 | exact Ne.symm n_p5_o | omega))
      clear W
      replace A_p5 : VA Z h143_9 p5 .int ((lset (lset (row L 5) (L.2.1) (lget (sb1 L (lget (row L 7) i)) (L.2.1))) (lget (row L 7) i) (lget (lset (sb1 L (lget (row L 7) i)) (lget (row L 7) i) (lget (row L 5) (lget (row L 7) i))) (lget (row L 7) i))).map Value.int) := (by rw [lset_map]; exact B)
      refine iinc K S (y := (1 : Int32)) (x := i) (l' := #[.val (.ref o), .val (.int (i + (1 : Int32))), .val (.int (lget (row L 7) i)), .val (.int (lget (row L 5) (lget (row L 7) i))), .val (.int (L.2.1)), .val (.int j')]) rfl rfl rfl d4_144 ?_
      obtain ⟨v144, hv144⟩ : ∃ z, z = i + (1 : Int32) := ⟨_, rfl⟩
      rw [← hv144]
      refine goto K S d4_147 ?_
      have eS : fstep L i = (fsA L (lget (row L 7) i) (lget (row L 5) (lget (row L 7) i))) := (by rw [fstep, if_pos c31])
      rw [eS, ← hv144] at okn
      refine ih (fsA L (lget (row L 7) i) (lget (row L 5) (lget (row L 7) i))) v144 (.val (.int (lget (row L 7) i))) (.val (.int (lget (row L 5) (lget (row L 7) i)))) (.val (.int (L.2.1))) (.val (.int j')) h143_9 T S (One.val rfl) (One.val rfl) (One.val rfl) (One.val rfl) okn ⟨E_o, F_elements_o, F_positionOf_o, F_blockOf_o, F_blockStart_o, F_blockEnd_o, F_markedEnd_o, F_origin_o, F_touchedBlocks_o, F_blocks_o, F_touched_o, A_p0, A_p1, A_p2, A_p3, A_p4, A_p5, A_p6, A_p7⟩ (fun L' s1 s2 s3 s4 s5 hc T eL S H => done L' s1 s2 s3 s4 s5 hc T ?_ S H)
      rw [fout, if_pos c7, eS, ← hv144]; exact eL
  refine iconst K S (x := (0 : Int32)) rfl d4_0 ?_
  refine istore_n K S (l' := #[.val (.ref o), .val (.int (0 : Int32)), .unset, .unset, .unset, .unset]) rfl d4_1 ?_
  refine loop 8 L9 0 _ _ _ _ h T S One.u One.u One.u One.u ok H (fun L' s1 s2 s3 s4 s5 hc T eL S H => ?_)
  obtain ⟨E_o, F_elements_o, F_positionOf_o, F_blockOf_o, F_blockStart_o, F_blockEnd_o, F_markedEnd_o, F_origin_o, F_touchedBlocks_o, F_blocks_o, F_touched_o, A_p0, A_p1, A_p2, A_p3, A_p4, A_p5, A_p6, A_p7⟩ := H
  refine aload_n K S rfl rfl d4_150 ?_
  refine iconst K S (x := (0 : Int32)) rfl d4_151 ?_
  refine putf K S (hwi hw 33 rfl) F_touched_o E_o (Or.inl (hwi hw 34 rfl)) (hwi hw 1 rfl) (ty := .int) (by decide) rfl rfl g_o d4_152 fun T h152_10 W S => ?_
  replace E_o := E_o.wr W
  replace F_elements_o := F_elements_o.other W (Or.inr (slot_ne (C := "com/example/procsh/procsh/service/Partition") (Or.inr (hwi hw 11 rfl)) (Or.inl (hwi hw 34 rfl)) (by decide) (t := .array .int) (t' := .int) (by decide) (by decide)))
  replace A_p0 := A_p0.other W (by first | exact n_p0_o | exact Ne.symm n_o_p0 | omega)
  replace F_positionOf_o := F_positionOf_o.other W (Or.inr (slot_ne (C := "com/example/procsh/procsh/service/Partition") (Or.inr (hwi hw 13 rfl)) (Or.inl (hwi hw 34 rfl)) (by decide) (t := .array .int) (t' := .int) (by decide) (by decide)))
  replace A_p1 := A_p1.other W (by first | exact n_p1_o | exact Ne.symm n_o_p1 | omega)
  replace F_blockOf_o := F_blockOf_o.other W (Or.inr (slot_ne (C := "com/example/procsh/procsh/service/Partition") (Or.inr (hwi hw 15 rfl)) (Or.inl (hwi hw 34 rfl)) (by decide) (t := .array .int) (t' := .int) (by decide) (by decide)))
  replace A_p2 := A_p2.other W (by first | exact n_p2_o | exact Ne.symm n_o_p2 | omega)
  replace F_blockStart_o := F_blockStart_o.other W (Or.inr (slot_ne (C := "com/example/procsh/procsh/service/Partition") (Or.inr (hwi hw 17 rfl)) (Or.inl (hwi hw 34 rfl)) (by decide) (t := .array .int) (t' := .int) (by decide) (by decide)))
  replace A_p3 := A_p3.other W (by first | exact n_p3_o | exact Ne.symm n_o_p3 | omega)
  replace F_blockEnd_o := F_blockEnd_o.other W (Or.inr (slot_ne (C := "com/example/procsh/procsh/service/Partition") (Or.inr (hwi hw 19 rfl)) (Or.inl (hwi hw 34 rfl)) (by decide) (t := .array .int) (t' := .int) (by decide) (by decide)))
  replace A_p4 := A_p4.other W (by first | exact n_p4_o | exact Ne.symm n_o_p4 | omega)
  replace F_markedEnd_o := F_markedEnd_o.other W (Or.inr (slot_ne (C := "com/example/procsh/procsh/service/Partition") (Or.inr (hwi hw 21 rfl)) (Or.inl (hwi hw 34 rfl)) (by decide) (t := .array .int) (t' := .int) (by decide) (by decide)))
  replace A_p5 := A_p5.other W (by first | exact n_p5_o | exact Ne.symm n_o_p5 | omega)
  replace F_origin_o := F_origin_o.other W (Or.inr (slot_ne (C := "com/example/procsh/procsh/service/Partition") (Or.inr (hwi hw 23 rfl)) (Or.inl (hwi hw 34 rfl)) (by decide) (t := .array .int) (t' := .int) (by decide) (by decide)))
  replace A_p6 := A_p6.other W (by first | exact n_p6_o | exact Ne.symm n_o_p6 | omega)
  replace F_touchedBlocks_o := F_touchedBlocks_o.other W (Or.inr (slot_ne (C := "com/example/procsh/procsh/service/Partition") (Or.inr (hwi hw 25 rfl)) (Or.inl (hwi hw 34 rfl)) (by decide) (t := .array .int) (t' := .int) (by decide) (by decide)))
  replace A_p7 := A_p7.other W (by first | exact n_p7_o | exact Ne.symm n_o_p7 | omega)
  replace F_blocks_o := F_blocks_o.other W (Or.inr (slot_ne (C := "com/example/procsh/procsh/service/Partition") (Or.inl (hwi hw 27 rfl)) (Or.inl (hwi hw 34 rfl)) (by decide) (t := .int) (t' := .int) (by decide) (by decide)))
  replace F_touched_o := F_touched_o.same W
  clear W
  refine retv K S (by decide) (by decide) d4_155 ?_
  exact ⟨rfl, by rw [fspl, ← eL]; exact ⟨E_o, F_elements_o, F_positionOf_o, F_blockOf_o, F_blockStart_o, F_blockEnd_o, F_markedEnd_o, F_origin_o, F_touchedBlocks_o, F_blocks_o, F_touched_o, A_p0, A_p1, A_p2, A_p3, A_p4, A_p5, A_p6, A_p7⟩⟩

theorem d7_0 : Dc prog_68_method_3_code 0 (.aload_n 0) 1 1 := ⟨by decide +kernel, rfl⟩
theorem d7_1 : Dc prog_68_method_3_code 1 (.getfield 16) 3 4 := ⟨by decide +kernel, rfl⟩
theorem d7_4 : Dc prog_68_method_3_code 4 (.iload_n 1) 1 5 := ⟨by decide +kernel, rfl⟩
theorem d7_5 : Dc prog_68_method_3_code 5 (.iaload) 1 6 := ⟨by decide +kernel, rfl⟩
theorem d7_6 : Dc prog_68_method_3_code 6 (.ireturn) 1 7 := ⟨by decide +kernel, rfl⟩
theorem ef_blockOf (m : MethodId) (o : Addr) (p0 : Addr) (p1 : Addr) (p2 : Addr) (p3 : Addr) (p4 : Addr) (p5 : Addr) (p6 : Addr) (p7 : Addr) (q : Int32) (L : PS) : entryFrame m #[.ref o, .int q] 2 = mkF m 0 #[.val (.ref o), .val (.int q)] [] := by first | (simp [entryFrame, mkF, argsToLocals, Value.category]; done) | rfl
set_option maxRecDepth 65536 in
set_option maxHeartbeats 40000000 in
theorem m_blockOf (l : Launch) (Z : State) (a0 : Array Value) (hw : ∀ d ∈ tables_1, d.before a0 Z = true) (n0 : Nat) (o : Addr) (p0 : Addr) (p1 : Addr) (p2 : Addr) (p3 : Addr) (p4 : Addr) (p5 : Addr) (p6 : Addr) (p7 : Addr) (q : Int32) (L : PS) (h : Heap) (hn : n0 ≤ h.size) (H : PK Z h o p0 p1 p2 p3 p4 p5 p6 p7 L) (ok : linb (row L 2) q = true) : Met n0 l Z (⟨"com/example/procsh/procsh/service/Partition", "blockOf", "(I)I"⟩ : MethodName) prog_68_method_3_code 2 (some .int) ({ frames := 0, cells := 0, slots := 0, locals := 0 } : Room) [] #[.ref o, .int q] h (Pu (some (.int (lget (row L 2) q))) h) := by
  refine enter (plainFor_of_name (by first | (simp [plainName, overriddenIn]; done) | decide +kernel)) (fun m => ef_blockOf m o p0 p1 p2 p3 p4 p5 p6 p7 q L) hn ?_
  intro p e s m below meth c T K S
  obtain ⟨E_o, F_elements_o, F_positionOf_o, F_blockOf_o, F_blockStart_o, F_blockEnd_o, F_markedEnd_o, F_origin_o, F_touchedBlocks_o, F_blocks_o, F_touched_o, A_p0, A_p1, A_p2, A_p3, A_p4, A_p5, A_p6, A_p7⟩ := H
  refine aload_n K S rfl rfl d7_0 ?_
  refine getf K S (hwi hw 14 rfl) F_blockOf_o d7_1 fun T S => ?_
  refine iload_n K S rfl d7_4 ?_
  refine iaload K S (v := .int (lget (row L 2) q)) (i := q.toNatClampNeg) A_p2 (linb_ix (show linb (row L 2) q = true from ok)) (linb_get (show linb (row L 2) q = true from ok)) d7_5 ?_
  refine reti K S (by decide) (by decide) d7_6 ?_
  exact ⟨rfl, rfl⟩

def fmk (t a b c : Int32) : Int32 := if t = a ∨ t = b ∨ t = c then 1 else 0
def fom (t s a b c : Int32) : Int32 := if t = s then 0 else fmk t a b c
def fex (t s a b c sp : Int32) : Int32 := if t = s then 1 else if sp = 0 then 0 else if fmk t a b c = 0 then 0 else 2
def own_N (i : Fin 4) : Int32 := Int32.ofNat i.val
theorem own_fin4 (x : Int32) : ∃ i : Fin 4, x &&& 3 = own_N i := by
  have e : (x &&& 3).toInt = x.toInt % 4 := c_mask x 3 2 (by decide) (by decide)
  have h2 : (x &&& 3).toInt.toNat < 4 := by omega
  refine ⟨⟨(x &&& 3).toInt.toNat, h2⟩, Int32.toInt_inj.mp ?_⟩
  show _ = (Int32.ofNat (x &&& 3).toInt.toNat).toInt
  rw [Int32.toInt_ofNat_of_lt (by omega)]
  omega
def own_chk (i j k l : Fin 4) : Bool :=
  let s := own_N i; let a := own_N j; let b := own_N k; let c := own_N l
  let L1 := fmark L0 s; let L2 := fspl L1; let L3 := fmark L2 a; let L4 := fmark L3 b; let L5 := fmark L4 c; let L6 := fspl L5
  let K := fom 0 s a b c + fom 1 s a b c + fom 2 s a b c + fom 3 s a b c
  let sp : Int32 := if 0 < K ∧ K < 3 then 1 else 0
  okmark' L0 s && okout 8 L1 0 && okmark' L2 a && okmark' L3 b && okmark' L4 c && okout 8 L5 0 &&
  linb (row L6 2) 0 && linb (row L6 2) 1 && linb (row L6 2) 2 && linb (row L6 2) 3 && lget (row L6 2) 0 == fex 0 s a b c sp && lget (row L6 2) 1 == fex 1 s a b c sp && lget (row L6 2) 2 == fex 2 s a b c sp && lget (row L6 2) 3 == fex 3 s a b c sp
set_option maxRecDepth 100000 in
theorem own_all : ∀ i j k l : Fin 4, own_chk i j k l = true := by decide +kernel
theorem own_ex {i j k l : Fin 4} {s a b c K : Int32} (hs : s = own_N i) (ha : a = own_N j) (hb : b = own_N k) (hc : c = own_N l) (hK : K = fom 0 s a b c + fom 1 s a b c + fom 2 s a b c + fom 3 s a b c) {L1 L2 L3 L4 L5 L6 : PS} (h1 : L1 = fmark L0 s) (h2 : L2 = fspl L1) (h3 : L3 = fmark L2 a) (h4 : L4 = fmark L3 b) (h5 : L5 = fmark L4 c) (h6 : L6 = fspl L5) :
    ((okmark' L0 s = true ∧ okout 8 L1 0 = true ∧ okmark' L2 a = true ∧ okmark' L3 b = true ∧ okmark' L4 c = true ∧ okout 8 L5 0 = true) ∧ linb (row L6 2) 0 = true ∧ linb (row L6 2) 1 = true ∧ linb (row L6 2) 2 = true ∧ linb (row L6 2) 3 = true) ∧ (let sp : Int32 := if 0 < K ∧ K < 3 then 1 else 0; lget (row L6 2) 0 = fex 0 s a b c sp ∧ lget (row L6 2) 1 = fex 1 s a b c sp ∧ lget (row L6 2) 2 = fex 2 s a b c sp ∧ lget (row L6 2) 3 = fex 3 s a b c sp) := by
  subst h6 h5 h4 h3 h2 h1 hK hs ha hb hc
  have q := own_all i j k l
  simp only [own_chk, Bool.and_eq_true, beq_iff_eq] at q
  obtain ⟨⟨⟨⟨⟨⟨⟨⟨⟨⟨⟨⟨⟨q1, q2⟩, q3⟩, q4⟩, q5⟩, q6⟩, q7⟩, q8⟩, q9⟩, q10⟩, q11⟩, q12⟩, q13⟩, q14⟩ := q
  exact ⟨⟨⟨q1, q2, q3, q4, q5, q6⟩, q7, q8, q9, q10⟩, q11, q12, q13, q14⟩
theorem d6_0 : Dc method_3_code 0 (.iload_n 0) 1 1 := ⟨by decide +kernel, rfl⟩
theorem d6_1 : Dc method_3_code 1 (.iload_n 1) 1 2 := ⟨by decide +kernel, rfl⟩
theorem d6_2 : Bc method_3_code 2 (.if_icmp .eq 13) (13) 5 15 := ⟨by decide +kernel, rfl, by decide, by decide⟩
theorem d6_5 : Dc method_3_code 5 (.iload_n 0) 1 6 := ⟨by decide +kernel, rfl⟩
theorem d6_6 : Dc method_3_code 6 (.iload_n 2) 1 7 := ⟨by decide +kernel, rfl⟩
theorem d6_7 : Bc method_3_code 7 (.if_icmp .eq 8) (8) 10 15 := ⟨by decide +kernel, rfl, by decide, by decide⟩
theorem d6_10 : Dc method_3_code 10 (.iload_n 0) 1 11 := ⟨by decide +kernel, rfl⟩
theorem d6_11 : Dc method_3_code 11 (.iload_n 3) 1 12 := ⟨by decide +kernel, rfl⟩
theorem d6_12 : Bc method_3_code 12 (.if_icmp .ne 7) (7) 15 19 := ⟨by decide +kernel, rfl, by decide, by decide⟩
theorem d6_15 : Dc method_3_code 15 (.iconst 1) 1 16 := ⟨by decide +kernel, rfl⟩
theorem d6_16 : Bc method_3_code 16 (.goto 4) (4) 19 20 := ⟨by decide +kernel, rfl, by decide, by decide⟩
theorem d6_19 : Dc method_3_code 19 (.iconst 0) 1 20 := ⟨by decide +kernel, rfl⟩
theorem d6_20 : Dc method_3_code 20 (.ireturn) 1 21 := ⟨by decide +kernel, rfl⟩
theorem ef_marked (m : MethodId) (t : Int32) (a : Int32) (b : Int32) (d : Int32) : entryFrame m #[.int t, .int a, .int b, .int d] 4 = mkF m 0 #[.val (.int t), .val (.int a), .val (.int b), .val (.int d)] [] := by first | (simp [entryFrame, mkF, argsToLocals, Value.category]; done) | rfl
set_option maxRecDepth 65536 in
set_option maxHeartbeats 40000000 in
theorem m_marked (l : Launch) (Z : State) (a0 : Array Value) (hw : ∀ d ∈ tables_1, d.before a0 Z = true) (n0 : Nat) (t : Int32) (a : Int32) (b : Int32) (d : Int32) (h : Heap) (hn : n0 ≤ h.size) : Met n0 l Z (⟨"com/example/procsh/procsh/service/PartitionMarkPinLaw", "marked", "(IIII)Z"⟩ : MethodName) method_3_code 4 (some .boolean) ({ frames := 0, cells := 0, slots := 0, locals := 0 } : Room) [] #[.int t, .int a, .int b, .int d] h (Pu (some (.int (fmk t a b d))) h) := by
  refine enter (plainFor_of_name (by first | (simp [plainName, overriddenIn]; done) | decide +kernel)) (fun m => ef_marked m t a b d) hn ?_
  intro p e s m below meth c T K S
  refine iload_n K S rfl d6_0 ?_
  refine iload_n K S rfl d6_1 ?_
  refine icmp_eq K S d6_2 (fun c2 => ?_) (fun c2 => ?_)
  · refine iconst K S (x := (1 : Int32)) rfl d6_15 ?_
    refine goto K S d6_16 ?_
    refine retn K S (by simp) (y := (1 : Int32)) rfl (by decide) (by decide) d6_20 ?_
    exact ⟨by simp [fmk, *], rfl⟩
  refine iload_n K S rfl d6_5 ?_
  refine iload_n K S rfl d6_6 ?_
  refine icmp_eq K S d6_7 (fun c7 => ?_) (fun c7 => ?_)
  · refine iconst K S (x := (1 : Int32)) rfl d6_15 ?_
    refine goto K S d6_16 ?_
    refine retn K S (by simp) (y := (1 : Int32)) rfl (by decide) (by decide) d6_20 ?_
    exact ⟨by simp [fmk, *], rfl⟩
  refine iload_n K S rfl d6_10 ?_
  refine iload_n K S rfl d6_11 ?_
  refine icmp_ne K S d6_12 (fun c12 => ?_) (fun c12 => ?_)
  · refine iconst K S (x := (0 : Int32)) rfl d6_19 ?_
    refine retn K S (by simp) (y := (0 : Int32)) rfl (by decide) (by decide) d6_20 ?_
    exact ⟨by simp [fmk, *], rfl⟩
  refine iconst K S (x := (1 : Int32)) rfl d6_15 ?_
  refine goto K S d6_16 ?_
  refine retn K S (by simp) (y := (1 : Int32)) rfl (by decide) (by decide) d6_20 ?_
  exact ⟨by simp [fmk, *], rfl⟩

theorem d5_0 : Dc method_4_code 0 (.iload_n 0) 1 1 := ⟨by decide +kernel, rfl⟩
theorem d5_1 : Dc method_4_code 1 (.iload_n 1) 1 2 := ⟨by decide +kernel, rfl⟩
theorem d5_2 : Bc method_4_code 2 (.if_icmp .eq 16) (16) 5 18 := ⟨by decide +kernel, rfl, by decide, by decide⟩
theorem d5_5 : Dc method_4_code 5 (.iload_n 0) 1 6 := ⟨by decide +kernel, rfl⟩
theorem d5_6 : Dc method_4_code 6 (.iload_n 2) 1 7 := ⟨by decide +kernel, rfl⟩
theorem d5_7 : Dc method_4_code 7 (.iload_n 3) 1 8 := ⟨by decide +kernel, rfl⟩
theorem d5_8 : Dc method_4_code 8 (.iload 4) 2 10 := ⟨by decide +kernel, rfl⟩
theorem d5_10 : Dc method_4_code 10 (.invokestatic 32) 3 13 := ⟨by decide +kernel, rfl⟩
theorem d5_13 : Bc method_4_code 13 (.ifCond .eq 5) (5) 16 18 := ⟨by decide +kernel, rfl, by decide, by decide⟩
theorem d5_16 : Dc method_4_code 16 (.iconst 1) 1 17 := ⟨by decide +kernel, rfl⟩
theorem d5_17 : Dc method_4_code 17 (.ireturn) 1 18 := ⟨by decide +kernel, rfl⟩
theorem d5_18 : Dc method_4_code 18 (.iconst 0) 1 19 := ⟨by decide +kernel, rfl⟩
theorem d5_19 : Dc method_4_code 19 (.ireturn) 1 20 := ⟨by decide +kernel, rfl⟩
theorem pd_6 : parseMethodDescriptor "(IIII)Z" = some ⟨[.int, .int, .int, .int], (some .boolean)⟩ := by decide +kernel
theorem ef_other (m : MethodId) (t : Int32) (z : Int32) (a : Int32) (b : Int32) (d : Int32) : entryFrame m #[.int t, .int z, .int a, .int b, .int d] 5 = mkF m 0 #[.val (.int t), .val (.int z), .val (.int a), .val (.int b), .val (.int d)] [] := by first | (simp [entryFrame, mkF, argsToLocals, Value.category]; done) | rfl
set_option maxRecDepth 65536 in
set_option maxHeartbeats 40000000 in
theorem m_other (l : Launch) (Z : State) (a0 : Array Value) (hw : ∀ d ∈ tables_1, d.before a0 Z = true) (n0 : Nat) (t : Int32) (z : Int32) (a : Int32) (b : Int32) (d : Int32) (h : Heap) (hn : n0 ≤ h.size) : Met n0 l Z (⟨"com/example/procsh/procsh/service/PartitionMarkPinLaw", "otherMarked", "(IIIII)I"⟩ : MethodName) method_4_code 5 (some .int) ({ frames := 1, cells := 0, slots := 0, locals := 15 } : Room) [] #[.int t, .int z, .int a, .int b, .int d] h (Pu (some (.int (fom t z a b d))) h) := by
  refine enter (plainFor_of_name (by first | (simp [plainName, overriddenIn]; done) | decide +kernel)) (fun m => ef_other m t z a b d) hn ?_
  intro p e s m below meth c T K S
  refine iload_n K S rfl d5_0 ?_
  refine iload_n K S rfl d5_1 ?_
  refine icmp_eq K S d5_2 (fun c2 => ?_) (fun c2 => ?_)
  · refine iconst K S (x := (0 : Int32)) rfl d5_18 ?_
    refine reti K S (by decide) (by decide) d5_19 ?_
    exact ⟨by simp [fom, *], rfl⟩
  refine iload_n K S rfl d5_5 ?_
  refine iload_n K S rfl d5_6 ?_
  refine iload_n K S rfl d5_7 ?_
  refine iload K S rfl d5_8 ?_
  refine callS K S (W := 0) (m_marked l Z a0 hw n0 t a b d h (Sle S) ) (hwi hw 44 rfl) (hwi hw 45 rfl) (hwi hw 46 rfl) (hwi hw 42 rfl) (by decide) (by decide) (by decide) (by decide) (by decide) rfl (argsL := [.int t, .int a, .int b, .int d]) rfl (lenOf pd_6 rfl) (rest := []) rfl (Nat.le_of_eq rfl) d5_10 (pu fun T S => ?_)
  show Wp n0 p e _ s below _ T (mkF m 13 #[.val (.int t), .val (.int z), .val (.int a), .val (.int b), .val (.int d)] [.int (fmk t a b d)])
  refine ific_eq K S d5_13 (fun c13 => ?_) (fun c13 => ?_)
  · refine iconst K S (x := (0 : Int32)) rfl d5_18 ?_
    refine reti K S (by decide) (by decide) d5_19 ?_
    exact ⟨by simp [fom, *], rfl⟩
  refine iconst K S (x := (1 : Int32)) rfl d5_16 ?_
  refine reti K S (by decide) (by decide) d5_17 ?_
  exact ⟨by rw [fom, if_neg c2]; rw [show fmk t a b d = 1 by unfold fmk at c13 ⊢; split at c13 <;> simp_all], rfl⟩

theorem d8_0 : Dc method_5_code 0 (.iload_n 0) 1 1 := ⟨by decide +kernel, rfl⟩
theorem d8_1 : Dc method_5_code 1 (.iload_n 1) 1 2 := ⟨by decide +kernel, rfl⟩
theorem d8_2 : Bc method_5_code 2 (.if_icmp .ne 5) (5) 5 7 := ⟨by decide +kernel, rfl, by decide, by decide⟩
theorem d8_5 : Dc method_5_code 5 (.iconst 1) 1 6 := ⟨by decide +kernel, rfl⟩
theorem d8_6 : Dc method_5_code 6 (.ireturn) 1 7 := ⟨by decide +kernel, rfl⟩
theorem d8_7 : Dc method_5_code 7 (.iload 5) 2 9 := ⟨by decide +kernel, rfl⟩
theorem d8_9 : Bc method_5_code 9 (.ifCond .eq 16) (16) 12 25 := ⟨by decide +kernel, rfl, by decide, by decide⟩
theorem d8_12 : Dc method_5_code 12 (.iload_n 0) 1 13 := ⟨by decide +kernel, rfl⟩
theorem d8_13 : Dc method_5_code 13 (.iload_n 2) 1 14 := ⟨by decide +kernel, rfl⟩
theorem d8_14 : Dc method_5_code 14 (.iload_n 3) 1 15 := ⟨by decide +kernel, rfl⟩
theorem d8_15 : Dc method_5_code 15 (.iload 4) 2 17 := ⟨by decide +kernel, rfl⟩
theorem d8_17 : Dc method_5_code 17 (.invokestatic 32) 3 20 := ⟨by decide +kernel, rfl⟩
theorem d8_20 : Bc method_5_code 20 (.ifCond .eq 5) (5) 23 25 := ⟨by decide +kernel, rfl, by decide, by decide⟩
theorem d8_23 : Dc method_5_code 23 (.iconst 2) 1 24 := ⟨by decide +kernel, rfl⟩
theorem d8_24 : Dc method_5_code 24 (.ireturn) 1 25 := ⟨by decide +kernel, rfl⟩
theorem d8_25 : Dc method_5_code 25 (.iconst 0) 1 26 := ⟨by decide +kernel, rfl⟩
theorem d8_26 : Dc method_5_code 26 (.ireturn) 1 27 := ⟨by decide +kernel, rfl⟩
theorem ef_expd (m : MethodId) (t : Int32) (z : Int32) (a : Int32) (b : Int32) (d : Int32) (sp : Int32) : entryFrame m #[.int t, .int z, .int a, .int b, .int d, .int sp] 6 = mkF m 0 #[.val (.int t), .val (.int z), .val (.int a), .val (.int b), .val (.int d), .val (.int sp)] [] := by first | (simp [entryFrame, mkF, argsToLocals, Value.category]; done) | rfl
set_option maxRecDepth 65536 in
set_option maxHeartbeats 40000000 in
theorem m_expd (l : Launch) (Z : State) (a0 : Array Value) (hw : ∀ d ∈ tables_1, d.before a0 Z = true) (n0 : Nat) (t : Int32) (z : Int32) (a : Int32) (b : Int32) (d : Int32) (sp : Int32) (h : Heap) (hn : n0 ≤ h.size) : Met n0 l Z (⟨"com/example/procsh/procsh/service/PartitionMarkPinLaw", "expected", "(IIIIIZ)I"⟩ : MethodName) method_5_code 6 (some .int) ({ frames := 1, cells := 0, slots := 0, locals := 15 } : Room) [] #[.int t, .int z, .int a, .int b, .int d, .int sp] h (Pu (some (.int (fex t z a b d sp))) h) := by
  refine enter (plainFor_of_name (by first | (simp [plainName, overriddenIn]; done) | decide +kernel)) (fun m => ef_expd m t z a b d sp) hn ?_
  intro p e s m below meth c T K S
  refine iload_n K S rfl d8_0 ?_
  refine iload_n K S rfl d8_1 ?_
  refine icmp_ne K S d8_2 (fun c2 => ?_) (fun c2 => ?_)
  · refine iload K S rfl d8_7 ?_
    refine ific_eq K S d8_9 (fun c9 => ?_) (fun c9 => ?_)
    · refine iconst K S (x := (0 : Int32)) rfl d8_25 ?_
      refine reti K S (by decide) (by decide) d8_26 ?_
      exact ⟨by simp [fex, *], rfl⟩
    refine iload_n K S rfl d8_12 ?_
    refine iload_n K S rfl d8_13 ?_
    refine iload_n K S rfl d8_14 ?_
    refine iload K S rfl d8_15 ?_
    refine callS K S (W := 0) (m_marked l Z a0 hw n0 t a b d h (Sle S) ) (hwi hw 44 rfl) (hwi hw 45 rfl) (hwi hw 46 rfl) (hwi hw 42 rfl) (by decide) (by decide) (by decide) (by decide) (by decide) rfl (argsL := [.int t, .int a, .int b, .int d]) rfl (lenOf pd_6 rfl) (rest := []) rfl (Nat.le_of_eq rfl) d8_17 (pu fun T S => ?_)
    show Wp n0 p e _ s below _ T (mkF m 20 #[.val (.int t), .val (.int z), .val (.int a), .val (.int b), .val (.int d), .val (.int sp)] [.int (fmk t a b d)])
    refine ific_eq K S d8_20 (fun c20 => ?_) (fun c20 => ?_)
    · refine iconst K S (x := (0 : Int32)) rfl d8_25 ?_
      refine reti K S (by decide) (by decide) d8_26 ?_
      exact ⟨by simp [fex, *], rfl⟩
    refine iconst K S (x := (2 : Int32)) rfl d8_23 ?_
    refine reti K S (by decide) (by decide) d8_24 ?_
    exact ⟨by simp [fex, *], rfl⟩
  refine iconst K S (x := (1 : Int32)) rfl d8_5 ?_
  refine reti K S (by decide) (by decide) d8_6 ?_
  exact ⟨by simp [fex, *], rfl⟩

theorem d0_0 : Dc code 0 (.iload_n 0) 1 1 := ⟨at_0, rfl⟩
theorem d0_1 : Dc code 1 (.iconst 3) 1 2 := ⟨at_1, rfl⟩
theorem d0_2 : Dc code 2 (.iand) 1 3 := ⟨at_2, rfl⟩
theorem d0_3 : Dc code 3 (.istore 4) 2 5 := ⟨at_3, rfl⟩
theorem d0_5 : Dc code 5 (.iload_n 1) 1 6 := ⟨at_5, rfl⟩
theorem d0_6 : Dc code 6 (.iconst 3) 1 7 := ⟨at_6, rfl⟩
theorem d0_7 : Dc code 7 (.iand) 1 8 := ⟨at_7, rfl⟩
theorem d0_8 : Dc code 8 (.istore 5) 2 10 := ⟨at_8, rfl⟩
theorem d0_10 : Dc code 10 (.iload_n 2) 1 11 := ⟨at_10, rfl⟩
theorem d0_11 : Dc code 11 (.iconst 3) 1 12 := ⟨at_11, rfl⟩
theorem d0_12 : Dc code 12 (.iand) 1 13 := ⟨at_12, rfl⟩
theorem d0_13 : Dc code 13 (.istore 6) 2 15 := ⟨at_13, rfl⟩
theorem d0_15 : Dc code 15 (.iload_n 3) 1 16 := ⟨at_15, rfl⟩
theorem d0_16 : Dc code 16 (.iconst 3) 1 17 := ⟨at_16, rfl⟩
theorem d0_17 : Dc code 17 (.iand) 1 18 := ⟨at_17, rfl⟩
theorem d0_18 : Dc code 18 (.istore 7) 2 20 := ⟨at_18, rfl⟩
theorem d0_20 : Dc code 20 (.new 7) 3 23 := ⟨at_20, rfl⟩
theorem d0_23 : Dc code 23 (.dup) 1 24 := ⟨at_23, rfl⟩
theorem d0_24 : Dc code 24 (.iconst 4) 1 25 := ⟨at_24, rfl⟩
theorem d0_25 : Dc code 25 (.invokespecial 9) 3 28 := ⟨at_25, rfl⟩
theorem d0_28 : Dc code 28 (.astore 8) 2 30 := ⟨at_28, rfl⟩
theorem d0_30 : Dc code 30 (.aload 8) 2 32 := ⟨at_30, rfl⟩
theorem d0_32 : Dc code 32 (.iload 4) 2 34 := ⟨at_32, rfl⟩
theorem d0_34 : Dc code 34 (.invokevirtual 12) 3 37 := ⟨at_34, rfl⟩
theorem d0_37 : Dc code 37 (.aload 8) 2 39 := ⟨at_37, rfl⟩
theorem d0_39 : Dc code 39 (.invokevirtual 15) 3 42 := ⟨at_39, rfl⟩
theorem d0_42 : Dc code 42 (.aload 8) 2 44 := ⟨at_42, rfl⟩
theorem d0_44 : Dc code 44 (.iload 5) 2 46 := ⟨at_44, rfl⟩
theorem d0_46 : Dc code 46 (.invokevirtual 12) 3 49 := ⟨at_46, rfl⟩
theorem d0_49 : Dc code 49 (.aload 8) 2 51 := ⟨at_49, rfl⟩
theorem d0_51 : Dc code 51 (.iload 6) 2 53 := ⟨at_51, rfl⟩
theorem d0_53 : Dc code 53 (.invokevirtual 12) 3 56 := ⟨at_53, rfl⟩
theorem d0_56 : Dc code 56 (.aload 8) 2 58 := ⟨at_56, rfl⟩
theorem d0_58 : Dc code 58 (.iload 7) 2 60 := ⟨at_58, rfl⟩
theorem d0_60 : Dc code 60 (.invokevirtual 12) 3 63 := ⟨at_60, rfl⟩
theorem d0_63 : Dc code 63 (.aload 8) 2 65 := ⟨at_63, rfl⟩
theorem d0_65 : Dc code 65 (.invokevirtual 15) 3 68 := ⟨at_65, rfl⟩
theorem d0_68 : Dc code 68 (.iconst 0) 1 69 := ⟨at_68, rfl⟩
theorem d0_69 : Dc code 69 (.iload 4) 2 71 := ⟨at_69, rfl⟩
theorem d0_71 : Dc code 71 (.iload 5) 2 73 := ⟨at_71, rfl⟩
theorem d0_73 : Dc code 73 (.iload 6) 2 75 := ⟨at_73, rfl⟩
theorem d0_75 : Dc code 75 (.iload 7) 2 77 := ⟨at_75, rfl⟩
theorem d0_77 : Dc code 77 (.invokestatic 18) 3 80 := ⟨at_77, rfl⟩
theorem d0_80 : Dc code 80 (.iconst 1) 1 81 := ⟨at_80, rfl⟩
theorem d0_81 : Dc code 81 (.iload 4) 2 83 := ⟨at_81, rfl⟩
theorem d0_83 : Dc code 83 (.iload 5) 2 85 := ⟨at_83, rfl⟩
theorem d0_85 : Dc code 85 (.iload 6) 2 87 := ⟨at_85, rfl⟩
theorem d0_87 : Dc code 87 (.iload 7) 2 89 := ⟨at_87, rfl⟩
theorem d0_89 : Dc code 89 (.invokestatic 18) 3 92 := ⟨at_89, rfl⟩
theorem d0_92 : Dc code 92 (.iadd) 1 93 := ⟨at_92, rfl⟩
theorem d0_93 : Dc code 93 (.iconst 2) 1 94 := ⟨at_93, rfl⟩
theorem d0_94 : Dc code 94 (.iload 4) 2 96 := ⟨at_94, rfl⟩
theorem d0_96 : Dc code 96 (.iload 5) 2 98 := ⟨at_96, rfl⟩
theorem d0_98 : Dc code 98 (.iload 6) 2 100 := ⟨at_98, rfl⟩
theorem d0_100 : Dc code 100 (.iload 7) 2 102 := ⟨at_100, rfl⟩
theorem d0_102 : Dc code 102 (.invokestatic 18) 3 105 := ⟨at_102, rfl⟩
theorem d0_105 : Dc code 105 (.iadd) 1 106 := ⟨at_105, rfl⟩
theorem d0_106 : Dc code 106 (.iconst 3) 1 107 := ⟨at_106, rfl⟩
theorem d0_107 : Dc code 107 (.iload 4) 2 109 := ⟨at_107, rfl⟩
theorem d0_109 : Dc code 109 (.iload 5) 2 111 := ⟨at_109, rfl⟩
theorem d0_111 : Dc code 111 (.iload 6) 2 113 := ⟨at_111, rfl⟩
theorem d0_113 : Dc code 113 (.iload 7) 2 115 := ⟨at_113, rfl⟩
theorem d0_115 : Dc code 115 (.invokestatic 18) 3 118 := ⟨at_115, rfl⟩
theorem d0_118 : Dc code 118 (.iadd) 1 119 := ⟨at_118, rfl⟩
theorem d0_119 : Dc code 119 (.istore 9) 2 121 := ⟨at_119, rfl⟩
theorem d0_121 : Dc code 121 (.iload 9) 2 123 := ⟨at_121, rfl⟩
theorem d0_123 : Bc code 123 (.ifCond .le 13) (13) 126 136 := ⟨at_123, rfl, by decide, by decide⟩
theorem d0_126 : Dc code 126 (.iload 9) 2 128 := ⟨at_126, rfl⟩
theorem d0_128 : Dc code 128 (.iconst 3) 1 129 := ⟨at_128, rfl⟩
theorem d0_129 : Bc code 129 (.if_icmp .ge 7) (7) 132 136 := ⟨at_129, rfl, by decide, by decide⟩
theorem d0_132 : Dc code 132 (.iconst 1) 1 133 := ⟨at_132, rfl⟩
theorem d0_133 : Bc code 133 (.goto 4) (4) 136 137 := ⟨at_133, rfl, by decide, by decide⟩
theorem d0_136 : Dc code 136 (.iconst 0) 1 137 := ⟨at_136, rfl⟩
theorem d0_137 : Dc code 137 (.istore 10) 2 139 := ⟨at_137, rfl⟩
theorem d0_139 : Dc code 139 (.aload 8) 2 141 := ⟨at_139, rfl⟩
theorem d0_141 : Dc code 141 (.iconst 0) 1 142 := ⟨at_141, rfl⟩
theorem d0_142 : Dc code 142 (.invokevirtual 24) 3 145 := ⟨at_142, rfl⟩
theorem d0_145 : Dc code 145 (.iconst 0) 1 146 := ⟨at_145, rfl⟩
theorem d0_146 : Dc code 146 (.iload 4) 2 148 := ⟨at_146, rfl⟩
theorem d0_148 : Dc code 148 (.iload 5) 2 150 := ⟨at_148, rfl⟩
theorem d0_150 : Dc code 150 (.iload 6) 2 152 := ⟨at_150, rfl⟩
theorem d0_152 : Dc code 152 (.iload 7) 2 154 := ⟨at_152, rfl⟩
theorem d0_154 : Dc code 154 (.iload 10) 2 156 := ⟨at_154, rfl⟩
theorem d0_156 : Dc code 156 (.invokestatic 28) 3 159 := ⟨at_156, rfl⟩
theorem d0_159 : Bc code 159 (.if_icmp .ne 76) (76) 162 235 := ⟨at_159, rfl, by decide, by decide⟩
theorem d0_162 : Dc code 162 (.aload 8) 2 164 := ⟨at_162, rfl⟩
theorem d0_164 : Dc code 164 (.iconst 1) 1 165 := ⟨at_164, rfl⟩
theorem d0_165 : Dc code 165 (.invokevirtual 24) 3 168 := ⟨at_165, rfl⟩
theorem d0_168 : Dc code 168 (.iconst 1) 1 169 := ⟨at_168, rfl⟩
theorem d0_169 : Dc code 169 (.iload 4) 2 171 := ⟨at_169, rfl⟩
theorem d0_171 : Dc code 171 (.iload 5) 2 173 := ⟨at_171, rfl⟩
theorem d0_173 : Dc code 173 (.iload 6) 2 175 := ⟨at_173, rfl⟩
theorem d0_175 : Dc code 175 (.iload 7) 2 177 := ⟨at_175, rfl⟩
theorem d0_177 : Dc code 177 (.iload 10) 2 179 := ⟨at_177, rfl⟩
theorem d0_179 : Dc code 179 (.invokestatic 28) 3 182 := ⟨at_179, rfl⟩
theorem d0_182 : Bc code 182 (.if_icmp .ne 53) (53) 185 235 := ⟨at_182, rfl, by decide, by decide⟩
theorem d0_185 : Dc code 185 (.aload 8) 2 187 := ⟨at_185, rfl⟩
theorem d0_187 : Dc code 187 (.iconst 2) 1 188 := ⟨at_187, rfl⟩
theorem d0_188 : Dc code 188 (.invokevirtual 24) 3 191 := ⟨at_188, rfl⟩
theorem d0_191 : Dc code 191 (.iconst 2) 1 192 := ⟨at_191, rfl⟩
theorem d0_192 : Dc code 192 (.iload 4) 2 194 := ⟨at_192, rfl⟩
theorem d0_194 : Dc code 194 (.iload 5) 2 196 := ⟨at_194, rfl⟩
theorem d0_196 : Dc code 196 (.iload 6) 2 198 := ⟨at_196, rfl⟩
theorem d0_198 : Dc code 198 (.iload 7) 2 200 := ⟨at_198, rfl⟩
theorem d0_200 : Dc code 200 (.iload 10) 2 202 := ⟨at_200, rfl⟩
theorem d0_202 : Dc code 202 (.invokestatic 28) 3 205 := ⟨at_202, rfl⟩
theorem d0_205 : Bc code 205 (.if_icmp .ne 30) (30) 208 235 := ⟨at_205, rfl, by decide, by decide⟩
theorem d0_208 : Dc code 208 (.aload 8) 2 210 := ⟨at_208, rfl⟩
theorem d0_210 : Dc code 210 (.iconst 3) 1 211 := ⟨at_210, rfl⟩
theorem d0_211 : Dc code 211 (.invokevirtual 24) 3 214 := ⟨at_211, rfl⟩
theorem d0_214 : Dc code 214 (.iconst 3) 1 215 := ⟨at_214, rfl⟩
theorem d0_215 : Dc code 215 (.iload 4) 2 217 := ⟨at_215, rfl⟩
theorem d0_217 : Dc code 217 (.iload 5) 2 219 := ⟨at_217, rfl⟩
theorem d0_219 : Dc code 219 (.iload 6) 2 221 := ⟨at_219, rfl⟩
theorem d0_221 : Dc code 221 (.iload 7) 2 223 := ⟨at_221, rfl⟩
theorem d0_223 : Dc code 223 (.iload 10) 2 225 := ⟨at_223, rfl⟩
theorem d0_225 : Dc code 225 (.invokestatic 28) 3 228 := ⟨at_225, rfl⟩
theorem d0_228 : Bc code 228 (.if_icmp .ne 7) (7) 231 235 := ⟨at_228, rfl, by decide, by decide⟩
theorem d0_231 : Dc code 231 (.iconst 1) 1 232 := ⟨at_231, rfl⟩
theorem d0_232 : Bc code 232 (.goto 4) (4) 235 236 := ⟨at_232, rfl, by decide, by decide⟩
theorem d0_235 : Dc code 235 (.iconst 0) 1 236 := ⟨at_235, rfl⟩
theorem d0_236 : Dc code 236 (.ireturn) 1 237 := ⟨at_236, rfl⟩
theorem pd_1 : parseMethodDescriptor "(I)V" = some ⟨[.int], none⟩ := by decide +kernel
theorem pd_3 : parseMethodDescriptor "(I)V" = some ⟨[.int], none⟩ := by decide +kernel
theorem pd_4 : parseMethodDescriptor "()V" = some ⟨[], none⟩ := by decide +kernel
theorem pd_5 : parseMethodDescriptor "(IIIII)I" = some ⟨[.int, .int, .int, .int, .int], (some .int)⟩ := by decide +kernel
theorem pd_7 : parseMethodDescriptor "(I)I" = some ⟨[.int], (some .int)⟩ := by decide +kernel
theorem pd_8 : parseMethodDescriptor "(IIIIIZ)I" = some ⟨[.int, .int, .int, .int, .int, .boolean], (some .int)⟩ := by decide +kernel
theorem ef_law (m : MethodId) (x0 : Int32) (x1 : Int32) (x2 : Int32) (x3 : Int32) : entryFrame m #[.int x0, .int x1, .int x2, .int x3] maxLocals = mkF m 0 #[.val (.int x0), .val (.int x1), .val (.int x2), .val (.int x3), .unset, .unset, .unset, .unset, .unset, .unset, .unset] [] := by first | (simp [entryFrame, mkF, argsToLocals, Value.category, maxLocals]; done) | rfl
set_option maxRecDepth 65536 in
set_option maxHeartbeats 40000000 in
theorem m_law (l : Launch) (Z : State) (a0 : Array Value) (hw : ∀ d ∈ tables_1, d.before a0 Z = true) (n0 : Nat) (x0 : Int32) (x1 : Int32) (x2 : Int32) (x3 : Int32) (h : Heap) (hn : n0 ≤ h.size) : Met n0 l Z x code maxLocals ret room_1 tables_1 #[.int x0, .int x1, .int x2, .int x3] h (fun v _ => v = some (.int 1)) := by
  refine enter (plainFor_of_name (by first | (simp [plainName, overriddenIn, x]; done) | decide +kernel)) (fun m => ef_law m x0 x1 x2 x3) hn ?_
  intro p e s m below meth c T K S
  refine iload_n K S rfl d0_0 ?_
  refine iconst K S (x := (3 : Int32)) rfl d0_1 ?_
  refine iand K S d0_2 ?_
  refine nmI fun s0 hs0 => ?_
  refine istore K S (l' := #[.val (.int x0), .val (.int x1), .val (.int x2), .val (.int x3), .val (.int s0), .unset, .unset, .unset, .unset, .unset, .unset]) rfl d0_3 ?_
  refine iload_n K S rfl d0_5 ?_
  refine iconst K S (x := (3 : Int32)) rfl d0_6 ?_
  refine iand K S d0_7 ?_
  refine nmI fun a1 ha1 => ?_
  refine istore K S (l' := #[.val (.int x0), .val (.int x1), .val (.int x2), .val (.int x3), .val (.int s0), .val (.int a1), .unset, .unset, .unset, .unset, .unset]) rfl d0_8 ?_
  refine iload_n K S rfl d0_10 ?_
  refine iconst K S (x := (3 : Int32)) rfl d0_11 ?_
  refine iand K S d0_12 ?_
  refine nmI fun b1 hb1 => ?_
  refine istore K S (l' := #[.val (.int x0), .val (.int x1), .val (.int x2), .val (.int x3), .val (.int s0), .val (.int a1), .val (.int b1), .unset, .unset, .unset, .unset]) rfl d0_13 ?_
  refine iload_n K S rfl d0_15 ?_
  refine iconst K S (x := (3 : Int32)) rfl d0_16 ?_
  refine iand K S d0_17 ?_
  refine nmI fun d1 hd1 => ?_
  refine istore K S (l' := #[.val (.int x0), .val (.int x1), .val (.int x2), .val (.int x3), .val (.int s0), .val (.int a1), .val (.int b1), .val (.int d1), .unset, .unset, .unset]) rfl d0_18 ?_
  refine new K S (hwi hw 0 rfl) (hwi hw 1 rfl) (hwi hw 2 rfl) (by decide) (by decide) d0_20 fun T h20_1 o20 z_o20 g_o20 X E_o20 D S => ?_
  have F_elements_o20 : Fld Z h20_1 o20 "com/example/procsh/procsh/service/Partition" "elements" "[I" (.null) := D (Or.inr (hwi hw 11 rfl)) (ty := .array .int) (by decide)
  have F_positionOf_o20 : Fld Z h20_1 o20 "com/example/procsh/procsh/service/Partition" "positionOf" "[I" (.null) := D (Or.inr (hwi hw 13 rfl)) (ty := .array .int) (by decide)
  have F_blockOf_o20 : Fld Z h20_1 o20 "com/example/procsh/procsh/service/Partition" "blockOf" "[I" (.null) := D (Or.inr (hwi hw 15 rfl)) (ty := .array .int) (by decide)
  have F_blockStart_o20 : Fld Z h20_1 o20 "com/example/procsh/procsh/service/Partition" "blockStart" "[I" (.null) := D (Or.inr (hwi hw 17 rfl)) (ty := .array .int) (by decide)
  have F_blockEnd_o20 : Fld Z h20_1 o20 "com/example/procsh/procsh/service/Partition" "blockEnd" "[I" (.null) := D (Or.inr (hwi hw 19 rfl)) (ty := .array .int) (by decide)
  have F_markedEnd_o20 : Fld Z h20_1 o20 "com/example/procsh/procsh/service/Partition" "markedEnd" "[I" (.null) := D (Or.inr (hwi hw 21 rfl)) (ty := .array .int) (by decide)
  have F_origin_o20 : Fld Z h20_1 o20 "com/example/procsh/procsh/service/Partition" "origin" "[I" (.null) := D (Or.inr (hwi hw 23 rfl)) (ty := .array .int) (by decide)
  have F_touchedBlocks_o20 : Fld Z h20_1 o20 "com/example/procsh/procsh/service/Partition" "touchedBlocks" "[I" (.null) := D (Or.inr (hwi hw 25 rfl)) (ty := .array .int) (by decide)
  have F_blocks_o20 : Fld Z h20_1 o20 "com/example/procsh/procsh/service/Partition" "blocks" "I" (.int (0 : Int32)) := D (Or.inl (hwi hw 27 rfl)) (ty := .int) (by decide)
  have F_touched_o20 : Fld Z h20_1 o20 "com/example/procsh/procsh/service/Partition" "touched" "I" (.int (0 : Int32)) := D (Or.inl (hwi hw 34 rfl)) (ty := .int) (by decide)
  clear D X
  refine dup K S rfl d0_23 ?_
  refine iconst K S (x := (4 : Int32)) rfl d0_24 ?_
  refine callC K S (W := 1) (m_init l Z a0 hw n0 o20 h20_1 (Sle S) g_o20 E_o20 F_elements_o20 F_positionOf_o20 F_blockOf_o20 F_blockStart_o20 F_blockEnd_o20 F_markedEnd_o20 F_origin_o20 F_touchedBlocks_o20 F_blocks_o20 F_touched_o20) rfl rfl (hwi hw 3 rfl) (hwi hw 4 rfl) (hwi hw 5 rfl) (hwi hw 2 rfl) (by decide) (by decide) (by decide) (by decide) (by decide) rfl (argsL := [.int (4 : Int32)]) rfl (lenOf pd_1 rfl) (rest := [.ref o20]) rfl (Nat.le_of_eq rfl) d0_25 (ef fun T h25_2 hP S => ?_)
  obtain ⟨p0, p1, p2, p3, p4, p5, p6, p7, D, H⟩ := hP
  clear F_elements_o20
  clear F_positionOf_o20
  clear F_blockOf_o20
  clear F_blockStart_o20
  clear F_blockEnd_o20
  clear F_markedEnd_o20
  clear F_origin_o20
  clear F_touchedBlocks_o20
  clear F_blocks_o20
  clear F_touched_o20
  replace E_o20 := H.1
  obtain ⟨j0, ha'⟩ := own_fin4 x0
  have ha := hs0.trans ha'
  obtain ⟨j1, hb'⟩ := own_fin4 x1
  have hb := ha1.trans hb'
  obtain ⟨j2, hd'⟩ := own_fin4 x2
  have hd := hb1.trans hd'
  obtain ⟨j3, he'⟩ := own_fin4 x3
  have he := hd1.trans he'
  obtain ⟨L1, h1⟩ : ∃ z, z = fmark L0 s0 := ⟨_, rfl⟩
  obtain ⟨L2, h2⟩ : ∃ z, z = fspl L1 := ⟨_, rfl⟩
  obtain ⟨L3, h3⟩ : ∃ z, z = fmark L2 a1 := ⟨_, rfl⟩
  obtain ⟨L4, h4⟩ : ∃ z, z = fmark L3 b1 := ⟨_, rfl⟩
  obtain ⟨L5, h5⟩ : ∃ z, z = fmark L4 d1 := ⟨_, rfl⟩
  obtain ⟨L6, h6⟩ : ∃ z, z = fspl L5 := ⟨_, rfl⟩
  obtain ⟨⟨⟨k1, k2, k3, k4, k5, k6⟩, b0, b1', b2, b3⟩, -⟩ := own_ex ha hb hd he rfl h1 h2 h3 h4 h5 h6
  show Wp n0 p e _ s below _ T (mkF m 28 #[.val (.int x0), .val (.int x1), .val (.int x2), .val (.int x3), .val (.int s0), .val (.int a1), .val (.int b1), .val (.int d1), .unset, .unset, .unset] [.ref o20])
  refine astore K S (l' := #[.val (.int x0), .val (.int x1), .val (.int x2), .val (.int x3), .val (.int s0), .val (.int a1), .val (.int b1), .val (.int d1), .val (.ref o20), .unset, .unset]) rfl rfl d0_28 ?_
  refine aload K S rfl rfl d0_30 ?_
  refine iload K S rfl d0_32 ?_
  refine callV K S (W := 0) (m_mark l Z a0 hw n0 o20 p0 p1 p2 p3 p4 p5 p6 p7 s0 L0 h25_2 (Sle S) D H k1) E_o20 (hwi hw 28 rfl) (hwi hw 29 rfl) (hwi hw 31 rfl) (hwi hw 30 rfl) (hwi hw 32 rfl) (hwi hw 2 rfl) (by decide) (by decide) (by decide) (by decide) (by decide) rfl (argsL := [.int s0]) rfl (lenOf pd_3 rfl) (rest := []) rfl (Nat.le_of_eq rfl) d0_34 (ef fun T h34_3 hP S => ?_)
  rw [← h1] at hP
  have H := hP
  replace E_o20 := H.1
  show Wp n0 p e _ s below _ T (mkF m 37 #[.val (.int x0), .val (.int x1), .val (.int x2), .val (.int x3), .val (.int s0), .val (.int a1), .val (.int b1), .val (.int d1), .val (.ref o20), .unset, .unset] [])
  refine aload K S rfl rfl d0_37 ?_
  refine callV K S (W := 0) (m_split l Z a0 hw n0 o20 p0 p1 p2 p3 p4 p5 p6 p7 L1 h34_3 (Sle S) D H k2) E_o20 (hwi hw 35 rfl) (hwi hw 36 rfl) (hwi hw 38 rfl) (hwi hw 37 rfl) (hwi hw 39 rfl) (hwi hw 2 rfl) (by decide) (by decide) (by decide) (by decide) (by decide) rfl (argsL := []) rfl (lenOf pd_4 rfl) (rest := []) rfl (Nat.le_of_eq rfl) d0_39 (ef fun T h39_4 hP S => ?_)
  rw [← h2] at hP
  have H := hP
  replace E_o20 := H.1
  show Wp n0 p e _ s below _ T (mkF m 42 #[.val (.int x0), .val (.int x1), .val (.int x2), .val (.int x3), .val (.int s0), .val (.int a1), .val (.int b1), .val (.int d1), .val (.ref o20), .unset, .unset] [])
  refine aload K S rfl rfl d0_42 ?_
  refine iload K S rfl d0_44 ?_
  refine callV K S (W := 0) (m_mark l Z a0 hw n0 o20 p0 p1 p2 p3 p4 p5 p6 p7 a1 L2 h39_4 (Sle S) D H k3) E_o20 (hwi hw 28 rfl) (hwi hw 29 rfl) (hwi hw 31 rfl) (hwi hw 30 rfl) (hwi hw 32 rfl) (hwi hw 2 rfl) (by decide) (by decide) (by decide) (by decide) (by decide) rfl (argsL := [.int a1]) rfl (lenOf pd_3 rfl) (rest := []) rfl (Nat.le_of_eq rfl) d0_46 (ef fun T h46_5 hP S => ?_)
  rw [← h3] at hP
  have H := hP
  replace E_o20 := H.1
  show Wp n0 p e _ s below _ T (mkF m 49 #[.val (.int x0), .val (.int x1), .val (.int x2), .val (.int x3), .val (.int s0), .val (.int a1), .val (.int b1), .val (.int d1), .val (.ref o20), .unset, .unset] [])
  refine aload K S rfl rfl d0_49 ?_
  refine iload K S rfl d0_51 ?_
  refine callV K S (W := 0) (m_mark l Z a0 hw n0 o20 p0 p1 p2 p3 p4 p5 p6 p7 b1 L3 h46_5 (Sle S) D H k4) E_o20 (hwi hw 28 rfl) (hwi hw 29 rfl) (hwi hw 31 rfl) (hwi hw 30 rfl) (hwi hw 32 rfl) (hwi hw 2 rfl) (by decide) (by decide) (by decide) (by decide) (by decide) rfl (argsL := [.int b1]) rfl (lenOf pd_3 rfl) (rest := []) rfl (Nat.le_of_eq rfl) d0_53 (ef fun T h53_6 hP S => ?_)
  rw [← h4] at hP
  have H := hP
  replace E_o20 := H.1
  show Wp n0 p e _ s below _ T (mkF m 56 #[.val (.int x0), .val (.int x1), .val (.int x2), .val (.int x3), .val (.int s0), .val (.int a1), .val (.int b1), .val (.int d1), .val (.ref o20), .unset, .unset] [])
  refine aload K S rfl rfl d0_56 ?_
  refine iload K S rfl d0_58 ?_
  refine callV K S (W := 0) (m_mark l Z a0 hw n0 o20 p0 p1 p2 p3 p4 p5 p6 p7 d1 L4 h53_6 (Sle S) D H k5) E_o20 (hwi hw 28 rfl) (hwi hw 29 rfl) (hwi hw 31 rfl) (hwi hw 30 rfl) (hwi hw 32 rfl) (hwi hw 2 rfl) (by decide) (by decide) (by decide) (by decide) (by decide) rfl (argsL := [.int d1]) rfl (lenOf pd_3 rfl) (rest := []) rfl (Nat.le_of_eq rfl) d0_60 (ef fun T h60_7 hP S => ?_)
  rw [← h5] at hP
  have H := hP
  replace E_o20 := H.1
  show Wp n0 p e _ s below _ T (mkF m 63 #[.val (.int x0), .val (.int x1), .val (.int x2), .val (.int x3), .val (.int s0), .val (.int a1), .val (.int b1), .val (.int d1), .val (.ref o20), .unset, .unset] [])
  refine aload K S rfl rfl d0_63 ?_
  refine callV K S (W := 0) (m_split l Z a0 hw n0 o20 p0 p1 p2 p3 p4 p5 p6 p7 L5 h60_7 (Sle S) D H k6) E_o20 (hwi hw 35 rfl) (hwi hw 36 rfl) (hwi hw 38 rfl) (hwi hw 37 rfl) (hwi hw 39 rfl) (hwi hw 2 rfl) (by decide) (by decide) (by decide) (by decide) (by decide) rfl (argsL := []) rfl (lenOf pd_4 rfl) (rest := []) rfl (Nat.le_of_eq rfl) d0_65 (ef fun T h65_8 hP S => ?_)
  rw [← h6] at hP
  have H := hP
  replace E_o20 := H.1
  show Wp n0 p e _ s below _ T (mkF m 68 #[.val (.int x0), .val (.int x1), .val (.int x2), .val (.int x3), .val (.int s0), .val (.int a1), .val (.int b1), .val (.int d1), .val (.ref o20), .unset, .unset] [])
  refine iconst K S (x := (0 : Int32)) rfl d0_68 ?_
  refine iload K S rfl d0_69 ?_
  refine iload K S rfl d0_71 ?_
  refine iload K S rfl d0_73 ?_
  refine iload K S rfl d0_75 ?_
  refine callS K S (W := 0) (m_other l Z a0 hw n0 (0 : Int32) s0 a1 b1 d1 h65_8 (Sle S) ) (hwi hw 40 rfl) (hwi hw 41 rfl) (hwi hw 43 rfl) (hwi hw 42 rfl) (by decide) (by decide) (by decide) (by decide) (by decide) rfl (argsL := [.int (0 : Int32), .int s0, .int a1, .int b1, .int d1]) rfl (lenOf pd_5 rfl) (rest := []) rfl (Nat.le_of_eq rfl) d0_77 (pu fun T S => ?_)
  show Wp n0 p e _ s below _ T (mkF m 80 #[.val (.int x0), .val (.int x1), .val (.int x2), .val (.int x3), .val (.int s0), .val (.int a1), .val (.int b1), .val (.int d1), .val (.ref o20), .unset, .unset] [.int (fom (0 : Int32) s0 a1 b1 d1)])
  refine iconst K S (x := (1 : Int32)) rfl d0_80 ?_
  refine iload K S rfl d0_81 ?_
  refine iload K S rfl d0_83 ?_
  refine iload K S rfl d0_85 ?_
  refine iload K S rfl d0_87 ?_
  refine callS K S (W := 1) (m_other l Z a0 hw n0 (1 : Int32) s0 a1 b1 d1 h65_8 (Sle S) ) (hwi hw 40 rfl) (hwi hw 41 rfl) (hwi hw 43 rfl) (hwi hw 42 rfl) (by decide) (by decide) (by decide) (by decide) (by decide) rfl (argsL := [.int (1 : Int32), .int s0, .int a1, .int b1, .int d1]) rfl (lenOf pd_5 rfl) (rest := [.int (fom (0 : Int32) s0 a1 b1 d1)]) rfl (Nat.le_of_eq rfl) d0_89 (pu fun T S => ?_)
  show Wp n0 p e _ s below _ T (mkF m 92 #[.val (.int x0), .val (.int x1), .val (.int x2), .val (.int x3), .val (.int s0), .val (.int a1), .val (.int b1), .val (.int d1), .val (.ref o20), .unset, .unset] [.int (fom (1 : Int32) s0 a1 b1 d1), .int (fom (0 : Int32) s0 a1 b1 d1)])
  refine iadd K S d0_92 ?_
  refine iconst K S (x := (2 : Int32)) rfl d0_93 ?_
  refine iload K S rfl d0_94 ?_
  refine iload K S rfl d0_96 ?_
  refine iload K S rfl d0_98 ?_
  refine iload K S rfl d0_100 ?_
  refine callS K S (W := 1) (m_other l Z a0 hw n0 (2 : Int32) s0 a1 b1 d1 h65_8 (Sle S) ) (hwi hw 40 rfl) (hwi hw 41 rfl) (hwi hw 43 rfl) (hwi hw 42 rfl) (by decide) (by decide) (by decide) (by decide) (by decide) rfl (argsL := [.int (2 : Int32), .int s0, .int a1, .int b1, .int d1]) rfl (lenOf pd_5 rfl) (rest := [.int ((fom (0 : Int32) s0 a1 b1 d1) + (fom (1 : Int32) s0 a1 b1 d1))]) rfl (Nat.le_of_eq rfl) d0_102 (pu fun T S => ?_)
  show Wp n0 p e _ s below _ T (mkF m 105 #[.val (.int x0), .val (.int x1), .val (.int x2), .val (.int x3), .val (.int s0), .val (.int a1), .val (.int b1), .val (.int d1), .val (.ref o20), .unset, .unset] [.int (fom (2 : Int32) s0 a1 b1 d1), .int ((fom (0 : Int32) s0 a1 b1 d1) + (fom (1 : Int32) s0 a1 b1 d1))])
  refine iadd K S d0_105 ?_
  refine iconst K S (x := (3 : Int32)) rfl d0_106 ?_
  refine iload K S rfl d0_107 ?_
  refine iload K S rfl d0_109 ?_
  refine iload K S rfl d0_111 ?_
  refine iload K S rfl d0_113 ?_
  refine callS K S (W := 1) (m_other l Z a0 hw n0 (3 : Int32) s0 a1 b1 d1 h65_8 (Sle S) ) (hwi hw 40 rfl) (hwi hw 41 rfl) (hwi hw 43 rfl) (hwi hw 42 rfl) (by decide) (by decide) (by decide) (by decide) (by decide) rfl (argsL := [.int (3 : Int32), .int s0, .int a1, .int b1, .int d1]) rfl (lenOf pd_5 rfl) (rest := [.int (((fom (0 : Int32) s0 a1 b1 d1) + (fom (1 : Int32) s0 a1 b1 d1)) + (fom (2 : Int32) s0 a1 b1 d1))]) rfl (Nat.le_of_eq rfl) d0_115 (pu fun T S => ?_)
  show Wp n0 p e _ s below _ T (mkF m 118 #[.val (.int x0), .val (.int x1), .val (.int x2), .val (.int x3), .val (.int s0), .val (.int a1), .val (.int b1), .val (.int d1), .val (.ref o20), .unset, .unset] [.int (fom (3 : Int32) s0 a1 b1 d1), .int (((fom (0 : Int32) s0 a1 b1 d1) + (fom (1 : Int32) s0 a1 b1 d1)) + (fom (2 : Int32) s0 a1 b1 d1))])
  refine iadd K S d0_118 ?_
  refine nmI fun K1 hK1 => ?_
  refine istore K S (l' := #[.val (.int x0), .val (.int x1), .val (.int x2), .val (.int x3), .val (.int s0), .val (.int a1), .val (.int b1), .val (.int d1), .val (.ref o20), .val (.int K1), .unset]) rfl d0_119 ?_
  have hK := hK1
  refine iload K S rfl d0_121 ?_
  refine ific_le K S d0_123 (fun c123 => ?_) (fun c123 => ?_)
  · refine iconst K S (x := (0 : Int32)) rfl d0_136 ?_
    refine istore K S (l' := #[.val (.int x0), .val (.int x1), .val (.int x2), .val (.int x3), .val (.int s0), .val (.int a1), .val (.int b1), .val (.int d1), .val (.ref o20), .val (.int K1), .val (.int (0 : Int32))]) rfl d0_137 ?_
    have hf := (own_ex ha hb hd he hK h1 h2 h3 h4 h5 h6).2
    rw [if_neg (fun q => c123 q.1)] at hf
    obtain ⟨f0, f1, f2, f3⟩ := hf
    refine aload K S rfl rfl d0_139 ?_
    refine iconst K S (x := (0 : Int32)) rfl d0_141 ?_
    refine callV K S (W := 0) (m_blockOf l Z a0 hw n0 o20 p0 p1 p2 p3 p4 p5 p6 p7 (0 : Int32) L6 h65_8 (Sle S) H b0) E_o20 (hwi hw 47 rfl) (hwi hw 48 rfl) (hwi hw 50 rfl) (hwi hw 49 rfl) (hwi hw 51 rfl) (hwi hw 2 rfl) (by decide) (by decide) (by decide) (by decide) (by decide) rfl (argsL := [.int (0 : Int32)]) rfl (lenOf pd_7 rfl) (rest := []) rfl (Nat.le_of_eq rfl) d0_142 (pu fun T S => ?_)
    show Wp n0 p e _ s below _ T (mkF m 145 #[.val (.int x0), .val (.int x1), .val (.int x2), .val (.int x3), .val (.int s0), .val (.int a1), .val (.int b1), .val (.int d1), .val (.ref o20), .val (.int K1), .val (.int (0 : Int32))] [.int (lget (row L6 2) (0 : Int32))])
    refine iconst K S (x := (0 : Int32)) rfl d0_145 ?_
    refine iload K S rfl d0_146 ?_
    refine iload K S rfl d0_148 ?_
    refine iload K S rfl d0_150 ?_
    refine iload K S rfl d0_152 ?_
    refine iload K S rfl d0_154 ?_
    refine callS K S (W := 1) (m_expd l Z a0 hw n0 (0 : Int32) s0 a1 b1 d1 (0 : Int32) h65_8 (Sle S) ) (hwi hw 52 rfl) (hwi hw 53 rfl) (hwi hw 54 rfl) (hwi hw 42 rfl) (by decide) (by decide) (by decide) (by decide) (by decide) rfl (argsL := [.int (0 : Int32), .int s0, .int a1, .int b1, .int d1, .int (0 : Int32)]) rfl (lenOf pd_8 rfl) (rest := [.int (lget (row L6 2) (0 : Int32))]) rfl (Nat.le_of_eq rfl) d0_156 (pu fun T S => ?_)
    show Wp n0 p e _ s below _ T (mkF m 159 #[.val (.int x0), .val (.int x1), .val (.int x2), .val (.int x3), .val (.int s0), .val (.int a1), .val (.int b1), .val (.int d1), .val (.ref o20), .val (.int K1), .val (.int (0 : Int32))] [.int (fex (0 : Int32) s0 a1 b1 d1 (0 : Int32)), .int (lget (row L6 2) (0 : Int32))])
    refine icmp_ne K S d0_159 (fun c159 => ?_) (fun c159 => ?_)
    · exact absurd f0 c159
    refine aload K S rfl rfl d0_162 ?_
    refine iconst K S (x := (1 : Int32)) rfl d0_164 ?_
    refine callV K S (W := 0) (m_blockOf l Z a0 hw n0 o20 p0 p1 p2 p3 p4 p5 p6 p7 (1 : Int32) L6 h65_8 (Sle S) H b1') E_o20 (hwi hw 47 rfl) (hwi hw 48 rfl) (hwi hw 50 rfl) (hwi hw 49 rfl) (hwi hw 51 rfl) (hwi hw 2 rfl) (by decide) (by decide) (by decide) (by decide) (by decide) rfl (argsL := [.int (1 : Int32)]) rfl (lenOf pd_7 rfl) (rest := []) rfl (Nat.le_of_eq rfl) d0_165 (pu fun T S => ?_)
    show Wp n0 p e _ s below _ T (mkF m 168 #[.val (.int x0), .val (.int x1), .val (.int x2), .val (.int x3), .val (.int s0), .val (.int a1), .val (.int b1), .val (.int d1), .val (.ref o20), .val (.int K1), .val (.int (0 : Int32))] [.int (lget (row L6 2) (1 : Int32))])
    refine iconst K S (x := (1 : Int32)) rfl d0_168 ?_
    refine iload K S rfl d0_169 ?_
    refine iload K S rfl d0_171 ?_
    refine iload K S rfl d0_173 ?_
    refine iload K S rfl d0_175 ?_
    refine iload K S rfl d0_177 ?_
    refine callS K S (W := 1) (m_expd l Z a0 hw n0 (1 : Int32) s0 a1 b1 d1 (0 : Int32) h65_8 (Sle S) ) (hwi hw 52 rfl) (hwi hw 53 rfl) (hwi hw 54 rfl) (hwi hw 42 rfl) (by decide) (by decide) (by decide) (by decide) (by decide) rfl (argsL := [.int (1 : Int32), .int s0, .int a1, .int b1, .int d1, .int (0 : Int32)]) rfl (lenOf pd_8 rfl) (rest := [.int (lget (row L6 2) (1 : Int32))]) rfl (Nat.le_of_eq rfl) d0_179 (pu fun T S => ?_)
    show Wp n0 p e _ s below _ T (mkF m 182 #[.val (.int x0), .val (.int x1), .val (.int x2), .val (.int x3), .val (.int s0), .val (.int a1), .val (.int b1), .val (.int d1), .val (.ref o20), .val (.int K1), .val (.int (0 : Int32))] [.int (fex (1 : Int32) s0 a1 b1 d1 (0 : Int32)), .int (lget (row L6 2) (1 : Int32))])
    refine icmp_ne K S d0_182 (fun c182 => ?_) (fun c182 => ?_)
    · exact absurd f1 c182
    refine aload K S rfl rfl d0_185 ?_
    refine iconst K S (x := (2 : Int32)) rfl d0_187 ?_
    refine callV K S (W := 0) (m_blockOf l Z a0 hw n0 o20 p0 p1 p2 p3 p4 p5 p6 p7 (2 : Int32) L6 h65_8 (Sle S) H b2) E_o20 (hwi hw 47 rfl) (hwi hw 48 rfl) (hwi hw 50 rfl) (hwi hw 49 rfl) (hwi hw 51 rfl) (hwi hw 2 rfl) (by decide) (by decide) (by decide) (by decide) (by decide) rfl (argsL := [.int (2 : Int32)]) rfl (lenOf pd_7 rfl) (rest := []) rfl (Nat.le_of_eq rfl) d0_188 (pu fun T S => ?_)
    show Wp n0 p e _ s below _ T (mkF m 191 #[.val (.int x0), .val (.int x1), .val (.int x2), .val (.int x3), .val (.int s0), .val (.int a1), .val (.int b1), .val (.int d1), .val (.ref o20), .val (.int K1), .val (.int (0 : Int32))] [.int (lget (row L6 2) (2 : Int32))])
    refine iconst K S (x := (2 : Int32)) rfl d0_191 ?_
    refine iload K S rfl d0_192 ?_
    refine iload K S rfl d0_194 ?_
    refine iload K S rfl d0_196 ?_
    refine iload K S rfl d0_198 ?_
    refine iload K S rfl d0_200 ?_
    refine callS K S (W := 1) (m_expd l Z a0 hw n0 (2 : Int32) s0 a1 b1 d1 (0 : Int32) h65_8 (Sle S) ) (hwi hw 52 rfl) (hwi hw 53 rfl) (hwi hw 54 rfl) (hwi hw 42 rfl) (by decide) (by decide) (by decide) (by decide) (by decide) rfl (argsL := [.int (2 : Int32), .int s0, .int a1, .int b1, .int d1, .int (0 : Int32)]) rfl (lenOf pd_8 rfl) (rest := [.int (lget (row L6 2) (2 : Int32))]) rfl (Nat.le_of_eq rfl) d0_202 (pu fun T S => ?_)
    show Wp n0 p e _ s below _ T (mkF m 205 #[.val (.int x0), .val (.int x1), .val (.int x2), .val (.int x3), .val (.int s0), .val (.int a1), .val (.int b1), .val (.int d1), .val (.ref o20), .val (.int K1), .val (.int (0 : Int32))] [.int (fex (2 : Int32) s0 a1 b1 d1 (0 : Int32)), .int (lget (row L6 2) (2 : Int32))])
    refine icmp_ne K S d0_205 (fun c205 => ?_) (fun c205 => ?_)
    · exact absurd f2 c205
    refine aload K S rfl rfl d0_208 ?_
    refine iconst K S (x := (3 : Int32)) rfl d0_210 ?_
    refine callV K S (W := 0) (m_blockOf l Z a0 hw n0 o20 p0 p1 p2 p3 p4 p5 p6 p7 (3 : Int32) L6 h65_8 (Sle S) H b3) E_o20 (hwi hw 47 rfl) (hwi hw 48 rfl) (hwi hw 50 rfl) (hwi hw 49 rfl) (hwi hw 51 rfl) (hwi hw 2 rfl) (by decide) (by decide) (by decide) (by decide) (by decide) rfl (argsL := [.int (3 : Int32)]) rfl (lenOf pd_7 rfl) (rest := []) rfl (Nat.le_of_eq rfl) d0_211 (pu fun T S => ?_)
    show Wp n0 p e _ s below _ T (mkF m 214 #[.val (.int x0), .val (.int x1), .val (.int x2), .val (.int x3), .val (.int s0), .val (.int a1), .val (.int b1), .val (.int d1), .val (.ref o20), .val (.int K1), .val (.int (0 : Int32))] [.int (lget (row L6 2) (3 : Int32))])
    refine iconst K S (x := (3 : Int32)) rfl d0_214 ?_
    refine iload K S rfl d0_215 ?_
    refine iload K S rfl d0_217 ?_
    refine iload K S rfl d0_219 ?_
    refine iload K S rfl d0_221 ?_
    refine iload K S rfl d0_223 ?_
    refine callS K S (W := 1) (m_expd l Z a0 hw n0 (3 : Int32) s0 a1 b1 d1 (0 : Int32) h65_8 (Sle S) ) (hwi hw 52 rfl) (hwi hw 53 rfl) (hwi hw 54 rfl) (hwi hw 42 rfl) (by decide) (by decide) (by decide) (by decide) (by decide) rfl (argsL := [.int (3 : Int32), .int s0, .int a1, .int b1, .int d1, .int (0 : Int32)]) rfl (lenOf pd_8 rfl) (rest := [.int (lget (row L6 2) (3 : Int32))]) rfl (Nat.le_of_eq rfl) d0_225 (pu fun T S => ?_)
    show Wp n0 p e _ s below _ T (mkF m 228 #[.val (.int x0), .val (.int x1), .val (.int x2), .val (.int x3), .val (.int s0), .val (.int a1), .val (.int b1), .val (.int d1), .val (.ref o20), .val (.int K1), .val (.int (0 : Int32))] [.int (fex (3 : Int32) s0 a1 b1 d1 (0 : Int32)), .int (lget (row L6 2) (3 : Int32))])
    refine icmp_ne K S d0_228 (fun c228 => ?_) (fun c228 => ?_)
    · exact absurd f3 c228
    refine iconst K S (x := (1 : Int32)) rfl d0_231 ?_
    refine goto K S d0_232 ?_
    refine retn K S (by simp) (y := (1 : Int32)) rfl (by decide) (by decide) d0_236 ?_
    rfl
  refine iload K S rfl d0_126 ?_
  refine iconst K S (x := (3 : Int32)) rfl d0_128 ?_
  refine icmp_ge K S d0_129 (fun c129 => ?_) (fun c129 => ?_)
  · refine iconst K S (x := (0 : Int32)) rfl d0_136 ?_
    refine istore K S (l' := #[.val (.int x0), .val (.int x1), .val (.int x2), .val (.int x3), .val (.int s0), .val (.int a1), .val (.int b1), .val (.int d1), .val (.ref o20), .val (.int K1), .val (.int (0 : Int32))]) rfl d0_137 ?_
    have hf := (own_ex ha hb hd he hK h1 h2 h3 h4 h5 h6).2
    rw [if_neg (fun q => c129 q.2)] at hf
    obtain ⟨f0, f1, f2, f3⟩ := hf
    refine aload K S rfl rfl d0_139 ?_
    refine iconst K S (x := (0 : Int32)) rfl d0_141 ?_
    refine callV K S (W := 0) (m_blockOf l Z a0 hw n0 o20 p0 p1 p2 p3 p4 p5 p6 p7 (0 : Int32) L6 h65_8 (Sle S) H b0) E_o20 (hwi hw 47 rfl) (hwi hw 48 rfl) (hwi hw 50 rfl) (hwi hw 49 rfl) (hwi hw 51 rfl) (hwi hw 2 rfl) (by decide) (by decide) (by decide) (by decide) (by decide) rfl (argsL := [.int (0 : Int32)]) rfl (lenOf pd_7 rfl) (rest := []) rfl (Nat.le_of_eq rfl) d0_142 (pu fun T S => ?_)
    show Wp n0 p e _ s below _ T (mkF m 145 #[.val (.int x0), .val (.int x1), .val (.int x2), .val (.int x3), .val (.int s0), .val (.int a1), .val (.int b1), .val (.int d1), .val (.ref o20), .val (.int K1), .val (.int (0 : Int32))] [.int (lget (row L6 2) (0 : Int32))])
    refine iconst K S (x := (0 : Int32)) rfl d0_145 ?_
    refine iload K S rfl d0_146 ?_
    refine iload K S rfl d0_148 ?_
    refine iload K S rfl d0_150 ?_
    refine iload K S rfl d0_152 ?_
    refine iload K S rfl d0_154 ?_
    refine callS K S (W := 1) (m_expd l Z a0 hw n0 (0 : Int32) s0 a1 b1 d1 (0 : Int32) h65_8 (Sle S) ) (hwi hw 52 rfl) (hwi hw 53 rfl) (hwi hw 54 rfl) (hwi hw 42 rfl) (by decide) (by decide) (by decide) (by decide) (by decide) rfl (argsL := [.int (0 : Int32), .int s0, .int a1, .int b1, .int d1, .int (0 : Int32)]) rfl (lenOf pd_8 rfl) (rest := [.int (lget (row L6 2) (0 : Int32))]) rfl (Nat.le_of_eq rfl) d0_156 (pu fun T S => ?_)
    show Wp n0 p e _ s below _ T (mkF m 159 #[.val (.int x0), .val (.int x1), .val (.int x2), .val (.int x3), .val (.int s0), .val (.int a1), .val (.int b1), .val (.int d1), .val (.ref o20), .val (.int K1), .val (.int (0 : Int32))] [.int (fex (0 : Int32) s0 a1 b1 d1 (0 : Int32)), .int (lget (row L6 2) (0 : Int32))])
    refine icmp_ne K S d0_159 (fun c159 => ?_) (fun c159 => ?_)
    · exact absurd f0 c159
    refine aload K S rfl rfl d0_162 ?_
    refine iconst K S (x := (1 : Int32)) rfl d0_164 ?_
    refine callV K S (W := 0) (m_blockOf l Z a0 hw n0 o20 p0 p1 p2 p3 p4 p5 p6 p7 (1 : Int32) L6 h65_8 (Sle S) H b1') E_o20 (hwi hw 47 rfl) (hwi hw 48 rfl) (hwi hw 50 rfl) (hwi hw 49 rfl) (hwi hw 51 rfl) (hwi hw 2 rfl) (by decide) (by decide) (by decide) (by decide) (by decide) rfl (argsL := [.int (1 : Int32)]) rfl (lenOf pd_7 rfl) (rest := []) rfl (Nat.le_of_eq rfl) d0_165 (pu fun T S => ?_)
    show Wp n0 p e _ s below _ T (mkF m 168 #[.val (.int x0), .val (.int x1), .val (.int x2), .val (.int x3), .val (.int s0), .val (.int a1), .val (.int b1), .val (.int d1), .val (.ref o20), .val (.int K1), .val (.int (0 : Int32))] [.int (lget (row L6 2) (1 : Int32))])
    refine iconst K S (x := (1 : Int32)) rfl d0_168 ?_
    refine iload K S rfl d0_169 ?_
    refine iload K S rfl d0_171 ?_
    refine iload K S rfl d0_173 ?_
    refine iload K S rfl d0_175 ?_
    refine iload K S rfl d0_177 ?_
    refine callS K S (W := 1) (m_expd l Z a0 hw n0 (1 : Int32) s0 a1 b1 d1 (0 : Int32) h65_8 (Sle S) ) (hwi hw 52 rfl) (hwi hw 53 rfl) (hwi hw 54 rfl) (hwi hw 42 rfl) (by decide) (by decide) (by decide) (by decide) (by decide) rfl (argsL := [.int (1 : Int32), .int s0, .int a1, .int b1, .int d1, .int (0 : Int32)]) rfl (lenOf pd_8 rfl) (rest := [.int (lget (row L6 2) (1 : Int32))]) rfl (Nat.le_of_eq rfl) d0_179 (pu fun T S => ?_)
    show Wp n0 p e _ s below _ T (mkF m 182 #[.val (.int x0), .val (.int x1), .val (.int x2), .val (.int x3), .val (.int s0), .val (.int a1), .val (.int b1), .val (.int d1), .val (.ref o20), .val (.int K1), .val (.int (0 : Int32))] [.int (fex (1 : Int32) s0 a1 b1 d1 (0 : Int32)), .int (lget (row L6 2) (1 : Int32))])
    refine icmp_ne K S d0_182 (fun c182 => ?_) (fun c182 => ?_)
    · exact absurd f1 c182
    refine aload K S rfl rfl d0_185 ?_
    refine iconst K S (x := (2 : Int32)) rfl d0_187 ?_
    refine callV K S (W := 0) (m_blockOf l Z a0 hw n0 o20 p0 p1 p2 p3 p4 p5 p6 p7 (2 : Int32) L6 h65_8 (Sle S) H b2) E_o20 (hwi hw 47 rfl) (hwi hw 48 rfl) (hwi hw 50 rfl) (hwi hw 49 rfl) (hwi hw 51 rfl) (hwi hw 2 rfl) (by decide) (by decide) (by decide) (by decide) (by decide) rfl (argsL := [.int (2 : Int32)]) rfl (lenOf pd_7 rfl) (rest := []) rfl (Nat.le_of_eq rfl) d0_188 (pu fun T S => ?_)
    show Wp n0 p e _ s below _ T (mkF m 191 #[.val (.int x0), .val (.int x1), .val (.int x2), .val (.int x3), .val (.int s0), .val (.int a1), .val (.int b1), .val (.int d1), .val (.ref o20), .val (.int K1), .val (.int (0 : Int32))] [.int (lget (row L6 2) (2 : Int32))])
    refine iconst K S (x := (2 : Int32)) rfl d0_191 ?_
    refine iload K S rfl d0_192 ?_
    refine iload K S rfl d0_194 ?_
    refine iload K S rfl d0_196 ?_
    refine iload K S rfl d0_198 ?_
    refine iload K S rfl d0_200 ?_
    refine callS K S (W := 1) (m_expd l Z a0 hw n0 (2 : Int32) s0 a1 b1 d1 (0 : Int32) h65_8 (Sle S) ) (hwi hw 52 rfl) (hwi hw 53 rfl) (hwi hw 54 rfl) (hwi hw 42 rfl) (by decide) (by decide) (by decide) (by decide) (by decide) rfl (argsL := [.int (2 : Int32), .int s0, .int a1, .int b1, .int d1, .int (0 : Int32)]) rfl (lenOf pd_8 rfl) (rest := [.int (lget (row L6 2) (2 : Int32))]) rfl (Nat.le_of_eq rfl) d0_202 (pu fun T S => ?_)
    show Wp n0 p e _ s below _ T (mkF m 205 #[.val (.int x0), .val (.int x1), .val (.int x2), .val (.int x3), .val (.int s0), .val (.int a1), .val (.int b1), .val (.int d1), .val (.ref o20), .val (.int K1), .val (.int (0 : Int32))] [.int (fex (2 : Int32) s0 a1 b1 d1 (0 : Int32)), .int (lget (row L6 2) (2 : Int32))])
    refine icmp_ne K S d0_205 (fun c205 => ?_) (fun c205 => ?_)
    · exact absurd f2 c205
    refine aload K S rfl rfl d0_208 ?_
    refine iconst K S (x := (3 : Int32)) rfl d0_210 ?_
    refine callV K S (W := 0) (m_blockOf l Z a0 hw n0 o20 p0 p1 p2 p3 p4 p5 p6 p7 (3 : Int32) L6 h65_8 (Sle S) H b3) E_o20 (hwi hw 47 rfl) (hwi hw 48 rfl) (hwi hw 50 rfl) (hwi hw 49 rfl) (hwi hw 51 rfl) (hwi hw 2 rfl) (by decide) (by decide) (by decide) (by decide) (by decide) rfl (argsL := [.int (3 : Int32)]) rfl (lenOf pd_7 rfl) (rest := []) rfl (Nat.le_of_eq rfl) d0_211 (pu fun T S => ?_)
    show Wp n0 p e _ s below _ T (mkF m 214 #[.val (.int x0), .val (.int x1), .val (.int x2), .val (.int x3), .val (.int s0), .val (.int a1), .val (.int b1), .val (.int d1), .val (.ref o20), .val (.int K1), .val (.int (0 : Int32))] [.int (lget (row L6 2) (3 : Int32))])
    refine iconst K S (x := (3 : Int32)) rfl d0_214 ?_
    refine iload K S rfl d0_215 ?_
    refine iload K S rfl d0_217 ?_
    refine iload K S rfl d0_219 ?_
    refine iload K S rfl d0_221 ?_
    refine iload K S rfl d0_223 ?_
    refine callS K S (W := 1) (m_expd l Z a0 hw n0 (3 : Int32) s0 a1 b1 d1 (0 : Int32) h65_8 (Sle S) ) (hwi hw 52 rfl) (hwi hw 53 rfl) (hwi hw 54 rfl) (hwi hw 42 rfl) (by decide) (by decide) (by decide) (by decide) (by decide) rfl (argsL := [.int (3 : Int32), .int s0, .int a1, .int b1, .int d1, .int (0 : Int32)]) rfl (lenOf pd_8 rfl) (rest := [.int (lget (row L6 2) (3 : Int32))]) rfl (Nat.le_of_eq rfl) d0_225 (pu fun T S => ?_)
    show Wp n0 p e _ s below _ T (mkF m 228 #[.val (.int x0), .val (.int x1), .val (.int x2), .val (.int x3), .val (.int s0), .val (.int a1), .val (.int b1), .val (.int d1), .val (.ref o20), .val (.int K1), .val (.int (0 : Int32))] [.int (fex (3 : Int32) s0 a1 b1 d1 (0 : Int32)), .int (lget (row L6 2) (3 : Int32))])
    refine icmp_ne K S d0_228 (fun c228 => ?_) (fun c228 => ?_)
    · exact absurd f3 c228
    refine iconst K S (x := (1 : Int32)) rfl d0_231 ?_
    refine goto K S d0_232 ?_
    refine retn K S (by simp) (y := (1 : Int32)) rfl (by decide) (by decide) d0_236 ?_
    rfl
  refine iconst K S (x := (1 : Int32)) rfl d0_132 ?_
  refine goto K S d0_133 ?_
  refine istore K S (l' := #[.val (.int x0), .val (.int x1), .val (.int x2), .val (.int x3), .val (.int s0), .val (.int a1), .val (.int b1), .val (.int d1), .val (.ref o20), .val (.int K1), .val (.int (1 : Int32))]) rfl d0_137 ?_
  have hf := (own_ex ha hb hd he hK h1 h2 h3 h4 h5 h6).2
  rw [if_pos ⟨by simpa using c123, by simpa using c129⟩] at hf
  obtain ⟨f0, f1, f2, f3⟩ := hf
  refine aload K S rfl rfl d0_139 ?_
  refine iconst K S (x := (0 : Int32)) rfl d0_141 ?_
  refine callV K S (W := 0) (m_blockOf l Z a0 hw n0 o20 p0 p1 p2 p3 p4 p5 p6 p7 (0 : Int32) L6 h65_8 (Sle S) H b0) E_o20 (hwi hw 47 rfl) (hwi hw 48 rfl) (hwi hw 50 rfl) (hwi hw 49 rfl) (hwi hw 51 rfl) (hwi hw 2 rfl) (by decide) (by decide) (by decide) (by decide) (by decide) rfl (argsL := [.int (0 : Int32)]) rfl (lenOf pd_7 rfl) (rest := []) rfl (Nat.le_of_eq rfl) d0_142 (pu fun T S => ?_)
  show Wp n0 p e _ s below _ T (mkF m 145 #[.val (.int x0), .val (.int x1), .val (.int x2), .val (.int x3), .val (.int s0), .val (.int a1), .val (.int b1), .val (.int d1), .val (.ref o20), .val (.int K1), .val (.int (1 : Int32))] [.int (lget (row L6 2) (0 : Int32))])
  refine iconst K S (x := (0 : Int32)) rfl d0_145 ?_
  refine iload K S rfl d0_146 ?_
  refine iload K S rfl d0_148 ?_
  refine iload K S rfl d0_150 ?_
  refine iload K S rfl d0_152 ?_
  refine iload K S rfl d0_154 ?_
  refine callS K S (W := 1) (m_expd l Z a0 hw n0 (0 : Int32) s0 a1 b1 d1 (1 : Int32) h65_8 (Sle S) ) (hwi hw 52 rfl) (hwi hw 53 rfl) (hwi hw 54 rfl) (hwi hw 42 rfl) (by decide) (by decide) (by decide) (by decide) (by decide) rfl (argsL := [.int (0 : Int32), .int s0, .int a1, .int b1, .int d1, .int (1 : Int32)]) rfl (lenOf pd_8 rfl) (rest := [.int (lget (row L6 2) (0 : Int32))]) rfl (Nat.le_of_eq rfl) d0_156 (pu fun T S => ?_)
  show Wp n0 p e _ s below _ T (mkF m 159 #[.val (.int x0), .val (.int x1), .val (.int x2), .val (.int x3), .val (.int s0), .val (.int a1), .val (.int b1), .val (.int d1), .val (.ref o20), .val (.int K1), .val (.int (1 : Int32))] [.int (fex (0 : Int32) s0 a1 b1 d1 (1 : Int32)), .int (lget (row L6 2) (0 : Int32))])
  refine icmp_ne K S d0_159 (fun c159 => ?_) (fun c159 => ?_)
  · exact absurd f0 c159
  refine aload K S rfl rfl d0_162 ?_
  refine iconst K S (x := (1 : Int32)) rfl d0_164 ?_
  refine callV K S (W := 0) (m_blockOf l Z a0 hw n0 o20 p0 p1 p2 p3 p4 p5 p6 p7 (1 : Int32) L6 h65_8 (Sle S) H b1') E_o20 (hwi hw 47 rfl) (hwi hw 48 rfl) (hwi hw 50 rfl) (hwi hw 49 rfl) (hwi hw 51 rfl) (hwi hw 2 rfl) (by decide) (by decide) (by decide) (by decide) (by decide) rfl (argsL := [.int (1 : Int32)]) rfl (lenOf pd_7 rfl) (rest := []) rfl (Nat.le_of_eq rfl) d0_165 (pu fun T S => ?_)
  show Wp n0 p e _ s below _ T (mkF m 168 #[.val (.int x0), .val (.int x1), .val (.int x2), .val (.int x3), .val (.int s0), .val (.int a1), .val (.int b1), .val (.int d1), .val (.ref o20), .val (.int K1), .val (.int (1 : Int32))] [.int (lget (row L6 2) (1 : Int32))])
  refine iconst K S (x := (1 : Int32)) rfl d0_168 ?_
  refine iload K S rfl d0_169 ?_
  refine iload K S rfl d0_171 ?_
  refine iload K S rfl d0_173 ?_
  refine iload K S rfl d0_175 ?_
  refine iload K S rfl d0_177 ?_
  refine callS K S (W := 1) (m_expd l Z a0 hw n0 (1 : Int32) s0 a1 b1 d1 (1 : Int32) h65_8 (Sle S) ) (hwi hw 52 rfl) (hwi hw 53 rfl) (hwi hw 54 rfl) (hwi hw 42 rfl) (by decide) (by decide) (by decide) (by decide) (by decide) rfl (argsL := [.int (1 : Int32), .int s0, .int a1, .int b1, .int d1, .int (1 : Int32)]) rfl (lenOf pd_8 rfl) (rest := [.int (lget (row L6 2) (1 : Int32))]) rfl (Nat.le_of_eq rfl) d0_179 (pu fun T S => ?_)
  show Wp n0 p e _ s below _ T (mkF m 182 #[.val (.int x0), .val (.int x1), .val (.int x2), .val (.int x3), .val (.int s0), .val (.int a1), .val (.int b1), .val (.int d1), .val (.ref o20), .val (.int K1), .val (.int (1 : Int32))] [.int (fex (1 : Int32) s0 a1 b1 d1 (1 : Int32)), .int (lget (row L6 2) (1 : Int32))])
  refine icmp_ne K S d0_182 (fun c182 => ?_) (fun c182 => ?_)
  · exact absurd f1 c182
  refine aload K S rfl rfl d0_185 ?_
  refine iconst K S (x := (2 : Int32)) rfl d0_187 ?_
  refine callV K S (W := 0) (m_blockOf l Z a0 hw n0 o20 p0 p1 p2 p3 p4 p5 p6 p7 (2 : Int32) L6 h65_8 (Sle S) H b2) E_o20 (hwi hw 47 rfl) (hwi hw 48 rfl) (hwi hw 50 rfl) (hwi hw 49 rfl) (hwi hw 51 rfl) (hwi hw 2 rfl) (by decide) (by decide) (by decide) (by decide) (by decide) rfl (argsL := [.int (2 : Int32)]) rfl (lenOf pd_7 rfl) (rest := []) rfl (Nat.le_of_eq rfl) d0_188 (pu fun T S => ?_)
  show Wp n0 p e _ s below _ T (mkF m 191 #[.val (.int x0), .val (.int x1), .val (.int x2), .val (.int x3), .val (.int s0), .val (.int a1), .val (.int b1), .val (.int d1), .val (.ref o20), .val (.int K1), .val (.int (1 : Int32))] [.int (lget (row L6 2) (2 : Int32))])
  refine iconst K S (x := (2 : Int32)) rfl d0_191 ?_
  refine iload K S rfl d0_192 ?_
  refine iload K S rfl d0_194 ?_
  refine iload K S rfl d0_196 ?_
  refine iload K S rfl d0_198 ?_
  refine iload K S rfl d0_200 ?_
  refine callS K S (W := 1) (m_expd l Z a0 hw n0 (2 : Int32) s0 a1 b1 d1 (1 : Int32) h65_8 (Sle S) ) (hwi hw 52 rfl) (hwi hw 53 rfl) (hwi hw 54 rfl) (hwi hw 42 rfl) (by decide) (by decide) (by decide) (by decide) (by decide) rfl (argsL := [.int (2 : Int32), .int s0, .int a1, .int b1, .int d1, .int (1 : Int32)]) rfl (lenOf pd_8 rfl) (rest := [.int (lget (row L6 2) (2 : Int32))]) rfl (Nat.le_of_eq rfl) d0_202 (pu fun T S => ?_)
  show Wp n0 p e _ s below _ T (mkF m 205 #[.val (.int x0), .val (.int x1), .val (.int x2), .val (.int x3), .val (.int s0), .val (.int a1), .val (.int b1), .val (.int d1), .val (.ref o20), .val (.int K1), .val (.int (1 : Int32))] [.int (fex (2 : Int32) s0 a1 b1 d1 (1 : Int32)), .int (lget (row L6 2) (2 : Int32))])
  refine icmp_ne K S d0_205 (fun c205 => ?_) (fun c205 => ?_)
  · exact absurd f2 c205
  refine aload K S rfl rfl d0_208 ?_
  refine iconst K S (x := (3 : Int32)) rfl d0_210 ?_
  refine callV K S (W := 0) (m_blockOf l Z a0 hw n0 o20 p0 p1 p2 p3 p4 p5 p6 p7 (3 : Int32) L6 h65_8 (Sle S) H b3) E_o20 (hwi hw 47 rfl) (hwi hw 48 rfl) (hwi hw 50 rfl) (hwi hw 49 rfl) (hwi hw 51 rfl) (hwi hw 2 rfl) (by decide) (by decide) (by decide) (by decide) (by decide) rfl (argsL := [.int (3 : Int32)]) rfl (lenOf pd_7 rfl) (rest := []) rfl (Nat.le_of_eq rfl) d0_211 (pu fun T S => ?_)
  show Wp n0 p e _ s below _ T (mkF m 214 #[.val (.int x0), .val (.int x1), .val (.int x2), .val (.int x3), .val (.int s0), .val (.int a1), .val (.int b1), .val (.int d1), .val (.ref o20), .val (.int K1), .val (.int (1 : Int32))] [.int (lget (row L6 2) (3 : Int32))])
  refine iconst K S (x := (3 : Int32)) rfl d0_214 ?_
  refine iload K S rfl d0_215 ?_
  refine iload K S rfl d0_217 ?_
  refine iload K S rfl d0_219 ?_
  refine iload K S rfl d0_221 ?_
  refine iload K S rfl d0_223 ?_
  refine callS K S (W := 1) (m_expd l Z a0 hw n0 (3 : Int32) s0 a1 b1 d1 (1 : Int32) h65_8 (Sle S) ) (hwi hw 52 rfl) (hwi hw 53 rfl) (hwi hw 54 rfl) (hwi hw 42 rfl) (by decide) (by decide) (by decide) (by decide) (by decide) rfl (argsL := [.int (3 : Int32), .int s0, .int a1, .int b1, .int d1, .int (1 : Int32)]) rfl (lenOf pd_8 rfl) (rest := [.int (lget (row L6 2) (3 : Int32))]) rfl (Nat.le_of_eq rfl) d0_225 (pu fun T S => ?_)
  show Wp n0 p e _ s below _ T (mkF m 228 #[.val (.int x0), .val (.int x1), .val (.int x2), .val (.int x3), .val (.int s0), .val (.int a1), .val (.int b1), .val (.int d1), .val (.ref o20), .val (.int K1), .val (.int (1 : Int32))] [.int (fex (3 : Int32) s0 a1 b1 d1 (1 : Int32)), .int (lget (row L6 2) (3 : Int32))])
  refine icmp_ne K S d0_228 (fun c228 => ?_) (fun c228 => ?_)
  · exact absurd f3 c228
  refine iconst K S (x := (1 : Int32)) rfl d0_231 ?_
  refine goto K S d0_232 ?_
  refine retn K S (by simp) (y := (1 : Int32)) rfl (by decide) (by decide) d0_236 ?_
  rfl

set_option maxRecDepth 65536 in
set_option maxHeartbeats 40000000 in
theorem comes_1 {Post : Tables → Env → Array Value → State → Outcome → State → Prop} (hpost : ∀ tb e args s v u, (limb_1_1.after args s (.returned v) u = true ∧ limb_1_2.after args s (.returned v) u = true ∧ True) → FrameEnd s (.returned v) u (Jvm.fieldLocs frame_1_writes args s ++ Jvm.arrayLocs frame_1_arrays args s ++ Jvm.staticLocs frame_1_statics s) 32 192 → Post tb e args s (.returned v) u) :
    ArmFor flags0 classFile x code maxLocals ret World_1 tables_1 room_1 Calls_1 rest_1 Pre_1 Post := by
  intro l hfl _ _ p e ha hc hk s m args below hf hA hF happ hP
  obtain ⟨hcalls, hrest, hpre⟩ := hP
  obtain ⟨-, -, -, hnamed, -, -, -, hat⟩ := (Spec.applies_iff hf).mp happ
  obtain ⟨hg, hn⟩ := and_e (Cond.before_iff.mp (show (Jvm.Cond.and given_1 narrow_1).before args s = true from hpre))
  obtain ⟨gc, r0⟩ := and_e hg
  obtain ⟨g0, r1⟩ := and_e r0
  obtain ⟨g1, r2⟩ := and_e r1
  obtain ⟨g2, r3⟩ := and_e r2
  obtain ⟨w0, w1, w2, w3, rfl⟩ : ∃ w0 w1 w2 w3 : Value, args = #[w0, w1, w2, w3] := by
    have hs : args.size = 4 := by simpa [Cond.value, given_1] using gc
    obtain ⟨L⟩ := args
    match L, hs with
    | [w0, w1, w2, w3], _ => exact ⟨w0, w1, w2, w3, rfl⟩
  have hw := fun d (hd : d ∈ tables_1) => atoms_spec (ws := Jvm.Cond.code x code maxLocals ret :: tables_1) hat d (List.mem_cons_of_mem _ hd)
  obtain ⟨i0, ei0⟩ := is_v g0
  obtain rfl : w0 = (.int i0) := Option.some.inj ei0
  obtain ⟨i1, ei1⟩ := is_v g1
  obtain rfl : w1 = (.int i1) := Option.some.inj ei1
  obtain ⟨i2, ei2⟩ := is_v g2
  obtain rfl : w2 = (.int i2) := Option.some.inj ei2
  obtain ⟨i3, ei3⟩ := is_v r3
  obtain rfl : w3 = (.int i3) := Option.some.inj ei3
  obtain ⟨n, o, h1, h2, h3, _, L, rfl, ⟨rfl, -, N⟩, hq⟩ := m_law l s _ hw s.heap.size i0 i1 i2 i3 s.heap (Nat.le_refl _) p e ha hc hk s m _ below hf ((Spec.applies_iff_loose hf).mp happ).1 ⟨rfl, State.Warmed39.refl s, rfl⟩ trivial
  refine ⟨n, _, h1, h2, h3, hpost _ _ _ _ _ _ ⟨Cond.after_iff.mpr rfl, Cond.after_iff.mpr (eq_i res_at (Term.int_eval (1)) rfl), trivial⟩ ⟨hq.1, hq.2.1, (hq.2.2.sift fun y hy => Or.inr (N y hy)).mono (by decide) (by decide)⟩⟩
theorem main_1_1 : Claimed_1_1 := comes_1 fun _ _ _ _ _ _ h hF => ⟨h.1, hF⟩
theorem main_1_2 : Claimed_1_2 := comes_1 fun _ _ _ _ _ _ h hF => ⟨h.2.1, hF⟩
end Jvm.Pilot.@@N@@
namespace Jvm.Pilot.@@N@@
open Jvm Jvm.ClassFile Sem Op Lib Jvm.Free Jvm.Stand Jvm.Pilot.@@N@@.Jvm.D
/-! MADE BY PROGRAM (witnessworld.py) out of the Statement's table words and the real class files: 9 classes; the members and pool entries that the words name. The judged class is class 1, her method 1. -/
namespace start1
open Jvm.ClassFile
def u (s : String) : CpInfo := .utf8 (stringToUtf16 s)
/-- a pool by its gaps: so many unusable entries, then the entry; so many at the end -/
def gap : Nat → List CpInfo → List CpInfo
  | 0, r => r
  | n + 1, r => .unusable :: gap n r
def poolList (es : List (Nat × CpInfo)) (last : Nat) : List CpInfo := es.foldr (fun e r => gap e.1 (e.2 :: r)) (gap last [])
def pool (es : List (Nat × CpInfo)) (last : Nat) : Array CpInfo := ⟨poolList es last⟩
def fileOf (pool : Array CpInfo) (this : Nat) (attrs : Array Attribute := #[]) (ms : Array MethodInfo := #[]) (fl : Nat := 33) (sup : Nat := 0) (ifs : Array Nat := #[]) (fds : Array FieldInfo := #[]) : ClassFile where
  minorVersion := 0
  majorVersion := 65
  constantPool := pool
  accessFlags := fl
  thisClass := this
  superClass := sup
  interfaces := ifs
  fields := fds
  methods := ms
  attributes := attrs
def plain (name : String) (sup : Option ClassId) : Class where
  name := name
  kind := .ordinary
  loader := none
  accessFlags := 33
  super := sup
  interfaces := #[]
  cf := none
  fields := #[]
  methods := #[]
  instanceTypes := #[]
  staticTypes := #[]
  resolved := #[]
  callSites := []
  init := .initialized
  statics := none
  mirror := none

def pool0 : Array CpInfo := pool [(5, u "<init>"), (0, u "()V"), (1, .class_ 10), (1, u "java/lang/Object")] 113

def k0c0 : Code := { maxStack := 0, maxLocals := 1, code := object_method_1_code, exceptionTable := #[], attributes := #[] }
def k0m0 : Method := { name := "<init>", desc := "()V", sig := { parameters := [], returnType := none }, accessFlags := 1, code := some k0c0 }
/-- java/lang/Object -/
def k0 : Class := { plain "java/lang/Object" none with
  accessFlags := 33
  interfaces := #[]
  cf := some (fileOf pool0 8 #[] #[{ accessFlags := 1, nameIndex := 5, descriptorIndex := 6, attributes := #[] }] 33 0 #[] #[])
  fields := #[]
  methods := #[k0m0]
  instanceTypes := #[]
  staticTypes := #[]
  resolved := Array.replicate 124 none
  statics := none }

def pool1 : Array CpInfo := pool [(2, .class_ 4), (1, u "java/lang/Object"), (0, u "<init>"), (0, u "()V"), (0, .class_ 8), (0, u "com/example/procsh/procsh/service/Partition"), (0, .methodref 7 10), (0, .nameAndType 5 11), (0, u "(I)V"), (0, .methodref 7 13), (0, .nameAndType 14 11), (0, u "mark"), (0, .methodref 7 16), (0, .nameAndType 17 6), (0, u "splitMarked"), (0, .methodref 19 20), (0, .class_ 21), (0, .nameAndType 22 23), (0, u "com/example/procsh/procsh/service/PartitionMarkPinLaw"), (0, u "otherMarked"), (0, u "(IIIII)I"), (0, .methodref 7 25), (0, .nameAndType 26 27), (0, u "blockOf"), (0, u "(I)I"), (0, .methodref 19 29), (0, .nameAndType 30 31), (0, u "expected"), (0, u "(IIIIIZ)I"), (0, .methodref 19 33), (0, .nameAndType 34 35), (0, u "marked"), (0, u "(IIII)Z"), (2, u "law")] 3

def k1m0 : Method := { name := "<init>", desc := "()V", sig := { parameters := [], returnType := none }, accessFlags := 1, code := none }
def k1c1 : Code := { maxStack := 7, maxLocals := 11, code := code, exceptionTable := #[], attributes := #[] }
def k1m1 : Method := { name := "law", desc := "(IIII)Z", sig := { parameters := [.int, .int, .int, .int], returnType := some .boolean }, accessFlags := 9, code := some k1c1 }
def k1c2 : Code := { maxStack := 2, maxLocals := 4, code := method_3_code, exceptionTable := #[], attributes := #[] }
def k1m2 : Method := { name := "marked", desc := "(IIII)Z", sig := { parameters := [.int, .int, .int, .int], returnType := some .boolean }, accessFlags := 10, code := some k1c2 }
def k1c3 : Code := { maxStack := 4, maxLocals := 5, code := method_4_code, exceptionTable := #[], attributes := #[] }
def k1m3 : Method := { name := "otherMarked", desc := "(IIIII)I", sig := { parameters := [.int, .int, .int, .int, .int], returnType := some .int }, accessFlags := 10, code := some k1c3 }
def k1c4 : Code := { maxStack := 4, maxLocals := 6, code := method_5_code, exceptionTable := #[], attributes := #[] }
def k1m4 : Method := { name := "expected", desc := "(IIIIIZ)I", sig := { parameters := [.int, .int, .int, .int, .int, .boolean], returnType := some .int }, accessFlags := 10, code := some k1c4 }
/-- com/example/procsh/procsh/service/PartitionMarkPinLaw -/
def k1 : Class := { plain "com/example/procsh/procsh/service/PartitionMarkPinLaw" (some 0) with
  accessFlags := 49
  interfaces := #[]
  cf := some (fileOf pool1 19 #[] #[{ accessFlags := 1, nameIndex := 5, descriptorIndex := 6, attributes := #[] }, { accessFlags := 9, nameIndex := 38, descriptorIndex := 35, attributes := #[] }, { accessFlags := 10, nameIndex := 34, descriptorIndex := 35, attributes := #[] }, { accessFlags := 10, nameIndex := 22, descriptorIndex := 23, attributes := #[] }, { accessFlags := 10, nameIndex := 30, descriptorIndex := 31, attributes := #[] }] 49 2 #[] #[])
  fields := #[]
  methods := #[k1m0, k1m1, k1m2, k1m3, k1m4]
  instanceTypes := #[]
  staticTypes := #[]
  resolved := Array.replicate 42 none
  statics := none }

def pool2 : Array CpInfo := pool [(1, .methodref 2 3), (0, .class_ 4), (0, .nameAndType 5 6), (0, u "java/lang/Object"), (0, u "<init>"), (0, u "()V"), (0, .fieldref 8 9), (0, .class_ 10), (0, .nameAndType 11 12), (0, u "com/example/procsh/procsh/service/Partition"), (0, u "elements"), (0, u "[I"), (0, .fieldref 8 14), (0, .nameAndType 15 12), (0, u "positionOf"), (0, .fieldref 8 17), (0, .nameAndType 18 12), (0, u "blockOf"), (0, .fieldref 8 20), (0, .nameAndType 21 12), (0, u "blockStart"), (0, .fieldref 8 23), (0, .nameAndType 24 12), (0, u "blockEnd"), (0, .fieldref 8 26), (0, .nameAndType 27 12), (0, u "markedEnd"), (0, .fieldref 8 29), (0, .nameAndType 30 12), (0, u "origin"), (0, .fieldref 8 32), (0, .nameAndType 33 12), (0, u "touchedBlocks"), (0, .fieldref 8 35), (0, .nameAndType 36 37), (0, u "blocks"), (0, u "I"), (0, .fieldref 8 39), (0, .nameAndType 40 37), (0, u "touched"), (0, u "(I)V"), (4, u "(I)I"), (4, u "mark"), (0, u "splitMarked")] 2

def k2c0 : Code := { maxStack := 3, maxLocals := 3, code := prog_68_method_1_code, exceptionTable := #[], attributes := #[] }
def k2m0 : Method := { name := "<init>", desc := "(I)V", sig := { parameters := [.int], returnType := none }, accessFlags := 0, code := some k2c0 }
def k2c1 : Code := { maxStack := 2, maxLocals := 2, code := prog_68_method_3_code, exceptionTable := #[], attributes := #[] }
def k2m1 : Method := { name := "blockOf", desc := "(I)I", sig := { parameters := [.int], returnType := some .int }, accessFlags := 0, code := some k2c1 }
def k2c2 : Code := { maxStack := 5, maxLocals := 6, code := prog_68_method_9_code, exceptionTable := #[], attributes := #[] }
def k2m2 : Method := { name := "mark", desc := "(I)V", sig := { parameters := [.int], returnType := none }, accessFlags := 0, code := some k2c2 }
def k2c3 : Code := { maxStack := 4, maxLocals := 6, code := prog_68_method_10_code, exceptionTable := #[], attributes := #[] }
def k2m3 : Method := { name := "splitMarked", desc := "()V", sig := { parameters := [], returnType := none }, accessFlags := 0, code := some k2c3 }
/-- com/example/procsh/procsh/service/Partition -/
def k2 : Class := { plain "com/example/procsh/procsh/service/Partition" (some 0) with
  accessFlags := 32
  interfaces := #[]
  cf := some (fileOf pool2 8 #[] #[{ accessFlags := 0, nameIndex := 5, descriptorIndex := 41, attributes := #[] }, { accessFlags := 0, nameIndex := 18, descriptorIndex := 46, attributes := #[] }, { accessFlags := 0, nameIndex := 51, descriptorIndex := 41, attributes := #[] }, { accessFlags := 0, nameIndex := 52, descriptorIndex := 6, attributes := #[] }] 32 2 #[] #[{ accessFlags := 18, nameIndex := 11, descriptorIndex := 12, attributes := #[] }, { accessFlags := 18, nameIndex := 15, descriptorIndex := 12, attributes := #[] }, { accessFlags := 18, nameIndex := 18, descriptorIndex := 12, attributes := #[] }, { accessFlags := 18, nameIndex := 21, descriptorIndex := 12, attributes := #[] }, { accessFlags := 18, nameIndex := 24, descriptorIndex := 12, attributes := #[] }, { accessFlags := 18, nameIndex := 27, descriptorIndex := 12, attributes := #[] }, { accessFlags := 18, nameIndex := 30, descriptorIndex := 12, attributes := #[] }, { accessFlags := 18, nameIndex := 33, descriptorIndex := 12, attributes := #[] }, { accessFlags := 2, nameIndex := 36, descriptorIndex := 37, attributes := #[] }, { accessFlags := 2, nameIndex := 40, descriptorIndex := 37, attributes := #[] }])
  fields := #[{ name := "elements", type := (.array .int), accessFlags := 18, slot := 0, constantValue := 0 }, { name := "positionOf", type := (.array .int), accessFlags := 18, slot := 1, constantValue := 0 }, { name := "blockOf", type := (.array .int), accessFlags := 18, slot := 2, constantValue := 0 }, { name := "blockStart", type := (.array .int), accessFlags := 18, slot := 3, constantValue := 0 }, { name := "blockEnd", type := (.array .int), accessFlags := 18, slot := 4, constantValue := 0 }, { name := "markedEnd", type := (.array .int), accessFlags := 18, slot := 5, constantValue := 0 }, { name := "origin", type := (.array .int), accessFlags := 18, slot := 6, constantValue := 0 }, { name := "touchedBlocks", type := (.array .int), accessFlags := 18, slot := 7, constantValue := 0 }, { name := "blocks", type := .int, accessFlags := 2, slot := 8, constantValue := 0 }, { name := "touched", type := .int, accessFlags := 2, slot := 9, constantValue := 0 }]
  methods := #[k2m0, k2m1, k2m2, k2m3]
  instanceTypes := #[(.array .int), (.array .int), (.array .int), (.array .int), (.array .int), (.array .int), (.array .int), (.array .int), .int, .int]
  staticTypes := #[]
  resolved := Array.replicate 55 none
  statics := none }

def pool3 : Array CpInfo := pool [(1, u "java/lang/Cloneable"), (0, .class_ 1), (0, u "java/lang/Object"), (0, .class_ 3)] 3

/-- java/lang/Cloneable -/
def k3 : Class := { plain "java/lang/Cloneable" (some 0) with
  accessFlags := 1537
  interfaces := #[]
  cf := some (fileOf pool3 2 #[] #[] 1537 4 #[] #[])
  fields := #[]
  methods := #[]
  instanceTypes := #[]
  staticTypes := #[]
  resolved := Array.replicate 8 none
  statics := none }

def pool4 : Array CpInfo := pool [(1, u "java/io/Serializable"), (0, .class_ 1), (0, u "java/lang/Object"), (0, .class_ 3)] 3

/-- java/io/Serializable -/
def k4 : Class := { plain "java/io/Serializable" (some 0) with
  accessFlags := 1537
  interfaces := #[]
  cf := some (fileOf pool4 2 #[] #[] 1537 4 #[] #[])
  fields := #[]
  methods := #[]
  instanceTypes := #[]
  staticTypes := #[]
  resolved := Array.replicate 8 none
  statics := none }

/-- the primitive byte -/
def k5 : Class := { plain "byte" none with kind := .primitive 'B', accessFlags := 0x411 }
/-- [B -/
def k6 : Class := { plain "[B" (some 0) with kind := .array 5 .byte, interfaces := #[3, 4], accessFlags := 1041 }

/-- the primitive int -/
def k7 : Class := { plain "int" none with kind := .primitive 'I', accessFlags := 0x411 }
/-- [I -/
def k8 : Class := { plain "[I" (some 0) with kind := .array 7 .int, interfaces := #[3, 4], accessFlags := 1041 }

def heap : Heap := #[]
def classes : Array Class := #[k0, k1, k2, k3, k4, k5, k6, k7, k8]
def interned : List (Array UInt16 × Addr) := []
def slotsUsed : Nat := 0
def theMethod : MethodId := ⟨1, 1⟩
def args0 : Array Value := #[.int 5, .int 300, .int 7, .int 3]
def aboutOver (below : List Frame) : State where
  vm := { classes := classes, interned := interned.toArray }
  heap := heap
  slotsUsed := slotsUsed
  threads := #[{ frames := .invoking theMethod args0 :: below }]
def below0 : List Frame := [.native { method := ⟨0, 0⟩, args := #[] }]
def about1 : State := aboutOver below0
def p0 : Program := .bare "" "" ""
def e0 : Env := launch0.env 0 0 0
theorem w_frames : about1.frames = Frame.invoking theMethod args0 :: below0 := rfl
set_option maxRecDepth 65536 in
theorem w_args : argsFit about1.vm theMethod args0 = true := by decide +kernel
set_option maxRecDepth 65536 in
theorem w_heap : heapFits about1 = true := by decide +kernel
set_option maxRecDepth 65536 in
theorem w_runnable : about1.curStatus? = some .runnable := by decide +kernel
set_option maxRecDepth 65536 in
theorem w_alone : about1.alone = true := by decide +kernel
set_option maxRecDepth 65536 in
theorem w_named : about1.methodNamed? x = some theMethod := by decide +kernel
set_option maxRecDepth 65536 in
theorem w_hears : about1.hears theMethod below0 = true := by decide +kernel
set_option maxRecDepth 65536 in
theorem w_ripe : about1.ripe theMethod args0 below0 = true := by decide +kernel
theorem w_running : about1.status = .running := rfl
set_option maxRecDepth 65536 in
theorem w_room : about1.hasRoom e0.platform room_1 = true :=
  launch0.hasRoom_least _ room_1 (by decide +kernel) (by decide +kernel) (by decide +kernel) (by decide +kernel) (by decide +kernel) (by decide +kernel)
theorem allAtoms_all (ts : List Jvm.Cond) (a : Array Jvm.Value) (st : Jvm.State) : (allAtoms ts).before a st = ts.all (fun c => c.before a st) := by
  induction ts with
  | nil => rfl
  | cons c t ih =>
    show (Jvm.Cond.and c (allAtoms t)).before a st = _
    rw [Jvm.Cond.before_and, ih, List.all_cons]
def words1 : List Jvm.Cond := Jvm.Cond.code x code maxLocals ret :: tables_1
/-- a 'code' word, met by the world's own term for the bytes: nothing is compared byte by byte -/
theorem code_word {y : MethodName} {bytes : ByteArray} {mx : Nat} {rt : Option FieldType} {a : Array Value} {s : State} {m : MethodId} {meth : Method} {c : Code} (h1 : s.methodNamed? y = some m) (h2 : s.vm.method? m = some meth) (h3 : meth.code = some c) (h4 : c.code = bytes)
    (h5 : (c.maxLocals == mx && c.exceptionTable.isEmpty && decide (c.maxStack ≤ mostOperands) && decide (meth.sig.returnType = rt) && !meth.locks && decide (parseMethodDescriptor y.desc = some meth.sig)) = true) : (Jvm.Cond.code y bytes mx rt).before a s = true := by
  simp only [Bool.and_eq_true, beq_iff_eq, Bool.not_eq_true', decide_eq_true_eq] at h5
  obtain ⟨⟨⟨⟨⟨g1, g2⟩, g3⟩, g4⟩, g5⟩, g6⟩ := h5
  simp [Cond.before, Cond.holds, Cond.value, h1, h2, h3, h4, g1, g2, g3, g4, g5, g6]
def isCode : Jvm.Cond → Bool
  | .code _ _ _ _ => true
  | _ => false
theorem all_split {L : List Jvm.Cond} {P : Jvm.Cond → Bool} (h1 : L.all (fun c => isCode c || P c) = true) (h2 : ∀ c ∈ L.filter isCode, P c = true) : L.all P = true := by
  refine List.all_eq_true.mpr fun c hc => ?_
  have h := List.all_eq_true.mp h1 c hc
  rcases Bool.eq_false_or_eq_true (isCode c) with hi | hi
  · exact h2 c (List.mem_filter.mpr ⟨hc, hi⟩)
  · simpa [hi] using h
set_option maxRecDepth 65536 in
theorem w_c0 : (Jvm.Cond.code x code maxLocals ret).before args0 about1 = true := code_word (m := ⟨1, 1⟩) (meth := k1m1) (c := k1c1) (by decide +kernel) rfl rfl rfl (by decide +kernel)
set_option maxRecDepth 65536 in
theorem w_c1 : (Jvm.Cond.code ({ cls := "com/example/procsh/procsh/service/Partition", name := "<init>", desc := "(I)V" } : Jvm.MethodName) prog_68_method_1_code (3 : Nat) (Option.none : Option Jvm.ClassFile.FieldType)).before args0 about1 = true := code_word (m := ⟨2, 0⟩) (meth := k2m0) (c := k2c0) (by decide +kernel) rfl rfl rfl (by decide +kernel)
set_option maxRecDepth 65536 in
theorem w_c2 : (Jvm.Cond.code ({ cls := "java/lang/Object", name := "<init>", desc := "()V" } : Jvm.MethodName) object_method_1_code (1 : Nat) (Option.none : Option Jvm.ClassFile.FieldType)).before args0 about1 = true := code_word (m := ⟨0, 0⟩) (meth := k0m0) (c := k0c0) (by decide +kernel) rfl rfl rfl (by decide +kernel)
set_option maxRecDepth 65536 in
theorem w_c3 : (Jvm.Cond.code ({ cls := "com/example/procsh/procsh/service/Partition", name := "mark", desc := "(I)V" } : Jvm.MethodName) prog_68_method_9_code (6 : Nat) (Option.none : Option Jvm.ClassFile.FieldType)).before args0 about1 = true := code_word (m := ⟨2, 2⟩) (meth := k2m2) (c := k2c2) (by decide +kernel) rfl rfl rfl (by decide +kernel)
set_option maxRecDepth 65536 in
theorem w_c4 : (Jvm.Cond.code ({ cls := "com/example/procsh/procsh/service/Partition", name := "splitMarked", desc := "()V" } : Jvm.MethodName) prog_68_method_10_code (6 : Nat) (Option.none : Option Jvm.ClassFile.FieldType)).before args0 about1 = true := code_word (m := ⟨2, 3⟩) (meth := k2m3) (c := k2c3) (by decide +kernel) rfl rfl rfl (by decide +kernel)
set_option maxRecDepth 65536 in
theorem w_c5 : (Jvm.Cond.code ({ cls := "com/example/procsh/procsh/service/PartitionMarkPinLaw", name := "otherMarked", desc := "(IIIII)I" } : Jvm.MethodName) method_4_code (5 : Nat) (Option.some Jvm.ClassFile.FieldType.int)).before args0 about1 = true := code_word (m := ⟨1, 3⟩) (meth := k1m3) (c := k1c3) (by decide +kernel) rfl rfl rfl (by decide +kernel)
set_option maxRecDepth 65536 in
theorem w_c6 : (Jvm.Cond.code ({ cls := "com/example/procsh/procsh/service/PartitionMarkPinLaw", name := "marked", desc := "(IIII)Z" } : Jvm.MethodName) method_3_code (4 : Nat) (Option.some Jvm.ClassFile.FieldType.boolean)).before args0 about1 = true := code_word (m := ⟨1, 2⟩) (meth := k1m2) (c := k1c2) (by decide +kernel) rfl rfl rfl (by decide +kernel)
set_option maxRecDepth 65536 in
theorem w_c7 : (Jvm.Cond.code ({ cls := "com/example/procsh/procsh/service/Partition", name := "blockOf", desc := "(I)I" } : Jvm.MethodName) prog_68_method_3_code (2 : Nat) (Option.some Jvm.ClassFile.FieldType.int)).before args0 about1 = true := code_word (m := ⟨2, 1⟩) (meth := k2m1) (c := k2c1) (by decide +kernel) rfl rfl rfl (by decide +kernel)
set_option maxRecDepth 65536 in
theorem w_c8 : (Jvm.Cond.code ({ cls := "com/example/procsh/procsh/service/PartitionMarkPinLaw", name := "expected", desc := "(IIIIIZ)I" } : Jvm.MethodName) method_5_code (6 : Nat) (Option.some Jvm.ClassFile.FieldType.int)).before args0 about1 = true := code_word (m := ⟨1, 4⟩) (meth := k1m4) (c := k1c4) (by decide +kernel) rfl rfl rfl (by decide +kernel)
def codes1 : List Jvm.Cond := [Jvm.Cond.code x code maxLocals ret, Jvm.Cond.code ({ cls := "com/example/procsh/procsh/service/Partition", name := "<init>", desc := "(I)V" } : Jvm.MethodName) prog_68_method_1_code (3 : Nat) (Option.none : Option Jvm.ClassFile.FieldType), Jvm.Cond.code ({ cls := "java/lang/Object", name := "<init>", desc := "()V" } : Jvm.MethodName) object_method_1_code (1 : Nat) (Option.none : Option Jvm.ClassFile.FieldType), Jvm.Cond.code ({ cls := "com/example/procsh/procsh/service/Partition", name := "mark", desc := "(I)V" } : Jvm.MethodName) prog_68_method_9_code (6 : Nat) (Option.none : Option Jvm.ClassFile.FieldType), Jvm.Cond.code ({ cls := "com/example/procsh/procsh/service/Partition", name := "splitMarked", desc := "()V" } : Jvm.MethodName) prog_68_method_10_code (6 : Nat) (Option.none : Option Jvm.ClassFile.FieldType), Jvm.Cond.code ({ cls := "com/example/procsh/procsh/service/PartitionMarkPinLaw", name := "otherMarked", desc := "(IIIII)I" } : Jvm.MethodName) method_4_code (5 : Nat) (Option.some Jvm.ClassFile.FieldType.int), Jvm.Cond.code ({ cls := "com/example/procsh/procsh/service/PartitionMarkPinLaw", name := "marked", desc := "(IIII)Z" } : Jvm.MethodName) method_3_code (4 : Nat) (Option.some Jvm.ClassFile.FieldType.boolean), Jvm.Cond.code ({ cls := "com/example/procsh/procsh/service/Partition", name := "blockOf", desc := "(I)I" } : Jvm.MethodName) prog_68_method_3_code (2 : Nat) (Option.some Jvm.ClassFile.FieldType.int), Jvm.Cond.code ({ cls := "com/example/procsh/procsh/service/PartitionMarkPinLaw", name := "expected", desc := "(IIIIIZ)I" } : Jvm.MethodName) method_5_code (6 : Nat) (Option.some Jvm.ClassFile.FieldType.int)]
set_option maxRecDepth 65536 in
theorem codes_eq : words1.filter isCode = codes1 := rfl
theorem w_codes : ∀ c ∈ words1.filter isCode, c.before args0 about1 = true := by
  rw [codes_eq]
  intro c hc
  simp only [codes1, List.mem_cons, List.not_mem_nil, or_false] at hc
  rcases hc with rfl | rfl | rfl | rfl | rfl | rfl | rfl | rfl | rfl
  · exact w_c0
  · exact w_c1
  · exact w_c2
  · exact w_c3
  · exact w_c4
  · exact w_c5
  · exact w_c6
  · exact w_c7
  · exact w_c8
set_option maxRecDepth 65536 in
theorem w_t1 : (words1.take 24).all (fun c => isCode c || c.before args0 about1) = true := by decide +kernel
set_option maxRecDepth 65536 in
theorem w_t2 : ((words1.drop 24).take 24).all (fun c => isCode c || c.before args0 about1) = true := by decide +kernel
set_option maxRecDepth 65536 in
theorem w_t3 : ((words1.drop 24).drop 24).all (fun c => isCode c || c.before args0 about1) = true := by decide +kernel
theorem w_tables : (allAtoms (Jvm.Cond.code x code maxLocals ret :: tables_1)).before args0 about1 = true := by
  rw [allAtoms_all]
  show words1.all (fun c => c.before args0 about1) = true
  refine all_split ?_ w_codes
  rw [← List.take_append_drop 24 words1, List.all_append, w_t1, ← List.take_append_drop 24 (words1.drop 24), List.all_append, w_t2, w_t3]
  rfl
set_option maxRecDepth 65536 in
theorem w_case : (Jvm.Cond.and given_1 narrow_1).before args0 about1 = true := by decide +kernel
theorem w_applies : (headSpec (Jvm.Cond.code x code maxLocals ret :: tables_1) room_1).applies x e0.platform about1 = true :=
  (Spec.applies_iff w_frames).mpr ⟨w_running, w_runnable, w_alone, w_named, w_hears, w_ripe, w_room, w_tables⟩
theorem atStart : AtStart classFile x code maxLocals ret World_1 tables_1 room_1 Calls_1 rest_1 Pre_1 launch0 p0 e0 about1 theMethod args0 below0 :=
  ⟨lists_1, trivial, launch0.admits_env _ _ _, launch0.least_env, fairChoices_fair.cas, fairChoices_fair.clock, w_frames, w_args, w_heap, w_applies, trivial, trivial, w_case⟩
end start1
theorem witness_1 : WitnessClaimed_1 := ⟨start1.p0, start1.e0, start1.about1, start1.theMethod, start1.args0, start1.below0, start1.atStart⟩
end Jvm.Pilot.@@N@@
