import JvmDerived
import JvmDerived.Pilot.@@N@@Statement
import JvmDerived.Pilot.@@N@@Code
set_option linter.unusedVariables false
set_option linter.unusedSimpArgs false
namespace Jvm.Own
open Jvm Sem ClassFile Op Lib Jvm.Stand Jvm.Free Jvm.LawKit Jvm.RoadKit
section Kit
/-- the fixed surroundings of one body's walk -/
def Cx (own : String) (code : ByteArray) (mL : Nat) (ret : Option FieldType) (mn : String) (n0 : Nat) (Z : State) (p : Program) (l : Launch) (e : Env) (R : Room) (s : State) (m : MethodId) (args : Array Value) (below : List Frame) (meth : Method) (c : Code) : Prop :=
  p.tables.exec = Jvm.exec ∧ c.code = code ∧ c.maxLocals = mL ∧ meth.sig.returnType = ret ∧ meth.locks = false ∧ s.vm.findClass own = some m.cls ∧ Z.Warmed39 s.vm ∧ meth.name = mn
/-- where the walk stands: k cells and n slots made so far, the heap h -/
def St (n0 : Nat) (p : Program) (l : Launch) (e : Env) (R : Room) (s : State) (m : MethodId) (args : Array Value) (below : List Frame) (meth : Method) (c : Code) (k n : Nat) (h : Heap) (T : State) : Prop :=
  ∃ locs, Stand p l e R s m args below meth c T locs k n ∧ T.heap = h ∧ Fr n0 locs ∧ n0 ≤ h.size
/-- from here the body comes to its end, and Q holds there -/
def Wp (n0 : Nat) (p : Program) (e : Env) (R : Room) (s : State) (below : List Frame) (Q : Option Value → Heap → Prop) (T : State) (g : JFrame) : Prop :=
  ∃ s₂ o, Steps p.tables e below (T.setTop g) s₂ ∧ s₂.status = .running ∧ Ended s₂ below o ∧ ∃ v L, o = .returned v ∧ (Q v s₂.heap ∧ n0 ≤ s₂.heap.size ∧ Fr n0 L) ∧ FrameEnd s o s₂ L R.cells R.slots
/-- a body's contract: entered with the arguments as' at the heap h it returns, and Q holds of what it returns and of the heap -/
def Met (n0 : Nat) (l : Launch) (Z : State) (y : MethodName) (bytes : ByteArray) (mL : Nat) (ret : Option FieldType) (rm : Room) (ws : List Jvm.Cond) (as' : Array Value) (h : Heap) (Q : Option Value → Heap → Prop) : Prop :=
  MetFree l y (head1 (Jvm.Cond.code y bytes mL ret :: ws) rm) (fun a U => a = as' ∧ Z.Warmed39 U.vm ∧ U.heap = h) (fun _ _ _ _ _ => True) (fun _ U o U' => ∃ v L, o = .returned v ∧ (Q v U'.heap ∧ n0 ≤ U'.heap.size ∧ Fr n0 L) ∧ FrameEnd U o U' L rm.cells rm.slots)
def Dc (code : ByteArray) (pc : Nat) (i : Instr) (len q : Nat) : Prop := decode code pc = .ok (i, len) ∧ pc + len = q
def Bc (code : ByteArray) (pc : Nat) (i : Instr) (o : Int) (q q' : Nat) : Prop := decode code pc = .ok (i, 3) ∧ pc + 3 = q ∧ 0 ≤ (pc : Int) + o ∧ ((pc : Int) + o).toNat = q'
/-- the place i that the int j names -/
def Ix (j : Int32) (i : Nat) : Prop := ¬ j < 0 ∧ j.toNatClampNeg = i
/-- an array of the values vs -/
def VA (Z : State) (h : Heap) (a : Addr) (ty : FieldType) (vs : List Value) : Prop := ∃ cl : Cell, Arr Z h a cl ty ∧ cl.slots = vs.toArray
variable {own : String} {code : ByteArray} {mL : Nat} {ret : Option FieldType} {mn : String} {n0 : Nat} {Z : State} {p : Program} {l : Launch} {e : Env} {R : Room} {s : State} {m : MethodId} {args : Array Value} {below : List Frame} {meth : Method} {c : Code} {T : State} {k n : Nat} {h h' : Heap} {Q : Option Value → Heap → Prop} {pc q q' : Nat} {Ls l' : Array Slot} {st rest : List Value} {a0 : Array Value} {ty : FieldType} {vs : List Value} {a b : Addr} {v w : Value} {x y : Int32} {X Y : Int64}
theorem VA.ext (F : VA Z h a ty vs) (E : Ext h h') : VA Z h' a ty vs := by obtain ⟨cl, A, r⟩ := F; exact ⟨cl, A.ext E, r⟩
theorem VA.other {sl : Nat} (F : VA Z h a ty vs) (W : Wr h h' b sl v) (ne : a ≠ b) : VA Z h' a ty vs := by obtain ⟨cl, A, r⟩ := F; exact ⟨cl, A.other W ne, r⟩
theorem VA.keep {ws : List Addr} (F : VA Z h a ty vs) (K : Keep h h' ws) (ne : a ∉ ws) : VA Z h' a ty vs := by obtain ⟨cl, A, r⟩ := F; exact ⟨cl, ⟨K.2.1 a cl A.1 ne, A.2⟩, r⟩
theorem VA.lt (F : VA Z h a ty vs) : a < h.size := by obtain ⟨cl, A, r⟩ := F; exact A.lt
theorem VA.wr {i : Nat} (F : VA Z h a ty vs) (W : Wr h h' a i v) : VA Z h' a ty (vs.set i v) := by
  obtain ⟨cl, A, r⟩ := F
  refine ⟨_, Arr.same W A, ?_⟩
  show cl.slots.setIfInBounds i v = _
  rw [r]; simp
theorem wp_mono {T' : State} {g g' : JFrame} (f : ∀ t, Steps p.tables e below (T'.setTop g') t → Steps p.tables e below (T.setTop g) t) (w : Wp n0 p e R s below Q T' g') : Wp n0 p e R s below Q T g := by
  obtain ⟨s₂, o, h1, r⟩ := w; exact ⟨s₂, o, f _ h1, r⟩
theorem nmI (g : ∀ z, z = x → Wp n0 p e R s below Q T (mkF m pc Ls (.int z :: st))) : Wp n0 p e R s below Q T (mkF m pc Ls (.int x :: st)) := g x rfl
theorem nmL (g : ∀ z, z = X → Wp n0 p e R s below Q T (mkF m pc Ls (.long z :: st))) : Wp n0 p e R s below Q T (mkF m pc Ls (.long X :: st)) := g X rfl
def Pu (r : Option Value) (h : Heap) : Option Value → Heap → Prop := fun v h' => v = r ∧ h' = h
def Ef (r : Option Value) (P : Heap → Prop) : Option Value → Heap → Prop := fun v h' => v = r ∧ P h'
def Pr (P : Int32 → Prop) (h : Heap) : Option Value → Heap → Prop := fun v h' => ∃ r, v = some (.int r) ∧ P r ∧ h' = h
def PrL (P : Int64 → Prop) (h : Heap) : Option Value → Heap → Prop := fun v h' => ∃ r, v = some (.long r) ∧ P r ∧ h' = h
def Er (P : Int32 → Heap → Prop) : Option Value → Heap → Prop := fun v h' => ∃ r, v = some (.int r) ∧ P r h'
def Ea (P : Addr → Heap → Prop) : Option Value → Heap → Prop := fun v h' => ∃ r, v = some (.ref r) ∧ P r h'
theorem own_b01 {x : Int32} (h : x.toInt = 0 ∨ x.toInt = 1) : nar .boolean x = x := by
  rcases h with h | h
  · have e : x = 0 := Int32.toInt_inj.mp h
    subst e; rfl
  · have e : x = 1 := Int32.toInt_inj.mp h
    subst e; rfl
theorem own_eqz {x y : Int32} (h : x.toInt = y.toInt) : x = y := Int32.toInt_inj.mp h
theorem own_eqZ {x y : Int64} (h : x.toInt = y.toInt) : x = y := Int64.toInt_inj.mp h
theorem own_lrem (x y : Int64) (d : Int) (hy : y.toInt = d) : (0 ≤ x.toInt → (x % y).toInt = x.toInt % d) ∧ (x.toInt < 0 → (x % y).toInt = -((-x.toInt) % d)) := by rw [Int64.toInt_mod, hy]; exact tr _ _
theorem own_nz {y : Int32} (h : 0 < y.toInt) : y ≠ 0 := fun q => by rw [q] at h; exact absurd h (by decide)
theorem own_nneg {x : Int32} (h : 0 ≤ x.toInt) : ¬ x < 0 := fun q => by
  have q' := Int32.lt_iff_toInt_lt.mp q
  have z0 : (0 : Int32).toInt = 0 := rfl
  omega
theorem own_cl {x : Int32} (h : 0 ≤ x.toInt) : (x.toNatClampNeg : Int) = x.toInt := by
  have e : x.toNatClampNeg = x.toInt.toNat := rfl
  omega
theorem own_ix {x : Int32} (h : 0 ≤ x.toInt) : Ix x x.toInt.toNat := ⟨own_nneg h, rfl⟩
theorem stO {i : Nat} {o : Slot} (ho : One o) (hold : Ls[i]? = some o) (hv : v.category = 1) (he : Ls.setIfInBounds i (.val v) = l') : storeLocals Ls i v = some l' := he ▸ XS.store1 hold ho hv
theorem Sle (S : St n0 p l e R s m args below meth c k n h T) : n0 ≤ h.size := by obtain ⟨_, _, _, _, z⟩ := S; exact z
theorem more {k' n' : Nat} (S : St n0 p l e R s m args below meth c k n h T) (hk : k ≤ k') (hn : n ≤ n') : St n0 p l e R s m args below meth c k' n' h T := by
  obtain ⟨locs, S, r⟩ := S; exact ⟨locs, S.more hk hn, r⟩
theorem pu {r : Option Value} (g : ∀ T, St n0 p l e R s m args below meth c k n h T → Wp n0 p e R s below Q T (mkF m q Ls (r.toList ++ rest))) : ∀ T v h', Pu r h v h' → St n0 p l e R s m args below meth c k n h' T → Wp n0 p e R s below Q T (mkF m q Ls (v.toList ++ rest)) := by
  intro T v h' hq S; obtain ⟨rfl, rfl⟩ := hq; exact g T S
theorem ef {r : Option Value} {P : Heap → Prop} (g : ∀ T h', P h' → St n0 p l e R s m args below meth c k n h' T → Wp n0 p e R s below Q T (mkF m q Ls (r.toList ++ rest))) : ∀ T v h', Ef r P v h' → St n0 p l e R s m args below meth c k n h' T → Wp n0 p e R s below Q T (mkF m q Ls (v.toList ++ rest)) := by
  intro T v h' hq S; obtain ⟨rfl, hp⟩ := hq; exact g T h' hp S
theorem pr {P : Int32 → Prop} (g : ∀ T r, P r → St n0 p l e R s m args below meth c k n h T → Wp n0 p e R s below Q T (mkF m q Ls (.int r :: rest))) : ∀ T v h', Pr P h v h' → St n0 p l e R s m args below meth c k n h' T → Wp n0 p e R s below Q T (mkF m q Ls (v.toList ++ rest)) := by
  intro T v h' hq S; obtain ⟨r, rfl, hp, rfl⟩ := hq; exact g T r hp S
theorem prL {P : Int64 → Prop} (g : ∀ T r, P r → St n0 p l e R s m args below meth c k n h T → Wp n0 p e R s below Q T (mkF m q Ls (.long r :: rest))) : ∀ T v h', PrL P h v h' → St n0 p l e R s m args below meth c k n h' T → Wp n0 p e R s below Q T (mkF m q Ls (v.toList ++ rest)) := by
  intro T v h' hq S; obtain ⟨r, rfl, hp, rfl⟩ := hq; exact g T r hp S
theorem er {P : Int32 → Heap → Prop} (g : ∀ T r h', P r h' → St n0 p l e R s m args below meth c k n h' T → Wp n0 p e R s below Q T (mkF m q Ls (.int r :: rest))) : ∀ T v h', Er P v h' → St n0 p l e R s m args below meth c k n h' T → Wp n0 p e R s below Q T (mkF m q Ls (v.toList ++ rest)) := by
  intro T v h' hq S; obtain ⟨r, rfl, hp⟩ := hq; exact g T r h' hp S
theorem ea {P : Addr → Heap → Prop} (g : ∀ T r h', P r h' → St n0 p l e R s m args below meth c k n h' T → Wp n0 p e R s below Q T (mkF m q Ls (.ref r :: rest))) : ∀ T v h', Ea P v h' → St n0 p l e R s m args below meth c k n h' T → Wp n0 p e R s below Q T (mkF m q Ls (v.toList ++ rest)) := by
  intro T v h' hq S; obtain ⟨r, rfl, hp⟩ := hq; exact g T r h' hp S
theorem enter {y : MethodName} {bytes : ByteArray} {rm : Room} {ws : List Jvm.Cond} {as' : Array Value} (hpn : plainFor y = true) (ef : ∀ m, entryFrame m as' mL = mkF m 0 Ls []) (hn : n0 ≤ h.size)
    (body : ∀ p e s m below meth c T, Cx y.cls bytes mL ret y.name n0 Z p l e rm s m as' below meth c → St n0 p l e rm s m as' below meth c 0 0 h T → Wp n0 p e rm s below Q T (mkF m 0 Ls [])) : Met n0 l Z y bytes mL ret rm ws as' h Q := by
  refine MetFree.of_bodySF hpn hisR ?_
  intro p e s m args below meth c s₁ Bd hml0 hP hK
  obtain ⟨rfl, hZ, hh⟩ := hP
  have e0 : s₁.heap = h := by rw [← hh, Bd.state]; rfl
  have w := body p e s m below meth c s₁ ⟨Bd.exec, Bd.bytes, hml0, Bd.returns, Bd.notSynchronized, findClass_of_methodNamed Bd.named, hZ, (name_of_methodNamed Bd.named Bd.method).1⟩ ⟨[], Stand.of_body Bd, e0, Fr.nil n0, hn⟩
  obtain ⟨s₂, o, h1, r⟩ := w
  exact ⟨s₂, o, castTop (ef m) h1, r⟩
theorem iadd (K : Cx own code mL ret mn n0 Z p l e R s m args below meth c) (S : St n0 p l e R s m args below meth c k n h T) (hd : Dc code pc (.iadd) 1 q) (g : Wp n0 p e R s below Q T (mkF m q Ls (.int (x + y) :: st))) : Wp n0 p e R s below Q T (mkF m pc Ls (.int y :: .int x :: st)) := by
  obtain ⟨hx, hby, -⟩ := K; obtain ⟨locs, S, -, -⟩ := S; obtain ⟨hd, rfl⟩ := hd
  exact wp_mono (fun t hr => XS.iadd S.here hx rfl (hb hby hd) rfl hr) g
theorem isub (K : Cx own code mL ret mn n0 Z p l e R s m args below meth c) (S : St n0 p l e R s m args below meth c k n h T) (hd : Dc code pc (.isub) 1 q) (g : Wp n0 p e R s below Q T (mkF m q Ls (.int (x - y) :: st))) : Wp n0 p e R s below Q T (mkF m pc Ls (.int y :: .int x :: st)) := by
  obtain ⟨hx, hby, -⟩ := K; obtain ⟨locs, S, -, -⟩ := S; obtain ⟨hd, rfl⟩ := hd
  exact wp_mono (fun t hr => XS.isub S.here hx rfl (hb hby hd) rfl hr) g
theorem imul (K : Cx own code mL ret mn n0 Z p l e R s m args below meth c) (S : St n0 p l e R s m args below meth c k n h T) (hd : Dc code pc (.imul) 1 q) (g : Wp n0 p e R s below Q T (mkF m q Ls (.int (x * y) :: st))) : Wp n0 p e R s below Q T (mkF m pc Ls (.int y :: .int x :: st)) := by
  obtain ⟨hx, hby, -⟩ := K; obtain ⟨locs, S, -, -⟩ := S; obtain ⟨hd, rfl⟩ := hd
  exact wp_mono (fun t hr => XS.imul S.here hx rfl (hb hby hd) rfl hr) g
theorem iand (K : Cx own code mL ret mn n0 Z p l e R s m args below meth c) (S : St n0 p l e R s m args below meth c k n h T) (hd : Dc code pc (.iand) 1 q) (g : Wp n0 p e R s below Q T (mkF m q Ls (.int (x &&& y) :: st))) : Wp n0 p e R s below Q T (mkF m pc Ls (.int y :: .int x :: st)) := by
  obtain ⟨hx, hby, -⟩ := K; obtain ⟨locs, S, -, -⟩ := S; obtain ⟨hd, rfl⟩ := hd
  exact wp_mono (fun t hr => XS.iand S.here hx rfl (hb hby hd) rfl hr) g
theorem ior (K : Cx own code mL ret mn n0 Z p l e R s m args below meth c) (S : St n0 p l e R s m args below meth c k n h T) (hd : Dc code pc (.ior) 1 q) (g : Wp n0 p e R s below Q T (mkF m q Ls (.int (x ||| y) :: st))) : Wp n0 p e R s below Q T (mkF m pc Ls (.int y :: .int x :: st)) := by
  obtain ⟨hx, hby, -⟩ := K; obtain ⟨locs, S, -, -⟩ := S; obtain ⟨hd, rfl⟩ := hd
  exact wp_mono (fun t hr => XT.ior S.here hx rfl (hb hby hd) rfl hr) g
theorem ixor (K : Cx own code mL ret mn n0 Z p l e R s m args below meth c) (S : St n0 p l e R s m args below meth c k n h T) (hd : Dc code pc (.ixor) 1 q) (g : Wp n0 p e R s below Q T (mkF m q Ls (.int (x ^^^ y) :: st))) : Wp n0 p e R s below Q T (mkF m pc Ls (.int y :: .int x :: st)) := by
  obtain ⟨hx, hby, -⟩ := K; obtain ⟨locs, S, -, -⟩ := S; obtain ⟨hd, rfl⟩ := hd
  exact wp_mono (fun t hr => XT.ixor S.here hx rfl (hb hby hd) rfl hr) g
theorem ishl (K : Cx own code mL ret mn n0 Z p l e R s m args below meth c) (S : St n0 p l e R s m args below meth c k n h T) (hd : Dc code pc (.ishl) 1 q) (g : Wp n0 p e R s below Q T (mkF m q Ls (.int (x <<< (y &&& 31)) :: st))) : Wp n0 p e R s below Q T (mkF m pc Ls (.int y :: .int x :: st)) := by
  obtain ⟨hx, hby, -⟩ := K; obtain ⟨locs, S, -, -⟩ := S; obtain ⟨hd, rfl⟩ := hd
  exact wp_mono (fun t hr => XT.ishl S.here hx rfl (hb hby hd) rfl hr) g
theorem ishr (K : Cx own code mL ret mn n0 Z p l e R s m args below meth c) (S : St n0 p l e R s m args below meth c k n h T) (hd : Dc code pc (.ishr) 1 q) (g : Wp n0 p e R s below Q T (mkF m q Ls (.int (x >>> (y &&& 31)) :: st))) : Wp n0 p e R s below Q T (mkF m pc Ls (.int y :: .int x :: st)) := by
  obtain ⟨hx, hby, -⟩ := K; obtain ⟨locs, S, -, -⟩ := S; obtain ⟨hd, rfl⟩ := hd
  exact wp_mono (fun t hr => XT.ishr S.here hx rfl (hb hby hd) rfl hr) g
theorem iushr (K : Cx own code mL ret mn n0 Z p l e R s m args below meth c) (S : St n0 p l e R s m args below meth c k n h T) (hd : Dc code pc (.iushr) 1 q) (g : Wp n0 p e R s below Q T (mkF m q Ls (.int (XT.ushr x y) :: st))) : Wp n0 p e R s below Q T (mkF m pc Ls (.int y :: .int x :: st)) := by
  obtain ⟨hx, hby, -⟩ := K; obtain ⟨locs, S, -, -⟩ := S; obtain ⟨hd, rfl⟩ := hd
  exact wp_mono (fun t hr => XT.iushr S.here hx rfl (hb hby hd) rfl hr) g
theorem idiv (K : Cx own code mL ret mn n0 Z p l e R s m args below meth c) (S : St n0 p l e R s m args below meth c k n h T) (hy : y ≠ 0) (hd : Dc code pc (.idiv) 1 q) (g : Wp n0 p e R s below Q T (mkF m q Ls (.int (x / y) :: st))) : Wp n0 p e R s below Q T (mkF m pc Ls (.int y :: .int x :: st)) := by
  obtain ⟨hx, hby, -⟩ := K; obtain ⟨locs, S, -, -⟩ := S; obtain ⟨hd, rfl⟩ := hd
  exact wp_mono (fun t hr => XS.idiv S.here hx rfl (hb hby hd) rfl hy hr) g
theorem irem (K : Cx own code mL ret mn n0 Z p l e R s m args below meth c) (S : St n0 p l e R s m args below meth c k n h T) (hy : y ≠ 0) (hd : Dc code pc (.irem) 1 q) (g : Wp n0 p e R s below Q T (mkF m q Ls (.int (x % y) :: st))) : Wp n0 p e R s below Q T (mkF m pc Ls (.int y :: .int x :: st)) := by
  obtain ⟨hx, hby, -⟩ := K; obtain ⟨locs, S, -, -⟩ := S; obtain ⟨hd, rfl⟩ := hd
  exact wp_mono (fun t hr => iremM S hx rfl (hb hby hd) rfl hy hr) g
theorem ladd (K : Cx own code mL ret mn n0 Z p l e R s m args below meth c) (S : St n0 p l e R s m args below meth c k n h T) (hd : Dc code pc (.ladd) 1 q) (g : Wp n0 p e R s below Q T (mkF m q Ls (.long (X + Y) :: st))) : Wp n0 p e R s below Q T (mkF m pc Ls (.long Y :: .long X :: st)) := by
  obtain ⟨hx, hby, -⟩ := K; obtain ⟨locs, S, -, -⟩ := S; obtain ⟨hd, rfl⟩ := hd
  exact wp_mono (fun t hr => XT.ladd S.here hx rfl (hb hby hd) rfl hr) g
theorem lsub (K : Cx own code mL ret mn n0 Z p l e R s m args below meth c) (S : St n0 p l e R s m args below meth c k n h T) (hd : Dc code pc (.lsub) 1 q) (g : Wp n0 p e R s below Q T (mkF m q Ls (.long (X - Y) :: st))) : Wp n0 p e R s below Q T (mkF m pc Ls (.long Y :: .long X :: st)) := by
  obtain ⟨hx, hby, -⟩ := K; obtain ⟨locs, S, -, -⟩ := S; obtain ⟨hd, rfl⟩ := hd
  exact wp_mono (fun t hr => XT.lsub S.here hx rfl (hb hby hd) rfl hr) g
theorem lmul (K : Cx own code mL ret mn n0 Z p l e R s m args below meth c) (S : St n0 p l e R s m args below meth c k n h T) (hd : Dc code pc (.lmul) 1 q) (g : Wp n0 p e R s below Q T (mkF m q Ls (.long (X * Y) :: st))) : Wp n0 p e R s below Q T (mkF m pc Ls (.long Y :: .long X :: st)) := by
  obtain ⟨hx, hby, -⟩ := K; obtain ⟨locs, S, -, -⟩ := S; obtain ⟨hd, rfl⟩ := hd
  exact wp_mono (fun t hr => XT.lmul S.here hx rfl (hb hby hd) rfl hr) g
theorem land (K : Cx own code mL ret mn n0 Z p l e R s m args below meth c) (S : St n0 p l e R s m args below meth c k n h T) (hd : Dc code pc (.land) 1 q) (g : Wp n0 p e R s below Q T (mkF m q Ls (.long (X &&& Y) :: st))) : Wp n0 p e R s below Q T (mkF m pc Ls (.long Y :: .long X :: st)) := by
  obtain ⟨hx, hby, -⟩ := K; obtain ⟨locs, S, -, -⟩ := S; obtain ⟨hd, rfl⟩ := hd
  exact wp_mono (fun t hr => XT.land S.here hx rfl (hb hby hd) rfl hr) g
theorem ldiv (K : Cx own code mL ret mn n0 Z p l e R s m args below meth c) (S : St n0 p l e R s m args below meth c k n h T) (hy : Y ≠ 0) (hd : Dc code pc (.ldiv) 1 q) (g : Wp n0 p e R s below Q T (mkF m q Ls (.long (X / Y) :: st))) : Wp n0 p e R s below Q T (mkF m pc Ls (.long Y :: .long X :: st)) := by
  obtain ⟨hx, hby, -⟩ := K; obtain ⟨locs, S, -, -⟩ := S; obtain ⟨hd, rfl⟩ := hd
  exact wp_mono (fun t hr => XT.ldiv S.here hx rfl (hb hby hd) rfl hy hr) g
theorem lrem (K : Cx own code mL ret mn n0 Z p l e R s m args below meth c) (S : St n0 p l e R s m args below meth c k n h T) (hy : Y ≠ 0) (hd : Dc code pc (.lrem) 1 q) (g : Wp n0 p e R s below Q T (mkF m q Ls (.long (X % Y) :: st))) : Wp n0 p e R s below Q T (mkF m pc Ls (.long Y :: .long X :: st)) := by
  obtain ⟨hx, hby, -⟩ := K; obtain ⟨locs, S, -, -⟩ := S; obtain ⟨hd, rfl⟩ := hd
  exact wp_mono (fun t hr => XT.lrem S.here hx rfl (hb hby hd) rfl hy (by rw [lrem_mod]; exact hr)) g
theorem lushr (K : Cx own code mL ret mn n0 Z p l e R s m args below meth c) (S : St n0 p l e R s m args below meth c k n h T) (hd : Dc code pc (.lushr) 1 q) (g : Wp n0 p e R s below Q T (mkF m q Ls (.long (XT.ushrL X y) :: st))) : Wp n0 p e R s below Q T (mkF m pc Ls (.int y :: .long X :: st)) := by
  obtain ⟨hx, hby, -⟩ := K; obtain ⟨locs, S, -, -⟩ := S; obtain ⟨hd, rfl⟩ := hd
  exact wp_mono (fun t hr => XT.lushr S.here hx rfl (hb hby hd) rfl hr) g
theorem i2l (K : Cx own code mL ret mn n0 Z p l e R s m args below meth c) (S : St n0 p l e R s m args below meth c k n h T) (hd : Dc code pc (.i2l) 1 q) (g : Wp n0 p e R s below Q T (mkF m q Ls (.long x.toInt64 :: st))) : Wp n0 p e R s below Q T (mkF m pc Ls (.int x :: st)) := by
  obtain ⟨hx, hby, -⟩ := K; obtain ⟨locs, S, -, -⟩ := S; obtain ⟨hd, rfl⟩ := hd
  exact wp_mono (fun t hr => XT.i2l S.here hx rfl (hb hby hd) rfl hr) g
theorem l2i (K : Cx own code mL ret mn n0 Z p l e R s m args below meth c) (S : St n0 p l e R s m args below meth c k n h T) (hd : Dc code pc (.l2i) 1 q) (g : Wp n0 p e R s below Q T (mkF m q Ls (.int X.toInt32 :: st))) : Wp n0 p e R s below Q T (mkF m pc Ls (.long X :: st)) := by
  obtain ⟨hx, hby, -⟩ := K; obtain ⟨locs, S, -, -⟩ := S; obtain ⟨hd, rfl⟩ := hd
  exact wp_mono (fun t hr => XT.l2i S.here hx rfl (hb hby hd) rfl hr) g
theorem i2b (K : Cx own code mL ret mn n0 Z p l e R s m args below meth c) (S : St n0 p l e R s m args below meth c k n h T) (hd : Dc code pc (.i2b) 1 q) (g : Wp n0 p e R s below Q T (mkF m q Ls (.int x.toInt8.toInt32 :: st))) : Wp n0 p e R s below Q T (mkF m pc Ls (.int x :: st)) := by
  obtain ⟨hx, hby, -⟩ := K; obtain ⟨locs, S, -, -⟩ := S; obtain ⟨hd, rfl⟩ := hd
  exact wp_mono (fun t hr => XT.i2b S.here hx rfl (hb hby hd) rfl hr) g
theorem i2s (K : Cx own code mL ret mn n0 Z p l e R s m args below meth c) (S : St n0 p l e R s m args below meth c k n h T) (hd : Dc code pc (.i2s) 1 q) (g : Wp n0 p e R s below Q T (mkF m q Ls (.int x.toInt16.toInt32 :: st))) : Wp n0 p e R s below Q T (mkF m pc Ls (.int x :: st)) := by
  obtain ⟨hx, hby, -⟩ := K; obtain ⟨locs, S, -, -⟩ := S; obtain ⟨hd, rfl⟩ := hd
  exact wp_mono (fun t hr => XT.i2s S.here hx rfl (hb hby hd) rfl hr) g
theorem i2c (K : Cx own code mL ret mn n0 Z p l e R s m args below meth c) (S : St n0 p l e R s m args below meth c k n h T) (hd : Dc code pc (.i2c) 1 q) (g : Wp n0 p e R s below Q T (mkF m q Ls (.int x.toUInt32.toUInt16.toUInt32.toInt32 :: st))) : Wp n0 p e R s below Q T (mkF m pc Ls (.int x :: st)) := by
  obtain ⟨hx, hby, -⟩ := K; obtain ⟨locs, S, -, -⟩ := S; obtain ⟨hd, rfl⟩ := hd
  exact wp_mono (fun t hr => XT.i2c S.here hx rfl (hb hby hd) rfl hr) g
theorem iconst (K : Cx own code mL ret mn n0 Z p l e R s m args below meth c) (S : St n0 p l e R s m args below meth c k n h T) {i : Int} (hv : Int32.ofInt i = x) (hd : Dc code pc (.iconst i) 1 q) (g : Wp n0 p e R s below Q T (mkF m q Ls (.int x :: st))) : Wp n0 p e R s below Q T (mkF m pc Ls st) := by
  obtain ⟨hx, hby, -⟩ := K; obtain ⟨locs, S, -, -⟩ := S; obtain ⟨hd, rfl⟩ := hd
  exact wp_mono (fun t hr => XS.iconst S.here hx rfl (hb hby hd) (by rw [hv]; exact hr)) g
theorem bipush (K : Cx own code mL ret mn n0 Z p l e R s m args below meth c) (S : St n0 p l e R s m args below meth c k n h T) {i : Int} (hv : (Int8.ofInt i).toInt32 = x) (hd : Dc code pc (.bipush i) 2 q) (g : Wp n0 p e R s below Q T (mkF m q Ls (.int x :: st))) : Wp n0 p e R s below Q T (mkF m pc Ls st) := by
  obtain ⟨hx, hby, -⟩ := K; obtain ⟨locs, S, -, -⟩ := S; obtain ⟨hd, rfl⟩ := hd
  exact wp_mono (fun t hr => XS.bipush S.here hx rfl (hb hby hd) (by rw [hv]; exact hr)) g
theorem sipush (K : Cx own code mL ret mn n0 Z p l e R s m args below meth c) (S : St n0 p l e R s m args below meth c k n h T) {i : Int} (hv : (Int16.ofInt i).toInt32 = x) (hd : Dc code pc (.sipush i) 3 q) (g : Wp n0 p e R s below Q T (mkF m q Ls (.int x :: st))) : Wp n0 p e R s below Q T (mkF m pc Ls st) := by
  obtain ⟨hx, hby, -⟩ := K; obtain ⟨locs, S, -, -⟩ := S; obtain ⟨hd, rfl⟩ := hd
  exact wp_mono (fun t hr => XS.sipush S.here hx rfl (hb hby hd) (by rw [hv]; exact hr)) g
theorem lconst (K : Cx own code mL ret mn n0 Z p l e R s m args below meth c) (S : St n0 p l e R s m args below meth c k n h T) {i : Fin 2} (hv : Int64.ofNat i = X) (hd : Dc code pc (.lconst i) 1 q) (g : Wp n0 p e R s below Q T (mkF m q Ls (.long X :: st))) : Wp n0 p e R s below Q T (mkF m pc Ls st) := by
  obtain ⟨hx, hby, -⟩ := K; obtain ⟨locs, S, -, -⟩ := S; obtain ⟨hd, rfl⟩ := hd
  exact wp_mono (fun t hr => XT.lconst S.here hx rfl (hb hby hd) (by rw [hv]; exact hr)) g
theorem anull (K : Cx own code mL ret mn n0 Z p l e R s m args below meth c) (S : St n0 p l e R s m args below meth c k n h T) (hd : Dc code pc (.aconst_null) 1 q) (g : Wp n0 p e R s below Q T (mkF m q Ls (.null :: st))) : Wp n0 p e R s below Q T (mkF m pc Ls st) := by
  obtain ⟨hx, hby, -⟩ := K; obtain ⟨locs, S, -, -⟩ := S; obtain ⟨hd, rfl⟩ := hd
  exact wp_mono (fun t hr => XS.aconstNull S.here hx rfl (hb hby hd) hr) g
theorem dup (K : Cx own code mL ret mn n0 Z p l e R s m args below meth c) (S : St n0 p l e R s m args below meth c k n h T) (hc : v.category = 1) (hd : Dc code pc (.dup) 1 q) (g : Wp n0 p e R s below Q T (mkF m q Ls (v :: v :: st))) : Wp n0 p e R s below Q T (mkF m pc Ls (v :: st)) := by
  obtain ⟨hx, hby, -⟩ := K; obtain ⟨locs, S, -, -⟩ := S; obtain ⟨hd, rfl⟩ := hd
  exact wp_mono (fun t hr => XS.dup S.here hx rfl (hb hby hd) rfl hc hr) g
theorem pop (K : Cx own code mL ret mn n0 Z p l e R s m args below meth c) (S : St n0 p l e R s m args below meth c k n h T) (hc : v.category = 1) (hd : Dc code pc (.pop) 1 q) (g : Wp n0 p e R s below Q T (mkF m q Ls st)) : Wp n0 p e R s below Q T (mkF m pc Ls (v :: st)) := by
  obtain ⟨hx, hby, -⟩ := K; obtain ⟨locs, S, -, -⟩ := S; obtain ⟨hd, rfl⟩ := hd
  exact wp_mono (fun t hr => XT.pop S.here hx rfl (hb hby hd) rfl hc hr) g
theorem dup_x1 (K : Cx own code mL ret mn n0 Z p l e R s m args below meth c) (S : St n0 p l e R s m args below meth c k n h T) (hc : v.category = 1) (hc' : w.category = 1) (hd : Dc code pc (.dup_x1) 1 q) (g : Wp n0 p e R s below Q T (mkF m q Ls (v :: w :: v :: st))) : Wp n0 p e R s below Q T (mkF m pc Ls (v :: w :: st)) := by
  obtain ⟨hx, hby, -⟩ := K; obtain ⟨locs, S, -, -⟩ := S; obtain ⟨hd, rfl⟩ := hd
  exact wp_mono (fun t hr => XT.dupX1 S.here hx rfl (hb hby hd) rfl hc hc' hr) g
theorem dup2 (K : Cx own code mL ret mn n0 Z p l e R s m args below meth c) (S : St n0 p l e R s m args below meth c k n h T) (hc : v.category = 1) (hc' : w.category = 1) (hd : Dc code pc (.dup2) 1 q) (g : Wp n0 p e R s below Q T (mkF m q Ls (v :: w :: v :: w :: st))) : Wp n0 p e R s below Q T (mkF m pc Ls (v :: w :: st)) := by
  obtain ⟨hx, hby, -⟩ := K; obtain ⟨locs, S, -, -⟩ := S; obtain ⟨hd, rfl⟩ := hd
  exact wp_mono (fun t hr => XT.dup2 S.here hx rfl (hb hby hd) rfl hc hc' hr) g
theorem iload (K : Cx own code mL ret mn n0 Z p l e R s m args below meth c) (S : St n0 p l e R s m args below meth c k n h T) {i : Nat} (hl : Ls[i]? = some (.val (.int x))) (hd : Dc code pc (.iload i) 2 q) (g : Wp n0 p e R s below Q T (mkF m q Ls (.int x :: st))) : Wp n0 p e R s below Q T (mkF m pc Ls st) := by
  obtain ⟨hx, hby, -⟩ := K; obtain ⟨locs, S, -, -⟩ := S; obtain ⟨hd, rfl⟩ := hd
  exact wp_mono (fun t hr => XS.iload S.here hx rfl (hb hby hd) hl hr) g
theorem iload_n (K : Cx own code mL ret mn n0 Z p l e R s m args below meth c) (S : St n0 p l e R s m args below meth c k n h T) {i : Fin 4} (hl : Ls[i.val]? = some (.val (.int x))) (hd : Dc code pc (.iload_n i) 1 q) (g : Wp n0 p e R s below Q T (mkF m q Ls (.int x :: st))) : Wp n0 p e R s below Q T (mkF m pc Ls st) := by
  obtain ⟨hx, hby, -⟩ := K; obtain ⟨locs, S, -, -⟩ := S; obtain ⟨hd, rfl⟩ := hd
  exact wp_mono (fun t hr => XS.iloadN S.here hx rfl (hb hby hd) hl hr) g
theorem aload (K : Cx own code mL ret mn n0 Z p l e R s m args below meth c) (S : St n0 p l e R s m args below meth c k n h T) {i : Nat} (hl : Ls[i]? = some (.val (v))) (hv : v.isRef = true) (hd : Dc code pc (.aload i) 2 q) (g : Wp n0 p e R s below Q T (mkF m q Ls (v :: st))) : Wp n0 p e R s below Q T (mkF m pc Ls st) := by
  obtain ⟨hx, hby, -⟩ := K; obtain ⟨locs, S, -, -⟩ := S; obtain ⟨hd, rfl⟩ := hd
  exact wp_mono (fun t hr => XS.aload S.here hx rfl (hb hby hd) hl hv hr) g
theorem aload_n (K : Cx own code mL ret mn n0 Z p l e R s m args below meth c) (S : St n0 p l e R s m args below meth c k n h T) {i : Fin 4} (hl : Ls[i.val]? = some (.val (v))) (hv : v.isRef = true) (hd : Dc code pc (.aload_n i) 1 q) (g : Wp n0 p e R s below Q T (mkF m q Ls (v :: st))) : Wp n0 p e R s below Q T (mkF m pc Ls st) := by
  obtain ⟨hx, hby, -⟩ := K; obtain ⟨locs, S, -, -⟩ := S; obtain ⟨hd, rfl⟩ := hd
  exact wp_mono (fun t hr => XS.aloadN S.here hx rfl (hb hby hd) hl hv hr) g
theorem lload (K : Cx own code mL ret mn n0 Z p l e R s m args below meth c) (S : St n0 p l e R s m args below meth c k n h T) {i : Nat} (hl : Ls[i]? = some (.val (.long X))) (hd : Dc code pc (.lload i) 2 q) (g : Wp n0 p e R s below Q T (mkF m q Ls (.long X :: st))) : Wp n0 p e R s below Q T (mkF m pc Ls st) := by
  obtain ⟨hx, hby, -⟩ := K; obtain ⟨locs, S, -, -⟩ := S; obtain ⟨hd, rfl⟩ := hd
  exact wp_mono (fun t hr => XT.lload S.here hx rfl (hb hby hd) hl hr) g
theorem lload_n (K : Cx own code mL ret mn n0 Z p l e R s m args below meth c) (S : St n0 p l e R s m args below meth c k n h T) {i : Fin 4} (hl : Ls[i.val]? = some (.val (.long X))) (hd : Dc code pc (.lload_n i) 1 q) (g : Wp n0 p e R s below Q T (mkF m q Ls (.long X :: st))) : Wp n0 p e R s below Q T (mkF m pc Ls st) := by
  obtain ⟨hx, hby, -⟩ := K; obtain ⟨locs, S, -, -⟩ := S; obtain ⟨hd, rfl⟩ := hd
  exact wp_mono (fun t hr => XT.lloadN S.here hx rfl (hb hby hd) hl hr) g
theorem istore (K : Cx own code mL ret mn n0 Z p l e R s m args below meth c) (S : St n0 p l e R s m args below meth c k n h T) {i : Nat} (hl : storeLocals Ls i (.int x) = some l') (hd : Dc code pc (.istore i) 2 q) (g : Wp n0 p e R s below Q T (mkF m q l' st)) : Wp n0 p e R s below Q T (mkF m pc Ls (.int x :: st)) := by
  obtain ⟨hx, hby, -⟩ := K; obtain ⟨locs, S, -, -⟩ := S; obtain ⟨hd, rfl⟩ := hd
  exact wp_mono (fun t hr => XS.istore S.here hx rfl (hb hby hd) rfl hl hr) g
theorem istore_n (K : Cx own code mL ret mn n0 Z p l e R s m args below meth c) (S : St n0 p l e R s m args below meth c k n h T) {i : Fin 4} (hl : storeLocals Ls i.val (.int x) = some l') (hd : Dc code pc (.istore_n i) 1 q) (g : Wp n0 p e R s below Q T (mkF m q l' st)) : Wp n0 p e R s below Q T (mkF m pc Ls (.int x :: st)) := by
  obtain ⟨hx, hby, -⟩ := K; obtain ⟨locs, S, -, -⟩ := S; obtain ⟨hd, rfl⟩ := hd
  exact wp_mono (fun t hr => XS.istoreN S.here hx rfl (hb hby hd) rfl hl hr) g
theorem astore (K : Cx own code mL ret mn n0 Z p l e R s m args below meth c) (S : St n0 p l e R s m args below meth c k n h T) {i : Nat} (hv : v.isRef = true) (hl : storeLocals Ls i (v) = some l') (hd : Dc code pc (.astore i) 2 q) (g : Wp n0 p e R s below Q T (mkF m q l' st)) : Wp n0 p e R s below Q T (mkF m pc Ls (v :: st)) := by
  obtain ⟨hx, hby, -⟩ := K; obtain ⟨locs, S, -, -⟩ := S; obtain ⟨hd, rfl⟩ := hd
  exact wp_mono (fun t hr => XS.astore S.here hx rfl (hb hby hd) rfl hv hl hr) g
theorem astore_n (K : Cx own code mL ret mn n0 Z p l e R s m args below meth c) (S : St n0 p l e R s m args below meth c k n h T) {i : Fin 4} (hv : v.isRef = true) (hl : storeLocals Ls i.val (v) = some l') (hd : Dc code pc (.astore_n i) 1 q) (g : Wp n0 p e R s below Q T (mkF m q l' st)) : Wp n0 p e R s below Q T (mkF m pc Ls (v :: st)) := by
  obtain ⟨hx, hby, -⟩ := K; obtain ⟨locs, S, -, -⟩ := S; obtain ⟨hd, rfl⟩ := hd
  exact wp_mono (fun t hr => XS.astoreN S.here hx rfl (hb hby hd) rfl hv hl hr) g
theorem lstore (K : Cx own code mL ret mn n0 Z p l e R s m args below meth c) (S : St n0 p l e R s m args below meth c k n h T) {i : Nat} (hl : storeLocals Ls i (.long X) = some l') (hd : Dc code pc (.lstore i) 2 q) (g : Wp n0 p e R s below Q T (mkF m q l' st)) : Wp n0 p e R s below Q T (mkF m pc Ls (.long X :: st)) := by
  obtain ⟨hx, hby, -⟩ := K; obtain ⟨locs, S, -, -⟩ := S; obtain ⟨hd, rfl⟩ := hd
  exact wp_mono (fun t hr => XT.lstore S.here hx rfl (hb hby hd) rfl hl hr) g
theorem lstore_n (K : Cx own code mL ret mn n0 Z p l e R s m args below meth c) (S : St n0 p l e R s m args below meth c k n h T) {i : Fin 4} (hl : storeLocals Ls i.val (.long X) = some l') (hd : Dc code pc (.lstore_n i) 1 q) (g : Wp n0 p e R s below Q T (mkF m q l' st)) : Wp n0 p e R s below Q T (mkF m pc Ls (.long X :: st)) := by
  obtain ⟨hx, hby, -⟩ := K; obtain ⟨locs, S, -, -⟩ := S; obtain ⟨hd, rfl⟩ := hd
  exact wp_mono (fun t hr => XT.lstoreN S.here hx rfl (hb hby hd) rfl hl hr) g
theorem iinc (K : Cx own code mL ret mn n0 Z p l e R s m args below meth c) (S : St n0 p l e R s m args below meth c k n h T) {i : Nat} {cst : Int} (hv : Int32.ofInt cst = y) (hl : Ls[i]? = some (.val (.int x))) (hl' : storeLocals Ls i (.int (x + y)) = some l') (hd : Dc code pc (.iinc i cst) 3 q) (g : Wp n0 p e R s below Q T (mkF m q l' st)) : Wp n0 p e R s below Q T (mkF m pc Ls st) := by
  obtain ⟨hx, hby, -⟩ := K; obtain ⟨locs, S, -, -⟩ := S; obtain ⟨hd, rfl⟩ := hd
  exact wp_mono (fun t hr => XS.iinc S.here hx rfl (hb hby hd) hl (by rw [hv]; exact hl') hr) g
theorem goto (K : Cx own code mL ret mn n0 Z p l e R s m args below meth c) (S : St n0 p l e R s m args below meth c k n h T) {o : Int} (hd : Bc code pc (.goto o) o q q') (g : Wp n0 p e R s below Q T (mkF m q' Ls st)) : Wp n0 p e R s below Q T (mkF m pc Ls st) := by
  obtain ⟨hx, hby, -⟩ := K; obtain ⟨locs, S, -, -⟩ := S; obtain ⟨hd, -, h1, h2⟩ := hd
  exact wp_mono (fun t hr => XS.goto S.here hx rfl rfl (hb hby hd) h1 h2 hr) g
theorem icmp (K : Cx own code mL ret mn n0 Z p l e R s m args below meth c) (S : St n0 p l e R s m args below meth c k n h T) {o : Int} {cd : ClassFile.Cond} (hd : Bc code pc (.if_icmp cd o) o q q') (g1 : if_icmp.holds cd x y = true → Wp n0 p e R s below Q T (mkF m q' Ls st)) (g2 : if_icmp.holds cd x y = false → Wp n0 p e R s below Q T (mkF m q Ls st)) : Wp n0 p e R s below Q T (mkF m pc Ls (.int y :: .int x :: st)) := by
  obtain ⟨hx, hby, -⟩ := K; obtain ⟨locs, S, -, -⟩ := S; obtain ⟨hd, rfl, h1, h2⟩ := hd
  cases hc : if_icmp.holds cd x y with
  | true => exact wp_mono (fun t hr => XS.icmpYes S.here hx rfl rfl (hb hby hd) rfl hc h1 h2 hr) (g1 hc)
  | false => exact wp_mono (fun t hr => XS.icmpNo S.here hx rfl (hb hby hd) rfl hc hr) (g2 hc)
theorem ific (K : Cx own code mL ret mn n0 Z p l e R s m args below meth c) (S : St n0 p l e R s m args below meth c k n h T) {o : Int} {cd : ClassFile.Cond} (hd : Bc code pc (.ifCond cd o) o q q') (g1 : if_icmp.holds cd x 0 = true → Wp n0 p e R s below Q T (mkF m q' Ls st)) (g2 : if_icmp.holds cd x 0 = false → Wp n0 p e R s below Q T (mkF m q Ls st)) : Wp n0 p e R s below Q T (mkF m pc Ls (.int x :: st)) := by
  obtain ⟨hx, hby, -⟩ := K; obtain ⟨locs, S, -, -⟩ := S; obtain ⟨hd, rfl, h1, h2⟩ := hd
  cases hc : if_icmp.holds cd x 0 with
  | true => exact wp_mono (fun t hr => XS.ifYes S.here hx rfl rfl (hb hby hd) rfl (by rw [if0]; exact hc) h1 h2 hr) (g1 hc)
  | false => exact wp_mono (fun t hr => XS.ifNo S.here hx rfl (hb hby hd) rfl (by rw [if0]; exact hc) hr) (g2 hc)
theorem icmp_lt (K : Cx own code mL ret mn n0 Z p l e R s m args below meth c) (S : St n0 p l e R s m args below meth c k n h T) {o : Int} (hd : Bc code pc (.if_icmp .lt o) o q q') (g1 : x < y → Wp n0 p e R s below Q T (mkF m q' Ls st)) (g2 : ¬ x < y → Wp n0 p e R s below Q T (mkF m q Ls st)) : Wp n0 p e R s below Q T (mkF m pc Ls (.int y :: .int x :: st)) := by
  by_cases hc : x < y
  · exact icmp K S hd (fun _ => g1 hc) (fun q => absurd ((tlt hc).1) (by rw [q]; decide))
  · exact icmp K S hd (fun q => absurd ((flt hc).1) (by rw [q]; decide)) (fun _ => g2 hc)
theorem ific_lt (K : Cx own code mL ret mn n0 Z p l e R s m args below meth c) (S : St n0 p l e R s m args below meth c k n h T) {o : Int} (hd : Bc code pc (.ifCond .lt o) o q q') (g1 : x < 0 → Wp n0 p e R s below Q T (mkF m q' Ls st)) (g2 : ¬ x < 0 → Wp n0 p e R s below Q T (mkF m q Ls st)) : Wp n0 p e R s below Q T (mkF m pc Ls (.int x :: st)) := by
  by_cases hc : x < 0
  · exact ific K S hd (fun _ => g1 hc) (fun q => absurd ((tlt hc).1) (by rw [q]; decide))
  · exact ific K S hd (fun q => absurd ((flt hc).1) (by rw [q]; decide)) (fun _ => g2 hc)
theorem icmp_ge (K : Cx own code mL ret mn n0 Z p l e R s m args below meth c) (S : St n0 p l e R s m args below meth c k n h T) {o : Int} (hd : Bc code pc (.if_icmp .ge o) o q q') (g1 : ¬ x < y → Wp n0 p e R s below Q T (mkF m q' Ls st)) (g2 : x < y → Wp n0 p e R s below Q T (mkF m q Ls st)) : Wp n0 p e R s below Q T (mkF m pc Ls (.int y :: .int x :: st)) := by
  by_cases hc : x < y
  · exact icmp K S hd (fun q => absurd ((tlt hc).2.1) (by rw [q]; decide)) (fun _ => g2 hc)
  · exact icmp K S hd (fun _ => g1 hc) (fun q => absurd ((flt hc).2.1) (by rw [q]; decide))
theorem ific_ge (K : Cx own code mL ret mn n0 Z p l e R s m args below meth c) (S : St n0 p l e R s m args below meth c k n h T) {o : Int} (hd : Bc code pc (.ifCond .ge o) o q q') (g1 : ¬ x < 0 → Wp n0 p e R s below Q T (mkF m q' Ls st)) (g2 : x < 0 → Wp n0 p e R s below Q T (mkF m q Ls st)) : Wp n0 p e R s below Q T (mkF m pc Ls (.int x :: st)) := by
  by_cases hc : x < 0
  · exact ific K S hd (fun q => absurd ((tlt hc).2.1) (by rw [q]; decide)) (fun _ => g2 hc)
  · exact ific K S hd (fun _ => g1 hc) (fun q => absurd ((flt hc).2.1) (by rw [q]; decide))
theorem icmp_gt (K : Cx own code mL ret mn n0 Z p l e R s m args below meth c) (S : St n0 p l e R s m args below meth c k n h T) {o : Int} (hd : Bc code pc (.if_icmp .gt o) o q q') (g1 : y < x → Wp n0 p e R s below Q T (mkF m q' Ls st)) (g2 : ¬ y < x → Wp n0 p e R s below Q T (mkF m q Ls st)) : Wp n0 p e R s below Q T (mkF m pc Ls (.int y :: .int x :: st)) := by
  by_cases hc : y < x
  · exact icmp K S hd (fun _ => g1 hc) (fun q => absurd ((tlt hc).2.2.1) (by rw [q]; decide))
  · exact icmp K S hd (fun q => absurd ((flt hc).2.2.1) (by rw [q]; decide)) (fun _ => g2 hc)
theorem ific_gt (K : Cx own code mL ret mn n0 Z p l e R s m args below meth c) (S : St n0 p l e R s m args below meth c k n h T) {o : Int} (hd : Bc code pc (.ifCond .gt o) o q q') (g1 : 0 < x → Wp n0 p e R s below Q T (mkF m q' Ls st)) (g2 : ¬ 0 < x → Wp n0 p e R s below Q T (mkF m q Ls st)) : Wp n0 p e R s below Q T (mkF m pc Ls (.int x :: st)) := by
  by_cases hc : 0 < x
  · exact ific K S hd (fun _ => g1 hc) (fun q => absurd ((tlt hc).2.2.1) (by rw [q]; decide))
  · exact ific K S hd (fun q => absurd ((flt hc).2.2.1) (by rw [q]; decide)) (fun _ => g2 hc)
theorem icmp_le (K : Cx own code mL ret mn n0 Z p l e R s m args below meth c) (S : St n0 p l e R s m args below meth c k n h T) {o : Int} (hd : Bc code pc (.if_icmp .le o) o q q') (g1 : ¬ y < x → Wp n0 p e R s below Q T (mkF m q' Ls st)) (g2 : y < x → Wp n0 p e R s below Q T (mkF m q Ls st)) : Wp n0 p e R s below Q T (mkF m pc Ls (.int y :: .int x :: st)) := by
  by_cases hc : y < x
  · exact icmp K S hd (fun q => absurd ((tlt hc).2.2.2) (by rw [q]; decide)) (fun _ => g2 hc)
  · exact icmp K S hd (fun _ => g1 hc) (fun q => absurd ((flt hc).2.2.2) (by rw [q]; decide))
theorem ific_le (K : Cx own code mL ret mn n0 Z p l e R s m args below meth c) (S : St n0 p l e R s m args below meth c k n h T) {o : Int} (hd : Bc code pc (.ifCond .le o) o q q') (g1 : ¬ 0 < x → Wp n0 p e R s below Q T (mkF m q' Ls st)) (g2 : 0 < x → Wp n0 p e R s below Q T (mkF m q Ls st)) : Wp n0 p e R s below Q T (mkF m pc Ls (.int x :: st)) := by
  by_cases hc : 0 < x
  · exact ific K S hd (fun q => absurd ((tlt hc).2.2.2) (by rw [q]; decide)) (fun _ => g2 hc)
  · exact ific K S hd (fun _ => g1 hc) (fun q => absurd ((flt hc).2.2.2) (by rw [q]; decide))
theorem icmp_eq (K : Cx own code mL ret mn n0 Z p l e R s m args below meth c) (S : St n0 p l e R s m args below meth c k n h T) {o : Int} (hd : Bc code pc (.if_icmp .eq o) o q q') (g1 : x = y → Wp n0 p e R s below Q T (mkF m q' Ls st)) (g2 : ¬ x = y → Wp n0 p e R s below Q T (mkF m q Ls st)) : Wp n0 p e R s below Q T (mkF m pc Ls (.int y :: .int x :: st)) := by
  by_cases hc : x = y
  · exact icmp K S hd (fun _ => g1 hc) (fun q => absurd ((teq hc).1) (by rw [q]; decide))
  · exact icmp K S hd (fun q => absurd ((feq hc).1) (by rw [q]; decide)) (fun _ => g2 hc)
theorem ific_eq (K : Cx own code mL ret mn n0 Z p l e R s m args below meth c) (S : St n0 p l e R s m args below meth c k n h T) {o : Int} (hd : Bc code pc (.ifCond .eq o) o q q') (g1 : x = 0 → Wp n0 p e R s below Q T (mkF m q' Ls st)) (g2 : ¬ x = 0 → Wp n0 p e R s below Q T (mkF m q Ls st)) : Wp n0 p e R s below Q T (mkF m pc Ls (.int x :: st)) := by
  by_cases hc : x = 0
  · exact ific K S hd (fun _ => g1 hc) (fun q => absurd ((teq hc).1) (by rw [q]; decide))
  · exact ific K S hd (fun q => absurd ((feq hc).1) (by rw [q]; decide)) (fun _ => g2 hc)
theorem icmp_ne (K : Cx own code mL ret mn n0 Z p l e R s m args below meth c) (S : St n0 p l e R s m args below meth c k n h T) {o : Int} (hd : Bc code pc (.if_icmp .ne o) o q q') (g1 : ¬ x = y → Wp n0 p e R s below Q T (mkF m q' Ls st)) (g2 : x = y → Wp n0 p e R s below Q T (mkF m q Ls st)) : Wp n0 p e R s below Q T (mkF m pc Ls (.int y :: .int x :: st)) := by
  by_cases hc : x = y
  · exact icmp K S hd (fun q => absurd ((teq hc).2) (by rw [q]; decide)) (fun _ => g2 hc)
  · exact icmp K S hd (fun _ => g1 hc) (fun q => absurd ((feq hc).2) (by rw [q]; decide))
theorem ific_ne (K : Cx own code mL ret mn n0 Z p l e R s m args below meth c) (S : St n0 p l e R s m args below meth c k n h T) {o : Int} (hd : Bc code pc (.ifCond .ne o) o q q') (g1 : ¬ x = 0 → Wp n0 p e R s below Q T (mkF m q' Ls st)) (g2 : x = 0 → Wp n0 p e R s below Q T (mkF m q Ls st)) : Wp n0 p e R s below Q T (mkF m pc Ls (.int x :: st)) := by
  by_cases hc : x = 0
  · exact ific K S hd (fun q => absurd ((teq hc).2) (by rw [q]; decide)) (fun _ => g2 hc)
  · exact ific K S hd (fun _ => g1 hc) (fun q => absurd ((feq hc).2) (by rw [q]; decide))
theorem lcmp_lt (K : Cx own code mL ret mn n0 Z p l e R s m args below meth c) (S : St n0 p l e R s m args below meth c k n h T) {o : Int} {pc1 : Nat} (hd1 : Dc code pc .lcmp 1 pc1) (hd : Bc code pc1 (.ifCond .lt o) o q q') (g1 : X < Y → Wp n0 p e R s below Q T (mkF m q' Ls st)) (g2 : ¬ X < Y → Wp n0 p e R s below Q T (mkF m q Ls st)) : Wp n0 p e R s below Q T (mkF m pc Ls (.long Y :: .long X :: st)) := by
  obtain ⟨hx, hby, -⟩ := K; obtain ⟨locs, S, -, -⟩ := S; obtain ⟨hd, rfl, h1, h2⟩ := hd; obtain ⟨hd1, rfl⟩ := hd1
  by_cases hc : X < Y
  · exact wp_mono (fun t hr => XT.lcmp S.here hx rfl (hb hby hd1) rfl (XS.ifYes S.here hx rfl rfl (hb hby hd) rfl (XT.ll_lt_t hc) h1 h2 hr)) (g1 hc)
  · exact wp_mono (fun t hr => XT.lcmp S.here hx rfl (hb hby hd1) rfl (XS.ifNo S.here hx rfl (hb hby hd) rfl (XT.ll_lt_f hc) hr)) (g2 hc)
theorem lcmp_ge (K : Cx own code mL ret mn n0 Z p l e R s m args below meth c) (S : St n0 p l e R s m args below meth c k n h T) {o : Int} {pc1 : Nat} (hd1 : Dc code pc .lcmp 1 pc1) (hd : Bc code pc1 (.ifCond .ge o) o q q') (g1 : ¬ X < Y → Wp n0 p e R s below Q T (mkF m q' Ls st)) (g2 : X < Y → Wp n0 p e R s below Q T (mkF m q Ls st)) : Wp n0 p e R s below Q T (mkF m pc Ls (.long Y :: .long X :: st)) := by
  obtain ⟨hx, hby, -⟩ := K; obtain ⟨locs, S, -, -⟩ := S; obtain ⟨hd, rfl, h1, h2⟩ := hd; obtain ⟨hd1, rfl⟩ := hd1
  by_cases hc : X < Y
  · exact wp_mono (fun t hr => XT.lcmp S.here hx rfl (hb hby hd1) rfl (XS.ifNo S.here hx rfl (hb hby hd) rfl (XT.ll_ge_f hc) hr)) (g2 hc)
  · exact wp_mono (fun t hr => XT.lcmp S.here hx rfl (hb hby hd1) rfl (XS.ifYes S.here hx rfl rfl (hb hby hd) rfl (XT.ll_ge_t hc) h1 h2 hr)) (g1 hc)
theorem lcmp_gt (K : Cx own code mL ret mn n0 Z p l e R s m args below meth c) (S : St n0 p l e R s m args below meth c k n h T) {o : Int} {pc1 : Nat} (hd1 : Dc code pc .lcmp 1 pc1) (hd : Bc code pc1 (.ifCond .gt o) o q q') (g1 : Y < X → Wp n0 p e R s below Q T (mkF m q' Ls st)) (g2 : ¬ Y < X → Wp n0 p e R s below Q T (mkF m q Ls st)) : Wp n0 p e R s below Q T (mkF m pc Ls (.long Y :: .long X :: st)) := by
  obtain ⟨hx, hby, -⟩ := K; obtain ⟨locs, S, -, -⟩ := S; obtain ⟨hd, rfl, h1, h2⟩ := hd; obtain ⟨hd1, rfl⟩ := hd1
  by_cases hc : Y < X
  · exact wp_mono (fun t hr => XT.lcmp S.here hx rfl (hb hby hd1) rfl (XS.ifYes S.here hx rfl rfl (hb hby hd) rfl (XT.ll_gt_t hc) h1 h2 hr)) (g1 hc)
  · exact wp_mono (fun t hr => XT.lcmp S.here hx rfl (hb hby hd1) rfl (XS.ifNo S.here hx rfl (hb hby hd) rfl (XT.ll_gt_f hc) hr)) (g2 hc)
theorem lcmp_le (K : Cx own code mL ret mn n0 Z p l e R s m args below meth c) (S : St n0 p l e R s m args below meth c k n h T) {o : Int} {pc1 : Nat} (hd1 : Dc code pc .lcmp 1 pc1) (hd : Bc code pc1 (.ifCond .le o) o q q') (g1 : ¬ Y < X → Wp n0 p e R s below Q T (mkF m q' Ls st)) (g2 : Y < X → Wp n0 p e R s below Q T (mkF m q Ls st)) : Wp n0 p e R s below Q T (mkF m pc Ls (.long Y :: .long X :: st)) := by
  obtain ⟨hx, hby, -⟩ := K; obtain ⟨locs, S, -, -⟩ := S; obtain ⟨hd, rfl, h1, h2⟩ := hd; obtain ⟨hd1, rfl⟩ := hd1
  by_cases hc : Y < X
  · exact wp_mono (fun t hr => XT.lcmp S.here hx rfl (hb hby hd1) rfl (XS.ifNo S.here hx rfl (hb hby hd) rfl (XT.ll_le_f hc) hr)) (g2 hc)
  · exact wp_mono (fun t hr => XT.lcmp S.here hx rfl (hb hby hd1) rfl (XS.ifYes S.here hx rfl rfl (hb hby hd) rfl (XT.ll_le_t hc) h1 h2 hr)) (g1 hc)
theorem lcmp_eq (K : Cx own code mL ret mn n0 Z p l e R s m args below meth c) (S : St n0 p l e R s m args below meth c k n h T) {o : Int} {pc1 : Nat} (hd1 : Dc code pc .lcmp 1 pc1) (hd : Bc code pc1 (.ifCond .eq o) o q q') (g1 : X = Y → Wp n0 p e R s below Q T (mkF m q' Ls st)) (g2 : ¬ X = Y → Wp n0 p e R s below Q T (mkF m q Ls st)) : Wp n0 p e R s below Q T (mkF m pc Ls (.long Y :: .long X :: st)) := by
  obtain ⟨hx, hby, -⟩ := K; obtain ⟨locs, S, -, -⟩ := S; obtain ⟨hd, rfl, h1, h2⟩ := hd; obtain ⟨hd1, rfl⟩ := hd1
  by_cases hc : X = Y
  · exact wp_mono (fun t hr => XT.lcmp S.here hx rfl (hb hby hd1) rfl (XS.ifYes S.here hx rfl rfl (hb hby hd) rfl (XT.ll_eq_t hc) h1 h2 hr)) (g1 hc)
  · exact wp_mono (fun t hr => XT.lcmp S.here hx rfl (hb hby hd1) rfl (XS.ifNo S.here hx rfl (hb hby hd) rfl (XT.ll_eq_f hc) hr)) (g2 hc)
theorem lcmp_ne (K : Cx own code mL ret mn n0 Z p l e R s m args below meth c) (S : St n0 p l e R s m args below meth c k n h T) {o : Int} {pc1 : Nat} (hd1 : Dc code pc .lcmp 1 pc1) (hd : Bc code pc1 (.ifCond .ne o) o q q') (g1 : ¬ X = Y → Wp n0 p e R s below Q T (mkF m q' Ls st)) (g2 : X = Y → Wp n0 p e R s below Q T (mkF m q Ls st)) : Wp n0 p e R s below Q T (mkF m pc Ls (.long Y :: .long X :: st)) := by
  obtain ⟨hx, hby, -⟩ := K; obtain ⟨locs, S, -, -⟩ := S; obtain ⟨hd, rfl, h1, h2⟩ := hd; obtain ⟨hd1, rfl⟩ := hd1
  by_cases hc : X = Y
  · exact wp_mono (fun t hr => XT.lcmp S.here hx rfl (hb hby hd1) rfl (XS.ifNo S.here hx rfl (hb hby hd) rfl (XT.ll_ne_f hc) hr)) (g2 hc)
  · exact wp_mono (fun t hr => XT.lcmp S.here hx rfl (hb hby hd1) rfl (XS.ifYes S.here hx rfl rfl (hb hby hd) rfl (XT.ll_ne_t hc) h1 h2 hr)) (g1 hc)
theorem icmpz_lt (K : Cx own code mL ret mn n0 Z p l e R s m args below meth c) (S : St n0 p l e R s m args below meth c k n h T) {o : Int} (hd : Bc code pc (.if_icmp .lt o) o q q') (g1 : x.toInt < y.toInt → Wp n0 p e R s below Q T (mkF m q' Ls st)) (g2 : ¬ x.toInt < y.toInt → Wp n0 p e R s below Q T (mkF m q Ls st)) : Wp n0 p e R s below Q T (mkF m pc Ls (.int y :: .int x :: st)) :=
  icmp_lt K S hd (fun q => g1 (Int32.lt_iff_toInt_lt.mp q)) (fun q => g2 (fun r => q (Int32.lt_iff_toInt_lt.mpr r)))
theorem ificz_lt (K : Cx own code mL ret mn n0 Z p l e R s m args below meth c) (S : St n0 p l e R s m args below meth c k n h T) {o : Int} (hd : Bc code pc (.ifCond .lt o) o q q') (g1 : x.toInt < 0 → Wp n0 p e R s below Q T (mkF m q' Ls st)) (g2 : ¬ x.toInt < 0 → Wp n0 p e R s below Q T (mkF m q Ls st)) : Wp n0 p e R s below Q T (mkF m pc Ls (.int x :: st)) :=
  ific_lt K S hd (fun q => g1 (Int32.lt_iff_toInt_lt.mp q)) (fun q => g2 (fun r => q (Int32.lt_iff_toInt_lt.mpr r)))
theorem lcmpz_lt (K : Cx own code mL ret mn n0 Z p l e R s m args below meth c) (S : St n0 p l e R s m args below meth c k n h T) {o : Int} {pc1 : Nat} (hd1 : Dc code pc .lcmp 1 pc1) (hd : Bc code pc1 (.ifCond .lt o) o q q') (g1 : X.toInt < Y.toInt → Wp n0 p e R s below Q T (mkF m q' Ls st)) (g2 : ¬ X.toInt < Y.toInt → Wp n0 p e R s below Q T (mkF m q Ls st)) : Wp n0 p e R s below Q T (mkF m pc Ls (.long Y :: .long X :: st)) :=
  lcmp_lt K S hd1 hd (fun q => g1 (Int64.lt_iff_toInt_lt.mp q)) (fun q => g2 (fun r => q (Int64.lt_iff_toInt_lt.mpr r)))
theorem icmpz_ge (K : Cx own code mL ret mn n0 Z p l e R s m args below meth c) (S : St n0 p l e R s m args below meth c k n h T) {o : Int} (hd : Bc code pc (.if_icmp .ge o) o q q') (g1 : ¬ x.toInt < y.toInt → Wp n0 p e R s below Q T (mkF m q' Ls st)) (g2 : x.toInt < y.toInt → Wp n0 p e R s below Q T (mkF m q Ls st)) : Wp n0 p e R s below Q T (mkF m pc Ls (.int y :: .int x :: st)) :=
  icmp_ge K S hd (fun q => g1 (fun r => q (Int32.lt_iff_toInt_lt.mpr r))) (fun q => g2 (Int32.lt_iff_toInt_lt.mp q))
theorem ificz_ge (K : Cx own code mL ret mn n0 Z p l e R s m args below meth c) (S : St n0 p l e R s m args below meth c k n h T) {o : Int} (hd : Bc code pc (.ifCond .ge o) o q q') (g1 : ¬ x.toInt < 0 → Wp n0 p e R s below Q T (mkF m q' Ls st)) (g2 : x.toInt < 0 → Wp n0 p e R s below Q T (mkF m q Ls st)) : Wp n0 p e R s below Q T (mkF m pc Ls (.int x :: st)) :=
  ific_ge K S hd (fun q => g1 (fun r => q (Int32.lt_iff_toInt_lt.mpr r))) (fun q => g2 (Int32.lt_iff_toInt_lt.mp q))
theorem lcmpz_ge (K : Cx own code mL ret mn n0 Z p l e R s m args below meth c) (S : St n0 p l e R s m args below meth c k n h T) {o : Int} {pc1 : Nat} (hd1 : Dc code pc .lcmp 1 pc1) (hd : Bc code pc1 (.ifCond .ge o) o q q') (g1 : ¬ X.toInt < Y.toInt → Wp n0 p e R s below Q T (mkF m q' Ls st)) (g2 : X.toInt < Y.toInt → Wp n0 p e R s below Q T (mkF m q Ls st)) : Wp n0 p e R s below Q T (mkF m pc Ls (.long Y :: .long X :: st)) :=
  lcmp_ge K S hd1 hd (fun q => g1 (fun r => q (Int64.lt_iff_toInt_lt.mpr r))) (fun q => g2 (Int64.lt_iff_toInt_lt.mp q))
theorem icmpz_gt (K : Cx own code mL ret mn n0 Z p l e R s m args below meth c) (S : St n0 p l e R s m args below meth c k n h T) {o : Int} (hd : Bc code pc (.if_icmp .gt o) o q q') (g1 : y.toInt < x.toInt → Wp n0 p e R s below Q T (mkF m q' Ls st)) (g2 : ¬ y.toInt < x.toInt → Wp n0 p e R s below Q T (mkF m q Ls st)) : Wp n0 p e R s below Q T (mkF m pc Ls (.int y :: .int x :: st)) :=
  icmp_gt K S hd (fun q => g1 (Int32.lt_iff_toInt_lt.mp q)) (fun q => g2 (fun r => q (Int32.lt_iff_toInt_lt.mpr r)))
theorem ificz_gt (K : Cx own code mL ret mn n0 Z p l e R s m args below meth c) (S : St n0 p l e R s m args below meth c k n h T) {o : Int} (hd : Bc code pc (.ifCond .gt o) o q q') (g1 : 0 < x.toInt → Wp n0 p e R s below Q T (mkF m q' Ls st)) (g2 : ¬ 0 < x.toInt → Wp n0 p e R s below Q T (mkF m q Ls st)) : Wp n0 p e R s below Q T (mkF m pc Ls (.int x :: st)) :=
  ific_gt K S hd (fun q => g1 (Int32.lt_iff_toInt_lt.mp q)) (fun q => g2 (fun r => q (Int32.lt_iff_toInt_lt.mpr r)))
theorem lcmpz_gt (K : Cx own code mL ret mn n0 Z p l e R s m args below meth c) (S : St n0 p l e R s m args below meth c k n h T) {o : Int} {pc1 : Nat} (hd1 : Dc code pc .lcmp 1 pc1) (hd : Bc code pc1 (.ifCond .gt o) o q q') (g1 : Y.toInt < X.toInt → Wp n0 p e R s below Q T (mkF m q' Ls st)) (g2 : ¬ Y.toInt < X.toInt → Wp n0 p e R s below Q T (mkF m q Ls st)) : Wp n0 p e R s below Q T (mkF m pc Ls (.long Y :: .long X :: st)) :=
  lcmp_gt K S hd1 hd (fun q => g1 (Int64.lt_iff_toInt_lt.mp q)) (fun q => g2 (fun r => q (Int64.lt_iff_toInt_lt.mpr r)))
theorem icmpz_le (K : Cx own code mL ret mn n0 Z p l e R s m args below meth c) (S : St n0 p l e R s m args below meth c k n h T) {o : Int} (hd : Bc code pc (.if_icmp .le o) o q q') (g1 : ¬ y.toInt < x.toInt → Wp n0 p e R s below Q T (mkF m q' Ls st)) (g2 : y.toInt < x.toInt → Wp n0 p e R s below Q T (mkF m q Ls st)) : Wp n0 p e R s below Q T (mkF m pc Ls (.int y :: .int x :: st)) :=
  icmp_le K S hd (fun q => g1 (fun r => q (Int32.lt_iff_toInt_lt.mpr r))) (fun q => g2 (Int32.lt_iff_toInt_lt.mp q))
theorem ificz_le (K : Cx own code mL ret mn n0 Z p l e R s m args below meth c) (S : St n0 p l e R s m args below meth c k n h T) {o : Int} (hd : Bc code pc (.ifCond .le o) o q q') (g1 : ¬ 0 < x.toInt → Wp n0 p e R s below Q T (mkF m q' Ls st)) (g2 : 0 < x.toInt → Wp n0 p e R s below Q T (mkF m q Ls st)) : Wp n0 p e R s below Q T (mkF m pc Ls (.int x :: st)) :=
  ific_le K S hd (fun q => g1 (fun r => q (Int32.lt_iff_toInt_lt.mpr r))) (fun q => g2 (Int32.lt_iff_toInt_lt.mp q))
theorem lcmpz_le (K : Cx own code mL ret mn n0 Z p l e R s m args below meth c) (S : St n0 p l e R s m args below meth c k n h T) {o : Int} {pc1 : Nat} (hd1 : Dc code pc .lcmp 1 pc1) (hd : Bc code pc1 (.ifCond .le o) o q q') (g1 : ¬ Y.toInt < X.toInt → Wp n0 p e R s below Q T (mkF m q' Ls st)) (g2 : Y.toInt < X.toInt → Wp n0 p e R s below Q T (mkF m q Ls st)) : Wp n0 p e R s below Q T (mkF m pc Ls (.long Y :: .long X :: st)) :=
  lcmp_le K S hd1 hd (fun q => g1 (fun r => q (Int64.lt_iff_toInt_lt.mpr r))) (fun q => g2 (Int64.lt_iff_toInt_lt.mp q))
theorem icmpz_eq (K : Cx own code mL ret mn n0 Z p l e R s m args below meth c) (S : St n0 p l e R s m args below meth c k n h T) {o : Int} (hd : Bc code pc (.if_icmp .eq o) o q q') (g1 : x.toInt = y.toInt → Wp n0 p e R s below Q T (mkF m q' Ls st)) (g2 : ¬ x.toInt = y.toInt → Wp n0 p e R s below Q T (mkF m q Ls st)) : Wp n0 p e R s below Q T (mkF m pc Ls (.int y :: .int x :: st)) :=
  icmp_eq K S hd (fun q => g1 (congrArg Int32.toInt q)) (fun q => g2 (fun r => q (Int32.toInt_inj.mp r)))
theorem ificz_eq (K : Cx own code mL ret mn n0 Z p l e R s m args below meth c) (S : St n0 p l e R s m args below meth c k n h T) {o : Int} (hd : Bc code pc (.ifCond .eq o) o q q') (g1 : x.toInt = 0 → Wp n0 p e R s below Q T (mkF m q' Ls st)) (g2 : ¬ x.toInt = 0 → Wp n0 p e R s below Q T (mkF m q Ls st)) : Wp n0 p e R s below Q T (mkF m pc Ls (.int x :: st)) :=
  ific_eq K S hd (fun q => g1 (congrArg Int32.toInt q)) (fun q => g2 (fun r => q (Int32.toInt_inj.mp r)))
theorem lcmpz_eq (K : Cx own code mL ret mn n0 Z p l e R s m args below meth c) (S : St n0 p l e R s m args below meth c k n h T) {o : Int} {pc1 : Nat} (hd1 : Dc code pc .lcmp 1 pc1) (hd : Bc code pc1 (.ifCond .eq o) o q q') (g1 : X.toInt = Y.toInt → Wp n0 p e R s below Q T (mkF m q' Ls st)) (g2 : ¬ X.toInt = Y.toInt → Wp n0 p e R s below Q T (mkF m q Ls st)) : Wp n0 p e R s below Q T (mkF m pc Ls (.long Y :: .long X :: st)) :=
  lcmp_eq K S hd1 hd (fun q => g1 (congrArg Int64.toInt q)) (fun q => g2 (fun r => q (Int64.toInt_inj.mp r)))
theorem icmpz_ne (K : Cx own code mL ret mn n0 Z p l e R s m args below meth c) (S : St n0 p l e R s m args below meth c k n h T) {o : Int} (hd : Bc code pc (.if_icmp .ne o) o q q') (g1 : ¬ x.toInt = y.toInt → Wp n0 p e R s below Q T (mkF m q' Ls st)) (g2 : x.toInt = y.toInt → Wp n0 p e R s below Q T (mkF m q Ls st)) : Wp n0 p e R s below Q T (mkF m pc Ls (.int y :: .int x :: st)) :=
  icmp_ne K S hd (fun q => g1 (fun r => q (Int32.toInt_inj.mp r))) (fun q => g2 (congrArg Int32.toInt q))
theorem ificz_ne (K : Cx own code mL ret mn n0 Z p l e R s m args below meth c) (S : St n0 p l e R s m args below meth c k n h T) {o : Int} (hd : Bc code pc (.ifCond .ne o) o q q') (g1 : ¬ x.toInt = 0 → Wp n0 p e R s below Q T (mkF m q' Ls st)) (g2 : x.toInt = 0 → Wp n0 p e R s below Q T (mkF m q Ls st)) : Wp n0 p e R s below Q T (mkF m pc Ls (.int x :: st)) :=
  ific_ne K S hd (fun q => g1 (fun r => q (Int32.toInt_inj.mp r))) (fun q => g2 (congrArg Int32.toInt q))
theorem lcmpz_ne (K : Cx own code mL ret mn n0 Z p l e R s m args below meth c) (S : St n0 p l e R s m args below meth c k n h T) {o : Int} {pc1 : Nat} (hd1 : Dc code pc .lcmp 1 pc1) (hd : Bc code pc1 (.ifCond .ne o) o q q') (g1 : ¬ X.toInt = Y.toInt → Wp n0 p e R s below Q T (mkF m q' Ls st)) (g2 : X.toInt = Y.toInt → Wp n0 p e R s below Q T (mkF m q Ls st)) : Wp n0 p e R s below Q T (mkF m pc Ls (.long Y :: .long X :: st)) :=
  lcmp_ne K S hd1 hd (fun q => g1 (fun r => q (Int64.toInt_inj.mp r))) (fun q => g2 (congrArg Int64.toInt q))
theorem ifnull_ref (K : Cx own code mL ret mn n0 Z p l e R s m args below meth c) (S : St n0 p l e R s m args below meth c k n h T) {o : Int} (hd : Bc code pc (.ifnull o) o q q') (g : Wp n0 p e R s below Q T (mkF m q Ls st)) : Wp n0 p e R s below Q T (mkF m pc Ls (.ref a :: st)) := by
  obtain ⟨hx, hby, -⟩ := K; obtain ⟨locs, S, -, -⟩ := S; obtain ⟨hd, rfl, h1, h2⟩ := hd
  exact wp_mono (fun t hr => XS.ifnullNo S.here hx rfl (hb hby hd) rfl hr) g
theorem ldc (K : Cx own code mL ret mn n0 Z p l e R s m args below meth c) (S : St n0 p l e R s m args below meth c k n h T) {i : Nat} (w : (Jvm.Cond.constant own i x).before a0 Z = true) (hd : Dc code pc (.ldc i) 2 q) (g : Wp n0 p e R s below Q T (mkF m q Ls (.int x :: st))) : Wp n0 p e R s below Q T (mkF m pc Ls st) := by
  obtain ⟨hx, hby, -, -, -, hown, hZ, -⟩ := K; obtain ⟨locs, S, -, -⟩ := S; obtain ⟨hd, rfl⟩ := hd
  refine wp_mono (T' := T) (g' := mkF m (pc + 2) Ls (.int x :: st)) (fun t hr => ?_) g
  exact S.ldcInt hx hown (mvT hZ w) (g := mkF m pc Ls st) rfl (hb hby hd) t hr
theorem ldc2 (K : Cx own code mL ret mn n0 Z p l e R s m args below meth c) (S : St n0 p l e R s m args below meth c k n h T) {i : Nat} (w : (Jvm.Cond.constantLong own i X).before a0 Z = true) (hd : Dc code pc (.ldc2_w i) 3 q) (g : Wp n0 p e R s below Q T (mkF m q Ls (.long X :: st))) : Wp n0 p e R s below Q T (mkF m pc Ls st) := by
  obtain ⟨hx, hby, -, -, -, hown, hZ, -⟩ := K; obtain ⟨locs, S, -, -⟩ := S; obtain ⟨hd, rfl⟩ := hd
  refine wp_mono (T' := T) (g' := mkF m (pc + 3) Ls (.long X :: st)) (fun t hr => ?_) g
  exact S.ldc2Long hx hown (mvT hZ w) (g := mkF m pc Ls st) rfl (hb hby hd) t hr
theorem getf (K : Cx own code mL ret mn n0 Z p l e R s m args below meth c) (S : St n0 p l e R s m args below meth c k n h T) {i : Nat} {O fn d : String} (w : (Jvm.Cond.fieldLink own i O fn d).before a0 Z = true) (F : Fld Z h a O fn d v) (hd : Dc code pc (.getfield i) 3 q) (g : ∀ T, St n0 p l e R s m args below meth c k n h T → Wp n0 p e R s below Q T (mkF m q Ls (v :: st))) : Wp n0 p e R s below Q T (mkF m pc Ls (.ref a :: st)) := by
  obtain ⟨hx, hby, -, -, -, hown, hZ, -⟩ := K; obtain ⟨locs, S, e1, N, z⟩ := S; obtain ⟨hd, rfl⟩ := hd
  obtain ⟨T1, S1, e2, st1⟩ := getF S hx hZ hown (host := "") (Or.inl w) Via.refl e1 F (g := mkF m pc Ls (.ref a :: st)) rfl rfl (hb hby hd)
  exact wp_mono st1 (g T1 ⟨locs, S1, e2, N, z⟩)
theorem putf (K : Cx own code mL ret mn n0 Z p l e R s m args below meth c) (S : St n0 p l e R s m args below meth c k n h T) {i kk : Nat} {O fn d C : String} {old : Value} (w : (Jvm.Cond.fieldLink own i O fn d).before a0 Z = true) (F : Fld Z h a O fn d old) (E : Exa Z h a C) (L : (Jvm.Cond.lays C O fn d).before a0 Z = true ∨ ((Jvm.Cond.laysFinal C O fn d).before a0 Z = true ∧ own = O ∧ mn = "<init>")) (wi : (Jvm.Cond.instantiable C kk).before a0 Z = true) (hty : parseFieldDescriptor d = some ty) (hn : narrow ty v = v) (hf : fits ty v = true) (ha : n0 ≤ a) (hd : Dc code pc (.putfield i) 3 q) (g : ∀ T h', Wr h h' a (Jvm.RoadKit.slotOf Z O fn d) v → St n0 p l e R s m args below meth c k n h' T → Wp n0 p e R s below Q T (mkF m q Ls st)) : Wp n0 p e R s below Q T (mkF m pc Ls (v :: .ref a :: st)) := by
  obtain ⟨hx, hby, -, -, -, hown, hZ, hmn⟩ := K; obtain ⟨locs, S, e1, N, z⟩ := S; obtain ⟨hd, rfl⟩ := hd
  obtain ⟨T1, h1, S1, e2, W1, st1⟩ := putF S hx hZ hown (host := "") (Or.inl w) Via.refl e1 F E (L.imp id fun q => ⟨q.1, q.2.1, hmn.trans q.2.2⟩) wi hty hn hf (g := mkF m pc Ls (v :: .ref a :: st)) rfl rfl (hb hby hd)
  exact wp_mono st1 (g T1 h1 W1 ⟨_, S1, e2, Fr.snoc S1 N ha, by rw [W1.size]; exact z⟩)
theorem new (K : Cx own code mL ret mn n0 Z p l e R s m args below meth c) (S : St n0 p l e R s m args below meth c k n h T) {i nn : Nat} {C : String} (w : (Jvm.Cond.classLink own i C).before a0 Z = true) (wi : (Jvm.Cond.instantiable C nn).before a0 Z = true) (wz : (Jvm.Cond.initialized C).before a0 Z = true) (hc : k + 1 ≤ R.cells) (hl : n + nn ≤ R.slots) (hd : Dc code pc (.new i) 3 q) (g : ∀ T h' a, a = h.size → n0 ≤ a → Ext h h' → Exa Z h' a C → (∀ {O nm d : String} {ty : FieldType}, Laid Z a0 C O nm d → parseFieldDescriptor d = some ty → Fld Z h' a O nm d (defaultValue ty)) → St n0 p l e R s m args below meth c (k + 1) (n + nn) h' T → Wp n0 p e R s below Q T (mkF m q Ls (.ref a :: st))) : Wp n0 p e R s below Q T (mkF m pc Ls st) := by
  obtain ⟨hx, hby, -, -, -, hown, hZ, hmn⟩ := K; obtain ⟨locs, S, e1, N, z⟩ := S; obtain ⟨hd, rfl⟩ := hd
  obtain ⟨T1, h1, S1, e2, E1, A1, D1, -, st1⟩ := newO S hx hZ hown w wi wz e1 (g := mkF m pc Ls st) rfl (hb hby hd) hc hl
  exact wp_mono st1 (g T1 h1 h.size rfl z E1 A1 D1 ⟨_, S1, e2, N, Nat.le_trans z E1.1⟩)
theorem newarr (K : Cx own code mL ret mn n0 Z p l e R s m args below meth c) (S : St n0 p l e R s m args below meth c k n h T) {aty : ArrayType} {cap : Nat} (w : (Jvm.Cond.arrayClass (newarray.typeOf aty)).before a0 Z = true) (hn : ¬ x < 0) (hcap : x.toNatClampNeg ≤ cap) (hb' : cap * 8 ≤ 536870912) (hc : k + 1 ≤ R.cells) (hl : n + cap ≤ R.slots) (hd : Dc code pc (.newarray aty) 2 q) (g : ∀ T h' a, a = h.size → n0 ≤ a → Ext h h' → VA Z h' a (newarray.typeOf aty) (List.replicate x.toNatClampNeg (defaultValue (newarray.typeOf aty))) → St n0 p l e R s m args below meth c (k + 1) (n + cap) h' T → Wp n0 p e R s below Q T (mkF m q Ls (.ref a :: st))) : Wp n0 p e R s below Q T (mkF m pc Ls (.int x :: st)) := by
  obtain ⟨hx, hby, -, -, -, hown, hZ, hmn⟩ := K; obtain ⟨locs, S, e1, N, z⟩ := S; obtain ⟨hd, rfl⟩ := hd
  obtain ⟨T1, h1, cA, S1, e2, E1, A1, st1⟩ := newP S hx hZ w e1 (g := mkF m pc Ls (.int x :: st)) rfl (hb hby hd) rfl hn hcap hb' hc hl
  exact wp_mono st1 (g T1 h1 h.size rfl z E1 ⟨_, A1, by simp [newA]⟩ ⟨_, S1, e2, N, Nat.le_trans z E1.1⟩)
theorem inito (K : Cx own code mL ret mn n0 Z p l e R s m args below meth c) (S : St n0 p l e R s m args below meth c k n h T) {i W : Nat} (w1 : (Jvm.Cond.methodLink own i Lib.objectInit).before a0 Z = true) (w2 : (Jvm.Cond.instanceMethod Lib.objectInit).before a0 Z = true) (w3 : (Jvm.Cond.code Lib.objectInit ⟨#[0xb1]⟩ 1 none).before a0 Z = true) (hsz : Ls.size = mL) (hf : 1 ≤ R.frames) (hW : (st.map fun v => v.category).sum ≤ W) (hl : W + 12 ≤ R.locals) (hd : Dc code pc (.invokespecial i) 3 q) (g : ∀ T, St n0 p l e R s m args below meth c k n h T → Wp n0 p e R s below Q T (mkF m q Ls st)) : Wp n0 p e R s below Q T (mkF m pc Ls (.ref a :: st)) := by
  obtain ⟨hx, hby, hml, -, -, hown, hZ, hmn⟩ := K; obtain ⟨locs, S, e1, N, z⟩ := S; obtain ⟨hd, rfl⟩ := hd
  obtain ⟨T1, S1, e2, st1⟩ := initO S hx hZ hown w1 w2 w3 e1 (g := mkF m pc Ls (.ref a :: st)) rfl (by rw [hml]; exact hsz) rfl (hb hby hd) hf (W := W) (by show 2 * 0 + _ ≤ _; omega) hl
  exact wp_mono st1 (g T1 ⟨_, S1, e2, N, z⟩)
theorem iaload (K : Cx own code mL ret mn n0 Z p l e R s m args below meth c) (S : St n0 p l e R s m args below meth c k n h T) {i : Nat} (A : VA Z h a .int vs) (hi : Ix x i) (hv : vs[i]? = some v) (hd : Dc code pc .iaload 1 q) (g : Wp n0 p e R s below Q T (mkF m q Ls (v :: st))) : Wp n0 p e R s below Q T (mkF m pc Ls (.int x :: .ref a :: st)) := by
  obtain ⟨hx, hby, -, -, -, hown, hZ, -⟩ := K; obtain ⟨locs, S, e1, N, z⟩ := S; obtain ⟨hd, rfl⟩ := hd; obtain ⟨cl, A, hs⟩ := A; obtain ⟨hi0, rfl⟩ := hi
  have hlt : x.toNatClampNeg < vs.length := (List.getElem?_eq_some_iff.mp hv).1
  exact wp_mono (fun t hr => S.iaload hx (by rw [e1]; exact A.1) (State.isArrayOf_alike hZ.alike A.2.1) A.2.2 (by rw [hs]; simp; exact ⟨Int32.not_lt.mp hi0, hlt⟩) (by rw [hs]; simpa using hv) (g := mkF m pc Ls (.int x :: .ref a :: st)) rfl rfl (hb hby hd) t hr) g
theorem laload (K : Cx own code mL ret mn n0 Z p l e R s m args below meth c) (S : St n0 p l e R s m args below meth c k n h T) {i : Nat} (A : VA Z h a .long vs) (hi : Ix x i) (hv : vs[i]? = some v) (hd : Dc code pc .laload 1 q) (g : Wp n0 p e R s below Q T (mkF m q Ls (v :: st))) : Wp n0 p e R s below Q T (mkF m pc Ls (.int x :: .ref a :: st)) := by
  obtain ⟨hx, hby, -, -, -, hown, hZ, -⟩ := K; obtain ⟨locs, S, e1, N, z⟩ := S; obtain ⟨hd, rfl⟩ := hd; obtain ⟨cl, A, hs⟩ := A; obtain ⟨hi0, rfl⟩ := hi
  have hlt : x.toNatClampNeg < vs.length := (List.getElem?_eq_some_iff.mp hv).1
  exact wp_mono (fun t hr => S.laload hx (by rw [e1]; exact A.1) (State.isArrayOf_alike hZ.alike A.2.1) A.2.2 (by rw [hs]; simp; exact ⟨Int32.not_lt.mp hi0, hlt⟩) (by rw [hs]; simpa using hv) (g := mkF m pc Ls (.int x :: .ref a :: st)) rfl rfl (hb hby hd) t hr) g
theorem caload (K : Cx own code mL ret mn n0 Z p l e R s m args below meth c) (S : St n0 p l e R s m args below meth c k n h T) {i : Nat} (A : VA Z h a .char vs) (hi : Ix x i) (hv : vs[i]? = some v) (hd : Dc code pc .caload 1 q) (g : Wp n0 p e R s below Q T (mkF m q Ls (v :: st))) : Wp n0 p e R s below Q T (mkF m pc Ls (.int x :: .ref a :: st)) := by
  obtain ⟨hx, hby, -, -, -, hown, hZ, -⟩ := K; obtain ⟨locs, S, e1, N, z⟩ := S; obtain ⟨hd, rfl⟩ := hd; obtain ⟨cl, A, hs⟩ := A; obtain ⟨hi0, rfl⟩ := hi
  have hlt : x.toNatClampNeg < vs.length := (List.getElem?_eq_some_iff.mp hv).1
  exact wp_mono (fun t hr => S.caload hx (by rw [e1]; exact A.1) (State.isArrayOf_alike hZ.alike A.2.1) A.2.2 (by rw [hs]; simp; exact ⟨Int32.not_lt.mp hi0, hlt⟩) (by rw [hs]; simpa using hv) (g := mkF m pc Ls (.int x :: .ref a :: st)) rfl rfl (hb hby hd) t hr) g
theorem baload (K : Cx own code mL ret mn n0 Z p l e R s m args below meth c) (S : St n0 p l e R s m args below meth c k n h T) {i : Nat} (A : VA Z h a .byte vs) (hi : Ix x i) (hv : vs[i]? = some v) (hd : Dc code pc .baload 1 q) (g : Wp n0 p e R s below Q T (mkF m q Ls (v :: st))) : Wp n0 p e R s below Q T (mkF m pc Ls (.int x :: .ref a :: st)) := by
  obtain ⟨hx, hby, -, -, -, hown, hZ, -⟩ := K; obtain ⟨locs, S, e1, N, z⟩ := S; obtain ⟨hd, rfl⟩ := hd; obtain ⟨cl, A, hs⟩ := A; obtain ⟨hi0, rfl⟩ := hi
  have hlt : x.toNatClampNeg < vs.length := (List.getElem?_eq_some_iff.mp hv).1
  exact wp_mono (fun t hr => S.baloadBytes hx (by rw [e1]; exact A.1) (State.isArrayOf_alike hZ.alike A.2.1) A.2.2 (by rw [hs]; simp; exact ⟨Int32.not_lt.mp hi0, hlt⟩) (by rw [hs]; simpa using hv) (g := mkF m pc Ls (.int x :: .ref a :: st)) rfl rfl (hb hby hd) t hr) g
theorem iastore (K : Cx own code mL ret mn n0 Z p l e R s m args below meth c) (S : St n0 p l e R s m args below meth c k n h T) {i : Nat} (A : VA Z h a .int vs) (hi : Ix x i) (hlt : i < vs.length) (ha : n0 ≤ a) (hd : Dc code pc .iastore 1 q) (g : ∀ T h', Wr h h' a i (.int y) → VA Z h' a .int (vs.set i (.int y)) → St n0 p l e R s m args below meth c k n h' T → Wp n0 p e R s below Q T (mkF m q Ls st)) : Wp n0 p e R s below Q T (mkF m pc Ls (.int y :: .int x :: .ref a :: st)) := by
  obtain ⟨hx, hby, -, -, -, hown, hZ, -⟩ := K; obtain ⟨locs, S, e1, N, z⟩ := S; obtain ⟨hd, rfl⟩ := hd; have A0 := A; obtain ⟨cl, A, hs⟩ := A; obtain ⟨hi0, rfl⟩ := hi
  obtain ⟨T1, h1, S1, e2, W1, st1⟩ := stI S hx hZ e1 A (by rw [hs]; simp; exact ⟨Int32.not_lt.mp hi0, hlt⟩) (g := mkF m pc Ls (.int y :: .int x :: .ref a :: st)) rfl rfl (hb hby hd)
  exact wp_mono st1 (g T1 h1 W1 (A0.wr W1) ⟨_, S1, e2, Fr.snoc S1 N ha, by rw [W1.size]; exact z⟩)
theorem lastore (K : Cx own code mL ret mn n0 Z p l e R s m args below meth c) (S : St n0 p l e R s m args below meth c k n h T) {i : Nat} (A : VA Z h a .long vs) (hi : Ix x i) (hlt : i < vs.length) (ha : n0 ≤ a) (hd : Dc code pc .lastore 1 q) (g : ∀ T h', Wr h h' a i (.long X) → VA Z h' a .long (vs.set i (.long X)) → St n0 p l e R s m args below meth c k n h' T → Wp n0 p e R s below Q T (mkF m q Ls st)) : Wp n0 p e R s below Q T (mkF m pc Ls (.long X :: .int x :: .ref a :: st)) := by
  obtain ⟨hx, hby, -, -, -, hown, hZ, -⟩ := K; obtain ⟨locs, S, e1, N, z⟩ := S; obtain ⟨hd, rfl⟩ := hd; have A0 := A; obtain ⟨cl, A, hs⟩ := A; obtain ⟨hi0, rfl⟩ := hi
  obtain ⟨T1, h1, S1, e2, W1, st1⟩ := stJ S hx hZ e1 A (by rw [hs]; simp; exact ⟨Int32.not_lt.mp hi0, hlt⟩) (g := mkF m pc Ls (.long X :: .int x :: .ref a :: st)) rfl rfl (hb hby hd)
  exact wp_mono st1 (g T1 h1 W1 (A0.wr W1) ⟨_, S1, e2, Fr.snoc S1 N ha, by rw [W1.size]; exact z⟩)
theorem castore (K : Cx own code mL ret mn n0 Z p l e R s m args below meth c) (S : St n0 p l e R s m args below meth c k n h T) {i : Nat} (A : VA Z h a .char vs) (hi : Ix x i) (hlt : i < vs.length) (ha : n0 ≤ a) (hd : Dc code pc .castore 1 q) (g : ∀ T h', Wr h h' a i (.int (nar .char y)) → VA Z h' a .char (vs.set i (.int (nar .char y))) → St n0 p l e R s m args below meth c k n h' T → Wp n0 p e R s below Q T (mkF m q Ls st)) : Wp n0 p e R s below Q T (mkF m pc Ls (.int y :: .int x :: .ref a :: st)) := by
  obtain ⟨hx, hby, -, -, -, hown, hZ, -⟩ := K; obtain ⟨locs, S, e1, N, z⟩ := S; obtain ⟨hd, rfl⟩ := hd; have A0 := A; obtain ⟨cl, A, hs⟩ := A; obtain ⟨hi0, rfl⟩ := hi
  obtain ⟨T1, h1, S1, e2, W1, st1⟩ := stC S hx hZ e1 A (by rw [hs]; simp; exact ⟨Int32.not_lt.mp hi0, hlt⟩) (g := mkF m pc Ls (.int y :: .int x :: .ref a :: st)) rfl rfl (hb hby hd)
  exact wp_mono st1 (g T1 h1 W1 (A0.wr W1) ⟨_, S1, e2, Fr.snoc S1 N ha, by rw [W1.size]; exact z⟩)
theorem bastore (K : Cx own code mL ret mn n0 Z p l e R s m args below meth c) (S : St n0 p l e R s m args below meth c k n h T) {i : Nat} (A : VA Z h a .byte vs) (hi : Ix x i) (hlt : i < vs.length) (ha : n0 ≤ a) (hd : Dc code pc .bastore 1 q) (g : ∀ T h', Wr h h' a i (.int (nar .byte y)) → VA Z h' a .byte (vs.set i (.int (nar .byte y))) → St n0 p l e R s m args below meth c k n h' T → Wp n0 p e R s below Q T (mkF m q Ls st)) : Wp n0 p e R s below Q T (mkF m pc Ls (.int y :: .int x :: .ref a :: st)) := by
  obtain ⟨hx, hby, -, -, -, hown, hZ, -⟩ := K; obtain ⟨locs, S, e1, N, z⟩ := S; obtain ⟨hd, rfl⟩ := hd; have A0 := A; obtain ⟨cl, A, hs⟩ := A; obtain ⟨hi0, rfl⟩ := hi
  obtain ⟨T1, h1, S1, e2, W1, st1⟩ := stB S hx hZ e1 A (by rw [hs]; simp; exact ⟨Int32.not_lt.mp hi0, hlt⟩) (g := mkF m pc Ls (.int y :: .int x :: .ref a :: st)) rfl rfl (hb hby hd)
  exact wp_mono st1 (g T1 h1 W1 (A0.wr W1) ⟨_, S1, e2, Fr.snoc S1 N ha, by rw [W1.size]; exact z⟩)
theorem alen (K : Cx own code mL ret mn n0 Z p l e R s m args below meth c) (S : St n0 p l e R s m args below meth c k n h T) (A : VA Z h a ty vs) (hx' : vs.length.toInt32 = x) (hd : Dc code pc .arraylength 1 q) (g : Wp n0 p e R s below Q T (mkF m q Ls (.int x :: st))) : Wp n0 p e R s below Q T (mkF m pc Ls (.ref a :: st)) := by
  obtain ⟨hx, hby, -, -, -, hown, hZ, -⟩ := K; obtain ⟨locs, S, e1, N, z⟩ := S; obtain ⟨hd, rfl⟩ := hd; obtain ⟨cl, A, hs⟩ := A
  refine wp_mono (fun t hr => S.arraylength hx (by rw [e1]; exact A.1) (State.isArrayOf_alike hZ.alike A.2.1) (g := mkF m pc Ls (.ref a :: st)) rfl rfl (hb hby hd) t hr) (T' := T) (g' := mkF m (pc + 1) Ls (.int cl.slots.size.toInt32 :: st)) ?_
  rw [hs]; simpa [hx'] using g
theorem retn (K : Cx own code mL (some ty) mn n0 Z p l e R s m args below meth c) (S : St n0 p l e R s m args below meth c k n h T) (ht : ty = .boolean ∨ ty = .byte ∨ ty = .char ∨ ty = .short) (hz : nar ty x = y) (hk : k ≤ R.cells) (hn : n ≤ R.slots) (hd : Dc code pc .ireturn 1 q) (hQ : Q (some (.int y)) h) : Wp n0 p e R s below Q T (mkF m pc Ls (.int x :: st)) := by
  obtain ⟨hx, hby, -, hret, hlk, -⟩ := K; obtain ⟨locs, S, e1, N, z⟩ := S; obtain ⟨hd, -⟩ := hd
  obtain ⟨fs, hr, hrun, hended, hW, hsame⟩ := S.leave (v := some (.int y)) (fun h => by rw [hret] at h; cases h) hlk
  refine ⟨_, _, retN S hx hret ht (hb hby hd) (by rw [hz]; exact hr), hrun, hended, _, _, rfl, ⟨?_, ?_, N⟩, ⟨_, rfl⟩, hW, hsame.mono hk hn⟩
  · show Q _ T.heap; rw [e1]; exact hQ
  · show n0 ≤ T.heap.size; rw [e1]; exact z
theorem reti (K : Cx own code mL (some .int) mn n0 Z p l e R s m args below meth c) (S : St n0 p l e R s m args below meth c k n h T) (hk : k ≤ R.cells) (hn : n ≤ R.slots) (hd : Dc code pc .ireturn 1 q) (hQ : Q (some (.int x)) h) : Wp n0 p e R s below Q T (mkF m pc Ls (.int x :: st)) := by
  obtain ⟨hx, hby, -, hret, hlk, -⟩ := K; obtain ⟨locs, S, e1, N, z⟩ := S; obtain ⟨hd, -⟩ := hd
  obtain ⟨fs, hr, hrun, hended, hW, hsame⟩ := S.leave (v := some (.int x)) (fun h => by rw [hret] at h; cases h) hlk
  refine ⟨_, _, retOut S hx hret rfl (Or.inl ⟨rfl, Or.inl rfl, _, rfl⟩) (hb hby hd) hr, hrun, hended, _, _, rfl, ⟨?_, ?_, N⟩, ⟨_, rfl⟩, hW, hsame.mono hk hn⟩
  · show Q _ T.heap; rw [e1]; exact hQ
  · show n0 ≤ T.heap.size; rw [e1]; exact z
theorem retl (K : Cx own code mL (some .long) mn n0 Z p l e R s m args below meth c) (S : St n0 p l e R s m args below meth c k n h T) (hk : k ≤ R.cells) (hn : n ≤ R.slots) (hd : Dc code pc .lreturn 1 q) (hQ : Q (some (.long X)) h) : Wp n0 p e R s below Q T (mkF m pc Ls (.long X :: st)) := by
  obtain ⟨hx, hby, -, hret, hlk, -⟩ := K; obtain ⟨locs, S, e1, N, z⟩ := S; obtain ⟨hd, -⟩ := hd
  obtain ⟨fs, hr, hrun, hended, hW, hsame⟩ := S.leave (v := some (.long X)) (fun h => by rw [hret] at h; cases h) hlk
  refine ⟨_, _, retOut S hx hret rfl (Or.inr (Or.inl ⟨rfl, rfl, _, rfl⟩)) (hb hby hd) hr, hrun, hended, _, _, rfl, ⟨?_, ?_, N⟩, ⟨_, rfl⟩, hW, hsame.mono hk hn⟩
  · show Q _ T.heap; rw [e1]; exact hQ
  · show n0 ≤ T.heap.size; rw [e1]; exact z
theorem reta (K : Cx own code mL (some ty) mn n0 Z p l e R s m args below meth c) (S : St n0 p l e R s m args below meth c k n h T) (hrf : ty.isReference = true) (hnr : narrow ty (.ref a) = .ref a) (hk : k ≤ R.cells) (hn : n ≤ R.slots) (hd : Dc code pc .areturn 1 q) (hQ : Q (some (.ref a)) h) : Wp n0 p e R s below Q T (mkF m pc Ls (.ref a :: st)) := by
  obtain ⟨hx, hby, -, hret, hlk, -⟩ := K; obtain ⟨locs, S, e1, N, z⟩ := S; obtain ⟨hd, -⟩ := hd
  obtain ⟨fs, hr, hrun, hended, hW, hsame⟩ := S.leave (v := some (.ref a)) (fun h => by rw [hret] at h; cases h) hlk
  refine ⟨_, _, retOut S hx hret hnr (Or.inr (Or.inr (Or.inr (Or.inr ⟨rfl, hrf, rfl⟩)))) (hb hby hd) hr, hrun, hended, _, _, rfl, ⟨?_, ?_, N⟩, ⟨_, rfl⟩, hW, hsame.mono hk hn⟩
  · show Q _ T.heap; rw [e1]; exact hQ
  · show n0 ≤ T.heap.size; rw [e1]; exact z
theorem retv (K : Cx own code mL (none) mn n0 Z p l e R s m args below meth c) (S : St n0 p l e R s m args below meth c k n h T) (hk : k ≤ R.cells) (hn : n ≤ R.slots) (hd : Dc code pc .return_ 1 q) (hQ : Q (none) h) : Wp n0 p e R s below Q T (mkF m pc Ls ([])) := by
  obtain ⟨hx, hby, -, hret, hlk, -⟩ := K; obtain ⟨locs, S, e1, N, z⟩ := S; obtain ⟨hd, -⟩ := hd
  obtain ⟨fs, hr, hrun, hended, hW, hsame⟩ := S.leave (v := none) (fun _ => rfl) hlk
  refine ⟨_, _, S.returnOut hx hret (hb hby hd) hr, hrun, hended, _, _, rfl, ⟨?_, ?_, N⟩, ⟨_, rfl⟩, hW, hsame.mono hk hn⟩
  · show Q _ T.heap; rw [e1]; exact hQ
  · show n0 ≤ T.heap.size; rw [e1]; exact z
theorem callS (K : Cx own code mL ret mn n0 Z p l e R s m args below meth c) (S : St n0 p l e R s m args below meth c k n h T) {i mL' W : Nat} {y : MethodName} {bytes : ByteArray} {ret' : Option FieldType} {rm : Room} {as' : Array Value} {Q' : Option Value → Heap → Prop} {argsL : List Value} (M : Met n0 l Z y bytes mL' ret' rm [] as' h Q') (w1 : (Jvm.Cond.methodLink own i y).before a0 Z = true) (w2 : (Jvm.Cond.static y).before a0 Z = true) (w4 : (Jvm.Cond.code y bytes mL' ret').before a0 Z = true) (w5 : (Jvm.Cond.initialized y.cls).before a0 Z = true) (hy : y.cls ≠ "java/lang/invoke/MethodHandle" ∧ y.cls ≠ "java/lang/invoke/VarHandle") (hfr : rm.frames + 1 ≤ R.frames) (hlo : W + (mL' + 11) + rm.locals ≤ R.locals) (hce : k + rm.cells ≤ R.cells) (hsl : n + rm.slots ≤ R.slots) (hsz : Ls.size = mL) (has : (argsL).toArray = as') (hlen : ∀ sig, parseMethodDescriptor y.desc = some sig → argsL.length = sig.parameters.length) (hst : st = argsL.reverse ++ rest) (hW : (rest.map fun v => v.category).sum ≤ W) (hd : Dc code pc (.invokestatic i) 3 q) (g : ∀ T v h', Q' v h' → St n0 p l e R s m args below meth c (k + rm.cells) (n + rm.slots) h' T → Wp n0 p e R s below Q T (mkF m q Ls (v.toList ++ rest))) : Wp n0 p e R s below Q T (mkF m pc Ls st) := by
  obtain ⟨hx, hby, hml, -, -, hown, hZ, hmn⟩ := K; obtain ⟨locs, S, e1, N, z⟩ := S; obtain ⟨hd, rfl⟩ := hd; subst hst has
  obtain ⟨v1, _, ⟨T1, L1, k1, n1⟩, -, S1, ⟨Lc1, hQ1, l1, y1, z1⟩, st1⟩ := Jvm.LawKit.callS S hx (y := y) hown (mvT hZ w1) (mvT hZ w2) (mvT hZ w5) (mvT hZ w4) hy (backOf (W := W) (Q := fun v h L => Q' v h ∧ n0 ≤ h.size ∧ Fr n0 L) M hZ w4 w5 hfr hlo) (g := mkF m pc Ls (argsL.reverse ++ rest)) rfl (by rw [hml]; exact hsz) (argsL := argsL) (rest := rest) hlen rfl (by show 2 * 0 + _ ≤ _; omega) (hb hby hd) (fun _ _ => ⟨rfl, e1, hce, hsl⟩)
  dsimp only [Pt.U, Pt.locs, Pt.cells, Pt.slots] at S1 l1 y1 z1 st1 hQ1
  subst l1 y1 z1
  exact wp_mono st1 (g T1 v1 T1.heap hQ1.1 ⟨_, S1, rfl, Fr.app N hQ1.2.2, hQ1.2.1⟩)
theorem callC (K : Cx own code mL ret mn n0 Z p l e R s m args below meth c) (S : St n0 p l e R s m args below meth c k n h T) {i mL' W : Nat} {y : MethodName} {bytes : ByteArray} {ret' : Option FieldType} {rm : Room} {as' : Array Value} {Q' : Option Value → Heap → Prop} {argsL : List Value} (M : Met n0 l Z y bytes mL' ret' rm [] as' h Q') (hin : y.name = "<init>") (hr0 : ret' = none) (w1 : (Jvm.Cond.methodLink own i y).before a0 Z = true) (w2 : (Jvm.Cond.instanceMethod y).before a0 Z = true) (w4 : (Jvm.Cond.code y bytes mL' ret').before a0 Z = true) (w5 : (Jvm.Cond.initialized y.cls).before a0 Z = true) (hy : y.cls ≠ "java/lang/invoke/MethodHandle" ∧ y.cls ≠ "java/lang/invoke/VarHandle") (hfr : rm.frames + 1 ≤ R.frames) (hlo : W + (mL' + 11) + rm.locals ≤ R.locals) (hce : k + rm.cells ≤ R.cells) (hsl : n + rm.slots ≤ R.slots) (hsz : Ls.size = mL) (has : (.ref a :: argsL).toArray = as') (hlen : ∀ sig, parseMethodDescriptor y.desc = some sig → argsL.length = sig.parameters.length) (hst : st = argsL.reverse ++ .ref a :: rest) (hW : (rest.map fun v => v.category).sum ≤ W) (hd : Dc code pc (.invokespecial i) 3 q) (g : ∀ T v h', Q' v h' → St n0 p l e R s m args below meth c (k + rm.cells) (n + rm.slots) h' T → Wp n0 p e R s below Q T (mkF m q Ls (v.toList ++ rest))) : Wp n0 p e R s below Q T (mkF m pc Ls st) := by
  obtain ⟨hx, hby, hml, -, -, hown, hZ, hmn⟩ := K; obtain ⟨locs, S, e1, N, z⟩ := S; obtain ⟨hd, rfl⟩ := hd; subst hst has
  subst hr0
  obtain ⟨v1, _, ⟨T1, L1, k1, n1⟩, -, S1, ⟨Lc1, hQ1, l1, y1, z1⟩, st1⟩ := S.specialBack hx (y := y) hin hown (mvT hZ w1) (mvT hZ w2) (mvT hZ w4) hy (backOf (W := W) (Q := fun v h L => Q' v h ∧ n0 ≤ h.size ∧ Fr n0 L) M hZ w4 w5 hfr hlo) (g := mkF m pc Ls (argsL.reverse ++ .ref a :: rest)) rfl (by rw [hml]; exact hsz) (Steps.refl _) (a := a) (argsL := argsL) (rest := rest) hlen rfl (by show 2 * 0 + _ ≤ _; omega) (hb hby hd) (fun _ _ => ⟨rfl, e1, hce, hsl⟩)
  dsimp only [Pt.U, Pt.locs, Pt.cells, Pt.slots] at S1 l1 y1 z1 st1 hQ1
  subst l1 y1 z1
  exact wp_mono (fun t hr => st1.trans hr) (g T1 v1 T1.heap hQ1.1 ⟨_, S1, rfl, Fr.app N hQ1.2.2, hQ1.2.1⟩)
theorem callV (K : Cx own code mL ret mn n0 Z p l e R s m args below meth c) (S : St n0 p l e R s m args below meth c k n h T) {i mL' W : Nat} {y : MethodName} {bytes : ByteArray} {ret' : Option FieldType} {rm : Room} {as' : Array Value} {Q' : Option Value → Heap → Prop} {argsL : List Value} (M : Met n0 l Z y bytes mL' ret' rm [] as' h Q') (E : Exa Z h a y.cls) (w1 : (Jvm.Cond.methodLink own i y).before a0 Z = true) (w2 : (Jvm.Cond.declares y).before a0 Z = true) (w3 : (Jvm.Cond.selects y.cls y y).before a0 Z = true) (w6 : (Jvm.Cond.instanceMethod y).before a0 Z = true) (w4 : (Jvm.Cond.code y bytes mL' ret').before a0 Z = true) (w5 : (Jvm.Cond.initialized y.cls).before a0 Z = true) (hy : y.cls ≠ "java/lang/invoke/MethodHandle" ∧ y.cls ≠ "java/lang/invoke/VarHandle") (hfr : rm.frames + 1 ≤ R.frames) (hlo : W + (mL' + 11) + rm.locals ≤ R.locals) (hce : k + rm.cells ≤ R.cells) (hsl : n + rm.slots ≤ R.slots) (hsz : Ls.size = mL) (has : (.ref a :: argsL).toArray = as') (hlen : ∀ sig, parseMethodDescriptor y.desc = some sig → argsL.length = sig.parameters.length) (hst : st = argsL.reverse ++ .ref a :: rest) (hW : (rest.map fun v => v.category).sum ≤ W) (hd : Dc code pc (.invokevirtual i) 3 q) (g : ∀ T v h', Q' v h' → St n0 p l e R s m args below meth c (k + rm.cells) (n + rm.slots) h' T → Wp n0 p e R s below Q T (mkF m q Ls (v.toList ++ rest))) : Wp n0 p e R s below Q T (mkF m pc Ls st) := by
  obtain ⟨hx, hby, hml, -, -, hown, hZ, hmn⟩ := K; obtain ⟨locs, S, e1, N, z⟩ := S; obtain ⟨hd, rfl⟩ := hd; subst hst has
  obtain ⟨cq, kq, qa, qb, qc⟩ := isOf hZ e1 E
  obtain ⟨v1, _, ⟨T1, L1, k1, n1⟩, -, S1, ⟨Lc1, hQ1, l1, y1, z1⟩, st1⟩ := S.virtualBack hx (y := y) (z := y) hown (mvT hZ w1) (mvT hZ w2) (notFace_of_selects (args := #[]) (mvT hZ w3)) (mvT hZ w3) (mvT hZ w6) hy (backOf (W := W) (Q := fun v h L => Q' v h ∧ n0 ≤ h.size ∧ Fr n0 L) M hZ w4 w5 hfr hlo) qa qc (g := mkF m pc Ls (argsL.reverse ++ .ref a :: rest)) rfl (by rw [hml]; exact hsz) (Steps.refl _) (argsL := argsL) (rest := rest) hlen rfl (by show 2 * 0 + _ ≤ _; omega) (hb hby hd) (fun _ _ => ⟨rfl, e1, hce, hsl⟩)
  dsimp only [Pt.U, Pt.locs, Pt.cells, Pt.slots] at S1 l1 y1 z1 st1 hQ1
  subst l1 y1 z1
  exact wp_mono (fun t hr => st1.trans hr) (g T1 v1 T1.heap hQ1.1 ⟨_, S1, rfl, Fr.app N hQ1.2.2, hQ1.2.1⟩)
theorem callP (K : Cx own code mL ret mn n0 Z p l e R s m args below meth c) (S : St n0 p l e R s m args below meth c k n h T) {i mL' W : Nat} {y : MethodName} {bytes : ByteArray} {ret' : Option FieldType} {rm : Room} {as' : Array Value} {Q' : Option Value → Heap → Prop} {argsL : List Value} (M : Met n0 l Z y bytes mL' ret' rm [] as' h Q') (E : Exa Z h a y.cls) {y2 : MethodName} (hy2 : y2.cls = y.cls) (w1 : (Jvm.Cond.methodLink own i y).before a0 Z = true) (w2 : (Jvm.Cond.privateMethod y).before a0 Z = true) (w3 : (Jvm.Cond.selects y.cls y2 y2).before a0 Z = true) (w6 : (Jvm.Cond.instanceMethod y).before a0 Z = true) (w4 : (Jvm.Cond.code y bytes mL' ret').before a0 Z = true) (w5 : (Jvm.Cond.initialized y.cls).before a0 Z = true) (hy : y.cls ≠ "java/lang/invoke/MethodHandle" ∧ y.cls ≠ "java/lang/invoke/VarHandle") (hfr : rm.frames + 1 ≤ R.frames) (hlo : W + (mL' + 11) + rm.locals ≤ R.locals) (hce : k + rm.cells ≤ R.cells) (hsl : n + rm.slots ≤ R.slots) (hsz : Ls.size = mL) (has : (.ref a :: argsL).toArray = as') (hlen : ∀ sig, parseMethodDescriptor y.desc = some sig → argsL.length = sig.parameters.length) (hst : st = argsL.reverse ++ .ref a :: rest) (hW : (rest.map fun v => v.category).sum ≤ W) (hd : Dc code pc (.invokevirtual i) 3 q) (g : ∀ T v h', Q' v h' → St n0 p l e R s m args below meth c (k + rm.cells) (n + rm.slots) h' T → Wp n0 p e R s below Q T (mkF m q Ls (v.toList ++ rest))) : Wp n0 p e R s below Q T (mkF m pc Ls st) := by
  obtain ⟨hx, hby, hml, -, -, hown, hZ, hmn⟩ := K; obtain ⟨locs, S, e1, N, z⟩ := S; obtain ⟨hd, rfl⟩ := hd; subst hst has
  obtain ⟨cq, q1, q2⟩ := E.cell
  have w3' : (Jvm.Cond.selects y.cls y2 y2).before (args := #[]) s = true := mvT hZ w3
  have wp' := Cond.privateMethod_at (mvP hZ w2 (args := #[]))
  have w6' : (Jvm.Cond.instanceMethod y).before args s = true := mvT hZ w6
  obtain ⟨c1, r1, m1, f1, f2, f3, f4, k2, f5, f6⟩ := Cond.selects_spec w3'
  have f7 : s.vm.findClass y.cls = some m1.cls := by rw [← hy2]; exact findClass_of_methodNamed f3
  have hsel : (Jvm.Cond.selects y.cls y y).before args s = true := Stand.selects_self_of_private f7 f5 f6 wp' w6' hy
  obtain ⟨v1, _, ⟨T1, L1, k1, n1⟩, -, S1, ⟨Lc1, hQ1, l1, y1, z1⟩, st1⟩ := S.privateBack hx (y := y) hown (mvT hZ w1) w6' hsel wp' (mvT hZ w4) hy (backOf (W := W) (Q := fun v h L => Q' v h ∧ n0 ≤ h.size ∧ Fr n0 L) M hZ w4 w5 hfr hlo) (g := mkF m pc Ls (argsL.reverse ++ .ref a :: rest)) rfl (by rw [hml]; exact hsz) (Steps.refl _) (a := a) (by rw [e1]; exact q1) q2 (argsL := argsL) (rest := rest) hlen rfl (by show 2 * 0 + _ ≤ _; omega) (hb hby hd) (fun _ _ => ⟨rfl, e1, hce, hsl⟩)
  dsimp only [Pt.U, Pt.locs, Pt.cells, Pt.slots] at S1 l1 y1 z1 st1 hQ1
  subst l1 y1 z1
  exact wp_mono (fun t hr => st1.trans hr) (g T1 v1 T1.heap hQ1.1 ⟨_, S1, rfl, Fr.app N hQ1.2.2, hQ1.2.1⟩)
end Kit
end Jvm.Own
namespace Jvm.Pilot.@@N@@
open Jvm Jvm.ClassFile Sem Op Lib Jvm.Free Jvm.Stand Jvm.LawKit Jvm.RoadKit Bundle Jvm.Pilot.@@N@@.Jvm.D Jvm.Own
theorem hwi {a0 : Array Value} {Z : State} (hw : ∀ d ∈ tables_1, d.before a0 Z = true) (i : Nat) {d : Jvm.Cond} (h : tables_1[i]? = some d) : d.before a0 Z = true := hw _ (List.mem_of_getElem? h)
abbrev LS := List Int32 × List Int32 × Int32 × Int32
def lget (xs : List Int32) (j : Int32) : Int32 := xs.getD j.toNatClampNeg 0
def lset (xs : List Int32) (j x : Int32) : List Int32 := xs.set j.toNatClampNeg x
def linb (xs : List Int32) (j : Int32) : Bool := decide (¬ j < 0) && decide (j.toNatClampNeg < xs.length)
def lnk (S : LS) (f g : Int32) : LS := (if g < 0 then S.1 else lset S.1 g f, if f < 0 then S.2.1 else lset S.2.1 f g, if f < 0 then g else S.2.2.1, if g < 0 then f else S.2.2.2)
def lnkOk (S : LS) (f g : Int32) : Bool := (decide (f < 0) || linb S.2.1 f) && (decide (g < 0) || linb S.1 g)
def lapp (S : LS) (i : Int32) : LS := lnk (lnk S S.2.2.2 i) i (-1)
def lappOk (S : LS) (i : Int32) : Bool := lnkOk S S.2.2.2 i && lnkOk (lnk S S.2.2.2 i) i (-1)
def lunl (S : LS) (i : Int32) : LS := lnk S (lget S.1 i) (lget S.2.1 i)
def lunlOk (S : LS) (i : Int32) : Bool := linb S.1 i && linb S.2.1 i && lnkOk S (lget S.1 i) (lget S.2.1 i)
theorem lnkOk_f {S : LS} {f g : Int32} (h : lnkOk S f g = true) (hf : ¬ f < 0) : linb S.2.1 f = true := by
  simp only [lnkOk, Bool.and_eq_true, Bool.or_eq_true, decide_eq_true_eq] at h; exact h.1.resolve_left hf
theorem lnkOk_g {S : LS} {f g : Int32} (h : lnkOk S f g = true) (hg : ¬ g < 0) : linb S.1 g = true := by
  simp only [lnkOk, Bool.and_eq_true, Bool.or_eq_true, decide_eq_true_eq] at h; exact h.2.resolve_left hg
theorem linb_lt {xs : List Int32} {j : Int32} (h : linb xs j = true) : j.toNatClampNeg < xs.length := by
  simp only [linb, Bool.and_eq_true, decide_eq_true_eq] at h; exact h.2
theorem linb_nn {xs : List Int32} {j : Int32} (h : linb xs j = true) : ¬ j < 0 := by
  simp only [linb, Bool.and_eq_true, decide_eq_true_eq] at h; exact h.1
theorem lappOk_1 {S : LS} {i : Int32} (h : lappOk S i = true) : lnkOk S S.2.2.2 i = true := by simp only [lappOk, Bool.and_eq_true] at h; exact h.1
theorem lappOk_2 {S : LS} {i : Int32} (h : lappOk S i = true) : lnkOk (lnk S S.2.2.2 i) i (-1) = true := by simp only [lappOk, Bool.and_eq_true] at h; exact h.2
theorem lunlOk_1 {S : LS} {i : Int32} (h : lunlOk S i = true) : linb S.1 i = true := by simp only [lunlOk, Bool.and_eq_true] at h; exact h.1.1
theorem lunlOk_2 {S : LS} {i : Int32} (h : lunlOk S i = true) : linb S.2.1 i = true := by simp only [lunlOk, Bool.and_eq_true] at h; exact h.1.2
theorem lunlOk_3 {S : LS} {i : Int32} (h : lunlOk S i = true) : lnkOk S (lget S.1 i) (lget S.2.1 i) = true := by simp only [lunlOk, Bool.and_eq_true] at h; exact h.2
theorem own_fin (n : Nat) (hn : n ≤ 64) (x : Int32) (h0 : 0 ≤ x.toInt) (h1 : x.toInt < n) : ∃ i : Fin n, x = Int32.ofNat i.val ∧ x.toInt = i.val := by
  have h2 : x.toInt.toNat < n := by omega
  refine ⟨⟨x.toInt.toNat, h2⟩, ?_, ?_⟩
  · apply Int32.toInt_inj.mp
    show x.toInt = (Int32.ofNat x.toInt.toNat).toInt
    rw [Int32.toInt_ofNat_of_lt (by omega)]
    omega
  · show x.toInt = ((x.toInt.toNat : Nat) : Int)
    omega
theorem linb_ix {xs : List Int32} {j : Int32} (h : linb xs j = true) : Ix j j.toNatClampNeg := ⟨linb_nn h, rfl⟩
theorem linb_get {xs : List Int32} {j : Int32} (h : linb xs j = true) : (xs.map Value.int)[j.toNatClampNeg]? = some (.int (lget xs j)) := by
  have := linb_lt h
  simp [lget, List.getElem?_map, this]
theorem linb_ml {xs : List Int32} {j : Int32} (h : linb xs j = true) : j.toNatClampNeg < (xs.map Value.int).length := by rw [List.length_map]; exact linb_lt h
theorem lset_map {xs : List Int32} {j x : Int32} : (lset xs j x).map Value.int = (xs.map Value.int).set j.toNatClampNeg (.int x) := by simp [lset, List.map_set]
def LK (Z : State) (h : Heap) (o u w : Addr) (Y : LS) : Prop := Exa Z h o "com/example/ipseity/ipseity/table/Links" ∧ Fld Z h o "com/example/ipseity/ipseity/table/Links" "before" "[I" (.ref u) ∧ Fld Z h o "com/example/ipseity/ipseity/table/Links" "after" "[I" (.ref w) ∧ Fld Z h o "com/example/ipseity/ipseity/table/Links" "head" "I" (.int Y.2.2.1) ∧ Fld Z h o "com/example/ipseity/ipseity/table/Links" "tail" "I" (.int Y.2.2.2) ∧ VA Z h u .int (Y.1.map Value.int) ∧ VA Z h w .int (Y.2.1.map Value.int)
theorem LK.keep {Z : State} {h h' : Heap} {o u w : Addr} {Y : LS} {ws : List Addr} (H : LK Z h o u w Y) (K : Keep h h' ws) (ho : o ∉ ws) (hu : u ∉ ws) (hw : w ∉ ws) : LK Z h' o u w Y :=
  ⟨H.1.keep K, H.2.1.keep K ho, H.2.2.1.keep K ho, H.2.2.2.1.keep K ho, H.2.2.2.2.1.keep K ho, H.2.2.2.2.2.1.keep K hu, H.2.2.2.2.2.2.keep K hw⟩
theorem LK.lts {Z : State} {h : Heap} {o u w : Addr} {Y : LS} (H : LK Z h o u w Y) : o < h.size ∧ u < h.size ∧ w < h.size := ⟨H.1.lt, H.2.2.2.2.2.1.lt, H.2.2.2.2.2.2.lt⟩
def AD (n0 : Nat) (o u w : Addr) : Prop := n0 ≤ o ∧ n0 ≤ u ∧ n0 ≤ w ∧ o ≠ u ∧ o ≠ w ∧ u ≠ w
def T0 : LS := ([0, 0, 0, 0, 0], [0, 0, 0, 0, 0], -1, -1)
theorem d5_0 : Dc prog_18_method_9_code 0 (.iload_n 1) 1 1 := ⟨by decide +kernel, rfl⟩
theorem d5_1 : Bc prog_18_method_9_code 1 (.ifCond .ge 11) (11) 4 12 := ⟨by decide +kernel, rfl, by decide, by decide⟩
theorem d5_4 : Dc prog_18_method_9_code 4 (.aload_n 0) 1 5 := ⟨by decide +kernel, rfl⟩
theorem d5_5 : Dc prog_18_method_9_code 5 (.iload_n 2) 1 6 := ⟨by decide +kernel, rfl⟩
theorem d5_6 : Dc prog_18_method_9_code 6 (.putfield 7) 3 9 := ⟨by decide +kernel, rfl⟩
theorem d5_9 : Bc prog_18_method_9_code 9 (.goto 10) (10) 12 19 := ⟨by decide +kernel, rfl, by decide, by decide⟩
theorem d5_12 : Dc prog_18_method_9_code 12 (.aload_n 0) 1 13 := ⟨by decide +kernel, rfl⟩
theorem d5_13 : Dc prog_18_method_9_code 13 (.getfield 20) 3 16 := ⟨by decide +kernel, rfl⟩
theorem d5_16 : Dc prog_18_method_9_code 16 (.iload_n 1) 1 17 := ⟨by decide +kernel, rfl⟩
theorem d5_17 : Dc prog_18_method_9_code 17 (.iload_n 2) 1 18 := ⟨by decide +kernel, rfl⟩
theorem d5_18 : Dc prog_18_method_9_code 18 (.iastore) 1 19 := ⟨by decide +kernel, rfl⟩
theorem d5_19 : Dc prog_18_method_9_code 19 (.iload_n 2) 1 20 := ⟨by decide +kernel, rfl⟩
theorem d5_20 : Bc prog_18_method_9_code 20 (.ifCond .ge 11) (11) 23 31 := ⟨by decide +kernel, rfl, by decide, by decide⟩
theorem d5_23 : Dc prog_18_method_9_code 23 (.aload_n 0) 1 24 := ⟨by decide +kernel, rfl⟩
theorem d5_24 : Dc prog_18_method_9_code 24 (.iload_n 1) 1 25 := ⟨by decide +kernel, rfl⟩
theorem d5_25 : Dc prog_18_method_9_code 25 (.putfield 13) 3 28 := ⟨by decide +kernel, rfl⟩
theorem d5_28 : Bc prog_18_method_9_code 28 (.goto 10) (10) 31 38 := ⟨by decide +kernel, rfl, by decide, by decide⟩
theorem d5_31 : Dc prog_18_method_9_code 31 (.aload_n 0) 1 32 := ⟨by decide +kernel, rfl⟩
theorem d5_32 : Dc prog_18_method_9_code 32 (.getfield 16) 3 35 := ⟨by decide +kernel, rfl⟩
theorem d5_35 : Dc prog_18_method_9_code 35 (.iload_n 2) 1 36 := ⟨by decide +kernel, rfl⟩
theorem d5_36 : Dc prog_18_method_9_code 36 (.iload_n 1) 1 37 := ⟨by decide +kernel, rfl⟩
theorem d5_37 : Dc prog_18_method_9_code 37 (.iastore) 1 38 := ⟨by decide +kernel, rfl⟩
theorem d5_38 : Dc prog_18_method_9_code 38 (.return_) 1 39 := ⟨by decide +kernel, rfl⟩
theorem ef_link (m : MethodId) (o : Addr) (u : Addr) (w : Addr) (f : Int32) (g : Int32) (Y : LS) : entryFrame m #[.ref o, .int f, .int g] 3 = mkF m 0 #[.val (.ref o), .val (.int f), .val (.int g)] [] := by first | (simp [entryFrame, mkF, argsToLocals, Value.category]; done) | rfl
set_option maxRecDepth 65536 in
set_option maxHeartbeats 40000000 in
theorem m_link (l : Launch) (Z : State) (a0 : Array Value) (hw : ∀ d ∈ tables_1, d.before a0 Z = true) (n0 : Nat) (o : Addr) (u : Addr) (w : Addr) (f : Int32) (g : Int32) (Y : LS) (h : Heap) (hn : n0 ≤ h.size) (D : AD n0 o u w) (H : LK Z h o u w Y) (ok : lnkOk Y f g = true) : Met n0 l Z (⟨"com/example/ipseity/ipseity/table/Links", "link", "(II)V"⟩ : MethodName) prog_18_method_9_code 3 none ({ frames := 0, cells := 0, slots := 0, locals := 0 } : Room) [] #[.ref o, .int f, .int g] h (Ef none (fun h' => LK Z h' o u w (lnk Y f g) ∧ Keep h h' [o, u, w])) := by
  refine enter (plainFor_of_name (by first | (simp [plainName, overriddenIn]; done) | decide +kernel)) (fun m => ef_link m o u w f g Y) hn ?_
  intro p e s m below meth c T K S
  have Kp := Keep.refl h [o, u, w]
  obtain ⟨g_o, g_u, g_w, n_o_u, n_o_w, n_u_w⟩ := D
  obtain ⟨E_o, F_before_o, F_after_o, F_head_o, F_tail_o, A_u, A_w⟩ := H
  refine iload_n K S rfl d5_0 ?_
  refine ific_ge K S d5_1 (fun c1 => ?_) (fun c1 => ?_)
  · refine aload_n K S rfl rfl d5_12 ?_
    refine getf K S (hwi hw 21 rfl) F_after_o d5_13 fun T S => ?_
    refine iload_n K S rfl d5_16 ?_
    refine iload_n K S rfl d5_17 ?_
    refine iastore K S (i := f.toNatClampNeg) A_w ⟨c1, rfl⟩ (linb_ml (lnkOk_f ok c1)) g_w d5_18 fun T h18_1 W B S => ?_
    replace E_o := E_o.wr W
    replace F_before_o := F_before_o.other W (Or.inl (by first | exact n_o_w | exact Ne.symm n_w_o | omega))
    replace F_after_o := F_after_o.other W (Or.inl (by first | exact n_o_w | exact Ne.symm n_w_o | omega))
    replace F_head_o := F_head_o.other W (Or.inl (by first | exact n_o_w | exact Ne.symm n_w_o | omega))
    replace F_tail_o := F_tail_o.other W (Or.inl (by first | exact n_o_w | exact Ne.symm n_w_o | omega))
    replace A_u := A_u.other W (by first | exact n_u_w | exact Ne.symm n_w_u | omega)
    replace Kp := Kp.wr W (Or.inl (by simp))
    clear W
    replace A_w : VA Z h18_1 w .int ((lset Y.2.1 f g).map Value.int) := (by rw [lset_map]; exact B)
    refine iload_n K S rfl d5_19 ?_
    refine ific_ge K S d5_20 (fun c20 => ?_) (fun c20 => ?_)
    · refine aload_n K S rfl rfl d5_31 ?_
      refine getf K S (hwi hw 19 rfl) F_before_o d5_32 fun T S => ?_
      refine iload_n K S rfl d5_35 ?_
      refine iload_n K S rfl d5_36 ?_
      refine iastore K S (i := g.toNatClampNeg) A_u ⟨c20, rfl⟩ (linb_ml (lnkOk_g ok c20)) g_u d5_37 fun T h37_2 W B S => ?_
      replace E_o := E_o.wr W
      replace F_before_o := F_before_o.other W (Or.inl (by first | exact n_o_u | exact Ne.symm n_u_o | omega))
      replace F_after_o := F_after_o.other W (Or.inl (by first | exact n_o_u | exact Ne.symm n_u_o | omega))
      replace F_head_o := F_head_o.other W (Or.inl (by first | exact n_o_u | exact Ne.symm n_u_o | omega))
      replace F_tail_o := F_tail_o.other W (Or.inl (by first | exact n_o_u | exact Ne.symm n_u_o | omega))
      replace A_w := A_w.other W (by first | exact n_w_u | exact Ne.symm n_u_w | omega)
      replace Kp := Kp.wr W (Or.inl (by simp))
      clear W
      replace A_u : VA Z h37_2 u .int ((lset Y.1 g f).map Value.int) := (by rw [lset_map]; exact B)
      refine retv K S (by decide) (by decide) d5_38 ?_
      refine ⟨rfl, ?_, Kp⟩
      simp only [LK, lnk, c1, c20, if_true, if_false]
      exact ⟨E_o, F_before_o, F_after_o, F_head_o, F_tail_o, A_u, A_w⟩
    refine aload_n K S rfl rfl d5_23 ?_
    refine iload_n K S rfl d5_24 ?_
    refine putf K S (hwi hw 17 rfl) F_tail_o E_o (Or.inl (hwi hw 18 rfl)) (hwi hw 7 rfl) (ty := .int) (by decide) rfl rfl g_o d5_25 fun T h25_3 W S => ?_
    replace E_o := E_o.wr W
    replace F_before_o := F_before_o.other W (Or.inr (slot_ne (C := "com/example/ipseity/ipseity/table/Links") (Or.inr (hwi hw 20 rfl)) (Or.inl (hwi hw 18 rfl)) (by decide) (t := .array .int) (t' := .int) (by decide) (by decide)))
    replace F_after_o := F_after_o.other W (Or.inr (slot_ne (C := "com/example/ipseity/ipseity/table/Links") (Or.inr (hwi hw 22 rfl)) (Or.inl (hwi hw 18 rfl)) (by decide) (t := .array .int) (t' := .int) (by decide) (by decide)))
    replace F_head_o := F_head_o.other W (Or.inr (slot_ne (C := "com/example/ipseity/ipseity/table/Links") (Or.inl (hwi hw 16 rfl)) (Or.inl (hwi hw 18 rfl)) (by decide) (t := .int) (t' := .int) (by decide) (by decide)))
    replace F_tail_o := F_tail_o.same W
    replace A_u := A_u.other W (by first | exact n_u_o | exact Ne.symm n_o_u | omega)
    replace A_w := A_w.other W (by first | exact n_w_o | exact Ne.symm n_o_w | omega)
    replace Kp := Kp.wr W (Or.inl (by simp))
    clear W
    refine goto K S d5_28 ?_
    refine retv K S (by decide) (by decide) d5_38 ?_
    refine ⟨rfl, ?_, Kp⟩
    simp only [LK, lnk, c1, c20, if_true, if_false]
    exact ⟨E_o, F_before_o, F_after_o, F_head_o, F_tail_o, A_u, A_w⟩
  refine aload_n K S rfl rfl d5_4 ?_
  refine iload_n K S rfl d5_5 ?_
  refine putf K S (hwi hw 15 rfl) F_head_o E_o (Or.inl (hwi hw 16 rfl)) (hwi hw 7 rfl) (ty := .int) (by decide) rfl rfl g_o d5_6 fun T h6_4 W S => ?_
  replace E_o := E_o.wr W
  replace F_before_o := F_before_o.other W (Or.inr (slot_ne (C := "com/example/ipseity/ipseity/table/Links") (Or.inr (hwi hw 20 rfl)) (Or.inl (hwi hw 16 rfl)) (by decide) (t := .array .int) (t' := .int) (by decide) (by decide)))
  replace F_after_o := F_after_o.other W (Or.inr (slot_ne (C := "com/example/ipseity/ipseity/table/Links") (Or.inr (hwi hw 22 rfl)) (Or.inl (hwi hw 16 rfl)) (by decide) (t := .array .int) (t' := .int) (by decide) (by decide)))
  replace F_head_o := F_head_o.same W
  replace F_tail_o := F_tail_o.other W (Or.inr (slot_ne (C := "com/example/ipseity/ipseity/table/Links") (Or.inl (hwi hw 18 rfl)) (Or.inl (hwi hw 16 rfl)) (by decide) (t := .int) (t' := .int) (by decide) (by decide)))
  replace A_u := A_u.other W (by first | exact n_u_o | exact Ne.symm n_o_u | omega)
  replace A_w := A_w.other W (by first | exact n_w_o | exact Ne.symm n_o_w | omega)
  replace Kp := Kp.wr W (Or.inl (by simp))
  clear W
  refine goto K S d5_9 ?_
  refine iload_n K S rfl d5_19 ?_
  refine ific_ge K S d5_20 (fun c20 => ?_) (fun c20 => ?_)
  · refine aload_n K S rfl rfl d5_31 ?_
    refine getf K S (hwi hw 19 rfl) F_before_o d5_32 fun T S => ?_
    refine iload_n K S rfl d5_35 ?_
    refine iload_n K S rfl d5_36 ?_
    refine iastore K S (i := g.toNatClampNeg) A_u ⟨c20, rfl⟩ (linb_ml (lnkOk_g ok c20)) g_u d5_37 fun T h37_5 W B S => ?_
    replace E_o := E_o.wr W
    replace F_before_o := F_before_o.other W (Or.inl (by first | exact n_o_u | exact Ne.symm n_u_o | omega))
    replace F_after_o := F_after_o.other W (Or.inl (by first | exact n_o_u | exact Ne.symm n_u_o | omega))
    replace F_head_o := F_head_o.other W (Or.inl (by first | exact n_o_u | exact Ne.symm n_u_o | omega))
    replace F_tail_o := F_tail_o.other W (Or.inl (by first | exact n_o_u | exact Ne.symm n_u_o | omega))
    replace A_w := A_w.other W (by first | exact n_w_u | exact Ne.symm n_u_w | omega)
    replace Kp := Kp.wr W (Or.inl (by simp))
    clear W
    replace A_u : VA Z h37_5 u .int ((lset Y.1 g f).map Value.int) := (by rw [lset_map]; exact B)
    refine retv K S (by decide) (by decide) d5_38 ?_
    refine ⟨rfl, ?_, Kp⟩
    simp only [LK, lnk, c1, c20, if_true, if_false]
    exact ⟨E_o, F_before_o, F_after_o, F_head_o, F_tail_o, A_u, A_w⟩
  refine aload_n K S rfl rfl d5_23 ?_
  refine iload_n K S rfl d5_24 ?_
  refine putf K S (hwi hw 17 rfl) F_tail_o E_o (Or.inl (hwi hw 18 rfl)) (hwi hw 7 rfl) (ty := .int) (by decide) rfl rfl g_o d5_25 fun T h25_6 W S => ?_
  replace E_o := E_o.wr W
  replace F_before_o := F_before_o.other W (Or.inr (slot_ne (C := "com/example/ipseity/ipseity/table/Links") (Or.inr (hwi hw 20 rfl)) (Or.inl (hwi hw 18 rfl)) (by decide) (t := .array .int) (t' := .int) (by decide) (by decide)))
  replace F_after_o := F_after_o.other W (Or.inr (slot_ne (C := "com/example/ipseity/ipseity/table/Links") (Or.inr (hwi hw 22 rfl)) (Or.inl (hwi hw 18 rfl)) (by decide) (t := .array .int) (t' := .int) (by decide) (by decide)))
  replace F_head_o := F_head_o.other W (Or.inr (slot_ne (C := "com/example/ipseity/ipseity/table/Links") (Or.inl (hwi hw 16 rfl)) (Or.inl (hwi hw 18 rfl)) (by decide) (t := .int) (t' := .int) (by decide) (by decide)))
  replace F_tail_o := F_tail_o.same W
  replace A_u := A_u.other W (by first | exact n_u_o | exact Ne.symm n_o_u | omega)
  replace A_w := A_w.other W (by first | exact n_w_o | exact Ne.symm n_o_w | omega)
  replace Kp := Kp.wr W (Or.inl (by simp))
  clear W
  refine goto K S d5_28 ?_
  refine retv K S (by decide) (by decide) d5_38 ?_
  refine ⟨rfl, ?_, Kp⟩
  simp only [LK, lnk, c1, c20, if_true, if_false]
  exact ⟨E_o, F_before_o, F_after_o, F_head_o, F_tail_o, A_u, A_w⟩

theorem d4_0 : Dc prog_18_method_6_code 0 (.aload_n 0) 1 1 := ⟨by decide +kernel, rfl⟩
theorem d4_1 : Dc prog_18_method_6_code 1 (.aload_n 0) 1 2 := ⟨by decide +kernel, rfl⟩
theorem d4_2 : Dc prog_18_method_6_code 2 (.getfield 13) 3 5 := ⟨by decide +kernel, rfl⟩
theorem d4_5 : Dc prog_18_method_6_code 5 (.iload_n 1) 1 6 := ⟨by decide +kernel, rfl⟩
theorem d4_6 : Dc prog_18_method_6_code 6 (.invokevirtual 31) 3 9 := ⟨by decide +kernel, rfl⟩
theorem d4_9 : Dc prog_18_method_6_code 9 (.aload_n 0) 1 10 := ⟨by decide +kernel, rfl⟩
theorem d4_10 : Dc prog_18_method_6_code 10 (.iload_n 1) 1 11 := ⟨by decide +kernel, rfl⟩
theorem d4_11 : Dc prog_18_method_6_code 11 (.iconst (-1)) 1 12 := ⟨by decide +kernel, rfl⟩
theorem d4_12 : Dc prog_18_method_6_code 12 (.invokevirtual 31) 3 15 := ⟨by decide +kernel, rfl⟩
theorem d4_15 : Dc prog_18_method_6_code 15 (.return_) 1 16 := ⟨by decide +kernel, rfl⟩
theorem pd_5 : parseMethodDescriptor "(II)V" = some ⟨[.int, .int], none⟩ := by decide +kernel
theorem ef_append (m : MethodId) (o : Addr) (u : Addr) (w : Addr) (i : Int32) (Y : LS) : entryFrame m #[.ref o, .int i] 2 = mkF m 0 #[.val (.ref o), .val (.int i)] [] := by first | (simp [entryFrame, mkF, argsToLocals, Value.category]; done) | rfl
set_option maxRecDepth 65536 in
set_option maxHeartbeats 40000000 in
theorem m_append (l : Launch) (Z : State) (a0 : Array Value) (hw : ∀ d ∈ tables_1, d.before a0 Z = true) (n0 : Nat) (o : Addr) (u : Addr) (w : Addr) (i : Int32) (Y : LS) (h : Heap) (hn : n0 ≤ h.size) (D : AD n0 o u w) (H : LK Z h o u w Y) (ok : lappOk Y i = true) : Met n0 l Z (⟨"com/example/ipseity/ipseity/table/Links", "append", "(I)V"⟩ : MethodName) prog_18_method_6_code 2 none ({ frames := 1, cells := 0, slots := 0, locals := 14 } : Room) [] #[.ref o, .int i] h (Ef none (fun h' => LK Z h' o u w (lapp Y i) ∧ Keep h h' [o, u, w])) := by
  refine enter (plainFor_of_name (by first | (simp [plainName, overriddenIn]; done) | decide +kernel)) (fun m => ef_append m o u w i Y) hn ?_
  intro p e s m below meth c T K S
  have Kp := Keep.refl h [o, u, w]
  have E_o := H.1
  have F_tail_o := H.2.2.2.2.1
  refine aload_n K S rfl rfl d4_0 ?_
  refine aload_n K S rfl rfl d4_1 ?_
  refine getf K S (hwi hw 17 rfl) F_tail_o d4_2 fun T S => ?_
  refine iload_n K S rfl d4_5 ?_
  refine callP K S (W := 0) (m_link l Z a0 hw n0 o u w (Y.2.2.2) i Y h (Sle S) D H (lappOk_1 ok)) E_o (y2 := ⟨"com/example/ipseity/ipseity/table/Links", "append", "(I)V"⟩) rfl (hwi hw 28 rfl) (hwi hw 30 rfl) (hwi hw 26 rfl) (hwi hw 29 rfl) (hwi hw 31 rfl) (hwi hw 8 rfl) (by decide) (by decide) (by decide) (by decide) (by decide) rfl (argsL := [.int (Y.2.2.2), .int i]) rfl (lenOf pd_5 rfl) (rest := []) rfl (Nat.le_of_eq rfl) d4_6 (ef fun T h6_1 hP S => ?_)
  obtain ⟨H, K1⟩ := hP
  replace Kp := Kp.trans K1 (fun x hx => Or.inl hx)
  replace E_o := H.1
  replace F_tail_o := H.2.2.2.2.1
  show Wp n0 p e _ s below _ T (mkF m 9 #[.val (.ref o), .val (.int i)] [])
  refine aload_n K S rfl rfl d4_9 ?_
  refine iload_n K S rfl d4_10 ?_
  refine iconst K S (x := (-1 : Int32)) rfl d4_11 ?_
  refine callP K S (W := 0) (m_link l Z a0 hw n0 o u w i (-1 : Int32) (lnk Y (Y.2.2.2) i) h6_1 (Sle S) D H (lappOk_2 ok)) E_o (y2 := ⟨"com/example/ipseity/ipseity/table/Links", "append", "(I)V"⟩) rfl (hwi hw 28 rfl) (hwi hw 30 rfl) (hwi hw 26 rfl) (hwi hw 29 rfl) (hwi hw 31 rfl) (hwi hw 8 rfl) (by decide) (by decide) (by decide) (by decide) (by decide) rfl (argsL := [.int i, .int (-1 : Int32)]) rfl (lenOf pd_5 rfl) (rest := []) rfl (Nat.le_of_eq rfl) d4_12 (ef fun T h12_2 hP S => ?_)
  obtain ⟨H, K1⟩ := hP
  replace Kp := Kp.trans K1 (fun x hx => Or.inl hx)
  replace E_o := H.1
  replace F_tail_o := H.2.2.2.2.1
  show Wp n0 p e _ s below _ T (mkF m 15 #[.val (.ref o), .val (.int i)] [])
  refine retv K S (by decide) (by decide) d4_15 ?_
  exact ⟨rfl, H, Kp⟩

theorem d6_0 : Dc prog_18_method_7_code 0 (.aload_n 0) 1 1 := ⟨by decide +kernel, rfl⟩
theorem d6_1 : Dc prog_18_method_7_code 1 (.aload_n 0) 1 2 := ⟨by decide +kernel, rfl⟩
theorem d6_2 : Dc prog_18_method_7_code 2 (.getfield 16) 3 5 := ⟨by decide +kernel, rfl⟩
theorem d6_5 : Dc prog_18_method_7_code 5 (.iload_n 1) 1 6 := ⟨by decide +kernel, rfl⟩
theorem d6_6 : Dc prog_18_method_7_code 6 (.iaload) 1 7 := ⟨by decide +kernel, rfl⟩
theorem d6_7 : Dc prog_18_method_7_code 7 (.aload_n 0) 1 8 := ⟨by decide +kernel, rfl⟩
theorem d6_8 : Dc prog_18_method_7_code 8 (.getfield 20) 3 11 := ⟨by decide +kernel, rfl⟩
theorem d6_11 : Dc prog_18_method_7_code 11 (.iload_n 1) 1 12 := ⟨by decide +kernel, rfl⟩
theorem d6_12 : Dc prog_18_method_7_code 12 (.iaload) 1 13 := ⟨by decide +kernel, rfl⟩
theorem d6_13 : Dc prog_18_method_7_code 13 (.invokevirtual 31) 3 16 := ⟨by decide +kernel, rfl⟩
theorem d6_16 : Dc prog_18_method_7_code 16 (.return_) 1 17 := ⟨by decide +kernel, rfl⟩
theorem ef_unlink (m : MethodId) (o : Addr) (u : Addr) (w : Addr) (i : Int32) (Y : LS) : entryFrame m #[.ref o, .int i] 2 = mkF m 0 #[.val (.ref o), .val (.int i)] [] := by first | (simp [entryFrame, mkF, argsToLocals, Value.category]; done) | rfl
set_option maxRecDepth 65536 in
set_option maxHeartbeats 40000000 in
theorem m_unlink (l : Launch) (Z : State) (a0 : Array Value) (hw : ∀ d ∈ tables_1, d.before a0 Z = true) (n0 : Nat) (o : Addr) (u : Addr) (w : Addr) (i : Int32) (Y : LS) (h : Heap) (hn : n0 ≤ h.size) (D : AD n0 o u w) (H : LK Z h o u w Y) (ok : lunlOk Y i = true) : Met n0 l Z (⟨"com/example/ipseity/ipseity/table/Links", "unlink", "(I)V"⟩ : MethodName) prog_18_method_7_code 2 none ({ frames := 1, cells := 0, slots := 0, locals := 14 } : Room) [] #[.ref o, .int i] h (Ef none (fun h' => LK Z h' o u w (lunl Y i) ∧ Keep h h' [o, u, w])) := by
  refine enter (plainFor_of_name (by first | (simp [plainName, overriddenIn]; done) | decide +kernel)) (fun m => ef_unlink m o u w i Y) hn ?_
  intro p e s m below meth c T K S
  have Kp := Keep.refl h [o, u, w]
  have H0 := H
  obtain ⟨E_o, F_before_o, F_after_o, F_head_o, F_tail_o, A_u, A_w⟩ := H0
  refine aload_n K S rfl rfl d6_0 ?_
  refine aload_n K S rfl rfl d6_1 ?_
  refine getf K S (hwi hw 19 rfl) F_before_o d6_2 fun T S => ?_
  refine iload_n K S rfl d6_5 ?_
  refine iaload K S (v := .int (lget Y.1 i)) (i := i.toNatClampNeg) A_u (linb_ix (lunlOk_1 ok)) (linb_get (lunlOk_1 ok)) d6_6 ?_
  refine aload_n K S rfl rfl d6_7 ?_
  refine getf K S (hwi hw 21 rfl) F_after_o d6_8 fun T S => ?_
  refine iload_n K S rfl d6_11 ?_
  refine iaload K S (v := .int (lget Y.2.1 i)) (i := i.toNatClampNeg) A_w (linb_ix (lunlOk_2 ok)) (linb_get (lunlOk_2 ok)) d6_12 ?_
  refine callP K S (W := 0) (m_link l Z a0 hw n0 o u w (lget Y.1 i) (lget Y.2.1 i) Y h (Sle S) D H (lunlOk_3 ok)) E_o (y2 := ⟨"com/example/ipseity/ipseity/table/Links", "append", "(I)V"⟩) rfl (hwi hw 28 rfl) (hwi hw 30 rfl) (hwi hw 26 rfl) (hwi hw 29 rfl) (hwi hw 31 rfl) (hwi hw 8 rfl) (by decide) (by decide) (by decide) (by decide) (by decide) rfl (argsL := [.int (lget Y.1 i), .int (lget Y.2.1 i)]) rfl (lenOf pd_5 rfl) (rest := []) rfl (Nat.le_of_eq rfl) d6_13 (ef fun T h13_1 hP S => ?_)
  obtain ⟨H, K1⟩ := hP
  replace Kp := Kp.trans K1 (fun x hx => Or.inl hx)
  replace E_o := H.1
  replace F_tail_o := H.2.2.2.2.1
  show Wp n0 p e _ s below _ T (mkF m 16 #[.val (.ref o), .val (.int i)] [])
  refine retv K S (by decide) (by decide) d6_16 ?_
  exact ⟨rfl, H, Kp⟩

theorem d8_0 : Dc prog_18_method_4_code 0 (.aload_n 0) 1 1 := ⟨by decide +kernel, rfl⟩
theorem d8_1 : Dc prog_18_method_4_code 1 (.getfield 7) 3 4 := ⟨by decide +kernel, rfl⟩
theorem d8_4 : Dc prog_18_method_4_code 4 (.ireturn) 1 5 := ⟨by decide +kernel, rfl⟩
theorem ef_first (m : MethodId) (o : Addr) (u : Addr) (w : Addr) (Y : LS) : entryFrame m #[.ref o] 1 = mkF m 0 #[.val (.ref o)] [] := by first | (simp [entryFrame, mkF, argsToLocals, Value.category]; done) | rfl
set_option maxRecDepth 65536 in
set_option maxHeartbeats 40000000 in
theorem m_first (l : Launch) (Z : State) (a0 : Array Value) (hw : ∀ d ∈ tables_1, d.before a0 Z = true) (n0 : Nat) (o : Addr) (u : Addr) (w : Addr) (Y : LS) (h : Heap) (hn : n0 ≤ h.size) (H : LK Z h o u w Y) : Met n0 l Z (⟨"com/example/ipseity/ipseity/table/Links", "first", "()I"⟩ : MethodName) prog_18_method_4_code 1 (some .int) ({ frames := 0, cells := 0, slots := 0, locals := 0 } : Room) [] #[.ref o] h (Pu (some (.int Y.2.2.1)) h) := by
  refine enter (plainFor_of_name (by first | (simp [plainName, overriddenIn]; done) | decide +kernel)) (fun m => ef_first m o u w Y) hn ?_
  intro p e s m below meth c T K S
  obtain ⟨E_o, F_before_o, F_after_o, F_head_o, F_tail_o, A_u, A_w⟩ := H
  refine aload_n K S rfl rfl d8_0 ?_
  refine getf K S (hwi hw 15 rfl) F_head_o d8_1 fun T S => ?_
  refine reti K S (by decide) (by decide) d8_4 ?_
  exact ⟨rfl, rfl⟩

theorem d9_0 : Dc prog_18_method_5_code 0 (.aload_n 0) 1 1 := ⟨by decide +kernel, rfl⟩
theorem d9_1 : Dc prog_18_method_5_code 1 (.getfield 20) 3 4 := ⟨by decide +kernel, rfl⟩
theorem d9_4 : Dc prog_18_method_5_code 4 (.iload_n 1) 1 5 := ⟨by decide +kernel, rfl⟩
theorem d9_5 : Dc prog_18_method_5_code 5 (.iaload) 1 6 := ⟨by decide +kernel, rfl⟩
theorem d9_6 : Dc prog_18_method_5_code 6 (.ireturn) 1 7 := ⟨by decide +kernel, rfl⟩
theorem ef_next (m : MethodId) (o : Addr) (u : Addr) (w : Addr) (j : Int32) (Y : LS) : entryFrame m #[.ref o, .int j] 2 = mkF m 0 #[.val (.ref o), .val (.int j)] [] := by first | (simp [entryFrame, mkF, argsToLocals, Value.category]; done) | rfl
set_option maxRecDepth 65536 in
set_option maxHeartbeats 40000000 in
theorem m_next (l : Launch) (Z : State) (a0 : Array Value) (hw : ∀ d ∈ tables_1, d.before a0 Z = true) (n0 : Nat) (o : Addr) (u : Addr) (w : Addr) (j : Int32) (Y : LS) (h : Heap) (hn : n0 ≤ h.size) (H : LK Z h o u w Y) (ok : linb Y.2.1 j = true) : Met n0 l Z (⟨"com/example/ipseity/ipseity/table/Links", "next", "(I)I"⟩ : MethodName) prog_18_method_5_code 2 (some .int) ({ frames := 0, cells := 0, slots := 0, locals := 0 } : Room) [] #[.ref o, .int j] h (Pu (some (.int (lget Y.2.1 j))) h) := by
  refine enter (plainFor_of_name (by first | (simp [plainName, overriddenIn]; done) | decide +kernel)) (fun m => ef_next m o u w j Y) hn ?_
  intro p e s m below meth c T K S
  obtain ⟨E_o, F_before_o, F_after_o, F_head_o, F_tail_o, A_u, A_w⟩ := H
  refine aload_n K S rfl rfl d9_0 ?_
  refine getf K S (hwi hw 21 rfl) F_after_o d9_1 fun T S => ?_
  refine iload_n K S rfl d9_4 ?_
  refine iaload K S (v := .int (lget Y.2.1 j)) (i := j.toNatClampNeg) A_w (linb_ix ok) (linb_get ok) d9_5 ?_
  refine reti K S (by decide) (by decide) d9_6 ?_
  exact ⟨rfl, rfl⟩

theorem d2_0 : Dc prog_18_method_1_code 0 (.aload_n 0) 1 1 := ⟨by decide +kernel, rfl⟩
theorem d2_1 : Dc prog_18_method_1_code 1 (.invokespecial 1) 3 4 := ⟨by decide +kernel, rfl⟩
theorem d2_4 : Dc prog_18_method_1_code 4 (.aload_n 0) 1 5 := ⟨by decide +kernel, rfl⟩
theorem d2_5 : Dc prog_18_method_1_code 5 (.iconst (-1)) 1 6 := ⟨by decide +kernel, rfl⟩
theorem d2_6 : Dc prog_18_method_1_code 6 (.putfield 7) 3 9 := ⟨by decide +kernel, rfl⟩
theorem d2_9 : Dc prog_18_method_1_code 9 (.aload_n 0) 1 10 := ⟨by decide +kernel, rfl⟩
theorem d2_10 : Dc prog_18_method_1_code 10 (.iconst (-1)) 1 11 := ⟨by decide +kernel, rfl⟩
theorem d2_11 : Dc prog_18_method_1_code 11 (.putfield 13) 3 14 := ⟨by decide +kernel, rfl⟩
theorem d2_14 : Dc prog_18_method_1_code 14 (.aload_n 0) 1 15 := ⟨by decide +kernel, rfl⟩
theorem d2_15 : Dc prog_18_method_1_code 15 (.iload_n 1) 1 16 := ⟨by decide +kernel, rfl⟩
theorem d2_16 : Dc prog_18_method_1_code 16 (.newarray .int) 2 18 := ⟨by decide +kernel, rfl⟩
theorem d2_18 : Dc prog_18_method_1_code 18 (.putfield 16) 3 21 := ⟨by decide +kernel, rfl⟩
theorem d2_21 : Dc prog_18_method_1_code 21 (.aload_n 0) 1 22 := ⟨by decide +kernel, rfl⟩
theorem d2_22 : Dc prog_18_method_1_code 22 (.iload_n 1) 1 23 := ⟨by decide +kernel, rfl⟩
theorem d2_23 : Dc prog_18_method_1_code 23 (.newarray .int) 2 25 := ⟨by decide +kernel, rfl⟩
theorem d2_25 : Dc prog_18_method_1_code 25 (.putfield 20) 3 28 := ⟨by decide +kernel, rfl⟩
theorem d2_28 : Dc prog_18_method_1_code 28 (.return_) 1 29 := ⟨by decide +kernel, rfl⟩
theorem ef_init (m : MethodId) (o : Addr) : entryFrame m #[.ref o, .int (5 : Int32)] 2 = mkF m 0 #[.val (.ref o), .val (.int (5 : Int32))] [] := by first | (simp [entryFrame, mkF, argsToLocals, Value.category]; done) | rfl
set_option maxRecDepth 65536 in
set_option maxHeartbeats 40000000 in
theorem m_init (l : Launch) (Z : State) (a0 : Array Value) (hw : ∀ d ∈ tables_1, d.before a0 Z = true) (n0 : Nat) (o : Addr) (h : Heap) (hn : n0 ≤ h.size) (g_o : n0 ≤ o) (E_o : Exa Z h o "com/example/ipseity/ipseity/table/Links") (F_before_o : Fld Z h o "com/example/ipseity/ipseity/table/Links" "before" "[I" (.null)) (F_after_o : Fld Z h o "com/example/ipseity/ipseity/table/Links" "after" "[I" (.null)) (F_head_o : Fld Z h o "com/example/ipseity/ipseity/table/Links" "head" "I" (.int 0)) (F_tail_o : Fld Z h o "com/example/ipseity/ipseity/table/Links" "tail" "I" (.int 0)) : Met n0 l Z (⟨"com/example/ipseity/ipseity/table/Links", "<init>", "(I)V"⟩ : MethodName) prog_18_method_1_code 2 none ({ frames := 1, cells := 2, slots := 10, locals := 12 } : Room) [] #[.ref o, .int (5 : Int32)] h (Ef none (fun h' => ∃ u w, AD n0 o u w ∧ LK Z h' o u w T0 ∧ Keep h h' [o] ∧ h.size ≤ u ∧ h.size ≤ w)) := by
  refine enter (plainFor_of_name (by first | (simp [plainName, overriddenIn]; done) | decide +kernel)) (fun m => ef_init m o) hn ?_
  intro p e s m below meth c T K S
  have Kp := Keep.refl h [o]
  refine aload_n K S rfl rfl d2_0 ?_
  refine inito K S (W := 0) (hwi hw 12 rfl) (hwi hw 13 rfl) (hwi hw 14 rfl) rfl (by decide) (by decide) (by decide) d2_1 fun T S => ?_
  refine aload_n K S rfl rfl d2_4 ?_
  refine iconst K S (x := (-1 : Int32)) rfl d2_5 ?_
  refine putf K S (hwi hw 15 rfl) F_head_o E_o (Or.inl (hwi hw 16 rfl)) (hwi hw 7 rfl) (ty := .int) (by decide) rfl rfl g_o d2_6 fun T h6_1 W S => ?_
  replace E_o := E_o.wr W
  replace F_before_o := F_before_o.other W (Or.inr (slot_ne (C := "com/example/ipseity/ipseity/table/Links") (Or.inr (hwi hw 20 rfl)) (Or.inl (hwi hw 16 rfl)) (by decide) (t := .array .int) (t' := .int) (by decide) (by decide)))
  replace F_after_o := F_after_o.other W (Or.inr (slot_ne (C := "com/example/ipseity/ipseity/table/Links") (Or.inr (hwi hw 22 rfl)) (Or.inl (hwi hw 16 rfl)) (by decide) (t := .array .int) (t' := .int) (by decide) (by decide)))
  replace F_head_o := F_head_o.same W
  replace F_tail_o := F_tail_o.other W (Or.inr (slot_ne (C := "com/example/ipseity/ipseity/table/Links") (Or.inl (hwi hw 18 rfl)) (Or.inl (hwi hw 16 rfl)) (by decide) (t := .int) (t' := .int) (by decide) (by decide)))
  replace Kp := Kp.wr W (Or.inl (by simp))
  clear W
  refine aload_n K S rfl rfl d2_9 ?_
  refine iconst K S (x := (-1 : Int32)) rfl d2_10 ?_
  refine putf K S (hwi hw 17 rfl) F_tail_o E_o (Or.inl (hwi hw 18 rfl)) (hwi hw 7 rfl) (ty := .int) (by decide) rfl rfl g_o d2_11 fun T h11_2 W S => ?_
  replace E_o := E_o.wr W
  replace F_before_o := F_before_o.other W (Or.inr (slot_ne (C := "com/example/ipseity/ipseity/table/Links") (Or.inr (hwi hw 20 rfl)) (Or.inl (hwi hw 18 rfl)) (by decide) (t := .array .int) (t' := .int) (by decide) (by decide)))
  replace F_after_o := F_after_o.other W (Or.inr (slot_ne (C := "com/example/ipseity/ipseity/table/Links") (Or.inr (hwi hw 22 rfl)) (Or.inl (hwi hw 18 rfl)) (by decide) (t := .array .int) (t' := .int) (by decide) (by decide)))
  replace F_head_o := F_head_o.other W (Or.inr (slot_ne (C := "com/example/ipseity/ipseity/table/Links") (Or.inl (hwi hw 16 rfl)) (Or.inl (hwi hw 18 rfl)) (by decide) (t := .int) (t' := .int) (by decide) (by decide)))
  replace F_tail_o := F_tail_o.same W
  replace Kp := Kp.wr W (Or.inl (by simp))
  clear W
  refine aload_n K S rfl rfl d2_14 ?_
  refine iload_n K S rfl d2_15 ?_
  refine newarr K S (cap := 5) (hwi hw 5 rfl) (by decide) (by decide) (by decide) (by decide) (by decide) d2_16 fun T h16_3 u z_u g_u X A_u S => ?_
  have n_o_u : o ≠ u := by rw [z_u]; exact Nat.ne_of_lt E_o.lt
  replace E_o := E_o.ext X
  replace F_before_o := F_before_o.ext X
  replace F_after_o := F_after_o.ext X
  replace F_head_o := F_head_o.ext X
  replace F_tail_o := F_tail_o.ext X
  have y_u : h.size ≤ u := by rw [z_u]; exact Kp.1
  replace Kp := Kp.ext X
  replace A_u : VA Z h16_3 u .int ([.int (0 : Int32), .int (0 : Int32), .int (0 : Int32), .int (0 : Int32), .int (0 : Int32)]) := A_u
  clear X
  refine putf K S (hwi hw 19 rfl) F_before_o E_o (Or.inr ⟨(hwi hw 20 rfl), rfl, rfl⟩) (hwi hw 7 rfl) (ty := .array .int) (by decide) rfl rfl g_o d2_18 fun T h18_4 W S => ?_
  replace E_o := E_o.wr W
  replace F_before_o := F_before_o.same W
  replace F_after_o := F_after_o.other W (Or.inr (slot_ne (C := "com/example/ipseity/ipseity/table/Links") (Or.inr (hwi hw 22 rfl)) (Or.inr (hwi hw 20 rfl)) (by decide) (t := .array .int) (t' := .array .int) (by decide) (by decide)))
  replace F_head_o := F_head_o.other W (Or.inr (slot_ne (C := "com/example/ipseity/ipseity/table/Links") (Or.inl (hwi hw 16 rfl)) (Or.inr (hwi hw 20 rfl)) (by decide) (t := .int) (t' := .array .int) (by decide) (by decide)))
  replace F_tail_o := F_tail_o.other W (Or.inr (slot_ne (C := "com/example/ipseity/ipseity/table/Links") (Or.inl (hwi hw 18 rfl)) (Or.inr (hwi hw 20 rfl)) (by decide) (t := .int) (t' := .array .int) (by decide) (by decide)))
  replace A_u := A_u.other W (by first | exact n_u_o | exact Ne.symm n_o_u | omega)
  replace Kp := Kp.wr W (Or.inl (by simp))
  clear W
  refine aload_n K S rfl rfl d2_21 ?_
  refine iload_n K S rfl d2_22 ?_
  refine newarr K S (cap := 5) (hwi hw 5 rfl) (by decide) (by decide) (by decide) (by decide) (by decide) d2_23 fun T h23_5 w z_w g_w X A_w S => ?_
  have n_o_w : o ≠ w := by rw [z_w]; exact Nat.ne_of_lt E_o.lt
  have n_u_w : u ≠ w := by rw [z_w]; exact Nat.ne_of_lt A_u.lt
  replace E_o := E_o.ext X
  replace F_before_o := F_before_o.ext X
  replace F_after_o := F_after_o.ext X
  replace F_head_o := F_head_o.ext X
  replace F_tail_o := F_tail_o.ext X
  replace A_u := A_u.ext X
  have y_w : h.size ≤ w := by rw [z_w]; exact Kp.1
  replace Kp := Kp.ext X
  replace A_w : VA Z h23_5 w .int ([.int (0 : Int32), .int (0 : Int32), .int (0 : Int32), .int (0 : Int32), .int (0 : Int32)]) := A_w
  clear X
  refine putf K S (hwi hw 21 rfl) F_after_o E_o (Or.inr ⟨(hwi hw 22 rfl), rfl, rfl⟩) (hwi hw 7 rfl) (ty := .array .int) (by decide) rfl rfl g_o d2_25 fun T h25_6 W S => ?_
  replace E_o := E_o.wr W
  replace F_before_o := F_before_o.other W (Or.inr (slot_ne (C := "com/example/ipseity/ipseity/table/Links") (Or.inr (hwi hw 20 rfl)) (Or.inr (hwi hw 22 rfl)) (by decide) (t := .array .int) (t' := .array .int) (by decide) (by decide)))
  replace F_after_o := F_after_o.same W
  replace F_head_o := F_head_o.other W (Or.inr (slot_ne (C := "com/example/ipseity/ipseity/table/Links") (Or.inl (hwi hw 16 rfl)) (Or.inr (hwi hw 22 rfl)) (by decide) (t := .int) (t' := .array .int) (by decide) (by decide)))
  replace F_tail_o := F_tail_o.other W (Or.inr (slot_ne (C := "com/example/ipseity/ipseity/table/Links") (Or.inl (hwi hw 18 rfl)) (Or.inr (hwi hw 22 rfl)) (by decide) (t := .int) (t' := .array .int) (by decide) (by decide)))
  replace A_u := A_u.other W (by first | exact n_u_o | exact Ne.symm n_o_u | omega)
  replace A_w := A_w.other W (by first | exact n_w_o | exact Ne.symm n_o_w | omega)
  replace Kp := Kp.wr W (Or.inl (by simp))
  clear W
  refine retv K S (by decide) (by decide) d2_28 ?_
  exact ⟨rfl, u, w, ⟨g_o, g_u, g_w, n_o_u, n_o_w, n_u_w⟩, ⟨E_o, F_before_o, F_after_o, F_head_o, F_tail_o, A_u, A_w⟩, Kp, y_u, y_w⟩

def rmv (xs : List Int32) (k : Int32) : List Int32 := [if (0 : Int32) < k then lget xs 0 else lget xs 1, if (1 : Int32) < k then lget xs 1 else lget xs 2, if (2 : Int32) < k then lget xs 2 else lget xs 3, if (3 : Int32) < k then lget xs 3 else lget xs 4, 0]
theorem own_l5 {xs : List Int32} {k y z j : Int32} (h : linb [0, 0, 0, 0, 0] j = true) : linb (lset (rmv xs k) y z) j = true := by simpa [linb, lset, rmv] using h
theorem d1_0 : Dc method_2_code 0 (.iload_n 0) 1 1 := ⟨by decide +kernel, rfl⟩
theorem d1_1 : Dc method_2_code 1 (.ldc 7) 2 3 := ⟨by decide +kernel, rfl⟩
theorem d1_3 : Dc method_2_code 3 (.iand) 1 4 := ⟨by decide +kernel, rfl⟩
theorem d1_4 : Dc method_2_code 4 (.iload_n 1) 1 5 := ⟨by decide +kernel, rfl⟩
theorem d1_5 : Dc method_2_code 5 (.irem) 1 6 := ⟨by decide +kernel, rfl⟩
theorem d1_6 : Dc method_2_code 6 (.ireturn) 1 7 := ⟨by decide +kernel, rfl⟩
theorem ef_mod (m : MethodId) (x : Int32) (k : Int32) : entryFrame m #[.int x, .int k] 2 = mkF m 0 #[.val (.int x), .val (.int k)] [] := by first | (simp [entryFrame, mkF, argsToLocals, Value.category]; done) | rfl
set_option maxRecDepth 65536 in
set_option maxHeartbeats 40000000 in
theorem m_mod (l : Launch) (Z : State) (a0 : Array Value) (hw : ∀ d ∈ tables_1, d.before a0 Z = true) (n0 : Nat) (x : Int32) (k : Int32) (h : Heap) (hn : n0 ≤ h.size) (p0 : 0 < k.toInt) : Met n0 l Z (⟨"com/example/ipseity/ipseity/table/LinksUnlinkPinLaw", "mod", "(II)I"⟩ : MethodName) method_2_code 2 (some .int) ({ frames := 0, cells := 0, slots := 0, locals := 0 } : Room) [] #[.int x, .int k] h (Pr (fun r => 0 ≤ r.toInt ∧ r.toInt < k.toInt) h) := by
  refine enter (plainFor_of_name (by first | (simp [plainName, overriddenIn]; done) | decide +kernel)) (fun m => ef_mod m x k) hn ?_
  intro p e s m below meth c T K S
  have rk := rng32 k
  refine iload_n K S rfl d1_0 ?_
  refine ldc K S (x := (2147483647 : Int32)) (hwi hw 4 rfl) d1_1 ?_
  refine iand K S d1_3 ?_
  refine nmI fun t3 ht3 => ?_
  have ft3 : t3.toInt = x.toInt % 2147483648 := by rw [ht3]; exact c_mask x (2147483647 : Int32) 31 (by decide) (by decide)
  have rt3 := rng32 t3
  refine iload_n K S rfl d1_4 ?_
  refine irem K S (by intro q; rw [q] at p0; exact absurd p0 (by decide)) d1_5 ?_
  refine nmI fun t5 ht5 => ?_
  have ft5 : 0 ≤ t5.toInt ∧ t5.toInt < k.toInt := by rw [ht5]; exact ⟨((c_iremV t3 k).1 (by omega) (by omega)).1, ((c_iremV t3 k).1 (by omega) (by omega)).2.1⟩
  have rt5 := rng32 t5
  refine reti K S (by decide) (by decide) d1_6 ?_
  exact ⟨_, rfl, by omega, rfl⟩

theorem d7_0 : Dc method_3_code 0 (.iconst 5) 1 1 := ⟨by decide +kernel, rfl⟩
theorem d7_1 : Dc method_3_code 1 (.newarray .int) 2 3 := ⟨by decide +kernel, rfl⟩
theorem d7_3 : Dc method_3_code 3 (.astore_n 2) 1 4 := ⟨by decide +kernel, rfl⟩
theorem d7_4 : Dc method_3_code 4 (.aload_n 2) 1 5 := ⟨by decide +kernel, rfl⟩
theorem d7_5 : Dc method_3_code 5 (.iconst 0) 1 6 := ⟨by decide +kernel, rfl⟩
theorem d7_6 : Dc method_3_code 6 (.aload_n 0) 1 7 := ⟨by decide +kernel, rfl⟩
theorem d7_7 : Dc method_3_code 7 (.iconst 0) 1 8 := ⟨by decide +kernel, rfl⟩
theorem d7_8 : Dc method_3_code 8 (.iload_n 1) 1 9 := ⟨by decide +kernel, rfl⟩
theorem d7_9 : Bc method_3_code 9 (.if_icmp .ge 7) (7) 12 16 := ⟨by decide +kernel, rfl, by decide, by decide⟩
theorem d7_12 : Dc method_3_code 12 (.iconst 0) 1 13 := ⟨by decide +kernel, rfl⟩
theorem d7_13 : Bc method_3_code 13 (.goto 4) (4) 16 17 := ⟨by decide +kernel, rfl, by decide, by decide⟩
theorem d7_16 : Dc method_3_code 16 (.iconst 1) 1 17 := ⟨by decide +kernel, rfl⟩
theorem d7_17 : Dc method_3_code 17 (.iaload) 1 18 := ⟨by decide +kernel, rfl⟩
theorem d7_18 : Dc method_3_code 18 (.iastore) 1 19 := ⟨by decide +kernel, rfl⟩
theorem d7_19 : Dc method_3_code 19 (.aload_n 2) 1 20 := ⟨by decide +kernel, rfl⟩
theorem d7_20 : Dc method_3_code 20 (.iconst 1) 1 21 := ⟨by decide +kernel, rfl⟩
theorem d7_21 : Dc method_3_code 21 (.aload_n 0) 1 22 := ⟨by decide +kernel, rfl⟩
theorem d7_22 : Dc method_3_code 22 (.iconst 1) 1 23 := ⟨by decide +kernel, rfl⟩
theorem d7_23 : Dc method_3_code 23 (.iload_n 1) 1 24 := ⟨by decide +kernel, rfl⟩
theorem d7_24 : Bc method_3_code 24 (.if_icmp .ge 7) (7) 27 31 := ⟨by decide +kernel, rfl, by decide, by decide⟩
theorem d7_27 : Dc method_3_code 27 (.iconst 1) 1 28 := ⟨by decide +kernel, rfl⟩
theorem d7_28 : Bc method_3_code 28 (.goto 4) (4) 31 32 := ⟨by decide +kernel, rfl, by decide, by decide⟩
theorem d7_31 : Dc method_3_code 31 (.iconst 2) 1 32 := ⟨by decide +kernel, rfl⟩
theorem d7_32 : Dc method_3_code 32 (.iaload) 1 33 := ⟨by decide +kernel, rfl⟩
theorem d7_33 : Dc method_3_code 33 (.iastore) 1 34 := ⟨by decide +kernel, rfl⟩
theorem d7_34 : Dc method_3_code 34 (.aload_n 2) 1 35 := ⟨by decide +kernel, rfl⟩
theorem d7_35 : Dc method_3_code 35 (.iconst 2) 1 36 := ⟨by decide +kernel, rfl⟩
theorem d7_36 : Dc method_3_code 36 (.aload_n 0) 1 37 := ⟨by decide +kernel, rfl⟩
theorem d7_37 : Dc method_3_code 37 (.iconst 2) 1 38 := ⟨by decide +kernel, rfl⟩
theorem d7_38 : Dc method_3_code 38 (.iload_n 1) 1 39 := ⟨by decide +kernel, rfl⟩
theorem d7_39 : Bc method_3_code 39 (.if_icmp .ge 7) (7) 42 46 := ⟨by decide +kernel, rfl, by decide, by decide⟩
theorem d7_42 : Dc method_3_code 42 (.iconst 2) 1 43 := ⟨by decide +kernel, rfl⟩
theorem d7_43 : Bc method_3_code 43 (.goto 4) (4) 46 47 := ⟨by decide +kernel, rfl, by decide, by decide⟩
theorem d7_46 : Dc method_3_code 46 (.iconst 3) 1 47 := ⟨by decide +kernel, rfl⟩
theorem d7_47 : Dc method_3_code 47 (.iaload) 1 48 := ⟨by decide +kernel, rfl⟩
theorem d7_48 : Dc method_3_code 48 (.iastore) 1 49 := ⟨by decide +kernel, rfl⟩
theorem d7_49 : Dc method_3_code 49 (.aload_n 2) 1 50 := ⟨by decide +kernel, rfl⟩
theorem d7_50 : Dc method_3_code 50 (.iconst 3) 1 51 := ⟨by decide +kernel, rfl⟩
theorem d7_51 : Dc method_3_code 51 (.aload_n 0) 1 52 := ⟨by decide +kernel, rfl⟩
theorem d7_52 : Dc method_3_code 52 (.iconst 3) 1 53 := ⟨by decide +kernel, rfl⟩
theorem d7_53 : Dc method_3_code 53 (.iload_n 1) 1 54 := ⟨by decide +kernel, rfl⟩
theorem d7_54 : Bc method_3_code 54 (.if_icmp .ge 7) (7) 57 61 := ⟨by decide +kernel, rfl, by decide, by decide⟩
theorem d7_57 : Dc method_3_code 57 (.iconst 3) 1 58 := ⟨by decide +kernel, rfl⟩
theorem d7_58 : Bc method_3_code 58 (.goto 4) (4) 61 62 := ⟨by decide +kernel, rfl, by decide, by decide⟩
theorem d7_61 : Dc method_3_code 61 (.iconst 4) 1 62 := ⟨by decide +kernel, rfl⟩
theorem d7_62 : Dc method_3_code 62 (.iaload) 1 63 := ⟨by decide +kernel, rfl⟩
theorem d7_63 : Dc method_3_code 63 (.iastore) 1 64 := ⟨by decide +kernel, rfl⟩
theorem d7_64 : Dc method_3_code 64 (.aload_n 2) 1 65 := ⟨by decide +kernel, rfl⟩
theorem d7_65 : Dc method_3_code 65 (.areturn) 1 66 := ⟨by decide +kernel, rfl⟩
theorem ef_rem (m : MethodId) (v : Addr) (k : Int32) (xs : List Int32) : entryFrame m #[.ref v, .int k] 3 = mkF m 0 #[.val (.ref v), .val (.int k), .unset] [] := by first | (simp [entryFrame, mkF, argsToLocals, Value.category]; done) | rfl
set_option maxRecDepth 65536 in
set_option maxHeartbeats 40000000 in
theorem m_rem (l : Launch) (Z : State) (a0 : Array Value) (hw : ∀ d ∈ tables_1, d.before a0 Z = true) (n0 : Nat) (v : Addr) (k : Int32) (xs : List Int32) (h : Heap) (hn : n0 ≤ h.size) (A_v : VA Z h v .int (xs.map Value.int)) (hl : xs.length = 5) : Met n0 l Z (⟨"com/example/ipseity/ipseity/table/LinksUnlinkPinLaw", "remove", "([II)[I"⟩ : MethodName) method_3_code 3 (some (.array .int)) ({ frames := 0, cells := 1, slots := 5, locals := 0 } : Room) [] #[.ref v, .int k] h (Ea (fun r h' => VA Z h' r .int ((rmv xs k).map Value.int) ∧ n0 ≤ r ∧ h.size ≤ r ∧ Keep h h' [])) := by
  refine enter (plainFor_of_name (by first | (simp [plainName, overriddenIn]; done) | decide +kernel)) (fun m => ef_rem m v k xs) hn ?_
  intro p e s m below meth c T K S
  have Kp := Keep.refl h []
  refine iconst K S (x := (5 : Int32)) rfl d7_0 ?_
  refine newarr K S (cap := 5) (hwi hw 5 rfl) (by decide) (by decide) (by decide) (by decide) (by decide) d7_1 fun T h1_1 o1 z_o1 g_o1 X A_o1 S => ?_
  have n_v_o1 : v ≠ o1 := by rw [z_o1]; exact Nat.ne_of_lt A_v.lt
  replace A_v := A_v.ext X
  have y_o1 : h.size ≤ o1 := by rw [z_o1]; exact Kp.1
  replace Kp := Kp.ext X
  replace A_o1 : VA Z h1_1 o1 .int ([.int (0 : Int32), .int (0 : Int32), .int (0 : Int32), .int (0 : Int32), .int (0 : Int32)]) := A_o1
  clear X
  refine astore_n K S (l' := #[.val (.ref v), .val (.int k), .val (.ref o1)]) rfl rfl d7_3 ?_
  refine aload_n K S rfl rfl d7_4 ?_
  refine iconst K S (x := (0 : Int32)) rfl d7_5 ?_
  refine aload_n K S rfl rfl d7_6 ?_
  refine iconst K S (x := (0 : Int32)) rfl d7_7 ?_
  refine iload_n K S rfl d7_8 ?_
  refine icmp_ge K S d7_9 (fun c9 => ?_) (fun c9 => ?_)
  · refine iconst K S (x := (1 : Int32)) rfl d7_16 ?_
    refine iaload K S (v := .int (lget xs (1 : Int32))) (i := (1 : Int32).toNatClampNeg) A_v ⟨by decide, rfl⟩ (linb_get (by simp only [linb, hl]; decide)) d7_17 ?_
    refine iastore K S (i := 0) A_o1 ⟨by decide, rfl⟩ (show (0 : Nat) < 5 by decide) g_o1 d7_18 fun T h18_2 W B S => ?_
    replace A_v := A_v.other W (by first | exact n_v_o1 | exact Ne.symm n_o1_v | omega)
    replace Kp := Kp.wr W (Or.inr y_o1)
    clear W
    replace A_o1 : VA Z h18_2 o1 .int ([.int (lget xs (1 : Int32)), .int (0 : Int32), .int (0 : Int32), .int (0 : Int32), .int (0 : Int32)]) := B
    refine aload_n K S rfl rfl d7_19 ?_
    refine iconst K S (x := (1 : Int32)) rfl d7_20 ?_
    refine aload_n K S rfl rfl d7_21 ?_
    refine iconst K S (x := (1 : Int32)) rfl d7_22 ?_
    refine iload_n K S rfl d7_23 ?_
    refine icmp_ge K S d7_24 (fun c24 => ?_) (fun c24 => ?_)
    · refine iconst K S (x := (2 : Int32)) rfl d7_31 ?_
      refine iaload K S (v := .int (lget xs (2 : Int32))) (i := (2 : Int32).toNatClampNeg) A_v ⟨by decide, rfl⟩ (linb_get (by simp only [linb, hl]; decide)) d7_32 ?_
      refine iastore K S (i := 1) A_o1 ⟨by decide, rfl⟩ (show (1 : Nat) < 5 by decide) g_o1 d7_33 fun T h33_3 W B S => ?_
      replace A_v := A_v.other W (by first | exact n_v_o1 | exact Ne.symm n_o1_v | omega)
      replace Kp := Kp.wr W (Or.inr y_o1)
      clear W
      replace A_o1 : VA Z h33_3 o1 .int ([.int (lget xs (1 : Int32)), .int (lget xs (2 : Int32)), .int (0 : Int32), .int (0 : Int32), .int (0 : Int32)]) := B
      refine aload_n K S rfl rfl d7_34 ?_
      refine iconst K S (x := (2 : Int32)) rfl d7_35 ?_
      refine aload_n K S rfl rfl d7_36 ?_
      refine iconst K S (x := (2 : Int32)) rfl d7_37 ?_
      refine iload_n K S rfl d7_38 ?_
      refine icmp_ge K S d7_39 (fun c39 => ?_) (fun c39 => ?_)
      · refine iconst K S (x := (3 : Int32)) rfl d7_46 ?_
        refine iaload K S (v := .int (lget xs (3 : Int32))) (i := (3 : Int32).toNatClampNeg) A_v ⟨by decide, rfl⟩ (linb_get (by simp only [linb, hl]; decide)) d7_47 ?_
        refine iastore K S (i := 2) A_o1 ⟨by decide, rfl⟩ (show (2 : Nat) < 5 by decide) g_o1 d7_48 fun T h48_4 W B S => ?_
        replace A_v := A_v.other W (by first | exact n_v_o1 | exact Ne.symm n_o1_v | omega)
        replace Kp := Kp.wr W (Or.inr y_o1)
        clear W
        replace A_o1 : VA Z h48_4 o1 .int ([.int (lget xs (1 : Int32)), .int (lget xs (2 : Int32)), .int (lget xs (3 : Int32)), .int (0 : Int32), .int (0 : Int32)]) := B
        refine aload_n K S rfl rfl d7_49 ?_
        refine iconst K S (x := (3 : Int32)) rfl d7_50 ?_
        refine aload_n K S rfl rfl d7_51 ?_
        refine iconst K S (x := (3 : Int32)) rfl d7_52 ?_
        refine iload_n K S rfl d7_53 ?_
        refine icmp_ge K S d7_54 (fun c54 => ?_) (fun c54 => ?_)
        · refine iconst K S (x := (4 : Int32)) rfl d7_61 ?_
          refine iaload K S (v := .int (lget xs (4 : Int32))) (i := (4 : Int32).toNatClampNeg) A_v ⟨by decide, rfl⟩ (linb_get (by simp only [linb, hl]; decide)) d7_62 ?_
          refine iastore K S (i := 3) A_o1 ⟨by decide, rfl⟩ (show (3 : Nat) < 5 by decide) g_o1 d7_63 fun T h63_5 W B S => ?_
          replace A_v := A_v.other W (by first | exact n_v_o1 | exact Ne.symm n_o1_v | omega)
          replace Kp := Kp.wr W (Or.inr y_o1)
          clear W
          replace A_o1 : VA Z h63_5 o1 .int ([.int (lget xs (1 : Int32)), .int (lget xs (2 : Int32)), .int (lget xs (3 : Int32)), .int (lget xs (4 : Int32)), .int (0 : Int32)]) := B
          refine aload_n K S rfl rfl d7_64 ?_
          refine reta K S rfl rfl (by decide) (by decide) d7_65 ?_
          refine ⟨_, rfl, ?_, g_o1, y_o1, Kp⟩
          simp only [rmv, c9, c24, c39, c54, if_true, if_false, not_true, not_false_eq_true]
          exact A_o1
        refine iconst K S (x := (3 : Int32)) rfl d7_57 ?_
        refine goto K S d7_58 ?_
        refine iaload K S (v := .int (lget xs (3 : Int32))) (i := (3 : Int32).toNatClampNeg) A_v ⟨by decide, rfl⟩ (linb_get (by simp only [linb, hl]; decide)) d7_62 ?_
        refine iastore K S (i := 3) A_o1 ⟨by decide, rfl⟩ (show (3 : Nat) < 5 by decide) g_o1 d7_63 fun T h63_6 W B S => ?_
        replace A_v := A_v.other W (by first | exact n_v_o1 | exact Ne.symm n_o1_v | omega)
        replace Kp := Kp.wr W (Or.inr y_o1)
        clear W
        replace A_o1 : VA Z h63_6 o1 .int ([.int (lget xs (1 : Int32)), .int (lget xs (2 : Int32)), .int (lget xs (3 : Int32)), .int (lget xs (3 : Int32)), .int (0 : Int32)]) := B
        refine aload_n K S rfl rfl d7_64 ?_
        refine reta K S rfl rfl (by decide) (by decide) d7_65 ?_
        refine ⟨_, rfl, ?_, g_o1, y_o1, Kp⟩
        simp only [rmv, c9, c24, c39, c54, if_true, if_false, not_true, not_false_eq_true]
        exact A_o1
      refine iconst K S (x := (2 : Int32)) rfl d7_42 ?_
      refine goto K S d7_43 ?_
      refine iaload K S (v := .int (lget xs (2 : Int32))) (i := (2 : Int32).toNatClampNeg) A_v ⟨by decide, rfl⟩ (linb_get (by simp only [linb, hl]; decide)) d7_47 ?_
      refine iastore K S (i := 2) A_o1 ⟨by decide, rfl⟩ (show (2 : Nat) < 5 by decide) g_o1 d7_48 fun T h48_7 W B S => ?_
      replace A_v := A_v.other W (by first | exact n_v_o1 | exact Ne.symm n_o1_v | omega)
      replace Kp := Kp.wr W (Or.inr y_o1)
      clear W
      replace A_o1 : VA Z h48_7 o1 .int ([.int (lget xs (1 : Int32)), .int (lget xs (2 : Int32)), .int (lget xs (2 : Int32)), .int (0 : Int32), .int (0 : Int32)]) := B
      refine aload_n K S rfl rfl d7_49 ?_
      refine iconst K S (x := (3 : Int32)) rfl d7_50 ?_
      refine aload_n K S rfl rfl d7_51 ?_
      refine iconst K S (x := (3 : Int32)) rfl d7_52 ?_
      refine iload_n K S rfl d7_53 ?_
      refine icmp_ge K S d7_54 (fun c54 => ?_) (fun c54 => ?_)
      · refine iconst K S (x := (4 : Int32)) rfl d7_61 ?_
        refine iaload K S (v := .int (lget xs (4 : Int32))) (i := (4 : Int32).toNatClampNeg) A_v ⟨by decide, rfl⟩ (linb_get (by simp only [linb, hl]; decide)) d7_62 ?_
        refine iastore K S (i := 3) A_o1 ⟨by decide, rfl⟩ (show (3 : Nat) < 5 by decide) g_o1 d7_63 fun T h63_8 W B S => ?_
        replace A_v := A_v.other W (by first | exact n_v_o1 | exact Ne.symm n_o1_v | omega)
        replace Kp := Kp.wr W (Or.inr y_o1)
        clear W
        replace A_o1 : VA Z h63_8 o1 .int ([.int (lget xs (1 : Int32)), .int (lget xs (2 : Int32)), .int (lget xs (2 : Int32)), .int (lget xs (4 : Int32)), .int (0 : Int32)]) := B
        refine aload_n K S rfl rfl d7_64 ?_
        refine reta K S rfl rfl (by decide) (by decide) d7_65 ?_
        refine ⟨_, rfl, ?_, g_o1, y_o1, Kp⟩
        simp only [rmv, c9, c24, c39, c54, if_true, if_false, not_true, not_false_eq_true]
        exact A_o1
      refine iconst K S (x := (3 : Int32)) rfl d7_57 ?_
      refine goto K S d7_58 ?_
      refine iaload K S (v := .int (lget xs (3 : Int32))) (i := (3 : Int32).toNatClampNeg) A_v ⟨by decide, rfl⟩ (linb_get (by simp only [linb, hl]; decide)) d7_62 ?_
      refine iastore K S (i := 3) A_o1 ⟨by decide, rfl⟩ (show (3 : Nat) < 5 by decide) g_o1 d7_63 fun T h63_9 W B S => ?_
      replace A_v := A_v.other W (by first | exact n_v_o1 | exact Ne.symm n_o1_v | omega)
      replace Kp := Kp.wr W (Or.inr y_o1)
      clear W
      replace A_o1 : VA Z h63_9 o1 .int ([.int (lget xs (1 : Int32)), .int (lget xs (2 : Int32)), .int (lget xs (2 : Int32)), .int (lget xs (3 : Int32)), .int (0 : Int32)]) := B
      refine aload_n K S rfl rfl d7_64 ?_
      refine reta K S rfl rfl (by decide) (by decide) d7_65 ?_
      refine ⟨_, rfl, ?_, g_o1, y_o1, Kp⟩
      simp only [rmv, c9, c24, c39, c54, if_true, if_false, not_true, not_false_eq_true]
      exact A_o1
    refine iconst K S (x := (1 : Int32)) rfl d7_27 ?_
    refine goto K S d7_28 ?_
    refine iaload K S (v := .int (lget xs (1 : Int32))) (i := (1 : Int32).toNatClampNeg) A_v ⟨by decide, rfl⟩ (linb_get (by simp only [linb, hl]; decide)) d7_32 ?_
    refine iastore K S (i := 1) A_o1 ⟨by decide, rfl⟩ (show (1 : Nat) < 5 by decide) g_o1 d7_33 fun T h33_10 W B S => ?_
    replace A_v := A_v.other W (by first | exact n_v_o1 | exact Ne.symm n_o1_v | omega)
    replace Kp := Kp.wr W (Or.inr y_o1)
    clear W
    replace A_o1 : VA Z h33_10 o1 .int ([.int (lget xs (1 : Int32)), .int (lget xs (1 : Int32)), .int (0 : Int32), .int (0 : Int32), .int (0 : Int32)]) := B
    refine aload_n K S rfl rfl d7_34 ?_
    refine iconst K S (x := (2 : Int32)) rfl d7_35 ?_
    refine aload_n K S rfl rfl d7_36 ?_
    refine iconst K S (x := (2 : Int32)) rfl d7_37 ?_
    refine iload_n K S rfl d7_38 ?_
    refine icmp_ge K S d7_39 (fun c39 => ?_) (fun c39 => ?_)
    · refine iconst K S (x := (3 : Int32)) rfl d7_46 ?_
      refine iaload K S (v := .int (lget xs (3 : Int32))) (i := (3 : Int32).toNatClampNeg) A_v ⟨by decide, rfl⟩ (linb_get (by simp only [linb, hl]; decide)) d7_47 ?_
      refine iastore K S (i := 2) A_o1 ⟨by decide, rfl⟩ (show (2 : Nat) < 5 by decide) g_o1 d7_48 fun T h48_11 W B S => ?_
      replace A_v := A_v.other W (by first | exact n_v_o1 | exact Ne.symm n_o1_v | omega)
      replace Kp := Kp.wr W (Or.inr y_o1)
      clear W
      replace A_o1 : VA Z h48_11 o1 .int ([.int (lget xs (1 : Int32)), .int (lget xs (1 : Int32)), .int (lget xs (3 : Int32)), .int (0 : Int32), .int (0 : Int32)]) := B
      refine aload_n K S rfl rfl d7_49 ?_
      refine iconst K S (x := (3 : Int32)) rfl d7_50 ?_
      refine aload_n K S rfl rfl d7_51 ?_
      refine iconst K S (x := (3 : Int32)) rfl d7_52 ?_
      refine iload_n K S rfl d7_53 ?_
      refine icmp_ge K S d7_54 (fun c54 => ?_) (fun c54 => ?_)
      · refine iconst K S (x := (4 : Int32)) rfl d7_61 ?_
        refine iaload K S (v := .int (lget xs (4 : Int32))) (i := (4 : Int32).toNatClampNeg) A_v ⟨by decide, rfl⟩ (linb_get (by simp only [linb, hl]; decide)) d7_62 ?_
        refine iastore K S (i := 3) A_o1 ⟨by decide, rfl⟩ (show (3 : Nat) < 5 by decide) g_o1 d7_63 fun T h63_12 W B S => ?_
        replace A_v := A_v.other W (by first | exact n_v_o1 | exact Ne.symm n_o1_v | omega)
        replace Kp := Kp.wr W (Or.inr y_o1)
        clear W
        replace A_o1 : VA Z h63_12 o1 .int ([.int (lget xs (1 : Int32)), .int (lget xs (1 : Int32)), .int (lget xs (3 : Int32)), .int (lget xs (4 : Int32)), .int (0 : Int32)]) := B
        refine aload_n K S rfl rfl d7_64 ?_
        refine reta K S rfl rfl (by decide) (by decide) d7_65 ?_
        refine ⟨_, rfl, ?_, g_o1, y_o1, Kp⟩
        simp only [rmv, c9, c24, c39, c54, if_true, if_false, not_true, not_false_eq_true]
        exact A_o1
      refine iconst K S (x := (3 : Int32)) rfl d7_57 ?_
      refine goto K S d7_58 ?_
      refine iaload K S (v := .int (lget xs (3 : Int32))) (i := (3 : Int32).toNatClampNeg) A_v ⟨by decide, rfl⟩ (linb_get (by simp only [linb, hl]; decide)) d7_62 ?_
      refine iastore K S (i := 3) A_o1 ⟨by decide, rfl⟩ (show (3 : Nat) < 5 by decide) g_o1 d7_63 fun T h63_13 W B S => ?_
      replace A_v := A_v.other W (by first | exact n_v_o1 | exact Ne.symm n_o1_v | omega)
      replace Kp := Kp.wr W (Or.inr y_o1)
      clear W
      replace A_o1 : VA Z h63_13 o1 .int ([.int (lget xs (1 : Int32)), .int (lget xs (1 : Int32)), .int (lget xs (3 : Int32)), .int (lget xs (3 : Int32)), .int (0 : Int32)]) := B
      refine aload_n K S rfl rfl d7_64 ?_
      refine reta K S rfl rfl (by decide) (by decide) d7_65 ?_
      refine ⟨_, rfl, ?_, g_o1, y_o1, Kp⟩
      simp only [rmv, c9, c24, c39, c54, if_true, if_false, not_true, not_false_eq_true]
      exact A_o1
    refine iconst K S (x := (2 : Int32)) rfl d7_42 ?_
    refine goto K S d7_43 ?_
    refine iaload K S (v := .int (lget xs (2 : Int32))) (i := (2 : Int32).toNatClampNeg) A_v ⟨by decide, rfl⟩ (linb_get (by simp only [linb, hl]; decide)) d7_47 ?_
    refine iastore K S (i := 2) A_o1 ⟨by decide, rfl⟩ (show (2 : Nat) < 5 by decide) g_o1 d7_48 fun T h48_14 W B S => ?_
    replace A_v := A_v.other W (by first | exact n_v_o1 | exact Ne.symm n_o1_v | omega)
    replace Kp := Kp.wr W (Or.inr y_o1)
    clear W
    replace A_o1 : VA Z h48_14 o1 .int ([.int (lget xs (1 : Int32)), .int (lget xs (1 : Int32)), .int (lget xs (2 : Int32)), .int (0 : Int32), .int (0 : Int32)]) := B
    refine aload_n K S rfl rfl d7_49 ?_
    refine iconst K S (x := (3 : Int32)) rfl d7_50 ?_
    refine aload_n K S rfl rfl d7_51 ?_
    refine iconst K S (x := (3 : Int32)) rfl d7_52 ?_
    refine iload_n K S rfl d7_53 ?_
    refine icmp_ge K S d7_54 (fun c54 => ?_) (fun c54 => ?_)
    · refine iconst K S (x := (4 : Int32)) rfl d7_61 ?_
      refine iaload K S (v := .int (lget xs (4 : Int32))) (i := (4 : Int32).toNatClampNeg) A_v ⟨by decide, rfl⟩ (linb_get (by simp only [linb, hl]; decide)) d7_62 ?_
      refine iastore K S (i := 3) A_o1 ⟨by decide, rfl⟩ (show (3 : Nat) < 5 by decide) g_o1 d7_63 fun T h63_15 W B S => ?_
      replace A_v := A_v.other W (by first | exact n_v_o1 | exact Ne.symm n_o1_v | omega)
      replace Kp := Kp.wr W (Or.inr y_o1)
      clear W
      replace A_o1 : VA Z h63_15 o1 .int ([.int (lget xs (1 : Int32)), .int (lget xs (1 : Int32)), .int (lget xs (2 : Int32)), .int (lget xs (4 : Int32)), .int (0 : Int32)]) := B
      refine aload_n K S rfl rfl d7_64 ?_
      refine reta K S rfl rfl (by decide) (by decide) d7_65 ?_
      refine ⟨_, rfl, ?_, g_o1, y_o1, Kp⟩
      simp only [rmv, c9, c24, c39, c54, if_true, if_false, not_true, not_false_eq_true]
      exact A_o1
    refine iconst K S (x := (3 : Int32)) rfl d7_57 ?_
    refine goto K S d7_58 ?_
    refine iaload K S (v := .int (lget xs (3 : Int32))) (i := (3 : Int32).toNatClampNeg) A_v ⟨by decide, rfl⟩ (linb_get (by simp only [linb, hl]; decide)) d7_62 ?_
    refine iastore K S (i := 3) A_o1 ⟨by decide, rfl⟩ (show (3 : Nat) < 5 by decide) g_o1 d7_63 fun T h63_16 W B S => ?_
    replace A_v := A_v.other W (by first | exact n_v_o1 | exact Ne.symm n_o1_v | omega)
    replace Kp := Kp.wr W (Or.inr y_o1)
    clear W
    replace A_o1 : VA Z h63_16 o1 .int ([.int (lget xs (1 : Int32)), .int (lget xs (1 : Int32)), .int (lget xs (2 : Int32)), .int (lget xs (3 : Int32)), .int (0 : Int32)]) := B
    refine aload_n K S rfl rfl d7_64 ?_
    refine reta K S rfl rfl (by decide) (by decide) d7_65 ?_
    refine ⟨_, rfl, ?_, g_o1, y_o1, Kp⟩
    simp only [rmv, c9, c24, c39, c54, if_true, if_false, not_true, not_false_eq_true]
    exact A_o1
  refine iconst K S (x := (0 : Int32)) rfl d7_12 ?_
  refine goto K S d7_13 ?_
  refine iaload K S (v := .int (lget xs (0 : Int32))) (i := (0 : Int32).toNatClampNeg) A_v ⟨by decide, rfl⟩ (linb_get (by simp only [linb, hl]; decide)) d7_17 ?_
  refine iastore K S (i := 0) A_o1 ⟨by decide, rfl⟩ (show (0 : Nat) < 5 by decide) g_o1 d7_18 fun T h18_17 W B S => ?_
  replace A_v := A_v.other W (by first | exact n_v_o1 | exact Ne.symm n_o1_v | omega)
  replace Kp := Kp.wr W (Or.inr y_o1)
  clear W
  replace A_o1 : VA Z h18_17 o1 .int ([.int (lget xs (0 : Int32)), .int (0 : Int32), .int (0 : Int32), .int (0 : Int32), .int (0 : Int32)]) := B
  refine aload_n K S rfl rfl d7_19 ?_
  refine iconst K S (x := (1 : Int32)) rfl d7_20 ?_
  refine aload_n K S rfl rfl d7_21 ?_
  refine iconst K S (x := (1 : Int32)) rfl d7_22 ?_
  refine iload_n K S rfl d7_23 ?_
  refine icmp_ge K S d7_24 (fun c24 => ?_) (fun c24 => ?_)
  · refine iconst K S (x := (2 : Int32)) rfl d7_31 ?_
    refine iaload K S (v := .int (lget xs (2 : Int32))) (i := (2 : Int32).toNatClampNeg) A_v ⟨by decide, rfl⟩ (linb_get (by simp only [linb, hl]; decide)) d7_32 ?_
    refine iastore K S (i := 1) A_o1 ⟨by decide, rfl⟩ (show (1 : Nat) < 5 by decide) g_o1 d7_33 fun T h33_18 W B S => ?_
    replace A_v := A_v.other W (by first | exact n_v_o1 | exact Ne.symm n_o1_v | omega)
    replace Kp := Kp.wr W (Or.inr y_o1)
    clear W
    replace A_o1 : VA Z h33_18 o1 .int ([.int (lget xs (0 : Int32)), .int (lget xs (2 : Int32)), .int (0 : Int32), .int (0 : Int32), .int (0 : Int32)]) := B
    refine aload_n K S rfl rfl d7_34 ?_
    refine iconst K S (x := (2 : Int32)) rfl d7_35 ?_
    refine aload_n K S rfl rfl d7_36 ?_
    refine iconst K S (x := (2 : Int32)) rfl d7_37 ?_
    refine iload_n K S rfl d7_38 ?_
    refine icmp_ge K S d7_39 (fun c39 => ?_) (fun c39 => ?_)
    · refine iconst K S (x := (3 : Int32)) rfl d7_46 ?_
      refine iaload K S (v := .int (lget xs (3 : Int32))) (i := (3 : Int32).toNatClampNeg) A_v ⟨by decide, rfl⟩ (linb_get (by simp only [linb, hl]; decide)) d7_47 ?_
      refine iastore K S (i := 2) A_o1 ⟨by decide, rfl⟩ (show (2 : Nat) < 5 by decide) g_o1 d7_48 fun T h48_19 W B S => ?_
      replace A_v := A_v.other W (by first | exact n_v_o1 | exact Ne.symm n_o1_v | omega)
      replace Kp := Kp.wr W (Or.inr y_o1)
      clear W
      replace A_o1 : VA Z h48_19 o1 .int ([.int (lget xs (0 : Int32)), .int (lget xs (2 : Int32)), .int (lget xs (3 : Int32)), .int (0 : Int32), .int (0 : Int32)]) := B
      refine aload_n K S rfl rfl d7_49 ?_
      refine iconst K S (x := (3 : Int32)) rfl d7_50 ?_
      refine aload_n K S rfl rfl d7_51 ?_
      refine iconst K S (x := (3 : Int32)) rfl d7_52 ?_
      refine iload_n K S rfl d7_53 ?_
      refine icmp_ge K S d7_54 (fun c54 => ?_) (fun c54 => ?_)
      · refine iconst K S (x := (4 : Int32)) rfl d7_61 ?_
        refine iaload K S (v := .int (lget xs (4 : Int32))) (i := (4 : Int32).toNatClampNeg) A_v ⟨by decide, rfl⟩ (linb_get (by simp only [linb, hl]; decide)) d7_62 ?_
        refine iastore K S (i := 3) A_o1 ⟨by decide, rfl⟩ (show (3 : Nat) < 5 by decide) g_o1 d7_63 fun T h63_20 W B S => ?_
        replace A_v := A_v.other W (by first | exact n_v_o1 | exact Ne.symm n_o1_v | omega)
        replace Kp := Kp.wr W (Or.inr y_o1)
        clear W
        replace A_o1 : VA Z h63_20 o1 .int ([.int (lget xs (0 : Int32)), .int (lget xs (2 : Int32)), .int (lget xs (3 : Int32)), .int (lget xs (4 : Int32)), .int (0 : Int32)]) := B
        refine aload_n K S rfl rfl d7_64 ?_
        refine reta K S rfl rfl (by decide) (by decide) d7_65 ?_
        refine ⟨_, rfl, ?_, g_o1, y_o1, Kp⟩
        simp only [rmv, c9, c24, c39, c54, if_true, if_false, not_true, not_false_eq_true]
        exact A_o1
      refine iconst K S (x := (3 : Int32)) rfl d7_57 ?_
      refine goto K S d7_58 ?_
      refine iaload K S (v := .int (lget xs (3 : Int32))) (i := (3 : Int32).toNatClampNeg) A_v ⟨by decide, rfl⟩ (linb_get (by simp only [linb, hl]; decide)) d7_62 ?_
      refine iastore K S (i := 3) A_o1 ⟨by decide, rfl⟩ (show (3 : Nat) < 5 by decide) g_o1 d7_63 fun T h63_21 W B S => ?_
      replace A_v := A_v.other W (by first | exact n_v_o1 | exact Ne.symm n_o1_v | omega)
      replace Kp := Kp.wr W (Or.inr y_o1)
      clear W
      replace A_o1 : VA Z h63_21 o1 .int ([.int (lget xs (0 : Int32)), .int (lget xs (2 : Int32)), .int (lget xs (3 : Int32)), .int (lget xs (3 : Int32)), .int (0 : Int32)]) := B
      refine aload_n K S rfl rfl d7_64 ?_
      refine reta K S rfl rfl (by decide) (by decide) d7_65 ?_
      refine ⟨_, rfl, ?_, g_o1, y_o1, Kp⟩
      simp only [rmv, c9, c24, c39, c54, if_true, if_false, not_true, not_false_eq_true]
      exact A_o1
    refine iconst K S (x := (2 : Int32)) rfl d7_42 ?_
    refine goto K S d7_43 ?_
    refine iaload K S (v := .int (lget xs (2 : Int32))) (i := (2 : Int32).toNatClampNeg) A_v ⟨by decide, rfl⟩ (linb_get (by simp only [linb, hl]; decide)) d7_47 ?_
    refine iastore K S (i := 2) A_o1 ⟨by decide, rfl⟩ (show (2 : Nat) < 5 by decide) g_o1 d7_48 fun T h48_22 W B S => ?_
    replace A_v := A_v.other W (by first | exact n_v_o1 | exact Ne.symm n_o1_v | omega)
    replace Kp := Kp.wr W (Or.inr y_o1)
    clear W
    replace A_o1 : VA Z h48_22 o1 .int ([.int (lget xs (0 : Int32)), .int (lget xs (2 : Int32)), .int (lget xs (2 : Int32)), .int (0 : Int32), .int (0 : Int32)]) := B
    refine aload_n K S rfl rfl d7_49 ?_
    refine iconst K S (x := (3 : Int32)) rfl d7_50 ?_
    refine aload_n K S rfl rfl d7_51 ?_
    refine iconst K S (x := (3 : Int32)) rfl d7_52 ?_
    refine iload_n K S rfl d7_53 ?_
    refine icmp_ge K S d7_54 (fun c54 => ?_) (fun c54 => ?_)
    · refine iconst K S (x := (4 : Int32)) rfl d7_61 ?_
      refine iaload K S (v := .int (lget xs (4 : Int32))) (i := (4 : Int32).toNatClampNeg) A_v ⟨by decide, rfl⟩ (linb_get (by simp only [linb, hl]; decide)) d7_62 ?_
      refine iastore K S (i := 3) A_o1 ⟨by decide, rfl⟩ (show (3 : Nat) < 5 by decide) g_o1 d7_63 fun T h63_23 W B S => ?_
      replace A_v := A_v.other W (by first | exact n_v_o1 | exact Ne.symm n_o1_v | omega)
      replace Kp := Kp.wr W (Or.inr y_o1)
      clear W
      replace A_o1 : VA Z h63_23 o1 .int ([.int (lget xs (0 : Int32)), .int (lget xs (2 : Int32)), .int (lget xs (2 : Int32)), .int (lget xs (4 : Int32)), .int (0 : Int32)]) := B
      refine aload_n K S rfl rfl d7_64 ?_
      refine reta K S rfl rfl (by decide) (by decide) d7_65 ?_
      refine ⟨_, rfl, ?_, g_o1, y_o1, Kp⟩
      simp only [rmv, c9, c24, c39, c54, if_true, if_false, not_true, not_false_eq_true]
      exact A_o1
    refine iconst K S (x := (3 : Int32)) rfl d7_57 ?_
    refine goto K S d7_58 ?_
    refine iaload K S (v := .int (lget xs (3 : Int32))) (i := (3 : Int32).toNatClampNeg) A_v ⟨by decide, rfl⟩ (linb_get (by simp only [linb, hl]; decide)) d7_62 ?_
    refine iastore K S (i := 3) A_o1 ⟨by decide, rfl⟩ (show (3 : Nat) < 5 by decide) g_o1 d7_63 fun T h63_24 W B S => ?_
    replace A_v := A_v.other W (by first | exact n_v_o1 | exact Ne.symm n_o1_v | omega)
    replace Kp := Kp.wr W (Or.inr y_o1)
    clear W
    replace A_o1 : VA Z h63_24 o1 .int ([.int (lget xs (0 : Int32)), .int (lget xs (2 : Int32)), .int (lget xs (2 : Int32)), .int (lget xs (3 : Int32)), .int (0 : Int32)]) := B
    refine aload_n K S rfl rfl d7_64 ?_
    refine reta K S rfl rfl (by decide) (by decide) d7_65 ?_
    refine ⟨_, rfl, ?_, g_o1, y_o1, Kp⟩
    simp only [rmv, c9, c24, c39, c54, if_true, if_false, not_true, not_false_eq_true]
    exact A_o1
  refine iconst K S (x := (1 : Int32)) rfl d7_27 ?_
  refine goto K S d7_28 ?_
  refine iaload K S (v := .int (lget xs (1 : Int32))) (i := (1 : Int32).toNatClampNeg) A_v ⟨by decide, rfl⟩ (linb_get (by simp only [linb, hl]; decide)) d7_32 ?_
  refine iastore K S (i := 1) A_o1 ⟨by decide, rfl⟩ (show (1 : Nat) < 5 by decide) g_o1 d7_33 fun T h33_25 W B S => ?_
  replace A_v := A_v.other W (by first | exact n_v_o1 | exact Ne.symm n_o1_v | omega)
  replace Kp := Kp.wr W (Or.inr y_o1)
  clear W
  replace A_o1 : VA Z h33_25 o1 .int ([.int (lget xs (0 : Int32)), .int (lget xs (1 : Int32)), .int (0 : Int32), .int (0 : Int32), .int (0 : Int32)]) := B
  refine aload_n K S rfl rfl d7_34 ?_
  refine iconst K S (x := (2 : Int32)) rfl d7_35 ?_
  refine aload_n K S rfl rfl d7_36 ?_
  refine iconst K S (x := (2 : Int32)) rfl d7_37 ?_
  refine iload_n K S rfl d7_38 ?_
  refine icmp_ge K S d7_39 (fun c39 => ?_) (fun c39 => ?_)
  · refine iconst K S (x := (3 : Int32)) rfl d7_46 ?_
    refine iaload K S (v := .int (lget xs (3 : Int32))) (i := (3 : Int32).toNatClampNeg) A_v ⟨by decide, rfl⟩ (linb_get (by simp only [linb, hl]; decide)) d7_47 ?_
    refine iastore K S (i := 2) A_o1 ⟨by decide, rfl⟩ (show (2 : Nat) < 5 by decide) g_o1 d7_48 fun T h48_26 W B S => ?_
    replace A_v := A_v.other W (by first | exact n_v_o1 | exact Ne.symm n_o1_v | omega)
    replace Kp := Kp.wr W (Or.inr y_o1)
    clear W
    replace A_o1 : VA Z h48_26 o1 .int ([.int (lget xs (0 : Int32)), .int (lget xs (1 : Int32)), .int (lget xs (3 : Int32)), .int (0 : Int32), .int (0 : Int32)]) := B
    refine aload_n K S rfl rfl d7_49 ?_
    refine iconst K S (x := (3 : Int32)) rfl d7_50 ?_
    refine aload_n K S rfl rfl d7_51 ?_
    refine iconst K S (x := (3 : Int32)) rfl d7_52 ?_
    refine iload_n K S rfl d7_53 ?_
    refine icmp_ge K S d7_54 (fun c54 => ?_) (fun c54 => ?_)
    · refine iconst K S (x := (4 : Int32)) rfl d7_61 ?_
      refine iaload K S (v := .int (lget xs (4 : Int32))) (i := (4 : Int32).toNatClampNeg) A_v ⟨by decide, rfl⟩ (linb_get (by simp only [linb, hl]; decide)) d7_62 ?_
      refine iastore K S (i := 3) A_o1 ⟨by decide, rfl⟩ (show (3 : Nat) < 5 by decide) g_o1 d7_63 fun T h63_27 W B S => ?_
      replace A_v := A_v.other W (by first | exact n_v_o1 | exact Ne.symm n_o1_v | omega)
      replace Kp := Kp.wr W (Or.inr y_o1)
      clear W
      replace A_o1 : VA Z h63_27 o1 .int ([.int (lget xs (0 : Int32)), .int (lget xs (1 : Int32)), .int (lget xs (3 : Int32)), .int (lget xs (4 : Int32)), .int (0 : Int32)]) := B
      refine aload_n K S rfl rfl d7_64 ?_
      refine reta K S rfl rfl (by decide) (by decide) d7_65 ?_
      refine ⟨_, rfl, ?_, g_o1, y_o1, Kp⟩
      simp only [rmv, c9, c24, c39, c54, if_true, if_false, not_true, not_false_eq_true]
      exact A_o1
    refine iconst K S (x := (3 : Int32)) rfl d7_57 ?_
    refine goto K S d7_58 ?_
    refine iaload K S (v := .int (lget xs (3 : Int32))) (i := (3 : Int32).toNatClampNeg) A_v ⟨by decide, rfl⟩ (linb_get (by simp only [linb, hl]; decide)) d7_62 ?_
    refine iastore K S (i := 3) A_o1 ⟨by decide, rfl⟩ (show (3 : Nat) < 5 by decide) g_o1 d7_63 fun T h63_28 W B S => ?_
    replace A_v := A_v.other W (by first | exact n_v_o1 | exact Ne.symm n_o1_v | omega)
    replace Kp := Kp.wr W (Or.inr y_o1)
    clear W
    replace A_o1 : VA Z h63_28 o1 .int ([.int (lget xs (0 : Int32)), .int (lget xs (1 : Int32)), .int (lget xs (3 : Int32)), .int (lget xs (3 : Int32)), .int (0 : Int32)]) := B
    refine aload_n K S rfl rfl d7_64 ?_
    refine reta K S rfl rfl (by decide) (by decide) d7_65 ?_
    refine ⟨_, rfl, ?_, g_o1, y_o1, Kp⟩
    simp only [rmv, c9, c24, c39, c54, if_true, if_false, not_true, not_false_eq_true]
    exact A_o1
  refine iconst K S (x := (2 : Int32)) rfl d7_42 ?_
  refine goto K S d7_43 ?_
  refine iaload K S (v := .int (lget xs (2 : Int32))) (i := (2 : Int32).toNatClampNeg) A_v ⟨by decide, rfl⟩ (linb_get (by simp only [linb, hl]; decide)) d7_47 ?_
  refine iastore K S (i := 2) A_o1 ⟨by decide, rfl⟩ (show (2 : Nat) < 5 by decide) g_o1 d7_48 fun T h48_29 W B S => ?_
  replace A_v := A_v.other W (by first | exact n_v_o1 | exact Ne.symm n_o1_v | omega)
  replace Kp := Kp.wr W (Or.inr y_o1)
  clear W
  replace A_o1 : VA Z h48_29 o1 .int ([.int (lget xs (0 : Int32)), .int (lget xs (1 : Int32)), .int (lget xs (2 : Int32)), .int (0 : Int32), .int (0 : Int32)]) := B
  refine aload_n K S rfl rfl d7_49 ?_
  refine iconst K S (x := (3 : Int32)) rfl d7_50 ?_
  refine aload_n K S rfl rfl d7_51 ?_
  refine iconst K S (x := (3 : Int32)) rfl d7_52 ?_
  refine iload_n K S rfl d7_53 ?_
  refine icmp_ge K S d7_54 (fun c54 => ?_) (fun c54 => ?_)
  · refine iconst K S (x := (4 : Int32)) rfl d7_61 ?_
    refine iaload K S (v := .int (lget xs (4 : Int32))) (i := (4 : Int32).toNatClampNeg) A_v ⟨by decide, rfl⟩ (linb_get (by simp only [linb, hl]; decide)) d7_62 ?_
    refine iastore K S (i := 3) A_o1 ⟨by decide, rfl⟩ (show (3 : Nat) < 5 by decide) g_o1 d7_63 fun T h63_30 W B S => ?_
    replace A_v := A_v.other W (by first | exact n_v_o1 | exact Ne.symm n_o1_v | omega)
    replace Kp := Kp.wr W (Or.inr y_o1)
    clear W
    replace A_o1 : VA Z h63_30 o1 .int ([.int (lget xs (0 : Int32)), .int (lget xs (1 : Int32)), .int (lget xs (2 : Int32)), .int (lget xs (4 : Int32)), .int (0 : Int32)]) := B
    refine aload_n K S rfl rfl d7_64 ?_
    refine reta K S rfl rfl (by decide) (by decide) d7_65 ?_
    refine ⟨_, rfl, ?_, g_o1, y_o1, Kp⟩
    simp only [rmv, c9, c24, c39, c54, if_true, if_false, not_true, not_false_eq_true]
    exact A_o1
  refine iconst K S (x := (3 : Int32)) rfl d7_57 ?_
  refine goto K S d7_58 ?_
  refine iaload K S (v := .int (lget xs (3 : Int32))) (i := (3 : Int32).toNatClampNeg) A_v ⟨by decide, rfl⟩ (linb_get (by simp only [linb, hl]; decide)) d7_62 ?_
  refine iastore K S (i := 3) A_o1 ⟨by decide, rfl⟩ (show (3 : Nat) < 5 by decide) g_o1 d7_63 fun T h63_31 W B S => ?_
  replace A_v := A_v.other W (by first | exact n_v_o1 | exact Ne.symm n_o1_v | omega)
  replace Kp := Kp.wr W (Or.inr y_o1)
  clear W
  replace A_o1 : VA Z h63_31 o1 .int ([.int (lget xs (0 : Int32)), .int (lget xs (1 : Int32)), .int (lget xs (2 : Int32)), .int (lget xs (3 : Int32)), .int (0 : Int32)]) := B
  refine aload_n K S rfl rfl d7_64 ?_
  refine reta K S rfl rfl (by decide) (by decide) d7_65 ?_
  refine ⟨_, rfl, ?_, g_o1, y_o1, Kp⟩
  simp only [rmv, c9, c24, c39, c54, if_true, if_false, not_true, not_false_eq_true]
  exact A_o1

theorem own_a1 : ∀ i : Fin 3, lappOk T0 (Int32.ofNat i.val) = true := by decide +kernel
theorem own_a2 : ∀ (i : Fin 3) (q : Fin 2), lappOk (lapp T0 (Int32.ofNat i.val)) (((Int32.ofNat i.val) + (1 : Int32) + (Int32.ofNat q.val)) % (3 : Int32)) = true := by decide +kernel
theorem own_a3 : ∀ (i : Fin 3) (q : Fin 2), lappOk (lapp (lapp T0 (Int32.ofNat i.val)) (((Int32.ofNat i.val) + (1 : Int32) + (Int32.ofNat q.val)) % (3 : Int32))) ((3 : Int32) - (Int32.ofNat i.val) - (((Int32.ofNat i.val) + (1 : Int32) + (Int32.ofNat q.val)) % (3 : Int32))) = true := by decide +kernel
theorem own_m1 : ∀ (i : Fin 3) (q : Fin 2) (k : Fin 1), (linb [(Int32.ofNat i.val), (((Int32.ofNat i.val) + (1 : Int32) + (Int32.ofNat q.val)) % (3 : Int32)), ((3 : Int32) - (Int32.ofNat i.val) - (((Int32.ofNat i.val) + (1 : Int32) + (Int32.ofNat q.val)) % (3 : Int32))), (0 : Int32), (0 : Int32)] (Int32.ofNat k.val) = true) ∧ (lunlOk (lapp T0 (Int32.ofNat i.val)) (lget [(Int32.ofNat i.val), (((Int32.ofNat i.val) + (1 : Int32) + (Int32.ofNat q.val)) % (3 : Int32)), ((3 : Int32) - (Int32.ofNat i.val) - (((Int32.ofNat i.val) + (1 : Int32) + (Int32.ofNat q.val)) % (3 : Int32))), (0 : Int32), (0 : Int32)] (Int32.ofNat k.val)) = true) ∧ (linb (rmv [(Int32.ofNat i.val), (((Int32.ofNat i.val) + (1 : Int32) + (Int32.ofNat q.val)) % (3 : Int32)), ((3 : Int32) - (Int32.ofNat i.val) - (((Int32.ofNat i.val) + (1 : Int32) + (Int32.ofNat q.val)) % (3 : Int32))), (0 : Int32), (0 : Int32)] (Int32.ofNat k.val)) ((1 : Int32) - (1 : Int32)) = true) ∧ (lappOk (lunl (lapp T0 (Int32.ofNat i.val)) (lget [(Int32.ofNat i.val), (((Int32.ofNat i.val) + (1 : Int32) + (Int32.ofNat q.val)) % (3 : Int32)), ((3 : Int32) - (Int32.ofNat i.val) - (((Int32.ofNat i.val) + (1 : Int32) + (Int32.ofNat q.val)) % (3 : Int32))), (0 : Int32), (0 : Int32)] (Int32.ofNat k.val))) 3 = true) := by decide +kernel
theorem own_n1 : ∀ (i : Fin 3) (q : Fin 2) (k j : Fin 1), (linb (lset (rmv [(Int32.ofNat i.val), (((Int32.ofNat i.val) + (1 : Int32) + (Int32.ofNat q.val)) % (3 : Int32)), ((3 : Int32) - (Int32.ofNat i.val) - (((Int32.ofNat i.val) + (1 : Int32) + (Int32.ofNat q.val)) % (3 : Int32))), (0 : Int32), (0 : Int32)] (Int32.ofNat k.val)) ((1 : Int32) - (1 : Int32)) 3) (Int32.ofNat j.val) = true) ∧ (lunlOk (lapp (lunl (lapp T0 (Int32.ofNat i.val)) (lget [(Int32.ofNat i.val), (((Int32.ofNat i.val) + (1 : Int32) + (Int32.ofNat q.val)) % (3 : Int32)), ((3 : Int32) - (Int32.ofNat i.val) - (((Int32.ofNat i.val) + (1 : Int32) + (Int32.ofNat q.val)) % (3 : Int32))), (0 : Int32), (0 : Int32)] (Int32.ofNat k.val))) 3) (lget (lset (rmv [(Int32.ofNat i.val), (((Int32.ofNat i.val) + (1 : Int32) + (Int32.ofNat q.val)) % (3 : Int32)), ((3 : Int32) - (Int32.ofNat i.val) - (((Int32.ofNat i.val) + (1 : Int32) + (Int32.ofNat q.val)) % (3 : Int32))), (0 : Int32), (0 : Int32)] (Int32.ofNat k.val)) ((1 : Int32) - (1 : Int32)) 3) (Int32.ofNat j.val)) = true) ∧ (linb (rmv (lset (rmv [(Int32.ofNat i.val), (((Int32.ofNat i.val) + (1 : Int32) + (Int32.ofNat q.val)) % (3 : Int32)), ((3 : Int32) - (Int32.ofNat i.val) - (((Int32.ofNat i.val) + (1 : Int32) + (Int32.ofNat q.val)) % (3 : Int32))), (0 : Int32), (0 : Int32)] (Int32.ofNat k.val)) ((1 : Int32) - (1 : Int32)) 3) (Int32.ofNat j.val)) ((1 : Int32) - (1 : Int32)) = true) ∧ (lappOk (lunl (lapp (lunl (lapp T0 (Int32.ofNat i.val)) (lget [(Int32.ofNat i.val), (((Int32.ofNat i.val) + (1 : Int32) + (Int32.ofNat q.val)) % (3 : Int32)), ((3 : Int32) - (Int32.ofNat i.val) - (((Int32.ofNat i.val) + (1 : Int32) + (Int32.ofNat q.val)) % (3 : Int32))), (0 : Int32), (0 : Int32)] (Int32.ofNat k.val))) 3) (lget (lset (rmv [(Int32.ofNat i.val), (((Int32.ofNat i.val) + (1 : Int32) + (Int32.ofNat q.val)) % (3 : Int32)), ((3 : Int32) - (Int32.ofNat i.val) - (((Int32.ofNat i.val) + (1 : Int32) + (Int32.ofNat q.val)) % (3 : Int32))), (0 : Int32), (0 : Int32)] (Int32.ofNat k.val)) ((1 : Int32) - (1 : Int32)) 3) (Int32.ofNat j.val))) 4 = true) ∧ ((lapp (lunl (lapp (lunl (lapp T0 (Int32.ofNat i.val)) (lget [(Int32.ofNat i.val), (((Int32.ofNat i.val) + (1 : Int32) + (Int32.ofNat q.val)) % (3 : Int32)), ((3 : Int32) - (Int32.ofNat i.val) - (((Int32.ofNat i.val) + (1 : Int32) + (Int32.ofNat q.val)) % (3 : Int32))), (0 : Int32), (0 : Int32)] (Int32.ofNat k.val))) 3) (lget (lset (rmv [(Int32.ofNat i.val), (((Int32.ofNat i.val) + (1 : Int32) + (Int32.ofNat q.val)) % (3 : Int32)), ((3 : Int32) - (Int32.ofNat i.val) - (((Int32.ofNat i.val) + (1 : Int32) + (Int32.ofNat q.val)) % (3 : Int32))), (0 : Int32), (0 : Int32)] (Int32.ofNat k.val)) ((1 : Int32) - (1 : Int32)) 3) (Int32.ofNat j.val))) 4).2.2.1 = lget (lset (rmv (lset (rmv [(Int32.ofNat i.val), (((Int32.ofNat i.val) + (1 : Int32) + (Int32.ofNat q.val)) % (3 : Int32)), ((3 : Int32) - (Int32.ofNat i.val) - (((Int32.ofNat i.val) + (1 : Int32) + (Int32.ofNat q.val)) % (3 : Int32))), (0 : Int32), (0 : Int32)] (Int32.ofNat k.val)) ((1 : Int32) - (1 : Int32)) 3) (Int32.ofNat j.val)) ((1 : Int32) - (1 : Int32)) 4) 0) ∧ (linb (lapp (lunl (lapp (lunl (lapp T0 (Int32.ofNat i.val)) (lget [(Int32.ofNat i.val), (((Int32.ofNat i.val) + (1 : Int32) + (Int32.ofNat q.val)) % (3 : Int32)), ((3 : Int32) - (Int32.ofNat i.val) - (((Int32.ofNat i.val) + (1 : Int32) + (Int32.ofNat q.val)) % (3 : Int32))), (0 : Int32), (0 : Int32)] (Int32.ofNat k.val))) 3) (lget (lset (rmv [(Int32.ofNat i.val), (((Int32.ofNat i.val) + (1 : Int32) + (Int32.ofNat q.val)) % (3 : Int32)), ((3 : Int32) - (Int32.ofNat i.val) - (((Int32.ofNat i.val) + (1 : Int32) + (Int32.ofNat q.val)) % (3 : Int32))), (0 : Int32), (0 : Int32)] (Int32.ofNat k.val)) ((1 : Int32) - (1 : Int32)) 3) (Int32.ofNat j.val))) 4).2.1 (lget (lset (rmv (lset (rmv [(Int32.ofNat i.val), (((Int32.ofNat i.val) + (1 : Int32) + (Int32.ofNat q.val)) % (3 : Int32)), ((3 : Int32) - (Int32.ofNat i.val) - (((Int32.ofNat i.val) + (1 : Int32) + (Int32.ofNat q.val)) % (3 : Int32))), (0 : Int32), (0 : Int32)] (Int32.ofNat k.val)) ((1 : Int32) - (1 : Int32)) 3) (Int32.ofNat j.val)) ((1 : Int32) - (1 : Int32)) 4) 0) = true) ∧ (lget (lapp (lunl (lapp (lunl (lapp T0 (Int32.ofNat i.val)) (lget [(Int32.ofNat i.val), (((Int32.ofNat i.val) + (1 : Int32) + (Int32.ofNat q.val)) % (3 : Int32)), ((3 : Int32) - (Int32.ofNat i.val) - (((Int32.ofNat i.val) + (1 : Int32) + (Int32.ofNat q.val)) % (3 : Int32))), (0 : Int32), (0 : Int32)] (Int32.ofNat k.val))) 3) (lget (lset (rmv [(Int32.ofNat i.val), (((Int32.ofNat i.val) + (1 : Int32) + (Int32.ofNat q.val)) % (3 : Int32)), ((3 : Int32) - (Int32.ofNat i.val) - (((Int32.ofNat i.val) + (1 : Int32) + (Int32.ofNat q.val)) % (3 : Int32))), (0 : Int32), (0 : Int32)] (Int32.ofNat k.val)) ((1 : Int32) - (1 : Int32)) 3) (Int32.ofNat j.val))) 4).2.1 (lget (lset (rmv (lset (rmv [(Int32.ofNat i.val), (((Int32.ofNat i.val) + (1 : Int32) + (Int32.ofNat q.val)) % (3 : Int32)), ((3 : Int32) - (Int32.ofNat i.val) - (((Int32.ofNat i.val) + (1 : Int32) + (Int32.ofNat q.val)) % (3 : Int32))), (0 : Int32), (0 : Int32)] (Int32.ofNat k.val)) ((1 : Int32) - (1 : Int32)) 3) (Int32.ofNat j.val)) ((1 : Int32) - (1 : Int32)) 4) 0) = -1) := by decide +kernel
theorem own_m2 : ∀ (i : Fin 3) (q : Fin 2) (k : Fin 2), (linb [(Int32.ofNat i.val), (((Int32.ofNat i.val) + (1 : Int32) + (Int32.ofNat q.val)) % (3 : Int32)), ((3 : Int32) - (Int32.ofNat i.val) - (((Int32.ofNat i.val) + (1 : Int32) + (Int32.ofNat q.val)) % (3 : Int32))), (0 : Int32), (0 : Int32)] (Int32.ofNat k.val) = true) ∧ (lunlOk (lapp (lapp T0 (Int32.ofNat i.val)) (((Int32.ofNat i.val) + (1 : Int32) + (Int32.ofNat q.val)) % (3 : Int32))) (lget [(Int32.ofNat i.val), (((Int32.ofNat i.val) + (1 : Int32) + (Int32.ofNat q.val)) % (3 : Int32)), ((3 : Int32) - (Int32.ofNat i.val) - (((Int32.ofNat i.val) + (1 : Int32) + (Int32.ofNat q.val)) % (3 : Int32))), (0 : Int32), (0 : Int32)] (Int32.ofNat k.val)) = true) ∧ (linb (rmv [(Int32.ofNat i.val), (((Int32.ofNat i.val) + (1 : Int32) + (Int32.ofNat q.val)) % (3 : Int32)), ((3 : Int32) - (Int32.ofNat i.val) - (((Int32.ofNat i.val) + (1 : Int32) + (Int32.ofNat q.val)) % (3 : Int32))), (0 : Int32), (0 : Int32)] (Int32.ofNat k.val)) ((2 : Int32) - (1 : Int32)) = true) ∧ (lappOk (lunl (lapp (lapp T0 (Int32.ofNat i.val)) (((Int32.ofNat i.val) + (1 : Int32) + (Int32.ofNat q.val)) % (3 : Int32))) (lget [(Int32.ofNat i.val), (((Int32.ofNat i.val) + (1 : Int32) + (Int32.ofNat q.val)) % (3 : Int32)), ((3 : Int32) - (Int32.ofNat i.val) - (((Int32.ofNat i.val) + (1 : Int32) + (Int32.ofNat q.val)) % (3 : Int32))), (0 : Int32), (0 : Int32)] (Int32.ofNat k.val))) 3 = true) := by decide +kernel
theorem own_n2 : ∀ (i : Fin 3) (q : Fin 2) (k j : Fin 2), (linb (lset (rmv [(Int32.ofNat i.val), (((Int32.ofNat i.val) + (1 : Int32) + (Int32.ofNat q.val)) % (3 : Int32)), ((3 : Int32) - (Int32.ofNat i.val) - (((Int32.ofNat i.val) + (1 : Int32) + (Int32.ofNat q.val)) % (3 : Int32))), (0 : Int32), (0 : Int32)] (Int32.ofNat k.val)) ((2 : Int32) - (1 : Int32)) 3) (Int32.ofNat j.val) = true) ∧ (lunlOk (lapp (lunl (lapp (lapp T0 (Int32.ofNat i.val)) (((Int32.ofNat i.val) + (1 : Int32) + (Int32.ofNat q.val)) % (3 : Int32))) (lget [(Int32.ofNat i.val), (((Int32.ofNat i.val) + (1 : Int32) + (Int32.ofNat q.val)) % (3 : Int32)), ((3 : Int32) - (Int32.ofNat i.val) - (((Int32.ofNat i.val) + (1 : Int32) + (Int32.ofNat q.val)) % (3 : Int32))), (0 : Int32), (0 : Int32)] (Int32.ofNat k.val))) 3) (lget (lset (rmv [(Int32.ofNat i.val), (((Int32.ofNat i.val) + (1 : Int32) + (Int32.ofNat q.val)) % (3 : Int32)), ((3 : Int32) - (Int32.ofNat i.val) - (((Int32.ofNat i.val) + (1 : Int32) + (Int32.ofNat q.val)) % (3 : Int32))), (0 : Int32), (0 : Int32)] (Int32.ofNat k.val)) ((2 : Int32) - (1 : Int32)) 3) (Int32.ofNat j.val)) = true) ∧ (linb (rmv (lset (rmv [(Int32.ofNat i.val), (((Int32.ofNat i.val) + (1 : Int32) + (Int32.ofNat q.val)) % (3 : Int32)), ((3 : Int32) - (Int32.ofNat i.val) - (((Int32.ofNat i.val) + (1 : Int32) + (Int32.ofNat q.val)) % (3 : Int32))), (0 : Int32), (0 : Int32)] (Int32.ofNat k.val)) ((2 : Int32) - (1 : Int32)) 3) (Int32.ofNat j.val)) ((2 : Int32) - (1 : Int32)) = true) ∧ (lappOk (lunl (lapp (lunl (lapp (lapp T0 (Int32.ofNat i.val)) (((Int32.ofNat i.val) + (1 : Int32) + (Int32.ofNat q.val)) % (3 : Int32))) (lget [(Int32.ofNat i.val), (((Int32.ofNat i.val) + (1 : Int32) + (Int32.ofNat q.val)) % (3 : Int32)), ((3 : Int32) - (Int32.ofNat i.val) - (((Int32.ofNat i.val) + (1 : Int32) + (Int32.ofNat q.val)) % (3 : Int32))), (0 : Int32), (0 : Int32)] (Int32.ofNat k.val))) 3) (lget (lset (rmv [(Int32.ofNat i.val), (((Int32.ofNat i.val) + (1 : Int32) + (Int32.ofNat q.val)) % (3 : Int32)), ((3 : Int32) - (Int32.ofNat i.val) - (((Int32.ofNat i.val) + (1 : Int32) + (Int32.ofNat q.val)) % (3 : Int32))), (0 : Int32), (0 : Int32)] (Int32.ofNat k.val)) ((2 : Int32) - (1 : Int32)) 3) (Int32.ofNat j.val))) 4 = true) ∧ ((lapp (lunl (lapp (lunl (lapp (lapp T0 (Int32.ofNat i.val)) (((Int32.ofNat i.val) + (1 : Int32) + (Int32.ofNat q.val)) % (3 : Int32))) (lget [(Int32.ofNat i.val), (((Int32.ofNat i.val) + (1 : Int32) + (Int32.ofNat q.val)) % (3 : Int32)), ((3 : Int32) - (Int32.ofNat i.val) - (((Int32.ofNat i.val) + (1 : Int32) + (Int32.ofNat q.val)) % (3 : Int32))), (0 : Int32), (0 : Int32)] (Int32.ofNat k.val))) 3) (lget (lset (rmv [(Int32.ofNat i.val), (((Int32.ofNat i.val) + (1 : Int32) + (Int32.ofNat q.val)) % (3 : Int32)), ((3 : Int32) - (Int32.ofNat i.val) - (((Int32.ofNat i.val) + (1 : Int32) + (Int32.ofNat q.val)) % (3 : Int32))), (0 : Int32), (0 : Int32)] (Int32.ofNat k.val)) ((2 : Int32) - (1 : Int32)) 3) (Int32.ofNat j.val))) 4).2.2.1 = lget (lset (rmv (lset (rmv [(Int32.ofNat i.val), (((Int32.ofNat i.val) + (1 : Int32) + (Int32.ofNat q.val)) % (3 : Int32)), ((3 : Int32) - (Int32.ofNat i.val) - (((Int32.ofNat i.val) + (1 : Int32) + (Int32.ofNat q.val)) % (3 : Int32))), (0 : Int32), (0 : Int32)] (Int32.ofNat k.val)) ((2 : Int32) - (1 : Int32)) 3) (Int32.ofNat j.val)) ((2 : Int32) - (1 : Int32)) 4) 0) ∧ (linb (lapp (lunl (lapp (lunl (lapp (lapp T0 (Int32.ofNat i.val)) (((Int32.ofNat i.val) + (1 : Int32) + (Int32.ofNat q.val)) % (3 : Int32))) (lget [(Int32.ofNat i.val), (((Int32.ofNat i.val) + (1 : Int32) + (Int32.ofNat q.val)) % (3 : Int32)), ((3 : Int32) - (Int32.ofNat i.val) - (((Int32.ofNat i.val) + (1 : Int32) + (Int32.ofNat q.val)) % (3 : Int32))), (0 : Int32), (0 : Int32)] (Int32.ofNat k.val))) 3) (lget (lset (rmv [(Int32.ofNat i.val), (((Int32.ofNat i.val) + (1 : Int32) + (Int32.ofNat q.val)) % (3 : Int32)), ((3 : Int32) - (Int32.ofNat i.val) - (((Int32.ofNat i.val) + (1 : Int32) + (Int32.ofNat q.val)) % (3 : Int32))), (0 : Int32), (0 : Int32)] (Int32.ofNat k.val)) ((2 : Int32) - (1 : Int32)) 3) (Int32.ofNat j.val))) 4).2.1 (lget (lset (rmv (lset (rmv [(Int32.ofNat i.val), (((Int32.ofNat i.val) + (1 : Int32) + (Int32.ofNat q.val)) % (3 : Int32)), ((3 : Int32) - (Int32.ofNat i.val) - (((Int32.ofNat i.val) + (1 : Int32) + (Int32.ofNat q.val)) % (3 : Int32))), (0 : Int32), (0 : Int32)] (Int32.ofNat k.val)) ((2 : Int32) - (1 : Int32)) 3) (Int32.ofNat j.val)) ((2 : Int32) - (1 : Int32)) 4) 0) = true) ∧ (lget (lapp (lunl (lapp (lunl (lapp (lapp T0 (Int32.ofNat i.val)) (((Int32.ofNat i.val) + (1 : Int32) + (Int32.ofNat q.val)) % (3 : Int32))) (lget [(Int32.ofNat i.val), (((Int32.ofNat i.val) + (1 : Int32) + (Int32.ofNat q.val)) % (3 : Int32)), ((3 : Int32) - (Int32.ofNat i.val) - (((Int32.ofNat i.val) + (1 : Int32) + (Int32.ofNat q.val)) % (3 : Int32))), (0 : Int32), (0 : Int32)] (Int32.ofNat k.val))) 3) (lget (lset (rmv [(Int32.ofNat i.val), (((Int32.ofNat i.val) + (1 : Int32) + (Int32.ofNat q.val)) % (3 : Int32)), ((3 : Int32) - (Int32.ofNat i.val) - (((Int32.ofNat i.val) + (1 : Int32) + (Int32.ofNat q.val)) % (3 : Int32))), (0 : Int32), (0 : Int32)] (Int32.ofNat k.val)) ((2 : Int32) - (1 : Int32)) 3) (Int32.ofNat j.val))) 4).2.1 (lget (lset (rmv (lset (rmv [(Int32.ofNat i.val), (((Int32.ofNat i.val) + (1 : Int32) + (Int32.ofNat q.val)) % (3 : Int32)), ((3 : Int32) - (Int32.ofNat i.val) - (((Int32.ofNat i.val) + (1 : Int32) + (Int32.ofNat q.val)) % (3 : Int32))), (0 : Int32), (0 : Int32)] (Int32.ofNat k.val)) ((2 : Int32) - (1 : Int32)) 3) (Int32.ofNat j.val)) ((2 : Int32) - (1 : Int32)) 4) 0) = lget (lset (rmv (lset (rmv [(Int32.ofNat i.val), (((Int32.ofNat i.val) + (1 : Int32) + (Int32.ofNat q.val)) % (3 : Int32)), ((3 : Int32) - (Int32.ofNat i.val) - (((Int32.ofNat i.val) + (1 : Int32) + (Int32.ofNat q.val)) % (3 : Int32))), (0 : Int32), (0 : Int32)] (Int32.ofNat k.val)) ((2 : Int32) - (1 : Int32)) 3) (Int32.ofNat j.val)) ((2 : Int32) - (1 : Int32)) 4) 1) ∧ (linb (lapp (lunl (lapp (lunl (lapp (lapp T0 (Int32.ofNat i.val)) (((Int32.ofNat i.val) + (1 : Int32) + (Int32.ofNat q.val)) % (3 : Int32))) (lget [(Int32.ofNat i.val), (((Int32.ofNat i.val) + (1 : Int32) + (Int32.ofNat q.val)) % (3 : Int32)), ((3 : Int32) - (Int32.ofNat i.val) - (((Int32.ofNat i.val) + (1 : Int32) + (Int32.ofNat q.val)) % (3 : Int32))), (0 : Int32), (0 : Int32)] (Int32.ofNat k.val))) 3) (lget (lset (rmv [(Int32.ofNat i.val), (((Int32.ofNat i.val) + (1 : Int32) + (Int32.ofNat q.val)) % (3 : Int32)), ((3 : Int32) - (Int32.ofNat i.val) - (((Int32.ofNat i.val) + (1 : Int32) + (Int32.ofNat q.val)) % (3 : Int32))), (0 : Int32), (0 : Int32)] (Int32.ofNat k.val)) ((2 : Int32) - (1 : Int32)) 3) (Int32.ofNat j.val))) 4).2.1 (lget (lset (rmv (lset (rmv [(Int32.ofNat i.val), (((Int32.ofNat i.val) + (1 : Int32) + (Int32.ofNat q.val)) % (3 : Int32)), ((3 : Int32) - (Int32.ofNat i.val) - (((Int32.ofNat i.val) + (1 : Int32) + (Int32.ofNat q.val)) % (3 : Int32))), (0 : Int32), (0 : Int32)] (Int32.ofNat k.val)) ((2 : Int32) - (1 : Int32)) 3) (Int32.ofNat j.val)) ((2 : Int32) - (1 : Int32)) 4) 1) = true) ∧ (lget (lapp (lunl (lapp (lunl (lapp (lapp T0 (Int32.ofNat i.val)) (((Int32.ofNat i.val) + (1 : Int32) + (Int32.ofNat q.val)) % (3 : Int32))) (lget [(Int32.ofNat i.val), (((Int32.ofNat i.val) + (1 : Int32) + (Int32.ofNat q.val)) % (3 : Int32)), ((3 : Int32) - (Int32.ofNat i.val) - (((Int32.ofNat i.val) + (1 : Int32) + (Int32.ofNat q.val)) % (3 : Int32))), (0 : Int32), (0 : Int32)] (Int32.ofNat k.val))) 3) (lget (lset (rmv [(Int32.ofNat i.val), (((Int32.ofNat i.val) + (1 : Int32) + (Int32.ofNat q.val)) % (3 : Int32)), ((3 : Int32) - (Int32.ofNat i.val) - (((Int32.ofNat i.val) + (1 : Int32) + (Int32.ofNat q.val)) % (3 : Int32))), (0 : Int32), (0 : Int32)] (Int32.ofNat k.val)) ((2 : Int32) - (1 : Int32)) 3) (Int32.ofNat j.val))) 4).2.1 (lget (lset (rmv (lset (rmv [(Int32.ofNat i.val), (((Int32.ofNat i.val) + (1 : Int32) + (Int32.ofNat q.val)) % (3 : Int32)), ((3 : Int32) - (Int32.ofNat i.val) - (((Int32.ofNat i.val) + (1 : Int32) + (Int32.ofNat q.val)) % (3 : Int32))), (0 : Int32), (0 : Int32)] (Int32.ofNat k.val)) ((2 : Int32) - (1 : Int32)) 3) (Int32.ofNat j.val)) ((2 : Int32) - (1 : Int32)) 4) 1) = -1) := by decide +kernel
theorem own_m3 : ∀ (i : Fin 3) (q : Fin 2) (k : Fin 3), (linb [(Int32.ofNat i.val), (((Int32.ofNat i.val) + (1 : Int32) + (Int32.ofNat q.val)) % (3 : Int32)), ((3 : Int32) - (Int32.ofNat i.val) - (((Int32.ofNat i.val) + (1 : Int32) + (Int32.ofNat q.val)) % (3 : Int32))), (0 : Int32), (0 : Int32)] (Int32.ofNat k.val) = true) ∧ (lunlOk (lapp (lapp (lapp T0 (Int32.ofNat i.val)) (((Int32.ofNat i.val) + (1 : Int32) + (Int32.ofNat q.val)) % (3 : Int32))) ((3 : Int32) - (Int32.ofNat i.val) - (((Int32.ofNat i.val) + (1 : Int32) + (Int32.ofNat q.val)) % (3 : Int32)))) (lget [(Int32.ofNat i.val), (((Int32.ofNat i.val) + (1 : Int32) + (Int32.ofNat q.val)) % (3 : Int32)), ((3 : Int32) - (Int32.ofNat i.val) - (((Int32.ofNat i.val) + (1 : Int32) + (Int32.ofNat q.val)) % (3 : Int32))), (0 : Int32), (0 : Int32)] (Int32.ofNat k.val)) = true) ∧ (linb (rmv [(Int32.ofNat i.val), (((Int32.ofNat i.val) + (1 : Int32) + (Int32.ofNat q.val)) % (3 : Int32)), ((3 : Int32) - (Int32.ofNat i.val) - (((Int32.ofNat i.val) + (1 : Int32) + (Int32.ofNat q.val)) % (3 : Int32))), (0 : Int32), (0 : Int32)] (Int32.ofNat k.val)) ((3 : Int32) - (1 : Int32)) = true) ∧ (lappOk (lunl (lapp (lapp (lapp T0 (Int32.ofNat i.val)) (((Int32.ofNat i.val) + (1 : Int32) + (Int32.ofNat q.val)) % (3 : Int32))) ((3 : Int32) - (Int32.ofNat i.val) - (((Int32.ofNat i.val) + (1 : Int32) + (Int32.ofNat q.val)) % (3 : Int32)))) (lget [(Int32.ofNat i.val), (((Int32.ofNat i.val) + (1 : Int32) + (Int32.ofNat q.val)) % (3 : Int32)), ((3 : Int32) - (Int32.ofNat i.val) - (((Int32.ofNat i.val) + (1 : Int32) + (Int32.ofNat q.val)) % (3 : Int32))), (0 : Int32), (0 : Int32)] (Int32.ofNat k.val))) 3 = true) := by decide +kernel
theorem own_n3 : ∀ (i : Fin 3) (q : Fin 2) (k j : Fin 3), (linb (lset (rmv [(Int32.ofNat i.val), (((Int32.ofNat i.val) + (1 : Int32) + (Int32.ofNat q.val)) % (3 : Int32)), ((3 : Int32) - (Int32.ofNat i.val) - (((Int32.ofNat i.val) + (1 : Int32) + (Int32.ofNat q.val)) % (3 : Int32))), (0 : Int32), (0 : Int32)] (Int32.ofNat k.val)) ((3 : Int32) - (1 : Int32)) 3) (Int32.ofNat j.val) = true) ∧ (lunlOk (lapp (lunl (lapp (lapp (lapp T0 (Int32.ofNat i.val)) (((Int32.ofNat i.val) + (1 : Int32) + (Int32.ofNat q.val)) % (3 : Int32))) ((3 : Int32) - (Int32.ofNat i.val) - (((Int32.ofNat i.val) + (1 : Int32) + (Int32.ofNat q.val)) % (3 : Int32)))) (lget [(Int32.ofNat i.val), (((Int32.ofNat i.val) + (1 : Int32) + (Int32.ofNat q.val)) % (3 : Int32)), ((3 : Int32) - (Int32.ofNat i.val) - (((Int32.ofNat i.val) + (1 : Int32) + (Int32.ofNat q.val)) % (3 : Int32))), (0 : Int32), (0 : Int32)] (Int32.ofNat k.val))) 3) (lget (lset (rmv [(Int32.ofNat i.val), (((Int32.ofNat i.val) + (1 : Int32) + (Int32.ofNat q.val)) % (3 : Int32)), ((3 : Int32) - (Int32.ofNat i.val) - (((Int32.ofNat i.val) + (1 : Int32) + (Int32.ofNat q.val)) % (3 : Int32))), (0 : Int32), (0 : Int32)] (Int32.ofNat k.val)) ((3 : Int32) - (1 : Int32)) 3) (Int32.ofNat j.val)) = true) ∧ (linb (rmv (lset (rmv [(Int32.ofNat i.val), (((Int32.ofNat i.val) + (1 : Int32) + (Int32.ofNat q.val)) % (3 : Int32)), ((3 : Int32) - (Int32.ofNat i.val) - (((Int32.ofNat i.val) + (1 : Int32) + (Int32.ofNat q.val)) % (3 : Int32))), (0 : Int32), (0 : Int32)] (Int32.ofNat k.val)) ((3 : Int32) - (1 : Int32)) 3) (Int32.ofNat j.val)) ((3 : Int32) - (1 : Int32)) = true) ∧ (lappOk (lunl (lapp (lunl (lapp (lapp (lapp T0 (Int32.ofNat i.val)) (((Int32.ofNat i.val) + (1 : Int32) + (Int32.ofNat q.val)) % (3 : Int32))) ((3 : Int32) - (Int32.ofNat i.val) - (((Int32.ofNat i.val) + (1 : Int32) + (Int32.ofNat q.val)) % (3 : Int32)))) (lget [(Int32.ofNat i.val), (((Int32.ofNat i.val) + (1 : Int32) + (Int32.ofNat q.val)) % (3 : Int32)), ((3 : Int32) - (Int32.ofNat i.val) - (((Int32.ofNat i.val) + (1 : Int32) + (Int32.ofNat q.val)) % (3 : Int32))), (0 : Int32), (0 : Int32)] (Int32.ofNat k.val))) 3) (lget (lset (rmv [(Int32.ofNat i.val), (((Int32.ofNat i.val) + (1 : Int32) + (Int32.ofNat q.val)) % (3 : Int32)), ((3 : Int32) - (Int32.ofNat i.val) - (((Int32.ofNat i.val) + (1 : Int32) + (Int32.ofNat q.val)) % (3 : Int32))), (0 : Int32), (0 : Int32)] (Int32.ofNat k.val)) ((3 : Int32) - (1 : Int32)) 3) (Int32.ofNat j.val))) 4 = true) ∧ ((lapp (lunl (lapp (lunl (lapp (lapp (lapp T0 (Int32.ofNat i.val)) (((Int32.ofNat i.val) + (1 : Int32) + (Int32.ofNat q.val)) % (3 : Int32))) ((3 : Int32) - (Int32.ofNat i.val) - (((Int32.ofNat i.val) + (1 : Int32) + (Int32.ofNat q.val)) % (3 : Int32)))) (lget [(Int32.ofNat i.val), (((Int32.ofNat i.val) + (1 : Int32) + (Int32.ofNat q.val)) % (3 : Int32)), ((3 : Int32) - (Int32.ofNat i.val) - (((Int32.ofNat i.val) + (1 : Int32) + (Int32.ofNat q.val)) % (3 : Int32))), (0 : Int32), (0 : Int32)] (Int32.ofNat k.val))) 3) (lget (lset (rmv [(Int32.ofNat i.val), (((Int32.ofNat i.val) + (1 : Int32) + (Int32.ofNat q.val)) % (3 : Int32)), ((3 : Int32) - (Int32.ofNat i.val) - (((Int32.ofNat i.val) + (1 : Int32) + (Int32.ofNat q.val)) % (3 : Int32))), (0 : Int32), (0 : Int32)] (Int32.ofNat k.val)) ((3 : Int32) - (1 : Int32)) 3) (Int32.ofNat j.val))) 4).2.2.1 = lget (lset (rmv (lset (rmv [(Int32.ofNat i.val), (((Int32.ofNat i.val) + (1 : Int32) + (Int32.ofNat q.val)) % (3 : Int32)), ((3 : Int32) - (Int32.ofNat i.val) - (((Int32.ofNat i.val) + (1 : Int32) + (Int32.ofNat q.val)) % (3 : Int32))), (0 : Int32), (0 : Int32)] (Int32.ofNat k.val)) ((3 : Int32) - (1 : Int32)) 3) (Int32.ofNat j.val)) ((3 : Int32) - (1 : Int32)) 4) 0) ∧ (linb (lapp (lunl (lapp (lunl (lapp (lapp (lapp T0 (Int32.ofNat i.val)) (((Int32.ofNat i.val) + (1 : Int32) + (Int32.ofNat q.val)) % (3 : Int32))) ((3 : Int32) - (Int32.ofNat i.val) - (((Int32.ofNat i.val) + (1 : Int32) + (Int32.ofNat q.val)) % (3 : Int32)))) (lget [(Int32.ofNat i.val), (((Int32.ofNat i.val) + (1 : Int32) + (Int32.ofNat q.val)) % (3 : Int32)), ((3 : Int32) - (Int32.ofNat i.val) - (((Int32.ofNat i.val) + (1 : Int32) + (Int32.ofNat q.val)) % (3 : Int32))), (0 : Int32), (0 : Int32)] (Int32.ofNat k.val))) 3) (lget (lset (rmv [(Int32.ofNat i.val), (((Int32.ofNat i.val) + (1 : Int32) + (Int32.ofNat q.val)) % (3 : Int32)), ((3 : Int32) - (Int32.ofNat i.val) - (((Int32.ofNat i.val) + (1 : Int32) + (Int32.ofNat q.val)) % (3 : Int32))), (0 : Int32), (0 : Int32)] (Int32.ofNat k.val)) ((3 : Int32) - (1 : Int32)) 3) (Int32.ofNat j.val))) 4).2.1 (lget (lset (rmv (lset (rmv [(Int32.ofNat i.val), (((Int32.ofNat i.val) + (1 : Int32) + (Int32.ofNat q.val)) % (3 : Int32)), ((3 : Int32) - (Int32.ofNat i.val) - (((Int32.ofNat i.val) + (1 : Int32) + (Int32.ofNat q.val)) % (3 : Int32))), (0 : Int32), (0 : Int32)] (Int32.ofNat k.val)) ((3 : Int32) - (1 : Int32)) 3) (Int32.ofNat j.val)) ((3 : Int32) - (1 : Int32)) 4) 0) = true) ∧ (lget (lapp (lunl (lapp (lunl (lapp (lapp (lapp T0 (Int32.ofNat i.val)) (((Int32.ofNat i.val) + (1 : Int32) + (Int32.ofNat q.val)) % (3 : Int32))) ((3 : Int32) - (Int32.ofNat i.val) - (((Int32.ofNat i.val) + (1 : Int32) + (Int32.ofNat q.val)) % (3 : Int32)))) (lget [(Int32.ofNat i.val), (((Int32.ofNat i.val) + (1 : Int32) + (Int32.ofNat q.val)) % (3 : Int32)), ((3 : Int32) - (Int32.ofNat i.val) - (((Int32.ofNat i.val) + (1 : Int32) + (Int32.ofNat q.val)) % (3 : Int32))), (0 : Int32), (0 : Int32)] (Int32.ofNat k.val))) 3) (lget (lset (rmv [(Int32.ofNat i.val), (((Int32.ofNat i.val) + (1 : Int32) + (Int32.ofNat q.val)) % (3 : Int32)), ((3 : Int32) - (Int32.ofNat i.val) - (((Int32.ofNat i.val) + (1 : Int32) + (Int32.ofNat q.val)) % (3 : Int32))), (0 : Int32), (0 : Int32)] (Int32.ofNat k.val)) ((3 : Int32) - (1 : Int32)) 3) (Int32.ofNat j.val))) 4).2.1 (lget (lset (rmv (lset (rmv [(Int32.ofNat i.val), (((Int32.ofNat i.val) + (1 : Int32) + (Int32.ofNat q.val)) % (3 : Int32)), ((3 : Int32) - (Int32.ofNat i.val) - (((Int32.ofNat i.val) + (1 : Int32) + (Int32.ofNat q.val)) % (3 : Int32))), (0 : Int32), (0 : Int32)] (Int32.ofNat k.val)) ((3 : Int32) - (1 : Int32)) 3) (Int32.ofNat j.val)) ((3 : Int32) - (1 : Int32)) 4) 0) = lget (lset (rmv (lset (rmv [(Int32.ofNat i.val), (((Int32.ofNat i.val) + (1 : Int32) + (Int32.ofNat q.val)) % (3 : Int32)), ((3 : Int32) - (Int32.ofNat i.val) - (((Int32.ofNat i.val) + (1 : Int32) + (Int32.ofNat q.val)) % (3 : Int32))), (0 : Int32), (0 : Int32)] (Int32.ofNat k.val)) ((3 : Int32) - (1 : Int32)) 3) (Int32.ofNat j.val)) ((3 : Int32) - (1 : Int32)) 4) 1) ∧ (linb (lapp (lunl (lapp (lunl (lapp (lapp (lapp T0 (Int32.ofNat i.val)) (((Int32.ofNat i.val) + (1 : Int32) + (Int32.ofNat q.val)) % (3 : Int32))) ((3 : Int32) - (Int32.ofNat i.val) - (((Int32.ofNat i.val) + (1 : Int32) + (Int32.ofNat q.val)) % (3 : Int32)))) (lget [(Int32.ofNat i.val), (((Int32.ofNat i.val) + (1 : Int32) + (Int32.ofNat q.val)) % (3 : Int32)), ((3 : Int32) - (Int32.ofNat i.val) - (((Int32.ofNat i.val) + (1 : Int32) + (Int32.ofNat q.val)) % (3 : Int32))), (0 : Int32), (0 : Int32)] (Int32.ofNat k.val))) 3) (lget (lset (rmv [(Int32.ofNat i.val), (((Int32.ofNat i.val) + (1 : Int32) + (Int32.ofNat q.val)) % (3 : Int32)), ((3 : Int32) - (Int32.ofNat i.val) - (((Int32.ofNat i.val) + (1 : Int32) + (Int32.ofNat q.val)) % (3 : Int32))), (0 : Int32), (0 : Int32)] (Int32.ofNat k.val)) ((3 : Int32) - (1 : Int32)) 3) (Int32.ofNat j.val))) 4).2.1 (lget (lset (rmv (lset (rmv [(Int32.ofNat i.val), (((Int32.ofNat i.val) + (1 : Int32) + (Int32.ofNat q.val)) % (3 : Int32)), ((3 : Int32) - (Int32.ofNat i.val) - (((Int32.ofNat i.val) + (1 : Int32) + (Int32.ofNat q.val)) % (3 : Int32))), (0 : Int32), (0 : Int32)] (Int32.ofNat k.val)) ((3 : Int32) - (1 : Int32)) 3) (Int32.ofNat j.val)) ((3 : Int32) - (1 : Int32)) 4) 1) = true) ∧ (lget (lapp (lunl (lapp (lunl (lapp (lapp (lapp T0 (Int32.ofNat i.val)) (((Int32.ofNat i.val) + (1 : Int32) + (Int32.ofNat q.val)) % (3 : Int32))) ((3 : Int32) - (Int32.ofNat i.val) - (((Int32.ofNat i.val) + (1 : Int32) + (Int32.ofNat q.val)) % (3 : Int32)))) (lget [(Int32.ofNat i.val), (((Int32.ofNat i.val) + (1 : Int32) + (Int32.ofNat q.val)) % (3 : Int32)), ((3 : Int32) - (Int32.ofNat i.val) - (((Int32.ofNat i.val) + (1 : Int32) + (Int32.ofNat q.val)) % (3 : Int32))), (0 : Int32), (0 : Int32)] (Int32.ofNat k.val))) 3) (lget (lset (rmv [(Int32.ofNat i.val), (((Int32.ofNat i.val) + (1 : Int32) + (Int32.ofNat q.val)) % (3 : Int32)), ((3 : Int32) - (Int32.ofNat i.val) - (((Int32.ofNat i.val) + (1 : Int32) + (Int32.ofNat q.val)) % (3 : Int32))), (0 : Int32), (0 : Int32)] (Int32.ofNat k.val)) ((3 : Int32) - (1 : Int32)) 3) (Int32.ofNat j.val))) 4).2.1 (lget (lset (rmv (lset (rmv [(Int32.ofNat i.val), (((Int32.ofNat i.val) + (1 : Int32) + (Int32.ofNat q.val)) % (3 : Int32)), ((3 : Int32) - (Int32.ofNat i.val) - (((Int32.ofNat i.val) + (1 : Int32) + (Int32.ofNat q.val)) % (3 : Int32))), (0 : Int32), (0 : Int32)] (Int32.ofNat k.val)) ((3 : Int32) - (1 : Int32)) 3) (Int32.ofNat j.val)) ((3 : Int32) - (1 : Int32)) 4) 1) = lget (lset (rmv (lset (rmv [(Int32.ofNat i.val), (((Int32.ofNat i.val) + (1 : Int32) + (Int32.ofNat q.val)) % (3 : Int32)), ((3 : Int32) - (Int32.ofNat i.val) - (((Int32.ofNat i.val) + (1 : Int32) + (Int32.ofNat q.val)) % (3 : Int32))), (0 : Int32), (0 : Int32)] (Int32.ofNat k.val)) ((3 : Int32) - (1 : Int32)) 3) (Int32.ofNat j.val)) ((3 : Int32) - (1 : Int32)) 4) 2) ∧ (linb (lapp (lunl (lapp (lunl (lapp (lapp (lapp T0 (Int32.ofNat i.val)) (((Int32.ofNat i.val) + (1 : Int32) + (Int32.ofNat q.val)) % (3 : Int32))) ((3 : Int32) - (Int32.ofNat i.val) - (((Int32.ofNat i.val) + (1 : Int32) + (Int32.ofNat q.val)) % (3 : Int32)))) (lget [(Int32.ofNat i.val), (((Int32.ofNat i.val) + (1 : Int32) + (Int32.ofNat q.val)) % (3 : Int32)), ((3 : Int32) - (Int32.ofNat i.val) - (((Int32.ofNat i.val) + (1 : Int32) + (Int32.ofNat q.val)) % (3 : Int32))), (0 : Int32), (0 : Int32)] (Int32.ofNat k.val))) 3) (lget (lset (rmv [(Int32.ofNat i.val), (((Int32.ofNat i.val) + (1 : Int32) + (Int32.ofNat q.val)) % (3 : Int32)), ((3 : Int32) - (Int32.ofNat i.val) - (((Int32.ofNat i.val) + (1 : Int32) + (Int32.ofNat q.val)) % (3 : Int32))), (0 : Int32), (0 : Int32)] (Int32.ofNat k.val)) ((3 : Int32) - (1 : Int32)) 3) (Int32.ofNat j.val))) 4).2.1 (lget (lset (rmv (lset (rmv [(Int32.ofNat i.val), (((Int32.ofNat i.val) + (1 : Int32) + (Int32.ofNat q.val)) % (3 : Int32)), ((3 : Int32) - (Int32.ofNat i.val) - (((Int32.ofNat i.val) + (1 : Int32) + (Int32.ofNat q.val)) % (3 : Int32))), (0 : Int32), (0 : Int32)] (Int32.ofNat k.val)) ((3 : Int32) - (1 : Int32)) 3) (Int32.ofNat j.val)) ((3 : Int32) - (1 : Int32)) 4) 2) = true) ∧ (lget (lapp (lunl (lapp (lunl (lapp (lapp (lapp T0 (Int32.ofNat i.val)) (((Int32.ofNat i.val) + (1 : Int32) + (Int32.ofNat q.val)) % (3 : Int32))) ((3 : Int32) - (Int32.ofNat i.val) - (((Int32.ofNat i.val) + (1 : Int32) + (Int32.ofNat q.val)) % (3 : Int32)))) (lget [(Int32.ofNat i.val), (((Int32.ofNat i.val) + (1 : Int32) + (Int32.ofNat q.val)) % (3 : Int32)), ((3 : Int32) - (Int32.ofNat i.val) - (((Int32.ofNat i.val) + (1 : Int32) + (Int32.ofNat q.val)) % (3 : Int32))), (0 : Int32), (0 : Int32)] (Int32.ofNat k.val))) 3) (lget (lset (rmv [(Int32.ofNat i.val), (((Int32.ofNat i.val) + (1 : Int32) + (Int32.ofNat q.val)) % (3 : Int32)), ((3 : Int32) - (Int32.ofNat i.val) - (((Int32.ofNat i.val) + (1 : Int32) + (Int32.ofNat q.val)) % (3 : Int32))), (0 : Int32), (0 : Int32)] (Int32.ofNat k.val)) ((3 : Int32) - (1 : Int32)) 3) (Int32.ofNat j.val))) 4).2.1 (lget (lset (rmv (lset (rmv [(Int32.ofNat i.val), (((Int32.ofNat i.val) + (1 : Int32) + (Int32.ofNat q.val)) % (3 : Int32)), ((3 : Int32) - (Int32.ofNat i.val) - (((Int32.ofNat i.val) + (1 : Int32) + (Int32.ofNat q.val)) % (3 : Int32))), (0 : Int32), (0 : Int32)] (Int32.ofNat k.val)) ((3 : Int32) - (1 : Int32)) 3) (Int32.ofNat j.val)) ((3 : Int32) - (1 : Int32)) 4) 2) = -1) := by decide +kernel
theorem d0_0 : Dc code 0 (.iload_n 0) 1 1 := ⟨at_0, rfl⟩
theorem d0_1 : Dc code 1 (.iconst 3) 1 2 := ⟨at_1, rfl⟩
theorem d0_2 : Dc code 2 (.invokestatic 8) 3 5 := ⟨at_2, rfl⟩
theorem d0_5 : Dc code 5 (.istore 5) 2 7 := ⟨at_5, rfl⟩
theorem d0_7 : Dc code 7 (.iload 5) 2 9 := ⟨at_7, rfl⟩
theorem d0_9 : Dc code 9 (.iconst 1) 1 10 := ⟨at_9, rfl⟩
theorem d0_10 : Dc code 10 (.iadd) 1 11 := ⟨at_10, rfl⟩
theorem d0_11 : Dc code 11 (.iload_n 1) 1 12 := ⟨at_11, rfl⟩
theorem d0_12 : Dc code 12 (.iconst 1) 1 13 := ⟨at_12, rfl⟩
theorem d0_13 : Dc code 13 (.iand) 1 14 := ⟨at_13, rfl⟩
theorem d0_14 : Dc code 14 (.iadd) 1 15 := ⟨at_14, rfl⟩
theorem d0_15 : Dc code 15 (.iconst 3) 1 16 := ⟨at_15, rfl⟩
theorem d0_16 : Dc code 16 (.irem) 1 17 := ⟨at_16, rfl⟩
theorem d0_17 : Dc code 17 (.istore 6) 2 19 := ⟨at_17, rfl⟩
theorem d0_19 : Dc code 19 (.iconst 3) 1 20 := ⟨at_19, rfl⟩
theorem d0_20 : Dc code 20 (.iload 5) 2 22 := ⟨at_20, rfl⟩
theorem d0_22 : Dc code 22 (.isub) 1 23 := ⟨at_22, rfl⟩
theorem d0_23 : Dc code 23 (.iload 6) 2 25 := ⟨at_23, rfl⟩
theorem d0_25 : Dc code 25 (.isub) 1 26 := ⟨at_25, rfl⟩
theorem d0_26 : Dc code 26 (.istore 7) 2 28 := ⟨at_26, rfl⟩
theorem d0_28 : Dc code 28 (.iconst 5) 1 29 := ⟨at_28, rfl⟩
theorem d0_29 : Dc code 29 (.newarray .int) 2 31 := ⟨at_29, rfl⟩
theorem d0_31 : Dc code 31 (.astore 8) 2 33 := ⟨at_31, rfl⟩
theorem d0_33 : Dc code 33 (.aload 8) 2 35 := ⟨at_33, rfl⟩
theorem d0_35 : Dc code 35 (.iconst 0) 1 36 := ⟨at_35, rfl⟩
theorem d0_36 : Dc code 36 (.iload 5) 2 38 := ⟨at_36, rfl⟩
theorem d0_38 : Dc code 38 (.iastore) 1 39 := ⟨at_38, rfl⟩
theorem d0_39 : Dc code 39 (.aload 8) 2 41 := ⟨at_39, rfl⟩
theorem d0_41 : Dc code 41 (.iconst 1) 1 42 := ⟨at_41, rfl⟩
theorem d0_42 : Dc code 42 (.iload 6) 2 44 := ⟨at_42, rfl⟩
theorem d0_44 : Dc code 44 (.iastore) 1 45 := ⟨at_44, rfl⟩
theorem d0_45 : Dc code 45 (.aload 8) 2 47 := ⟨at_45, rfl⟩
theorem d0_47 : Dc code 47 (.iconst 2) 1 48 := ⟨at_47, rfl⟩
theorem d0_48 : Dc code 48 (.iload 7) 2 50 := ⟨at_48, rfl⟩
theorem d0_50 : Dc code 50 (.iastore) 1 51 := ⟨at_50, rfl⟩
theorem d0_51 : Dc code 51 (.iload_n 2) 1 52 := ⟨at_51, rfl⟩
theorem d0_52 : Dc code 52 (.iconst 3) 1 53 := ⟨at_52, rfl⟩
theorem d0_53 : Dc code 53 (.invokestatic 8) 3 56 := ⟨at_53, rfl⟩
theorem d0_56 : Dc code 56 (.iconst 1) 1 57 := ⟨at_56, rfl⟩
theorem d0_57 : Dc code 57 (.iadd) 1 58 := ⟨at_57, rfl⟩
theorem d0_58 : Dc code 58 (.istore 9) 2 60 := ⟨at_58, rfl⟩
theorem d0_60 : Dc code 60 (.new 14) 3 63 := ⟨at_60, rfl⟩
theorem d0_63 : Dc code 63 (.dup) 1 64 := ⟨at_63, rfl⟩
theorem d0_64 : Dc code 64 (.iconst 5) 1 65 := ⟨at_64, rfl⟩
theorem d0_65 : Dc code 65 (.invokespecial 16) 3 68 := ⟨at_65, rfl⟩
theorem d0_68 : Dc code 68 (.astore 10) 2 70 := ⟨at_68, rfl⟩
theorem d0_70 : Dc code 70 (.aload 10) 2 72 := ⟨at_70, rfl⟩
theorem d0_72 : Dc code 72 (.aload 8) 2 74 := ⟨at_72, rfl⟩
theorem d0_74 : Dc code 74 (.iconst 0) 1 75 := ⟨at_74, rfl⟩
theorem d0_75 : Dc code 75 (.iaload) 1 76 := ⟨at_75, rfl⟩
theorem d0_76 : Dc code 76 (.invokevirtual 19) 3 79 := ⟨at_76, rfl⟩
theorem d0_79 : Dc code 79 (.iload 9) 2 81 := ⟨at_79, rfl⟩
theorem d0_81 : Dc code 81 (.iconst 1) 1 82 := ⟨at_81, rfl⟩
theorem d0_82 : Bc code 82 (.if_icmp .le 12) (12) 85 94 := ⟨at_82, rfl, by decide, by decide⟩
theorem d0_85 : Dc code 85 (.aload 10) 2 87 := ⟨at_85, rfl⟩
theorem d0_87 : Dc code 87 (.aload 8) 2 89 := ⟨at_87, rfl⟩
theorem d0_89 : Dc code 89 (.iconst 1) 1 90 := ⟨at_89, rfl⟩
theorem d0_90 : Dc code 90 (.iaload) 1 91 := ⟨at_90, rfl⟩
theorem d0_91 : Dc code 91 (.invokevirtual 19) 3 94 := ⟨at_91, rfl⟩
theorem d0_94 : Dc code 94 (.iload 9) 2 96 := ⟨at_94, rfl⟩
theorem d0_96 : Dc code 96 (.iconst 2) 1 97 := ⟨at_96, rfl⟩
theorem d0_97 : Bc code 97 (.if_icmp .le 12) (12) 100 109 := ⟨at_97, rfl, by decide, by decide⟩
theorem d0_100 : Dc code 100 (.aload 10) 2 102 := ⟨at_100, rfl⟩
theorem d0_102 : Dc code 102 (.aload 8) 2 104 := ⟨at_102, rfl⟩
theorem d0_104 : Dc code 104 (.iconst 2) 1 105 := ⟨at_104, rfl⟩
theorem d0_105 : Dc code 105 (.iaload) 1 106 := ⟨at_105, rfl⟩
theorem d0_106 : Dc code 106 (.invokevirtual 19) 3 109 := ⟨at_106, rfl⟩
theorem d0_109 : Dc code 109 (.iload_n 3) 1 110 := ⟨at_109, rfl⟩
theorem d0_110 : Dc code 110 (.iload 9) 2 112 := ⟨at_110, rfl⟩
theorem d0_112 : Dc code 112 (.invokestatic 8) 3 115 := ⟨at_112, rfl⟩
theorem d0_115 : Dc code 115 (.istore 11) 2 117 := ⟨at_115, rfl⟩
theorem d0_117 : Dc code 117 (.aload 10) 2 119 := ⟨at_117, rfl⟩
theorem d0_119 : Dc code 119 (.aload 8) 2 121 := ⟨at_119, rfl⟩
theorem d0_121 : Dc code 121 (.iload 11) 2 123 := ⟨at_121, rfl⟩
theorem d0_123 : Dc code 123 (.iaload) 1 124 := ⟨at_123, rfl⟩
theorem d0_124 : Dc code 124 (.invokevirtual 22) 3 127 := ⟨at_124, rfl⟩
theorem d0_127 : Dc code 127 (.aload 8) 2 129 := ⟨at_127, rfl⟩
theorem d0_129 : Dc code 129 (.iload 11) 2 131 := ⟨at_129, rfl⟩
theorem d0_131 : Dc code 131 (.invokestatic 25) 3 134 := ⟨at_131, rfl⟩
theorem d0_134 : Dc code 134 (.astore 12) 2 136 := ⟨at_134, rfl⟩
theorem d0_136 : Dc code 136 (.aload 12) 2 138 := ⟨at_136, rfl⟩
theorem d0_138 : Dc code 138 (.iload 9) 2 140 := ⟨at_138, rfl⟩
theorem d0_140 : Dc code 140 (.iconst 1) 1 141 := ⟨at_140, rfl⟩
theorem d0_141 : Dc code 141 (.isub) 1 142 := ⟨at_141, rfl⟩
theorem d0_142 : Dc code 142 (.iconst 3) 1 143 := ⟨at_142, rfl⟩
theorem d0_143 : Dc code 143 (.iastore) 1 144 := ⟨at_143, rfl⟩
theorem d0_144 : Dc code 144 (.aload 10) 2 146 := ⟨at_144, rfl⟩
theorem d0_146 : Dc code 146 (.iconst 3) 1 147 := ⟨at_146, rfl⟩
theorem d0_147 : Dc code 147 (.invokevirtual 19) 3 150 := ⟨at_147, rfl⟩
theorem d0_150 : Dc code 150 (.iload 4) 2 152 := ⟨at_150, rfl⟩
theorem d0_152 : Dc code 152 (.iload 9) 2 154 := ⟨at_152, rfl⟩
theorem d0_154 : Dc code 154 (.invokestatic 8) 3 157 := ⟨at_154, rfl⟩
theorem d0_157 : Dc code 157 (.istore 13) 2 159 := ⟨at_157, rfl⟩
theorem d0_159 : Dc code 159 (.aload 10) 2 161 := ⟨at_159, rfl⟩
theorem d0_161 : Dc code 161 (.aload 12) 2 163 := ⟨at_161, rfl⟩
theorem d0_163 : Dc code 163 (.iload 13) 2 165 := ⟨at_163, rfl⟩
theorem d0_165 : Dc code 165 (.iaload) 1 166 := ⟨at_165, rfl⟩
theorem d0_166 : Dc code 166 (.invokevirtual 22) 3 169 := ⟨at_166, rfl⟩
theorem d0_169 : Dc code 169 (.aload 12) 2 171 := ⟨at_169, rfl⟩
theorem d0_171 : Dc code 171 (.iload 13) 2 173 := ⟨at_171, rfl⟩
theorem d0_173 : Dc code 173 (.invokestatic 25) 3 176 := ⟨at_173, rfl⟩
theorem d0_176 : Dc code 176 (.astore 14) 2 178 := ⟨at_176, rfl⟩
theorem d0_178 : Dc code 178 (.aload 14) 2 180 := ⟨at_178, rfl⟩
theorem d0_180 : Dc code 180 (.iload 9) 2 182 := ⟨at_180, rfl⟩
theorem d0_182 : Dc code 182 (.iconst 1) 1 183 := ⟨at_182, rfl⟩
theorem d0_183 : Dc code 183 (.isub) 1 184 := ⟨at_183, rfl⟩
theorem d0_184 : Dc code 184 (.iconst 4) 1 185 := ⟨at_184, rfl⟩
theorem d0_185 : Dc code 185 (.iastore) 1 186 := ⟨at_185, rfl⟩
theorem d0_186 : Dc code 186 (.aload 10) 2 188 := ⟨at_186, rfl⟩
theorem d0_188 : Dc code 188 (.iconst 4) 1 189 := ⟨at_188, rfl⟩
theorem d0_189 : Dc code 189 (.invokevirtual 19) 3 192 := ⟨at_189, rfl⟩
theorem d0_192 : Dc code 192 (.aload 10) 2 194 := ⟨at_192, rfl⟩
theorem d0_194 : Dc code 194 (.invokevirtual 29) 3 197 := ⟨at_194, rfl⟩
theorem d0_197 : Dc code 197 (.aload 14) 2 199 := ⟨at_197, rfl⟩
theorem d0_199 : Dc code 199 (.iconst 0) 1 200 := ⟨at_199, rfl⟩
theorem d0_200 : Dc code 200 (.iaload) 1 201 := ⟨at_200, rfl⟩
theorem d0_201 : Bc code 201 (.if_icmp .eq 5) (5) 204 206 := ⟨at_201, rfl, by decide, by decide⟩
theorem d0_204 : Dc code 204 (.iconst 0) 1 205 := ⟨at_204, rfl⟩
theorem d0_205 : Dc code 205 (.ireturn) 1 206 := ⟨at_205, rfl⟩
theorem d0_206 : Dc code 206 (.aload 10) 2 208 := ⟨at_206, rfl⟩
theorem d0_208 : Dc code 208 (.aload 14) 2 210 := ⟨at_208, rfl⟩
theorem d0_210 : Dc code 210 (.iconst 0) 1 211 := ⟨at_210, rfl⟩
theorem d0_211 : Dc code 211 (.iaload) 1 212 := ⟨at_211, rfl⟩
theorem d0_212 : Dc code 212 (.invokevirtual 33) 3 215 := ⟨at_212, rfl⟩
theorem d0_215 : Dc code 215 (.iload 9) 2 217 := ⟨at_215, rfl⟩
theorem d0_217 : Dc code 217 (.iconst 1) 1 218 := ⟨at_217, rfl⟩
theorem d0_218 : Bc code 218 (.if_icmp .le 10) (10) 221 228 := ⟨at_218, rfl, by decide, by decide⟩
theorem d0_221 : Dc code 221 (.aload 14) 2 223 := ⟨at_221, rfl⟩
theorem d0_223 : Dc code 223 (.iconst 1) 1 224 := ⟨at_223, rfl⟩
theorem d0_224 : Dc code 224 (.iaload) 1 225 := ⟨at_224, rfl⟩
theorem d0_225 : Bc code 225 (.goto 4) (4) 228 229 := ⟨at_225, rfl, by decide, by decide⟩
theorem d0_228 : Dc code 228 (.iconst (-1)) 1 229 := ⟨at_228, rfl⟩
theorem d0_229 : Bc code 229 (.if_icmp .eq 5) (5) 232 234 := ⟨at_229, rfl, by decide, by decide⟩
theorem d0_232 : Dc code 232 (.iconst 0) 1 233 := ⟨at_232, rfl⟩
theorem d0_233 : Dc code 233 (.ireturn) 1 234 := ⟨at_233, rfl⟩
theorem d0_234 : Dc code 234 (.iload 9) 2 236 := ⟨at_234, rfl⟩
theorem d0_236 : Dc code 236 (.iconst 1) 1 237 := ⟨at_236, rfl⟩
theorem d0_237 : Bc code 237 (.if_icmp .le 31) (31) 240 268 := ⟨at_237, rfl, by decide, by decide⟩
theorem d0_240 : Dc code 240 (.aload 10) 2 242 := ⟨at_240, rfl⟩
theorem d0_242 : Dc code 242 (.aload 14) 2 244 := ⟨at_242, rfl⟩
theorem d0_244 : Dc code 244 (.iconst 1) 1 245 := ⟨at_244, rfl⟩
theorem d0_245 : Dc code 245 (.iaload) 1 246 := ⟨at_245, rfl⟩
theorem d0_246 : Dc code 246 (.invokevirtual 33) 3 249 := ⟨at_246, rfl⟩
theorem d0_249 : Dc code 249 (.iload 9) 2 251 := ⟨at_249, rfl⟩
theorem d0_251 : Dc code 251 (.iconst 2) 1 252 := ⟨at_251, rfl⟩
theorem d0_252 : Bc code 252 (.if_icmp .le 10) (10) 255 262 := ⟨at_252, rfl, by decide, by decide⟩
theorem d0_255 : Dc code 255 (.aload 14) 2 257 := ⟨at_255, rfl⟩
theorem d0_257 : Dc code 257 (.iconst 2) 1 258 := ⟨at_257, rfl⟩
theorem d0_258 : Dc code 258 (.iaload) 1 259 := ⟨at_258, rfl⟩
theorem d0_259 : Bc code 259 (.goto 4) (4) 262 263 := ⟨at_259, rfl, by decide, by decide⟩
theorem d0_262 : Dc code 262 (.iconst (-1)) 1 263 := ⟨at_262, rfl⟩
theorem d0_263 : Bc code 263 (.if_icmp .eq 5) (5) 266 268 := ⟨at_263, rfl, by decide, by decide⟩
theorem d0_266 : Dc code 266 (.iconst 0) 1 267 := ⟨at_266, rfl⟩
theorem d0_267 : Dc code 267 (.ireturn) 1 268 := ⟨at_267, rfl⟩
theorem d0_268 : Dc code 268 (.iload 9) 2 270 := ⟨at_268, rfl⟩
theorem d0_270 : Dc code 270 (.iconst 2) 1 271 := ⟨at_270, rfl⟩
theorem d0_271 : Bc code 271 (.if_icmp .le 18) (18) 274 289 := ⟨at_271, rfl, by decide, by decide⟩
theorem d0_274 : Dc code 274 (.aload 10) 2 276 := ⟨at_274, rfl⟩
theorem d0_276 : Dc code 276 (.aload 14) 2 278 := ⟨at_276, rfl⟩
theorem d0_278 : Dc code 278 (.iconst 2) 1 279 := ⟨at_278, rfl⟩
theorem d0_279 : Dc code 279 (.iaload) 1 280 := ⟨at_279, rfl⟩
theorem d0_280 : Dc code 280 (.invokevirtual 33) 3 283 := ⟨at_280, rfl⟩
theorem d0_283 : Dc code 283 (.iconst (-1)) 1 284 := ⟨at_283, rfl⟩
theorem d0_284 : Bc code 284 (.if_icmp .eq 5) (5) 287 289 := ⟨at_284, rfl, by decide, by decide⟩
theorem d0_287 : Dc code 287 (.iconst 0) 1 288 := ⟨at_287, rfl⟩
theorem d0_288 : Dc code 288 (.ireturn) 1 289 := ⟨at_288, rfl⟩
theorem d0_289 : Dc code 289 (.iconst 1) 1 290 := ⟨at_289, rfl⟩
theorem d0_290 : Dc code 290 (.ireturn) 1 291 := ⟨at_290, rfl⟩
theorem pd_1 : parseMethodDescriptor "(II)I" = some ⟨[.int, .int], (some .int)⟩ := by decide +kernel
theorem pd_2 : parseMethodDescriptor "(I)V" = some ⟨[.int], none⟩ := by decide +kernel
theorem pd_4 : parseMethodDescriptor "(I)V" = some ⟨[.int], none⟩ := by decide +kernel
theorem pd_6 : parseMethodDescriptor "(I)V" = some ⟨[.int], none⟩ := by decide +kernel
theorem pd_7 : parseMethodDescriptor "([II)[I" = some ⟨[.array .int, .int], (some (.array .int))⟩ := by decide +kernel
theorem pd_8 : parseMethodDescriptor "()I" = some ⟨[], (some .int)⟩ := by decide +kernel
theorem pd_9 : parseMethodDescriptor "(I)I" = some ⟨[.int], (some .int)⟩ := by decide +kernel
theorem ef_law (m : MethodId) (x0 : Int32) (x1 : Int32) (x2 : Int32) (x3 : Int32) (x4 : Int32) : entryFrame m #[.int x0, .int x1, .int x2, .int x3, .int x4] maxLocals = mkF m 0 #[.val (.int x0), .val (.int x1), .val (.int x2), .val (.int x3), .val (.int x4), .unset, .unset, .unset, .unset, .unset, .unset, .unset, .unset, .unset, .unset] [] := by first | (simp [entryFrame, mkF, argsToLocals, Value.category, maxLocals]; done) | rfl
set_option maxRecDepth 65536 in
set_option maxHeartbeats 40000000 in
theorem m_law (l : Launch) (Z : State) (a0 : Array Value) (hw : ∀ d ∈ tables_1, d.before a0 Z = true) (n0 : Nat) (x0 : Int32) (x1 : Int32) (x2 : Int32) (x3 : Int32) (x4 : Int32) (h : Heap) (hn : n0 ≤ h.size) : Met n0 l Z x code maxLocals ret room_1 tables_1 #[.int x0, .int x1, .int x2, .int x3, .int x4] h (fun v _ => v = some (.int 1)) := by
  refine enter (plainFor_of_name (by first | (simp [plainName, overriddenIn, x]; done) | decide +kernel)) (fun m => ef_law m x0 x1 x2 x3 x4) hn ?_
  intro p e s m below meth c T K S
  refine iload_n K S rfl d0_0 ?_
  refine iconst K S (x := (3 : Int32)) rfl d0_1 ?_
  refine callS K S (W := 0) (m_mod l Z a0 hw n0 x0 (3 : Int32) h (Sle S) (by decide)) (hwi hw 0 rfl) (hwi hw 1 rfl) (hwi hw 3 rfl) (hwi hw 2 rfl) (by decide) (by decide) (by decide) (by decide) (by decide) rfl (argsL := [.int x0, .int (3 : Int32)]) rfl (lenOf pd_1 rfl) (rest := []) rfl (Nat.le_of_eq rfl) d0_2 (pr fun T r2 pr2 S => ?_)
  replace pr2 : 0 ≤ r2.toInt ∧ r2.toInt < 3 := pr2
  obtain ⟨i, hi, vi⟩ := own_fin 3 (by decide) r2 (by omega) (by omega)
  show Wp n0 p e _ s below _ T (mkF m 5 #[.val (.int x0), .val (.int x1), .val (.int x2), .val (.int x3), .val (.int x4), .unset, .unset, .unset, .unset, .unset, .unset, .unset, .unset, .unset, .unset] [.int r2])
  refine istore K S (l' := #[.val (.int x0), .val (.int x1), .val (.int x2), .val (.int x3), .val (.int x4), .val (.int r2), .unset, .unset, .unset, .unset, .unset, .unset, .unset, .unset, .unset]) rfl d0_5 ?_
  refine iload K S rfl d0_7 ?_
  refine iconst K S (x := (1 : Int32)) rfl d0_9 ?_
  refine iadd K S d0_10 ?_
  refine nmI fun t10 ht10 => ?_
  have ft10 : (t10.toInt - (r2.toInt + 1)) % 4294967296 = 0 := by rw [ht10]; exact c_iadd r2 (1 : Int32)
  have rt10 := rng32 t10
  refine iload_n K S rfl d0_11 ?_
  refine iconst K S (x := (1 : Int32)) rfl d0_12 ?_
  refine iand K S d0_13 ?_
  refine nmI fun t13 ht13 => ?_
  have ft13 : t13.toInt = x1.toInt % 2 := by rw [ht13]; exact c_mask x1 (1 : Int32) 1 (by decide) (by decide)
  have rt13 := rng32 t13
  refine iadd K S d0_14 ?_
  refine nmI fun t14 ht14 => ?_
  have ft14 : (t14.toInt - (t10.toInt + t13.toInt)) % 4294967296 = 0 := by rw [ht14]; exact c_iadd t10 t13
  have rt14 := rng32 t14
  refine iconst K S (x := (3 : Int32)) rfl d0_15 ?_
  refine irem K S (by decide) d0_16 ?_
  refine nmI fun t16 ht16 => ?_
  have ft16 : t16.toInt = t14.toInt % 3 := by rw [ht16]; exact (c_irem t14 (3 : Int32) 3 rfl).1 (by omega)
  have rt16 := rng32 t16
  obtain ⟨q, hq, vq⟩ := own_fin 2 (by decide) t13 (by omega) (by omega)
  refine istore K S (l' := #[.val (.int x0), .val (.int x1), .val (.int x2), .val (.int x3), .val (.int x4), .val (.int r2), .val (.int t16), .unset, .unset, .unset, .unset, .unset, .unset, .unset, .unset]) rfl d0_17 ?_
  refine iconst K S (x := (3 : Int32)) rfl d0_19 ?_
  refine iload K S rfl d0_20 ?_
  refine isub K S d0_22 ?_
  refine nmI fun t22 ht22 => ?_
  have ft22 : (t22.toInt - (3 - r2.toInt)) % 4294967296 = 0 := by rw [ht22]; exact c_isub (3 : Int32) r2
  have rt22 := rng32 t22
  refine iload K S rfl d0_23 ?_
  refine isub K S d0_25 ?_
  refine nmI fun t25 ht25 => ?_
  have ft25 : (t25.toInt - (t22.toInt - t16.toInt)) % 4294967296 = 0 := by rw [ht25]; exact c_isub t22 t16
  have rt25 := rng32 t25
  refine istore K S (l' := #[.val (.int x0), .val (.int x1), .val (.int x2), .val (.int x3), .val (.int x4), .val (.int r2), .val (.int t16), .val (.int t25), .unset, .unset, .unset, .unset, .unset, .unset, .unset]) rfl d0_26 ?_
  refine iconst K S (x := (5 : Int32)) rfl d0_28 ?_
  refine newarr K S (cap := 5) (hwi hw 5 rfl) (by decide) (by decide) (by decide) (by decide) (by decide) d0_29 fun T h29_1 o29 z_o29 g_o29 X A_o29 S => ?_
  replace A_o29 : VA Z h29_1 o29 .int ([.int (0 : Int32), .int (0 : Int32), .int (0 : Int32), .int (0 : Int32), .int (0 : Int32)]) := A_o29
  clear X
  refine astore K S (l' := #[.val (.int x0), .val (.int x1), .val (.int x2), .val (.int x3), .val (.int x4), .val (.int r2), .val (.int t16), .val (.int t25), .val (.ref o29), .unset, .unset, .unset, .unset, .unset, .unset]) rfl rfl d0_31 ?_
  refine aload K S rfl rfl d0_33 ?_
  refine iconst K S (x := (0 : Int32)) rfl d0_35 ?_
  refine iload K S rfl d0_36 ?_
  refine iastore K S (i := 0) A_o29 ⟨by decide, rfl⟩ (show (0 : Nat) < 5 by decide) g_o29 d0_38 fun T h38_2 W B S => ?_
  clear W
  replace A_o29 : VA Z h38_2 o29 .int ([.int r2, .int (0 : Int32), .int (0 : Int32), .int (0 : Int32), .int (0 : Int32)]) := B
  refine aload K S rfl rfl d0_39 ?_
  refine iconst K S (x := (1 : Int32)) rfl d0_41 ?_
  refine iload K S rfl d0_42 ?_
  refine iastore K S (i := 1) A_o29 ⟨by decide, rfl⟩ (show (1 : Nat) < 5 by decide) g_o29 d0_44 fun T h44_3 W B S => ?_
  clear W
  replace A_o29 : VA Z h44_3 o29 .int ([.int r2, .int t16, .int (0 : Int32), .int (0 : Int32), .int (0 : Int32)]) := B
  refine aload K S rfl rfl d0_45 ?_
  refine iconst K S (x := (2 : Int32)) rfl d0_47 ?_
  refine iload K S rfl d0_48 ?_
  refine iastore K S (i := 2) A_o29 ⟨by decide, rfl⟩ (show (2 : Nat) < 5 by decide) g_o29 d0_50 fun T h50_4 W B S => ?_
  clear W
  replace A_o29 : VA Z h50_4 o29 .int ([.int r2, .int t16, .int t25, .int (0 : Int32), .int (0 : Int32)]) := B
  refine iload_n K S rfl d0_51 ?_
  refine iconst K S (x := (3 : Int32)) rfl d0_52 ?_
  refine callS K S (W := 0) (m_mod l Z a0 hw n0 x2 (3 : Int32) h50_4 (Sle S) (by decide)) (hwi hw 0 rfl) (hwi hw 1 rfl) (hwi hw 3 rfl) (hwi hw 2 rfl) (by decide) (by decide) (by decide) (by decide) (by decide) rfl (argsL := [.int x2, .int (3 : Int32)]) rfl (lenOf pd_1 rfl) (rest := []) rfl (Nat.le_of_eq rfl) d0_53 (pr fun T r53 pr53 S => ?_)
  replace pr53 : 0 ≤ r53.toInt ∧ r53.toInt < 3 := pr53
  show Wp n0 p e _ s below _ T (mkF m 56 #[.val (.int x0), .val (.int x1), .val (.int x2), .val (.int x3), .val (.int x4), .val (.int r2), .val (.int t16), .val (.int t25), .val (.ref o29), .unset, .unset, .unset, .unset, .unset, .unset] [.int r53])
  refine iconst K S (x := (1 : Int32)) rfl d0_56 ?_
  refine iadd K S d0_57 ?_
  refine nmI fun t57 ht57 => ?_
  have ft57 : (t57.toInt - (r53.toInt + 1)) % 4294967296 = 0 := by rw [ht57]; exact c_iadd r53 (1 : Int32)
  have rt57 := rng32 t57
  refine istore K S (l' := #[.val (.int x0), .val (.int x1), .val (.int x2), .val (.int x3), .val (.int x4), .val (.int r2), .val (.int t16), .val (.int t25), .val (.ref o29), .val (.int t57), .unset, .unset, .unset, .unset, .unset]) rfl d0_58 ?_
  refine new K S (hwi hw 6 rfl) (hwi hw 7 rfl) (hwi hw 8 rfl) (by decide) (by decide) d0_60 fun T h60_5 o60 z_o60 g_o60 X E_o60 D S => ?_
  have n_o29_o60 : o29 ≠ o60 := by rw [z_o60]; exact Nat.ne_of_lt A_o29.lt
  replace A_o29 := A_o29.ext X
  have F_head_o60 : Fld Z h60_5 o60 "com/example/ipseity/ipseity/table/Links" "head" "I" (.int (0 : Int32)) := D (Or.inl (hwi hw 16 rfl)) (ty := .int) (by decide)
  have F_tail_o60 : Fld Z h60_5 o60 "com/example/ipseity/ipseity/table/Links" "tail" "I" (.int (0 : Int32)) := D (Or.inl (hwi hw 18 rfl)) (ty := .int) (by decide)
  have F_before_o60 : Fld Z h60_5 o60 "com/example/ipseity/ipseity/table/Links" "before" "[I" (.null) := D (Or.inr (hwi hw 20 rfl)) (ty := .array .int) (by decide)
  have F_after_o60 : Fld Z h60_5 o60 "com/example/ipseity/ipseity/table/Links" "after" "[I" (.null) := D (Or.inr (hwi hw 22 rfl)) (ty := .array .int) (by decide)
  clear D X
  refine dup K S rfl d0_63 ?_
  refine iconst K S (x := (5 : Int32)) rfl d0_64 ?_
  refine callC K S (W := 1) (m_init l Z a0 hw n0 o60 h60_5 (Sle S) g_o60 E_o60 F_before_o60 F_after_o60 F_head_o60 F_tail_o60) rfl rfl (hwi hw 9 rfl) (hwi hw 10 rfl) (hwi hw 11 rfl) (hwi hw 8 rfl) (by decide) (by decide) (by decide) (by decide) (by decide) rfl (argsL := [.int (5 : Int32)]) rfl (lenOf pd_2 rfl) (rest := [.ref o60]) rfl (Nat.le_of_eq rfl) d0_65 (ef fun T h65_6 hP S => ?_)
  obtain ⟨u, w, D, H, K1, yu, yw⟩ := hP
  clear F_before_o60
  clear F_after_o60
  clear F_head_o60
  clear F_tail_o60
  have n_o29_u : o29 ≠ u := Nat.ne_of_lt (Nat.lt_of_lt_of_le A_o29.lt yu)
  have n_o29_w : o29 ≠ w := Nat.ne_of_lt (Nat.lt_of_lt_of_le A_o29.lt yw)
  replace A_o29 := A_o29.keep K1 (ninS (by first | exact n_o29_o60 | exact Ne.symm n_o60_o29 | omega) nin0)
  replace E_o60 := H.1
  have n_o60_u := D.2.2.2.1
  have n_o60_w := D.2.2.2.2.1
  have n_u_w := D.2.2.2.2.2
  show Wp n0 p e _ s below _ T (mkF m 68 #[.val (.int x0), .val (.int x1), .val (.int x2), .val (.int x3), .val (.int x4), .val (.int r2), .val (.int t16), .val (.int t25), .val (.ref o29), .val (.int t57), .unset, .unset, .unset, .unset, .unset] [.ref o60])
  refine astore K S (l' := #[.val (.int x0), .val (.int x1), .val (.int x2), .val (.int x3), .val (.int x4), .val (.int r2), .val (.int t16), .val (.int t25), .val (.ref o29), .val (.int t57), .val (.ref o60), .unset, .unset, .unset, .unset]) rfl rfl d0_68 ?_
  refine aload K S rfl rfl d0_70 ?_
  refine aload K S rfl rfl d0_72 ?_
  refine iconst K S (x := (0 : Int32)) rfl d0_74 ?_
  refine iaload K S (v := .int r2) (i := 0) A_o29 ⟨by decide, rfl⟩ rfl d0_75 ?_
  have E_o60 := H.1
  refine callV K S (W := 0) (m_append l Z a0 hw n0 o60 u w r2 T0 h65_6 (Sle S) D H (by subst ht25 ht22 ht16 ht14 ht10 hi hq; exact own_a1 i)) E_o60 (hwi hw 23 rfl) (hwi hw 24 rfl) (hwi hw 26 rfl) (hwi hw 25 rfl) (hwi hw 27 rfl) (hwi hw 8 rfl) (by decide) (by decide) (by decide) (by decide) (by decide) rfl (argsL := [.int r2]) rfl (lenOf pd_4 rfl) (rest := []) rfl (Nat.le_of_eq rfl) d0_76 (ef fun T h76_7 hP S => ?_)
  obtain ⟨Y1, hY1⟩ : ∃ z, z = lapp T0 r2 := ⟨_, rfl⟩
  rw [← hY1] at hP
  obtain ⟨H, K1⟩ := hP
  replace A_o29 := A_o29.keep K1 (ninS (by first | exact n_o29_o60 | exact Ne.symm n_o60_o29 | omega) (ninS (by first | exact n_o29_u | exact Ne.symm n_u_o29 | omega) (ninS (by first | exact n_o29_w | exact Ne.symm n_w_o29 | omega) nin0)))
  replace E_o60 := H.1
  show Wp n0 p e _ s below _ T (mkF m 79 #[.val (.int x0), .val (.int x1), .val (.int x2), .val (.int x3), .val (.int x4), .val (.int r2), .val (.int t16), .val (.int t25), .val (.ref o29), .val (.int t57), .val (.ref o60), .unset, .unset, .unset, .unset] [])
  refine iload K S rfl d0_79 ?_
  refine iconst K S (x := (1 : Int32)) rfl d0_81 ?_
  refine icmpz_le K S d0_82 (fun (c82 : ¬ 1 < t57.toInt) => ?_) (fun (c82 : 1 < t57.toInt) => ?_)
  · refine iload K S rfl d0_94 ?_
    refine iconst K S (x := (2 : Int32)) rfl d0_96 ?_
    refine icmpz_le K S d0_97 (fun (c97 : ¬ 2 < t57.toInt) => ?_) (fun (c97 : 2 < t57.toInt) => ?_)
    rotate_left
    · exfalso; omega
    have hN : t57 = (1 : Int32) := own_eqz (show t57.toInt = 1 by omega)
    refine iload_n K S rfl d0_109 ?_
    refine iload K S rfl d0_110 ?_
    refine callS K S (W := 0) (m_mod l Z a0 hw n0 x3 t57 h76_7 (Sle S) (by omega)) (hwi hw 0 rfl) (hwi hw 1 rfl) (hwi hw 3 rfl) (hwi hw 2 rfl) (by decide) (by decide) (by decide) (by decide) (by decide) rfl (argsL := [.int x3, .int t57]) rfl (lenOf pd_1 rfl) (rest := []) rfl (Nat.le_of_eq rfl) d0_112 (pr fun T r112 pr112 S => ?_)
    obtain ⟨k, hk, vk⟩ := own_fin 1 (by decide) r112 (by omega) (by have := congrArg Int32.toInt hN; omega)
    show Wp n0 p e _ s below _ T (mkF m 115 #[.val (.int x0), .val (.int x1), .val (.int x2), .val (.int x3), .val (.int x4), .val (.int r2), .val (.int t16), .val (.int t25), .val (.ref o29), .val (.int t57), .val (.ref o60), .unset, .unset, .unset, .unset] [.int r112])
    refine istore K S (l' := #[.val (.int x0), .val (.int x1), .val (.int x2), .val (.int x3), .val (.int x4), .val (.int r2), .val (.int t16), .val (.int t25), .val (.ref o29), .val (.int t57), .val (.ref o60), .val (.int r112), .unset, .unset, .unset]) rfl d0_115 ?_
    refine aload K S rfl rfl d0_117 ?_
    refine aload K S rfl rfl d0_119 ?_
    refine iload K S rfl d0_121 ?_
    refine iaload K S (v := .int (lget ([r2, t16, t25, (0 : Int32), (0 : Int32)]) r112)) (i := r112.toNatClampNeg) (show VA Z h76_7 o29 .int (List.map Value.int ([r2, t16, t25, (0 : Int32), (0 : Int32)])) from A_o29) (linb_ix (by subst hN hY1 ht25 ht22 ht16 ht14 ht10 hi hq hk; exact (own_m1 i q k).1)) (linb_get (by subst hN hY1 ht25 ht22 ht16 ht14 ht10 hi hq hk; exact (own_m1 i q k).1)) d0_123 ?_
    have E_o60 := H.1
    refine callV K S (W := 0) (m_unlink l Z a0 hw n0 o60 u w (lget ([r2, t16, t25, (0 : Int32), (0 : Int32)]) r112) Y1 h76_7 (Sle S) D H (by subst hN hY1 ht25 ht22 ht16 ht14 ht10 hi hq hk; exact (own_m1 i q k).2.1)) E_o60 (hwi hw 32 rfl) (hwi hw 33 rfl) (hwi hw 35 rfl) (hwi hw 34 rfl) (hwi hw 36 rfl) (hwi hw 8 rfl) (by decide) (by decide) (by decide) (by decide) (by decide) rfl (argsL := [.int (lget ([r2, t16, t25, (0 : Int32), (0 : Int32)]) r112)]) rfl (lenOf pd_6 rfl) (rest := []) rfl (Nat.le_of_eq rfl) d0_124 (ef fun T h124_8 hP S => ?_)
    obtain ⟨Y2, hY2⟩ : ∃ z, z = lunl Y1 (lget ([r2, t16, t25, (0 : Int32), (0 : Int32)]) r112) := ⟨_, rfl⟩
    rw [← hY2] at hP
    obtain ⟨H, K1⟩ := hP
    replace A_o29 := A_o29.keep K1 (ninS (by first | exact n_o29_o60 | exact Ne.symm n_o60_o29 | omega) (ninS (by first | exact n_o29_u | exact Ne.symm n_u_o29 | omega) (ninS (by first | exact n_o29_w | exact Ne.symm n_w_o29 | omega) nin0)))
    replace E_o60 := H.1
    show Wp n0 p e _ s below _ T (mkF m 127 #[.val (.int x0), .val (.int x1), .val (.int x2), .val (.int x3), .val (.int x4), .val (.int r2), .val (.int t16), .val (.int t25), .val (.ref o29), .val (.int t57), .val (.ref o60), .val (.int r112), .unset, .unset, .unset] [])
    refine aload K S rfl rfl d0_127 ?_
    refine iload K S rfl d0_129 ?_
    refine callS K S (W := 0) (m_rem l Z a0 hw n0 o29 r112 ([r2, t16, t25, (0 : Int32), (0 : Int32)]) h124_8 (Sle S) A_o29 (by simp [lset, rmv])) (hwi hw 37 rfl) (hwi hw 38 rfl) (hwi hw 39 rfl) (hwi hw 2 rfl) (by decide) (by decide) (by decide) (by decide) (by decide) rfl (argsL := [.ref o29, .int r112]) rfl (lenOf pd_7 rfl) (rest := []) rfl (Nat.le_of_eq rfl) d0_131 (ea fun T r131 h131_9 hP S => ?_)
    obtain ⟨A_r131, g_r131, y_r131, K1⟩ := hP
    have n_o29_r131 : o29 ≠ r131 := Nat.ne_of_lt (Nat.lt_of_lt_of_le A_o29.lt y_r131)
    have n_o60_r131 : o60 ≠ r131 := Nat.ne_of_lt (Nat.lt_of_lt_of_le H.lts.1 y_r131)
    have n_u_r131 : u ≠ r131 := Nat.ne_of_lt (Nat.lt_of_lt_of_le H.lts.2.1 y_r131)
    have n_w_r131 : w ≠ r131 := Nat.ne_of_lt (Nat.lt_of_lt_of_le H.lts.2.2 y_r131)
    replace A_o29 := A_o29.keep K1 nin0
    replace H := H.keep K1 nin0 nin0 nin0
    show Wp n0 p e _ s below _ T (mkF m 134 #[.val (.int x0), .val (.int x1), .val (.int x2), .val (.int x3), .val (.int x4), .val (.int r2), .val (.int t16), .val (.int t25), .val (.ref o29), .val (.int t57), .val (.ref o60), .val (.int r112), .unset, .unset, .unset] [.ref r131])
    refine astore K S (l' := #[.val (.int x0), .val (.int x1), .val (.int x2), .val (.int x3), .val (.int x4), .val (.int r2), .val (.int t16), .val (.int t25), .val (.ref o29), .val (.int t57), .val (.ref o60), .val (.int r112), .val (.ref r131), .unset, .unset]) rfl rfl d0_134 ?_
    refine aload K S rfl rfl d0_136 ?_
    refine iload K S rfl d0_138 ?_
    refine iconst K S (x := (1 : Int32)) rfl d0_140 ?_
    refine isub K S d0_141 ?_
    refine nmI fun t141 ht141 => ?_
    have ft141 : (t141.toInt - (t57.toInt - 1)) % 4294967296 = 0 := by rw [ht141]; exact c_isub t57 (1 : Int32)
    have rt141 := rng32 t141
    refine iconst K S (x := (3 : Int32)) rfl d0_142 ?_
    refine iastore K S (i := t141.toNatClampNeg) A_r131 (linb_ix (by subst ht141 hY2 hN hY1 ht25 ht22 ht16 ht14 ht10 hi hq hk; exact (own_m1 i q k).2.2.1)) (linb_ml (by subst ht141 hY2 hN hY1 ht25 ht22 ht16 ht14 ht10 hi hq hk; exact (own_m1 i q k).2.2.1)) g_r131 d0_143 fun T h143_10 W B S => ?_
    replace A_o29 := A_o29.other W (by first | exact n_o29_r131 | exact Ne.symm n_r131_o29 | omega)
    replace H := H.keep (Keep.of_wr W) (ninS (by first | exact n_o60_r131 | exact Ne.symm n_r131_o60 | omega) nin0) (ninS (by first | exact n_u_r131 | exact Ne.symm n_r131_u | omega) nin0) (ninS (by first | exact n_w_r131 | exact Ne.symm n_r131_w | omega) nin0)
    clear W
    replace A_r131 : VA Z h143_10 r131 .int ((lset ((rmv ([r2, t16, t25, (0 : Int32), (0 : Int32)]) r112)) t141 (3 : Int32)).map Value.int) := (by rw [lset_map]; exact B)
    refine aload K S rfl rfl d0_144 ?_
    refine iconst K S (x := (3 : Int32)) rfl d0_146 ?_
    have E_o60 := H.1
    refine callV K S (W := 0) (m_append l Z a0 hw n0 o60 u w (3 : Int32) Y2 h143_10 (Sle S) D H (by subst ht141 hY2 hN hY1 ht25 ht22 ht16 ht14 ht10 hi hq hk; exact (own_m1 i q k).2.2.2)) E_o60 (hwi hw 23 rfl) (hwi hw 24 rfl) (hwi hw 26 rfl) (hwi hw 25 rfl) (hwi hw 27 rfl) (hwi hw 8 rfl) (by decide) (by decide) (by decide) (by decide) (by decide) rfl (argsL := [.int (3 : Int32)]) rfl (lenOf pd_4 rfl) (rest := []) rfl (Nat.le_of_eq rfl) d0_147 (ef fun T h147_11 hP S => ?_)
    obtain ⟨Y3, hY3⟩ : ∃ z, z = lapp Y2 (3 : Int32) := ⟨_, rfl⟩
    rw [← hY3] at hP
    obtain ⟨H, K1⟩ := hP
    replace A_o29 := A_o29.keep K1 (ninS (by first | exact n_o29_o60 | exact Ne.symm n_o60_o29 | omega) (ninS (by first | exact n_o29_u | exact Ne.symm n_u_o29 | omega) (ninS (by first | exact n_o29_w | exact Ne.symm n_w_o29 | omega) nin0)))
    replace A_r131 := A_r131.keep K1 (ninS (by first | exact n_r131_o60 | exact Ne.symm n_o60_r131 | omega) (ninS (by first | exact n_r131_u | exact Ne.symm n_u_r131 | omega) (ninS (by first | exact n_r131_w | exact Ne.symm n_w_r131 | omega) nin0)))
    replace E_o60 := H.1
    show Wp n0 p e _ s below _ T (mkF m 150 #[.val (.int x0), .val (.int x1), .val (.int x2), .val (.int x3), .val (.int x4), .val (.int r2), .val (.int t16), .val (.int t25), .val (.ref o29), .val (.int t57), .val (.ref o60), .val (.int r112), .val (.ref r131), .unset, .unset] [])
    refine iload K S rfl d0_150 ?_
    refine iload K S rfl d0_152 ?_
    refine callS K S (W := 0) (m_mod l Z a0 hw n0 x4 t57 h147_11 (Sle S) (by omega)) (hwi hw 0 rfl) (hwi hw 1 rfl) (hwi hw 3 rfl) (hwi hw 2 rfl) (by decide) (by decide) (by decide) (by decide) (by decide) rfl (argsL := [.int x4, .int t57]) rfl (lenOf pd_1 rfl) (rest := []) rfl (Nat.le_of_eq rfl) d0_154 (pr fun T r154 pr154 S => ?_)
    obtain ⟨j, hj, vj⟩ := own_fin 1 (by decide) r154 (by omega) (by have := congrArg Int32.toInt hN; omega)
    show Wp n0 p e _ s below _ T (mkF m 157 #[.val (.int x0), .val (.int x1), .val (.int x2), .val (.int x3), .val (.int x4), .val (.int r2), .val (.int t16), .val (.int t25), .val (.ref o29), .val (.int t57), .val (.ref o60), .val (.int r112), .val (.ref r131), .unset, .unset] [.int r154])
    refine istore K S (l' := #[.val (.int x0), .val (.int x1), .val (.int x2), .val (.int x3), .val (.int x4), .val (.int r2), .val (.int t16), .val (.int t25), .val (.ref o29), .val (.int t57), .val (.ref o60), .val (.int r112), .val (.ref r131), .val (.int r154), .unset]) rfl d0_157 ?_
    refine aload K S rfl rfl d0_159 ?_
    refine aload K S rfl rfl d0_161 ?_
    refine iload K S rfl d0_163 ?_
    refine iaload K S (v := .int (lget ((lset ((rmv ([r2, t16, t25, (0 : Int32), (0 : Int32)]) r112)) t141 (3 : Int32))) r154)) (i := r154.toNatClampNeg) (show VA Z h147_11 r131 .int (List.map Value.int ((lset ((rmv ([r2, t16, t25, (0 : Int32), (0 : Int32)]) r112)) t141 (3 : Int32)))) from A_r131) (linb_ix (by subst hY3 ht141 hY2 hN hY1 ht25 ht22 ht16 ht14 ht10 hi hq hk hj; exact (own_n1 i q k j).1)) (linb_get (by subst hY3 ht141 hY2 hN hY1 ht25 ht22 ht16 ht14 ht10 hi hq hk hj; exact (own_n1 i q k j).1)) d0_165 ?_
    have E_o60 := H.1
    refine callV K S (W := 0) (m_unlink l Z a0 hw n0 o60 u w (lget ((lset ((rmv ([r2, t16, t25, (0 : Int32), (0 : Int32)]) r112)) t141 (3 : Int32))) r154) Y3 h147_11 (Sle S) D H (by subst hY3 ht141 hY2 hN hY1 ht25 ht22 ht16 ht14 ht10 hi hq hk hj; exact (own_n1 i q k j).2.1)) E_o60 (hwi hw 32 rfl) (hwi hw 33 rfl) (hwi hw 35 rfl) (hwi hw 34 rfl) (hwi hw 36 rfl) (hwi hw 8 rfl) (by decide) (by decide) (by decide) (by decide) (by decide) rfl (argsL := [.int (lget ((lset ((rmv ([r2, t16, t25, (0 : Int32), (0 : Int32)]) r112)) t141 (3 : Int32))) r154)]) rfl (lenOf pd_6 rfl) (rest := []) rfl (Nat.le_of_eq rfl) d0_166 (ef fun T h166_12 hP S => ?_)
    obtain ⟨Y4, hY4⟩ : ∃ z, z = lunl Y3 (lget ((lset ((rmv ([r2, t16, t25, (0 : Int32), (0 : Int32)]) r112)) t141 (3 : Int32))) r154) := ⟨_, rfl⟩
    rw [← hY4] at hP
    obtain ⟨H, K1⟩ := hP
    replace A_o29 := A_o29.keep K1 (ninS (by first | exact n_o29_o60 | exact Ne.symm n_o60_o29 | omega) (ninS (by first | exact n_o29_u | exact Ne.symm n_u_o29 | omega) (ninS (by first | exact n_o29_w | exact Ne.symm n_w_o29 | omega) nin0)))
    replace A_r131 := A_r131.keep K1 (ninS (by first | exact n_r131_o60 | exact Ne.symm n_o60_r131 | omega) (ninS (by first | exact n_r131_u | exact Ne.symm n_u_r131 | omega) (ninS (by first | exact n_r131_w | exact Ne.symm n_w_r131 | omega) nin0)))
    replace E_o60 := H.1
    show Wp n0 p e _ s below _ T (mkF m 169 #[.val (.int x0), .val (.int x1), .val (.int x2), .val (.int x3), .val (.int x4), .val (.int r2), .val (.int t16), .val (.int t25), .val (.ref o29), .val (.int t57), .val (.ref o60), .val (.int r112), .val (.ref r131), .val (.int r154), .unset] [])
    refine aload K S rfl rfl d0_169 ?_
    refine iload K S rfl d0_171 ?_
    refine callS K S (W := 0) (m_rem l Z a0 hw n0 r131 r154 ((lset ((rmv ([r2, t16, t25, (0 : Int32), (0 : Int32)]) r112)) t141 (3 : Int32))) h166_12 (Sle S) A_r131 (by simp [lset, rmv])) (hwi hw 37 rfl) (hwi hw 38 rfl) (hwi hw 39 rfl) (hwi hw 2 rfl) (by decide) (by decide) (by decide) (by decide) (by decide) rfl (argsL := [.ref r131, .int r154]) rfl (lenOf pd_7 rfl) (rest := []) rfl (Nat.le_of_eq rfl) d0_173 (ea fun T r173 h173_13 hP S => ?_)
    obtain ⟨A_r173, g_r173, y_r173, K1⟩ := hP
    have n_o29_r173 : o29 ≠ r173 := Nat.ne_of_lt (Nat.lt_of_lt_of_le A_o29.lt y_r173)
    have n_r131_r173 : r131 ≠ r173 := Nat.ne_of_lt (Nat.lt_of_lt_of_le A_r131.lt y_r173)
    have n_o60_r173 : o60 ≠ r173 := Nat.ne_of_lt (Nat.lt_of_lt_of_le H.lts.1 y_r173)
    have n_u_r173 : u ≠ r173 := Nat.ne_of_lt (Nat.lt_of_lt_of_le H.lts.2.1 y_r173)
    have n_w_r173 : w ≠ r173 := Nat.ne_of_lt (Nat.lt_of_lt_of_le H.lts.2.2 y_r173)
    replace A_o29 := A_o29.keep K1 nin0
    replace A_r131 := A_r131.keep K1 nin0
    replace H := H.keep K1 nin0 nin0 nin0
    show Wp n0 p e _ s below _ T (mkF m 176 #[.val (.int x0), .val (.int x1), .val (.int x2), .val (.int x3), .val (.int x4), .val (.int r2), .val (.int t16), .val (.int t25), .val (.ref o29), .val (.int t57), .val (.ref o60), .val (.int r112), .val (.ref r131), .val (.int r154), .unset] [.ref r173])
    refine astore K S (l' := #[.val (.int x0), .val (.int x1), .val (.int x2), .val (.int x3), .val (.int x4), .val (.int r2), .val (.int t16), .val (.int t25), .val (.ref o29), .val (.int t57), .val (.ref o60), .val (.int r112), .val (.ref r131), .val (.int r154), .val (.ref r173)]) rfl rfl d0_176 ?_
    refine aload K S rfl rfl d0_178 ?_
    refine iload K S rfl d0_180 ?_
    refine iconst K S (x := (1 : Int32)) rfl d0_182 ?_
    refine isub K S d0_183 ?_
    refine nmI fun t183 ht183 => ?_
    have ft183 : (t183.toInt - (t57.toInt - 1)) % 4294967296 = 0 := by rw [ht183]; exact c_isub t57 (1 : Int32)
    have rt183 := rng32 t183
    refine iconst K S (x := (4 : Int32)) rfl d0_184 ?_
    refine iastore K S (i := t183.toNatClampNeg) A_r173 (linb_ix (by subst ht183 hY4 hY3 ht141 hY2 hN hY1 ht25 ht22 ht16 ht14 ht10 hi hq hk hj; exact (own_n1 i q k j).2.2.1)) (linb_ml (by subst ht183 hY4 hY3 ht141 hY2 hN hY1 ht25 ht22 ht16 ht14 ht10 hi hq hk hj; exact (own_n1 i q k j).2.2.1)) g_r173 d0_185 fun T h185_14 W B S => ?_
    replace A_o29 := A_o29.other W (by first | exact n_o29_r173 | exact Ne.symm n_r173_o29 | omega)
    replace A_r131 := A_r131.other W (by first | exact n_r131_r173 | exact Ne.symm n_r173_r131 | omega)
    replace H := H.keep (Keep.of_wr W) (ninS (by first | exact n_o60_r173 | exact Ne.symm n_r173_o60 | omega) nin0) (ninS (by first | exact n_u_r173 | exact Ne.symm n_r173_u | omega) nin0) (ninS (by first | exact n_w_r173 | exact Ne.symm n_r173_w | omega) nin0)
    clear W
    replace A_r173 : VA Z h185_14 r173 .int ((lset ((rmv ((lset ((rmv ([r2, t16, t25, (0 : Int32), (0 : Int32)]) r112)) t141 (3 : Int32))) r154)) t183 (4 : Int32)).map Value.int) := (by rw [lset_map]; exact B)
    refine aload K S rfl rfl d0_186 ?_
    refine iconst K S (x := (4 : Int32)) rfl d0_188 ?_
    have E_o60 := H.1
    refine callV K S (W := 0) (m_append l Z a0 hw n0 o60 u w (4 : Int32) Y4 h185_14 (Sle S) D H (by subst ht183 hY4 hY3 ht141 hY2 hN hY1 ht25 ht22 ht16 ht14 ht10 hi hq hk hj; exact (own_n1 i q k j).2.2.2.1)) E_o60 (hwi hw 23 rfl) (hwi hw 24 rfl) (hwi hw 26 rfl) (hwi hw 25 rfl) (hwi hw 27 rfl) (hwi hw 8 rfl) (by decide) (by decide) (by decide) (by decide) (by decide) rfl (argsL := [.int (4 : Int32)]) rfl (lenOf pd_4 rfl) (rest := []) rfl (Nat.le_of_eq rfl) d0_189 (ef fun T h189_15 hP S => ?_)
    obtain ⟨Y5, hY5⟩ : ∃ z, z = lapp Y4 (4 : Int32) := ⟨_, rfl⟩
    rw [← hY5] at hP
    obtain ⟨H, K1⟩ := hP
    replace A_o29 := A_o29.keep K1 (ninS (by first | exact n_o29_o60 | exact Ne.symm n_o60_o29 | omega) (ninS (by first | exact n_o29_u | exact Ne.symm n_u_o29 | omega) (ninS (by first | exact n_o29_w | exact Ne.symm n_w_o29 | omega) nin0)))
    replace A_r131 := A_r131.keep K1 (ninS (by first | exact n_r131_o60 | exact Ne.symm n_o60_r131 | omega) (ninS (by first | exact n_r131_u | exact Ne.symm n_u_r131 | omega) (ninS (by first | exact n_r131_w | exact Ne.symm n_w_r131 | omega) nin0)))
    replace A_r173 := A_r173.keep K1 (ninS (by first | exact n_r173_o60 | exact Ne.symm n_o60_r173 | omega) (ninS (by first | exact n_r173_u | exact Ne.symm n_u_r173 | omega) (ninS (by first | exact n_r173_w | exact Ne.symm n_w_r173 | omega) nin0)))
    replace E_o60 := H.1
    show Wp n0 p e _ s below _ T (mkF m 192 #[.val (.int x0), .val (.int x1), .val (.int x2), .val (.int x3), .val (.int x4), .val (.int r2), .val (.int t16), .val (.int t25), .val (.ref o29), .val (.int t57), .val (.ref o60), .val (.int r112), .val (.ref r131), .val (.int r154), .val (.ref r173)] [])
    refine aload K S rfl rfl d0_192 ?_
    have E_o60 := H.1
    refine callV K S (W := 0) (m_first l Z a0 hw n0 o60 u w Y5 h189_15 (Sle S) H) E_o60 (hwi hw 40 rfl) (hwi hw 41 rfl) (hwi hw 43 rfl) (hwi hw 42 rfl) (hwi hw 44 rfl) (hwi hw 8 rfl) (by decide) (by decide) (by decide) (by decide) (by decide) rfl (argsL := []) rfl (lenOf pd_8 rfl) (rest := []) rfl (Nat.le_of_eq rfl) d0_194 (pu fun T S => ?_)
    show Wp n0 p e _ s below _ T (mkF m 197 #[.val (.int x0), .val (.int x1), .val (.int x2), .val (.int x3), .val (.int x4), .val (.int r2), .val (.int t16), .val (.int t25), .val (.ref o29), .val (.int t57), .val (.ref o60), .val (.int r112), .val (.ref r131), .val (.int r154), .val (.ref r173)] [.int (Y5.2.2.1)])
    refine aload K S rfl rfl d0_197 ?_
    refine iconst K S (x := (0 : Int32)) rfl d0_199 ?_
    refine iaload K S (v := .int (lget ((lset ((rmv ((lset ((rmv ([r2, t16, t25, (0 : Int32), (0 : Int32)]) r112)) t141 (3 : Int32))) r154)) t183 (4 : Int32))) (0 : Int32))) (i := (0 : Int32).toNatClampNeg) (show VA Z h189_15 r173 .int (List.map Value.int ((lset ((rmv ((lset ((rmv ([r2, t16, t25, (0 : Int32), (0 : Int32)]) r112)) t141 (3 : Int32))) r154)) t183 (4 : Int32)))) from A_r173) (linb_ix (show linb ((lset ((rmv ((lset ((rmv ([r2, t16, t25, (0 : Int32), (0 : Int32)]) r112)) t141 (3 : Int32))) r154)) t183 (4 : Int32))) (0 : Int32) = true from own_l5 (by decide))) (linb_get (show linb ((lset ((rmv ((lset ((rmv ([r2, t16, t25, (0 : Int32), (0 : Int32)]) r112)) t141 (3 : Int32))) r154)) t183 (4 : Int32))) (0 : Int32) = true from own_l5 (by decide))) d0_200 ?_
    refine icmpz_eq K S d0_201 (fun (c201 : (Y5.2.2.1).toInt = (lget ((lset ((rmv ((lset ((rmv ([r2, t16, t25, (0 : Int32), (0 : Int32)]) r112)) t141 (3 : Int32))) r154)) t183 (4 : Int32))) (0 : Int32)).toInt) => ?_) (fun (c201 : ¬ (Y5.2.2.1).toInt = (lget ((lset ((rmv ((lset ((rmv ([r2, t16, t25, (0 : Int32), (0 : Int32)]) r112)) t141 (3 : Int32))) r154)) t183 (4 : Int32))) (0 : Int32)).toInt) => ?_)
    rotate_left
    · exact (c201 (congrArg Int32.toInt (show Y5.2.2.1 = lget ((lset ((rmv ((lset ((rmv ([r2, t16, t25, (0 : Int32), (0 : Int32)]) r112)) t141 (3 : Int32))) r154)) t183 (4 : Int32))) (0 : Int32) from (by subst hY5 ht183 hY4 hY3 ht141 hY2 hN hY1 ht25 ht22 ht16 ht14 ht10 hi hq hk hj; exact (own_n1 i q k j).2.2.2.2.1)))).elim
    refine aload K S rfl rfl d0_206 ?_
    refine aload K S rfl rfl d0_208 ?_
    refine iconst K S (x := (0 : Int32)) rfl d0_210 ?_
    refine iaload K S (v := .int (lget ((lset ((rmv ((lset ((rmv ([r2, t16, t25, (0 : Int32), (0 : Int32)]) r112)) t141 (3 : Int32))) r154)) t183 (4 : Int32))) (0 : Int32))) (i := (0 : Int32).toNatClampNeg) (show VA Z h189_15 r173 .int (List.map Value.int ((lset ((rmv ((lset ((rmv ([r2, t16, t25, (0 : Int32), (0 : Int32)]) r112)) t141 (3 : Int32))) r154)) t183 (4 : Int32)))) from A_r173) (linb_ix (show linb ((lset ((rmv ((lset ((rmv ([r2, t16, t25, (0 : Int32), (0 : Int32)]) r112)) t141 (3 : Int32))) r154)) t183 (4 : Int32))) (0 : Int32) = true from own_l5 (by decide))) (linb_get (show linb ((lset ((rmv ((lset ((rmv ([r2, t16, t25, (0 : Int32), (0 : Int32)]) r112)) t141 (3 : Int32))) r154)) t183 (4 : Int32))) (0 : Int32) = true from own_l5 (by decide))) d0_211 ?_
    have E_o60 := H.1
    refine callV K S (W := 0) (m_next l Z a0 hw n0 o60 u w (lget ((lset ((rmv ((lset ((rmv ([r2, t16, t25, (0 : Int32), (0 : Int32)]) r112)) t141 (3 : Int32))) r154)) t183 (4 : Int32))) (0 : Int32)) Y5 h189_15 (Sle S) H (by subst hY5 ht183 hY4 hY3 ht141 hY2 hN hY1 ht25 ht22 ht16 ht14 ht10 hi hq hk hj; exact (own_n1 i q k j).2.2.2.2.2.1)) E_o60 (hwi hw 45 rfl) (hwi hw 46 rfl) (hwi hw 48 rfl) (hwi hw 47 rfl) (hwi hw 49 rfl) (hwi hw 8 rfl) (by decide) (by decide) (by decide) (by decide) (by decide) rfl (argsL := [.int (lget ((lset ((rmv ((lset ((rmv ([r2, t16, t25, (0 : Int32), (0 : Int32)]) r112)) t141 (3 : Int32))) r154)) t183 (4 : Int32))) (0 : Int32))]) rfl (lenOf pd_9 rfl) (rest := []) rfl (Nat.le_of_eq rfl) d0_212 (pu fun T S => ?_)
    show Wp n0 p e _ s below _ T (mkF m 215 #[.val (.int x0), .val (.int x1), .val (.int x2), .val (.int x3), .val (.int x4), .val (.int r2), .val (.int t16), .val (.int t25), .val (.ref o29), .val (.int t57), .val (.ref o60), .val (.int r112), .val (.ref r131), .val (.int r154), .val (.ref r173)] [.int (lget Y5.2.1 (lget ((lset ((rmv ((lset ((rmv ([r2, t16, t25, (0 : Int32), (0 : Int32)]) r112)) t141 (3 : Int32))) r154)) t183 (4 : Int32))) (0 : Int32)))])
    refine iload K S rfl d0_215 ?_
    refine iconst K S (x := (1 : Int32)) rfl d0_217 ?_
    refine icmpz_le K S d0_218 (fun (c218 : ¬ 1 < t57.toInt) => ?_) (fun (c218 : 1 < t57.toInt) => ?_)
    rotate_left
    · exfalso; omega
    refine iconst K S (x := (-1 : Int32)) rfl d0_228 ?_
    refine icmpz_eq K S d0_229 (fun (c229 : (lget Y5.2.1 (lget ((lset ((rmv ((lset ((rmv ([r2, t16, t25, (0 : Int32), (0 : Int32)]) r112)) t141 (3 : Int32))) r154)) t183 (4 : Int32))) (0 : Int32))).toInt = (-1)) => ?_) (fun (c229 : ¬ (lget Y5.2.1 (lget ((lset ((rmv ((lset ((rmv ([r2, t16, t25, (0 : Int32), (0 : Int32)]) r112)) t141 (3 : Int32))) r154)) t183 (4 : Int32))) (0 : Int32))).toInt = (-1)) => ?_)
    rotate_left
    · exact (c229 (congrArg Int32.toInt (show lget Y5.2.1 (lget ((lset ((rmv ((lset ((rmv ([r2, t16, t25, (0 : Int32), (0 : Int32)]) r112)) t141 (3 : Int32))) r154)) t183 (4 : Int32))) (0 : Int32)) = (-1 : Int32) from (by subst hY5 ht183 hY4 hY3 ht141 hY2 hN hY1 ht25 ht22 ht16 ht14 ht10 hi hq hk hj; exact (own_n1 i q k j).2.2.2.2.2.2)))).elim
    refine iload K S rfl d0_234 ?_
    refine iconst K S (x := (1 : Int32)) rfl d0_236 ?_
    refine icmpz_le K S d0_237 (fun (c237 : ¬ 1 < t57.toInt) => ?_) (fun (c237 : 1 < t57.toInt) => ?_)
    rotate_left
    · exfalso; omega
    refine iload K S rfl d0_268 ?_
    refine iconst K S (x := (2 : Int32)) rfl d0_270 ?_
    refine icmpz_le K S d0_271 (fun (c271 : ¬ 2 < t57.toInt) => ?_) (fun (c271 : 2 < t57.toInt) => ?_)
    rotate_left
    · exfalso; omega
    refine iconst K S (x := (1 : Int32)) rfl d0_289 ?_
    refine retn K S (by simp) (y := (1 : Int32)) rfl (by decide) (by decide) d0_290 ?_
    rfl
  refine aload K S rfl rfl d0_85 ?_
  refine aload K S rfl rfl d0_87 ?_
  refine iconst K S (x := (1 : Int32)) rfl d0_89 ?_
  refine iaload K S (v := .int t16) (i := 1) A_o29 ⟨by decide, rfl⟩ rfl d0_90 ?_
  have E_o60 := H.1
  refine callV K S (W := 0) (m_append l Z a0 hw n0 o60 u w t16 Y1 h76_7 (Sle S) D H (by subst hY1 ht25 ht22 ht16 ht14 ht10 hi hq; exact own_a2 i q)) E_o60 (hwi hw 23 rfl) (hwi hw 24 rfl) (hwi hw 26 rfl) (hwi hw 25 rfl) (hwi hw 27 rfl) (hwi hw 8 rfl) (by decide) (by decide) (by decide) (by decide) (by decide) rfl (argsL := [.int t16]) rfl (lenOf pd_4 rfl) (rest := []) rfl (Nat.le_of_eq rfl) d0_91 (ef fun T h91_16 hP S => ?_)
  obtain ⟨Y2, hY2⟩ : ∃ z, z = lapp Y1 t16 := ⟨_, rfl⟩
  rw [← hY2] at hP
  obtain ⟨H, K1⟩ := hP
  replace A_o29 := A_o29.keep K1 (ninS (by first | exact n_o29_o60 | exact Ne.symm n_o60_o29 | omega) (ninS (by first | exact n_o29_u | exact Ne.symm n_u_o29 | omega) (ninS (by first | exact n_o29_w | exact Ne.symm n_w_o29 | omega) nin0)))
  replace E_o60 := H.1
  show Wp n0 p e _ s below _ T (mkF m 94 #[.val (.int x0), .val (.int x1), .val (.int x2), .val (.int x3), .val (.int x4), .val (.int r2), .val (.int t16), .val (.int t25), .val (.ref o29), .val (.int t57), .val (.ref o60), .unset, .unset, .unset, .unset] [])
  refine iload K S rfl d0_94 ?_
  refine iconst K S (x := (2 : Int32)) rfl d0_96 ?_
  refine icmpz_le K S d0_97 (fun (c97 : ¬ 2 < t57.toInt) => ?_) (fun (c97 : 2 < t57.toInt) => ?_)
  · have hN : t57 = (2 : Int32) := own_eqz (show t57.toInt = 2 by omega)
    refine iload_n K S rfl d0_109 ?_
    refine iload K S rfl d0_110 ?_
    refine callS K S (W := 0) (m_mod l Z a0 hw n0 x3 t57 h91_16 (Sle S) (by omega)) (hwi hw 0 rfl) (hwi hw 1 rfl) (hwi hw 3 rfl) (hwi hw 2 rfl) (by decide) (by decide) (by decide) (by decide) (by decide) rfl (argsL := [.int x3, .int t57]) rfl (lenOf pd_1 rfl) (rest := []) rfl (Nat.le_of_eq rfl) d0_112 (pr fun T r112 pr112 S => ?_)
    obtain ⟨k, hk, vk⟩ := own_fin 2 (by decide) r112 (by omega) (by have := congrArg Int32.toInt hN; omega)
    show Wp n0 p e _ s below _ T (mkF m 115 #[.val (.int x0), .val (.int x1), .val (.int x2), .val (.int x3), .val (.int x4), .val (.int r2), .val (.int t16), .val (.int t25), .val (.ref o29), .val (.int t57), .val (.ref o60), .unset, .unset, .unset, .unset] [.int r112])
    refine istore K S (l' := #[.val (.int x0), .val (.int x1), .val (.int x2), .val (.int x3), .val (.int x4), .val (.int r2), .val (.int t16), .val (.int t25), .val (.ref o29), .val (.int t57), .val (.ref o60), .val (.int r112), .unset, .unset, .unset]) rfl d0_115 ?_
    refine aload K S rfl rfl d0_117 ?_
    refine aload K S rfl rfl d0_119 ?_
    refine iload K S rfl d0_121 ?_
    refine iaload K S (v := .int (lget ([r2, t16, t25, (0 : Int32), (0 : Int32)]) r112)) (i := r112.toNatClampNeg) (show VA Z h91_16 o29 .int (List.map Value.int ([r2, t16, t25, (0 : Int32), (0 : Int32)])) from A_o29) (linb_ix (by subst hN hY2 hY1 ht25 ht22 ht16 ht14 ht10 hi hq hk; exact (own_m2 i q k).1)) (linb_get (by subst hN hY2 hY1 ht25 ht22 ht16 ht14 ht10 hi hq hk; exact (own_m2 i q k).1)) d0_123 ?_
    have E_o60 := H.1
    refine callV K S (W := 0) (m_unlink l Z a0 hw n0 o60 u w (lget ([r2, t16, t25, (0 : Int32), (0 : Int32)]) r112) Y2 h91_16 (Sle S) D H (by subst hN hY2 hY1 ht25 ht22 ht16 ht14 ht10 hi hq hk; exact (own_m2 i q k).2.1)) E_o60 (hwi hw 32 rfl) (hwi hw 33 rfl) (hwi hw 35 rfl) (hwi hw 34 rfl) (hwi hw 36 rfl) (hwi hw 8 rfl) (by decide) (by decide) (by decide) (by decide) (by decide) rfl (argsL := [.int (lget ([r2, t16, t25, (0 : Int32), (0 : Int32)]) r112)]) rfl (lenOf pd_6 rfl) (rest := []) rfl (Nat.le_of_eq rfl) d0_124 (ef fun T h124_17 hP S => ?_)
    obtain ⟨Y3, hY3⟩ : ∃ z, z = lunl Y2 (lget ([r2, t16, t25, (0 : Int32), (0 : Int32)]) r112) := ⟨_, rfl⟩
    rw [← hY3] at hP
    obtain ⟨H, K1⟩ := hP
    replace A_o29 := A_o29.keep K1 (ninS (by first | exact n_o29_o60 | exact Ne.symm n_o60_o29 | omega) (ninS (by first | exact n_o29_u | exact Ne.symm n_u_o29 | omega) (ninS (by first | exact n_o29_w | exact Ne.symm n_w_o29 | omega) nin0)))
    replace E_o60 := H.1
    show Wp n0 p e _ s below _ T (mkF m 127 #[.val (.int x0), .val (.int x1), .val (.int x2), .val (.int x3), .val (.int x4), .val (.int r2), .val (.int t16), .val (.int t25), .val (.ref o29), .val (.int t57), .val (.ref o60), .val (.int r112), .unset, .unset, .unset] [])
    refine aload K S rfl rfl d0_127 ?_
    refine iload K S rfl d0_129 ?_
    refine callS K S (W := 0) (m_rem l Z a0 hw n0 o29 r112 ([r2, t16, t25, (0 : Int32), (0 : Int32)]) h124_17 (Sle S) A_o29 (by simp [lset, rmv])) (hwi hw 37 rfl) (hwi hw 38 rfl) (hwi hw 39 rfl) (hwi hw 2 rfl) (by decide) (by decide) (by decide) (by decide) (by decide) rfl (argsL := [.ref o29, .int r112]) rfl (lenOf pd_7 rfl) (rest := []) rfl (Nat.le_of_eq rfl) d0_131 (ea fun T r131 h131_18 hP S => ?_)
    obtain ⟨A_r131, g_r131, y_r131, K1⟩ := hP
    have n_o29_r131 : o29 ≠ r131 := Nat.ne_of_lt (Nat.lt_of_lt_of_le A_o29.lt y_r131)
    have n_o60_r131 : o60 ≠ r131 := Nat.ne_of_lt (Nat.lt_of_lt_of_le H.lts.1 y_r131)
    have n_u_r131 : u ≠ r131 := Nat.ne_of_lt (Nat.lt_of_lt_of_le H.lts.2.1 y_r131)
    have n_w_r131 : w ≠ r131 := Nat.ne_of_lt (Nat.lt_of_lt_of_le H.lts.2.2 y_r131)
    replace A_o29 := A_o29.keep K1 nin0
    replace H := H.keep K1 nin0 nin0 nin0
    show Wp n0 p e _ s below _ T (mkF m 134 #[.val (.int x0), .val (.int x1), .val (.int x2), .val (.int x3), .val (.int x4), .val (.int r2), .val (.int t16), .val (.int t25), .val (.ref o29), .val (.int t57), .val (.ref o60), .val (.int r112), .unset, .unset, .unset] [.ref r131])
    refine astore K S (l' := #[.val (.int x0), .val (.int x1), .val (.int x2), .val (.int x3), .val (.int x4), .val (.int r2), .val (.int t16), .val (.int t25), .val (.ref o29), .val (.int t57), .val (.ref o60), .val (.int r112), .val (.ref r131), .unset, .unset]) rfl rfl d0_134 ?_
    refine aload K S rfl rfl d0_136 ?_
    refine iload K S rfl d0_138 ?_
    refine iconst K S (x := (1 : Int32)) rfl d0_140 ?_
    refine isub K S d0_141 ?_
    refine nmI fun t141 ht141 => ?_
    have ft141 : (t141.toInt - (t57.toInt - 1)) % 4294967296 = 0 := by rw [ht141]; exact c_isub t57 (1 : Int32)
    have rt141 := rng32 t141
    refine iconst K S (x := (3 : Int32)) rfl d0_142 ?_
    refine iastore K S (i := t141.toNatClampNeg) A_r131 (linb_ix (by subst ht141 hY3 hN hY2 hY1 ht25 ht22 ht16 ht14 ht10 hi hq hk; exact (own_m2 i q k).2.2.1)) (linb_ml (by subst ht141 hY3 hN hY2 hY1 ht25 ht22 ht16 ht14 ht10 hi hq hk; exact (own_m2 i q k).2.2.1)) g_r131 d0_143 fun T h143_19 W B S => ?_
    replace A_o29 := A_o29.other W (by first | exact n_o29_r131 | exact Ne.symm n_r131_o29 | omega)
    replace H := H.keep (Keep.of_wr W) (ninS (by first | exact n_o60_r131 | exact Ne.symm n_r131_o60 | omega) nin0) (ninS (by first | exact n_u_r131 | exact Ne.symm n_r131_u | omega) nin0) (ninS (by first | exact n_w_r131 | exact Ne.symm n_r131_w | omega) nin0)
    clear W
    replace A_r131 : VA Z h143_19 r131 .int ((lset ((rmv ([r2, t16, t25, (0 : Int32), (0 : Int32)]) r112)) t141 (3 : Int32)).map Value.int) := (by rw [lset_map]; exact B)
    refine aload K S rfl rfl d0_144 ?_
    refine iconst K S (x := (3 : Int32)) rfl d0_146 ?_
    have E_o60 := H.1
    refine callV K S (W := 0) (m_append l Z a0 hw n0 o60 u w (3 : Int32) Y3 h143_19 (Sle S) D H (by subst ht141 hY3 hN hY2 hY1 ht25 ht22 ht16 ht14 ht10 hi hq hk; exact (own_m2 i q k).2.2.2)) E_o60 (hwi hw 23 rfl) (hwi hw 24 rfl) (hwi hw 26 rfl) (hwi hw 25 rfl) (hwi hw 27 rfl) (hwi hw 8 rfl) (by decide) (by decide) (by decide) (by decide) (by decide) rfl (argsL := [.int (3 : Int32)]) rfl (lenOf pd_4 rfl) (rest := []) rfl (Nat.le_of_eq rfl) d0_147 (ef fun T h147_20 hP S => ?_)
    obtain ⟨Y4, hY4⟩ : ∃ z, z = lapp Y3 (3 : Int32) := ⟨_, rfl⟩
    rw [← hY4] at hP
    obtain ⟨H, K1⟩ := hP
    replace A_o29 := A_o29.keep K1 (ninS (by first | exact n_o29_o60 | exact Ne.symm n_o60_o29 | omega) (ninS (by first | exact n_o29_u | exact Ne.symm n_u_o29 | omega) (ninS (by first | exact n_o29_w | exact Ne.symm n_w_o29 | omega) nin0)))
    replace A_r131 := A_r131.keep K1 (ninS (by first | exact n_r131_o60 | exact Ne.symm n_o60_r131 | omega) (ninS (by first | exact n_r131_u | exact Ne.symm n_u_r131 | omega) (ninS (by first | exact n_r131_w | exact Ne.symm n_w_r131 | omega) nin0)))
    replace E_o60 := H.1
    show Wp n0 p e _ s below _ T (mkF m 150 #[.val (.int x0), .val (.int x1), .val (.int x2), .val (.int x3), .val (.int x4), .val (.int r2), .val (.int t16), .val (.int t25), .val (.ref o29), .val (.int t57), .val (.ref o60), .val (.int r112), .val (.ref r131), .unset, .unset] [])
    refine iload K S rfl d0_150 ?_
    refine iload K S rfl d0_152 ?_
    refine callS K S (W := 0) (m_mod l Z a0 hw n0 x4 t57 h147_20 (Sle S) (by omega)) (hwi hw 0 rfl) (hwi hw 1 rfl) (hwi hw 3 rfl) (hwi hw 2 rfl) (by decide) (by decide) (by decide) (by decide) (by decide) rfl (argsL := [.int x4, .int t57]) rfl (lenOf pd_1 rfl) (rest := []) rfl (Nat.le_of_eq rfl) d0_154 (pr fun T r154 pr154 S => ?_)
    obtain ⟨j, hj, vj⟩ := own_fin 2 (by decide) r154 (by omega) (by have := congrArg Int32.toInt hN; omega)
    show Wp n0 p e _ s below _ T (mkF m 157 #[.val (.int x0), .val (.int x1), .val (.int x2), .val (.int x3), .val (.int x4), .val (.int r2), .val (.int t16), .val (.int t25), .val (.ref o29), .val (.int t57), .val (.ref o60), .val (.int r112), .val (.ref r131), .unset, .unset] [.int r154])
    refine istore K S (l' := #[.val (.int x0), .val (.int x1), .val (.int x2), .val (.int x3), .val (.int x4), .val (.int r2), .val (.int t16), .val (.int t25), .val (.ref o29), .val (.int t57), .val (.ref o60), .val (.int r112), .val (.ref r131), .val (.int r154), .unset]) rfl d0_157 ?_
    refine aload K S rfl rfl d0_159 ?_
    refine aload K S rfl rfl d0_161 ?_
    refine iload K S rfl d0_163 ?_
    refine iaload K S (v := .int (lget ((lset ((rmv ([r2, t16, t25, (0 : Int32), (0 : Int32)]) r112)) t141 (3 : Int32))) r154)) (i := r154.toNatClampNeg) (show VA Z h147_20 r131 .int (List.map Value.int ((lset ((rmv ([r2, t16, t25, (0 : Int32), (0 : Int32)]) r112)) t141 (3 : Int32)))) from A_r131) (linb_ix (by subst hY4 ht141 hY3 hN hY2 hY1 ht25 ht22 ht16 ht14 ht10 hi hq hk hj; exact (own_n2 i q k j).1)) (linb_get (by subst hY4 ht141 hY3 hN hY2 hY1 ht25 ht22 ht16 ht14 ht10 hi hq hk hj; exact (own_n2 i q k j).1)) d0_165 ?_
    have E_o60 := H.1
    refine callV K S (W := 0) (m_unlink l Z a0 hw n0 o60 u w (lget ((lset ((rmv ([r2, t16, t25, (0 : Int32), (0 : Int32)]) r112)) t141 (3 : Int32))) r154) Y4 h147_20 (Sle S) D H (by subst hY4 ht141 hY3 hN hY2 hY1 ht25 ht22 ht16 ht14 ht10 hi hq hk hj; exact (own_n2 i q k j).2.1)) E_o60 (hwi hw 32 rfl) (hwi hw 33 rfl) (hwi hw 35 rfl) (hwi hw 34 rfl) (hwi hw 36 rfl) (hwi hw 8 rfl) (by decide) (by decide) (by decide) (by decide) (by decide) rfl (argsL := [.int (lget ((lset ((rmv ([r2, t16, t25, (0 : Int32), (0 : Int32)]) r112)) t141 (3 : Int32))) r154)]) rfl (lenOf pd_6 rfl) (rest := []) rfl (Nat.le_of_eq rfl) d0_166 (ef fun T h166_21 hP S => ?_)
    obtain ⟨Y5, hY5⟩ : ∃ z, z = lunl Y4 (lget ((lset ((rmv ([r2, t16, t25, (0 : Int32), (0 : Int32)]) r112)) t141 (3 : Int32))) r154) := ⟨_, rfl⟩
    rw [← hY5] at hP
    obtain ⟨H, K1⟩ := hP
    replace A_o29 := A_o29.keep K1 (ninS (by first | exact n_o29_o60 | exact Ne.symm n_o60_o29 | omega) (ninS (by first | exact n_o29_u | exact Ne.symm n_u_o29 | omega) (ninS (by first | exact n_o29_w | exact Ne.symm n_w_o29 | omega) nin0)))
    replace A_r131 := A_r131.keep K1 (ninS (by first | exact n_r131_o60 | exact Ne.symm n_o60_r131 | omega) (ninS (by first | exact n_r131_u | exact Ne.symm n_u_r131 | omega) (ninS (by first | exact n_r131_w | exact Ne.symm n_w_r131 | omega) nin0)))
    replace E_o60 := H.1
    show Wp n0 p e _ s below _ T (mkF m 169 #[.val (.int x0), .val (.int x1), .val (.int x2), .val (.int x3), .val (.int x4), .val (.int r2), .val (.int t16), .val (.int t25), .val (.ref o29), .val (.int t57), .val (.ref o60), .val (.int r112), .val (.ref r131), .val (.int r154), .unset] [])
    refine aload K S rfl rfl d0_169 ?_
    refine iload K S rfl d0_171 ?_
    refine callS K S (W := 0) (m_rem l Z a0 hw n0 r131 r154 ((lset ((rmv ([r2, t16, t25, (0 : Int32), (0 : Int32)]) r112)) t141 (3 : Int32))) h166_21 (Sle S) A_r131 (by simp [lset, rmv])) (hwi hw 37 rfl) (hwi hw 38 rfl) (hwi hw 39 rfl) (hwi hw 2 rfl) (by decide) (by decide) (by decide) (by decide) (by decide) rfl (argsL := [.ref r131, .int r154]) rfl (lenOf pd_7 rfl) (rest := []) rfl (Nat.le_of_eq rfl) d0_173 (ea fun T r173 h173_22 hP S => ?_)
    obtain ⟨A_r173, g_r173, y_r173, K1⟩ := hP
    have n_o29_r173 : o29 ≠ r173 := Nat.ne_of_lt (Nat.lt_of_lt_of_le A_o29.lt y_r173)
    have n_r131_r173 : r131 ≠ r173 := Nat.ne_of_lt (Nat.lt_of_lt_of_le A_r131.lt y_r173)
    have n_o60_r173 : o60 ≠ r173 := Nat.ne_of_lt (Nat.lt_of_lt_of_le H.lts.1 y_r173)
    have n_u_r173 : u ≠ r173 := Nat.ne_of_lt (Nat.lt_of_lt_of_le H.lts.2.1 y_r173)
    have n_w_r173 : w ≠ r173 := Nat.ne_of_lt (Nat.lt_of_lt_of_le H.lts.2.2 y_r173)
    replace A_o29 := A_o29.keep K1 nin0
    replace A_r131 := A_r131.keep K1 nin0
    replace H := H.keep K1 nin0 nin0 nin0
    show Wp n0 p e _ s below _ T (mkF m 176 #[.val (.int x0), .val (.int x1), .val (.int x2), .val (.int x3), .val (.int x4), .val (.int r2), .val (.int t16), .val (.int t25), .val (.ref o29), .val (.int t57), .val (.ref o60), .val (.int r112), .val (.ref r131), .val (.int r154), .unset] [.ref r173])
    refine astore K S (l' := #[.val (.int x0), .val (.int x1), .val (.int x2), .val (.int x3), .val (.int x4), .val (.int r2), .val (.int t16), .val (.int t25), .val (.ref o29), .val (.int t57), .val (.ref o60), .val (.int r112), .val (.ref r131), .val (.int r154), .val (.ref r173)]) rfl rfl d0_176 ?_
    refine aload K S rfl rfl d0_178 ?_
    refine iload K S rfl d0_180 ?_
    refine iconst K S (x := (1 : Int32)) rfl d0_182 ?_
    refine isub K S d0_183 ?_
    refine nmI fun t183 ht183 => ?_
    have ft183 : (t183.toInt - (t57.toInt - 1)) % 4294967296 = 0 := by rw [ht183]; exact c_isub t57 (1 : Int32)
    have rt183 := rng32 t183
    refine iconst K S (x := (4 : Int32)) rfl d0_184 ?_
    refine iastore K S (i := t183.toNatClampNeg) A_r173 (linb_ix (by subst ht183 hY5 hY4 ht141 hY3 hN hY2 hY1 ht25 ht22 ht16 ht14 ht10 hi hq hk hj; exact (own_n2 i q k j).2.2.1)) (linb_ml (by subst ht183 hY5 hY4 ht141 hY3 hN hY2 hY1 ht25 ht22 ht16 ht14 ht10 hi hq hk hj; exact (own_n2 i q k j).2.2.1)) g_r173 d0_185 fun T h185_23 W B S => ?_
    replace A_o29 := A_o29.other W (by first | exact n_o29_r173 | exact Ne.symm n_r173_o29 | omega)
    replace A_r131 := A_r131.other W (by first | exact n_r131_r173 | exact Ne.symm n_r173_r131 | omega)
    replace H := H.keep (Keep.of_wr W) (ninS (by first | exact n_o60_r173 | exact Ne.symm n_r173_o60 | omega) nin0) (ninS (by first | exact n_u_r173 | exact Ne.symm n_r173_u | omega) nin0) (ninS (by first | exact n_w_r173 | exact Ne.symm n_r173_w | omega) nin0)
    clear W
    replace A_r173 : VA Z h185_23 r173 .int ((lset ((rmv ((lset ((rmv ([r2, t16, t25, (0 : Int32), (0 : Int32)]) r112)) t141 (3 : Int32))) r154)) t183 (4 : Int32)).map Value.int) := (by rw [lset_map]; exact B)
    refine aload K S rfl rfl d0_186 ?_
    refine iconst K S (x := (4 : Int32)) rfl d0_188 ?_
    have E_o60 := H.1
    refine callV K S (W := 0) (m_append l Z a0 hw n0 o60 u w (4 : Int32) Y5 h185_23 (Sle S) D H (by subst ht183 hY5 hY4 ht141 hY3 hN hY2 hY1 ht25 ht22 ht16 ht14 ht10 hi hq hk hj; exact (own_n2 i q k j).2.2.2.1)) E_o60 (hwi hw 23 rfl) (hwi hw 24 rfl) (hwi hw 26 rfl) (hwi hw 25 rfl) (hwi hw 27 rfl) (hwi hw 8 rfl) (by decide) (by decide) (by decide) (by decide) (by decide) rfl (argsL := [.int (4 : Int32)]) rfl (lenOf pd_4 rfl) (rest := []) rfl (Nat.le_of_eq rfl) d0_189 (ef fun T h189_24 hP S => ?_)
    obtain ⟨Y6, hY6⟩ : ∃ z, z = lapp Y5 (4 : Int32) := ⟨_, rfl⟩
    rw [← hY6] at hP
    obtain ⟨H, K1⟩ := hP
    replace A_o29 := A_o29.keep K1 (ninS (by first | exact n_o29_o60 | exact Ne.symm n_o60_o29 | omega) (ninS (by first | exact n_o29_u | exact Ne.symm n_u_o29 | omega) (ninS (by first | exact n_o29_w | exact Ne.symm n_w_o29 | omega) nin0)))
    replace A_r131 := A_r131.keep K1 (ninS (by first | exact n_r131_o60 | exact Ne.symm n_o60_r131 | omega) (ninS (by first | exact n_r131_u | exact Ne.symm n_u_r131 | omega) (ninS (by first | exact n_r131_w | exact Ne.symm n_w_r131 | omega) nin0)))
    replace A_r173 := A_r173.keep K1 (ninS (by first | exact n_r173_o60 | exact Ne.symm n_o60_r173 | omega) (ninS (by first | exact n_r173_u | exact Ne.symm n_u_r173 | omega) (ninS (by first | exact n_r173_w | exact Ne.symm n_w_r173 | omega) nin0)))
    replace E_o60 := H.1
    show Wp n0 p e _ s below _ T (mkF m 192 #[.val (.int x0), .val (.int x1), .val (.int x2), .val (.int x3), .val (.int x4), .val (.int r2), .val (.int t16), .val (.int t25), .val (.ref o29), .val (.int t57), .val (.ref o60), .val (.int r112), .val (.ref r131), .val (.int r154), .val (.ref r173)] [])
    refine aload K S rfl rfl d0_192 ?_
    have E_o60 := H.1
    refine callV K S (W := 0) (m_first l Z a0 hw n0 o60 u w Y6 h189_24 (Sle S) H) E_o60 (hwi hw 40 rfl) (hwi hw 41 rfl) (hwi hw 43 rfl) (hwi hw 42 rfl) (hwi hw 44 rfl) (hwi hw 8 rfl) (by decide) (by decide) (by decide) (by decide) (by decide) rfl (argsL := []) rfl (lenOf pd_8 rfl) (rest := []) rfl (Nat.le_of_eq rfl) d0_194 (pu fun T S => ?_)
    show Wp n0 p e _ s below _ T (mkF m 197 #[.val (.int x0), .val (.int x1), .val (.int x2), .val (.int x3), .val (.int x4), .val (.int r2), .val (.int t16), .val (.int t25), .val (.ref o29), .val (.int t57), .val (.ref o60), .val (.int r112), .val (.ref r131), .val (.int r154), .val (.ref r173)] [.int (Y6.2.2.1)])
    refine aload K S rfl rfl d0_197 ?_
    refine iconst K S (x := (0 : Int32)) rfl d0_199 ?_
    refine iaload K S (v := .int (lget ((lset ((rmv ((lset ((rmv ([r2, t16, t25, (0 : Int32), (0 : Int32)]) r112)) t141 (3 : Int32))) r154)) t183 (4 : Int32))) (0 : Int32))) (i := (0 : Int32).toNatClampNeg) (show VA Z h189_24 r173 .int (List.map Value.int ((lset ((rmv ((lset ((rmv ([r2, t16, t25, (0 : Int32), (0 : Int32)]) r112)) t141 (3 : Int32))) r154)) t183 (4 : Int32)))) from A_r173) (linb_ix (show linb ((lset ((rmv ((lset ((rmv ([r2, t16, t25, (0 : Int32), (0 : Int32)]) r112)) t141 (3 : Int32))) r154)) t183 (4 : Int32))) (0 : Int32) = true from own_l5 (by decide))) (linb_get (show linb ((lset ((rmv ((lset ((rmv ([r2, t16, t25, (0 : Int32), (0 : Int32)]) r112)) t141 (3 : Int32))) r154)) t183 (4 : Int32))) (0 : Int32) = true from own_l5 (by decide))) d0_200 ?_
    refine icmpz_eq K S d0_201 (fun (c201 : (Y6.2.2.1).toInt = (lget ((lset ((rmv ((lset ((rmv ([r2, t16, t25, (0 : Int32), (0 : Int32)]) r112)) t141 (3 : Int32))) r154)) t183 (4 : Int32))) (0 : Int32)).toInt) => ?_) (fun (c201 : ¬ (Y6.2.2.1).toInt = (lget ((lset ((rmv ((lset ((rmv ([r2, t16, t25, (0 : Int32), (0 : Int32)]) r112)) t141 (3 : Int32))) r154)) t183 (4 : Int32))) (0 : Int32)).toInt) => ?_)
    rotate_left
    · exact (c201 (congrArg Int32.toInt (show Y6.2.2.1 = lget ((lset ((rmv ((lset ((rmv ([r2, t16, t25, (0 : Int32), (0 : Int32)]) r112)) t141 (3 : Int32))) r154)) t183 (4 : Int32))) (0 : Int32) from (by subst hY6 ht183 hY5 hY4 ht141 hY3 hN hY2 hY1 ht25 ht22 ht16 ht14 ht10 hi hq hk hj; exact (own_n2 i q k j).2.2.2.2.1)))).elim
    refine aload K S rfl rfl d0_206 ?_
    refine aload K S rfl rfl d0_208 ?_
    refine iconst K S (x := (0 : Int32)) rfl d0_210 ?_
    refine iaload K S (v := .int (lget ((lset ((rmv ((lset ((rmv ([r2, t16, t25, (0 : Int32), (0 : Int32)]) r112)) t141 (3 : Int32))) r154)) t183 (4 : Int32))) (0 : Int32))) (i := (0 : Int32).toNatClampNeg) (show VA Z h189_24 r173 .int (List.map Value.int ((lset ((rmv ((lset ((rmv ([r2, t16, t25, (0 : Int32), (0 : Int32)]) r112)) t141 (3 : Int32))) r154)) t183 (4 : Int32)))) from A_r173) (linb_ix (show linb ((lset ((rmv ((lset ((rmv ([r2, t16, t25, (0 : Int32), (0 : Int32)]) r112)) t141 (3 : Int32))) r154)) t183 (4 : Int32))) (0 : Int32) = true from own_l5 (by decide))) (linb_get (show linb ((lset ((rmv ((lset ((rmv ([r2, t16, t25, (0 : Int32), (0 : Int32)]) r112)) t141 (3 : Int32))) r154)) t183 (4 : Int32))) (0 : Int32) = true from own_l5 (by decide))) d0_211 ?_
    have E_o60 := H.1
    refine callV K S (W := 0) (m_next l Z a0 hw n0 o60 u w (lget ((lset ((rmv ((lset ((rmv ([r2, t16, t25, (0 : Int32), (0 : Int32)]) r112)) t141 (3 : Int32))) r154)) t183 (4 : Int32))) (0 : Int32)) Y6 h189_24 (Sle S) H (by subst hY6 ht183 hY5 hY4 ht141 hY3 hN hY2 hY1 ht25 ht22 ht16 ht14 ht10 hi hq hk hj; exact (own_n2 i q k j).2.2.2.2.2.1)) E_o60 (hwi hw 45 rfl) (hwi hw 46 rfl) (hwi hw 48 rfl) (hwi hw 47 rfl) (hwi hw 49 rfl) (hwi hw 8 rfl) (by decide) (by decide) (by decide) (by decide) (by decide) rfl (argsL := [.int (lget ((lset ((rmv ((lset ((rmv ([r2, t16, t25, (0 : Int32), (0 : Int32)]) r112)) t141 (3 : Int32))) r154)) t183 (4 : Int32))) (0 : Int32))]) rfl (lenOf pd_9 rfl) (rest := []) rfl (Nat.le_of_eq rfl) d0_212 (pu fun T S => ?_)
    show Wp n0 p e _ s below _ T (mkF m 215 #[.val (.int x0), .val (.int x1), .val (.int x2), .val (.int x3), .val (.int x4), .val (.int r2), .val (.int t16), .val (.int t25), .val (.ref o29), .val (.int t57), .val (.ref o60), .val (.int r112), .val (.ref r131), .val (.int r154), .val (.ref r173)] [.int (lget Y6.2.1 (lget ((lset ((rmv ((lset ((rmv ([r2, t16, t25, (0 : Int32), (0 : Int32)]) r112)) t141 (3 : Int32))) r154)) t183 (4 : Int32))) (0 : Int32)))])
    refine iload K S rfl d0_215 ?_
    refine iconst K S (x := (1 : Int32)) rfl d0_217 ?_
    refine icmpz_le K S d0_218 (fun (c218 : ¬ 1 < t57.toInt) => ?_) (fun (c218 : 1 < t57.toInt) => ?_)
    · exfalso; omega
    refine aload K S rfl rfl d0_221 ?_
    refine iconst K S (x := (1 : Int32)) rfl d0_223 ?_
    refine iaload K S (v := .int (lget ((lset ((rmv ((lset ((rmv ([r2, t16, t25, (0 : Int32), (0 : Int32)]) r112)) t141 (3 : Int32))) r154)) t183 (4 : Int32))) (1 : Int32))) (i := (1 : Int32).toNatClampNeg) (show VA Z h189_24 r173 .int (List.map Value.int ((lset ((rmv ((lset ((rmv ([r2, t16, t25, (0 : Int32), (0 : Int32)]) r112)) t141 (3 : Int32))) r154)) t183 (4 : Int32)))) from A_r173) (linb_ix (show linb ((lset ((rmv ((lset ((rmv ([r2, t16, t25, (0 : Int32), (0 : Int32)]) r112)) t141 (3 : Int32))) r154)) t183 (4 : Int32))) (1 : Int32) = true from own_l5 (by decide))) (linb_get (show linb ((lset ((rmv ((lset ((rmv ([r2, t16, t25, (0 : Int32), (0 : Int32)]) r112)) t141 (3 : Int32))) r154)) t183 (4 : Int32))) (1 : Int32) = true from own_l5 (by decide))) d0_224 ?_
    refine goto K S d0_225 ?_
    refine icmpz_eq K S d0_229 (fun (c229 : (lget Y6.2.1 (lget ((lset ((rmv ((lset ((rmv ([r2, t16, t25, (0 : Int32), (0 : Int32)]) r112)) t141 (3 : Int32))) r154)) t183 (4 : Int32))) (0 : Int32))).toInt = (lget ((lset ((rmv ((lset ((rmv ([r2, t16, t25, (0 : Int32), (0 : Int32)]) r112)) t141 (3 : Int32))) r154)) t183 (4 : Int32))) (1 : Int32)).toInt) => ?_) (fun (c229 : ¬ (lget Y6.2.1 (lget ((lset ((rmv ((lset ((rmv ([r2, t16, t25, (0 : Int32), (0 : Int32)]) r112)) t141 (3 : Int32))) r154)) t183 (4 : Int32))) (0 : Int32))).toInt = (lget ((lset ((rmv ((lset ((rmv ([r2, t16, t25, (0 : Int32), (0 : Int32)]) r112)) t141 (3 : Int32))) r154)) t183 (4 : Int32))) (1 : Int32)).toInt) => ?_)
    rotate_left
    · exact (c229 (congrArg Int32.toInt (show lget Y6.2.1 (lget ((lset ((rmv ((lset ((rmv ([r2, t16, t25, (0 : Int32), (0 : Int32)]) r112)) t141 (3 : Int32))) r154)) t183 (4 : Int32))) (0 : Int32)) = lget ((lset ((rmv ((lset ((rmv ([r2, t16, t25, (0 : Int32), (0 : Int32)]) r112)) t141 (3 : Int32))) r154)) t183 (4 : Int32))) (1 : Int32) from (by subst hY6 ht183 hY5 hY4 ht141 hY3 hN hY2 hY1 ht25 ht22 ht16 ht14 ht10 hi hq hk hj; exact (own_n2 i q k j).2.2.2.2.2.2.1)))).elim
    refine iload K S rfl d0_234 ?_
    refine iconst K S (x := (1 : Int32)) rfl d0_236 ?_
    refine icmpz_le K S d0_237 (fun (c237 : ¬ 1 < t57.toInt) => ?_) (fun (c237 : 1 < t57.toInt) => ?_)
    · exfalso; omega
    refine aload K S rfl rfl d0_240 ?_
    refine aload K S rfl rfl d0_242 ?_
    refine iconst K S (x := (1 : Int32)) rfl d0_244 ?_
    refine iaload K S (v := .int (lget ((lset ((rmv ((lset ((rmv ([r2, t16, t25, (0 : Int32), (0 : Int32)]) r112)) t141 (3 : Int32))) r154)) t183 (4 : Int32))) (1 : Int32))) (i := (1 : Int32).toNatClampNeg) (show VA Z h189_24 r173 .int (List.map Value.int ((lset ((rmv ((lset ((rmv ([r2, t16, t25, (0 : Int32), (0 : Int32)]) r112)) t141 (3 : Int32))) r154)) t183 (4 : Int32)))) from A_r173) (linb_ix (show linb ((lset ((rmv ((lset ((rmv ([r2, t16, t25, (0 : Int32), (0 : Int32)]) r112)) t141 (3 : Int32))) r154)) t183 (4 : Int32))) (1 : Int32) = true from own_l5 (by decide))) (linb_get (show linb ((lset ((rmv ((lset ((rmv ([r2, t16, t25, (0 : Int32), (0 : Int32)]) r112)) t141 (3 : Int32))) r154)) t183 (4 : Int32))) (1 : Int32) = true from own_l5 (by decide))) d0_245 ?_
    have E_o60 := H.1
    refine callV K S (W := 0) (m_next l Z a0 hw n0 o60 u w (lget ((lset ((rmv ((lset ((rmv ([r2, t16, t25, (0 : Int32), (0 : Int32)]) r112)) t141 (3 : Int32))) r154)) t183 (4 : Int32))) (1 : Int32)) Y6 h189_24 (Sle S) H (by subst hY6 ht183 hY5 hY4 ht141 hY3 hN hY2 hY1 ht25 ht22 ht16 ht14 ht10 hi hq hk hj; exact (own_n2 i q k j).2.2.2.2.2.2.2.1)) E_o60 (hwi hw 45 rfl) (hwi hw 46 rfl) (hwi hw 48 rfl) (hwi hw 47 rfl) (hwi hw 49 rfl) (hwi hw 8 rfl) (by decide) (by decide) (by decide) (by decide) (by decide) rfl (argsL := [.int (lget ((lset ((rmv ((lset ((rmv ([r2, t16, t25, (0 : Int32), (0 : Int32)]) r112)) t141 (3 : Int32))) r154)) t183 (4 : Int32))) (1 : Int32))]) rfl (lenOf pd_9 rfl) (rest := []) rfl (Nat.le_of_eq rfl) d0_246 (pu fun T S => ?_)
    show Wp n0 p e _ s below _ T (mkF m 249 #[.val (.int x0), .val (.int x1), .val (.int x2), .val (.int x3), .val (.int x4), .val (.int r2), .val (.int t16), .val (.int t25), .val (.ref o29), .val (.int t57), .val (.ref o60), .val (.int r112), .val (.ref r131), .val (.int r154), .val (.ref r173)] [.int (lget Y6.2.1 (lget ((lset ((rmv ((lset ((rmv ([r2, t16, t25, (0 : Int32), (0 : Int32)]) r112)) t141 (3 : Int32))) r154)) t183 (4 : Int32))) (1 : Int32)))])
    refine iload K S rfl d0_249 ?_
    refine iconst K S (x := (2 : Int32)) rfl d0_251 ?_
    refine icmpz_le K S d0_252 (fun (c252 : ¬ 2 < t57.toInt) => ?_) (fun (c252 : 2 < t57.toInt) => ?_)
    rotate_left
    · exfalso; omega
    refine iconst K S (x := (-1 : Int32)) rfl d0_262 ?_
    refine icmpz_eq K S d0_263 (fun (c263 : (lget Y6.2.1 (lget ((lset ((rmv ((lset ((rmv ([r2, t16, t25, (0 : Int32), (0 : Int32)]) r112)) t141 (3 : Int32))) r154)) t183 (4 : Int32))) (1 : Int32))).toInt = (-1)) => ?_) (fun (c263 : ¬ (lget Y6.2.1 (lget ((lset ((rmv ((lset ((rmv ([r2, t16, t25, (0 : Int32), (0 : Int32)]) r112)) t141 (3 : Int32))) r154)) t183 (4 : Int32))) (1 : Int32))).toInt = (-1)) => ?_)
    rotate_left
    · exact (c263 (congrArg Int32.toInt (show lget Y6.2.1 (lget ((lset ((rmv ((lset ((rmv ([r2, t16, t25, (0 : Int32), (0 : Int32)]) r112)) t141 (3 : Int32))) r154)) t183 (4 : Int32))) (1 : Int32)) = (-1 : Int32) from (by subst hY6 ht183 hY5 hY4 ht141 hY3 hN hY2 hY1 ht25 ht22 ht16 ht14 ht10 hi hq hk hj; exact (own_n2 i q k j).2.2.2.2.2.2.2.2)))).elim
    refine iload K S rfl d0_268 ?_
    refine iconst K S (x := (2 : Int32)) rfl d0_270 ?_
    refine icmpz_le K S d0_271 (fun (c271 : ¬ 2 < t57.toInt) => ?_) (fun (c271 : 2 < t57.toInt) => ?_)
    rotate_left
    · exfalso; omega
    refine iconst K S (x := (1 : Int32)) rfl d0_289 ?_
    refine retn K S (by simp) (y := (1 : Int32)) rfl (by decide) (by decide) d0_290 ?_
    rfl
  refine aload K S rfl rfl d0_100 ?_
  refine aload K S rfl rfl d0_102 ?_
  refine iconst K S (x := (2 : Int32)) rfl d0_104 ?_
  refine iaload K S (v := .int t25) (i := 2) A_o29 ⟨by decide, rfl⟩ rfl d0_105 ?_
  have E_o60 := H.1
  refine callV K S (W := 0) (m_append l Z a0 hw n0 o60 u w t25 Y2 h91_16 (Sle S) D H (by subst hY2 hY1 ht25 ht22 ht16 ht14 ht10 hi hq; exact own_a3 i q)) E_o60 (hwi hw 23 rfl) (hwi hw 24 rfl) (hwi hw 26 rfl) (hwi hw 25 rfl) (hwi hw 27 rfl) (hwi hw 8 rfl) (by decide) (by decide) (by decide) (by decide) (by decide) rfl (argsL := [.int t25]) rfl (lenOf pd_4 rfl) (rest := []) rfl (Nat.le_of_eq rfl) d0_106 (ef fun T h106_25 hP S => ?_)
  obtain ⟨Y3, hY3⟩ : ∃ z, z = lapp Y2 t25 := ⟨_, rfl⟩
  rw [← hY3] at hP
  obtain ⟨H, K1⟩ := hP
  replace A_o29 := A_o29.keep K1 (ninS (by first | exact n_o29_o60 | exact Ne.symm n_o60_o29 | omega) (ninS (by first | exact n_o29_u | exact Ne.symm n_u_o29 | omega) (ninS (by first | exact n_o29_w | exact Ne.symm n_w_o29 | omega) nin0)))
  replace E_o60 := H.1
  show Wp n0 p e _ s below _ T (mkF m 109 #[.val (.int x0), .val (.int x1), .val (.int x2), .val (.int x3), .val (.int x4), .val (.int r2), .val (.int t16), .val (.int t25), .val (.ref o29), .val (.int t57), .val (.ref o60), .unset, .unset, .unset, .unset] [])
  have hN : t57 = (3 : Int32) := own_eqz (show t57.toInt = 3 by omega)
  refine iload_n K S rfl d0_109 ?_
  refine iload K S rfl d0_110 ?_
  refine callS K S (W := 0) (m_mod l Z a0 hw n0 x3 t57 h106_25 (Sle S) (by omega)) (hwi hw 0 rfl) (hwi hw 1 rfl) (hwi hw 3 rfl) (hwi hw 2 rfl) (by decide) (by decide) (by decide) (by decide) (by decide) rfl (argsL := [.int x3, .int t57]) rfl (lenOf pd_1 rfl) (rest := []) rfl (Nat.le_of_eq rfl) d0_112 (pr fun T r112 pr112 S => ?_)
  obtain ⟨k, hk, vk⟩ := own_fin 3 (by decide) r112 (by omega) (by have := congrArg Int32.toInt hN; omega)
  show Wp n0 p e _ s below _ T (mkF m 115 #[.val (.int x0), .val (.int x1), .val (.int x2), .val (.int x3), .val (.int x4), .val (.int r2), .val (.int t16), .val (.int t25), .val (.ref o29), .val (.int t57), .val (.ref o60), .unset, .unset, .unset, .unset] [.int r112])
  refine istore K S (l' := #[.val (.int x0), .val (.int x1), .val (.int x2), .val (.int x3), .val (.int x4), .val (.int r2), .val (.int t16), .val (.int t25), .val (.ref o29), .val (.int t57), .val (.ref o60), .val (.int r112), .unset, .unset, .unset]) rfl d0_115 ?_
  refine aload K S rfl rfl d0_117 ?_
  refine aload K S rfl rfl d0_119 ?_
  refine iload K S rfl d0_121 ?_
  refine iaload K S (v := .int (lget ([r2, t16, t25, (0 : Int32), (0 : Int32)]) r112)) (i := r112.toNatClampNeg) (show VA Z h106_25 o29 .int (List.map Value.int ([r2, t16, t25, (0 : Int32), (0 : Int32)])) from A_o29) (linb_ix (by subst hN hY3 hY2 hY1 ht25 ht22 ht16 ht14 ht10 hi hq hk; exact (own_m3 i q k).1)) (linb_get (by subst hN hY3 hY2 hY1 ht25 ht22 ht16 ht14 ht10 hi hq hk; exact (own_m3 i q k).1)) d0_123 ?_
  have E_o60 := H.1
  refine callV K S (W := 0) (m_unlink l Z a0 hw n0 o60 u w (lget ([r2, t16, t25, (0 : Int32), (0 : Int32)]) r112) Y3 h106_25 (Sle S) D H (by subst hN hY3 hY2 hY1 ht25 ht22 ht16 ht14 ht10 hi hq hk; exact (own_m3 i q k).2.1)) E_o60 (hwi hw 32 rfl) (hwi hw 33 rfl) (hwi hw 35 rfl) (hwi hw 34 rfl) (hwi hw 36 rfl) (hwi hw 8 rfl) (by decide) (by decide) (by decide) (by decide) (by decide) rfl (argsL := [.int (lget ([r2, t16, t25, (0 : Int32), (0 : Int32)]) r112)]) rfl (lenOf pd_6 rfl) (rest := []) rfl (Nat.le_of_eq rfl) d0_124 (ef fun T h124_26 hP S => ?_)
  obtain ⟨Y4, hY4⟩ : ∃ z, z = lunl Y3 (lget ([r2, t16, t25, (0 : Int32), (0 : Int32)]) r112) := ⟨_, rfl⟩
  rw [← hY4] at hP
  obtain ⟨H, K1⟩ := hP
  replace A_o29 := A_o29.keep K1 (ninS (by first | exact n_o29_o60 | exact Ne.symm n_o60_o29 | omega) (ninS (by first | exact n_o29_u | exact Ne.symm n_u_o29 | omega) (ninS (by first | exact n_o29_w | exact Ne.symm n_w_o29 | omega) nin0)))
  replace E_o60 := H.1
  show Wp n0 p e _ s below _ T (mkF m 127 #[.val (.int x0), .val (.int x1), .val (.int x2), .val (.int x3), .val (.int x4), .val (.int r2), .val (.int t16), .val (.int t25), .val (.ref o29), .val (.int t57), .val (.ref o60), .val (.int r112), .unset, .unset, .unset] [])
  refine aload K S rfl rfl d0_127 ?_
  refine iload K S rfl d0_129 ?_
  refine callS K S (W := 0) (m_rem l Z a0 hw n0 o29 r112 ([r2, t16, t25, (0 : Int32), (0 : Int32)]) h124_26 (Sle S) A_o29 (by simp [lset, rmv])) (hwi hw 37 rfl) (hwi hw 38 rfl) (hwi hw 39 rfl) (hwi hw 2 rfl) (by decide) (by decide) (by decide) (by decide) (by decide) rfl (argsL := [.ref o29, .int r112]) rfl (lenOf pd_7 rfl) (rest := []) rfl (Nat.le_of_eq rfl) d0_131 (ea fun T r131 h131_27 hP S => ?_)
  obtain ⟨A_r131, g_r131, y_r131, K1⟩ := hP
  have n_o29_r131 : o29 ≠ r131 := Nat.ne_of_lt (Nat.lt_of_lt_of_le A_o29.lt y_r131)
  have n_o60_r131 : o60 ≠ r131 := Nat.ne_of_lt (Nat.lt_of_lt_of_le H.lts.1 y_r131)
  have n_u_r131 : u ≠ r131 := Nat.ne_of_lt (Nat.lt_of_lt_of_le H.lts.2.1 y_r131)
  have n_w_r131 : w ≠ r131 := Nat.ne_of_lt (Nat.lt_of_lt_of_le H.lts.2.2 y_r131)
  replace A_o29 := A_o29.keep K1 nin0
  replace H := H.keep K1 nin0 nin0 nin0
  show Wp n0 p e _ s below _ T (mkF m 134 #[.val (.int x0), .val (.int x1), .val (.int x2), .val (.int x3), .val (.int x4), .val (.int r2), .val (.int t16), .val (.int t25), .val (.ref o29), .val (.int t57), .val (.ref o60), .val (.int r112), .unset, .unset, .unset] [.ref r131])
  refine astore K S (l' := #[.val (.int x0), .val (.int x1), .val (.int x2), .val (.int x3), .val (.int x4), .val (.int r2), .val (.int t16), .val (.int t25), .val (.ref o29), .val (.int t57), .val (.ref o60), .val (.int r112), .val (.ref r131), .unset, .unset]) rfl rfl d0_134 ?_
  refine aload K S rfl rfl d0_136 ?_
  refine iload K S rfl d0_138 ?_
  refine iconst K S (x := (1 : Int32)) rfl d0_140 ?_
  refine isub K S d0_141 ?_
  refine nmI fun t141 ht141 => ?_
  have ft141 : (t141.toInt - (t57.toInt - 1)) % 4294967296 = 0 := by rw [ht141]; exact c_isub t57 (1 : Int32)
  have rt141 := rng32 t141
  refine iconst K S (x := (3 : Int32)) rfl d0_142 ?_
  refine iastore K S (i := t141.toNatClampNeg) A_r131 (linb_ix (by subst ht141 hY4 hN hY3 hY2 hY1 ht25 ht22 ht16 ht14 ht10 hi hq hk; exact (own_m3 i q k).2.2.1)) (linb_ml (by subst ht141 hY4 hN hY3 hY2 hY1 ht25 ht22 ht16 ht14 ht10 hi hq hk; exact (own_m3 i q k).2.2.1)) g_r131 d0_143 fun T h143_28 W B S => ?_
  replace A_o29 := A_o29.other W (by first | exact n_o29_r131 | exact Ne.symm n_r131_o29 | omega)
  replace H := H.keep (Keep.of_wr W) (ninS (by first | exact n_o60_r131 | exact Ne.symm n_r131_o60 | omega) nin0) (ninS (by first | exact n_u_r131 | exact Ne.symm n_r131_u | omega) nin0) (ninS (by first | exact n_w_r131 | exact Ne.symm n_r131_w | omega) nin0)
  clear W
  replace A_r131 : VA Z h143_28 r131 .int ((lset ((rmv ([r2, t16, t25, (0 : Int32), (0 : Int32)]) r112)) t141 (3 : Int32)).map Value.int) := (by rw [lset_map]; exact B)
  refine aload K S rfl rfl d0_144 ?_
  refine iconst K S (x := (3 : Int32)) rfl d0_146 ?_
  have E_o60 := H.1
  refine callV K S (W := 0) (m_append l Z a0 hw n0 o60 u w (3 : Int32) Y4 h143_28 (Sle S) D H (by subst ht141 hY4 hN hY3 hY2 hY1 ht25 ht22 ht16 ht14 ht10 hi hq hk; exact (own_m3 i q k).2.2.2)) E_o60 (hwi hw 23 rfl) (hwi hw 24 rfl) (hwi hw 26 rfl) (hwi hw 25 rfl) (hwi hw 27 rfl) (hwi hw 8 rfl) (by decide) (by decide) (by decide) (by decide) (by decide) rfl (argsL := [.int (3 : Int32)]) rfl (lenOf pd_4 rfl) (rest := []) rfl (Nat.le_of_eq rfl) d0_147 (ef fun T h147_29 hP S => ?_)
  obtain ⟨Y5, hY5⟩ : ∃ z, z = lapp Y4 (3 : Int32) := ⟨_, rfl⟩
  rw [← hY5] at hP
  obtain ⟨H, K1⟩ := hP
  replace A_o29 := A_o29.keep K1 (ninS (by first | exact n_o29_o60 | exact Ne.symm n_o60_o29 | omega) (ninS (by first | exact n_o29_u | exact Ne.symm n_u_o29 | omega) (ninS (by first | exact n_o29_w | exact Ne.symm n_w_o29 | omega) nin0)))
  replace A_r131 := A_r131.keep K1 (ninS (by first | exact n_r131_o60 | exact Ne.symm n_o60_r131 | omega) (ninS (by first | exact n_r131_u | exact Ne.symm n_u_r131 | omega) (ninS (by first | exact n_r131_w | exact Ne.symm n_w_r131 | omega) nin0)))
  replace E_o60 := H.1
  show Wp n0 p e _ s below _ T (mkF m 150 #[.val (.int x0), .val (.int x1), .val (.int x2), .val (.int x3), .val (.int x4), .val (.int r2), .val (.int t16), .val (.int t25), .val (.ref o29), .val (.int t57), .val (.ref o60), .val (.int r112), .val (.ref r131), .unset, .unset] [])
  refine iload K S rfl d0_150 ?_
  refine iload K S rfl d0_152 ?_
  refine callS K S (W := 0) (m_mod l Z a0 hw n0 x4 t57 h147_29 (Sle S) (by omega)) (hwi hw 0 rfl) (hwi hw 1 rfl) (hwi hw 3 rfl) (hwi hw 2 rfl) (by decide) (by decide) (by decide) (by decide) (by decide) rfl (argsL := [.int x4, .int t57]) rfl (lenOf pd_1 rfl) (rest := []) rfl (Nat.le_of_eq rfl) d0_154 (pr fun T r154 pr154 S => ?_)
  obtain ⟨j, hj, vj⟩ := own_fin 3 (by decide) r154 (by omega) (by have := congrArg Int32.toInt hN; omega)
  show Wp n0 p e _ s below _ T (mkF m 157 #[.val (.int x0), .val (.int x1), .val (.int x2), .val (.int x3), .val (.int x4), .val (.int r2), .val (.int t16), .val (.int t25), .val (.ref o29), .val (.int t57), .val (.ref o60), .val (.int r112), .val (.ref r131), .unset, .unset] [.int r154])
  refine istore K S (l' := #[.val (.int x0), .val (.int x1), .val (.int x2), .val (.int x3), .val (.int x4), .val (.int r2), .val (.int t16), .val (.int t25), .val (.ref o29), .val (.int t57), .val (.ref o60), .val (.int r112), .val (.ref r131), .val (.int r154), .unset]) rfl d0_157 ?_
  refine aload K S rfl rfl d0_159 ?_
  refine aload K S rfl rfl d0_161 ?_
  refine iload K S rfl d0_163 ?_
  refine iaload K S (v := .int (lget ((lset ((rmv ([r2, t16, t25, (0 : Int32), (0 : Int32)]) r112)) t141 (3 : Int32))) r154)) (i := r154.toNatClampNeg) (show VA Z h147_29 r131 .int (List.map Value.int ((lset ((rmv ([r2, t16, t25, (0 : Int32), (0 : Int32)]) r112)) t141 (3 : Int32)))) from A_r131) (linb_ix (by subst hY5 ht141 hY4 hN hY3 hY2 hY1 ht25 ht22 ht16 ht14 ht10 hi hq hk hj; exact (own_n3 i q k j).1)) (linb_get (by subst hY5 ht141 hY4 hN hY3 hY2 hY1 ht25 ht22 ht16 ht14 ht10 hi hq hk hj; exact (own_n3 i q k j).1)) d0_165 ?_
  have E_o60 := H.1
  refine callV K S (W := 0) (m_unlink l Z a0 hw n0 o60 u w (lget ((lset ((rmv ([r2, t16, t25, (0 : Int32), (0 : Int32)]) r112)) t141 (3 : Int32))) r154) Y5 h147_29 (Sle S) D H (by subst hY5 ht141 hY4 hN hY3 hY2 hY1 ht25 ht22 ht16 ht14 ht10 hi hq hk hj; exact (own_n3 i q k j).2.1)) E_o60 (hwi hw 32 rfl) (hwi hw 33 rfl) (hwi hw 35 rfl) (hwi hw 34 rfl) (hwi hw 36 rfl) (hwi hw 8 rfl) (by decide) (by decide) (by decide) (by decide) (by decide) rfl (argsL := [.int (lget ((lset ((rmv ([r2, t16, t25, (0 : Int32), (0 : Int32)]) r112)) t141 (3 : Int32))) r154)]) rfl (lenOf pd_6 rfl) (rest := []) rfl (Nat.le_of_eq rfl) d0_166 (ef fun T h166_30 hP S => ?_)
  obtain ⟨Y6, hY6⟩ : ∃ z, z = lunl Y5 (lget ((lset ((rmv ([r2, t16, t25, (0 : Int32), (0 : Int32)]) r112)) t141 (3 : Int32))) r154) := ⟨_, rfl⟩
  rw [← hY6] at hP
  obtain ⟨H, K1⟩ := hP
  replace A_o29 := A_o29.keep K1 (ninS (by first | exact n_o29_o60 | exact Ne.symm n_o60_o29 | omega) (ninS (by first | exact n_o29_u | exact Ne.symm n_u_o29 | omega) (ninS (by first | exact n_o29_w | exact Ne.symm n_w_o29 | omega) nin0)))
  replace A_r131 := A_r131.keep K1 (ninS (by first | exact n_r131_o60 | exact Ne.symm n_o60_r131 | omega) (ninS (by first | exact n_r131_u | exact Ne.symm n_u_r131 | omega) (ninS (by first | exact n_r131_w | exact Ne.symm n_w_r131 | omega) nin0)))
  replace E_o60 := H.1
  show Wp n0 p e _ s below _ T (mkF m 169 #[.val (.int x0), .val (.int x1), .val (.int x2), .val (.int x3), .val (.int x4), .val (.int r2), .val (.int t16), .val (.int t25), .val (.ref o29), .val (.int t57), .val (.ref o60), .val (.int r112), .val (.ref r131), .val (.int r154), .unset] [])
  refine aload K S rfl rfl d0_169 ?_
  refine iload K S rfl d0_171 ?_
  refine callS K S (W := 0) (m_rem l Z a0 hw n0 r131 r154 ((lset ((rmv ([r2, t16, t25, (0 : Int32), (0 : Int32)]) r112)) t141 (3 : Int32))) h166_30 (Sle S) A_r131 (by simp [lset, rmv])) (hwi hw 37 rfl) (hwi hw 38 rfl) (hwi hw 39 rfl) (hwi hw 2 rfl) (by decide) (by decide) (by decide) (by decide) (by decide) rfl (argsL := [.ref r131, .int r154]) rfl (lenOf pd_7 rfl) (rest := []) rfl (Nat.le_of_eq rfl) d0_173 (ea fun T r173 h173_31 hP S => ?_)
  obtain ⟨A_r173, g_r173, y_r173, K1⟩ := hP
  have n_o29_r173 : o29 ≠ r173 := Nat.ne_of_lt (Nat.lt_of_lt_of_le A_o29.lt y_r173)
  have n_r131_r173 : r131 ≠ r173 := Nat.ne_of_lt (Nat.lt_of_lt_of_le A_r131.lt y_r173)
  have n_o60_r173 : o60 ≠ r173 := Nat.ne_of_lt (Nat.lt_of_lt_of_le H.lts.1 y_r173)
  have n_u_r173 : u ≠ r173 := Nat.ne_of_lt (Nat.lt_of_lt_of_le H.lts.2.1 y_r173)
  have n_w_r173 : w ≠ r173 := Nat.ne_of_lt (Nat.lt_of_lt_of_le H.lts.2.2 y_r173)
  replace A_o29 := A_o29.keep K1 nin0
  replace A_r131 := A_r131.keep K1 nin0
  replace H := H.keep K1 nin0 nin0 nin0
  show Wp n0 p e _ s below _ T (mkF m 176 #[.val (.int x0), .val (.int x1), .val (.int x2), .val (.int x3), .val (.int x4), .val (.int r2), .val (.int t16), .val (.int t25), .val (.ref o29), .val (.int t57), .val (.ref o60), .val (.int r112), .val (.ref r131), .val (.int r154), .unset] [.ref r173])
  refine astore K S (l' := #[.val (.int x0), .val (.int x1), .val (.int x2), .val (.int x3), .val (.int x4), .val (.int r2), .val (.int t16), .val (.int t25), .val (.ref o29), .val (.int t57), .val (.ref o60), .val (.int r112), .val (.ref r131), .val (.int r154), .val (.ref r173)]) rfl rfl d0_176 ?_
  refine aload K S rfl rfl d0_178 ?_
  refine iload K S rfl d0_180 ?_
  refine iconst K S (x := (1 : Int32)) rfl d0_182 ?_
  refine isub K S d0_183 ?_
  refine nmI fun t183 ht183 => ?_
  have ft183 : (t183.toInt - (t57.toInt - 1)) % 4294967296 = 0 := by rw [ht183]; exact c_isub t57 (1 : Int32)
  have rt183 := rng32 t183
  refine iconst K S (x := (4 : Int32)) rfl d0_184 ?_
  refine iastore K S (i := t183.toNatClampNeg) A_r173 (linb_ix (by subst ht183 hY6 hY5 ht141 hY4 hN hY3 hY2 hY1 ht25 ht22 ht16 ht14 ht10 hi hq hk hj; exact (own_n3 i q k j).2.2.1)) (linb_ml (by subst ht183 hY6 hY5 ht141 hY4 hN hY3 hY2 hY1 ht25 ht22 ht16 ht14 ht10 hi hq hk hj; exact (own_n3 i q k j).2.2.1)) g_r173 d0_185 fun T h185_32 W B S => ?_
  replace A_o29 := A_o29.other W (by first | exact n_o29_r173 | exact Ne.symm n_r173_o29 | omega)
  replace A_r131 := A_r131.other W (by first | exact n_r131_r173 | exact Ne.symm n_r173_r131 | omega)
  replace H := H.keep (Keep.of_wr W) (ninS (by first | exact n_o60_r173 | exact Ne.symm n_r173_o60 | omega) nin0) (ninS (by first | exact n_u_r173 | exact Ne.symm n_r173_u | omega) nin0) (ninS (by first | exact n_w_r173 | exact Ne.symm n_r173_w | omega) nin0)
  clear W
  replace A_r173 : VA Z h185_32 r173 .int ((lset ((rmv ((lset ((rmv ([r2, t16, t25, (0 : Int32), (0 : Int32)]) r112)) t141 (3 : Int32))) r154)) t183 (4 : Int32)).map Value.int) := (by rw [lset_map]; exact B)
  refine aload K S rfl rfl d0_186 ?_
  refine iconst K S (x := (4 : Int32)) rfl d0_188 ?_
  have E_o60 := H.1
  refine callV K S (W := 0) (m_append l Z a0 hw n0 o60 u w (4 : Int32) Y6 h185_32 (Sle S) D H (by subst ht183 hY6 hY5 ht141 hY4 hN hY3 hY2 hY1 ht25 ht22 ht16 ht14 ht10 hi hq hk hj; exact (own_n3 i q k j).2.2.2.1)) E_o60 (hwi hw 23 rfl) (hwi hw 24 rfl) (hwi hw 26 rfl) (hwi hw 25 rfl) (hwi hw 27 rfl) (hwi hw 8 rfl) (by decide) (by decide) (by decide) (by decide) (by decide) rfl (argsL := [.int (4 : Int32)]) rfl (lenOf pd_4 rfl) (rest := []) rfl (Nat.le_of_eq rfl) d0_189 (ef fun T h189_33 hP S => ?_)
  obtain ⟨Y7, hY7⟩ : ∃ z, z = lapp Y6 (4 : Int32) := ⟨_, rfl⟩
  rw [← hY7] at hP
  obtain ⟨H, K1⟩ := hP
  replace A_o29 := A_o29.keep K1 (ninS (by first | exact n_o29_o60 | exact Ne.symm n_o60_o29 | omega) (ninS (by first | exact n_o29_u | exact Ne.symm n_u_o29 | omega) (ninS (by first | exact n_o29_w | exact Ne.symm n_w_o29 | omega) nin0)))
  replace A_r131 := A_r131.keep K1 (ninS (by first | exact n_r131_o60 | exact Ne.symm n_o60_r131 | omega) (ninS (by first | exact n_r131_u | exact Ne.symm n_u_r131 | omega) (ninS (by first | exact n_r131_w | exact Ne.symm n_w_r131 | omega) nin0)))
  replace A_r173 := A_r173.keep K1 (ninS (by first | exact n_r173_o60 | exact Ne.symm n_o60_r173 | omega) (ninS (by first | exact n_r173_u | exact Ne.symm n_u_r173 | omega) (ninS (by first | exact n_r173_w | exact Ne.symm n_w_r173 | omega) nin0)))
  replace E_o60 := H.1
  show Wp n0 p e _ s below _ T (mkF m 192 #[.val (.int x0), .val (.int x1), .val (.int x2), .val (.int x3), .val (.int x4), .val (.int r2), .val (.int t16), .val (.int t25), .val (.ref o29), .val (.int t57), .val (.ref o60), .val (.int r112), .val (.ref r131), .val (.int r154), .val (.ref r173)] [])
  refine aload K S rfl rfl d0_192 ?_
  have E_o60 := H.1
  refine callV K S (W := 0) (m_first l Z a0 hw n0 o60 u w Y7 h189_33 (Sle S) H) E_o60 (hwi hw 40 rfl) (hwi hw 41 rfl) (hwi hw 43 rfl) (hwi hw 42 rfl) (hwi hw 44 rfl) (hwi hw 8 rfl) (by decide) (by decide) (by decide) (by decide) (by decide) rfl (argsL := []) rfl (lenOf pd_8 rfl) (rest := []) rfl (Nat.le_of_eq rfl) d0_194 (pu fun T S => ?_)
  show Wp n0 p e _ s below _ T (mkF m 197 #[.val (.int x0), .val (.int x1), .val (.int x2), .val (.int x3), .val (.int x4), .val (.int r2), .val (.int t16), .val (.int t25), .val (.ref o29), .val (.int t57), .val (.ref o60), .val (.int r112), .val (.ref r131), .val (.int r154), .val (.ref r173)] [.int (Y7.2.2.1)])
  refine aload K S rfl rfl d0_197 ?_
  refine iconst K S (x := (0 : Int32)) rfl d0_199 ?_
  refine iaload K S (v := .int (lget ((lset ((rmv ((lset ((rmv ([r2, t16, t25, (0 : Int32), (0 : Int32)]) r112)) t141 (3 : Int32))) r154)) t183 (4 : Int32))) (0 : Int32))) (i := (0 : Int32).toNatClampNeg) (show VA Z h189_33 r173 .int (List.map Value.int ((lset ((rmv ((lset ((rmv ([r2, t16, t25, (0 : Int32), (0 : Int32)]) r112)) t141 (3 : Int32))) r154)) t183 (4 : Int32)))) from A_r173) (linb_ix (show linb ((lset ((rmv ((lset ((rmv ([r2, t16, t25, (0 : Int32), (0 : Int32)]) r112)) t141 (3 : Int32))) r154)) t183 (4 : Int32))) (0 : Int32) = true from own_l5 (by decide))) (linb_get (show linb ((lset ((rmv ((lset ((rmv ([r2, t16, t25, (0 : Int32), (0 : Int32)]) r112)) t141 (3 : Int32))) r154)) t183 (4 : Int32))) (0 : Int32) = true from own_l5 (by decide))) d0_200 ?_
  refine icmpz_eq K S d0_201 (fun (c201 : (Y7.2.2.1).toInt = (lget ((lset ((rmv ((lset ((rmv ([r2, t16, t25, (0 : Int32), (0 : Int32)]) r112)) t141 (3 : Int32))) r154)) t183 (4 : Int32))) (0 : Int32)).toInt) => ?_) (fun (c201 : ¬ (Y7.2.2.1).toInt = (lget ((lset ((rmv ((lset ((rmv ([r2, t16, t25, (0 : Int32), (0 : Int32)]) r112)) t141 (3 : Int32))) r154)) t183 (4 : Int32))) (0 : Int32)).toInt) => ?_)
  rotate_left
  · exact (c201 (congrArg Int32.toInt (show Y7.2.2.1 = lget ((lset ((rmv ((lset ((rmv ([r2, t16, t25, (0 : Int32), (0 : Int32)]) r112)) t141 (3 : Int32))) r154)) t183 (4 : Int32))) (0 : Int32) from (by subst hY7 ht183 hY6 hY5 ht141 hY4 hN hY3 hY2 hY1 ht25 ht22 ht16 ht14 ht10 hi hq hk hj; exact (own_n3 i q k j).2.2.2.2.1)))).elim
  refine aload K S rfl rfl d0_206 ?_
  refine aload K S rfl rfl d0_208 ?_
  refine iconst K S (x := (0 : Int32)) rfl d0_210 ?_
  refine iaload K S (v := .int (lget ((lset ((rmv ((lset ((rmv ([r2, t16, t25, (0 : Int32), (0 : Int32)]) r112)) t141 (3 : Int32))) r154)) t183 (4 : Int32))) (0 : Int32))) (i := (0 : Int32).toNatClampNeg) (show VA Z h189_33 r173 .int (List.map Value.int ((lset ((rmv ((lset ((rmv ([r2, t16, t25, (0 : Int32), (0 : Int32)]) r112)) t141 (3 : Int32))) r154)) t183 (4 : Int32)))) from A_r173) (linb_ix (show linb ((lset ((rmv ((lset ((rmv ([r2, t16, t25, (0 : Int32), (0 : Int32)]) r112)) t141 (3 : Int32))) r154)) t183 (4 : Int32))) (0 : Int32) = true from own_l5 (by decide))) (linb_get (show linb ((lset ((rmv ((lset ((rmv ([r2, t16, t25, (0 : Int32), (0 : Int32)]) r112)) t141 (3 : Int32))) r154)) t183 (4 : Int32))) (0 : Int32) = true from own_l5 (by decide))) d0_211 ?_
  have E_o60 := H.1
  refine callV K S (W := 0) (m_next l Z a0 hw n0 o60 u w (lget ((lset ((rmv ((lset ((rmv ([r2, t16, t25, (0 : Int32), (0 : Int32)]) r112)) t141 (3 : Int32))) r154)) t183 (4 : Int32))) (0 : Int32)) Y7 h189_33 (Sle S) H (by subst hY7 ht183 hY6 hY5 ht141 hY4 hN hY3 hY2 hY1 ht25 ht22 ht16 ht14 ht10 hi hq hk hj; exact (own_n3 i q k j).2.2.2.2.2.1)) E_o60 (hwi hw 45 rfl) (hwi hw 46 rfl) (hwi hw 48 rfl) (hwi hw 47 rfl) (hwi hw 49 rfl) (hwi hw 8 rfl) (by decide) (by decide) (by decide) (by decide) (by decide) rfl (argsL := [.int (lget ((lset ((rmv ((lset ((rmv ([r2, t16, t25, (0 : Int32), (0 : Int32)]) r112)) t141 (3 : Int32))) r154)) t183 (4 : Int32))) (0 : Int32))]) rfl (lenOf pd_9 rfl) (rest := []) rfl (Nat.le_of_eq rfl) d0_212 (pu fun T S => ?_)
  show Wp n0 p e _ s below _ T (mkF m 215 #[.val (.int x0), .val (.int x1), .val (.int x2), .val (.int x3), .val (.int x4), .val (.int r2), .val (.int t16), .val (.int t25), .val (.ref o29), .val (.int t57), .val (.ref o60), .val (.int r112), .val (.ref r131), .val (.int r154), .val (.ref r173)] [.int (lget Y7.2.1 (lget ((lset ((rmv ((lset ((rmv ([r2, t16, t25, (0 : Int32), (0 : Int32)]) r112)) t141 (3 : Int32))) r154)) t183 (4 : Int32))) (0 : Int32)))])
  refine iload K S rfl d0_215 ?_
  refine iconst K S (x := (1 : Int32)) rfl d0_217 ?_
  refine icmpz_le K S d0_218 (fun (c218 : ¬ 1 < t57.toInt) => ?_) (fun (c218 : 1 < t57.toInt) => ?_)
  · exfalso; omega
  refine aload K S rfl rfl d0_221 ?_
  refine iconst K S (x := (1 : Int32)) rfl d0_223 ?_
  refine iaload K S (v := .int (lget ((lset ((rmv ((lset ((rmv ([r2, t16, t25, (0 : Int32), (0 : Int32)]) r112)) t141 (3 : Int32))) r154)) t183 (4 : Int32))) (1 : Int32))) (i := (1 : Int32).toNatClampNeg) (show VA Z h189_33 r173 .int (List.map Value.int ((lset ((rmv ((lset ((rmv ([r2, t16, t25, (0 : Int32), (0 : Int32)]) r112)) t141 (3 : Int32))) r154)) t183 (4 : Int32)))) from A_r173) (linb_ix (show linb ((lset ((rmv ((lset ((rmv ([r2, t16, t25, (0 : Int32), (0 : Int32)]) r112)) t141 (3 : Int32))) r154)) t183 (4 : Int32))) (1 : Int32) = true from own_l5 (by decide))) (linb_get (show linb ((lset ((rmv ((lset ((rmv ([r2, t16, t25, (0 : Int32), (0 : Int32)]) r112)) t141 (3 : Int32))) r154)) t183 (4 : Int32))) (1 : Int32) = true from own_l5 (by decide))) d0_224 ?_
  refine goto K S d0_225 ?_
  refine icmpz_eq K S d0_229 (fun (c229 : (lget Y7.2.1 (lget ((lset ((rmv ((lset ((rmv ([r2, t16, t25, (0 : Int32), (0 : Int32)]) r112)) t141 (3 : Int32))) r154)) t183 (4 : Int32))) (0 : Int32))).toInt = (lget ((lset ((rmv ((lset ((rmv ([r2, t16, t25, (0 : Int32), (0 : Int32)]) r112)) t141 (3 : Int32))) r154)) t183 (4 : Int32))) (1 : Int32)).toInt) => ?_) (fun (c229 : ¬ (lget Y7.2.1 (lget ((lset ((rmv ((lset ((rmv ([r2, t16, t25, (0 : Int32), (0 : Int32)]) r112)) t141 (3 : Int32))) r154)) t183 (4 : Int32))) (0 : Int32))).toInt = (lget ((lset ((rmv ((lset ((rmv ([r2, t16, t25, (0 : Int32), (0 : Int32)]) r112)) t141 (3 : Int32))) r154)) t183 (4 : Int32))) (1 : Int32)).toInt) => ?_)
  rotate_left
  · exact (c229 (congrArg Int32.toInt (show lget Y7.2.1 (lget ((lset ((rmv ((lset ((rmv ([r2, t16, t25, (0 : Int32), (0 : Int32)]) r112)) t141 (3 : Int32))) r154)) t183 (4 : Int32))) (0 : Int32)) = lget ((lset ((rmv ((lset ((rmv ([r2, t16, t25, (0 : Int32), (0 : Int32)]) r112)) t141 (3 : Int32))) r154)) t183 (4 : Int32))) (1 : Int32) from (by subst hY7 ht183 hY6 hY5 ht141 hY4 hN hY3 hY2 hY1 ht25 ht22 ht16 ht14 ht10 hi hq hk hj; exact (own_n3 i q k j).2.2.2.2.2.2.1)))).elim
  refine iload K S rfl d0_234 ?_
  refine iconst K S (x := (1 : Int32)) rfl d0_236 ?_
  refine icmpz_le K S d0_237 (fun (c237 : ¬ 1 < t57.toInt) => ?_) (fun (c237 : 1 < t57.toInt) => ?_)
  · exfalso; omega
  refine aload K S rfl rfl d0_240 ?_
  refine aload K S rfl rfl d0_242 ?_
  refine iconst K S (x := (1 : Int32)) rfl d0_244 ?_
  refine iaload K S (v := .int (lget ((lset ((rmv ((lset ((rmv ([r2, t16, t25, (0 : Int32), (0 : Int32)]) r112)) t141 (3 : Int32))) r154)) t183 (4 : Int32))) (1 : Int32))) (i := (1 : Int32).toNatClampNeg) (show VA Z h189_33 r173 .int (List.map Value.int ((lset ((rmv ((lset ((rmv ([r2, t16, t25, (0 : Int32), (0 : Int32)]) r112)) t141 (3 : Int32))) r154)) t183 (4 : Int32)))) from A_r173) (linb_ix (show linb ((lset ((rmv ((lset ((rmv ([r2, t16, t25, (0 : Int32), (0 : Int32)]) r112)) t141 (3 : Int32))) r154)) t183 (4 : Int32))) (1 : Int32) = true from own_l5 (by decide))) (linb_get (show linb ((lset ((rmv ((lset ((rmv ([r2, t16, t25, (0 : Int32), (0 : Int32)]) r112)) t141 (3 : Int32))) r154)) t183 (4 : Int32))) (1 : Int32) = true from own_l5 (by decide))) d0_245 ?_
  have E_o60 := H.1
  refine callV K S (W := 0) (m_next l Z a0 hw n0 o60 u w (lget ((lset ((rmv ((lset ((rmv ([r2, t16, t25, (0 : Int32), (0 : Int32)]) r112)) t141 (3 : Int32))) r154)) t183 (4 : Int32))) (1 : Int32)) Y7 h189_33 (Sle S) H (by subst hY7 ht183 hY6 hY5 ht141 hY4 hN hY3 hY2 hY1 ht25 ht22 ht16 ht14 ht10 hi hq hk hj; exact (own_n3 i q k j).2.2.2.2.2.2.2.1)) E_o60 (hwi hw 45 rfl) (hwi hw 46 rfl) (hwi hw 48 rfl) (hwi hw 47 rfl) (hwi hw 49 rfl) (hwi hw 8 rfl) (by decide) (by decide) (by decide) (by decide) (by decide) rfl (argsL := [.int (lget ((lset ((rmv ((lset ((rmv ([r2, t16, t25, (0 : Int32), (0 : Int32)]) r112)) t141 (3 : Int32))) r154)) t183 (4 : Int32))) (1 : Int32))]) rfl (lenOf pd_9 rfl) (rest := []) rfl (Nat.le_of_eq rfl) d0_246 (pu fun T S => ?_)
  show Wp n0 p e _ s below _ T (mkF m 249 #[.val (.int x0), .val (.int x1), .val (.int x2), .val (.int x3), .val (.int x4), .val (.int r2), .val (.int t16), .val (.int t25), .val (.ref o29), .val (.int t57), .val (.ref o60), .val (.int r112), .val (.ref r131), .val (.int r154), .val (.ref r173)] [.int (lget Y7.2.1 (lget ((lset ((rmv ((lset ((rmv ([r2, t16, t25, (0 : Int32), (0 : Int32)]) r112)) t141 (3 : Int32))) r154)) t183 (4 : Int32))) (1 : Int32)))])
  refine iload K S rfl d0_249 ?_
  refine iconst K S (x := (2 : Int32)) rfl d0_251 ?_
  refine icmpz_le K S d0_252 (fun (c252 : ¬ 2 < t57.toInt) => ?_) (fun (c252 : 2 < t57.toInt) => ?_)
  · exfalso; omega
  refine aload K S rfl rfl d0_255 ?_
  refine iconst K S (x := (2 : Int32)) rfl d0_257 ?_
  refine iaload K S (v := .int (lget ((lset ((rmv ((lset ((rmv ([r2, t16, t25, (0 : Int32), (0 : Int32)]) r112)) t141 (3 : Int32))) r154)) t183 (4 : Int32))) (2 : Int32))) (i := (2 : Int32).toNatClampNeg) (show VA Z h189_33 r173 .int (List.map Value.int ((lset ((rmv ((lset ((rmv ([r2, t16, t25, (0 : Int32), (0 : Int32)]) r112)) t141 (3 : Int32))) r154)) t183 (4 : Int32)))) from A_r173) (linb_ix (show linb ((lset ((rmv ((lset ((rmv ([r2, t16, t25, (0 : Int32), (0 : Int32)]) r112)) t141 (3 : Int32))) r154)) t183 (4 : Int32))) (2 : Int32) = true from own_l5 (by decide))) (linb_get (show linb ((lset ((rmv ((lset ((rmv ([r2, t16, t25, (0 : Int32), (0 : Int32)]) r112)) t141 (3 : Int32))) r154)) t183 (4 : Int32))) (2 : Int32) = true from own_l5 (by decide))) d0_258 ?_
  refine goto K S d0_259 ?_
  refine icmpz_eq K S d0_263 (fun (c263 : (lget Y7.2.1 (lget ((lset ((rmv ((lset ((rmv ([r2, t16, t25, (0 : Int32), (0 : Int32)]) r112)) t141 (3 : Int32))) r154)) t183 (4 : Int32))) (1 : Int32))).toInt = (lget ((lset ((rmv ((lset ((rmv ([r2, t16, t25, (0 : Int32), (0 : Int32)]) r112)) t141 (3 : Int32))) r154)) t183 (4 : Int32))) (2 : Int32)).toInt) => ?_) (fun (c263 : ¬ (lget Y7.2.1 (lget ((lset ((rmv ((lset ((rmv ([r2, t16, t25, (0 : Int32), (0 : Int32)]) r112)) t141 (3 : Int32))) r154)) t183 (4 : Int32))) (1 : Int32))).toInt = (lget ((lset ((rmv ((lset ((rmv ([r2, t16, t25, (0 : Int32), (0 : Int32)]) r112)) t141 (3 : Int32))) r154)) t183 (4 : Int32))) (2 : Int32)).toInt) => ?_)
  rotate_left
  · exact (c263 (congrArg Int32.toInt (show lget Y7.2.1 (lget ((lset ((rmv ((lset ((rmv ([r2, t16, t25, (0 : Int32), (0 : Int32)]) r112)) t141 (3 : Int32))) r154)) t183 (4 : Int32))) (1 : Int32)) = lget ((lset ((rmv ((lset ((rmv ([r2, t16, t25, (0 : Int32), (0 : Int32)]) r112)) t141 (3 : Int32))) r154)) t183 (4 : Int32))) (2 : Int32) from (by subst hY7 ht183 hY6 hY5 ht141 hY4 hN hY3 hY2 hY1 ht25 ht22 ht16 ht14 ht10 hi hq hk hj; exact (own_n3 i q k j).2.2.2.2.2.2.2.2.1)))).elim
  refine iload K S rfl d0_268 ?_
  refine iconst K S (x := (2 : Int32)) rfl d0_270 ?_
  refine icmpz_le K S d0_271 (fun (c271 : ¬ 2 < t57.toInt) => ?_) (fun (c271 : 2 < t57.toInt) => ?_)
  · exfalso; omega
  refine aload K S rfl rfl d0_274 ?_
  refine aload K S rfl rfl d0_276 ?_
  refine iconst K S (x := (2 : Int32)) rfl d0_278 ?_
  refine iaload K S (v := .int (lget ((lset ((rmv ((lset ((rmv ([r2, t16, t25, (0 : Int32), (0 : Int32)]) r112)) t141 (3 : Int32))) r154)) t183 (4 : Int32))) (2 : Int32))) (i := (2 : Int32).toNatClampNeg) (show VA Z h189_33 r173 .int (List.map Value.int ((lset ((rmv ((lset ((rmv ([r2, t16, t25, (0 : Int32), (0 : Int32)]) r112)) t141 (3 : Int32))) r154)) t183 (4 : Int32)))) from A_r173) (linb_ix (show linb ((lset ((rmv ((lset ((rmv ([r2, t16, t25, (0 : Int32), (0 : Int32)]) r112)) t141 (3 : Int32))) r154)) t183 (4 : Int32))) (2 : Int32) = true from own_l5 (by decide))) (linb_get (show linb ((lset ((rmv ((lset ((rmv ([r2, t16, t25, (0 : Int32), (0 : Int32)]) r112)) t141 (3 : Int32))) r154)) t183 (4 : Int32))) (2 : Int32) = true from own_l5 (by decide))) d0_279 ?_
  have E_o60 := H.1
  refine callV K S (W := 0) (m_next l Z a0 hw n0 o60 u w (lget ((lset ((rmv ((lset ((rmv ([r2, t16, t25, (0 : Int32), (0 : Int32)]) r112)) t141 (3 : Int32))) r154)) t183 (4 : Int32))) (2 : Int32)) Y7 h189_33 (Sle S) H (by subst hY7 ht183 hY6 hY5 ht141 hY4 hN hY3 hY2 hY1 ht25 ht22 ht16 ht14 ht10 hi hq hk hj; exact (own_n3 i q k j).2.2.2.2.2.2.2.2.2.1)) E_o60 (hwi hw 45 rfl) (hwi hw 46 rfl) (hwi hw 48 rfl) (hwi hw 47 rfl) (hwi hw 49 rfl) (hwi hw 8 rfl) (by decide) (by decide) (by decide) (by decide) (by decide) rfl (argsL := [.int (lget ((lset ((rmv ((lset ((rmv ([r2, t16, t25, (0 : Int32), (0 : Int32)]) r112)) t141 (3 : Int32))) r154)) t183 (4 : Int32))) (2 : Int32))]) rfl (lenOf pd_9 rfl) (rest := []) rfl (Nat.le_of_eq rfl) d0_280 (pu fun T S => ?_)
  show Wp n0 p e _ s below _ T (mkF m 283 #[.val (.int x0), .val (.int x1), .val (.int x2), .val (.int x3), .val (.int x4), .val (.int r2), .val (.int t16), .val (.int t25), .val (.ref o29), .val (.int t57), .val (.ref o60), .val (.int r112), .val (.ref r131), .val (.int r154), .val (.ref r173)] [.int (lget Y7.2.1 (lget ((lset ((rmv ((lset ((rmv ([r2, t16, t25, (0 : Int32), (0 : Int32)]) r112)) t141 (3 : Int32))) r154)) t183 (4 : Int32))) (2 : Int32)))])
  refine iconst K S (x := (-1 : Int32)) rfl d0_283 ?_
  refine icmpz_eq K S d0_284 (fun (c284 : (lget Y7.2.1 (lget ((lset ((rmv ((lset ((rmv ([r2, t16, t25, (0 : Int32), (0 : Int32)]) r112)) t141 (3 : Int32))) r154)) t183 (4 : Int32))) (2 : Int32))).toInt = (-1)) => ?_) (fun (c284 : ¬ (lget Y7.2.1 (lget ((lset ((rmv ((lset ((rmv ([r2, t16, t25, (0 : Int32), (0 : Int32)]) r112)) t141 (3 : Int32))) r154)) t183 (4 : Int32))) (2 : Int32))).toInt = (-1)) => ?_)
  rotate_left
  · exact (c284 (congrArg Int32.toInt (show lget Y7.2.1 (lget ((lset ((rmv ((lset ((rmv ([r2, t16, t25, (0 : Int32), (0 : Int32)]) r112)) t141 (3 : Int32))) r154)) t183 (4 : Int32))) (2 : Int32)) = (-1 : Int32) from (by subst hY7 ht183 hY6 hY5 ht141 hY4 hN hY3 hY2 hY1 ht25 ht22 ht16 ht14 ht10 hi hq hk hj; exact (own_n3 i q k j).2.2.2.2.2.2.2.2.2.2)))).elim
  refine iconst K S (x := (1 : Int32)) rfl d0_289 ?_
  refine retn K S (by simp) (y := (1 : Int32)) rfl (by decide) (by decide) d0_290 ?_
  rfl

set_option maxRecDepth 65536 in
set_option maxHeartbeats 40000000 in
theorem comes_1 {Post : Tables → Env → Array Value → State → Outcome → State → Prop} (hpost : ∀ tb e args s v u, (limb_1_1.after args s (.returned v) u = true ∧ limb_1_2.after args s (.returned v) u = true ∧ True) → FrameEnd s (.returned v) u (Jvm.fieldLocs frame_1_writes args s ++ Jvm.arrayLocs frame_1_arrays args s ++ Jvm.staticLocs frame_1_statics s) 24 128 → Post tb e args s (.returned v) u) :
    ArmFor flags0 classFile x code maxLocals ret World_1 tables_1 room_1 Calls_1 rest_1 Pre_1 Post := by
  intro l hfl _ _ p e ha hc hk s m args below hf hA hF happ hP
  obtain ⟨hcalls, hrest, hpre⟩ := hP
  obtain ⟨-, -, -, hnamed, -, -, -, hat⟩ := (Spec.applies_iff hf).mp happ
  obtain ⟨hg, hn⟩ := and_e (Cond.before_iff.mp (show (Jvm.Cond.and given_1 narrow_1).before args s = true from hpre))
  obtain ⟨gc, r0⟩ := and_e hg
  obtain ⟨g0, r1⟩ := and_e r0
  obtain ⟨g1, r2⟩ := and_e r1
  obtain ⟨g2, r3⟩ := and_e r2
  obtain ⟨g3, r4⟩ := and_e r3
  obtain ⟨w0, w1, w2, w3, w4, rfl⟩ : ∃ w0 w1 w2 w3 w4 : Value, args = #[w0, w1, w2, w3, w4] := by
    have hs : args.size = 5 := by simpa [Cond.value, given_1] using gc
    obtain ⟨L⟩ := args
    match L, hs with
    | [w0, w1, w2, w3, w4], _ => exact ⟨w0, w1, w2, w3, w4, rfl⟩
  have hw := fun d (hd : d ∈ tables_1) => atoms_spec (ws := Jvm.Cond.code x code maxLocals ret :: tables_1) hat d (List.mem_cons_of_mem _ hd)
  obtain ⟨i0, ei0⟩ := is_v g0
  obtain rfl : w0 = (.int i0) := Option.some.inj ei0
  obtain ⟨i1, ei1⟩ := is_v g1
  obtain rfl : w1 = (.int i1) := Option.some.inj ei1
  obtain ⟨i2, ei2⟩ := is_v g2
  obtain rfl : w2 = (.int i2) := Option.some.inj ei2
  obtain ⟨i3, ei3⟩ := is_v g3
  obtain rfl : w3 = (.int i3) := Option.some.inj ei3
  obtain ⟨i4, ei4⟩ := is_v r4
  obtain rfl : w4 = (.int i4) := Option.some.inj ei4
  obtain ⟨n, o, h1, h2, h3, _, L, rfl, ⟨rfl, -, N⟩, hq⟩ := m_law l s _ hw s.heap.size i0 i1 i2 i3 i4 s.heap (Nat.le_refl _) p e ha hc hk s m _ below hf ((Spec.applies_iff_loose hf).mp happ).1 ⟨rfl, State.Warmed39.refl s, rfl⟩ trivial
  refine ⟨n, _, h1, h2, h3, hpost _ _ _ _ _ _ ⟨Cond.after_iff.mpr rfl, Cond.after_iff.mpr (eq_i res_at (Term.int_eval (1)) rfl), trivial⟩ ⟨hq.1, hq.2.1, (hq.2.2.sift fun y hy => Or.inr (N y hy)).mono (by decide) (by decide)⟩⟩
theorem main_1_1 : Claimed_1_1 := comes_1 fun _ _ _ _ _ _ h hF => ⟨h.1, hF⟩
theorem main_1_2 : Claimed_1_2 := comes_1 fun _ _ _ _ _ _ h hF => ⟨h.2.1, hF⟩
end Jvm.Pilot.@@N@@
namespace Jvm.Pilot.@@N@@
open Jvm Jvm.ClassFile Sem Op Lib Jvm.Free Jvm.Stand Jvm.Pilot.@@N@@.Jvm.D
/-! MADE BY PROGRAM (witnessworld.py) out of the Statement's table words and the real class files: 9 classes; the members and pool entries that the words name. The judged class is class 1, her method 3. -/
namespace start1
open Jvm.ClassFile
def u (s : String) : CpInfo := .utf8 (stringToUtf16 s)
/-- a pool by its gaps: so many unusable entries, then the entry; so many at the end -/
def gap : Nat → List CpInfo → List CpInfo
  | 0, r => r
  | n + 1, r => .unusable :: gap n r
def poolList (es : List (Nat × CpInfo)) (last : Nat) : List CpInfo := es.foldr (fun e r => gap e.1 (e.2 :: r)) (gap last [])
def pool (es : List (Nat × CpInfo)) (last : Nat) : Array CpInfo := ⟨poolList es last⟩
def fileOf (pool : Array CpInfo) (this : Nat) (attrs : Array Attribute := #[]) (ms : Array MethodInfo := #[]) (fl : Nat := 33) (sup : Nat := 0) (ifs : Array Nat := #[]) (fds : Array FieldInfo := #[]) : ClassFile where
  minorVersion := 0
  majorVersion := 65
  constantPool := pool
  accessFlags := fl
  thisClass := this
  superClass := sup
  interfaces := ifs
  fields := fds
  methods := ms
  attributes := attrs
def plain (name : String) (sup : Option ClassId) : Class where
  name := name
  kind := .ordinary
  loader := none
  accessFlags := 33
  super := sup
  interfaces := #[]
  cf := none
  fields := #[]
  methods := #[]
  instanceTypes := #[]
  staticTypes := #[]
  resolved := #[]
  callSites := []
  init := .initialized
  statics := none
  mirror := none

def pool0 : Array CpInfo := pool [(5, u "<init>"), (0, u "()V"), (1, .class_ 10), (1, u "java/lang/Object")] 113

def k0c0 : Code := { maxStack := 0, maxLocals := 1, code := object_method_1_code, exceptionTable := #[], attributes := #[] }
def k0m0 : Method := { name := "<init>", desc := "()V", sig := { parameters := [], returnType := none }, accessFlags := 1, code := some k0c0 }
/-- java/lang/Object -/
def k0 : Class := { plain "java/lang/Object" none with
  accessFlags := 33
  interfaces := #[]
  cf := some (fileOf pool0 8 #[] #[{ accessFlags := 1, nameIndex := 5, descriptorIndex := 6, attributes := #[] }] 33 0 #[] #[])
  fields := #[]
  methods := #[k0m0]
  instanceTypes := #[]
  staticTypes := #[]
  resolved := Array.replicate 124 none
  statics := none }

def pool1 : Array CpInfo := pool [(2, .class_ 4), (1, u "java/lang/Object"), (0, u "<init>"), (0, u "()V"), (0, .integer 2147483647), (0, .methodref 9 10), (0, .class_ 11), (0, .nameAndType 12 13), (0, u "com/example/ipseity/ipseity/table/LinksUnlinkPinLaw"), (0, u "mod"), (0, u "(II)I"), (0, .class_ 15), (0, u "com/example/ipseity/ipseity/table/Links"), (0, .methodref 14 17), (0, .nameAndType 5 18), (0, u "(I)V"), (0, .methodref 14 20), (0, .nameAndType 21 18), (0, u "append"), (0, .methodref 14 23), (0, .nameAndType 24 18), (0, u "unlink"), (0, .methodref 9 26), (0, .nameAndType 27 28), (0, u "remove"), (0, u "([II)[I"), (0, .methodref 14 30), (0, .nameAndType 31 32), (0, u "first"), (0, u "()I"), (0, .methodref 14 34), (0, .nameAndType 35 36), (0, u "next"), (0, u "(I)I"), (5, u "law"), (0, u "(IIIII)Z")] 2

def k1m0 : Method := { name := "<init>", desc := "()V", sig := { parameters := [], returnType := none }, accessFlags := 1, code := none }
def k1c1 : Code := { maxStack := 2, maxLocals := 2, code := method_2_code, exceptionTable := #[], attributes := #[] }
def k1m1 : Method := { name := "mod", desc := "(II)I", sig := { parameters := [.int, .int], returnType := some .int }, accessFlags := 10, code := some k1c1 }
def k1c2 : Code := { maxStack := 5, maxLocals := 3, code := method_3_code, exceptionTable := #[], attributes := #[] }
def k1m2 : Method := { name := "remove", desc := "([II)[I", sig := { parameters := [(.array .int), .int], returnType := some (.array .int) }, accessFlags := 10, code := some k1c2 }
def k1c3 : Code := { maxStack := 3, maxLocals := 15, code := code, exceptionTable := #[], attributes := #[] }
def k1m3 : Method := { name := "law", desc := "(IIIII)Z", sig := { parameters := [.int, .int, .int, .int, .int], returnType := some .boolean }, accessFlags := 9, code := some k1c3 }
/-- com/example/ipseity/ipseity/table/LinksUnlinkPinLaw -/
def k1 : Class := { plain "com/example/ipseity/ipseity/table/LinksUnlinkPinLaw" (some 0) with
  accessFlags := 49
  interfaces := #[]
  cf := some (fileOf pool1 9 #[] #[{ accessFlags := 1, nameIndex := 5, descriptorIndex := 6, attributes := #[] }, { accessFlags := 10, nameIndex := 12, descriptorIndex := 13, attributes := #[] }, { accessFlags := 10, nameIndex := 27, descriptorIndex := 28, attributes := #[] }, { accessFlags := 9, nameIndex := 42, descriptorIndex := 43, attributes := #[] }] 49 2 #[] #[])
  fields := #[]
  methods := #[k1m0, k1m1, k1m2, k1m3]
  instanceTypes := #[]
  staticTypes := #[]
  resolved := Array.replicate 46 none
  statics := none }

def pool2 : Array CpInfo := pool [(1, .methodref 2 3), (0, .class_ 4), (0, .nameAndType 5 6), (0, u "java/lang/Object"), (0, u "<init>"), (0, u "()V"), (0, .fieldref 8 9), (0, .class_ 10), (0, .nameAndType 11 12), (0, u "com/example/ipseity/ipseity/table/Links"), (0, u "head"), (0, u "I"), (0, .fieldref 8 14), (0, .nameAndType 15 12), (0, u "tail"), (0, .fieldref 8 17), (0, .nameAndType 18 19), (0, u "before"), (0, u "[I"), (0, .fieldref 8 21), (0, .nameAndType 22 19), (0, u "after"), (8, .methodref 8 32), (0, .nameAndType 33 34), (0, u "link"), (0, u "(II)V"), (0, u "(I)V"), (4, u "first"), (0, u "()I"), (0, u "next"), (0, u "(I)I"), (0, u "append"), (0, u "unlink")] 4

def k2c0 : Code := { maxStack := 2, maxLocals := 2, code := prog_18_method_1_code, exceptionTable := #[], attributes := #[] }
def k2m0 : Method := { name := "<init>", desc := "(I)V", sig := { parameters := [.int], returnType := none }, accessFlags := 0, code := some k2c0 }
def k2c1 : Code := { maxStack := 1, maxLocals := 1, code := prog_18_method_4_code, exceptionTable := #[], attributes := #[] }
def k2m1 : Method := { name := "first", desc := "()I", sig := { parameters := [], returnType := some .int }, accessFlags := 0, code := some k2c1 }
def k2c2 : Code := { maxStack := 2, maxLocals := 2, code := prog_18_method_5_code, exceptionTable := #[], attributes := #[] }
def k2m2 : Method := { name := "next", desc := "(I)I", sig := { parameters := [.int], returnType := some .int }, accessFlags := 0, code := some k2c2 }
def k2c3 : Code := { maxStack := 3, maxLocals := 2, code := prog_18_method_6_code, exceptionTable := #[], attributes := #[] }
def k2m3 : Method := { name := "append", desc := "(I)V", sig := { parameters := [.int], returnType := none }, accessFlags := 0, code := some k2c3 }
def k2c4 : Code := { maxStack := 4, maxLocals := 2, code := prog_18_method_7_code, exceptionTable := #[], attributes := #[] }
def k2m4 : Method := { name := "unlink", desc := "(I)V", sig := { parameters := [.int], returnType := none }, accessFlags := 0, code := some k2c4 }
def k2c5 : Code := { maxStack := 3, maxLocals := 3, code := prog_18_method_9_code, exceptionTable := #[], attributes := #[] }
def k2m5 : Method := { name := "link", desc := "(II)V", sig := { parameters := [.int, .int], returnType := none }, accessFlags := 2, code := some k2c5 }
/-- com/example/ipseity/ipseity/table/Links -/
def k2 : Class := { plain "com/example/ipseity/ipseity/table/Links" (some 0) with
  accessFlags := 48
  interfaces := #[]
  cf := some (fileOf pool2 8 #[] #[{ accessFlags := 0, nameIndex := 5, descriptorIndex := 35, attributes := #[] }, { accessFlags := 0, nameIndex := 40, descriptorIndex := 41, attributes := #[] }, { accessFlags := 0, nameIndex := 42, descriptorIndex := 43, attributes := #[] }, { accessFlags := 0, nameIndex := 44, descriptorIndex := 35, attributes := #[] }, { accessFlags := 0, nameIndex := 45, descriptorIndex := 35, attributes := #[] }, { accessFlags := 2, nameIndex := 33, descriptorIndex := 34, attributes := #[] }] 48 2 #[] #[{ accessFlags := 18, nameIndex := 18, descriptorIndex := 19, attributes := #[] }, { accessFlags := 18, nameIndex := 22, descriptorIndex := 19, attributes := #[] }, { accessFlags := 2, nameIndex := 11, descriptorIndex := 12, attributes := #[] }, { accessFlags := 2, nameIndex := 15, descriptorIndex := 12, attributes := #[] }])
  fields := #[{ name := "before", type := (.array .int), accessFlags := 18, slot := 0, constantValue := 0 }, { name := "after", type := (.array .int), accessFlags := 18, slot := 1, constantValue := 0 }, { name := "head", type := .int, accessFlags := 2, slot := 2, constantValue := 0 }, { name := "tail", type := .int, accessFlags := 2, slot := 3, constantValue := 0 }]
  methods := #[k2m0, k2m1, k2m2, k2m3, k2m4, k2m5]
  instanceTypes := #[(.array .int), (.array .int), .int, .int]
  staticTypes := #[]
  resolved := Array.replicate 50 none
  statics := none }

def pool3 : Array CpInfo := pool [(1, u "java/lang/Cloneable"), (0, .class_ 1), (0, u "java/lang/Object"), (0, .class_ 3)] 3

/-- java/lang/Cloneable -/
def k3 : Class := { plain "java/lang/Cloneable" (some 0) with
  accessFlags := 1537
  interfaces := #[]
  cf := some (fileOf pool3 2 #[] #[] 1537 4 #[] #[])
  fields := #[]
  methods := #[]
  instanceTypes := #[]
  staticTypes := #[]
  resolved := Array.replicate 8 none
  statics := none }

def pool4 : Array CpInfo := pool [(1, u "java/io/Serializable"), (0, .class_ 1), (0, u "java/lang/Object"), (0, .class_ 3)] 3

/-- java/io/Serializable -/
def k4 : Class := { plain "java/io/Serializable" (some 0) with
  accessFlags := 1537
  interfaces := #[]
  cf := some (fileOf pool4 2 #[] #[] 1537 4 #[] #[])
  fields := #[]
  methods := #[]
  instanceTypes := #[]
  staticTypes := #[]
  resolved := Array.replicate 8 none
  statics := none }

/-- the primitive byte -/
def k5 : Class := { plain "byte" none with kind := .primitive 'B', accessFlags := 0x411 }
/-- [B -/
def k6 : Class := { plain "[B" (some 0) with kind := .array 5 .byte, interfaces := #[3, 4], accessFlags := 1041 }

/-- the primitive int -/
def k7 : Class := { plain "int" none with kind := .primitive 'I', accessFlags := 0x411 }
/-- [I -/
def k8 : Class := { plain "[I" (some 0) with kind := .array 7 .int, interfaces := #[3, 4], accessFlags := 1041 }

def heap : Heap := #[]
def classes : Array Class := #[k0, k1, k2, k3, k4, k5, k6, k7, k8]
def interned : List (Array UInt16 × Addr) := []
def slotsUsed : Nat := 0
def theMethod : MethodId := ⟨1, 3⟩
def args0 : Array Value := #[.int 5, .int 300, .int 7, .int 3, .int 4]
def aboutOver (below : List Frame) : State where
  vm := { classes := classes, interned := interned.toArray }
  heap := heap
  slotsUsed := slotsUsed
  threads := #[{ frames := .invoking theMethod args0 :: below }]
def below0 : List Frame := [.native { method := ⟨0, 0⟩, args := #[] }]
def about1 : State := aboutOver below0
def p0 : Program := .bare "" "" ""
def e0 : Env := launch0.env 0 0 0
theorem w_frames : about1.frames = Frame.invoking theMethod args0 :: below0 := rfl
set_option maxRecDepth 65536 in
theorem w_args : argsFit about1.vm theMethod args0 = true := by decide +kernel
set_option maxRecDepth 65536 in
theorem w_heap : heapFits about1 = true := by decide +kernel
set_option maxRecDepth 65536 in
theorem w_runnable : about1.curStatus? = some .runnable := by decide +kernel
set_option maxRecDepth 65536 in
theorem w_alone : about1.alone = true := by decide +kernel
set_option maxRecDepth 65536 in
theorem w_named : about1.methodNamed? x = some theMethod := by decide +kernel
set_option maxRecDepth 65536 in
theorem w_hears : about1.hears theMethod below0 = true := by decide +kernel
set_option maxRecDepth 65536 in
theorem w_ripe : about1.ripe theMethod args0 below0 = true := by decide +kernel
theorem w_running : about1.status = .running := rfl
set_option maxRecDepth 65536 in
theorem w_room : about1.hasRoom e0.platform room_1 = true :=
  launch0.hasRoom_least _ room_1 (by decide +kernel) (by decide +kernel) (by decide +kernel) (by decide +kernel) (by decide +kernel) (by decide +kernel)
theorem allAtoms_all (ts : List Jvm.Cond) (a : Array Jvm.Value) (st : Jvm.State) : (allAtoms ts).before a st = ts.all (fun c => c.before a st) := by
  induction ts with
  | nil => rfl
  | cons c t ih =>
    show (Jvm.Cond.and c (allAtoms t)).before a st = _
    rw [Jvm.Cond.before_and, ih, List.all_cons]
def words1 : List Jvm.Cond := Jvm.Cond.code x code maxLocals ret :: tables_1
/-- a 'code' word, met by the world's own term for the bytes: nothing is compared byte by byte -/
theorem code_word {y : MethodName} {bytes : ByteArray} {mx : Nat} {rt : Option FieldType} {a : Array Value} {s : State} {m : MethodId} {meth : Method} {c : Code} (h1 : s.methodNamed? y = some m) (h2 : s.vm.method? m = some meth) (h3 : meth.code = some c) (h4 : c.code = bytes)
    (h5 : (c.maxLocals == mx && c.exceptionTable.isEmpty && decide (c.maxStack ≤ mostOperands) && decide (meth.sig.returnType = rt) && !meth.locks && decide (parseMethodDescriptor y.desc = some meth.sig)) = true) : (Jvm.Cond.code y bytes mx rt).before a s = true := by
  simp only [Bool.and_eq_true, beq_iff_eq, Bool.not_eq_true', decide_eq_true_eq] at h5
  obtain ⟨⟨⟨⟨⟨g1, g2⟩, g3⟩, g4⟩, g5⟩, g6⟩ := h5
  simp [Cond.before, Cond.holds, Cond.value, h1, h2, h3, h4, g1, g2, g3, g4, g5, g6]
def isCode : Jvm.Cond → Bool
  | .code _ _ _ _ => true
  | _ => false
theorem all_split {L : List Jvm.Cond} {P : Jvm.Cond → Bool} (h1 : L.all (fun c => isCode c || P c) = true) (h2 : ∀ c ∈ L.filter isCode, P c = true) : L.all P = true := by
  refine List.all_eq_true.mpr fun c hc => ?_
  have h := List.all_eq_true.mp h1 c hc
  rcases Bool.eq_false_or_eq_true (isCode c) with hi | hi
  · exact h2 c (List.mem_filter.mpr ⟨hc, hi⟩)
  · simpa [hi] using h
set_option maxRecDepth 65536 in
theorem w_c0 : (Jvm.Cond.code x code maxLocals ret).before args0 about1 = true := code_word (m := ⟨1, 3⟩) (meth := k1m3) (c := k1c3) (by decide +kernel) rfl rfl rfl (by decide +kernel)
set_option maxRecDepth 65536 in
theorem w_c1 : (Jvm.Cond.code ({ cls := "com/example/ipseity/ipseity/table/LinksUnlinkPinLaw", name := "mod", desc := "(II)I" } : Jvm.MethodName) method_2_code (2 : Nat) (Option.some Jvm.ClassFile.FieldType.int)).before args0 about1 = true := code_word (m := ⟨1, 1⟩) (meth := k1m1) (c := k1c1) (by decide +kernel) rfl rfl rfl (by decide +kernel)
set_option maxRecDepth 65536 in
theorem w_c2 : (Jvm.Cond.code ({ cls := "com/example/ipseity/ipseity/table/Links", name := "<init>", desc := "(I)V" } : Jvm.MethodName) prog_18_method_1_code (2 : Nat) (Option.none : Option Jvm.ClassFile.FieldType)).before args0 about1 = true := code_word (m := ⟨2, 0⟩) (meth := k2m0) (c := k2c0) (by decide +kernel) rfl rfl rfl (by decide +kernel)
set_option maxRecDepth 65536 in
theorem w_c3 : (Jvm.Cond.code ({ cls := "java/lang/Object", name := "<init>", desc := "()V" } : Jvm.MethodName) object_method_1_code (1 : Nat) (Option.none : Option Jvm.ClassFile.FieldType)).before args0 about1 = true := code_word (m := ⟨0, 0⟩) (meth := k0m0) (c := k0c0) (by decide +kernel) rfl rfl rfl (by decide +kernel)
set_option maxRecDepth 65536 in
theorem w_c4 : (Jvm.Cond.code ({ cls := "com/example/ipseity/ipseity/table/Links", name := "append", desc := "(I)V" } : Jvm.MethodName) prog_18_method_6_code (2 : Nat) (Option.none : Option Jvm.ClassFile.FieldType)).before args0 about1 = true := code_word (m := ⟨2, 3⟩) (meth := k2m3) (c := k2c3) (by decide +kernel) rfl rfl rfl (by decide +kernel)
set_option maxRecDepth 65536 in
theorem w_c5 : (Jvm.Cond.code ({ cls := "com/example/ipseity/ipseity/table/Links", name := "link", desc := "(II)V" } : Jvm.MethodName) prog_18_method_9_code (3 : Nat) (Option.none : Option Jvm.ClassFile.FieldType)).before args0 about1 = true := code_word (m := ⟨2, 5⟩) (meth := k2m5) (c := k2c5) (by decide +kernel) rfl rfl rfl (by decide +kernel)
set_option maxRecDepth 65536 in
theorem w_c6 : (Jvm.Cond.code ({ cls := "com/example/ipseity/ipseity/table/Links", name := "unlink", desc := "(I)V" } : Jvm.MethodName) prog_18_method_7_code (2 : Nat) (Option.none : Option Jvm.ClassFile.FieldType)).before args0 about1 = true := code_word (m := ⟨2, 4⟩) (meth := k2m4) (c := k2c4) (by decide +kernel) rfl rfl rfl (by decide +kernel)
set_option maxRecDepth 65536 in
theorem w_c7 : (Jvm.Cond.code ({ cls := "com/example/ipseity/ipseity/table/LinksUnlinkPinLaw", name := "remove", desc := "([II)[I" } : Jvm.MethodName) method_3_code (3 : Nat) (Option.some (Jvm.ClassFile.FieldType.array Jvm.ClassFile.FieldType.int))).before args0 about1 = true := code_word (m := ⟨1, 2⟩) (meth := k1m2) (c := k1c2) (by decide +kernel) rfl rfl rfl (by decide +kernel)
set_option maxRecDepth 65536 in
theorem w_c8 : (Jvm.Cond.code ({ cls := "com/example/ipseity/ipseity/table/Links", name := "first", desc := "()I" } : Jvm.MethodName) prog_18_method_4_code (1 : Nat) (Option.some Jvm.ClassFile.FieldType.int)).before args0 about1 = true := code_word (m := ⟨2, 1⟩) (meth := k2m1) (c := k2c1) (by decide +kernel) rfl rfl rfl (by decide +kernel)
set_option maxRecDepth 65536 in
theorem w_c9 : (Jvm.Cond.code ({ cls := "com/example/ipseity/ipseity/table/Links", name := "next", desc := "(I)I" } : Jvm.MethodName) prog_18_method_5_code (2 : Nat) (Option.some Jvm.ClassFile.FieldType.int)).before args0 about1 = true := code_word (m := ⟨2, 2⟩) (meth := k2m2) (c := k2c2) (by decide +kernel) rfl rfl rfl (by decide +kernel)
def codes1 : List Jvm.Cond := [Jvm.Cond.code x code maxLocals ret, Jvm.Cond.code ({ cls := "com/example/ipseity/ipseity/table/LinksUnlinkPinLaw", name := "mod", desc := "(II)I" } : Jvm.MethodName) method_2_code (2 : Nat) (Option.some Jvm.ClassFile.FieldType.int), Jvm.Cond.code ({ cls := "com/example/ipseity/ipseity/table/Links", name := "<init>", desc := "(I)V" } : Jvm.MethodName) prog_18_method_1_code (2 : Nat) (Option.none : Option Jvm.ClassFile.FieldType), Jvm.Cond.code ({ cls := "java/lang/Object", name := "<init>", desc := "()V" } : Jvm.MethodName) object_method_1_code (1 : Nat) (Option.none : Option Jvm.ClassFile.FieldType), Jvm.Cond.code ({ cls := "com/example/ipseity/ipseity/table/Links", name := "append", desc := "(I)V" } : Jvm.MethodName) prog_18_method_6_code (2 : Nat) (Option.none : Option Jvm.ClassFile.FieldType), Jvm.Cond.code ({ cls := "com/example/ipseity/ipseity/table/Links", name := "link", desc := "(II)V" } : Jvm.MethodName) prog_18_method_9_code (3 : Nat) (Option.none : Option Jvm.ClassFile.FieldType), Jvm.Cond.code ({ cls := "com/example/ipseity/ipseity/table/Links", name := "unlink", desc := "(I)V" } : Jvm.MethodName) prog_18_method_7_code (2 : Nat) (Option.none : Option Jvm.ClassFile.FieldType), Jvm.Cond.code ({ cls := "com/example/ipseity/ipseity/table/LinksUnlinkPinLaw", name := "remove", desc := "([II)[I" } : Jvm.MethodName) method_3_code (3 : Nat) (Option.some (Jvm.ClassFile.FieldType.array Jvm.ClassFile.FieldType.int)), Jvm.Cond.code ({ cls := "com/example/ipseity/ipseity/table/Links", name := "first", desc := "()I" } : Jvm.MethodName) prog_18_method_4_code (1 : Nat) (Option.some Jvm.ClassFile.FieldType.int), Jvm.Cond.code ({ cls := "com/example/ipseity/ipseity/table/Links", name := "next", desc := "(I)I" } : Jvm.MethodName) prog_18_method_5_code (2 : Nat) (Option.some Jvm.ClassFile.FieldType.int)]
set_option maxRecDepth 65536 in
theorem codes_eq : words1.filter isCode = codes1 := rfl
theorem w_codes : ∀ c ∈ words1.filter isCode, c.before args0 about1 = true := by
  rw [codes_eq]
  intro c hc
  simp only [codes1, List.mem_cons, List.not_mem_nil, or_false] at hc
  rcases hc with rfl | rfl | rfl | rfl | rfl | rfl | rfl | rfl | rfl | rfl
  · exact w_c0
  · exact w_c1
  · exact w_c2
  · exact w_c3
  · exact w_c4
  · exact w_c5
  · exact w_c6
  · exact w_c7
  · exact w_c8
  · exact w_c9
set_option maxRecDepth 65536 in
theorem w_t1 : (words1.take 24).all (fun c => isCode c || c.before args0 about1) = true := by decide +kernel
set_option maxRecDepth 65536 in
theorem w_t2 : ((words1.drop 24).take 24).all (fun c => isCode c || c.before args0 about1) = true := by decide +kernel
set_option maxRecDepth 65536 in
theorem w_t3 : ((words1.drop 24).drop 24).all (fun c => isCode c || c.before args0 about1) = true := by decide +kernel
theorem w_tables : (allAtoms (Jvm.Cond.code x code maxLocals ret :: tables_1)).before args0 about1 = true := by
  rw [allAtoms_all]
  show words1.all (fun c => c.before args0 about1) = true
  refine all_split ?_ w_codes
  rw [← List.take_append_drop 24 words1, List.all_append, w_t1, ← List.take_append_drop 24 (words1.drop 24), List.all_append, w_t2, w_t3]
  rfl
set_option maxRecDepth 65536 in
theorem w_case : (Jvm.Cond.and given_1 narrow_1).before args0 about1 = true := by decide +kernel
theorem w_applies : (headSpec (Jvm.Cond.code x code maxLocals ret :: tables_1) room_1).applies x e0.platform about1 = true :=
  (Spec.applies_iff w_frames).mpr ⟨w_running, w_runnable, w_alone, w_named, w_hears, w_ripe, w_room, w_tables⟩
theorem atStart : AtStart classFile x code maxLocals ret World_1 tables_1 room_1 Calls_1 rest_1 Pre_1 launch0 p0 e0 about1 theMethod args0 below0 :=
  ⟨lists_1, trivial, launch0.admits_env _ _ _, launch0.least_env, fairChoices_fair.cas, fairChoices_fair.clock, w_frames, w_args, w_heap, w_applies, trivial, trivial, w_case⟩
end start1
theorem witness_1 : WitnessClaimed_1 := ⟨start1.p0, start1.e0, start1.about1, start1.theMethod, start1.args0, start1.below0, start1.atStart⟩
end Jvm.Pilot.@@N@@
