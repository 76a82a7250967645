import JvmDerived
import JvmDerived.Pilot.@@N@@Statement
import JvmDerived.Pilot.@@N@@Code
set_option linter.unusedVariables false
set_option linter.unusedSimpArgs false
namespace Jvm.Own
open Jvm Sem ClassFile Op Lib Jvm.Stand Jvm.Free Jvm.LawKit Jvm.RoadKit
section Kit
/-- the fixed surroundings of one body's walk -/
def Cx (own : String) (code : ByteArray) (mL : Nat) (ret : Option FieldType) (mn : String) (n0 : Nat) (Z : State) (p : Program) (l : Launch) (e : Env) (R : Room) (s : State) (m : MethodId) (args : Array Value) (below : List Frame) (meth : Method) (c : Code) : Prop :=
  p.tables.exec = Jvm.exec ∧ c.code = code ∧ c.maxLocals = mL ∧ meth.sig.returnType = ret ∧ meth.locks = false ∧ s.vm.findClass own = some m.cls ∧ Z.Warmed39 s.vm ∧ meth.name = mn
/-- where the walk stands: k cells and n slots made so far, the heap h -/
def St (n0 : Nat) (p : Program) (l : Launch) (e : Env) (R : Room) (s : State) (m : MethodId) (args : Array Value) (below : List Frame) (meth : Method) (c : Code) (k n : Nat) (h : Heap) (T : State) : Prop :=
  ∃ locs, Stand p l e R s m args below meth c T locs k n ∧ T.heap = h ∧ Fr n0 locs ∧ n0 ≤ h.size
/-- from here the body comes to its end, and Q holds there -/
def Wp (n0 : Nat) (p : Program) (e : Env) (R : Room) (s : State) (below : List Frame) (Q : Option Value → Heap → Prop) (T : State) (g : JFrame) : Prop :=
  ∃ s₂ o, Steps p.tables e below (T.setTop g) s₂ ∧ s₂.status = .running ∧ Ended s₂ below o ∧ ∃ v L, o = .returned v ∧ (Q v s₂.heap ∧ n0 ≤ s₂.heap.size ∧ Fr n0 L) ∧ FrameEnd s o s₂ L R.cells R.slots
/-- a body's contract: entered with the arguments as' at the heap h it returns, and Q holds of what it returns and of the heap -/
def Met (n0 : Nat) (l : Launch) (Z : State) (y : MethodName) (bytes : ByteArray) (mL : Nat) (ret : Option FieldType) (rm : Room) (ws : List Jvm.Cond) (as' : Array Value) (h : Heap) (Q : Option Value → Heap → Prop) : Prop :=
  MetFree l y (head1 (Jvm.Cond.code y bytes mL ret :: ws) rm) (fun a U => a = as' ∧ Z.Warmed39 U.vm ∧ U.heap = h) (fun _ _ _ _ _ => True) (fun _ U o U' => ∃ v L, o = .returned v ∧ (Q v U'.heap ∧ n0 ≤ U'.heap.size ∧ Fr n0 L) ∧ FrameEnd U o U' L rm.cells rm.slots)
def Dc (code : ByteArray) (pc : Nat) (i : Instr) (len q : Nat) : Prop := decode code pc = .ok (i, len) ∧ pc + len = q
def Bc (code : ByteArray) (pc : Nat) (i : Instr) (o : Int) (q q' : Nat) : Prop := decode code pc = .ok (i, 3) ∧ pc + 3 = q ∧ 0 ≤ (pc : Int) + o ∧ ((pc : Int) + o).toNat = q'
/-- the place i that the int j names -/
def Ix (j : Int32) (i : Nat) : Prop := ¬ j < 0 ∧ j.toNatClampNeg = i
/-- an array of the values vs -/
def VA (Z : State) (h : Heap) (a : Addr) (ty : FieldType) (vs : List Value) : Prop := ∃ cl : Cell, Arr Z h a cl ty ∧ cl.slots = vs.toArray
variable {own : String} {code : ByteArray} {mL : Nat} {ret : Option FieldType} {mn : String} {n0 : Nat} {Z : State} {p : Program} {l : Launch} {e : Env} {R : Room} {s : State} {m : MethodId} {args : Array Value} {below : List Frame} {meth : Method} {c : Code} {T : State} {k n : Nat} {h h' : Heap} {Q : Option Value → Heap → Prop} {pc q q' : Nat} {Ls l' : Array Slot} {st rest : List Value} {a0 : Array Value} {ty : FieldType} {vs : List Value} {a b : Addr} {v w : Value} {x y : Int32} {X Y : Int64}
theorem VA.ext (F : VA Z h a ty vs) (E : Ext h h') : VA Z h' a ty vs := by obtain ⟨cl, A, r⟩ := F; exact ⟨cl, A.ext E, r⟩
theorem VA.other {sl : Nat} (F : VA Z h a ty vs) (W : Wr h h' b sl v) (ne : a ≠ b) : VA Z h' a ty vs := by obtain ⟨cl, A, r⟩ := F; exact ⟨cl, A.other W ne, r⟩
theorem VA.keep {ws : List Addr} (F : VA Z h a ty vs) (K : Keep h h' ws) (ne : a ∉ ws) : VA Z h' a ty vs := by obtain ⟨cl, A, r⟩ := F; exact ⟨cl, ⟨K.2.1 a cl A.1 ne, A.2⟩, r⟩
theorem VA.lt (F : VA Z h a ty vs) : a < h.size := by obtain ⟨cl, A, r⟩ := F; exact A.lt
theorem VA.wr {i : Nat} (F : VA Z h a ty vs) (W : Wr h h' a i v) : VA Z h' a ty (vs.set i v) := by
  obtain ⟨cl, A, r⟩ := F
  refine ⟨_, Arr.same W A, ?_⟩
  show cl.slots.setIfInBounds i v = _
  rw [r]; simp
theorem wp_mono {T' : State} {g g' : JFrame} (f : ∀ t, Steps p.tables e below (T'.setTop g') t → Steps p.tables e below (T.setTop g) t) (w : Wp n0 p e R s below Q T' g') : Wp n0 p e R s below Q T g := by
  obtain ⟨s₂, o, h1, r⟩ := w; exact ⟨s₂, o, f _ h1, r⟩
theorem nmI (g : ∀ z, z = x → Wp n0 p e R s below Q T (mkF m pc Ls (.int z :: st))) : Wp n0 p e R s below Q T (mkF m pc Ls (.int x :: st)) := g x rfl
theorem nmL (g : ∀ z, z = X → Wp n0 p e R s below Q T (mkF m pc Ls (.long z :: st))) : Wp n0 p e R s below Q T (mkF m pc Ls (.long X :: st)) := g X rfl
def Pu (r : Option Value) (h : Heap) : Option Value → Heap → Prop := fun v h' => v = r ∧ h' = h
def Ef (r : Option Value) (P : Heap → Prop) : Option Value → Heap → Prop := fun v h' => v = r ∧ P h'
def Pr (P : Int32 → Prop) (h : Heap) : Option Value → Heap → Prop := fun v h' => ∃ r, v = some (.int r) ∧ P r ∧ h' = h
def PrL (P : Int64 → Prop) (h : Heap) : Option Value → Heap → Prop := fun v h' => ∃ r, v = some (.long r) ∧ P r ∧ h' = h
def Er (P : Int32 → Heap → Prop) : Option Value → Heap → Prop := fun v h' => ∃ r, v = some (.int r) ∧ P r h'
def Ea (P : Addr → Heap → Prop) : Option Value → Heap → Prop := fun v h' => ∃ r, v = some (.ref r) ∧ P r h'
theorem own_b01 {x : Int32} (h : x.toInt = 0 ∨ x.toInt = 1) : nar .boolean x = x := by
  rcases h with h | h
  · have e : x = 0 := Int32.toInt_inj.mp h
    subst e; rfl
  · have e : x = 1 := Int32.toInt_inj.mp h
    subst e; rfl
theorem own_eqz {x y : Int32} (h : x.toInt = y.toInt) : x = y := Int32.toInt_inj.mp h
theorem own_eqZ {x y : Int64} (h : x.toInt = y.toInt) : x = y := Int64.toInt_inj.mp h
theorem own_lrem (x y : Int64) (d : Int) (hy : y.toInt = d) : (0 ≤ x.toInt → (x % y).toInt = x.toInt % d) ∧ (x.toInt < 0 → (x % y).toInt = -((-x.toInt) % d)) := by rw [Int64.toInt_mod, hy]; exact tr _ _
theorem own_nz {y : Int32} (h : 0 < y.toInt) : y ≠ 0 := fun q => by rw [q] at h; exact absurd h (by decide)
theorem own_nneg {x : Int32} (h : 0 ≤ x.toInt) : ¬ x < 0 := fun q => by
  have q' := Int32.lt_iff_toInt_lt.mp q
  have z0 : (0 : Int32).toInt = 0 := rfl
  omega
theorem own_cl {x : Int32} (h : 0 ≤ x.toInt) : (x.toNatClampNeg : Int) = x.toInt := by
  have e : x.toNatClampNeg = x.toInt.toNat := rfl
  omega
theorem own_ix {x : Int32} (h : 0 ≤ x.toInt) : Ix x x.toInt.toNat := ⟨own_nneg h, rfl⟩
theorem stO {i : Nat} {o : Slot} (ho : One o) (hold : Ls[i]? = some o) (hv : v.category = 1) (he : Ls.setIfInBounds i (.val v) = l') : storeLocals Ls i v = some l' := he ▸ XS.store1 hold ho hv
theorem Sle (S : St n0 p l e R s m args below meth c k n h T) : n0 ≤ h.size := by obtain ⟨_, _, _, _, z⟩ := S; exact z
theorem more {k' n' : Nat} (S : St n0 p l e R s m args below meth c k n h T) (hk : k ≤ k') (hn : n ≤ n') : St n0 p l e R s m args below meth c k' n' h T := by
  obtain ⟨locs, S, r⟩ := S; exact ⟨locs, S.more hk hn, r⟩
theorem pu {r : Option Value} (g : ∀ T, St n0 p l e R s m args below meth c k n h T → Wp n0 p e R s below Q T (mkF m q Ls (r.toList ++ rest))) : ∀ T v h', Pu r h v h' → St n0 p l e R s m args below meth c k n h' T → Wp n0 p e R s below Q T (mkF m q Ls (v.toList ++ rest)) := by
  intro T v h' hq S; obtain ⟨rfl, rfl⟩ := hq; exact g T S
theorem ef {r : Option Value} {P : Heap → Prop} (g : ∀ T h', P h' → St n0 p l e R s m args below meth c k n h' T → Wp n0 p e R s below Q T (mkF m q Ls (r.toList ++ rest))) : ∀ T v h', Ef r P v h' → St n0 p l e R s m args below meth c k n h' T → Wp n0 p e R s below Q T (mkF m q Ls (v.toList ++ rest)) := by
  intro T v h' hq S; obtain ⟨rfl, hp⟩ := hq; exact g T h' hp S
theorem pr {P : Int32 → Prop} (g : ∀ T r, P r → St n0 p l e R s m args below meth c k n h T → Wp n0 p e R s below Q T (mkF m q Ls (.int r :: rest))) : ∀ T v h', Pr P h v h' → St n0 p l e R s m args below meth c k n h' T → Wp n0 p e R s below Q T (mkF m q Ls (v.toList ++ rest)) := by
  intro T v h' hq S; obtain ⟨r, rfl, hp, rfl⟩ := hq; exact g T r hp S
theorem prL {P : Int64 → Prop} (g : ∀ T r, P r → St n0 p l e R s m args below meth c k n h T → Wp n0 p e R s below Q T (mkF m q Ls (.long r :: rest))) : ∀ T v h', PrL P h v h' → St n0 p l e R s m args below meth c k n h' T → Wp n0 p e R s below Q T (mkF m q Ls (v.toList ++ rest)) := by
  intro T v h' hq S; obtain ⟨r, rfl, hp, rfl⟩ := hq; exact g T r hp S
theorem er {P : Int32 → Heap → Prop} (g : ∀ T r h', P r h' → St n0 p l e R s m args below meth c k n h' T → Wp n0 p e R s below Q T (mkF m q Ls (.int r :: rest))) : ∀ T v h', Er P v h' → St n0 p l e R s m args below meth c k n h' T → Wp n0 p e R s below Q T (mkF m q Ls (v.toList ++ rest)) := by
  intro T v h' hq S; obtain ⟨r, rfl, hp⟩ := hq; exact g T r h' hp S
theorem ea {P : Addr → Heap → Prop} (g : ∀ T r h', P r h' → St n0 p l e R s m args below meth c k n h' T → Wp n0 p e R s below Q T (mkF m q Ls (.ref r :: rest))) : ∀ T v h', Ea P v h' → St n0 p l e R s m args below meth c k n h' T → Wp n0 p e R s below Q T (mkF m q Ls (v.toList ++ rest)) := by
  intro T v h' hq S; obtain ⟨r, rfl, hp⟩ := hq; exact g T r h' hp S
theorem enter {y : MethodName} {bytes : ByteArray} {rm : Room} {ws : List Jvm.Cond} {as' : Array Value} (hpn : plainFor y = true) (ef : ∀ m, entryFrame m as' mL = mkF m 0 Ls []) (hn : n0 ≤ h.size)
    (body : ∀ p e s m below meth c T, Cx y.cls bytes mL ret y.name n0 Z p l e rm s m as' below meth c → St n0 p l e rm s m as' below meth c 0 0 h T → Wp n0 p e rm s below Q T (mkF m 0 Ls [])) : Met n0 l Z y bytes mL ret rm ws as' h Q := by
  refine MetFree.of_bodySF hpn hisR ?_
  intro p e s m args below meth c s₁ Bd hml0 hP hK
  obtain ⟨rfl, hZ, hh⟩ := hP
  have e0 : s₁.heap = h := by rw [← hh, Bd.state]; rfl
  have w := body p e s m below meth c s₁ ⟨Bd.exec, Bd.bytes, hml0, Bd.returns, Bd.notSynchronized, findClass_of_methodNamed Bd.named, hZ, (name_of_methodNamed Bd.named Bd.method).1⟩ ⟨[], Stand.of_body Bd, e0, Fr.nil n0, hn⟩
  obtain ⟨s₂, o, h1, r⟩ := w
  exact ⟨s₂, o, castTop (ef m) h1, r⟩
theorem iadd (K : Cx own code mL ret mn n0 Z p l e R s m args below meth c) (S : St n0 p l e R s m args below meth c k n h T) (hd : Dc code pc (.iadd) 1 q) (g : Wp n0 p e R s below Q T (mkF m q Ls (.int (x + y) :: st))) : Wp n0 p e R s below Q T (mkF m pc Ls (.int y :: .int x :: st)) := by
  obtain ⟨hx, hby, -⟩ := K; obtain ⟨locs, S, -, -⟩ := S; obtain ⟨hd, rfl⟩ := hd
  exact wp_mono (fun t hr => XS.iadd S.here hx rfl (hb hby hd) rfl hr) g
theorem isub (K : Cx own code mL ret mn n0 Z p l e R s m args below meth c) (S : St n0 p l e R s m args below meth c k n h T) (hd : Dc code pc (.isub) 1 q) (g : Wp n0 p e R s below Q T (mkF m q Ls (.int (x - y) :: st))) : Wp n0 p e R s below Q T (mkF m pc Ls (.int y :: .int x :: st)) := by
  obtain ⟨hx, hby, -⟩ := K; obtain ⟨locs, S, -, -⟩ := S; obtain ⟨hd, rfl⟩ := hd
  exact wp_mono (fun t hr => XS.isub S.here hx rfl (hb hby hd) rfl hr) g
theorem imul (K : Cx own code mL ret mn n0 Z p l e R s m args below meth c) (S : St n0 p l e R s m args below meth c k n h T) (hd : Dc code pc (.imul) 1 q) (g : Wp n0 p e R s below Q T (mkF m q Ls (.int (x * y) :: st))) : Wp n0 p e R s below Q T (mkF m pc Ls (.int y :: .int x :: st)) := by
  obtain ⟨hx, hby, -⟩ := K; obtain ⟨locs, S, -, -⟩ := S; obtain ⟨hd, rfl⟩ := hd
  exact wp_mono (fun t hr => XS.imul S.here hx rfl (hb hby hd) rfl hr) g
theorem iand (K : Cx own code mL ret mn n0 Z p l e R s m args below meth c) (S : St n0 p l e R s m args below meth c k n h T) (hd : Dc code pc (.iand) 1 q) (g : Wp n0 p e R s below Q T (mkF m q Ls (.int (x &&& y) :: st))) : Wp n0 p e R s below Q T (mkF m pc Ls (.int y :: .int x :: st)) := by
  obtain ⟨hx, hby, -⟩ := K; obtain ⟨locs, S, -, -⟩ := S; obtain ⟨hd, rfl⟩ := hd
  exact wp_mono (fun t hr => XS.iand S.here hx rfl (hb hby hd) rfl hr) g
theorem ior (K : Cx own code mL ret mn n0 Z p l e R s m args below meth c) (S : St n0 p l e R s m args below meth c k n h T) (hd : Dc code pc (.ior) 1 q) (g : Wp n0 p e R s below Q T (mkF m q Ls (.int (x ||| y) :: st))) : Wp n0 p e R s below Q T (mkF m pc Ls (.int y :: .int x :: st)) := by
  obtain ⟨hx, hby, -⟩ := K; obtain ⟨locs, S, -, -⟩ := S; obtain ⟨hd, rfl⟩ := hd
  exact wp_mono (fun t hr => XT.ior S.here hx rfl (hb hby hd) rfl hr) g
theorem ixor (K : Cx own code mL ret mn n0 Z p l e R s m args below meth c) (S : St n0 p l e R s m args below meth c k n h T) (hd : Dc code pc (.ixor) 1 q) (g : Wp n0 p e R s below Q T (mkF m q Ls (.int (x ^^^ y) :: st))) : Wp n0 p e R s below Q T (mkF m pc Ls (.int y :: .int x :: st)) := by
  obtain ⟨hx, hby, -⟩ := K; obtain ⟨locs, S, -, -⟩ := S; obtain ⟨hd, rfl⟩ := hd
  exact wp_mono (fun t hr => XT.ixor S.here hx rfl (hb hby hd) rfl hr) g
theorem ishl (K : Cx own code mL ret mn n0 Z p l e R s m args below meth c) (S : St n0 p l e R s m args below meth c k n h T) (hd : Dc code pc (.ishl) 1 q) (g : Wp n0 p e R s below Q T (mkF m q Ls (.int (x <<< (y &&& 31)) :: st))) : Wp n0 p e R s below Q T (mkF m pc Ls (.int y :: .int x :: st)) := by
  obtain ⟨hx, hby, -⟩ := K; obtain ⟨locs, S, -, -⟩ := S; obtain ⟨hd, rfl⟩ := hd
  exact wp_mono (fun t hr => XT.ishl S.here hx rfl (hb hby hd) rfl hr) g
theorem ishr (K : Cx own code mL ret mn n0 Z p l e R s m args below meth c) (S : St n0 p l e R s m args below meth c k n h T) (hd : Dc code pc (.ishr) 1 q) (g : Wp n0 p e R s below Q T (mkF m q Ls (.int (x >>> (y &&& 31)) :: st))) : Wp n0 p e R s below Q T (mkF m pc Ls (.int y :: .int x :: st)) := by
  obtain ⟨hx, hby, -⟩ := K; obtain ⟨locs, S, -, -⟩ := S; obtain ⟨hd, rfl⟩ := hd
  exact wp_mono (fun t hr => XT.ishr S.here hx rfl (hb hby hd) rfl hr) g
theorem iushr (K : Cx own code mL ret mn n0 Z p l e R s m args below meth c) (S : St n0 p l e R s m args below meth c k n h T) (hd : Dc code pc (.iushr) 1 q) (g : Wp n0 p e R s below Q T (mkF m q Ls (.int (XT.ushr x y) :: st))) : Wp n0 p e R s below Q T (mkF m pc Ls (.int y :: .int x :: st)) := by
  obtain ⟨hx, hby, -⟩ := K; obtain ⟨locs, S, -, -⟩ := S; obtain ⟨hd, rfl⟩ := hd
  exact wp_mono (fun t hr => XT.iushr S.here hx rfl (hb hby hd) rfl hr) g
theorem idiv (K : Cx own code mL ret mn n0 Z p l e R s m args below meth c) (S : St n0 p l e R s m args below meth c k n h T) (hy : y ≠ 0) (hd : Dc code pc (.idiv) 1 q) (g : Wp n0 p e R s below Q T (mkF m q Ls (.int (x / y) :: st))) : Wp n0 p e R s below Q T (mkF m pc Ls (.int y :: .int x :: st)) := by
  obtain ⟨hx, hby, -⟩ := K; obtain ⟨locs, S, -, -⟩ := S; obtain ⟨hd, rfl⟩ := hd
  exact wp_mono (fun t hr => XS.idiv S.here hx rfl (hb hby hd) rfl hy hr) g
theorem irem (K : Cx own code mL ret mn n0 Z p l e R s m args below meth c) (S : St n0 p l e R s m args below meth c k n h T) (hy : y ≠ 0) (hd : Dc code pc (.irem) 1 q) (g : Wp n0 p e R s below Q T (mkF m q Ls (.int (x % y) :: st))) : Wp n0 p e R s below Q T (mkF m pc Ls (.int y :: .int x :: st)) := by
  obtain ⟨hx, hby, -⟩ := K; obtain ⟨locs, S, -, -⟩ := S; obtain ⟨hd, rfl⟩ := hd
  exact wp_mono (fun t hr => iremM S hx rfl (hb hby hd) rfl hy hr) g
theorem ladd (K : Cx own code mL ret mn n0 Z p l e R s m args below meth c) (S : St n0 p l e R s m args below meth c k n h T) (hd : Dc code pc (.ladd) 1 q) (g : Wp n0 p e R s below Q T (mkF m q Ls (.long (X + Y) :: st))) : Wp n0 p e R s below Q T (mkF m pc Ls (.long Y :: .long X :: st)) := by
  obtain ⟨hx, hby, -⟩ := K; obtain ⟨locs, S, -, -⟩ := S; obtain ⟨hd, rfl⟩ := hd
  exact wp_mono (fun t hr => XT.ladd S.here hx rfl (hb hby hd) rfl hr) g
theorem lsub (K : Cx own code mL ret mn n0 Z p l e R s m args below meth c) (S : St n0 p l e R s m args below meth c k n h T) (hd : Dc code pc (.lsub) 1 q) (g : Wp n0 p e R s below Q T (mkF m q Ls (.long (X - Y) :: st))) : Wp n0 p e R s below Q T (mkF m pc Ls (.long Y :: .long X :: st)) := by
  obtain ⟨hx, hby, -⟩ := K; obtain ⟨locs, S, -, -⟩ := S; obtain ⟨hd, rfl⟩ := hd
  exact wp_mono (fun t hr => XT.lsub S.here hx rfl (hb hby hd) rfl hr) g
theorem lmul (K : Cx own code mL ret mn n0 Z p l e R s m args below meth c) (S : St n0 p l e R s m args below meth c k n h T) (hd : Dc code pc (.lmul) 1 q) (g : Wp n0 p e R s below Q T (mkF m q Ls (.long (X * Y) :: st))) : Wp n0 p e R s below Q T (mkF m pc Ls (.long Y :: .long X :: st)) := by
  obtain ⟨hx, hby, -⟩ := K; obtain ⟨locs, S, -, -⟩ := S; obtain ⟨hd, rfl⟩ := hd
  exact wp_mono (fun t hr => XT.lmul S.here hx rfl (hb hby hd) rfl hr) g
theorem land (K : Cx own code mL ret mn n0 Z p l e R s m args below meth c) (S : St n0 p l e R s m args below meth c k n h T) (hd : Dc code pc (.land) 1 q) (g : Wp n0 p e R s below Q T (mkF m q Ls (.long (X &&& Y) :: st))) : Wp n0 p e R s below Q T (mkF m pc Ls (.long Y :: .long X :: st)) := by
  obtain ⟨hx, hby, -⟩ := K; obtain ⟨locs, S, -, -⟩ := S; obtain ⟨hd, rfl⟩ := hd
  exact wp_mono (fun t hr => XT.land S.here hx rfl (hb hby hd) rfl hr) g
theorem ldiv (K : Cx own code mL ret mn n0 Z p l e R s m args below meth c) (S : St n0 p l e R s m args below meth c k n h T) (hy : Y ≠ 0) (hd : Dc code pc (.ldiv) 1 q) (g : Wp n0 p e R s below Q T (mkF m q Ls (.long (X / Y) :: st))) : Wp n0 p e R s below Q T (mkF m pc Ls (.long Y :: .long X :: st)) := by
  obtain ⟨hx, hby, -⟩ := K; obtain ⟨locs, S, -, -⟩ := S; obtain ⟨hd, rfl⟩ := hd
  exact wp_mono (fun t hr => XT.ldiv S.here hx rfl (hb hby hd) rfl hy hr) g
theorem lrem (K : Cx own code mL ret mn n0 Z p l e R s m args below meth c) (S : St n0 p l e R s m args below meth c k n h T) (hy : Y ≠ 0) (hd : Dc code pc (.lrem) 1 q) (g : Wp n0 p e R s below Q T (mkF m q Ls (.long (X % Y) :: st))) : Wp n0 p e R s below Q T (mkF m pc Ls (.long Y :: .long X :: st)) := by
  obtain ⟨hx, hby, -⟩ := K; obtain ⟨locs, S, -, -⟩ := S; obtain ⟨hd, rfl⟩ := hd
  exact wp_mono (fun t hr => XT.lrem S.here hx rfl (hb hby hd) rfl hy (by rw [lrem_mod]; exact hr)) g
theorem lushr (K : Cx own code mL ret mn n0 Z p l e R s m args below meth c) (S : St n0 p l e R s m args below meth c k n h T) (hd : Dc code pc (.lushr) 1 q) (g : Wp n0 p e R s below Q T (mkF m q Ls (.long (XT.ushrL X y) :: st))) : Wp n0 p e R s below Q T (mkF m pc Ls (.int y :: .long X :: st)) := by
  obtain ⟨hx, hby, -⟩ := K; obtain ⟨locs, S, -, -⟩ := S; obtain ⟨hd, rfl⟩ := hd
  exact wp_mono (fun t hr => XT.lushr S.here hx rfl (hb hby hd) rfl hr) g
theorem i2l (K : Cx own code mL ret mn n0 Z p l e R s m args below meth c) (S : St n0 p l e R s m args below meth c k n h T) (hd : Dc code pc (.i2l) 1 q) (g : Wp n0 p e R s below Q T (mkF m q Ls (.long x.toInt64 :: st))) : Wp n0 p e R s below Q T (mkF m pc Ls (.int x :: st)) := by
  obtain ⟨hx, hby, -⟩ := K; obtain ⟨locs, S, -, -⟩ := S; obtain ⟨hd, rfl⟩ := hd
  exact wp_mono (fun t hr => XT.i2l S.here hx rfl (hb hby hd) rfl hr) g
theorem l2i (K : Cx own code mL ret mn n0 Z p l e R s m args below meth c) (S : St n0 p l e R s m args below meth c k n h T) (hd : Dc code pc (.l2i) 1 q) (g : Wp n0 p e R s below Q T (mkF m q Ls (.int X.toInt32 :: st))) : Wp n0 p e R s below Q T (mkF m pc Ls (.long X :: st)) := by
  obtain ⟨hx, hby, -⟩ := K; obtain ⟨locs, S, -, -⟩ := S; obtain ⟨hd, rfl⟩ := hd
  exact wp_mono (fun t hr => XT.l2i S.here hx rfl (hb hby hd) rfl hr) g
theorem i2b (K : Cx own code mL ret mn n0 Z p l e R s m args below meth c) (S : St n0 p l e R s m args below meth c k n h T) (hd : Dc code pc (.i2b) 1 q) (g : Wp n0 p e R s below Q T (mkF m q Ls (.int x.toInt8.toInt32 :: st))) : Wp n0 p e R s below Q T (mkF m pc Ls (.int x :: st)) := by
  obtain ⟨hx, hby, -⟩ := K; obtain ⟨locs, S, -, -⟩ := S; obtain ⟨hd, rfl⟩ := hd
  exact wp_mono (fun t hr => XT.i2b S.here hx rfl (hb hby hd) rfl hr) g
theorem i2s (K : Cx own code mL ret mn n0 Z p l e R s m args below meth c) (S : St n0 p l e R s m args below meth c k n h T) (hd : Dc code pc (.i2s) 1 q) (g : Wp n0 p e R s below Q T (mkF m q Ls (.int x.toInt16.toInt32 :: st))) : Wp n0 p e R s below Q T (mkF m pc Ls (.int x :: st)) := by
  obtain ⟨hx, hby, -⟩ := K; obtain ⟨locs, S, -, -⟩ := S; obtain ⟨hd, rfl⟩ := hd
  exact wp_mono (fun t hr => XT.i2s S.here hx rfl (hb hby hd) rfl hr) g
theorem i2c (K : Cx own code mL ret mn n0 Z p l e R s m args below meth c) (S : St n0 p l e R s m args below meth c k n h T) (hd : Dc code pc (.i2c) 1 q) (g : Wp n0 p e R s below Q T (mkF m q Ls (.int x.toUInt32.toUInt16.toUInt32.toInt32 :: st))) : Wp n0 p e R s below Q T (mkF m pc Ls (.int x :: st)) := by
  obtain ⟨hx, hby, -⟩ := K; obtain ⟨locs, S, -, -⟩ := S; obtain ⟨hd, rfl⟩ := hd
  exact wp_mono (fun t hr => XT.i2c S.here hx rfl (hb hby hd) rfl hr) g
theorem iconst (K : Cx own code mL ret mn n0 Z p l e R s m args below meth c) (S : St n0 p l e R s m args below meth c k n h T) {i : Int} (hv : Int32.ofInt i = x) (hd : Dc code pc (.iconst i) 1 q) (g : Wp n0 p e R s below Q T (mkF m q Ls (.int x :: st))) : Wp n0 p e R s below Q T (mkF m pc Ls st) := by
  obtain ⟨hx, hby, -⟩ := K; obtain ⟨locs, S, -, -⟩ := S; obtain ⟨hd, rfl⟩ := hd
  exact wp_mono (fun t hr => XS.iconst S.here hx rfl (hb hby hd) (by rw [hv]; exact hr)) g
theorem bipush (K : Cx own code mL ret mn n0 Z p l e R s m args below meth c) (S : St n0 p l e R s m args below meth c k n h T) {i : Int} (hv : (Int8.ofInt i).toInt32 = x) (hd : Dc code pc (.bipush i) 2 q) (g : Wp n0 p e R s below Q T (mkF m q Ls (.int x :: st))) : Wp n0 p e R s below Q T (mkF m pc Ls st) := by
  obtain ⟨hx, hby, -⟩ := K; obtain ⟨locs, S, -, -⟩ := S; obtain ⟨hd, rfl⟩ := hd
  exact wp_mono (fun t hr => XS.bipush S.here hx rfl (hb hby hd) (by rw [hv]; exact hr)) g
theorem sipush (K : Cx own code mL ret mn n0 Z p l e R s m args below meth c) (S : St n0 p l e R s m args below meth c k n h T) {i : Int} (hv : (Int16.ofInt i).toInt32 = x) (hd : Dc code pc (.sipush i) 3 q) (g : Wp n0 p e R s below Q T (mkF m q Ls (.int x :: st))) : Wp n0 p e R s below Q T (mkF m pc Ls st) := by
  obtain ⟨hx, hby, -⟩ := K; obtain ⟨locs, S, -, -⟩ := S; obtain ⟨hd, rfl⟩ := hd
  exact wp_mono (fun t hr => XS.sipush S.here hx rfl (hb hby hd) (by rw [hv]; exact hr)) g
theorem lconst (K : Cx own code mL ret mn n0 Z p l e R s m args below meth c) (S : St n0 p l e R s m args below meth c k n h T) {i : Fin 2} (hv : Int64.ofNat i = X) (hd : Dc code pc (.lconst i) 1 q) (g : Wp n0 p e R s below Q T (mkF m q Ls (.long X :: st))) : Wp n0 p e R s below Q T (mkF m pc Ls st) := by
  obtain ⟨hx, hby, -⟩ := K; obtain ⟨locs, S, -, -⟩ := S; obtain ⟨hd, rfl⟩ := hd
  exact wp_mono (fun t hr => XT.lconst S.here hx rfl (hb hby hd) (by rw [hv]; exact hr)) g
theorem anull (K : Cx own code mL ret mn n0 Z p l e R s m args below meth c) (S : St n0 p l e R s m args below meth c k n h T) (hd : Dc code pc (.aconst_null) 1 q) (g : Wp n0 p e R s below Q T (mkF m q Ls (.null :: st))) : Wp n0 p e R s below Q T (mkF m pc Ls st) := by
  obtain ⟨hx, hby, -⟩ := K; obtain ⟨locs, S, -, -⟩ := S; obtain ⟨hd, rfl⟩ := hd
  exact wp_mono (fun t hr => XS.aconstNull S.here hx rfl (hb hby hd) hr) g
theorem dup (K : Cx own code mL ret mn n0 Z p l e R s m args below meth c) (S : St n0 p l e R s m args below meth c k n h T) (hc : v.category = 1) (hd : Dc code pc (.dup) 1 q) (g : Wp n0 p e R s below Q T (mkF m q Ls (v :: v :: st))) : Wp n0 p e R s below Q T (mkF m pc Ls (v :: st)) := by
  obtain ⟨hx, hby, -⟩ := K; obtain ⟨locs, S, -, -⟩ := S; obtain ⟨hd, rfl⟩ := hd
  exact wp_mono (fun t hr => XS.dup S.here hx rfl (hb hby hd) rfl hc hr) g
theorem pop (K : Cx own code mL ret mn n0 Z p l e R s m args below meth c) (S : St n0 p l e R s m args below meth c k n h T) (hc : v.category = 1) (hd : Dc code pc (.pop) 1 q) (g : Wp n0 p e R s below Q T (mkF m q Ls st)) : Wp n0 p e R s below Q T (mkF m pc Ls (v :: st)) := by
  obtain ⟨hx, hby, -⟩ := K; obtain ⟨locs, S, -, -⟩ := S; obtain ⟨hd, rfl⟩ := hd
  exact wp_mono (fun t hr => XT.pop S.here hx rfl (hb hby hd) rfl hc hr) g
theorem dup_x1 (K : Cx own code mL ret mn n0 Z p l e R s m args below meth c) (S : St n0 p l e R s m args below meth c k n h T) (hc : v.category = 1) (hc' : w.category = 1) (hd : Dc code pc (.dup_x1) 1 q) (g : Wp n0 p e R s below Q T (mkF m q Ls (v :: w :: v :: st))) : Wp n0 p e R s below Q T (mkF m pc Ls (v :: w :: st)) := by
  obtain ⟨hx, hby, -⟩ := K; obtain ⟨locs, S, -, -⟩ := S; obtain ⟨hd, rfl⟩ := hd
  exact wp_mono (fun t hr => XT.dupX1 S.here hx rfl (hb hby hd) rfl hc hc' hr) g
theorem dup2 (K : Cx own code mL ret mn n0 Z p l e R s m args below meth c) (S : St n0 p l e R s m args below meth c k n h T) (hc : v.category = 1) (hc' : w.category = 1) (hd : Dc code pc (.dup2) 1 q) (g : Wp n0 p e R s below Q T (mkF m q Ls (v :: w :: v :: w :: st))) : Wp n0 p e R s below Q T (mkF m pc Ls (v :: w :: st)) := by
  obtain ⟨hx, hby, -⟩ := K; obtain ⟨locs, S, -, -⟩ := S; obtain ⟨hd, rfl⟩ := hd
  exact wp_mono (fun t hr => XT.dup2 S.here hx rfl (hb hby hd) rfl hc hc' hr) g
theorem iload (K : Cx own code mL ret mn n0 Z p l e R s m args below meth c) (S : St n0 p l e R s m args below meth c k n h T) {i : Nat} (hl : Ls[i]? = some (.val (.int x))) (hd : Dc code pc (.iload i) 2 q) (g : Wp n0 p e R s below Q T (mkF m q Ls (.int x :: st))) : Wp n0 p e R s below Q T (mkF m pc Ls st) := by
  obtain ⟨hx, hby, -⟩ := K; obtain ⟨locs, S, -, -⟩ := S; obtain ⟨hd, rfl⟩ := hd
  exact wp_mono (fun t hr => XS.iload S.here hx rfl (hb hby hd) hl hr) g
theorem iload_n (K : Cx own code mL ret mn n0 Z p l e R s m args below meth c) (S : St n0 p l e R s m args below meth c k n h T) {i : Fin 4} (hl : Ls[i.val]? = some (.val (.int x))) (hd : Dc code pc (.iload_n i) 1 q) (g : Wp n0 p e R s below Q T (mkF m q Ls (.int x :: st))) : Wp n0 p e R s below Q T (mkF m pc Ls st) := by
  obtain ⟨hx, hby, -⟩ := K; obtain ⟨locs, S, -, -⟩ := S; obtain ⟨hd, rfl⟩ := hd
  exact wp_mono (fun t hr => XS.iloadN S.here hx rfl (hb hby hd) hl hr) g
theorem aload (K : Cx own code mL ret mn n0 Z p l e R s m args below meth c) (S : St n0 p l e R s m args below meth c k n h T) {i : Nat} (hl : Ls[i]? = some (.val (v))) (hv : v.isRef = true) (hd : Dc code pc (.aload i) 2 q) (g : Wp n0 p e R s below Q T (mkF m q Ls (v :: st))) : Wp n0 p e R s below Q T (mkF m pc Ls st) := by
  obtain ⟨hx, hby, -⟩ := K; obtain ⟨locs, S, -, -⟩ := S; obtain ⟨hd, rfl⟩ := hd
  exact wp_mono (fun t hr => XS.aload S.here hx rfl (hb hby hd) hl hv hr) g
theorem aload_n (K : Cx own code mL ret mn n0 Z p l e R s m args below meth c) (S : St n0 p l e R s m args below meth c k n h T) {i : Fin 4} (hl : Ls[i.val]? = some (.val (v))) (hv : v.isRef = true) (hd : Dc code pc (.aload_n i) 1 q) (g : Wp n0 p e R s below Q T (mkF m q Ls (v :: st))) : Wp n0 p e R s below Q T (mkF m pc Ls st) := by
  obtain ⟨hx, hby, -⟩ := K; obtain ⟨locs, S, -, -⟩ := S; obtain ⟨hd, rfl⟩ := hd
  exact wp_mono (fun t hr => XS.aloadN S.here hx rfl (hb hby hd) hl hv hr) g
theorem lload (K : Cx own code mL ret mn n0 Z p l e R s m args below meth c) (S : St n0 p l e R s m args below meth c k n h T) {i : Nat} (hl : Ls[i]? = some (.val (.long X))) (hd : Dc code pc (.lload i) 2 q) (g : Wp n0 p e R s below Q T (mkF m q Ls (.long X :: st))) : Wp n0 p e R s below Q T (mkF m pc Ls st) := by
  obtain ⟨hx, hby, -⟩ := K; obtain ⟨locs, S, -, -⟩ := S; obtain ⟨hd, rfl⟩ := hd
  exact wp_mono (fun t hr => XT.lload S.here hx rfl (hb hby hd) hl hr) g
theorem lload_n (K : Cx own code mL ret mn n0 Z p l e R s m args below meth c) (S : St n0 p l e R s m args below meth c k n h T) {i : Fin 4} (hl : Ls[i.val]? = some (.val (.long X))) (hd : Dc code pc (.lload_n i) 1 q) (g : Wp n0 p e R s below Q T (mkF m q Ls (.long X :: st))) : Wp n0 p e R s below Q T (mkF m pc Ls st) := by
  obtain ⟨hx, hby, -⟩ := K; obtain ⟨locs, S, -, -⟩ := S; obtain ⟨hd, rfl⟩ := hd
  exact wp_mono (fun t hr => XT.lloadN S.here hx rfl (hb hby hd) hl hr) g
theorem istore (K : Cx own code mL ret mn n0 Z p l e R s m args below meth c) (S : St n0 p l e R s m args below meth c k n h T) {i : Nat} (hl : storeLocals Ls i (.int x) = some l') (hd : Dc code pc (.istore i) 2 q) (g : Wp n0 p e R s below Q T (mkF m q l' st)) : Wp n0 p e R s below Q T (mkF m pc Ls (.int x :: st)) := by
  obtain ⟨hx, hby, -⟩ := K; obtain ⟨locs, S, -, -⟩ := S; obtain ⟨hd, rfl⟩ := hd
  exact wp_mono (fun t hr => XS.istore S.here hx rfl (hb hby hd) rfl hl hr) g
theorem istore_n (K : Cx own code mL ret mn n0 Z p l e R s m args below meth c) (S : St n0 p l e R s m args below meth c k n h T) {i : Fin 4} (hl : storeLocals Ls i.val (.int x) = some l') (hd : Dc code pc (.istore_n i) 1 q) (g : Wp n0 p e R s below Q T (mkF m q l' st)) : Wp n0 p e R s below Q T (mkF m pc Ls (.int x :: st)) := by
  obtain ⟨hx, hby, -⟩ := K; obtain ⟨locs, S, -, -⟩ := S; obtain ⟨hd, rfl⟩ := hd
  exact wp_mono (fun t hr => XS.istoreN S.here hx rfl (hb hby hd) rfl hl hr) g
theorem astore (K : Cx own code mL ret mn n0 Z p l e R s m args below meth c) (S : St n0 p l e R s m args below meth c k n h T) {i : Nat} (hv : v.isRef = true) (hl : storeLocals Ls i (v) = some l') (hd : Dc code pc (.astore i) 2 q) (g : Wp n0 p e R s below Q T (mkF m q l' st)) : Wp n0 p e R s below Q T (mkF m pc Ls (v :: st)) := by
  obtain ⟨hx, hby, -⟩ := K; obtain ⟨locs, S, -, -⟩ := S; obtain ⟨hd, rfl⟩ := hd
  exact wp_mono (fun t hr => XS.astore S.here hx rfl (hb hby hd) rfl hv hl hr) g
theorem astore_n (K : Cx own code mL ret mn n0 Z p l e R s m args below meth c) (S : St n0 p l e R s m args below meth c k n h T) {i : Fin 4} (hv : v.isRef = true) (hl : storeLocals Ls i.val (v) = some l') (hd : Dc code pc (.astore_n i) 1 q) (g : Wp n0 p e R s below Q T (mkF m q l' st)) : Wp n0 p e R s below Q T (mkF m pc Ls (v :: st)) := by
  obtain ⟨hx, hby, -⟩ := K; obtain ⟨locs, S, -, -⟩ := S; obtain ⟨hd, rfl⟩ := hd
  exact wp_mono (fun t hr => XS.astoreN S.here hx rfl (hb hby hd) rfl hv hl hr) g
theorem lstore (K : Cx own code mL ret mn n0 Z p l e R s m args below meth c) (S : St n0 p l e R s m args below meth c k n h T) {i : Nat} (hl : storeLocals Ls i (.long X) = some l') (hd : Dc code pc (.lstore i) 2 q) (g : Wp n0 p e R s below Q T (mkF m q l' st)) : Wp n0 p e R s below Q T (mkF m pc Ls (.long X :: st)) := by
  obtain ⟨hx, hby, -⟩ := K; obtain ⟨locs, S, -, -⟩ := S; obtain ⟨hd, rfl⟩ := hd
  exact wp_mono (fun t hr => XT.lstore S.here hx rfl (hb hby hd) rfl hl hr) g
theorem lstore_n (K : Cx own code mL ret mn n0 Z p l e R s m args below meth c) (S : St n0 p l e R s m args below meth c k n h T) {i : Fin 4} (hl : storeLocals Ls i.val (.long X) = some l') (hd : Dc code pc (.lstore_n i) 1 q) (g : Wp n0 p e R s below Q T (mkF m q l' st)) : Wp n0 p e R s below Q T (mkF m pc Ls (.long X :: st)) := by
  obtain ⟨hx, hby, -⟩ := K; obtain ⟨locs, S, -, -⟩ := S; obtain ⟨hd, rfl⟩ := hd
  exact wp_mono (fun t hr => XT.lstoreN S.here hx rfl (hb hby hd) rfl hl hr) g
theorem iinc (K : Cx own code mL ret mn n0 Z p l e R s m args below meth c) (S : St n0 p l e R s m args below meth c k n h T) {i : Nat} {cst : Int} (hv : Int32.ofInt cst = y) (hl : Ls[i]? = some (.val (.int x))) (hl' : storeLocals Ls i (.int (x + y)) = some l') (hd : Dc code pc (.iinc i cst) 3 q) (g : Wp n0 p e R s below Q T (mkF m q l' st)) : Wp n0 p e R s below Q T (mkF m pc Ls st) := by
  obtain ⟨hx, hby, -⟩ := K; obtain ⟨locs, S, -, -⟩ := S; obtain ⟨hd, rfl⟩ := hd
  exact wp_mono (fun t hr => XS.iinc S.here hx rfl (hb hby hd) hl (by rw [hv]; exact hl') hr) g
theorem goto (K : Cx own code mL ret mn n0 Z p l e R s m args below meth c) (S : St n0 p l e R s m args below meth c k n h T) {o : Int} (hd : Bc code pc (.goto o) o q q') (g : Wp n0 p e R s below Q T (mkF m q' Ls st)) : Wp n0 p e R s below Q T (mkF m pc Ls st) := by
  obtain ⟨hx, hby, -⟩ := K; obtain ⟨locs, S, -, -⟩ := S; obtain ⟨hd, -, h1, h2⟩ := hd
  exact wp_mono (fun t hr => XS.goto S.here hx rfl rfl (hb hby hd) h1 h2 hr) g
theorem icmp (K : Cx own code mL ret mn n0 Z p l e R s m args below meth c) (S : St n0 p l e R s m args below meth c k n h T) {o : Int} {cd : ClassFile.Cond} (hd : Bc code pc (.if_icmp cd o) o q q') (g1 : if_icmp.holds cd x y = true → Wp n0 p e R s below Q T (mkF m q' Ls st)) (g2 : if_icmp.holds cd x y = false → Wp n0 p e R s below Q T (mkF m q Ls st)) : Wp n0 p e R s below Q T (mkF m pc Ls (.int y :: .int x :: st)) := by
  obtain ⟨hx, hby, -⟩ := K; obtain ⟨locs, S, -, -⟩ := S; obtain ⟨hd, rfl, h1, h2⟩ := hd
  cases hc : if_icmp.holds cd x y with
  | true => exact wp_mono (fun t hr => XS.icmpYes S.here hx rfl rfl (hb hby hd) rfl hc h1 h2 hr) (g1 hc)
  | false => exact wp_mono (fun t hr => XS.icmpNo S.here hx rfl (hb hby hd) rfl hc hr) (g2 hc)
theorem ific (K : Cx own code mL ret mn n0 Z p l e R s m args below meth c) (S : St n0 p l e R s m args below meth c k n h T) {o : Int} {cd : ClassFile.Cond} (hd : Bc code pc (.ifCond cd o) o q q') (g1 : if_icmp.holds cd x 0 = true → Wp n0 p e R s below Q T (mkF m q' Ls st)) (g2 : if_icmp.holds cd x 0 = false → Wp n0 p e R s below Q T (mkF m q Ls st)) : Wp n0 p e R s below Q T (mkF m pc Ls (.int x :: st)) := by
  obtain ⟨hx, hby, -⟩ := K; obtain ⟨locs, S, -, -⟩ := S; obtain ⟨hd, rfl, h1, h2⟩ := hd
  cases hc : if_icmp.holds cd x 0 with
  | true => exact wp_mono (fun t hr => XS.ifYes S.here hx rfl rfl (hb hby hd) rfl (by rw [if0]; exact hc) h1 h2 hr) (g1 hc)
  | false => exact wp_mono (fun t hr => XS.ifNo S.here hx rfl (hb hby hd) rfl (by rw [if0]; exact hc) hr) (g2 hc)
theorem icmp_lt (K : Cx own code mL ret mn n0 Z p l e R s m args below meth c) (S : St n0 p l e R s m args below meth c k n h T) {o : Int} (hd : Bc code pc (.if_icmp .lt o) o q q') (g1 : x < y → Wp n0 p e R s below Q T (mkF m q' Ls st)) (g2 : ¬ x < y → Wp n0 p e R s below Q T (mkF m q Ls st)) : Wp n0 p e R s below Q T (mkF m pc Ls (.int y :: .int x :: st)) := by
  by_cases hc : x < y
  · exact icmp K S hd (fun _ => g1 hc) (fun q => absurd ((tlt hc).1) (by rw [q]; decide))
  · exact icmp K S hd (fun q => absurd ((flt hc).1) (by rw [q]; decide)) (fun _ => g2 hc)
theorem ific_lt (K : Cx own code mL ret mn n0 Z p l e R s m args below meth c) (S : St n0 p l e R s m args below meth c k n h T) {o : Int} (hd : Bc code pc (.ifCond .lt o) o q q') (g1 : x < 0 → Wp n0 p e R s below Q T (mkF m q' Ls st)) (g2 : ¬ x < 0 → Wp n0 p e R s below Q T (mkF m q Ls st)) : Wp n0 p e R s below Q T (mkF m pc Ls (.int x :: st)) := by
  by_cases hc : x < 0
  · exact ific K S hd (fun _ => g1 hc) (fun q => absurd ((tlt hc).1) (by rw [q]; decide))
  · exact ific K S hd (fun q => absurd ((flt hc).1) (by rw [q]; decide)) (fun _ => g2 hc)
theorem icmp_ge (K : Cx own code mL ret mn n0 Z p l e R s m args below meth c) (S : St n0 p l e R s m args below meth c k n h T) {o : Int} (hd : Bc code pc (.if_icmp .ge o) o q q') (g1 : ¬ x < y → Wp n0 p e R s below Q T (mkF m q' Ls st)) (g2 : x < y → Wp n0 p e R s below Q T (mkF m q Ls st)) : Wp n0 p e R s below Q T (mkF m pc Ls (.int y :: .int x :: st)) := by
  by_cases hc : x < y
  · exact icmp K S hd (fun q => absurd ((tlt hc).2.1) (by rw [q]; decide)) (fun _ => g2 hc)
  · exact icmp K S hd (fun _ => g1 hc) (fun q => absurd ((flt hc).2.1) (by rw [q]; decide))
theorem ific_ge (K : Cx own code mL ret mn n0 Z p l e R s m args below meth c) (S : St n0 p l e R s m args below meth c k n h T) {o : Int} (hd : Bc code pc (.ifCond .ge o) o q q') (g1 : ¬ x < 0 → Wp n0 p e R s below Q T (mkF m q' Ls st)) (g2 : x < 0 → Wp n0 p e R s below Q T (mkF m q Ls st)) : Wp n0 p e R s below Q T (mkF m pc Ls (.int x :: st)) := by
  by_cases hc : x < 0
  · exact ific K S hd (fun q => absurd ((tlt hc).2.1) (by rw [q]; decide)) (fun _ => g2 hc)
  · exact ific K S hd (fun _ => g1 hc) (fun q => absurd ((flt hc).2.1) (by rw [q]; decide))
theorem icmp_gt (K : Cx own code mL ret mn n0 Z p l e R s m args below meth c) (S : St n0 p l e R s m args below meth c k n h T) {o : Int} (hd : Bc code pc (.if_icmp .gt o) o q q') (g1 : y < x → Wp n0 p e R s below Q T (mkF m q' Ls st)) (g2 : ¬ y < x → Wp n0 p e R s below Q T (mkF m q Ls st)) : Wp n0 p e R s below Q T (mkF m pc Ls (.int y :: .int x :: st)) := by
  by_cases hc : y < x
  · exact icmp K S hd (fun _ => g1 hc) (fun q => absurd ((tlt hc).2.2.1) (by rw [q]; decide))
  · exact icmp K S hd (fun q => absurd ((flt hc).2.2.1) (by rw [q]; decide)) (fun _ => g2 hc)
theorem ific_gt (K : Cx own code mL ret mn n0 Z p l e R s m args below meth c) (S : St n0 p l e R s m args below meth c k n h T) {o : Int} (hd : Bc code pc (.ifCond .gt o) o q q') (g1 : 0 < x → Wp n0 p e R s below Q T (mkF m q' Ls st)) (g2 : ¬ 0 < x → Wp n0 p e R s below Q T (mkF m q Ls st)) : Wp n0 p e R s below Q T (mkF m pc Ls (.int x :: st)) := by
  by_cases hc : 0 < x
  · exact ific K S hd (fun _ => g1 hc) (fun q => absurd ((tlt hc).2.2.1) (by rw [q]; decide))
  · exact ific K S hd (fun q => absurd ((flt hc).2.2.1) (by rw [q]; decide)) (fun _ => g2 hc)
theorem icmp_le (K : Cx own code mL ret mn n0 Z p l e R s m args below meth c) (S : St n0 p l e R s m args below meth c k n h T) {o : Int} (hd : Bc code pc (.if_icmp .le o) o q q') (g1 : ¬ y < x → Wp n0 p e R s below Q T (mkF m q' Ls st)) (g2 : y < x → Wp n0 p e R s below Q T (mkF m q Ls st)) : Wp n0 p e R s below Q T (mkF m pc Ls (.int y :: .int x :: st)) := by
  by_cases hc : y < x
  · exact icmp K S hd (fun q => absurd ((tlt hc).2.2.2) (by rw [q]; decide)) (fun _ => g2 hc)
  · exact icmp K S hd (fun _ => g1 hc) (fun q => absurd ((flt hc).2.2.2) (by rw [q]; decide))
theorem ific_le (K : Cx own code mL ret mn n0 Z p l e R s m args below meth c) (S : St n0 p l e R s m args below meth c k n h T) {o : Int} (hd : Bc code pc (.ifCond .le o) o q q') (g1 : ¬ 0 < x → Wp n0 p e R s below Q T (mkF m q' Ls st)) (g2 : 0 < x → Wp n0 p e R s below Q T (mkF m q Ls st)) : Wp n0 p e R s below Q T (mkF m pc Ls (.int x :: st)) := by
  by_cases hc : 0 < x
  · exact ific K S hd (fun q => absurd ((tlt hc).2.2.2) (by rw [q]; decide)) (fun _ => g2 hc)
  · exact ific K S hd (fun _ => g1 hc) (fun q => absurd ((flt hc).2.2.2) (by rw [q]; decide))
theorem icmp_eq (K : Cx own code mL ret mn n0 Z p l e R s m args below meth c) (S : St n0 p l e R s m args below meth c k n h T) {o : Int} (hd : Bc code pc (.if_icmp .eq o) o q q') (g1 : x = y → Wp n0 p e R s below Q T (mkF m q' Ls st)) (g2 : ¬ x = y → Wp n0 p e R s below Q T (mkF m q Ls st)) : Wp n0 p e R s below Q T (mkF m pc Ls (.int y :: .int x :: st)) := by
  by_cases hc : x = y
  · exact icmp K S hd (fun _ => g1 hc) (fun q => absurd ((teq hc).1) (by rw [q]; decide))
  · exact icmp K S hd (fun q => absurd ((feq hc).1) (by rw [q]; decide)) (fun _ => g2 hc)
theorem ific_eq (K : Cx own code mL ret mn n0 Z p l e R s m args below meth c) (S : St n0 p l e R s m args below meth c k n h T) {o : Int} (hd : Bc code pc (.ifCond .eq o) o q q') (g1 : x = 0 → Wp n0 p e R s below Q T (mkF m q' Ls st)) (g2 : ¬ x = 0 → Wp n0 p e R s below Q T (mkF m q Ls st)) : Wp n0 p e R s below Q T (mkF m pc Ls (.int x :: st)) := by
  by_cases hc : x = 0
  · exact ific K S hd (fun _ => g1 hc) (fun q => absurd ((teq hc).1) (by rw [q]; decide))
  · exact ific K S hd (fun q => absurd ((feq hc).1) (by rw [q]; decide)) (fun _ => g2 hc)
theorem icmp_ne (K : Cx own code mL ret mn n0 Z p l e R s m args below meth c) (S : St n0 p l e R s m args below meth c k n h T) {o : Int} (hd : Bc code pc (.if_icmp .ne o) o q q') (g1 : ¬ x = y → Wp n0 p e R s below Q T (mkF m q' Ls st)) (g2 : x = y → Wp n0 p e R s below Q T (mkF m q Ls st)) : Wp n0 p e R s below Q T (mkF m pc Ls (.int y :: .int x :: st)) := by
  by_cases hc : x = y
  · exact icmp K S hd (fun q => absurd ((teq hc).2) (by rw [q]; decide)) (fun _ => g2 hc)
  · exact icmp K S hd (fun _ => g1 hc) (fun q => absurd ((feq hc).2) (by rw [q]; decide))
theorem ific_ne (K : Cx own code mL ret mn n0 Z p l e R s m args below meth c) (S : St n0 p l e R s m args below meth c k n h T) {o : Int} (hd : Bc code pc (.ifCond .ne o) o q q') (g1 : ¬ x = 0 → Wp n0 p e R s below Q T (mkF m q' Ls st)) (g2 : x = 0 → Wp n0 p e R s below Q T (mkF m q Ls st)) : Wp n0 p e R s below Q T (mkF m pc Ls (.int x :: st)) := by
  by_cases hc : x = 0
  · exact ific K S hd (fun q => absurd ((teq hc).2) (by rw [q]; decide)) (fun _ => g2 hc)
  · exact ific K S hd (fun _ => g1 hc) (fun q => absurd ((feq hc).2) (by rw [q]; decide))
theorem lcmp_lt (K : Cx own code mL ret mn n0 Z p l e R s m args below meth c) (S : St n0 p l e R s m args below meth c k n h T) {o : Int} {pc1 : Nat} (hd1 : Dc code pc .lcmp 1 pc1) (hd : Bc code pc1 (.ifCond .lt o) o q q') (g1 : X < Y → Wp n0 p e R s below Q T (mkF m q' Ls st)) (g2 : ¬ X < Y → Wp n0 p e R s below Q T (mkF m q Ls st)) : Wp n0 p e R s below Q T (mkF m pc Ls (.long Y :: .long X :: st)) := by
  obtain ⟨hx, hby, -⟩ := K; obtain ⟨locs, S, -, -⟩ := S; obtain ⟨hd, rfl, h1, h2⟩ := hd; obtain ⟨hd1, rfl⟩ := hd1
  by_cases hc : X < Y
  · exact wp_mono (fun t hr => XT.lcmp S.here hx rfl (hb hby hd1) rfl (XS.ifYes S.here hx rfl rfl (hb hby hd) rfl (XT.ll_lt_t hc) h1 h2 hr)) (g1 hc)
  · exact wp_mono (fun t hr => XT.lcmp S.here hx rfl (hb hby hd1) rfl (XS.ifNo S.here hx rfl (hb hby hd) rfl (XT.ll_lt_f hc) hr)) (g2 hc)
theorem lcmp_ge (K : Cx own code mL ret mn n0 Z p l e R s m args below meth c) (S : St n0 p l e R s m args below meth c k n h T) {o : Int} {pc1 : Nat} (hd1 : Dc code pc .lcmp 1 pc1) (hd : Bc code pc1 (.ifCond .ge o) o q q') (g1 : ¬ X < Y → Wp n0 p e R s below Q T (mkF m q' Ls st)) (g2 : X < Y → Wp n0 p e R s below Q T (mkF m q Ls st)) : Wp n0 p e R s below Q T (mkF m pc Ls (.long Y :: .long X :: st)) := by
  obtain ⟨hx, hby, -⟩ := K; obtain ⟨locs, S, -, -⟩ := S; obtain ⟨hd, rfl, h1, h2⟩ := hd; obtain ⟨hd1, rfl⟩ := hd1
  by_cases hc : X < Y
  · exact wp_mono (fun t hr => XT.lcmp S.here hx rfl (hb hby hd1) rfl (XS.ifNo S.here hx rfl (hb hby hd) rfl (XT.ll_ge_f hc) hr)) (g2 hc)
  · exact wp_mono (fun t hr => XT.lcmp S.here hx rfl (hb hby hd1) rfl (XS.ifYes S.here hx rfl rfl (hb hby hd) rfl (XT.ll_ge_t hc) h1 h2 hr)) (g1 hc)
theorem lcmp_gt (K : Cx own code mL ret mn n0 Z p l e R s m args below meth c) (S : St n0 p l e R s m args below meth c k n h T) {o : Int} {pc1 : Nat} (hd1 : Dc code pc .lcmp 1 pc1) (hd : Bc code pc1 (.ifCond .gt o) o q q') (g1 : Y < X → Wp n0 p e R s below Q T (mkF m q' Ls st)) (g2 : ¬ Y < X → Wp n0 p e R s below Q T (mkF m q Ls st)) : Wp n0 p e R s below Q T (mkF m pc Ls (.long Y :: .long X :: st)) := by
  obtain ⟨hx, hby, -⟩ := K; obtain ⟨locs, S, -, -⟩ := S; obtain ⟨hd, rfl, h1, h2⟩ := hd; obtain ⟨hd1, rfl⟩ := hd1
  by_cases hc : Y < X
  · exact wp_mono (fun t hr => XT.lcmp S.here hx rfl (hb hby hd1) rfl (XS.ifYes S.here hx rfl rfl (hb hby hd) rfl (XT.ll_gt_t hc) h1 h2 hr)) (g1 hc)
  · exact wp_mono (fun t hr => XT.lcmp S.here hx rfl (hb hby hd1) rfl (XS.ifNo S.here hx rfl (hb hby hd) rfl (XT.ll_gt_f hc) hr)) (g2 hc)
theorem lcmp_le (K : Cx own code mL ret mn n0 Z p l e R s m args below meth c) (S : St n0 p l e R s m args below meth c k n h T) {o : Int} {pc1 : Nat} (hd1 : Dc code pc .lcmp 1 pc1) (hd : Bc code pc1 (.ifCond .le o) o q q') (g1 : ¬ Y < X → Wp n0 p e R s below Q T (mkF m q' Ls st)) (g2 : Y < X → Wp n0 p e R s below Q T (mkF m q Ls st)) : Wp n0 p e R s below Q T (mkF m pc Ls (.long Y :: .long X :: st)) := by
  obtain ⟨hx, hby, -⟩ := K; obtain ⟨locs, S, -, -⟩ := S; obtain ⟨hd, rfl, h1, h2⟩ := hd; obtain ⟨hd1, rfl⟩ := hd1
  by_cases hc : Y < X
  · exact wp_mono (fun t hr => XT.lcmp S.here hx rfl (hb hby hd1) rfl (XS.ifNo S.here hx rfl (hb hby hd) rfl (XT.ll_le_f hc) hr)) (g2 hc)
  · exact wp_mono (fun t hr => XT.lcmp S.here hx rfl (hb hby hd1) rfl (XS.ifYes S.here hx rfl rfl (hb hby hd) rfl (XT.ll_le_t hc) h1 h2 hr)) (g1 hc)
theorem lcmp_eq (K : Cx own code mL ret mn n0 Z p l e R s m args below meth c) (S : St n0 p l e R s m args below meth c k n h T) {o : Int} {pc1 : Nat} (hd1 : Dc code pc .lcmp 1 pc1) (hd : Bc code pc1 (.ifCond .eq o) o q q') (g1 : X = Y → Wp n0 p e R s below Q T (mkF m q' Ls st)) (g2 : ¬ X = Y → Wp n0 p e R s below Q T (mkF m q Ls st)) : Wp n0 p e R s below Q T (mkF m pc Ls (.long Y :: .long X :: st)) := by
  obtain ⟨hx, hby, -⟩ := K; obtain ⟨locs, S, -, -⟩ := S; obtain ⟨hd, rfl, h1, h2⟩ := hd; obtain ⟨hd1, rfl⟩ := hd1
  by_cases hc : X = Y
  · exact wp_mono (fun t hr => XT.lcmp S.here hx rfl (hb hby hd1) rfl (XS.ifYes S.here hx rfl rfl (hb hby hd) rfl (XT.ll_eq_t hc) h1 h2 hr)) (g1 hc)
  · exact wp_mono (fun t hr => XT.lcmp S.here hx rfl (hb hby hd1) rfl (XS.ifNo S.here hx rfl (hb hby hd) rfl (XT.ll_eq_f hc) hr)) (g2 hc)
theorem lcmp_ne (K : Cx own code mL ret mn n0 Z p l e R s m args below meth c) (S : St n0 p l e R s m args below meth c k n h T) {o : Int} {pc1 : Nat} (hd1 : Dc code pc .lcmp 1 pc1) (hd : Bc code pc1 (.ifCond .ne o) o q q') (g1 : ¬ X = Y → Wp n0 p e R s below Q T (mkF m q' Ls st)) (g2 : X = Y → Wp n0 p e R s below Q T (mkF m q Ls st)) : Wp n0 p e R s below Q T (mkF m pc Ls (.long Y :: .long X :: st)) := by
  obtain ⟨hx, hby, -⟩ := K; obtain ⟨locs, S, -, -⟩ := S; obtain ⟨hd, rfl, h1, h2⟩ := hd; obtain ⟨hd1, rfl⟩ := hd1
  by_cases hc : X = Y
  · exact wp_mono (fun t hr => XT.lcmp S.here hx rfl (hb hby hd1) rfl (XS.ifNo S.here hx rfl (hb hby hd) rfl (XT.ll_ne_f hc) hr)) (g2 hc)
  · exact wp_mono (fun t hr => XT.lcmp S.here hx rfl (hb hby hd1) rfl (XS.ifYes S.here hx rfl rfl (hb hby hd) rfl (XT.ll_ne_t hc) h1 h2 hr)) (g1 hc)
theorem icmpz_lt (K : Cx own code mL ret mn n0 Z p l e R s m args below meth c) (S : St n0 p l e R s m args below meth c k n h T) {o : Int} (hd : Bc code pc (.if_icmp .lt o) o q q') (g1 : x.toInt < y.toInt → Wp n0 p e R s below Q T (mkF m q' Ls st)) (g2 : ¬ x.toInt < y.toInt → Wp n0 p e R s below Q T (mkF m q Ls st)) : Wp n0 p e R s below Q T (mkF m pc Ls (.int y :: .int x :: st)) :=
  icmp_lt K S hd (fun q => g1 (Int32.lt_iff_toInt_lt.mp q)) (fun q => g2 (fun r => q (Int32.lt_iff_toInt_lt.mpr r)))
theorem ificz_lt (K : Cx own code mL ret mn n0 Z p l e R s m args below meth c) (S : St n0 p l e R s m args below meth c k n h T) {o : Int} (hd : Bc code pc (.ifCond .lt o) o q q') (g1 : x.toInt < 0 → Wp n0 p e R s below Q T (mkF m q' Ls st)) (g2 : ¬ x.toInt < 0 → Wp n0 p e R s below Q T (mkF m q Ls st)) : Wp n0 p e R s below Q T (mkF m pc Ls (.int x :: st)) :=
  ific_lt K S hd (fun q => g1 (Int32.lt_iff_toInt_lt.mp q)) (fun q => g2 (fun r => q (Int32.lt_iff_toInt_lt.mpr r)))
theorem lcmpz_lt (K : Cx own code mL ret mn n0 Z p l e R s m args below meth c) (S : St n0 p l e R s m args below meth c k n h T) {o : Int} {pc1 : Nat} (hd1 : Dc code pc .lcmp 1 pc1) (hd : Bc code pc1 (.ifCond .lt o) o q q') (g1 : X.toInt < Y.toInt → Wp n0 p e R s below Q T (mkF m q' Ls st)) (g2 : ¬ X.toInt < Y.toInt → Wp n0 p e R s below Q T (mkF m q Ls st)) : Wp n0 p e R s below Q T (mkF m pc Ls (.long Y :: .long X :: st)) :=
  lcmp_lt K S hd1 hd (fun q => g1 (Int64.lt_iff_toInt_lt.mp q)) (fun q => g2 (fun r => q (Int64.lt_iff_toInt_lt.mpr r)))
theorem icmpz_ge (K : Cx own code mL ret mn n0 Z p l e R s m args below meth c) (S : St n0 p l e R s m args below meth c k n h T) {o : Int} (hd : Bc code pc (.if_icmp .ge o) o q q') (g1 : ¬ x.toInt < y.toInt → Wp n0 p e R s below Q T (mkF m q' Ls st)) (g2 : x.toInt < y.toInt → Wp n0 p e R s below Q T (mkF m q Ls st)) : Wp n0 p e R s below Q T (mkF m pc Ls (.int y :: .int x :: st)) :=
  icmp_ge K S hd (fun q => g1 (fun r => q (Int32.lt_iff_toInt_lt.mpr r))) (fun q => g2 (Int32.lt_iff_toInt_lt.mp q))
theorem ificz_ge (K : Cx own code mL ret mn n0 Z p l e R s m args below meth c) (S : St n0 p l e R s m args below meth c k n h T) {o : Int} (hd : Bc code pc (.ifCond .ge o) o q q') (g1 : ¬ x.toInt < 0 → Wp n0 p e R s below Q T (mkF m q' Ls st)) (g2 : x.toInt < 0 → Wp n0 p e R s below Q T (mkF m q Ls st)) : Wp n0 p e R s below Q T (mkF m pc Ls (.int x :: st)) :=
  ific_ge K S hd (fun q => g1 (fun r => q (Int32.lt_iff_toInt_lt.mpr r))) (fun q => g2 (Int32.lt_iff_toInt_lt.mp q))
theorem lcmpz_ge (K : Cx own code mL ret mn n0 Z p l e R s m args below meth c) (S : St n0 p l e R s m args below meth c k n h T) {o : Int} {pc1 : Nat} (hd1 : Dc code pc .lcmp 1 pc1) (hd : Bc code pc1 (.ifCond .ge o) o q q') (g1 : ¬ X.toInt < Y.toInt → Wp n0 p e R s below Q T (mkF m q' Ls st)) (g2 : X.toInt < Y.toInt → Wp n0 p e R s below Q T (mkF m q Ls st)) : Wp n0 p e R s below Q T (mkF m pc Ls (.long Y :: .long X :: st)) :=
  lcmp_ge K S hd1 hd (fun q => g1 (fun r => q (Int64.lt_iff_toInt_lt.mpr r))) (fun q => g2 (Int64.lt_iff_toInt_lt.mp q))
theorem icmpz_gt (K : Cx own code mL ret mn n0 Z p l e R s m args below meth c) (S : St n0 p l e R s m args below meth c k n h T) {o : Int} (hd : Bc code pc (.if_icmp .gt o) o q q') (g1 : y.toInt < x.toInt → Wp n0 p e R s below Q T (mkF m q' Ls st)) (g2 : ¬ y.toInt < x.toInt → Wp n0 p e R s below Q T (mkF m q Ls st)) : Wp n0 p e R s below Q T (mkF m pc Ls (.int y :: .int x :: st)) :=
  icmp_gt K S hd (fun q => g1 (Int32.lt_iff_toInt_lt.mp q)) (fun q => g2 (fun r => q (Int32.lt_iff_toInt_lt.mpr r)))
theorem ificz_gt (K : Cx own code mL ret mn n0 Z p l e R s m args below meth c) (S : St n0 p l e R s m args below meth c k n h T) {o : Int} (hd : Bc code pc (.ifCond .gt o) o q q') (g1 : 0 < x.toInt → Wp n0 p e R s below Q T (mkF m q' Ls st)) (g2 : ¬ 0 < x.toInt → Wp n0 p e R s below Q T (mkF m q Ls st)) : Wp n0 p e R s below Q T (mkF m pc Ls (.int x :: st)) :=
  ific_gt K S hd (fun q => g1 (Int32.lt_iff_toInt_lt.mp q)) (fun q => g2 (fun r => q (Int32.lt_iff_toInt_lt.mpr r)))
theorem lcmpz_gt (K : Cx own code mL ret mn n0 Z p l e R s m args below meth c) (S : St n0 p l e R s m args below meth c k n h T) {o : Int} {pc1 : Nat} (hd1 : Dc code pc .lcmp 1 pc1) (hd : Bc code pc1 (.ifCond .gt o) o q q') (g1 : Y.toInt < X.toInt → Wp n0 p e R s below Q T (mkF m q' Ls st)) (g2 : ¬ Y.toInt < X.toInt → Wp n0 p e R s below Q T (mkF m q Ls st)) : Wp n0 p e R s below Q T (mkF m pc Ls (.long Y :: .long X :: st)) :=
  lcmp_gt K S hd1 hd (fun q => g1 (Int64.lt_iff_toInt_lt.mp q)) (fun q => g2 (fun r => q (Int64.lt_iff_toInt_lt.mpr r)))
theorem icmpz_le (K : Cx own code mL ret mn n0 Z p l e R s m args below meth c) (S : St n0 p l e R s m args below meth c k n h T) {o : Int} (hd : Bc code pc (.if_icmp .le o) o q q') (g1 : ¬ y.toInt < x.toInt → Wp n0 p e R s below Q T (mkF m q' Ls st)) (g2 : y.toInt < x.toInt → Wp n0 p e R s below Q T (mkF m q Ls st)) : Wp n0 p e R s below Q T (mkF m pc Ls (.int y :: .int x :: st)) :=
  icmp_le K S hd (fun q => g1 (fun r => q (Int32.lt_iff_toInt_lt.mpr r))) (fun q => g2 (Int32.lt_iff_toInt_lt.mp q))
theorem ificz_le (K : Cx own code mL ret mn n0 Z p l e R s m args below meth c) (S : St n0 p l e R s m args below meth c k n h T) {o : Int} (hd : Bc code pc (.ifCond .le o) o q q') (g1 : ¬ 0 < x.toInt → Wp n0 p e R s below Q T (mkF m q' Ls st)) (g2 : 0 < x.toInt → Wp n0 p e R s below Q T (mkF m q Ls st)) : Wp n0 p e R s below Q T (mkF m pc Ls (.int x :: st)) :=
  ific_le K S hd (fun q => g1 (fun r => q (Int32.lt_iff_toInt_lt.mpr r))) (fun q => g2 (Int32.lt_iff_toInt_lt.mp q))
theorem lcmpz_le (K : Cx own code mL ret mn n0 Z p l e R s m args below meth c) (S : St n0 p l e R s m args below meth c k n h T) {o : Int} {pc1 : Nat} (hd1 : Dc code pc .lcmp 1 pc1) (hd : Bc code pc1 (.ifCond .le o) o q q') (g1 : ¬ Y.toInt < X.toInt → Wp n0 p e R s below Q T (mkF m q' Ls st)) (g2 : Y.toInt < X.toInt → Wp n0 p e R s below Q T (mkF m q Ls st)) : Wp n0 p e R s below Q T (mkF m pc Ls (.long Y :: .long X :: st)) :=
  lcmp_le K S hd1 hd (fun q => g1 (fun r => q (Int64.lt_iff_toInt_lt.mpr r))) (fun q => g2 (Int64.lt_iff_toInt_lt.mp q))
theorem icmpz_eq (K : Cx own code mL ret mn n0 Z p l e R s m args below meth c) (S : St n0 p l e R s m args below meth c k n h T) {o : Int} (hd : Bc code pc (.if_icmp .eq o) o q q') (g1 : x.toInt = y.toInt → Wp n0 p e R s below Q T (mkF m q' Ls st)) (g2 : ¬ x.toInt = y.toInt → Wp n0 p e R s below Q T (mkF m q Ls st)) : Wp n0 p e R s below Q T (mkF m pc Ls (.int y :: .int x :: st)) :=
  icmp_eq K S hd (fun q => g1 (congrArg Int32.toInt q)) (fun q => g2 (fun r => q (Int32.toInt_inj.mp r)))
theorem ificz_eq (K : Cx own code mL ret mn n0 Z p l e R s m args below meth c) (S : St n0 p l e R s m args below meth c k n h T) {o : Int} (hd : Bc code pc (.ifCond .eq o) o q q') (g1 : x.toInt = 0 → Wp n0 p e R s below Q T (mkF m q' Ls st)) (g2 : ¬ x.toInt = 0 → Wp n0 p e R s below Q T (mkF m q Ls st)) : Wp n0 p e R s below Q T (mkF m pc Ls (.int x :: st)) :=
  ific_eq K S hd (fun q => g1 (congrArg Int32.toInt q)) (fun q => g2 (fun r => q (Int32.toInt_inj.mp r)))
theorem lcmpz_eq (K : Cx own code mL ret mn n0 Z p l e R s m args below meth c) (S : St n0 p l e R s m args below meth c k n h T) {o : Int} {pc1 : Nat} (hd1 : Dc code pc .lcmp 1 pc1) (hd : Bc code pc1 (.ifCond .eq o) o q q') (g1 : X.toInt = Y.toInt → Wp n0 p e R s below Q T (mkF m q' Ls st)) (g2 : ¬ X.toInt = Y.toInt → Wp n0 p e R s below Q T (mkF m q Ls st)) : Wp n0 p e R s below Q T (mkF m pc Ls (.long Y :: .long X :: st)) :=
  lcmp_eq K S hd1 hd (fun q => g1 (congrArg Int64.toInt q)) (fun q => g2 (fun r => q (Int64.toInt_inj.mp r)))
theorem icmpz_ne (K : Cx own code mL ret mn n0 Z p l e R s m args below meth c) (S : St n0 p l e R s m args below meth c k n h T) {o : Int} (hd : Bc code pc (.if_icmp .ne o) o q q') (g1 : ¬ x.toInt = y.toInt → Wp n0 p e R s below Q T (mkF m q' Ls st)) (g2 : x.toInt = y.toInt → Wp n0 p e R s below Q T (mkF m q Ls st)) : Wp n0 p e R s below Q T (mkF m pc Ls (.int y :: .int x :: st)) :=
  icmp_ne K S hd (fun q => g1 (fun r => q (Int32.toInt_inj.mp r))) (fun q => g2 (congrArg Int32.toInt q))
theorem ificz_ne (K : Cx own code mL ret mn n0 Z p l e R s m args below meth c) (S : St n0 p l e R s m args below meth c k n h T) {o : Int} (hd : Bc code pc (.ifCond .ne o) o q q') (g1 : ¬ x.toInt = 0 → Wp n0 p e R s below Q T (mkF m q' Ls st)) (g2 : x.toInt = 0 → Wp n0 p e R s below Q T (mkF m q Ls st)) : Wp n0 p e R s below Q T (mkF m pc Ls (.int x :: st)) :=
  ific_ne K S hd (fun q => g1 (fun r => q (Int32.toInt_inj.mp r))) (fun q => g2 (congrArg Int32.toInt q))
theorem lcmpz_ne (K : Cx own code mL ret mn n0 Z p l e R s m args below meth c) (S : St n0 p l e R s m args below meth c k n h T) {o : Int} {pc1 : Nat} (hd1 : Dc code pc .lcmp 1 pc1) (hd : Bc code pc1 (.ifCond .ne o) o q q') (g1 : ¬ X.toInt = Y.toInt → Wp n0 p e R s below Q T (mkF m q' Ls st)) (g2 : X.toInt = Y.toInt → Wp n0 p e R s below Q T (mkF m q Ls st)) : Wp n0 p e R s below Q T (mkF m pc Ls (.long Y :: .long X :: st)) :=
  lcmp_ne K S hd1 hd (fun q => g1 (fun r => q (Int64.toInt_inj.mp r))) (fun q => g2 (congrArg Int64.toInt q))
theorem ifnull_ref (K : Cx own code mL ret mn n0 Z p l e R s m args below meth c) (S : St n0 p l e R s m args below meth c k n h T) {o : Int} (hd : Bc code pc (.ifnull o) o q q') (g : Wp n0 p e R s below Q T (mkF m q Ls st)) : Wp n0 p e R s below Q T (mkF m pc Ls (.ref a :: st)) := by
  obtain ⟨hx, hby, -⟩ := K; obtain ⟨locs, S, -, -⟩ := S; obtain ⟨hd, rfl, h1, h2⟩ := hd
  exact wp_mono (fun t hr => XS.ifnullNo S.here hx rfl (hb hby hd) rfl hr) g
theorem ldc (K : Cx own code mL ret mn n0 Z p l e R s m args below meth c) (S : St n0 p l e R s m args below meth c k n h T) {i : Nat} (w : (Jvm.Cond.constant own i x).before a0 Z = true) (hd : Dc code pc (.ldc i) 2 q) (g : Wp n0 p e R s below Q T (mkF m q Ls (.int x :: st))) : Wp n0 p e R s below Q T (mkF m pc Ls st) := by
  obtain ⟨hx, hby, -, -, -, hown, hZ, -⟩ := K; obtain ⟨locs, S, -, -⟩ := S; obtain ⟨hd, rfl⟩ := hd
  refine wp_mono (T' := T) (g' := mkF m (pc + 2) Ls (.int x :: st)) (fun t hr => ?_) g
  exact S.ldcInt hx hown (mvT hZ w) (g := mkF m pc Ls st) rfl (hb hby hd) t hr
theorem ldc2 (K : Cx own code mL ret mn n0 Z p l e R s m args below meth c) (S : St n0 p l e R s m args below meth c k n h T) {i : Nat} (w : (Jvm.Cond.constantLong own i X).before a0 Z = true) (hd : Dc code pc (.ldc2_w i) 3 q) (g : Wp n0 p e R s below Q T (mkF m q Ls (.long X :: st))) : Wp n0 p e R s below Q T (mkF m pc Ls st) := by
  obtain ⟨hx, hby, -, -, -, hown, hZ, -⟩ := K; obtain ⟨locs, S, -, -⟩ := S; obtain ⟨hd, rfl⟩ := hd
  refine wp_mono (T' := T) (g' := mkF m (pc + 3) Ls (.long X :: st)) (fun t hr => ?_) g
  exact S.ldc2Long hx hown (mvT hZ w) (g := mkF m pc Ls st) rfl (hb hby hd) t hr
theorem getf (K : Cx own code mL ret mn n0 Z p l e R s m args below meth c) (S : St n0 p l e R s m args below meth c k n h T) {i : Nat} {O fn d : String} (w : (Jvm.Cond.fieldLink own i O fn d).before a0 Z = true) (F : Fld Z h a O fn d v) (hd : Dc code pc (.getfield i) 3 q) (g : ∀ T, St n0 p l e R s m args below meth c k n h T → Wp n0 p e R s below Q T (mkF m q Ls (v :: st))) : Wp n0 p e R s below Q T (mkF m pc Ls (.ref a :: st)) := by
  obtain ⟨hx, hby, -, -, -, hown, hZ, -⟩ := K; obtain ⟨locs, S, e1, N, z⟩ := S; obtain ⟨hd, rfl⟩ := hd
  obtain ⟨T1, S1, e2, st1⟩ := getF S hx hZ hown (host := "") (Or.inl w) Via.refl e1 F (g := mkF m pc Ls (.ref a :: st)) rfl rfl (hb hby hd)
  exact wp_mono st1 (g T1 ⟨locs, S1, e2, N, z⟩)
theorem putf (K : Cx own code mL ret mn n0 Z p l e R s m args below meth c) (S : St n0 p l e R s m args below meth c k n h T) {i kk : Nat} {O fn d C : String} {old : Value} (w : (Jvm.Cond.fieldLink own i O fn d).before a0 Z = true) (F : Fld Z h a O fn d old) (E : Exa Z h a C) (L : (Jvm.Cond.lays C O fn d).before a0 Z = true ∨ ((Jvm.Cond.laysFinal C O fn d).before a0 Z = true ∧ own = O ∧ mn = "<init>")) (wi : (Jvm.Cond.instantiable C kk).before a0 Z = true) (hty : parseFieldDescriptor d = some ty) (hn : narrow ty v = v) (hf : fits ty v = true) (ha : n0 ≤ a) (hd : Dc code pc (.putfield i) 3 q) (g : ∀ T h', Wr h h' a (Jvm.RoadKit.slotOf Z O fn d) v → St n0 p l e R s m args below meth c k n h' T → Wp n0 p e R s below Q T (mkF m q Ls st)) : Wp n0 p e R s below Q T (mkF m pc Ls (v :: .ref a :: st)) := by
  obtain ⟨hx, hby, -, -, -, hown, hZ, hmn⟩ := K; obtain ⟨locs, S, e1, N, z⟩ := S; obtain ⟨hd, rfl⟩ := hd
  obtain ⟨T1, h1, S1, e2, W1, st1⟩ := putF S hx hZ hown (host := "") (Or.inl w) Via.refl e1 F E (L.imp id fun q => ⟨q.1, q.2.1, hmn.trans q.2.2⟩) wi hty hn hf (g := mkF m pc Ls (v :: .ref a :: st)) rfl rfl (hb hby hd)
  exact wp_mono st1 (g T1 h1 W1 ⟨_, S1, e2, Fr.snoc S1 N ha, by rw [W1.size]; exact z⟩)
theorem new (K : Cx own code mL ret mn n0 Z p l e R s m args below meth c) (S : St n0 p l e R s m args below meth c k n h T) {i nn : Nat} {C : String} (w : (Jvm.Cond.classLink own i C).before a0 Z = true) (wi : (Jvm.Cond.instantiable C nn).before a0 Z = true) (wz : (Jvm.Cond.initialized C).before a0 Z = true) (hc : k + 1 ≤ R.cells) (hl : n + nn ≤ R.slots) (hd : Dc code pc (.new i) 3 q) (g : ∀ T h' a, a = h.size → n0 ≤ a → Ext h h' → Exa Z h' a C → (∀ {O nm d : String} {ty : FieldType}, Laid Z a0 C O nm d → parseFieldDescriptor d = some ty → Fld Z h' a O nm d (defaultValue ty)) → St n0 p l e R s m args below meth c (k + 1) (n + nn) h' T → Wp n0 p e R s below Q T (mkF m q Ls (.ref a :: st))) : Wp n0 p e R s below Q T (mkF m pc Ls st) := by
  obtain ⟨hx, hby, -, -, -, hown, hZ, hmn⟩ := K; obtain ⟨locs, S, e1, N, z⟩ := S; obtain ⟨hd, rfl⟩ := hd
  obtain ⟨T1, h1, S1, e2, E1, A1, D1, -, st1⟩ := newO S hx hZ hown w wi wz e1 (g := mkF m pc Ls st) rfl (hb hby hd) hc hl
  exact wp_mono st1 (g T1 h1 h.size rfl z E1 A1 D1 ⟨_, S1, e2, N, Nat.le_trans z E1.1⟩)
theorem newarr (K : Cx own code mL ret mn n0 Z p l e R s m args below meth c) (S : St n0 p l e R s m args below meth c k n h T) {aty : ArrayType} {cap : Nat} (w : (Jvm.Cond.arrayClass (newarray.typeOf aty)).before a0 Z = true) (hn : ¬ x < 0) (hcap : x.toNatClampNeg ≤ cap) (hb' : cap * 8 ≤ 536870912) (hc : k + 1 ≤ R.cells) (hl : n + cap ≤ R.slots) (hd : Dc code pc (.newarray aty) 2 q) (g : ∀ T h' a, a = h.size → n0 ≤ a → Ext h h' → VA Z h' a (newarray.typeOf aty) (List.replicate x.toNatClampNeg (defaultValue (newarray.typeOf aty))) → St n0 p l e R s m args below meth c (k + 1) (n + cap) h' T → Wp n0 p e R s below Q T (mkF m q Ls (.ref a :: st))) : Wp n0 p e R s below Q T (mkF m pc Ls (.int x :: st)) := by
  obtain ⟨hx, hby, -, -, -, hown, hZ, hmn⟩ := K; obtain ⟨locs, S, e1, N, z⟩ := S; obtain ⟨hd, rfl⟩ := hd
  obtain ⟨T1, h1, cA, S1, e2, E1, A1, st1⟩ := newP S hx hZ w e1 (g := mkF m pc Ls (.int x :: st)) rfl (hb hby hd) rfl hn hcap hb' hc hl
  exact wp_mono st1 (g T1 h1 h.size rfl z E1 ⟨_, A1, by simp [newA]⟩ ⟨_, S1, e2, N, Nat.le_trans z E1.1⟩)
theorem inito (K : Cx own code mL ret mn n0 Z p l e R s m args below meth c) (S : St n0 p l e R s m args below meth c k n h T) {i W : Nat} (w1 : (Jvm.Cond.methodLink own i Lib.objectInit).before a0 Z = true) (w2 : (Jvm.Cond.instanceMethod Lib.objectInit).before a0 Z = true) (w3 : (Jvm.Cond.code Lib.objectInit ⟨#[0xb1]⟩ 1 none).before a0 Z = true) (hsz : Ls.size = mL) (hf : 1 ≤ R.frames) (hW : (st.map fun v => v.category).sum ≤ W) (hl : W + 12 ≤ R.locals) (hd : Dc code pc (.invokespecial i) 3 q) (g : ∀ T, St n0 p l e R s m args below meth c k n h T → Wp n0 p e R s below Q T (mkF m q Ls st)) : Wp n0 p e R s below Q T (mkF m pc Ls (.ref a :: st)) := by
  obtain ⟨hx, hby, hml, -, -, hown, hZ, hmn⟩ := K; obtain ⟨locs, S, e1, N, z⟩ := S; obtain ⟨hd, rfl⟩ := hd
  obtain ⟨T1, S1, e2, st1⟩ := initO S hx hZ hown w1 w2 w3 e1 (g := mkF m pc Ls (.ref a :: st)) rfl (by rw [hml]; exact hsz) rfl (hb hby hd) hf (W := W) (by show 2 * 0 + _ ≤ _; omega) hl
  exact wp_mono st1 (g T1 ⟨_, S1, e2, N, z⟩)
theorem iaload (K : Cx own code mL ret mn n0 Z p l e R s m args below meth c) (S : St n0 p l e R s m args below meth c k n h T) {i : Nat} (A : VA Z h a .int vs) (hi : Ix x i) (hv : vs[i]? = some v) (hd : Dc code pc .iaload 1 q) (g : Wp n0 p e R s below Q T (mkF m q Ls (v :: st))) : Wp n0 p e R s below Q T (mkF m pc Ls (.int x :: .ref a :: st)) := by
  obtain ⟨hx, hby, -, -, -, hown, hZ, -⟩ := K; obtain ⟨locs, S, e1, N, z⟩ := S; obtain ⟨hd, rfl⟩ := hd; obtain ⟨cl, A, hs⟩ := A; obtain ⟨hi0, rfl⟩ := hi
  have hlt : x.toNatClampNeg < vs.length := (List.getElem?_eq_some_iff.mp hv).1
  exact wp_mono (fun t hr => S.iaload hx (by rw [e1]; exact A.1) (State.isArrayOf_alike hZ.alike A.2.1) A.2.2 (by rw [hs]; simp; exact ⟨Int32.not_lt.mp hi0, hlt⟩) (by rw [hs]; simpa using hv) (g := mkF m pc Ls (.int x :: .ref a :: st)) rfl rfl (hb hby hd) t hr) g
theorem laload (K : Cx own code mL ret mn n0 Z p l e R s m args below meth c) (S : St n0 p l e R s m args below meth c k n h T) {i : Nat} (A : VA Z h a .long vs) (hi : Ix x i) (hv : vs[i]? = some v) (hd : Dc code pc .laload 1 q) (g : Wp n0 p e R s below Q T (mkF m q Ls (v :: st))) : Wp n0 p e R s below Q T (mkF m pc Ls (.int x :: .ref a :: st)) := by
  obtain ⟨hx, hby, -, -, -, hown, hZ, -⟩ := K; obtain ⟨locs, S, e1, N, z⟩ := S; obtain ⟨hd, rfl⟩ := hd; obtain ⟨cl, A, hs⟩ := A; obtain ⟨hi0, rfl⟩ := hi
  have hlt : x.toNatClampNeg < vs.length := (List.getElem?_eq_some_iff.mp hv).1
  exact wp_mono (fun t hr => S.laload hx (by rw [e1]; exact A.1) (State.isArrayOf_alike hZ.alike A.2.1) A.2.2 (by rw [hs]; simp; exact ⟨Int32.not_lt.mp hi0, hlt⟩) (by rw [hs]; simpa using hv) (g := mkF m pc Ls (.int x :: .ref a :: st)) rfl rfl (hb hby hd) t hr) g
theorem caload (K : Cx own code mL ret mn n0 Z p l e R s m args below meth c) (S : St n0 p l e R s m args below meth c k n h T) {i : Nat} (A : VA Z h a .char vs) (hi : Ix x i) (hv : vs[i]? = some v) (hd : Dc code pc .caload 1 q) (g : Wp n0 p e R s below Q T (mkF m q Ls (v :: st))) : Wp n0 p e R s below Q T (mkF m pc Ls (.int x :: .ref a :: st)) := by
  obtain ⟨hx, hby, -, -, -, hown, hZ, -⟩ := K; obtain ⟨locs, S, e1, N, z⟩ := S; obtain ⟨hd, rfl⟩ := hd; obtain ⟨cl, A, hs⟩ := A; obtain ⟨hi0, rfl⟩ := hi
  have hlt : x.toNatClampNeg < vs.length := (List.getElem?_eq_some_iff.mp hv).1
  exact wp_mono (fun t hr => S.caload hx (by rw [e1]; exact A.1) (State.isArrayOf_alike hZ.alike A.2.1) A.2.2 (by rw [hs]; simp; exact ⟨Int32.not_lt.mp hi0, hlt⟩) (by rw [hs]; simpa using hv) (g := mkF m pc Ls (.int x :: .ref a :: st)) rfl rfl (hb hby hd) t hr) g
theorem baload (K : Cx own code mL ret mn n0 Z p l e R s m args below meth c) (S : St n0 p l e R s m args below meth c k n h T) {i : Nat} (A : VA Z h a .byte vs) (hi : Ix x i) (hv : vs[i]? = some v) (hd : Dc code pc .baload 1 q) (g : Wp n0 p e R s below Q T (mkF m q Ls (v :: st))) : Wp n0 p e R s below Q T (mkF m pc Ls (.int x :: .ref a :: st)) := by
  obtain ⟨hx, hby, -, -, -, hown, hZ, -⟩ := K; obtain ⟨locs, S, e1, N, z⟩ := S; obtain ⟨hd, rfl⟩ := hd; obtain ⟨cl, A, hs⟩ := A; obtain ⟨hi0, rfl⟩ := hi
  have hlt : x.toNatClampNeg < vs.length := (List.getElem?_eq_some_iff.mp hv).1
  exact wp_mono (fun t hr => S.baloadBytes hx (by rw [e1]; exact A.1) (State.isArrayOf_alike hZ.alike A.2.1) A.2.2 (by rw [hs]; simp; exact ⟨Int32.not_lt.mp hi0, hlt⟩) (by rw [hs]; simpa using hv) (g := mkF m pc Ls (.int x :: .ref a :: st)) rfl rfl (hb hby hd) t hr) g
theorem iastore (K : Cx own code mL ret mn n0 Z p l e R s m args below meth c) (S : St n0 p l e R s m args below meth c k n h T) {i : Nat} (A : VA Z h a .int vs) (hi : Ix x i) (hlt : i < vs.length) (ha : n0 ≤ a) (hd : Dc code pc .iastore 1 q) (g : ∀ T h', Wr h h' a i (.int y) → VA Z h' a .int (vs.set i (.int y)) → St n0 p l e R s m args below meth c k n h' T → Wp n0 p e R s below Q T (mkF m q Ls st)) : Wp n0 p e R s below Q T (mkF m pc Ls (.int y :: .int x :: .ref a :: st)) := by
  obtain ⟨hx, hby, -, -, -, hown, hZ, -⟩ := K; obtain ⟨locs, S, e1, N, z⟩ := S; obtain ⟨hd, rfl⟩ := hd; have A0 := A; obtain ⟨cl, A, hs⟩ := A; obtain ⟨hi0, rfl⟩ := hi
  obtain ⟨T1, h1, S1, e2, W1, st1⟩ := stI S hx hZ e1 A (by rw [hs]; simp; exact ⟨Int32.not_lt.mp hi0, hlt⟩) (g := mkF m pc Ls (.int y :: .int x :: .ref a :: st)) rfl rfl (hb hby hd)
  exact wp_mono st1 (g T1 h1 W1 (A0.wr W1) ⟨_, S1, e2, Fr.snoc S1 N ha, by rw [W1.size]; exact z⟩)
theorem lastore (K : Cx own code mL ret mn n0 Z p l e R s m args below meth c) (S : St n0 p l e R s m args below meth c k n h T) {i : Nat} (A : VA Z h a .long vs) (hi : Ix x i) (hlt : i < vs.length) (ha : n0 ≤ a) (hd : Dc code pc .lastore 1 q) (g : ∀ T h', Wr h h' a i (.long X) → VA Z h' a .long (vs.set i (.long X)) → St n0 p l e R s m args below meth c k n h' T → Wp n0 p e R s below Q T (mkF m q Ls st)) : Wp n0 p e R s below Q T (mkF m pc Ls (.long X :: .int x :: .ref a :: st)) := by
  obtain ⟨hx, hby, -, -, -, hown, hZ, -⟩ := K; obtain ⟨locs, S, e1, N, z⟩ := S; obtain ⟨hd, rfl⟩ := hd; have A0 := A; obtain ⟨cl, A, hs⟩ := A; obtain ⟨hi0, rfl⟩ := hi
  obtain ⟨T1, h1, S1, e2, W1, st1⟩ := stJ S hx hZ e1 A (by rw [hs]; simp; exact ⟨Int32.not_lt.mp hi0, hlt⟩) (g := mkF m pc Ls (.long X :: .int x :: .ref a :: st)) rfl rfl (hb hby hd)
  exact wp_mono st1 (g T1 h1 W1 (A0.wr W1) ⟨_, S1, e2, Fr.snoc S1 N ha, by rw [W1.size]; exact z⟩)
theorem castore (K : Cx own code mL ret mn n0 Z p l e R s m args below meth c) (S : St n0 p l e R s m args below meth c k n h T) {i : Nat} (A : VA Z h a .char vs) (hi : Ix x i) (hlt : i < vs.length) (ha : n0 ≤ a) (hd : Dc code pc .castore 1 q) (g : ∀ T h', Wr h h' a i (.int (nar .char y)) → VA Z h' a .char (vs.set i (.int (nar .char y))) → St n0 p l e R s m args below meth c k n h' T → Wp n0 p e R s below Q T (mkF m q Ls st)) : Wp n0 p e R s below Q T (mkF m pc Ls (.int y :: .int x :: .ref a :: st)) := by
  obtain ⟨hx, hby, -, -, -, hown, hZ, -⟩ := K; obtain ⟨locs, S, e1, N, z⟩ := S; obtain ⟨hd, rfl⟩ := hd; have A0 := A; obtain ⟨cl, A, hs⟩ := A; obtain ⟨hi0, rfl⟩ := hi
  obtain ⟨T1, h1, S1, e2, W1, st1⟩ := stC S hx hZ e1 A (by rw [hs]; simp; exact ⟨Int32.not_lt.mp hi0, hlt⟩) (g := mkF m pc Ls (.int y :: .int x :: .ref a :: st)) rfl rfl (hb hby hd)
  exact wp_mono st1 (g T1 h1 W1 (A0.wr W1) ⟨_, S1, e2, Fr.snoc S1 N ha, by rw [W1.size]; exact z⟩)
theorem bastore (K : Cx own code mL ret mn n0 Z p l e R s m args below meth c) (S : St n0 p l e R s m args below meth c k n h T) {i : Nat} (A : VA Z h a .byte vs) (hi : Ix x i) (hlt : i < vs.length) (ha : n0 ≤ a) (hd : Dc code pc .bastore 1 q) (g : ∀ T h', Wr h h' a i (.int (nar .byte y)) → VA Z h' a .byte (vs.set i (.int (nar .byte y))) → St n0 p l e R s m args below meth c k n h' T → Wp n0 p e R s below Q T (mkF m q Ls st)) : Wp n0 p e R s below Q T (mkF m pc Ls (.int y :: .int x :: .ref a :: st)) := by
  obtain ⟨hx, hby, -, -, -, hown, hZ, -⟩ := K; obtain ⟨locs, S, e1, N, z⟩ := S; obtain ⟨hd, rfl⟩ := hd; have A0 := A; obtain ⟨cl, A, hs⟩ := A; obtain ⟨hi0, rfl⟩ := hi
  obtain ⟨T1, h1, S1, e2, W1, st1⟩ := stB S hx hZ e1 A (by rw [hs]; simp; exact ⟨Int32.not_lt.mp hi0, hlt⟩) (g := mkF m pc Ls (.int y :: .int x :: .ref a :: st)) rfl rfl (hb hby hd)
  exact wp_mono st1 (g T1 h1 W1 (A0.wr W1) ⟨_, S1, e2, Fr.snoc S1 N ha, by rw [W1.size]; exact z⟩)
theorem alen (K : Cx own code mL ret mn n0 Z p l e R s m args below meth c) (S : St n0 p l e R s m args below meth c k n h T) (A : VA Z h a ty vs) (hx' : vs.length.toInt32 = x) (hd : Dc code pc .arraylength 1 q) (g : Wp n0 p e R s below Q T (mkF m q Ls (.int x :: st))) : Wp n0 p e R s below Q T (mkF m pc Ls (.ref a :: st)) := by
  obtain ⟨hx, hby, -, -, -, hown, hZ, -⟩ := K; obtain ⟨locs, S, e1, N, z⟩ := S; obtain ⟨hd, rfl⟩ := hd; obtain ⟨cl, A, hs⟩ := A
  refine wp_mono (fun t hr => S.arraylength hx (by rw [e1]; exact A.1) (State.isArrayOf_alike hZ.alike A.2.1) (g := mkF m pc Ls (.ref a :: st)) rfl rfl (hb hby hd) t hr) (T' := T) (g' := mkF m (pc + 1) Ls (.int cl.slots.size.toInt32 :: st)) ?_
  rw [hs]; simpa [hx'] using g
theorem retn (K : Cx own code mL (some ty) mn n0 Z p l e R s m args below meth c) (S : St n0 p l e R s m args below meth c k n h T) (ht : ty = .boolean ∨ ty = .byte ∨ ty = .char ∨ ty = .short) (hz : nar ty x = y) (hk : k ≤ R.cells) (hn : n ≤ R.slots) (hd : Dc code pc .ireturn 1 q) (hQ : Q (some (.int y)) h) : Wp n0 p e R s below Q T (mkF m pc Ls (.int x :: st)) := by
  obtain ⟨hx, hby, -, hret, hlk, -⟩ := K; obtain ⟨locs, S, e1, N, z⟩ := S; obtain ⟨hd, -⟩ := hd
  obtain ⟨fs, hr, hrun, hended, hW, hsame⟩ := S.leave (v := some (.int y)) (fun h => by rw [hret] at h; cases h) hlk
  refine ⟨_, _, retN S hx hret ht (hb hby hd) (by rw [hz]; exact hr), hrun, hended, _, _, rfl, ⟨?_, ?_, N⟩, ⟨_, rfl⟩, hW, hsame.mono hk hn⟩
  · show Q _ T.heap; rw [e1]; exact hQ
  · show n0 ≤ T.heap.size; rw [e1]; exact z
theorem reti (K : Cx own code mL (some .int) mn n0 Z p l e R s m args below meth c) (S : St n0 p l e R s m args below meth c k n h T) (hk : k ≤ R.cells) (hn : n ≤ R.slots) (hd : Dc code pc .ireturn 1 q) (hQ : Q (some (.int x)) h) : Wp n0 p e R s below Q T (mkF m pc Ls (.int x :: st)) := by
  obtain ⟨hx, hby, -, hret, hlk, -⟩ := K; obtain ⟨locs, S, e1, N, z⟩ := S; obtain ⟨hd, -⟩ := hd
  obtain ⟨fs, hr, hrun, hended, hW, hsame⟩ := S.leave (v := some (.int x)) (fun h => by rw [hret] at h; cases h) hlk
  refine ⟨_, _, retOut S hx hret rfl (Or.inl ⟨rfl, Or.inl rfl, _, rfl⟩) (hb hby hd) hr, hrun, hended, _, _, rfl, ⟨?_, ?_, N⟩, ⟨_, rfl⟩, hW, hsame.mono hk hn⟩
  · show Q _ T.heap; rw [e1]; exact hQ
  · show n0 ≤ T.heap.size; rw [e1]; exact z
theorem retl (K : Cx own code mL (some .long) mn n0 Z p l e R s m args below meth c) (S : St n0 p l e R s m args below meth c k n h T) (hk : k ≤ R.cells) (hn : n ≤ R.slots) (hd : Dc code pc .lreturn 1 q) (hQ : Q (some (.long X)) h) : Wp n0 p e R s below Q T (mkF m pc Ls (.long X :: st)) := by
  obtain ⟨hx, hby, -, hret, hlk, -⟩ := K; obtain ⟨locs, S, e1, N, z⟩ := S; obtain ⟨hd, -⟩ := hd
  obtain ⟨fs, hr, hrun, hended, hW, hsame⟩ := S.leave (v := some (.long X)) (fun h => by rw [hret] at h; cases h) hlk
  refine ⟨_, _, retOut S hx hret rfl (Or.inr (Or.inl ⟨rfl, rfl, _, rfl⟩)) (hb hby hd) hr, hrun, hended, _, _, rfl, ⟨?_, ?_, N⟩, ⟨_, rfl⟩, hW, hsame.mono hk hn⟩
  · show Q _ T.heap; rw [e1]; exact hQ
  · show n0 ≤ T.heap.size; rw [e1]; exact z
theorem reta (K : Cx own code mL (some ty) mn n0 Z p l e R s m args below meth c) (S : St n0 p l e R s m args below meth c k n h T) (hrf : ty.isReference = true) (hnr : narrow ty (.ref a) = .ref a) (hk : k ≤ R.cells) (hn : n ≤ R.slots) (hd : Dc code pc .areturn 1 q) (hQ : Q (some (.ref a)) h) : Wp n0 p e R s below Q T (mkF m pc Ls (.ref a :: st)) := by
  obtain ⟨hx, hby, -, hret, hlk, -⟩ := K; obtain ⟨locs, S, e1, N, z⟩ := S; obtain ⟨hd, -⟩ := hd
  obtain ⟨fs, hr, hrun, hended, hW, hsame⟩ := S.leave (v := some (.ref a)) (fun h => by rw [hret] at h; cases h) hlk
  refine ⟨_, _, retOut S hx hret hnr (Or.inr (Or.inr (Or.inr (Or.inr ⟨rfl, hrf, rfl⟩)))) (hb hby hd) hr, hrun, hended, _, _, rfl, ⟨?_, ?_, N⟩, ⟨_, rfl⟩, hW, hsame.mono hk hn⟩
  · show Q _ T.heap; rw [e1]; exact hQ
  · show n0 ≤ T.heap.size; rw [e1]; exact z
theorem retv (K : Cx own code mL (none) mn n0 Z p l e R s m args below meth c) (S : St n0 p l e R s m args below meth c k n h T) (hk : k ≤ R.cells) (hn : n ≤ R.slots) (hd : Dc code pc .return_ 1 q) (hQ : Q (none) h) : Wp n0 p e R s below Q T (mkF m pc Ls ([])) := by
  obtain ⟨hx, hby, -, hret, hlk, -⟩ := K; obtain ⟨locs, S, e1, N, z⟩ := S; obtain ⟨hd, -⟩ := hd
  obtain ⟨fs, hr, hrun, hended, hW, hsame⟩ := S.leave (v := none) (fun _ => rfl) hlk
  refine ⟨_, _, S.returnOut hx hret (hb hby hd) hr, hrun, hended, _, _, rfl, ⟨?_, ?_, N⟩, ⟨_, rfl⟩, hW, hsame.mono hk hn⟩
  · show Q _ T.heap; rw [e1]; exact hQ
  · show n0 ≤ T.heap.size; rw [e1]; exact z
theorem callS (K : Cx own code mL ret mn n0 Z p l e R s m args below meth c) (S : St n0 p l e R s m args below meth c k n h T) {i mL' W : Nat} {y : MethodName} {bytes : ByteArray} {ret' : Option FieldType} {rm : Room} {as' : Array Value} {Q' : Option Value → Heap → Prop} {argsL : List Value} (M : Met n0 l Z y bytes mL' ret' rm [] as' h Q') (w1 : (Jvm.Cond.methodLink own i y).before a0 Z = true) (w2 : (Jvm.Cond.static y).before a0 Z = true) (w4 : (Jvm.Cond.code y bytes mL' ret').before a0 Z = true) (w5 : (Jvm.Cond.initialized y.cls).before a0 Z = true) (hy : y.cls ≠ "java/lang/invoke/MethodHandle" ∧ y.cls ≠ "java/lang/invoke/VarHandle") (hfr : rm.frames + 1 ≤ R.frames) (hlo : W + (mL' + 11) + rm.locals ≤ R.locals) (hce : k + rm.cells ≤ R.cells) (hsl : n + rm.slots ≤ R.slots) (hsz : Ls.size = mL) (has : (argsL).toArray = as') (hlen : ∀ sig, parseMethodDescriptor y.desc = some sig → argsL.length = sig.parameters.length) (hst : st = argsL.reverse ++ rest) (hW : (rest.map fun v => v.category).sum ≤ W) (hd : Dc code pc (.invokestatic i) 3 q) (g : ∀ T v h', Q' v h' → St n0 p l e R s m args below meth c (k + rm.cells) (n + rm.slots) h' T → Wp n0 p e R s below Q T (mkF m q Ls (v.toList ++ rest))) : Wp n0 p e R s below Q T (mkF m pc Ls st) := by
  obtain ⟨hx, hby, hml, -, -, hown, hZ, hmn⟩ := K; obtain ⟨locs, S, e1, N, z⟩ := S; obtain ⟨hd, rfl⟩ := hd; subst hst has
  obtain ⟨v1, _, ⟨T1, L1, k1, n1⟩, -, S1, ⟨Lc1, hQ1, l1, y1, z1⟩, st1⟩ := Jvm.LawKit.callS S hx (y := y) hown (mvT hZ w1) (mvT hZ w2) (mvT hZ w5) (mvT hZ w4) hy (backOf (W := W) (Q := fun v h L => Q' v h ∧ n0 ≤ h.size ∧ Fr n0 L) M hZ w4 w5 hfr hlo) (g := mkF m pc Ls (argsL.reverse ++ rest)) rfl (by rw [hml]; exact hsz) (argsL := argsL) (rest := rest) hlen rfl (by show 2 * 0 + _ ≤ _; omega) (hb hby hd) (fun _ _ => ⟨rfl, e1, hce, hsl⟩)
  dsimp only [Pt.U, Pt.locs, Pt.cells, Pt.slots] at S1 l1 y1 z1 st1 hQ1
  subst l1 y1 z1
  exact wp_mono st1 (g T1 v1 T1.heap hQ1.1 ⟨_, S1, rfl, Fr.app N hQ1.2.2, hQ1.2.1⟩)
theorem callC (K : Cx own code mL ret mn n0 Z p l e R s m args below meth c) (S : St n0 p l e R s m args below meth c k n h T) {i mL' W : Nat} {y : MethodName} {bytes : ByteArray} {ret' : Option FieldType} {rm : Room} {as' : Array Value} {Q' : Option Value → Heap → Prop} {argsL : List Value} (M : Met n0 l Z y bytes mL' ret' rm [] as' h Q') (hin : y.name = "<init>") (hr0 : ret' = none) (w1 : (Jvm.Cond.methodLink own i y).before a0 Z = true) (w2 : (Jvm.Cond.instanceMethod y).before a0 Z = true) (w4 : (Jvm.Cond.code y bytes mL' ret').before a0 Z = true) (w5 : (Jvm.Cond.initialized y.cls).before a0 Z = true) (hy : y.cls ≠ "java/lang/invoke/MethodHandle" ∧ y.cls ≠ "java/lang/invoke/VarHandle") (hfr : rm.frames + 1 ≤ R.frames) (hlo : W + (mL' + 11) + rm.locals ≤ R.locals) (hce : k + rm.cells ≤ R.cells) (hsl : n + rm.slots ≤ R.slots) (hsz : Ls.size = mL) (has : (.ref a :: argsL).toArray = as') (hlen : ∀ sig, parseMethodDescriptor y.desc = some sig → argsL.length = sig.parameters.length) (hst : st = argsL.reverse ++ .ref a :: rest) (hW : (rest.map fun v => v.category).sum ≤ W) (hd : Dc code pc (.invokespecial i) 3 q) (g : ∀ T v h', Q' v h' → St n0 p l e R s m args below meth c (k + rm.cells) (n + rm.slots) h' T → Wp n0 p e R s below Q T (mkF m q Ls (v.toList ++ rest))) : Wp n0 p e R s below Q T (mkF m pc Ls st) := by
  obtain ⟨hx, hby, hml, -, -, hown, hZ, hmn⟩ := K; obtain ⟨locs, S, e1, N, z⟩ := S; obtain ⟨hd, rfl⟩ := hd; subst hst has
  subst hr0
  obtain ⟨v1, _, ⟨T1, L1, k1, n1⟩, -, S1, ⟨Lc1, hQ1, l1, y1, z1⟩, st1⟩ := S.specialBack hx (y := y) hin hown (mvT hZ w1) (mvT hZ w2) (mvT hZ w4) hy (backOf (W := W) (Q := fun v h L => Q' v h ∧ n0 ≤ h.size ∧ Fr n0 L) M hZ w4 w5 hfr hlo) (g := mkF m pc Ls (argsL.reverse ++ .ref a :: rest)) rfl (by rw [hml]; exact hsz) (Steps.refl _) (a := a) (argsL := argsL) (rest := rest) hlen rfl (by show 2 * 0 + _ ≤ _; omega) (hb hby hd) (fun _ _ => ⟨rfl, e1, hce, hsl⟩)
  dsimp only [Pt.U, Pt.locs, Pt.cells, Pt.slots] at S1 l1 y1 z1 st1 hQ1
  subst l1 y1 z1
  exact wp_mono (fun t hr => st1.trans hr) (g T1 v1 T1.heap hQ1.1 ⟨_, S1, rfl, Fr.app N hQ1.2.2, hQ1.2.1⟩)
theorem callV (K : Cx own code mL ret mn n0 Z p l e R s m args below meth c) (S : St n0 p l e R s m args below meth c k n h T) {i mL' W : Nat} {y : MethodName} {bytes : ByteArray} {ret' : Option FieldType} {rm : Room} {as' : Array Value} {Q' : Option Value → Heap → Prop} {argsL : List Value} (M : Met n0 l Z y bytes mL' ret' rm [] as' h Q') (E : Exa Z h a y.cls) (w1 : (Jvm.Cond.methodLink own i y).before a0 Z = true) (w2 : (Jvm.Cond.declares y).before a0 Z = true) (w3 : (Jvm.Cond.selects y.cls y y).before a0 Z = true) (w6 : (Jvm.Cond.instanceMethod y).before a0 Z = true) (w4 : (Jvm.Cond.code y bytes mL' ret').before a0 Z = true) (w5 : (Jvm.Cond.initialized y.cls).before a0 Z = true) (hy : y.cls ≠ "java/lang/invoke/MethodHandle" ∧ y.cls ≠ "java/lang/invoke/VarHandle") (hfr : rm.frames + 1 ≤ R.frames) (hlo : W + (mL' + 11) + rm.locals ≤ R.locals) (hce : k + rm.cells ≤ R.cells) (hsl : n + rm.slots ≤ R.slots) (hsz : Ls.size = mL) (has : (.ref a :: argsL).toArray = as') (hlen : ∀ sig, parseMethodDescriptor y.desc = some sig → argsL.length = sig.parameters.length) (hst : st = argsL.reverse ++ .ref a :: rest) (hW : (rest.map fun v => v.category).sum ≤ W) (hd : Dc code pc (.invokevirtual i) 3 q) (g : ∀ T v h', Q' v h' → St n0 p l e R s m args below meth c (k + rm.cells) (n + rm.slots) h' T → Wp n0 p e R s below Q T (mkF m q Ls (v.toList ++ rest))) : Wp n0 p e R s below Q T (mkF m pc Ls st) := by
  obtain ⟨hx, hby, hml, -, -, hown, hZ, hmn⟩ := K; obtain ⟨locs, S, e1, N, z⟩ := S; obtain ⟨hd, rfl⟩ := hd; subst hst has
  obtain ⟨cq, kq, qa, qb, qc⟩ := isOf hZ e1 E
  obtain ⟨v1, _, ⟨T1, L1, k1, n1⟩, -, S1, ⟨Lc1, hQ1, l1, y1, z1⟩, st1⟩ := S.virtualBack hx (y := y) (z := y) hown (mvT hZ w1) (mvT hZ w2) (notFace_of_selects (args := #[]) (mvT hZ w3)) (mvT hZ w3) (mvT hZ w6) hy (backOf (W := W) (Q := fun v h L => Q' v h ∧ n0 ≤ h.size ∧ Fr n0 L) M hZ w4 w5 hfr hlo) qa qc (g := mkF m pc Ls (argsL.reverse ++ .ref a :: rest)) rfl (by rw [hml]; exact hsz) (Steps.refl _) (argsL := argsL) (rest := rest) hlen rfl (by show 2 * 0 + _ ≤ _; omega) (hb hby hd) (fun _ _ => ⟨rfl, e1, hce, hsl⟩)
  dsimp only [Pt.U, Pt.locs, Pt.cells, Pt.slots] at S1 l1 y1 z1 st1 hQ1
  subst l1 y1 z1
  exact wp_mono (fun t hr => st1.trans hr) (g T1 v1 T1.heap hQ1.1 ⟨_, S1, rfl, Fr.app N hQ1.2.2, hQ1.2.1⟩)
theorem callP (K : Cx own code mL ret mn n0 Z p l e R s m args below meth c) (S : St n0 p l e R s m args below meth c k n h T) {i mL' W : Nat} {y : MethodName} {bytes : ByteArray} {ret' : Option FieldType} {rm : Room} {as' : Array Value} {Q' : Option Value → Heap → Prop} {argsL : List Value} (M : Met n0 l Z y bytes mL' ret' rm [] as' h Q') (E : Exa Z h a y.cls) {y2 : MethodName} (hy2 : y2.cls = y.cls) (w1 : (Jvm.Cond.methodLink own i y).before a0 Z = true) (w2 : (Jvm.Cond.privateMethod y).before a0 Z = true) (w3 : (Jvm.Cond.selects y.cls y2 y2).before a0 Z = true) (w6 : (Jvm.Cond.instanceMethod y).before a0 Z = true) (w4 : (Jvm.Cond.code y bytes mL' ret').before a0 Z = true) (w5 : (Jvm.Cond.initialized y.cls).before a0 Z = true) (hy : y.cls ≠ "java/lang/invoke/MethodHandle" ∧ y.cls ≠ "java/lang/invoke/VarHandle") (hfr : rm.frames + 1 ≤ R.frames) (hlo : W + (mL' + 11) + rm.locals ≤ R.locals) (hce : k + rm.cells ≤ R.cells) (hsl : n + rm.slots ≤ R.slots) (hsz : Ls.size = mL) (has : (.ref a :: argsL).toArray = as') (hlen : ∀ sig, parseMethodDescriptor y.desc = some sig → argsL.length = sig.parameters.length) (hst : st = argsL.reverse ++ .ref a :: rest) (hW : (rest.map fun v => v.category).sum ≤ W) (hd : Dc code pc (.invokevirtual i) 3 q) (g : ∀ T v h', Q' v h' → St n0 p l e R s m args below meth c (k + rm.cells) (n + rm.slots) h' T → Wp n0 p e R s below Q T (mkF m q Ls (v.toList ++ rest))) : Wp n0 p e R s below Q T (mkF m pc Ls st) := by
  obtain ⟨hx, hby, hml, -, -, hown, hZ, hmn⟩ := K; obtain ⟨locs, S, e1, N, z⟩ := S; obtain ⟨hd, rfl⟩ := hd; subst hst has
  obtain ⟨cq, q1, q2⟩ := E.cell
  have w3' : (Jvm.Cond.selects y.cls y2 y2).before (args := #[]) s = true := mvT hZ w3
  have wp' := Cond.privateMethod_at (mvP hZ w2 (args := #[]))
  have w6' : (Jvm.Cond.instanceMethod y).before args s = true := mvT hZ w6
  obtain ⟨c1, r1, m1, f1, f2, f3, f4, k2, f5, f6⟩ := Cond.selects_spec w3'
  have f7 : s.vm.findClass y.cls = some m1.cls := by rw [← hy2]; exact findClass_of_methodNamed f3
  have hsel : (Jvm.Cond.selects y.cls y y).before args s = true := Stand.selects_self_of_private f7 f5 f6 wp' w6' hy
  obtain ⟨v1, _, ⟨T1, L1, k1, n1⟩, -, S1, ⟨Lc1, hQ1, l1, y1, z1⟩, st1⟩ := S.privateBack hx (y := y) hown (mvT hZ w1) w6' hsel wp' (mvT hZ w4) hy (backOf (W := W) (Q := fun v h L => Q' v h ∧ n0 ≤ h.size ∧ Fr n0 L) M hZ w4 w5 hfr hlo) (g := mkF m pc Ls (argsL.reverse ++ .ref a :: rest)) rfl (by rw [hml]; exact hsz) (Steps.refl _) (a := a) (by rw [e1]; exact q1) q2 (argsL := argsL) (rest := rest) hlen rfl (by show 2 * 0 + _ ≤ _; omega) (hb hby hd) (fun _ _ => ⟨rfl, e1, hce, hsl⟩)
  dsimp only [Pt.U, Pt.locs, Pt.cells, Pt.slots] at S1 l1 y1 z1 st1 hQ1
  subst l1 y1 z1
  exact wp_mono (fun t hr => st1.trans hr) (g T1 v1 T1.heap hQ1.1 ⟨_, S1, rfl, Fr.app N hQ1.2.2, hQ1.2.1⟩)
end Kit
end Jvm.Own
namespace Jvm.Pilot.@@N@@
open Jvm Jvm.ClassFile Sem Op Lib Jvm.Free Jvm.Stand Jvm.LawKit Jvm.RoadKit Bundle Jvm.Pilot.@@N@@.Jvm.D Jvm.Own
theorem hwi {a0 : Array Value} {Z : State} (hw : ∀ d ∈ tables_1, d.before a0 Z = true) (i : Nat) {d : Jvm.Cond} (h : tables_1[i]? = some d) : d.before a0 Z = true := hw _ (List.mem_of_getElem? h)
abbrev LS := List Int32 × List Int32 × Int32 × Int32
def lget (xs : List Int32) (j : Int32) : Int32 := xs.getD j.toNatClampNeg 0
def lset (xs : List Int32) (j x : Int32) : List Int32 := xs.set j.toNatClampNeg x
def linb (xs : List Int32) (j : Int32) : Bool := decide (¬ j < 0) && decide (j.toNatClampNeg < xs.length)
def lnk (S : LS) (f g : Int32) : LS := (if g < 0 then S.1 else lset S.1 g f, if f < 0 then S.2.1 else lset S.2.1 f g, if f < 0 then g else S.2.2.1, if g < 0 then f else S.2.2.2)
def lnkOk (S : LS) (f g : Int32) : Bool := (decide (f < 0) || linb S.2.1 f) && (decide (g < 0) || linb S.1 g)
def lapp (S : LS) (i : Int32) : LS := lnk (lnk S S.2.2.2 i) i (-1)
def lappOk (S : LS) (i : Int32) : Bool := lnkOk S S.2.2.2 i && lnkOk (lnk S S.2.2.2 i) i (-1)
def lunl (S : LS) (i : Int32) : LS := lnk S (lget S.1 i) (lget S.2.1 i)
def lunlOk (S : LS) (i : Int32) : Bool := linb S.1 i && linb S.2.1 i && lnkOk S (lget S.1 i) (lget S.2.1 i)
theorem lnkOk_f {S : LS} {f g : Int32} (h : lnkOk S f g = true) (hf : ¬ f < 0) : linb S.2.1 f = true := by
  simp only [lnkOk, Bool.and_eq_true, Bool.or_eq_true, decide_eq_true_eq] at h; exact h.1.resolve_left hf
theorem lnkOk_g {S : LS} {f g : Int32} (h : lnkOk S f g = true) (hg : ¬ g < 0) : linb S.1 g = true := by
  simp only [lnkOk, Bool.and_eq_true, Bool.or_eq_true, decide_eq_true_eq] at h; exact h.2.resolve_left hg
theorem linb_lt {xs : List Int32} {j : Int32} (h : linb xs j = true) : j.toNatClampNeg < xs.length := by
  simp only [linb, Bool.and_eq_true, decide_eq_true_eq] at h; exact h.2
theorem linb_nn {xs : List Int32} {j : Int32} (h : linb xs j = true) : ¬ j < 0 := by
  simp only [linb, Bool.and_eq_true, decide_eq_true_eq] at h; exact h.1
theorem lappOk_1 {S : LS} {i : Int32} (h : lappOk S i = true) : lnkOk S S.2.2.2 i = true := by simp only [lappOk, Bool.and_eq_true] at h; exact h.1
theorem lappOk_2 {S : LS} {i : Int32} (h : lappOk S i = true) : lnkOk (lnk S S.2.2.2 i) i (-1) = true := by simp only [lappOk, Bool.and_eq_true] at h; exact h.2
theorem lunlOk_1 {S : LS} {i : Int32} (h : lunlOk S i = true) : linb S.1 i = true := by simp only [lunlOk, Bool.and_eq_true] at h; exact h.1.1
theorem lunlOk_2 {S : LS} {i : Int32} (h : lunlOk S i = true) : linb S.2.1 i = true := by simp only [lunlOk, Bool.and_eq_true] at h; exact h.1.2
theorem lunlOk_3 {S : LS} {i : Int32} (h : lunlOk S i = true) : lnkOk S (lget S.1 i) (lget S.2.1 i) = true := by simp only [lunlOk, Bool.and_eq_true] at h; exact h.2
theorem own_fin (n : Nat) (hn : n ≤ 64) (x : Int32) (h0 : 0 ≤ x.toInt) (h1 : x.toInt < n) : ∃ i : Fin n, x = Int32.ofNat i.val ∧ x.toInt = i.val := by
  have h2 : x.toInt.toNat < n := by omega
  refine ⟨⟨x.toInt.toNat, h2⟩, ?_, ?_⟩
  · apply Int32.toInt_inj.mp
    show x.toInt = (Int32.ofNat x.toInt.toNat).toInt
    rw [Int32.toInt_ofNat_of_lt (by omega)]
    omega
  · show x.toInt = ((x.toInt.toNat : Nat) : Int)
    omega
theorem linb_ix {xs : List Int32} {j : Int32} (h : linb xs j = true) : Ix j j.toNatClampNeg := ⟨linb_nn h, rfl⟩
theorem linb_get {xs : List Int32} {j : Int32} (h : linb xs j = true) : (xs.map Value.int)[j.toNatClampNeg]? = some (.int (lget xs j)) := by
  have := linb_lt h
  simp [lget, List.getElem?_map, this]
theorem linb_ml {xs : List Int32} {j : Int32} (h : linb xs j = true) : j.toNatClampNeg < (xs.map Value.int).length := by rw [List.length_map]; exact linb_lt h
theorem lset_map {xs : List Int32} {j x : Int32} : (lset xs j x).map Value.int = (xs.map Value.int).set j.toNatClampNeg (.int x) := by simp [lset, List.map_set]
def LK (Z : State) (h : Heap) (o u w : Addr) (Y : LS) : Prop := Exa Z h o "com/example/ipseity/ipseity/table/Links" ∧ Fld Z h o "com/example/ipseity/ipseity/table/Links" "before" "[I" (.ref u) ∧ Fld Z h o "com/example/ipseity/ipseity/table/Links" "after" "[I" (.ref w) ∧ Fld Z h o "com/example/ipseity/ipseity/table/Links" "head" "I" (.int Y.2.2.1) ∧ Fld Z h o "com/example/ipseity/ipseity/table/Links" "tail" "I" (.int Y.2.2.2) ∧ VA Z h u .int (Y.1.map Value.int) ∧ VA Z h w .int (Y.2.1.map Value.int)
theorem LK.keep {Z : State} {h h' : Heap} {o u w : Addr} {Y : LS} {ws : List Addr} (H : LK Z h o u w Y) (K : Keep h h' ws) (ho : o ∉ ws) (hu : u ∉ ws) (hw : w ∉ ws) : LK Z h' o u w Y :=
  ⟨H.1.keep K, H.2.1.keep K ho, H.2.2.1.keep K ho, H.2.2.2.1.keep K ho, H.2.2.2.2.1.keep K ho, H.2.2.2.2.2.1.keep K hu, H.2.2.2.2.2.2.keep K hw⟩
theorem LK.lts {Z : State} {h : Heap} {o u w : Addr} {Y : LS} (H : LK Z h o u w Y) : o < h.size ∧ u < h.size ∧ w < h.size := ⟨H.1.lt, H.2.2.2.2.2.1.lt, H.2.2.2.2.2.2.lt⟩
def AD (n0 : Nat) (o u w : Addr) : Prop := n0 ≤ o ∧ n0 ≤ u ∧ n0 ≤ w ∧ o ≠ u ∧ o ≠ w ∧ u ≠ w
def T0 : LS := ([0, 0, 0, 0], [0, 0, 0, 0], -1, -1)
theorem d4_0 : Dc prog_18_method_9_code 0 (.iload_n 1) 1 1 := ⟨by decide +kernel, rfl⟩
theorem d4_1 : Bc prog_18_method_9_code 1 (.ifCond .ge 11) (11) 4 12 := ⟨by decide +kernel, rfl, by decide, by decide⟩
theorem d4_4 : Dc prog_18_method_9_code 4 (.aload_n 0) 1 5 := ⟨by decide +kernel, rfl⟩
theorem d4_5 : Dc prog_18_method_9_code 5 (.iload_n 2) 1 6 := ⟨by decide +kernel, rfl⟩
theorem d4_6 : Dc prog_18_method_9_code 6 (.putfield 7) 3 9 := ⟨by decide +kernel, rfl⟩
theorem d4_9 : Bc prog_18_method_9_code 9 (.goto 10) (10) 12 19 := ⟨by decide +kernel, rfl, by decide, by decide⟩
theorem d4_12 : Dc prog_18_method_9_code 12 (.aload_n 0) 1 13 := ⟨by decide +kernel, rfl⟩
theorem d4_13 : Dc prog_18_method_9_code 13 (.getfield 20) 3 16 := ⟨by decide +kernel, rfl⟩
theorem d4_16 : Dc prog_18_method_9_code 16 (.iload_n 1) 1 17 := ⟨by decide +kernel, rfl⟩
theorem d4_17 : Dc prog_18_method_9_code 17 (.iload_n 2) 1 18 := ⟨by decide +kernel, rfl⟩
theorem d4_18 : Dc prog_18_method_9_code 18 (.iastore) 1 19 := ⟨by decide +kernel, rfl⟩
theorem d4_19 : Dc prog_18_method_9_code 19 (.iload_n 2) 1 20 := ⟨by decide +kernel, rfl⟩
theorem d4_20 : Bc prog_18_method_9_code 20 (.ifCond .ge 11) (11) 23 31 := ⟨by decide +kernel, rfl, by decide, by decide⟩
theorem d4_23 : Dc prog_18_method_9_code 23 (.aload_n 0) 1 24 := ⟨by decide +kernel, rfl⟩
theorem d4_24 : Dc prog_18_method_9_code 24 (.iload_n 1) 1 25 := ⟨by decide +kernel, rfl⟩
theorem d4_25 : Dc prog_18_method_9_code 25 (.putfield 13) 3 28 := ⟨by decide +kernel, rfl⟩
theorem d4_28 : Bc prog_18_method_9_code 28 (.goto 10) (10) 31 38 := ⟨by decide +kernel, rfl, by decide, by decide⟩
theorem d4_31 : Dc prog_18_method_9_code 31 (.aload_n 0) 1 32 := ⟨by decide +kernel, rfl⟩
theorem d4_32 : Dc prog_18_method_9_code 32 (.getfield 16) 3 35 := ⟨by decide +kernel, rfl⟩
theorem d4_35 : Dc prog_18_method_9_code 35 (.iload_n 2) 1 36 := ⟨by decide +kernel, rfl⟩
theorem d4_36 : Dc prog_18_method_9_code 36 (.iload_n 1) 1 37 := ⟨by decide +kernel, rfl⟩
theorem d4_37 : Dc prog_18_method_9_code 37 (.iastore) 1 38 := ⟨by decide +kernel, rfl⟩
theorem d4_38 : Dc prog_18_method_9_code 38 (.return_) 1 39 := ⟨by decide +kernel, rfl⟩
theorem ef_link (m : MethodId) (o : Addr) (u : Addr) (w : Addr) (f : Int32) (g : Int32) (Y : LS) : entryFrame m #[.ref o, .int f, .int g] 3 = mkF m 0 #[.val (.ref o), .val (.int f), .val (.int g)] [] := by first | (simp [entryFrame, mkF, argsToLocals, Value.category]; done) | rfl
set_option maxRecDepth 65536 in
set_option maxHeartbeats 40000000 in
theorem m_link (l : Launch) (Z : State) (a0 : Array Value) (hw : ∀ d ∈ tables_1, d.before a0 Z = true) (n0 : Nat) (o : Addr) (u : Addr) (w : Addr) (f : Int32) (g : Int32) (Y : LS) (h : Heap) (hn : n0 ≤ h.size) (D : AD n0 o u w) (H : LK Z h o u w Y) (ok : lnkOk Y f g = true) : Met n0 l Z (⟨"com/example/ipseity/ipseity/table/Links", "link", "(II)V"⟩ : MethodName) prog_18_method_9_code 3 none ({ frames := 0, cells := 0, slots := 0, locals := 0 } : Room) [] #[.ref o, .int f, .int g] h (Ef none (fun h' => LK Z h' o u w (lnk Y f g) ∧ Keep h h' [o, u, w])) := by
  refine enter (plainFor_of_name (by first | (simp [plainName, overriddenIn]; done) | decide +kernel)) (fun m => ef_link m o u w f g Y) hn ?_
  intro p e s m below meth c T K S
  have Kp := Keep.refl h [o, u, w]
  obtain ⟨g_o, g_u, g_w, n_o_u, n_o_w, n_u_w⟩ := D
  obtain ⟨E_o, F_before_o, F_after_o, F_head_o, F_tail_o, A_u, A_w⟩ := H
  refine iload_n K S rfl d4_0 ?_
  refine ific_ge K S d4_1 (fun c1 => ?_) (fun c1 => ?_)
  · refine aload_n K S rfl rfl d4_12 ?_
    refine getf K S (hwi hw 17 rfl) F_after_o d4_13 fun T S => ?_
    refine iload_n K S rfl d4_16 ?_
    refine iload_n K S rfl d4_17 ?_
    refine iastore K S (i := f.toNatClampNeg) A_w ⟨c1, rfl⟩ (linb_ml (lnkOk_f ok c1)) g_w d4_18 fun T h18_1 W B S => ?_
    replace E_o := E_o.wr W
    replace F_before_o := F_before_o.other W (Or.inl (by first | exact n_o_w | exact Ne.symm n_w_o | omega))
    replace F_after_o := F_after_o.other W (Or.inl (by first | exact n_o_w | exact Ne.symm n_w_o | omega))
    replace F_head_o := F_head_o.other W (Or.inl (by first | exact n_o_w | exact Ne.symm n_w_o | omega))
    replace F_tail_o := F_tail_o.other W (Or.inl (by first | exact n_o_w | exact Ne.symm n_w_o | omega))
    replace A_u := A_u.other W (by first | exact n_u_w | exact Ne.symm n_w_u | omega)
    replace Kp := Kp.wr W (Or.inl (by simp))
    clear W
    replace A_w : VA Z h18_1 w .int ((lset Y.2.1 f g).map Value.int) := (by rw [lset_map]; exact B)
    refine iload_n K S rfl d4_19 ?_
    refine ific_ge K S d4_20 (fun c20 => ?_) (fun c20 => ?_)
    · refine aload_n K S rfl rfl d4_31 ?_
      refine getf K S (hwi hw 15 rfl) F_before_o d4_32 fun T S => ?_
      refine iload_n K S rfl d4_35 ?_
      refine iload_n K S rfl d4_36 ?_
      refine iastore K S (i := g.toNatClampNeg) A_u ⟨c20, rfl⟩ (linb_ml (lnkOk_g ok c20)) g_u d4_37 fun T h37_2 W B S => ?_
      replace E_o := E_o.wr W
      replace F_before_o := F_before_o.other W (Or.inl (by first | exact n_o_u | exact Ne.symm n_u_o | omega))
      replace F_after_o := F_after_o.other W (Or.inl (by first | exact n_o_u | exact Ne.symm n_u_o | omega))
      replace F_head_o := F_head_o.other W (Or.inl (by first | exact n_o_u | exact Ne.symm n_u_o | omega))
      replace F_tail_o := F_tail_o.other W (Or.inl (by first | exact n_o_u | exact Ne.symm n_u_o | omega))
      replace A_w := A_w.other W (by first | exact n_w_u | exact Ne.symm n_u_w | omega)
      replace Kp := Kp.wr W (Or.inl (by simp))
      clear W
      replace A_u : VA Z h37_2 u .int ((lset Y.1 g f).map Value.int) := (by rw [lset_map]; exact B)
      refine retv K S (by decide) (by decide) d4_38 ?_
      refine ⟨rfl, ?_, Kp⟩
      simp only [LK, lnk, c1, c20, if_true, if_false]
      exact ⟨E_o, F_before_o, F_after_o, F_head_o, F_tail_o, A_u, A_w⟩
    refine aload_n K S rfl rfl d4_23 ?_
    refine iload_n K S rfl d4_24 ?_
    refine putf K S (hwi hw 12 rfl) F_tail_o E_o (Or.inl (hwi hw 13 rfl)) (hwi hw 2 rfl) (ty := .int) (by decide) rfl rfl g_o d4_25 fun T h25_3 W S => ?_
    replace E_o := E_o.wr W
    replace F_before_o := F_before_o.other W (Or.inr (slot_ne (C := "com/example/ipseity/ipseity/table/Links") (Or.inr (hwi hw 16 rfl)) (Or.inl (hwi hw 13 rfl)) (by decide) (t := .array .int) (t' := .int) (by decide) (by decide)))
    replace F_after_o := F_after_o.other W (Or.inr (slot_ne (C := "com/example/ipseity/ipseity/table/Links") (Or.inr (hwi hw 18 rfl)) (Or.inl (hwi hw 13 rfl)) (by decide) (t := .array .int) (t' := .int) (by decide) (by decide)))
    replace F_head_o := F_head_o.other W (Or.inr (slot_ne (C := "com/example/ipseity/ipseity/table/Links") (Or.inl (hwi hw 11 rfl)) (Or.inl (hwi hw 13 rfl)) (by decide) (t := .int) (t' := .int) (by decide) (by decide)))
    replace F_tail_o := F_tail_o.same W
    replace A_u := A_u.other W (by first | exact n_u_o | exact Ne.symm n_o_u | omega)
    replace A_w := A_w.other W (by first | exact n_w_o | exact Ne.symm n_o_w | omega)
    replace Kp := Kp.wr W (Or.inl (by simp))
    clear W
    refine goto K S d4_28 ?_
    refine retv K S (by decide) (by decide) d4_38 ?_
    refine ⟨rfl, ?_, Kp⟩
    simp only [LK, lnk, c1, c20, if_true, if_false]
    exact ⟨E_o, F_before_o, F_after_o, F_head_o, F_tail_o, A_u, A_w⟩
  refine aload_n K S rfl rfl d4_4 ?_
  refine iload_n K S rfl d4_5 ?_
  refine putf K S (hwi hw 10 rfl) F_head_o E_o (Or.inl (hwi hw 11 rfl)) (hwi hw 2 rfl) (ty := .int) (by decide) rfl rfl g_o d4_6 fun T h6_4 W S => ?_
  replace E_o := E_o.wr W
  replace F_before_o := F_before_o.other W (Or.inr (slot_ne (C := "com/example/ipseity/ipseity/table/Links") (Or.inr (hwi hw 16 rfl)) (Or.inl (hwi hw 11 rfl)) (by decide) (t := .array .int) (t' := .int) (by decide) (by decide)))
  replace F_after_o := F_after_o.other W (Or.inr (slot_ne (C := "com/example/ipseity/ipseity/table/Links") (Or.inr (hwi hw 18 rfl)) (Or.inl (hwi hw 11 rfl)) (by decide) (t := .array .int) (t' := .int) (by decide) (by decide)))
  replace F_head_o := F_head_o.same W
  replace F_tail_o := F_tail_o.other W (Or.inr (slot_ne (C := "com/example/ipseity/ipseity/table/Links") (Or.inl (hwi hw 13 rfl)) (Or.inl (hwi hw 11 rfl)) (by decide) (t := .int) (t' := .int) (by decide) (by decide)))
  replace A_u := A_u.other W (by first | exact n_u_o | exact Ne.symm n_o_u | omega)
  replace A_w := A_w.other W (by first | exact n_w_o | exact Ne.symm n_o_w | omega)
  replace Kp := Kp.wr W (Or.inl (by simp))
  clear W
  refine goto K S d4_9 ?_
  refine iload_n K S rfl d4_19 ?_
  refine ific_ge K S d4_20 (fun c20 => ?_) (fun c20 => ?_)
  · refine aload_n K S rfl rfl d4_31 ?_
    refine getf K S (hwi hw 15 rfl) F_before_o d4_32 fun T S => ?_
    refine iload_n K S rfl d4_35 ?_
    refine iload_n K S rfl d4_36 ?_
    refine iastore K S (i := g.toNatClampNeg) A_u ⟨c20, rfl⟩ (linb_ml (lnkOk_g ok c20)) g_u d4_37 fun T h37_5 W B S => ?_
    replace E_o := E_o.wr W
    replace F_before_o := F_before_o.other W (Or.inl (by first | exact n_o_u | exact Ne.symm n_u_o | omega))
    replace F_after_o := F_after_o.other W (Or.inl (by first | exact n_o_u | exact Ne.symm n_u_o | omega))
    replace F_head_o := F_head_o.other W (Or.inl (by first | exact n_o_u | exact Ne.symm n_u_o | omega))
    replace F_tail_o := F_tail_o.other W (Or.inl (by first | exact n_o_u | exact Ne.symm n_u_o | omega))
    replace A_w := A_w.other W (by first | exact n_w_u | exact Ne.symm n_u_w | omega)
    replace Kp := Kp.wr W (Or.inl (by simp))
    clear W
    replace A_u : VA Z h37_5 u .int ((lset Y.1 g f).map Value.int) := (by rw [lset_map]; exact B)
    refine retv K S (by decide) (by decide) d4_38 ?_
    refine ⟨rfl, ?_, Kp⟩
    simp only [LK, lnk, c1, c20, if_true, if_false]
    exact ⟨E_o, F_before_o, F_after_o, F_head_o, F_tail_o, A_u, A_w⟩
  refine aload_n K S rfl rfl d4_23 ?_
  refine iload_n K S rfl d4_24 ?_
  refine putf K S (hwi hw 12 rfl) F_tail_o E_o (Or.inl (hwi hw 13 rfl)) (hwi hw 2 rfl) (ty := .int) (by decide) rfl rfl g_o d4_25 fun T h25_6 W S => ?_
  replace E_o := E_o.wr W
  replace F_before_o := F_before_o.other W (Or.inr (slot_ne (C := "com/example/ipseity/ipseity/table/Links") (Or.inr (hwi hw 16 rfl)) (Or.inl (hwi hw 13 rfl)) (by decide) (t := .array .int) (t' := .int) (by decide) (by decide)))
  replace F_after_o := F_after_o.other W (Or.inr (slot_ne (C := "com/example/ipseity/ipseity/table/Links") (Or.inr (hwi hw 18 rfl)) (Or.inl (hwi hw 13 rfl)) (by decide) (t := .array .int) (t' := .int) (by decide) (by decide)))
  replace F_head_o := F_head_o.other W (Or.inr (slot_ne (C := "com/example/ipseity/ipseity/table/Links") (Or.inl (hwi hw 11 rfl)) (Or.inl (hwi hw 13 rfl)) (by decide) (t := .int) (t' := .int) (by decide) (by decide)))
  replace F_tail_o := F_tail_o.same W
  replace A_u := A_u.other W (by first | exact n_u_o | exact Ne.symm n_o_u | omega)
  replace A_w := A_w.other W (by first | exact n_w_o | exact Ne.symm n_o_w | omega)
  replace Kp := Kp.wr W (Or.inl (by simp))
  clear W
  refine goto K S d4_28 ?_
  refine retv K S (by decide) (by decide) d4_38 ?_
  refine ⟨rfl, ?_, Kp⟩
  simp only [LK, lnk, c1, c20, if_true, if_false]
  exact ⟨E_o, F_before_o, F_after_o, F_head_o, F_tail_o, A_u, A_w⟩

theorem d3_0 : Dc prog_18_method_6_code 0 (.aload_n 0) 1 1 := ⟨by decide +kernel, rfl⟩
theorem d3_1 : Dc prog_18_method_6_code 1 (.aload_n 0) 1 2 := ⟨by decide +kernel, rfl⟩
theorem d3_2 : Dc prog_18_method_6_code 2 (.getfield 13) 3 5 := ⟨by decide +kernel, rfl⟩
theorem d3_5 : Dc prog_18_method_6_code 5 (.iload_n 1) 1 6 := ⟨by decide +kernel, rfl⟩
theorem d3_6 : Dc prog_18_method_6_code 6 (.invokevirtual 31) 3 9 := ⟨by decide +kernel, rfl⟩
theorem d3_9 : Dc prog_18_method_6_code 9 (.aload_n 0) 1 10 := ⟨by decide +kernel, rfl⟩
theorem d3_10 : Dc prog_18_method_6_code 10 (.iload_n 1) 1 11 := ⟨by decide +kernel, rfl⟩
theorem d3_11 : Dc prog_18_method_6_code 11 (.iconst (-1)) 1 12 := ⟨by decide +kernel, rfl⟩
theorem d3_12 : Dc prog_18_method_6_code 12 (.invokevirtual 31) 3 15 := ⟨by decide +kernel, rfl⟩
theorem d3_15 : Dc prog_18_method_6_code 15 (.return_) 1 16 := ⟨by decide +kernel, rfl⟩
theorem pd_4 : parseMethodDescriptor "(II)V" = some ⟨[.int, .int], none⟩ := by decide +kernel
theorem ef_append (m : MethodId) (o : Addr) (u : Addr) (w : Addr) (i : Int32) (Y : LS) : entryFrame m #[.ref o, .int i] 2 = mkF m 0 #[.val (.ref o), .val (.int i)] [] := by first | (simp [entryFrame, mkF, argsToLocals, Value.category]; done) | rfl
set_option maxRecDepth 65536 in
set_option maxHeartbeats 40000000 in
theorem m_append (l : Launch) (Z : State) (a0 : Array Value) (hw : ∀ d ∈ tables_1, d.before a0 Z = true) (n0 : Nat) (o : Addr) (u : Addr) (w : Addr) (i : Int32) (Y : LS) (h : Heap) (hn : n0 ≤ h.size) (D : AD n0 o u w) (H : LK Z h o u w Y) (ok : lappOk Y i = true) : Met n0 l Z (⟨"com/example/ipseity/ipseity/table/Links", "append", "(I)V"⟩ : MethodName) prog_18_method_6_code 2 none ({ frames := 1, cells := 0, slots := 0, locals := 14 } : Room) [] #[.ref o, .int i] h (Ef none (fun h' => LK Z h' o u w (lapp Y i) ∧ Keep h h' [o, u, w])) := by
  refine enter (plainFor_of_name (by first | (simp [plainName, overriddenIn]; done) | decide +kernel)) (fun m => ef_append m o u w i Y) hn ?_
  intro p e s m below meth c T K S
  have Kp := Keep.refl h [o, u, w]
  have E_o := H.1
  have F_tail_o := H.2.2.2.2.1
  refine aload_n K S rfl rfl d3_0 ?_
  refine aload_n K S rfl rfl d3_1 ?_
  refine getf K S (hwi hw 12 rfl) F_tail_o d3_2 fun T S => ?_
  refine iload_n K S rfl d3_5 ?_
  refine callP K S (W := 0) (m_link l Z a0 hw n0 o u w (Y.2.2.2) i Y h (Sle S) D H (lappOk_1 ok)) E_o (y2 := ⟨"com/example/ipseity/ipseity/table/Links", "append", "(I)V"⟩) rfl (hwi hw 24 rfl) (hwi hw 26 rfl) (hwi hw 22 rfl) (hwi hw 25 rfl) (hwi hw 27 rfl) (hwi hw 3 rfl) (by decide) (by decide) (by decide) (by decide) (by decide) rfl (argsL := [.int (Y.2.2.2), .int i]) rfl (lenOf pd_4 rfl) (rest := []) rfl (Nat.le_of_eq rfl) d3_6 (ef fun T h6_1 hP S => ?_)
  obtain ⟨H, K1⟩ := hP
  replace Kp := Kp.trans K1 (fun x hx => Or.inl hx)
  replace E_o := H.1
  replace F_tail_o := H.2.2.2.2.1
  show Wp n0 p e _ s below _ T (mkF m 9 #[.val (.ref o), .val (.int i)] [])
  refine aload_n K S rfl rfl d3_9 ?_
  refine iload_n K S rfl d3_10 ?_
  refine iconst K S (x := (-1 : Int32)) rfl d3_11 ?_
  refine callP K S (W := 0) (m_link l Z a0 hw n0 o u w i (-1 : Int32) (lnk Y (Y.2.2.2) i) h6_1 (Sle S) D H (lappOk_2 ok)) E_o (y2 := ⟨"com/example/ipseity/ipseity/table/Links", "append", "(I)V"⟩) rfl (hwi hw 24 rfl) (hwi hw 26 rfl) (hwi hw 22 rfl) (hwi hw 25 rfl) (hwi hw 27 rfl) (hwi hw 3 rfl) (by decide) (by decide) (by decide) (by decide) (by decide) rfl (argsL := [.int i, .int (-1 : Int32)]) rfl (lenOf pd_4 rfl) (rest := []) rfl (Nat.le_of_eq rfl) d3_12 (ef fun T h12_2 hP S => ?_)
  obtain ⟨H, K1⟩ := hP
  replace Kp := Kp.trans K1 (fun x hx => Or.inl hx)
  replace E_o := H.1
  replace F_tail_o := H.2.2.2.2.1
  show Wp n0 p e _ s below _ T (mkF m 15 #[.val (.ref o), .val (.int i)] [])
  refine retv K S (by decide) (by decide) d3_15 ?_
  exact ⟨rfl, H, Kp⟩

theorem d7_0 : Dc prog_18_method_7_code 0 (.aload_n 0) 1 1 := ⟨by decide +kernel, rfl⟩
theorem d7_1 : Dc prog_18_method_7_code 1 (.aload_n 0) 1 2 := ⟨by decide +kernel, rfl⟩
theorem d7_2 : Dc prog_18_method_7_code 2 (.getfield 16) 3 5 := ⟨by decide +kernel, rfl⟩
theorem d7_5 : Dc prog_18_method_7_code 5 (.iload_n 1) 1 6 := ⟨by decide +kernel, rfl⟩
theorem d7_6 : Dc prog_18_method_7_code 6 (.iaload) 1 7 := ⟨by decide +kernel, rfl⟩
theorem d7_7 : Dc prog_18_method_7_code 7 (.aload_n 0) 1 8 := ⟨by decide +kernel, rfl⟩
theorem d7_8 : Dc prog_18_method_7_code 8 (.getfield 20) 3 11 := ⟨by decide +kernel, rfl⟩
theorem d7_11 : Dc prog_18_method_7_code 11 (.iload_n 1) 1 12 := ⟨by decide +kernel, rfl⟩
theorem d7_12 : Dc prog_18_method_7_code 12 (.iaload) 1 13 := ⟨by decide +kernel, rfl⟩
theorem d7_13 : Dc prog_18_method_7_code 13 (.invokevirtual 31) 3 16 := ⟨by decide +kernel, rfl⟩
theorem d7_16 : Dc prog_18_method_7_code 16 (.return_) 1 17 := ⟨by decide +kernel, rfl⟩
theorem ef_unlink (m : MethodId) (o : Addr) (u : Addr) (w : Addr) (i : Int32) (Y : LS) : entryFrame m #[.ref o, .int i] 2 = mkF m 0 #[.val (.ref o), .val (.int i)] [] := by first | (simp [entryFrame, mkF, argsToLocals, Value.category]; done) | rfl
set_option maxRecDepth 65536 in
set_option maxHeartbeats 40000000 in
theorem m_unlink (l : Launch) (Z : State) (a0 : Array Value) (hw : ∀ d ∈ tables_1, d.before a0 Z = true) (n0 : Nat) (o : Addr) (u : Addr) (w : Addr) (i : Int32) (Y : LS) (h : Heap) (hn : n0 ≤ h.size) (D : AD n0 o u w) (H : LK Z h o u w Y) (ok : lunlOk Y i = true) : Met n0 l Z (⟨"com/example/ipseity/ipseity/table/Links", "unlink", "(I)V"⟩ : MethodName) prog_18_method_7_code 2 none ({ frames := 1, cells := 0, slots := 0, locals := 14 } : Room) [] #[.ref o, .int i] h (Ef none (fun h' => LK Z h' o u w (lunl Y i) ∧ Keep h h' [o, u, w])) := by
  refine enter (plainFor_of_name (by first | (simp [plainName, overriddenIn]; done) | decide +kernel)) (fun m => ef_unlink m o u w i Y) hn ?_
  intro p e s m below meth c T K S
  have Kp := Keep.refl h [o, u, w]
  have H0 := H
  obtain ⟨E_o, F_before_o, F_after_o, F_head_o, F_tail_o, A_u, A_w⟩ := H0
  refine aload_n K S rfl rfl d7_0 ?_
  refine aload_n K S rfl rfl d7_1 ?_
  refine getf K S (hwi hw 15 rfl) F_before_o d7_2 fun T S => ?_
  refine iload_n K S rfl d7_5 ?_
  refine iaload K S (v := .int (lget Y.1 i)) (i := i.toNatClampNeg) A_u (linb_ix (lunlOk_1 ok)) (linb_get (lunlOk_1 ok)) d7_6 ?_
  refine aload_n K S rfl rfl d7_7 ?_
  refine getf K S (hwi hw 17 rfl) F_after_o d7_8 fun T S => ?_
  refine iload_n K S rfl d7_11 ?_
  refine iaload K S (v := .int (lget Y.2.1 i)) (i := i.toNatClampNeg) A_w (linb_ix (lunlOk_2 ok)) (linb_get (lunlOk_2 ok)) d7_12 ?_
  refine callP K S (W := 0) (m_link l Z a0 hw n0 o u w (lget Y.1 i) (lget Y.2.1 i) Y h (Sle S) D H (lunlOk_3 ok)) E_o (y2 := ⟨"com/example/ipseity/ipseity/table/Links", "append", "(I)V"⟩) rfl (hwi hw 24 rfl) (hwi hw 26 rfl) (hwi hw 22 rfl) (hwi hw 25 rfl) (hwi hw 27 rfl) (hwi hw 3 rfl) (by decide) (by decide) (by decide) (by decide) (by decide) rfl (argsL := [.int (lget Y.1 i), .int (lget Y.2.1 i)]) rfl (lenOf pd_4 rfl) (rest := []) rfl (Nat.le_of_eq rfl) d7_13 (ef fun T h13_1 hP S => ?_)
  obtain ⟨H, K1⟩ := hP
  replace Kp := Kp.trans K1 (fun x hx => Or.inl hx)
  replace E_o := H.1
  replace F_tail_o := H.2.2.2.2.1
  show Wp n0 p e _ s below _ T (mkF m 16 #[.val (.ref o), .val (.int i)] [])
  refine retv K S (by decide) (by decide) d7_16 ?_
  exact ⟨rfl, H, Kp⟩

theorem d5_0 : Dc prog_18_method_4_code 0 (.aload_n 0) 1 1 := ⟨by decide +kernel, rfl⟩
theorem d5_1 : Dc prog_18_method_4_code 1 (.getfield 7) 3 4 := ⟨by decide +kernel, rfl⟩
theorem d5_4 : Dc prog_18_method_4_code 4 (.ireturn) 1 5 := ⟨by decide +kernel, rfl⟩
theorem ef_first (m : MethodId) (o : Addr) (u : Addr) (w : Addr) (Y : LS) : entryFrame m #[.ref o] 1 = mkF m 0 #[.val (.ref o)] [] := by first | (simp [entryFrame, mkF, argsToLocals, Value.category]; done) | rfl
set_option maxRecDepth 65536 in
set_option maxHeartbeats 40000000 in
theorem m_first (l : Launch) (Z : State) (a0 : Array Value) (hw : ∀ d ∈ tables_1, d.before a0 Z = true) (n0 : Nat) (o : Addr) (u : Addr) (w : Addr) (Y : LS) (h : Heap) (hn : n0 ≤ h.size) (H : LK Z h o u w Y) : Met n0 l Z (⟨"com/example/ipseity/ipseity/table/Links", "first", "()I"⟩ : MethodName) prog_18_method_4_code 1 (some .int) ({ frames := 0, cells := 0, slots := 0, locals := 0 } : Room) [] #[.ref o] h (Pu (some (.int Y.2.2.1)) h) := by
  refine enter (plainFor_of_name (by first | (simp [plainName, overriddenIn]; done) | decide +kernel)) (fun m => ef_first m o u w Y) hn ?_
  intro p e s m below meth c T K S
  obtain ⟨E_o, F_before_o, F_after_o, F_head_o, F_tail_o, A_u, A_w⟩ := H
  refine aload_n K S rfl rfl d5_0 ?_
  refine getf K S (hwi hw 10 rfl) F_head_o d5_1 fun T S => ?_
  refine reti K S (by decide) (by decide) d5_4 ?_
  exact ⟨rfl, rfl⟩

theorem d6_0 : Dc prog_18_method_5_code 0 (.aload_n 0) 1 1 := ⟨by decide +kernel, rfl⟩
theorem d6_1 : Dc prog_18_method_5_code 1 (.getfield 20) 3 4 := ⟨by decide +kernel, rfl⟩
theorem d6_4 : Dc prog_18_method_5_code 4 (.iload_n 1) 1 5 := ⟨by decide +kernel, rfl⟩
theorem d6_5 : Dc prog_18_method_5_code 5 (.iaload) 1 6 := ⟨by decide +kernel, rfl⟩
theorem d6_6 : Dc prog_18_method_5_code 6 (.ireturn) 1 7 := ⟨by decide +kernel, rfl⟩
theorem ef_next (m : MethodId) (o : Addr) (u : Addr) (w : Addr) (j : Int32) (Y : LS) : entryFrame m #[.ref o, .int j] 2 = mkF m 0 #[.val (.ref o), .val (.int j)] [] := by first | (simp [entryFrame, mkF, argsToLocals, Value.category]; done) | rfl
set_option maxRecDepth 65536 in
set_option maxHeartbeats 40000000 in
theorem m_next (l : Launch) (Z : State) (a0 : Array Value) (hw : ∀ d ∈ tables_1, d.before a0 Z = true) (n0 : Nat) (o : Addr) (u : Addr) (w : Addr) (j : Int32) (Y : LS) (h : Heap) (hn : n0 ≤ h.size) (H : LK Z h o u w Y) (ok : linb Y.2.1 j = true) : Met n0 l Z (⟨"com/example/ipseity/ipseity/table/Links", "next", "(I)I"⟩ : MethodName) prog_18_method_5_code 2 (some .int) ({ frames := 0, cells := 0, slots := 0, locals := 0 } : Room) [] #[.ref o, .int j] h (Pu (some (.int (lget Y.2.1 j))) h) := by
  refine enter (plainFor_of_name (by first | (simp [plainName, overriddenIn]; done) | decide +kernel)) (fun m => ef_next m o u w j Y) hn ?_
  intro p e s m below meth c T K S
  obtain ⟨E_o, F_before_o, F_after_o, F_head_o, F_tail_o, A_u, A_w⟩ := H
  refine aload_n K S rfl rfl d6_0 ?_
  refine getf K S (hwi hw 17 rfl) F_after_o d6_1 fun T S => ?_
  refine iload_n K S rfl d6_4 ?_
  refine iaload K S (v := .int (lget Y.2.1 j)) (i := j.toNatClampNeg) A_w (linb_ix ok) (linb_get ok) d6_5 ?_
  refine reti K S (by decide) (by decide) d6_6 ?_
  exact ⟨rfl, rfl⟩

theorem d1_0 : Dc prog_18_method_1_code 0 (.aload_n 0) 1 1 := ⟨by decide +kernel, rfl⟩
theorem d1_1 : Dc prog_18_method_1_code 1 (.invokespecial 1) 3 4 := ⟨by decide +kernel, rfl⟩
theorem d1_4 : Dc prog_18_method_1_code 4 (.aload_n 0) 1 5 := ⟨by decide +kernel, rfl⟩
theorem d1_5 : Dc prog_18_method_1_code 5 (.iconst (-1)) 1 6 := ⟨by decide +kernel, rfl⟩
theorem d1_6 : Dc prog_18_method_1_code 6 (.putfield 7) 3 9 := ⟨by decide +kernel, rfl⟩
theorem d1_9 : Dc prog_18_method_1_code 9 (.aload_n 0) 1 10 := ⟨by decide +kernel, rfl⟩
theorem d1_10 : Dc prog_18_method_1_code 10 (.iconst (-1)) 1 11 := ⟨by decide +kernel, rfl⟩
theorem d1_11 : Dc prog_18_method_1_code 11 (.putfield 13) 3 14 := ⟨by decide +kernel, rfl⟩
theorem d1_14 : Dc prog_18_method_1_code 14 (.aload_n 0) 1 15 := ⟨by decide +kernel, rfl⟩
theorem d1_15 : Dc prog_18_method_1_code 15 (.iload_n 1) 1 16 := ⟨by decide +kernel, rfl⟩
theorem d1_16 : Dc prog_18_method_1_code 16 (.newarray .int) 2 18 := ⟨by decide +kernel, rfl⟩
theorem d1_18 : Dc prog_18_method_1_code 18 (.putfield 16) 3 21 := ⟨by decide +kernel, rfl⟩
theorem d1_21 : Dc prog_18_method_1_code 21 (.aload_n 0) 1 22 := ⟨by decide +kernel, rfl⟩
theorem d1_22 : Dc prog_18_method_1_code 22 (.iload_n 1) 1 23 := ⟨by decide +kernel, rfl⟩
theorem d1_23 : Dc prog_18_method_1_code 23 (.newarray .int) 2 25 := ⟨by decide +kernel, rfl⟩
theorem d1_25 : Dc prog_18_method_1_code 25 (.putfield 20) 3 28 := ⟨by decide +kernel, rfl⟩
theorem d1_28 : Dc prog_18_method_1_code 28 (.return_) 1 29 := ⟨by decide +kernel, rfl⟩
theorem ef_init (m : MethodId) (o : Addr) : entryFrame m #[.ref o, .int (4 : Int32)] 2 = mkF m 0 #[.val (.ref o), .val (.int (4 : Int32))] [] := by first | (simp [entryFrame, mkF, argsToLocals, Value.category]; done) | rfl
set_option maxRecDepth 65536 in
set_option maxHeartbeats 40000000 in
theorem m_init (l : Launch) (Z : State) (a0 : Array Value) (hw : ∀ d ∈ tables_1, d.before a0 Z = true) (n0 : Nat) (o : Addr) (h : Heap) (hn : n0 ≤ h.size) (g_o : n0 ≤ o) (E_o : Exa Z h o "com/example/ipseity/ipseity/table/Links") (F_before_o : Fld Z h o "com/example/ipseity/ipseity/table/Links" "before" "[I" (.null)) (F_after_o : Fld Z h o "com/example/ipseity/ipseity/table/Links" "after" "[I" (.null)) (F_head_o : Fld Z h o "com/example/ipseity/ipseity/table/Links" "head" "I" (.int 0)) (F_tail_o : Fld Z h o "com/example/ipseity/ipseity/table/Links" "tail" "I" (.int 0)) : Met n0 l Z (⟨"com/example/ipseity/ipseity/table/Links", "<init>", "(I)V"⟩ : MethodName) prog_18_method_1_code 2 none ({ frames := 1, cells := 2, slots := 8, locals := 12 } : Room) [] #[.ref o, .int (4 : Int32)] h (Ef none (fun h' => ∃ u w, AD n0 o u w ∧ LK Z h' o u w T0 ∧ Keep h h' [o] ∧ h.size ≤ u ∧ h.size ≤ w)) := by
  refine enter (plainFor_of_name (by first | (simp [plainName, overriddenIn]; done) | decide +kernel)) (fun m => ef_init m o) hn ?_
  intro p e s m below meth c T K S
  have Kp := Keep.refl h [o]
  refine aload_n K S rfl rfl d1_0 ?_
  refine inito K S (W := 0) (hwi hw 7 rfl) (hwi hw 8 rfl) (hwi hw 9 rfl) rfl (by decide) (by decide) (by decide) d1_1 fun T S => ?_
  refine aload_n K S rfl rfl d1_4 ?_
  refine iconst K S (x := (-1 : Int32)) rfl d1_5 ?_
  refine putf K S (hwi hw 10 rfl) F_head_o E_o (Or.inl (hwi hw 11 rfl)) (hwi hw 2 rfl) (ty := .int) (by decide) rfl rfl g_o d1_6 fun T h6_1 W S => ?_
  replace E_o := E_o.wr W
  replace F_before_o := F_before_o.other W (Or.inr (slot_ne (C := "com/example/ipseity/ipseity/table/Links") (Or.inr (hwi hw 16 rfl)) (Or.inl (hwi hw 11 rfl)) (by decide) (t := .array .int) (t' := .int) (by decide) (by decide)))
  replace F_after_o := F_after_o.other W (Or.inr (slot_ne (C := "com/example/ipseity/ipseity/table/Links") (Or.inr (hwi hw 18 rfl)) (Or.inl (hwi hw 11 rfl)) (by decide) (t := .array .int) (t' := .int) (by decide) (by decide)))
  replace F_head_o := F_head_o.same W
  replace F_tail_o := F_tail_o.other W (Or.inr (slot_ne (C := "com/example/ipseity/ipseity/table/Links") (Or.inl (hwi hw 13 rfl)) (Or.inl (hwi hw 11 rfl)) (by decide) (t := .int) (t' := .int) (by decide) (by decide)))
  replace Kp := Kp.wr W (Or.inl (by simp))
  clear W
  refine aload_n K S rfl rfl d1_9 ?_
  refine iconst K S (x := (-1 : Int32)) rfl d1_10 ?_
  refine putf K S (hwi hw 12 rfl) F_tail_o E_o (Or.inl (hwi hw 13 rfl)) (hwi hw 2 rfl) (ty := .int) (by decide) rfl rfl g_o d1_11 fun T h11_2 W S => ?_
  replace E_o := E_o.wr W
  replace F_before_o := F_before_o.other W (Or.inr (slot_ne (C := "com/example/ipseity/ipseity/table/Links") (Or.inr (hwi hw 16 rfl)) (Or.inl (hwi hw 13 rfl)) (by decide) (t := .array .int) (t' := .int) (by decide) (by decide)))
  replace F_after_o := F_after_o.other W (Or.inr (slot_ne (C := "com/example/ipseity/ipseity/table/Links") (Or.inr (hwi hw 18 rfl)) (Or.inl (hwi hw 13 rfl)) (by decide) (t := .array .int) (t' := .int) (by decide) (by decide)))
  replace F_head_o := F_head_o.other W (Or.inr (slot_ne (C := "com/example/ipseity/ipseity/table/Links") (Or.inl (hwi hw 11 rfl)) (Or.inl (hwi hw 13 rfl)) (by decide) (t := .int) (t' := .int) (by decide) (by decide)))
  replace F_tail_o := F_tail_o.same W
  replace Kp := Kp.wr W (Or.inl (by simp))
  clear W
  refine aload_n K S rfl rfl d1_14 ?_
  refine iload_n K S rfl d1_15 ?_
  refine newarr K S (cap := 4) (hwi hw 14 rfl) (by decide) (by decide) (by decide) (by decide) (by decide) d1_16 fun T h16_3 u z_u g_u X A_u S => ?_
  have n_o_u : o ≠ u := by rw [z_u]; exact Nat.ne_of_lt E_o.lt
  replace E_o := E_o.ext X
  replace F_before_o := F_before_o.ext X
  replace F_after_o := F_after_o.ext X
  replace F_head_o := F_head_o.ext X
  replace F_tail_o := F_tail_o.ext X
  have y_u : h.size ≤ u := by rw [z_u]; exact Kp.1
  replace Kp := Kp.ext X
  replace A_u : VA Z h16_3 u .int ([.int (0 : Int32), .int (0 : Int32), .int (0 : Int32), .int (0 : Int32)]) := A_u
  clear X
  refine putf K S (hwi hw 15 rfl) F_before_o E_o (Or.inr ⟨(hwi hw 16 rfl), rfl, rfl⟩) (hwi hw 2 rfl) (ty := .array .int) (by decide) rfl rfl g_o d1_18 fun T h18_4 W S => ?_
  replace E_o := E_o.wr W
  replace F_before_o := F_before_o.same W
  replace F_after_o := F_after_o.other W (Or.inr (slot_ne (C := "com/example/ipseity/ipseity/table/Links") (Or.inr (hwi hw 18 rfl)) (Or.inr (hwi hw 16 rfl)) (by decide) (t := .array .int) (t' := .array .int) (by decide) (by decide)))
  replace F_head_o := F_head_o.other W (Or.inr (slot_ne (C := "com/example/ipseity/ipseity/table/Links") (Or.inl (hwi hw 11 rfl)) (Or.inr (hwi hw 16 rfl)) (by decide) (t := .int) (t' := .array .int) (by decide) (by decide)))
  replace F_tail_o := F_tail_o.other W (Or.inr (slot_ne (C := "com/example/ipseity/ipseity/table/Links") (Or.inl (hwi hw 13 rfl)) (Or.inr (hwi hw 16 rfl)) (by decide) (t := .int) (t' := .array .int) (by decide) (by decide)))
  replace A_u := A_u.other W (by first | exact n_u_o | exact Ne.symm n_o_u | omega)
  replace Kp := Kp.wr W (Or.inl (by simp))
  clear W
  refine aload_n K S rfl rfl d1_21 ?_
  refine iload_n K S rfl d1_22 ?_
  refine newarr K S (cap := 4) (hwi hw 14 rfl) (by decide) (by decide) (by decide) (by decide) (by decide) d1_23 fun T h23_5 w z_w g_w X A_w S => ?_
  have n_o_w : o ≠ w := by rw [z_w]; exact Nat.ne_of_lt E_o.lt
  have n_u_w : u ≠ w := by rw [z_w]; exact Nat.ne_of_lt A_u.lt
  replace E_o := E_o.ext X
  replace F_before_o := F_before_o.ext X
  replace F_after_o := F_after_o.ext X
  replace F_head_o := F_head_o.ext X
  replace F_tail_o := F_tail_o.ext X
  replace A_u := A_u.ext X
  have y_w : h.size ≤ w := by rw [z_w]; exact Kp.1
  replace Kp := Kp.ext X
  replace A_w : VA Z h23_5 w .int ([.int (0 : Int32), .int (0 : Int32), .int (0 : Int32), .int (0 : Int32)]) := A_w
  clear X
  refine putf K S (hwi hw 17 rfl) F_after_o E_o (Or.inr ⟨(hwi hw 18 rfl), rfl, rfl⟩) (hwi hw 2 rfl) (ty := .array .int) (by decide) rfl rfl g_o d1_25 fun T h25_6 W S => ?_
  replace E_o := E_o.wr W
  replace F_before_o := F_before_o.other W (Or.inr (slot_ne (C := "com/example/ipseity/ipseity/table/Links") (Or.inr (hwi hw 16 rfl)) (Or.inr (hwi hw 18 rfl)) (by decide) (t := .array .int) (t' := .array .int) (by decide) (by decide)))
  replace F_after_o := F_after_o.same W
  replace F_head_o := F_head_o.other W (Or.inr (slot_ne (C := "com/example/ipseity/ipseity/table/Links") (Or.inl (hwi hw 11 rfl)) (Or.inr (hwi hw 18 rfl)) (by decide) (t := .int) (t' := .array .int) (by decide) (by decide)))
  replace F_tail_o := F_tail_o.other W (Or.inr (slot_ne (C := "com/example/ipseity/ipseity/table/Links") (Or.inl (hwi hw 13 rfl)) (Or.inr (hwi hw 18 rfl)) (by decide) (t := .int) (t' := .array .int) (by decide) (by decide)))
  replace A_u := A_u.other W (by first | exact n_u_o | exact Ne.symm n_o_u | omega)
  replace A_w := A_w.other W (by first | exact n_w_o | exact Ne.symm n_o_w | omega)
  replace Kp := Kp.wr W (Or.inl (by simp))
  clear W
  refine retv K S (by decide) (by decide) d1_28 ?_
  exact ⟨rfl, u, w, ⟨g_o, g_u, g_w, n_o_u, n_o_w, n_u_w⟩, ⟨E_o, F_before_o, F_after_o, F_head_o, F_tail_o, A_u, A_w⟩, Kp, y_u, y_w⟩

theorem own_l3 : ∀ i j k : Fin 4, i ≠ j → i ≠ k → j ≠ k → (lappOk T0 (Int32.ofNat i.val) = true) ∧ (lappOk (lapp T0 (Int32.ofNat i.val)) (Int32.ofNat j.val) = true) ∧ (lappOk (lapp (lapp T0 (Int32.ofNat i.val)) (Int32.ofNat j.val)) (Int32.ofNat k.val) = true) ∧ (lunlOk (lapp (lapp (lapp T0 (Int32.ofNat i.val)) (Int32.ofNat j.val)) (Int32.ofNat k.val)) (Int32.ofNat j.val) = true) ∧ ((lapp T0 (Int32.ofNat i.val)).2.2.1 = (Int32.ofNat i.val)) ∧ ((lapp (lapp T0 (Int32.ofNat i.val)) (Int32.ofNat j.val)).2.2.1 = (Int32.ofNat i.val)) ∧ ((lapp (lapp (lapp T0 (Int32.ofNat i.val)) (Int32.ofNat j.val)) (Int32.ofNat k.val)).2.2.1 = (Int32.ofNat i.val)) ∧ ((lunl (lapp (lapp (lapp T0 (Int32.ofNat i.val)) (Int32.ofNat j.val)) (Int32.ofNat k.val)) (Int32.ofNat j.val)).2.2.1 = (Int32.ofNat i.val)) ∧ (linb (lapp T0 (Int32.ofNat i.val)).2.1 (Int32.ofNat i.val) = true) ∧ (linb (lapp (lapp T0 (Int32.ofNat i.val)) (Int32.ofNat j.val)).2.1 (Int32.ofNat i.val) = true) ∧ (linb (lapp (lapp T0 (Int32.ofNat i.val)) (Int32.ofNat j.val)).2.1 (Int32.ofNat j.val) = true) ∧ (linb (lapp (lapp (lapp T0 (Int32.ofNat i.val)) (Int32.ofNat j.val)) (Int32.ofNat k.val)).2.1 (Int32.ofNat i.val) = true) ∧ (linb (lapp (lapp (lapp T0 (Int32.ofNat i.val)) (Int32.ofNat j.val)) (Int32.ofNat k.val)).2.1 (Int32.ofNat j.val) = true) ∧ (linb (lapp (lapp (lapp T0 (Int32.ofNat i.val)) (Int32.ofNat j.val)) (Int32.ofNat k.val)).2.1 (Int32.ofNat k.val) = true) ∧ (linb (lunl (lapp (lapp (lapp T0 (Int32.ofNat i.val)) (Int32.ofNat j.val)) (Int32.ofNat k.val)) (Int32.ofNat j.val)).2.1 (Int32.ofNat i.val) = true) ∧ (linb (lunl (lapp (lapp (lapp T0 (Int32.ofNat i.val)) (Int32.ofNat j.val)) (Int32.ofNat k.val)) (Int32.ofNat j.val)).2.1 (Int32.ofNat k.val) = true) ∧ (lget (lapp T0 (Int32.ofNat i.val)).2.1 (Int32.ofNat i.val) = (-1 : Int32)) ∧ (lget (lapp (lapp T0 (Int32.ofNat i.val)) (Int32.ofNat j.val)).2.1 (Int32.ofNat i.val) = (Int32.ofNat j.val)) ∧ (lget (lapp (lapp T0 (Int32.ofNat i.val)) (Int32.ofNat j.val)).2.1 (Int32.ofNat j.val) = (-1 : Int32)) ∧ (lget (lapp (lapp (lapp T0 (Int32.ofNat i.val)) (Int32.ofNat j.val)) (Int32.ofNat k.val)).2.1 (Int32.ofNat i.val) = (Int32.ofNat j.val)) ∧ (lget (lapp (lapp (lapp T0 (Int32.ofNat i.val)) (Int32.ofNat j.val)) (Int32.ofNat k.val)).2.1 (Int32.ofNat j.val) = (Int32.ofNat k.val)) ∧ (lget (lapp (lapp (lapp T0 (Int32.ofNat i.val)) (Int32.ofNat j.val)) (Int32.ofNat k.val)).2.1 (Int32.ofNat k.val) = (-1 : Int32)) ∧ (lget (lunl (lapp (lapp (lapp T0 (Int32.ofNat i.val)) (Int32.ofNat j.val)) (Int32.ofNat k.val)) (Int32.ofNat j.val)).2.1 (Int32.ofNat i.val) = (Int32.ofNat k.val)) ∧ (lget (lunl (lapp (lapp (lapp T0 (Int32.ofNat i.val)) (Int32.ofNat j.val)) (Int32.ofNat k.val)) (Int32.ofNat j.val)).2.1 (Int32.ofNat k.val) = (-1 : Int32)) := by decide +kernel
theorem d0_0 : Dc code 0 (.iload_n 0) 1 1 := ⟨at_0, rfl⟩
theorem d0_1 : Dc code 1 (.iconst 3) 1 2 := ⟨at_1, rfl⟩
theorem d0_2 : Dc code 2 (.iand) 1 3 := ⟨at_2, rfl⟩
theorem d0_3 : Dc code 3 (.istore 4) 2 5 := ⟨at_3, rfl⟩
theorem d0_5 : Dc code 5 (.iload 4) 2 7 := ⟨at_5, rfl⟩
theorem d0_7 : Dc code 7 (.iconst 1) 1 8 := ⟨at_7, rfl⟩
theorem d0_8 : Dc code 8 (.iadd) 1 9 := ⟨at_8, rfl⟩
theorem d0_9 : Dc code 9 (.iload_n 1) 1 10 := ⟨at_9, rfl⟩
theorem d0_10 : Dc code 10 (.ldc 7) 2 12 := ⟨at_10, rfl⟩
theorem d0_12 : Dc code 12 (.iand) 1 13 := ⟨at_12, rfl⟩
theorem d0_13 : Dc code 13 (.iconst 3) 1 14 := ⟨at_13, rfl⟩
theorem d0_14 : Dc code 14 (.irem) 1 15 := ⟨at_14, rfl⟩
theorem d0_15 : Dc code 15 (.iadd) 1 16 := ⟨at_15, rfl⟩
theorem d0_16 : Dc code 16 (.iconst 3) 1 17 := ⟨at_16, rfl⟩
theorem d0_17 : Dc code 17 (.iand) 1 18 := ⟨at_17, rfl⟩
theorem d0_18 : Dc code 18 (.istore 5) 2 20 := ⟨at_18, rfl⟩
theorem d0_20 : Dc code 20 (.iload 5) 2 22 := ⟨at_20, rfl⟩
theorem d0_22 : Dc code 22 (.iconst 1) 1 23 := ⟨at_22, rfl⟩
theorem d0_23 : Dc code 23 (.iadd) 1 24 := ⟨at_23, rfl⟩
theorem d0_24 : Dc code 24 (.iload_n 2) 1 25 := ⟨at_24, rfl⟩
theorem d0_25 : Dc code 25 (.iconst 1) 1 26 := ⟨at_25, rfl⟩
theorem d0_26 : Dc code 26 (.iand) 1 27 := ⟨at_26, rfl⟩
theorem d0_27 : Dc code 27 (.iadd) 1 28 := ⟨at_27, rfl⟩
theorem d0_28 : Dc code 28 (.iconst 3) 1 29 := ⟨at_28, rfl⟩
theorem d0_29 : Dc code 29 (.iand) 1 30 := ⟨at_29, rfl⟩
theorem d0_30 : Dc code 30 (.istore 6) 2 32 := ⟨at_30, rfl⟩
theorem d0_32 : Dc code 32 (.iload 6) 2 34 := ⟨at_32, rfl⟩
theorem d0_34 : Dc code 34 (.iload 4) 2 36 := ⟨at_34, rfl⟩
theorem d0_36 : Bc code 36 (.if_icmp .ne 11) (11) 39 47 := ⟨at_36, rfl, by decide, by decide⟩
theorem d0_39 : Dc code 39 (.iload 6) 2 41 := ⟨at_39, rfl⟩
theorem d0_41 : Dc code 41 (.iconst 1) 1 42 := ⟨at_41, rfl⟩
theorem d0_42 : Dc code 42 (.iadd) 1 43 := ⟨at_42, rfl⟩
theorem d0_43 : Dc code 43 (.iconst 3) 1 44 := ⟨at_43, rfl⟩
theorem d0_44 : Dc code 44 (.iand) 1 45 := ⟨at_44, rfl⟩
theorem d0_45 : Dc code 45 (.istore 6) 2 47 := ⟨at_45, rfl⟩
theorem d0_47 : Dc code 47 (.iload_n 3) 1 48 := ⟨at_47, rfl⟩
theorem d0_48 : Dc code 48 (.iconst 3) 1 49 := ⟨at_48, rfl⟩
theorem d0_49 : Dc code 49 (.iand) 1 50 := ⟨at_49, rfl⟩
theorem d0_50 : Dc code 50 (.istore 7) 2 52 := ⟨at_50, rfl⟩
theorem d0_52 : Dc code 52 (.iload_n 3) 1 53 := ⟨at_52, rfl⟩
theorem d0_53 : Dc code 53 (.iconst 2) 1 54 := ⟨at_53, rfl⟩
theorem d0_54 : Dc code 54 (.ishr) 1 55 := ⟨at_54, rfl⟩
theorem d0_55 : Dc code 55 (.iconst 1) 1 56 := ⟨at_55, rfl⟩
theorem d0_56 : Dc code 56 (.iand) 1 57 := ⟨at_56, rfl⟩
theorem d0_57 : Bc code 57 (.ifCond .eq 13) (13) 60 70 := ⟨at_57, rfl, by decide, by decide⟩
theorem d0_60 : Dc code 60 (.iload 7) 2 62 := ⟨at_60, rfl⟩
theorem d0_62 : Dc code 62 (.iconst 3) 1 63 := ⟨at_62, rfl⟩
theorem d0_63 : Bc code 63 (.if_icmp .ne 7) (7) 66 70 := ⟨at_63, rfl, by decide, by decide⟩
theorem d0_66 : Dc code 66 (.iconst 1) 1 67 := ⟨at_66, rfl⟩
theorem d0_67 : Bc code 67 (.goto 4) (4) 70 71 := ⟨at_67, rfl, by decide, by decide⟩
theorem d0_70 : Dc code 70 (.iconst 0) 1 71 := ⟨at_70, rfl⟩
theorem d0_71 : Dc code 71 (.istore 8) 2 73 := ⟨at_71, rfl⟩
theorem d0_73 : Dc code 73 (.new 8) 3 76 := ⟨at_73, rfl⟩
theorem d0_76 : Dc code 76 (.dup) 1 77 := ⟨at_76, rfl⟩
theorem d0_77 : Dc code 77 (.iconst 4) 1 78 := ⟨at_77, rfl⟩
theorem d0_78 : Dc code 78 (.invokespecial 10) 3 81 := ⟨at_78, rfl⟩
theorem d0_81 : Dc code 81 (.astore 9) 2 83 := ⟨at_81, rfl⟩
theorem d0_83 : Dc code 83 (.iload 7) 2 85 := ⟨at_83, rfl⟩
theorem d0_85 : Dc code 85 (.iconst 1) 1 86 := ⟨at_85, rfl⟩
theorem d0_86 : Bc code 86 (.if_icmp .lt 10) (10) 89 96 := ⟨at_86, rfl, by decide, by decide⟩
theorem d0_89 : Dc code 89 (.aload 9) 2 91 := ⟨at_89, rfl⟩
theorem d0_91 : Dc code 91 (.iload 4) 2 93 := ⟨at_91, rfl⟩
theorem d0_93 : Dc code 93 (.invokevirtual 13) 3 96 := ⟨at_93, rfl⟩
theorem d0_96 : Dc code 96 (.iload 7) 2 98 := ⟨at_96, rfl⟩
theorem d0_98 : Dc code 98 (.iconst 2) 1 99 := ⟨at_98, rfl⟩
theorem d0_99 : Bc code 99 (.if_icmp .lt 10) (10) 102 109 := ⟨at_99, rfl, by decide, by decide⟩
theorem d0_102 : Dc code 102 (.aload 9) 2 104 := ⟨at_102, rfl⟩
theorem d0_104 : Dc code 104 (.iload 5) 2 106 := ⟨at_104, rfl⟩
theorem d0_106 : Dc code 106 (.invokevirtual 13) 3 109 := ⟨at_106, rfl⟩
theorem d0_109 : Dc code 109 (.iload 7) 2 111 := ⟨at_109, rfl⟩
theorem d0_111 : Dc code 111 (.iconst 3) 1 112 := ⟨at_111, rfl⟩
theorem d0_112 : Bc code 112 (.if_icmp .lt 10) (10) 115 122 := ⟨at_112, rfl, by decide, by decide⟩
theorem d0_115 : Dc code 115 (.aload 9) 2 117 := ⟨at_115, rfl⟩
theorem d0_117 : Dc code 117 (.iload 6) 2 119 := ⟨at_117, rfl⟩
theorem d0_119 : Dc code 119 (.invokevirtual 13) 3 122 := ⟨at_119, rfl⟩
theorem d0_122 : Dc code 122 (.iload 8) 2 124 := ⟨at_122, rfl⟩
theorem d0_124 : Bc code 124 (.ifCond .eq 10) (10) 127 134 := ⟨at_124, rfl, by decide, by decide⟩
theorem d0_127 : Dc code 127 (.aload 9) 2 129 := ⟨at_127, rfl⟩
theorem d0_129 : Dc code 129 (.iload 5) 2 131 := ⟨at_129, rfl⟩
theorem d0_131 : Dc code 131 (.invokevirtual 16) 3 134 := ⟨at_131, rfl⟩
theorem d0_134 : Dc code 134 (.iload 7) 2 136 := ⟨at_134, rfl⟩
theorem d0_136 : Bc code 136 (.ifCond .ne 18) (18) 139 154 := ⟨at_136, rfl, by decide, by decide⟩
theorem d0_139 : Dc code 139 (.aload 9) 2 141 := ⟨at_139, rfl⟩
theorem d0_141 : Dc code 141 (.invokevirtual 19) 3 144 := ⟨at_141, rfl⟩
theorem d0_144 : Dc code 144 (.iconst (-1)) 1 145 := ⟨at_144, rfl⟩
theorem d0_145 : Bc code 145 (.if_icmp .ne 7) (7) 148 152 := ⟨at_145, rfl, by decide, by decide⟩
theorem d0_148 : Dc code 148 (.iconst 1) 1 149 := ⟨at_148, rfl⟩
theorem d0_149 : Bc code 149 (.goto 4) (4) 152 153 := ⟨at_149, rfl, by decide, by decide⟩
theorem d0_152 : Dc code 152 (.iconst 0) 1 153 := ⟨at_152, rfl⟩
theorem d0_153 : Dc code 153 (.ireturn) 1 154 := ⟨at_153, rfl⟩
theorem d0_154 : Dc code 154 (.aload 9) 2 156 := ⟨at_154, rfl⟩
theorem d0_156 : Dc code 156 (.invokevirtual 19) 3 159 := ⟨at_156, rfl⟩
theorem d0_159 : Dc code 159 (.iload 4) 2 161 := ⟨at_159, rfl⟩
theorem d0_161 : Bc code 161 (.if_icmp .ne 7) (7) 164 168 := ⟨at_161, rfl, by decide, by decide⟩
theorem d0_164 : Dc code 164 (.iconst 1) 1 165 := ⟨at_164, rfl⟩
theorem d0_165 : Bc code 165 (.goto 4) (4) 168 169 := ⟨at_165, rfl, by decide, by decide⟩
theorem d0_168 : Dc code 168 (.iconst 0) 1 169 := ⟨at_168, rfl⟩
theorem d0_169 : Dc code 169 (.istore 10) 2 171 := ⟨at_169, rfl⟩
theorem d0_171 : Dc code 171 (.iload 7) 2 173 := ⟨at_171, rfl⟩
theorem d0_173 : Dc code 173 (.iconst 1) 1 174 := ⟨at_173, rfl⟩
theorem d0_174 : Bc code 174 (.if_icmp .ne 25) (25) 177 199 := ⟨at_174, rfl, by decide, by decide⟩
theorem d0_177 : Dc code 177 (.iload 10) 2 179 := ⟨at_177, rfl⟩
theorem d0_179 : Bc code 179 (.ifCond .eq 18) (18) 182 197 := ⟨at_179, rfl, by decide, by decide⟩
theorem d0_182 : Dc code 182 (.aload 9) 2 184 := ⟨at_182, rfl⟩
theorem d0_184 : Dc code 184 (.iload 4) 2 186 := ⟨at_184, rfl⟩
theorem d0_186 : Dc code 186 (.invokevirtual 23) 3 189 := ⟨at_186, rfl⟩
theorem d0_189 : Dc code 189 (.iconst (-1)) 1 190 := ⟨at_189, rfl⟩
theorem d0_190 : Bc code 190 (.if_icmp .ne 7) (7) 193 197 := ⟨at_190, rfl, by decide, by decide⟩
theorem d0_193 : Dc code 193 (.iconst 1) 1 194 := ⟨at_193, rfl⟩
theorem d0_194 : Bc code 194 (.goto 4) (4) 197 198 := ⟨at_194, rfl, by decide, by decide⟩
theorem d0_197 : Dc code 197 (.iconst 0) 1 198 := ⟨at_197, rfl⟩
theorem d0_198 : Dc code 198 (.ireturn) 1 199 := ⟨at_198, rfl⟩
theorem d0_199 : Dc code 199 (.iload 7) 2 201 := ⟨at_199, rfl⟩
theorem d0_201 : Dc code 201 (.iconst 2) 1 202 := ⟨at_201, rfl⟩
theorem d0_202 : Bc code 202 (.if_icmp .ne 37) (37) 205 239 := ⟨at_202, rfl, by decide, by decide⟩
theorem d0_205 : Dc code 205 (.iload 10) 2 207 := ⟨at_205, rfl⟩
theorem d0_207 : Bc code 207 (.ifCond .eq 30) (30) 210 237 := ⟨at_207, rfl, by decide, by decide⟩
theorem d0_210 : Dc code 210 (.aload 9) 2 212 := ⟨at_210, rfl⟩
theorem d0_212 : Dc code 212 (.iload 4) 2 214 := ⟨at_212, rfl⟩
theorem d0_214 : Dc code 214 (.invokevirtual 23) 3 217 := ⟨at_214, rfl⟩
theorem d0_217 : Dc code 217 (.iload 5) 2 219 := ⟨at_217, rfl⟩
theorem d0_219 : Bc code 219 (.if_icmp .ne 18) (18) 222 237 := ⟨at_219, rfl, by decide, by decide⟩
theorem d0_222 : Dc code 222 (.aload 9) 2 224 := ⟨at_222, rfl⟩
theorem d0_224 : Dc code 224 (.iload 5) 2 226 := ⟨at_224, rfl⟩
theorem d0_226 : Dc code 226 (.invokevirtual 23) 3 229 := ⟨at_226, rfl⟩
theorem d0_229 : Dc code 229 (.iconst (-1)) 1 230 := ⟨at_229, rfl⟩
theorem d0_230 : Bc code 230 (.if_icmp .ne 7) (7) 233 237 := ⟨at_230, rfl, by decide, by decide⟩
theorem d0_233 : Dc code 233 (.iconst 1) 1 234 := ⟨at_233, rfl⟩
theorem d0_234 : Bc code 234 (.goto 4) (4) 237 238 := ⟨at_234, rfl, by decide, by decide⟩
theorem d0_237 : Dc code 237 (.iconst 0) 1 238 := ⟨at_237, rfl⟩
theorem d0_238 : Dc code 238 (.ireturn) 1 239 := ⟨at_238, rfl⟩
theorem d0_239 : Dc code 239 (.iload 8) 2 241 := ⟨at_239, rfl⟩
theorem d0_241 : Bc code 241 (.ifCond .eq 37) (37) 244 278 := ⟨at_241, rfl, by decide, by decide⟩
theorem d0_244 : Dc code 244 (.iload 10) 2 246 := ⟨at_244, rfl⟩
theorem d0_246 : Bc code 246 (.ifCond .eq 30) (30) 249 276 := ⟨at_246, rfl, by decide, by decide⟩
theorem d0_249 : Dc code 249 (.aload 9) 2 251 := ⟨at_249, rfl⟩
theorem d0_251 : Dc code 251 (.iload 4) 2 253 := ⟨at_251, rfl⟩
theorem d0_253 : Dc code 253 (.invokevirtual 23) 3 256 := ⟨at_253, rfl⟩
theorem d0_256 : Dc code 256 (.iload 6) 2 258 := ⟨at_256, rfl⟩
theorem d0_258 : Bc code 258 (.if_icmp .ne 18) (18) 261 276 := ⟨at_258, rfl, by decide, by decide⟩
theorem d0_261 : Dc code 261 (.aload 9) 2 263 := ⟨at_261, rfl⟩
theorem d0_263 : Dc code 263 (.iload 6) 2 265 := ⟨at_263, rfl⟩
theorem d0_265 : Dc code 265 (.invokevirtual 23) 3 268 := ⟨at_265, rfl⟩
theorem d0_268 : Dc code 268 (.iconst (-1)) 1 269 := ⟨at_268, rfl⟩
theorem d0_269 : Bc code 269 (.if_icmp .ne 7) (7) 272 276 := ⟨at_269, rfl, by decide, by decide⟩
theorem d0_272 : Dc code 272 (.iconst 1) 1 273 := ⟨at_272, rfl⟩
theorem d0_273 : Bc code 273 (.goto 4) (4) 276 277 := ⟨at_273, rfl, by decide, by decide⟩
theorem d0_276 : Dc code 276 (.iconst 0) 1 277 := ⟨at_276, rfl⟩
theorem d0_277 : Dc code 277 (.ireturn) 1 278 := ⟨at_277, rfl⟩
theorem d0_278 : Dc code 278 (.iload 10) 2 280 := ⟨at_278, rfl⟩
theorem d0_280 : Bc code 280 (.ifCond .eq 42) (42) 283 322 := ⟨at_280, rfl, by decide, by decide⟩
theorem d0_283 : Dc code 283 (.aload 9) 2 285 := ⟨at_283, rfl⟩
theorem d0_285 : Dc code 285 (.iload 4) 2 287 := ⟨at_285, rfl⟩
theorem d0_287 : Dc code 287 (.invokevirtual 23) 3 290 := ⟨at_287, rfl⟩
theorem d0_290 : Dc code 290 (.iload 5) 2 292 := ⟨at_290, rfl⟩
theorem d0_292 : Bc code 292 (.if_icmp .ne 30) (30) 295 322 := ⟨at_292, rfl, by decide, by decide⟩
theorem d0_295 : Dc code 295 (.aload 9) 2 297 := ⟨at_295, rfl⟩
theorem d0_297 : Dc code 297 (.iload 5) 2 299 := ⟨at_297, rfl⟩
theorem d0_299 : Dc code 299 (.invokevirtual 23) 3 302 := ⟨at_299, rfl⟩
theorem d0_302 : Dc code 302 (.iload 6) 2 304 := ⟨at_302, rfl⟩
theorem d0_304 : Bc code 304 (.if_icmp .ne 18) (18) 307 322 := ⟨at_304, rfl, by decide, by decide⟩
theorem d0_307 : Dc code 307 (.aload 9) 2 309 := ⟨at_307, rfl⟩
theorem d0_309 : Dc code 309 (.iload 6) 2 311 := ⟨at_309, rfl⟩
theorem d0_311 : Dc code 311 (.invokevirtual 23) 3 314 := ⟨at_311, rfl⟩
theorem d0_314 : Dc code 314 (.iconst (-1)) 1 315 := ⟨at_314, rfl⟩
theorem d0_315 : Bc code 315 (.if_icmp .ne 7) (7) 318 322 := ⟨at_315, rfl, by decide, by decide⟩
theorem d0_318 : Dc code 318 (.iconst 1) 1 319 := ⟨at_318, rfl⟩
theorem d0_319 : Bc code 319 (.goto 4) (4) 322 323 := ⟨at_319, rfl, by decide, by decide⟩
theorem d0_322 : Dc code 322 (.iconst 0) 1 323 := ⟨at_322, rfl⟩
theorem d0_323 : Dc code 323 (.ireturn) 1 324 := ⟨at_323, rfl⟩
theorem pd_1 : parseMethodDescriptor "(I)V" = some ⟨[.int], none⟩ := by decide +kernel
theorem pd_5 : parseMethodDescriptor "()I" = some ⟨[], (some .int)⟩ := by decide +kernel
theorem pd_3 : parseMethodDescriptor "(I)V" = some ⟨[.int], none⟩ := by decide +kernel
theorem pd_6 : parseMethodDescriptor "(I)I" = some ⟨[.int], (some .int)⟩ := by decide +kernel
theorem pd_7 : parseMethodDescriptor "(I)V" = some ⟨[.int], none⟩ := by decide +kernel
theorem ef_law (m : MethodId) (x0 : Int32) (x1 : Int32) (x2 : Int32) (x3 : Int32) : entryFrame m #[.int x0, .int x1, .int x2, .int x3] maxLocals = mkF m 0 #[.val (.int x0), .val (.int x1), .val (.int x2), .val (.int x3), .unset, .unset, .unset, .unset, .unset, .unset, .unset] [] := by first | (simp [entryFrame, mkF, argsToLocals, Value.category, maxLocals]; done) | rfl
set_option maxRecDepth 65536 in
set_option maxHeartbeats 40000000 in
theorem m_law (l : Launch) (Z : State) (a0 : Array Value) (hw : ∀ d ∈ tables_1, d.before a0 Z = true) (n0 : Nat) (x0 : Int32) (x1 : Int32) (x2 : Int32) (x3 : Int32) (h : Heap) (hn : n0 ≤ h.size) : Met n0 l Z x code maxLocals ret room_1 tables_1 #[.int x0, .int x1, .int x2, .int x3] h (fun v _ => v = some (.int 1)) := by
  refine enter (plainFor_of_name (by first | (simp [plainName, overriddenIn, x]; done) | decide +kernel)) (fun m => ef_law m x0 x1 x2 x3) hn ?_
  intro p e s m below meth c T K S
  refine iload_n K S rfl d0_0 ?_
  refine iconst K S (x := (3 : Int32)) rfl d0_1 ?_
  refine iand K S d0_2 ?_
  refine nmI fun t2 ht2 => ?_
  have ft2 : t2.toInt = x0.toInt % 4 := by rw [ht2]; exact c_mask x0 (3 : Int32) 2 (by decide) (by decide)
  have rt2 := rng32 t2
  refine istore K S (l' := #[.val (.int x0), .val (.int x1), .val (.int x2), .val (.int x3), .val (.int t2), .unset, .unset, .unset, .unset, .unset, .unset]) rfl d0_3 ?_
  refine iload K S rfl d0_5 ?_
  refine iconst K S (x := (1 : Int32)) rfl d0_7 ?_
  refine iadd K S d0_8 ?_
  refine nmI fun t8 ht8 => ?_
  have ft8 : (t8.toInt - (t2.toInt + 1)) % 4294967296 = 0 := by rw [ht8]; exact c_iadd t2 (1 : Int32)
  have rt8 := rng32 t8
  refine iload_n K S rfl d0_9 ?_
  refine ldc K S (x := (2147483647 : Int32)) (hwi hw 0 rfl) d0_10 ?_
  refine iand K S d0_12 ?_
  refine nmI fun t12 ht12 => ?_
  have ft12 : t12.toInt = x1.toInt % 2147483648 := by rw [ht12]; exact c_mask x1 (2147483647 : Int32) 31 (by decide) (by decide)
  have rt12 := rng32 t12
  refine iconst K S (x := (3 : Int32)) rfl d0_13 ?_
  refine irem K S (by decide) d0_14 ?_
  refine nmI fun t14 ht14 => ?_
  have ft14 : t14.toInt = t12.toInt % 3 := by rw [ht14]; exact (c_irem t12 (3 : Int32) 3 rfl).1 (by omega)
  have rt14 := rng32 t14
  refine iadd K S d0_15 ?_
  refine nmI fun t15 ht15 => ?_
  have ft15 : (t15.toInt - (t8.toInt + t14.toInt)) % 4294967296 = 0 := by rw [ht15]; exact c_iadd t8 t14
  have rt15 := rng32 t15
  refine iconst K S (x := (3 : Int32)) rfl d0_16 ?_
  refine iand K S d0_17 ?_
  refine nmI fun t17 ht17 => ?_
  have ft17 : t17.toInt = t15.toInt % 4 := by rw [ht17]; exact c_mask t15 (3 : Int32) 2 (by decide) (by decide)
  have rt17 := rng32 t17
  refine istore K S (l' := #[.val (.int x0), .val (.int x1), .val (.int x2), .val (.int x3), .val (.int t2), .val (.int t17), .unset, .unset, .unset, .unset, .unset]) rfl d0_18 ?_
  refine iload K S rfl d0_20 ?_
  refine iconst K S (x := (1 : Int32)) rfl d0_22 ?_
  refine iadd K S d0_23 ?_
  refine nmI fun t23 ht23 => ?_
  have ft23 : (t23.toInt - (t17.toInt + 1)) % 4294967296 = 0 := by rw [ht23]; exact c_iadd t17 (1 : Int32)
  have rt23 := rng32 t23
  refine iload_n K S rfl d0_24 ?_
  refine iconst K S (x := (1 : Int32)) rfl d0_25 ?_
  refine iand K S d0_26 ?_
  refine nmI fun t26 ht26 => ?_
  have ft26 : t26.toInt = x2.toInt % 2 := by rw [ht26]; exact c_mask x2 (1 : Int32) 1 (by decide) (by decide)
  have rt26 := rng32 t26
  refine iadd K S d0_27 ?_
  refine nmI fun t27 ht27 => ?_
  have ft27 : (t27.toInt - (t23.toInt + t26.toInt)) % 4294967296 = 0 := by rw [ht27]; exact c_iadd t23 t26
  have rt27 := rng32 t27
  refine iconst K S (x := (3 : Int32)) rfl d0_28 ?_
  refine iand K S d0_29 ?_
  refine nmI fun t29 ht29 => ?_
  have ft29 : t29.toInt = t27.toInt % 4 := by rw [ht29]; exact c_mask t27 (3 : Int32) 2 (by decide) (by decide)
  have rt29 := rng32 t29
  refine istore K S (l' := #[.val (.int x0), .val (.int x1), .val (.int x2), .val (.int x3), .val (.int t2), .val (.int t17), .val (.int t29), .unset, .unset, .unset, .unset]) rfl d0_30 ?_
  refine iload K S rfl d0_32 ?_
  refine iload K S rfl d0_34 ?_
  refine icmpz_ne K S d0_36 (fun (c36 : ¬ t29.toInt = t2.toInt) => ?_) (fun (c36 : t29.toInt = t2.toInt) => ?_)
  · obtain ⟨i, hi, vi⟩ := own_fin 4 (by decide) t2 (by omega) (by omega)
    obtain ⟨j, hj, vj⟩ := own_fin 4 (by decide) t17 (by omega) (by omega)
    obtain ⟨k, hk, vk⟩ := own_fin 4 (by decide) t29 (by omega) (by omega)
    have nij : i ≠ j := fun q => by rw [q] at vi; omega
    have nik : i ≠ k := fun q => by rw [q] at vi; omega
    have njk : j ≠ k := fun q => by rw [q] at vj; omega
    refine iload_n K S rfl d0_47 ?_
    refine iconst K S (x := (3 : Int32)) rfl d0_48 ?_
    refine iand K S d0_49 ?_
    refine nmI fun t49 ht49 => ?_
    have ft49 : t49.toInt = x3.toInt % 4 := by rw [ht49]; exact c_mask x3 (3 : Int32) 2 (by decide) (by decide)
    have rt49 := rng32 t49
    refine istore K S (l' := #[.val (.int x0), .val (.int x1), .val (.int x2), .val (.int x3), .val (.int t2), .val (.int t17), .val (.int t29), .val (.int t49), .unset, .unset, .unset]) rfl d0_50 ?_
    refine iload_n K S rfl d0_52 ?_
    refine iconst K S (x := (2 : Int32)) rfl d0_53 ?_
    refine ishr K S d0_54 ?_
    refine nmI fun t54 ht54 => ?_
    have ft54 : t54.toInt = x3.toInt / 4 := by rw [ht54]; exact c_ishr x3 (2 : Int32) 2 (by decide)
    have rt54 := rng32 t54
    refine iconst K S (x := (1 : Int32)) rfl d0_55 ?_
    refine iand K S d0_56 ?_
    refine nmI fun t56 ht56 => ?_
    have ft56 : t56.toInt = t54.toInt % 2 := by rw [ht56]; exact c_mask t54 (1 : Int32) 1 (by decide) (by decide)
    have rt56 := rng32 t56
    refine ificz_eq K S d0_57 (fun (c57 : t56.toInt = 0) => ?_) (fun (c57 : ¬ t56.toInt = 0) => ?_)
    · refine iconst K S (x := (0 : Int32)) rfl d0_70 ?_
      refine istore K S (l' := #[.val (.int x0), .val (.int x1), .val (.int x2), .val (.int x3), .val (.int t2), .val (.int t17), .val (.int t29), .val (.int t49), .val (.int (0 : Int32)), .unset, .unset]) rfl d0_71 ?_
      refine new K S (hwi hw 1 rfl) (hwi hw 2 rfl) (hwi hw 3 rfl) (by decide) (by decide) d0_73 fun T h73_1 o73 z_o73 g_o73 X E_o73 D S => ?_
      have F_head_o73 : Fld Z h73_1 o73 "com/example/ipseity/ipseity/table/Links" "head" "I" (.int (0 : Int32)) := D (Or.inl (hwi hw 11 rfl)) (ty := .int) (by decide)
      have F_tail_o73 : Fld Z h73_1 o73 "com/example/ipseity/ipseity/table/Links" "tail" "I" (.int (0 : Int32)) := D (Or.inl (hwi hw 13 rfl)) (ty := .int) (by decide)
      have F_before_o73 : Fld Z h73_1 o73 "com/example/ipseity/ipseity/table/Links" "before" "[I" (.null) := D (Or.inr (hwi hw 16 rfl)) (ty := .array .int) (by decide)
      have F_after_o73 : Fld Z h73_1 o73 "com/example/ipseity/ipseity/table/Links" "after" "[I" (.null) := D (Or.inr (hwi hw 18 rfl)) (ty := .array .int) (by decide)
      clear D X
      refine dup K S rfl d0_76 ?_
      refine iconst K S (x := (4 : Int32)) rfl d0_77 ?_
      refine callC K S (W := 1) (m_init l Z a0 hw n0 o73 h73_1 (Sle S) g_o73 E_o73 F_before_o73 F_after_o73 F_head_o73 F_tail_o73) rfl rfl (hwi hw 4 rfl) (hwi hw 5 rfl) (hwi hw 6 rfl) (hwi hw 3 rfl) (by decide) (by decide) (by decide) (by decide) (by decide) rfl (argsL := [.int (4 : Int32)]) rfl (lenOf pd_1 rfl) (rest := [.ref o73]) rfl (Nat.le_of_eq rfl) d0_78 (ef fun T h78_2 hP S => ?_)
      obtain ⟨u, w, D, H, -, -, -⟩ := hP
      replace E_o73 := H.1
      clear F_before_o73
      clear F_after_o73
      clear F_head_o73
      clear F_tail_o73
      show Wp n0 p e _ s below _ T (mkF m 81 #[.val (.int x0), .val (.int x1), .val (.int x2), .val (.int x3), .val (.int t2), .val (.int t17), .val (.int t29), .val (.int t49), .val (.int (0 : Int32)), .unset, .unset] [.ref o73])
      refine astore K S (l' := #[.val (.int x0), .val (.int x1), .val (.int x2), .val (.int x3), .val (.int t2), .val (.int t17), .val (.int t29), .val (.int t49), .val (.int (0 : Int32)), .val (.ref o73), .unset]) rfl rfl d0_81 ?_
      refine iload K S rfl d0_83 ?_
      refine iconst K S (x := (1 : Int32)) rfl d0_85 ?_
      refine icmpz_lt K S d0_86 (fun (c86 : t49.toInt < 1) => ?_) (fun (c86 : ¬ t49.toInt < 1) => ?_)
      · refine iload K S rfl d0_96 ?_
        refine iconst K S (x := (2 : Int32)) rfl d0_98 ?_
        refine icmpz_lt K S d0_99 (fun (c99 : t49.toInt < 2) => ?_) (fun (c99 : ¬ t49.toInt < 2) => ?_)
        rotate_left
        · exfalso; omega
        refine iload K S rfl d0_109 ?_
        refine iconst K S (x := (3 : Int32)) rfl d0_111 ?_
        refine icmpz_lt K S d0_112 (fun (c112 : t49.toInt < 3) => ?_) (fun (c112 : ¬ t49.toInt < 3) => ?_)
        rotate_left
        · exfalso; omega
        refine iload K S rfl d0_122 ?_
        refine ificz_eq K S d0_124 (fun (c124 : 0 = 0) => ?_) (fun (c124 : ¬ 0 = 0) => ?_)
        rotate_left
        · exact absurd c124 (by decide)
        refine iload K S rfl d0_134 ?_
        refine ificz_ne K S d0_136 (fun (c136 : ¬ t49.toInt = 0) => ?_) (fun (c136 : t49.toInt = 0) => ?_)
        · exfalso; omega
        refine aload K S rfl rfl d0_139 ?_
        refine callV K S (W := 0) (m_first l Z a0 hw n0 o73 u w T0 h78_2 (Sle S) H) E_o73 (hwi hw 28 rfl) (hwi hw 29 rfl) (hwi hw 31 rfl) (hwi hw 30 rfl) (hwi hw 32 rfl) (hwi hw 3 rfl) (by decide) (by decide) (by decide) (by decide) (by decide) rfl (argsL := []) rfl (lenOf pd_5 rfl) (rest := []) rfl (Nat.le_of_eq rfl) d0_141 (pu fun T S => ?_)
        show Wp n0 p e _ s below _ T (mkF m 144 #[.val (.int x0), .val (.int x1), .val (.int x2), .val (.int x3), .val (.int t2), .val (.int t17), .val (.int t29), .val (.int t49), .val (.int (0 : Int32)), .val (.ref o73), .unset] [.int (T0.2.2.1)])
        refine iconst K S (x := (-1 : Int32)) rfl d0_144 ?_
        refine icmpz_ne K S d0_145 (fun (c145 : ¬ (T0.2.2.1).toInt = (-1)) => ?_) (fun (c145 : (T0.2.2.1).toInt = (-1)) => ?_)
        · exact absurd rfl c145
        refine iconst K S (x := (1 : Int32)) rfl d0_148 ?_
        refine goto K S d0_149 ?_
        refine retn K S (by simp) (y := (1 : Int32)) rfl (by decide) (by decide) d0_153 ?_
        rfl
      refine aload K S rfl rfl d0_89 ?_
      refine iload K S rfl d0_91 ?_
      refine callV K S (W := 0) (m_append l Z a0 hw n0 o73 u w t2 T0 h78_2 (Sle S) D H (by subst hi hj hk; exact (own_l3 i j k nij nik njk).1)) E_o73 (hwi hw 19 rfl) (hwi hw 20 rfl) (hwi hw 22 rfl) (hwi hw 21 rfl) (hwi hw 23 rfl) (hwi hw 3 rfl) (by decide) (by decide) (by decide) (by decide) (by decide) rfl (argsL := [.int t2]) rfl (lenOf pd_3 rfl) (rest := []) rfl (Nat.le_of_eq rfl) d0_93 (ef fun T h93_3 hP S => ?_)
      obtain ⟨Y1, hY1⟩ : ∃ z, z = lapp T0 t2 := ⟨_, rfl⟩
      rw [← hY1] at hP
      obtain ⟨H, -⟩ := hP
      replace E_o73 := H.1
      show Wp n0 p e _ s below _ T (mkF m 96 #[.val (.int x0), .val (.int x1), .val (.int x2), .val (.int x3), .val (.int t2), .val (.int t17), .val (.int t29), .val (.int t49), .val (.int (0 : Int32)), .val (.ref o73), .unset] [])
      refine iload K S rfl d0_96 ?_
      refine iconst K S (x := (2 : Int32)) rfl d0_98 ?_
      refine icmpz_lt K S d0_99 (fun (c99 : t49.toInt < 2) => ?_) (fun (c99 : ¬ t49.toInt < 2) => ?_)
      · refine iload K S rfl d0_109 ?_
        refine iconst K S (x := (3 : Int32)) rfl d0_111 ?_
        refine icmpz_lt K S d0_112 (fun (c112 : t49.toInt < 3) => ?_) (fun (c112 : ¬ t49.toInt < 3) => ?_)
        rotate_left
        · exfalso; omega
        refine iload K S rfl d0_122 ?_
        refine ificz_eq K S d0_124 (fun (c124 : 0 = 0) => ?_) (fun (c124 : ¬ 0 = 0) => ?_)
        rotate_left
        · exact absurd c124 (by decide)
        refine iload K S rfl d0_134 ?_
        refine ificz_ne K S d0_136 (fun (c136 : ¬ t49.toInt = 0) => ?_) (fun (c136 : t49.toInt = 0) => ?_)
        rotate_left
        · exfalso; omega
        refine aload K S rfl rfl d0_154 ?_
        refine callV K S (W := 0) (m_first l Z a0 hw n0 o73 u w Y1 h93_3 (Sle S) H) E_o73 (hwi hw 28 rfl) (hwi hw 29 rfl) (hwi hw 31 rfl) (hwi hw 30 rfl) (hwi hw 32 rfl) (hwi hw 3 rfl) (by decide) (by decide) (by decide) (by decide) (by decide) rfl (argsL := []) rfl (lenOf pd_5 rfl) (rest := []) rfl (Nat.le_of_eq rfl) d0_156 (pu fun T S => ?_)
        show Wp n0 p e _ s below _ T (mkF m 159 #[.val (.int x0), .val (.int x1), .val (.int x2), .val (.int x3), .val (.int t2), .val (.int t17), .val (.int t29), .val (.int t49), .val (.int (0 : Int32)), .val (.ref o73), .unset] [.int (Y1.2.2.1)])
        refine iload K S rfl d0_159 ?_
        refine icmpz_ne K S d0_161 (fun (c161 : ¬ (Y1.2.2.1).toInt = t2.toInt) => ?_) (fun (c161 : (Y1.2.2.1).toInt = t2.toInt) => ?_)
        · exact (c161 (congrArg Int32.toInt (show Y1.2.2.1 = t2 from (by subst hY1 hi hj hk; exact (own_l3 i j k nij nik njk).2.2.2.2.1)))).elim
        refine iconst K S (x := (1 : Int32)) rfl d0_164 ?_
        refine goto K S d0_165 ?_
        refine istore K S (l' := #[.val (.int x0), .val (.int x1), .val (.int x2), .val (.int x3), .val (.int t2), .val (.int t17), .val (.int t29), .val (.int t49), .val (.int (0 : Int32)), .val (.ref o73), .val (.int (1 : Int32))]) rfl d0_169 ?_
        refine iload K S rfl d0_171 ?_
        refine iconst K S (x := (1 : Int32)) rfl d0_173 ?_
        refine icmpz_ne K S d0_174 (fun (c174 : ¬ t49.toInt = 1) => ?_) (fun (c174 : t49.toInt = 1) => ?_)
        · exfalso; omega
        refine iload K S rfl d0_177 ?_
        refine ificz_eq K S d0_179 (fun (c179 : 1 = 0) => ?_) (fun (c179 : ¬ 1 = 0) => ?_)
        · exact absurd c179 (by decide)
        refine aload K S rfl rfl d0_182 ?_
        refine iload K S rfl d0_184 ?_
        refine callV K S (W := 0) (m_next l Z a0 hw n0 o73 u w t2 Y1 h93_3 (Sle S) H (by subst hY1 hi hj hk; exact (own_l3 i j k nij nik njk).2.2.2.2.2.2.2.2.1)) E_o73 (hwi hw 33 rfl) (hwi hw 34 rfl) (hwi hw 36 rfl) (hwi hw 35 rfl) (hwi hw 37 rfl) (hwi hw 3 rfl) (by decide) (by decide) (by decide) (by decide) (by decide) rfl (argsL := [.int t2]) rfl (lenOf pd_6 rfl) (rest := []) rfl (Nat.le_of_eq rfl) d0_186 (pu fun T S => ?_)
        show Wp n0 p e _ s below _ T (mkF m 189 #[.val (.int x0), .val (.int x1), .val (.int x2), .val (.int x3), .val (.int t2), .val (.int t17), .val (.int t29), .val (.int t49), .val (.int (0 : Int32)), .val (.ref o73), .val (.int (1 : Int32))] [.int (lget Y1.2.1 t2)])
        refine iconst K S (x := (-1 : Int32)) rfl d0_189 ?_
        refine icmpz_ne K S d0_190 (fun (c190 : ¬ (lget Y1.2.1 t2).toInt = (-1)) => ?_) (fun (c190 : (lget Y1.2.1 t2).toInt = (-1)) => ?_)
        · exact (c190 (congrArg Int32.toInt (show lget Y1.2.1 t2 = (-1 : Int32) from (by subst hY1 hi hj hk; exact (own_l3 i j k nij nik njk).2.2.2.2.2.2.2.2.2.2.2.2.2.2.2.2.1)))).elim
        refine iconst K S (x := (1 : Int32)) rfl d0_193 ?_
        refine goto K S d0_194 ?_
        refine retn K S (by simp) (y := (1 : Int32)) rfl (by decide) (by decide) d0_198 ?_
        rfl
      refine aload K S rfl rfl d0_102 ?_
      refine iload K S rfl d0_104 ?_
      refine callV K S (W := 0) (m_append l Z a0 hw n0 o73 u w t17 Y1 h93_3 (Sle S) D H (by subst hY1 hi hj hk; exact (own_l3 i j k nij nik njk).2.1)) E_o73 (hwi hw 19 rfl) (hwi hw 20 rfl) (hwi hw 22 rfl) (hwi hw 21 rfl) (hwi hw 23 rfl) (hwi hw 3 rfl) (by decide) (by decide) (by decide) (by decide) (by decide) rfl (argsL := [.int t17]) rfl (lenOf pd_3 rfl) (rest := []) rfl (Nat.le_of_eq rfl) d0_106 (ef fun T h106_4 hP S => ?_)
      obtain ⟨Y2, hY2⟩ : ∃ z, z = lapp Y1 t17 := ⟨_, rfl⟩
      rw [← hY2] at hP
      obtain ⟨H, -⟩ := hP
      replace E_o73 := H.1
      show Wp n0 p e _ s below _ T (mkF m 109 #[.val (.int x0), .val (.int x1), .val (.int x2), .val (.int x3), .val (.int t2), .val (.int t17), .val (.int t29), .val (.int t49), .val (.int (0 : Int32)), .val (.ref o73), .unset] [])
      refine iload K S rfl d0_109 ?_
      refine iconst K S (x := (3 : Int32)) rfl d0_111 ?_
      refine icmpz_lt K S d0_112 (fun (c112 : t49.toInt < 3) => ?_) (fun (c112 : ¬ t49.toInt < 3) => ?_)
      · refine iload K S rfl d0_122 ?_
        refine ificz_eq K S d0_124 (fun (c124 : 0 = 0) => ?_) (fun (c124 : ¬ 0 = 0) => ?_)
        rotate_left
        · exact absurd c124 (by decide)
        refine iload K S rfl d0_134 ?_
        refine ificz_ne K S d0_136 (fun (c136 : ¬ t49.toInt = 0) => ?_) (fun (c136 : t49.toInt = 0) => ?_)
        rotate_left
        · exfalso; omega
        refine aload K S rfl rfl d0_154 ?_
        refine callV K S (W := 0) (m_first l Z a0 hw n0 o73 u w Y2 h106_4 (Sle S) H) E_o73 (hwi hw 28 rfl) (hwi hw 29 rfl) (hwi hw 31 rfl) (hwi hw 30 rfl) (hwi hw 32 rfl) (hwi hw 3 rfl) (by decide) (by decide) (by decide) (by decide) (by decide) rfl (argsL := []) rfl (lenOf pd_5 rfl) (rest := []) rfl (Nat.le_of_eq rfl) d0_156 (pu fun T S => ?_)
        show Wp n0 p e _ s below _ T (mkF m 159 #[.val (.int x0), .val (.int x1), .val (.int x2), .val (.int x3), .val (.int t2), .val (.int t17), .val (.int t29), .val (.int t49), .val (.int (0 : Int32)), .val (.ref o73), .unset] [.int (Y2.2.2.1)])
        refine iload K S rfl d0_159 ?_
        refine icmpz_ne K S d0_161 (fun (c161 : ¬ (Y2.2.2.1).toInt = t2.toInt) => ?_) (fun (c161 : (Y2.2.2.1).toInt = t2.toInt) => ?_)
        · exact (c161 (congrArg Int32.toInt (show Y2.2.2.1 = t2 from (by subst hY2 hY1 hi hj hk; exact (own_l3 i j k nij nik njk).2.2.2.2.2.1)))).elim
        refine iconst K S (x := (1 : Int32)) rfl d0_164 ?_
        refine goto K S d0_165 ?_
        refine istore K S (l' := #[.val (.int x0), .val (.int x1), .val (.int x2), .val (.int x3), .val (.int t2), .val (.int t17), .val (.int t29), .val (.int t49), .val (.int (0 : Int32)), .val (.ref o73), .val (.int (1 : Int32))]) rfl d0_169 ?_
        refine iload K S rfl d0_171 ?_
        refine iconst K S (x := (1 : Int32)) rfl d0_173 ?_
        refine icmpz_ne K S d0_174 (fun (c174 : ¬ t49.toInt = 1) => ?_) (fun (c174 : t49.toInt = 1) => ?_)
        rotate_left
        · exfalso; omega
        refine iload K S rfl d0_199 ?_
        refine iconst K S (x := (2 : Int32)) rfl d0_201 ?_
        refine icmpz_ne K S d0_202 (fun (c202 : ¬ t49.toInt = 2) => ?_) (fun (c202 : t49.toInt = 2) => ?_)
        · exfalso; omega
        refine iload K S rfl d0_205 ?_
        refine ificz_eq K S d0_207 (fun (c207 : 1 = 0) => ?_) (fun (c207 : ¬ 1 = 0) => ?_)
        · exact absurd c207 (by decide)
        refine aload K S rfl rfl d0_210 ?_
        refine iload K S rfl d0_212 ?_
        refine callV K S (W := 0) (m_next l Z a0 hw n0 o73 u w t2 Y2 h106_4 (Sle S) H (by subst hY2 hY1 hi hj hk; exact (own_l3 i j k nij nik njk).2.2.2.2.2.2.2.2.2.1)) E_o73 (hwi hw 33 rfl) (hwi hw 34 rfl) (hwi hw 36 rfl) (hwi hw 35 rfl) (hwi hw 37 rfl) (hwi hw 3 rfl) (by decide) (by decide) (by decide) (by decide) (by decide) rfl (argsL := [.int t2]) rfl (lenOf pd_6 rfl) (rest := []) rfl (Nat.le_of_eq rfl) d0_214 (pu fun T S => ?_)
        show Wp n0 p e _ s below _ T (mkF m 217 #[.val (.int x0), .val (.int x1), .val (.int x2), .val (.int x3), .val (.int t2), .val (.int t17), .val (.int t29), .val (.int t49), .val (.int (0 : Int32)), .val (.ref o73), .val (.int (1 : Int32))] [.int (lget Y2.2.1 t2)])
        refine iload K S rfl d0_217 ?_
        refine icmpz_ne K S d0_219 (fun (c219 : ¬ (lget Y2.2.1 t2).toInt = t17.toInt) => ?_) (fun (c219 : (lget Y2.2.1 t2).toInt = t17.toInt) => ?_)
        · exact (c219 (congrArg Int32.toInt (show lget Y2.2.1 t2 = t17 from (by subst hY2 hY1 hi hj hk; exact (own_l3 i j k nij nik njk).2.2.2.2.2.2.2.2.2.2.2.2.2.2.2.2.2.1)))).elim
        refine aload K S rfl rfl d0_222 ?_
        refine iload K S rfl d0_224 ?_
        refine callV K S (W := 0) (m_next l Z a0 hw n0 o73 u w t17 Y2 h106_4 (Sle S) H (by subst hY2 hY1 hi hj hk; exact (own_l3 i j k nij nik njk).2.2.2.2.2.2.2.2.2.2.1)) E_o73 (hwi hw 33 rfl) (hwi hw 34 rfl) (hwi hw 36 rfl) (hwi hw 35 rfl) (hwi hw 37 rfl) (hwi hw 3 rfl) (by decide) (by decide) (by decide) (by decide) (by decide) rfl (argsL := [.int t17]) rfl (lenOf pd_6 rfl) (rest := []) rfl (Nat.le_of_eq rfl) d0_226 (pu fun T S => ?_)
        show Wp n0 p e _ s below _ T (mkF m 229 #[.val (.int x0), .val (.int x1), .val (.int x2), .val (.int x3), .val (.int t2), .val (.int t17), .val (.int t29), .val (.int t49), .val (.int (0 : Int32)), .val (.ref o73), .val (.int (1 : Int32))] [.int (lget Y2.2.1 t17)])
        refine iconst K S (x := (-1 : Int32)) rfl d0_229 ?_
        refine icmpz_ne K S d0_230 (fun (c230 : ¬ (lget Y2.2.1 t17).toInt = (-1)) => ?_) (fun (c230 : (lget Y2.2.1 t17).toInt = (-1)) => ?_)
        · exact (c230 (congrArg Int32.toInt (show lget Y2.2.1 t17 = (-1 : Int32) from (by subst hY2 hY1 hi hj hk; exact (own_l3 i j k nij nik njk).2.2.2.2.2.2.2.2.2.2.2.2.2.2.2.2.2.2.1)))).elim
        refine iconst K S (x := (1 : Int32)) rfl d0_233 ?_
        refine goto K S d0_234 ?_
        refine retn K S (by simp) (y := (1 : Int32)) rfl (by decide) (by decide) d0_238 ?_
        rfl
      refine aload K S rfl rfl d0_115 ?_
      refine iload K S rfl d0_117 ?_
      refine callV K S (W := 0) (m_append l Z a0 hw n0 o73 u w t29 Y2 h106_4 (Sle S) D H (by subst hY2 hY1 hi hj hk; exact (own_l3 i j k nij nik njk).2.2.1)) E_o73 (hwi hw 19 rfl) (hwi hw 20 rfl) (hwi hw 22 rfl) (hwi hw 21 rfl) (hwi hw 23 rfl) (hwi hw 3 rfl) (by decide) (by decide) (by decide) (by decide) (by decide) rfl (argsL := [.int t29]) rfl (lenOf pd_3 rfl) (rest := []) rfl (Nat.le_of_eq rfl) d0_119 (ef fun T h119_5 hP S => ?_)
      obtain ⟨Y3, hY3⟩ : ∃ z, z = lapp Y2 t29 := ⟨_, rfl⟩
      rw [← hY3] at hP
      obtain ⟨H, -⟩ := hP
      replace E_o73 := H.1
      show Wp n0 p e _ s below _ T (mkF m 122 #[.val (.int x0), .val (.int x1), .val (.int x2), .val (.int x3), .val (.int t2), .val (.int t17), .val (.int t29), .val (.int t49), .val (.int (0 : Int32)), .val (.ref o73), .unset] [])
      refine iload K S rfl d0_122 ?_
      refine ificz_eq K S d0_124 (fun (c124 : 0 = 0) => ?_) (fun (c124 : ¬ 0 = 0) => ?_)
      rotate_left
      · exact absurd c124 (by decide)
      refine iload K S rfl d0_134 ?_
      refine ificz_ne K S d0_136 (fun (c136 : ¬ t49.toInt = 0) => ?_) (fun (c136 : t49.toInt = 0) => ?_)
      rotate_left
      · exfalso; omega
      refine aload K S rfl rfl d0_154 ?_
      refine callV K S (W := 0) (m_first l Z a0 hw n0 o73 u w Y3 h119_5 (Sle S) H) E_o73 (hwi hw 28 rfl) (hwi hw 29 rfl) (hwi hw 31 rfl) (hwi hw 30 rfl) (hwi hw 32 rfl) (hwi hw 3 rfl) (by decide) (by decide) (by decide) (by decide) (by decide) rfl (argsL := []) rfl (lenOf pd_5 rfl) (rest := []) rfl (Nat.le_of_eq rfl) d0_156 (pu fun T S => ?_)
      show Wp n0 p e _ s below _ T (mkF m 159 #[.val (.int x0), .val (.int x1), .val (.int x2), .val (.int x3), .val (.int t2), .val (.int t17), .val (.int t29), .val (.int t49), .val (.int (0 : Int32)), .val (.ref o73), .unset] [.int (Y3.2.2.1)])
      refine iload K S rfl d0_159 ?_
      refine icmpz_ne K S d0_161 (fun (c161 : ¬ (Y3.2.2.1).toInt = t2.toInt) => ?_) (fun (c161 : (Y3.2.2.1).toInt = t2.toInt) => ?_)
      · exact (c161 (congrArg Int32.toInt (show Y3.2.2.1 = t2 from (by subst hY3 hY2 hY1 hi hj hk; exact (own_l3 i j k nij nik njk).2.2.2.2.2.2.1)))).elim
      refine iconst K S (x := (1 : Int32)) rfl d0_164 ?_
      refine goto K S d0_165 ?_
      refine istore K S (l' := #[.val (.int x0), .val (.int x1), .val (.int x2), .val (.int x3), .val (.int t2), .val (.int t17), .val (.int t29), .val (.int t49), .val (.int (0 : Int32)), .val (.ref o73), .val (.int (1 : Int32))]) rfl d0_169 ?_
      refine iload K S rfl d0_171 ?_
      refine iconst K S (x := (1 : Int32)) rfl d0_173 ?_
      refine icmpz_ne K S d0_174 (fun (c174 : ¬ t49.toInt = 1) => ?_) (fun (c174 : t49.toInt = 1) => ?_)
      rotate_left
      · exfalso; omega
      refine iload K S rfl d0_199 ?_
      refine iconst K S (x := (2 : Int32)) rfl d0_201 ?_
      refine icmpz_ne K S d0_202 (fun (c202 : ¬ t49.toInt = 2) => ?_) (fun (c202 : t49.toInt = 2) => ?_)
      rotate_left
      · exfalso; omega
      refine iload K S rfl d0_239 ?_
      refine ificz_eq K S d0_241 (fun (c241 : 0 = 0) => ?_) (fun (c241 : ¬ 0 = 0) => ?_)
      rotate_left
      · exact absurd c241 (by decide)
      refine iload K S rfl d0_278 ?_
      refine ificz_eq K S d0_280 (fun (c280 : 1 = 0) => ?_) (fun (c280 : ¬ 1 = 0) => ?_)
      · exact absurd c280 (by decide)
      refine aload K S rfl rfl d0_283 ?_
      refine iload K S rfl d0_285 ?_
      refine callV K S (W := 0) (m_next l Z a0 hw n0 o73 u w t2 Y3 h119_5 (Sle S) H (by subst hY3 hY2 hY1 hi hj hk; exact (own_l3 i j k nij nik njk).2.2.2.2.2.2.2.2.2.2.2.1)) E_o73 (hwi hw 33 rfl) (hwi hw 34 rfl) (hwi hw 36 rfl) (hwi hw 35 rfl) (hwi hw 37 rfl) (hwi hw 3 rfl) (by decide) (by decide) (by decide) (by decide) (by decide) rfl (argsL := [.int t2]) rfl (lenOf pd_6 rfl) (rest := []) rfl (Nat.le_of_eq rfl) d0_287 (pu fun T S => ?_)
      show Wp n0 p e _ s below _ T (mkF m 290 #[.val (.int x0), .val (.int x1), .val (.int x2), .val (.int x3), .val (.int t2), .val (.int t17), .val (.int t29), .val (.int t49), .val (.int (0 : Int32)), .val (.ref o73), .val (.int (1 : Int32))] [.int (lget Y3.2.1 t2)])
      refine iload K S rfl d0_290 ?_
      refine icmpz_ne K S d0_292 (fun (c292 : ¬ (lget Y3.2.1 t2).toInt = t17.toInt) => ?_) (fun (c292 : (lget Y3.2.1 t2).toInt = t17.toInt) => ?_)
      · exact (c292 (congrArg Int32.toInt (show lget Y3.2.1 t2 = t17 from (by subst hY3 hY2 hY1 hi hj hk; exact (own_l3 i j k nij nik njk).2.2.2.2.2.2.2.2.2.2.2.2.2.2.2.2.2.2.2.1)))).elim
      refine aload K S rfl rfl d0_295 ?_
      refine iload K S rfl d0_297 ?_
      refine callV K S (W := 0) (m_next l Z a0 hw n0 o73 u w t17 Y3 h119_5 (Sle S) H (by subst hY3 hY2 hY1 hi hj hk; exact (own_l3 i j k nij nik njk).2.2.2.2.2.2.2.2.2.2.2.2.1)) E_o73 (hwi hw 33 rfl) (hwi hw 34 rfl) (hwi hw 36 rfl) (hwi hw 35 rfl) (hwi hw 37 rfl) (hwi hw 3 rfl) (by decide) (by decide) (by decide) (by decide) (by decide) rfl (argsL := [.int t17]) rfl (lenOf pd_6 rfl) (rest := []) rfl (Nat.le_of_eq rfl) d0_299 (pu fun T S => ?_)
      show Wp n0 p e _ s below _ T (mkF m 302 #[.val (.int x0), .val (.int x1), .val (.int x2), .val (.int x3), .val (.int t2), .val (.int t17), .val (.int t29), .val (.int t49), .val (.int (0 : Int32)), .val (.ref o73), .val (.int (1 : Int32))] [.int (lget Y3.2.1 t17)])
      refine iload K S rfl d0_302 ?_
      refine icmpz_ne K S d0_304 (fun (c304 : ¬ (lget Y3.2.1 t17).toInt = t29.toInt) => ?_) (fun (c304 : (lget Y3.2.1 t17).toInt = t29.toInt) => ?_)
      · exact (c304 (congrArg Int32.toInt (show lget Y3.2.1 t17 = t29 from (by subst hY3 hY2 hY1 hi hj hk; exact (own_l3 i j k nij nik njk).2.2.2.2.2.2.2.2.2.2.2.2.2.2.2.2.2.2.2.2.1)))).elim
      refine aload K S rfl rfl d0_307 ?_
      refine iload K S rfl d0_309 ?_
      refine callV K S (W := 0) (m_next l Z a0 hw n0 o73 u w t29 Y3 h119_5 (Sle S) H (by subst hY3 hY2 hY1 hi hj hk; exact (own_l3 i j k nij nik njk).2.2.2.2.2.2.2.2.2.2.2.2.2.1)) E_o73 (hwi hw 33 rfl) (hwi hw 34 rfl) (hwi hw 36 rfl) (hwi hw 35 rfl) (hwi hw 37 rfl) (hwi hw 3 rfl) (by decide) (by decide) (by decide) (by decide) (by decide) rfl (argsL := [.int t29]) rfl (lenOf pd_6 rfl) (rest := []) rfl (Nat.le_of_eq rfl) d0_311 (pu fun T S => ?_)
      show Wp n0 p e _ s below _ T (mkF m 314 #[.val (.int x0), .val (.int x1), .val (.int x2), .val (.int x3), .val (.int t2), .val (.int t17), .val (.int t29), .val (.int t49), .val (.int (0 : Int32)), .val (.ref o73), .val (.int (1 : Int32))] [.int (lget Y3.2.1 t29)])
      refine iconst K S (x := (-1 : Int32)) rfl d0_314 ?_
      refine icmpz_ne K S d0_315 (fun (c315 : ¬ (lget Y3.2.1 t29).toInt = (-1)) => ?_) (fun (c315 : (lget Y3.2.1 t29).toInt = (-1)) => ?_)
      · exact (c315 (congrArg Int32.toInt (show lget Y3.2.1 t29 = (-1 : Int32) from (by subst hY3 hY2 hY1 hi hj hk; exact (own_l3 i j k nij nik njk).2.2.2.2.2.2.2.2.2.2.2.2.2.2.2.2.2.2.2.2.2.1)))).elim
      refine iconst K S (x := (1 : Int32)) rfl d0_318 ?_
      refine goto K S d0_319 ?_
      refine retn K S (by simp) (y := (1 : Int32)) rfl (by decide) (by decide) d0_323 ?_
      rfl
    refine iload K S rfl d0_60 ?_
    refine iconst K S (x := (3 : Int32)) rfl d0_62 ?_
    refine icmpz_ne K S d0_63 (fun (c63 : ¬ t49.toInt = 3) => ?_) (fun (c63 : t49.toInt = 3) => ?_)
    · refine iconst K S (x := (0 : Int32)) rfl d0_70 ?_
      refine istore K S (l' := #[.val (.int x0), .val (.int x1), .val (.int x2), .val (.int x3), .val (.int t2), .val (.int t17), .val (.int t29), .val (.int t49), .val (.int (0 : Int32)), .unset, .unset]) rfl d0_71 ?_
      refine new K S (hwi hw 1 rfl) (hwi hw 2 rfl) (hwi hw 3 rfl) (by decide) (by decide) d0_73 fun T h73_6 o73 z_o73 g_o73 X E_o73 D S => ?_
      have F_head_o73 : Fld Z h73_6 o73 "com/example/ipseity/ipseity/table/Links" "head" "I" (.int (0 : Int32)) := D (Or.inl (hwi hw 11 rfl)) (ty := .int) (by decide)
      have F_tail_o73 : Fld Z h73_6 o73 "com/example/ipseity/ipseity/table/Links" "tail" "I" (.int (0 : Int32)) := D (Or.inl (hwi hw 13 rfl)) (ty := .int) (by decide)
      have F_before_o73 : Fld Z h73_6 o73 "com/example/ipseity/ipseity/table/Links" "before" "[I" (.null) := D (Or.inr (hwi hw 16 rfl)) (ty := .array .int) (by decide)
      have F_after_o73 : Fld Z h73_6 o73 "com/example/ipseity/ipseity/table/Links" "after" "[I" (.null) := D (Or.inr (hwi hw 18 rfl)) (ty := .array .int) (by decide)
      clear D X
      refine dup K S rfl d0_76 ?_
      refine iconst K S (x := (4 : Int32)) rfl d0_77 ?_
      refine callC K S (W := 1) (m_init l Z a0 hw n0 o73 h73_6 (Sle S) g_o73 E_o73 F_before_o73 F_after_o73 F_head_o73 F_tail_o73) rfl rfl (hwi hw 4 rfl) (hwi hw 5 rfl) (hwi hw 6 rfl) (hwi hw 3 rfl) (by decide) (by decide) (by decide) (by decide) (by decide) rfl (argsL := [.int (4 : Int32)]) rfl (lenOf pd_1 rfl) (rest := [.ref o73]) rfl (Nat.le_of_eq rfl) d0_78 (ef fun T h78_7 hP S => ?_)
      obtain ⟨u, w, D, H, -, -, -⟩ := hP
      replace E_o73 := H.1
      clear F_before_o73
      clear F_after_o73
      clear F_head_o73
      clear F_tail_o73
      show Wp n0 p e _ s below _ T (mkF m 81 #[.val (.int x0), .val (.int x1), .val (.int x2), .val (.int x3), .val (.int t2), .val (.int t17), .val (.int t29), .val (.int t49), .val (.int (0 : Int32)), .unset, .unset] [.ref o73])
      refine astore K S (l' := #[.val (.int x0), .val (.int x1), .val (.int x2), .val (.int x3), .val (.int t2), .val (.int t17), .val (.int t29), .val (.int t49), .val (.int (0 : Int32)), .val (.ref o73), .unset]) rfl rfl d0_81 ?_
      refine iload K S rfl d0_83 ?_
      refine iconst K S (x := (1 : Int32)) rfl d0_85 ?_
      refine icmpz_lt K S d0_86 (fun (c86 : t49.toInt < 1) => ?_) (fun (c86 : ¬ t49.toInt < 1) => ?_)
      · refine iload K S rfl d0_96 ?_
        refine iconst K S (x := (2 : Int32)) rfl d0_98 ?_
        refine icmpz_lt K S d0_99 (fun (c99 : t49.toInt < 2) => ?_) (fun (c99 : ¬ t49.toInt < 2) => ?_)
        rotate_left
        · exfalso; omega
        refine iload K S rfl d0_109 ?_
        refine iconst K S (x := (3 : Int32)) rfl d0_111 ?_
        refine icmpz_lt K S d0_112 (fun (c112 : t49.toInt < 3) => ?_) (fun (c112 : ¬ t49.toInt < 3) => ?_)
        rotate_left
        · exfalso; omega
        refine iload K S rfl d0_122 ?_
        refine ificz_eq K S d0_124 (fun (c124 : 0 = 0) => ?_) (fun (c124 : ¬ 0 = 0) => ?_)
        rotate_left
        · exact absurd c124 (by decide)
        refine iload K S rfl d0_134 ?_
        refine ificz_ne K S d0_136 (fun (c136 : ¬ t49.toInt = 0) => ?_) (fun (c136 : t49.toInt = 0) => ?_)
        · exfalso; omega
        refine aload K S rfl rfl d0_139 ?_
        refine callV K S (W := 0) (m_first l Z a0 hw n0 o73 u w T0 h78_7 (Sle S) H) E_o73 (hwi hw 28 rfl) (hwi hw 29 rfl) (hwi hw 31 rfl) (hwi hw 30 rfl) (hwi hw 32 rfl) (hwi hw 3 rfl) (by decide) (by decide) (by decide) (by decide) (by decide) rfl (argsL := []) rfl (lenOf pd_5 rfl) (rest := []) rfl (Nat.le_of_eq rfl) d0_141 (pu fun T S => ?_)
        show Wp n0 p e _ s below _ T (mkF m 144 #[.val (.int x0), .val (.int x1), .val (.int x2), .val (.int x3), .val (.int t2), .val (.int t17), .val (.int t29), .val (.int t49), .val (.int (0 : Int32)), .val (.ref o73), .unset] [.int (T0.2.2.1)])
        refine iconst K S (x := (-1 : Int32)) rfl d0_144 ?_
        refine icmpz_ne K S d0_145 (fun (c145 : ¬ (T0.2.2.1).toInt = (-1)) => ?_) (fun (c145 : (T0.2.2.1).toInt = (-1)) => ?_)
        · exact absurd rfl c145
        refine iconst K S (x := (1 : Int32)) rfl d0_148 ?_
        refine goto K S d0_149 ?_
        refine retn K S (by simp) (y := (1 : Int32)) rfl (by decide) (by decide) d0_153 ?_
        rfl
      refine aload K S rfl rfl d0_89 ?_
      refine iload K S rfl d0_91 ?_
      refine callV K S (W := 0) (m_append l Z a0 hw n0 o73 u w t2 T0 h78_7 (Sle S) D H (by subst hi hj hk; exact (own_l3 i j k nij nik njk).1)) E_o73 (hwi hw 19 rfl) (hwi hw 20 rfl) (hwi hw 22 rfl) (hwi hw 21 rfl) (hwi hw 23 rfl) (hwi hw 3 rfl) (by decide) (by decide) (by decide) (by decide) (by decide) rfl (argsL := [.int t2]) rfl (lenOf pd_3 rfl) (rest := []) rfl (Nat.le_of_eq rfl) d0_93 (ef fun T h93_8 hP S => ?_)
      obtain ⟨Y1, hY1⟩ : ∃ z, z = lapp T0 t2 := ⟨_, rfl⟩
      rw [← hY1] at hP
      obtain ⟨H, -⟩ := hP
      replace E_o73 := H.1
      show Wp n0 p e _ s below _ T (mkF m 96 #[.val (.int x0), .val (.int x1), .val (.int x2), .val (.int x3), .val (.int t2), .val (.int t17), .val (.int t29), .val (.int t49), .val (.int (0 : Int32)), .val (.ref o73), .unset] [])
      refine iload K S rfl d0_96 ?_
      refine iconst K S (x := (2 : Int32)) rfl d0_98 ?_
      refine icmpz_lt K S d0_99 (fun (c99 : t49.toInt < 2) => ?_) (fun (c99 : ¬ t49.toInt < 2) => ?_)
      · refine iload K S rfl d0_109 ?_
        refine iconst K S (x := (3 : Int32)) rfl d0_111 ?_
        refine icmpz_lt K S d0_112 (fun (c112 : t49.toInt < 3) => ?_) (fun (c112 : ¬ t49.toInt < 3) => ?_)
        rotate_left
        · exfalso; omega
        refine iload K S rfl d0_122 ?_
        refine ificz_eq K S d0_124 (fun (c124 : 0 = 0) => ?_) (fun (c124 : ¬ 0 = 0) => ?_)
        rotate_left
        · exact absurd c124 (by decide)
        refine iload K S rfl d0_134 ?_
        refine ificz_ne K S d0_136 (fun (c136 : ¬ t49.toInt = 0) => ?_) (fun (c136 : t49.toInt = 0) => ?_)
        rotate_left
        · exfalso; omega
        refine aload K S rfl rfl d0_154 ?_
        refine callV K S (W := 0) (m_first l Z a0 hw n0 o73 u w Y1 h93_8 (Sle S) H) E_o73 (hwi hw 28 rfl) (hwi hw 29 rfl) (hwi hw 31 rfl) (hwi hw 30 rfl) (hwi hw 32 rfl) (hwi hw 3 rfl) (by decide) (by decide) (by decide) (by decide) (by decide) rfl (argsL := []) rfl (lenOf pd_5 rfl) (rest := []) rfl (Nat.le_of_eq rfl) d0_156 (pu fun T S => ?_)
        show Wp n0 p e _ s below _ T (mkF m 159 #[.val (.int x0), .val (.int x1), .val (.int x2), .val (.int x3), .val (.int t2), .val (.int t17), .val (.int t29), .val (.int t49), .val (.int (0 : Int32)), .val (.ref o73), .unset] [.int (Y1.2.2.1)])
        refine iload K S rfl d0_159 ?_
        refine icmpz_ne K S d0_161 (fun (c161 : ¬ (Y1.2.2.1).toInt = t2.toInt) => ?_) (fun (c161 : (Y1.2.2.1).toInt = t2.toInt) => ?_)
        · exact (c161 (congrArg Int32.toInt (show Y1.2.2.1 = t2 from (by subst hY1 hi hj hk; exact (own_l3 i j k nij nik njk).2.2.2.2.1)))).elim
        refine iconst K S (x := (1 : Int32)) rfl d0_164 ?_
        refine goto K S d0_165 ?_
        refine istore K S (l' := #[.val (.int x0), .val (.int x1), .val (.int x2), .val (.int x3), .val (.int t2), .val (.int t17), .val (.int t29), .val (.int t49), .val (.int (0 : Int32)), .val (.ref o73), .val (.int (1 : Int32))]) rfl d0_169 ?_
        refine iload K S rfl d0_171 ?_
        refine iconst K S (x := (1 : Int32)) rfl d0_173 ?_
        refine icmpz_ne K S d0_174 (fun (c174 : ¬ t49.toInt = 1) => ?_) (fun (c174 : t49.toInt = 1) => ?_)
        · exfalso; omega
        refine iload K S rfl d0_177 ?_
        refine ificz_eq K S d0_179 (fun (c179 : 1 = 0) => ?_) (fun (c179 : ¬ 1 = 0) => ?_)
        · exact absurd c179 (by decide)
        refine aload K S rfl rfl d0_182 ?_
        refine iload K S rfl d0_184 ?_
        refine callV K S (W := 0) (m_next l Z a0 hw n0 o73 u w t2 Y1 h93_8 (Sle S) H (by subst hY1 hi hj hk; exact (own_l3 i j k nij nik njk).2.2.2.2.2.2.2.2.1)) E_o73 (hwi hw 33 rfl) (hwi hw 34 rfl) (hwi hw 36 rfl) (hwi hw 35 rfl) (hwi hw 37 rfl) (hwi hw 3 rfl) (by decide) (by decide) (by decide) (by decide) (by decide) rfl (argsL := [.int t2]) rfl (lenOf pd_6 rfl) (rest := []) rfl (Nat.le_of_eq rfl) d0_186 (pu fun T S => ?_)
        show Wp n0 p e _ s below _ T (mkF m 189 #[.val (.int x0), .val (.int x1), .val (.int x2), .val (.int x3), .val (.int t2), .val (.int t17), .val (.int t29), .val (.int t49), .val (.int (0 : Int32)), .val (.ref o73), .val (.int (1 : Int32))] [.int (lget Y1.2.1 t2)])
        refine iconst K S (x := (-1 : Int32)) rfl d0_189 ?_
        refine icmpz_ne K S d0_190 (fun (c190 : ¬ (lget Y1.2.1 t2).toInt = (-1)) => ?_) (fun (c190 : (lget Y1.2.1 t2).toInt = (-1)) => ?_)
        · exact (c190 (congrArg Int32.toInt (show lget Y1.2.1 t2 = (-1 : Int32) from (by subst hY1 hi hj hk; exact (own_l3 i j k nij nik njk).2.2.2.2.2.2.2.2.2.2.2.2.2.2.2.2.1)))).elim
        refine iconst K S (x := (1 : Int32)) rfl d0_193 ?_
        refine goto K S d0_194 ?_
        refine retn K S (by simp) (y := (1 : Int32)) rfl (by decide) (by decide) d0_198 ?_
        rfl
      refine aload K S rfl rfl d0_102 ?_
      refine iload K S rfl d0_104 ?_
      refine callV K S (W := 0) (m_append l Z a0 hw n0 o73 u w t17 Y1 h93_8 (Sle S) D H (by subst hY1 hi hj hk; exact (own_l3 i j k nij nik njk).2.1)) E_o73 (hwi hw 19 rfl) (hwi hw 20 rfl) (hwi hw 22 rfl) (hwi hw 21 rfl) (hwi hw 23 rfl) (hwi hw 3 rfl) (by decide) (by decide) (by decide) (by decide) (by decide) rfl (argsL := [.int t17]) rfl (lenOf pd_3 rfl) (rest := []) rfl (Nat.le_of_eq rfl) d0_106 (ef fun T h106_9 hP S => ?_)
      obtain ⟨Y2, hY2⟩ : ∃ z, z = lapp Y1 t17 := ⟨_, rfl⟩
      rw [← hY2] at hP
      obtain ⟨H, -⟩ := hP
      replace E_o73 := H.1
      show Wp n0 p e _ s below _ T (mkF m 109 #[.val (.int x0), .val (.int x1), .val (.int x2), .val (.int x3), .val (.int t2), .val (.int t17), .val (.int t29), .val (.int t49), .val (.int (0 : Int32)), .val (.ref o73), .unset] [])
      refine iload K S rfl d0_109 ?_
      refine iconst K S (x := (3 : Int32)) rfl d0_111 ?_
      refine icmpz_lt K S d0_112 (fun (c112 : t49.toInt < 3) => ?_) (fun (c112 : ¬ t49.toInt < 3) => ?_)
      rotate_left
      · exfalso; omega
      refine iload K S rfl d0_122 ?_
      refine ificz_eq K S d0_124 (fun (c124 : 0 = 0) => ?_) (fun (c124 : ¬ 0 = 0) => ?_)
      rotate_left
      · exact absurd c124 (by decide)
      refine iload K S rfl d0_134 ?_
      refine ificz_ne K S d0_136 (fun (c136 : ¬ t49.toInt = 0) => ?_) (fun (c136 : t49.toInt = 0) => ?_)
      rotate_left
      · exfalso; omega
      refine aload K S rfl rfl d0_154 ?_
      refine callV K S (W := 0) (m_first l Z a0 hw n0 o73 u w Y2 h106_9 (Sle S) H) E_o73 (hwi hw 28 rfl) (hwi hw 29 rfl) (hwi hw 31 rfl) (hwi hw 30 rfl) (hwi hw 32 rfl) (hwi hw 3 rfl) (by decide) (by decide) (by decide) (by decide) (by decide) rfl (argsL := []) rfl (lenOf pd_5 rfl) (rest := []) rfl (Nat.le_of_eq rfl) d0_156 (pu fun T S => ?_)
      show Wp n0 p e _ s below _ T (mkF m 159 #[.val (.int x0), .val (.int x1), .val (.int x2), .val (.int x3), .val (.int t2), .val (.int t17), .val (.int t29), .val (.int t49), .val (.int (0 : Int32)), .val (.ref o73), .unset] [.int (Y2.2.2.1)])
      refine iload K S rfl d0_159 ?_
      refine icmpz_ne K S d0_161 (fun (c161 : ¬ (Y2.2.2.1).toInt = t2.toInt) => ?_) (fun (c161 : (Y2.2.2.1).toInt = t2.toInt) => ?_)
      · exact (c161 (congrArg Int32.toInt (show Y2.2.2.1 = t2 from (by subst hY2 hY1 hi hj hk; exact (own_l3 i j k nij nik njk).2.2.2.2.2.1)))).elim
      refine iconst K S (x := (1 : Int32)) rfl d0_164 ?_
      refine goto K S d0_165 ?_
      refine istore K S (l' := #[.val (.int x0), .val (.int x1), .val (.int x2), .val (.int x3), .val (.int t2), .val (.int t17), .val (.int t29), .val (.int t49), .val (.int (0 : Int32)), .val (.ref o73), .val (.int (1 : Int32))]) rfl d0_169 ?_
      refine iload K S rfl d0_171 ?_
      refine iconst K S (x := (1 : Int32)) rfl d0_173 ?_
      refine icmpz_ne K S d0_174 (fun (c174 : ¬ t49.toInt = 1) => ?_) (fun (c174 : t49.toInt = 1) => ?_)
      rotate_left
      · exfalso; omega
      refine iload K S rfl d0_199 ?_
      refine iconst K S (x := (2 : Int32)) rfl d0_201 ?_
      refine icmpz_ne K S d0_202 (fun (c202 : ¬ t49.toInt = 2) => ?_) (fun (c202 : t49.toInt = 2) => ?_)
      · exfalso; omega
      refine iload K S rfl d0_205 ?_
      refine ificz_eq K S d0_207 (fun (c207 : 1 = 0) => ?_) (fun (c207 : ¬ 1 = 0) => ?_)
      · exact absurd c207 (by decide)
      refine aload K S rfl rfl d0_210 ?_
      refine iload K S rfl d0_212 ?_
      refine callV K S (W := 0) (m_next l Z a0 hw n0 o73 u w t2 Y2 h106_9 (Sle S) H (by subst hY2 hY1 hi hj hk; exact (own_l3 i j k nij nik njk).2.2.2.2.2.2.2.2.2.1)) E_o73 (hwi hw 33 rfl) (hwi hw 34 rfl) (hwi hw 36 rfl) (hwi hw 35 rfl) (hwi hw 37 rfl) (hwi hw 3 rfl) (by decide) (by decide) (by decide) (by decide) (by decide) rfl (argsL := [.int t2]) rfl (lenOf pd_6 rfl) (rest := []) rfl (Nat.le_of_eq rfl) d0_214 (pu fun T S => ?_)
      show Wp n0 p e _ s below _ T (mkF m 217 #[.val (.int x0), .val (.int x1), .val (.int x2), .val (.int x3), .val (.int t2), .val (.int t17), .val (.int t29), .val (.int t49), .val (.int (0 : Int32)), .val (.ref o73), .val (.int (1 : Int32))] [.int (lget Y2.2.1 t2)])
      refine iload K S rfl d0_217 ?_
      refine icmpz_ne K S d0_219 (fun (c219 : ¬ (lget Y2.2.1 t2).toInt = t17.toInt) => ?_) (fun (c219 : (lget Y2.2.1 t2).toInt = t17.toInt) => ?_)
      · exact (c219 (congrArg Int32.toInt (show lget Y2.2.1 t2 = t17 from (by subst hY2 hY1 hi hj hk; exact (own_l3 i j k nij nik njk).2.2.2.2.2.2.2.2.2.2.2.2.2.2.2.2.2.1)))).elim
      refine aload K S rfl rfl d0_222 ?_
      refine iload K S rfl d0_224 ?_
      refine callV K S (W := 0) (m_next l Z a0 hw n0 o73 u w t17 Y2 h106_9 (Sle S) H (by subst hY2 hY1 hi hj hk; exact (own_l3 i j k nij nik njk).2.2.2.2.2.2.2.2.2.2.1)) E_o73 (hwi hw 33 rfl) (hwi hw 34 rfl) (hwi hw 36 rfl) (hwi hw 35 rfl) (hwi hw 37 rfl) (hwi hw 3 rfl) (by decide) (by decide) (by decide) (by decide) (by decide) rfl (argsL := [.int t17]) rfl (lenOf pd_6 rfl) (rest := []) rfl (Nat.le_of_eq rfl) d0_226 (pu fun T S => ?_)
      show Wp n0 p e _ s below _ T (mkF m 229 #[.val (.int x0), .val (.int x1), .val (.int x2), .val (.int x3), .val (.int t2), .val (.int t17), .val (.int t29), .val (.int t49), .val (.int (0 : Int32)), .val (.ref o73), .val (.int (1 : Int32))] [.int (lget Y2.2.1 t17)])
      refine iconst K S (x := (-1 : Int32)) rfl d0_229 ?_
      refine icmpz_ne K S d0_230 (fun (c230 : ¬ (lget Y2.2.1 t17).toInt = (-1)) => ?_) (fun (c230 : (lget Y2.2.1 t17).toInt = (-1)) => ?_)
      · exact (c230 (congrArg Int32.toInt (show lget Y2.2.1 t17 = (-1 : Int32) from (by subst hY2 hY1 hi hj hk; exact (own_l3 i j k nij nik njk).2.2.2.2.2.2.2.2.2.2.2.2.2.2.2.2.2.2.1)))).elim
      refine iconst K S (x := (1 : Int32)) rfl d0_233 ?_
      refine goto K S d0_234 ?_
      refine retn K S (by simp) (y := (1 : Int32)) rfl (by decide) (by decide) d0_238 ?_
      rfl
    refine iconst K S (x := (1 : Int32)) rfl d0_66 ?_
    refine goto K S d0_67 ?_
    refine istore K S (l' := #[.val (.int x0), .val (.int x1), .val (.int x2), .val (.int x3), .val (.int t2), .val (.int t17), .val (.int t29), .val (.int t49), .val (.int (1 : Int32)), .unset, .unset]) rfl d0_71 ?_
    refine new K S (hwi hw 1 rfl) (hwi hw 2 rfl) (hwi hw 3 rfl) (by decide) (by decide) d0_73 fun T h73_10 o73 z_o73 g_o73 X E_o73 D S => ?_
    have F_head_o73 : Fld Z h73_10 o73 "com/example/ipseity/ipseity/table/Links" "head" "I" (.int (0 : Int32)) := D (Or.inl (hwi hw 11 rfl)) (ty := .int) (by decide)
    have F_tail_o73 : Fld Z h73_10 o73 "com/example/ipseity/ipseity/table/Links" "tail" "I" (.int (0 : Int32)) := D (Or.inl (hwi hw 13 rfl)) (ty := .int) (by decide)
    have F_before_o73 : Fld Z h73_10 o73 "com/example/ipseity/ipseity/table/Links" "before" "[I" (.null) := D (Or.inr (hwi hw 16 rfl)) (ty := .array .int) (by decide)
    have F_after_o73 : Fld Z h73_10 o73 "com/example/ipseity/ipseity/table/Links" "after" "[I" (.null) := D (Or.inr (hwi hw 18 rfl)) (ty := .array .int) (by decide)
    clear D X
    refine dup K S rfl d0_76 ?_
    refine iconst K S (x := (4 : Int32)) rfl d0_77 ?_
    refine callC K S (W := 1) (m_init l Z a0 hw n0 o73 h73_10 (Sle S) g_o73 E_o73 F_before_o73 F_after_o73 F_head_o73 F_tail_o73) rfl rfl (hwi hw 4 rfl) (hwi hw 5 rfl) (hwi hw 6 rfl) (hwi hw 3 rfl) (by decide) (by decide) (by decide) (by decide) (by decide) rfl (argsL := [.int (4 : Int32)]) rfl (lenOf pd_1 rfl) (rest := [.ref o73]) rfl (Nat.le_of_eq rfl) d0_78 (ef fun T h78_11 hP S => ?_)
    obtain ⟨u, w, D, H, -, -, -⟩ := hP
    replace E_o73 := H.1
    clear F_before_o73
    clear F_after_o73
    clear F_head_o73
    clear F_tail_o73
    show Wp n0 p e _ s below _ T (mkF m 81 #[.val (.int x0), .val (.int x1), .val (.int x2), .val (.int x3), .val (.int t2), .val (.int t17), .val (.int t29), .val (.int t49), .val (.int (1 : Int32)), .unset, .unset] [.ref o73])
    refine astore K S (l' := #[.val (.int x0), .val (.int x1), .val (.int x2), .val (.int x3), .val (.int t2), .val (.int t17), .val (.int t29), .val (.int t49), .val (.int (1 : Int32)), .val (.ref o73), .unset]) rfl rfl d0_81 ?_
    refine iload K S rfl d0_83 ?_
    refine iconst K S (x := (1 : Int32)) rfl d0_85 ?_
    refine icmpz_lt K S d0_86 (fun (c86 : t49.toInt < 1) => ?_) (fun (c86 : ¬ t49.toInt < 1) => ?_)
    · exfalso; omega
    refine aload K S rfl rfl d0_89 ?_
    refine iload K S rfl d0_91 ?_
    refine callV K S (W := 0) (m_append l Z a0 hw n0 o73 u w t2 T0 h78_11 (Sle S) D H (by subst hi hj hk; exact (own_l3 i j k nij nik njk).1)) E_o73 (hwi hw 19 rfl) (hwi hw 20 rfl) (hwi hw 22 rfl) (hwi hw 21 rfl) (hwi hw 23 rfl) (hwi hw 3 rfl) (by decide) (by decide) (by decide) (by decide) (by decide) rfl (argsL := [.int t2]) rfl (lenOf pd_3 rfl) (rest := []) rfl (Nat.le_of_eq rfl) d0_93 (ef fun T h93_12 hP S => ?_)
    obtain ⟨Y1, hY1⟩ : ∃ z, z = lapp T0 t2 := ⟨_, rfl⟩
    rw [← hY1] at hP
    obtain ⟨H, -⟩ := hP
    replace E_o73 := H.1
    show Wp n0 p e _ s below _ T (mkF m 96 #[.val (.int x0), .val (.int x1), .val (.int x2), .val (.int x3), .val (.int t2), .val (.int t17), .val (.int t29), .val (.int t49), .val (.int (1 : Int32)), .val (.ref o73), .unset] [])
    refine iload K S rfl d0_96 ?_
    refine iconst K S (x := (2 : Int32)) rfl d0_98 ?_
    refine icmpz_lt K S d0_99 (fun (c99 : t49.toInt < 2) => ?_) (fun (c99 : ¬ t49.toInt < 2) => ?_)
    · exfalso; omega
    refine aload K S rfl rfl d0_102 ?_
    refine iload K S rfl d0_104 ?_
    refine callV K S (W := 0) (m_append l Z a0 hw n0 o73 u w t17 Y1 h93_12 (Sle S) D H (by subst hY1 hi hj hk; exact (own_l3 i j k nij nik njk).2.1)) E_o73 (hwi hw 19 rfl) (hwi hw 20 rfl) (hwi hw 22 rfl) (hwi hw 21 rfl) (hwi hw 23 rfl) (hwi hw 3 rfl) (by decide) (by decide) (by decide) (by decide) (by decide) rfl (argsL := [.int t17]) rfl (lenOf pd_3 rfl) (rest := []) rfl (Nat.le_of_eq rfl) d0_106 (ef fun T h106_13 hP S => ?_)
    obtain ⟨Y2, hY2⟩ : ∃ z, z = lapp Y1 t17 := ⟨_, rfl⟩
    rw [← hY2] at hP
    obtain ⟨H, -⟩ := hP
    replace E_o73 := H.1
    show Wp n0 p e _ s below _ T (mkF m 109 #[.val (.int x0), .val (.int x1), .val (.int x2), .val (.int x3), .val (.int t2), .val (.int t17), .val (.int t29), .val (.int t49), .val (.int (1 : Int32)), .val (.ref o73), .unset] [])
    refine iload K S rfl d0_109 ?_
    refine iconst K S (x := (3 : Int32)) rfl d0_111 ?_
    refine icmpz_lt K S d0_112 (fun (c112 : t49.toInt < 3) => ?_) (fun (c112 : ¬ t49.toInt < 3) => ?_)
    · exfalso; omega
    refine aload K S rfl rfl d0_115 ?_
    refine iload K S rfl d0_117 ?_
    refine callV K S (W := 0) (m_append l Z a0 hw n0 o73 u w t29 Y2 h106_13 (Sle S) D H (by subst hY2 hY1 hi hj hk; exact (own_l3 i j k nij nik njk).2.2.1)) E_o73 (hwi hw 19 rfl) (hwi hw 20 rfl) (hwi hw 22 rfl) (hwi hw 21 rfl) (hwi hw 23 rfl) (hwi hw 3 rfl) (by decide) (by decide) (by decide) (by decide) (by decide) rfl (argsL := [.int t29]) rfl (lenOf pd_3 rfl) (rest := []) rfl (Nat.le_of_eq rfl) d0_119 (ef fun T h119_14 hP S => ?_)
    obtain ⟨Y3, hY3⟩ : ∃ z, z = lapp Y2 t29 := ⟨_, rfl⟩
    rw [← hY3] at hP
    obtain ⟨H, -⟩ := hP
    replace E_o73 := H.1
    show Wp n0 p e _ s below _ T (mkF m 122 #[.val (.int x0), .val (.int x1), .val (.int x2), .val (.int x3), .val (.int t2), .val (.int t17), .val (.int t29), .val (.int t49), .val (.int (1 : Int32)), .val (.ref o73), .unset] [])
    refine iload K S rfl d0_122 ?_
    refine ificz_eq K S d0_124 (fun (c124 : 1 = 0) => ?_) (fun (c124 : ¬ 1 = 0) => ?_)
    · exact absurd c124 (by decide)
    refine aload K S rfl rfl d0_127 ?_
    refine iload K S rfl d0_129 ?_
    refine callV K S (W := 0) (m_unlink l Z a0 hw n0 o73 u w t17 Y3 h119_14 (Sle S) D H (by subst hY3 hY2 hY1 hi hj hk; exact (own_l3 i j k nij nik njk).2.2.2.1)) E_o73 (hwi hw 38 rfl) (hwi hw 39 rfl) (hwi hw 41 rfl) (hwi hw 40 rfl) (hwi hw 42 rfl) (hwi hw 3 rfl) (by decide) (by decide) (by decide) (by decide) (by decide) rfl (argsL := [.int t17]) rfl (lenOf pd_7 rfl) (rest := []) rfl (Nat.le_of_eq rfl) d0_131 (ef fun T h131_15 hP S => ?_)
    obtain ⟨Y4, hY4⟩ : ∃ z, z = lunl Y3 t17 := ⟨_, rfl⟩
    rw [← hY4] at hP
    obtain ⟨H, -⟩ := hP
    replace E_o73 := H.1
    show Wp n0 p e _ s below _ T (mkF m 134 #[.val (.int x0), .val (.int x1), .val (.int x2), .val (.int x3), .val (.int t2), .val (.int t17), .val (.int t29), .val (.int t49), .val (.int (1 : Int32)), .val (.ref o73), .unset] [])
    refine iload K S rfl d0_134 ?_
    refine ificz_ne K S d0_136 (fun (c136 : ¬ t49.toInt = 0) => ?_) (fun (c136 : t49.toInt = 0) => ?_)
    rotate_left
    · exfalso; omega
    refine aload K S rfl rfl d0_154 ?_
    refine callV K S (W := 0) (m_first l Z a0 hw n0 o73 u w Y4 h131_15 (Sle S) H) E_o73 (hwi hw 28 rfl) (hwi hw 29 rfl) (hwi hw 31 rfl) (hwi hw 30 rfl) (hwi hw 32 rfl) (hwi hw 3 rfl) (by decide) (by decide) (by decide) (by decide) (by decide) rfl (argsL := []) rfl (lenOf pd_5 rfl) (rest := []) rfl (Nat.le_of_eq rfl) d0_156 (pu fun T S => ?_)
    show Wp n0 p e _ s below _ T (mkF m 159 #[.val (.int x0), .val (.int x1), .val (.int x2), .val (.int x3), .val (.int t2), .val (.int t17), .val (.int t29), .val (.int t49), .val (.int (1 : Int32)), .val (.ref o73), .unset] [.int (Y4.2.2.1)])
    refine iload K S rfl d0_159 ?_
    refine icmpz_ne K S d0_161 (fun (c161 : ¬ (Y4.2.2.1).toInt = t2.toInt) => ?_) (fun (c161 : (Y4.2.2.1).toInt = t2.toInt) => ?_)
    · exact (c161 (congrArg Int32.toInt (show Y4.2.2.1 = t2 from (by subst hY4 hY3 hY2 hY1 hi hj hk; exact (own_l3 i j k nij nik njk).2.2.2.2.2.2.2.1)))).elim
    refine iconst K S (x := (1 : Int32)) rfl d0_164 ?_
    refine goto K S d0_165 ?_
    refine istore K S (l' := #[.val (.int x0), .val (.int x1), .val (.int x2), .val (.int x3), .val (.int t2), .val (.int t17), .val (.int t29), .val (.int t49), .val (.int (1 : Int32)), .val (.ref o73), .val (.int (1 : Int32))]) rfl d0_169 ?_
    refine iload K S rfl d0_171 ?_
    refine iconst K S (x := (1 : Int32)) rfl d0_173 ?_
    refine icmpz_ne K S d0_174 (fun (c174 : ¬ t49.toInt = 1) => ?_) (fun (c174 : t49.toInt = 1) => ?_)
    rotate_left
    · exfalso; omega
    refine iload K S rfl d0_199 ?_
    refine iconst K S (x := (2 : Int32)) rfl d0_201 ?_
    refine icmpz_ne K S d0_202 (fun (c202 : ¬ t49.toInt = 2) => ?_) (fun (c202 : t49.toInt = 2) => ?_)
    rotate_left
    · exfalso; omega
    refine iload K S rfl d0_239 ?_
    refine ificz_eq K S d0_241 (fun (c241 : 1 = 0) => ?_) (fun (c241 : ¬ 1 = 0) => ?_)
    · exact absurd c241 (by decide)
    refine iload K S rfl d0_244 ?_
    refine ificz_eq K S d0_246 (fun (c246 : 1 = 0) => ?_) (fun (c246 : ¬ 1 = 0) => ?_)
    · exact absurd c246 (by decide)
    refine aload K S rfl rfl d0_249 ?_
    refine iload K S rfl d0_251 ?_
    refine callV K S (W := 0) (m_next l Z a0 hw n0 o73 u w t2 Y4 h131_15 (Sle S) H (by subst hY4 hY3 hY2 hY1 hi hj hk; exact (own_l3 i j k nij nik njk).2.2.2.2.2.2.2.2.2.2.2.2.2.2.1)) E_o73 (hwi hw 33 rfl) (hwi hw 34 rfl) (hwi hw 36 rfl) (hwi hw 35 rfl) (hwi hw 37 rfl) (hwi hw 3 rfl) (by decide) (by decide) (by decide) (by decide) (by decide) rfl (argsL := [.int t2]) rfl (lenOf pd_6 rfl) (rest := []) rfl (Nat.le_of_eq rfl) d0_253 (pu fun T S => ?_)
    show Wp n0 p e _ s below _ T (mkF m 256 #[.val (.int x0), .val (.int x1), .val (.int x2), .val (.int x3), .val (.int t2), .val (.int t17), .val (.int t29), .val (.int t49), .val (.int (1 : Int32)), .val (.ref o73), .val (.int (1 : Int32))] [.int (lget Y4.2.1 t2)])
    refine iload K S rfl d0_256 ?_
    refine icmpz_ne K S d0_258 (fun (c258 : ¬ (lget Y4.2.1 t2).toInt = t29.toInt) => ?_) (fun (c258 : (lget Y4.2.1 t2).toInt = t29.toInt) => ?_)
    · exact (c258 (congrArg Int32.toInt (show lget Y4.2.1 t2 = t29 from (by subst hY4 hY3 hY2 hY1 hi hj hk; exact (own_l3 i j k nij nik njk).2.2.2.2.2.2.2.2.2.2.2.2.2.2.2.2.2.2.2.2.2.2.1)))).elim
    refine aload K S rfl rfl d0_261 ?_
    refine iload K S rfl d0_263 ?_
    refine callV K S (W := 0) (m_next l Z a0 hw n0 o73 u w t29 Y4 h131_15 (Sle S) H (by subst hY4 hY3 hY2 hY1 hi hj hk; exact (own_l3 i j k nij nik njk).2.2.2.2.2.2.2.2.2.2.2.2.2.2.2.1)) E_o73 (hwi hw 33 rfl) (hwi hw 34 rfl) (hwi hw 36 rfl) (hwi hw 35 rfl) (hwi hw 37 rfl) (hwi hw 3 rfl) (by decide) (by decide) (by decide) (by decide) (by decide) rfl (argsL := [.int t29]) rfl (lenOf pd_6 rfl) (rest := []) rfl (Nat.le_of_eq rfl) d0_265 (pu fun T S => ?_)
    show Wp n0 p e _ s below _ T (mkF m 268 #[.val (.int x0), .val (.int x1), .val (.int x2), .val (.int x3), .val (.int t2), .val (.int t17), .val (.int t29), .val (.int t49), .val (.int (1 : Int32)), .val (.ref o73), .val (.int (1 : Int32))] [.int (lget Y4.2.1 t29)])
    refine iconst K S (x := (-1 : Int32)) rfl d0_268 ?_
    refine icmpz_ne K S d0_269 (fun (c269 : ¬ (lget Y4.2.1 t29).toInt = (-1)) => ?_) (fun (c269 : (lget Y4.2.1 t29).toInt = (-1)) => ?_)
    · exact (c269 (congrArg Int32.toInt (show lget Y4.2.1 t29 = (-1 : Int32) from (by subst hY4 hY3 hY2 hY1 hi hj hk; exact (own_l3 i j k nij nik njk).2.2.2.2.2.2.2.2.2.2.2.2.2.2.2.2.2.2.2.2.2.2.2)))).elim
    refine iconst K S (x := (1 : Int32)) rfl d0_272 ?_
    refine goto K S d0_273 ?_
    refine retn K S (by simp) (y := (1 : Int32)) rfl (by decide) (by decide) d0_277 ?_
    rfl
  refine iload K S rfl d0_39 ?_
  refine iconst K S (x := (1 : Int32)) rfl d0_41 ?_
  refine iadd K S d0_42 ?_
  refine nmI fun t42 ht42 => ?_
  have ft42 : (t42.toInt - (t29.toInt + 1)) % 4294967296 = 0 := by rw [ht42]; exact c_iadd t29 (1 : Int32)
  have rt42 := rng32 t42
  refine iconst K S (x := (3 : Int32)) rfl d0_43 ?_
  refine iand K S d0_44 ?_
  refine nmI fun t44 ht44 => ?_
  have ft44 : t44.toInt = t42.toInt % 4 := by rw [ht44]; exact c_mask t42 (3 : Int32) 2 (by decide) (by decide)
  have rt44 := rng32 t44
  refine istore K S (l' := #[.val (.int x0), .val (.int x1), .val (.int x2), .val (.int x3), .val (.int t2), .val (.int t17), .val (.int t44), .unset, .unset, .unset, .unset]) rfl d0_45 ?_
  obtain ⟨i, hi, vi⟩ := own_fin 4 (by decide) t2 (by omega) (by omega)
  obtain ⟨j, hj, vj⟩ := own_fin 4 (by decide) t17 (by omega) (by omega)
  obtain ⟨k, hk, vk⟩ := own_fin 4 (by decide) t44 (by omega) (by omega)
  have nij : i ≠ j := fun q => by rw [q] at vi; omega
  have nik : i ≠ k := fun q => by rw [q] at vi; omega
  have njk : j ≠ k := fun q => by rw [q] at vj; omega
  refine iload_n K S rfl d0_47 ?_
  refine iconst K S (x := (3 : Int32)) rfl d0_48 ?_
  refine iand K S d0_49 ?_
  refine nmI fun t49 ht49 => ?_
  have ft49 : t49.toInt = x3.toInt % 4 := by rw [ht49]; exact c_mask x3 (3 : Int32) 2 (by decide) (by decide)
  have rt49 := rng32 t49
  refine istore K S (l' := #[.val (.int x0), .val (.int x1), .val (.int x2), .val (.int x3), .val (.int t2), .val (.int t17), .val (.int t44), .val (.int t49), .unset, .unset, .unset]) rfl d0_50 ?_
  refine iload_n K S rfl d0_52 ?_
  refine iconst K S (x := (2 : Int32)) rfl d0_53 ?_
  refine ishr K S d0_54 ?_
  refine nmI fun t54 ht54 => ?_
  have ft54 : t54.toInt = x3.toInt / 4 := by rw [ht54]; exact c_ishr x3 (2 : Int32) 2 (by decide)
  have rt54 := rng32 t54
  refine iconst K S (x := (1 : Int32)) rfl d0_55 ?_
  refine iand K S d0_56 ?_
  refine nmI fun t56 ht56 => ?_
  have ft56 : t56.toInt = t54.toInt % 2 := by rw [ht56]; exact c_mask t54 (1 : Int32) 1 (by decide) (by decide)
  have rt56 := rng32 t56
  refine ificz_eq K S d0_57 (fun (c57 : t56.toInt = 0) => ?_) (fun (c57 : ¬ t56.toInt = 0) => ?_)
  · refine iconst K S (x := (0 : Int32)) rfl d0_70 ?_
    refine istore K S (l' := #[.val (.int x0), .val (.int x1), .val (.int x2), .val (.int x3), .val (.int t2), .val (.int t17), .val (.int t44), .val (.int t49), .val (.int (0 : Int32)), .unset, .unset]) rfl d0_71 ?_
    refine new K S (hwi hw 1 rfl) (hwi hw 2 rfl) (hwi hw 3 rfl) (by decide) (by decide) d0_73 fun T h73_16 o73 z_o73 g_o73 X E_o73 D S => ?_
    have F_head_o73 : Fld Z h73_16 o73 "com/example/ipseity/ipseity/table/Links" "head" "I" (.int (0 : Int32)) := D (Or.inl (hwi hw 11 rfl)) (ty := .int) (by decide)
    have F_tail_o73 : Fld Z h73_16 o73 "com/example/ipseity/ipseity/table/Links" "tail" "I" (.int (0 : Int32)) := D (Or.inl (hwi hw 13 rfl)) (ty := .int) (by decide)
    have F_before_o73 : Fld Z h73_16 o73 "com/example/ipseity/ipseity/table/Links" "before" "[I" (.null) := D (Or.inr (hwi hw 16 rfl)) (ty := .array .int) (by decide)
    have F_after_o73 : Fld Z h73_16 o73 "com/example/ipseity/ipseity/table/Links" "after" "[I" (.null) := D (Or.inr (hwi hw 18 rfl)) (ty := .array .int) (by decide)
    clear D X
    refine dup K S rfl d0_76 ?_
    refine iconst K S (x := (4 : Int32)) rfl d0_77 ?_
    refine callC K S (W := 1) (m_init l Z a0 hw n0 o73 h73_16 (Sle S) g_o73 E_o73 F_before_o73 F_after_o73 F_head_o73 F_tail_o73) rfl rfl (hwi hw 4 rfl) (hwi hw 5 rfl) (hwi hw 6 rfl) (hwi hw 3 rfl) (by decide) (by decide) (by decide) (by decide) (by decide) rfl (argsL := [.int (4 : Int32)]) rfl (lenOf pd_1 rfl) (rest := [.ref o73]) rfl (Nat.le_of_eq rfl) d0_78 (ef fun T h78_17 hP S => ?_)
    obtain ⟨u, w, D, H, -, -, -⟩ := hP
    replace E_o73 := H.1
    clear F_before_o73
    clear F_after_o73
    clear F_head_o73
    clear F_tail_o73
    show Wp n0 p e _ s below _ T (mkF m 81 #[.val (.int x0), .val (.int x1), .val (.int x2), .val (.int x3), .val (.int t2), .val (.int t17), .val (.int t44), .val (.int t49), .val (.int (0 : Int32)), .unset, .unset] [.ref o73])
    refine astore K S (l' := #[.val (.int x0), .val (.int x1), .val (.int x2), .val (.int x3), .val (.int t2), .val (.int t17), .val (.int t44), .val (.int t49), .val (.int (0 : Int32)), .val (.ref o73), .unset]) rfl rfl d0_81 ?_
    refine iload K S rfl d0_83 ?_
    refine iconst K S (x := (1 : Int32)) rfl d0_85 ?_
    refine icmpz_lt K S d0_86 (fun (c86 : t49.toInt < 1) => ?_) (fun (c86 : ¬ t49.toInt < 1) => ?_)
    · refine iload K S rfl d0_96 ?_
      refine iconst K S (x := (2 : Int32)) rfl d0_98 ?_
      refine icmpz_lt K S d0_99 (fun (c99 : t49.toInt < 2) => ?_) (fun (c99 : ¬ t49.toInt < 2) => ?_)
      rotate_left
      · exfalso; omega
      refine iload K S rfl d0_109 ?_
      refine iconst K S (x := (3 : Int32)) rfl d0_111 ?_
      refine icmpz_lt K S d0_112 (fun (c112 : t49.toInt < 3) => ?_) (fun (c112 : ¬ t49.toInt < 3) => ?_)
      rotate_left
      · exfalso; omega
      refine iload K S rfl d0_122 ?_
      refine ificz_eq K S d0_124 (fun (c124 : 0 = 0) => ?_) (fun (c124 : ¬ 0 = 0) => ?_)
      rotate_left
      · exact absurd c124 (by decide)
      refine iload K S rfl d0_134 ?_
      refine ificz_ne K S d0_136 (fun (c136 : ¬ t49.toInt = 0) => ?_) (fun (c136 : t49.toInt = 0) => ?_)
      · exfalso; omega
      refine aload K S rfl rfl d0_139 ?_
      refine callV K S (W := 0) (m_first l Z a0 hw n0 o73 u w T0 h78_17 (Sle S) H) E_o73 (hwi hw 28 rfl) (hwi hw 29 rfl) (hwi hw 31 rfl) (hwi hw 30 rfl) (hwi hw 32 rfl) (hwi hw 3 rfl) (by decide) (by decide) (by decide) (by decide) (by decide) rfl (argsL := []) rfl (lenOf pd_5 rfl) (rest := []) rfl (Nat.le_of_eq rfl) d0_141 (pu fun T S => ?_)
      show Wp n0 p e _ s below _ T (mkF m 144 #[.val (.int x0), .val (.int x1), .val (.int x2), .val (.int x3), .val (.int t2), .val (.int t17), .val (.int t44), .val (.int t49), .val (.int (0 : Int32)), .val (.ref o73), .unset] [.int (T0.2.2.1)])
      refine iconst K S (x := (-1 : Int32)) rfl d0_144 ?_
      refine icmpz_ne K S d0_145 (fun (c145 : ¬ (T0.2.2.1).toInt = (-1)) => ?_) (fun (c145 : (T0.2.2.1).toInt = (-1)) => ?_)
      · exact absurd rfl c145
      refine iconst K S (x := (1 : Int32)) rfl d0_148 ?_
      refine goto K S d0_149 ?_
      refine retn K S (by simp) (y := (1 : Int32)) rfl (by decide) (by decide) d0_153 ?_
      rfl
    refine aload K S rfl rfl d0_89 ?_
    refine iload K S rfl d0_91 ?_
    refine callV K S (W := 0) (m_append l Z a0 hw n0 o73 u w t2 T0 h78_17 (Sle S) D H (by subst hi hj hk; exact (own_l3 i j k nij nik njk).1)) E_o73 (hwi hw 19 rfl) (hwi hw 20 rfl) (hwi hw 22 rfl) (hwi hw 21 rfl) (hwi hw 23 rfl) (hwi hw 3 rfl) (by decide) (by decide) (by decide) (by decide) (by decide) rfl (argsL := [.int t2]) rfl (lenOf pd_3 rfl) (rest := []) rfl (Nat.le_of_eq rfl) d0_93 (ef fun T h93_18 hP S => ?_)
    obtain ⟨Y1, hY1⟩ : ∃ z, z = lapp T0 t2 := ⟨_, rfl⟩
    rw [← hY1] at hP
    obtain ⟨H, -⟩ := hP
    replace E_o73 := H.1
    show Wp n0 p e _ s below _ T (mkF m 96 #[.val (.int x0), .val (.int x1), .val (.int x2), .val (.int x3), .val (.int t2), .val (.int t17), .val (.int t44), .val (.int t49), .val (.int (0 : Int32)), .val (.ref o73), .unset] [])
    refine iload K S rfl d0_96 ?_
    refine iconst K S (x := (2 : Int32)) rfl d0_98 ?_
    refine icmpz_lt K S d0_99 (fun (c99 : t49.toInt < 2) => ?_) (fun (c99 : ¬ t49.toInt < 2) => ?_)
    · refine iload K S rfl d0_109 ?_
      refine iconst K S (x := (3 : Int32)) rfl d0_111 ?_
      refine icmpz_lt K S d0_112 (fun (c112 : t49.toInt < 3) => ?_) (fun (c112 : ¬ t49.toInt < 3) => ?_)
      rotate_left
      · exfalso; omega
      refine iload K S rfl d0_122 ?_
      refine ificz_eq K S d0_124 (fun (c124 : 0 = 0) => ?_) (fun (c124 : ¬ 0 = 0) => ?_)
      rotate_left
      · exact absurd c124 (by decide)
      refine iload K S rfl d0_134 ?_
      refine ificz_ne K S d0_136 (fun (c136 : ¬ t49.toInt = 0) => ?_) (fun (c136 : t49.toInt = 0) => ?_)
      rotate_left
      · exfalso; omega
      refine aload K S rfl rfl d0_154 ?_
      refine callV K S (W := 0) (m_first l Z a0 hw n0 o73 u w Y1 h93_18 (Sle S) H) E_o73 (hwi hw 28 rfl) (hwi hw 29 rfl) (hwi hw 31 rfl) (hwi hw 30 rfl) (hwi hw 32 rfl) (hwi hw 3 rfl) (by decide) (by decide) (by decide) (by decide) (by decide) rfl (argsL := []) rfl (lenOf pd_5 rfl) (rest := []) rfl (Nat.le_of_eq rfl) d0_156 (pu fun T S => ?_)
      show Wp n0 p e _ s below _ T (mkF m 159 #[.val (.int x0), .val (.int x1), .val (.int x2), .val (.int x3), .val (.int t2), .val (.int t17), .val (.int t44), .val (.int t49), .val (.int (0 : Int32)), .val (.ref o73), .unset] [.int (Y1.2.2.1)])
      refine iload K S rfl d0_159 ?_
      refine icmpz_ne K S d0_161 (fun (c161 : ¬ (Y1.2.2.1).toInt = t2.toInt) => ?_) (fun (c161 : (Y1.2.2.1).toInt = t2.toInt) => ?_)
      · exact (c161 (congrArg Int32.toInt (show Y1.2.2.1 = t2 from (by subst hY1 hi hj hk; exact (own_l3 i j k nij nik njk).2.2.2.2.1)))).elim
      refine iconst K S (x := (1 : Int32)) rfl d0_164 ?_
      refine goto K S d0_165 ?_
      refine istore K S (l' := #[.val (.int x0), .val (.int x1), .val (.int x2), .val (.int x3), .val (.int t2), .val (.int t17), .val (.int t44), .val (.int t49), .val (.int (0 : Int32)), .val (.ref o73), .val (.int (1 : Int32))]) rfl d0_169 ?_
      refine iload K S rfl d0_171 ?_
      refine iconst K S (x := (1 : Int32)) rfl d0_173 ?_
      refine icmpz_ne K S d0_174 (fun (c174 : ¬ t49.toInt = 1) => ?_) (fun (c174 : t49.toInt = 1) => ?_)
      · exfalso; omega
      refine iload K S rfl d0_177 ?_
      refine ificz_eq K S d0_179 (fun (c179 : 1 = 0) => ?_) (fun (c179 : ¬ 1 = 0) => ?_)
      · exact absurd c179 (by decide)
      refine aload K S rfl rfl d0_182 ?_
      refine iload K S rfl d0_184 ?_
      refine callV K S (W := 0) (m_next l Z a0 hw n0 o73 u w t2 Y1 h93_18 (Sle S) H (by subst hY1 hi hj hk; exact (own_l3 i j k nij nik njk).2.2.2.2.2.2.2.2.1)) E_o73 (hwi hw 33 rfl) (hwi hw 34 rfl) (hwi hw 36 rfl) (hwi hw 35 rfl) (hwi hw 37 rfl) (hwi hw 3 rfl) (by decide) (by decide) (by decide) (by decide) (by decide) rfl (argsL := [.int t2]) rfl (lenOf pd_6 rfl) (rest := []) rfl (Nat.le_of_eq rfl) d0_186 (pu fun T S => ?_)
      show Wp n0 p e _ s below _ T (mkF m 189 #[.val (.int x0), .val (.int x1), .val (.int x2), .val (.int x3), .val (.int t2), .val (.int t17), .val (.int t44), .val (.int t49), .val (.int (0 : Int32)), .val (.ref o73), .val (.int (1 : Int32))] [.int (lget Y1.2.1 t2)])
      refine iconst K S (x := (-1 : Int32)) rfl d0_189 ?_
      refine icmpz_ne K S d0_190 (fun (c190 : ¬ (lget Y1.2.1 t2).toInt = (-1)) => ?_) (fun (c190 : (lget Y1.2.1 t2).toInt = (-1)) => ?_)
      · exact (c190 (congrArg Int32.toInt (show lget Y1.2.1 t2 = (-1 : Int32) from (by subst hY1 hi hj hk; exact (own_l3 i j k nij nik njk).2.2.2.2.2.2.2.2.2.2.2.2.2.2.2.2.1)))).elim
      refine iconst K S (x := (1 : Int32)) rfl d0_193 ?_
      refine goto K S d0_194 ?_
      refine retn K S (by simp) (y := (1 : Int32)) rfl (by decide) (by decide) d0_198 ?_
      rfl
    refine aload K S rfl rfl d0_102 ?_
    refine iload K S rfl d0_104 ?_
    refine callV K S (W := 0) (m_append l Z a0 hw n0 o73 u w t17 Y1 h93_18 (Sle S) D H (by subst hY1 hi hj hk; exact (own_l3 i j k nij nik njk).2.1)) E_o73 (hwi hw 19 rfl) (hwi hw 20 rfl) (hwi hw 22 rfl) (hwi hw 21 rfl) (hwi hw 23 rfl) (hwi hw 3 rfl) (by decide) (by decide) (by decide) (by decide) (by decide) rfl (argsL := [.int t17]) rfl (lenOf pd_3 rfl) (rest := []) rfl (Nat.le_of_eq rfl) d0_106 (ef fun T h106_19 hP S => ?_)
    obtain ⟨Y2, hY2⟩ : ∃ z, z = lapp Y1 t17 := ⟨_, rfl⟩
    rw [← hY2] at hP
    obtain ⟨H, -⟩ := hP
    replace E_o73 := H.1
    show Wp n0 p e _ s below _ T (mkF m 109 #[.val (.int x0), .val (.int x1), .val (.int x2), .val (.int x3), .val (.int t2), .val (.int t17), .val (.int t44), .val (.int t49), .val (.int (0 : Int32)), .val (.ref o73), .unset] [])
    refine iload K S rfl d0_109 ?_
    refine iconst K S (x := (3 : Int32)) rfl d0_111 ?_
    refine icmpz_lt K S d0_112 (fun (c112 : t49.toInt < 3) => ?_) (fun (c112 : ¬ t49.toInt < 3) => ?_)
    · refine iload K S rfl d0_122 ?_
      refine ificz_eq K S d0_124 (fun (c124 : 0 = 0) => ?_) (fun (c124 : ¬ 0 = 0) => ?_)
      rotate_left
      · exact absurd c124 (by decide)
      refine iload K S rfl d0_134 ?_
      refine ificz_ne K S d0_136 (fun (c136 : ¬ t49.toInt = 0) => ?_) (fun (c136 : t49.toInt = 0) => ?_)
      rotate_left
      · exfalso; omega
      refine aload K S rfl rfl d0_154 ?_
      refine callV K S (W := 0) (m_first l Z a0 hw n0 o73 u w Y2 h106_19 (Sle S) H) E_o73 (hwi hw 28 rfl) (hwi hw 29 rfl) (hwi hw 31 rfl) (hwi hw 30 rfl) (hwi hw 32 rfl) (hwi hw 3 rfl) (by decide) (by decide) (by decide) (by decide) (by decide) rfl (argsL := []) rfl (lenOf pd_5 rfl) (rest := []) rfl (Nat.le_of_eq rfl) d0_156 (pu fun T S => ?_)
      show Wp n0 p e _ s below _ T (mkF m 159 #[.val (.int x0), .val (.int x1), .val (.int x2), .val (.int x3), .val (.int t2), .val (.int t17), .val (.int t44), .val (.int t49), .val (.int (0 : Int32)), .val (.ref o73), .unset] [.int (Y2.2.2.1)])
      refine iload K S rfl d0_159 ?_
      refine icmpz_ne K S d0_161 (fun (c161 : ¬ (Y2.2.2.1).toInt = t2.toInt) => ?_) (fun (c161 : (Y2.2.2.1).toInt = t2.toInt) => ?_)
      · exact (c161 (congrArg Int32.toInt (show Y2.2.2.1 = t2 from (by subst hY2 hY1 hi hj hk; exact (own_l3 i j k nij nik njk).2.2.2.2.2.1)))).elim
      refine iconst K S (x := (1 : Int32)) rfl d0_164 ?_
      refine goto K S d0_165 ?_
      refine istore K S (l' := #[.val (.int x0), .val (.int x1), .val (.int x2), .val (.int x3), .val (.int t2), .val (.int t17), .val (.int t44), .val (.int t49), .val (.int (0 : Int32)), .val (.ref o73), .val (.int (1 : Int32))]) rfl d0_169 ?_
      refine iload K S rfl d0_171 ?_
      refine iconst K S (x := (1 : Int32)) rfl d0_173 ?_
      refine icmpz_ne K S d0_174 (fun (c174 : ¬ t49.toInt = 1) => ?_) (fun (c174 : t49.toInt = 1) => ?_)
      rotate_left
      · exfalso; omega
      refine iload K S rfl d0_199 ?_
      refine iconst K S (x := (2 : Int32)) rfl d0_201 ?_
      refine icmpz_ne K S d0_202 (fun (c202 : ¬ t49.toInt = 2) => ?_) (fun (c202 : t49.toInt = 2) => ?_)
      · exfalso; omega
      refine iload K S rfl d0_205 ?_
      refine ificz_eq K S d0_207 (fun (c207 : 1 = 0) => ?_) (fun (c207 : ¬ 1 = 0) => ?_)
      · exact absurd c207 (by decide)
      refine aload K S rfl rfl d0_210 ?_
      refine iload K S rfl d0_212 ?_
      refine callV K S (W := 0) (m_next l Z a0 hw n0 o73 u w t2 Y2 h106_19 (Sle S) H (by subst hY2 hY1 hi hj hk; exact (own_l3 i j k nij nik njk).2.2.2.2.2.2.2.2.2.1)) E_o73 (hwi hw 33 rfl) (hwi hw 34 rfl) (hwi hw 36 rfl) (hwi hw 35 rfl) (hwi hw 37 rfl) (hwi hw 3 rfl) (by decide) (by decide) (by decide) (by decide) (by decide) rfl (argsL := [.int t2]) rfl (lenOf pd_6 rfl) (rest := []) rfl (Nat.le_of_eq rfl) d0_214 (pu fun T S => ?_)
      show Wp n0 p e _ s below _ T (mkF m 217 #[.val (.int x0), .val (.int x1), .val (.int x2), .val (.int x3), .val (.int t2), .val (.int t17), .val (.int t44), .val (.int t49), .val (.int (0 : Int32)), .val (.ref o73), .val (.int (1 : Int32))] [.int (lget Y2.2.1 t2)])
      refine iload K S rfl d0_217 ?_
      refine icmpz_ne K S d0_219 (fun (c219 : ¬ (lget Y2.2.1 t2).toInt = t17.toInt) => ?_) (fun (c219 : (lget Y2.2.1 t2).toInt = t17.toInt) => ?_)
      · exact (c219 (congrArg Int32.toInt (show lget Y2.2.1 t2 = t17 from (by subst hY2 hY1 hi hj hk; exact (own_l3 i j k nij nik njk).2.2.2.2.2.2.2.2.2.2.2.2.2.2.2.2.2.1)))).elim
      refine aload K S rfl rfl d0_222 ?_
      refine iload K S rfl d0_224 ?_
      refine callV K S (W := 0) (m_next l Z a0 hw n0 o73 u w t17 Y2 h106_19 (Sle S) H (by subst hY2 hY1 hi hj hk; exact (own_l3 i j k nij nik njk).2.2.2.2.2.2.2.2.2.2.1)) E_o73 (hwi hw 33 rfl) (hwi hw 34 rfl) (hwi hw 36 rfl) (hwi hw 35 rfl) (hwi hw 37 rfl) (hwi hw 3 rfl) (by decide) (by decide) (by decide) (by decide) (by decide) rfl (argsL := [.int t17]) rfl (lenOf pd_6 rfl) (rest := []) rfl (Nat.le_of_eq rfl) d0_226 (pu fun T S => ?_)
      show Wp n0 p e _ s below _ T (mkF m 229 #[.val (.int x0), .val (.int x1), .val (.int x2), .val (.int x3), .val (.int t2), .val (.int t17), .val (.int t44), .val (.int t49), .val (.int (0 : Int32)), .val (.ref o73), .val (.int (1 : Int32))] [.int (lget Y2.2.1 t17)])
      refine iconst K S (x := (-1 : Int32)) rfl d0_229 ?_
      refine icmpz_ne K S d0_230 (fun (c230 : ¬ (lget Y2.2.1 t17).toInt = (-1)) => ?_) (fun (c230 : (lget Y2.2.1 t17).toInt = (-1)) => ?_)
      · exact (c230 (congrArg Int32.toInt (show lget Y2.2.1 t17 = (-1 : Int32) from (by subst hY2 hY1 hi hj hk; exact (own_l3 i j k nij nik njk).2.2.2.2.2.2.2.2.2.2.2.2.2.2.2.2.2.2.1)))).elim
      refine iconst K S (x := (1 : Int32)) rfl d0_233 ?_
      refine goto K S d0_234 ?_
      refine retn K S (by simp) (y := (1 : Int32)) rfl (by decide) (by decide) d0_238 ?_
      rfl
    refine aload K S rfl rfl d0_115 ?_
    refine iload K S rfl d0_117 ?_
    refine callV K S (W := 0) (m_append l Z a0 hw n0 o73 u w t44 Y2 h106_19 (Sle S) D H (by subst hY2 hY1 hi hj hk; exact (own_l3 i j k nij nik njk).2.2.1)) E_o73 (hwi hw 19 rfl) (hwi hw 20 rfl) (hwi hw 22 rfl) (hwi hw 21 rfl) (hwi hw 23 rfl) (hwi hw 3 rfl) (by decide) (by decide) (by decide) (by decide) (by decide) rfl (argsL := [.int t44]) rfl (lenOf pd_3 rfl) (rest := []) rfl (Nat.le_of_eq rfl) d0_119 (ef fun T h119_20 hP S => ?_)
    obtain ⟨Y3, hY3⟩ : ∃ z, z = lapp Y2 t44 := ⟨_, rfl⟩
    rw [← hY3] at hP
    obtain ⟨H, -⟩ := hP
    replace E_o73 := H.1
    show Wp n0 p e _ s below _ T (mkF m 122 #[.val (.int x0), .val (.int x1), .val (.int x2), .val (.int x3), .val (.int t2), .val (.int t17), .val (.int t44), .val (.int t49), .val (.int (0 : Int32)), .val (.ref o73), .unset] [])
    refine iload K S rfl d0_122 ?_
    refine ificz_eq K S d0_124 (fun (c124 : 0 = 0) => ?_) (fun (c124 : ¬ 0 = 0) => ?_)
    rotate_left
    · exact absurd c124 (by decide)
    refine iload K S rfl d0_134 ?_
    refine ificz_ne K S d0_136 (fun (c136 : ¬ t49.toInt = 0) => ?_) (fun (c136 : t49.toInt = 0) => ?_)
    rotate_left
    · exfalso; omega
    refine aload K S rfl rfl d0_154 ?_
    refine callV K S (W := 0) (m_first l Z a0 hw n0 o73 u w Y3 h119_20 (Sle S) H) E_o73 (hwi hw 28 rfl) (hwi hw 29 rfl) (hwi hw 31 rfl) (hwi hw 30 rfl) (hwi hw 32 rfl) (hwi hw 3 rfl) (by decide) (by decide) (by decide) (by decide) (by decide) rfl (argsL := []) rfl (lenOf pd_5 rfl) (rest := []) rfl (Nat.le_of_eq rfl) d0_156 (pu fun T S => ?_)
    show Wp n0 p e _ s below _ T (mkF m 159 #[.val (.int x0), .val (.int x1), .val (.int x2), .val (.int x3), .val (.int t2), .val (.int t17), .val (.int t44), .val (.int t49), .val (.int (0 : Int32)), .val (.ref o73), .unset] [.int (Y3.2.2.1)])
    refine iload K S rfl d0_159 ?_
    refine icmpz_ne K S d0_161 (fun (c161 : ¬ (Y3.2.2.1).toInt = t2.toInt) => ?_) (fun (c161 : (Y3.2.2.1).toInt = t2.toInt) => ?_)
    · exact (c161 (congrArg Int32.toInt (show Y3.2.2.1 = t2 from (by subst hY3 hY2 hY1 hi hj hk; exact (own_l3 i j k nij nik njk).2.2.2.2.2.2.1)))).elim
    refine iconst K S (x := (1 : Int32)) rfl d0_164 ?_
    refine goto K S d0_165 ?_
    refine istore K S (l' := #[.val (.int x0), .val (.int x1), .val (.int x2), .val (.int x3), .val (.int t2), .val (.int t17), .val (.int t44), .val (.int t49), .val (.int (0 : Int32)), .val (.ref o73), .val (.int (1 : Int32))]) rfl d0_169 ?_
    refine iload K S rfl d0_171 ?_
    refine iconst K S (x := (1 : Int32)) rfl d0_173 ?_
    refine icmpz_ne K S d0_174 (fun (c174 : ¬ t49.toInt = 1) => ?_) (fun (c174 : t49.toInt = 1) => ?_)
    rotate_left
    · exfalso; omega
    refine iload K S rfl d0_199 ?_
    refine iconst K S (x := (2 : Int32)) rfl d0_201 ?_
    refine icmpz_ne K S d0_202 (fun (c202 : ¬ t49.toInt = 2) => ?_) (fun (c202 : t49.toInt = 2) => ?_)
    rotate_left
    · exfalso; omega
    refine iload K S rfl d0_239 ?_
    refine ificz_eq K S d0_241 (fun (c241 : 0 = 0) => ?_) (fun (c241 : ¬ 0 = 0) => ?_)
    rotate_left
    · exact absurd c241 (by decide)
    refine iload K S rfl d0_278 ?_
    refine ificz_eq K S d0_280 (fun (c280 : 1 = 0) => ?_) (fun (c280 : ¬ 1 = 0) => ?_)
    · exact absurd c280 (by decide)
    refine aload K S rfl rfl d0_283 ?_
    refine iload K S rfl d0_285 ?_
    refine callV K S (W := 0) (m_next l Z a0 hw n0 o73 u w t2 Y3 h119_20 (Sle S) H (by subst hY3 hY2 hY1 hi hj hk; exact (own_l3 i j k nij nik njk).2.2.2.2.2.2.2.2.2.2.2.1)) E_o73 (hwi hw 33 rfl) (hwi hw 34 rfl) (hwi hw 36 rfl) (hwi hw 35 rfl) (hwi hw 37 rfl) (hwi hw 3 rfl) (by decide) (by decide) (by decide) (by decide) (by decide) rfl (argsL := [.int t2]) rfl (lenOf pd_6 rfl) (rest := []) rfl (Nat.le_of_eq rfl) d0_287 (pu fun T S => ?_)
    show Wp n0 p e _ s below _ T (mkF m 290 #[.val (.int x0), .val (.int x1), .val (.int x2), .val (.int x3), .val (.int t2), .val (.int t17), .val (.int t44), .val (.int t49), .val (.int (0 : Int32)), .val (.ref o73), .val (.int (1 : Int32))] [.int (lget Y3.2.1 t2)])
    refine iload K S rfl d0_290 ?_
    refine icmpz_ne K S d0_292 (fun (c292 : ¬ (lget Y3.2.1 t2).toInt = t17.toInt) => ?_) (fun (c292 : (lget Y3.2.1 t2).toInt = t17.toInt) => ?_)
    · exact (c292 (congrArg Int32.toInt (show lget Y3.2.1 t2 = t17 from (by subst hY3 hY2 hY1 hi hj hk; exact (own_l3 i j k nij nik njk).2.2.2.2.2.2.2.2.2.2.2.2.2.2.2.2.2.2.2.1)))).elim
    refine aload K S rfl rfl d0_295 ?_
    refine iload K S rfl d0_297 ?_
    refine callV K S (W := 0) (m_next l Z a0 hw n0 o73 u w t17 Y3 h119_20 (Sle S) H (by subst hY3 hY2 hY1 hi hj hk; exact (own_l3 i j k nij nik njk).2.2.2.2.2.2.2.2.2.2.2.2.1)) E_o73 (hwi hw 33 rfl) (hwi hw 34 rfl) (hwi hw 36 rfl) (hwi hw 35 rfl) (hwi hw 37 rfl) (hwi hw 3 rfl) (by decide) (by decide) (by decide) (by decide) (by decide) rfl (argsL := [.int t17]) rfl (lenOf pd_6 rfl) (rest := []) rfl (Nat.le_of_eq rfl) d0_299 (pu fun T S => ?_)
    show Wp n0 p e _ s below _ T (mkF m 302 #[.val (.int x0), .val (.int x1), .val (.int x2), .val (.int x3), .val (.int t2), .val (.int t17), .val (.int t44), .val (.int t49), .val (.int (0 : Int32)), .val (.ref o73), .val (.int (1 : Int32))] [.int (lget Y3.2.1 t17)])
    refine iload K S rfl d0_302 ?_
    refine icmpz_ne K S d0_304 (fun (c304 : ¬ (lget Y3.2.1 t17).toInt = t44.toInt) => ?_) (fun (c304 : (lget Y3.2.1 t17).toInt = t44.toInt) => ?_)
    · exact (c304 (congrArg Int32.toInt (show lget Y3.2.1 t17 = t44 from (by subst hY3 hY2 hY1 hi hj hk; exact (own_l3 i j k nij nik njk).2.2.2.2.2.2.2.2.2.2.2.2.2.2.2.2.2.2.2.2.1)))).elim
    refine aload K S rfl rfl d0_307 ?_
    refine iload K S rfl d0_309 ?_
    refine callV K S (W := 0) (m_next l Z a0 hw n0 o73 u w t44 Y3 h119_20 (Sle S) H (by subst hY3 hY2 hY1 hi hj hk; exact (own_l3 i j k nij nik njk).2.2.2.2.2.2.2.2.2.2.2.2.2.1)) E_o73 (hwi hw 33 rfl) (hwi hw 34 rfl) (hwi hw 36 rfl) (hwi hw 35 rfl) (hwi hw 37 rfl) (hwi hw 3 rfl) (by decide) (by decide) (by decide) (by decide) (by decide) rfl (argsL := [.int t44]) rfl (lenOf pd_6 rfl) (rest := []) rfl (Nat.le_of_eq rfl) d0_311 (pu fun T S => ?_)
    show Wp n0 p e _ s below _ T (mkF m 314 #[.val (.int x0), .val (.int x1), .val (.int x2), .val (.int x3), .val (.int t2), .val (.int t17), .val (.int t44), .val (.int t49), .val (.int (0 : Int32)), .val (.ref o73), .val (.int (1 : Int32))] [.int (lget Y3.2.1 t44)])
    refine iconst K S (x := (-1 : Int32)) rfl d0_314 ?_
    refine icmpz_ne K S d0_315 (fun (c315 : ¬ (lget Y3.2.1 t44).toInt = (-1)) => ?_) (fun (c315 : (lget Y3.2.1 t44).toInt = (-1)) => ?_)
    · exact (c315 (congrArg Int32.toInt (show lget Y3.2.1 t44 = (-1 : Int32) from (by subst hY3 hY2 hY1 hi hj hk; exact (own_l3 i j k nij nik njk).2.2.2.2.2.2.2.2.2.2.2.2.2.2.2.2.2.2.2.2.2.1)))).elim
    refine iconst K S (x := (1 : Int32)) rfl d0_318 ?_
    refine goto K S d0_319 ?_
    refine retn K S (by simp) (y := (1 : Int32)) rfl (by decide) (by decide) d0_323 ?_
    rfl
  refine iload K S rfl d0_60 ?_
  refine iconst K S (x := (3 : Int32)) rfl d0_62 ?_
  refine icmpz_ne K S d0_63 (fun (c63 : ¬ t49.toInt = 3) => ?_) (fun (c63 : t49.toInt = 3) => ?_)
  · refine iconst K S (x := (0 : Int32)) rfl d0_70 ?_
    refine istore K S (l' := #[.val (.int x0), .val (.int x1), .val (.int x2), .val (.int x3), .val (.int t2), .val (.int t17), .val (.int t44), .val (.int t49), .val (.int (0 : Int32)), .unset, .unset]) rfl d0_71 ?_
    refine new K S (hwi hw 1 rfl) (hwi hw 2 rfl) (hwi hw 3 rfl) (by decide) (by decide) d0_73 fun T h73_21 o73 z_o73 g_o73 X E_o73 D S => ?_
    have F_head_o73 : Fld Z h73_21 o73 "com/example/ipseity/ipseity/table/Links" "head" "I" (.int (0 : Int32)) := D (Or.inl (hwi hw 11 rfl)) (ty := .int) (by decide)
    have F_tail_o73 : Fld Z h73_21 o73 "com/example/ipseity/ipseity/table/Links" "tail" "I" (.int (0 : Int32)) := D (Or.inl (hwi hw 13 rfl)) (ty := .int) (by decide)
    have F_before_o73 : Fld Z h73_21 o73 "com/example/ipseity/ipseity/table/Links" "before" "[I" (.null) := D (Or.inr (hwi hw 16 rfl)) (ty := .array .int) (by decide)
    have F_after_o73 : Fld Z h73_21 o73 "com/example/ipseity/ipseity/table/Links" "after" "[I" (.null) := D (Or.inr (hwi hw 18 rfl)) (ty := .array .int) (by decide)
    clear D X
    refine dup K S rfl d0_76 ?_
    refine iconst K S (x := (4 : Int32)) rfl d0_77 ?_
    refine callC K S (W := 1) (m_init l Z a0 hw n0 o73 h73_21 (Sle S) g_o73 E_o73 F_before_o73 F_after_o73 F_head_o73 F_tail_o73) rfl rfl (hwi hw 4 rfl) (hwi hw 5 rfl) (hwi hw 6 rfl) (hwi hw 3 rfl) (by decide) (by decide) (by decide) (by decide) (by decide) rfl (argsL := [.int (4 : Int32)]) rfl (lenOf pd_1 rfl) (rest := [.ref o73]) rfl (Nat.le_of_eq rfl) d0_78 (ef fun T h78_22 hP S => ?_)
    obtain ⟨u, w, D, H, -, -, -⟩ := hP
    replace E_o73 := H.1
    clear F_before_o73
    clear F_after_o73
    clear F_head_o73
    clear F_tail_o73
    show Wp n0 p e _ s below _ T (mkF m 81 #[.val (.int x0), .val (.int x1), .val (.int x2), .val (.int x3), .val (.int t2), .val (.int t17), .val (.int t44), .val (.int t49), .val (.int (0 : Int32)), .unset, .unset] [.ref o73])
    refine astore K S (l' := #[.val (.int x0), .val (.int x1), .val (.int x2), .val (.int x3), .val (.int t2), .val (.int t17), .val (.int t44), .val (.int t49), .val (.int (0 : Int32)), .val (.ref o73), .unset]) rfl rfl d0_81 ?_
    refine iload K S rfl d0_83 ?_
    refine iconst K S (x := (1 : Int32)) rfl d0_85 ?_
    refine icmpz_lt K S d0_86 (fun (c86 : t49.toInt < 1) => ?_) (fun (c86 : ¬ t49.toInt < 1) => ?_)
    · refine iload K S rfl d0_96 ?_
      refine iconst K S (x := (2 : Int32)) rfl d0_98 ?_
      refine icmpz_lt K S d0_99 (fun (c99 : t49.toInt < 2) => ?_) (fun (c99 : ¬ t49.toInt < 2) => ?_)
      rotate_left
      · exfalso; omega
      refine iload K S rfl d0_109 ?_
      refine iconst K S (x := (3 : Int32)) rfl d0_111 ?_
      refine icmpz_lt K S d0_112 (fun (c112 : t49.toInt < 3) => ?_) (fun (c112 : ¬ t49.toInt < 3) => ?_)
      rotate_left
      · exfalso; omega
      refine iload K S rfl d0_122 ?_
      refine ificz_eq K S d0_124 (fun (c124 : 0 = 0) => ?_) (fun (c124 : ¬ 0 = 0) => ?_)
      rotate_left
      · exact absurd c124 (by decide)
      refine iload K S rfl d0_134 ?_
      refine ificz_ne K S d0_136 (fun (c136 : ¬ t49.toInt = 0) => ?_) (fun (c136 : t49.toInt = 0) => ?_)
      · exfalso; omega
      refine aload K S rfl rfl d0_139 ?_
      refine callV K S (W := 0) (m_first l Z a0 hw n0 o73 u w T0 h78_22 (Sle S) H) E_o73 (hwi hw 28 rfl) (hwi hw 29 rfl) (hwi hw 31 rfl) (hwi hw 30 rfl) (hwi hw 32 rfl) (hwi hw 3 rfl) (by decide) (by decide) (by decide) (by decide) (by decide) rfl (argsL := []) rfl (lenOf pd_5 rfl) (rest := []) rfl (Nat.le_of_eq rfl) d0_141 (pu fun T S => ?_)
      show Wp n0 p e _ s below _ T (mkF m 144 #[.val (.int x0), .val (.int x1), .val (.int x2), .val (.int x3), .val (.int t2), .val (.int t17), .val (.int t44), .val (.int t49), .val (.int (0 : Int32)), .val (.ref o73), .unset] [.int (T0.2.2.1)])
      refine iconst K S (x := (-1 : Int32)) rfl d0_144 ?_
      refine icmpz_ne K S d0_145 (fun (c145 : ¬ (T0.2.2.1).toInt = (-1)) => ?_) (fun (c145 : (T0.2.2.1).toInt = (-1)) => ?_)
      · exact absurd rfl c145
      refine iconst K S (x := (1 : Int32)) rfl d0_148 ?_
      refine goto K S d0_149 ?_
      refine retn K S (by simp) (y := (1 : Int32)) rfl (by decide) (by decide) d0_153 ?_
      rfl
    refine aload K S rfl rfl d0_89 ?_
    refine iload K S rfl d0_91 ?_
    refine callV K S (W := 0) (m_append l Z a0 hw n0 o73 u w t2 T0 h78_22 (Sle S) D H (by subst hi hj hk; exact (own_l3 i j k nij nik njk).1)) E_o73 (hwi hw 19 rfl) (hwi hw 20 rfl) (hwi hw 22 rfl) (hwi hw 21 rfl) (hwi hw 23 rfl) (hwi hw 3 rfl) (by decide) (by decide) (by decide) (by decide) (by decide) rfl (argsL := [.int t2]) rfl (lenOf pd_3 rfl) (rest := []) rfl (Nat.le_of_eq rfl) d0_93 (ef fun T h93_23 hP S => ?_)
    obtain ⟨Y1, hY1⟩ : ∃ z, z = lapp T0 t2 := ⟨_, rfl⟩
    rw [← hY1] at hP
    obtain ⟨H, -⟩ := hP
    replace E_o73 := H.1
    show Wp n0 p e _ s below _ T (mkF m 96 #[.val (.int x0), .val (.int x1), .val (.int x2), .val (.int x3), .val (.int t2), .val (.int t17), .val (.int t44), .val (.int t49), .val (.int (0 : Int32)), .val (.ref o73), .unset] [])
    refine iload K S rfl d0_96 ?_
    refine iconst K S (x := (2 : Int32)) rfl d0_98 ?_
    refine icmpz_lt K S d0_99 (fun (c99 : t49.toInt < 2) => ?_) (fun (c99 : ¬ t49.toInt < 2) => ?_)
    · refine iload K S rfl d0_109 ?_
      refine iconst K S (x := (3 : Int32)) rfl d0_111 ?_
      refine icmpz_lt K S d0_112 (fun (c112 : t49.toInt < 3) => ?_) (fun (c112 : ¬ t49.toInt < 3) => ?_)
      rotate_left
      · exfalso; omega
      refine iload K S rfl d0_122 ?_
      refine ificz_eq K S d0_124 (fun (c124 : 0 = 0) => ?_) (fun (c124 : ¬ 0 = 0) => ?_)
      rotate_left
      · exact absurd c124 (by decide)
      refine iload K S rfl d0_134 ?_
      refine ificz_ne K S d0_136 (fun (c136 : ¬ t49.toInt = 0) => ?_) (fun (c136 : t49.toInt = 0) => ?_)
      rotate_left
      · exfalso; omega
      refine aload K S rfl rfl d0_154 ?_
      refine callV K S (W := 0) (m_first l Z a0 hw n0 o73 u w Y1 h93_23 (Sle S) H) E_o73 (hwi hw 28 rfl) (hwi hw 29 rfl) (hwi hw 31 rfl) (hwi hw 30 rfl) (hwi hw 32 rfl) (hwi hw 3 rfl) (by decide) (by decide) (by decide) (by decide) (by decide) rfl (argsL := []) rfl (lenOf pd_5 rfl) (rest := []) rfl (Nat.le_of_eq rfl) d0_156 (pu fun T S => ?_)
      show Wp n0 p e _ s below _ T (mkF m 159 #[.val (.int x0), .val (.int x1), .val (.int x2), .val (.int x3), .val (.int t2), .val (.int t17), .val (.int t44), .val (.int t49), .val (.int (0 : Int32)), .val (.ref o73), .unset] [.int (Y1.2.2.1)])
      refine iload K S rfl d0_159 ?_
      refine icmpz_ne K S d0_161 (fun (c161 : ¬ (Y1.2.2.1).toInt = t2.toInt) => ?_) (fun (c161 : (Y1.2.2.1).toInt = t2.toInt) => ?_)
      · exact (c161 (congrArg Int32.toInt (show Y1.2.2.1 = t2 from (by subst hY1 hi hj hk; exact (own_l3 i j k nij nik njk).2.2.2.2.1)))).elim
      refine iconst K S (x := (1 : Int32)) rfl d0_164 ?_
      refine goto K S d0_165 ?_
      refine istore K S (l' := #[.val (.int x0), .val (.int x1), .val (.int x2), .val (.int x3), .val (.int t2), .val (.int t17), .val (.int t44), .val (.int t49), .val (.int (0 : Int32)), .val (.ref o73), .val (.int (1 : Int32))]) rfl d0_169 ?_
      refine iload K S rfl d0_171 ?_
      refine iconst K S (x := (1 : Int32)) rfl d0_173 ?_
      refine icmpz_ne K S d0_174 (fun (c174 : ¬ t49.toInt = 1) => ?_) (fun (c174 : t49.toInt = 1) => ?_)
      · exfalso; omega
      refine iload K S rfl d0_177 ?_
      refine ificz_eq K S d0_179 (fun (c179 : 1 = 0) => ?_) (fun (c179 : ¬ 1 = 0) => ?_)
      · exact absurd c179 (by decide)
      refine aload K S rfl rfl d0_182 ?_
      refine iload K S rfl d0_184 ?_
      refine callV K S (W := 0) (m_next l Z a0 hw n0 o73 u w t2 Y1 h93_23 (Sle S) H (by subst hY1 hi hj hk; exact (own_l3 i j k nij nik njk).2.2.2.2.2.2.2.2.1)) E_o73 (hwi hw 33 rfl) (hwi hw 34 rfl) (hwi hw 36 rfl) (hwi hw 35 rfl) (hwi hw 37 rfl) (hwi hw 3 rfl) (by decide) (by decide) (by decide) (by decide) (by decide) rfl (argsL := [.int t2]) rfl (lenOf pd_6 rfl) (rest := []) rfl (Nat.le_of_eq rfl) d0_186 (pu fun T S => ?_)
      show Wp n0 p e _ s below _ T (mkF m 189 #[.val (.int x0), .val (.int x1), .val (.int x2), .val (.int x3), .val (.int t2), .val (.int t17), .val (.int t44), .val (.int t49), .val (.int (0 : Int32)), .val (.ref o73), .val (.int (1 : Int32))] [.int (lget Y1.2.1 t2)])
      refine iconst K S (x := (-1 : Int32)) rfl d0_189 ?_
      refine icmpz_ne K S d0_190 (fun (c190 : ¬ (lget Y1.2.1 t2).toInt = (-1)) => ?_) (fun (c190 : (lget Y1.2.1 t2).toInt = (-1)) => ?_)
      · exact (c190 (congrArg Int32.toInt (show lget Y1.2.1 t2 = (-1 : Int32) from (by subst hY1 hi hj hk; exact (own_l3 i j k nij nik njk).2.2.2.2.2.2.2.2.2.2.2.2.2.2.2.2.1)))).elim
      refine iconst K S (x := (1 : Int32)) rfl d0_193 ?_
      refine goto K S d0_194 ?_
      refine retn K S (by simp) (y := (1 : Int32)) rfl (by decide) (by decide) d0_198 ?_
      rfl
    refine aload K S rfl rfl d0_102 ?_
    refine iload K S rfl d0_104 ?_
    refine callV K S (W := 0) (m_append l Z a0 hw n0 o73 u w t17 Y1 h93_23 (Sle S) D H (by subst hY1 hi hj hk; exact (own_l3 i j k nij nik njk).2.1)) E_o73 (hwi hw 19 rfl) (hwi hw 20 rfl) (hwi hw 22 rfl) (hwi hw 21 rfl) (hwi hw 23 rfl) (hwi hw 3 rfl) (by decide) (by decide) (by decide) (by decide) (by decide) rfl (argsL := [.int t17]) rfl (lenOf pd_3 rfl) (rest := []) rfl (Nat.le_of_eq rfl) d0_106 (ef fun T h106_24 hP S => ?_)
    obtain ⟨Y2, hY2⟩ : ∃ z, z = lapp Y1 t17 := ⟨_, rfl⟩
    rw [← hY2] at hP
    obtain ⟨H, -⟩ := hP
    replace E_o73 := H.1
    show Wp n0 p e _ s below _ T (mkF m 109 #[.val (.int x0), .val (.int x1), .val (.int x2), .val (.int x3), .val (.int t2), .val (.int t17), .val (.int t44), .val (.int t49), .val (.int (0 : Int32)), .val (.ref o73), .unset] [])
    refine iload K S rfl d0_109 ?_
    refine iconst K S (x := (3 : Int32)) rfl d0_111 ?_
    refine icmpz_lt K S d0_112 (fun (c112 : t49.toInt < 3) => ?_) (fun (c112 : ¬ t49.toInt < 3) => ?_)
    rotate_left
    · exfalso; omega
    refine iload K S rfl d0_122 ?_
    refine ificz_eq K S d0_124 (fun (c124 : 0 = 0) => ?_) (fun (c124 : ¬ 0 = 0) => ?_)
    rotate_left
    · exact absurd c124 (by decide)
    refine iload K S rfl d0_134 ?_
    refine ificz_ne K S d0_136 (fun (c136 : ¬ t49.toInt = 0) => ?_) (fun (c136 : t49.toInt = 0) => ?_)
    rotate_left
    · exfalso; omega
    refine aload K S rfl rfl d0_154 ?_
    refine callV K S (W := 0) (m_first l Z a0 hw n0 o73 u w Y2 h106_24 (Sle S) H) E_o73 (hwi hw 28 rfl) (hwi hw 29 rfl) (hwi hw 31 rfl) (hwi hw 30 rfl) (hwi hw 32 rfl) (hwi hw 3 rfl) (by decide) (by decide) (by decide) (by decide) (by decide) rfl (argsL := []) rfl (lenOf pd_5 rfl) (rest := []) rfl (Nat.le_of_eq rfl) d0_156 (pu fun T S => ?_)
    show Wp n0 p e _ s below _ T (mkF m 159 #[.val (.int x0), .val (.int x1), .val (.int x2), .val (.int x3), .val (.int t2), .val (.int t17), .val (.int t44), .val (.int t49), .val (.int (0 : Int32)), .val (.ref o73), .unset] [.int (Y2.2.2.1)])
    refine iload K S rfl d0_159 ?_
    refine icmpz_ne K S d0_161 (fun (c161 : ¬ (Y2.2.2.1).toInt = t2.toInt) => ?_) (fun (c161 : (Y2.2.2.1).toInt = t2.toInt) => ?_)
    · exact (c161 (congrArg Int32.toInt (show Y2.2.2.1 = t2 from (by subst hY2 hY1 hi hj hk; exact (own_l3 i j k nij nik njk).2.2.2.2.2.1)))).elim
    refine iconst K S (x := (1 : Int32)) rfl d0_164 ?_
    refine goto K S d0_165 ?_
    refine istore K S (l' := #[.val (.int x0), .val (.int x1), .val (.int x2), .val (.int x3), .val (.int t2), .val (.int t17), .val (.int t44), .val (.int t49), .val (.int (0 : Int32)), .val (.ref o73), .val (.int (1 : Int32))]) rfl d0_169 ?_
    refine iload K S rfl d0_171 ?_
    refine iconst K S (x := (1 : Int32)) rfl d0_173 ?_
    refine icmpz_ne K S d0_174 (fun (c174 : ¬ t49.toInt = 1) => ?_) (fun (c174 : t49.toInt = 1) => ?_)
    rotate_left
    · exfalso; omega
    refine iload K S rfl d0_199 ?_
    refine iconst K S (x := (2 : Int32)) rfl d0_201 ?_
    refine icmpz_ne K S d0_202 (fun (c202 : ¬ t49.toInt = 2) => ?_) (fun (c202 : t49.toInt = 2) => ?_)
    · exfalso; omega
    refine iload K S rfl d0_205 ?_
    refine ificz_eq K S d0_207 (fun (c207 : 1 = 0) => ?_) (fun (c207 : ¬ 1 = 0) => ?_)
    · exact absurd c207 (by decide)
    refine aload K S rfl rfl d0_210 ?_
    refine iload K S rfl d0_212 ?_
    refine callV K S (W := 0) (m_next l Z a0 hw n0 o73 u w t2 Y2 h106_24 (Sle S) H (by subst hY2 hY1 hi hj hk; exact (own_l3 i j k nij nik njk).2.2.2.2.2.2.2.2.2.1)) E_o73 (hwi hw 33 rfl) (hwi hw 34 rfl) (hwi hw 36 rfl) (hwi hw 35 rfl) (hwi hw 37 rfl) (hwi hw 3 rfl) (by decide) (by decide) (by decide) (by decide) (by decide) rfl (argsL := [.int t2]) rfl (lenOf pd_6 rfl) (rest := []) rfl (Nat.le_of_eq rfl) d0_214 (pu fun T S => ?_)
    show Wp n0 p e _ s below _ T (mkF m 217 #[.val (.int x0), .val (.int x1), .val (.int x2), .val (.int x3), .val (.int t2), .val (.int t17), .val (.int t44), .val (.int t49), .val (.int (0 : Int32)), .val (.ref o73), .val (.int (1 : Int32))] [.int (lget Y2.2.1 t2)])
    refine iload K S rfl d0_217 ?_
    refine icmpz_ne K S d0_219 (fun (c219 : ¬ (lget Y2.2.1 t2).toInt = t17.toInt) => ?_) (fun (c219 : (lget Y2.2.1 t2).toInt = t17.toInt) => ?_)
    · exact (c219 (congrArg Int32.toInt (show lget Y2.2.1 t2 = t17 from (by subst hY2 hY1 hi hj hk; exact (own_l3 i j k nij nik njk).2.2.2.2.2.2.2.2.2.2.2.2.2.2.2.2.2.1)))).elim
    refine aload K S rfl rfl d0_222 ?_
    refine iload K S rfl d0_224 ?_
    refine callV K S (W := 0) (m_next l Z a0 hw n0 o73 u w t17 Y2 h106_24 (Sle S) H (by subst hY2 hY1 hi hj hk; exact (own_l3 i j k nij nik njk).2.2.2.2.2.2.2.2.2.2.1)) E_o73 (hwi hw 33 rfl) (hwi hw 34 rfl) (hwi hw 36 rfl) (hwi hw 35 rfl) (hwi hw 37 rfl) (hwi hw 3 rfl) (by decide) (by decide) (by decide) (by decide) (by decide) rfl (argsL := [.int t17]) rfl (lenOf pd_6 rfl) (rest := []) rfl (Nat.le_of_eq rfl) d0_226 (pu fun T S => ?_)
    show Wp n0 p e _ s below _ T (mkF m 229 #[.val (.int x0), .val (.int x1), .val (.int x2), .val (.int x3), .val (.int t2), .val (.int t17), .val (.int t44), .val (.int t49), .val (.int (0 : Int32)), .val (.ref o73), .val (.int (1 : Int32))] [.int (lget Y2.2.1 t17)])
    refine iconst K S (x := (-1 : Int32)) rfl d0_229 ?_
    refine icmpz_ne K S d0_230 (fun (c230 : ¬ (lget Y2.2.1 t17).toInt = (-1)) => ?_) (fun (c230 : (lget Y2.2.1 t17).toInt = (-1)) => ?_)
    · exact (c230 (congrArg Int32.toInt (show lget Y2.2.1 t17 = (-1 : Int32) from (by subst hY2 hY1 hi hj hk; exact (own_l3 i j k nij nik njk).2.2.2.2.2.2.2.2.2.2.2.2.2.2.2.2.2.2.1)))).elim
    refine iconst K S (x := (1 : Int32)) rfl d0_233 ?_
    refine goto K S d0_234 ?_
    refine retn K S (by simp) (y := (1 : Int32)) rfl (by decide) (by decide) d0_238 ?_
    rfl
  refine iconst K S (x := (1 : Int32)) rfl d0_66 ?_
  refine goto K S d0_67 ?_
  refine istore K S (l' := #[.val (.int x0), .val (.int x1), .val (.int x2), .val (.int x3), .val (.int t2), .val (.int t17), .val (.int t44), .val (.int t49), .val (.int (1 : Int32)), .unset, .unset]) rfl d0_71 ?_
  refine new K S (hwi hw 1 rfl) (hwi hw 2 rfl) (hwi hw 3 rfl) (by decide) (by decide) d0_73 fun T h73_25 o73 z_o73 g_o73 X E_o73 D S => ?_
  have F_head_o73 : Fld Z h73_25 o73 "com/example/ipseity/ipseity/table/Links" "head" "I" (.int (0 : Int32)) := D (Or.inl (hwi hw 11 rfl)) (ty := .int) (by decide)
  have F_tail_o73 : Fld Z h73_25 o73 "com/example/ipseity/ipseity/table/Links" "tail" "I" (.int (0 : Int32)) := D (Or.inl (hwi hw 13 rfl)) (ty := .int) (by decide)
  have F_before_o73 : Fld Z h73_25 o73 "com/example/ipseity/ipseity/table/Links" "before" "[I" (.null) := D (Or.inr (hwi hw 16 rfl)) (ty := .array .int) (by decide)
  have F_after_o73 : Fld Z h73_25 o73 "com/example/ipseity/ipseity/table/Links" "after" "[I" (.null) := D (Or.inr (hwi hw 18 rfl)) (ty := .array .int) (by decide)
  clear D X
  refine dup K S rfl d0_76 ?_
  refine iconst K S (x := (4 : Int32)) rfl d0_77 ?_
  refine callC K S (W := 1) (m_init l Z a0 hw n0 o73 h73_25 (Sle S) g_o73 E_o73 F_before_o73 F_after_o73 F_head_o73 F_tail_o73) rfl rfl (hwi hw 4 rfl) (hwi hw 5 rfl) (hwi hw 6 rfl) (hwi hw 3 rfl) (by decide) (by decide) (by decide) (by decide) (by decide) rfl (argsL := [.int (4 : Int32)]) rfl (lenOf pd_1 rfl) (rest := [.ref o73]) rfl (Nat.le_of_eq rfl) d0_78 (ef fun T h78_26 hP S => ?_)
  obtain ⟨u, w, D, H, -, -, -⟩ := hP
  replace E_o73 := H.1
  clear F_before_o73
  clear F_after_o73
  clear F_head_o73
  clear F_tail_o73
  show Wp n0 p e _ s below _ T (mkF m 81 #[.val (.int x0), .val (.int x1), .val (.int x2), .val (.int x3), .val (.int t2), .val (.int t17), .val (.int t44), .val (.int t49), .val (.int (1 : Int32)), .unset, .unset] [.ref o73])
  refine astore K S (l' := #[.val (.int x0), .val (.int x1), .val (.int x2), .val (.int x3), .val (.int t2), .val (.int t17), .val (.int t44), .val (.int t49), .val (.int (1 : Int32)), .val (.ref o73), .unset]) rfl rfl d0_81 ?_
  refine iload K S rfl d0_83 ?_
  refine iconst K S (x := (1 : Int32)) rfl d0_85 ?_
  refine icmpz_lt K S d0_86 (fun (c86 : t49.toInt < 1) => ?_) (fun (c86 : ¬ t49.toInt < 1) => ?_)
  · exfalso; omega
  refine aload K S rfl rfl d0_89 ?_
  refine iload K S rfl d0_91 ?_
  refine callV K S (W := 0) (m_append l Z a0 hw n0 o73 u w t2 T0 h78_26 (Sle S) D H (by subst hi hj hk; exact (own_l3 i j k nij nik njk).1)) E_o73 (hwi hw 19 rfl) (hwi hw 20 rfl) (hwi hw 22 rfl) (hwi hw 21 rfl) (hwi hw 23 rfl) (hwi hw 3 rfl) (by decide) (by decide) (by decide) (by decide) (by decide) rfl (argsL := [.int t2]) rfl (lenOf pd_3 rfl) (rest := []) rfl (Nat.le_of_eq rfl) d0_93 (ef fun T h93_27 hP S => ?_)
  obtain ⟨Y1, hY1⟩ : ∃ z, z = lapp T0 t2 := ⟨_, rfl⟩
  rw [← hY1] at hP
  obtain ⟨H, -⟩ := hP
  replace E_o73 := H.1
  show Wp n0 p e _ s below _ T (mkF m 96 #[.val (.int x0), .val (.int x1), .val (.int x2), .val (.int x3), .val (.int t2), .val (.int t17), .val (.int t44), .val (.int t49), .val (.int (1 : Int32)), .val (.ref o73), .unset] [])
  refine iload K S rfl d0_96 ?_
  refine iconst K S (x := (2 : Int32)) rfl d0_98 ?_
  refine icmpz_lt K S d0_99 (fun (c99 : t49.toInt < 2) => ?_) (fun (c99 : ¬ t49.toInt < 2) => ?_)
  · exfalso; omega
  refine aload K S rfl rfl d0_102 ?_
  refine iload K S rfl d0_104 ?_
  refine callV K S (W := 0) (m_append l Z a0 hw n0 o73 u w t17 Y1 h93_27 (Sle S) D H (by subst hY1 hi hj hk; exact (own_l3 i j k nij nik njk).2.1)) E_o73 (hwi hw 19 rfl) (hwi hw 20 rfl) (hwi hw 22 rfl) (hwi hw 21 rfl) (hwi hw 23 rfl) (hwi hw 3 rfl) (by decide) (by decide) (by decide) (by decide) (by decide) rfl (argsL := [.int t17]) rfl (lenOf pd_3 rfl) (rest := []) rfl (Nat.le_of_eq rfl) d0_106 (ef fun T h106_28 hP S => ?_)
  obtain ⟨Y2, hY2⟩ : ∃ z, z = lapp Y1 t17 := ⟨_, rfl⟩
  rw [← hY2] at hP
  obtain ⟨H, -⟩ := hP
  replace E_o73 := H.1
  show Wp n0 p e _ s below _ T (mkF m 109 #[.val (.int x0), .val (.int x1), .val (.int x2), .val (.int x3), .val (.int t2), .val (.int t17), .val (.int t44), .val (.int t49), .val (.int (1 : Int32)), .val (.ref o73), .unset] [])
  refine iload K S rfl d0_109 ?_
  refine iconst K S (x := (3 : Int32)) rfl d0_111 ?_
  refine icmpz_lt K S d0_112 (fun (c112 : t49.toInt < 3) => ?_) (fun (c112 : ¬ t49.toInt < 3) => ?_)
  · exfalso; omega
  refine aload K S rfl rfl d0_115 ?_
  refine iload K S rfl d0_117 ?_
  refine callV K S (W := 0) (m_append l Z a0 hw n0 o73 u w t44 Y2 h106_28 (Sle S) D H (by subst hY2 hY1 hi hj hk; exact (own_l3 i j k nij nik njk).2.2.1)) E_o73 (hwi hw 19 rfl) (hwi hw 20 rfl) (hwi hw 22 rfl) (hwi hw 21 rfl) (hwi hw 23 rfl) (hwi hw 3 rfl) (by decide) (by decide) (by decide) (by decide) (by decide) rfl (argsL := [.int t44]) rfl (lenOf pd_3 rfl) (rest := []) rfl (Nat.le_of_eq rfl) d0_119 (ef fun T h119_29 hP S => ?_)
  obtain ⟨Y3, hY3⟩ : ∃ z, z = lapp Y2 t44 := ⟨_, rfl⟩
  rw [← hY3] at hP
  obtain ⟨H, -⟩ := hP
  replace E_o73 := H.1
  show Wp n0 p e _ s below _ T (mkF m 122 #[.val (.int x0), .val (.int x1), .val (.int x2), .val (.int x3), .val (.int t2), .val (.int t17), .val (.int t44), .val (.int t49), .val (.int (1 : Int32)), .val (.ref o73), .unset] [])
  refine iload K S rfl d0_122 ?_
  refine ificz_eq K S d0_124 (fun (c124 : 1 = 0) => ?_) (fun (c124 : ¬ 1 = 0) => ?_)
  · exact absurd c124 (by decide)
  refine aload K S rfl rfl d0_127 ?_
  refine iload K S rfl d0_129 ?_
  refine callV K S (W := 0) (m_unlink l Z a0 hw n0 o73 u w t17 Y3 h119_29 (Sle S) D H (by subst hY3 hY2 hY1 hi hj hk; exact (own_l3 i j k nij nik njk).2.2.2.1)) E_o73 (hwi hw 38 rfl) (hwi hw 39 rfl) (hwi hw 41 rfl) (hwi hw 40 rfl) (hwi hw 42 rfl) (hwi hw 3 rfl) (by decide) (by decide) (by decide) (by decide) (by decide) rfl (argsL := [.int t17]) rfl (lenOf pd_7 rfl) (rest := []) rfl (Nat.le_of_eq rfl) d0_131 (ef fun T h131_30 hP S => ?_)
  obtain ⟨Y4, hY4⟩ : ∃ z, z = lunl Y3 t17 := ⟨_, rfl⟩
  rw [← hY4] at hP
  obtain ⟨H, -⟩ := hP
  replace E_o73 := H.1
  show Wp n0 p e _ s below _ T (mkF m 134 #[.val (.int x0), .val (.int x1), .val (.int x2), .val (.int x3), .val (.int t2), .val (.int t17), .val (.int t44), .val (.int t49), .val (.int (1 : Int32)), .val (.ref o73), .unset] [])
  refine iload K S rfl d0_134 ?_
  refine ificz_ne K S d0_136 (fun (c136 : ¬ t49.toInt = 0) => ?_) (fun (c136 : t49.toInt = 0) => ?_)
  rotate_left
  · exfalso; omega
  refine aload K S rfl rfl d0_154 ?_
  refine callV K S (W := 0) (m_first l Z a0 hw n0 o73 u w Y4 h131_30 (Sle S) H) E_o73 (hwi hw 28 rfl) (hwi hw 29 rfl) (hwi hw 31 rfl) (hwi hw 30 rfl) (hwi hw 32 rfl) (hwi hw 3 rfl) (by decide) (by decide) (by decide) (by decide) (by decide) rfl (argsL := []) rfl (lenOf pd_5 rfl) (rest := []) rfl (Nat.le_of_eq rfl) d0_156 (pu fun T S => ?_)
  show Wp n0 p e _ s below _ T (mkF m 159 #[.val (.int x0), .val (.int x1), .val (.int x2), .val (.int x3), .val (.int t2), .val (.int t17), .val (.int t44), .val (.int t49), .val (.int (1 : Int32)), .val (.ref o73), .unset] [.int (Y4.2.2.1)])
  refine iload K S rfl d0_159 ?_
  refine icmpz_ne K S d0_161 (fun (c161 : ¬ (Y4.2.2.1).toInt = t2.toInt) => ?_) (fun (c161 : (Y4.2.2.1).toInt = t2.toInt) => ?_)
  · exact (c161 (congrArg Int32.toInt (show Y4.2.2.1 = t2 from (by subst hY4 hY3 hY2 hY1 hi hj hk; exact (own_l3 i j k nij nik njk).2.2.2.2.2.2.2.1)))).elim
  refine iconst K S (x := (1 : Int32)) rfl d0_164 ?_
  refine goto K S d0_165 ?_
  refine istore K S (l' := #[.val (.int x0), .val (.int x1), .val (.int x2), .val (.int x3), .val (.int t2), .val (.int t17), .val (.int t44), .val (.int t49), .val (.int (1 : Int32)), .val (.ref o73), .val (.int (1 : Int32))]) rfl d0_169 ?_
  refine iload K S rfl d0_171 ?_
  refine iconst K S (x := (1 : Int32)) rfl d0_173 ?_
  refine icmpz_ne K S d0_174 (fun (c174 : ¬ t49.toInt = 1) => ?_) (fun (c174 : t49.toInt = 1) => ?_)
  rotate_left
  · exfalso; omega
  refine iload K S rfl d0_199 ?_
  refine iconst K S (x := (2 : Int32)) rfl d0_201 ?_
  refine icmpz_ne K S d0_202 (fun (c202 : ¬ t49.toInt = 2) => ?_) (fun (c202 : t49.toInt = 2) => ?_)
  rotate_left
  · exfalso; omega
  refine iload K S rfl d0_239 ?_
  refine ificz_eq K S d0_241 (fun (c241 : 1 = 0) => ?_) (fun (c241 : ¬ 1 = 0) => ?_)
  · exact absurd c241 (by decide)
  refine iload K S rfl d0_244 ?_
  refine ificz_eq K S d0_246 (fun (c246 : 1 = 0) => ?_) (fun (c246 : ¬ 1 = 0) => ?_)
  · exact absurd c246 (by decide)
  refine aload K S rfl rfl d0_249 ?_
  refine iload K S rfl d0_251 ?_
  refine callV K S (W := 0) (m_next l Z a0 hw n0 o73 u w t2 Y4 h131_30 (Sle S) H (by subst hY4 hY3 hY2 hY1 hi hj hk; exact (own_l3 i j k nij nik njk).2.2.2.2.2.2.2.2.2.2.2.2.2.2.1)) E_o73 (hwi hw 33 rfl) (hwi hw 34 rfl) (hwi hw 36 rfl) (hwi hw 35 rfl) (hwi hw 37 rfl) (hwi hw 3 rfl) (by decide) (by decide) (by decide) (by decide) (by decide) rfl (argsL := [.int t2]) rfl (lenOf pd_6 rfl) (rest := []) rfl (Nat.le_of_eq rfl) d0_253 (pu fun T S => ?_)
  show Wp n0 p e _ s below _ T (mkF m 256 #[.val (.int x0), .val (.int x1), .val (.int x2), .val (.int x3), .val (.int t2), .val (.int t17), .val (.int t44), .val (.int t49), .val (.int (1 : Int32)), .val (.ref o73), .val (.int (1 : Int32))] [.int (lget Y4.2.1 t2)])
  refine iload K S rfl d0_256 ?_
  refine icmpz_ne K S d0_258 (fun (c258 : ¬ (lget Y4.2.1 t2).toInt = t44.toInt) => ?_) (fun (c258 : (lget Y4.2.1 t2).toInt = t44.toInt) => ?_)
  · exact (c258 (congrArg Int32.toInt (show lget Y4.2.1 t2 = t44 from (by subst hY4 hY3 hY2 hY1 hi hj hk; exact (own_l3 i j k nij nik njk).2.2.2.2.2.2.2.2.2.2.2.2.2.2.2.2.2.2.2.2.2.2.1)))).elim
  refine aload K S rfl rfl d0_261 ?_
  refine iload K S rfl d0_263 ?_
  refine callV K S (W := 0) (m_next l Z a0 hw n0 o73 u w t44 Y4 h131_30 (Sle S) H (by subst hY4 hY3 hY2 hY1 hi hj hk; exact (own_l3 i j k nij nik njk).2.2.2.2.2.2.2.2.2.2.2.2.2.2.2.1)) E_o73 (hwi hw 33 rfl) (hwi hw 34 rfl) (hwi hw 36 rfl) (hwi hw 35 rfl) (hwi hw 37 rfl) (hwi hw 3 rfl) (by decide) (by decide) (by decide) (by decide) (by decide) rfl (argsL := [.int t44]) rfl (lenOf pd_6 rfl) (rest := []) rfl (Nat.le_of_eq rfl) d0_265 (pu fun T S => ?_)
  show Wp n0 p e _ s below _ T (mkF m 268 #[.val (.int x0), .val (.int x1), .val (.int x2), .val (.int x3), .val (.int t2), .val (.int t17), .val (.int t44), .val (.int t49), .val (.int (1 : Int32)), .val (.ref o73), .val (.int (1 : Int32))] [.int (lget Y4.2.1 t44)])
  refine iconst K S (x := (-1 : Int32)) rfl d0_268 ?_
  refine icmpz_ne K S d0_269 (fun (c269 : ¬ (lget Y4.2.1 t44).toInt = (-1)) => ?_) (fun (c269 : (lget Y4.2.1 t44).toInt = (-1)) => ?_)
  · exact (c269 (congrArg Int32.toInt (show lget Y4.2.1 t44 = (-1 : Int32) from (by subst hY4 hY3 hY2 hY1 hi hj hk; exact (own_l3 i j k nij nik njk).2.2.2.2.2.2.2.2.2.2.2.2.2.2.2.2.2.2.2.2.2.2.2)))).elim
  refine iconst K S (x := (1 : Int32)) rfl d0_272 ?_
  refine goto K S d0_273 ?_
  refine retn K S (by simp) (y := (1 : Int32)) rfl (by decide) (by decide) d0_277 ?_
  rfl

set_option maxRecDepth 65536 in
set_option maxHeartbeats 40000000 in
theorem comes_1 {Post : Tables → Env → Array Value → State → Outcome → State → Prop} (hpost : ∀ tb e args s v u, (limb_1_1.after args s (.returned v) u = true ∧ limb_1_2.after args s (.returned v) u = true ∧ True) → FrameEnd s (.returned v) u (Jvm.fieldLocs frame_1_writes args s ++ Jvm.arrayLocs frame_1_arrays args s ++ Jvm.staticLocs frame_1_statics s) 16 128 → Post tb e args s (.returned v) u) :
    ArmFor flags0 classFile x code maxLocals ret World_1 tables_1 room_1 Calls_1 rest_1 Pre_1 Post := by
  intro l hfl _ _ p e ha hc hk s m args below hf hA hF happ hP
  obtain ⟨hcalls, hrest, hpre⟩ := hP
  obtain ⟨-, -, -, hnamed, -, -, -, hat⟩ := (Spec.applies_iff hf).mp happ
  obtain ⟨hg, hn⟩ := and_e (Cond.before_iff.mp (show (Jvm.Cond.and given_1 narrow_1).before args s = true from hpre))
  obtain ⟨gc, r0⟩ := and_e hg
  obtain ⟨g0, r1⟩ := and_e r0
  obtain ⟨g1, r2⟩ := and_e r1
  obtain ⟨g2, r3⟩ := and_e r2
  obtain ⟨w0, w1, w2, w3, rfl⟩ : ∃ w0 w1 w2 w3 : Value, args = #[w0, w1, w2, w3] := by
    have hs : args.size = 4 := by simpa [Cond.value, given_1] using gc
    obtain ⟨L⟩ := args
    match L, hs with
    | [w0, w1, w2, w3], _ => exact ⟨w0, w1, w2, w3, rfl⟩
  have hw := fun d (hd : d ∈ tables_1) => atoms_spec (ws := Jvm.Cond.code x code maxLocals ret :: tables_1) hat d (List.mem_cons_of_mem _ hd)
  obtain ⟨i0, ei0⟩ := is_v g0
  obtain rfl : w0 = (.int i0) := Option.some.inj ei0
  obtain ⟨i1, ei1⟩ := is_v g1
  obtain rfl : w1 = (.int i1) := Option.some.inj ei1
  obtain ⟨i2, ei2⟩ := is_v g2
  obtain rfl : w2 = (.int i2) := Option.some.inj ei2
  obtain ⟨i3, ei3⟩ := is_v r3
  obtain rfl : w3 = (.int i3) := Option.some.inj ei3
  obtain ⟨n, o, h1, h2, h3, _, L, rfl, ⟨rfl, -, N⟩, hq⟩ := m_law l s _ hw s.heap.size i0 i1 i2 i3 s.heap (Nat.le_refl _) p e ha hc hk s m _ below hf ((Spec.applies_iff_loose hf).mp happ).1 ⟨rfl, State.Warmed39.refl s, rfl⟩ trivial
  refine ⟨n, _, h1, h2, h3, hpost _ _ _ _ _ _ ⟨Cond.after_iff.mpr rfl, Cond.after_iff.mpr (eq_i res_at (Term.int_eval (1)) rfl), trivial⟩ ⟨hq.1, hq.2.1, (hq.2.2.sift fun y hy => Or.inr (N y hy)).mono (by decide) (by decide)⟩⟩
theorem main_1_1 : Claimed_1_1 := comes_1 fun _ _ _ _ _ _ h hF => ⟨h.1, hF⟩
theorem main_1_2 : Claimed_1_2 := comes_1 fun _ _ _ _ _ _ h hF => ⟨h.2.1, hF⟩
end Jvm.Pilot.@@N@@
namespace Jvm.Pilot.@@N@@
open Jvm Jvm.ClassFile Sem Op Lib Jvm.Free Jvm.Stand Jvm.Pilot.@@N@@.Jvm.D
/-! MADE BY PROGRAM (witnessworld.py) out of the Statement's table words and the real class files: 9 classes; the members and pool entries that the words name. The judged class is class 1, her method 1. -/
namespace start1
open Jvm.ClassFile
def u (s : String) : CpInfo := .utf8 (stringToUtf16 s)
/-- a pool by its gaps: so many unusable entries, then the entry; so many at the end -/
def gap : Nat → List CpInfo → List CpInfo
  | 0, r => r
  | n + 1, r => .unusable :: gap n r
def poolList (es : List (Nat × CpInfo)) (last : Nat) : List CpInfo := es.foldr (fun e r => gap e.1 (e.2 :: r)) (gap last [])
def pool (es : List (Nat × CpInfo)) (last : Nat) : Array CpInfo := ⟨poolList es last⟩
def fileOf (pool : Array CpInfo) (this : Nat) (attrs : Array Attribute := #[]) (ms : Array MethodInfo := #[]) (fl : Nat := 33) (sup : Nat := 0) (ifs : Array Nat := #[]) (fds : Array FieldInfo := #[]) : ClassFile where
  minorVersion := 0
  majorVersion := 65
  constantPool := pool
  accessFlags := fl
  thisClass := this
  superClass := sup
  interfaces := ifs
  fields := fds
  methods := ms
  attributes := attrs
def plain (name : String) (sup : Option ClassId) : Class where
  name := name
  kind := .ordinary
  loader := none
  accessFlags := 33
  super := sup
  interfaces := #[]
  cf := none
  fields := #[]
  methods := #[]
  instanceTypes := #[]
  staticTypes := #[]
  resolved := #[]
  callSites := []
  init := .initialized
  statics := none
  mirror := none

def pool0 : Array CpInfo := pool [(5, u "<init>"), (0, u "()V"), (1, .class_ 10), (1, u "java/lang/Object")] 113

def k0c0 : Code := { maxStack := 0, maxLocals := 1, code := object_method_1_code, exceptionTable := #[], attributes := #[] }
def k0m0 : Method := { name := "<init>", desc := "()V", sig := { parameters := [], returnType := none }, accessFlags := 1, code := some k0c0 }
/-- java/lang/Object -/
def k0 : Class := { plain "java/lang/Object" none with
  accessFlags := 33
  interfaces := #[]
  cf := some (fileOf pool0 8 #[] #[{ accessFlags := 1, nameIndex := 5, descriptorIndex := 6, attributes := #[] }] 33 0 #[] #[])
  fields := #[]
  methods := #[k0m0]
  instanceTypes := #[]
  staticTypes := #[]
  resolved := Array.replicate 124 none
  statics := none }

def pool1 : Array CpInfo := pool [(2, .class_ 4), (1, u "java/lang/Object"), (0, u "<init>"), (0, u "()V"), (0, .integer 2147483647), (0, .class_ 9), (0, u "com/example/ipseity/ipseity/table/Links"), (0, .methodref 8 11), (0, .nameAndType 5 12), (0, u "(I)V"), (0, .methodref 8 14), (0, .nameAndType 15 12), (0, u "append"), (0, .methodref 8 17), (0, .nameAndType 18 12), (0, u "unlink"), (0, .methodref 8 20), (0, .nameAndType 21 22), (0, u "first"), (0, u "()I"), (0, .methodref 8 24), (0, .nameAndType 25 26), (0, u "next"), (0, u "(I)I"), (0, .class_ 28), (0, u "com/example/ipseity/ipseity/table/LinksAppendPinLaw"), (2, u "law"), (0, u "(IIII)Z")] 3

def k1m0 : Method := { name := "<init>", desc := "()V", sig := { parameters := [], returnType := none }, accessFlags := 1, code := none }
def k1c1 : Code := { maxStack := 3, maxLocals := 11, code := code, exceptionTable := #[], attributes := #[] }
def k1m1 : Method := { name := "law", desc := "(IIII)Z", sig := { parameters := [.int, .int, .int, .int], returnType := some .boolean }, accessFlags := 9, code := some k1c1 }
/-- com/example/ipseity/ipseity/table/LinksAppendPinLaw -/
def k1 : Class := { plain "com/example/ipseity/ipseity/table/LinksAppendPinLaw" (some 0) with
  accessFlags := 49
  interfaces := #[]
  cf := some (fileOf pool1 27 #[] #[{ accessFlags := 1, nameIndex := 5, descriptorIndex := 6, attributes := #[] }, { accessFlags := 9, nameIndex := 31, descriptorIndex := 32, attributes := #[] }] 49 2 #[] #[])
  fields := #[]
  methods := #[k1m0, k1m1]
  instanceTypes := #[]
  staticTypes := #[]
  resolved := Array.replicate 36 none
  statics := none }

def pool2 : Array CpInfo := pool [(1, .methodref 2 3), (0, .class_ 4), (0, .nameAndType 5 6), (0, u "java/lang/Object"), (0, u "<init>"), (0, u "()V"), (0, .fieldref 8 9), (0, .class_ 10), (0, .nameAndType 11 12), (0, u "com/example/ipseity/ipseity/table/Links"), (0, u "head"), (0, u "I"), (0, .fieldref 8 14), (0, .nameAndType 15 12), (0, u "tail"), (0, .fieldref 8 17), (0, .nameAndType 18 19), (0, u "before"), (0, u "[I"), (0, .fieldref 8 21), (0, .nameAndType 22 19), (0, u "after"), (8, .methodref 8 32), (0, .nameAndType 33 34), (0, u "link"), (0, u "(II)V"), (0, u "(I)V"), (4, u "first"), (0, u "()I"), (0, u "next"), (0, u "(I)I"), (0, u "append"), (0, u "unlink")] 4

def k2c0 : Code := { maxStack := 2, maxLocals := 2, code := prog_18_method_1_code, exceptionTable := #[], attributes := #[] }
def k2m0 : Method := { name := "<init>", desc := "(I)V", sig := { parameters := [.int], returnType := none }, accessFlags := 0, code := some k2c0 }
def k2c1 : Code := { maxStack := 1, maxLocals := 1, code := prog_18_method_4_code, exceptionTable := #[], attributes := #[] }
def k2m1 : Method := { name := "first", desc := "()I", sig := { parameters := [], returnType := some .int }, accessFlags := 0, code := some k2c1 }
def k2c2 : Code := { maxStack := 2, maxLocals := 2, code := prog_18_method_5_code, exceptionTable := #[], attributes := #[] }
def k2m2 : Method := { name := "next", desc := "(I)I", sig := { parameters := [.int], returnType := some .int }, accessFlags := 0, code := some k2c2 }
def k2c3 : Code := { maxStack := 3, maxLocals := 2, code := prog_18_method_6_code, exceptionTable := #[], attributes := #[] }
def k2m3 : Method := { name := "append", desc := "(I)V", sig := { parameters := [.int], returnType := none }, accessFlags := 0, code := some k2c3 }
def k2c4 : Code := { maxStack := 4, maxLocals := 2, code := prog_18_method_7_code, exceptionTable := #[], attributes := #[] }
def k2m4 : Method := { name := "unlink", desc := "(I)V", sig := { parameters := [.int], returnType := none }, accessFlags := 0, code := some k2c4 }
def k2c5 : Code := { maxStack := 3, maxLocals := 3, code := prog_18_method_9_code, exceptionTable := #[], attributes := #[] }
def k2m5 : Method := { name := "link", desc := "(II)V", sig := { parameters := [.int, .int], returnType := none }, accessFlags := 2, code := some k2c5 }
/-- com/example/ipseity/ipseity/table/Links -/
def k2 : Class := { plain "com/example/ipseity/ipseity/table/Links" (some 0) with
  accessFlags := 48
  interfaces := #[]
  cf := some (fileOf pool2 8 #[] #[{ accessFlags := 0, nameIndex := 5, descriptorIndex := 35, attributes := #[] }, { accessFlags := 0, nameIndex := 40, descriptorIndex := 41, attributes := #[] }, { accessFlags := 0, nameIndex := 42, descriptorIndex := 43, attributes := #[] }, { accessFlags := 0, nameIndex := 44, descriptorIndex := 35, attributes := #[] }, { accessFlags := 0, nameIndex := 45, descriptorIndex := 35, attributes := #[] }, { accessFlags := 2, nameIndex := 33, descriptorIndex := 34, attributes := #[] }] 48 2 #[] #[{ accessFlags := 18, nameIndex := 18, descriptorIndex := 19, attributes := #[] }, { accessFlags := 18, nameIndex := 22, descriptorIndex := 19, attributes := #[] }, { accessFlags := 2, nameIndex := 11, descriptorIndex := 12, attributes := #[] }, { accessFlags := 2, nameIndex := 15, descriptorIndex := 12, attributes := #[] }])
  fields := #[{ name := "before", type := (.array .int), accessFlags := 18, slot := 0, constantValue := 0 }, { name := "after", type := (.array .int), accessFlags := 18, slot := 1, constantValue := 0 }, { name := "head", type := .int, accessFlags := 2, slot := 2, constantValue := 0 }, { name := "tail", type := .int, accessFlags := 2, slot := 3, constantValue := 0 }]
  methods := #[k2m0, k2m1, k2m2, k2m3, k2m4, k2m5]
  instanceTypes := #[(.array .int), (.array .int), .int, .int]
  staticTypes := #[]
  resolved := Array.replicate 50 none
  statics := none }

def pool3 : Array CpInfo := pool [(1, u "java/lang/Cloneable"), (0, .class_ 1), (0, u "java/lang/Object"), (0, .class_ 3)] 3

/-- java/lang/Cloneable -/
def k3 : Class := { plain "java/lang/Cloneable" (some 0) with
  accessFlags := 1537
  interfaces := #[]
  cf := some (fileOf pool3 2 #[] #[] 1537 4 #[] #[])
  fields := #[]
  methods := #[]
  instanceTypes := #[]
  staticTypes := #[]
  resolved := Array.replicate 8 none
  statics := none }

def pool4 : Array CpInfo := pool [(1, u "java/io/Serializable"), (0, .class_ 1), (0, u "java/lang/Object"), (0, .class_ 3)] 3

/-- java/io/Serializable -/
def k4 : Class := { plain "java/io/Serializable" (some 0) with
  accessFlags := 1537
  interfaces := #[]
  cf := some (fileOf pool4 2 #[] #[] 1537 4 #[] #[])
  fields := #[]
  methods := #[]
  instanceTypes := #[]
  staticTypes := #[]
  resolved := Array.replicate 8 none
  statics := none }

/-- the primitive byte -/
def k5 : Class := { plain "byte" none with kind := .primitive 'B', accessFlags := 0x411 }
/-- [B -/
def k6 : Class := { plain "[B" (some 0) with kind := .array 5 .byte, interfaces := #[3, 4], accessFlags := 1041 }

/-- the primitive int -/
def k7 : Class := { plain "int" none with kind := .primitive 'I', accessFlags := 0x411 }
/-- [I -/
def k8 : Class := { plain "[I" (some 0) with kind := .array 7 .int, interfaces := #[3, 4], accessFlags := 1041 }

def heap : Heap := #[]
def classes : Array Class := #[k0, k1, k2, k3, k4, k5, k6, k7, k8]
def interned : List (Array UInt16 × Addr) := []
def slotsUsed : Nat := 0
def theMethod : MethodId := ⟨1, 1⟩
def args0 : Array Value := #[.int 5, .int 300, .int 7, .int 3]
def aboutOver (below : List Frame) : State where
  vm := { classes := classes, interned := interned.toArray }
  heap := heap
  slotsUsed := slotsUsed
  threads := #[{ frames := .invoking theMethod args0 :: below }]
def below0 : List Frame := [.native { method := ⟨0, 0⟩, args := #[] }]
def about1 : State := aboutOver below0
def p0 : Program := .bare "" "" ""
def e0 : Env := launch0.env 0 0 0
theorem w_frames : about1.frames = Frame.invoking theMethod args0 :: below0 := rfl
set_option maxRecDepth 65536 in
theorem w_args : argsFit about1.vm theMethod args0 = true := by decide +kernel
set_option maxRecDepth 65536 in
theorem w_heap : heapFits about1 = true := by decide +kernel
set_option maxRecDepth 65536 in
theorem w_runnable : about1.curStatus? = some .runnable := by decide +kernel
set_option maxRecDepth 65536 in
theorem w_alone : about1.alone = true := by decide +kernel
set_option maxRecDepth 65536 in
theorem w_named : about1.methodNamed? x = some theMethod := by decide +kernel
set_option maxRecDepth 65536 in
theorem w_hears : about1.hears theMethod below0 = true := by decide +kernel
set_option maxRecDepth 65536 in
theorem w_ripe : about1.ripe theMethod args0 below0 = true := by decide +kernel
theorem w_running : about1.status = .running := rfl
set_option maxRecDepth 65536 in
theorem w_room : about1.hasRoom e0.platform room_1 = true :=
  launch0.hasRoom_least _ room_1 (by decide +kernel) (by decide +kernel) (by decide +kernel) (by decide +kernel) (by decide +kernel) (by decide +kernel)
theorem allAtoms_all (ts : List Jvm.Cond) (a : Array Jvm.Value) (st : Jvm.State) : (allAtoms ts).before a st = ts.all (fun c => c.before a st) := by
  induction ts with
  | nil => rfl
  | cons c t ih =>
    show (Jvm.Cond.and c (allAtoms t)).before a st = _
    rw [Jvm.Cond.before_and, ih, List.all_cons]
def words1 : List Jvm.Cond := Jvm.Cond.code x code maxLocals ret :: tables_1
/-- a 'code' word, met by the world's own term for the bytes: nothing is compared byte by byte -/
theorem code_word {y : MethodName} {bytes : ByteArray} {mx : Nat} {rt : Option FieldType} {a : Array Value} {s : State} {m : MethodId} {meth : Method} {c : Code} (h1 : s.methodNamed? y = some m) (h2 : s.vm.method? m = some meth) (h3 : meth.code = some c) (h4 : c.code = bytes)
    (h5 : (c.maxLocals == mx && c.exceptionTable.isEmpty && decide (c.maxStack ≤ mostOperands) && decide (meth.sig.returnType = rt) && !meth.locks && decide (parseMethodDescriptor y.desc = some meth.sig)) = true) : (Jvm.Cond.code y bytes mx rt).before a s = true := by
  simp only [Bool.and_eq_true, beq_iff_eq, Bool.not_eq_true', decide_eq_true_eq] at h5
  obtain ⟨⟨⟨⟨⟨g1, g2⟩, g3⟩, g4⟩, g5⟩, g6⟩ := h5
  simp [Cond.before, Cond.holds, Cond.value, h1, h2, h3, h4, g1, g2, g3, g4, g5, g6]
def isCode : Jvm.Cond → Bool
  | .code _ _ _ _ => true
  | _ => false
theorem all_split {L : List Jvm.Cond} {P : Jvm.Cond → Bool} (h1 : L.all (fun c => isCode c || P c) = true) (h2 : ∀ c ∈ L.filter isCode, P c = true) : L.all P = true := by
  refine List.all_eq_true.mpr fun c hc => ?_
  have h := List.all_eq_true.mp h1 c hc
  rcases Bool.eq_false_or_eq_true (isCode c) with hi | hi
  · exact h2 c (List.mem_filter.mpr ⟨hc, hi⟩)
  · simpa [hi] using h
set_option maxRecDepth 65536 in
theorem w_c0 : (Jvm.Cond.code x code maxLocals ret).before args0 about1 = true := code_word (m := ⟨1, 1⟩) (meth := k1m1) (c := k1c1) (by decide +kernel) rfl rfl rfl (by decide +kernel)
set_option maxRecDepth 65536 in
theorem w_c1 : (Jvm.Cond.code ({ cls := "com/example/ipseity/ipseity/table/Links", name := "<init>", desc := "(I)V" } : Jvm.MethodName) prog_18_method_1_code (2 : Nat) (Option.none : Option Jvm.ClassFile.FieldType)).before args0 about1 = true := code_word (m := ⟨2, 0⟩) (meth := k2m0) (c := k2c0) (by decide +kernel) rfl rfl rfl (by decide +kernel)
set_option maxRecDepth 65536 in
theorem w_c2 : (Jvm.Cond.code ({ cls := "java/lang/Object", name := "<init>", desc := "()V" } : Jvm.MethodName) object_method_1_code (1 : Nat) (Option.none : Option Jvm.ClassFile.FieldType)).before args0 about1 = true := code_word (m := ⟨0, 0⟩) (meth := k0m0) (c := k0c0) (by decide +kernel) rfl rfl rfl (by decide +kernel)
set_option maxRecDepth 65536 in
theorem w_c3 : (Jvm.Cond.code ({ cls := "com/example/ipseity/ipseity/table/Links", name := "append", desc := "(I)V" } : Jvm.MethodName) prog_18_method_6_code (2 : Nat) (Option.none : Option Jvm.ClassFile.FieldType)).before args0 about1 = true := code_word (m := ⟨2, 3⟩) (meth := k2m3) (c := k2c3) (by decide +kernel) rfl rfl rfl (by decide +kernel)
set_option maxRecDepth 65536 in
theorem w_c4 : (Jvm.Cond.code ({ cls := "com/example/ipseity/ipseity/table/Links", name := "link", desc := "(II)V" } : Jvm.MethodName) prog_18_method_9_code (3 : Nat) (Option.none : Option Jvm.ClassFile.FieldType)).before args0 about1 = true := code_word (m := ⟨2, 5⟩) (meth := k2m5) (c := k2c5) (by decide +kernel) rfl rfl rfl (by decide +kernel)
set_option maxRecDepth 65536 in
theorem w_c5 : (Jvm.Cond.code ({ cls := "com/example/ipseity/ipseity/table/Links", name := "first", desc := "()I" } : Jvm.MethodName) prog_18_method_4_code (1 : Nat) (Option.some Jvm.ClassFile.FieldType.int)).before args0 about1 = true := code_word (m := ⟨2, 1⟩) (meth := k2m1) (c := k2c1) (by decide +kernel) rfl rfl rfl (by decide +kernel)
set_option maxRecDepth 65536 in
theorem w_c6 : (Jvm.Cond.code ({ cls := "com/example/ipseity/ipseity/table/Links", name := "next", desc := "(I)I" } : Jvm.MethodName) prog_18_method_5_code (2 : Nat) (Option.some Jvm.ClassFile.FieldType.int)).before args0 about1 = true := code_word (m := ⟨2, 2⟩) (meth := k2m2) (c := k2c2) (by decide +kernel) rfl rfl rfl (by decide +kernel)
set_option maxRecDepth 65536 in
theorem w_c7 : (Jvm.Cond.code ({ cls := "com/example/ipseity/ipseity/table/Links", name := "unlink", desc := "(I)V" } : Jvm.MethodName) prog_18_method_7_code (2 : Nat) (Option.none : Option Jvm.ClassFile.FieldType)).before args0 about1 = true := code_word (m := ⟨2, 4⟩) (meth := k2m4) (c := k2c4) (by decide +kernel) rfl rfl rfl (by decide +kernel)
def codes1 : List Jvm.Cond := [Jvm.Cond.code x code maxLocals ret, Jvm.Cond.code ({ cls := "com/example/ipseity/ipseity/table/Links", name := "<init>", desc := "(I)V" } : Jvm.MethodName) prog_18_method_1_code (2 : Nat) (Option.none : Option Jvm.ClassFile.FieldType), Jvm.Cond.code ({ cls := "java/lang/Object", name := "<init>", desc := "()V" } : Jvm.MethodName) object_method_1_code (1 : Nat) (Option.none : Option Jvm.ClassFile.FieldType), Jvm.Cond.code ({ cls := "com/example/ipseity/ipseity/table/Links", name := "append", desc := "(I)V" } : Jvm.MethodName) prog_18_method_6_code (2 : Nat) (Option.none : Option Jvm.ClassFile.FieldType), Jvm.Cond.code ({ cls := "com/example/ipseity/ipseity/table/Links", name := "link", desc := "(II)V" } : Jvm.MethodName) prog_18_method_9_code (3 : Nat) (Option.none : Option Jvm.ClassFile.FieldType), Jvm.Cond.code ({ cls := "com/example/ipseity/ipseity/table/Links", name := "first", desc := "()I" } : Jvm.MethodName) prog_18_method_4_code (1 : Nat) (Option.some Jvm.ClassFile.FieldType.int), Jvm.Cond.code ({ cls := "com/example/ipseity/ipseity/table/Links", name := "next", desc := "(I)I" } : Jvm.MethodName) prog_18_method_5_code (2 : Nat) (Option.some Jvm.ClassFile.FieldType.int), Jvm.Cond.code ({ cls := "com/example/ipseity/ipseity/table/Links", name := "unlink", desc := "(I)V" } : Jvm.MethodName) prog_18_method_7_code (2 : Nat) (Option.none : Option Jvm.ClassFile.FieldType)]
set_option maxRecDepth 65536 in
theorem codes_eq : words1.filter isCode = codes1 := rfl
theorem w_codes : ∀ c ∈ words1.filter isCode, c.before args0 about1 = true := by
  rw [codes_eq]
  intro c hc
  simp only [codes1, List.mem_cons, List.not_mem_nil, or_false] at hc
  rcases hc with rfl | rfl | rfl | rfl | rfl | rfl | rfl | rfl
  · exact w_c0
  · exact w_c1
  · exact w_c2
  · exact w_c3
  · exact w_c4
  · exact w_c5
  · exact w_c6
  · exact w_c7
set_option maxRecDepth 65536 in
theorem w_t1 : (words1.take 24).all (fun c => isCode c || c.before args0 about1) = true := by decide +kernel
set_option maxRecDepth 65536 in
theorem w_t2 : (words1.drop 24).all (fun c => isCode c || c.before args0 about1) = true := by decide +kernel
theorem w_tables : (allAtoms (Jvm.Cond.code x code maxLocals ret :: tables_1)).before args0 about1 = true := by
  rw [allAtoms_all]
  show words1.all (fun c => c.before args0 about1) = true
  refine all_split ?_ w_codes
  rw [← List.take_append_drop 24 words1, List.all_append, w_t1, w_t2]
  rfl
set_option maxRecDepth 65536 in
theorem w_case : (Jvm.Cond.and given_1 narrow_1).before args0 about1 = true := by decide +kernel
theorem w_applies : (headSpec (Jvm.Cond.code x code maxLocals ret :: tables_1) room_1).applies x e0.platform about1 = true :=
  (Spec.applies_iff w_frames).mpr ⟨w_running, w_runnable, w_alone, w_named, w_hears, w_ripe, w_room, w_tables⟩
theorem atStart : AtStart classFile x code maxLocals ret World_1 tables_1 room_1 Calls_1 rest_1 Pre_1 launch0 p0 e0 about1 theMethod args0 below0 :=
  ⟨lists_1, trivial, launch0.admits_env _ _ _, launch0.least_env, fairChoices_fair.cas, fairChoices_fair.clock, w_frames, w_args, w_heap, w_applies, trivial, trivial, w_case⟩
end start1
theorem witness_1 : WitnessClaimed_1 := ⟨start1.p0, start1.e0, start1.about1, start1.theMethod, start1.args0, start1.below0, start1.atStart⟩
end Jvm.Pilot.@@N@@
