import JvmDerived
import JvmDerived.Pilot.@@N@@Statement
import JvmDerived.Pilot.@@N@@Code
set_option linter.unusedVariables false
set_option linter.unusedSimpArgs false
namespace Jvm.Own
open Jvm Sem ClassFile Op Lib Jvm.Stand Jvm.Free Jvm.LawKit Jvm.RoadKit
section Kit
/-- the fixed surroundings of one body's walk -/
def Cx (own : String) (code : ByteArray) (mL : Nat) (ret : Option FieldType) (mn : String) (n0 : Nat) (Z : State) (p : Program) (l : Launch) (e : Env) (R : Room) (s : State) (m : MethodId) (args : Array Value) (below : List Frame) (meth : Method) (c : Code) : Prop :=
  p.tables.exec = Jvm.exec ∧ c.code = code ∧ c.maxLocals = mL ∧ meth.sig.returnType = ret ∧ meth.locks = false ∧ s.vm.findClass own = some m.cls ∧ Z.Warmed39 s.vm ∧ meth.name = mn
/-- where the walk stands: k cells and n slots made so far, the heap h -/
def St (n0 : Nat) (p : Program) (l : Launch) (e : Env) (R : Room) (s : State) (m : MethodId) (args : Array Value) (below : List Frame) (meth : Method) (c : Code) (k n : Nat) (h : Heap) (T : State) : Prop :=
  ∃ locs, Stand p l e R s m args below meth c T locs k n ∧ T.heap = h ∧ Fr n0 locs ∧ n0 ≤ h.size
/-- from here the body comes to its end, and Q holds there -/
def Wp (n0 : Nat) (p : Program) (e : Env) (R : Room) (s : State) (below : List Frame) (Q : Option Value → Heap → Prop) (T : State) (g : JFrame) : Prop :=
  ∃ s₂ o, Steps p.tables e below (T.setTop g) s₂ ∧ s₂.status = .running ∧ Ended s₂ below o ∧ ∃ v L, o = .returned v ∧ (Q v s₂.heap ∧ n0 ≤ s₂.heap.size ∧ Fr n0 L) ∧ FrameEnd s o s₂ L R.cells R.slots
/-- a body's contract: entered with the arguments as' at the heap h it returns, and Q holds of what it returns and of the heap -/
def Met (n0 : Nat) (l : Launch) (Z : State) (y : MethodName) (bytes : ByteArray) (mL : Nat) (ret : Option FieldType) (rm : Room) (ws : List Jvm.Cond) (as' : Array Value) (h : Heap) (Q : Option Value → Heap → Prop) : Prop :=
  MetFree l y (head1 (Jvm.Cond.code y bytes mL ret :: ws) rm) (fun a U => a = as' ∧ Z.Warmed39 U.vm ∧ U.heap = h) (fun _ _ _ _ _ => True) (fun _ U o U' => ∃ v L, o = .returned v ∧ (Q v U'.heap ∧ n0 ≤ U'.heap.size ∧ Fr n0 L) ∧ FrameEnd U o U' L rm.cells rm.slots)
def Dc (code : ByteArray) (pc : Nat) (i : Instr) (len q : Nat) : Prop := decode code pc = .ok (i, len) ∧ pc + len = q
def Bc (code : ByteArray) (pc : Nat) (i : Instr) (o : Int) (q q' : Nat) : Prop := decode code pc = .ok (i, 3) ∧ pc + 3 = q ∧ 0 ≤ (pc : Int) + o ∧ ((pc : Int) + o).toNat = q'
/-- the place i that the int j names -/
def Ix (j : Int32) (i : Nat) : Prop := ¬ j < 0 ∧ j.toNatClampNeg = i
/-- an array of the values vs -/
def VA (Z : State) (h : Heap) (a : Addr) (ty : FieldType) (vs : List Value) : Prop := ∃ cl : Cell, Arr Z h a cl ty ∧ cl.slots = vs.toArray
variable {own : String} {code : ByteArray} {mL : Nat} {ret : Option FieldType} {mn : String} {n0 : Nat} {Z : State} {p : Program} {l : Launch} {e : Env} {R : Room} {s : State} {m : MethodId} {args : Array Value} {below : List Frame} {meth : Method} {c : Code} {T : State} {k n : Nat} {h h' : Heap} {Q : Option Value → Heap → Prop} {pc q q' : Nat} {Ls l' : Array Slot} {st rest : List Value} {a0 : Array Value} {ty : FieldType} {vs : List Value} {a b : Addr} {v w : Value} {x y : Int32} {X Y : Int64}
theorem VA.ext (F : VA Z h a ty vs) (E : Ext h h') : VA Z h' a ty vs := by obtain ⟨cl, A, r⟩ := F; exact ⟨cl, A.ext E, r⟩
theorem VA.other {sl : Nat} (F : VA Z h a ty vs) (W : Wr h h' b sl v) (ne : a ≠ b) : VA Z h' a ty vs := by obtain ⟨cl, A, r⟩ := F; exact ⟨cl, A.other W ne, r⟩
theorem VA.keep {ws : List Addr} (F : VA Z h a ty vs) (K : Keep h h' ws) (ne : a ∉ ws) : VA Z h' a ty vs := by obtain ⟨cl, A, r⟩ := F; exact ⟨cl, ⟨K.2.1 a cl A.1 ne, A.2⟩, r⟩
theorem VA.lt (F : VA Z h a ty vs) : a < h.size := by obtain ⟨cl, A, r⟩ := F; exact A.lt
theorem VA.wr {i : Nat} (F : VA Z h a ty vs) (W : Wr h h' a i v) : VA Z h' a ty (vs.set i v) := by
  obtain ⟨cl, A, r⟩ := F
  refine ⟨_, Arr.same W A, ?_⟩
  show cl.slots.setIfInBounds i v = _
  rw [r]; simp
theorem wp_mono {T' : State} {g g' : JFrame} (f : ∀ t, Steps p.tables e below (T'.setTop g') t → Steps p.tables e below (T.setTop g) t) (w : Wp n0 p e R s below Q T' g') : Wp n0 p e R s below Q T g := by
  obtain ⟨s₂, o, h1, r⟩ := w; exact ⟨s₂, o, f _ h1, r⟩
theorem nmI (g : ∀ z, z = x → Wp n0 p e R s below Q T (mkF m pc Ls (.int z :: st))) : Wp n0 p e R s below Q T (mkF m pc Ls (.int x :: st)) := g x rfl
theorem nmL (g : ∀ z, z = X → Wp n0 p e R s below Q T (mkF m pc Ls (.long z :: st))) : Wp n0 p e R s below Q T (mkF m pc Ls (.long X :: st)) := g X rfl
def Pu (r : Option Value) (h : Heap) : Option Value → Heap → Prop := fun v h' => v = r ∧ h' = h
def Ef (r : Option Value) (P : Heap → Prop) : Option Value → Heap → Prop := fun v h' => v = r ∧ P h'
def Pr (P : Int32 → Prop) (h : Heap) : Option Value → Heap → Prop := fun v h' => ∃ r, v = some (.int r) ∧ P r ∧ h' = h
def PrL (P : Int64 → Prop) (h : Heap) : Option Value → Heap → Prop := fun v h' => ∃ r, v = some (.long r) ∧ P r ∧ h' = h
def Er (P : Int32 → Heap → Prop) : Option Value → Heap → Prop := fun v h' => ∃ r, v = some (.int r) ∧ P r h'
def Ea (P : Addr → Heap → Prop) : Option Value → Heap → Prop := fun v h' => ∃ r, v = some (.ref r) ∧ P r h'
theorem own_b01 {x : Int32} (h : x.toInt = 0 ∨ x.toInt = 1) : nar .boolean x = x := by
  rcases h with h | h
  · have e : x = 0 := Int32.toInt_inj.mp h
    subst e; rfl
  · have e : x = 1 := Int32.toInt_inj.mp h
    subst e; rfl
theorem own_eqz {x y : Int32} (h : x.toInt = y.toInt) : x = y := Int32.toInt_inj.mp h
theorem own_eqZ {x y : Int64} (h : x.toInt = y.toInt) : x = y := Int64.toInt_inj.mp h
theorem own_lrem (x y : Int64) (d : Int) (hy : y.toInt = d) : (0 ≤ x.toInt → (x % y).toInt = x.toInt % d) ∧ (x.toInt < 0 → (x % y).toInt = -((-x.toInt) % d)) := by rw [Int64.toInt_mod, hy]; exact tr _ _
theorem own_nz {y : Int32} (h : 0 < y.toInt) : y ≠ 0 := fun q => by rw [q] at h; exact absurd h (by decide)
theorem own_nneg {x : Int32} (h : 0 ≤ x.toInt) : ¬ x < 0 := fun q => by
  have q' := Int32.lt_iff_toInt_lt.mp q
  have z0 : (0 : Int32).toInt = 0 := rfl
  omega
theorem own_cl {x : Int32} (h : 0 ≤ x.toInt) : (x.toNatClampNeg : Int) = x.toInt := by
  have e : x.toNatClampNeg = x.toInt.toNat := rfl
  omega
theorem own_ix {x : Int32} (h : 0 ≤ x.toInt) : Ix x x.toInt.toNat := ⟨own_nneg h, rfl⟩
theorem stO {i : Nat} {o : Slot} (ho : One o) (hold : Ls[i]? = some o) (hv : v.category = 1) (he : Ls.setIfInBounds i (.val v) = l') : storeLocals Ls i v = some l' := he ▸ XS.store1 hold ho hv
theorem Sle (S : St n0 p l e R s m args below meth c k n h T) : n0 ≤ h.size := by obtain ⟨_, _, _, _, z⟩ := S; exact z
theorem more {k' n' : Nat} (S : St n0 p l e R s m args below meth c k n h T) (hk : k ≤ k') (hn : n ≤ n') : St n0 p l e R s m args below meth c k' n' h T := by
  obtain ⟨locs, S, r⟩ := S; exact ⟨locs, S.more hk hn, r⟩
theorem pu {r : Option Value} (g : ∀ T, St n0 p l e R s m args below meth c k n h T → Wp n0 p e R s below Q T (mkF m q Ls (r.toList ++ rest))) : ∀ T v h', Pu r h v h' → St n0 p l e R s m args below meth c k n h' T → Wp n0 p e R s below Q T (mkF m q Ls (v.toList ++ rest)) := by
  intro T v h' hq S; obtain ⟨rfl, rfl⟩ := hq; exact g T S
theorem ef {r : Option Value} {P : Heap → Prop} (g : ∀ T h', P h' → St n0 p l e R s m args below meth c k n h' T → Wp n0 p e R s below Q T (mkF m q Ls (r.toList ++ rest))) : ∀ T v h', Ef r P v h' → St n0 p l e R s m args below meth c k n h' T → Wp n0 p e R s below Q T (mkF m q Ls (v.toList ++ rest)) := by
  intro T v h' hq S; obtain ⟨rfl, hp⟩ := hq; exact g T h' hp S
theorem pr {P : Int32 → Prop} (g : ∀ T r, P r → St n0 p l e R s m args below meth c k n h T → Wp n0 p e R s below Q T (mkF m q Ls (.int r :: rest))) : ∀ T v h', Pr P h v h' → St n0 p l e R s m args below meth c k n h' T → Wp n0 p e R s below Q T (mkF m q Ls (v.toList ++ rest)) := by
  intro T v h' hq S; obtain ⟨r, rfl, hp, rfl⟩ := hq; exact g T r hp S
theorem prL {P : Int64 → Prop} (g : ∀ T r, P r → St n0 p l e R s m args below meth c k n h T → Wp n0 p e R s below Q T (mkF m q Ls (.long r :: rest))) : ∀ T v h', PrL P h v h' → St n0 p l e R s m args below meth c k n h' T → Wp n0 p e R s below Q T (mkF m q Ls (v.toList ++ rest)) := by
  intro T v h' hq S; obtain ⟨r, rfl, hp, rfl⟩ := hq; exact g T r hp S
theorem er {P : Int32 → Heap → Prop} (g : ∀ T r h', P r h' → St n0 p l e R s m args below meth c k n h' T → Wp n0 p e R s below Q T (mkF m q Ls (.int r :: rest))) : ∀ T v h', Er P v h' → St n0 p l e R s m args below meth c k n h' T → Wp n0 p e R s below Q T (mkF m q Ls (v.toList ++ rest)) := by
  intro T v h' hq S; obtain ⟨r, rfl, hp⟩ := hq; exact g T r h' hp S
theorem ea {P : Addr → Heap → Prop} (g : ∀ T r h', P r h' → St n0 p l e R s m args below meth c k n h' T → Wp n0 p e R s below Q T (mkF m q Ls (.ref r :: rest))) : ∀ T v h', Ea P v h' → St n0 p l e R s m args below meth c k n h' T → Wp n0 p e R s below Q T (mkF m q Ls (v.toList ++ rest)) := by
  intro T v h' hq S; obtain ⟨r, rfl, hp⟩ := hq; exact g T r h' hp S
theorem enter {y : MethodName} {bytes : ByteArray} {rm : Room} {ws : List Jvm.Cond} {as' : Array Value} (hpn : plainFor y = true) (ef : ∀ m, entryFrame m as' mL = mkF m 0 Ls []) (hn : n0 ≤ h.size)
    (body : ∀ p e s m below meth c T, Cx y.cls bytes mL ret y.name n0 Z p l e rm s m as' below meth c → St n0 p l e rm s m as' below meth c 0 0 h T → Wp n0 p e rm s below Q T (mkF m 0 Ls [])) : Met n0 l Z y bytes mL ret rm ws as' h Q := by
  refine MetFree.of_bodySF hpn hisR ?_
  intro p e s m args below meth c s₁ Bd hml0 hP hK
  obtain ⟨rfl, hZ, hh⟩ := hP
  have e0 : s₁.heap = h := by rw [← hh, Bd.state]; rfl
  have w := body p e s m below meth c s₁ ⟨Bd.exec, Bd.bytes, hml0, Bd.returns, Bd.notSynchronized, findClass_of_methodNamed Bd.named, hZ, (name_of_methodNamed Bd.named Bd.method).1⟩ ⟨[], Stand.of_body Bd, e0, Fr.nil n0, hn⟩
  obtain ⟨s₂, o, h1, r⟩ := w
  exact ⟨s₂, o, castTop (ef m) h1, r⟩
theorem iadd (K : Cx own code mL ret mn n0 Z p l e R s m args below meth c) (S : St n0 p l e R s m args below meth c k n h T) (hd : Dc code pc (.iadd) 1 q) (g : Wp n0 p e R s below Q T (mkF m q Ls (.int (x + y) :: st))) : Wp n0 p e R s below Q T (mkF m pc Ls (.int y :: .int x :: st)) := by
  obtain ⟨hx, hby, -⟩ := K; obtain ⟨locs, S, -, -⟩ := S; obtain ⟨hd, rfl⟩ := hd
  exact wp_mono (fun t hr => XS.iadd S.here hx rfl (hb hby hd) rfl hr) g
theorem isub (K : Cx own code mL ret mn n0 Z p l e R s m args below meth c) (S : St n0 p l e R s m args below meth c k n h T) (hd : Dc code pc (.isub) 1 q) (g : Wp n0 p e R s below Q T (mkF m q Ls (.int (x - y) :: st))) : Wp n0 p e R s below Q T (mkF m pc Ls (.int y :: .int x :: st)) := by
  obtain ⟨hx, hby, -⟩ := K; obtain ⟨locs, S, -, -⟩ := S; obtain ⟨hd, rfl⟩ := hd
  exact wp_mono (fun t hr => XS.isub S.here hx rfl (hb hby hd) rfl hr) g
theorem imul (K : Cx own code mL ret mn n0 Z p l e R s m args below meth c) (S : St n0 p l e R s m args below meth c k n h T) (hd : Dc code pc (.imul) 1 q) (g : Wp n0 p e R s below Q T (mkF m q Ls (.int (x * y) :: st))) : Wp n0 p e R s below Q T (mkF m pc Ls (.int y :: .int x :: st)) := by
  obtain ⟨hx, hby, -⟩ := K; obtain ⟨locs, S, -, -⟩ := S; obtain ⟨hd, rfl⟩ := hd
  exact wp_mono (fun t hr => XS.imul S.here hx rfl (hb hby hd) rfl hr) g
theorem iand (K : Cx own code mL ret mn n0 Z p l e R s m args below meth c) (S : St n0 p l e R s m args below meth c k n h T) (hd : Dc code pc (.iand) 1 q) (g : Wp n0 p e R s below Q T (mkF m q Ls (.int (x &&& y) :: st))) : Wp n0 p e R s below Q T (mkF m pc Ls (.int y :: .int x :: st)) := by
  obtain ⟨hx, hby, -⟩ := K; obtain ⟨locs, S, -, -⟩ := S; obtain ⟨hd, rfl⟩ := hd
  exact wp_mono (fun t hr => XS.iand S.here hx rfl (hb hby hd) rfl hr) g
theorem ior (K : Cx own code mL ret mn n0 Z p l e R s m args below meth c) (S : St n0 p l e R s m args below meth c k n h T) (hd : Dc code pc (.ior) 1 q) (g : Wp n0 p e R s below Q T (mkF m q Ls (.int (x ||| y) :: st))) : Wp n0 p e R s below Q T (mkF m pc Ls (.int y :: .int x :: st)) := by
  obtain ⟨hx, hby, -⟩ := K; obtain ⟨locs, S, -, -⟩ := S; obtain ⟨hd, rfl⟩ := hd
  exact wp_mono (fun t hr => XT.ior S.here hx rfl (hb hby hd) rfl hr) g
theorem ixor (K : Cx own code mL ret mn n0 Z p l e R s m args below meth c) (S : St n0 p l e R s m args below meth c k n h T) (hd : Dc code pc (.ixor) 1 q) (g : Wp n0 p e R s below Q T (mkF m q Ls (.int (x ^^^ y) :: st))) : Wp n0 p e R s below Q T (mkF m pc Ls (.int y :: .int x :: st)) := by
  obtain ⟨hx, hby, -⟩ := K; obtain ⟨locs, S, -, -⟩ := S; obtain ⟨hd, rfl⟩ := hd
  exact wp_mono (fun t hr => XT.ixor S.here hx rfl (hb hby hd) rfl hr) g
theorem ishl (K : Cx own code mL ret mn n0 Z p l e R s m args below meth c) (S : St n0 p l e R s m args below meth c k n h T) (hd : Dc code pc (.ishl) 1 q) (g : Wp n0 p e R s below Q T (mkF m q Ls (.int (x <<< (y &&& 31)) :: st))) : Wp n0 p e R s below Q T (mkF m pc Ls (.int y :: .int x :: st)) := by
  obtain ⟨hx, hby, -⟩ := K; obtain ⟨locs, S, -, -⟩ := S; obtain ⟨hd, rfl⟩ := hd
  exact wp_mono (fun t hr => XT.ishl S.here hx rfl (hb hby hd) rfl hr) g
theorem ishr (K : Cx own code mL ret mn n0 Z p l e R s m args below meth c) (S : St n0 p l e R s m args below meth c k n h T) (hd : Dc code pc (.ishr) 1 q) (g : Wp n0 p e R s below Q T (mkF m q Ls (.int (x >>> (y &&& 31)) :: st))) : Wp n0 p e R s below Q T (mkF m pc Ls (.int y :: .int x :: st)) := by
  obtain ⟨hx, hby, -⟩ := K; obtain ⟨locs, S, -, -⟩ := S; obtain ⟨hd, rfl⟩ := hd
  exact wp_mono (fun t hr => XT.ishr S.here hx rfl (hb hby hd) rfl hr) g
theorem iushr (K : Cx own code mL ret mn n0 Z p l e R s m args below meth c) (S : St n0 p l e R s m args below meth c k n h T) (hd : Dc code pc (.iushr) 1 q) (g : Wp n0 p e R s below Q T (mkF m q Ls (.int (XT.ushr x y) :: st))) : Wp n0 p e R s below Q T (mkF m pc Ls (.int y :: .int x :: st)) := by
  obtain ⟨hx, hby, -⟩ := K; obtain ⟨locs, S, -, -⟩ := S; obtain ⟨hd, rfl⟩ := hd
  exact wp_mono (fun t hr => XT.iushr S.here hx rfl (hb hby hd) rfl hr) g
theorem idiv (K : Cx own code mL ret mn n0 Z p l e R s m args below meth c) (S : St n0 p l e R s m args below meth c k n h T) (hy : y ≠ 0) (hd : Dc code pc (.idiv) 1 q) (g : Wp n0 p e R s below Q T (mkF m q Ls (.int (x / y) :: st))) : Wp n0 p e R s below Q T (mkF m pc Ls (.int y :: .int x :: st)) := by
  obtain ⟨hx, hby, -⟩ := K; obtain ⟨locs, S, -, -⟩ := S; obtain ⟨hd, rfl⟩ := hd
  exact wp_mono (fun t hr => XS.idiv S.here hx rfl (hb hby hd) rfl hy hr) g
theorem irem (K : Cx own code mL ret mn n0 Z p l e R s m args below meth c) (S : St n0 p l e R s m args below meth c k n h T) (hy : y ≠ 0) (hd : Dc code pc (.irem) 1 q) (g : Wp n0 p e R s below Q T (mkF m q Ls (.int (x % y) :: st))) : Wp n0 p e R s below Q T (mkF m pc Ls (.int y :: .int x :: st)) := by
  obtain ⟨hx, hby, -⟩ := K; obtain ⟨locs, S, -, -⟩ := S; obtain ⟨hd, rfl⟩ := hd
  exact wp_mono (fun t hr => iremM S hx rfl (hb hby hd) rfl hy hr) g
theorem ladd (K : Cx own code mL ret mn n0 Z p l e R s m args below meth c) (S : St n0 p l e R s m args below meth c k n h T) (hd : Dc code pc (.ladd) 1 q) (g : Wp n0 p e R s below Q T (mkF m q Ls (.long (X + Y) :: st))) : Wp n0 p e R s below Q T (mkF m pc Ls (.long Y :: .long X :: st)) := by
  obtain ⟨hx, hby, -⟩ := K; obtain ⟨locs, S, -, -⟩ := S; obtain ⟨hd, rfl⟩ := hd
  exact wp_mono (fun t hr => XT.ladd S.here hx rfl (hb hby hd) rfl hr) g
theorem lsub (K : Cx own code mL ret mn n0 Z p l e R s m args below meth c) (S : St n0 p l e R s m args below meth c k n h T) (hd : Dc code pc (.lsub) 1 q) (g : Wp n0 p e R s below Q T (mkF m q Ls (.long (X - Y) :: st))) : Wp n0 p e R s below Q T (mkF m pc Ls (.long Y :: .long X :: st)) := by
  obtain ⟨hx, hby, -⟩ := K; obtain ⟨locs, S, -, -⟩ := S; obtain ⟨hd, rfl⟩ := hd
  exact wp_mono (fun t hr => XT.lsub S.here hx rfl (hb hby hd) rfl hr) g
theorem lmul (K : Cx own code mL ret mn n0 Z p l e R s m args below meth c) (S : St n0 p l e R s m args below meth c k n h T) (hd : Dc code pc (.lmul) 1 q) (g : Wp n0 p e R s below Q T (mkF m q Ls (.long (X * Y) :: st))) : Wp n0 p e R s below Q T (mkF m pc Ls (.long Y :: .long X :: st)) := by
  obtain ⟨hx, hby, -⟩ := K; obtain ⟨locs, S, -, -⟩ := S; obtain ⟨hd, rfl⟩ := hd
  exact wp_mono (fun t hr => XT.lmul S.here hx rfl (hb hby hd) rfl hr) g
theorem land (K : Cx own code mL ret mn n0 Z p l e R s m args below meth c) (S : St n0 p l e R s m args below meth c k n h T) (hd : Dc code pc (.land) 1 q) (g : Wp n0 p e R s below Q T (mkF m q Ls (.long (X &&& Y) :: st))) : Wp n0 p e R s below Q T (mkF m pc Ls (.long Y :: .long X :: st)) := by
  obtain ⟨hx, hby, -⟩ := K; obtain ⟨locs, S, -, -⟩ := S; obtain ⟨hd, rfl⟩ := hd
  exact wp_mono (fun t hr => XT.land S.here hx rfl (hb hby hd) rfl hr) g
theorem ldiv (K : Cx own code mL ret mn n0 Z p l e R s m args below meth c) (S : St n0 p l e R s m args below meth c k n h T) (hy : Y ≠ 0) (hd : Dc code pc (.ldiv) 1 q) (g : Wp n0 p e R s below Q T (mkF m q Ls (.long (X / Y) :: st))) : Wp n0 p e R s below Q T (mkF m pc Ls (.long Y :: .long X :: st)) := by
  obtain ⟨hx, hby, -⟩ := K; obtain ⟨locs, S, -, -⟩ := S; obtain ⟨hd, rfl⟩ := hd
  exact wp_mono (fun t hr => XT.ldiv S.here hx rfl (hb hby hd) rfl hy hr) g
theorem lrem (K : Cx own code mL ret mn n0 Z p l e R s m args below meth c) (S : St n0 p l e R s m args below meth c k n h T) (hy : Y ≠ 0) (hd : Dc code pc (.lrem) 1 q) (g : Wp n0 p e R s below Q T (mkF m q Ls (.long (X % Y) :: st))) : Wp n0 p e R s below Q T (mkF m pc Ls (.long Y :: .long X :: st)) := by
  obtain ⟨hx, hby, -⟩ := K; obtain ⟨locs, S, -, -⟩ := S; obtain ⟨hd, rfl⟩ := hd
  exact wp_mono (fun t hr => XT.lrem S.here hx rfl (hb hby hd) rfl hy (by rw [lrem_mod]; exact hr)) g
theorem lushr (K : Cx own code mL ret mn n0 Z p l e R s m args below meth c) (S : St n0 p l e R s m args below meth c k n h T) (hd : Dc code pc (.lushr) 1 q) (g : Wp n0 p e R s below Q T (mkF m q Ls (.long (XT.ushrL X y) :: st))) : Wp n0 p e R s below Q T (mkF m pc Ls (.int y :: .long X :: st)) := by
  obtain ⟨hx, hby, -⟩ := K; obtain ⟨locs, S, -, -⟩ := S; obtain ⟨hd, rfl⟩ := hd
  exact wp_mono (fun t hr => XT.lushr S.here hx rfl (hb hby hd) rfl hr) g
theorem i2l (K : Cx own code mL ret mn n0 Z p l e R s m args below meth c) (S : St n0 p l e R s m args below meth c k n h T) (hd : Dc code pc (.i2l) 1 q) (g : Wp n0 p e R s below Q T (mkF m q Ls (.long x.toInt64 :: st))) : Wp n0 p e R s below Q T (mkF m pc Ls (.int x :: st)) := by
  obtain ⟨hx, hby, -⟩ := K; obtain ⟨locs, S, -, -⟩ := S; obtain ⟨hd, rfl⟩ := hd
  exact wp_mono (fun t hr => XT.i2l S.here hx rfl (hb hby hd) rfl hr) g
theorem l2i (K : Cx own code mL ret mn n0 Z p l e R s m args below meth c) (S : St n0 p l e R s m args below meth c k n h T) (hd : Dc code pc (.l2i) 1 q) (g : Wp n0 p e R s below Q T (mkF m q Ls (.int X.toInt32 :: st))) : Wp n0 p e R s below Q T (mkF m pc Ls (.long X :: st)) := by
  obtain ⟨hx, hby, -⟩ := K; obtain ⟨locs, S, -, -⟩ := S; obtain ⟨hd, rfl⟩ := hd
  exact wp_mono (fun t hr => XT.l2i S.here hx rfl (hb hby hd) rfl hr) g
theorem i2b (K : Cx own code mL ret mn n0 Z p l e R s m args below meth c) (S : St n0 p l e R s m args below meth c k n h T) (hd : Dc code pc (.i2b) 1 q) (g : Wp n0 p e R s below Q T (mkF m q Ls (.int x.toInt8.toInt32 :: st))) : Wp n0 p e R s below Q T (mkF m pc Ls (.int x :: st)) := by
  obtain ⟨hx, hby, -⟩ := K; obtain ⟨locs, S, -, -⟩ := S; obtain ⟨hd, rfl⟩ := hd
  exact wp_mono (fun t hr => XT.i2b S.here hx rfl (hb hby hd) rfl hr) g
theorem i2s (K : Cx own code mL ret mn n0 Z p l e R s m args below meth c) (S : St n0 p l e R s m args below meth c k n h T) (hd : Dc code pc (.i2s) 1 q) (g : Wp n0 p e R s below Q T (mkF m q Ls (.int x.toInt16.toInt32 :: st))) : Wp n0 p e R s below Q T (mkF m pc Ls (.int x :: st)) := by
  obtain ⟨hx, hby, -⟩ := K; obtain ⟨locs, S, -, -⟩ := S; obtain ⟨hd, rfl⟩ := hd
  exact wp_mono (fun t hr => XT.i2s S.here hx rfl (hb hby hd) rfl hr) g
theorem i2c (K : Cx own code mL ret mn n0 Z p l e R s m args below meth c) (S : St n0 p l e R s m args below meth c k n h T) (hd : Dc code pc (.i2c) 1 q) (g : Wp n0 p e R s below Q T (mkF m q Ls (.int x.toUInt32.toUInt16.toUInt32.toInt32 :: st))) : Wp n0 p e R s below Q T (mkF m pc Ls (.int x :: st)) := by
  obtain ⟨hx, hby, -⟩ := K; obtain ⟨locs, S, -, -⟩ := S; obtain ⟨hd, rfl⟩ := hd
  exact wp_mono (fun t hr => XT.i2c S.here hx rfl (hb hby hd) rfl hr) g
theorem iconst (K : Cx own code mL ret mn n0 Z p l e R s m args below meth c) (S : St n0 p l e R s m args below meth c k n h T) {i : Int} (hv : Int32.ofInt i = x) (hd : Dc code pc (.iconst i) 1 q) (g : Wp n0 p e R s below Q T (mkF m q Ls (.int x :: st))) : Wp n0 p e R s below Q T (mkF m pc Ls st) := by
  obtain ⟨hx, hby, -⟩ := K; obtain ⟨locs, S, -, -⟩ := S; obtain ⟨hd, rfl⟩ := hd
  exact wp_mono (fun t hr => XS.iconst S.here hx rfl (hb hby hd) (by rw [hv]; exact hr)) g
theorem bipush (K : Cx own code mL ret mn n0 Z p l e R s m args below meth c) (S : St n0 p l e R s m args below meth c k n h T) {i : Int} (hv : (Int8.ofInt i).toInt32 = x) (hd : Dc code pc (.bipush i) 2 q) (g : Wp n0 p e R s below Q T (mkF m q Ls (.int x :: st))) : Wp n0 p e R s below Q T (mkF m pc Ls st) := by
  obtain ⟨hx, hby, -⟩ := K; obtain ⟨locs, S, -, -⟩ := S; obtain ⟨hd, rfl⟩ := hd
  exact wp_mono (fun t hr => XS.bipush S.here hx rfl (hb hby hd) (by rw [hv]; exact hr)) g
theorem sipush (K : Cx own code mL ret mn n0 Z p l e R s m args below meth c) (S : St n0 p l e R s m args below meth c k n h T) {i : Int} (hv : (Int16.ofInt i).toInt32 = x) (hd : Dc code pc (.sipush i) 3 q) (g : Wp n0 p e R s below Q T (mkF m q Ls (.int x :: st))) : Wp n0 p e R s below Q T (mkF m pc Ls st) := by
  obtain ⟨hx, hby, -⟩ := K; obtain ⟨locs, S, -, -⟩ := S; obtain ⟨hd, rfl⟩ := hd
  exact wp_mono (fun t hr => XS.sipush S.here hx rfl (hb hby hd) (by rw [hv]; exact hr)) g
theorem lconst (K : Cx own code mL ret mn n0 Z p l e R s m args below meth c) (S : St n0 p l e R s m args below meth c k n h T) {i : Fin 2} (hv : Int64.ofNat i = X) (hd : Dc code pc (.lconst i) 1 q) (g : Wp n0 p e R s below Q T (mkF m q Ls (.long X :: st))) : Wp n0 p e R s below Q T (mkF m pc Ls st) := by
  obtain ⟨hx, hby, -⟩ := K; obtain ⟨locs, S, -, -⟩ := S; obtain ⟨hd, rfl⟩ := hd
  exact wp_mono (fun t hr => XT.lconst S.here hx rfl (hb hby hd) (by rw [hv]; exact hr)) g
theorem anull (K : Cx own code mL ret mn n0 Z p l e R s m args below meth c) (S : St n0 p l e R s m args below meth c k n h T) (hd : Dc code pc (.aconst_null) 1 q) (g : Wp n0 p e R s below Q T (mkF m q Ls (.null :: st))) : Wp n0 p e R s below Q T (mkF m pc Ls st) := by
  obtain ⟨hx, hby, -⟩ := K; obtain ⟨locs, S, -, -⟩ := S; obtain ⟨hd, rfl⟩ := hd
  exact wp_mono (fun t hr => XS.aconstNull S.here hx rfl (hb hby hd) hr) g
theorem dup (K : Cx own code mL ret mn n0 Z p l e R s m args below meth c) (S : St n0 p l e R s m args below meth c k n h T) (hc : v.category = 1) (hd : Dc code pc (.dup) 1 q) (g : Wp n0 p e R s below Q T (mkF m q Ls (v :: v :: st))) : Wp n0 p e R s below Q T (mkF m pc Ls (v :: st)) := by
  obtain ⟨hx, hby, -⟩ := K; obtain ⟨locs, S, -, -⟩ := S; obtain ⟨hd, rfl⟩ := hd
  exact wp_mono (fun t hr => XS.dup S.here hx rfl (hb hby hd) rfl hc hr) g
theorem pop (K : Cx own code mL ret mn n0 Z p l e R s m args below meth c) (S : St n0 p l e R s m args below meth c k n h T) (hc : v.category = 1) (hd : Dc code pc (.pop) 1 q) (g : Wp n0 p e R s below Q T (mkF m q Ls st)) : Wp n0 p e R s below Q T (mkF m pc Ls (v :: st)) := by
  obtain ⟨hx, hby, -⟩ := K; obtain ⟨locs, S, -, -⟩ := S; obtain ⟨hd, rfl⟩ := hd
  exact wp_mono (fun t hr => XT.pop S.here hx rfl (hb hby hd) rfl hc hr) g
theorem dup_x1 (K : Cx own code mL ret mn n0 Z p l e R s m args below meth c) (S : St n0 p l e R s m args below meth c k n h T) (hc : v.category = 1) (hc' : w.category = 1) (hd : Dc code pc (.dup_x1) 1 q) (g : Wp n0 p e R s below Q T (mkF m q Ls (v :: w :: v :: st))) : Wp n0 p e R s below Q T (mkF m pc Ls (v :: w :: st)) := by
  obtain ⟨hx, hby, -⟩ := K; obtain ⟨locs, S, -, -⟩ := S; obtain ⟨hd, rfl⟩ := hd
  exact wp_mono (fun t hr => XT.dupX1 S.here hx rfl (hb hby hd) rfl hc hc' hr) g
theorem dup2 (K : Cx own code mL ret mn n0 Z p l e R s m args below meth c) (S : St n0 p l e R s m args below meth c k n h T) (hc : v.category = 1) (hc' : w.category = 1) (hd : Dc code pc (.dup2) 1 q) (g : Wp n0 p e R s below Q T (mkF m q Ls (v :: w :: v :: w :: st))) : Wp n0 p e R s below Q T (mkF m pc Ls (v :: w :: st)) := by
  obtain ⟨hx, hby, -⟩ := K; obtain ⟨locs, S, -, -⟩ := S; obtain ⟨hd, rfl⟩ := hd
  exact wp_mono (fun t hr => XT.dup2 S.here hx rfl (hb hby hd) rfl hc hc' hr) g
theorem iload (K : Cx own code mL ret mn n0 Z p l e R s m args below meth c) (S : St n0 p l e R s m args below meth c k n h T) {i : Nat} (hl : Ls[i]? = some (.val (.int x))) (hd : Dc code pc (.iload i) 2 q) (g : Wp n0 p e R s below Q T (mkF m q Ls (.int x :: st))) : Wp n0 p e R s below Q T (mkF m pc Ls st) := by
  obtain ⟨hx, hby, -⟩ := K; obtain ⟨locs, S, -, -⟩ := S; obtain ⟨hd, rfl⟩ := hd
  exact wp_mono (fun t hr => XS.iload S.here hx rfl (hb hby hd) hl hr) g
theorem iload_n (K : Cx own code mL ret mn n0 Z p l e R s m args below meth c) (S : St n0 p l e R s m args below meth c k n h T) {i : Fin 4} (hl : Ls[i.val]? = some (.val (.int x))) (hd : Dc code pc (.iload_n i) 1 q) (g : Wp n0 p e R s below Q T (mkF m q Ls (.int x :: st))) : Wp n0 p e R s below Q T (mkF m pc Ls st) := by
  obtain ⟨hx, hby, -⟩ := K; obtain ⟨locs, S, -, -⟩ := S; obtain ⟨hd, rfl⟩ := hd
  exact wp_mono (fun t hr => XS.iloadN S.here hx rfl (hb hby hd) hl hr) g
theorem aload (K : Cx own code mL ret mn n0 Z p l e R s m args below meth c) (S : St n0 p l e R s m args below meth c k n h T) {i : Nat} (hl : Ls[i]? = some (.val (v))) (hv : v.isRef = true) (hd : Dc code pc (.aload i) 2 q) (g : Wp n0 p e R s below Q T (mkF m q Ls (v :: st))) : Wp n0 p e R s below Q T (mkF m pc Ls st) := by
  obtain ⟨hx, hby, -⟩ := K; obtain ⟨locs, S, -, -⟩ := S; obtain ⟨hd, rfl⟩ := hd
  exact wp_mono (fun t hr => XS.aload S.here hx rfl (hb hby hd) hl hv hr) g
theorem aload_n (K : Cx own code mL ret mn n0 Z p l e R s m args below meth c) (S : St n0 p l e R s m args below meth c k n h T) {i : Fin 4} (hl : Ls[i.val]? = some (.val (v))) (hv : v.isRef = true) (hd : Dc code pc (.aload_n i) 1 q) (g : Wp n0 p e R s below Q T (mkF m q Ls (v :: st))) : Wp n0 p e R s below Q T (mkF m pc Ls st) := by
  obtain ⟨hx, hby, -⟩ := K; obtain ⟨locs, S, -, -⟩ := S; obtain ⟨hd, rfl⟩ := hd
  exact wp_mono (fun t hr => XS.aloadN S.here hx rfl (hb hby hd) hl hv hr) g
theorem lload (K : Cx own code mL ret mn n0 Z p l e R s m args below meth c) (S : St n0 p l e R s m args below meth c k n h T) {i : Nat} (hl : Ls[i]? = some (.val (.long X))) (hd : Dc code pc (.lload i) 2 q) (g : Wp n0 p e R s below Q T (mkF m q Ls (.long X :: st))) : Wp n0 p e R s below Q T (mkF m pc Ls st) := by
  obtain ⟨hx, hby, -⟩ := K; obtain ⟨locs, S, -, -⟩ := S; obtain ⟨hd, rfl⟩ := hd
  exact wp_mono (fun t hr => XT.lload S.here hx rfl (hb hby hd) hl hr) g
theorem lload_n (K : Cx own code mL ret mn n0 Z p l e R s m args below meth c) (S : St n0 p l e R s m args below meth c k n h T) {i : Fin 4} (hl : Ls[i.val]? = some (.val (.long X))) (hd : Dc code pc (.lload_n i) 1 q) (g : Wp n0 p e R s below Q T (mkF m q Ls (.long X :: st))) : Wp n0 p e R s below Q T (mkF m pc Ls st) := by
  obtain ⟨hx, hby, -⟩ := K; obtain ⟨locs, S, -, -⟩ := S; obtain ⟨hd, rfl⟩ := hd
  exact wp_mono (fun t hr => XT.lloadN S.here hx rfl (hb hby hd) hl hr) g
theorem istore (K : Cx own code mL ret mn n0 Z p l e R s m args below meth c) (S : St n0 p l e R s m args below meth c k n h T) {i : Nat} (hl : storeLocals Ls i (.int x) = some l') (hd : Dc code pc (.istore i) 2 q) (g : Wp n0 p e R s below Q T (mkF m q l' st)) : Wp n0 p e R s below Q T (mkF m pc Ls (.int x :: st)) := by
  obtain ⟨hx, hby, -⟩ := K; obtain ⟨locs, S, -, -⟩ := S; obtain ⟨hd, rfl⟩ := hd
  exact wp_mono (fun t hr => XS.istore S.here hx rfl (hb hby hd) rfl hl hr) g
theorem istore_n (K : Cx own code mL ret mn n0 Z p l e R s m args below meth c) (S : St n0 p l e R s m args below meth c k n h T) {i : Fin 4} (hl : storeLocals Ls i.val (.int x) = some l') (hd : Dc code pc (.istore_n i) 1 q) (g : Wp n0 p e R s below Q T (mkF m q l' st)) : Wp n0 p e R s below Q T (mkF m pc Ls (.int x :: st)) := by
  obtain ⟨hx, hby, -⟩ := K; obtain ⟨locs, S, -, -⟩ := S; obtain ⟨hd, rfl⟩ := hd
  exact wp_mono (fun t hr => XS.istoreN S.here hx rfl (hb hby hd) rfl hl hr) g
theorem astore (K : Cx own code mL ret mn n0 Z p l e R s m args below meth c) (S : St n0 p l e R s m args below meth c k n h T) {i : Nat} (hv : v.isRef = true) (hl : storeLocals Ls i (v) = some l') (hd : Dc code pc (.astore i) 2 q) (g : Wp n0 p e R s below Q T (mkF m q l' st)) : Wp n0 p e R s below Q T (mkF m pc Ls (v :: st)) := by
  obtain ⟨hx, hby, -⟩ := K; obtain ⟨locs, S, -, -⟩ := S; obtain ⟨hd, rfl⟩ := hd
  exact wp_mono (fun t hr => XS.astore S.here hx rfl (hb hby hd) rfl hv hl hr) g
theorem astore_n (K : Cx own code mL ret mn n0 Z p l e R s m args below meth c) (S : St n0 p l e R s m args below meth c k n h T) {i : Fin 4} (hv : v.isRef = true) (hl : storeLocals Ls i.val (v) = some l') (hd : Dc code pc (.astore_n i) 1 q) (g : Wp n0 p e R s below Q T (mkF m q l' st)) : Wp n0 p e R s below Q T (mkF m pc Ls (v :: st)) := by
  obtain ⟨hx, hby, -⟩ := K; obtain ⟨locs, S, -, -⟩ := S; obtain ⟨hd, rfl⟩ := hd
  exact wp_mono (fun t hr => XS.astoreN S.here hx rfl (hb hby hd) rfl hv hl hr) g
theorem lstore (K : Cx own code mL ret mn n0 Z p l e R s m args below meth c) (S : St n0 p l e R s m args below meth c k n h T) {i : Nat} (hl : storeLocals Ls i (.long X) = some l') (hd : Dc code pc (.lstore i) 2 q) (g : Wp n0 p e R s below Q T (mkF m q l' st)) : Wp n0 p e R s below Q T (mkF m pc Ls (.long X :: st)) := by
  obtain ⟨hx, hby, -⟩ := K; obtain ⟨locs, S, -, -⟩ := S; obtain ⟨hd, rfl⟩ := hd
  exact wp_mono (fun t hr => XT.lstore S.here hx rfl (hb hby hd) rfl hl hr) g
theorem lstore_n (K : Cx own code mL ret mn n0 Z p l e R s m args below meth c) (S : St n0 p l e R s m args below meth c k n h T) {i : Fin 4} (hl : storeLocals Ls i.val (.long X) = some l') (hd : Dc code pc (.lstore_n i) 1 q) (g : Wp n0 p e R s below Q T (mkF m q l' st)) : Wp n0 p e R s below Q T (mkF m pc Ls (.long X :: st)) := by
  obtain ⟨hx, hby, -⟩ := K; obtain ⟨locs, S, -, -⟩ := S; obtain ⟨hd, rfl⟩ := hd
  exact wp_mono (fun t hr => XT.lstoreN S.here hx rfl (hb hby hd) rfl hl hr) g
theorem iinc (K : Cx own code mL ret mn n0 Z p l e R s m args below meth c) (S : St n0 p l e R s m args below meth c k n h T) {i : Nat} {cst : Int} (hv : Int32.ofInt cst = y) (hl : Ls[i]? = some (.val (.int x))) (hl' : storeLocals Ls i (.int (x + y)) = some l') (hd : Dc code pc (.iinc i cst) 3 q) (g : Wp n0 p e R s below Q T (mkF m q l' st)) : Wp n0 p e R s below Q T (mkF m pc Ls st) := by
  obtain ⟨hx, hby, -⟩ := K; obtain ⟨locs, S, -, -⟩ := S; obtain ⟨hd, rfl⟩ := hd
  exact wp_mono (fun t hr => XS.iinc S.here hx rfl (hb hby hd) hl (by rw [hv]; exact hl') hr) g
theorem goto (K : Cx own code mL ret mn n0 Z p l e R s m args below meth c) (S : St n0 p l e R s m args below meth c k n h T) {o : Int} (hd : Bc code pc (.goto o) o q q') (g : Wp n0 p e R s below Q T (mkF m q' Ls st)) : Wp n0 p e R s below Q T (mkF m pc Ls st) := by
  obtain ⟨hx, hby, -⟩ := K; obtain ⟨locs, S, -, -⟩ := S; obtain ⟨hd, -, h1, h2⟩ := hd
  exact wp_mono (fun t hr => XS.goto S.here hx rfl rfl (hb hby hd) h1 h2 hr) g
theorem icmp (K : Cx own code mL ret mn n0 Z p l e R s m args below meth c) (S : St n0 p l e R s m args below meth c k n h T) {o : Int} {cd : ClassFile.Cond} (hd : Bc code pc (.if_icmp cd o) o q q') (g1 : if_icmp.holds cd x y = true → Wp n0 p e R s below Q T (mkF m q' Ls st)) (g2 : if_icmp.holds cd x y = false → Wp n0 p e R s below Q T (mkF m q Ls st)) : Wp n0 p e R s below Q T (mkF m pc Ls (.int y :: .int x :: st)) := by
  obtain ⟨hx, hby, -⟩ := K; obtain ⟨locs, S, -, -⟩ := S; obtain ⟨hd, rfl, h1, h2⟩ := hd
  cases hc : if_icmp.holds cd x y with
  | true => exact wp_mono (fun t hr => XS.icmpYes S.here hx rfl rfl (hb hby hd) rfl hc h1 h2 hr) (g1 hc)
  | false => exact wp_mono (fun t hr => XS.icmpNo S.here hx rfl (hb hby hd) rfl hc hr) (g2 hc)
theorem ific (K : Cx own code mL ret mn n0 Z p l e R s m args below meth c) (S : St n0 p l e R s m args below meth c k n h T) {o : Int} {cd : ClassFile.Cond} (hd : Bc code pc (.ifCond cd o) o q q') (g1 : if_icmp.holds cd x 0 = true → Wp n0 p e R s below Q T (mkF m q' Ls st)) (g2 : if_icmp.holds cd x 0 = false → Wp n0 p e R s below Q T (mkF m q Ls st)) : Wp n0 p e R s below Q T (mkF m pc Ls (.int x :: st)) := by
  obtain ⟨hx, hby, -⟩ := K; obtain ⟨locs, S, -, -⟩ := S; obtain ⟨hd, rfl, h1, h2⟩ := hd
  cases hc : if_icmp.holds cd x 0 with
  | true => exact wp_mono (fun t hr => XS.ifYes S.here hx rfl rfl (hb hby hd) rfl (by rw [if0]; exact hc) h1 h2 hr) (g1 hc)
  | false => exact wp_mono (fun t hr => XS.ifNo S.here hx rfl (hb hby hd) rfl (by rw [if0]; exact hc) hr) (g2 hc)
theorem icmp_lt (K : Cx own code mL ret mn n0 Z p l e R s m args below meth c) (S : St n0 p l e R s m args below meth c k n h T) {o : Int} (hd : Bc code pc (.if_icmp .lt o) o q q') (g1 : x < y → Wp n0 p e R s below Q T (mkF m q' Ls st)) (g2 : ¬ x < y → Wp n0 p e R s below Q T (mkF m q Ls st)) : Wp n0 p e R s below Q T (mkF m pc Ls (.int y :: .int x :: st)) := by
  by_cases hc : x < y
  · exact icmp K S hd (fun _ => g1 hc) (fun q => absurd ((tlt hc).1) (by rw [q]; decide))
  · exact icmp K S hd (fun q => absurd ((flt hc).1) (by rw [q]; decide)) (fun _ => g2 hc)
theorem ific_lt (K : Cx own code mL ret mn n0 Z p l e R s m args below meth c) (S : St n0 p l e R s m args below meth c k n h T) {o : Int} (hd : Bc code pc (.ifCond .lt o) o q q') (g1 : x < 0 → Wp n0 p e R s below Q T (mkF m q' Ls st)) (g2 : ¬ x < 0 → Wp n0 p e R s below Q T (mkF m q Ls st)) : Wp n0 p e R s below Q T (mkF m pc Ls (.int x :: st)) := by
  by_cases hc : x < 0
  · exact ific K S hd (fun _ => g1 hc) (fun q => absurd ((tlt hc).1) (by rw [q]; decide))
  · exact ific K S hd (fun q => absurd ((flt hc).1) (by rw [q]; decide)) (fun _ => g2 hc)
theorem icmp_ge (K : Cx own code mL ret mn n0 Z p l e R s m args below meth c) (S : St n0 p l e R s m args below meth c k n h T) {o : Int} (hd : Bc code pc (.if_icmp .ge o) o q q') (g1 : ¬ x < y → Wp n0 p e R s below Q T (mkF m q' Ls st)) (g2 : x < y → Wp n0 p e R s below Q T (mkF m q Ls st)) : Wp n0 p e R s below Q T (mkF m pc Ls (.int y :: .int x :: st)) := by
  by_cases hc : x < y
  · exact icmp K S hd (fun q => absurd ((tlt hc).2.1) (by rw [q]; decide)) (fun _ => g2 hc)
  · exact icmp K S hd (fun _ => g1 hc) (fun q => absurd ((flt hc).2.1) (by rw [q]; decide))
theorem ific_ge (K : Cx own code mL ret mn n0 Z p l e R s m args below meth c) (S : St n0 p l e R s m args below meth c k n h T) {o : Int} (hd : Bc code pc (.ifCond .ge o) o q q') (g1 : ¬ x < 0 → Wp n0 p e R s below Q T (mkF m q' Ls st)) (g2 : x < 0 → Wp n0 p e R s below Q T (mkF m q Ls st)) : Wp n0 p e R s below Q T (mkF m pc Ls (.int x :: st)) := by
  by_cases hc : x < 0
  · exact ific K S hd (fun q => absurd ((tlt hc).2.1) (by rw [q]; decide)) (fun _ => g2 hc)
  · exact ific K S hd (fun _ => g1 hc) (fun q => absurd ((flt hc).2.1) (by rw [q]; decide))
theorem icmp_gt (K : Cx own code mL ret mn n0 Z p l e R s m args below meth c) (S : St n0 p l e R s m args below meth c k n h T) {o : Int} (hd : Bc code pc (.if_icmp .gt o) o q q') (g1 : y < x → Wp n0 p e R s below Q T (mkF m q' Ls st)) (g2 : ¬ y < x → Wp n0 p e R s below Q T (mkF m q Ls st)) : Wp n0 p e R s below Q T (mkF m pc Ls (.int y :: .int x :: st)) := by
  by_cases hc : y < x
  · exact icmp K S hd (fun _ => g1 hc) (fun q => absurd ((tlt hc).2.2.1) (by rw [q]; decide))
  · exact icmp K S hd (fun q => absurd ((flt hc).2.2.1) (by rw [q]; decide)) (fun _ => g2 hc)
theorem ific_gt (K : Cx own code mL ret mn n0 Z p l e R s m args below meth c) (S : St n0 p l e R s m args below meth c k n h T) {o : Int} (hd : Bc code pc (.ifCond .gt o) o q q') (g1 : 0 < x → Wp n0 p e R s below Q T (mkF m q' Ls st)) (g2 : ¬ 0 < x → Wp n0 p e R s below Q T (mkF m q Ls st)) : Wp n0 p e R s below Q T (mkF m pc Ls (.int x :: st)) := by
  by_cases hc : 0 < x
  · exact ific K S hd (fun _ => g1 hc) (fun q => absurd ((tlt hc).2.2.1) (by rw [q]; decide))
  · exact ific K S hd (fun q => absurd ((flt hc).2.2.1) (by rw [q]; decide)) (fun _ => g2 hc)
theorem icmp_le (K : Cx own code mL ret mn n0 Z p l e R s m args below meth c) (S : St n0 p l e R s m args below meth c k n h T) {o : Int} (hd : Bc code pc (.if_icmp .le o) o q q') (g1 : ¬ y < x → Wp n0 p e R s below Q T (mkF m q' Ls st)) (g2 : y < x → Wp n0 p e R s below Q T (mkF m q Ls st)) : Wp n0 p e R s below Q T (mkF m pc Ls (.int y :: .int x :: st)) := by
  by_cases hc : y < x
  · exact icmp K S hd (fun q => absurd ((tlt hc).2.2.2) (by rw [q]; decide)) (fun _ => g2 hc)
  · exact icmp K S hd (fun _ => g1 hc) (fun q => absurd ((flt hc).2.2.2) (by rw [q]; decide))
theorem ific_le (K : Cx own code mL ret mn n0 Z p l e R s m args below meth c) (S : St n0 p l e R s m args below meth c k n h T) {o : Int} (hd : Bc code pc (.ifCond .le o) o q q') (g1 : ¬ 0 < x → Wp n0 p e R s below Q T (mkF m q' Ls st)) (g2 : 0 < x → Wp n0 p e R s below Q T (mkF m q Ls st)) : Wp n0 p e R s below Q T (mkF m pc Ls (.int x :: st)) := by
  by_cases hc : 0 < x
  · exact ific K S hd (fun q => absurd ((tlt hc).2.2.2) (by rw [q]; decide)) (fun _ => g2 hc)
  · exact ific K S hd (fun _ => g1 hc) (fun q => absurd ((flt hc).2.2.2) (by rw [q]; decide))
theorem icmp_eq (K : Cx own code mL ret mn n0 Z p l e R s m args below meth c) (S : St n0 p l e R s m args below meth c k n h T) {o : Int} (hd : Bc code pc (.if_icmp .eq o) o q q') (g1 : x = y → Wp n0 p e R s below Q T (mkF m q' Ls st)) (g2 : ¬ x = y → Wp n0 p e R s below Q T (mkF m q Ls st)) : Wp n0 p e R s below Q T (mkF m pc Ls (.int y :: .int x :: st)) := by
  by_cases hc : x = y
  · exact icmp K S hd (fun _ => g1 hc) (fun q => absurd ((teq hc).1) (by rw [q]; decide))
  · exact icmp K S hd (fun q => absurd ((feq hc).1) (by rw [q]; decide)) (fun _ => g2 hc)
theorem ific_eq (K : Cx own code mL ret mn n0 Z p l e R s m args below meth c) (S : St n0 p l e R s m args below meth c k n h T) {o : Int} (hd : Bc code pc (.ifCond .eq o) o q q') (g1 : x = 0 → Wp n0 p e R s below Q T (mkF m q' Ls st)) (g2 : ¬ x = 0 → Wp n0 p e R s below Q T (mkF m q Ls st)) : Wp n0 p e R s below Q T (mkF m pc Ls (.int x :: st)) := by
  by_cases hc : x = 0
  · exact ific K S hd (fun _ => g1 hc) (fun q => absurd ((teq hc).1) (by rw [q]; decide))
  · exact ific K S hd (fun q => absurd ((feq hc).1) (by rw [q]; decide)) (fun _ => g2 hc)
theorem icmp_ne (K : Cx own code mL ret mn n0 Z p l e R s m args below meth c) (S : St n0 p l e R s m args below meth c k n h T) {o : Int} (hd : Bc code pc (.if_icmp .ne o) o q q') (g1 : ¬ x = y → Wp n0 p e R s below Q T (mkF m q' Ls st)) (g2 : x = y → Wp n0 p e R s below Q T (mkF m q Ls st)) : Wp n0 p e R s below Q T (mkF m pc Ls (.int y :: .int x :: st)) := by
  by_cases hc : x = y
  · exact icmp K S hd (fun q => absurd ((teq hc).2) (by rw [q]; decide)) (fun _ => g2 hc)
  · exact icmp K S hd (fun _ => g1 hc) (fun q => absurd ((feq hc).2) (by rw [q]; decide))
theorem ific_ne (K : Cx own code mL ret mn n0 Z p l e R s m args below meth c) (S : St n0 p l e R s m args below meth c k n h T) {o : Int} (hd : Bc code pc (.ifCond .ne o) o q q') (g1 : ¬ x = 0 → Wp n0 p e R s below Q T (mkF m q' Ls st)) (g2 : x = 0 → Wp n0 p e R s below Q T (mkF m q Ls st)) : Wp n0 p e R s below Q T (mkF m pc Ls (.int x :: st)) := by
  by_cases hc : x = 0
  · exact ific K S hd (fun q => absurd ((teq hc).2) (by rw [q]; decide)) (fun _ => g2 hc)
  · exact ific K S hd (fun _ => g1 hc) (fun q => absurd ((feq hc).2) (by rw [q]; decide))
theorem lcmp_lt (K : Cx own code mL ret mn n0 Z p l e R s m args below meth c) (S : St n0 p l e R s m args below meth c k n h T) {o : Int} {pc1 : Nat} (hd1 : Dc code pc .lcmp 1 pc1) (hd : Bc code pc1 (.ifCond .lt o) o q q') (g1 : X < Y → Wp n0 p e R s below Q T (mkF m q' Ls st)) (g2 : ¬ X < Y → Wp n0 p e R s below Q T (mkF m q Ls st)) : Wp n0 p e R s below Q T (mkF m pc Ls (.long Y :: .long X :: st)) := by
  obtain ⟨hx, hby, -⟩ := K; obtain ⟨locs, S, -, -⟩ := S; obtain ⟨hd, rfl, h1, h2⟩ := hd; obtain ⟨hd1, rfl⟩ := hd1
  by_cases hc : X < Y
  · exact wp_mono (fun t hr => XT.lcmp S.here hx rfl (hb hby hd1) rfl (XS.ifYes S.here hx rfl rfl (hb hby hd) rfl (XT.ll_lt_t hc) h1 h2 hr)) (g1 hc)
  · exact wp_mono (fun t hr => XT.lcmp S.here hx rfl (hb hby hd1) rfl (XS.ifNo S.here hx rfl (hb hby hd) rfl (XT.ll_lt_f hc) hr)) (g2 hc)
theorem lcmp_ge (K : Cx own code mL ret mn n0 Z p l e R s m args below meth c) (S : St n0 p l e R s m args below meth c k n h T) {o : Int} {pc1 : Nat} (hd1 : Dc code pc .lcmp 1 pc1) (hd : Bc code pc1 (.ifCond .ge o) o q q') (g1 : ¬ X < Y → Wp n0 p e R s below Q T (mkF m q' Ls st)) (g2 : X < Y → Wp n0 p e R s below Q T (mkF m q Ls st)) : Wp n0 p e R s below Q T (mkF m pc Ls (.long Y :: .long X :: st)) := by
  obtain ⟨hx, hby, -⟩ := K; obtain ⟨locs, S, -, -⟩ := S; obtain ⟨hd, rfl, h1, h2⟩ := hd; obtain ⟨hd1, rfl⟩ := hd1
  by_cases hc : X < Y
  · exact wp_mono (fun t hr => XT.lcmp S.here hx rfl (hb hby hd1) rfl (XS.ifNo S.here hx rfl (hb hby hd) rfl (XT.ll_ge_f hc) hr)) (g2 hc)
  · exact wp_mono (fun t hr => XT.lcmp S.here hx rfl (hb hby hd1) rfl (XS.ifYes S.here hx rfl rfl (hb hby hd) rfl (XT.ll_ge_t hc) h1 h2 hr)) (g1 hc)
theorem lcmp_gt (K : Cx own code mL ret mn n0 Z p l e R s m args below meth c) (S : St n0 p l e R s m args below meth c k n h T) {o : Int} {pc1 : Nat} (hd1 : Dc code pc .lcmp 1 pc1) (hd : Bc code pc1 (.ifCond .gt o) o q q') (g1 : Y < X → Wp n0 p e R s below Q T (mkF m q' Ls st)) (g2 : ¬ Y < X → Wp n0 p e R s below Q T (mkF m q Ls st)) : Wp n0 p e R s below Q T (mkF m pc Ls (.long Y :: .long X :: st)) := by
  obtain ⟨hx, hby, -⟩ := K; obtain ⟨locs, S, -, -⟩ := S; obtain ⟨hd, rfl, h1, h2⟩ := hd; obtain ⟨hd1, rfl⟩ := hd1
  by_cases hc : Y < X
  · exact wp_mono (fun t hr => XT.lcmp S.here hx rfl (hb hby hd1) rfl (XS.ifYes S.here hx rfl rfl (hb hby hd) rfl (XT.ll_gt_t hc) h1 h2 hr)) (g1 hc)
  · exact wp_mono (fun t hr => XT.lcmp S.here hx rfl (hb hby hd1) rfl (XS.ifNo S.here hx rfl (hb hby hd) rfl (XT.ll_gt_f hc) hr)) (g2 hc)
theorem lcmp_le (K : Cx own code mL ret mn n0 Z p l e R s m args below meth c) (S : St n0 p l e R s m args below meth c k n h T) {o : Int} {pc1 : Nat} (hd1 : Dc code pc .lcmp 1 pc1) (hd : Bc code pc1 (.ifCond .le o) o q q') (g1 : ¬ Y < X → Wp n0 p e R s below Q T (mkF m q' Ls st)) (g2 : Y < X → Wp n0 p e R s below Q T (mkF m q Ls st)) : Wp n0 p e R s below Q T (mkF m pc Ls (.long Y :: .long X :: st)) := by
  obtain ⟨hx, hby, -⟩ := K; obtain ⟨locs, S, -, -⟩ := S; obtain ⟨hd, rfl, h1, h2⟩ := hd; obtain ⟨hd1, rfl⟩ := hd1
  by_cases hc : Y < X
  · exact wp_mono (fun t hr => XT.lcmp S.here hx rfl (hb hby hd1) rfl (XS.ifNo S.here hx rfl (hb hby hd) rfl (XT.ll_le_f hc) hr)) (g2 hc)
  · exact wp_mono (fun t hr => XT.lcmp S.here hx rfl (hb hby hd1) rfl (XS.ifYes S.here hx rfl rfl (hb hby hd) rfl (XT.ll_le_t hc) h1 h2 hr)) (g1 hc)
theorem lcmp_eq (K : Cx own code mL ret mn n0 Z p l e R s m args below meth c) (S : St n0 p l e R s m args below meth c k n h T) {o : Int} {pc1 : Nat} (hd1 : Dc code pc .lcmp 1 pc1) (hd : Bc code pc1 (.ifCond .eq o) o q q') (g1 : X = Y → Wp n0 p e R s below Q T (mkF m q' Ls st)) (g2 : ¬ X = Y → Wp n0 p e R s below Q T (mkF m q Ls st)) : Wp n0 p e R s below Q T (mkF m pc Ls (.long Y :: .long X :: st)) := by
  obtain ⟨hx, hby, -⟩ := K; obtain ⟨locs, S, -, -⟩ := S; obtain ⟨hd, rfl, h1, h2⟩ := hd; obtain ⟨hd1, rfl⟩ := hd1
  by_cases hc : X = Y
  · exact wp_mono (fun t hr => XT.lcmp S.here hx rfl (hb hby hd1) rfl (XS.ifYes S.here hx rfl rfl (hb hby hd) rfl (XT.ll_eq_t hc) h1 h2 hr)) (g1 hc)
  · exact wp_mono (fun t hr => XT.lcmp S.here hx rfl (hb hby hd1) rfl (XS.ifNo S.here hx rfl (hb hby hd) rfl (XT.ll_eq_f hc) hr)) (g2 hc)
theorem lcmp_ne (K : Cx own code mL ret mn n0 Z p l e R s m args below meth c) (S : St n0 p l e R s m args below meth c k n h T) {o : Int} {pc1 : Nat} (hd1 : Dc code pc .lcmp 1 pc1) (hd : Bc code pc1 (.ifCond .ne o) o q q') (g1 : ¬ X = Y → Wp n0 p e R s below Q T (mkF m q' Ls st)) (g2 : X = Y → Wp n0 p e R s below Q T (mkF m q Ls st)) : Wp n0 p e R s below Q T (mkF m pc Ls (.long Y :: .long X :: st)) := by
  obtain ⟨hx, hby, -⟩ := K; obtain ⟨locs, S, -, -⟩ := S; obtain ⟨hd, rfl, h1, h2⟩ := hd; obtain ⟨hd1, rfl⟩ := hd1
  by_cases hc : X = Y
  · exact wp_mono (fun t hr => XT.lcmp S.here hx rfl (hb hby hd1) rfl (XS.ifNo S.here hx rfl (hb hby hd) rfl (XT.ll_ne_f hc) hr)) (g2 hc)
  · exact wp_mono (fun t hr => XT.lcmp S.here hx rfl (hb hby hd1) rfl (XS.ifYes S.here hx rfl rfl (hb hby hd) rfl (XT.ll_ne_t hc) h1 h2 hr)) (g1 hc)
theorem icmpz_lt (K : Cx own code mL ret mn n0 Z p l e R s m args below meth c) (S : St n0 p l e R s m args below meth c k n h T) {o : Int} (hd : Bc code pc (.if_icmp .lt o) o q q') (g1 : x.toInt < y.toInt → Wp n0 p e R s below Q T (mkF m q' Ls st)) (g2 : ¬ x.toInt < y.toInt → Wp n0 p e R s below Q T (mkF m q Ls st)) : Wp n0 p e R s below Q T (mkF m pc Ls (.int y :: .int x :: st)) :=
  icmp_lt K S hd (fun q => g1 (Int32.lt_iff_toInt_lt.mp q)) (fun q => g2 (fun r => q (Int32.lt_iff_toInt_lt.mpr r)))
theorem ificz_lt (K : Cx own code mL ret mn n0 Z p l e R s m args below meth c) (S : St n0 p l e R s m args below meth c k n h T) {o : Int} (hd : Bc code pc (.ifCond .lt o) o q q') (g1 : x.toInt < 0 → Wp n0 p e R s below Q T (mkF m q' Ls st)) (g2 : ¬ x.toInt < 0 → Wp n0 p e R s below Q T (mkF m q Ls st)) : Wp n0 p e R s below Q T (mkF m pc Ls (.int x :: st)) :=
  ific_lt K S hd (fun q => g1 (Int32.lt_iff_toInt_lt.mp q)) (fun q => g2 (fun r => q (Int32.lt_iff_toInt_lt.mpr r)))
theorem lcmpz_lt (K : Cx own code mL ret mn n0 Z p l e R s m args below meth c) (S : St n0 p l e R s m args below meth c k n h T) {o : Int} {pc1 : Nat} (hd1 : Dc code pc .lcmp 1 pc1) (hd : Bc code pc1 (.ifCond .lt o) o q q') (g1 : X.toInt < Y.toInt → Wp n0 p e R s below Q T (mkF m q' Ls st)) (g2 : ¬ X.toInt < Y.toInt → Wp n0 p e R s below Q T (mkF m q Ls st)) : Wp n0 p e R s below Q T (mkF m pc Ls (.long Y :: .long X :: st)) :=
  lcmp_lt K S hd1 hd (fun q => g1 (Int64.lt_iff_toInt_lt.mp q)) (fun q => g2 (fun r => q (Int64.lt_iff_toInt_lt.mpr r)))
theorem icmpz_ge (K : Cx own code mL ret mn n0 Z p l e R s m args below meth c) (S : St n0 p l e R s m args below meth c k n h T) {o : Int} (hd : Bc code pc (.if_icmp .ge o) o q q') (g1 : ¬ x.toInt < y.toInt → Wp n0 p e R s below Q T (mkF m q' Ls st)) (g2 : x.toInt < y.toInt → Wp n0 p e R s below Q T (mkF m q Ls st)) : Wp n0 p e R s below Q T (mkF m pc Ls (.int y :: .int x :: st)) :=
  icmp_ge K S hd (fun q => g1 (fun r => q (Int32.lt_iff_toInt_lt.mpr r))) (fun q => g2 (Int32.lt_iff_toInt_lt.mp q))
theorem ificz_ge (K : Cx own code mL ret mn n0 Z p l e R s m args below meth c) (S : St n0 p l e R s m args below meth c k n h T) {o : Int} (hd : Bc code pc (.ifCond .ge o) o q q') (g1 : ¬ x.toInt < 0 → Wp n0 p e R s below Q T (mkF m q' Ls st)) (g2 : x.toInt < 0 → Wp n0 p e R s below Q T (mkF m q Ls st)) : Wp n0 p e R s below Q T (mkF m pc Ls (.int x :: st)) :=
  ific_ge K S hd (fun q => g1 (fun r => q (Int32.lt_iff_toInt_lt.mpr r))) (fun q => g2 (Int32.lt_iff_toInt_lt.mp q))
theorem lcmpz_ge (K : Cx own code mL ret mn n0 Z p l e R s m args below meth c) (S : St n0 p l e R s m args below meth c k n h T) {o : Int} {pc1 : Nat} (hd1 : Dc code pc .lcmp 1 pc1) (hd : Bc code pc1 (.ifCond .ge o) o q q') (g1 : ¬ X.toInt < Y.toInt → Wp n0 p e R s below Q T (mkF m q' Ls st)) (g2 : X.toInt < Y.toInt → Wp n0 p e R s below Q T (mkF m q Ls st)) : Wp n0 p e R s below Q T (mkF m pc Ls (.long Y :: .long X :: st)) :=
  lcmp_ge K S hd1 hd (fun q => g1 (fun r => q (Int64.lt_iff_toInt_lt.mpr r))) (fun q => g2 (Int64.lt_iff_toInt_lt.mp q))
theorem icmpz_gt (K : Cx own code mL ret mn n0 Z p l e R s m args below meth c) (S : St n0 p l e R s m args below meth c k n h T) {o : Int} (hd : Bc code pc (.if_icmp .gt o) o q q') (g1 : y.toInt < x.toInt → Wp n0 p e R s below Q T (mkF m q' Ls st)) (g2 : ¬ y.toInt < x.toInt → Wp n0 p e R s below Q T (mkF m q Ls st)) : Wp n0 p e R s below Q T (mkF m pc Ls (.int y :: .int x :: st)) :=
  icmp_gt K S hd (fun q => g1 (Int32.lt_iff_toInt_lt.mp q)) (fun q => g2 (fun r => q (Int32.lt_iff_toInt_lt.mpr r)))
theorem ificz_gt (K : Cx own code mL ret mn n0 Z p l e R s m args below meth c) (S : St n0 p l e R s m args below meth c k n h T) {o : Int} (hd : Bc code pc (.ifCond .gt o) o q q') (g1 : 0 < x.toInt → Wp n0 p e R s below Q T (mkF m q' Ls st)) (g2 : ¬ 0 < x.toInt → Wp n0 p e R s below Q T (mkF m q Ls st)) : Wp n0 p e R s below Q T (mkF m pc Ls (.int x :: st)) :=
  ific_gt K S hd (fun q => g1 (Int32.lt_iff_toInt_lt.mp q)) (fun q => g2 (fun r => q (Int32.lt_iff_toInt_lt.mpr r)))
theorem lcmpz_gt (K : Cx own code mL ret mn n0 Z p l e R s m args below meth c) (S : St n0 p l e R s m args below meth c k n h T) {o : Int} {pc1 : Nat} (hd1 : Dc code pc .lcmp 1 pc1) (hd : Bc code pc1 (.ifCond .gt o) o q q') (g1 : Y.toInt < X.toInt → Wp n0 p e R s below Q T (mkF m q' Ls st)) (g2 : ¬ Y.toInt < X.toInt → Wp n0 p e R s below Q T (mkF m q Ls st)) : Wp n0 p e R s below Q T (mkF m pc Ls (.long Y :: .long X :: st)) :=
  lcmp_gt K S hd1 hd (fun q => g1 (Int64.lt_iff_toInt_lt.mp q)) (fun q => g2 (fun r => q (Int64.lt_iff_toInt_lt.mpr r)))
theorem icmpz_le (K : Cx own code mL ret mn n0 Z p l e R s m args below meth c) (S : St n0 p l e R s m args below meth c k n h T) {o : Int} (hd : Bc code pc (.if_icmp .le o) o q q') (g1 : ¬ y.toInt < x.toInt → Wp n0 p e R s below Q T (mkF m q' Ls st)) (g2 : y.toInt < x.toInt → Wp n0 p e R s below Q T (mkF m q Ls st)) : Wp n0 p e R s below Q T (mkF m pc Ls (.int y :: .int x :: st)) :=
  icmp_le K S hd (fun q => g1 (fun r => q (Int32.lt_iff_toInt_lt.mpr r))) (fun q => g2 (Int32.lt_iff_toInt_lt.mp q))
theorem ificz_le (K : Cx own code mL ret mn n0 Z p l e R s m args below meth c) (S : St n0 p l e R s m args below meth c k n h T) {o : Int} (hd : Bc code pc (.ifCond .le o) o q q') (g1 : ¬ 0 < x.toInt → Wp n0 p e R s below Q T (mkF m q' Ls st)) (g2 : 0 < x.toInt → Wp n0 p e R s below Q T (mkF m q Ls st)) : Wp n0 p e R s below Q T (mkF m pc Ls (.int x :: st)) :=
  ific_le K S hd (fun q => g1 (fun r => q (Int32.lt_iff_toInt_lt.mpr r))) (fun q => g2 (Int32.lt_iff_toInt_lt.mp q))
theorem lcmpz_le (K : Cx own code mL ret mn n0 Z p l e R s m args below meth c) (S : St n0 p l e R s m args below meth c k n h T) {o : Int} {pc1 : Nat} (hd1 : Dc code pc .lcmp 1 pc1) (hd : Bc code pc1 (.ifCond .le o) o q q') (g1 : ¬ Y.toInt < X.toInt → Wp n0 p e R s below Q T (mkF m q' Ls st)) (g2 : Y.toInt < X.toInt → Wp n0 p e R s below Q T (mkF m q Ls st)) : Wp n0 p e R s below Q T (mkF m pc Ls (.long Y :: .long X :: st)) :=
  lcmp_le K S hd1 hd (fun q => g1 (fun r => q (Int64.lt_iff_toInt_lt.mpr r))) (fun q => g2 (Int64.lt_iff_toInt_lt.mp q))
theorem icmpz_eq (K : Cx own code mL ret mn n0 Z p l e R s m args below meth c) (S : St n0 p l e R s m args below meth c k n h T) {o : Int} (hd : Bc code pc (.if_icmp .eq o) o q q') (g1 : x.toInt = y.toInt → Wp n0 p e R s below Q T (mkF m q' Ls st)) (g2 : ¬ x.toInt = y.toInt → Wp n0 p e R s below Q T (mkF m q Ls st)) : Wp n0 p e R s below Q T (mkF m pc Ls (.int y :: .int x :: st)) :=
  icmp_eq K S hd (fun q => g1 (congrArg Int32.toInt q)) (fun q => g2 (fun r => q (Int32.toInt_inj.mp r)))
theorem ificz_eq (K : Cx own code mL ret mn n0 Z p l e R s m args below meth c) (S : St n0 p l e R s m args below meth c k n h T) {o : Int} (hd : Bc code pc (.ifCond .eq o) o q q') (g1 : x.toInt = 0 → Wp n0 p e R s below Q T (mkF m q' Ls st)) (g2 : ¬ x.toInt = 0 → Wp n0 p e R s below Q T (mkF m q Ls st)) : Wp n0 p e R s below Q T (mkF m pc Ls (.int x :: st)) :=
  ific_eq K S hd (fun q => g1 (congrArg Int32.toInt q)) (fun q => g2 (fun r => q (Int32.toInt_inj.mp r)))
theorem lcmpz_eq (K : Cx own code mL ret mn n0 Z p l e R s m args below meth c) (S : St n0 p l e R s m args below meth c k n h T) {o : Int} {pc1 : Nat} (hd1 : Dc code pc .lcmp 1 pc1) (hd : Bc code pc1 (.ifCond .eq o) o q q') (g1 : X.toInt = Y.toInt → Wp n0 p e R s below Q T (mkF m q' Ls st)) (g2 : ¬ X.toInt = Y.toInt → Wp n0 p e R s below Q T (mkF m q Ls st)) : Wp n0 p e R s below Q T (mkF m pc Ls (.long Y :: .long X :: st)) :=
  lcmp_eq K S hd1 hd (fun q => g1 (congrArg Int64.toInt q)) (fun q => g2 (fun r => q (Int64.toInt_inj.mp r)))
theorem icmpz_ne (K : Cx own code mL ret mn n0 Z p l e R s m args below meth c) (S : St n0 p l e R s m args below meth c k n h T) {o : Int} (hd : Bc code pc (.if_icmp .ne o) o q q') (g1 : ¬ x.toInt = y.toInt → Wp n0 p e R s below Q T (mkF m q' Ls st)) (g2 : x.toInt = y.toInt → Wp n0 p e R s below Q T (mkF m q Ls st)) : Wp n0 p e R s below Q T (mkF m pc Ls (.int y :: .int x :: st)) :=
  icmp_ne K S hd (fun q => g1 (fun r => q (Int32.toInt_inj.mp r))) (fun q => g2 (congrArg Int32.toInt q))
theorem ificz_ne (K : Cx own code mL ret mn n0 Z p l e R s m args below meth c) (S : St n0 p l e R s m args below meth c k n h T) {o : Int} (hd : Bc code pc (.ifCond .ne o) o q q') (g1 : ¬ x.toInt = 0 → Wp n0 p e R s below Q T (mkF m q' Ls st)) (g2 : x.toInt = 0 → Wp n0 p e R s below Q T (mkF m q Ls st)) : Wp n0 p e R s below Q T (mkF m pc Ls (.int x :: st)) :=
  ific_ne K S hd (fun q => g1 (fun r => q (Int32.toInt_inj.mp r))) (fun q => g2 (congrArg Int32.toInt q))
theorem lcmpz_ne (K : Cx own code mL ret mn n0 Z p l e R s m args below meth c) (S : St n0 p l e R s m args below meth c k n h T) {o : Int} {pc1 : Nat} (hd1 : Dc code pc .lcmp 1 pc1) (hd : Bc code pc1 (.ifCond .ne o) o q q') (g1 : ¬ X.toInt = Y.toInt → Wp n0 p e R s below Q T (mkF m q' Ls st)) (g2 : X.toInt = Y.toInt → Wp n0 p e R s below Q T (mkF m q Ls st)) : Wp n0 p e R s below Q T (mkF m pc Ls (.long Y :: .long X :: st)) :=
  lcmp_ne K S hd1 hd (fun q => g1 (fun r => q (Int64.toInt_inj.mp r))) (fun q => g2 (congrArg Int64.toInt q))
theorem ifnull_ref (K : Cx own code mL ret mn n0 Z p l e R s m args below meth c) (S : St n0 p l e R s m args below meth c k n h T) {o : Int} (hd : Bc code pc (.ifnull o) o q q') (g : Wp n0 p e R s below Q T (mkF m q Ls st)) : Wp n0 p e R s below Q T (mkF m pc Ls (.ref a :: st)) := by
  obtain ⟨hx, hby, -⟩ := K; obtain ⟨locs, S, -, -⟩ := S; obtain ⟨hd, rfl, h1, h2⟩ := hd
  exact wp_mono (fun t hr => XS.ifnullNo S.here hx rfl (hb hby hd) rfl hr) g
theorem ldc (K : Cx own code mL ret mn n0 Z p l e R s m args below meth c) (S : St n0 p l e R s m args below meth c k n h T) {i : Nat} (w : (Jvm.Cond.constant own i x).before a0 Z = true) (hd : Dc code pc (.ldc i) 2 q) (g : Wp n0 p e R s below Q T (mkF m q Ls (.int x :: st))) : Wp n0 p e R s below Q T (mkF m pc Ls st) := by
  obtain ⟨hx, hby, -, -, -, hown, hZ, -⟩ := K; obtain ⟨locs, S, -, -⟩ := S; obtain ⟨hd, rfl⟩ := hd
  refine wp_mono (T' := T) (g' := mkF m (pc + 2) Ls (.int x :: st)) (fun t hr => ?_) g
  exact S.ldcInt hx hown (mvT hZ w) (g := mkF m pc Ls st) rfl (hb hby hd) t hr
theorem ldc2 (K : Cx own code mL ret mn n0 Z p l e R s m args below meth c) (S : St n0 p l e R s m args below meth c k n h T) {i : Nat} (w : (Jvm.Cond.constantLong own i X).before a0 Z = true) (hd : Dc code pc (.ldc2_w i) 3 q) (g : Wp n0 p e R s below Q T (mkF m q Ls (.long X :: st))) : Wp n0 p e R s below Q T (mkF m pc Ls st) := by
  obtain ⟨hx, hby, -, -, -, hown, hZ, -⟩ := K; obtain ⟨locs, S, -, -⟩ := S; obtain ⟨hd, rfl⟩ := hd
  refine wp_mono (T' := T) (g' := mkF m (pc + 3) Ls (.long X :: st)) (fun t hr => ?_) g
  exact S.ldc2Long hx hown (mvT hZ w) (g := mkF m pc Ls st) rfl (hb hby hd) t hr
theorem getf (K : Cx own code mL ret mn n0 Z p l e R s m args below meth c) (S : St n0 p l e R s m args below meth c k n h T) {i : Nat} {O fn d : String} (w : (Jvm.Cond.fieldLink own i O fn d).before a0 Z = true) (F : Fld Z h a O fn d v) (hd : Dc code pc (.getfield i) 3 q) (g : ∀ T, St n0 p l e R s m args below meth c k n h T → Wp n0 p e R s below Q T (mkF m q Ls (v :: st))) : Wp n0 p e R s below Q T (mkF m pc Ls (.ref a :: st)) := by
  obtain ⟨hx, hby, -, -, -, hown, hZ, -⟩ := K; obtain ⟨locs, S, e1, N, z⟩ := S; obtain ⟨hd, rfl⟩ := hd
  obtain ⟨T1, S1, e2, st1⟩ := getF S hx hZ hown (host := "") (Or.inl w) Via.refl e1 F (g := mkF m pc Ls (.ref a :: st)) rfl rfl (hb hby hd)
  exact wp_mono st1 (g T1 ⟨locs, S1, e2, N, z⟩)
theorem putf (K : Cx own code mL ret mn n0 Z p l e R s m args below meth c) (S : St n0 p l e R s m args below meth c k n h T) {i kk : Nat} {O fn d C : String} {old : Value} (w : (Jvm.Cond.fieldLink own i O fn d).before a0 Z = true) (F : Fld Z h a O fn d old) (E : Exa Z h a C) (L : (Jvm.Cond.lays C O fn d).before a0 Z = true ∨ ((Jvm.Cond.laysFinal C O fn d).before a0 Z = true ∧ own = O ∧ mn = "<init>")) (wi : (Jvm.Cond.instantiable C kk).before a0 Z = true) (hty : parseFieldDescriptor d = some ty) (hn : narrow ty v = v) (hf : fits ty v = true) (ha : n0 ≤ a) (hd : Dc code pc (.putfield i) 3 q) (g : ∀ T h', Wr h h' a (Jvm.RoadKit.slotOf Z O fn d) v → St n0 p l e R s m args below meth c k n h' T → Wp n0 p e R s below Q T (mkF m q Ls st)) : Wp n0 p e R s below Q T (mkF m pc Ls (v :: .ref a :: st)) := by
  obtain ⟨hx, hby, -, -, -, hown, hZ, hmn⟩ := K; obtain ⟨locs, S, e1, N, z⟩ := S; obtain ⟨hd, rfl⟩ := hd
  obtain ⟨T1, h1, S1, e2, W1, st1⟩ := putF S hx hZ hown (host := "") (Or.inl w) Via.refl e1 F E (L.imp id fun q => ⟨q.1, q.2.1, hmn.trans q.2.2⟩) wi hty hn hf (g := mkF m pc Ls (v :: .ref a :: st)) rfl rfl (hb hby hd)
  exact wp_mono st1 (g T1 h1 W1 ⟨_, S1, e2, Fr.snoc S1 N ha, by rw [W1.size]; exact z⟩)
theorem new (K : Cx own code mL ret mn n0 Z p l e R s m args below meth c) (S : St n0 p l e R s m args below meth c k n h T) {i nn : Nat} {C : String} (w : (Jvm.Cond.classLink own i C).before a0 Z = true) (wi : (Jvm.Cond.instantiable C nn).before a0 Z = true) (wz : (Jvm.Cond.initialized C).before a0 Z = true) (hc : k + 1 ≤ R.cells) (hl : n + nn ≤ R.slots) (hd : Dc code pc (.new i) 3 q) (g : ∀ T h' a, a = h.size → n0 ≤ a → Ext h h' → Exa Z h' a C → (∀ {O nm d : String} {ty : FieldType}, Laid Z a0 C O nm d → parseFieldDescriptor d = some ty → Fld Z h' a O nm d (defaultValue ty)) → St n0 p l e R s m args below meth c (k + 1) (n + nn) h' T → Wp n0 p e R s below Q T (mkF m q Ls (.ref a :: st))) : Wp n0 p e R s below Q T (mkF m pc Ls st) := by
  obtain ⟨hx, hby, -, -, -, hown, hZ, hmn⟩ := K; obtain ⟨locs, S, e1, N, z⟩ := S; obtain ⟨hd, rfl⟩ := hd
  obtain ⟨T1, h1, S1, e2, E1, A1, D1, -, st1⟩ := newO S hx hZ hown w wi wz e1 (g := mkF m pc Ls st) rfl (hb hby hd) hc hl
  exact wp_mono st1 (g T1 h1 h.size rfl z E1 A1 D1 ⟨_, S1, e2, N, Nat.le_trans z E1.1⟩)
theorem newarr (K : Cx own code mL ret mn n0 Z p l e R s m args below meth c) (S : St n0 p l e R s m args below meth c k n h T) {aty : ArrayType} {cap : Nat} (w : (Jvm.Cond.arrayClass (newarray.typeOf aty)).before a0 Z = true) (hn : ¬ x < 0) (hcap : x.toNatClampNeg ≤ cap) (hb' : cap * 8 ≤ 536870912) (hc : k + 1 ≤ R.cells) (hl : n + cap ≤ R.slots) (hd : Dc code pc (.newarray aty) 2 q) (g : ∀ T h' a, a = h.size → n0 ≤ a → Ext h h' → VA Z h' a (newarray.typeOf aty) (List.replicate x.toNatClampNeg (defaultValue (newarray.typeOf aty))) → St n0 p l e R s m args below meth c (k + 1) (n + cap) h' T → Wp n0 p e R s below Q T (mkF m q Ls (.ref a :: st))) : Wp n0 p e R s below Q T (mkF m pc Ls (.int x :: st)) := by
  obtain ⟨hx, hby, -, -, -, hown, hZ, hmn⟩ := K; obtain ⟨locs, S, e1, N, z⟩ := S; obtain ⟨hd, rfl⟩ := hd
  obtain ⟨T1, h1, cA, S1, e2, E1, A1, st1⟩ := newP S hx hZ w e1 (g := mkF m pc Ls (.int x :: st)) rfl (hb hby hd) rfl hn hcap hb' hc hl
  exact wp_mono st1 (g T1 h1 h.size rfl z E1 ⟨_, A1, by simp [newA]⟩ ⟨_, S1, e2, N, Nat.le_trans z E1.1⟩)
theorem inito (K : Cx own code mL ret mn n0 Z p l e R s m args below meth c) (S : St n0 p l e R s m args below meth c k n h T) {i W : Nat} (w1 : (Jvm.Cond.methodLink own i Lib.objectInit).before a0 Z = true) (w2 : (Jvm.Cond.instanceMethod Lib.objectInit).before a0 Z = true) (w3 : (Jvm.Cond.code Lib.objectInit ⟨#[0xb1]⟩ 1 none).before a0 Z = true) (hsz : Ls.size = mL) (hf : 1 ≤ R.frames) (hW : (st.map fun v => v.category).sum ≤ W) (hl : W + 12 ≤ R.locals) (hd : Dc code pc (.invokespecial i) 3 q) (g : ∀ T, St n0 p l e R s m args below meth c k n h T → Wp n0 p e R s below Q T (mkF m q Ls st)) : Wp n0 p e R s below Q T (mkF m pc Ls (.ref a :: st)) := by
  obtain ⟨hx, hby, hml, -, -, hown, hZ, hmn⟩ := K; obtain ⟨locs, S, e1, N, z⟩ := S; obtain ⟨hd, rfl⟩ := hd
  obtain ⟨T1, S1, e2, st1⟩ := initO S hx hZ hown w1 w2 w3 e1 (g := mkF m pc Ls (.ref a :: st)) rfl (by rw [hml]; exact hsz) rfl (hb hby hd) hf (W := W) (by show 2 * 0 + _ ≤ _; omega) hl
  exact wp_mono st1 (g T1 ⟨_, S1, e2, N, z⟩)
theorem iaload (K : Cx own code mL ret mn n0 Z p l e R s m args below meth c) (S : St n0 p l e R s m args below meth c k n h T) {i : Nat} (A : VA Z h a .int vs) (hi : Ix x i) (hv : vs[i]? = some v) (hd : Dc code pc .iaload 1 q) (g : Wp n0 p e R s below Q T (mkF m q Ls (v :: st))) : Wp n0 p e R s below Q T (mkF m pc Ls (.int x :: .ref a :: st)) := by
  obtain ⟨hx, hby, -, -, -, hown, hZ, -⟩ := K; obtain ⟨locs, S, e1, N, z⟩ := S; obtain ⟨hd, rfl⟩ := hd; obtain ⟨cl, A, hs⟩ := A; obtain ⟨hi0, rfl⟩ := hi
  have hlt : x.toNatClampNeg < vs.length := (List.getElem?_eq_some_iff.mp hv).1
  exact wp_mono (fun t hr => S.iaload hx (by rw [e1]; exact A.1) (State.isArrayOf_alike hZ.alike A.2.1) A.2.2 (by rw [hs]; simp; exact ⟨Int32.not_lt.mp hi0, hlt⟩) (by rw [hs]; simpa using hv) (g := mkF m pc Ls (.int x :: .ref a :: st)) rfl rfl (hb hby hd) t hr) g
theorem laload (K : Cx own code mL ret mn n0 Z p l e R s m args below meth c) (S : St n0 p l e R s m args below meth c k n h T) {i : Nat} (A : VA Z h a .long vs) (hi : Ix x i) (hv : vs[i]? = some v) (hd : Dc code pc .laload 1 q) (g : Wp n0 p e R s below Q T (mkF m q Ls (v :: st))) : Wp n0 p e R s below Q T (mkF m pc Ls (.int x :: .ref a :: st)) := by
  obtain ⟨hx, hby, -, -, -, hown, hZ, -⟩ := K; obtain ⟨locs, S, e1, N, z⟩ := S; obtain ⟨hd, rfl⟩ := hd; obtain ⟨cl, A, hs⟩ := A; obtain ⟨hi0, rfl⟩ := hi
  have hlt : x.toNatClampNeg < vs.length := (List.getElem?_eq_some_iff.mp hv).1
  exact wp_mono (fun t hr => S.laload hx (by rw [e1]; exact A.1) (State.isArrayOf_alike hZ.alike A.2.1) A.2.2 (by rw [hs]; simp; exact ⟨Int32.not_lt.mp hi0, hlt⟩) (by rw [hs]; simpa using hv) (g := mkF m pc Ls (.int x :: .ref a :: st)) rfl rfl (hb hby hd) t hr) g
theorem caload (K : Cx own code mL ret mn n0 Z p l e R s m args below meth c) (S : St n0 p l e R s m args below meth c k n h T) {i : Nat} (A : VA Z h a .char vs) (hi : Ix x i) (hv : vs[i]? = some v) (hd : Dc code pc .caload 1 q) (g : Wp n0 p e R s below Q T (mkF m q Ls (v :: st))) : Wp n0 p e R s below Q T (mkF m pc Ls (.int x :: .ref a :: st)) := by
  obtain ⟨hx, hby, -, -, -, hown, hZ, -⟩ := K; obtain ⟨locs, S, e1, N, z⟩ := S; obtain ⟨hd, rfl⟩ := hd; obtain ⟨cl, A, hs⟩ := A; obtain ⟨hi0, rfl⟩ := hi
  have hlt : x.toNatClampNeg < vs.length := (List.getElem?_eq_some_iff.mp hv).1
  exact wp_mono (fun t hr => S.caload hx (by rw [e1]; exact A.1) (State.isArrayOf_alike hZ.alike A.2.1) A.2.2 (by rw [hs]; simp; exact ⟨Int32.not_lt.mp hi0, hlt⟩) (by rw [hs]; simpa using hv) (g := mkF m pc Ls (.int x :: .ref a :: st)) rfl rfl (hb hby hd) t hr) g
theorem baload (K : Cx own code mL ret mn n0 Z p l e R s m args below meth c) (S : St n0 p l e R s m args below meth c k n h T) {i : Nat} (A : VA Z h a .byte vs) (hi : Ix x i) (hv : vs[i]? = some v) (hd : Dc code pc .baload 1 q) (g : Wp n0 p e R s below Q T (mkF m q Ls (v :: st))) : Wp n0 p e R s below Q T (mkF m pc Ls (.int x :: .ref a :: st)) := by
  obtain ⟨hx, hby, -, -, -, hown, hZ, -⟩ := K; obtain ⟨locs, S, e1, N, z⟩ := S; obtain ⟨hd, rfl⟩ := hd; obtain ⟨cl, A, hs⟩ := A; obtain ⟨hi0, rfl⟩ := hi
  have hlt : x.toNatClampNeg < vs.length := (List.getElem?_eq_some_iff.mp hv).1
  exact wp_mono (fun t hr => S.baloadBytes hx (by rw [e1]; exact A.1) (State.isArrayOf_alike hZ.alike A.2.1) A.2.2 (by rw [hs]; simp; exact ⟨Int32.not_lt.mp hi0, hlt⟩) (by rw [hs]; simpa using hv) (g := mkF m pc Ls (.int x :: .ref a :: st)) rfl rfl (hb hby hd) t hr) g
theorem iastore (K : Cx own code mL ret mn n0 Z p l e R s m args below meth c) (S : St n0 p l e R s m args below meth c k n h T) {i : Nat} (A : VA Z h a .int vs) (hi : Ix x i) (hlt : i < vs.length) (ha : n0 ≤ a) (hd : Dc code pc .iastore 1 q) (g : ∀ T h', Wr h h' a i (.int y) → VA Z h' a .int (vs.set i (.int y)) → St n0 p l e R s m args below meth c k n h' T → Wp n0 p e R s below Q T (mkF m q Ls st)) : Wp n0 p e R s below Q T (mkF m pc Ls (.int y :: .int x :: .ref a :: st)) := by
  obtain ⟨hx, hby, -, -, -, hown, hZ, -⟩ := K; obtain ⟨locs, S, e1, N, z⟩ := S; obtain ⟨hd, rfl⟩ := hd; have A0 := A; obtain ⟨cl, A, hs⟩ := A; obtain ⟨hi0, rfl⟩ := hi
  obtain ⟨T1, h1, S1, e2, W1, st1⟩ := stI S hx hZ e1 A (by rw [hs]; simp; exact ⟨Int32.not_lt.mp hi0, hlt⟩) (g := mkF m pc Ls (.int y :: .int x :: .ref a :: st)) rfl rfl (hb hby hd)
  exact wp_mono st1 (g T1 h1 W1 (A0.wr W1) ⟨_, S1, e2, Fr.snoc S1 N ha, by rw [W1.size]; exact z⟩)
theorem lastore (K : Cx own code mL ret mn n0 Z p l e R s m args below meth c) (S : St n0 p l e R s m args below meth c k n h T) {i : Nat} (A : VA Z h a .long vs) (hi : Ix x i) (hlt : i < vs.length) (ha : n0 ≤ a) (hd : Dc code pc .lastore 1 q) (g : ∀ T h', Wr h h' a i (.long X) → VA Z h' a .long (vs.set i (.long X)) → St n0 p l e R s m args below meth c k n h' T → Wp n0 p e R s below Q T (mkF m q Ls st)) : Wp n0 p e R s below Q T (mkF m pc Ls (.long X :: .int x :: .ref a :: st)) := by
  obtain ⟨hx, hby, -, -, -, hown, hZ, -⟩ := K; obtain ⟨locs, S, e1, N, z⟩ := S; obtain ⟨hd, rfl⟩ := hd; have A0 := A; obtain ⟨cl, A, hs⟩ := A; obtain ⟨hi0, rfl⟩ := hi
  obtain ⟨T1, h1, S1, e2, W1, st1⟩ := stJ S hx hZ e1 A (by rw [hs]; simp; exact ⟨Int32.not_lt.mp hi0, hlt⟩) (g := mkF m pc Ls (.long X :: .int x :: .ref a :: st)) rfl rfl (hb hby hd)
  exact wp_mono st1 (g T1 h1 W1 (A0.wr W1) ⟨_, S1, e2, Fr.snoc S1 N ha, by rw [W1.size]; exact z⟩)
theorem castore (K : Cx own code mL ret mn n0 Z p l e R s m args below meth c) (S : St n0 p l e R s m args below meth c k n h T) {i : Nat} (A : VA Z h a .char vs) (hi : Ix x i) (hlt : i < vs.length) (ha : n0 ≤ a) (hd : Dc code pc .castore 1 q) (g : ∀ T h', Wr h h' a i (.int (nar .char y)) → VA Z h' a .char (vs.set i (.int (nar .char y))) → St n0 p l e R s m args below meth c k n h' T → Wp n0 p e R s below Q T (mkF m q Ls st)) : Wp n0 p e R s below Q T (mkF m pc Ls (.int y :: .int x :: .ref a :: st)) := by
  obtain ⟨hx, hby, -, -, -, hown, hZ, -⟩ := K; obtain ⟨locs, S, e1, N, z⟩ := S; obtain ⟨hd, rfl⟩ := hd; have A0 := A; obtain ⟨cl, A, hs⟩ := A; obtain ⟨hi0, rfl⟩ := hi
  obtain ⟨T1, h1, S1, e2, W1, st1⟩ := stC S hx hZ e1 A (by rw [hs]; simp; exact ⟨Int32.not_lt.mp hi0, hlt⟩) (g := mkF m pc Ls (.int y :: .int x :: .ref a :: st)) rfl rfl (hb hby hd)
  exact wp_mono st1 (g T1 h1 W1 (A0.wr W1) ⟨_, S1, e2, Fr.snoc S1 N ha, by rw [W1.size]; exact z⟩)
theorem bastore (K : Cx own code mL ret mn n0 Z p l e R s m args below meth c) (S : St n0 p l e R s m args below meth c k n h T) {i : Nat} (A : VA Z h a .byte vs) (hi : Ix x i) (hlt : i < vs.length) (ha : n0 ≤ a) (hd : Dc code pc .bastore 1 q) (g : ∀ T h', Wr h h' a i (.int (nar .byte y)) → VA Z h' a .byte (vs.set i (.int (nar .byte y))) → St n0 p l e R s m args below meth c k n h' T → Wp n0 p e R s below Q T (mkF m q Ls st)) : Wp n0 p e R s below Q T (mkF m pc Ls (.int y :: .int x :: .ref a :: st)) := by
  obtain ⟨hx, hby, -, -, -, hown, hZ, -⟩ := K; obtain ⟨locs, S, e1, N, z⟩ := S; obtain ⟨hd, rfl⟩ := hd; have A0 := A; obtain ⟨cl, A, hs⟩ := A; obtain ⟨hi0, rfl⟩ := hi
  obtain ⟨T1, h1, S1, e2, W1, st1⟩ := stB S hx hZ e1 A (by rw [hs]; simp; exact ⟨Int32.not_lt.mp hi0, hlt⟩) (g := mkF m pc Ls (.int y :: .int x :: .ref a :: st)) rfl rfl (hb hby hd)
  exact wp_mono st1 (g T1 h1 W1 (A0.wr W1) ⟨_, S1, e2, Fr.snoc S1 N ha, by rw [W1.size]; exact z⟩)
theorem alen (K : Cx own code mL ret mn n0 Z p l e R s m args below meth c) (S : St n0 p l e R s m args below meth c k n h T) (A : VA Z h a ty vs) (hx' : vs.length.toInt32 = x) (hd : Dc code pc .arraylength 1 q) (g : Wp n0 p e R s below Q T (mkF m q Ls (.int x :: st))) : Wp n0 p e R s below Q T (mkF m pc Ls (.ref a :: st)) := by
  obtain ⟨hx, hby, -, -, -, hown, hZ, -⟩ := K; obtain ⟨locs, S, e1, N, z⟩ := S; obtain ⟨hd, rfl⟩ := hd; obtain ⟨cl, A, hs⟩ := A
  refine wp_mono (fun t hr => S.arraylength hx (by rw [e1]; exact A.1) (State.isArrayOf_alike hZ.alike A.2.1) (g := mkF m pc Ls (.ref a :: st)) rfl rfl (hb hby hd) t hr) (T' := T) (g' := mkF m (pc + 1) Ls (.int cl.slots.size.toInt32 :: st)) ?_
  rw [hs]; simpa [hx'] using g
theorem retn (K : Cx own code mL (some ty) mn n0 Z p l e R s m args below meth c) (S : St n0 p l e R s m args below meth c k n h T) (ht : ty = .boolean ∨ ty = .byte ∨ ty = .char ∨ ty = .short) (hz : nar ty x = y) (hk : k ≤ R.cells) (hn : n ≤ R.slots) (hd : Dc code pc .ireturn 1 q) (hQ : Q (some (.int y)) h) : Wp n0 p e R s below Q T (mkF m pc Ls (.int x :: st)) := by
  obtain ⟨hx, hby, -, hret, hlk, -⟩ := K; obtain ⟨locs, S, e1, N, z⟩ := S; obtain ⟨hd, -⟩ := hd
  obtain ⟨fs, hr, hrun, hended, hW, hsame⟩ := S.leave (v := some (.int y)) (fun h => by rw [hret] at h; cases h) hlk
  refine ⟨_, _, retN S hx hret ht (hb hby hd) (by rw [hz]; exact hr), hrun, hended, _, _, rfl, ⟨?_, ?_, N⟩, ⟨_, rfl⟩, hW, hsame.mono hk hn⟩
  · show Q _ T.heap; rw [e1]; exact hQ
  · show n0 ≤ T.heap.size; rw [e1]; exact z
theorem reti (K : Cx own code mL (some .int) mn n0 Z p l e R s m args below meth c) (S : St n0 p l e R s m args below meth c k n h T) (hk : k ≤ R.cells) (hn : n ≤ R.slots) (hd : Dc code pc .ireturn 1 q) (hQ : Q (some (.int x)) h) : Wp n0 p e R s below Q T (mkF m pc Ls (.int x :: st)) := by
  obtain ⟨hx, hby, -, hret, hlk, -⟩ := K; obtain ⟨locs, S, e1, N, z⟩ := S; obtain ⟨hd, -⟩ := hd
  obtain ⟨fs, hr, hrun, hended, hW, hsame⟩ := S.leave (v := some (.int x)) (fun h => by rw [hret] at h; cases h) hlk
  refine ⟨_, _, retOut S hx hret rfl (Or.inl ⟨rfl, Or.inl rfl, _, rfl⟩) (hb hby hd) hr, hrun, hended, _, _, rfl, ⟨?_, ?_, N⟩, ⟨_, rfl⟩, hW, hsame.mono hk hn⟩
  · show Q _ T.heap; rw [e1]; exact hQ
  · show n0 ≤ T.heap.size; rw [e1]; exact z
theorem retl (K : Cx own code mL (some .long) mn n0 Z p l e R s m args below meth c) (S : St n0 p l e R s m args below meth c k n h T) (hk : k ≤ R.cells) (hn : n ≤ R.slots) (hd : Dc code pc .lreturn 1 q) (hQ : Q (some (.long X)) h) : Wp n0 p e R s below Q T (mkF m pc Ls (.long X :: st)) := by
  obtain ⟨hx, hby, -, hret, hlk, -⟩ := K; obtain ⟨locs, S, e1, N, z⟩ := S; obtain ⟨hd, -⟩ := hd
  obtain ⟨fs, hr, hrun, hended, hW, hsame⟩ := S.leave (v := some (.long X)) (fun h => by rw [hret] at h; cases h) hlk
  refine ⟨_, _, retOut S hx hret rfl (Or.inr (Or.inl ⟨rfl, rfl, _, rfl⟩)) (hb hby hd) hr, hrun, hended, _, _, rfl, ⟨?_, ?_, N⟩, ⟨_, rfl⟩, hW, hsame.mono hk hn⟩
  · show Q _ T.heap; rw [e1]; exact hQ
  · show n0 ≤ T.heap.size; rw [e1]; exact z
theorem reta (K : Cx own code mL (some ty) mn n0 Z p l e R s m args below meth c) (S : St n0 p l e R s m args below meth c k n h T) (hrf : ty.isReference = true) (hnr : narrow ty (.ref a) = .ref a) (hk : k ≤ R.cells) (hn : n ≤ R.slots) (hd : Dc code pc .areturn 1 q) (hQ : Q (some (.ref a)) h) : Wp n0 p e R s below Q T (mkF m pc Ls (.ref a :: st)) := by
  obtain ⟨hx, hby, -, hret, hlk, -⟩ := K; obtain ⟨locs, S, e1, N, z⟩ := S; obtain ⟨hd, -⟩ := hd
  obtain ⟨fs, hr, hrun, hended, hW, hsame⟩ := S.leave (v := some (.ref a)) (fun h => by rw [hret] at h; cases h) hlk
  refine ⟨_, _, retOut S hx hret hnr (Or.inr (Or.inr (Or.inr (Or.inr ⟨rfl, hrf, rfl⟩)))) (hb hby hd) hr, hrun, hended, _, _, rfl, ⟨?_, ?_, N⟩, ⟨_, rfl⟩, hW, hsame.mono hk hn⟩
  · show Q _ T.heap; rw [e1]; exact hQ
  · show n0 ≤ T.heap.size; rw [e1]; exact z
theorem retv (K : Cx own code mL (none) mn n0 Z p l e R s m args below meth c) (S : St n0 p l e R s m args below meth c k n h T) (hk : k ≤ R.cells) (hn : n ≤ R.slots) (hd : Dc code pc .return_ 1 q) (hQ : Q (none) h) : Wp n0 p e R s below Q T (mkF m pc Ls ([])) := by
  obtain ⟨hx, hby, -, hret, hlk, -⟩ := K; obtain ⟨locs, S, e1, N, z⟩ := S; obtain ⟨hd, -⟩ := hd
  obtain ⟨fs, hr, hrun, hended, hW, hsame⟩ := S.leave (v := none) (fun _ => rfl) hlk
  refine ⟨_, _, S.returnOut hx hret (hb hby hd) hr, hrun, hended, _, _, rfl, ⟨?_, ?_, N⟩, ⟨_, rfl⟩, hW, hsame.mono hk hn⟩
  · show Q _ T.heap; rw [e1]; exact hQ
  · show n0 ≤ T.heap.size; rw [e1]; exact z
theorem callS (K : Cx own code mL ret mn n0 Z p l e R s m args below meth c) (S : St n0 p l e R s m args below meth c k n h T) {i mL' W : Nat} {y : MethodName} {bytes : ByteArray} {ret' : Option FieldType} {rm : Room} {as' : Array Value} {Q' : Option Value → Heap → Prop} {argsL : List Value} (M : Met n0 l Z y bytes mL' ret' rm [] as' h Q') (w1 : (Jvm.Cond.methodLink own i y).before a0 Z = true) (w2 : (Jvm.Cond.static y).before a0 Z = true) (w4 : (Jvm.Cond.code y bytes mL' ret').before a0 Z = true) (w5 : (Jvm.Cond.initialized y.cls).before a0 Z = true) (hy : y.cls ≠ "java/lang/invoke/MethodHandle" ∧ y.cls ≠ "java/lang/invoke/VarHandle") (hfr : rm.frames + 1 ≤ R.frames) (hlo : W + (mL' + 11) + rm.locals ≤ R.locals) (hce : k + rm.cells ≤ R.cells) (hsl : n + rm.slots ≤ R.slots) (hsz : Ls.size = mL) (has : (argsL).toArray = as') (hlen : ∀ sig, parseMethodDescriptor y.desc = some sig → argsL.length = sig.parameters.length) (hst : st = argsL.reverse ++ rest) (hW : (rest.map fun v => v.category).sum ≤ W) (hd : Dc code pc (.invokestatic i) 3 q) (g : ∀ T v h', Q' v h' → St n0 p l e R s m args below meth c (k + rm.cells) (n + rm.slots) h' T → Wp n0 p e R s below Q T (mkF m q Ls (v.toList ++ rest))) : Wp n0 p e R s below Q T (mkF m pc Ls st) := by
  obtain ⟨hx, hby, hml, -, -, hown, hZ, hmn⟩ := K; obtain ⟨locs, S, e1, N, z⟩ := S; obtain ⟨hd, rfl⟩ := hd; subst hst has
  obtain ⟨v1, _, ⟨T1, L1, k1, n1⟩, -, S1, ⟨Lc1, hQ1, l1, y1, z1⟩, st1⟩ := Jvm.LawKit.callS S hx (y := y) hown (mvT hZ w1) (mvT hZ w2) (mvT hZ w5) (mvT hZ w4) hy (backOf (W := W) (Q := fun v h L => Q' v h ∧ n0 ≤ h.size ∧ Fr n0 L) M hZ w4 w5 hfr hlo) (g := mkF m pc Ls (argsL.reverse ++ rest)) rfl (by rw [hml]; exact hsz) (argsL := argsL) (rest := rest) hlen rfl (by show 2 * 0 + _ ≤ _; omega) (hb hby hd) (fun _ _ => ⟨rfl, e1, hce, hsl⟩)
  dsimp only [Pt.U, Pt.locs, Pt.cells, Pt.slots] at S1 l1 y1 z1 st1 hQ1
  subst l1 y1 z1
  exact wp_mono st1 (g T1 v1 T1.heap hQ1.1 ⟨_, S1, rfl, Fr.app N hQ1.2.2, hQ1.2.1⟩)
theorem callC (K : Cx own code mL ret mn n0 Z p l e R s m args below meth c) (S : St n0 p l e R s m args below meth c k n h T) {i mL' W : Nat} {y : MethodName} {bytes : ByteArray} {ret' : Option FieldType} {rm : Room} {as' : Array Value} {Q' : Option Value → Heap → Prop} {argsL : List Value} (M : Met n0 l Z y bytes mL' ret' rm [] as' h Q') (hin : y.name = "<init>") (hr0 : ret' = none) (w1 : (Jvm.Cond.methodLink own i y).before a0 Z = true) (w2 : (Jvm.Cond.instanceMethod y).before a0 Z = true) (w4 : (Jvm.Cond.code y bytes mL' ret').before a0 Z = true) (w5 : (Jvm.Cond.initialized y.cls).before a0 Z = true) (hy : y.cls ≠ "java/lang/invoke/MethodHandle" ∧ y.cls ≠ "java/lang/invoke/VarHandle") (hfr : rm.frames + 1 ≤ R.frames) (hlo : W + (mL' + 11) + rm.locals ≤ R.locals) (hce : k + rm.cells ≤ R.cells) (hsl : n + rm.slots ≤ R.slots) (hsz : Ls.size = mL) (has : (.ref a :: argsL).toArray = as') (hlen : ∀ sig, parseMethodDescriptor y.desc = some sig → argsL.length = sig.parameters.length) (hst : st = argsL.reverse ++ .ref a :: rest) (hW : (rest.map fun v => v.category).sum ≤ W) (hd : Dc code pc (.invokespecial i) 3 q) (g : ∀ T v h', Q' v h' → St n0 p l e R s m args below meth c (k + rm.cells) (n + rm.slots) h' T → Wp n0 p e R s below Q T (mkF m q Ls (v.toList ++ rest))) : Wp n0 p e R s below Q T (mkF m pc Ls st) := by
  obtain ⟨hx, hby, hml, -, -, hown, hZ, hmn⟩ := K; obtain ⟨locs, S, e1, N, z⟩ := S; obtain ⟨hd, rfl⟩ := hd; subst hst has
  subst hr0
  obtain ⟨v1, _, ⟨T1, L1, k1, n1⟩, -, S1, ⟨Lc1, hQ1, l1, y1, z1⟩, st1⟩ := S.specialBack hx (y := y) hin hown (mvT hZ w1) (mvT hZ w2) (mvT hZ w4) hy (backOf (W := W) (Q := fun v h L => Q' v h ∧ n0 ≤ h.size ∧ Fr n0 L) M hZ w4 w5 hfr hlo) (g := mkF m pc Ls (argsL.reverse ++ .ref a :: rest)) rfl (by rw [hml]; exact hsz) (Steps.refl _) (a := a) (argsL := argsL) (rest := rest) hlen rfl (by show 2 * 0 + _ ≤ _; omega) (hb hby hd) (fun _ _ => ⟨rfl, e1, hce, hsl⟩)
  dsimp only [Pt.U, Pt.locs, Pt.cells, Pt.slots] at S1 l1 y1 z1 st1 hQ1
  subst l1 y1 z1
  exact wp_mono (fun t hr => st1.trans hr) (g T1 v1 T1.heap hQ1.1 ⟨_, S1, rfl, Fr.app N hQ1.2.2, hQ1.2.1⟩)
theorem callV (K : Cx own code mL ret mn n0 Z p l e R s m args below meth c) (S : St n0 p l e R s m args below meth c k n h T) {i mL' W : Nat} {y : MethodName} {bytes : ByteArray} {ret' : Option FieldType} {rm : Room} {as' : Array Value} {Q' : Option Value → Heap → Prop} {argsL : List Value} (M : Met n0 l Z y bytes mL' ret' rm [] as' h Q') (E : Exa Z h a y.cls) (w1 : (Jvm.Cond.methodLink own i y).before a0 Z = true) (w2 : (Jvm.Cond.declares y).before a0 Z = true) (w3 : (Jvm.Cond.selects y.cls y y).before a0 Z = true) (w6 : (Jvm.Cond.instanceMethod y).before a0 Z = true) (w4 : (Jvm.Cond.code y bytes mL' ret').before a0 Z = true) (w5 : (Jvm.Cond.initialized y.cls).before a0 Z = true) (hy : y.cls ≠ "java/lang/invoke/MethodHandle" ∧ y.cls ≠ "java/lang/invoke/VarHandle") (hfr : rm.frames + 1 ≤ R.frames) (hlo : W + (mL' + 11) + rm.locals ≤ R.locals) (hce : k + rm.cells ≤ R.cells) (hsl : n + rm.slots ≤ R.slots) (hsz : Ls.size = mL) (has : (.ref a :: argsL).toArray = as') (hlen : ∀ sig, parseMethodDescriptor y.desc = some sig → argsL.length = sig.parameters.length) (hst : st = argsL.reverse ++ .ref a :: rest) (hW : (rest.map fun v => v.category).sum ≤ W) (hd : Dc code pc (.invokevirtual i) 3 q) (g : ∀ T v h', Q' v h' → St n0 p l e R s m args below meth c (k + rm.cells) (n + rm.slots) h' T → Wp n0 p e R s below Q T (mkF m q Ls (v.toList ++ rest))) : Wp n0 p e R s below Q T (mkF m pc Ls st) := by
  obtain ⟨hx, hby, hml, -, -, hown, hZ, hmn⟩ := K; obtain ⟨locs, S, e1, N, z⟩ := S; obtain ⟨hd, rfl⟩ := hd; subst hst has
  obtain ⟨cq, kq, qa, qb, qc⟩ := isOf hZ e1 E
  obtain ⟨v1, _, ⟨T1, L1, k1, n1⟩, -, S1, ⟨Lc1, hQ1, l1, y1, z1⟩, st1⟩ := S.virtualBack hx (y := y) (z := y) hown (mvT hZ w1) (mvT hZ w2) (notFace_of_selects (args := #[]) (mvT hZ w3)) (mvT hZ w3) (mvT hZ w6) hy (backOf (W := W) (Q := fun v h L => Q' v h ∧ n0 ≤ h.size ∧ Fr n0 L) M hZ w4 w5 hfr hlo) qa qc (g := mkF m pc Ls (argsL.reverse ++ .ref a :: rest)) rfl (by rw [hml]; exact hsz) (Steps.refl _) (argsL := argsL) (rest := rest) hlen rfl (by show 2 * 0 + _ ≤ _; omega) (hb hby hd) (fun _ _ => ⟨rfl, e1, hce, hsl⟩)
  dsimp only [Pt.U, Pt.locs, Pt.cells, Pt.slots] at S1 l1 y1 z1 st1 hQ1
  subst l1 y1 z1
  exact wp_mono (fun t hr => st1.trans hr) (g T1 v1 T1.heap hQ1.1 ⟨_, S1, rfl, Fr.app N hQ1.2.2, hQ1.2.1⟩)
theorem callP (K : Cx own code mL ret mn n0 Z p l e R s m args below meth c) (S : St n0 p l e R s m args below meth c k n h T) {i mL' W : Nat} {y : MethodName} {bytes : ByteArray} {ret' : Option FieldType} {rm : Room} {as' : Array Value} {Q' : Option Value → Heap → Prop} {argsL : List Value} (M : Met n0 l Z y bytes mL' ret' rm [] as' h Q') (E : Exa Z h a y.cls) {y2 : MethodName} (hy2 : y2.cls = y.cls) (w1 : (Jvm.Cond.methodLink own i y).before a0 Z = true) (w2 : (Jvm.Cond.privateMethod y).before a0 Z = true) (w3 : (Jvm.Cond.selects y.cls y2 y2).before a0 Z = true) (w6 : (Jvm.Cond.instanceMethod y).before a0 Z = true) (w4 : (Jvm.Cond.code y bytes mL' ret').before a0 Z = true) (w5 : (Jvm.Cond.initialized y.cls).before a0 Z = true) (hy : y.cls ≠ "java/lang/invoke/MethodHandle" ∧ y.cls ≠ "java/lang/invoke/VarHandle") (hfr : rm.frames + 1 ≤ R.frames) (hlo : W + (mL' + 11) + rm.locals ≤ R.locals) (hce : k + rm.cells ≤ R.cells) (hsl : n + rm.slots ≤ R.slots) (hsz : Ls.size = mL) (has : (.ref a :: argsL).toArray = as') (hlen : ∀ sig, parseMethodDescriptor y.desc = some sig → argsL.length = sig.parameters.length) (hst : st = argsL.reverse ++ .ref a :: rest) (hW : (rest.map fun v => v.category).sum ≤ W) (hd : Dc code pc (.invokevirtual i) 3 q) (g : ∀ T v h', Q' v h' → St n0 p l e R s m args below meth c (k + rm.cells) (n + rm.slots) h' T → Wp n0 p e R s below Q T (mkF m q Ls (v.toList ++ rest))) : Wp n0 p e R s below Q T (mkF m pc Ls st) := by
  obtain ⟨hx, hby, hml, -, -, hown, hZ, hmn⟩ := K; obtain ⟨locs, S, e1, N, z⟩ := S; obtain ⟨hd, rfl⟩ := hd; subst hst has
  obtain ⟨cq, q1, q2⟩ := E.cell
  have w3' : (Jvm.Cond.selects y.cls y2 y2).before (args := #[]) s = true := mvT hZ w3
  have wp' := Cond.privateMethod_at (mvP hZ w2 (args := #[]))
  have w6' : (Jvm.Cond.instanceMethod y).before args s = true := mvT hZ w6
  obtain ⟨c1, r1, m1, f1, f2, f3, f4, k2, f5, f6⟩ := Cond.selects_spec w3'
  have f7 : s.vm.findClass y.cls = some m1.cls := by rw [← hy2]; exact findClass_of_methodNamed f3
  have hsel : (Jvm.Cond.selects y.cls y y).before args s = true := Stand.selects_self_of_private f7 f5 f6 wp' w6' hy
  obtain ⟨v1, _, ⟨T1, L1, k1, n1⟩, -, S1, ⟨Lc1, hQ1, l1, y1, z1⟩, st1⟩ := S.privateBack hx (y := y) hown (mvT hZ w1) w6' hsel wp' (mvT hZ w4) hy (backOf (W := W) (Q := fun v h L => Q' v h ∧ n0 ≤ h.size ∧ Fr n0 L) M hZ w4 w5 hfr hlo) (g := mkF m pc Ls (argsL.reverse ++ .ref a :: rest)) rfl (by rw [hml]; exact hsz) (Steps.refl _) (a := a) (by rw [e1]; exact q1) q2 (argsL := argsL) (rest := rest) hlen rfl (by show 2 * 0 + _ ≤ _; omega) (hb hby hd) (fun _ _ => ⟨rfl, e1, hce, hsl⟩)
  dsimp only [Pt.U, Pt.locs, Pt.cells, Pt.slots] at S1 l1 y1 z1 st1 hQ1
  subst l1 y1 z1
  exact wp_mono (fun t hr => st1.trans hr) (g T1 v1 T1.heap hQ1.1 ⟨_, S1, rfl, Fr.app N hQ1.2.2, hQ1.2.1⟩)
end Kit
end Jvm.Own
namespace Jvm.Pilot.@@N@@
open Jvm Jvm.ClassFile Sem Op Lib Jvm.Free Jvm.Stand Jvm.LawKit Jvm.RoadKit Bundle Jvm.Pilot.@@N@@.Jvm.D Jvm.Own
theorem hwi {a0 : Array Value} {Z : State} (hw : ∀ d ∈ tables_1, d.before a0 Z = true) (i : Nat) {d : Jvm.Cond} (h : tables_1[i]? = some d) : d.before a0 Z = true := hw _ (List.mem_of_getElem? h)
theorem d1_0 : Dc prog_42_method_3_code 0 (.iload_n 0) 1 1 := ⟨by decide +kernel, rfl⟩
theorem d1_1 : Dc prog_42_method_3_code 1 (.sipush 10000) 3 4 := ⟨by decide +kernel, rfl⟩
theorem d1_4 : Dc prog_42_method_3_code 4 (.idiv) 1 5 := ⟨by decide +kernel, rfl⟩
theorem d1_5 : Dc prog_42_method_3_code 5 (.istore_n 1) 1 6 := ⟨by decide +kernel, rfl⟩
theorem d1_6 : Dc prog_42_method_3_code 6 (.iload_n 0) 1 7 := ⟨by decide +kernel, rfl⟩
theorem d1_7 : Dc prog_42_method_3_code 7 (.bipush 100) 2 9 := ⟨by decide +kernel, rfl⟩
theorem d1_9 : Dc prog_42_method_3_code 9 (.idiv) 1 10 := ⟨by decide +kernel, rfl⟩
theorem d1_10 : Dc prog_42_method_3_code 10 (.bipush 100) 2 12 := ⟨by decide +kernel, rfl⟩
theorem d1_12 : Dc prog_42_method_3_code 12 (.irem) 1 13 := ⟨by decide +kernel, rfl⟩
theorem d1_13 : Dc prog_42_method_3_code 13 (.istore_n 2) 1 14 := ⟨by decide +kernel, rfl⟩
theorem d1_14 : Dc prog_42_method_3_code 14 (.iload_n 0) 1 15 := ⟨by decide +kernel, rfl⟩
theorem d1_15 : Dc prog_42_method_3_code 15 (.bipush 100) 2 17 := ⟨by decide +kernel, rfl⟩
theorem d1_17 : Dc prog_42_method_3_code 17 (.irem) 1 18 := ⟨by decide +kernel, rfl⟩
theorem d1_18 : Dc prog_42_method_3_code 18 (.istore_n 3) 1 19 := ⟨by decide +kernel, rfl⟩
theorem d1_19 : Dc prog_42_method_3_code 19 (.iload_n 0) 1 20 := ⟨by decide +kernel, rfl⟩
theorem d1_20 : Bc prog_42_method_3_code 20 (.ifCond .lt 36) (36) 23 56 := ⟨by decide +kernel, rfl, by decide, by decide⟩
theorem d1_23 : Dc prog_42_method_3_code 23 (.iload_n 1) 1 24 := ⟨by decide +kernel, rfl⟩
theorem d1_24 : Dc prog_42_method_3_code 24 (.bipush 23) 2 26 := ⟨by decide +kernel, rfl⟩
theorem d1_26 : Bc prog_42_method_3_code 26 (.if_icmp .gt 30) (30) 29 56 := ⟨by decide +kernel, rfl, by decide, by decide⟩
theorem d1_29 : Dc prog_42_method_3_code 29 (.iload_n 2) 1 30 := ⟨by decide +kernel, rfl⟩
theorem d1_30 : Dc prog_42_method_3_code 30 (.bipush 59) 2 32 := ⟨by decide +kernel, rfl⟩
theorem d1_32 : Bc prog_42_method_3_code 32 (.if_icmp .gt 24) (24) 35 56 := ⟨by decide +kernel, rfl, by decide, by decide⟩
theorem d1_35 : Dc prog_42_method_3_code 35 (.iload_n 3) 1 36 := ⟨by decide +kernel, rfl⟩
theorem d1_36 : Dc prog_42_method_3_code 36 (.bipush 59) 2 38 := ⟨by decide +kernel, rfl⟩
theorem d1_38 : Bc prog_42_method_3_code 38 (.if_icmp .gt 18) (18) 41 56 := ⟨by decide +kernel, rfl, by decide, by decide⟩
theorem d1_41 : Dc prog_42_method_3_code 41 (.iload_n 1) 1 42 := ⟨by decide +kernel, rfl⟩
theorem d1_42 : Dc prog_42_method_3_code 42 (.sipush 3600) 3 45 := ⟨by decide +kernel, rfl⟩
theorem d1_45 : Dc prog_42_method_3_code 45 (.imul) 1 46 := ⟨by decide +kernel, rfl⟩
theorem d1_46 : Dc prog_42_method_3_code 46 (.iload_n 2) 1 47 := ⟨by decide +kernel, rfl⟩
theorem d1_47 : Dc prog_42_method_3_code 47 (.bipush 60) 2 49 := ⟨by decide +kernel, rfl⟩
theorem d1_49 : Dc prog_42_method_3_code 49 (.imul) 1 50 := ⟨by decide +kernel, rfl⟩
theorem d1_50 : Dc prog_42_method_3_code 50 (.iadd) 1 51 := ⟨by decide +kernel, rfl⟩
theorem d1_51 : Dc prog_42_method_3_code 51 (.iload_n 3) 1 52 := ⟨by decide +kernel, rfl⟩
theorem d1_52 : Dc prog_42_method_3_code 52 (.iadd) 1 53 := ⟨by decide +kernel, rfl⟩
theorem d1_53 : Bc prog_42_method_3_code 53 (.goto 4) (4) 56 57 := ⟨by decide +kernel, rfl, by decide, by decide⟩
theorem d1_56 : Dc prog_42_method_3_code 56 (.iconst (-1)) 1 57 := ⟨by decide +kernel, rfl⟩
theorem d1_57 : Dc prog_42_method_3_code 57 (.ireturn) 1 58 := ⟨by decide +kernel, rfl⟩
theorem ef_sod (m : MethodId) (t : Int32) : entryFrame m #[.int t] 4 = mkF m 0 #[.val (.int t), .unset, .unset, .unset] [] := by first | (simp [entryFrame, mkF, argsToLocals, Value.category]; done) | rfl
set_option maxRecDepth 65536 in
set_option maxHeartbeats 40000000 in
theorem m_sod (l : Launch) (Z : State) (a0 : Array Value) (hw : ∀ d ∈ tables_1, d.before a0 Z = true) (n0 : Nat) (t : Int32) (h : Heap) (hn : n0 ≤ h.size) : Met n0 l Z (⟨"com/example/hectonano/hectonano/internal/CalendarSeconds", "secondOfDay", "(I)I"⟩ : MethodName) prog_42_method_3_code 4 (some .int) ({ frames := 0, cells := 0, slots := 0, locals := 0 } : Room) [] #[.int t] h (Pr (fun r => ((0 ≤ t.toInt ∧ t.toInt / 10000 ≤ 23 ∧ t.toInt / 100 % 100 ≤ 59 ∧ t.toInt % 100 ≤ 59) ∧ r.toInt = t.toInt / 10000 * 3600 + t.toInt / 100 % 100 * 60 + t.toInt % 100) ∨ (¬ (0 ≤ t.toInt ∧ t.toInt / 10000 ≤ 23 ∧ t.toInt / 100 % 100 ≤ 59 ∧ t.toInt % 100 ≤ 59) ∧ r.toInt = -1)) h) := by
  refine enter (plainFor_of_name (by first | (simp [plainName, overriddenIn]; done) | decide +kernel)) (fun m => ef_sod m t) hn ?_
  intro p e s m below meth c T K S
  have rt := rng32 t
  refine iload_n K S rfl d1_0 ?_
  refine sipush K S (x := (10000 : Int32)) rfl d1_1 ?_
  refine idiv K S (by decide) d1_4 ?_
  refine nmI fun t4 ht4 => ?_
  have ft4 : (0 ≤ t.toInt → t4.toInt = t.toInt / 10000) ∧ (t.toInt < 0 → t4.toInt = -((-t.toInt) / 10000)) := by rw [ht4]; exact c_idiv t (10000 : Int32) 10000 rfl (by decide)
  have rt4 := rng32 t4
  refine istore_n K S (l' := #[.val (.int t), .val (.int t4), .unset, .unset]) rfl d1_5 ?_
  refine iload_n K S rfl d1_6 ?_
  refine bipush K S (x := (100 : Int32)) rfl d1_7 ?_
  refine idiv K S (by decide) d1_9 ?_
  refine nmI fun t9 ht9 => ?_
  have ft9 : (0 ≤ t.toInt → t9.toInt = t.toInt / 100) ∧ (t.toInt < 0 → t9.toInt = -((-t.toInt) / 100)) := by rw [ht9]; exact c_idiv t (100 : Int32) 100 rfl (by decide)
  have rt9 := rng32 t9
  refine bipush K S (x := (100 : Int32)) rfl d1_10 ?_
  refine irem K S (by decide) d1_12 ?_
  refine nmI fun t12 ht12 => ?_
  have ft12 : (0 ≤ t9.toInt → t12.toInt = t9.toInt % 100) ∧ (t9.toInt < 0 → t12.toInt = -((-t9.toInt) % 100)) := by rw [ht12]; exact c_irem t9 (100 : Int32) 100 rfl
  have rt12 := rng32 t12
  refine istore_n K S (l' := #[.val (.int t), .val (.int t4), .val (.int t12), .unset]) rfl d1_13 ?_
  refine iload_n K S rfl d1_14 ?_
  refine bipush K S (x := (100 : Int32)) rfl d1_15 ?_
  refine irem K S (by decide) d1_17 ?_
  refine nmI fun t17 ht17 => ?_
  have ft17 : (0 ≤ t.toInt → t17.toInt = t.toInt % 100) ∧ (t.toInt < 0 → t17.toInt = -((-t.toInt) % 100)) := by rw [ht17]; exact c_irem t (100 : Int32) 100 rfl
  have rt17 := rng32 t17
  refine istore_n K S (l' := #[.val (.int t), .val (.int t4), .val (.int t12), .val (.int t17)]) rfl d1_18 ?_
  refine iload_n K S rfl d1_19 ?_
  refine ificz_lt K S d1_20 (fun (c20 : t.toInt < 0) => ?_) (fun (c20 : ¬ t.toInt < 0) => ?_)
  · refine iconst K S (x := (-1 : Int32)) rfl d1_56 ?_
    refine reti K S (by decide) (by decide) d1_57 ?_
    exact ⟨_, rfl, by have z0 : (-1 : Int32).toInt = -1 := rfl; omega, rfl⟩
  refine iload_n K S rfl d1_23 ?_
  refine bipush K S (x := (23 : Int32)) rfl d1_24 ?_
  refine icmpz_gt K S d1_26 (fun (c26 : 23 < t4.toInt) => ?_) (fun (c26 : ¬ 23 < t4.toInt) => ?_)
  · refine iconst K S (x := (-1 : Int32)) rfl d1_56 ?_
    refine reti K S (by decide) (by decide) d1_57 ?_
    exact ⟨_, rfl, by have z0 : (-1 : Int32).toInt = -1 := rfl; omega, rfl⟩
  refine iload_n K S rfl d1_29 ?_
  refine bipush K S (x := (59 : Int32)) rfl d1_30 ?_
  refine icmpz_gt K S d1_32 (fun (c32 : 59 < t12.toInt) => ?_) (fun (c32 : ¬ 59 < t12.toInt) => ?_)
  · refine iconst K S (x := (-1 : Int32)) rfl d1_56 ?_
    refine reti K S (by decide) (by decide) d1_57 ?_
    exact ⟨_, rfl, by have z0 : (-1 : Int32).toInt = -1 := rfl; omega, rfl⟩
  refine iload_n K S rfl d1_35 ?_
  refine bipush K S (x := (59 : Int32)) rfl d1_36 ?_
  refine icmpz_gt K S d1_38 (fun (c38 : 59 < t17.toInt) => ?_) (fun (c38 : ¬ 59 < t17.toInt) => ?_)
  · refine iconst K S (x := (-1 : Int32)) rfl d1_56 ?_
    refine reti K S (by decide) (by decide) d1_57 ?_
    exact ⟨_, rfl, by have z0 : (-1 : Int32).toInt = -1 := rfl; omega, rfl⟩
  replace ft4 : t4.toInt = t.toInt / 10000 := by omega
  replace ft9 : t9.toInt = t.toInt / 100 := by omega
  replace ft12 : t12.toInt = t9.toInt % 100 := by omega
  replace ft17 : t17.toInt = t.toInt % 100 := by omega
  refine iload_n K S rfl d1_41 ?_
  refine sipush K S (x := (3600 : Int32)) rfl d1_42 ?_
  refine imul K S d1_45 ?_
  refine nmI fun t45 ht45 => ?_
  have ft45 : (t45.toInt - (t4.toInt * 3600)) % 4294967296 = 0 := by rw [ht45]; exact c_imul t4 (3600 : Int32)
  have rt45 := rng32 t45
  replace ft45 : t45.toInt = t4.toInt * 3600 := by omega
  refine iload_n K S rfl d1_46 ?_
  refine bipush K S (x := (60 : Int32)) rfl d1_47 ?_
  refine imul K S d1_49 ?_
  refine nmI fun t49 ht49 => ?_
  have ft49 : (t49.toInt - (t12.toInt * 60)) % 4294967296 = 0 := by rw [ht49]; exact c_imul t12 (60 : Int32)
  have rt49 := rng32 t49
  replace ft49 : t49.toInt = t12.toInt * 60 := by omega
  refine iadd K S d1_50 ?_
  refine nmI fun t50 ht50 => ?_
  have ft50 : (t50.toInt - (t45.toInt + t49.toInt)) % 4294967296 = 0 := by rw [ht50]; exact c_iadd t45 t49
  have rt50 := rng32 t50
  replace ft50 : t50.toInt = t45.toInt + t49.toInt := by omega
  refine iload_n K S rfl d1_51 ?_
  refine iadd K S d1_52 ?_
  refine nmI fun t52 ht52 => ?_
  have ft52 : (t52.toInt - (t50.toInt + t17.toInt)) % 4294967296 = 0 := by rw [ht52]; exact c_iadd t50 t17
  have rt52 := rng32 t52
  replace ft52 : t52.toInt = t50.toInt + t17.toInt := by omega
  refine goto K S d1_53 ?_
  refine reti K S (by decide) (by decide) d1_57 ?_
  exact ⟨_, rfl, by have z0 : (-1 : Int32).toInt = -1 := rfl; omega, rfl⟩

theorem d2_0 : Dc method_2_code 0 (.iload_n 0) 1 1 := ⟨by decide +kernel, rfl⟩
theorem d2_1 : Dc method_2_code 1 (.sipush 3600) 3 4 := ⟨by decide +kernel, rfl⟩
theorem d2_4 : Dc method_2_code 4 (.idiv) 1 5 := ⟨by decide +kernel, rfl⟩
theorem d2_5 : Dc method_2_code 5 (.sipush 10000) 3 8 := ⟨by decide +kernel, rfl⟩
theorem d2_8 : Dc method_2_code 8 (.imul) 1 9 := ⟨by decide +kernel, rfl⟩
theorem d2_9 : Dc method_2_code 9 (.iload_n 0) 1 10 := ⟨by decide +kernel, rfl⟩
theorem d2_10 : Dc method_2_code 10 (.bipush 60) 2 12 := ⟨by decide +kernel, rfl⟩
theorem d2_12 : Dc method_2_code 12 (.idiv) 1 13 := ⟨by decide +kernel, rfl⟩
theorem d2_13 : Dc method_2_code 13 (.bipush 60) 2 15 := ⟨by decide +kernel, rfl⟩
theorem d2_15 : Dc method_2_code 15 (.irem) 1 16 := ⟨by decide +kernel, rfl⟩
theorem d2_16 : Dc method_2_code 16 (.bipush 100) 2 18 := ⟨by decide +kernel, rfl⟩
theorem d2_18 : Dc method_2_code 18 (.imul) 1 19 := ⟨by decide +kernel, rfl⟩
theorem d2_19 : Dc method_2_code 19 (.iadd) 1 20 := ⟨by decide +kernel, rfl⟩
theorem d2_20 : Dc method_2_code 20 (.iload_n 0) 1 21 := ⟨by decide +kernel, rfl⟩
theorem d2_21 : Dc method_2_code 21 (.bipush 60) 2 23 := ⟨by decide +kernel, rfl⟩
theorem d2_23 : Dc method_2_code 23 (.irem) 1 24 := ⟨by decide +kernel, rfl⟩
theorem d2_24 : Dc method_2_code 24 (.iadd) 1 25 := ⟨by decide +kernel, rfl⟩
theorem d2_25 : Dc method_2_code 25 (.ireturn) 1 26 := ⟨by decide +kernel, rfl⟩
theorem ef_hms (m : MethodId) (t : Int32) : entryFrame m #[.int t] 1 = mkF m 0 #[.val (.int t)] [] := by first | (simp [entryFrame, mkF, argsToLocals, Value.category]; done) | rfl
set_option maxRecDepth 65536 in
set_option maxHeartbeats 40000000 in
theorem m_hms (l : Launch) (Z : State) (a0 : Array Value) (hw : ∀ d ∈ tables_1, d.before a0 Z = true) (n0 : Nat) (t : Int32) (h : Heap) (hn : n0 ≤ h.size) (p0 : 0 ≤ t.toInt) (p1 : t.toInt < 86400) : Met n0 l Z (⟨"com/example/hectonano/hectonano/internal/CalendarSecondsSecondOfDayPinLaw", "hhmmss", "(I)I"⟩ : MethodName) method_2_code 1 (some .int) ({ frames := 0, cells := 0, slots := 0, locals := 0 } : Room) [] #[.int t] h (Pr (fun r => r.toInt = t.toInt / 3600 * 10000 + t.toInt / 60 % 60 * 100 + t.toInt % 60) h) := by
  refine enter (plainFor_of_name (by first | (simp [plainName, overriddenIn]; done) | decide +kernel)) (fun m => ef_hms m t) hn ?_
  intro p e s m below meth c T K S
  refine iload_n K S rfl d2_0 ?_
  refine sipush K S (x := (3600 : Int32)) rfl d2_1 ?_
  refine idiv K S (by decide) d2_4 ?_
  refine nmI fun t4 ht4 => ?_
  have ft4 : (0 ≤ t.toInt → t4.toInt = t.toInt / 3600) ∧ (t.toInt < 0 → t4.toInt = -((-t.toInt) / 3600)) := by rw [ht4]; exact c_idiv t (3600 : Int32) 3600 rfl (by decide)
  have rt4 := rng32 t4
  replace ft4 : t4.toInt = t.toInt / 3600 := by omega
  refine sipush K S (x := (10000 : Int32)) rfl d2_5 ?_
  refine imul K S d2_8 ?_
  refine nmI fun t8 ht8 => ?_
  have ft8 : (t8.toInt - (t4.toInt * 10000)) % 4294967296 = 0 := by rw [ht8]; exact c_imul t4 (10000 : Int32)
  have rt8 := rng32 t8
  replace ft8 : t8.toInt = t4.toInt * 10000 := by omega
  refine iload_n K S rfl d2_9 ?_
  refine bipush K S (x := (60 : Int32)) rfl d2_10 ?_
  refine idiv K S (by decide) d2_12 ?_
  refine nmI fun t12 ht12 => ?_
  have ft12 : (0 ≤ t.toInt → t12.toInt = t.toInt / 60) ∧ (t.toInt < 0 → t12.toInt = -((-t.toInt) / 60)) := by rw [ht12]; exact c_idiv t (60 : Int32) 60 rfl (by decide)
  have rt12 := rng32 t12
  replace ft12 : t12.toInt = t.toInt / 60 := by omega
  refine bipush K S (x := (60 : Int32)) rfl d2_13 ?_
  refine irem K S (by decide) d2_15 ?_
  refine nmI fun t15 ht15 => ?_
  have ft15 : (0 ≤ t12.toInt → t15.toInt = t12.toInt % 60) ∧ (t12.toInt < 0 → t15.toInt = -((-t12.toInt) % 60)) := by rw [ht15]; exact c_irem t12 (60 : Int32) 60 rfl
  have rt15 := rng32 t15
  replace ft15 : t15.toInt = t12.toInt % 60 := by omega
  refine bipush K S (x := (100 : Int32)) rfl d2_16 ?_
  refine imul K S d2_18 ?_
  refine nmI fun t18 ht18 => ?_
  have ft18 : (t18.toInt - (t15.toInt * 100)) % 4294967296 = 0 := by rw [ht18]; exact c_imul t15 (100 : Int32)
  have rt18 := rng32 t18
  replace ft18 : t18.toInt = t15.toInt * 100 := by omega
  refine iadd K S d2_19 ?_
  refine nmI fun t19 ht19 => ?_
  have ft19 : (t19.toInt - (t8.toInt + t18.toInt)) % 4294967296 = 0 := by rw [ht19]; exact c_iadd t8 t18
  have rt19 := rng32 t19
  replace ft19 : t19.toInt = t8.toInt + t18.toInt := by omega
  refine iload_n K S rfl d2_20 ?_
  refine bipush K S (x := (60 : Int32)) rfl d2_21 ?_
  refine irem K S (by decide) d2_23 ?_
  refine nmI fun t23 ht23 => ?_
  have ft23 : (0 ≤ t.toInt → t23.toInt = t.toInt % 60) ∧ (t.toInt < 0 → t23.toInt = -((-t.toInt) % 60)) := by rw [ht23]; exact c_irem t (60 : Int32) 60 rfl
  have rt23 := rng32 t23
  replace ft23 : t23.toInt = t.toInt % 60 := by omega
  refine iadd K S d2_24 ?_
  refine nmI fun t24 ht24 => ?_
  have ft24 : (t24.toInt - (t19.toInt + t23.toInt)) % 4294967296 = 0 := by rw [ht24]; exact c_iadd t19 t23
  have rt24 := rng32 t24
  replace ft24 : t24.toInt = t19.toInt + t23.toInt := by omega
  refine reti K S (by decide) (by decide) d2_25 ?_
  exact ⟨_, rfl, by omega, rfl⟩

theorem d0_0 : Dc code 0 (.iload_n 0) 1 1 := ⟨at_0, rfl⟩
theorem d0_1 : Bc code 1 (.ifCond .lt 34) (34) 4 35 := ⟨at_1, rfl, by decide, by decide⟩
theorem d0_4 : Dc code 4 (.iload_n 0) 1 5 := ⟨at_4, rfl⟩
theorem d0_5 : Dc code 5 (.ldc 7) 2 7 := ⟨at_5, rfl⟩
theorem d0_7 : Bc code 7 (.if_icmp .gt 28) (28) 10 35 := ⟨at_7, rfl, by decide, by decide⟩
theorem d0_10 : Dc code 10 (.iload_n 0) 1 11 := ⟨at_10, rfl⟩
theorem d0_11 : Dc code 11 (.bipush 100) 2 13 := ⟨at_11, rfl⟩
theorem d0_13 : Dc code 13 (.irem) 1 14 := ⟨at_13, rfl⟩
theorem d0_14 : Dc code 14 (.bipush 60) 2 16 := ⟨at_14, rfl⟩
theorem d0_16 : Bc code 16 (.if_icmp .ge 19) (19) 19 35 := ⟨at_16, rfl, by decide, by decide⟩
theorem d0_19 : Dc code 19 (.iload_n 0) 1 20 := ⟨at_19, rfl⟩
theorem d0_20 : Dc code 20 (.bipush 100) 2 22 := ⟨at_20, rfl⟩
theorem d0_22 : Dc code 22 (.idiv) 1 23 := ⟨at_22, rfl⟩
theorem d0_23 : Dc code 23 (.bipush 100) 2 25 := ⟨at_23, rfl⟩
theorem d0_25 : Dc code 25 (.irem) 1 26 := ⟨at_25, rfl⟩
theorem d0_26 : Dc code 26 (.bipush 60) 2 28 := ⟨at_26, rfl⟩
theorem d0_28 : Bc code 28 (.if_icmp .ge 7) (7) 31 35 := ⟨at_28, rfl, by decide, by decide⟩
theorem d0_31 : Dc code 31 (.iconst 1) 1 32 := ⟨at_31, rfl⟩
theorem d0_32 : Bc code 32 (.goto 4) (4) 35 36 := ⟨at_32, rfl, by decide, by decide⟩
theorem d0_35 : Dc code 35 (.iconst 0) 1 36 := ⟨at_35, rfl⟩
theorem d0_36 : Dc code 36 (.istore_n 2) 1 37 := ⟨at_36, rfl⟩
theorem d0_37 : Dc code 37 (.iload_n 0) 1 38 := ⟨at_37, rfl⟩
theorem d0_38 : Dc code 38 (.invokestatic 8) 3 41 := ⟨at_38, rfl⟩
theorem d0_41 : Dc code 41 (.istore_n 3) 1 42 := ⟨at_41, rfl⟩
theorem d0_42 : Dc code 42 (.iload_n 2) 1 43 := ⟨at_42, rfl⟩
theorem d0_43 : Bc code 43 (.ifCond .eq 31) (31) 46 74 := ⟨at_43, rfl, by decide, by decide⟩
theorem d0_46 : Dc code 46 (.iload_n 3) 1 47 := ⟨at_46, rfl⟩
theorem d0_47 : Bc code 47 (.ifCond .lt 21) (21) 50 68 := ⟨at_47, rfl, by decide, by decide⟩
theorem d0_50 : Dc code 50 (.iload_n 3) 1 51 := ⟨at_50, rfl⟩
theorem d0_51 : Dc code 51 (.ldc 14) 2 53 := ⟨at_51, rfl⟩
theorem d0_53 : Bc code 53 (.if_icmp .ge 15) (15) 56 68 := ⟨at_53, rfl, by decide, by decide⟩
theorem d0_56 : Dc code 56 (.iload_n 3) 1 57 := ⟨at_56, rfl⟩
theorem d0_57 : Dc code 57 (.invokestatic 15) 3 60 := ⟨at_57, rfl⟩
theorem d0_60 : Dc code 60 (.iload_n 0) 1 61 := ⟨at_60, rfl⟩
theorem d0_61 : Bc code 61 (.if_icmp .ne 7) (7) 64 68 := ⟨at_61, rfl, by decide, by decide⟩
theorem d0_64 : Dc code 64 (.iconst 1) 1 65 := ⟨at_64, rfl⟩
theorem d0_65 : Bc code 65 (.goto 4) (4) 68 69 := ⟨at_65, rfl, by decide, by decide⟩
theorem d0_68 : Dc code 68 (.iconst 0) 1 69 := ⟨at_68, rfl⟩
theorem d0_69 : Dc code 69 (.istore 4) 2 71 := ⟨at_69, rfl⟩
theorem d0_71 : Bc code 71 (.goto 15) (15) 74 86 := ⟨at_71, rfl, by decide, by decide⟩
theorem d0_74 : Dc code 74 (.iload_n 3) 1 75 := ⟨at_74, rfl⟩
theorem d0_75 : Dc code 75 (.iconst (-1)) 1 76 := ⟨at_75, rfl⟩
theorem d0_76 : Bc code 76 (.if_icmp .ne 7) (7) 79 83 := ⟨at_76, rfl, by decide, by decide⟩
theorem d0_79 : Dc code 79 (.iconst 1) 1 80 := ⟨at_79, rfl⟩
theorem d0_80 : Bc code 80 (.goto 4) (4) 83 84 := ⟨at_80, rfl, by decide, by decide⟩
theorem d0_83 : Dc code 83 (.iconst 0) 1 84 := ⟨at_83, rfl⟩
theorem d0_84 : Dc code 84 (.istore 4) 2 86 := ⟨at_84, rfl⟩
theorem d0_86 : Dc code 86 (.iload_n 1) 1 87 := ⟨at_86, rfl⟩
theorem d0_87 : Dc code 87 (.ldc 20) 2 89 := ⟨at_87, rfl⟩
theorem d0_89 : Dc code 89 (.iand) 1 90 := ⟨at_89, rfl⟩
theorem d0_90 : Dc code 90 (.ldc 14) 2 92 := ⟨at_90, rfl⟩
theorem d0_92 : Dc code 92 (.irem) 1 93 := ⟨at_92, rfl⟩
theorem d0_93 : Dc code 93 (.istore 5) 2 95 := ⟨at_93, rfl⟩
theorem d0_95 : Dc code 95 (.iload 5) 2 97 := ⟨at_95, rfl⟩
theorem d0_97 : Dc code 97 (.invokestatic 15) 3 100 := ⟨at_97, rfl⟩
theorem d0_100 : Dc code 100 (.istore 6) 2 102 := ⟨at_100, rfl⟩
theorem d0_102 : Dc code 102 (.iload 6) 2 104 := ⟨at_102, rfl⟩
theorem d0_104 : Dc code 104 (.invokestatic 8) 3 107 := ⟨at_104, rfl⟩
theorem d0_107 : Dc code 107 (.iload 5) 2 109 := ⟨at_107, rfl⟩
theorem d0_109 : Bc code 109 (.if_icmp .ne 7) (7) 112 116 := ⟨at_109, rfl, by decide, by decide⟩
theorem d0_112 : Dc code 112 (.iconst 1) 1 113 := ⟨at_112, rfl⟩
theorem d0_113 : Bc code 113 (.goto 4) (4) 116 117 := ⟨at_113, rfl, by decide, by decide⟩
theorem d0_116 : Dc code 116 (.iconst 0) 1 117 := ⟨at_116, rfl⟩
theorem d0_117 : Dc code 117 (.istore 7) 2 119 := ⟨at_117, rfl⟩
theorem d0_119 : Dc code 119 (.iload 4) 2 121 := ⟨at_119, rfl⟩
theorem d0_121 : Bc code 121 (.ifCond .eq 12) (12) 124 133 := ⟨at_121, rfl, by decide, by decide⟩
theorem d0_124 : Dc code 124 (.iload 7) 2 126 := ⟨at_124, rfl⟩
theorem d0_126 : Bc code 126 (.ifCond .eq 7) (7) 129 133 := ⟨at_126, rfl, by decide, by decide⟩
theorem d0_129 : Dc code 129 (.iconst 1) 1 130 := ⟨at_129, rfl⟩
theorem d0_130 : Bc code 130 (.goto 4) (4) 133 134 := ⟨at_130, rfl, by decide, by decide⟩
theorem d0_133 : Dc code 133 (.iconst 0) 1 134 := ⟨at_133, rfl⟩
theorem d0_134 : Dc code 134 (.ireturn) 1 135 := ⟨at_134, rfl⟩
theorem pd_1 : parseMethodDescriptor "(I)I" = some ⟨[.int], (some .int)⟩ := by decide +kernel
theorem pd_2 : parseMethodDescriptor "(I)I" = some ⟨[.int], (some .int)⟩ := by decide +kernel
theorem ef_law (m : MethodId) (x0 : Int32) (x1 : Int32) : entryFrame m #[.int x0, .int x1] maxLocals = mkF m 0 #[.val (.int x0), .val (.int x1), .unset, .unset, .unset, .unset, .unset, .unset] [] := by first | (simp [entryFrame, mkF, argsToLocals, Value.category, maxLocals]; done) | rfl
set_option maxRecDepth 65536 in
set_option maxHeartbeats 40000000 in
theorem m_law (l : Launch) (Z : State) (a0 : Array Value) (hw : ∀ d ∈ tables_1, d.before a0 Z = true) (n0 : Nat) (x0 : Int32) (x1 : Int32) (h : Heap) (hn : n0 ≤ h.size) : Met n0 l Z x code maxLocals ret room_1 tables_1 #[.int x0, .int x1] h (fun v _ => v = some (.int 1)) := by
  refine enter (plainFor_of_name (by first | (simp [plainName, overriddenIn, x]; done) | decide +kernel)) (fun m => ef_law m x0 x1) hn ?_
  intro p e s m below meth c T K S
  have rx0 := rng32 x0
  have rx1 := rng32 x1
  refine iload_n K S rfl d0_0 ?_
  refine ificz_lt K S d0_1 (fun (c1 : x0.toInt < 0) => ?_) (fun (c1 : ¬ x0.toInt < 0) => ?_)
  · refine iconst K S (x := (0 : Int32)) rfl d0_35 ?_
    refine istore_n K S (l' := #[.val (.int x0), .val (.int x1), .val (.int (0 : Int32)), .unset, .unset, .unset, .unset, .unset]) rfl d0_36 ?_
    refine iload_n K S rfl d0_37 ?_
    refine callS K S (W := 0) (m_sod l Z a0 hw n0 x0 h (Sle S) ) (hwi hw 1 rfl) (hwi hw 2 rfl) (hwi hw 4 rfl) (hwi hw 3 rfl) (by decide) (by decide) (by decide) (by decide) (by decide) rfl (argsL := [.int x0]) rfl (lenOf pd_1 rfl) (rest := []) rfl (Nat.le_of_eq rfl) d0_38 (pr fun T r38 pr38 S => ?_)
    show Wp n0 p e _ s below _ T (mkF m 41 #[.val (.int x0), .val (.int x1), .val (.int (0 : Int32)), .unset, .unset, .unset, .unset, .unset] [.int r38])
    refine istore_n K S (l' := #[.val (.int x0), .val (.int x1), .val (.int (0 : Int32)), .val (.int r38), .unset, .unset, .unset, .unset]) rfl d0_41 ?_
    refine iload_n K S rfl d0_42 ?_
    refine ificz_eq K S d0_43 (fun (c43 : 0 = 0) => ?_) (fun (c43 : ¬ 0 = 0) => ?_)
    rotate_left
    · exact absurd c43 (by decide)
    refine iload_n K S rfl d0_74 ?_
    refine iconst K S (x := (-1 : Int32)) rfl d0_75 ?_
    refine icmpz_ne K S d0_76 (fun (c76 : ¬ r38.toInt = (-1)) => ?_) (fun (c76 : r38.toInt = (-1)) => ?_)
    · exfalso; omega
    refine iconst K S (x := (1 : Int32)) rfl d0_79 ?_
    refine goto K S d0_80 ?_
    refine istore K S (l' := #[.val (.int x0), .val (.int x1), .val (.int (0 : Int32)), .val (.int r38), .val (.int (1 : Int32)), .unset, .unset, .unset]) rfl d0_84 ?_
    refine iload_n K S rfl d0_86 ?_
    refine ldc K S (x := (2147483647 : Int32)) (hwi hw 10 rfl) d0_87 ?_
    refine iand K S d0_89 ?_
    refine nmI fun t89 ht89 => ?_
    have ft89 : t89.toInt = x1.toInt % 2147483648 := by rw [ht89]; exact c_mask x1 (2147483647 : Int32) 31 (by decide) (by decide)
    have rt89 := rng32 t89
    refine ldc K S (x := (86400 : Int32)) (hwi hw 5 rfl) d0_90 ?_
    refine irem K S (by decide) d0_92 ?_
    refine nmI fun t92 ht92 => ?_
    have ft92 : (0 ≤ t89.toInt → t92.toInt = t89.toInt % 86400) ∧ (t89.toInt < 0 → t92.toInt = -((-t89.toInt) % 86400)) := by rw [ht92]; exact c_irem t89 (86400 : Int32) 86400 rfl
    have rt92 := rng32 t92
    refine istore K S (l' := #[.val (.int x0), .val (.int x1), .val (.int (0 : Int32)), .val (.int r38), .val (.int (1 : Int32)), .val (.int t92), .unset, .unset]) rfl d0_93 ?_
    refine iload K S rfl d0_95 ?_
    refine callS K S (W := 0) (m_hms l Z a0 hw n0 t92 h (Sle S) (by omega) (by omega)) (hwi hw 6 rfl) (hwi hw 7 rfl) (hwi hw 9 rfl) (hwi hw 8 rfl) (by decide) (by decide) (by decide) (by decide) (by decide) rfl (argsL := [.int t92]) rfl (lenOf pd_2 rfl) (rest := []) rfl (Nat.le_of_eq rfl) d0_97 (pr fun T r97 pr97 S => ?_)
    show Wp n0 p e _ s below _ T (mkF m 100 #[.val (.int x0), .val (.int x1), .val (.int (0 : Int32)), .val (.int r38), .val (.int (1 : Int32)), .val (.int t92), .unset, .unset] [.int r97])
    refine istore K S (l' := #[.val (.int x0), .val (.int x1), .val (.int (0 : Int32)), .val (.int r38), .val (.int (1 : Int32)), .val (.int t92), .val (.int r97), .unset]) rfl d0_100 ?_
    refine iload K S rfl d0_102 ?_
    refine callS K S (W := 0) (m_sod l Z a0 hw n0 r97 h (Sle S) ) (hwi hw 1 rfl) (hwi hw 2 rfl) (hwi hw 4 rfl) (hwi hw 3 rfl) (by decide) (by decide) (by decide) (by decide) (by decide) rfl (argsL := [.int r97]) rfl (lenOf pd_1 rfl) (rest := []) rfl (Nat.le_of_eq rfl) d0_104 (pr fun T r104 pr104 S => ?_)
    show Wp n0 p e _ s below _ T (mkF m 107 #[.val (.int x0), .val (.int x1), .val (.int (0 : Int32)), .val (.int r38), .val (.int (1 : Int32)), .val (.int t92), .val (.int r97), .unset] [.int r104])
    refine iload K S rfl d0_107 ?_
    refine icmpz_ne K S d0_109 (fun (c109 : ¬ r104.toInt = t92.toInt) => ?_) (fun (c109 : r104.toInt = t92.toInt) => ?_)
    · exfalso; omega
    refine iconst K S (x := (1 : Int32)) rfl d0_112 ?_
    refine goto K S d0_113 ?_
    refine istore K S (l' := #[.val (.int x0), .val (.int x1), .val (.int (0 : Int32)), .val (.int r38), .val (.int (1 : Int32)), .val (.int t92), .val (.int r97), .val (.int (1 : Int32))]) rfl d0_117 ?_
    refine iload K S rfl d0_119 ?_
    refine ificz_eq K S d0_121 (fun (c121 : 1 = 0) => ?_) (fun (c121 : ¬ 1 = 0) => ?_)
    · exact absurd c121 (by decide)
    refine iload K S rfl d0_124 ?_
    refine ificz_eq K S d0_126 (fun (c126 : 1 = 0) => ?_) (fun (c126 : ¬ 1 = 0) => ?_)
    · exact absurd c126 (by decide)
    refine iconst K S (x := (1 : Int32)) rfl d0_129 ?_
    refine goto K S d0_130 ?_
    refine retn K S (by simp) (y := (1 : Int32)) rfl (by decide) (by decide) d0_134 ?_
    rfl
  refine iload_n K S rfl d0_4 ?_
  refine ldc K S (x := (235959 : Int32)) (hwi hw 0 rfl) d0_5 ?_
  refine icmpz_gt K S d0_7 (fun (c7 : 235959 < x0.toInt) => ?_) (fun (c7 : ¬ 235959 < x0.toInt) => ?_)
  · refine iconst K S (x := (0 : Int32)) rfl d0_35 ?_
    refine istore_n K S (l' := #[.val (.int x0), .val (.int x1), .val (.int (0 : Int32)), .unset, .unset, .unset, .unset, .unset]) rfl d0_36 ?_
    refine iload_n K S rfl d0_37 ?_
    refine callS K S (W := 0) (m_sod l Z a0 hw n0 x0 h (Sle S) ) (hwi hw 1 rfl) (hwi hw 2 rfl) (hwi hw 4 rfl) (hwi hw 3 rfl) (by decide) (by decide) (by decide) (by decide) (by decide) rfl (argsL := [.int x0]) rfl (lenOf pd_1 rfl) (rest := []) rfl (Nat.le_of_eq rfl) d0_38 (pr fun T r38 pr38 S => ?_)
    show Wp n0 p e _ s below _ T (mkF m 41 #[.val (.int x0), .val (.int x1), .val (.int (0 : Int32)), .unset, .unset, .unset, .unset, .unset] [.int r38])
    refine istore_n K S (l' := #[.val (.int x0), .val (.int x1), .val (.int (0 : Int32)), .val (.int r38), .unset, .unset, .unset, .unset]) rfl d0_41 ?_
    refine iload_n K S rfl d0_42 ?_
    refine ificz_eq K S d0_43 (fun (c43 : 0 = 0) => ?_) (fun (c43 : ¬ 0 = 0) => ?_)
    rotate_left
    · exact absurd c43 (by decide)
    refine iload_n K S rfl d0_74 ?_
    refine iconst K S (x := (-1 : Int32)) rfl d0_75 ?_
    refine icmpz_ne K S d0_76 (fun (c76 : ¬ r38.toInt = (-1)) => ?_) (fun (c76 : r38.toInt = (-1)) => ?_)
    · exfalso; omega
    refine iconst K S (x := (1 : Int32)) rfl d0_79 ?_
    refine goto K S d0_80 ?_
    refine istore K S (l' := #[.val (.int x0), .val (.int x1), .val (.int (0 : Int32)), .val (.int r38), .val (.int (1 : Int32)), .unset, .unset, .unset]) rfl d0_84 ?_
    refine iload_n K S rfl d0_86 ?_
    refine ldc K S (x := (2147483647 : Int32)) (hwi hw 10 rfl) d0_87 ?_
    refine iand K S d0_89 ?_
    refine nmI fun t89 ht89 => ?_
    have ft89 : t89.toInt = x1.toInt % 2147483648 := by rw [ht89]; exact c_mask x1 (2147483647 : Int32) 31 (by decide) (by decide)
    have rt89 := rng32 t89
    refine ldc K S (x := (86400 : Int32)) (hwi hw 5 rfl) d0_90 ?_
    refine irem K S (by decide) d0_92 ?_
    refine nmI fun t92 ht92 => ?_
    have ft92 : (0 ≤ t89.toInt → t92.toInt = t89.toInt % 86400) ∧ (t89.toInt < 0 → t92.toInt = -((-t89.toInt) % 86400)) := by rw [ht92]; exact c_irem t89 (86400 : Int32) 86400 rfl
    have rt92 := rng32 t92
    refine istore K S (l' := #[.val (.int x0), .val (.int x1), .val (.int (0 : Int32)), .val (.int r38), .val (.int (1 : Int32)), .val (.int t92), .unset, .unset]) rfl d0_93 ?_
    refine iload K S rfl d0_95 ?_
    refine callS K S (W := 0) (m_hms l Z a0 hw n0 t92 h (Sle S) (by omega) (by omega)) (hwi hw 6 rfl) (hwi hw 7 rfl) (hwi hw 9 rfl) (hwi hw 8 rfl) (by decide) (by decide) (by decide) (by decide) (by decide) rfl (argsL := [.int t92]) rfl (lenOf pd_2 rfl) (rest := []) rfl (Nat.le_of_eq rfl) d0_97 (pr fun T r97 pr97 S => ?_)
    show Wp n0 p e _ s below _ T (mkF m 100 #[.val (.int x0), .val (.int x1), .val (.int (0 : Int32)), .val (.int r38), .val (.int (1 : Int32)), .val (.int t92), .unset, .unset] [.int r97])
    refine istore K S (l' := #[.val (.int x0), .val (.int x1), .val (.int (0 : Int32)), .val (.int r38), .val (.int (1 : Int32)), .val (.int t92), .val (.int r97), .unset]) rfl d0_100 ?_
    refine iload K S rfl d0_102 ?_
    refine callS K S (W := 0) (m_sod l Z a0 hw n0 r97 h (Sle S) ) (hwi hw 1 rfl) (hwi hw 2 rfl) (hwi hw 4 rfl) (hwi hw 3 rfl) (by decide) (by decide) (by decide) (by decide) (by decide) rfl (argsL := [.int r97]) rfl (lenOf pd_1 rfl) (rest := []) rfl (Nat.le_of_eq rfl) d0_104 (pr fun T r104 pr104 S => ?_)
    show Wp n0 p e _ s below _ T (mkF m 107 #[.val (.int x0), .val (.int x1), .val (.int (0 : Int32)), .val (.int r38), .val (.int (1 : Int32)), .val (.int t92), .val (.int r97), .unset] [.int r104])
    refine iload K S rfl d0_107 ?_
    refine icmpz_ne K S d0_109 (fun (c109 : ¬ r104.toInt = t92.toInt) => ?_) (fun (c109 : r104.toInt = t92.toInt) => ?_)
    · exfalso; omega
    refine iconst K S (x := (1 : Int32)) rfl d0_112 ?_
    refine goto K S d0_113 ?_
    refine istore K S (l' := #[.val (.int x0), .val (.int x1), .val (.int (0 : Int32)), .val (.int r38), .val (.int (1 : Int32)), .val (.int t92), .val (.int r97), .val (.int (1 : Int32))]) rfl d0_117 ?_
    refine iload K S rfl d0_119 ?_
    refine ificz_eq K S d0_121 (fun (c121 : 1 = 0) => ?_) (fun (c121 : ¬ 1 = 0) => ?_)
    · exact absurd c121 (by decide)
    refine iload K S rfl d0_124 ?_
    refine ificz_eq K S d0_126 (fun (c126 : 1 = 0) => ?_) (fun (c126 : ¬ 1 = 0) => ?_)
    · exact absurd c126 (by decide)
    refine iconst K S (x := (1 : Int32)) rfl d0_129 ?_
    refine goto K S d0_130 ?_
    refine retn K S (by simp) (y := (1 : Int32)) rfl (by decide) (by decide) d0_134 ?_
    rfl
  refine iload_n K S rfl d0_10 ?_
  refine bipush K S (x := (100 : Int32)) rfl d0_11 ?_
  refine irem K S (by decide) d0_13 ?_
  refine nmI fun t13 ht13 => ?_
  have ft13 : (0 ≤ x0.toInt → t13.toInt = x0.toInt % 100) ∧ (x0.toInt < 0 → t13.toInt = -((-x0.toInt) % 100)) := by rw [ht13]; exact c_irem x0 (100 : Int32) 100 rfl
  have rt13 := rng32 t13
  refine bipush K S (x := (60 : Int32)) rfl d0_14 ?_
  refine icmpz_ge K S d0_16 (fun (c16 : ¬ t13.toInt < 60) => ?_) (fun (c16 : t13.toInt < 60) => ?_)
  · refine iconst K S (x := (0 : Int32)) rfl d0_35 ?_
    refine istore_n K S (l' := #[.val (.int x0), .val (.int x1), .val (.int (0 : Int32)), .unset, .unset, .unset, .unset, .unset]) rfl d0_36 ?_
    refine iload_n K S rfl d0_37 ?_
    refine callS K S (W := 0) (m_sod l Z a0 hw n0 x0 h (Sle S) ) (hwi hw 1 rfl) (hwi hw 2 rfl) (hwi hw 4 rfl) (hwi hw 3 rfl) (by decide) (by decide) (by decide) (by decide) (by decide) rfl (argsL := [.int x0]) rfl (lenOf pd_1 rfl) (rest := []) rfl (Nat.le_of_eq rfl) d0_38 (pr fun T r38 pr38 S => ?_)
    show Wp n0 p e _ s below _ T (mkF m 41 #[.val (.int x0), .val (.int x1), .val (.int (0 : Int32)), .unset, .unset, .unset, .unset, .unset] [.int r38])
    refine istore_n K S (l' := #[.val (.int x0), .val (.int x1), .val (.int (0 : Int32)), .val (.int r38), .unset, .unset, .unset, .unset]) rfl d0_41 ?_
    refine iload_n K S rfl d0_42 ?_
    refine ificz_eq K S d0_43 (fun (c43 : 0 = 0) => ?_) (fun (c43 : ¬ 0 = 0) => ?_)
    rotate_left
    · exact absurd c43 (by decide)
    refine iload_n K S rfl d0_74 ?_
    refine iconst K S (x := (-1 : Int32)) rfl d0_75 ?_
    refine icmpz_ne K S d0_76 (fun (c76 : ¬ r38.toInt = (-1)) => ?_) (fun (c76 : r38.toInt = (-1)) => ?_)
    · exfalso; omega
    refine iconst K S (x := (1 : Int32)) rfl d0_79 ?_
    refine goto K S d0_80 ?_
    refine istore K S (l' := #[.val (.int x0), .val (.int x1), .val (.int (0 : Int32)), .val (.int r38), .val (.int (1 : Int32)), .unset, .unset, .unset]) rfl d0_84 ?_
    refine iload_n K S rfl d0_86 ?_
    refine ldc K S (x := (2147483647 : Int32)) (hwi hw 10 rfl) d0_87 ?_
    refine iand K S d0_89 ?_
    refine nmI fun t89 ht89 => ?_
    have ft89 : t89.toInt = x1.toInt % 2147483648 := by rw [ht89]; exact c_mask x1 (2147483647 : Int32) 31 (by decide) (by decide)
    have rt89 := rng32 t89
    refine ldc K S (x := (86400 : Int32)) (hwi hw 5 rfl) d0_90 ?_
    refine irem K S (by decide) d0_92 ?_
    refine nmI fun t92 ht92 => ?_
    have ft92 : (0 ≤ t89.toInt → t92.toInt = t89.toInt % 86400) ∧ (t89.toInt < 0 → t92.toInt = -((-t89.toInt) % 86400)) := by rw [ht92]; exact c_irem t89 (86400 : Int32) 86400 rfl
    have rt92 := rng32 t92
    refine istore K S (l' := #[.val (.int x0), .val (.int x1), .val (.int (0 : Int32)), .val (.int r38), .val (.int (1 : Int32)), .val (.int t92), .unset, .unset]) rfl d0_93 ?_
    refine iload K S rfl d0_95 ?_
    refine callS K S (W := 0) (m_hms l Z a0 hw n0 t92 h (Sle S) (by omega) (by omega)) (hwi hw 6 rfl) (hwi hw 7 rfl) (hwi hw 9 rfl) (hwi hw 8 rfl) (by decide) (by decide) (by decide) (by decide) (by decide) rfl (argsL := [.int t92]) rfl (lenOf pd_2 rfl) (rest := []) rfl (Nat.le_of_eq rfl) d0_97 (pr fun T r97 pr97 S => ?_)
    show Wp n0 p e _ s below _ T (mkF m 100 #[.val (.int x0), .val (.int x1), .val (.int (0 : Int32)), .val (.int r38), .val (.int (1 : Int32)), .val (.int t92), .unset, .unset] [.int r97])
    refine istore K S (l' := #[.val (.int x0), .val (.int x1), .val (.int (0 : Int32)), .val (.int r38), .val (.int (1 : Int32)), .val (.int t92), .val (.int r97), .unset]) rfl d0_100 ?_
    refine iload K S rfl d0_102 ?_
    refine callS K S (W := 0) (m_sod l Z a0 hw n0 r97 h (Sle S) ) (hwi hw 1 rfl) (hwi hw 2 rfl) (hwi hw 4 rfl) (hwi hw 3 rfl) (by decide) (by decide) (by decide) (by decide) (by decide) rfl (argsL := [.int r97]) rfl (lenOf pd_1 rfl) (rest := []) rfl (Nat.le_of_eq rfl) d0_104 (pr fun T r104 pr104 S => ?_)
    show Wp n0 p e _ s below _ T (mkF m 107 #[.val (.int x0), .val (.int x1), .val (.int (0 : Int32)), .val (.int r38), .val (.int (1 : Int32)), .val (.int t92), .val (.int r97), .unset] [.int r104])
    refine iload K S rfl d0_107 ?_
    refine icmpz_ne K S d0_109 (fun (c109 : ¬ r104.toInt = t92.toInt) => ?_) (fun (c109 : r104.toInt = t92.toInt) => ?_)
    · exfalso; omega
    refine iconst K S (x := (1 : Int32)) rfl d0_112 ?_
    refine goto K S d0_113 ?_
    refine istore K S (l' := #[.val (.int x0), .val (.int x1), .val (.int (0 : Int32)), .val (.int r38), .val (.int (1 : Int32)), .val (.int t92), .val (.int r97), .val (.int (1 : Int32))]) rfl d0_117 ?_
    refine iload K S rfl d0_119 ?_
    refine ificz_eq K S d0_121 (fun (c121 : 1 = 0) => ?_) (fun (c121 : ¬ 1 = 0) => ?_)
    · exact absurd c121 (by decide)
    refine iload K S rfl d0_124 ?_
    refine ificz_eq K S d0_126 (fun (c126 : 1 = 0) => ?_) (fun (c126 : ¬ 1 = 0) => ?_)
    · exact absurd c126 (by decide)
    refine iconst K S (x := (1 : Int32)) rfl d0_129 ?_
    refine goto K S d0_130 ?_
    refine retn K S (by simp) (y := (1 : Int32)) rfl (by decide) (by decide) d0_134 ?_
    rfl
  refine iload_n K S rfl d0_19 ?_
  refine bipush K S (x := (100 : Int32)) rfl d0_20 ?_
  refine idiv K S (by decide) d0_22 ?_
  refine nmI fun t22 ht22 => ?_
  have ft22 : (0 ≤ x0.toInt → t22.toInt = x0.toInt / 100) ∧ (x0.toInt < 0 → t22.toInt = -((-x0.toInt) / 100)) := by rw [ht22]; exact c_idiv x0 (100 : Int32) 100 rfl (by decide)
  have rt22 := rng32 t22
  refine bipush K S (x := (100 : Int32)) rfl d0_23 ?_
  refine irem K S (by decide) d0_25 ?_
  refine nmI fun t25 ht25 => ?_
  have ft25 : (0 ≤ t22.toInt → t25.toInt = t22.toInt % 100) ∧ (t22.toInt < 0 → t25.toInt = -((-t22.toInt) % 100)) := by rw [ht25]; exact c_irem t22 (100 : Int32) 100 rfl
  have rt25 := rng32 t25
  refine bipush K S (x := (60 : Int32)) rfl d0_26 ?_
  refine icmpz_ge K S d0_28 (fun (c28 : ¬ t25.toInt < 60) => ?_) (fun (c28 : t25.toInt < 60) => ?_)
  · refine iconst K S (x := (0 : Int32)) rfl d0_35 ?_
    refine istore_n K S (l' := #[.val (.int x0), .val (.int x1), .val (.int (0 : Int32)), .unset, .unset, .unset, .unset, .unset]) rfl d0_36 ?_
    refine iload_n K S rfl d0_37 ?_
    refine callS K S (W := 0) (m_sod l Z a0 hw n0 x0 h (Sle S) ) (hwi hw 1 rfl) (hwi hw 2 rfl) (hwi hw 4 rfl) (hwi hw 3 rfl) (by decide) (by decide) (by decide) (by decide) (by decide) rfl (argsL := [.int x0]) rfl (lenOf pd_1 rfl) (rest := []) rfl (Nat.le_of_eq rfl) d0_38 (pr fun T r38 pr38 S => ?_)
    show Wp n0 p e _ s below _ T (mkF m 41 #[.val (.int x0), .val (.int x1), .val (.int (0 : Int32)), .unset, .unset, .unset, .unset, .unset] [.int r38])
    refine istore_n K S (l' := #[.val (.int x0), .val (.int x1), .val (.int (0 : Int32)), .val (.int r38), .unset, .unset, .unset, .unset]) rfl d0_41 ?_
    refine iload_n K S rfl d0_42 ?_
    refine ificz_eq K S d0_43 (fun (c43 : 0 = 0) => ?_) (fun (c43 : ¬ 0 = 0) => ?_)
    rotate_left
    · exact absurd c43 (by decide)
    refine iload_n K S rfl d0_74 ?_
    refine iconst K S (x := (-1 : Int32)) rfl d0_75 ?_
    refine icmpz_ne K S d0_76 (fun (c76 : ¬ r38.toInt = (-1)) => ?_) (fun (c76 : r38.toInt = (-1)) => ?_)
    · exfalso; omega
    refine iconst K S (x := (1 : Int32)) rfl d0_79 ?_
    refine goto K S d0_80 ?_
    refine istore K S (l' := #[.val (.int x0), .val (.int x1), .val (.int (0 : Int32)), .val (.int r38), .val (.int (1 : Int32)), .unset, .unset, .unset]) rfl d0_84 ?_
    refine iload_n K S rfl d0_86 ?_
    refine ldc K S (x := (2147483647 : Int32)) (hwi hw 10 rfl) d0_87 ?_
    refine iand K S d0_89 ?_
    refine nmI fun t89 ht89 => ?_
    have ft89 : t89.toInt = x1.toInt % 2147483648 := by rw [ht89]; exact c_mask x1 (2147483647 : Int32) 31 (by decide) (by decide)
    have rt89 := rng32 t89
    refine ldc K S (x := (86400 : Int32)) (hwi hw 5 rfl) d0_90 ?_
    refine irem K S (by decide) d0_92 ?_
    refine nmI fun t92 ht92 => ?_
    have ft92 : (0 ≤ t89.toInt → t92.toInt = t89.toInt % 86400) ∧ (t89.toInt < 0 → t92.toInt = -((-t89.toInt) % 86400)) := by rw [ht92]; exact c_irem t89 (86400 : Int32) 86400 rfl
    have rt92 := rng32 t92
    refine istore K S (l' := #[.val (.int x0), .val (.int x1), .val (.int (0 : Int32)), .val (.int r38), .val (.int (1 : Int32)), .val (.int t92), .unset, .unset]) rfl d0_93 ?_
    refine iload K S rfl d0_95 ?_
    refine callS K S (W := 0) (m_hms l Z a0 hw n0 t92 h (Sle S) (by omega) (by omega)) (hwi hw 6 rfl) (hwi hw 7 rfl) (hwi hw 9 rfl) (hwi hw 8 rfl) (by decide) (by decide) (by decide) (by decide) (by decide) rfl (argsL := [.int t92]) rfl (lenOf pd_2 rfl) (rest := []) rfl (Nat.le_of_eq rfl) d0_97 (pr fun T r97 pr97 S => ?_)
    show Wp n0 p e _ s below _ T (mkF m 100 #[.val (.int x0), .val (.int x1), .val (.int (0 : Int32)), .val (.int r38), .val (.int (1 : Int32)), .val (.int t92), .unset, .unset] [.int r97])
    refine istore K S (l' := #[.val (.int x0), .val (.int x1), .val (.int (0 : Int32)), .val (.int r38), .val (.int (1 : Int32)), .val (.int t92), .val (.int r97), .unset]) rfl d0_100 ?_
    refine iload K S rfl d0_102 ?_
    refine callS K S (W := 0) (m_sod l Z a0 hw n0 r97 h (Sle S) ) (hwi hw 1 rfl) (hwi hw 2 rfl) (hwi hw 4 rfl) (hwi hw 3 rfl) (by decide) (by decide) (by decide) (by decide) (by decide) rfl (argsL := [.int r97]) rfl (lenOf pd_1 rfl) (rest := []) rfl (Nat.le_of_eq rfl) d0_104 (pr fun T r104 pr104 S => ?_)
    show Wp n0 p e _ s below _ T (mkF m 107 #[.val (.int x0), .val (.int x1), .val (.int (0 : Int32)), .val (.int r38), .val (.int (1 : Int32)), .val (.int t92), .val (.int r97), .unset] [.int r104])
    refine iload K S rfl d0_107 ?_
    refine icmpz_ne K S d0_109 (fun (c109 : ¬ r104.toInt = t92.toInt) => ?_) (fun (c109 : r104.toInt = t92.toInt) => ?_)
    · exfalso; omega
    refine iconst K S (x := (1 : Int32)) rfl d0_112 ?_
    refine goto K S d0_113 ?_
    refine istore K S (l' := #[.val (.int x0), .val (.int x1), .val (.int (0 : Int32)), .val (.int r38), .val (.int (1 : Int32)), .val (.int t92), .val (.int r97), .val (.int (1 : Int32))]) rfl d0_117 ?_
    refine iload K S rfl d0_119 ?_
    refine ificz_eq K S d0_121 (fun (c121 : 1 = 0) => ?_) (fun (c121 : ¬ 1 = 0) => ?_)
    · exact absurd c121 (by decide)
    refine iload K S rfl d0_124 ?_
    refine ificz_eq K S d0_126 (fun (c126 : 1 = 0) => ?_) (fun (c126 : ¬ 1 = 0) => ?_)
    · exact absurd c126 (by decide)
    refine iconst K S (x := (1 : Int32)) rfl d0_129 ?_
    refine goto K S d0_130 ?_
    refine retn K S (by simp) (y := (1 : Int32)) rfl (by decide) (by decide) d0_134 ?_
    rfl
  refine iconst K S (x := (1 : Int32)) rfl d0_31 ?_
  refine goto K S d0_32 ?_
  refine istore_n K S (l' := #[.val (.int x0), .val (.int x1), .val (.int (1 : Int32)), .unset, .unset, .unset, .unset, .unset]) rfl d0_36 ?_
  refine iload_n K S rfl d0_37 ?_
  refine callS K S (W := 0) (m_sod l Z a0 hw n0 x0 h (Sle S) ) (hwi hw 1 rfl) (hwi hw 2 rfl) (hwi hw 4 rfl) (hwi hw 3 rfl) (by decide) (by decide) (by decide) (by decide) (by decide) rfl (argsL := [.int x0]) rfl (lenOf pd_1 rfl) (rest := []) rfl (Nat.le_of_eq rfl) d0_38 (pr fun T r38 pr38 S => ?_)
  show Wp n0 p e _ s below _ T (mkF m 41 #[.val (.int x0), .val (.int x1), .val (.int (1 : Int32)), .unset, .unset, .unset, .unset, .unset] [.int r38])
  refine istore_n K S (l' := #[.val (.int x0), .val (.int x1), .val (.int (1 : Int32)), .val (.int r38), .unset, .unset, .unset, .unset]) rfl d0_41 ?_
  refine iload_n K S rfl d0_42 ?_
  refine ificz_eq K S d0_43 (fun (c43 : 1 = 0) => ?_) (fun (c43 : ¬ 1 = 0) => ?_)
  · exact absurd c43 (by decide)
  refine iload_n K S rfl d0_46 ?_
  refine ificz_lt K S d0_47 (fun (c47 : r38.toInt < 0) => ?_) (fun (c47 : ¬ r38.toInt < 0) => ?_)
  · exfalso; omega
  refine iload_n K S rfl d0_50 ?_
  refine ldc K S (x := (86400 : Int32)) (hwi hw 5 rfl) d0_51 ?_
  refine icmpz_ge K S d0_53 (fun (c53 : ¬ r38.toInt < 86400) => ?_) (fun (c53 : r38.toInt < 86400) => ?_)
  · exfalso; omega
  refine iload_n K S rfl d0_56 ?_
  refine callS K S (W := 0) (m_hms l Z a0 hw n0 r38 h (Sle S) (by omega) (by omega)) (hwi hw 6 rfl) (hwi hw 7 rfl) (hwi hw 9 rfl) (hwi hw 8 rfl) (by decide) (by decide) (by decide) (by decide) (by decide) rfl (argsL := [.int r38]) rfl (lenOf pd_2 rfl) (rest := []) rfl (Nat.le_of_eq rfl) d0_57 (pr fun T r57 pr57 S => ?_)
  show Wp n0 p e _ s below _ T (mkF m 60 #[.val (.int x0), .val (.int x1), .val (.int (1 : Int32)), .val (.int r38), .unset, .unset, .unset, .unset] [.int r57])
  refine iload_n K S rfl d0_60 ?_
  refine icmpz_ne K S d0_61 (fun (c61 : ¬ r57.toInt = x0.toInt) => ?_) (fun (c61 : r57.toInt = x0.toInt) => ?_)
  · exfalso; omega
  refine iconst K S (x := (1 : Int32)) rfl d0_64 ?_
  refine goto K S d0_65 ?_
  refine istore K S (l' := #[.val (.int x0), .val (.int x1), .val (.int (1 : Int32)), .val (.int r38), .val (.int (1 : Int32)), .unset, .unset, .unset]) rfl d0_69 ?_
  refine goto K S d0_71 ?_
  refine iload_n K S rfl d0_86 ?_
  refine ldc K S (x := (2147483647 : Int32)) (hwi hw 10 rfl) d0_87 ?_
  refine iand K S d0_89 ?_
  refine nmI fun t89 ht89 => ?_
  have ft89 : t89.toInt = x1.toInt % 2147483648 := by rw [ht89]; exact c_mask x1 (2147483647 : Int32) 31 (by decide) (by decide)
  have rt89 := rng32 t89
  refine ldc K S (x := (86400 : Int32)) (hwi hw 5 rfl) d0_90 ?_
  refine irem K S (by decide) d0_92 ?_
  refine nmI fun t92 ht92 => ?_
  have ft92 : (0 ≤ t89.toInt → t92.toInt = t89.toInt % 86400) ∧ (t89.toInt < 0 → t92.toInt = -((-t89.toInt) % 86400)) := by rw [ht92]; exact c_irem t89 (86400 : Int32) 86400 rfl
  have rt92 := rng32 t92
  refine istore K S (l' := #[.val (.int x0), .val (.int x1), .val (.int (1 : Int32)), .val (.int r38), .val (.int (1 : Int32)), .val (.int t92), .unset, .unset]) rfl d0_93 ?_
  refine iload K S rfl d0_95 ?_
  refine callS K S (W := 0) (m_hms l Z a0 hw n0 t92 h (Sle S) (by omega) (by omega)) (hwi hw 6 rfl) (hwi hw 7 rfl) (hwi hw 9 rfl) (hwi hw 8 rfl) (by decide) (by decide) (by decide) (by decide) (by decide) rfl (argsL := [.int t92]) rfl (lenOf pd_2 rfl) (rest := []) rfl (Nat.le_of_eq rfl) d0_97 (pr fun T r97 pr97 S => ?_)
  show Wp n0 p e _ s below _ T (mkF m 100 #[.val (.int x0), .val (.int x1), .val (.int (1 : Int32)), .val (.int r38), .val (.int (1 : Int32)), .val (.int t92), .unset, .unset] [.int r97])
  refine istore K S (l' := #[.val (.int x0), .val (.int x1), .val (.int (1 : Int32)), .val (.int r38), .val (.int (1 : Int32)), .val (.int t92), .val (.int r97), .unset]) rfl d0_100 ?_
  refine iload K S rfl d0_102 ?_
  refine callS K S (W := 0) (m_sod l Z a0 hw n0 r97 h (Sle S) ) (hwi hw 1 rfl) (hwi hw 2 rfl) (hwi hw 4 rfl) (hwi hw 3 rfl) (by decide) (by decide) (by decide) (by decide) (by decide) rfl (argsL := [.int r97]) rfl (lenOf pd_1 rfl) (rest := []) rfl (Nat.le_of_eq rfl) d0_104 (pr fun T r104 pr104 S => ?_)
  show Wp n0 p e _ s below _ T (mkF m 107 #[.val (.int x0), .val (.int x1), .val (.int (1 : Int32)), .val (.int r38), .val (.int (1 : Int32)), .val (.int t92), .val (.int r97), .unset] [.int r104])
  refine iload K S rfl d0_107 ?_
  refine icmpz_ne K S d0_109 (fun (c109 : ¬ r104.toInt = t92.toInt) => ?_) (fun (c109 : r104.toInt = t92.toInt) => ?_)
  · exfalso; omega
  refine iconst K S (x := (1 : Int32)) rfl d0_112 ?_
  refine goto K S d0_113 ?_
  refine istore K S (l' := #[.val (.int x0), .val (.int x1), .val (.int (1 : Int32)), .val (.int r38), .val (.int (1 : Int32)), .val (.int t92), .val (.int r97), .val (.int (1 : Int32))]) rfl d0_117 ?_
  refine iload K S rfl d0_119 ?_
  refine ificz_eq K S d0_121 (fun (c121 : 1 = 0) => ?_) (fun (c121 : ¬ 1 = 0) => ?_)
  · exact absurd c121 (by decide)
  refine iload K S rfl d0_124 ?_
  refine ificz_eq K S d0_126 (fun (c126 : 1 = 0) => ?_) (fun (c126 : ¬ 1 = 0) => ?_)
  · exact absurd c126 (by decide)
  refine iconst K S (x := (1 : Int32)) rfl d0_129 ?_
  refine goto K S d0_130 ?_
  refine retn K S (by simp) (y := (1 : Int32)) rfl (by decide) (by decide) d0_134 ?_
  rfl

set_option maxRecDepth 65536 in
set_option maxHeartbeats 40000000 in
theorem comes_1 {Post : Tables → Env → Array Value → State → Outcome → State → Prop} (hpost : ∀ tb e args s v u, (limb_1_1.after args s (.returned v) u = true ∧ limb_1_2.after args s (.returned v) u = true ∧ True) → FrameEnd s (.returned v) u (Jvm.fieldLocs frame_1_writes args s ++ Jvm.arrayLocs frame_1_arrays args s ++ Jvm.staticLocs frame_1_statics s) 0 0 → Post tb e args s (.returned v) u) :
    ArmFor flags0 classFile x code maxLocals ret World_1 tables_1 room_1 Calls_1 rest_1 Pre_1 Post := by
  intro l hfl _ _ p e ha hc hk s m args below hf hA hF happ hP
  obtain ⟨hcalls, hrest, hpre⟩ := hP
  obtain ⟨-, -, -, hnamed, -, -, -, hat⟩ := (Spec.applies_iff hf).mp happ
  obtain ⟨hg, hn⟩ := and_e (Cond.before_iff.mp (show (Jvm.Cond.and given_1 narrow_1).before args s = true from hpre))
  obtain ⟨gc, r0⟩ := and_e hg
  obtain ⟨g0, r1⟩ := and_e r0
  obtain ⟨w0, w1, rfl⟩ : ∃ w0 w1 : Value, args = #[w0, w1] := by
    have hs : args.size = 2 := by simpa [Cond.value, given_1] using gc
    obtain ⟨L⟩ := args
    match L, hs with
    | [w0, w1], _ => exact ⟨w0, w1, rfl⟩
  have hw := fun d (hd : d ∈ tables_1) => atoms_spec (ws := Jvm.Cond.code x code maxLocals ret :: tables_1) hat d (List.mem_cons_of_mem _ hd)
  obtain ⟨i0, ei0⟩ := is_v g0
  obtain rfl : w0 = (.int i0) := Option.some.inj ei0
  obtain ⟨i1, ei1⟩ := is_v r1
  obtain rfl : w1 = (.int i1) := Option.some.inj ei1
  obtain ⟨n, o, h1, h2, h3, _, L, rfl, ⟨rfl, -, N⟩, hq⟩ := m_law l s _ hw s.heap.size i0 i1 s.heap (Nat.le_refl _) p e ha hc hk s m _ below hf ((Spec.applies_iff_loose hf).mp happ).1 ⟨rfl, State.Warmed39.refl s, rfl⟩ trivial
  refine ⟨n, _, h1, h2, h3, hpost _ _ _ _ _ _ ⟨Cond.after_iff.mpr rfl, Cond.after_iff.mpr (eq_i res_at (Term.int_eval (1)) rfl), trivial⟩ ⟨hq.1, hq.2.1, (hq.2.2.sift fun y hy => Or.inr (N y hy)).mono (by decide) (by decide)⟩⟩
theorem main_1_1 : Claimed_1_1 := comes_1 fun _ _ _ _ _ _ h hF => ⟨h.1, hF⟩
theorem main_1_2 : Claimed_1_2 := comes_1 fun _ _ _ _ _ _ h hF => ⟨h.2.1, hF⟩
end Jvm.Pilot.@@N@@
namespace Jvm.Pilot.@@N@@
open Jvm Jvm.ClassFile Sem Op Lib Jvm.Free Jvm.Stand Jvm.Pilot.@@N@@.Jvm.D
/-! MADE BY PROGRAM (witnessworld.py) out of the Statement's table words and the real class files: 9 classes; the members and pool entries that the words name. The judged class is class 1, her method 2. -/
namespace start1
open Jvm.ClassFile
def u (s : String) : CpInfo := .utf8 (stringToUtf16 s)
/-- a pool by its gaps: so many unusable entries, then the entry; so many at the end -/
def gap : Nat → List CpInfo → List CpInfo
  | 0, r => r
  | n + 1, r => .unusable :: gap n r
def poolList (es : List (Nat × CpInfo)) (last : Nat) : List CpInfo := es.foldr (fun e r => gap e.1 (e.2 :: r)) (gap last [])
def pool (es : List (Nat × CpInfo)) (last : Nat) : Array CpInfo := ⟨poolList es last⟩
def fileOf (pool : Array CpInfo) (this : Nat) (attrs : Array Attribute := #[]) (ms : Array MethodInfo := #[]) (fl : Nat := 33) (sup : Nat := 0) (ifs : Array Nat := #[]) (fds : Array FieldInfo := #[]) : ClassFile where
  minorVersion := 0
  majorVersion := 65
  constantPool := pool
  accessFlags := fl
  thisClass := this
  superClass := sup
  interfaces := ifs
  fields := fds
  methods := ms
  attributes := attrs
def plain (name : String) (sup : Option ClassId) : Class where
  name := name
  kind := .ordinary
  loader := none
  accessFlags := 33
  super := sup
  interfaces := #[]
  cf := none
  fields := #[]
  methods := #[]
  instanceTypes := #[]
  staticTypes := #[]
  resolved := #[]
  callSites := []
  init := .initialized
  statics := none
  mirror := none

def pool0 : Array CpInfo := pool [(5, u "<init>"), (0, u "()V"), (1, .class_ 10), (1, u "java/lang/Object")] 113

def k0m0 : Method := { name := "<init>", desc := "()V", sig := { parameters := [], returnType := none }, accessFlags := 1, code := none }
/-- java/lang/Object -/
def k0 : Class := { plain "java/lang/Object" none with
  accessFlags := 33
  interfaces := #[]
  cf := some (fileOf pool0 8 #[] #[{ accessFlags := 1, nameIndex := 5, descriptorIndex := 6, attributes := #[] }] 33 0 #[] #[])
  fields := #[]
  methods := #[k0m0]
  instanceTypes := #[]
  staticTypes := #[]
  resolved := Array.replicate 124 none
  statics := none }

def pool1 : Array CpInfo := pool [(2, .class_ 4), (1, u "java/lang/Object"), (0, u "<init>"), (0, u "()V"), (0, .integer 235959), (0, .methodref 9 10), (0, .class_ 11), (0, .nameAndType 12 13), (0, u "com/example/hectonano/hectonano/internal/CalendarSeconds"), (0, u "secondOfDay"), (0, u "(I)I"), (0, .integer 86400), (0, .methodref 16 17), (0, .class_ 18), (0, .nameAndType 19 13), (0, u "com/example/hectonano/hectonano/internal/CalendarSecondsSecondOfDayPinLaw"), (0, u "hhmmss"), (0, .integer 2147483647), (2, u "law"), (0, u "(II)Z")] 3

def k1m0 : Method := { name := "<init>", desc := "()V", sig := { parameters := [], returnType := none }, accessFlags := 2, code := none }
def k1c1 : Code := { maxStack := 3, maxLocals := 1, code := method_2_code, exceptionTable := #[], attributes := #[] }
def k1m1 : Method := { name := "hhmmss", desc := "(I)I", sig := { parameters := [.int], returnType := some .int }, accessFlags := 10, code := some k1c1 }
def k1c2 : Code := { maxStack := 2, maxLocals := 8, code := code, exceptionTable := #[], attributes := #[] }
def k1m2 : Method := { name := "law", desc := "(II)Z", sig := { parameters := [.int, .int], returnType := some .boolean }, accessFlags := 9, code := some k1c2 }
/-- com/example/hectonano/hectonano/internal/CalendarSecondsSecondOfDayPinLaw -/
def k1 : Class := { plain "com/example/hectonano/hectonano/internal/CalendarSecondsSecondOfDayPinLaw" (some 0) with
  accessFlags := 49
  interfaces := #[]
  cf := some (fileOf pool1 16 #[] #[{ accessFlags := 2, nameIndex := 5, descriptorIndex := 6, attributes := #[] }, { accessFlags := 10, nameIndex := 19, descriptorIndex := 13, attributes := #[] }, { accessFlags := 9, nameIndex := 23, descriptorIndex := 24, attributes := #[] }] 49 2 #[] #[])
  fields := #[]
  methods := #[k1m0, k1m1, k1m2]
  instanceTypes := #[]
  staticTypes := #[]
  resolved := Array.replicate 28 none
  statics := none }

def pool2 : Array CpInfo := pool [(3, .class_ 4), (0, u "com/example/hectonano/hectonano/internal/CalendarSeconds"), (1, .class_ 8), (1, u "java/lang/Object"), (0, u "<init>"), (0, u "()V"), (21, u "secondOfDay"), (0, u "(I)I"), (7, u "PER_DAY"), (0, u "I"), (2, u "DATE_DIGITS"), (1, u "TIME_DIGITS"), (1, u "END"), (0, u "J"), (2, u "LAST_STAMP")] 8

def k2m0 : Method := { name := "<init>", desc := "()V", sig := { parameters := [], returnType := none }, accessFlags := 2, code := none }
def k2c1 : Code := { maxStack := 3, maxLocals := 4, code := prog_42_method_3_code, exceptionTable := #[], attributes := #[] }
def k2m1 : Method := { name := "secondOfDay", desc := "(I)I", sig := { parameters := [.int], returnType := some .int }, accessFlags := 9, code := some k2c1 }
/-- com/example/hectonano/hectonano/internal/CalendarSeconds -/
def k2 : Class := { plain "com/example/hectonano/hectonano/internal/CalendarSeconds" (some 0) with
  accessFlags := 33
  interfaces := #[]
  cf := some (fileOf pool2 3 #[] #[{ accessFlags := 2, nameIndex := 9, descriptorIndex := 10, attributes := #[] }, { accessFlags := 9, nameIndex := 32, descriptorIndex := 33, attributes := #[] }] 33 6 #[] #[{ accessFlags := 25, nameIndex := 41, descriptorIndex := 42, attributes := #[] }, { accessFlags := 25, nameIndex := 45, descriptorIndex := 42, attributes := #[] }, { accessFlags := 25, nameIndex := 47, descriptorIndex := 42, attributes := #[] }, { accessFlags := 25, nameIndex := 49, descriptorIndex := 50, attributes := #[] }, { accessFlags := 26, nameIndex := 53, descriptorIndex := 50, attributes := #[] }])
  fields := #[{ name := "PER_DAY", type := .int, accessFlags := 25, slot := 0, constantValue := 0 }, { name := "DATE_DIGITS", type := .int, accessFlags := 25, slot := 1, constantValue := 0 }, { name := "TIME_DIGITS", type := .int, accessFlags := 25, slot := 2, constantValue := 0 }, { name := "END", type := .long, accessFlags := 25, slot := 3, constantValue := 0 }, { name := "LAST_STAMP", type := .long, accessFlags := 26, slot := 4, constantValue := 0 }]
  methods := #[k2m0, k2m1]
  instanceTypes := #[]
  staticTypes := #[.int, .int, .int, .long, .long]
  resolved := Array.replicate 62 none
  statics := none }

def pool3 : Array CpInfo := pool [(1, u "java/lang/Cloneable"), (0, .class_ 1), (0, u "java/lang/Object"), (0, .class_ 3)] 3

/-- java/lang/Cloneable -/
def k3 : Class := { plain "java/lang/Cloneable" (some 0) with
  accessFlags := 1537
  interfaces := #[]
  cf := some (fileOf pool3 2 #[] #[] 1537 4 #[] #[])
  fields := #[]
  methods := #[]
  instanceTypes := #[]
  staticTypes := #[]
  resolved := Array.replicate 8 none
  statics := none }

def pool4 : Array CpInfo := pool [(1, u "java/io/Serializable"), (0, .class_ 1), (0, u "java/lang/Object"), (0, .class_ 3)] 3

/-- java/io/Serializable -/
def k4 : Class := { plain "java/io/Serializable" (some 0) with
  accessFlags := 1537
  interfaces := #[]
  cf := some (fileOf pool4 2 #[] #[] 1537 4 #[] #[])
  fields := #[]
  methods := #[]
  instanceTypes := #[]
  staticTypes := #[]
  resolved := Array.replicate 8 none
  statics := none }

/-- the primitive byte -/
def k5 : Class := { plain "byte" none with kind := .primitive 'B', accessFlags := 0x411 }
/-- [B -/
def k6 : Class := { plain "[B" (some 0) with kind := .array 5 .byte, interfaces := #[3, 4], accessFlags := 1041 }

/-- the primitive int -/
def k7 : Class := { plain "int" none with kind := .primitive 'I', accessFlags := 0x411 }
/-- [I -/
def k8 : Class := { plain "[I" (some 0) with kind := .array 7 .int, interfaces := #[3, 4], accessFlags := 1041 }

def heap : Heap := #[]
def classes : Array Class := #[k0, k1, k2, k3, k4, k5, k6, k7, k8]
def interned : List (Array UInt16 × Addr) := []
def slotsUsed : Nat := 0
def theMethod : MethodId := ⟨1, 2⟩
def args0 : Array Value := #[.int 5, .int 300]
def aboutOver (below : List Frame) : State where
  vm := { classes := classes, interned := interned.toArray }
  heap := heap
  slotsUsed := slotsUsed
  threads := #[{ frames := .invoking theMethod args0 :: below }]
def below0 : List Frame := [.native { method := ⟨0, 0⟩, args := #[] }]
def about1 : State := aboutOver below0
def p0 : Program := .bare "" "" ""
def e0 : Env := launch0.env 0 0 0
theorem w_frames : about1.frames = Frame.invoking theMethod args0 :: below0 := rfl
set_option maxRecDepth 65536 in
theorem w_args : argsFit about1.vm theMethod args0 = true := by decide +kernel
set_option maxRecDepth 65536 in
theorem w_heap : heapFits about1 = true := by decide +kernel
set_option maxRecDepth 65536 in
theorem w_runnable : about1.curStatus? = some .runnable := by decide +kernel
set_option maxRecDepth 65536 in
theorem w_alone : about1.alone = true := by decide +kernel
set_option maxRecDepth 65536 in
theorem w_named : about1.methodNamed? x = some theMethod := by decide +kernel
set_option maxRecDepth 65536 in
theorem w_hears : about1.hears theMethod below0 = true := by decide +kernel
set_option maxRecDepth 65536 in
theorem w_ripe : about1.ripe theMethod args0 below0 = true := by decide +kernel
theorem w_running : about1.status = .running := rfl
set_option maxRecDepth 65536 in
theorem w_room : about1.hasRoom e0.platform room_1 = true :=
  launch0.hasRoom_least _ room_1 (by decide +kernel) (by decide +kernel) (by decide +kernel) (by decide +kernel) (by decide +kernel) (by decide +kernel)
theorem allAtoms_all (ts : List Jvm.Cond) (a : Array Jvm.Value) (st : Jvm.State) : (allAtoms ts).before a st = ts.all (fun c => c.before a st) := by
  induction ts with
  | nil => rfl
  | cons c t ih =>
    show (Jvm.Cond.and c (allAtoms t)).before a st = _
    rw [Jvm.Cond.before_and, ih, List.all_cons]
def words1 : List Jvm.Cond := Jvm.Cond.code x code maxLocals ret :: tables_1
/-- a 'code' word, met by the world's own term for the bytes: nothing is compared byte by byte -/
theorem code_word {y : MethodName} {bytes : ByteArray} {mx : Nat} {rt : Option FieldType} {a : Array Value} {s : State} {m : MethodId} {meth : Method} {c : Code} (h1 : s.methodNamed? y = some m) (h2 : s.vm.method? m = some meth) (h3 : meth.code = some c) (h4 : c.code = bytes)
    (h5 : (c.maxLocals == mx && c.exceptionTable.isEmpty && decide (c.maxStack ≤ mostOperands) && decide (meth.sig.returnType = rt) && !meth.locks && decide (parseMethodDescriptor y.desc = some meth.sig)) = true) : (Jvm.Cond.code y bytes mx rt).before a s = true := by
  simp only [Bool.and_eq_true, beq_iff_eq, Bool.not_eq_true', decide_eq_true_eq] at h5
  obtain ⟨⟨⟨⟨⟨g1, g2⟩, g3⟩, g4⟩, g5⟩, g6⟩ := h5
  simp [Cond.before, Cond.holds, Cond.value, h1, h2, h3, h4, g1, g2, g3, g4, g5, g6]
def isCode : Jvm.Cond → Bool
  | .code _ _ _ _ => true
  | _ => false
theorem all_split {L : List Jvm.Cond} {P : Jvm.Cond → Bool} (h1 : L.all (fun c => isCode c || P c) = true) (h2 : ∀ c ∈ L.filter isCode, P c = true) : L.all P = true := by
  refine List.all_eq_true.mpr fun c hc => ?_
  have h := List.all_eq_true.mp h1 c hc
  rcases Bool.eq_false_or_eq_true (isCode c) with hi | hi
  · exact h2 c (List.mem_filter.mpr ⟨hc, hi⟩)
  · simpa [hi] using h
set_option maxRecDepth 65536 in
theorem w_c0 : (Jvm.Cond.code x code maxLocals ret).before args0 about1 = true := code_word (m := ⟨1, 2⟩) (meth := k1m2) (c := k1c2) (by decide +kernel) rfl rfl rfl (by decide +kernel)
set_option maxRecDepth 65536 in
theorem w_c1 : (Jvm.Cond.code ({ cls := "com/example/hectonano/hectonano/internal/CalendarSeconds", name := "secondOfDay", desc := "(I)I" } : Jvm.MethodName) prog_42_method_3_code (4 : Nat) (Option.some Jvm.ClassFile.FieldType.int)).before args0 about1 = true := code_word (m := ⟨2, 1⟩) (meth := k2m1) (c := k2c1) (by decide +kernel) rfl rfl rfl (by decide +kernel)
set_option maxRecDepth 65536 in
theorem w_c2 : (Jvm.Cond.code ({ cls := "com/example/hectonano/hectonano/internal/CalendarSecondsSecondOfDayPinLaw", name := "hhmmss", desc := "(I)I" } : Jvm.MethodName) method_2_code (1 : Nat) (Option.some Jvm.ClassFile.FieldType.int)).before args0 about1 = true := code_word (m := ⟨1, 1⟩) (meth := k1m1) (c := k1c1) (by decide +kernel) rfl rfl rfl (by decide +kernel)
def codes1 : List Jvm.Cond := [Jvm.Cond.code x code maxLocals ret, Jvm.Cond.code ({ cls := "com/example/hectonano/hectonano/internal/CalendarSeconds", name := "secondOfDay", desc := "(I)I" } : Jvm.MethodName) prog_42_method_3_code (4 : Nat) (Option.some Jvm.ClassFile.FieldType.int), Jvm.Cond.code ({ cls := "com/example/hectonano/hectonano/internal/CalendarSecondsSecondOfDayPinLaw", name := "hhmmss", desc := "(I)I" } : Jvm.MethodName) method_2_code (1 : Nat) (Option.some Jvm.ClassFile.FieldType.int)]
set_option maxRecDepth 65536 in
theorem codes_eq : words1.filter isCode = codes1 := rfl
theorem w_codes : ∀ c ∈ words1.filter isCode, c.before args0 about1 = true := by
  rw [codes_eq]
  intro c hc
  simp only [codes1, List.mem_cons, List.not_mem_nil, or_false] at hc
  rcases hc with rfl | rfl | rfl
  · exact w_c0
  · exact w_c1
  · exact w_c2
set_option maxRecDepth 65536 in
theorem w_t1 : words1.all (fun c => isCode c || c.before args0 about1) = true := by decide +kernel
theorem w_tables : (allAtoms (Jvm.Cond.code x code maxLocals ret :: tables_1)).before args0 about1 = true := by
  rw [allAtoms_all]
  show words1.all (fun c => c.before args0 about1) = true
  refine all_split ?_ w_codes
  rw [w_t1]
set_option maxRecDepth 65536 in
theorem w_case : (Jvm.Cond.and given_1 narrow_1).before args0 about1 = true := by decide +kernel
theorem w_applies : (headSpec (Jvm.Cond.code x code maxLocals ret :: tables_1) room_1).applies x e0.platform about1 = true :=
  (Spec.applies_iff w_frames).mpr ⟨w_running, w_runnable, w_alone, w_named, w_hears, w_ripe, w_room, w_tables⟩
theorem atStart : AtStart classFile x code maxLocals ret World_1 tables_1 room_1 Calls_1 rest_1 Pre_1 launch0 p0 e0 about1 theMethod args0 below0 :=
  ⟨lists_1, trivial, launch0.admits_env _ _ _, launch0.least_env, fairChoices_fair.cas, fairChoices_fair.clock, w_frames, w_args, w_heap, w_applies, trivial, trivial, w_case⟩
end start1
theorem witness_1 : WitnessClaimed_1 := ⟨start1.p0, start1.e0, start1.about1, start1.theMethod, start1.args0, start1.below0, start1.atStart⟩
end Jvm.Pilot.@@N@@
