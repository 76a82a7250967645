import JvmDerived
import JvmDerived.Pilot.@@N@@Statement
import JvmDerived.Pilot.@@N@@Code
set_option linter.unusedVariables false
set_option linter.unusedSimpArgs false
namespace Jvm.Own
open Jvm Sem ClassFile Op Lib Jvm.Stand Jvm.Free Jvm.LawKit Jvm.RoadKit
section Kit
/-- the fixed surroundings of one body's walk -/
def Cx (own : String) (code : ByteArray) (mL : Nat) (ret : Option FieldType) (mn : String) (n0 : Nat) (Z : State) (p : Program) (l : Launch) (e : Env) (R : Room) (s : State) (m : MethodId) (args : Array Value) (below : List Frame) (meth : Method) (c : Code) : Prop :=
  p.tables.exec = Jvm.exec ∧ c.code = code ∧ c.maxLocals = mL ∧ meth.sig.returnType = ret ∧ meth.locks = false ∧ s.vm.findClass own = some m.cls ∧ Z.Warmed39 s.vm ∧ meth.name = mn
/-- where the walk stands: k cells and n slots made so far, the heap h -/
def St (n0 : Nat) (p : Program) (l : Launch) (e : Env) (R : Room) (s : State) (m : MethodId) (args : Array Value) (below : List Frame) (meth : Method) (c : Code) (k n : Nat) (h : Heap) (T : State) : Prop :=
  ∃ locs, Stand p l e R s m args below meth c T locs k n ∧ T.heap = h ∧ Fr n0 locs ∧ n0 ≤ h.size
/-- from here the body comes to its end, and Q holds there -/
def Wp (n0 : Nat) (p : Program) (e : Env) (R : Room) (s : State) (below : List Frame) (Q : Option Value → Heap → Prop) (T : State) (g : JFrame) : Prop :=
  ∃ s₂ o, Steps p.tables e below (T.setTop g) s₂ ∧ s₂.status = .running ∧ Ended s₂ below o ∧ ∃ v L, o = .returned v ∧ (Q v s₂.heap ∧ n0 ≤ s₂.heap.size ∧ Fr n0 L) ∧ FrameEnd s o s₂ L R.cells R.slots
/-- a body's contract: entered with the arguments as' at the heap h it returns, and Q holds of what it returns and of the heap -/
def Met (n0 : Nat) (l : Launch) (Z : State) (y : MethodName) (bytes : ByteArray) (mL : Nat) (ret : Option FieldType) (rm : Room) (ws : List Jvm.Cond) (as' : Array Value) (h : Heap) (Q : Option Value → Heap → Prop) : Prop :=
  MetFree l y (head1 (Jvm.Cond.code y bytes mL ret :: ws) rm) (fun a U => a = as' ∧ Z.Warmed39 U.vm ∧ U.heap = h) (fun _ _ _ _ _ => True) (fun _ U o U' => ∃ v L, o = .returned v ∧ (Q v U'.heap ∧ n0 ≤ U'.heap.size ∧ Fr n0 L) ∧ FrameEnd U o U' L rm.cells rm.slots)
def Dc (code : ByteArray) (pc : Nat) (i : Instr) (len q : Nat) : Prop := decode code pc = .ok (i, len) ∧ pc + len = q
def Bc (code : ByteArray) (pc : Nat) (i : Instr) (o : Int) (q q' : Nat) : Prop := decode code pc = .ok (i, 3) ∧ pc + 3 = q ∧ 0 ≤ (pc : Int) + o ∧ ((pc : Int) + o).toNat = q'
/-- the place i that the int j names -/
def Ix (j : Int32) (i : Nat) : Prop := ¬ j < 0 ∧ j.toNatClampNeg = i
/-- an array of the values vs -/
def VA (Z : State) (h : Heap) (a : Addr) (ty : FieldType) (vs : List Value) : Prop := ∃ cl : Cell, Arr Z h a cl ty ∧ cl.slots = vs.toArray
variable {own : String} {code : ByteArray} {mL : Nat} {ret : Option FieldType} {mn : String} {n0 : Nat} {Z : State} {p : Program} {l : Launch} {e : Env} {R : Room} {s : State} {m : MethodId} {args : Array Value} {below : List Frame} {meth : Method} {c : Code} {T : State} {k n : Nat} {h h' : Heap} {Q : Option Value → Heap → Prop} {pc q q' : Nat} {Ls l' : Array Slot} {st rest : List Value} {a0 : Array Value} {ty : FieldType} {vs : List Value} {a b : Addr} {v w : Value} {x y : Int32} {X Y : Int64}
theorem VA.ext (F : VA Z h a ty vs) (E : Ext h h') : VA Z h' a ty vs := by obtain ⟨cl, A, r⟩ := F; exact ⟨cl, A.ext E, r⟩
theorem VA.other {sl : Nat} (F : VA Z h a ty vs) (W : Wr h h' b sl v) (ne : a ≠ b) : VA Z h' a ty vs := by obtain ⟨cl, A, r⟩ := F; exact ⟨cl, A.other W ne, r⟩
theorem VA.keep {ws : List Addr} (F : VA Z h a ty vs) (K : Keep h h' ws) (ne : a ∉ ws) : VA Z h' a ty vs := by obtain ⟨cl, A, r⟩ := F; exact ⟨cl, ⟨K.2.1 a cl A.1 ne, A.2⟩, r⟩
theorem VA.lt (F : VA Z h a ty vs) : a < h.size := by obtain ⟨cl, A, r⟩ := F; exact A.lt
theorem VA.wr {i : Nat} (F : VA Z h a ty vs) (W : Wr h h' a i v) : VA Z h' a ty (vs.set i v) := by
  obtain ⟨cl, A, r⟩ := F
  refine ⟨_, Arr.same W A, ?_⟩
  show cl.slots.setIfInBounds i v = _
  rw [r]; simp
theorem wp_mono {T' : State} {g g' : JFrame} (f : ∀ t, Steps p.tables e below (T'.setTop g') t → Steps p.tables e below (T.setTop g) t) (w : Wp n0 p e R s below Q T' g') : Wp n0 p e R s below Q T g := by
  obtain ⟨s₂, o, h1, r⟩ := w; exact ⟨s₂, o, f _ h1, r⟩
theorem nmI (g : ∀ z, z = x → Wp n0 p e R s below Q T (mkF m pc Ls (.int z :: st))) : Wp n0 p e R s below Q T (mkF m pc Ls (.int x :: st)) := g x rfl
theorem nmL (g : ∀ z, z = X → Wp n0 p e R s below Q T (mkF m pc Ls (.long z :: st))) : Wp n0 p e R s below Q T (mkF m pc Ls (.long X :: st)) := g X rfl
def Pu (r : Option Value) (h : Heap) : Option Value → Heap → Prop := fun v h' => v = r ∧ h' = h
def Ef (r : Option Value) (P : Heap → Prop) : Option Value → Heap → Prop := fun v h' => v = r ∧ P h'
def Pr (P : Int32 → Prop) (h : Heap) : Option Value → Heap → Prop := fun v h' => ∃ r, v = some (.int r) ∧ P r ∧ h' = h
def PrL (P : Int64 → Prop) (h : Heap) : Option Value → Heap → Prop := fun v h' => ∃ r, v = some (.long r) ∧ P r ∧ h' = h
def Er (P : Int32 → Heap → Prop) : Option Value → Heap → Prop := fun v h' => ∃ r, v = some (.int r) ∧ P r h'
def Ea (P : Addr → Heap → Prop) : Option Value → Heap → Prop := fun v h' => ∃ r, v = some (.ref r) ∧ P r h'
theorem own_b01 {x : Int32} (h : x.toInt = 0 ∨ x.toInt = 1) : nar .boolean x = x := by
  rcases h with h | h
  · have e : x = 0 := Int32.toInt_inj.mp h
    subst e; rfl
  · have e : x = 1 := Int32.toInt_inj.mp h
    subst e; rfl
theorem own_eqz {x y : Int32} (h : x.toInt = y.toInt) : x = y := Int32.toInt_inj.mp h
theorem own_eqZ {x y : Int64} (h : x.toInt = y.toInt) : x = y := Int64.toInt_inj.mp h
theorem own_lrem (x y : Int64) (d : Int) (hy : y.toInt = d) : (0 ≤ x.toInt → (x % y).toInt = x.toInt % d) ∧ (x.toInt < 0 → (x % y).toInt = -((-x.toInt) % d)) := by rw [Int64.toInt_mod, hy]; exact tr _ _
theorem own_nz {y : Int32} (h : 0 < y.toInt) : y ≠ 0 := fun q => by rw [q] at h; exact absurd h (by decide)
theorem own_nneg {x : Int32} (h : 0 ≤ x.toInt) : ¬ x < 0 := fun q => by
  have q' := Int32.lt_iff_toInt_lt.mp q
  have z0 : (0 : Int32).toInt = 0 := rfl
  omega
theorem own_cl {x : Int32} (h : 0 ≤ x.toInt) : (x.toNatClampNeg : Int) = x.toInt := by
  have e : x.toNatClampNeg = x.toInt.toNat := rfl
  omega
theorem own_ix {x : Int32} (h : 0 ≤ x.toInt) : Ix x x.toInt.toNat := ⟨own_nneg h, rfl⟩
theorem stO {i : Nat} {o : Slot} (ho : One o) (hold : Ls[i]? = some o) (hv : v.category = 1) (he : Ls.setIfInBounds i (.val v) = l') : storeLocals Ls i v = some l' := he ▸ XS.store1 hold ho hv
theorem Sle (S : St n0 p l e R s m args below meth c k n h T) : n0 ≤ h.size := by obtain ⟨_, _, _, _, z⟩ := S; exact z
theorem more {k' n' : Nat} (S : St n0 p l e R s m args below meth c k n h T) (hk : k ≤ k') (hn : n ≤ n') : St n0 p l e R s m args below meth c k' n' h T := by
  obtain ⟨locs, S, r⟩ := S; exact ⟨locs, S.more hk hn, r⟩
theorem pu {r : Option Value} (g : ∀ T, St n0 p l e R s m args below meth c k n h T → Wp n0 p e R s below Q T (mkF m q Ls (r.toList ++ rest))) : ∀ T v h', Pu r h v h' → St n0 p l e R s m args below meth c k n h' T → Wp n0 p e R s below Q T (mkF m q Ls (v.toList ++ rest)) := by
  intro T v h' hq S; obtain ⟨rfl, rfl⟩ := hq; exact g T S
theorem ef {r : Option Value} {P : Heap → Prop} (g : ∀ T h', P h' → St n0 p l e R s m args below meth c k n h' T → Wp n0 p e R s below Q T (mkF m q Ls (r.toList ++ rest))) : ∀ T v h', Ef r P v h' → St n0 p l e R s m args below meth c k n h' T → Wp n0 p e R s below Q T (mkF m q Ls (v.toList ++ rest)) := by
  intro T v h' hq S; obtain ⟨rfl, hp⟩ := hq; exact g T h' hp S
theorem pr {P : Int32 → Prop} (g : ∀ T r, P r → St n0 p l e R s m args below meth c k n h T → Wp n0 p e R s below Q T (mkF m q Ls (.int r :: rest))) : ∀ T v h', Pr P h v h' → St n0 p l e R s m args below meth c k n h' T → Wp n0 p e R s below Q T (mkF m q Ls (v.toList ++ rest)) := by
  intro T v h' hq S; obtain ⟨r, rfl, hp, rfl⟩ := hq; exact g T r hp S
theorem prL {P : Int64 → Prop} (g : ∀ T r, P r → St n0 p l e R s m args below meth c k n h T → Wp n0 p e R s below Q T (mkF m q Ls (.long r :: rest))) : ∀ T v h', PrL P h v h' → St n0 p l e R s m args below meth c k n h' T → Wp n0 p e R s below Q T (mkF m q Ls (v.toList ++ rest)) := by
  intro T v h' hq S; obtain ⟨r, rfl, hp, rfl⟩ := hq; exact g T r hp S
theorem er {P : Int32 → Heap → Prop} (g : ∀ T r h', P r h' → St n0 p l e R s m args below meth c k n h' T → Wp n0 p e R s below Q T (mkF m q Ls (.int r :: rest))) : ∀ T v h', Er P v h' → St n0 p l e R s m args below meth c k n h' T → Wp n0 p e R s below Q T (mkF m q Ls (v.toList ++ rest)) := by
  intro T v h' hq S; obtain ⟨r, rfl, hp⟩ := hq; exact g T r h' hp S
theorem ea {P : Addr → Heap → Prop} (g : ∀ T r h', P r h' → St n0 p l e R s m args below meth c k n h' T → Wp n0 p e R s below Q T (mkF m q Ls (.ref r :: rest))) : ∀ T v h', Ea P v h' → St n0 p l e R s m args below meth c k n h' T → Wp n0 p e R s below Q T (mkF m q Ls (v.toList ++ rest)) := by
  intro T v h' hq S; obtain ⟨r, rfl, hp⟩ := hq; exact g T r h' hp S
theorem enter {y : MethodName} {bytes : ByteArray} {rm : Room} {ws : List Jvm.Cond} {as' : Array Value} (hpn : plainFor y = true) (ef : ∀ m, entryFrame m as' mL = mkF m 0 Ls []) (hn : n0 ≤ h.size)
    (body : ∀ p e s m below meth c T, Cx y.cls bytes mL ret y.name n0 Z p l e rm s m as' below meth c → St n0 p l e rm s m as' below meth c 0 0 h T → Wp n0 p e rm s below Q T (mkF m 0 Ls [])) : Met n0 l Z y bytes mL ret rm ws as' h Q := by
  refine MetFree.of_bodySF hpn hisR ?_
  intro p e s m args below meth c s₁ Bd hml0 hP hK
  obtain ⟨rfl, hZ, hh⟩ := hP
  have e0 : s₁.heap = h := by rw [← hh, Bd.state]; rfl
  have w := body p e s m below meth c s₁ ⟨Bd.exec, Bd.bytes, hml0, Bd.returns, Bd.notSynchronized, findClass_of_methodNamed Bd.named, hZ, (name_of_methodNamed Bd.named Bd.method).1⟩ ⟨[], Stand.of_body Bd, e0, Fr.nil n0, hn⟩
  obtain ⟨s₂, o, h1, r⟩ := w
  exact ⟨s₂, o, castTop (ef m) h1, r⟩
theorem iadd (K : Cx own code mL ret mn n0 Z p l e R s m args below meth c) (S : St n0 p l e R s m args below meth c k n h T) (hd : Dc code pc (.iadd) 1 q) (g : Wp n0 p e R s below Q T (mkF m q Ls (.int (x + y) :: st))) : Wp n0 p e R s below Q T (mkF m pc Ls (.int y :: .int x :: st)) := by
  obtain ⟨hx, hby, -⟩ := K; obtain ⟨locs, S, -, -⟩ := S; obtain ⟨hd, rfl⟩ := hd
  exact wp_mono (fun t hr => XS.iadd S.here hx rfl (hb hby hd) rfl hr) g
theorem isub (K : Cx own code mL ret mn n0 Z p l e R s m args below meth c) (S : St n0 p l e R s m args below meth c k n h T) (hd : Dc code pc (.isub) 1 q) (g : Wp n0 p e R s below Q T (mkF m q Ls (.int (x - y) :: st))) : Wp n0 p e R s below Q T (mkF m pc Ls (.int y :: .int x :: st)) := by
  obtain ⟨hx, hby, -⟩ := K; obtain ⟨locs, S, -, -⟩ := S; obtain ⟨hd, rfl⟩ := hd
  exact wp_mono (fun t hr => XS.isub S.here hx rfl (hb hby hd) rfl hr) g
theorem imul (K : Cx own code mL ret mn n0 Z p l e R s m args below meth c) (S : St n0 p l e R s m args below meth c k n h T) (hd : Dc code pc (.imul) 1 q) (g : Wp n0 p e R s below Q T (mkF m q Ls (.int (x * y) :: st))) : Wp n0 p e R s below Q T (mkF m pc Ls (.int y :: .int x :: st)) := by
  obtain ⟨hx, hby, -⟩ := K; obtain ⟨locs, S, -, -⟩ := S; obtain ⟨hd, rfl⟩ := hd
  exact wp_mono (fun t hr => XS.imul S.here hx rfl (hb hby hd) rfl hr) g
theorem iand (K : Cx own code mL ret mn n0 Z p l e R s m args below meth c) (S : St n0 p l e R s m args below meth c k n h T) (hd : Dc code pc (.iand) 1 q) (g : Wp n0 p e R s below Q T (mkF m q Ls (.int (x &&& y) :: st))) : Wp n0 p e R s below Q T (mkF m pc Ls (.int y :: .int x :: st)) := by
  obtain ⟨hx, hby, -⟩ := K; obtain ⟨locs, S, -, -⟩ := S; obtain ⟨hd, rfl⟩ := hd
  exact wp_mono (fun t hr => XS.iand S.here hx rfl (hb hby hd) rfl hr) g
theorem ior (K : Cx own code mL ret mn n0 Z p l e R s m args below meth c) (S : St n0 p l e R s m args below meth c k n h T) (hd : Dc code pc (.ior) 1 q) (g : Wp n0 p e R s below Q T (mkF m q Ls (.int (x ||| y) :: st))) : Wp n0 p e R s below Q T (mkF m pc Ls (.int y :: .int x :: st)) := by
  obtain ⟨hx, hby, -⟩ := K; obtain ⟨locs, S, -, -⟩ := S; obtain ⟨hd, rfl⟩ := hd
  exact wp_mono (fun t hr => XT.ior S.here hx rfl (hb hby hd) rfl hr) g
theorem ixor (K : Cx own code mL ret mn n0 Z p l e R s m args below meth c) (S : St n0 p l e R s m args below meth c k n h T) (hd : Dc code pc (.ixor) 1 q) (g : Wp n0 p e R s below Q T (mkF m q Ls (.int (x ^^^ y) :: st))) : Wp n0 p e R s below Q T (mkF m pc Ls (.int y :: .int x :: st)) := by
  obtain ⟨hx, hby, -⟩ := K; obtain ⟨locs, S, -, -⟩ := S; obtain ⟨hd, rfl⟩ := hd
  exact wp_mono (fun t hr => XT.ixor S.here hx rfl (hb hby hd) rfl hr) g
theorem ishl (K : Cx own code mL ret mn n0 Z p l e R s m args below meth c) (S : St n0 p l e R s m args below meth c k n h T) (hd : Dc code pc (.ishl) 1 q) (g : Wp n0 p e R s below Q T (mkF m q Ls (.int (x <<< (y &&& 31)) :: st))) : Wp n0 p e R s below Q T (mkF m pc Ls (.int y :: .int x :: st)) := by
  obtain ⟨hx, hby, -⟩ := K; obtain ⟨locs, S, -, -⟩ := S; obtain ⟨hd, rfl⟩ := hd
  exact wp_mono (fun t hr => XT.ishl S.here hx rfl (hb hby hd) rfl hr) g
theorem ishr (K : Cx own code mL ret mn n0 Z p l e R s m args below meth c) (S : St n0 p l e R s m args below meth c k n h T) (hd : Dc code pc (.ishr) 1 q) (g : Wp n0 p e R s below Q T (mkF m q Ls (.int (x >>> (y &&& 31)) :: st))) : Wp n0 p e R s below Q T (mkF m pc Ls (.int y :: .int x :: st)) := by
  obtain ⟨hx, hby, -⟩ := K; obtain ⟨locs, S, -, -⟩ := S; obtain ⟨hd, rfl⟩ := hd
  exact wp_mono (fun t hr => XT.ishr S.here hx rfl (hb hby hd) rfl hr) g
theorem iushr (K : Cx own code mL ret mn n0 Z p l e R s m args below meth c) (S : St n0 p l e R s m args below meth c k n h T) (hd : Dc code pc (.iushr) 1 q) (g : Wp n0 p e R s below Q T (mkF m q Ls (.int (XT.ushr x y) :: st))) : Wp n0 p e R s below Q T (mkF m pc Ls (.int y :: .int x :: st)) := by
  obtain ⟨hx, hby, -⟩ := K; obtain ⟨locs, S, -, -⟩ := S; obtain ⟨hd, rfl⟩ := hd
  exact wp_mono (fun t hr => XT.iushr S.here hx rfl (hb hby hd) rfl hr) g
theorem idiv (K : Cx own code mL ret mn n0 Z p l e R s m args below meth c) (S : St n0 p l e R s m args below meth c k n h T) (hy : y ≠ 0) (hd : Dc code pc (.idiv) 1 q) (g : Wp n0 p e R s below Q T (mkF m q Ls (.int (x / y) :: st))) : Wp n0 p e R s below Q T (mkF m pc Ls (.int y :: .int x :: st)) := by
  obtain ⟨hx, hby, -⟩ := K; obtain ⟨locs, S, -, -⟩ := S; obtain ⟨hd, rfl⟩ := hd
  exact wp_mono (fun t hr => XS.idiv S.here hx rfl (hb hby hd) rfl hy hr) g
theorem irem (K : Cx own code mL ret mn n0 Z p l e R s m args below meth c) (S : St n0 p l e R s m args below meth c k n h T) (hy : y ≠ 0) (hd : Dc code pc (.irem) 1 q) (g : Wp n0 p e R s below Q T (mkF m q Ls (.int (x % y) :: st))) : Wp n0 p e R s below Q T (mkF m pc Ls (.int y :: .int x :: st)) := by
  obtain ⟨hx, hby, -⟩ := K; obtain ⟨locs, S, -, -⟩ := S; obtain ⟨hd, rfl⟩ := hd
  exact wp_mono (fun t hr => iremM S hx rfl (hb hby hd) rfl hy hr) g
theorem ladd (K : Cx own code mL ret mn n0 Z p l e R s m args below meth c) (S : St n0 p l e R s m args below meth c k n h T) (hd : Dc code pc (.ladd) 1 q) (g : Wp n0 p e R s below Q T (mkF m q Ls (.long (X + Y) :: st))) : Wp n0 p e R s below Q T (mkF m pc Ls (.long Y :: .long X :: st)) := by
  obtain ⟨hx, hby, -⟩ := K; obtain ⟨locs, S, -, -⟩ := S; obtain ⟨hd, rfl⟩ := hd
  exact wp_mono (fun t hr => XT.ladd S.here hx rfl (hb hby hd) rfl hr) g
theorem lsub (K : Cx own code mL ret mn n0 Z p l e R s m args below meth c) (S : St n0 p l e R s m args below meth c k n h T) (hd : Dc code pc (.lsub) 1 q) (g : Wp n0 p e R s below Q T (mkF m q Ls (.long (X - Y) :: st))) : Wp n0 p e R s below Q T (mkF m pc Ls (.long Y :: .long X :: st)) := by
  obtain ⟨hx, hby, -⟩ := K; obtain ⟨locs, S, -, -⟩ := S; obtain ⟨hd, rfl⟩ := hd
  exact wp_mono (fun t hr => XT.lsub S.here hx rfl (hb hby hd) rfl hr) g
theorem lmul (K : Cx own code mL ret mn n0 Z p l e R s m args below meth c) (S : St n0 p l e R s m args below meth c k n h T) (hd : Dc code pc (.lmul) 1 q) (g : Wp n0 p e R s below Q T (mkF m q Ls (.long (X * Y) :: st))) : Wp n0 p e R s below Q T (mkF m pc Ls (.long Y :: .long X :: st)) := by
  obtain ⟨hx, hby, -⟩ := K; obtain ⟨locs, S, -, -⟩ := S; obtain ⟨hd, rfl⟩ := hd
  exact wp_mono (fun t hr => XT.lmul S.here hx rfl (hb hby hd) rfl hr) g
theorem land (K : Cx own code mL ret mn n0 Z p l e R s m args below meth c) (S : St n0 p l e R s m args below meth c k n h T) (hd : Dc code pc (.land) 1 q) (g : Wp n0 p e R s below Q T (mkF m q Ls (.long (X &&& Y) :: st))) : Wp n0 p e R s below Q T (mkF m pc Ls (.long Y :: .long X :: st)) := by
  obtain ⟨hx, hby, -⟩ := K; obtain ⟨locs, S, -, -⟩ := S; obtain ⟨hd, rfl⟩ := hd
  exact wp_mono (fun t hr => XT.land S.here hx rfl (hb hby hd) rfl hr) g
theorem ldiv (K : Cx own code mL ret mn n0 Z p l e R s m args below meth c) (S : St n0 p l e R s m args below meth c k n h T) (hy : Y ≠ 0) (hd : Dc code pc (.ldiv) 1 q) (g : Wp n0 p e R s below Q T (mkF m q Ls (.long (X / Y) :: st))) : Wp n0 p e R s below Q T (mkF m pc Ls (.long Y :: .long X :: st)) := by
  obtain ⟨hx, hby, -⟩ := K; obtain ⟨locs, S, -, -⟩ := S; obtain ⟨hd, rfl⟩ := hd
  exact wp_mono (fun t hr => XT.ldiv S.here hx rfl (hb hby hd) rfl hy hr) g
theorem lrem (K : Cx own code mL ret mn n0 Z p l e R s m args below meth c) (S : St n0 p l e R s m args below meth c k n h T) (hy : Y ≠ 0) (hd : Dc code pc (.lrem) 1 q) (g : Wp n0 p e R s below Q T (mkF m q Ls (.long (X % Y) :: st))) : Wp n0 p e R s below Q T (mkF m pc Ls (.long Y :: .long X :: st)) := by
  obtain ⟨hx, hby, -⟩ := K; obtain ⟨locs, S, -, -⟩ := S; obtain ⟨hd, rfl⟩ := hd
  exact wp_mono (fun t hr => XT.lrem S.here hx rfl (hb hby hd) rfl hy (by rw [lrem_mod]; exact hr)) g
theorem lushr (K : Cx own code mL ret mn n0 Z p l e R s m args below meth c) (S : St n0 p l e R s m args below meth c k n h T) (hd : Dc code pc (.lushr) 1 q) (g : Wp n0 p e R s below Q T (mkF m q Ls (.long (XT.ushrL X y) :: st))) : Wp n0 p e R s below Q T (mkF m pc Ls (.int y :: .long X :: st)) := by
  obtain ⟨hx, hby, -⟩ := K; obtain ⟨locs, S, -, -⟩ := S; obtain ⟨hd, rfl⟩ := hd
  exact wp_mono (fun t hr => XT.lushr S.here hx rfl (hb hby hd) rfl hr) g
theorem i2l (K : Cx own code mL ret mn n0 Z p l e R s m args below meth c) (S : St n0 p l e R s m args below meth c k n h T) (hd : Dc code pc (.i2l) 1 q) (g : Wp n0 p e R s below Q T (mkF m q Ls (.long x.toInt64 :: st))) : Wp n0 p e R s below Q T (mkF m pc Ls (.int x :: st)) := by
  obtain ⟨hx, hby, -⟩ := K; obtain ⟨locs, S, -, -⟩ := S; obtain ⟨hd, rfl⟩ := hd
  exact wp_mono (fun t hr => XT.i2l S.here hx rfl (hb hby hd) rfl hr) g
theorem l2i (K : Cx own code mL ret mn n0 Z p l e R s m args below meth c) (S : St n0 p l e R s m args below meth c k n h T) (hd : Dc code pc (.l2i) 1 q) (g : Wp n0 p e R s below Q T (mkF m q Ls (.int X.toInt32 :: st))) : Wp n0 p e R s below Q T (mkF m pc Ls (.long X :: st)) := by
  obtain ⟨hx, hby, -⟩ := K; obtain ⟨locs, S, -, -⟩ := S; obtain ⟨hd, rfl⟩ := hd
  exact wp_mono (fun t hr => XT.l2i S.here hx rfl (hb hby hd) rfl hr) g
theorem i2b (K : Cx own code mL ret mn n0 Z p l e R s m args below meth c) (S : St n0 p l e R s m args below meth c k n h T) (hd : Dc code pc (.i2b) 1 q) (g : Wp n0 p e R s below Q T (mkF m q Ls (.int x.toInt8.toInt32 :: st))) : Wp n0 p e R s below Q T (mkF m pc Ls (.int x :: st)) := by
  obtain ⟨hx, hby, -⟩ := K; obtain ⟨locs, S, -, -⟩ := S; obtain ⟨hd, rfl⟩ := hd
  exact wp_mono (fun t hr => XT.i2b S.here hx rfl (hb hby hd) rfl hr) g
theorem i2s (K : Cx own code mL ret mn n0 Z p l e R s m args below meth c) (S : St n0 p l e R s m args below meth c k n h T) (hd : Dc code pc (.i2s) 1 q) (g : Wp n0 p e R s below Q T (mkF m q Ls (.int x.toInt16.toInt32 :: st))) : Wp n0 p e R s below Q T (mkF m pc Ls (.int x :: st)) := by
  obtain ⟨hx, hby, -⟩ := K; obtain ⟨locs, S, -, -⟩ := S; obtain ⟨hd, rfl⟩ := hd
  exact wp_mono (fun t hr => XT.i2s S.here hx rfl (hb hby hd) rfl hr) g
theorem i2c (K : Cx own code mL ret mn n0 Z p l e R s m args below meth c) (S : St n0 p l e R s m args below meth c k n h T) (hd : Dc code pc (.i2c) 1 q) (g : Wp n0 p e R s below Q T (mkF m q Ls (.int x.toUInt32.toUInt16.toUInt32.toInt32 :: st))) : Wp n0 p e R s below Q T (mkF m pc Ls (.int x :: st)) := by
  obtain ⟨hx, hby, -⟩ := K; obtain ⟨locs, S, -, -⟩ := S; obtain ⟨hd, rfl⟩ := hd
  exact wp_mono (fun t hr => XT.i2c S.here hx rfl (hb hby hd) rfl hr) g
theorem iconst (K : Cx own code mL ret mn n0 Z p l e R s m args below meth c) (S : St n0 p l e R s m args below meth c k n h T) {i : Int} (hv : Int32.ofInt i = x) (hd : Dc code pc (.iconst i) 1 q) (g : Wp n0 p e R s below Q T (mkF m q Ls (.int x :: st))) : Wp n0 p e R s below Q T (mkF m pc Ls st) := by
  obtain ⟨hx, hby, -⟩ := K; obtain ⟨locs, S, -, -⟩ := S; obtain ⟨hd, rfl⟩ := hd
  exact wp_mono (fun t hr => XS.iconst S.here hx rfl (hb hby hd) (by rw [hv]; exact hr)) g
theorem bipush (K : Cx own code mL ret mn n0 Z p l e R s m args below meth c) (S : St n0 p l e R s m args below meth c k n h T) {i : Int} (hv : (Int8.ofInt i).toInt32 = x) (hd : Dc code pc (.bipush i) 2 q) (g : Wp n0 p e R s below Q T (mkF m q Ls (.int x :: st))) : Wp n0 p e R s below Q T (mkF m pc Ls st) := by
  obtain ⟨hx, hby, -⟩ := K; obtain ⟨locs, S, -, -⟩ := S; obtain ⟨hd, rfl⟩ := hd
  exact wp_mono (fun t hr => XS.bipush S.here hx rfl (hb hby hd) (by rw [hv]; exact hr)) g
theorem sipush (K : Cx own code mL ret mn n0 Z p l e R s m args below meth c) (S : St n0 p l e R s m args below meth c k n h T) {i : Int} (hv : (Int16.ofInt i).toInt32 = x) (hd : Dc code pc (.sipush i) 3 q) (g : Wp n0 p e R s below Q T (mkF m q Ls (.int x :: st))) : Wp n0 p e R s below Q T (mkF m pc Ls st) := by
  obtain ⟨hx, hby, -⟩ := K; obtain ⟨locs, S, -, -⟩ := S; obtain ⟨hd, rfl⟩ := hd
  exact wp_mono (fun t hr => XS.sipush S.here hx rfl (hb hby hd) (by rw [hv]; exact hr)) g
theorem lconst (K : Cx own code mL ret mn n0 Z p l e R s m args below meth c) (S : St n0 p l e R s m args below meth c k n h T) {i : Fin 2} (hv : Int64.ofNat i = X) (hd : Dc code pc (.lconst i) 1 q) (g : Wp n0 p e R s below Q T (mkF m q Ls (.long X :: st))) : Wp n0 p e R s below Q T (mkF m pc Ls st) := by
  obtain ⟨hx, hby, -⟩ := K; obtain ⟨locs, S, -, -⟩ := S; obtain ⟨hd, rfl⟩ := hd
  exact wp_mono (fun t hr => XT.lconst S.here hx rfl (hb hby hd) (by rw [hv]; exact hr)) g
theorem anull (K : Cx own code mL ret mn n0 Z p l e R s m args below meth c) (S : St n0 p l e R s m args below meth c k n h T) (hd : Dc code pc (.aconst_null) 1 q) (g : Wp n0 p e R s below Q T (mkF m q Ls (.null :: st))) : Wp n0 p e R s below Q T (mkF m pc Ls st) := by
  obtain ⟨hx, hby, -⟩ := K; obtain ⟨locs, S, -, -⟩ := S; obtain ⟨hd, rfl⟩ := hd
  exact wp_mono (fun t hr => XS.aconstNull S.here hx rfl (hb hby hd) hr) g
theorem dup (K : Cx own code mL ret mn n0 Z p l e R s m args below meth c) (S : St n0 p l e R s m args below meth c k n h T) (hc : v.category = 1) (hd : Dc code pc (.dup) 1 q) (g : Wp n0 p e R s below Q T (mkF m q Ls (v :: v :: st))) : Wp n0 p e R s below Q T (mkF m pc Ls (v :: st)) := by
  obtain ⟨hx, hby, -⟩ := K; obtain ⟨locs, S, -, -⟩ := S; obtain ⟨hd, rfl⟩ := hd
  exact wp_mono (fun t hr => XS.dup S.here hx rfl (hb hby hd) rfl hc hr) g
theorem pop (K : Cx own code mL ret mn n0 Z p l e R s m args below meth c) (S : St n0 p l e R s m args below meth c k n h T) (hc : v.category = 1) (hd : Dc code pc (.pop) 1 q) (g : Wp n0 p e R s below Q T (mkF m q Ls st)) : Wp n0 p e R s below Q T (mkF m pc Ls (v :: st)) := by
  obtain ⟨hx, hby, -⟩ := K; obtain ⟨locs, S, -, -⟩ := S; obtain ⟨hd, rfl⟩ := hd
  exact wp_mono (fun t hr => XT.pop S.here hx rfl (hb hby hd) rfl hc hr) g
theorem dup_x1 (K : Cx own code mL ret mn n0 Z p l e R s m args below meth c) (S : St n0 p l e R s m args below meth c k n h T) (hc : v.category = 1) (hc' : w.category = 1) (hd : Dc code pc (.dup_x1) 1 q) (g : Wp n0 p e R s below Q T (mkF m q Ls (v :: w :: v :: st))) : Wp n0 p e R s below Q T (mkF m pc Ls (v :: w :: st)) := by
  obtain ⟨hx, hby, -⟩ := K; obtain ⟨locs, S, -, -⟩ := S; obtain ⟨hd, rfl⟩ := hd
  exact wp_mono (fun t hr => XT.dupX1 S.here hx rfl (hb hby hd) rfl hc hc' hr) g
theorem dup2 (K : Cx own code mL ret mn n0 Z p l e R s m args below meth c) (S : St n0 p l e R s m args below meth c k n h T) (hc : v.category = 1) (hc' : w.category = 1) (hd : Dc code pc (.dup2) 1 q) (g : Wp n0 p e R s below Q T (mkF m q Ls (v :: w :: v :: w :: st))) : Wp n0 p e R s below Q T (mkF m pc Ls (v :: w :: st)) := by
  obtain ⟨hx, hby, -⟩ := K; obtain ⟨locs, S, -, -⟩ := S; obtain ⟨hd, rfl⟩ := hd
  exact wp_mono (fun t hr => XT.dup2 S.here hx rfl (hb hby hd) rfl hc hc' hr) g
theorem iload (K : Cx own code mL ret mn n0 Z p l e R s m args below meth c) (S : St n0 p l e R s m args below meth c k n h T) {i : Nat} (hl : Ls[i]? = some (.val (.int x))) (hd : Dc code pc (.iload i) 2 q) (g : Wp n0 p e R s below Q T (mkF m q Ls (.int x :: st))) : Wp n0 p e R s below Q T (mkF m pc Ls st) := by
  obtain ⟨hx, hby, -⟩ := K; obtain ⟨locs, S, -, -⟩ := S; obtain ⟨hd, rfl⟩ := hd
  exact wp_mono (fun t hr => XS.iload S.here hx rfl (hb hby hd) hl hr) g
theorem iload_n (K : Cx own code mL ret mn n0 Z p l e R s m args below meth c) (S : St n0 p l e R s m args below meth c k n h T) {i : Fin 4} (hl : Ls[i.val]? = some (.val (.int x))) (hd : Dc code pc (.iload_n i) 1 q) (g : Wp n0 p e R s below Q T (mkF m q Ls (.int x :: st))) : Wp n0 p e R s below Q T (mkF m pc Ls st) := by
  obtain ⟨hx, hby, -⟩ := K; obtain ⟨locs, S, -, -⟩ := S; obtain ⟨hd, rfl⟩ := hd
  exact wp_mono (fun t hr => XS.iloadN S.here hx rfl (hb hby hd) hl hr) g
theorem aload (K : Cx own code mL ret mn n0 Z p l e R s m args below meth c) (S : St n0 p l e R s m args below meth c k n h T) {i : Nat} (hl : Ls[i]? = some (.val (v))) (hv : v.isRef = true) (hd : Dc code pc (.aload i) 2 q) (g : Wp n0 p e R s below Q T (mkF m q Ls (v :: st))) : Wp n0 p e R s below Q T (mkF m pc Ls st) := by
  obtain ⟨hx, hby, -⟩ := K; obtain ⟨locs, S, -, -⟩ := S; obtain ⟨hd, rfl⟩ := hd
  exact wp_mono (fun t hr => XS.aload S.here hx rfl (hb hby hd) hl hv hr) g
theorem aload_n (K : Cx own code mL ret mn n0 Z p l e R s m args below meth c) (S : St n0 p l e R s m args below meth c k n h T) {i : Fin 4} (hl : Ls[i.val]? = some (.val (v))) (hv : v.isRef = true) (hd : Dc code pc (.aload_n i) 1 q) (g : Wp n0 p e R s below Q T (mkF m q Ls (v :: st))) : Wp n0 p e R s below Q T (mkF m pc Ls st) := by
  obtain ⟨hx, hby, -⟩ := K; obtain ⟨locs, S, -, -⟩ := S; obtain ⟨hd, rfl⟩ := hd
  exact wp_mono (fun t hr => XS.aloadN S.here hx rfl (hb hby hd) hl hv hr) g
theorem lload (K : Cx own code mL ret mn n0 Z p l e R s m args below meth c) (S : St n0 p l e R s m args below meth c k n h T) {i : Nat} (hl : Ls[i]? = some (.val (.long X))) (hd : Dc code pc (.lload i) 2 q) (g : Wp n0 p e R s below Q T (mkF m q Ls (.long X :: st))) : Wp n0 p e R s below Q T (mkF m pc Ls st) := by
  obtain ⟨hx, hby, -⟩ := K; obtain ⟨locs, S, -, -⟩ := S; obtain ⟨hd, rfl⟩ := hd
  exact wp_mono (fun t hr => XT.lload S.here hx rfl (hb hby hd) hl hr) g
theorem lload_n (K : Cx own code mL ret mn n0 Z p l e R s m args below meth c) (S : St n0 p l e R s m args below meth c k n h T) {i : Fin 4} (hl : Ls[i.val]? = some (.val (.long X))) (hd : Dc code pc (.lload_n i) 1 q) (g : Wp n0 p e R s below Q T (mkF m q Ls (.long X :: st))) : Wp n0 p e R s below Q T (mkF m pc Ls st) := by
  obtain ⟨hx, hby, -⟩ := K; obtain ⟨locs, S, -, -⟩ := S; obtain ⟨hd, rfl⟩ := hd
  exact wp_mono (fun t hr => XT.lloadN S.here hx rfl (hb hby hd) hl hr) g
theorem istore (K : Cx own code mL ret mn n0 Z p l e R s m args below meth c) (S : St n0 p l e R s m args below meth c k n h T) {i : Nat} (hl : storeLocals Ls i (.int x) = some l') (hd : Dc code pc (.istore i) 2 q) (g : Wp n0 p e R s below Q T (mkF m q l' st)) : Wp n0 p e R s below Q T (mkF m pc Ls (.int x :: st)) := by
  obtain ⟨hx, hby, -⟩ := K; obtain ⟨locs, S, -, -⟩ := S; obtain ⟨hd, rfl⟩ := hd
  exact wp_mono (fun t hr => XS.istore S.here hx rfl (hb hby hd) rfl hl hr) g
theorem istore_n (K : Cx own code mL ret mn n0 Z p l e R s m args below meth c) (S : St n0 p l e R s m args below meth c k n h T) {i : Fin 4} (hl : storeLocals Ls i.val (.int x) = some l') (hd : Dc code pc (.istore_n i) 1 q) (g : Wp n0 p e R s below Q T (mkF m q l' st)) : Wp n0 p e R s below Q T (mkF m pc Ls (.int x :: st)) := by
  obtain ⟨hx, hby, -⟩ := K; obtain ⟨locs, S, -, -⟩ := S; obtain ⟨hd, rfl⟩ := hd
  exact wp_mono (fun t hr => XS.istoreN S.here hx rfl (hb hby hd) rfl hl hr) g
theorem astore (K : Cx own code mL ret mn n0 Z p l e R s m args below meth c) (S : St n0 p l e R s m args below meth c k n h T) {i : Nat} (hv : v.isRef = true) (hl : storeLocals Ls i (v) = some l') (hd : Dc code pc (.astore i) 2 q) (g : Wp n0 p e R s below Q T (mkF m q l' st)) : Wp n0 p e R s below Q T (mkF m pc Ls (v :: st)) := by
  obtain ⟨hx, hby, -⟩ := K; obtain ⟨locs, S, -, -⟩ := S; obtain ⟨hd, rfl⟩ := hd
  exact wp_mono (fun t hr => XS.astore S.here hx rfl (hb hby hd) rfl hv hl hr) g
theorem astore_n (K : Cx own code mL ret mn n0 Z p l e R s m args below meth c) (S : St n0 p l e R s m args below meth c k n h T) {i : Fin 4} (hv : v.isRef = true) (hl : storeLocals Ls i.val (v) = some l') (hd : Dc code pc (.astore_n i) 1 q) (g : Wp n0 p e R s below Q T (mkF m q l' st)) : Wp n0 p e R s below Q T (mkF m pc Ls (v :: st)) := by
  obtain ⟨hx, hby, -⟩ := K; obtain ⟨locs, S, -, -⟩ := S; obtain ⟨hd, rfl⟩ := hd
  exact wp_mono (fun t hr => XS.astoreN S.here hx rfl (hb hby hd) rfl hv hl hr) g
theorem lstore (K : Cx own code mL ret mn n0 Z p l e R s m args below meth c) (S : St n0 p l e R s m args below meth c k n h T) {i : Nat} (hl : storeLocals Ls i (.long X) = some l') (hd : Dc code pc (.lstore i) 2 q) (g : Wp n0 p e R s below Q T (mkF m q l' st)) : Wp n0 p e R s below Q T (mkF m pc Ls (.long X :: st)) := by
  obtain ⟨hx, hby, -⟩ := K; obtain ⟨locs, S, -, -⟩ := S; obtain ⟨hd, rfl⟩ := hd
  exact wp_mono (fun t hr => XT.lstore S.here hx rfl (hb hby hd) rfl hl hr) g
theorem lstore_n (K : Cx own code mL ret mn n0 Z p l e R s m args below meth c) (S : St n0 p l e R s m args below meth c k n h T) {i : Fin 4} (hl : storeLocals Ls i.val (.long X) = some l') (hd : Dc code pc (.lstore_n i) 1 q) (g : Wp n0 p e R s below Q T (mkF m q l' st)) : Wp n0 p e R s below Q T (mkF m pc Ls (.long X :: st)) := by
  obtain ⟨hx, hby, -⟩ := K; obtain ⟨locs, S, -, -⟩ := S; obtain ⟨hd, rfl⟩ := hd
  exact wp_mono (fun t hr => XT.lstoreN S.here hx rfl (hb hby hd) rfl hl hr) g
theorem iinc (K : Cx own code mL ret mn n0 Z p l e R s m args below meth c) (S : St n0 p l e R s m args below meth c k n h T) {i : Nat} {cst : Int} (hv : Int32.ofInt cst = y) (hl : Ls[i]? = some (.val (.int x))) (hl' : storeLocals Ls i (.int (x + y)) = some l') (hd : Dc code pc (.iinc i cst) 3 q) (g : Wp n0 p e R s below Q T (mkF m q l' st)) : Wp n0 p e R s below Q T (mkF m pc Ls st) := by
  obtain ⟨hx, hby, -⟩ := K; obtain ⟨locs, S, -, -⟩ := S; obtain ⟨hd, rfl⟩ := hd
  exact wp_mono (fun t hr => XS.iinc S.here hx rfl (hb hby hd) hl (by rw [hv]; exact hl') hr) g
theorem goto (K : Cx own code mL ret mn n0 Z p l e R s m args below meth c) (S : St n0 p l e R s m args below meth c k n h T) {o : Int} (hd : Bc code pc (.goto o) o q q') (g : Wp n0 p e R s below Q T (mkF m q' Ls st)) : Wp n0 p e R s below Q T (mkF m pc Ls st) := by
  obtain ⟨hx, hby, -⟩ := K; obtain ⟨locs, S, -, -⟩ := S; obtain ⟨hd, -, h1, h2⟩ := hd
  exact wp_mono (fun t hr => XS.goto S.here hx rfl rfl (hb hby hd) h1 h2 hr) g
theorem icmp (K : Cx own code mL ret mn n0 Z p l e R s m args below meth c) (S : St n0 p l e R s m args below meth c k n h T) {o : Int} {cd : ClassFile.Cond} (hd : Bc code pc (.if_icmp cd o) o q q') (g1 : if_icmp.holds cd x y = true → Wp n0 p e R s below Q T (mkF m q' Ls st)) (g2 : if_icmp.holds cd x y = false → Wp n0 p e R s below Q T (mkF m q Ls st)) : Wp n0 p e R s below Q T (mkF m pc Ls (.int y :: .int x :: st)) := by
  obtain ⟨hx, hby, -⟩ := K; obtain ⟨locs, S, -, -⟩ := S; obtain ⟨hd, rfl, h1, h2⟩ := hd
  cases hc : if_icmp.holds cd x y with
  | true => exact wp_mono (fun t hr => XS.icmpYes S.here hx rfl rfl (hb hby hd) rfl hc h1 h2 hr) (g1 hc)
  | false => exact wp_mono (fun t hr => XS.icmpNo S.here hx rfl (hb hby hd) rfl hc hr) (g2 hc)
theorem ific (K : Cx own code mL ret mn n0 Z p l e R s m args below meth c) (S : St n0 p l e R s m args below meth c k n h T) {o : Int} {cd : ClassFile.Cond} (hd : Bc code pc (.ifCond cd o) o q q') (g1 : if_icmp.holds cd x 0 = true → Wp n0 p e R s below Q T (mkF m q' Ls st)) (g2 : if_icmp.holds cd x 0 = false → Wp n0 p e R s below Q T (mkF m q Ls st)) : Wp n0 p e R s below Q T (mkF m pc Ls (.int x :: st)) := by
  obtain ⟨hx, hby, -⟩ := K; obtain ⟨locs, S, -, -⟩ := S; obtain ⟨hd, rfl, h1, h2⟩ := hd
  cases hc : if_icmp.holds cd x 0 with
  | true => exact wp_mono (fun t hr => XS.ifYes S.here hx rfl rfl (hb hby hd) rfl (by rw [if0]; exact hc) h1 h2 hr) (g1 hc)
  | false => exact wp_mono (fun t hr => XS.ifNo S.here hx rfl (hb hby hd) rfl (by rw [if0]; exact hc) hr) (g2 hc)
theorem icmp_lt (K : Cx own code mL ret mn n0 Z p l e R s m args below meth c) (S : St n0 p l e R s m args below meth c k n h T) {o : Int} (hd : Bc code pc (.if_icmp .lt o) o q q') (g1 : x < y → Wp n0 p e R s below Q T (mkF m q' Ls st)) (g2 : ¬ x < y → Wp n0 p e R s below Q T (mkF m q Ls st)) : Wp n0 p e R s below Q T (mkF m pc Ls (.int y :: .int x :: st)) := by
  by_cases hc : x < y
  · exact icmp K S hd (fun _ => g1 hc) (fun q => absurd ((tlt hc).1) (by rw [q]; decide))
  · exact icmp K S hd (fun q => absurd ((flt hc).1) (by rw [q]; decide)) (fun _ => g2 hc)
theorem ific_lt (K : Cx own code mL ret mn n0 Z p l e R s m args below meth c) (S : St n0 p l e R s m args below meth c k n h T) {o : Int} (hd : Bc code pc (.ifCond .lt o) o q q') (g1 : x < 0 → Wp n0 p e R s below Q T (mkF m q' Ls st)) (g2 : ¬ x < 0 → Wp n0 p e R s below Q T (mkF m q Ls st)) : Wp n0 p e R s below Q T (mkF m pc Ls (.int x :: st)) := by
  by_cases hc : x < 0
  · exact ific K S hd (fun _ => g1 hc) (fun q => absurd ((tlt hc).1) (by rw [q]; decide))
  · exact ific K S hd (fun q => absurd ((flt hc).1) (by rw [q]; decide)) (fun _ => g2 hc)
theorem icmp_ge (K : Cx own code mL ret mn n0 Z p l e R s m args below meth c) (S : St n0 p l e R s m args below meth c k n h T) {o : Int} (hd : Bc code pc (.if_icmp .ge o) o q q') (g1 : ¬ x < y → Wp n0 p e R s below Q T (mkF m q' Ls st)) (g2 : x < y → Wp n0 p e R s below Q T (mkF m q Ls st)) : Wp n0 p e R s below Q T (mkF m pc Ls (.int y :: .int x :: st)) := by
  by_cases hc : x < y
  · exact icmp K S hd (fun q => absurd ((tlt hc).2.1) (by rw [q]; decide)) (fun _ => g2 hc)
  · exact icmp K S hd (fun _ => g1 hc) (fun q => absurd ((flt hc).2.1) (by rw [q]; decide))
theorem ific_ge (K : Cx own code mL ret mn n0 Z p l e R s m args below meth c) (S : St n0 p l e R s m args below meth c k n h T) {o : Int} (hd : Bc code pc (.ifCond .ge o) o q q') (g1 : ¬ x < 0 → Wp n0 p e R s below Q T (mkF m q' Ls st)) (g2 : x < 0 → Wp n0 p e R s below Q T (mkF m q Ls st)) : Wp n0 p e R s below Q T (mkF m pc Ls (.int x :: st)) := by
  by_cases hc : x < 0
  · exact ific K S hd (fun q => absurd ((tlt hc).2.1) (by rw [q]; decide)) (fun _ => g2 hc)
  · exact ific K S hd (fun _ => g1 hc) (fun q => absurd ((flt hc).2.1) (by rw [q]; decide))
theorem icmp_gt (K : Cx own code mL ret mn n0 Z p l e R s m args below meth c) (S : St n0 p l e R s m args below meth c k n h T) {o : Int} (hd : Bc code pc (.if_icmp .gt o) o q q') (g1 : y < x → Wp n0 p e R s below Q T (mkF m q' Ls st)) (g2 : ¬ y < x → Wp n0 p e R s below Q T (mkF m q Ls st)) : Wp n0 p e R s below Q T (mkF m pc Ls (.int y :: .int x :: st)) := by
  by_cases hc : y < x
  · exact icmp K S hd (fun _ => g1 hc) (fun q => absurd ((tlt hc).2.2.1) (by rw [q]; decide))
  · exact icmp K S hd (fun q => absurd ((flt hc).2.2.1) (by rw [q]; decide)) (fun _ => g2 hc)
theorem ific_gt (K : Cx own code mL ret mn n0 Z p l e R s m args below meth c) (S : St n0 p l e R s m args below meth c k n h T) {o : Int} (hd : Bc code pc (.ifCond .gt o) o q q') (g1 : 0 < x → Wp n0 p e R s below Q T (mkF m q' Ls st)) (g2 : ¬ 0 < x → Wp n0 p e R s below Q T (mkF m q Ls st)) : Wp n0 p e R s below Q T (mkF m pc Ls (.int x :: st)) := by
  by_cases hc : 0 < x
  · exact ific K S hd (fun _ => g1 hc) (fun q => absurd ((tlt hc).2.2.1) (by rw [q]; decide))
  · exact ific K S hd (fun q => absurd ((flt hc).2.2.1) (by rw [q]; decide)) (fun _ => g2 hc)
theorem icmp_le (K : Cx own code mL ret mn n0 Z p l e R s m args below meth c) (S : St n0 p l e R s m args below meth c k n h T) {o : Int} (hd : Bc code pc (.if_icmp .le o) o q q') (g1 : ¬ y < x → Wp n0 p e R s below Q T (mkF m q' Ls st)) (g2 : y < x → Wp n0 p e R s below Q T (mkF m q Ls st)) : Wp n0 p e R s below Q T (mkF m pc Ls (.int y :: .int x :: st)) := by
  by_cases hc : y < x
  · exact icmp K S hd (fun q => absurd ((tlt hc).2.2.2) (by rw [q]; decide)) (fun _ => g2 hc)
  · exact icmp K S hd (fun _ => g1 hc) (fun q => absurd ((flt hc).2.2.2) (by rw [q]; decide))
theorem ific_le (K : Cx own code mL ret mn n0 Z p l e R s m args below meth c) (S : St n0 p l e R s m args below meth c k n h T) {o : Int} (hd : Bc code pc (.ifCond .le o) o q q') (g1 : ¬ 0 < x → Wp n0 p e R s below Q T (mkF m q' Ls st)) (g2 : 0 < x → Wp n0 p e R s below Q T (mkF m q Ls st)) : Wp n0 p e R s below Q T (mkF m pc Ls (.int x :: st)) := by
  by_cases hc : 0 < x
  · exact ific K S hd (fun q => absurd ((tlt hc).2.2.2) (by rw [q]; decide)) (fun _ => g2 hc)
  · exact ific K S hd (fun _ => g1 hc) (fun q => absurd ((flt hc).2.2.2) (by rw [q]; decide))
theorem icmp_eq (K : Cx own code mL ret mn n0 Z p l e R s m args below meth c) (S : St n0 p l e R s m args below meth c k n h T) {o : Int} (hd : Bc code pc (.if_icmp .eq o) o q q') (g1 : x = y → Wp n0 p e R s below Q T (mkF m q' Ls st)) (g2 : ¬ x = y → Wp n0 p e R s below Q T (mkF m q Ls st)) : Wp n0 p e R s below Q T (mkF m pc Ls (.int y :: .int x :: st)) := by
  by_cases hc : x = y
  · exact icmp K S hd (fun _ => g1 hc) (fun q => absurd ((teq hc).1) (by rw [q]; decide))
  · exact icmp K S hd (fun q => absurd ((feq hc).1) (by rw [q]; decide)) (fun _ => g2 hc)
theorem ific_eq (K : Cx own code mL ret mn n0 Z p l e R s m args below meth c) (S : St n0 p l e R s m args below meth c k n h T) {o : Int} (hd : Bc code pc (.ifCond .eq o) o q q') (g1 : x = 0 → Wp n0 p e R s below Q T (mkF m q' Ls st)) (g2 : ¬ x = 0 → Wp n0 p e R s below Q T (mkF m q Ls st)) : Wp n0 p e R s below Q T (mkF m pc Ls (.int x :: st)) := by
  by_cases hc : x = 0
  · exact ific K S hd (fun _ => g1 hc) (fun q => absurd ((teq hc).1) (by rw [q]; decide))
  · exact ific K S hd (fun q => absurd ((feq hc).1) (by rw [q]; decide)) (fun _ => g2 hc)
theorem icmp_ne (K : Cx own code mL ret mn n0 Z p l e R s m args below meth c) (S : St n0 p l e R s m args below meth c k n h T) {o : Int} (hd : Bc code pc (.if_icmp .ne o) o q q') (g1 : ¬ x = y → Wp n0 p e R s below Q T (mkF m q' Ls st)) (g2 : x = y → Wp n0 p e R s below Q T (mkF m q Ls st)) : Wp n0 p e R s below Q T (mkF m pc Ls (.int y :: .int x :: st)) := by
  by_cases hc : x = y
  · exact icmp K S hd (fun q => absurd ((teq hc).2) (by rw [q]; decide)) (fun _ => g2 hc)
  · exact icmp K S hd (fun _ => g1 hc) (fun q => absurd ((feq hc).2) (by rw [q]; decide))
theorem ific_ne (K : Cx own code mL ret mn n0 Z p l e R s m args below meth c) (S : St n0 p l e R s m args below meth c k n h T) {o : Int} (hd : Bc code pc (.ifCond .ne o) o q q') (g1 : ¬ x = 0 → Wp n0 p e R s below Q T (mkF m q' Ls st)) (g2 : x = 0 → Wp n0 p e R s below Q T (mkF m q Ls st)) : Wp n0 p e R s below Q T (mkF m pc Ls (.int x :: st)) := by
  by_cases hc : x = 0
  · exact ific K S hd (fun q => absurd ((teq hc).2) (by rw [q]; decide)) (fun _ => g2 hc)
  · exact ific K S hd (fun _ => g1 hc) (fun q => absurd ((feq hc).2) (by rw [q]; decide))
theorem lcmp_lt (K : Cx own code mL ret mn n0 Z p l e R s m args below meth c) (S : St n0 p l e R s m args below meth c k n h T) {o : Int} {pc1 : Nat} (hd1 : Dc code pc .lcmp 1 pc1) (hd : Bc code pc1 (.ifCond .lt o) o q q') (g1 : X < Y → Wp n0 p e R s below Q T (mkF m q' Ls st)) (g2 : ¬ X < Y → Wp n0 p e R s below Q T (mkF m q Ls st)) : Wp n0 p e R s below Q T (mkF m pc Ls (.long Y :: .long X :: st)) := by
  obtain ⟨hx, hby, -⟩ := K; obtain ⟨locs, S, -, -⟩ := S; obtain ⟨hd, rfl, h1, h2⟩ := hd; obtain ⟨hd1, rfl⟩ := hd1
  by_cases hc : X < Y
  · exact wp_mono (fun t hr => XT.lcmp S.here hx rfl (hb hby hd1) rfl (XS.ifYes S.here hx rfl rfl (hb hby hd) rfl (XT.ll_lt_t hc) h1 h2 hr)) (g1 hc)
  · exact wp_mono (fun t hr => XT.lcmp S.here hx rfl (hb hby hd1) rfl (XS.ifNo S.here hx rfl (hb hby hd) rfl (XT.ll_lt_f hc) hr)) (g2 hc)
theorem lcmp_ge (K : Cx own code mL ret mn n0 Z p l e R s m args below meth c) (S : St n0 p l e R s m args below meth c k n h T) {o : Int} {pc1 : Nat} (hd1 : Dc code pc .lcmp 1 pc1) (hd : Bc code pc1 (.ifCond .ge o) o q q') (g1 : ¬ X < Y → Wp n0 p e R s below Q T (mkF m q' Ls st)) (g2 : X < Y → Wp n0 p e R s below Q T (mkF m q Ls st)) : Wp n0 p e R s below Q T (mkF m pc Ls (.long Y :: .long X :: st)) := by
  obtain ⟨hx, hby, -⟩ := K; obtain ⟨locs, S, -, -⟩ := S; obtain ⟨hd, rfl, h1, h2⟩ := hd; obtain ⟨hd1, rfl⟩ := hd1
  by_cases hc : X < Y
  · exact wp_mono (fun t hr => XT.lcmp S.here hx rfl (hb hby hd1) rfl (XS.ifNo S.here hx rfl (hb hby hd) rfl (XT.ll_ge_f hc) hr)) (g2 hc)
  · exact wp_mono (fun t hr => XT.lcmp S.here hx rfl (hb hby hd1) rfl (XS.ifYes S.here hx rfl rfl (hb hby hd) rfl (XT.ll_ge_t hc) h1 h2 hr)) (g1 hc)
theorem lcmp_gt (K : Cx own code mL ret mn n0 Z p l e R s m args below meth c) (S : St n0 p l e R s m args below meth c k n h T) {o : Int} {pc1 : Nat} (hd1 : Dc code pc .lcmp 1 pc1) (hd : Bc code pc1 (.ifCond .gt o) o q q') (g1 : Y < X → Wp n0 p e R s below Q T (mkF m q' Ls st)) (g2 : ¬ Y < X → Wp n0 p e R s below Q T (mkF m q Ls st)) : Wp n0 p e R s below Q T (mkF m pc Ls (.long Y :: .long X :: st)) := by
  obtain ⟨hx, hby, -⟩ := K; obtain ⟨locs, S, -, -⟩ := S; obtain ⟨hd, rfl, h1, h2⟩ := hd; obtain ⟨hd1, rfl⟩ := hd1
  by_cases hc : Y < X
  · exact wp_mono (fun t hr => XT.lcmp S.here hx rfl (hb hby hd1) rfl (XS.ifYes S.here hx rfl rfl (hb hby hd) rfl (XT.ll_gt_t hc) h1 h2 hr)) (g1 hc)
  · exact wp_mono (fun t hr => XT.lcmp S.here hx rfl (hb hby hd1) rfl (XS.ifNo S.here hx rfl (hb hby hd) rfl (XT.ll_gt_f hc) hr)) (g2 hc)
theorem lcmp_le (K : Cx own code mL ret mn n0 Z p l e R s m args below meth c) (S : St n0 p l e R s m args below meth c k n h T) {o : Int} {pc1 : Nat} (hd1 : Dc code pc .lcmp 1 pc1) (hd : Bc code pc1 (.ifCond .le o) o q q') (g1 : ¬ Y < X → Wp n0 p e R s below Q T (mkF m q' Ls st)) (g2 : Y < X → Wp n0 p e R s below Q T (mkF m q Ls st)) : Wp n0 p e R s below Q T (mkF m pc Ls (.long Y :: .long X :: st)) := by
  obtain ⟨hx, hby, -⟩ := K; obtain ⟨locs, S, -, -⟩ := S; obtain ⟨hd, rfl, h1, h2⟩ := hd; obtain ⟨hd1, rfl⟩ := hd1
  by_cases hc : Y < X
  · exact wp_mono (fun t hr => XT.lcmp S.here hx rfl (hb hby hd1) rfl (XS.ifNo S.here hx rfl (hb hby hd) rfl (XT.ll_le_f hc) hr)) (g2 hc)
  · exact wp_mono (fun t hr => XT.lcmp S.here hx rfl (hb hby hd1) rfl (XS.ifYes S.here hx rfl rfl (hb hby hd) rfl (XT.ll_le_t hc) h1 h2 hr)) (g1 hc)
theorem lcmp_eq (K : Cx own code mL ret mn n0 Z p l e R s m args below meth c) (S : St n0 p l e R s m args below meth c k n h T) {o : Int} {pc1 : Nat} (hd1 : Dc code pc .lcmp 1 pc1) (hd : Bc code pc1 (.ifCond .eq o) o q q') (g1 : X = Y → Wp n0 p e R s below Q T (mkF m q' Ls st)) (g2 : ¬ X = Y → Wp n0 p e R s below Q T (mkF m q Ls st)) : Wp n0 p e R s below Q T (mkF m pc Ls (.long Y :: .long X :: st)) := by
  obtain ⟨hx, hby, -⟩ := K; obtain ⟨locs, S, -, -⟩ := S; obtain ⟨hd, rfl, h1, h2⟩ := hd; obtain ⟨hd1, rfl⟩ := hd1
  by_cases hc : X = Y
  · exact wp_mono (fun t hr => XT.lcmp S.here hx rfl (hb hby hd1) rfl (XS.ifYes S.here hx rfl rfl (hb hby hd) rfl (XT.ll_eq_t hc) h1 h2 hr)) (g1 hc)
  · exact wp_mono (fun t hr => XT.lcmp S.here hx rfl (hb hby hd1) rfl (XS.ifNo S.here hx rfl (hb hby hd) rfl (XT.ll_eq_f hc) hr)) (g2 hc)
theorem lcmp_ne (K : Cx own code mL ret mn n0 Z p l e R s m args below meth c) (S : St n0 p l e R s m args below meth c k n h T) {o : Int} {pc1 : Nat} (hd1 : Dc code pc .lcmp 1 pc1) (hd : Bc code pc1 (.ifCond .ne o) o q q') (g1 : ¬ X = Y → Wp n0 p e R s below Q T (mkF m q' Ls st)) (g2 : X = Y → Wp n0 p e R s below Q T (mkF m q Ls st)) : Wp n0 p e R s below Q T (mkF m pc Ls (.long Y :: .long X :: st)) := by
  obtain ⟨hx, hby, -⟩ := K; obtain ⟨locs, S, -, -⟩ := S; obtain ⟨hd, rfl, h1, h2⟩ := hd; obtain ⟨hd1, rfl⟩ := hd1
  by_cases hc : X = Y
  · exact wp_mono (fun t hr => XT.lcmp S.here hx rfl (hb hby hd1) rfl (XS.ifNo S.here hx rfl (hb hby hd) rfl (XT.ll_ne_f hc) hr)) (g2 hc)
  · exact wp_mono (fun t hr => XT.lcmp S.here hx rfl (hb hby hd1) rfl (XS.ifYes S.here hx rfl rfl (hb hby hd) rfl (XT.ll_ne_t hc) h1 h2 hr)) (g1 hc)
theorem icmpz_lt (K : Cx own code mL ret mn n0 Z p l e R s m args below meth c) (S : St n0 p l e R s m args below meth c k n h T) {o : Int} (hd : Bc code pc (.if_icmp .lt o) o q q') (g1 : x.toInt < y.toInt → Wp n0 p e R s below Q T (mkF m q' Ls st)) (g2 : ¬ x.toInt < y.toInt → Wp n0 p e R s below Q T (mkF m q Ls st)) : Wp n0 p e R s below Q T (mkF m pc Ls (.int y :: .int x :: st)) :=
  icmp_lt K S hd (fun q => g1 (Int32.lt_iff_toInt_lt.mp q)) (fun q => g2 (fun r => q (Int32.lt_iff_toInt_lt.mpr r)))
theorem ificz_lt (K : Cx own code mL ret mn n0 Z p l e R s m args below meth c) (S : St n0 p l e R s m args below meth c k n h T) {o : Int} (hd : Bc code pc (.ifCond .lt o) o q q') (g1 : x.toInt < 0 → Wp n0 p e R s below Q T (mkF m q' Ls st)) (g2 : ¬ x.toInt < 0 → Wp n0 p e R s below Q T (mkF m q Ls st)) : Wp n0 p e R s below Q T (mkF m pc Ls (.int x :: st)) :=
  ific_lt K S hd (fun q => g1 (Int32.lt_iff_toInt_lt.mp q)) (fun q => g2 (fun r => q (Int32.lt_iff_toInt_lt.mpr r)))
theorem lcmpz_lt (K : Cx own code mL ret mn n0 Z p l e R s m args below meth c) (S : St n0 p l e R s m args below meth c k n h T) {o : Int} {pc1 : Nat} (hd1 : Dc code pc .lcmp 1 pc1) (hd : Bc code pc1 (.ifCond .lt o) o q q') (g1 : X.toInt < Y.toInt → Wp n0 p e R s below Q T (mkF m q' Ls st)) (g2 : ¬ X.toInt < Y.toInt → Wp n0 p e R s below Q T (mkF m q Ls st)) : Wp n0 p e R s below Q T (mkF m pc Ls (.long Y :: .long X :: st)) :=
  lcmp_lt K S hd1 hd (fun q => g1 (Int64.lt_iff_toInt_lt.mp q)) (fun q => g2 (fun r => q (Int64.lt_iff_toInt_lt.mpr r)))
theorem icmpz_ge (K : Cx own code mL ret mn n0 Z p l e R s m args below meth c) (S : St n0 p l e R s m args below meth c k n h T) {o : Int} (hd : Bc code pc (.if_icmp .ge o) o q q') (g1 : ¬ x.toInt < y.toInt → Wp n0 p e R s below Q T (mkF m q' Ls st)) (g2 : x.toInt < y.toInt → Wp n0 p e R s below Q T (mkF m q Ls st)) : Wp n0 p e R s below Q T (mkF m pc Ls (.int y :: .int x :: st)) :=
  icmp_ge K S hd (fun q => g1 (fun r => q (Int32.lt_iff_toInt_lt.mpr r))) (fun q => g2 (Int32.lt_iff_toInt_lt.mp q))
theorem ificz_ge (K : Cx own code mL ret mn n0 Z p l e R s m args below meth c) (S : St n0 p l e R s m args below meth c k n h T) {o : Int} (hd : Bc code pc (.ifCond .ge o) o q q') (g1 : ¬ x.toInt < 0 → Wp n0 p e R s below Q T (mkF m q' Ls st)) (g2 : x.toInt < 0 → Wp n0 p e R s below Q T (mkF m q Ls st)) : Wp n0 p e R s below Q T (mkF m pc Ls (.int x :: st)) :=
  ific_ge K S hd (fun q => g1 (fun r => q (Int32.lt_iff_toInt_lt.mpr r))) (fun q => g2 (Int32.lt_iff_toInt_lt.mp q))
theorem lcmpz_ge (K : Cx own code mL ret mn n0 Z p l e R s m args below meth c) (S : St n0 p l e R s m args below meth c k n h T) {o : Int} {pc1 : Nat} (hd1 : Dc code pc .lcmp 1 pc1) (hd : Bc code pc1 (.ifCond .ge o) o q q') (g1 : ¬ X.toInt < Y.toInt → Wp n0 p e R s below Q T (mkF m q' Ls st)) (g2 : X.toInt < Y.toInt → Wp n0 p e R s below Q T (mkF m q Ls st)) : Wp n0 p e R s below Q T (mkF m pc Ls (.long Y :: .long X :: st)) :=
  lcmp_ge K S hd1 hd (fun q => g1 (fun r => q (Int64.lt_iff_toInt_lt.mpr r))) (fun q => g2 (Int64.lt_iff_toInt_lt.mp q))
theorem icmpz_gt (K : Cx own code mL ret mn n0 Z p l e R s m args below meth c) (S : St n0 p l e R s m args below meth c k n h T) {o : Int} (hd : Bc code pc (.if_icmp .gt o) o q q') (g1 : y.toInt < x.toInt → Wp n0 p e R s below Q T (mkF m q' Ls st)) (g2 : ¬ y.toInt < x.toInt → Wp n0 p e R s below Q T (mkF m q Ls st)) : Wp n0 p e R s below Q T (mkF m pc Ls (.int y :: .int x :: st)) :=
  icmp_gt K S hd (fun q => g1 (Int32.lt_iff_toInt_lt.mp q)) (fun q => g2 (fun r => q (Int32.lt_iff_toInt_lt.mpr r)))
theorem ificz_gt (K : Cx own code mL ret mn n0 Z p l e R s m args below meth c) (S : St n0 p l e R s m args below meth c k n h T) {o : Int} (hd : Bc code pc (.ifCond .gt o) o q q') (g1 : 0 < x.toInt → Wp n0 p e R s below Q T (mkF m q' Ls st)) (g2 : ¬ 0 < x.toInt → Wp n0 p e R s below Q T (mkF m q Ls st)) : Wp n0 p e R s below Q T (mkF m pc Ls (.int x :: st)) :=
  ific_gt K S hd (fun q => g1 (Int32.lt_iff_toInt_lt.mp q)) (fun q => g2 (fun r => q (Int32.lt_iff_toInt_lt.mpr r)))
theorem lcmpz_gt (K : Cx own code mL ret mn n0 Z p l e R s m args below meth c) (S : St n0 p l e R s m args below meth c k n h T) {o : Int} {pc1 : Nat} (hd1 : Dc code pc .lcmp 1 pc1) (hd : Bc code pc1 (.ifCond .gt o) o q q') (g1 : Y.toInt < X.toInt → Wp n0 p e R s below Q T (mkF m q' Ls st)) (g2 : ¬ Y.toInt < X.toInt → Wp n0 p e R s below Q T (mkF m q Ls st)) : Wp n0 p e R s below Q T (mkF m pc Ls (.long Y :: .long X :: st)) :=
  lcmp_gt K S hd1 hd (fun q => g1 (Int64.lt_iff_toInt_lt.mp q)) (fun q => g2 (fun r => q (Int64.lt_iff_toInt_lt.mpr r)))
theorem icmpz_le (K : Cx own code mL ret mn n0 Z p l e R s m args below meth c) (S : St n0 p l e R s m args below meth c k n h T) {o : Int} (hd : Bc code pc (.if_icmp .le o) o q q') (g1 : ¬ y.toInt < x.toInt → Wp n0 p e R s below Q T (mkF m q' Ls st)) (g2 : y.toInt < x.toInt → Wp n0 p e R s below Q T (mkF m q Ls st)) : Wp n0 p e R s below Q T (mkF m pc Ls (.int y :: .int x :: st)) :=
  icmp_le K S hd (fun q => g1 (fun r => q (Int32.lt_iff_toInt_lt.mpr r))) (fun q => g2 (Int32.lt_iff_toInt_lt.mp q))
theorem ificz_le (K : Cx own code mL ret mn n0 Z p l e R s m args below meth c) (S : St n0 p l e R s m args below meth c k n h T) {o : Int} (hd : Bc code pc (.ifCond .le o) o q q') (g1 : ¬ 0 < x.toInt → Wp n0 p e R s below Q T (mkF m q' Ls st)) (g2 : 0 < x.toInt → Wp n0 p e R s below Q T (mkF m q Ls st)) : Wp n0 p e R s below Q T (mkF m pc Ls (.int x :: st)) :=
  ific_le K S hd (fun q => g1 (fun r => q (Int32.lt_iff_toInt_lt.mpr r))) (fun q => g2 (Int32.lt_iff_toInt_lt.mp q))
theorem lcmpz_le (K : Cx own code mL ret mn n0 Z p l e R s m args below meth c) (S : St n0 p l e R s m args below meth c k n h T) {o : Int} {pc1 : Nat} (hd1 : Dc code pc .lcmp 1 pc1) (hd : Bc code pc1 (.ifCond .le o) o q q') (g1 : ¬ Y.toInt < X.toInt → Wp n0 p e R s below Q T (mkF m q' Ls st)) (g2 : Y.toInt < X.toInt → Wp n0 p e R s below Q T (mkF m q Ls st)) : Wp n0 p e R s below Q T (mkF m pc Ls (.long Y :: .long X :: st)) :=
  lcmp_le K S hd1 hd (fun q => g1 (fun r => q (Int64.lt_iff_toInt_lt.mpr r))) (fun q => g2 (Int64.lt_iff_toInt_lt.mp q))
theorem icmpz_eq (K : Cx own code mL ret mn n0 Z p l e R s m args below meth c) (S : St n0 p l e R s m args below meth c k n h T) {o : Int} (hd : Bc code pc (.if_icmp .eq o) o q q') (g1 : x.toInt = y.toInt → Wp n0 p e R s below Q T (mkF m q' Ls st)) (g2 : ¬ x.toInt = y.toInt → Wp n0 p e R s below Q T (mkF m q Ls st)) : Wp n0 p e R s below Q T (mkF m pc Ls (.int y :: .int x :: st)) :=
  icmp_eq K S hd (fun q => g1 (congrArg Int32.toInt q)) (fun q => g2 (fun r => q (Int32.toInt_inj.mp r)))
theorem ificz_eq (K : Cx own code mL ret mn n0 Z p l e R s m args below meth c) (S : St n0 p l e R s m args below meth c k n h T) {o : Int} (hd : Bc code pc (.ifCond .eq o) o q q') (g1 : x.toInt = 0 → Wp n0 p e R s below Q T (mkF m q' Ls st)) (g2 : ¬ x.toInt = 0 → Wp n0 p e R s below Q T (mkF m q Ls st)) : Wp n0 p e R s below Q T (mkF m pc Ls (.int x :: st)) :=
  ific_eq K S hd (fun q => g1 (congrArg Int32.toInt q)) (fun q => g2 (fun r => q (Int32.toInt_inj.mp r)))
theorem lcmpz_eq (K : Cx own code mL ret mn n0 Z p l e R s m args below meth c) (S : St n0 p l e R s m args below meth c k n h T) {o : Int} {pc1 : Nat} (hd1 : Dc code pc .lcmp 1 pc1) (hd : Bc code pc1 (.ifCond .eq o) o q q') (g1 : X.toInt = Y.toInt → Wp n0 p e R s below Q T (mkF m q' Ls st)) (g2 : ¬ X.toInt = Y.toInt → Wp n0 p e R s below Q T (mkF m q Ls st)) : Wp n0 p e R s below Q T (mkF m pc Ls (.long Y :: .long X :: st)) :=
  lcmp_eq K S hd1 hd (fun q => g1 (congrArg Int64.toInt q)) (fun q => g2 (fun r => q (Int64.toInt_inj.mp r)))
theorem icmpz_ne (K : Cx own code mL ret mn n0 Z p l e R s m args below meth c) (S : St n0 p l e R s m args below meth c k n h T) {o : Int} (hd : Bc code pc (.if_icmp .ne o) o q q') (g1 : ¬ x.toInt = y.toInt → Wp n0 p e R s below Q T (mkF m q' Ls st)) (g2 : x.toInt = y.toInt → Wp n0 p e R s below Q T (mkF m q Ls st)) : Wp n0 p e R s below Q T (mkF m pc Ls (.int y :: .int x :: st)) :=
  icmp_ne K S hd (fun q => g1 (fun r => q (Int32.toInt_inj.mp r))) (fun q => g2 (congrArg Int32.toInt q))
theorem ificz_ne (K : Cx own code mL ret mn n0 Z p l e R s m args below meth c) (S : St n0 p l e R s m args below meth c k n h T) {o : Int} (hd : Bc code pc (.ifCond .ne o) o q q') (g1 : ¬ x.toInt = 0 → Wp n0 p e R s below Q T (mkF m q' Ls st)) (g2 : x.toInt = 0 → Wp n0 p e R s below Q T (mkF m q Ls st)) : Wp n0 p e R s below Q T (mkF m pc Ls (.int x :: st)) :=
  ific_ne K S hd (fun q => g1 (fun r => q (Int32.toInt_inj.mp r))) (fun q => g2 (congrArg Int32.toInt q))
theorem lcmpz_ne (K : Cx own code mL ret mn n0 Z p l e R s m args below meth c) (S : St n0 p l e R s m args below meth c k n h T) {o : Int} {pc1 : Nat} (hd1 : Dc code pc .lcmp 1 pc1) (hd : Bc code pc1 (.ifCond .ne o) o q q') (g1 : ¬ X.toInt = Y.toInt → Wp n0 p e R s below Q T (mkF m q' Ls st)) (g2 : X.toInt = Y.toInt → Wp n0 p e R s below Q T (mkF m q Ls st)) : Wp n0 p e R s below Q T (mkF m pc Ls (.long Y :: .long X :: st)) :=
  lcmp_ne K S hd1 hd (fun q => g1 (fun r => q (Int64.toInt_inj.mp r))) (fun q => g2 (congrArg Int64.toInt q))
theorem ifnull_ref (K : Cx own code mL ret mn n0 Z p l e R s m args below meth c) (S : St n0 p l e R s m args below meth c k n h T) {o : Int} (hd : Bc code pc (.ifnull o) o q q') (g : Wp n0 p e R s below Q T (mkF m q Ls st)) : Wp n0 p e R s below Q T (mkF m pc Ls (.ref a :: st)) := by
  obtain ⟨hx, hby, -⟩ := K; obtain ⟨locs, S, -, -⟩ := S; obtain ⟨hd, rfl, h1, h2⟩ := hd
  exact wp_mono (fun t hr => XS.ifnullNo S.here hx rfl (hb hby hd) rfl hr) g
theorem ldc (K : Cx own code mL ret mn n0 Z p l e R s m args below meth c) (S : St n0 p l e R s m args below meth c k n h T) {i : Nat} (w : (Jvm.Cond.constant own i x).before a0 Z = true) (hd : Dc code pc (.ldc i) 2 q) (g : Wp n0 p e R s below Q T (mkF m q Ls (.int x :: st))) : Wp n0 p e R s below Q T (mkF m pc Ls st) := by
  obtain ⟨hx, hby, -, -, -, hown, hZ, -⟩ := K; obtain ⟨locs, S, -, -⟩ := S; obtain ⟨hd, rfl⟩ := hd
  refine wp_mono (T' := T) (g' := mkF m (pc + 2) Ls (.int x :: st)) (fun t hr => ?_) g
  exact S.ldcInt hx hown (mvT hZ w) (g := mkF m pc Ls st) rfl (hb hby hd) t hr
theorem ldc2 (K : Cx own code mL ret mn n0 Z p l e R s m args below meth c) (S : St n0 p l e R s m args below meth c k n h T) {i : Nat} (w : (Jvm.Cond.constantLong own i X).before a0 Z = true) (hd : Dc code pc (.ldc2_w i) 3 q) (g : Wp n0 p e R s below Q T (mkF m q Ls (.long X :: st))) : Wp n0 p e R s below Q T (mkF m pc Ls st) := by
  obtain ⟨hx, hby, -, -, -, hown, hZ, -⟩ := K; obtain ⟨locs, S, -, -⟩ := S; obtain ⟨hd, rfl⟩ := hd
  refine wp_mono (T' := T) (g' := mkF m (pc + 3) Ls (.long X :: st)) (fun t hr => ?_) g
  exact S.ldc2Long hx hown (mvT hZ w) (g := mkF m pc Ls st) rfl (hb hby hd) t hr
theorem getf (K : Cx own code mL ret mn n0 Z p l e R s m args below meth c) (S : St n0 p l e R s m args below meth c k n h T) {i : Nat} {O fn d : String} (w : (Jvm.Cond.fieldLink own i O fn d).before a0 Z = true) (F : Fld Z h a O fn d v) (hd : Dc code pc (.getfield i) 3 q) (g : ∀ T, St n0 p l e R s m args below meth c k n h T → Wp n0 p e R s below Q T (mkF m q Ls (v :: st))) : Wp n0 p e R s below Q T (mkF m pc Ls (.ref a :: st)) := by
  obtain ⟨hx, hby, -, -, -, hown, hZ, -⟩ := K; obtain ⟨locs, S, e1, N, z⟩ := S; obtain ⟨hd, rfl⟩ := hd
  obtain ⟨T1, S1, e2, st1⟩ := getF S hx hZ hown (host := "") (Or.inl w) Via.refl e1 F (g := mkF m pc Ls (.ref a :: st)) rfl rfl (hb hby hd)
  exact wp_mono st1 (g T1 ⟨locs, S1, e2, N, z⟩)
theorem putf (K : Cx own code mL ret mn n0 Z p l e R s m args below meth c) (S : St n0 p l e R s m args below meth c k n h T) {i kk : Nat} {O fn d C : String} {old : Value} (w : (Jvm.Cond.fieldLink own i O fn d).before a0 Z = true) (F : Fld Z h a O fn d old) (E : Exa Z h a C) (L : (Jvm.Cond.lays C O fn d).before a0 Z = true ∨ ((Jvm.Cond.laysFinal C O fn d).before a0 Z = true ∧ own = O ∧ mn = "<init>")) (wi : (Jvm.Cond.instantiable C kk).before a0 Z = true) (hty : parseFieldDescriptor d = some ty) (hn : narrow ty v = v) (hf : fits ty v = true) (ha : n0 ≤ a) (hd : Dc code pc (.putfield i) 3 q) (g : ∀ T h', Wr h h' a (Jvm.RoadKit.slotOf Z O fn d) v → St n0 p l e R s m args below meth c k n h' T → Wp n0 p e R s below Q T (mkF m q Ls st)) : Wp n0 p e R s below Q T (mkF m pc Ls (v :: .ref a :: st)) := by
  obtain ⟨hx, hby, -, -, -, hown, hZ, hmn⟩ := K; obtain ⟨locs, S, e1, N, z⟩ := S; obtain ⟨hd, rfl⟩ := hd
  obtain ⟨T1, h1, S1, e2, W1, st1⟩ := putF S hx hZ hown (host := "") (Or.inl w) Via.refl e1 F E (L.imp id fun q => ⟨q.1, q.2.1, hmn.trans q.2.2⟩) wi hty hn hf (g := mkF m pc Ls (v :: .ref a :: st)) rfl rfl (hb hby hd)
  exact wp_mono st1 (g T1 h1 W1 ⟨_, S1, e2, Fr.snoc S1 N ha, by rw [W1.size]; exact z⟩)
theorem new (K : Cx own code mL ret mn n0 Z p l e R s m args below meth c) (S : St n0 p l e R s m args below meth c k n h T) {i nn : Nat} {C : String} (w : (Jvm.Cond.classLink own i C).before a0 Z = true) (wi : (Jvm.Cond.instantiable C nn).before a0 Z = true) (wz : (Jvm.Cond.initialized C).before a0 Z = true) (hc : k + 1 ≤ R.cells) (hl : n + nn ≤ R.slots) (hd : Dc code pc (.new i) 3 q) (g : ∀ T h' a, a = h.size → n0 ≤ a → Ext h h' → Exa Z h' a C → (∀ {O nm d : String} {ty : FieldType}, Laid Z a0 C O nm d → parseFieldDescriptor d = some ty → Fld Z h' a O nm d (defaultValue ty)) → St n0 p l e R s m args below meth c (k + 1) (n + nn) h' T → Wp n0 p e R s below Q T (mkF m q Ls (.ref a :: st))) : Wp n0 p e R s below Q T (mkF m pc Ls st) := by
  obtain ⟨hx, hby, -, -, -, hown, hZ, hmn⟩ := K; obtain ⟨locs, S, e1, N, z⟩ := S; obtain ⟨hd, rfl⟩ := hd
  obtain ⟨T1, h1, S1, e2, E1, A1, D1, -, st1⟩ := newO S hx hZ hown w wi wz e1 (g := mkF m pc Ls st) rfl (hb hby hd) hc hl
  exact wp_mono st1 (g T1 h1 h.size rfl z E1 A1 D1 ⟨_, S1, e2, N, Nat.le_trans z E1.1⟩)
theorem newarr (K : Cx own code mL ret mn n0 Z p l e R s m args below meth c) (S : St n0 p l e R s m args below meth c k n h T) {aty : ArrayType} {cap : Nat} (w : (Jvm.Cond.arrayClass (newarray.typeOf aty)).before a0 Z = true) (hn : ¬ x < 0) (hcap : x.toNatClampNeg ≤ cap) (hb' : cap * 8 ≤ 536870912) (hc : k + 1 ≤ R.cells) (hl : n + cap ≤ R.slots) (hd : Dc code pc (.newarray aty) 2 q) (g : ∀ T h' a, a = h.size → n0 ≤ a → Ext h h' → VA Z h' a (newarray.typeOf aty) (List.replicate x.toNatClampNeg (defaultValue (newarray.typeOf aty))) → St n0 p l e R s m args below meth c (k + 1) (n + cap) h' T → Wp n0 p e R s below Q T (mkF m q Ls (.ref a :: st))) : Wp n0 p e R s below Q T (mkF m pc Ls (.int x :: st)) := by
  obtain ⟨hx, hby, -, -, -, hown, hZ, hmn⟩ := K; obtain ⟨locs, S, e1, N, z⟩ := S; obtain ⟨hd, rfl⟩ := hd
  obtain ⟨T1, h1, cA, S1, e2, E1, A1, st1⟩ := newP S hx hZ w e1 (g := mkF m pc Ls (.int x :: st)) rfl (hb hby hd) rfl hn hcap hb' hc hl
  exact wp_mono st1 (g T1 h1 h.size rfl z E1 ⟨_, A1, by simp [newA]⟩ ⟨_, S1, e2, N, Nat.le_trans z E1.1⟩)
theorem inito (K : Cx own code mL ret mn n0 Z p l e R s m args below meth c) (S : St n0 p l e R s m args below meth c k n h T) {i W : Nat} (w1 : (Jvm.Cond.methodLink own i Lib.objectInit).before a0 Z = true) (w2 : (Jvm.Cond.instanceMethod Lib.objectInit).before a0 Z = true) (w3 : (Jvm.Cond.code Lib.objectInit ⟨#[0xb1]⟩ 1 none).before a0 Z = true) (hsz : Ls.size = mL) (hf : 1 ≤ R.frames) (hW : (st.map fun v => v.category).sum ≤ W) (hl : W + 12 ≤ R.locals) (hd : Dc code pc (.invokespecial i) 3 q) (g : ∀ T, St n0 p l e R s m args below meth c k n h T → Wp n0 p e R s below Q T (mkF m q Ls st)) : Wp n0 p e R s below Q T (mkF m pc Ls (.ref a :: st)) := by
  obtain ⟨hx, hby, hml, -, -, hown, hZ, hmn⟩ := K; obtain ⟨locs, S, e1, N, z⟩ := S; obtain ⟨hd, rfl⟩ := hd
  obtain ⟨T1, S1, e2, st1⟩ := initO S hx hZ hown w1 w2 w3 e1 (g := mkF m pc Ls (.ref a :: st)) rfl (by rw [hml]; exact hsz) rfl (hb hby hd) hf (W := W) (by show 2 * 0 + _ ≤ _; omega) hl
  exact wp_mono st1 (g T1 ⟨_, S1, e2, N, z⟩)
theorem iaload (K : Cx own code mL ret mn n0 Z p l e R s m args below meth c) (S : St n0 p l e R s m args below meth c k n h T) {i : Nat} (A : VA Z h a .int vs) (hi : Ix x i) (hv : vs[i]? = some v) (hd : Dc code pc .iaload 1 q) (g : Wp n0 p e R s below Q T (mkF m q Ls (v :: st))) : Wp n0 p e R s below Q T (mkF m pc Ls (.int x :: .ref a :: st)) := by
  obtain ⟨hx, hby, -, -, -, hown, hZ, -⟩ := K; obtain ⟨locs, S, e1, N, z⟩ := S; obtain ⟨hd, rfl⟩ := hd; obtain ⟨cl, A, hs⟩ := A; obtain ⟨hi0, rfl⟩ := hi
  have hlt : x.toNatClampNeg < vs.length := (List.getElem?_eq_some_iff.mp hv).1
  exact wp_mono (fun t hr => S.iaload hx (by rw [e1]; exact A.1) (State.isArrayOf_alike hZ.alike A.2.1) A.2.2 (by rw [hs]; simp; exact ⟨Int32.not_lt.mp hi0, hlt⟩) (by rw [hs]; simpa using hv) (g := mkF m pc Ls (.int x :: .ref a :: st)) rfl rfl (hb hby hd) t hr) g
theorem laload (K : Cx own code mL ret mn n0 Z p l e R s m args below meth c) (S : St n0 p l e R s m args below meth c k n h T) {i : Nat} (A : VA Z h a .long vs) (hi : Ix x i) (hv : vs[i]? = some v) (hd : Dc code pc .laload 1 q) (g : Wp n0 p e R s below Q T (mkF m q Ls (v :: st))) : Wp n0 p e R s below Q T (mkF m pc Ls (.int x :: .ref a :: st)) := by
  obtain ⟨hx, hby, -, -, -, hown, hZ, -⟩ := K; obtain ⟨locs, S, e1, N, z⟩ := S; obtain ⟨hd, rfl⟩ := hd; obtain ⟨cl, A, hs⟩ := A; obtain ⟨hi0, rfl⟩ := hi
  have hlt : x.toNatClampNeg < vs.length := (List.getElem?_eq_some_iff.mp hv).1
  exact wp_mono (fun t hr => S.laload hx (by rw [e1]; exact A.1) (State.isArrayOf_alike hZ.alike A.2.1) A.2.2 (by rw [hs]; simp; exact ⟨Int32.not_lt.mp hi0, hlt⟩) (by rw [hs]; simpa using hv) (g := mkF m pc Ls (.int x :: .ref a :: st)) rfl rfl (hb hby hd) t hr) g
theorem caload (K : Cx own code mL ret mn n0 Z p l e R s m args below meth c) (S : St n0 p l e R s m args below meth c k n h T) {i : Nat} (A : VA Z h a .char vs) (hi : Ix x i) (hv : vs[i]? = some v) (hd : Dc code pc .caload 1 q) (g : Wp n0 p e R s below Q T (mkF m q Ls (v :: st))) : Wp n0 p e R s below Q T (mkF m pc Ls (.int x :: .ref a :: st)) := by
  obtain ⟨hx, hby, -, -, -, hown, hZ, -⟩ := K; obtain ⟨locs, S, e1, N, z⟩ := S; obtain ⟨hd, rfl⟩ := hd; obtain ⟨cl, A, hs⟩ := A; obtain ⟨hi0, rfl⟩ := hi
  have hlt : x.toNatClampNeg < vs.length := (List.getElem?_eq_some_iff.mp hv).1
  exact wp_mono (fun t hr => S.caload hx (by rw [e1]; exact A.1) (State.isArrayOf_alike hZ.alike A.2.1) A.2.2 (by rw [hs]; simp; exact ⟨Int32.not_lt.mp hi0, hlt⟩) (by rw [hs]; simpa using hv) (g := mkF m pc Ls (.int x :: .ref a :: st)) rfl rfl (hb hby hd) t hr) g
theorem baload (K : Cx own code mL ret mn n0 Z p l e R s m args below meth c) (S : St n0 p l e R s m args below meth c k n h T) {i : Nat} (A : VA Z h a .byte vs) (hi : Ix x i) (hv : vs[i]? = some v) (hd : Dc code pc .baload 1 q) (g : Wp n0 p e R s below Q T (mkF m q Ls (v :: st))) : Wp n0 p e R s below Q T (mkF m pc Ls (.int x :: .ref a :: st)) := by
  obtain ⟨hx, hby, -, -, -, hown, hZ, -⟩ := K; obtain ⟨locs, S, e1, N, z⟩ := S; obtain ⟨hd, rfl⟩ := hd; obtain ⟨cl, A, hs⟩ := A; obtain ⟨hi0, rfl⟩ := hi
  have hlt : x.toNatClampNeg < vs.length := (List.getElem?_eq_some_iff.mp hv).1
  exact wp_mono (fun t hr => S.baloadBytes hx (by rw [e1]; exact A.1) (State.isArrayOf_alike hZ.alike A.2.1) A.2.2 (by rw [hs]; simp; exact ⟨Int32.not_lt.mp hi0, hlt⟩) (by rw [hs]; simpa using hv) (g := mkF m pc Ls (.int x :: .ref a :: st)) rfl rfl (hb hby hd) t hr) g
theorem iastore (K : Cx own code mL ret mn n0 Z p l e R s m args below meth c) (S : St n0 p l e R s m args below meth c k n h T) {i : Nat} (A : VA Z h a .int vs) (hi : Ix x i) (hlt : i < vs.length) (ha : n0 ≤ a) (hd : Dc code pc .iastore 1 q) (g : ∀ T h', Wr h h' a i (.int y) → VA Z h' a .int (vs.set i (.int y)) → St n0 p l e R s m args below meth c k n h' T → Wp n0 p e R s below Q T (mkF m q Ls st)) : Wp n0 p e R s below Q T (mkF m pc Ls (.int y :: .int x :: .ref a :: st)) := by
  obtain ⟨hx, hby, -, -, -, hown, hZ, -⟩ := K; obtain ⟨locs, S, e1, N, z⟩ := S; obtain ⟨hd, rfl⟩ := hd; have A0 := A; obtain ⟨cl, A, hs⟩ := A; obtain ⟨hi0, rfl⟩ := hi
  obtain ⟨T1, h1, S1, e2, W1, st1⟩ := stI S hx hZ e1 A (by rw [hs]; simp; exact ⟨Int32.not_lt.mp hi0, hlt⟩) (g := mkF m pc Ls (.int y :: .int x :: .ref a :: st)) rfl rfl (hb hby hd)
  exact wp_mono st1 (g T1 h1 W1 (A0.wr W1) ⟨_, S1, e2, Fr.snoc S1 N ha, by rw [W1.size]; exact z⟩)
theorem lastore (K : Cx own code mL ret mn n0 Z p l e R s m args below meth c) (S : St n0 p l e R s m args below meth c k n h T) {i : Nat} (A : VA Z h a .long vs) (hi : Ix x i) (hlt : i < vs.length) (ha : n0 ≤ a) (hd : Dc code pc .lastore 1 q) (g : ∀ T h', Wr h h' a i (.long X) → VA Z h' a .long (vs.set i (.long X)) → St n0 p l e R s m args below meth c k n h' T → Wp n0 p e R s below Q T (mkF m q Ls st)) : Wp n0 p e R s below Q T (mkF m pc Ls (.long X :: .int x :: .ref a :: st)) := by
  obtain ⟨hx, hby, -, -, -, hown, hZ, -⟩ := K; obtain ⟨locs, S, e1, N, z⟩ := S; obtain ⟨hd, rfl⟩ := hd; have A0 := A; obtain ⟨cl, A, hs⟩ := A; obtain ⟨hi0, rfl⟩ := hi
  obtain ⟨T1, h1, S1, e2, W1, st1⟩ := stJ S hx hZ e1 A (by rw [hs]; simp; exact ⟨Int32.not_lt.mp hi0, hlt⟩) (g := mkF m pc Ls (.long X :: .int x :: .ref a :: st)) rfl rfl (hb hby hd)
  exact wp_mono st1 (g T1 h1 W1 (A0.wr W1) ⟨_, S1, e2, Fr.snoc S1 N ha, by rw [W1.size]; exact z⟩)
theorem castore (K : Cx own code mL ret mn n0 Z p l e R s m args below meth c) (S : St n0 p l e R s m args below meth c k n h T) {i : Nat} (A : VA Z h a .char vs) (hi : Ix x i) (hlt : i < vs.length) (ha : n0 ≤ a) (hd : Dc code pc .castore 1 q) (g : ∀ T h', Wr h h' a i (.int (nar .char y)) → VA Z h' a .char (vs.set i (.int (nar .char y))) → St n0 p l e R s m args below meth c k n h' T → Wp n0 p e R s below Q T (mkF m q Ls st)) : Wp n0 p e R s below Q T (mkF m pc Ls (.int y :: .int x :: .ref a :: st)) := by
  obtain ⟨hx, hby, -, -, -, hown, hZ, -⟩ := K; obtain ⟨locs, S, e1, N, z⟩ := S; obtain ⟨hd, rfl⟩ := hd; have A0 := A; obtain ⟨cl, A, hs⟩ := A; obtain ⟨hi0, rfl⟩ := hi
  obtain ⟨T1, h1, S1, e2, W1, st1⟩ := stC S hx hZ e1 A (by rw [hs]; simp; exact ⟨Int32.not_lt.mp hi0, hlt⟩) (g := mkF m pc Ls (.int y :: .int x :: .ref a :: st)) rfl rfl (hb hby hd)
  exact wp_mono st1 (g T1 h1 W1 (A0.wr W1) ⟨_, S1, e2, Fr.snoc S1 N ha, by rw [W1.size]; exact z⟩)
theorem bastore (K : Cx own code mL ret mn n0 Z p l e R s m args below meth c) (S : St n0 p l e R s m args below meth c k n h T) {i : Nat} (A : VA Z h a .byte vs) (hi : Ix x i) (hlt : i < vs.length) (ha : n0 ≤ a) (hd : Dc code pc .bastore 1 q) (g : ∀ T h', Wr h h' a i (.int (nar .byte y)) → VA Z h' a .byte (vs.set i (.int (nar .byte y))) → St n0 p l e R s m args below meth c k n h' T → Wp n0 p e R s below Q T (mkF m q Ls st)) : Wp n0 p e R s below Q T (mkF m pc Ls (.int y :: .int x :: .ref a :: st)) := by
  obtain ⟨hx, hby, -, -, -, hown, hZ, -⟩ := K; obtain ⟨locs, S, e1, N, z⟩ := S; obtain ⟨hd, rfl⟩ := hd; have A0 := A; obtain ⟨cl, A, hs⟩ := A; obtain ⟨hi0, rfl⟩ := hi
  obtain ⟨T1, h1, S1, e2, W1, st1⟩ := stB S hx hZ e1 A (by rw [hs]; simp; exact ⟨Int32.not_lt.mp hi0, hlt⟩) (g := mkF m pc Ls (.int y :: .int x :: .ref a :: st)) rfl rfl (hb hby hd)
  exact wp_mono st1 (g T1 h1 W1 (A0.wr W1) ⟨_, S1, e2, Fr.snoc S1 N ha, by rw [W1.size]; exact z⟩)
theorem alen (K : Cx own code mL ret mn n0 Z p l e R s m args below meth c) (S : St n0 p l e R s m args below meth c k n h T) (A : VA Z h a ty vs) (hx' : vs.length.toInt32 = x) (hd : Dc code pc .arraylength 1 q) (g : Wp n0 p e R s below Q T (mkF m q Ls (.int x :: st))) : Wp n0 p e R s below Q T (mkF m pc Ls (.ref a :: st)) := by
  obtain ⟨hx, hby, -, -, -, hown, hZ, -⟩ := K; obtain ⟨locs, S, e1, N, z⟩ := S; obtain ⟨hd, rfl⟩ := hd; obtain ⟨cl, A, hs⟩ := A
  refine wp_mono (fun t hr => S.arraylength hx (by rw [e1]; exact A.1) (State.isArrayOf_alike hZ.alike A.2.1) (g := mkF m pc Ls (.ref a :: st)) rfl rfl (hb hby hd) t hr) (T' := T) (g' := mkF m (pc + 1) Ls (.int cl.slots.size.toInt32 :: st)) ?_
  rw [hs]; simpa [hx'] using g
theorem retn (K : Cx own code mL (some ty) mn n0 Z p l e R s m args below meth c) (S : St n0 p l e R s m args below meth c k n h T) (ht : ty = .boolean ∨ ty = .byte ∨ ty = .char ∨ ty = .short) (hz : nar ty x = y) (hk : k ≤ R.cells) (hn : n ≤ R.slots) (hd : Dc code pc .ireturn 1 q) (hQ : Q (some (.int y)) h) : Wp n0 p e R s below Q T (mkF m pc Ls (.int x :: st)) := by
  obtain ⟨hx, hby, -, hret, hlk, -⟩ := K; obtain ⟨locs, S, e1, N, z⟩ := S; obtain ⟨hd, -⟩ := hd
  obtain ⟨fs, hr, hrun, hended, hW, hsame⟩ := S.leave (v := some (.int y)) (fun h => by rw [hret] at h; cases h) hlk
  refine ⟨_, _, retN S hx hret ht (hb hby hd) (by rw [hz]; exact hr), hrun, hended, _, _, rfl, ⟨?_, ?_, N⟩, ⟨_, rfl⟩, hW, hsame.mono hk hn⟩
  · show Q _ T.heap; rw [e1]; exact hQ
  · show n0 ≤ T.heap.size; rw [e1]; exact z
theorem reti (K : Cx own code mL (some .int) mn n0 Z p l e R s m args below meth c) (S : St n0 p l e R s m args below meth c k n h T) (hk : k ≤ R.cells) (hn : n ≤ R.slots) (hd : Dc code pc .ireturn 1 q) (hQ : Q (some (.int x)) h) : Wp n0 p e R s below Q T (mkF m pc Ls (.int x :: st)) := by
  obtain ⟨hx, hby, -, hret, hlk, -⟩ := K; obtain ⟨locs, S, e1, N, z⟩ := S; obtain ⟨hd, -⟩ := hd
  obtain ⟨fs, hr, hrun, hended, hW, hsame⟩ := S.leave (v := some (.int x)) (fun h => by rw [hret] at h; cases h) hlk
  refine ⟨_, _, retOut S hx hret rfl (Or.inl ⟨rfl, Or.inl rfl, _, rfl⟩) (hb hby hd) hr, hrun, hended, _, _, rfl, ⟨?_, ?_, N⟩, ⟨_, rfl⟩, hW, hsame.mono hk hn⟩
  · show Q _ T.heap; rw [e1]; exact hQ
  · show n0 ≤ T.heap.size; rw [e1]; exact z
theorem retl (K : Cx own code mL (some .long) mn n0 Z p l e R s m args below meth c) (S : St n0 p l e R s m args below meth c k n h T) (hk : k ≤ R.cells) (hn : n ≤ R.slots) (hd : Dc code pc .lreturn 1 q) (hQ : Q (some (.long X)) h) : Wp n0 p e R s below Q T (mkF m pc Ls (.long X :: st)) := by
  obtain ⟨hx, hby, -, hret, hlk, -⟩ := K; obtain ⟨locs, S, e1, N, z⟩ := S; obtain ⟨hd, -⟩ := hd
  obtain ⟨fs, hr, hrun, hended, hW, hsame⟩ := S.leave (v := some (.long X)) (fun h => by rw [hret] at h; cases h) hlk
  refine ⟨_, _, retOut S hx hret rfl (Or.inr (Or.inl ⟨rfl, rfl, _, rfl⟩)) (hb hby hd) hr, hrun, hended, _, _, rfl, ⟨?_, ?_, N⟩, ⟨_, rfl⟩, hW, hsame.mono hk hn⟩
  · show Q _ T.heap; rw [e1]; exact hQ
  · show n0 ≤ T.heap.size; rw [e1]; exact z
theorem reta (K : Cx own code mL (some ty) mn n0 Z p l e R s m args below meth c) (S : St n0 p l e R s m args below meth c k n h T) (hrf : ty.isReference = true) (hnr : narrow ty (.ref a) = .ref a) (hk : k ≤ R.cells) (hn : n ≤ R.slots) (hd : Dc code pc .areturn 1 q) (hQ : Q (some (.ref a)) h) : Wp n0 p e R s below Q T (mkF m pc Ls (.ref a :: st)) := by
  obtain ⟨hx, hby, -, hret, hlk, -⟩ := K; obtain ⟨locs, S, e1, N, z⟩ := S; obtain ⟨hd, -⟩ := hd
  obtain ⟨fs, hr, hrun, hended, hW, hsame⟩ := S.leave (v := some (.ref a)) (fun h => by rw [hret] at h; cases h) hlk
  refine ⟨_, _, retOut S hx hret hnr (Or.inr (Or.inr (Or.inr (Or.inr ⟨rfl, hrf, rfl⟩)))) (hb hby hd) hr, hrun, hended, _, _, rfl, ⟨?_, ?_, N⟩, ⟨_, rfl⟩, hW, hsame.mono hk hn⟩
  · show Q _ T.heap; rw [e1]; exact hQ
  · show n0 ≤ T.heap.size; rw [e1]; exact z
theorem retv (K : Cx own code mL (none) mn n0 Z p l e R s m args below meth c) (S : St n0 p l e R s m args below meth c k n h T) (hk : k ≤ R.cells) (hn : n ≤ R.slots) (hd : Dc code pc .return_ 1 q) (hQ : Q (none) h) : Wp n0 p e R s below Q T (mkF m pc Ls ([])) := by
  obtain ⟨hx, hby, -, hret, hlk, -⟩ := K; obtain ⟨locs, S, e1, N, z⟩ := S; obtain ⟨hd, -⟩ := hd
  obtain ⟨fs, hr, hrun, hended, hW, hsame⟩ := S.leave (v := none) (fun _ => rfl) hlk
  refine ⟨_, _, S.returnOut hx hret (hb hby hd) hr, hrun, hended, _, _, rfl, ⟨?_, ?_, N⟩, ⟨_, rfl⟩, hW, hsame.mono hk hn⟩
  · show Q _ T.heap; rw [e1]; exact hQ
  · show n0 ≤ T.heap.size; rw [e1]; exact z
theorem callS (K : Cx own code mL ret mn n0 Z p l e R s m args below meth c) (S : St n0 p l e R s m args below meth c k n h T) {i mL' W : Nat} {y : MethodName} {bytes : ByteArray} {ret' : Option FieldType} {rm : Room} {as' : Array Value} {Q' : Option Value → Heap → Prop} {argsL : List Value} (M : Met n0 l Z y bytes mL' ret' rm [] as' h Q') (w1 : (Jvm.Cond.methodLink own i y).before a0 Z = true) (w2 : (Jvm.Cond.static y).before a0 Z = true) (w4 : (Jvm.Cond.code y bytes mL' ret').before a0 Z = true) (w5 : (Jvm.Cond.initialized y.cls).before a0 Z = true) (hy : y.cls ≠ "java/lang/invoke/MethodHandle" ∧ y.cls ≠ "java/lang/invoke/VarHandle") (hfr : rm.frames + 1 ≤ R.frames) (hlo : W + (mL' + 11) + rm.locals ≤ R.locals) (hce : k + rm.cells ≤ R.cells) (hsl : n + rm.slots ≤ R.slots) (hsz : Ls.size = mL) (has : (argsL).toArray = as') (hlen : ∀ sig, parseMethodDescriptor y.desc = some sig → argsL.length = sig.parameters.length) (hst : st = argsL.reverse ++ rest) (hW : (rest.map fun v => v.category).sum ≤ W) (hd : Dc code pc (.invokestatic i) 3 q) (g : ∀ T v h', Q' v h' → St n0 p l e R s m args below meth c (k + rm.cells) (n + rm.slots) h' T → Wp n0 p e R s below Q T (mkF m q Ls (v.toList ++ rest))) : Wp n0 p e R s below Q T (mkF m pc Ls st) := by
  obtain ⟨hx, hby, hml, -, -, hown, hZ, hmn⟩ := K; obtain ⟨locs, S, e1, N, z⟩ := S; obtain ⟨hd, rfl⟩ := hd; subst hst has
  obtain ⟨v1, _, ⟨T1, L1, k1, n1⟩, -, S1, ⟨Lc1, hQ1, l1, y1, z1⟩, st1⟩ := Jvm.LawKit.callS S hx (y := y) hown (mvT hZ w1) (mvT hZ w2) (mvT hZ w5) (mvT hZ w4) hy (backOf (W := W) (Q := fun v h L => Q' v h ∧ n0 ≤ h.size ∧ Fr n0 L) M hZ w4 w5 hfr hlo) (g := mkF m pc Ls (argsL.reverse ++ rest)) rfl (by rw [hml]; exact hsz) (argsL := argsL) (rest := rest) hlen rfl (by show 2 * 0 + _ ≤ _; omega) (hb hby hd) (fun _ _ => ⟨rfl, e1, hce, hsl⟩)
  dsimp only [Pt.U, Pt.locs, Pt.cells, Pt.slots] at S1 l1 y1 z1 st1 hQ1
  subst l1 y1 z1
  exact wp_mono st1 (g T1 v1 T1.heap hQ1.1 ⟨_, S1, rfl, Fr.app N hQ1.2.2, hQ1.2.1⟩)
theorem callC (K : Cx own code mL ret mn n0 Z p l e R s m args below meth c) (S : St n0 p l e R s m args below meth c k n h T) {i mL' W : Nat} {y : MethodName} {bytes : ByteArray} {ret' : Option FieldType} {rm : Room} {as' : Array Value} {Q' : Option Value → Heap → Prop} {argsL : List Value} (M : Met n0 l Z y bytes mL' ret' rm [] as' h Q') (hin : y.name = "<init>") (hr0 : ret' = none) (w1 : (Jvm.Cond.methodLink own i y).before a0 Z = true) (w2 : (Jvm.Cond.instanceMethod y).before a0 Z = true) (w4 : (Jvm.Cond.code y bytes mL' ret').before a0 Z = true) (w5 : (Jvm.Cond.initialized y.cls).before a0 Z = true) (hy : y.cls ≠ "java/lang/invoke/MethodHandle" ∧ y.cls ≠ "java/lang/invoke/VarHandle") (hfr : rm.frames + 1 ≤ R.frames) (hlo : W + (mL' + 11) + rm.locals ≤ R.locals) (hce : k + rm.cells ≤ R.cells) (hsl : n + rm.slots ≤ R.slots) (hsz : Ls.size = mL) (has : (.ref a :: argsL).toArray = as') (hlen : ∀ sig, parseMethodDescriptor y.desc = some sig → argsL.length = sig.parameters.length) (hst : st = argsL.reverse ++ .ref a :: rest) (hW : (rest.map fun v => v.category).sum ≤ W) (hd : Dc code pc (.invokespecial i) 3 q) (g : ∀ T v h', Q' v h' → St n0 p l e R s m args below meth c (k + rm.cells) (n + rm.slots) h' T → Wp n0 p e R s below Q T (mkF m q Ls (v.toList ++ rest))) : Wp n0 p e R s below Q T (mkF m pc Ls st) := by
  obtain ⟨hx, hby, hml, -, -, hown, hZ, hmn⟩ := K; obtain ⟨locs, S, e1, N, z⟩ := S; obtain ⟨hd, rfl⟩ := hd; subst hst has
  subst hr0
  obtain ⟨v1, _, ⟨T1, L1, k1, n1⟩, -, S1, ⟨Lc1, hQ1, l1, y1, z1⟩, st1⟩ := S.specialBack hx (y := y) hin hown (mvT hZ w1) (mvT hZ w2) (mvT hZ w4) hy (backOf (W := W) (Q := fun v h L => Q' v h ∧ n0 ≤ h.size ∧ Fr n0 L) M hZ w4 w5 hfr hlo) (g := mkF m pc Ls (argsL.reverse ++ .ref a :: rest)) rfl (by rw [hml]; exact hsz) (Steps.refl _) (a := a) (argsL := argsL) (rest := rest) hlen rfl (by show 2 * 0 + _ ≤ _; omega) (hb hby hd) (fun _ _ => ⟨rfl, e1, hce, hsl⟩)
  dsimp only [Pt.U, Pt.locs, Pt.cells, Pt.slots] at S1 l1 y1 z1 st1 hQ1
  subst l1 y1 z1
  exact wp_mono (fun t hr => st1.trans hr) (g T1 v1 T1.heap hQ1.1 ⟨_, S1, rfl, Fr.app N hQ1.2.2, hQ1.2.1⟩)
theorem callV (K : Cx own code mL ret mn n0 Z p l e R s m args below meth c) (S : St n0 p l e R s m args below meth c k n h T) {i mL' W : Nat} {y : MethodName} {bytes : ByteArray} {ret' : Option FieldType} {rm : Room} {as' : Array Value} {Q' : Option Value → Heap → Prop} {argsL : List Value} (M : Met n0 l Z y bytes mL' ret' rm [] as' h Q') (E : Exa Z h a y.cls) (w1 : (Jvm.Cond.methodLink own i y).before a0 Z = true) (w2 : (Jvm.Cond.declares y).before a0 Z = true) (w3 : (Jvm.Cond.selects y.cls y y).before a0 Z = true) (w6 : (Jvm.Cond.instanceMethod y).before a0 Z = true) (w4 : (Jvm.Cond.code y bytes mL' ret').before a0 Z = true) (w5 : (Jvm.Cond.initialized y.cls).before a0 Z = true) (hy : y.cls ≠ "java/lang/invoke/MethodHandle" ∧ y.cls ≠ "java/lang/invoke/VarHandle") (hfr : rm.frames + 1 ≤ R.frames) (hlo : W + (mL' + 11) + rm.locals ≤ R.locals) (hce : k + rm.cells ≤ R.cells) (hsl : n + rm.slots ≤ R.slots) (hsz : Ls.size = mL) (has : (.ref a :: argsL).toArray = as') (hlen : ∀ sig, parseMethodDescriptor y.desc = some sig → argsL.length = sig.parameters.length) (hst : st = argsL.reverse ++ .ref a :: rest) (hW : (rest.map fun v => v.category).sum ≤ W) (hd : Dc code pc (.invokevirtual i) 3 q) (g : ∀ T v h', Q' v h' → St n0 p l e R s m args below meth c (k + rm.cells) (n + rm.slots) h' T → Wp n0 p e R s below Q T (mkF m q Ls (v.toList ++ rest))) : Wp n0 p e R s below Q T (mkF m pc Ls st) := by
  obtain ⟨hx, hby, hml, -, -, hown, hZ, hmn⟩ := K; obtain ⟨locs, S, e1, N, z⟩ := S; obtain ⟨hd, rfl⟩ := hd; subst hst has
  obtain ⟨cq, kq, qa, qb, qc⟩ := isOf hZ e1 E
  obtain ⟨v1, _, ⟨T1, L1, k1, n1⟩, -, S1, ⟨Lc1, hQ1, l1, y1, z1⟩, st1⟩ := S.virtualBack hx (y := y) (z := y) hown (mvT hZ w1) (mvT hZ w2) (notFace_of_selects (args := #[]) (mvT hZ w3)) (mvT hZ w3) (mvT hZ w6) hy (backOf (W := W) (Q := fun v h L => Q' v h ∧ n0 ≤ h.size ∧ Fr n0 L) M hZ w4 w5 hfr hlo) qa qc (g := mkF m pc Ls (argsL.reverse ++ .ref a :: rest)) rfl (by rw [hml]; exact hsz) (Steps.refl _) (argsL := argsL) (rest := rest) hlen rfl (by show 2 * 0 + _ ≤ _; omega) (hb hby hd) (fun _ _ => ⟨rfl, e1, hce, hsl⟩)
  dsimp only [Pt.U, Pt.locs, Pt.cells, Pt.slots] at S1 l1 y1 z1 st1 hQ1
  subst l1 y1 z1
  exact wp_mono (fun t hr => st1.trans hr) (g T1 v1 T1.heap hQ1.1 ⟨_, S1, rfl, Fr.app N hQ1.2.2, hQ1.2.1⟩)
theorem callP (K : Cx own code mL ret mn n0 Z p l e R s m args below meth c) (S : St n0 p l e R s m args below meth c k n h T) {i mL' W : Nat} {y : MethodName} {bytes : ByteArray} {ret' : Option FieldType} {rm : Room} {as' : Array Value} {Q' : Option Value → Heap → Prop} {argsL : List Value} (M : Met n0 l Z y bytes mL' ret' rm [] as' h Q') (E : Exa Z h a y.cls) {y2 : MethodName} (hy2 : y2.cls = y.cls) (w1 : (Jvm.Cond.methodLink own i y).before a0 Z = true) (w2 : (Jvm.Cond.privateMethod y).before a0 Z = true) (w3 : (Jvm.Cond.selects y.cls y2 y2).before a0 Z = true) (w6 : (Jvm.Cond.instanceMethod y).before a0 Z = true) (w4 : (Jvm.Cond.code y bytes mL' ret').before a0 Z = true) (w5 : (Jvm.Cond.initialized y.cls).before a0 Z = true) (hy : y.cls ≠ "java/lang/invoke/MethodHandle" ∧ y.cls ≠ "java/lang/invoke/VarHandle") (hfr : rm.frames + 1 ≤ R.frames) (hlo : W + (mL' + 11) + rm.locals ≤ R.locals) (hce : k + rm.cells ≤ R.cells) (hsl : n + rm.slots ≤ R.slots) (hsz : Ls.size = mL) (has : (.ref a :: argsL).toArray = as') (hlen : ∀ sig, parseMethodDescriptor y.desc = some sig → argsL.length = sig.parameters.length) (hst : st = argsL.reverse ++ .ref a :: rest) (hW : (rest.map fun v => v.category).sum ≤ W) (hd : Dc code pc (.invokevirtual i) 3 q) (g : ∀ T v h', Q' v h' → St n0 p l e R s m args below meth c (k + rm.cells) (n + rm.slots) h' T → Wp n0 p e R s below Q T (mkF m q Ls (v.toList ++ rest))) : Wp n0 p e R s below Q T (mkF m pc Ls st) := by
  obtain ⟨hx, hby, hml, -, -, hown, hZ, hmn⟩ := K; obtain ⟨locs, S, e1, N, z⟩ := S; obtain ⟨hd, rfl⟩ := hd; subst hst has
  obtain ⟨cq, q1, q2⟩ := E.cell
  have w3' : (Jvm.Cond.selects y.cls y2 y2).before (args := #[]) s = true := mvT hZ w3
  have wp' := Cond.privateMethod_at (mvP hZ w2 (args := #[]))
  have w6' : (Jvm.Cond.instanceMethod y).before args s = true := mvT hZ w6
  obtain ⟨c1, r1, m1, f1, f2, f3, f4, k2, f5, f6⟩ := Cond.selects_spec w3'
  have f7 : s.vm.findClass y.cls = some m1.cls := by rw [← hy2]; exact findClass_of_methodNamed f3
  have hsel : (Jvm.Cond.selects y.cls y y).before args s = true := Stand.selects_self_of_private f7 f5 f6 wp' w6' hy
  obtain ⟨v1, _, ⟨T1, L1, k1, n1⟩, -, S1, ⟨Lc1, hQ1, l1, y1, z1⟩, st1⟩ := S.privateBack hx (y := y) hown (mvT hZ w1) w6' hsel wp' (mvT hZ w4) hy (backOf (W := W) (Q := fun v h L => Q' v h ∧ n0 ≤ h.size ∧ Fr n0 L) M hZ w4 w5 hfr hlo) (g := mkF m pc Ls (argsL.reverse ++ .ref a :: rest)) rfl (by rw [hml]; exact hsz) (Steps.refl _) (a := a) (by rw [e1]; exact q1) q2 (argsL := argsL) (rest := rest) hlen rfl (by show 2 * 0 + _ ≤ _; omega) (hb hby hd) (fun _ _ => ⟨rfl, e1, hce, hsl⟩)
  dsimp only [Pt.U, Pt.locs, Pt.cells, Pt.slots] at S1 l1 y1 z1 st1 hQ1
  subst l1 y1 z1
  exact wp_mono (fun t hr => st1.trans hr) (g T1 v1 T1.heap hQ1.1 ⟨_, S1, rfl, Fr.app N hQ1.2.2, hQ1.2.1⟩)
end Kit
end Jvm.Own
namespace Jvm.Pilot.@@N@@
open Jvm Jvm.ClassFile Sem Op Lib Jvm.Free Jvm.Stand Jvm.LawKit Jvm.RoadKit Bundle Jvm.Pilot.@@N@@.Jvm.D Jvm.Own
theorem hwi {a0 : Array Value} {Z : State} (hw : ∀ d ∈ tables_1, d.before a0 Z = true) (i : Nat) {d : Jvm.Cond} (h : tables_1[i]? = some d) : d.before a0 Z = true := hw _ (List.mem_of_getElem? h)
theorem own_getD {xs : List Int32} {k : Nat} (h : k < xs.length) : (xs.map Value.int)[k]? = some (.int (xs.getD k 0)) := by
  simp [List.getElem?_map, h]
theorem own_getL {xs : List Int64} {k : Nat} (h : k < xs.length) : (xs.map Value.long)[k]? = some (.long (xs.getD k 0)) := by
  simp [List.getElem?_map, h]
theorem own_ss {xs : List Int32} {k : Nat} {z : Int32} (h : k < xs.length) : (xs.set k z).getD k 0 = z := by simp [List.getD_eq_getElem?_getD, h]
theorem own_so {xs : List Int32} {k j : Nat} {z : Int32} (h : ¬ j = k) : (xs.set k z).getD j 0 = xs.getD j 0 := by simp [List.getD_eq_getElem?_getD, List.getElem?_set_ne (Ne.symm h)]
theorem own_nc (y : Int32) : nar .char y.toUInt32.toUInt16.toUInt32.toInt32 = y.toUInt32.toUInt16.toUInt32.toInt32 := by simp only [nar, UInt32.toUInt32_toInt32, UInt16.toUInt16_toUInt32]
def dig (a : Nat) (q : Nat) : Int := 48 + ((a / 10 ^ q % 10 : Nat) : Int)
def own_P : List Int64 := [1, 10, 100, 1000, 10000, 100000, 1000000, 10000000]
theorem own_p10 : ∀ k : Fin 8, (own_P.getD k.val 0).toInt = ((10 ^ k.val : Nat) : Int) := by decide
theorem own_nzL {y : Int64} (h : 0 < y.toInt) : y ≠ 0 := fun q => by rw [q] at h; exact absurd h (by decide)
theorem own_ldv {a b : Int64} {x : Nat} {q : Nat} (hq : q < 8) (ha : a.toInt = (x : Int)) (hb : b.toInt = ((10 ^ q : Nat) : Int)) : (a / b).toInt = ((x / 10 ^ q : Nat) : Int) := by
  have h0 : 0 < 10 ^ q := Nat.pow_pos (by decide)
  have hne : b ≠ -1 := fun e => by
    rw [e] at hb
    have z1 : (-1 : Int64).toInt = -1 := rfl
    omega
  rw [Int64.toInt_div_of_ne_right a b hne, ha, hb, Int.tdiv_eq_ediv_of_nonneg (by omega)]
  rfl
theorem d1_0 : Dc prog_40_method_4_code 0 (.lload_n 0) 1 1 := ⟨by decide +kernel, rfl⟩
theorem d1_1 : Dc prog_40_method_4_code 1 (.lstore 5) 2 3 := ⟨by decide +kernel, rfl⟩
theorem d1_3 : Dc prog_40_method_4_code 3 (.iload 4) 2 5 := ⟨by decide +kernel, rfl⟩
theorem d1_5 : Dc prog_40_method_4_code 5 (.iload_n 2) 1 6 := ⟨by decide +kernel, rfl⟩
theorem d1_6 : Dc prog_40_method_4_code 6 (.iadd) 1 7 := ⟨by decide +kernel, rfl⟩
theorem d1_7 : Dc prog_40_method_4_code 7 (.iconst 1) 1 8 := ⟨by decide +kernel, rfl⟩
theorem d1_8 : Dc prog_40_method_4_code 8 (.isub) 1 9 := ⟨by decide +kernel, rfl⟩
theorem d1_9 : Dc prog_40_method_4_code 9 (.istore 7) 2 11 := ⟨by decide +kernel, rfl⟩
theorem d1_11 : Dc prog_40_method_4_code 11 (.iload 7) 2 13 := ⟨by decide +kernel, rfl⟩
theorem d1_13 : Dc prog_40_method_4_code 13 (.iload 4) 2 15 := ⟨by decide +kernel, rfl⟩
theorem d1_15 : Bc prog_40_method_4_code 15 (.if_icmp .lt 33) (33) 18 48 := ⟨by decide +kernel, rfl, by decide, by decide⟩
theorem d1_18 : Dc prog_40_method_4_code 18 (.aload_n 3) 1 19 := ⟨by decide +kernel, rfl⟩
theorem d1_19 : Dc prog_40_method_4_code 19 (.iload 7) 2 21 := ⟨by decide +kernel, rfl⟩
theorem d1_21 : Dc prog_40_method_4_code 21 (.ldc2_w 15) 3 24 := ⟨by decide +kernel, rfl⟩
theorem d1_24 : Dc prog_40_method_4_code 24 (.lload 5) 2 26 := ⟨by decide +kernel, rfl⟩
theorem d1_26 : Dc prog_40_method_4_code 26 (.ldc2_w 13) 3 29 := ⟨by decide +kernel, rfl⟩
theorem d1_29 : Dc prog_40_method_4_code 29 (.lrem) 1 30 := ⟨by decide +kernel, rfl⟩
theorem d1_30 : Dc prog_40_method_4_code 30 (.ladd) 1 31 := ⟨by decide +kernel, rfl⟩
theorem d1_31 : Dc prog_40_method_4_code 31 (.l2i) 1 32 := ⟨by decide +kernel, rfl⟩
theorem d1_32 : Dc prog_40_method_4_code 32 (.i2c) 1 33 := ⟨by decide +kernel, rfl⟩
theorem d1_33 : Dc prog_40_method_4_code 33 (.castore) 1 34 := ⟨by decide +kernel, rfl⟩
theorem d1_34 : Dc prog_40_method_4_code 34 (.lload 5) 2 36 := ⟨by decide +kernel, rfl⟩
theorem d1_36 : Dc prog_40_method_4_code 36 (.ldc2_w 13) 3 39 := ⟨by decide +kernel, rfl⟩
theorem d1_39 : Dc prog_40_method_4_code 39 (.ldiv) 1 40 := ⟨by decide +kernel, rfl⟩
theorem d1_40 : Dc prog_40_method_4_code 40 (.lstore 5) 2 42 := ⟨by decide +kernel, rfl⟩
theorem d1_42 : Dc prog_40_method_4_code 42 (.iinc 7 (-1)) 3 45 := ⟨by decide +kernel, rfl⟩
theorem d1_45 : Bc prog_40_method_4_code 45 (.goto (-34)) (-34) 48 11 := ⟨by decide +kernel, rfl, by decide, by decide⟩
theorem d1_48 : Dc prog_40_method_4_code 48 (.iload 4) 2 50 := ⟨by decide +kernel, rfl⟩
theorem d1_50 : Dc prog_40_method_4_code 50 (.iload_n 2) 1 51 := ⟨by decide +kernel, rfl⟩
theorem d1_51 : Dc prog_40_method_4_code 51 (.iadd) 1 52 := ⟨by decide +kernel, rfl⟩
theorem d1_52 : Dc prog_40_method_4_code 52 (.ireturn) 1 53 := ⟨by decide +kernel, rfl⟩
theorem ef_put (m : MethodId) (X : Int64) (cnt : Int32) (v : Addr) (sx : Int32) (xs : List Int32) (a : Nat) : entryFrame m #[.long X, .int cnt, .ref v, .int sx] 8 = mkF m 0 #[.val (.long X), .second, .val (.int cnt), .val (.ref v), .val (.int sx), .unset, .unset, .unset] [] := by first | (simp [entryFrame, mkF, argsToLocals, Value.category]; done) | rfl
set_option maxRecDepth 65536 in
set_option maxHeartbeats 40000000 in
theorem m_put (l : Launch) (Z : State) (a0 : Array Value) (hw : ∀ d ∈ tables_1, d.before a0 Z = true) (n0 : Nat) (X : Int64) (cnt : Int32) (v : Addr) (sx : Int32) (xs : List Int32) (a : Nat) (h : Heap) (hn : n0 ≤ h.size) (g_v : n0 ≤ v) (A_v : VA Z h v .char (xs.map Value.int)) (hl0 : xs.length = 11) (hX : X.toInt = (a : Int)) (p0 : 0 ≤ cnt.toInt) (p1 : cnt.toInt ≤ 8) (p2 : 0 ≤ sx.toInt) (p3 : sx.toInt ≤ 2) : Met n0 l Z (⟨"com/example/hectonano/hectonano/internal/AsciiDigits", "put", "(JI[CI)I"⟩ : MethodName) prog_40_method_4_code 8 (some .int) ({ frames := 0, cells := 0, slots := 0, locals := 0 } : Room) [] #[.long X, .int cnt, .ref v, .int sx] h (Er (fun r h' => r.toInt = sx.toInt + cnt.toInt ∧ ∃ ys : List Int32, VA Z h' v .char (ys.map Value.int) ∧ ys.length = 11 ∧ (∀ j : Nat, j < 11 → (ys.getD j 0).toInt = if sx.toInt ≤ j ∧ (j : Int) < sx.toInt + cnt.toInt then dig a (sx.toInt + cnt.toInt - 1 - j).toNat else (xs.getD j 0).toInt) ∧ Keep h h' [v])) := by
  refine enter (plainFor_of_name (by first | (simp [plainName, overriddenIn]; done) | decide +kernel)) (fun m => ef_put m X cnt v sx xs a) hn ?_
  intro p e s m below meth c T K S
  have rX := rng64 X
  have loop : ∀ (d : Nat) (i : Int32) (R0 : Int64) (ys : List Int32) (hc : Heap) (T : State), St n0 p l e ({ frames := 0, cells := 0, slots := 0, locals := 0 } : Room) s m #[.long X, .int cnt, .ref v, .int sx] below meth c 0 0 hc T → d = (i.toInt - sx.toInt + 1).toNat → sx.toInt - 1 ≤ i.toInt → i.toInt ≤ sx.toInt + cnt.toInt - 1 → R0.toInt = ((a / 10 ^ (sx.toInt + cnt.toInt - 1 - i.toInt).toNat : Nat) : Int) → ys.length = 11 → (∀ j : Nat, j < 11 → (ys.getD j 0).toInt = if i.toInt < j ∧ (j : Int) < sx.toInt + cnt.toInt then dig a (sx.toInt + cnt.toInt - 1 - j).toNat else (xs.getD j 0).toInt) → VA Z hc v .char (ys.map Value.int) → Keep h hc [v] → Wp n0 p e ({ frames := 0, cells := 0, slots := 0, locals := 0 } : Room) s below (Er (fun r h' => r.toInt = sx.toInt + cnt.toInt ∧ ∃ ys : List Int32, VA Z h' v .char (ys.map Value.int) ∧ ys.length = 11 ∧ (∀ j : Nat, j < 11 → (ys.getD j 0).toInt = if sx.toInt ≤ j ∧ (j : Int) < sx.toInt + cnt.toInt then dig a (sx.toInt + cnt.toInt - 1 - j).toNat else (xs.getD j 0).toInt) ∧ Keep h h' [v])) T (mkF m 11 #[.val (.long X), .second, .val (.int cnt), .val (.ref v), .val (.int sx), .val (.long R0), .second, .val (.int i)] []) := by
    intro d
    induction d using Nat.strongRecOn with
    | ind d ih =>
      intro i R0 ys hc T S hd hi1 hi2 hR hl hy A_v Kp
      have ri := rng32 i
      have rR := rng64 R0
      have R0p : 0 ≤ R0.toInt := by rw [hR]; exact Int.natCast_nonneg _
      refine iload K S rfl d1_11 ?_
      refine iload K S rfl d1_13 ?_
      refine icmpz_lt K S d1_15 (fun (c15 : i.toInt < sx.toInt) => ?_) (fun (c15 : ¬ i.toInt < sx.toInt) => ?_)
      · refine iload K S rfl d1_48 ?_
        refine iload_n K S rfl d1_50 ?_
        refine iadd K S d1_51 ?_
        refine nmI fun t51 ht51 => ?_
        have ft51 : (t51.toInt - (sx.toInt + cnt.toInt)) % 4294967296 = 0 := by rw [ht51]; exact c_iadd sx cnt
        have rt51 := rng32 t51
        refine reti K S (by decide) (by decide) d1_52 ?_
        refine ⟨_, rfl, by omega, ys, A_v, hl, fun j hj => ?_, Kp⟩
        rw [hy j hj]
        by_cases q2 : sx.toInt ≤ j ∧ (j : Int) < sx.toInt + cnt.toInt
        · rw [if_pos q2, if_pos (by omega)]
        rw [if_neg q2, if_neg (by omega)]
      refine aload_n K S rfl rfl d1_18 ?_
      refine iload K S rfl d1_19 ?_
      refine ldc2 K S (X := (48 : Int64)) (hwi hw 15 rfl) d1_21 ?_
      refine lload K S rfl d1_24 ?_
      refine ldc2 K S (X := (10 : Int64)) (hwi hw 16 rfl) d1_26 ?_
      refine lrem K S (by decide) d1_29 ?_
      refine nmL fun t29 ht29 => ?_
      have ft29 : t29.toInt = R0.toInt % 10 := by rw [ht29]; exact (own_lrem R0 (10 : Int64) 10 rfl).1 (by omega)
      have rt29 := rng64 t29
      refine ladd K S d1_30 ?_
      refine nmL fun t30 ht30 => ?_
      have ft30 : (t30.toInt - (48 + t29.toInt)) % 18446744073709551616 = 0 := by rw [ht30]; exact c_ladd (48 : Int64) t29
      have rt30 := rng64 t30
      refine l2i K S d1_31 ?_
      refine nmI fun t31 ht31 => ?_
      have ft31 : (t31.toInt - t30.toInt) % 4294967296 = 0 := by rw [ht31]; exact c_l2i t30
      have rt31 := rng32 t31
      refine i2c K S d1_32 ?_
      refine nmI fun t32 ht32 => ?_
      have ft32 : (t32.toInt - t31.toInt) % 65536 = 0 ∧ 0 ≤ t32.toInt ∧ t32.toInt < 65536 := by rw [ht32]; exact c_i2c t31
      have rt32 := rng32 t32
      refine castore K S (i := i.toInt.toNat) A_v (own_ix (by omega)) (by rw [List.length_map, hl]; omega) g_v d1_33 fun T h33_1 W B S => ?_
      replace Kp := Kp.wr W (Or.inl (by simp))
      clear W
      replace A_v : VA Z h33_1 v .char ((ys.set i.toInt.toNat t32).map Value.int) := (by rw [show nar .char t32 = t32 by rw [ht32]; exact own_nc _] at B; rw [List.map_set]; exact B)
      refine lload K S rfl d1_34 ?_
      refine ldc2 K S (X := (10 : Int64)) (hwi hw 16 rfl) d1_36 ?_
      refine ldiv K S (by decide) d1_39 ?_
      refine nmL fun t39 ht39 => ?_
      have ft39 : t39.toInt = R0.toInt / 10 := by rw [ht39]; exact (c_ldiv R0 (10 : Int64) 10 rfl (by decide)).1 (by omega)
      have rt39 := rng64 t39
      refine lstore K S (l' := #[.val (.long X), .second, .val (.int cnt), .val (.ref v), .val (.int sx), .val (.long t39), .second, .val (.int i)]) rfl d1_40 ?_
      refine iinc K S (y := (-1 : Int32)) (x := i) (l' := #[.val (.long X), .second, .val (.int cnt), .val (.ref v), .val (.int sx), .val (.long t39), .second, .val (.int (i + (-1 : Int32)))]) rfl rfl rfl d1_42 ?_
      obtain ⟨v42, hv42⟩ : ∃ z, z = i + (-1 : Int32) := ⟨_, rfl⟩
      rw [← hv42]
      have fv42 : (v42.toInt - (i.toInt + (-1))) % 4294967296 = 0 := by rw [hv42]; exact c_iadd i (-1 : Int32)
      have rv42 := rng32 v42
      refine goto K S d1_45 ?_
      refine ih (v42.toInt - sx.toInt + 1).toNat (by omega) v42 t39 (ys.set i.toInt.toNat t32) h33_1 T S rfl (by omega) (by omega) ?_ (by simp [hl]) (fun j hj => ?_) A_v Kp
      · have e : (sx.toInt + cnt.toInt - 1 - v42.toInt).toNat = (sx.toInt + cnt.toInt - 1 - i.toInt).toNat + 1 := by omega
        have e2 : t39.toInt = R0.toInt / 10 := ft39
        rw [e, Nat.pow_succ, ← Nat.div_div_eq_div_mul, e2, hR]
        rfl
      by_cases q : j = i.toInt.toNat
      · subst q
        rw [own_ss (by rw [hl]; exact hj), if_pos (by omega)]
        have e : (sx.toInt + cnt.toInt - 1 - ((i.toInt.toNat : Nat) : Int)).toNat = (sx.toInt + cnt.toInt - 1 - i.toInt).toNat := by omega
        rw [dig, e]
        generalize a / 10 ^ (sx.toInt + cnt.toInt - 1 - i.toInt).toNat = y at *
        omega
      rw [own_so q, hy j hj]
      by_cases q2 : i.toInt < j ∧ (j : Int) < sx.toInt + cnt.toInt
      · rw [if_pos q2, if_pos (by omega)]
      rw [if_neg q2, if_neg (by omega)]
  refine lload_n K S rfl d1_0 ?_
  refine lstore K S (l' := #[.val (.long X), .second, .val (.int cnt), .val (.ref v), .val (.int sx), .val (.long X), .second, .unset]) rfl d1_1 ?_
  refine iload K S rfl d1_3 ?_
  refine iload_n K S rfl d1_5 ?_
  refine iadd K S d1_6 ?_
  refine nmI fun t6 ht6 => ?_
  have ft6 : (t6.toInt - (sx.toInt + cnt.toInt)) % 4294967296 = 0 := by rw [ht6]; exact c_iadd sx cnt
  have rt6 := rng32 t6
  refine iconst K S (x := (1 : Int32)) rfl d1_7 ?_
  refine isub K S d1_8 ?_
  refine nmI fun t8 ht8 => ?_
  have ft8 : (t8.toInt - (t6.toInt - 1)) % 4294967296 = 0 := by rw [ht8]; exact c_isub t6 (1 : Int32)
  have rt8 := rng32 t8
  refine istore K S (l' := #[.val (.long X), .second, .val (.int cnt), .val (.ref v), .val (.int sx), .val (.long X), .second, .val (.int t8)]) rfl d1_9 ?_
  refine loop _ t8 X xs h T S rfl (by omega) (by omega) ?_ hl0 (fun j hj => ?_) A_v (Keep.refl _ _)
  · have e : (sx.toInt + cnt.toInt - 1 - t8.toInt).toNat = 0 := by omega
    rw [e, hX]; simp
  rw [if_neg (by omega)]

theorem d2_0 : Dc method_2_code 0 (.iload_n 1) 1 1 := ⟨by decide +kernel, rfl⟩
theorem d2_1 : Dc method_2_code 1 (.iload 5) 2 3 := ⟨by decide +kernel, rfl⟩
theorem d2_3 : Bc method_2_code 3 (.if_icmp .lt 45) (45) 6 48 := ⟨by decide +kernel, rfl, by decide, by decide⟩
theorem d2_6 : Dc method_2_code 6 (.iload_n 1) 1 7 := ⟨by decide +kernel, rfl⟩
theorem d2_7 : Dc method_2_code 7 (.iload 5) 2 9 := ⟨by decide +kernel, rfl⟩
theorem d2_9 : Dc method_2_code 9 (.iload 4) 2 11 := ⟨by decide +kernel, rfl⟩
theorem d2_11 : Dc method_2_code 11 (.iadd) 1 12 := ⟨by decide +kernel, rfl⟩
theorem d2_12 : Bc method_2_code 12 (.if_icmp .ge 36) (36) 15 48 := ⟨by decide +kernel, rfl, by decide, by decide⟩
theorem d2_15 : Dc method_2_code 15 (.iload 5) 2 17 := ⟨by decide +kernel, rfl⟩
theorem d2_17 : Dc method_2_code 17 (.iload 4) 2 19 := ⟨by decide +kernel, rfl⟩
theorem d2_19 : Dc method_2_code 19 (.iadd) 1 20 := ⟨by decide +kernel, rfl⟩
theorem d2_20 : Dc method_2_code 20 (.iconst 1) 1 21 := ⟨by decide +kernel, rfl⟩
theorem d2_21 : Dc method_2_code 21 (.isub) 1 22 := ⟨by decide +kernel, rfl⟩
theorem d2_22 : Dc method_2_code 22 (.iload_n 1) 1 23 := ⟨by decide +kernel, rfl⟩
theorem d2_23 : Dc method_2_code 23 (.isub) 1 24 := ⟨by decide +kernel, rfl⟩
theorem d2_24 : Dc method_2_code 24 (.istore 9) 2 26 := ⟨by decide +kernel, rfl⟩
theorem d2_26 : Dc method_2_code 26 (.ldc2_w 7) 3 29 := ⟨by decide +kernel, rfl⟩
theorem d2_29 : Dc method_2_code 29 (.lload_n 2) 1 30 := ⟨by decide +kernel, rfl⟩
theorem d2_30 : Dc method_2_code 30 (.aload 7) 2 32 := ⟨by decide +kernel, rfl⟩
theorem d2_32 : Dc method_2_code 32 (.iload 9) 2 34 := ⟨by decide +kernel, rfl⟩
theorem d2_34 : Dc method_2_code 34 (.laload) 1 35 := ⟨by decide +kernel, rfl⟩
theorem d2_35 : Dc method_2_code 35 (.ldiv) 1 36 := ⟨by decide +kernel, rfl⟩
theorem d2_36 : Dc method_2_code 36 (.ldc2_w 9) 3 39 := ⟨by decide +kernel, rfl⟩
theorem d2_39 : Dc method_2_code 39 (.lrem) 1 40 := ⟨by decide +kernel, rfl⟩
theorem d2_40 : Dc method_2_code 40 (.ladd) 1 41 := ⟨by decide +kernel, rfl⟩
theorem d2_41 : Dc method_2_code 41 (.l2i) 1 42 := ⟨by decide +kernel, rfl⟩
theorem d2_42 : Dc method_2_code 42 (.i2c) 1 43 := ⟨by decide +kernel, rfl⟩
theorem d2_43 : Dc method_2_code 43 (.istore 8) 2 45 := ⟨by decide +kernel, rfl⟩
theorem d2_45 : Bc method_2_code 45 (.goto 7) (7) 48 52 := ⟨by decide +kernel, rfl, by decide, by decide⟩
theorem d2_48 : Dc method_2_code 48 (.iload 6) 2 50 := ⟨by decide +kernel, rfl⟩
theorem d2_50 : Dc method_2_code 50 (.istore 8) 2 52 := ⟨by decide +kernel, rfl⟩
theorem d2_52 : Dc method_2_code 52 (.aload_n 0) 1 53 := ⟨by decide +kernel, rfl⟩
theorem d2_53 : Dc method_2_code 53 (.iload_n 1) 1 54 := ⟨by decide +kernel, rfl⟩
theorem d2_54 : Dc method_2_code 54 (.caload) 1 55 := ⟨by decide +kernel, rfl⟩
theorem d2_55 : Dc method_2_code 55 (.iload 8) 2 57 := ⟨by decide +kernel, rfl⟩
theorem d2_57 : Bc method_2_code 57 (.if_icmp .ne 7) (7) 60 64 := ⟨by decide +kernel, rfl, by decide, by decide⟩
theorem d2_60 : Dc method_2_code 60 (.iconst 1) 1 61 := ⟨by decide +kernel, rfl⟩
theorem d2_61 : Bc method_2_code 61 (.goto 4) (4) 64 65 := ⟨by decide +kernel, rfl, by decide, by decide⟩
theorem d2_64 : Dc method_2_code 64 (.iconst 0) 1 65 := ⟨by decide +kernel, rfl⟩
theorem d2_65 : Dc method_2_code 65 (.ireturn) 1 66 := ⟨by decide +kernel, rfl⟩
theorem ef_cell (m : MethodId) (v : Addr) (j : Int32) (X : Int64) (cnt : Int32) (sx : Int32) (zz : Int32) (u : Addr) (ys : List Int32) (a : Nat) : entryFrame m #[.ref v, .int j, .long X, .int cnt, .int sx, .int zz, .ref u] 10 = mkF m 0 #[.val (.ref v), .val (.int j), .val (.long X), .second, .val (.int cnt), .val (.int sx), .val (.int zz), .val (.ref u), .unset, .unset] [] := by first | (simp [entryFrame, mkF, argsToLocals, Value.category]; done) | rfl
set_option maxRecDepth 65536 in
set_option maxHeartbeats 40000000 in
theorem m_cell (l : Launch) (Z : State) (a0 : Array Value) (hw : ∀ d ∈ tables_1, d.before a0 Z = true) (n0 : Nat) (v : Addr) (j : Int32) (X : Int64) (cnt : Int32) (sx : Int32) (zz : Int32) (u : Addr) (ys : List Int32) (a : Nat) (h : Heap) (hn : n0 ≤ h.size) (A_v : VA Z h v .char (ys.map Value.int)) (A_u : VA Z h u .long (own_P.map Value.long)) (hl : ys.length = 11) (hX : X.toInt = (a : Int)) (p0 : 0 ≤ cnt.toInt) (p1 : cnt.toInt ≤ 8) (p2 : 0 ≤ sx.toInt) (p3 : sx.toInt ≤ 2) (p4 : 0 ≤ j.toInt) (p5 : j.toInt ≤ 10) (hv : (ys.getD j.toInt.toNat 0).toInt = if sx.toInt ≤ j.toInt ∧ j.toInt < sx.toInt + cnt.toInt then dig a (sx.toInt + cnt.toInt - 1 - j.toInt).toNat else zz.toInt) : Met n0 l Z (⟨"com/example/hectonano/hectonano/internal/AsciiDigitsPutPinLaw", "cell", "([CIJIIC[J)Z"⟩ : MethodName) method_2_code 10 (some .boolean) ({ frames := 0, cells := 0, slots := 0, locals := 0 } : Room) [] #[.ref v, .int j, .long X, .int cnt, .int sx, .int zz, .ref u] h (Pu (some (.int 1)) h) := by
  refine enter (plainFor_of_name (by first | (simp [plainName, overriddenIn]; done) | decide +kernel)) (fun m => ef_cell m v j X cnt sx zz u ys a) hn ?_
  intro p e s m below meth c T K S
  have rX := rng64 X
  refine iload_n K S rfl d2_0 ?_
  refine iload K S rfl d2_1 ?_
  refine icmpz_lt K S d2_3 (fun (c3 : j.toInt < sx.toInt) => ?_) (fun (c3 : ¬ j.toInt < sx.toInt) => ?_)
  · refine iload K S rfl d2_48 ?_
    refine istore K S (l' := #[.val (.ref v), .val (.int j), .val (.long X), .second, .val (.int cnt), .val (.int sx), .val (.int zz), .val (.ref u), .val (.int zz), .unset]) rfl d2_50 ?_
    refine aload_n K S rfl rfl d2_52 ?_
    refine iload_n K S rfl d2_53 ?_
    refine caload K S (i := j.toInt.toNat) A_v (own_ix (by omega)) (own_getD (by omega)) d2_54 ?_
    refine nmI fun u54 hu54 => ?_
    refine iload K S rfl d2_55 ?_
    refine icmpz_ne K S d2_57 (fun (c57 : ¬ u54.toInt = zz.toInt) => ?_) (fun (c57 : u54.toInt = zz.toInt) => ?_)
    · exfalso
      rw [if_neg (by omega), ← hu54] at hv
      omega
    refine iconst K S (x := (1 : Int32)) rfl d2_60 ?_
    refine goto K S d2_61 ?_
    refine retn K S (by simp) (y := (1 : Int32)) rfl (by decide) (by decide) d2_65 ?_
    exact ⟨rfl, rfl⟩
  refine iload_n K S rfl d2_6 ?_
  refine iload K S rfl d2_7 ?_
  refine iload K S rfl d2_9 ?_
  refine iadd K S d2_11 ?_
  refine nmI fun t11 ht11 => ?_
  have ft11 : (t11.toInt - (sx.toInt + cnt.toInt)) % 4294967296 = 0 := by rw [ht11]; exact c_iadd sx cnt
  have rt11 := rng32 t11
  refine icmpz_ge K S d2_12 (fun (c12 : ¬ j.toInt < t11.toInt) => ?_) (fun (c12 : j.toInt < t11.toInt) => ?_)
  · refine iload K S rfl d2_48 ?_
    refine istore K S (l' := #[.val (.ref v), .val (.int j), .val (.long X), .second, .val (.int cnt), .val (.int sx), .val (.int zz), .val (.ref u), .val (.int zz), .unset]) rfl d2_50 ?_
    refine aload_n K S rfl rfl d2_52 ?_
    refine iload_n K S rfl d2_53 ?_
    refine caload K S (i := j.toInt.toNat) A_v (own_ix (by omega)) (own_getD (by omega)) d2_54 ?_
    refine nmI fun u54 hu54 => ?_
    refine iload K S rfl d2_55 ?_
    refine icmpz_ne K S d2_57 (fun (c57 : ¬ u54.toInt = zz.toInt) => ?_) (fun (c57 : u54.toInt = zz.toInt) => ?_)
    · exfalso
      rw [if_neg (by omega), ← hu54] at hv
      omega
    refine iconst K S (x := (1 : Int32)) rfl d2_60 ?_
    refine goto K S d2_61 ?_
    refine retn K S (by simp) (y := (1 : Int32)) rfl (by decide) (by decide) d2_65 ?_
    exact ⟨rfl, rfl⟩
  refine iload K S rfl d2_15 ?_
  refine iload K S rfl d2_17 ?_
  refine iadd K S d2_19 ?_
  refine nmI fun t19 ht19 => ?_
  have ft19 : (t19.toInt - (sx.toInt + cnt.toInt)) % 4294967296 = 0 := by rw [ht19]; exact c_iadd sx cnt
  have rt19 := rng32 t19
  refine iconst K S (x := (1 : Int32)) rfl d2_20 ?_
  refine isub K S d2_21 ?_
  refine nmI fun t21 ht21 => ?_
  have ft21 : (t21.toInt - (t19.toInt - 1)) % 4294967296 = 0 := by rw [ht21]; exact c_isub t19 (1 : Int32)
  have rt21 := rng32 t21
  refine iload_n K S rfl d2_22 ?_
  refine isub K S d2_23 ?_
  refine nmI fun t23 ht23 => ?_
  have ft23 : (t23.toInt - (t21.toInt - j.toInt)) % 4294967296 = 0 := by rw [ht23]; exact c_isub t21 j
  have rt23 := rng32 t23
  refine istore K S (l' := #[.val (.ref v), .val (.int j), .val (.long X), .second, .val (.int cnt), .val (.int sx), .val (.int zz), .val (.ref u), .unset, .val (.int t23)]) rfl d2_24 ?_
  refine ldc2 K S (X := (48 : Int64)) (hwi hw 21 rfl) d2_26 ?_
  refine lload_n K S rfl d2_29 ?_
  refine aload K S rfl rfl d2_30 ?_
  refine iload K S rfl d2_32 ?_
  refine laload K S (i := t23.toInt.toNat) A_u (own_ix (by omega)) (own_getL (show _ < 8 by omega)) d2_34 ?_
  refine nmL fun u34 hu34 => ?_
  have fu : u34.toInt = ((10 ^ t23.toInt.toNat : Nat) : Int) := by rw [hu34]; exact own_p10 ⟨t23.toInt.toNat, by omega⟩
  have pu : 0 < 10 ^ t23.toInt.toNat := Nat.pow_pos (by decide)
  refine ldiv K S (own_nzL (by omega)) d2_35 ?_
  refine nmL fun t35 ht35 => ?_
  have rt35 := rng64 t35
  have ft35 : t35.toInt = ((a / 10 ^ t23.toInt.toNat : Nat) : Int) := by rw [ht35]; exact own_ldv (by omega) hX fu
  have pt35 : 0 ≤ t35.toInt := by rw [ft35]; exact Int.natCast_nonneg _
  refine ldc2 K S (X := (10 : Int64)) (hwi hw 3 rfl) d2_36 ?_
  refine lrem K S (by decide) d2_39 ?_
  refine nmL fun t39 ht39 => ?_
  have ft39 : t39.toInt = t35.toInt % 10 := by rw [ht39]; exact (own_lrem t35 (10 : Int64) 10 rfl).1 (by omega)
  have rt39 := rng64 t39
  refine ladd K S d2_40 ?_
  refine nmL fun t40 ht40 => ?_
  have ft40 : (t40.toInt - (48 + t39.toInt)) % 18446744073709551616 = 0 := by rw [ht40]; exact c_ladd (48 : Int64) t39
  have rt40 := rng64 t40
  refine l2i K S d2_41 ?_
  refine nmI fun t41 ht41 => ?_
  have ft41 : (t41.toInt - t40.toInt) % 4294967296 = 0 := by rw [ht41]; exact c_l2i t40
  have rt41 := rng32 t41
  refine i2c K S d2_42 ?_
  refine nmI fun t42 ht42 => ?_
  have ft42 : (t42.toInt - t41.toInt) % 65536 = 0 ∧ 0 ≤ t42.toInt ∧ t42.toInt < 65536 := by rw [ht42]; exact c_i2c t41
  have rt42 := rng32 t42
  refine istore K S (l' := #[.val (.ref v), .val (.int j), .val (.long X), .second, .val (.int cnt), .val (.int sx), .val (.int zz), .val (.ref u), .val (.int t42), .val (.int t23)]) rfl d2_43 ?_
  refine goto K S d2_45 ?_
  refine aload_n K S rfl rfl d2_52 ?_
  refine iload_n K S rfl d2_53 ?_
  refine caload K S (i := j.toInt.toNat) A_v (own_ix (by omega)) (own_getD (by omega)) d2_54 ?_
  refine nmI fun u54 hu54 => ?_
  refine iload K S rfl d2_55 ?_
  refine icmpz_ne K S d2_57 (fun (c57 : ¬ u54.toInt = t42.toInt) => ?_) (fun (c57 : u54.toInt = t42.toInt) => ?_)
  · exfalso
    rw [if_pos (by omega), show (sx.toInt + cnt.toInt - 1 - j.toInt).toNat = t23.toInt.toNat by omega, dig] at hv
    rw [← hu54] at hv
    generalize a / 10 ^ t23.toInt.toNat = y at *
    omega
  refine iconst K S (x := (1 : Int32)) rfl d2_60 ?_
  refine goto K S d2_61 ?_
  refine retn K S (by simp) (y := (1 : Int32)) rfl (by decide) (by decide) d2_65 ?_
  exact ⟨rfl, rfl⟩

theorem d0_0 : Dc code 0 (.lload_n 0) 1 1 := ⟨at_0, rfl⟩
theorem d0_1 : Dc code 1 (.ldc2_w 13) 3 4 := ⟨at_1, rfl⟩
theorem d0_4 : Dc code 4 (.land) 1 5 := ⟨at_4, rfl⟩
theorem d0_5 : Dc code 5 (.lstore 5) 2 7 := ⟨at_5, rfl⟩
theorem d0_7 : Dc code 7 (.iload_n 2) 1 8 := ⟨at_7, rfl⟩
theorem d0_8 : Dc code 8 (.ldc 15) 2 10 := ⟨at_8, rfl⟩
theorem d0_10 : Dc code 10 (.iand) 1 11 := ⟨at_10, rfl⟩
theorem d0_11 : Dc code 11 (.bipush 9) 2 13 := ⟨at_11, rfl⟩
theorem d0_13 : Dc code 13 (.irem) 1 14 := ⟨at_13, rfl⟩
theorem d0_14 : Dc code 14 (.istore 7) 2 16 := ⟨at_14, rfl⟩
theorem d0_16 : Dc code 16 (.iload_n 3) 1 17 := ⟨at_16, rfl⟩
theorem d0_17 : Dc code 17 (.ldc 15) 2 19 := ⟨at_17, rfl⟩
theorem d0_19 : Dc code 19 (.iand) 1 20 := ⟨at_19, rfl⟩
theorem d0_20 : Dc code 20 (.iconst 3) 1 21 := ⟨at_20, rfl⟩
theorem d0_21 : Dc code 21 (.irem) 1 22 := ⟨at_21, rfl⟩
theorem d0_22 : Dc code 22 (.istore 8) 2 24 := ⟨at_22, rfl⟩
theorem d0_24 : Dc code 24 (.iload 4) 2 26 := ⟨at_24, rfl⟩
theorem d0_26 : Dc code 26 (.sipush 255) 3 29 := ⟨at_26, rfl⟩
theorem d0_29 : Dc code 29 (.iand) 1 30 := ⟨at_29, rfl⟩
theorem d0_30 : Dc code 30 (.i2c) 1 31 := ⟨at_30, rfl⟩
theorem d0_31 : Dc code 31 (.istore 9) 2 33 := ⟨at_31, rfl⟩
theorem d0_33 : Dc code 33 (.bipush 8) 2 35 := ⟨at_33, rfl⟩
theorem d0_35 : Dc code 35 (.newarray .long) 2 37 := ⟨at_35, rfl⟩
theorem d0_37 : Dc code 37 (.dup) 1 38 := ⟨at_37, rfl⟩
theorem d0_38 : Dc code 38 (.iconst 0) 1 39 := ⟨at_38, rfl⟩
theorem d0_39 : Dc code 39 (.lconst 1) 1 40 := ⟨at_39, rfl⟩
theorem d0_40 : Dc code 40 (.lastore) 1 41 := ⟨at_40, rfl⟩
theorem d0_41 : Dc code 41 (.dup) 1 42 := ⟨at_41, rfl⟩
theorem d0_42 : Dc code 42 (.iconst 1) 1 43 := ⟨at_42, rfl⟩
theorem d0_43 : Dc code 43 (.ldc2_w 9) 3 46 := ⟨at_43, rfl⟩
theorem d0_46 : Dc code 46 (.lastore) 1 47 := ⟨at_46, rfl⟩
theorem d0_47 : Dc code 47 (.dup) 1 48 := ⟨at_47, rfl⟩
theorem d0_48 : Dc code 48 (.iconst 2) 1 49 := ⟨at_48, rfl⟩
theorem d0_49 : Dc code 49 (.ldc2_w 16) 3 52 := ⟨at_49, rfl⟩
theorem d0_52 : Dc code 52 (.lastore) 1 53 := ⟨at_52, rfl⟩
theorem d0_53 : Dc code 53 (.dup) 1 54 := ⟨at_53, rfl⟩
theorem d0_54 : Dc code 54 (.iconst 3) 1 55 := ⟨at_54, rfl⟩
theorem d0_55 : Dc code 55 (.ldc2_w 18) 3 58 := ⟨at_55, rfl⟩
theorem d0_58 : Dc code 58 (.lastore) 1 59 := ⟨at_58, rfl⟩
theorem d0_59 : Dc code 59 (.dup) 1 60 := ⟨at_59, rfl⟩
theorem d0_60 : Dc code 60 (.iconst 4) 1 61 := ⟨at_60, rfl⟩
theorem d0_61 : Dc code 61 (.ldc2_w 20) 3 64 := ⟨at_61, rfl⟩
theorem d0_64 : Dc code 64 (.lastore) 1 65 := ⟨at_64, rfl⟩
theorem d0_65 : Dc code 65 (.dup) 1 66 := ⟨at_65, rfl⟩
theorem d0_66 : Dc code 66 (.iconst 5) 1 67 := ⟨at_66, rfl⟩
theorem d0_67 : Dc code 67 (.ldc2_w 22) 3 70 := ⟨at_67, rfl⟩
theorem d0_70 : Dc code 70 (.lastore) 1 71 := ⟨at_70, rfl⟩
theorem d0_71 : Dc code 71 (.dup) 1 72 := ⟨at_71, rfl⟩
theorem d0_72 : Dc code 72 (.bipush 6) 2 74 := ⟨at_72, rfl⟩
theorem d0_74 : Dc code 74 (.ldc2_w 24) 3 77 := ⟨at_74, rfl⟩
theorem d0_77 : Dc code 77 (.lastore) 1 78 := ⟨at_77, rfl⟩
theorem d0_78 : Dc code 78 (.dup) 1 79 := ⟨at_78, rfl⟩
theorem d0_79 : Dc code 79 (.bipush 7) 2 81 := ⟨at_79, rfl⟩
theorem d0_81 : Dc code 81 (.ldc2_w 26) 3 84 := ⟨at_81, rfl⟩
theorem d0_84 : Dc code 84 (.lastore) 1 85 := ⟨at_84, rfl⟩
theorem d0_85 : Dc code 85 (.astore 10) 2 87 := ⟨at_85, rfl⟩
theorem d0_87 : Dc code 87 (.bipush 11) 2 89 := ⟨at_87, rfl⟩
theorem d0_89 : Dc code 89 (.newarray .char) 2 91 := ⟨at_89, rfl⟩
theorem d0_91 : Dc code 91 (.dup) 1 92 := ⟨at_91, rfl⟩
theorem d0_92 : Dc code 92 (.iconst 0) 1 93 := ⟨at_92, rfl⟩
theorem d0_93 : Dc code 93 (.iload 9) 2 95 := ⟨at_93, rfl⟩
theorem d0_95 : Dc code 95 (.castore) 1 96 := ⟨at_95, rfl⟩
theorem d0_96 : Dc code 96 (.dup) 1 97 := ⟨at_96, rfl⟩
theorem d0_97 : Dc code 97 (.iconst 1) 1 98 := ⟨at_97, rfl⟩
theorem d0_98 : Dc code 98 (.iload 9) 2 100 := ⟨at_98, rfl⟩
theorem d0_100 : Dc code 100 (.castore) 1 101 := ⟨at_100, rfl⟩
theorem d0_101 : Dc code 101 (.dup) 1 102 := ⟨at_101, rfl⟩
theorem d0_102 : Dc code 102 (.iconst 2) 1 103 := ⟨at_102, rfl⟩
theorem d0_103 : Dc code 103 (.iload 9) 2 105 := ⟨at_103, rfl⟩
theorem d0_105 : Dc code 105 (.castore) 1 106 := ⟨at_105, rfl⟩
theorem d0_106 : Dc code 106 (.dup) 1 107 := ⟨at_106, rfl⟩
theorem d0_107 : Dc code 107 (.iconst 3) 1 108 := ⟨at_107, rfl⟩
theorem d0_108 : Dc code 108 (.iload 9) 2 110 := ⟨at_108, rfl⟩
theorem d0_110 : Dc code 110 (.castore) 1 111 := ⟨at_110, rfl⟩
theorem d0_111 : Dc code 111 (.dup) 1 112 := ⟨at_111, rfl⟩
theorem d0_112 : Dc code 112 (.iconst 4) 1 113 := ⟨at_112, rfl⟩
theorem d0_113 : Dc code 113 (.iload 9) 2 115 := ⟨at_113, rfl⟩
theorem d0_115 : Dc code 115 (.castore) 1 116 := ⟨at_115, rfl⟩
theorem d0_116 : Dc code 116 (.dup) 1 117 := ⟨at_116, rfl⟩
theorem d0_117 : Dc code 117 (.iconst 5) 1 118 := ⟨at_117, rfl⟩
theorem d0_118 : Dc code 118 (.iload 9) 2 120 := ⟨at_118, rfl⟩
theorem d0_120 : Dc code 120 (.castore) 1 121 := ⟨at_120, rfl⟩
theorem d0_121 : Dc code 121 (.dup) 1 122 := ⟨at_121, rfl⟩
theorem d0_122 : Dc code 122 (.bipush 6) 2 124 := ⟨at_122, rfl⟩
theorem d0_124 : Dc code 124 (.iload 9) 2 126 := ⟨at_124, rfl⟩
theorem d0_126 : Dc code 126 (.castore) 1 127 := ⟨at_126, rfl⟩
theorem d0_127 : Dc code 127 (.dup) 1 128 := ⟨at_127, rfl⟩
theorem d0_128 : Dc code 128 (.bipush 7) 2 130 := ⟨at_128, rfl⟩
theorem d0_130 : Dc code 130 (.iload 9) 2 132 := ⟨at_130, rfl⟩
theorem d0_132 : Dc code 132 (.castore) 1 133 := ⟨at_132, rfl⟩
theorem d0_133 : Dc code 133 (.dup) 1 134 := ⟨at_133, rfl⟩
theorem d0_134 : Dc code 134 (.bipush 8) 2 136 := ⟨at_134, rfl⟩
theorem d0_136 : Dc code 136 (.iload 9) 2 138 := ⟨at_136, rfl⟩
theorem d0_138 : Dc code 138 (.castore) 1 139 := ⟨at_138, rfl⟩
theorem d0_139 : Dc code 139 (.dup) 1 140 := ⟨at_139, rfl⟩
theorem d0_140 : Dc code 140 (.bipush 9) 2 142 := ⟨at_140, rfl⟩
theorem d0_142 : Dc code 142 (.iload 9) 2 144 := ⟨at_142, rfl⟩
theorem d0_144 : Dc code 144 (.castore) 1 145 := ⟨at_144, rfl⟩
theorem d0_145 : Dc code 145 (.dup) 1 146 := ⟨at_145, rfl⟩
theorem d0_146 : Dc code 146 (.bipush 10) 2 148 := ⟨at_146, rfl⟩
theorem d0_148 : Dc code 148 (.iload 9) 2 150 := ⟨at_148, rfl⟩
theorem d0_150 : Dc code 150 (.castore) 1 151 := ⟨at_150, rfl⟩
theorem d0_151 : Dc code 151 (.astore 11) 2 153 := ⟨at_151, rfl⟩
theorem d0_153 : Dc code 153 (.lload 5) 2 155 := ⟨at_153, rfl⟩
theorem d0_155 : Dc code 155 (.iload 7) 2 157 := ⟨at_155, rfl⟩
theorem d0_157 : Dc code 157 (.aload 11) 2 159 := ⟨at_157, rfl⟩
theorem d0_159 : Dc code 159 (.iload 8) 2 161 := ⟨at_159, rfl⟩
theorem d0_161 : Dc code 161 (.invokestatic 28) 3 164 := ⟨at_161, rfl⟩
theorem d0_164 : Dc code 164 (.istore 12) 2 166 := ⟨at_164, rfl⟩
theorem d0_166 : Dc code 166 (.iload 12) 2 168 := ⟨at_166, rfl⟩
theorem d0_168 : Dc code 168 (.iload 8) 2 170 := ⟨at_168, rfl⟩
theorem d0_170 : Dc code 170 (.iload 7) 2 172 := ⟨at_170, rfl⟩
theorem d0_172 : Dc code 172 (.iadd) 1 173 := ⟨at_172, rfl⟩
theorem d0_173 : Bc code 173 (.if_icmp .eq 5) (5) 176 178 := ⟨at_173, rfl, by decide, by decide⟩
theorem d0_176 : Dc code 176 (.iconst 0) 1 177 := ⟨at_176, rfl⟩
theorem d0_177 : Dc code 177 (.ireturn) 1 178 := ⟨at_177, rfl⟩
theorem d0_178 : Dc code 178 (.aload 11) 2 180 := ⟨at_178, rfl⟩
theorem d0_180 : Dc code 180 (.iconst 0) 1 181 := ⟨at_180, rfl⟩
theorem d0_181 : Dc code 181 (.lload 5) 2 183 := ⟨at_181, rfl⟩
theorem d0_183 : Dc code 183 (.iload 7) 2 185 := ⟨at_183, rfl⟩
theorem d0_185 : Dc code 185 (.iload 8) 2 187 := ⟨at_185, rfl⟩
theorem d0_187 : Dc code 187 (.iload 9) 2 189 := ⟨at_187, rfl⟩
theorem d0_189 : Dc code 189 (.aload 10) 2 191 := ⟨at_189, rfl⟩
theorem d0_191 : Dc code 191 (.invokestatic 34) 3 194 := ⟨at_191, rfl⟩
theorem d0_194 : Bc code 194 (.ifCond .eq 202) (202) 197 396 := ⟨at_194, rfl, by decide, by decide⟩
theorem d0_197 : Dc code 197 (.aload 11) 2 199 := ⟨at_197, rfl⟩
theorem d0_199 : Dc code 199 (.iconst 1) 1 200 := ⟨at_199, rfl⟩
theorem d0_200 : Dc code 200 (.lload 5) 2 202 := ⟨at_200, rfl⟩
theorem d0_202 : Dc code 202 (.iload 7) 2 204 := ⟨at_202, rfl⟩
theorem d0_204 : Dc code 204 (.iload 8) 2 206 := ⟨at_204, rfl⟩
theorem d0_206 : Dc code 206 (.iload 9) 2 208 := ⟨at_206, rfl⟩
theorem d0_208 : Dc code 208 (.aload 10) 2 210 := ⟨at_208, rfl⟩
theorem d0_210 : Dc code 210 (.invokestatic 34) 3 213 := ⟨at_210, rfl⟩
theorem d0_213 : Bc code 213 (.ifCond .eq 183) (183) 216 396 := ⟨at_213, rfl, by decide, by decide⟩
theorem d0_216 : Dc code 216 (.aload 11) 2 218 := ⟨at_216, rfl⟩
theorem d0_218 : Dc code 218 (.iconst 2) 1 219 := ⟨at_218, rfl⟩
theorem d0_219 : Dc code 219 (.lload 5) 2 221 := ⟨at_219, rfl⟩
theorem d0_221 : Dc code 221 (.iload 7) 2 223 := ⟨at_221, rfl⟩
theorem d0_223 : Dc code 223 (.iload 8) 2 225 := ⟨at_223, rfl⟩
theorem d0_225 : Dc code 225 (.iload 9) 2 227 := ⟨at_225, rfl⟩
theorem d0_227 : Dc code 227 (.aload 10) 2 229 := ⟨at_227, rfl⟩
theorem d0_229 : Dc code 229 (.invokestatic 34) 3 232 := ⟨at_229, rfl⟩
theorem d0_232 : Bc code 232 (.ifCond .eq 164) (164) 235 396 := ⟨at_232, rfl, by decide, by decide⟩
theorem d0_235 : Dc code 235 (.aload 11) 2 237 := ⟨at_235, rfl⟩
theorem d0_237 : Dc code 237 (.iconst 3) 1 238 := ⟨at_237, rfl⟩
theorem d0_238 : Dc code 238 (.lload 5) 2 240 := ⟨at_238, rfl⟩
theorem d0_240 : Dc code 240 (.iload 7) 2 242 := ⟨at_240, rfl⟩
theorem d0_242 : Dc code 242 (.iload 8) 2 244 := ⟨at_242, rfl⟩
theorem d0_244 : Dc code 244 (.iload 9) 2 246 := ⟨at_244, rfl⟩
theorem d0_246 : Dc code 246 (.aload 10) 2 248 := ⟨at_246, rfl⟩
theorem d0_248 : Dc code 248 (.invokestatic 34) 3 251 := ⟨at_248, rfl⟩
theorem d0_251 : Bc code 251 (.ifCond .eq 145) (145) 254 396 := ⟨at_251, rfl, by decide, by decide⟩
theorem d0_254 : Dc code 254 (.aload 11) 2 256 := ⟨at_254, rfl⟩
theorem d0_256 : Dc code 256 (.iconst 4) 1 257 := ⟨at_256, rfl⟩
theorem d0_257 : Dc code 257 (.lload 5) 2 259 := ⟨at_257, rfl⟩
theorem d0_259 : Dc code 259 (.iload 7) 2 261 := ⟨at_259, rfl⟩
theorem d0_261 : Dc code 261 (.iload 8) 2 263 := ⟨at_261, rfl⟩
theorem d0_263 : Dc code 263 (.iload 9) 2 265 := ⟨at_263, rfl⟩
theorem d0_265 : Dc code 265 (.aload 10) 2 267 := ⟨at_265, rfl⟩
theorem d0_267 : Dc code 267 (.invokestatic 34) 3 270 := ⟨at_267, rfl⟩
theorem d0_270 : Bc code 270 (.ifCond .eq 126) (126) 273 396 := ⟨at_270, rfl, by decide, by decide⟩
theorem d0_273 : Dc code 273 (.aload 11) 2 275 := ⟨at_273, rfl⟩
theorem d0_275 : Dc code 275 (.iconst 5) 1 276 := ⟨at_275, rfl⟩
theorem d0_276 : Dc code 276 (.lload 5) 2 278 := ⟨at_276, rfl⟩
theorem d0_278 : Dc code 278 (.iload 7) 2 280 := ⟨at_278, rfl⟩
theorem d0_280 : Dc code 280 (.iload 8) 2 282 := ⟨at_280, rfl⟩
theorem d0_282 : Dc code 282 (.iload 9) 2 284 := ⟨at_282, rfl⟩
theorem d0_284 : Dc code 284 (.aload 10) 2 286 := ⟨at_284, rfl⟩
theorem d0_286 : Dc code 286 (.invokestatic 34) 3 289 := ⟨at_286, rfl⟩
theorem d0_289 : Bc code 289 (.ifCond .eq 107) (107) 292 396 := ⟨at_289, rfl, by decide, by decide⟩
theorem d0_292 : Dc code 292 (.aload 11) 2 294 := ⟨at_292, rfl⟩
theorem d0_294 : Dc code 294 (.bipush 6) 2 296 := ⟨at_294, rfl⟩
theorem d0_296 : Dc code 296 (.lload 5) 2 298 := ⟨at_296, rfl⟩
theorem d0_298 : Dc code 298 (.iload 7) 2 300 := ⟨at_298, rfl⟩
theorem d0_300 : Dc code 300 (.iload 8) 2 302 := ⟨at_300, rfl⟩
theorem d0_302 : Dc code 302 (.iload 9) 2 304 := ⟨at_302, rfl⟩
theorem d0_304 : Dc code 304 (.aload 10) 2 306 := ⟨at_304, rfl⟩
theorem d0_306 : Dc code 306 (.invokestatic 34) 3 309 := ⟨at_306, rfl⟩
theorem d0_309 : Bc code 309 (.ifCond .eq 87) (87) 312 396 := ⟨at_309, rfl, by decide, by decide⟩
theorem d0_312 : Dc code 312 (.aload 11) 2 314 := ⟨at_312, rfl⟩
theorem d0_314 : Dc code 314 (.bipush 7) 2 316 := ⟨at_314, rfl⟩
theorem d0_316 : Dc code 316 (.lload 5) 2 318 := ⟨at_316, rfl⟩
theorem d0_318 : Dc code 318 (.iload 7) 2 320 := ⟨at_318, rfl⟩
theorem d0_320 : Dc code 320 (.iload 8) 2 322 := ⟨at_320, rfl⟩
theorem d0_322 : Dc code 322 (.iload 9) 2 324 := ⟨at_322, rfl⟩
theorem d0_324 : Dc code 324 (.aload 10) 2 326 := ⟨at_324, rfl⟩
theorem d0_326 : Dc code 326 (.invokestatic 34) 3 329 := ⟨at_326, rfl⟩
theorem d0_329 : Bc code 329 (.ifCond .eq 67) (67) 332 396 := ⟨at_329, rfl, by decide, by decide⟩
theorem d0_332 : Dc code 332 (.aload 11) 2 334 := ⟨at_332, rfl⟩
theorem d0_334 : Dc code 334 (.bipush 8) 2 336 := ⟨at_334, rfl⟩
theorem d0_336 : Dc code 336 (.lload 5) 2 338 := ⟨at_336, rfl⟩
theorem d0_338 : Dc code 338 (.iload 7) 2 340 := ⟨at_338, rfl⟩
theorem d0_340 : Dc code 340 (.iload 8) 2 342 := ⟨at_340, rfl⟩
theorem d0_342 : Dc code 342 (.iload 9) 2 344 := ⟨at_342, rfl⟩
theorem d0_344 : Dc code 344 (.aload 10) 2 346 := ⟨at_344, rfl⟩
theorem d0_346 : Dc code 346 (.invokestatic 34) 3 349 := ⟨at_346, rfl⟩
theorem d0_349 : Bc code 349 (.ifCond .eq 47) (47) 352 396 := ⟨at_349, rfl, by decide, by decide⟩
theorem d0_352 : Dc code 352 (.aload 11) 2 354 := ⟨at_352, rfl⟩
theorem d0_354 : Dc code 354 (.bipush 9) 2 356 := ⟨at_354, rfl⟩
theorem d0_356 : Dc code 356 (.lload 5) 2 358 := ⟨at_356, rfl⟩
theorem d0_358 : Dc code 358 (.iload 7) 2 360 := ⟨at_358, rfl⟩
theorem d0_360 : Dc code 360 (.iload 8) 2 362 := ⟨at_360, rfl⟩
theorem d0_362 : Dc code 362 (.iload 9) 2 364 := ⟨at_362, rfl⟩
theorem d0_364 : Dc code 364 (.aload 10) 2 366 := ⟨at_364, rfl⟩
theorem d0_366 : Dc code 366 (.invokestatic 34) 3 369 := ⟨at_366, rfl⟩
theorem d0_369 : Bc code 369 (.ifCond .eq 27) (27) 372 396 := ⟨at_369, rfl, by decide, by decide⟩
theorem d0_372 : Dc code 372 (.aload 11) 2 374 := ⟨at_372, rfl⟩
theorem d0_374 : Dc code 374 (.bipush 10) 2 376 := ⟨at_374, rfl⟩
theorem d0_376 : Dc code 376 (.lload 5) 2 378 := ⟨at_376, rfl⟩
theorem d0_378 : Dc code 378 (.iload 7) 2 380 := ⟨at_378, rfl⟩
theorem d0_380 : Dc code 380 (.iload 8) 2 382 := ⟨at_380, rfl⟩
theorem d0_382 : Dc code 382 (.iload 9) 2 384 := ⟨at_382, rfl⟩
theorem d0_384 : Dc code 384 (.aload 10) 2 386 := ⟨at_384, rfl⟩
theorem d0_386 : Dc code 386 (.invokestatic 34) 3 389 := ⟨at_386, rfl⟩
theorem d0_389 : Bc code 389 (.ifCond .eq 7) (7) 392 396 := ⟨at_389, rfl, by decide, by decide⟩
theorem d0_392 : Dc code 392 (.iconst 1) 1 393 := ⟨at_392, rfl⟩
theorem d0_393 : Bc code 393 (.goto 4) (4) 396 397 := ⟨at_393, rfl, by decide, by decide⟩
theorem d0_396 : Dc code 396 (.iconst 0) 1 397 := ⟨at_396, rfl⟩
theorem d0_397 : Dc code 397 (.ireturn) 1 398 := ⟨at_397, rfl⟩
theorem pd_1 : parseMethodDescriptor "(JI[CI)I" = some ⟨[.long, .int, .array .char, .int], (some .int)⟩ := by decide +kernel
theorem pd_2 : parseMethodDescriptor "([CIJIIC[J)Z" = some ⟨[.array .char, .int, .long, .int, .int, .char, .array .long], (some .boolean)⟩ := by decide +kernel
theorem ef_law (m : MethodId) (x0 : Int64) (x1 : Int32) (x2 : Int32) (x3 : Int32) : entryFrame m #[.long x0, .int x1, .int x2, .int x3] maxLocals = mkF m 0 #[.val (.long x0), .second, .val (.int x1), .val (.int x2), .val (.int x3), .unset, .unset, .unset, .unset, .unset, .unset, .unset, .unset] [] := by first | (simp [entryFrame, mkF, argsToLocals, Value.category, maxLocals]; done) | rfl
set_option maxRecDepth 65536 in
set_option maxHeartbeats 40000000 in
theorem m_law (l : Launch) (Z : State) (a0 : Array Value) (hw : ∀ d ∈ tables_1, d.before a0 Z = true) (n0 : Nat) (x0 : Int64) (x1 : Int32) (x2 : Int32) (x3 : Int32) (h : Heap) (hn : n0 ≤ h.size) : Met n0 l Z x code maxLocals ret room_1 tables_1 #[.long x0, .int x1, .int x2, .int x3] h (fun v _ => v = some (.int 1)) := by
  refine enter (plainFor_of_name (by first | (simp [plainName, overriddenIn, x]; done) | decide +kernel)) (fun m => ef_law m x0 x1 x2 x3) hn ?_
  intro p e s m below meth c T K S
  refine lload_n K S rfl d0_0 ?_
  refine ldc2 K S (X := (9223372036854775807 : Int64)) (hwi hw 0 rfl) d0_1 ?_
  refine land K S d0_4 ?_
  refine nmL fun t4 ht4 => ?_
  have ft4 : t4.toInt = x0.toInt % 9223372036854775808 := by rw [ht4]; exact c_maskL x0 (9223372036854775807 : Int64) 63 (by decide) (by decide)
  have rt4 := rng64 t4
  obtain ⟨a, ha⟩ : ∃ a : Nat, t4.toInt = (a : Int) := ⟨t4.toInt.toNat, by omega⟩
  refine lstore K S (l' := #[.val (.long x0), .second, .val (.int x1), .val (.int x2), .val (.int x3), .val (.long t4), .second, .unset, .unset, .unset, .unset, .unset, .unset]) rfl d0_5 ?_
  refine iload_n K S rfl d0_7 ?_
  refine ldc K S (x := (2147483647 : Int32)) (hwi hw 1 rfl) d0_8 ?_
  refine iand K S d0_10 ?_
  refine nmI fun t10 ht10 => ?_
  have ft10 : t10.toInt = x1.toInt % 2147483648 := by rw [ht10]; exact c_mask x1 (2147483647 : Int32) 31 (by decide) (by decide)
  have rt10 := rng32 t10
  refine bipush K S (x := (9 : Int32)) rfl d0_11 ?_
  refine irem K S (by decide) d0_13 ?_
  refine nmI fun t13 ht13 => ?_
  have ft13 : t13.toInt = t10.toInt % 9 := by rw [ht13]; exact (c_irem t10 (9 : Int32) 9 rfl).1 (by omega)
  have rt13 := rng32 t13
  refine istore K S (l' := #[.val (.long x0), .second, .val (.int x1), .val (.int x2), .val (.int x3), .val (.long t4), .second, .val (.int t13), .unset, .unset, .unset, .unset, .unset]) rfl d0_14 ?_
  refine iload_n K S rfl d0_16 ?_
  refine ldc K S (x := (2147483647 : Int32)) (hwi hw 1 rfl) d0_17 ?_
  refine iand K S d0_19 ?_
  refine nmI fun t19 ht19 => ?_
  have ft19 : t19.toInt = x2.toInt % 2147483648 := by rw [ht19]; exact c_mask x2 (2147483647 : Int32) 31 (by decide) (by decide)
  have rt19 := rng32 t19
  refine iconst K S (x := (3 : Int32)) rfl d0_20 ?_
  refine irem K S (by decide) d0_21 ?_
  refine nmI fun t21 ht21 => ?_
  have ft21 : t21.toInt = t19.toInt % 3 := by rw [ht21]; exact (c_irem t19 (3 : Int32) 3 rfl).1 (by omega)
  have rt21 := rng32 t21
  refine istore K S (l' := #[.val (.long x0), .second, .val (.int x1), .val (.int x2), .val (.int x3), .val (.long t4), .second, .val (.int t13), .val (.int t21), .unset, .unset, .unset, .unset]) rfl d0_22 ?_
  refine iload K S rfl d0_24 ?_
  refine sipush K S (x := (255 : Int32)) rfl d0_26 ?_
  refine iand K S d0_29 ?_
  refine nmI fun t29 ht29 => ?_
  have ft29 : t29.toInt = x3.toInt % 256 := by rw [ht29]; exact c_mask x3 (255 : Int32) 8 (by decide) (by decide)
  have rt29 := rng32 t29
  refine i2c K S d0_30 ?_
  refine nmI fun t30 ht30 => ?_
  have ft30 : (t30.toInt - t29.toInt) % 65536 = 0 ∧ 0 ≤ t30.toInt ∧ t30.toInt < 65536 := by rw [ht30]; exact c_i2c t29
  have rt30 := rng32 t30
  refine istore K S (l' := #[.val (.long x0), .second, .val (.int x1), .val (.int x2), .val (.int x3), .val (.long t4), .second, .val (.int t13), .val (.int t21), .val (.int t30), .unset, .unset, .unset]) rfl d0_31 ?_
  refine bipush K S (x := (8 : Int32)) rfl d0_33 ?_
  refine newarr K S (cap := 8) (hwi hw 2 rfl) (by decide) (by decide) (by decide) (by decide) (by decide) d0_35 fun T h35_1 o35 z_o35 g_o35 X A_o35 S => ?_
  replace A_o35 : VA Z h35_1 o35 .long ([.long (0 : Int64), .long (0 : Int64), .long (0 : Int64), .long (0 : Int64), .long (0 : Int64), .long (0 : Int64), .long (0 : Int64), .long (0 : Int64)]) := A_o35
  clear X
  refine dup K S rfl d0_37 ?_
  refine iconst K S (x := (0 : Int32)) rfl d0_38 ?_
  refine lconst K S (X := (1 : Int64)) rfl d0_39 ?_
  refine lastore K S (i := 0) A_o35 ⟨by decide, rfl⟩ (show (0 : Nat) < 8 by decide) g_o35 d0_40 fun T h40_2 W B S => ?_
  clear W
  replace A_o35 : VA Z h40_2 o35 .long ([.long (1 : Int64), .long (0 : Int64), .long (0 : Int64), .long (0 : Int64), .long (0 : Int64), .long (0 : Int64), .long (0 : Int64), .long (0 : Int64)]) := B
  refine dup K S rfl d0_41 ?_
  refine iconst K S (x := (1 : Int32)) rfl d0_42 ?_
  refine ldc2 K S (X := (10 : Int64)) (hwi hw 3 rfl) d0_43 ?_
  refine lastore K S (i := 1) A_o35 ⟨by decide, rfl⟩ (show (1 : Nat) < 8 by decide) g_o35 d0_46 fun T h46_3 W B S => ?_
  clear W
  replace A_o35 : VA Z h46_3 o35 .long ([.long (1 : Int64), .long (10 : Int64), .long (0 : Int64), .long (0 : Int64), .long (0 : Int64), .long (0 : Int64), .long (0 : Int64), .long (0 : Int64)]) := B
  refine dup K S rfl d0_47 ?_
  refine iconst K S (x := (2 : Int32)) rfl d0_48 ?_
  refine ldc2 K S (X := (100 : Int64)) (hwi hw 4 rfl) d0_49 ?_
  refine lastore K S (i := 2) A_o35 ⟨by decide, rfl⟩ (show (2 : Nat) < 8 by decide) g_o35 d0_52 fun T h52_4 W B S => ?_
  clear W
  replace A_o35 : VA Z h52_4 o35 .long ([.long (1 : Int64), .long (10 : Int64), .long (100 : Int64), .long (0 : Int64), .long (0 : Int64), .long (0 : Int64), .long (0 : Int64), .long (0 : Int64)]) := B
  refine dup K S rfl d0_53 ?_
  refine iconst K S (x := (3 : Int32)) rfl d0_54 ?_
  refine ldc2 K S (X := (1000 : Int64)) (hwi hw 5 rfl) d0_55 ?_
  refine lastore K S (i := 3) A_o35 ⟨by decide, rfl⟩ (show (3 : Nat) < 8 by decide) g_o35 d0_58 fun T h58_5 W B S => ?_
  clear W
  replace A_o35 : VA Z h58_5 o35 .long ([.long (1 : Int64), .long (10 : Int64), .long (100 : Int64), .long (1000 : Int64), .long (0 : Int64), .long (0 : Int64), .long (0 : Int64), .long (0 : Int64)]) := B
  refine dup K S rfl d0_59 ?_
  refine iconst K S (x := (4 : Int32)) rfl d0_60 ?_
  refine ldc2 K S (X := (10000 : Int64)) (hwi hw 6 rfl) d0_61 ?_
  refine lastore K S (i := 4) A_o35 ⟨by decide, rfl⟩ (show (4 : Nat) < 8 by decide) g_o35 d0_64 fun T h64_6 W B S => ?_
  clear W
  replace A_o35 : VA Z h64_6 o35 .long ([.long (1 : Int64), .long (10 : Int64), .long (100 : Int64), .long (1000 : Int64), .long (10000 : Int64), .long (0 : Int64), .long (0 : Int64), .long (0 : Int64)]) := B
  refine dup K S rfl d0_65 ?_
  refine iconst K S (x := (5 : Int32)) rfl d0_66 ?_
  refine ldc2 K S (X := (100000 : Int64)) (hwi hw 7 rfl) d0_67 ?_
  refine lastore K S (i := 5) A_o35 ⟨by decide, rfl⟩ (show (5 : Nat) < 8 by decide) g_o35 d0_70 fun T h70_7 W B S => ?_
  clear W
  replace A_o35 : VA Z h70_7 o35 .long ([.long (1 : Int64), .long (10 : Int64), .long (100 : Int64), .long (1000 : Int64), .long (10000 : Int64), .long (100000 : Int64), .long (0 : Int64), .long (0 : Int64)]) := B
  refine dup K S rfl d0_71 ?_
  refine bipush K S (x := (6 : Int32)) rfl d0_72 ?_
  refine ldc2 K S (X := (1000000 : Int64)) (hwi hw 8 rfl) d0_74 ?_
  refine lastore K S (i := 6) A_o35 ⟨by decide, rfl⟩ (show (6 : Nat) < 8 by decide) g_o35 d0_77 fun T h77_8 W B S => ?_
  clear W
  replace A_o35 : VA Z h77_8 o35 .long ([.long (1 : Int64), .long (10 : Int64), .long (100 : Int64), .long (1000 : Int64), .long (10000 : Int64), .long (100000 : Int64), .long (1000000 : Int64), .long (0 : Int64)]) := B
  refine dup K S rfl d0_78 ?_
  refine bipush K S (x := (7 : Int32)) rfl d0_79 ?_
  refine ldc2 K S (X := (10000000 : Int64)) (hwi hw 9 rfl) d0_81 ?_
  refine lastore K S (i := 7) A_o35 ⟨by decide, rfl⟩ (show (7 : Nat) < 8 by decide) g_o35 d0_84 fun T h84_9 W B S => ?_
  clear W
  replace A_o35 : VA Z h84_9 o35 .long ([.long (1 : Int64), .long (10 : Int64), .long (100 : Int64), .long (1000 : Int64), .long (10000 : Int64), .long (100000 : Int64), .long (1000000 : Int64), .long (10000000 : Int64)]) := B
  refine astore K S (l' := #[.val (.long x0), .second, .val (.int x1), .val (.int x2), .val (.int x3), .val (.long t4), .second, .val (.int t13), .val (.int t21), .val (.int t30), .val (.ref o35), .unset, .unset]) rfl rfl d0_85 ?_
  refine bipush K S (x := (11 : Int32)) rfl d0_87 ?_
  refine newarr K S (cap := 11) (hwi hw 10 rfl) (by decide) (by decide) (by decide) (by decide) (by decide) d0_89 fun T h89_10 o89 z_o89 g_o89 X A_o89 S => ?_
  have n_o35_o89 : o35 ≠ o89 := by rw [z_o89]; exact Nat.ne_of_lt A_o35.lt
  replace A_o35 := A_o35.ext X
  replace A_o89 : VA Z h89_10 o89 .char ([.int (0 : Int32), .int (0 : Int32), .int (0 : Int32), .int (0 : Int32), .int (0 : Int32), .int (0 : Int32), .int (0 : Int32), .int (0 : Int32), .int (0 : Int32), .int (0 : Int32), .int (0 : Int32)]) := A_o89
  clear X
  refine dup K S rfl d0_91 ?_
  refine iconst K S (x := (0 : Int32)) rfl d0_92 ?_
  refine iload K S rfl d0_93 ?_
  refine castore K S (i := 0) A_o89 ⟨by decide, rfl⟩ (show (0 : Nat) < 11 by decide) g_o89 d0_95 fun T h95_11 W B S => ?_
  replace A_o35 := A_o35.other W (by first | exact n_o35_o89 | exact Ne.symm n_o89_o35 | omega)
  clear W
  replace A_o89 : VA Z h95_11 o89 .char ([.int t30, .int (0 : Int32), .int (0 : Int32), .int (0 : Int32), .int (0 : Int32), .int (0 : Int32), .int (0 : Int32), .int (0 : Int32), .int (0 : Int32), .int (0 : Int32), .int (0 : Int32)]) := (by rw [show nar .char t30 = t30 by rw [ht30]; exact own_nc _] at B; exact B)
  refine dup K S rfl d0_96 ?_
  refine iconst K S (x := (1 : Int32)) rfl d0_97 ?_
  refine iload K S rfl d0_98 ?_
  refine castore K S (i := 1) A_o89 ⟨by decide, rfl⟩ (show (1 : Nat) < 11 by decide) g_o89 d0_100 fun T h100_12 W B S => ?_
  replace A_o35 := A_o35.other W (by first | exact n_o35_o89 | exact Ne.symm n_o89_o35 | omega)
  clear W
  replace A_o89 : VA Z h100_12 o89 .char ([.int t30, .int t30, .int (0 : Int32), .int (0 : Int32), .int (0 : Int32), .int (0 : Int32), .int (0 : Int32), .int (0 : Int32), .int (0 : Int32), .int (0 : Int32), .int (0 : Int32)]) := (by rw [show nar .char t30 = t30 by rw [ht30]; exact own_nc _] at B; exact B)
  refine dup K S rfl d0_101 ?_
  refine iconst K S (x := (2 : Int32)) rfl d0_102 ?_
  refine iload K S rfl d0_103 ?_
  refine castore K S (i := 2) A_o89 ⟨by decide, rfl⟩ (show (2 : Nat) < 11 by decide) g_o89 d0_105 fun T h105_13 W B S => ?_
  replace A_o35 := A_o35.other W (by first | exact n_o35_o89 | exact Ne.symm n_o89_o35 | omega)
  clear W
  replace A_o89 : VA Z h105_13 o89 .char ([.int t30, .int t30, .int t30, .int (0 : Int32), .int (0 : Int32), .int (0 : Int32), .int (0 : Int32), .int (0 : Int32), .int (0 : Int32), .int (0 : Int32), .int (0 : Int32)]) := (by rw [show nar .char t30 = t30 by rw [ht30]; exact own_nc _] at B; exact B)
  refine dup K S rfl d0_106 ?_
  refine iconst K S (x := (3 : Int32)) rfl d0_107 ?_
  refine iload K S rfl d0_108 ?_
  refine castore K S (i := 3) A_o89 ⟨by decide, rfl⟩ (show (3 : Nat) < 11 by decide) g_o89 d0_110 fun T h110_14 W B S => ?_
  replace A_o35 := A_o35.other W (by first | exact n_o35_o89 | exact Ne.symm n_o89_o35 | omega)
  clear W
  replace A_o89 : VA Z h110_14 o89 .char ([.int t30, .int t30, .int t30, .int t30, .int (0 : Int32), .int (0 : Int32), .int (0 : Int32), .int (0 : Int32), .int (0 : Int32), .int (0 : Int32), .int (0 : Int32)]) := (by rw [show nar .char t30 = t30 by rw [ht30]; exact own_nc _] at B; exact B)
  refine dup K S rfl d0_111 ?_
  refine iconst K S (x := (4 : Int32)) rfl d0_112 ?_
  refine iload K S rfl d0_113 ?_
  refine castore K S (i := 4) A_o89 ⟨by decide, rfl⟩ (show (4 : Nat) < 11 by decide) g_o89 d0_115 fun T h115_15 W B S => ?_
  replace A_o35 := A_o35.other W (by first | exact n_o35_o89 | exact Ne.symm n_o89_o35 | omega)
  clear W
  replace A_o89 : VA Z h115_15 o89 .char ([.int t30, .int t30, .int t30, .int t30, .int t30, .int (0 : Int32), .int (0 : Int32), .int (0 : Int32), .int (0 : Int32), .int (0 : Int32), .int (0 : Int32)]) := (by rw [show nar .char t30 = t30 by rw [ht30]; exact own_nc _] at B; exact B)
  refine dup K S rfl d0_116 ?_
  refine iconst K S (x := (5 : Int32)) rfl d0_117 ?_
  refine iload K S rfl d0_118 ?_
  refine castore K S (i := 5) A_o89 ⟨by decide, rfl⟩ (show (5 : Nat) < 11 by decide) g_o89 d0_120 fun T h120_16 W B S => ?_
  replace A_o35 := A_o35.other W (by first | exact n_o35_o89 | exact Ne.symm n_o89_o35 | omega)
  clear W
  replace A_o89 : VA Z h120_16 o89 .char ([.int t30, .int t30, .int t30, .int t30, .int t30, .int t30, .int (0 : Int32), .int (0 : Int32), .int (0 : Int32), .int (0 : Int32), .int (0 : Int32)]) := (by rw [show nar .char t30 = t30 by rw [ht30]; exact own_nc _] at B; exact B)
  refine dup K S rfl d0_121 ?_
  refine bipush K S (x := (6 : Int32)) rfl d0_122 ?_
  refine iload K S rfl d0_124 ?_
  refine castore K S (i := 6) A_o89 ⟨by decide, rfl⟩ (show (6 : Nat) < 11 by decide) g_o89 d0_126 fun T h126_17 W B S => ?_
  replace A_o35 := A_o35.other W (by first | exact n_o35_o89 | exact Ne.symm n_o89_o35 | omega)
  clear W
  replace A_o89 : VA Z h126_17 o89 .char ([.int t30, .int t30, .int t30, .int t30, .int t30, .int t30, .int t30, .int (0 : Int32), .int (0 : Int32), .int (0 : Int32), .int (0 : Int32)]) := (by rw [show nar .char t30 = t30 by rw [ht30]; exact own_nc _] at B; exact B)
  refine dup K S rfl d0_127 ?_
  refine bipush K S (x := (7 : Int32)) rfl d0_128 ?_
  refine iload K S rfl d0_130 ?_
  refine castore K S (i := 7) A_o89 ⟨by decide, rfl⟩ (show (7 : Nat) < 11 by decide) g_o89 d0_132 fun T h132_18 W B S => ?_
  replace A_o35 := A_o35.other W (by first | exact n_o35_o89 | exact Ne.symm n_o89_o35 | omega)
  clear W
  replace A_o89 : VA Z h132_18 o89 .char ([.int t30, .int t30, .int t30, .int t30, .int t30, .int t30, .int t30, .int t30, .int (0 : Int32), .int (0 : Int32), .int (0 : Int32)]) := (by rw [show nar .char t30 = t30 by rw [ht30]; exact own_nc _] at B; exact B)
  refine dup K S rfl d0_133 ?_
  refine bipush K S (x := (8 : Int32)) rfl d0_134 ?_
  refine iload K S rfl d0_136 ?_
  refine castore K S (i := 8) A_o89 ⟨by decide, rfl⟩ (show (8 : Nat) < 11 by decide) g_o89 d0_138 fun T h138_19 W B S => ?_
  replace A_o35 := A_o35.other W (by first | exact n_o35_o89 | exact Ne.symm n_o89_o35 | omega)
  clear W
  replace A_o89 : VA Z h138_19 o89 .char ([.int t30, .int t30, .int t30, .int t30, .int t30, .int t30, .int t30, .int t30, .int t30, .int (0 : Int32), .int (0 : Int32)]) := (by rw [show nar .char t30 = t30 by rw [ht30]; exact own_nc _] at B; exact B)
  refine dup K S rfl d0_139 ?_
  refine bipush K S (x := (9 : Int32)) rfl d0_140 ?_
  refine iload K S rfl d0_142 ?_
  refine castore K S (i := 9) A_o89 ⟨by decide, rfl⟩ (show (9 : Nat) < 11 by decide) g_o89 d0_144 fun T h144_20 W B S => ?_
  replace A_o35 := A_o35.other W (by first | exact n_o35_o89 | exact Ne.symm n_o89_o35 | omega)
  clear W
  replace A_o89 : VA Z h144_20 o89 .char ([.int t30, .int t30, .int t30, .int t30, .int t30, .int t30, .int t30, .int t30, .int t30, .int t30, .int (0 : Int32)]) := (by rw [show nar .char t30 = t30 by rw [ht30]; exact own_nc _] at B; exact B)
  refine dup K S rfl d0_145 ?_
  refine bipush K S (x := (10 : Int32)) rfl d0_146 ?_
  refine iload K S rfl d0_148 ?_
  refine castore K S (i := 10) A_o89 ⟨by decide, rfl⟩ (show (10 : Nat) < 11 by decide) g_o89 d0_150 fun T h150_21 W B S => ?_
  replace A_o35 := A_o35.other W (by first | exact n_o35_o89 | exact Ne.symm n_o89_o35 | omega)
  clear W
  replace A_o89 : VA Z h150_21 o89 .char ([.int t30, .int t30, .int t30, .int t30, .int t30, .int t30, .int t30, .int t30, .int t30, .int t30, .int t30]) := (by rw [show nar .char t30 = t30 by rw [ht30]; exact own_nc _] at B; exact B)
  refine astore K S (l' := #[.val (.long x0), .second, .val (.int x1), .val (.int x2), .val (.int x3), .val (.long t4), .second, .val (.int t13), .val (.int t21), .val (.int t30), .val (.ref o35), .val (.ref o89), .unset]) rfl rfl d0_151 ?_
  refine lload K S rfl d0_153 ?_
  refine iload K S rfl d0_155 ?_
  refine aload K S rfl rfl d0_157 ?_
  refine iload K S rfl d0_159 ?_
  refine callS K S (W := 0) (m_put l Z a0 hw n0 t4 t13 o89 t21 [t30, t30, t30, t30, t30, t30, t30, t30, t30, t30, t30] a h150_21 (Sle S) g_o89 A_o89 rfl ha (by omega) (by omega) (by omega) (by omega)) (hwi hw 11 rfl) (hwi hw 12 rfl) (hwi hw 14 rfl) (hwi hw 13 rfl) (by decide) (by decide) (by decide) (by decide) (by decide) rfl (argsL := [.long t4, .int t13, .ref o89, .int t21]) rfl (lenOf pd_1 rfl) (rest := []) rfl (Nat.le_of_eq rfl) d0_161 (er fun T r161 h161_22 hP S => ?_)
  obtain ⟨qr, ys, A_o89', hl, hy, K1⟩ := hP
  replace A_o35 := A_o35.keep K1 (ninS (by first | exact n_o35_o89 | exact Ne.symm n_o89_o35 | omega) nin0)
  clear A_o89
  have A_o89 := A_o89'
  show Wp n0 p e _ s below _ T (mkF m 164 #[.val (.long x0), .second, .val (.int x1), .val (.int x2), .val (.int x3), .val (.long t4), .second, .val (.int t13), .val (.int t21), .val (.int t30), .val (.ref o35), .val (.ref o89), .unset] [.int r161])
  refine istore K S (l' := #[.val (.long x0), .second, .val (.int x1), .val (.int x2), .val (.int x3), .val (.long t4), .second, .val (.int t13), .val (.int t21), .val (.int t30), .val (.ref o35), .val (.ref o89), .val (.int r161)]) rfl d0_164 ?_
  refine iload K S rfl d0_166 ?_
  refine iload K S rfl d0_168 ?_
  refine iload K S rfl d0_170 ?_
  refine iadd K S d0_172 ?_
  refine nmI fun t172 ht172 => ?_
  have ft172 : (t172.toInt - (t21.toInt + t13.toInt)) % 4294967296 = 0 := by rw [ht172]; exact c_iadd t21 t13
  have rt172 := rng32 t172
  refine icmpz_eq K S d0_173 (fun (c173 : r161.toInt = t172.toInt) => ?_) (fun (c173 : ¬ r161.toInt = t172.toInt) => ?_)
  rotate_left
  · exfalso; omega
  refine aload K S rfl rfl d0_178 ?_
  refine iconst K S (x := (0 : Int32)) rfl d0_180 ?_
  refine lload K S rfl d0_181 ?_
  refine iload K S rfl d0_183 ?_
  refine iload K S rfl d0_185 ?_
  refine iload K S rfl d0_187 ?_
  refine aload K S rfl rfl d0_189 ?_
  refine callS K S (W := 0) (m_cell l Z a0 hw n0 o89 (0 : Int32) t4 t13 t21 t30 o35 ys a h161_22 (Sle S) A_o89 A_o35 hl ha (by omega) (by omega) (by omega) (by omega) (by decide) (by decide) (hy 0 (by decide))) (hwi hw 17 rfl) (hwi hw 18 rfl) (hwi hw 20 rfl) (hwi hw 19 rfl) (by decide) (by decide) (by decide) (by decide) (by decide) rfl (argsL := [.ref o89, .int (0 : Int32), .long t4, .int t13, .int t21, .int t30, .ref o35]) rfl (lenOf pd_2 rfl) (rest := []) rfl (Nat.le_of_eq rfl) d0_191 (pu fun T S => ?_)
  show Wp n0 p e _ s below _ T (mkF m 194 #[.val (.long x0), .second, .val (.int x1), .val (.int x2), .val (.int x3), .val (.long t4), .second, .val (.int t13), .val (.int t21), .val (.int t30), .val (.ref o35), .val (.ref o89), .val (.int r161)] [.int (1 : Int32)])
  refine ificz_eq K S d0_194 (fun (c194 : 1 = 0) => ?_) (fun (c194 : ¬ 1 = 0) => ?_)
  · exact absurd c194 (by decide)
  refine aload K S rfl rfl d0_197 ?_
  refine iconst K S (x := (1 : Int32)) rfl d0_199 ?_
  refine lload K S rfl d0_200 ?_
  refine iload K S rfl d0_202 ?_
  refine iload K S rfl d0_204 ?_
  refine iload K S rfl d0_206 ?_
  refine aload K S rfl rfl d0_208 ?_
  refine callS K S (W := 0) (m_cell l Z a0 hw n0 o89 (1 : Int32) t4 t13 t21 t30 o35 ys a h161_22 (Sle S) A_o89 A_o35 hl ha (by omega) (by omega) (by omega) (by omega) (by decide) (by decide) (hy 1 (by decide))) (hwi hw 17 rfl) (hwi hw 18 rfl) (hwi hw 20 rfl) (hwi hw 19 rfl) (by decide) (by decide) (by decide) (by decide) (by decide) rfl (argsL := [.ref o89, .int (1 : Int32), .long t4, .int t13, .int t21, .int t30, .ref o35]) rfl (lenOf pd_2 rfl) (rest := []) rfl (Nat.le_of_eq rfl) d0_210 (pu fun T S => ?_)
  show Wp n0 p e _ s below _ T (mkF m 213 #[.val (.long x0), .second, .val (.int x1), .val (.int x2), .val (.int x3), .val (.long t4), .second, .val (.int t13), .val (.int t21), .val (.int t30), .val (.ref o35), .val (.ref o89), .val (.int r161)] [.int (1 : Int32)])
  refine ificz_eq K S d0_213 (fun (c213 : 1 = 0) => ?_) (fun (c213 : ¬ 1 = 0) => ?_)
  · exact absurd c213 (by decide)
  refine aload K S rfl rfl d0_216 ?_
  refine iconst K S (x := (2 : Int32)) rfl d0_218 ?_
  refine lload K S rfl d0_219 ?_
  refine iload K S rfl d0_221 ?_
  refine iload K S rfl d0_223 ?_
  refine iload K S rfl d0_225 ?_
  refine aload K S rfl rfl d0_227 ?_
  refine callS K S (W := 0) (m_cell l Z a0 hw n0 o89 (2 : Int32) t4 t13 t21 t30 o35 ys a h161_22 (Sle S) A_o89 A_o35 hl ha (by omega) (by omega) (by omega) (by omega) (by decide) (by decide) (hy 2 (by decide))) (hwi hw 17 rfl) (hwi hw 18 rfl) (hwi hw 20 rfl) (hwi hw 19 rfl) (by decide) (by decide) (by decide) (by decide) (by decide) rfl (argsL := [.ref o89, .int (2 : Int32), .long t4, .int t13, .int t21, .int t30, .ref o35]) rfl (lenOf pd_2 rfl) (rest := []) rfl (Nat.le_of_eq rfl) d0_229 (pu fun T S => ?_)
  show Wp n0 p e _ s below _ T (mkF m 232 #[.val (.long x0), .second, .val (.int x1), .val (.int x2), .val (.int x3), .val (.long t4), .second, .val (.int t13), .val (.int t21), .val (.int t30), .val (.ref o35), .val (.ref o89), .val (.int r161)] [.int (1 : Int32)])
  refine ificz_eq K S d0_232 (fun (c232 : 1 = 0) => ?_) (fun (c232 : ¬ 1 = 0) => ?_)
  · exact absurd c232 (by decide)
  refine aload K S rfl rfl d0_235 ?_
  refine iconst K S (x := (3 : Int32)) rfl d0_237 ?_
  refine lload K S rfl d0_238 ?_
  refine iload K S rfl d0_240 ?_
  refine iload K S rfl d0_242 ?_
  refine iload K S rfl d0_244 ?_
  refine aload K S rfl rfl d0_246 ?_
  refine callS K S (W := 0) (m_cell l Z a0 hw n0 o89 (3 : Int32) t4 t13 t21 t30 o35 ys a h161_22 (Sle S) A_o89 A_o35 hl ha (by omega) (by omega) (by omega) (by omega) (by decide) (by decide) (hy 3 (by decide))) (hwi hw 17 rfl) (hwi hw 18 rfl) (hwi hw 20 rfl) (hwi hw 19 rfl) (by decide) (by decide) (by decide) (by decide) (by decide) rfl (argsL := [.ref o89, .int (3 : Int32), .long t4, .int t13, .int t21, .int t30, .ref o35]) rfl (lenOf pd_2 rfl) (rest := []) rfl (Nat.le_of_eq rfl) d0_248 (pu fun T S => ?_)
  show Wp n0 p e _ s below _ T (mkF m 251 #[.val (.long x0), .second, .val (.int x1), .val (.int x2), .val (.int x3), .val (.long t4), .second, .val (.int t13), .val (.int t21), .val (.int t30), .val (.ref o35), .val (.ref o89), .val (.int r161)] [.int (1 : Int32)])
  refine ificz_eq K S d0_251 (fun (c251 : 1 = 0) => ?_) (fun (c251 : ¬ 1 = 0) => ?_)
  · exact absurd c251 (by decide)
  refine aload K S rfl rfl d0_254 ?_
  refine iconst K S (x := (4 : Int32)) rfl d0_256 ?_
  refine lload K S rfl d0_257 ?_
  refine iload K S rfl d0_259 ?_
  refine iload K S rfl d0_261 ?_
  refine iload K S rfl d0_263 ?_
  refine aload K S rfl rfl d0_265 ?_
  refine callS K S (W := 0) (m_cell l Z a0 hw n0 o89 (4 : Int32) t4 t13 t21 t30 o35 ys a h161_22 (Sle S) A_o89 A_o35 hl ha (by omega) (by omega) (by omega) (by omega) (by decide) (by decide) (hy 4 (by decide))) (hwi hw 17 rfl) (hwi hw 18 rfl) (hwi hw 20 rfl) (hwi hw 19 rfl) (by decide) (by decide) (by decide) (by decide) (by decide) rfl (argsL := [.ref o89, .int (4 : Int32), .long t4, .int t13, .int t21, .int t30, .ref o35]) rfl (lenOf pd_2 rfl) (rest := []) rfl (Nat.le_of_eq rfl) d0_267 (pu fun T S => ?_)
  show Wp n0 p e _ s below _ T (mkF m 270 #[.val (.long x0), .second, .val (.int x1), .val (.int x2), .val (.int x3), .val (.long t4), .second, .val (.int t13), .val (.int t21), .val (.int t30), .val (.ref o35), .val (.ref o89), .val (.int r161)] [.int (1 : Int32)])
  refine ificz_eq K S d0_270 (fun (c270 : 1 = 0) => ?_) (fun (c270 : ¬ 1 = 0) => ?_)
  · exact absurd c270 (by decide)
  refine aload K S rfl rfl d0_273 ?_
  refine iconst K S (x := (5 : Int32)) rfl d0_275 ?_
  refine lload K S rfl d0_276 ?_
  refine iload K S rfl d0_278 ?_
  refine iload K S rfl d0_280 ?_
  refine iload K S rfl d0_282 ?_
  refine aload K S rfl rfl d0_284 ?_
  refine callS K S (W := 0) (m_cell l Z a0 hw n0 o89 (5 : Int32) t4 t13 t21 t30 o35 ys a h161_22 (Sle S) A_o89 A_o35 hl ha (by omega) (by omega) (by omega) (by omega) (by decide) (by decide) (hy 5 (by decide))) (hwi hw 17 rfl) (hwi hw 18 rfl) (hwi hw 20 rfl) (hwi hw 19 rfl) (by decide) (by decide) (by decide) (by decide) (by decide) rfl (argsL := [.ref o89, .int (5 : Int32), .long t4, .int t13, .int t21, .int t30, .ref o35]) rfl (lenOf pd_2 rfl) (rest := []) rfl (Nat.le_of_eq rfl) d0_286 (pu fun T S => ?_)
  show Wp n0 p e _ s below _ T (mkF m 289 #[.val (.long x0), .second, .val (.int x1), .val (.int x2), .val (.int x3), .val (.long t4), .second, .val (.int t13), .val (.int t21), .val (.int t30), .val (.ref o35), .val (.ref o89), .val (.int r161)] [.int (1 : Int32)])
  refine ificz_eq K S d0_289 (fun (c289 : 1 = 0) => ?_) (fun (c289 : ¬ 1 = 0) => ?_)
  · exact absurd c289 (by decide)
  refine aload K S rfl rfl d0_292 ?_
  refine bipush K S (x := (6 : Int32)) rfl d0_294 ?_
  refine lload K S rfl d0_296 ?_
  refine iload K S rfl d0_298 ?_
  refine iload K S rfl d0_300 ?_
  refine iload K S rfl d0_302 ?_
  refine aload K S rfl rfl d0_304 ?_
  refine callS K S (W := 0) (m_cell l Z a0 hw n0 o89 (6 : Int32) t4 t13 t21 t30 o35 ys a h161_22 (Sle S) A_o89 A_o35 hl ha (by omega) (by omega) (by omega) (by omega) (by decide) (by decide) (hy 6 (by decide))) (hwi hw 17 rfl) (hwi hw 18 rfl) (hwi hw 20 rfl) (hwi hw 19 rfl) (by decide) (by decide) (by decide) (by decide) (by decide) rfl (argsL := [.ref o89, .int (6 : Int32), .long t4, .int t13, .int t21, .int t30, .ref o35]) rfl (lenOf pd_2 rfl) (rest := []) rfl (Nat.le_of_eq rfl) d0_306 (pu fun T S => ?_)
  show Wp n0 p e _ s below _ T (mkF m 309 #[.val (.long x0), .second, .val (.int x1), .val (.int x2), .val (.int x3), .val (.long t4), .second, .val (.int t13), .val (.int t21), .val (.int t30), .val (.ref o35), .val (.ref o89), .val (.int r161)] [.int (1 : Int32)])
  refine ificz_eq K S d0_309 (fun (c309 : 1 = 0) => ?_) (fun (c309 : ¬ 1 = 0) => ?_)
  · exact absurd c309 (by decide)
  refine aload K S rfl rfl d0_312 ?_
  refine bipush K S (x := (7 : Int32)) rfl d0_314 ?_
  refine lload K S rfl d0_316 ?_
  refine iload K S rfl d0_318 ?_
  refine iload K S rfl d0_320 ?_
  refine iload K S rfl d0_322 ?_
  refine aload K S rfl rfl d0_324 ?_
  refine callS K S (W := 0) (m_cell l Z a0 hw n0 o89 (7 : Int32) t4 t13 t21 t30 o35 ys a h161_22 (Sle S) A_o89 A_o35 hl ha (by omega) (by omega) (by omega) (by omega) (by decide) (by decide) (hy 7 (by decide))) (hwi hw 17 rfl) (hwi hw 18 rfl) (hwi hw 20 rfl) (hwi hw 19 rfl) (by decide) (by decide) (by decide) (by decide) (by decide) rfl (argsL := [.ref o89, .int (7 : Int32), .long t4, .int t13, .int t21, .int t30, .ref o35]) rfl (lenOf pd_2 rfl) (rest := []) rfl (Nat.le_of_eq rfl) d0_326 (pu fun T S => ?_)
  show Wp n0 p e _ s below _ T (mkF m 329 #[.val (.long x0), .second, .val (.int x1), .val (.int x2), .val (.int x3), .val (.long t4), .second, .val (.int t13), .val (.int t21), .val (.int t30), .val (.ref o35), .val (.ref o89), .val (.int r161)] [.int (1 : Int32)])
  refine ificz_eq K S d0_329 (fun (c329 : 1 = 0) => ?_) (fun (c329 : ¬ 1 = 0) => ?_)
  · exact absurd c329 (by decide)
  refine aload K S rfl rfl d0_332 ?_
  refine bipush K S (x := (8 : Int32)) rfl d0_334 ?_
  refine lload K S rfl d0_336 ?_
  refine iload K S rfl d0_338 ?_
  refine iload K S rfl d0_340 ?_
  refine iload K S rfl d0_342 ?_
  refine aload K S rfl rfl d0_344 ?_
  refine callS K S (W := 0) (m_cell l Z a0 hw n0 o89 (8 : Int32) t4 t13 t21 t30 o35 ys a h161_22 (Sle S) A_o89 A_o35 hl ha (by omega) (by omega) (by omega) (by omega) (by decide) (by decide) (hy 8 (by decide))) (hwi hw 17 rfl) (hwi hw 18 rfl) (hwi hw 20 rfl) (hwi hw 19 rfl) (by decide) (by decide) (by decide) (by decide) (by decide) rfl (argsL := [.ref o89, .int (8 : Int32), .long t4, .int t13, .int t21, .int t30, .ref o35]) rfl (lenOf pd_2 rfl) (rest := []) rfl (Nat.le_of_eq rfl) d0_346 (pu fun T S => ?_)
  show Wp n0 p e _ s below _ T (mkF m 349 #[.val (.long x0), .second, .val (.int x1), .val (.int x2), .val (.int x3), .val (.long t4), .second, .val (.int t13), .val (.int t21), .val (.int t30), .val (.ref o35), .val (.ref o89), .val (.int r161)] [.int (1 : Int32)])
  refine ificz_eq K S d0_349 (fun (c349 : 1 = 0) => ?_) (fun (c349 : ¬ 1 = 0) => ?_)
  · exact absurd c349 (by decide)
  refine aload K S rfl rfl d0_352 ?_
  refine bipush K S (x := (9 : Int32)) rfl d0_354 ?_
  refine lload K S rfl d0_356 ?_
  refine iload K S rfl d0_358 ?_
  refine iload K S rfl d0_360 ?_
  refine iload K S rfl d0_362 ?_
  refine aload K S rfl rfl d0_364 ?_
  refine callS K S (W := 0) (m_cell l Z a0 hw n0 o89 (9 : Int32) t4 t13 t21 t30 o35 ys a h161_22 (Sle S) A_o89 A_o35 hl ha (by omega) (by omega) (by omega) (by omega) (by decide) (by decide) (hy 9 (by decide))) (hwi hw 17 rfl) (hwi hw 18 rfl) (hwi hw 20 rfl) (hwi hw 19 rfl) (by decide) (by decide) (by decide) (by decide) (by decide) rfl (argsL := [.ref o89, .int (9 : Int32), .long t4, .int t13, .int t21, .int t30, .ref o35]) rfl (lenOf pd_2 rfl) (rest := []) rfl (Nat.le_of_eq rfl) d0_366 (pu fun T S => ?_)
  show Wp n0 p e _ s below _ T (mkF m 369 #[.val (.long x0), .second, .val (.int x1), .val (.int x2), .val (.int x3), .val (.long t4), .second, .val (.int t13), .val (.int t21), .val (.int t30), .val (.ref o35), .val (.ref o89), .val (.int r161)] [.int (1 : Int32)])
  refine ificz_eq K S d0_369 (fun (c369 : 1 = 0) => ?_) (fun (c369 : ¬ 1 = 0) => ?_)
  · exact absurd c369 (by decide)
  refine aload K S rfl rfl d0_372 ?_
  refine bipush K S (x := (10 : Int32)) rfl d0_374 ?_
  refine lload K S rfl d0_376 ?_
  refine iload K S rfl d0_378 ?_
  refine iload K S rfl d0_380 ?_
  refine iload K S rfl d0_382 ?_
  refine aload K S rfl rfl d0_384 ?_
  refine callS K S (W := 0) (m_cell l Z a0 hw n0 o89 (10 : Int32) t4 t13 t21 t30 o35 ys a h161_22 (Sle S) A_o89 A_o35 hl ha (by omega) (by omega) (by omega) (by omega) (by decide) (by decide) (hy 10 (by decide))) (hwi hw 17 rfl) (hwi hw 18 rfl) (hwi hw 20 rfl) (hwi hw 19 rfl) (by decide) (by decide) (by decide) (by decide) (by decide) rfl (argsL := [.ref o89, .int (10 : Int32), .long t4, .int t13, .int t21, .int t30, .ref o35]) rfl (lenOf pd_2 rfl) (rest := []) rfl (Nat.le_of_eq rfl) d0_386 (pu fun T S => ?_)
  show Wp n0 p e _ s below _ T (mkF m 389 #[.val (.long x0), .second, .val (.int x1), .val (.int x2), .val (.int x3), .val (.long t4), .second, .val (.int t13), .val (.int t21), .val (.int t30), .val (.ref o35), .val (.ref o89), .val (.int r161)] [.int (1 : Int32)])
  refine ificz_eq K S d0_389 (fun (c389 : 1 = 0) => ?_) (fun (c389 : ¬ 1 = 0) => ?_)
  · exact absurd c389 (by decide)
  refine iconst K S (x := (1 : Int32)) rfl d0_392 ?_
  refine goto K S d0_393 ?_
  refine retn K S (by simp) (y := (1 : Int32)) rfl (by decide) (by decide) d0_397 ?_
  rfl

set_option maxRecDepth 65536 in
set_option maxHeartbeats 40000000 in
theorem comes_1 {Post : Tables → Env → Array Value → State → Outcome → State → Prop} (hpost : ∀ tb e args s v u, (limb_1_1.after args s (.returned v) u = true ∧ limb_1_2.after args s (.returned v) u = true ∧ True) → FrameEnd s (.returned v) u (Jvm.fieldLocs frame_1_writes args s ++ Jvm.arrayLocs frame_1_arrays args s ++ Jvm.staticLocs frame_1_statics s) 16 128 → Post tb e args s (.returned v) u) :
    ArmFor flags0 classFile x code maxLocals ret World_1 tables_1 room_1 Calls_1 rest_1 Pre_1 Post := by
  intro l hfl _ _ p e ha hc hk s m args below hf hA hF happ hP
  obtain ⟨hcalls, hrest, hpre⟩ := hP
  obtain ⟨-, -, -, hnamed, -, -, -, hat⟩ := (Spec.applies_iff hf).mp happ
  obtain ⟨hg, hn⟩ := and_e (Cond.before_iff.mp (show (Jvm.Cond.and given_1 narrow_1).before args s = true from hpre))
  obtain ⟨gc, r0⟩ := and_e hg
  obtain ⟨g0, r1⟩ := and_e r0
  obtain ⟨g1, r2⟩ := and_e r1
  obtain ⟨g2, r3⟩ := and_e r2
  obtain ⟨w0, w1, w2, w3, rfl⟩ : ∃ w0 w1 w2 w3 : Value, args = #[w0, w1, w2, w3] := by
    have hs : args.size = 4 := by simpa [Cond.value, given_1] using gc
    obtain ⟨L⟩ := args
    match L, hs with
    | [w0, w1, w2, w3], _ => exact ⟨w0, w1, w2, w3, rfl⟩
  have hw := fun d (hd : d ∈ tables_1) => atoms_spec (ws := Jvm.Cond.code x code maxLocals ret :: tables_1) hat d (List.mem_cons_of_mem _ hd)
  obtain ⟨i0, ei0⟩ := isL_v g0
  obtain rfl : w0 = (.long i0) := Option.some.inj ei0
  obtain ⟨i1, ei1⟩ := is_v g1
  obtain rfl : w1 = (.int i1) := Option.some.inj ei1
  obtain ⟨i2, ei2⟩ := is_v g2
  obtain rfl : w2 = (.int i2) := Option.some.inj ei2
  obtain ⟨i3, ei3⟩ := is_v r3
  obtain rfl : w3 = (.int i3) := Option.some.inj ei3
  obtain ⟨n, o, h1, h2, h3, _, L, rfl, ⟨rfl, -, N⟩, hq⟩ := m_law l s _ hw s.heap.size i0 i1 i2 i3 s.heap (Nat.le_refl _) p e ha hc hk s m _ below hf ((Spec.applies_iff_loose hf).mp happ).1 ⟨rfl, State.Warmed39.refl s, rfl⟩ trivial
  refine ⟨n, _, h1, h2, h3, hpost _ _ _ _ _ _ ⟨Cond.after_iff.mpr rfl, Cond.after_iff.mpr (eq_i res_at (Term.int_eval (1)) rfl), trivial⟩ ⟨hq.1, hq.2.1, (hq.2.2.sift fun y hy => Or.inr (N y hy)).mono (by decide) (by decide)⟩⟩
theorem main_1_1 : Claimed_1_1 := comes_1 fun _ _ _ _ _ _ h hF => ⟨h.1, hF⟩
theorem main_1_2 : Claimed_1_2 := comes_1 fun _ _ _ _ _ _ h hF => ⟨h.2.1, hF⟩
end Jvm.Pilot.@@N@@
namespace Jvm.Pilot.@@N@@
open Jvm Jvm.ClassFile Sem Op Lib Jvm.Free Jvm.Stand Jvm.Pilot.@@N@@.Jvm.D
/-! MADE BY PROGRAM (witnessworld.py) out of the Statement's table words and the real class files: 13 classes; the members and pool entries that the words name. The judged class is class 1, her method 2. -/
namespace start1
open Jvm.ClassFile
def u (s : String) : CpInfo := .utf8 (stringToUtf16 s)
/-- a pool by its gaps: so many unusable entries, then the entry; so many at the end -/
def gap : Nat → List CpInfo → List CpInfo
  | 0, r => r
  | n + 1, r => .unusable :: gap n r
def poolList (es : List (Nat × CpInfo)) (last : Nat) : List CpInfo := es.foldr (fun e r => gap e.1 (e.2 :: r)) (gap last [])
def pool (es : List (Nat × CpInfo)) (last : Nat) : Array CpInfo := ⟨poolList es last⟩
def fileOf (pool : Array CpInfo) (this : Nat) (attrs : Array Attribute := #[]) (ms : Array MethodInfo := #[]) (fl : Nat := 33) (sup : Nat := 0) (ifs : Array Nat := #[]) (fds : Array FieldInfo := #[]) : ClassFile where
  minorVersion := 0
  majorVersion := 65
  constantPool := pool
  accessFlags := fl
  thisClass := this
  superClass := sup
  interfaces := ifs
  fields := fds
  methods := ms
  attributes := attrs
def plain (name : String) (sup : Option ClassId) : Class where
  name := name
  kind := .ordinary
  loader := none
  accessFlags := 33
  super := sup
  interfaces := #[]
  cf := none
  fields := #[]
  methods := #[]
  instanceTypes := #[]
  staticTypes := #[]
  resolved := #[]
  callSites := []
  init := .initialized
  statics := none
  mirror := none

def pool0 : Array CpInfo := pool [(5, u "<init>"), (0, u "()V"), (1, .class_ 10), (1, u "java/lang/Object")] 113

def k0m0 : Method := { name := "<init>", desc := "()V", sig := { parameters := [], returnType := none }, accessFlags := 1, code := none }
/-- java/lang/Object -/
def k0 : Class := { plain "java/lang/Object" none with
  accessFlags := 33
  interfaces := #[]
  cf := some (fileOf pool0 8 #[] #[{ accessFlags := 1, nameIndex := 5, descriptorIndex := 6, attributes := #[] }] 33 0 #[] #[])
  fields := #[]
  methods := #[k0m0]
  instanceTypes := #[]
  staticTypes := #[]
  resolved := Array.replicate 124 none
  statics := none }

def pool1 : Array CpInfo := pool [(2, .class_ 4), (1, u "java/lang/Object"), (0, u "<init>"), (0, u "()V"), (0, .long 48), (1, .long 10), (3, .long 9223372036854775807), (1, .integer 2147483647), (0, .long 100), (1, .long 1000), (1, .long 10000), (1, .long 100000), (1, .long 1000000), (1, .long 10000000), (1, .methodref 29 30), (0, .class_ 31), (0, .nameAndType 32 33), (0, u "com/example/hectonano/hectonano/internal/AsciiDigits"), (0, u "put"), (0, u "(JI[CI)I"), (0, .methodref 35 36), (0, .class_ 37), (0, .nameAndType 38 39), (0, u "com/example/hectonano/hectonano/internal/AsciiDigitsPutPinLaw"), (0, u "cell"), (0, u "([CIJIIC[J)Z"), (3, u "law"), (0, u "(JIII)Z")] 6

def k1m0 : Method := { name := "<init>", desc := "()V", sig := { parameters := [], returnType := none }, accessFlags := 2, code := none }
def k1c1 : Code := { maxStack := 6, maxLocals := 10, code := method_2_code, exceptionTable := #[], attributes := #[] }
def k1m1 : Method := { name := "cell", desc := "([CIJIIC[J)Z", sig := { parameters := [(.array .char), .int, .long, .int, .int, .char, (.array .long)], returnType := some .boolean }, accessFlags := 10, code := some k1c1 }
def k1c2 : Code := { maxStack := 8, maxLocals := 13, code := code, exceptionTable := #[], attributes := #[] }
def k1m2 : Method := { name := "law", desc := "(JIII)Z", sig := { parameters := [.long, .int, .int, .int], returnType := some .boolean }, accessFlags := 9, code := some k1c2 }
/-- com/example/hectonano/hectonano/internal/AsciiDigitsPutPinLaw -/
def k1 : Class := { plain "com/example/hectonano/hectonano/internal/AsciiDigitsPutPinLaw" (some 0) with
  accessFlags := 49
  interfaces := #[]
  cf := some (fileOf pool1 35 #[] #[{ accessFlags := 2, nameIndex := 5, descriptorIndex := 6, attributes := #[] }, { accessFlags := 10, nameIndex := 38, descriptorIndex := 39, attributes := #[] }, { accessFlags := 9, nameIndex := 43, descriptorIndex := 44, attributes := #[] }] 49 2 #[] #[])
  fields := #[]
  methods := #[k1m0, k1m1, k1m2]
  instanceTypes := #[]
  staticTypes := #[]
  resolved := Array.replicate 51 none
  statics := none }

def pool2 : Array CpInfo := pool [(2, .class_ 4), (1, u "java/lang/Object"), (0, u "<init>"), (0, u "()V"), (6, .long 10), (1, .long 48), (6, .class_ 24), (1, u "com/example/hectonano/hectonano/internal/AsciiDigits"), (13, u "SAFE_DIGITS"), (0, u "I"), (7, u "put"), (0, u "(JI[CI)I")] 6

def k2m0 : Method := { name := "<init>", desc := "()V", sig := { parameters := [], returnType := none }, accessFlags := 2, code := none }
def k2c1 : Code := { maxStack := 8, maxLocals := 8, code := prog_40_method_4_code, exceptionTable := #[], attributes := #[] }
def k2m1 : Method := { name := "put", desc := "(JI[CI)I", sig := { parameters := [.long, .int, (.array .char), .int], returnType := some .int }, accessFlags := 9, code := some k2c1 }
/-- com/example/hectonano/hectonano/internal/AsciiDigits -/
def k2 : Class := { plain "com/example/hectonano/hectonano/internal/AsciiDigits" (some 0) with
  accessFlags := 33
  interfaces := #[]
  cf := some (fileOf pool2 22 #[] #[{ accessFlags := 2, nameIndex := 5, descriptorIndex := 6, attributes := #[] }, { accessFlags := 9, nameIndex := 47, descriptorIndex := 48, attributes := #[] }] 33 2 #[] #[{ accessFlags := 26, nameIndex := 38, descriptorIndex := 39, attributes := #[] }])
  fields := #[{ name := "SAFE_DIGITS", type := .int, accessFlags := 26, slot := 0, constantValue := 0 }]
  methods := #[k2m0, k2m1]
  instanceTypes := #[]
  staticTypes := #[.int]
  resolved := Array.replicate 55 none
  statics := none }

def pool3 : Array CpInfo := pool [(1, u "java/lang/Cloneable"), (0, .class_ 1), (0, u "java/lang/Object"), (0, .class_ 3)] 3

/-- java/lang/Cloneable -/
def k3 : Class := { plain "java/lang/Cloneable" (some 0) with
  accessFlags := 1537
  interfaces := #[]
  cf := some (fileOf pool3 2 #[] #[] 1537 4 #[] #[])
  fields := #[]
  methods := #[]
  instanceTypes := #[]
  staticTypes := #[]
  resolved := Array.replicate 8 none
  statics := none }

def pool4 : Array CpInfo := pool [(1, u "java/io/Serializable"), (0, .class_ 1), (0, u "java/lang/Object"), (0, .class_ 3)] 3

/-- java/io/Serializable -/
def k4 : Class := { plain "java/io/Serializable" (some 0) with
  accessFlags := 1537
  interfaces := #[]
  cf := some (fileOf pool4 2 #[] #[] 1537 4 #[] #[])
  fields := #[]
  methods := #[]
  instanceTypes := #[]
  staticTypes := #[]
  resolved := Array.replicate 8 none
  statics := none }

/-- the primitive byte -/
def k5 : Class := { plain "byte" none with kind := .primitive 'B', accessFlags := 0x411 }
/-- [B -/
def k6 : Class := { plain "[B" (some 0) with kind := .array 5 .byte, interfaces := #[3, 4], accessFlags := 1041 }

/-- the primitive char -/
def k7 : Class := { plain "char" none with kind := .primitive 'C', accessFlags := 0x411 }
/-- [C -/
def k8 : Class := { plain "[C" (some 0) with kind := .array 7 .char, interfaces := #[3, 4], accessFlags := 1041 }

/-- the primitive int -/
def k9 : Class := { plain "int" none with kind := .primitive 'I', accessFlags := 0x411 }
/-- [I -/
def k10 : Class := { plain "[I" (some 0) with kind := .array 9 .int, interfaces := #[3, 4], accessFlags := 1041 }

/-- the primitive long -/
def k11 : Class := { plain "long" none with kind := .primitive 'J', accessFlags := 0x411 }
/-- [J -/
def k12 : Class := { plain "[J" (some 0) with kind := .array 11 .long, interfaces := #[3, 4], accessFlags := 1041 }

def heap : Heap := #[]
def classes : Array Class := #[k0, k1, k2, k3, k4, k5, k6, k7, k8, k9, k10, k11, k12]
def interned : List (Array UInt16 × Addr) := []
def slotsUsed : Nat := 0
def theMethod : MethodId := ⟨1, 2⟩
def args0 : Array Value := #[.long 12345, .int 5, .int 1, .int 300]
def aboutOver (below : List Frame) : State where
  vm := { classes := classes, interned := interned.toArray }
  heap := heap
  slotsUsed := slotsUsed
  threads := #[{ frames := .invoking theMethod args0 :: below }]
def below0 : List Frame := [.native { method := ⟨0, 0⟩, args := #[] }]
def about1 : State := aboutOver below0
def p0 : Program := .bare "" "" ""
def e0 : Env := launch0.env 0 0 0
theorem w_frames : about1.frames = Frame.invoking theMethod args0 :: below0 := rfl
set_option maxRecDepth 65536 in
theorem w_args : argsFit about1.vm theMethod args0 = true := by decide +kernel
set_option maxRecDepth 65536 in
theorem w_heap : heapFits about1 = true := by decide +kernel
set_option maxRecDepth 65536 in
theorem w_runnable : about1.curStatus? = some .runnable := by decide +kernel
set_option maxRecDepth 65536 in
theorem w_alone : about1.alone = true := by decide +kernel
set_option maxRecDepth 65536 in
theorem w_named : about1.methodNamed? x = some theMethod := by decide +kernel
set_option maxRecDepth 65536 in
theorem w_hears : about1.hears theMethod below0 = true := by decide +kernel
set_option maxRecDepth 65536 in
theorem w_ripe : about1.ripe theMethod args0 below0 = true := by decide +kernel
theorem w_running : about1.status = .running := rfl
set_option maxRecDepth 65536 in
theorem w_room : about1.hasRoom e0.platform room_1 = true :=
  launch0.hasRoom_least _ room_1 (by decide +kernel) (by decide +kernel) (by decide +kernel) (by decide +kernel) (by decide +kernel) (by decide +kernel)
theorem allAtoms_all (ts : List Jvm.Cond) (a : Array Jvm.Value) (st : Jvm.State) : (allAtoms ts).before a st = ts.all (fun c => c.before a st) := by
  induction ts with
  | nil => rfl
  | cons c t ih =>
    show (Jvm.Cond.and c (allAtoms t)).before a st = _
    rw [Jvm.Cond.before_and, ih, List.all_cons]
def words1 : List Jvm.Cond := Jvm.Cond.code x code maxLocals ret :: tables_1
/-- a 'code' word, met by the world's own term for the bytes: nothing is compared byte by byte -/
theorem code_word {y : MethodName} {bytes : ByteArray} {mx : Nat} {rt : Option FieldType} {a : Array Value} {s : State} {m : MethodId} {meth : Method} {c : Code} (h1 : s.methodNamed? y = some m) (h2 : s.vm.method? m = some meth) (h3 : meth.code = some c) (h4 : c.code = bytes)
    (h5 : (c.maxLocals == mx && c.exceptionTable.isEmpty && decide (c.maxStack ≤ mostOperands) && decide (meth.sig.returnType = rt) && !meth.locks && decide (parseMethodDescriptor y.desc = some meth.sig)) = true) : (Jvm.Cond.code y bytes mx rt).before a s = true := by
  simp only [Bool.and_eq_true, beq_iff_eq, Bool.not_eq_true', decide_eq_true_eq] at h5
  obtain ⟨⟨⟨⟨⟨g1, g2⟩, g3⟩, g4⟩, g5⟩, g6⟩ := h5
  simp [Cond.before, Cond.holds, Cond.value, h1, h2, h3, h4, g1, g2, g3, g4, g5, g6]
def isCode : Jvm.Cond → Bool
  | .code _ _ _ _ => true
  | _ => false
theorem all_split {L : List Jvm.Cond} {P : Jvm.Cond → Bool} (h1 : L.all (fun c => isCode c || P c) = true) (h2 : ∀ c ∈ L.filter isCode, P c = true) : L.all P = true := by
  refine List.all_eq_true.mpr fun c hc => ?_
  have h := List.all_eq_true.mp h1 c hc
  rcases Bool.eq_false_or_eq_true (isCode c) with hi | hi
  · exact h2 c (List.mem_filter.mpr ⟨hc, hi⟩)
  · simpa [hi] using h
set_option maxRecDepth 65536 in
theorem w_c0 : (Jvm.Cond.code x code maxLocals ret).before args0 about1 = true := code_word (m := ⟨1, 2⟩) (meth := k1m2) (c := k1c2) (by decide +kernel) rfl rfl rfl (by decide +kernel)
set_option maxRecDepth 65536 in
theorem w_c1 : (Jvm.Cond.code ({ cls := "com/example/hectonano/hectonano/internal/AsciiDigits", name := "put", desc := "(JI[CI)I" } : Jvm.MethodName) prog_40_method_4_code (8 : Nat) (Option.some Jvm.ClassFile.FieldType.int)).before args0 about1 = true := code_word (m := ⟨2, 1⟩) (meth := k2m1) (c := k2c1) (by decide +kernel) rfl rfl rfl (by decide +kernel)
set_option maxRecDepth 65536 in
theorem w_c2 : (Jvm.Cond.code ({ cls := "com/example/hectonano/hectonano/internal/AsciiDigitsPutPinLaw", name := "cell", desc := "([CIJIIC[J)Z" } : Jvm.MethodName) method_2_code (10 : Nat) (Option.some Jvm.ClassFile.FieldType.boolean)).before args0 about1 = true := code_word (m := ⟨1, 1⟩) (meth := k1m1) (c := k1c1) (by decide +kernel) rfl rfl rfl (by decide +kernel)
def codes1 : List Jvm.Cond := [Jvm.Cond.code x code maxLocals ret, Jvm.Cond.code ({ cls := "com/example/hectonano/hectonano/internal/AsciiDigits", name := "put", desc := "(JI[CI)I" } : Jvm.MethodName) prog_40_method_4_code (8 : Nat) (Option.some Jvm.ClassFile.FieldType.int), Jvm.Cond.code ({ cls := "com/example/hectonano/hectonano/internal/AsciiDigitsPutPinLaw", name := "cell", desc := "([CIJIIC[J)Z" } : Jvm.MethodName) method_2_code (10 : Nat) (Option.some Jvm.ClassFile.FieldType.boolean)]
set_option maxRecDepth 65536 in
theorem codes_eq : words1.filter isCode = codes1 := rfl
theorem w_codes : ∀ c ∈ words1.filter isCode, c.before args0 about1 = true := by
  rw [codes_eq]
  intro c hc
  simp only [codes1, List.mem_cons, List.not_mem_nil, or_false] at hc
  rcases hc with rfl | rfl | rfl
  · exact w_c0
  · exact w_c1
  · exact w_c2
set_option maxRecDepth 65536 in
theorem w_t1 : words1.all (fun c => isCode c || c.before args0 about1) = true := by decide +kernel
theorem w_tables : (allAtoms (Jvm.Cond.code x code maxLocals ret :: tables_1)).before args0 about1 = true := by
  rw [allAtoms_all]
  show words1.all (fun c => c.before args0 about1) = true
  refine all_split ?_ w_codes
  rw [w_t1]
set_option maxRecDepth 65536 in
theorem w_case : (Jvm.Cond.and given_1 narrow_1).before args0 about1 = true := by decide +kernel
theorem w_applies : (headSpec (Jvm.Cond.code x code maxLocals ret :: tables_1) room_1).applies x e0.platform about1 = true :=
  (Spec.applies_iff w_frames).mpr ⟨w_running, w_runnable, w_alone, w_named, w_hears, w_ripe, w_room, w_tables⟩
theorem atStart : AtStart classFile x code maxLocals ret World_1 tables_1 room_1 Calls_1 rest_1 Pre_1 launch0 p0 e0 about1 theMethod args0 below0 :=
  ⟨lists_1, trivial, launch0.admits_env _ _ _, launch0.least_env, fairChoices_fair.cas, fairChoices_fair.clock, w_frames, w_args, w_heap, w_applies, trivial, trivial, w_case⟩
end start1
theorem witness_1 : WitnessClaimed_1 := ⟨start1.p0, start1.e0, start1.about1, start1.theMethod, start1.args0, start1.below0, start1.atStart⟩
end Jvm.Pilot.@@N@@
