import JvmDerived
import JvmDerived.Pilot.@@N@@Statement
import JvmDerived.Pilot.@@N@@Code
set_option linter.unusedVariables false
set_option linter.unusedSimpArgs false
namespace Jvm.Own
open Jvm Sem ClassFile Op Lib Jvm.Stand Jvm.Free Jvm.LawKit Jvm.RoadKit
section Kit
/-- the fixed surroundings of one body's walk -/
def Cx (own : String) (code : ByteArray) (mL : Nat) (ret : Option FieldType) (mn : String) (n0 : Nat) (Z : State) (p : Program) (l : Launch) (e : Env) (R : Room) (s : State) (m : MethodId) (args : Array Value) (below : List Frame) (meth : Method) (c : Code) : Prop :=
  p.tables.exec = Jvm.exec ∧ c.code = code ∧ c.maxLocals = mL ∧ meth.sig.returnType = ret ∧ meth.locks = false ∧ s.vm.findClass own = some m.cls ∧ Z.Warmed39 s.vm ∧ meth.name = mn
/-- where the walk stands: k cells and n slots made so far, the heap h -/
def St (n0 : Nat) (p : Program) (l : Launch) (e : Env) (R : Room) (s : State) (m : MethodId) (args : Array Value) (below : List Frame) (meth : Method) (c : Code) (k n : Nat) (h : Heap) (T : State) : Prop :=
  ∃ locs, Stand p l e R s m args below meth c T locs k n ∧ T.heap = h ∧ Fr n0 locs ∧ n0 ≤ h.size
/-- from here the body comes to its end, and Q holds there -/
def Wp (n0 : Nat) (p : Program) (e : Env) (R : Room) (s : State) (below : List Frame) (Q : Option Value → Heap → Prop) (T : State) (g : JFrame) : Prop :=
  ∃ s₂ o, Steps p.tables e below (T.setTop g) s₂ ∧ s₂.status = .running ∧ Ended s₂ below o ∧ ∃ v L, o = .returned v ∧ (Q v s₂.heap ∧ n0 ≤ s₂.heap.size ∧ Fr n0 L) ∧ FrameEnd s o s₂ L R.cells R.slots
/-- a body's contract: entered with the arguments as' at the heap h it returns, and Q holds of what it returns and of the heap -/
def Met (n0 : Nat) (l : Launch) (Z : State) (y : MethodName) (bytes : ByteArray) (mL : Nat) (ret : Option FieldType) (rm : Room) (ws : List Jvm.Cond) (as' : Array Value) (h : Heap) (Q : Option Value → Heap → Prop) : Prop :=
  MetFree l y (head1 (Jvm.Cond.code y bytes mL ret :: ws) rm) (fun a U => a = as' ∧ Z.Warmed39 U.vm ∧ U.heap = h) (fun _ _ _ _ _ => True) (fun _ U o U' => ∃ v L, o = .returned v ∧ (Q v U'.heap ∧ n0 ≤ U'.heap.size ∧ Fr n0 L) ∧ FrameEnd U o U' L rm.cells rm.slots)
def Dc (code : ByteArray) (pc : Nat) (i : Instr) (len q : Nat) : Prop := decode code pc = .ok (i, len) ∧ pc + len = q
def Bc (code : ByteArray) (pc : Nat) (i : Instr) (o : Int) (q q' : Nat) : Prop := decode code pc = .ok (i, 3) ∧ pc + 3 = q ∧ 0 ≤ (pc : Int) + o ∧ ((pc : Int) + o).toNat = q'
/-- the place i that the int j names -/
def Ix (j : Int32) (i : Nat) : Prop := ¬ j < 0 ∧ j.toNatClampNeg = i
/-- an array of the values vs -/
def VA (Z : State) (h : Heap) (a : Addr) (ty : FieldType) (vs : List Value) : Prop := ∃ cl : Cell, Arr Z h a cl ty ∧ cl.slots = vs.toArray
variable {own : String} {code : ByteArray} {mL : Nat} {ret : Option FieldType} {mn : String} {n0 : Nat} {Z : State} {p : Program} {l : Launch} {e : Env} {R : Room} {s : State} {m : MethodId} {args : Array Value} {below : List Frame} {meth : Method} {c : Code} {T : State} {k n : Nat} {h h' : Heap} {Q : Option Value → Heap → Prop} {pc q q' : Nat} {Ls l' : Array Slot} {st rest : List Value} {a0 : Array Value} {ty : FieldType} {vs : List Value} {a b : Addr} {v w : Value} {x y : Int32} {X Y : Int64}
theorem VA.ext (F : VA Z h a ty vs) (E : Ext h h') : VA Z h' a ty vs := by obtain ⟨cl, A, r⟩ := F; exact ⟨cl, A.ext E, r⟩
theorem VA.other {sl : Nat} (F : VA Z h a ty vs) (W : Wr h h' b sl v) (ne : a ≠ b) : VA Z h' a ty vs := by obtain ⟨cl, A, r⟩ := F; exact ⟨cl, A.other W ne, r⟩
theorem VA.keep {ws : List Addr} (F : VA Z h a ty vs) (K : Keep h h' ws) (ne : a ∉ ws) : VA Z h' a ty vs := by obtain ⟨cl, A, r⟩ := F; exact ⟨cl, ⟨K.2.1 a cl A.1 ne, A.2⟩, r⟩
theorem VA.lt (F : VA Z h a ty vs) : a < h.size := by obtain ⟨cl, A, r⟩ := F; exact A.lt
theorem VA.wr {i : Nat} (F : VA Z h a ty vs) (W : Wr h h' a i v) : VA Z h' a ty (vs.set i v) := by
  obtain ⟨cl, A, r⟩ := F
  refine ⟨_, Arr.same W A, ?_⟩
  show cl.slots.setIfInBounds i v = _
  rw [r]; simp
theorem wp_mono {T' : State} {g g' : JFrame} (f : ∀ t, Steps p.tables e below (T'.setTop g') t → Steps p.tables e below (T.setTop g) t) (w : Wp n0 p e R s below Q T' g') : Wp n0 p e R s below Q T g := by
  obtain ⟨s₂, o, h1, r⟩ := w; exact ⟨s₂, o, f _ h1, r⟩
theorem nmI (g : ∀ z, z = x → Wp n0 p e R s below Q T (mkF m pc Ls (.int z :: st))) : Wp n0 p e R s below Q T (mkF m pc Ls (.int x :: st)) := g x rfl
theorem nmL (g : ∀ z, z = X → Wp n0 p e R s below Q T (mkF m pc Ls (.long z :: st))) : Wp n0 p e R s below Q T (mkF m pc Ls (.long X :: st)) := g X rfl
def Pu (r : Option Value) (h : Heap) : Option Value → Heap → Prop := fun v h' => v = r ∧ h' = h
def Ef (r : Option Value) (P : Heap → Prop) : Option Value → Heap → Prop := fun v h' => v = r ∧ P h'
def Pr (P : Int32 → Prop) (h : Heap) : Option Value → Heap → Prop := fun v h' => ∃ r, v = some (.int r) ∧ P r ∧ h' = h
def PrL (P : Int64 → Prop) (h : Heap) : Option Value → Heap → Prop := fun v h' => ∃ r, v = some (.long r) ∧ P r ∧ h' = h
def Er (P : Int32 → Heap → Prop) : Option Value → Heap → Prop := fun v h' => ∃ r, v = some (.int r) ∧ P r h'
def Ea (P : Addr → Heap → Prop) : Option Value → Heap → Prop := fun v h' => ∃ r, v = some (.ref r) ∧ P r h'
theorem own_b01 {x : Int32} (h : x.toInt = 0 ∨ x.toInt = 1) : nar .boolean x = x := by
  rcases h with h | h
  · have e : x = 0 := Int32.toInt_inj.mp h
    subst e; rfl
  · have e : x = 1 := Int32.toInt_inj.mp h
    subst e; rfl
theorem own_eqz {x y : Int32} (h : x.toInt = y.toInt) : x = y := Int32.toInt_inj.mp h
theorem own_eqZ {x y : Int64} (h : x.toInt = y.toInt) : x = y := Int64.toInt_inj.mp h
theorem own_lrem (x y : Int64) (d : Int) (hy : y.toInt = d) : (0 ≤ x.toInt → (x % y).toInt = x.toInt % d) ∧ (x.toInt < 0 → (x % y).toInt = -((-x.toInt) % d)) := by rw [Int64.toInt_mod, hy]; exact tr _ _
theorem own_nz {y : Int32} (h : 0 < y.toInt) : y ≠ 0 := fun q => by rw [q] at h; exact absurd h (by decide)
theorem own_nneg {x : Int32} (h : 0 ≤ x.toInt) : ¬ x < 0 := fun q => by
  have q' := Int32.lt_iff_toInt_lt.mp q
  have z0 : (0 : Int32).toInt = 0 := rfl
  omega
theorem own_cl {x : Int32} (h : 0 ≤ x.toInt) : (x.toNatClampNeg : Int) = x.toInt := by
  have e : x.toNatClampNeg = x.toInt.toNat := rfl
  omega
theorem own_ix {x : Int32} (h : 0 ≤ x.toInt) : Ix x x.toInt.toNat := ⟨own_nneg h, rfl⟩
theorem stO {i : Nat} {o : Slot} (ho : One o) (hold : Ls[i]? = some o) (hv : v.category = 1) (he : Ls.setIfInBounds i (.val v) = l') : storeLocals Ls i v = some l' := he ▸ XS.store1 hold ho hv
theorem Sle (S : St n0 p l e R s m args below meth c k n h T) : n0 ≤ h.size := by obtain ⟨_, _, _, _, z⟩ := S; exact z
theorem more {k' n' : Nat} (S : St n0 p l e R s m args below meth c k n h T) (hk : k ≤ k') (hn : n ≤ n') : St n0 p l e R s m args below meth c k' n' h T := by
  obtain ⟨locs, S, r⟩ := S; exact ⟨locs, S.more hk hn, r⟩
theorem pu {r : Option Value} (g : ∀ T, St n0 p l e R s m args below meth c k n h T → Wp n0 p e R s below Q T (mkF m q Ls (r.toList ++ rest))) : ∀ T v h', Pu r h v h' → St n0 p l e R s m args below meth c k n h' T → Wp n0 p e R s below Q T (mkF m q Ls (v.toList ++ rest)) := by
  intro T v h' hq S; obtain ⟨rfl, rfl⟩ := hq; exact g T S
theorem ef {r : Option Value} {P : Heap → Prop} (g : ∀ T h', P h' → St n0 p l e R s m args below meth c k n h' T → Wp n0 p e R s below Q T (mkF m q Ls (r.toList ++ rest))) : ∀ T v h', Ef r P v h' → St n0 p l e R s m args below meth c k n h' T → Wp n0 p e R s below Q T (mkF m q Ls (v.toList ++ rest)) := by
  intro T v h' hq S; obtain ⟨rfl, hp⟩ := hq; exact g T h' hp S
theorem pr {P : Int32 → Prop} (g : ∀ T r, P r → St n0 p l e R s m args below meth c k n h T → Wp n0 p e R s below Q T (mkF m q Ls (.int r :: rest))) : ∀ T v h', Pr P h v h' → St n0 p l e R s m args below meth c k n h' T → Wp n0 p e R s below Q T (mkF m q Ls (v.toList ++ rest)) := by
  intro T v h' hq S; obtain ⟨r, rfl, hp, rfl⟩ := hq; exact g T r hp S
theorem prL {P : Int64 → Prop} (g : ∀ T r, P r → St n0 p l e R s m args below meth c k n h T → Wp n0 p e R s below Q T (mkF m q Ls (.long r :: rest))) : ∀ T v h', PrL P h v h' → St n0 p l e R s m args below meth c k n h' T → Wp n0 p e R s below Q T (mkF m q Ls (v.toList ++ rest)) := by
  intro T v h' hq S; obtain ⟨r, rfl, hp, rfl⟩ := hq; exact g T r hp S
theorem er {P : Int32 → Heap → Prop} (g : ∀ T r h', P r h' → St n0 p l e R s m args below meth c k n h' T → Wp n0 p e R s below Q T (mkF m q Ls (.int r :: rest))) : ∀ T v h', Er P v h' → St n0 p l e R s m args below meth c k n h' T → Wp n0 p e R s below Q T (mkF m q Ls (v.toList ++ rest)) := by
  intro T v h' hq S; obtain ⟨r, rfl, hp⟩ := hq; exact g T r h' hp S
theorem ea {P : Addr → Heap → Prop} (g : ∀ T r h', P r h' → St n0 p l e R s m args below meth c k n h' T → Wp n0 p e R s below Q T (mkF m q Ls (.ref r :: rest))) : ∀ T v h', Ea P v h' → St n0 p l e R s m args below meth c k n h' T → Wp n0 p e R s below Q T (mkF m q Ls (v.toList ++ rest)) := by
  intro T v h' hq S; obtain ⟨r, rfl, hp⟩ := hq; exact g T r h' hp S
theorem enter {y : MethodName} {bytes : ByteArray} {rm : Room} {ws : List Jvm.Cond} {as' : Array Value} (hpn : plainFor y = true) (ef : ∀ m, entryFrame m as' mL = mkF m 0 Ls []) (hn : n0 ≤ h.size)
    (body : ∀ p e s m below meth c T, Cx y.cls bytes mL ret y.name n0 Z p l e rm s m as' below meth c → St n0 p l e rm s m as' below meth c 0 0 h T → Wp n0 p e rm s below Q T (mkF m 0 Ls [])) : Met n0 l Z y bytes mL ret rm ws as' h Q := by
  refine MetFree.of_bodySF hpn hisR ?_
  intro p e s m args below meth c s₁ Bd hml0 hP hK
  obtain ⟨rfl, hZ, hh⟩ := hP
  have e0 : s₁.heap = h := by rw [← hh, Bd.state]; rfl
  have w := body p e s m below meth c s₁ ⟨Bd.exec, Bd.bytes, hml0, Bd.returns, Bd.notSynchronized, findClass_of_methodNamed Bd.named, hZ, (name_of_methodNamed Bd.named Bd.method).1⟩ ⟨[], Stand.of_body Bd, e0, Fr.nil n0, hn⟩
  obtain ⟨s₂, o, h1, r⟩ := w
  exact ⟨s₂, o, castTop (ef m) h1, r⟩
theorem iadd (K : Cx own code mL ret mn n0 Z p l e R s m args below meth c) (S : St n0 p l e R s m args below meth c k n h T) (hd : Dc code pc (.iadd) 1 q) (g : Wp n0 p e R s below Q T (mkF m q Ls (.int (x + y) :: st))) : Wp n0 p e R s below Q T (mkF m pc Ls (.int y :: .int x :: st)) := by
  obtain ⟨hx, hby, -⟩ := K; obtain ⟨locs, S, -, -⟩ := S; obtain ⟨hd, rfl⟩ := hd
  exact wp_mono (fun t hr => XS.iadd S.here hx rfl (hb hby hd) rfl hr) g
theorem isub (K : Cx own code mL ret mn n0 Z p l e R s m args below meth c) (S : St n0 p l e R s m args below meth c k n h T) (hd : Dc code pc (.isub) 1 q) (g : Wp n0 p e R s below Q T (mkF m q Ls (.int (x - y) :: st))) : Wp n0 p e R s below Q T (mkF m pc Ls (.int y :: .int x :: st)) := by
  obtain ⟨hx, hby, -⟩ := K; obtain ⟨locs, S, -, -⟩ := S; obtain ⟨hd, rfl⟩ := hd
  exact wp_mono (fun t hr => XS.isub S.here hx rfl (hb hby hd) rfl hr) g
theorem imul (K : Cx own code mL ret mn n0 Z p l e R s m args below meth c) (S : St n0 p l e R s m args below meth c k n h T) (hd : Dc code pc (.imul) 1 q) (g : Wp n0 p e R s below Q T (mkF m q Ls (.int (x * y) :: st))) : Wp n0 p e R s below Q T (mkF m pc Ls (.int y :: .int x :: st)) := by
  obtain ⟨hx, hby, -⟩ := K; obtain ⟨locs, S, -, -⟩ := S; obtain ⟨hd, rfl⟩ := hd
  exact wp_mono (fun t hr => XS.imul S.here hx rfl (hb hby hd) rfl hr) g
theorem iand (K : Cx own code mL ret mn n0 Z p l e R s m args below meth c) (S : St n0 p l e R s m args below meth c k n h T) (hd : Dc code pc (.iand) 1 q) (g : Wp n0 p e R s below Q T (mkF m q Ls (.int (x &&& y) :: st))) : Wp n0 p e R s below Q T (mkF m pc Ls (.int y :: .int x :: st)) := by
  obtain ⟨hx, hby, -⟩ := K; obtain ⟨locs, S, -, -⟩ := S; obtain ⟨hd, rfl⟩ := hd
  exact wp_mono (fun t hr => XS.iand S.here hx rfl (hb hby hd) rfl hr) g
theorem ior (K : Cx own code mL ret mn n0 Z p l e R s m args below meth c) (S : St n0 p l e R s m args below meth c k n h T) (hd : Dc code pc (.ior) 1 q) (g : Wp n0 p e R s below Q T (mkF m q Ls (.int (x ||| y) :: st))) : Wp n0 p e R s below Q T (mkF m pc Ls (.int y :: .int x :: st)) := by
  obtain ⟨hx, hby, -⟩ := K; obtain ⟨locs, S, -, -⟩ := S; obtain ⟨hd, rfl⟩ := hd
  exact wp_mono (fun t hr => XT.ior S.here hx rfl (hb hby hd) rfl hr) g
theorem ixor (K : Cx own code mL ret mn n0 Z p l e R s m args below meth c) (S : St n0 p l e R s m args below meth c k n h T) (hd : Dc code pc (.ixor) 1 q) (g : Wp n0 p e R s below Q T (mkF m q Ls (.int (x ^^^ y) :: st))) : Wp n0 p e R s below Q T (mkF m pc Ls (.int y :: .int x :: st)) := by
  obtain ⟨hx, hby, -⟩ := K; obtain ⟨locs, S, -, -⟩ := S; obtain ⟨hd, rfl⟩ := hd
  exact wp_mono (fun t hr => XT.ixor S.here hx rfl (hb hby hd) rfl hr) g
theorem ishl (K : Cx own code mL ret mn n0 Z p l e R s m args below meth c) (S : St n0 p l e R s m args below meth c k n h T) (hd : Dc code pc (.ishl) 1 q) (g : Wp n0 p e R s below Q T (mkF m q Ls (.int (x <<< (y &&& 31)) :: st))) : Wp n0 p e R s below Q T (mkF m pc Ls (.int y :: .int x :: st)) := by
  obtain ⟨hx, hby, -⟩ := K; obtain ⟨locs, S, -, -⟩ := S; obtain ⟨hd, rfl⟩ := hd
  exact wp_mono (fun t hr => XT.ishl S.here hx rfl (hb hby hd) rfl hr) g
theorem ishr (K : Cx own code mL ret mn n0 Z p l e R s m args below meth c) (S : St n0 p l e R s m args below meth c k n h T) (hd : Dc code pc (.ishr) 1 q) (g : Wp n0 p e R s below Q T (mkF m q Ls (.int (x >>> (y &&& 31)) :: st))) : Wp n0 p e R s below Q T (mkF m pc Ls (.int y :: .int x :: st)) := by
  obtain ⟨hx, hby, -⟩ := K; obtain ⟨locs, S, -, -⟩ := S; obtain ⟨hd, rfl⟩ := hd
  exact wp_mono (fun t hr => XT.ishr S.here hx rfl (hb hby hd) rfl hr) g
theorem iushr (K : Cx own code mL ret mn n0 Z p l e R s m args below meth c) (S : St n0 p l e R s m args below meth c k n h T) (hd : Dc code pc (.iushr) 1 q) (g : Wp n0 p e R s below Q T (mkF m q Ls (.int (XT.ushr x y) :: st))) : Wp n0 p e R s below Q T (mkF m pc Ls (.int y :: .int x :: st)) := by
  obtain ⟨hx, hby, -⟩ := K; obtain ⟨locs, S, -, -⟩ := S; obtain ⟨hd, rfl⟩ := hd
  exact wp_mono (fun t hr => XT.iushr S.here hx rfl (hb hby hd) rfl hr) g
theorem idiv (K : Cx own code mL ret mn n0 Z p l e R s m args below meth c) (S : St n0 p l e R s m args below meth c k n h T) (hy : y ≠ 0) (hd : Dc code pc (.idiv) 1 q) (g : Wp n0 p e R s below Q T (mkF m q Ls (.int (x / y) :: st))) : Wp n0 p e R s below Q T (mkF m pc Ls (.int y :: .int x :: st)) := by
  obtain ⟨hx, hby, -⟩ := K; obtain ⟨locs, S, -, -⟩ := S; obtain ⟨hd, rfl⟩ := hd
  exact wp_mono (fun t hr => XS.idiv S.here hx rfl (hb hby hd) rfl hy hr) g
theorem irem (K : Cx own code mL ret mn n0 Z p l e R s m args below meth c) (S : St n0 p l e R s m args below meth c k n h T) (hy : y ≠ 0) (hd : Dc code pc (.irem) 1 q) (g : Wp n0 p e R s below Q T (mkF m q Ls (.int (x % y) :: st))) : Wp n0 p e R s below Q T (mkF m pc Ls (.int y :: .int x :: st)) := by
  obtain ⟨hx, hby, -⟩ := K; obtain ⟨locs, S, -, -⟩ := S; obtain ⟨hd, rfl⟩ := hd
  exact wp_mono (fun t hr => iremM S hx rfl (hb hby hd) rfl hy hr) g
theorem ladd (K : Cx own code mL ret mn n0 Z p l e R s m args below meth c) (S : St n0 p l e R s m args below meth c k n h T) (hd : Dc code pc (.ladd) 1 q) (g : Wp n0 p e R s below Q T (mkF m q Ls (.long (X + Y) :: st))) : Wp n0 p e R s below Q T (mkF m pc Ls (.long Y :: .long X :: st)) := by
  obtain ⟨hx, hby, -⟩ := K; obtain ⟨locs, S, -, -⟩ := S; obtain ⟨hd, rfl⟩ := hd
  exact wp_mono (fun t hr => XT.ladd S.here hx rfl (hb hby hd) rfl hr) g
theorem lsub (K : Cx own code mL ret mn n0 Z p l e R s m args below meth c) (S : St n0 p l e R s m args below meth c k n h T) (hd : Dc code pc (.lsub) 1 q) (g : Wp n0 p e R s below Q T (mkF m q Ls (.long (X - Y) :: st))) : Wp n0 p e R s below Q T (mkF m pc Ls (.long Y :: .long X :: st)) := by
  obtain ⟨hx, hby, -⟩ := K; obtain ⟨locs, S, -, -⟩ := S; obtain ⟨hd, rfl⟩ := hd
  exact wp_mono (fun t hr => XT.lsub S.here hx rfl (hb hby hd) rfl hr) g
theorem lmul (K : Cx own code mL ret mn n0 Z p l e R s m args below meth c) (S : St n0 p l e R s m args below meth c k n h T) (hd : Dc code pc (.lmul) 1 q) (g : Wp n0 p e R s below Q T (mkF m q Ls (.long (X * Y) :: st))) : Wp n0 p e R s below Q T (mkF m pc Ls (.long Y :: .long X :: st)) := by
  obtain ⟨hx, hby, -⟩ := K; obtain ⟨locs, S, -, -⟩ := S; obtain ⟨hd, rfl⟩ := hd
  exact wp_mono (fun t hr => XT.lmul S.here hx rfl (hb hby hd) rfl hr) g
theorem land (K : Cx own code mL ret mn n0 Z p l e R s m args below meth c) (S : St n0 p l e R s m args below meth c k n h T) (hd : Dc code pc (.land) 1 q) (g : Wp n0 p e R s below Q T (mkF m q Ls (.long (X &&& Y) :: st))) : Wp n0 p e R s below Q T (mkF m pc Ls (.long Y :: .long X :: st)) := by
  obtain ⟨hx, hby, -⟩ := K; obtain ⟨locs, S, -, -⟩ := S; obtain ⟨hd, rfl⟩ := hd
  exact wp_mono (fun t hr => XT.land S.here hx rfl (hb hby hd) rfl hr) g
theorem ldiv (K : Cx own code mL ret mn n0 Z p l e R s m args below meth c) (S : St n0 p l e R s m args below meth c k n h T) (hy : Y ≠ 0) (hd : Dc code pc (.ldiv) 1 q) (g : Wp n0 p e R s below Q T (mkF m q Ls (.long (X / Y) :: st))) : Wp n0 p e R s below Q T (mkF m pc Ls (.long Y :: .long X :: st)) := by
  obtain ⟨hx, hby, -⟩ := K; obtain ⟨locs, S, -, -⟩ := S; obtain ⟨hd, rfl⟩ := hd
  exact wp_mono (fun t hr => XT.ldiv S.here hx rfl (hb hby hd) rfl hy hr) g
theorem lrem (K : Cx own code mL ret mn n0 Z p l e R s m args below meth c) (S : St n0 p l e R s m args below meth c k n h T) (hy : Y ≠ 0) (hd : Dc code pc (.lrem) 1 q) (g : Wp n0 p e R s below Q T (mkF m q Ls (.long (X % Y) :: st))) : Wp n0 p e R s below Q T (mkF m pc Ls (.long Y :: .long X :: st)) := by
  obtain ⟨hx, hby, -⟩ := K; obtain ⟨locs, S, -, -⟩ := S; obtain ⟨hd, rfl⟩ := hd
  exact wp_mono (fun t hr => XT.lrem S.here hx rfl (hb hby hd) rfl hy (by rw [lrem_mod]; exact hr)) g
theorem lushr (K : Cx own code mL ret mn n0 Z p l e R s m args below meth c) (S : St n0 p l e R s m args below meth c k n h T) (hd : Dc code pc (.lushr) 1 q) (g : Wp n0 p e R s below Q T (mkF m q Ls (.long (XT.ushrL X y) :: st))) : Wp n0 p e R s below Q T (mkF m pc Ls (.int y :: .long X :: st)) := by
  obtain ⟨hx, hby, -⟩ := K; obtain ⟨locs, S, -, -⟩ := S; obtain ⟨hd, rfl⟩ := hd
  exact wp_mono (fun t hr => XT.lushr S.here hx rfl (hb hby hd) rfl hr) g
theorem i2l (K : Cx own code mL ret mn n0 Z p l e R s m args below meth c) (S : St n0 p l e R s m args below meth c k n h T) (hd : Dc code pc (.i2l) 1 q) (g : Wp n0 p e R s below Q T (mkF m q Ls (.long x.toInt64 :: st))) : Wp n0 p e R s below Q T (mkF m pc Ls (.int x :: st)) := by
  obtain ⟨hx, hby, -⟩ := K; obtain ⟨locs, S, -, -⟩ := S; obtain ⟨hd, rfl⟩ := hd
  exact wp_mono (fun t hr => XT.i2l S.here hx rfl (hb hby hd) rfl hr) g
theorem l2i (K : Cx own code mL ret mn n0 Z p l e R s m args below meth c) (S : St n0 p l e R s m args below meth c k n h T) (hd : Dc code pc (.l2i) 1 q) (g : Wp n0 p e R s below Q T (mkF m q Ls (.int X.toInt32 :: st))) : Wp n0 p e R s below Q T (mkF m pc Ls (.long X :: st)) := by
  obtain ⟨hx, hby, -⟩ := K; obtain ⟨locs, S, -, -⟩ := S; obtain ⟨hd, rfl⟩ := hd
  exact wp_mono (fun t hr => XT.l2i S.here hx rfl (hb hby hd) rfl hr) g
theorem i2b (K : Cx own code mL ret mn n0 Z p l e R s m args below meth c) (S : St n0 p l e R s m args below meth c k n h T) (hd : Dc code pc (.i2b) 1 q) (g : Wp n0 p e R s below Q T (mkF m q Ls (.int x.toInt8.toInt32 :: st))) : Wp n0 p e R s below Q T (mkF m pc Ls (.int x :: st)) := by
  obtain ⟨hx, hby, -⟩ := K; obtain ⟨locs, S, -, -⟩ := S; obtain ⟨hd, rfl⟩ := hd
  exact wp_mono (fun t hr => XT.i2b S.here hx rfl (hb hby hd) rfl hr) g
theorem i2s (K : Cx own code mL ret mn n0 Z p l e R s m args below meth c) (S : St n0 p l e R s m args below meth c k n h T) (hd : Dc code pc (.i2s) 1 q) (g : Wp n0 p e R s below Q T (mkF m q Ls (.int x.toInt16.toInt32 :: st))) : Wp n0 p e R s below Q T (mkF m pc Ls (.int x :: st)) := by
  obtain ⟨hx, hby, -⟩ := K; obtain ⟨locs, S, -, -⟩ := S; obtain ⟨hd, rfl⟩ := hd
  exact wp_mono (fun t hr => XT.i2s S.here hx rfl (hb hby hd) rfl hr) g
theorem i2c (K : Cx own code mL ret mn n0 Z p l e R s m args below meth c) (S : St n0 p l e R s m args below meth c k n h T) (hd : Dc code pc (.i2c) 1 q) (g : Wp n0 p e R s below Q T (mkF m q Ls (.int x.toUInt32.toUInt16.toUInt32.toInt32 :: st))) : Wp n0 p e R s below Q T (mkF m pc Ls (.int x :: st)) := by
  obtain ⟨hx, hby, -⟩ := K; obtain ⟨locs, S, -, -⟩ := S; obtain ⟨hd, rfl⟩ := hd
  exact wp_mono (fun t hr => XT.i2c S.here hx rfl (hb hby hd) rfl hr) g
theorem iconst (K : Cx own code mL ret mn n0 Z p l e R s m args below meth c) (S : St n0 p l e R s m args below meth c k n h T) {i : Int} (hv : Int32.ofInt i = x) (hd : Dc code pc (.iconst i) 1 q) (g : Wp n0 p e R s below Q T (mkF m q Ls (.int x :: st))) : Wp n0 p e R s below Q T (mkF m pc Ls st) := by
  obtain ⟨hx, hby, -⟩ := K; obtain ⟨locs, S, -, -⟩ := S; obtain ⟨hd, rfl⟩ := hd
  exact wp_mono (fun t hr => XS.iconst S.here hx rfl (hb hby hd) (by rw [hv]; exact hr)) g
theorem bipush (K : Cx own code mL ret mn n0 Z p l e R s m args below meth c) (S : St n0 p l e R s m args below meth c k n h T) {i : Int} (hv : (Int8.ofInt i).toInt32 = x) (hd : Dc code pc (.bipush i) 2 q) (g : Wp n0 p e R s below Q T (mkF m q Ls (.int x :: st))) : Wp n0 p e R s below Q T (mkF m pc Ls st) := by
  obtain ⟨hx, hby, -⟩ := K; obtain ⟨locs, S, -, -⟩ := S; obtain ⟨hd, rfl⟩ := hd
  exact wp_mono (fun t hr => XS.bipush S.here hx rfl (hb hby hd) (by rw [hv]; exact hr)) g
theorem sipush (K : Cx own code mL ret mn n0 Z p l e R s m args below meth c) (S : St n0 p l e R s m args below meth c k n h T) {i : Int} (hv : (Int16.ofInt i).toInt32 = x) (hd : Dc code pc (.sipush i) 3 q) (g : Wp n0 p e R s below Q T (mkF m q Ls (.int x :: st))) : Wp n0 p e R s below Q T (mkF m pc Ls st) := by
  obtain ⟨hx, hby, -⟩ := K; obtain ⟨locs, S, -, -⟩ := S; obtain ⟨hd, rfl⟩ := hd
  exact wp_mono (fun t hr => XS.sipush S.here hx rfl (hb hby hd) (by rw [hv]; exact hr)) g
theorem lconst (K : Cx own code mL ret mn n0 Z p l e R s m args below meth c) (S : St n0 p l e R s m args below meth c k n h T) {i : Fin 2} (hv : Int64.ofNat i = X) (hd : Dc code pc (.lconst i) 1 q) (g : Wp n0 p e R s below Q T (mkF m q Ls (.long X :: st))) : Wp n0 p e R s below Q T (mkF m pc Ls st) := by
  obtain ⟨hx, hby, -⟩ := K; obtain ⟨locs, S, -, -⟩ := S; obtain ⟨hd, rfl⟩ := hd
  exact wp_mono (fun t hr => XT.lconst S.here hx rfl (hb hby hd) (by rw [hv]; exact hr)) g
theorem anull (K : Cx own code mL ret mn n0 Z p l e R s m args below meth c) (S : St n0 p l e R s m args below meth c k n h T) (hd : Dc code pc (.aconst_null) 1 q) (g : Wp n0 p e R s below Q T (mkF m q Ls (.null :: st))) : Wp n0 p e R s below Q T (mkF m pc Ls st) := by
  obtain ⟨hx, hby, -⟩ := K; obtain ⟨locs, S, -, -⟩ := S; obtain ⟨hd, rfl⟩ := hd
  exact wp_mono (fun t hr => XS.aconstNull S.here hx rfl (hb hby hd) hr) g
theorem dup (K : Cx own code mL ret mn n0 Z p l e R s m args below meth c) (S : St n0 p l e R s m args below meth c k n h T) (hc : v.category = 1) (hd : Dc code pc (.dup) 1 q) (g : Wp n0 p e R s below Q T (mkF m q Ls (v :: v :: st))) : Wp n0 p e R s below Q T (mkF m pc Ls (v :: st)) := by
  obtain ⟨hx, hby, -⟩ := K; obtain ⟨locs, S, -, -⟩ := S; obtain ⟨hd, rfl⟩ := hd
  exact wp_mono (fun t hr => XS.dup S.here hx rfl (hb hby hd) rfl hc hr) g
theorem pop (K : Cx own code mL ret mn n0 Z p l e R s m args below meth c) (S : St n0 p l e R s m args below meth c k n h T) (hc : v.category = 1) (hd : Dc code pc (.pop) 1 q) (g : Wp n0 p e R s below Q T (mkF m q Ls st)) : Wp n0 p e R s below Q T (mkF m pc Ls (v :: st)) := by
  obtain ⟨hx, hby, -⟩ := K; obtain ⟨locs, S, -, -⟩ := S; obtain ⟨hd, rfl⟩ := hd
  exact wp_mono (fun t hr => XT.pop S.here hx rfl (hb hby hd) rfl hc hr) g
theorem dup_x1 (K : Cx own code mL ret mn n0 Z p l e R s m args below meth c) (S : St n0 p l e R s m args below meth c k n h T) (hc : v.category = 1) (hc' : w.category = 1) (hd : Dc code pc (.dup_x1) 1 q) (g : Wp n0 p e R s below Q T (mkF m q Ls (v :: w :: v :: st))) : Wp n0 p e R s below Q T (mkF m pc Ls (v :: w :: st)) := by
  obtain ⟨hx, hby, -⟩ := K; obtain ⟨locs, S, -, -⟩ := S; obtain ⟨hd, rfl⟩ := hd
  exact wp_mono (fun t hr => XT.dupX1 S.here hx rfl (hb hby hd) rfl hc hc' hr) g
theorem dup2 (K : Cx own code mL ret mn n0 Z p l e R s m args below meth c) (S : St n0 p l e R s m args below meth c k n h T) (hc : v.category = 1) (hc' : w.category = 1) (hd : Dc code pc (.dup2) 1 q) (g : Wp n0 p e R s below Q T (mkF m q Ls (v :: w :: v :: w :: st))) : Wp n0 p e R s below Q T (mkF m pc Ls (v :: w :: st)) := by
  obtain ⟨hx, hby, -⟩ := K; obtain ⟨locs, S, -, -⟩ := S; obtain ⟨hd, rfl⟩ := hd
  exact wp_mono (fun t hr => XT.dup2 S.here hx rfl (hb hby hd) rfl hc hc' hr) g
theorem iload (K : Cx own code mL ret mn n0 Z p l e R s m args below meth c) (S : St n0 p l e R s m args below meth c k n h T) {i : Nat} (hl : Ls[i]? = some (.val (.int x))) (hd : Dc code pc (.iload i) 2 q) (g : Wp n0 p e R s below Q T (mkF m q Ls (.int x :: st))) : Wp n0 p e R s below Q T (mkF m pc Ls st) := by
  obtain ⟨hx, hby, -⟩ := K; obtain ⟨locs, S, -, -⟩ := S; obtain ⟨hd, rfl⟩ := hd
  exact wp_mono (fun t hr => XS.iload S.here hx rfl (hb hby hd) hl hr) g
theorem iload_n (K : Cx own code mL ret mn n0 Z p l e R s m args below meth c) (S : St n0 p l e R s m args below meth c k n h T) {i : Fin 4} (hl : Ls[i.val]? = some (.val (.int x))) (hd : Dc code pc (.iload_n i) 1 q) (g : Wp n0 p e R s below Q T (mkF m q Ls (.int x :: st))) : Wp n0 p e R s below Q T (mkF m pc Ls st) := by
  obtain ⟨hx, hby, -⟩ := K; obtain ⟨locs, S, -, -⟩ := S; obtain ⟨hd, rfl⟩ := hd
  exact wp_mono (fun t hr => XS.iloadN S.here hx rfl (hb hby hd) hl hr) g
theorem aload (K : Cx own code mL ret mn n0 Z p l e R s m args below meth c) (S : St n0 p l e R s m args below meth c k n h T) {i : Nat} (hl : Ls[i]? = some (.val (v))) (hv : v.isRef = true) (hd : Dc code pc (.aload i) 2 q) (g : Wp n0 p e R s below Q T (mkF m q Ls (v :: st))) : Wp n0 p e R s below Q T (mkF m pc Ls st) := by
  obtain ⟨hx, hby, -⟩ := K; obtain ⟨locs, S, -, -⟩ := S; obtain ⟨hd, rfl⟩ := hd
  exact wp_mono (fun t hr => XS.aload S.here hx rfl (hb hby hd) hl hv hr) g
theorem aload_n (K : Cx own code mL ret mn n0 Z p l e R s m args below meth c) (S : St n0 p l e R s m args below meth c k n h T) {i : Fin 4} (hl : Ls[i.val]? = some (.val (v))) (hv : v.isRef = true) (hd : Dc code pc (.aload_n i) 1 q) (g : Wp n0 p e R s below Q T (mkF m q Ls (v :: st))) : Wp n0 p e R s below Q T (mkF m pc Ls st) := by
  obtain ⟨hx, hby, -⟩ := K; obtain ⟨locs, S, -, -⟩ := S; obtain ⟨hd, rfl⟩ := hd
  exact wp_mono (fun t hr => XS.aloadN S.here hx rfl (hb hby hd) hl hv hr) g
theorem lload (K : Cx own code mL ret mn n0 Z p l e R s m args below meth c) (S : St n0 p l e R s m args below meth c k n h T) {i : Nat} (hl : Ls[i]? = some (.val (.long X))) (hd : Dc code pc (.lload i) 2 q) (g : Wp n0 p e R s below Q T (mkF m q Ls (.long X :: st))) : Wp n0 p e R s below Q T (mkF m pc Ls st) := by
  obtain ⟨hx, hby, -⟩ := K; obtain ⟨locs, S, -, -⟩ := S; obtain ⟨hd, rfl⟩ := hd
  exact wp_mono (fun t hr => XT.lload S.here hx rfl (hb hby hd) hl hr) g
theorem lload_n (K : Cx own code mL ret mn n0 Z p l e R s m args below meth c) (S : St n0 p l e R s m args below meth c k n h T) {i : Fin 4} (hl : Ls[i.val]? = some (.val (.long X))) (hd : Dc code pc (.lload_n i) 1 q) (g : Wp n0 p e R s below Q T (mkF m q Ls (.long X :: st))) : Wp n0 p e R s below Q T (mkF m pc Ls st) := by
  obtain ⟨hx, hby, -⟩ := K; obtain ⟨locs, S, -, -⟩ := S; obtain ⟨hd, rfl⟩ := hd
  exact wp_mono (fun t hr => XT.lloadN S.here hx rfl (hb hby hd) hl hr) g
theorem istore (K : Cx own code mL ret mn n0 Z p l e R s m args below meth c) (S : St n0 p l e R s m args below meth c k n h T) {i : Nat} (hl : storeLocals Ls i (.int x) = some l') (hd : Dc code pc (.istore i) 2 q) (g : Wp n0 p e R s below Q T (mkF m q l' st)) : Wp n0 p e R s below Q T (mkF m pc Ls (.int x :: st)) := by
  obtain ⟨hx, hby, -⟩ := K; obtain ⟨locs, S, -, -⟩ := S; obtain ⟨hd, rfl⟩ := hd
  exact wp_mono (fun t hr => XS.istore S.here hx rfl (hb hby hd) rfl hl hr) g
theorem istore_n (K : Cx own code mL ret mn n0 Z p l e R s m args below meth c) (S : St n0 p l e R s m args below meth c k n h T) {i : Fin 4} (hl : storeLocals Ls i.val (.int x) = some l') (hd : Dc code pc (.istore_n i) 1 q) (g : Wp n0 p e R s below Q T (mkF m q l' st)) : Wp n0 p e R s below Q T (mkF m pc Ls (.int x :: st)) := by
  obtain ⟨hx, hby, -⟩ := K; obtain ⟨locs, S, -, -⟩ := S; obtain ⟨hd, rfl⟩ := hd
  exact wp_mono (fun t hr => XS.istoreN S.here hx rfl (hb hby hd) rfl hl hr) g
theorem astore (K : Cx own code mL ret mn n0 Z p l e R s m args below meth c) (S : St n0 p l e R s m args below meth c k n h T) {i : Nat} (hv : v.isRef = true) (hl : storeLocals Ls i (v) = some l') (hd : Dc code pc (.astore i) 2 q) (g : Wp n0 p e R s below Q T (mkF m q l' st)) : Wp n0 p e R s below Q T (mkF m pc Ls (v :: st)) := by
  obtain ⟨hx, hby, -⟩ := K; obtain ⟨locs, S, -, -⟩ := S; obtain ⟨hd, rfl⟩ := hd
  exact wp_mono (fun t hr => XS.astore S.here hx rfl (hb hby hd) rfl hv hl hr) g
theorem astore_n (K : Cx own code mL ret mn n0 Z p l e R s m args below meth c) (S : St n0 p l e R s m args below meth c k n h T) {i : Fin 4} (hv : v.isRef = true) (hl : storeLocals Ls i.val (v) = some l') (hd : Dc code pc (.astore_n i) 1 q) (g : Wp n0 p e R s below Q T (mkF m q l' st)) : Wp n0 p e R s below Q T (mkF m pc Ls (v :: st)) := by
  obtain ⟨hx, hby, -⟩ := K; obtain ⟨locs, S, -, -⟩ := S; obtain ⟨hd, rfl⟩ := hd
  exact wp_mono (fun t hr => XS.astoreN S.here hx rfl (hb hby hd) rfl hv hl hr) g
theorem lstore (K : Cx own code mL ret mn n0 Z p l e R s m args below meth c) (S : St n0 p l e R s m args below meth c k n h T) {i : Nat} (hl : storeLocals Ls i (.long X) = some l') (hd : Dc code pc (.lstore i) 2 q) (g : Wp n0 p e R s below Q T (mkF m q l' st)) : Wp n0 p e R s below Q T (mkF m pc Ls (.long X :: st)) := by
  obtain ⟨hx, hby, -⟩ := K; obtain ⟨locs, S, -, -⟩ := S; obtain ⟨hd, rfl⟩ := hd
  exact wp_mono (fun t hr => XT.lstore S.here hx rfl (hb hby hd) rfl hl hr) g
theorem lstore_n (K : Cx own code mL ret mn n0 Z p l e R s m args below meth c) (S : St n0 p l e R s m args below meth c k n h T) {i : Fin 4} (hl : storeLocals Ls i.val (.long X) = some l') (hd : Dc code pc (.lstore_n i) 1 q) (g : Wp n0 p e R s below Q T (mkF m q l' st)) : Wp n0 p e R s below Q T (mkF m pc Ls (.long X :: st)) := by
  obtain ⟨hx, hby, -⟩ := K; obtain ⟨locs, S, -, -⟩ := S; obtain ⟨hd, rfl⟩ := hd
  exact wp_mono (fun t hr => XT.lstoreN S.here hx rfl (hb hby hd) rfl hl hr) g
theorem iinc (K : Cx own code mL ret mn n0 Z p l e R s m args below meth c) (S : St n0 p l e R s m args below meth c k n h T) {i : Nat} {cst : Int} (hv : Int32.ofInt cst = y) (hl : Ls[i]? = some (.val (.int x))) (hl' : storeLocals Ls i (.int (x + y)) = some l') (hd : Dc code pc (.iinc i cst) 3 q) (g : Wp n0 p e R s below Q T (mkF m q l' st)) : Wp n0 p e R s below Q T (mkF m pc Ls st) := by
  obtain ⟨hx, hby, -⟩ := K; obtain ⟨locs, S, -, -⟩ := S; obtain ⟨hd, rfl⟩ := hd
  exact wp_mono (fun t hr => XS.iinc S.here hx rfl (hb hby hd) hl (by rw [hv]; exact hl') hr) g
theorem goto (K : Cx own code mL ret mn n0 Z p l e R s m args below meth c) (S : St n0 p l e R s m args below meth c k n h T) {o : Int} (hd : Bc code pc (.goto o) o q q') (g : Wp n0 p e R s below Q T (mkF m q' Ls st)) : Wp n0 p e R s below Q T (mkF m pc Ls st) := by
  obtain ⟨hx, hby, -⟩ := K; obtain ⟨locs, S, -, -⟩ := S; obtain ⟨hd, -, h1, h2⟩ := hd
  exact wp_mono (fun t hr => XS.goto S.here hx rfl rfl (hb hby hd) h1 h2 hr) g
theorem icmp (K : Cx own code mL ret mn n0 Z p l e R s m args below meth c) (S : St n0 p l e R s m args below meth c k n h T) {o : Int} {cd : ClassFile.Cond} (hd : Bc code pc (.if_icmp cd o) o q q') (g1 : if_icmp.holds cd x y = true → Wp n0 p e R s below Q T (mkF m q' Ls st)) (g2 : if_icmp.holds cd x y = false → Wp n0 p e R s below Q T (mkF m q Ls st)) : Wp n0 p e R s below Q T (mkF m pc Ls (.int y :: .int x :: st)) := by
  obtain ⟨hx, hby, -⟩ := K; obtain ⟨locs, S, -, -⟩ := S; obtain ⟨hd, rfl, h1, h2⟩ := hd
  cases hc : if_icmp.holds cd x y with
  | true => exact wp_mono (fun t hr => XS.icmpYes S.here hx rfl rfl (hb hby hd) rfl hc h1 h2 hr) (g1 hc)
  | false => exact wp_mono (fun t hr => XS.icmpNo S.here hx rfl (hb hby hd) rfl hc hr) (g2 hc)
theorem ific (K : Cx own code mL ret mn n0 Z p l e R s m args below meth c) (S : St n0 p l e R s m args below meth c k n h T) {o : Int} {cd : ClassFile.Cond} (hd : Bc code pc (.ifCond cd o) o q q') (g1 : if_icmp.holds cd x 0 = true → Wp n0 p e R s below Q T (mkF m q' Ls st)) (g2 : if_icmp.holds cd x 0 = false → Wp n0 p e R s below Q T (mkF m q Ls st)) : Wp n0 p e R s below Q T (mkF m pc Ls (.int x :: st)) := by
  obtain ⟨hx, hby, -⟩ := K; obtain ⟨locs, S, -, -⟩ := S; obtain ⟨hd, rfl, h1, h2⟩ := hd
  cases hc : if_icmp.holds cd x 0 with
  | true => exact wp_mono (fun t hr => XS.ifYes S.here hx rfl rfl (hb hby hd) rfl (by rw [if0]; exact hc) h1 h2 hr) (g1 hc)
  | false => exact wp_mono (fun t hr => XS.ifNo S.here hx rfl (hb hby hd) rfl (by rw [if0]; exact hc) hr) (g2 hc)
theorem icmp_lt (K : Cx own code mL ret mn n0 Z p l e R s m args below meth c) (S : St n0 p l e R s m args below meth c k n h T) {o : Int} (hd : Bc code pc (.if_icmp .lt o) o q q') (g1 : x < y → Wp n0 p e R s below Q T (mkF m q' Ls st)) (g2 : ¬ x < y → Wp n0 p e R s below Q T (mkF m q Ls st)) : Wp n0 p e R s below Q T (mkF m pc Ls (.int y :: .int x :: st)) := by
  by_cases hc : x < y
  · exact icmp K S hd (fun _ => g1 hc) (fun q => absurd ((tlt hc).1) (by rw [q]; decide))
  · exact icmp K S hd (fun q => absurd ((flt hc).1) (by rw [q]; decide)) (fun _ => g2 hc)
theorem ific_lt (K : Cx own code mL ret mn n0 Z p l e R s m args below meth c) (S : St n0 p l e R s m args below meth c k n h T) {o : Int} (hd : Bc code pc (.ifCond .lt o) o q q') (g1 : x < 0 → Wp n0 p e R s below Q T (mkF m q' Ls st)) (g2 : ¬ x < 0 → Wp n0 p e R s below Q T (mkF m q Ls st)) : Wp n0 p e R s below Q T (mkF m pc Ls (.int x :: st)) := by
  by_cases hc : x < 0
  · exact ific K S hd (fun _ => g1 hc) (fun q => absurd ((tlt hc).1) (by rw [q]; decide))
  · exact ific K S hd (fun q => absurd ((flt hc).1) (by rw [q]; decide)) (fun _ => g2 hc)
theorem icmp_ge (K : Cx own code mL ret mn n0 Z p l e R s m args below meth c) (S : St n0 p l e R s m args below meth c k n h T) {o : Int} (hd : Bc code pc (.if_icmp .ge o) o q q') (g1 : ¬ x < y → Wp n0 p e R s below Q T (mkF m q' Ls st)) (g2 : x < y → Wp n0 p e R s below Q T (mkF m q Ls st)) : Wp n0 p e R s below Q T (mkF m pc Ls (.int y :: .int x :: st)) := by
  by_cases hc : x < y
  · exact icmp K S hd (fun q => absurd ((tlt hc).2.1) (by rw [q]; decide)) (fun _ => g2 hc)
  · exact icmp K S hd (fun _ => g1 hc) (fun q => absurd ((flt hc).2.1) (by rw [q]; decide))
theorem ific_ge (K : Cx own code mL ret mn n0 Z p l e R s m args below meth c) (S : St n0 p l e R s m args below meth c k n h T) {o : Int} (hd : Bc code pc (.ifCond .ge o) o q q') (g1 : ¬ x < 0 → Wp n0 p e R s below Q T (mkF m q' Ls st)) (g2 : x < 0 → Wp n0 p e R s below Q T (mkF m q Ls st)) : Wp n0 p e R s below Q T (mkF m pc Ls (.int x :: st)) := by
  by_cases hc : x < 0
  · exact ific K S hd (fun q => absurd ((tlt hc).2.1) (by rw [q]; decide)) (fun _ => g2 hc)
  · exact ific K S hd (fun _ => g1 hc) (fun q => absurd ((flt hc).2.1) (by rw [q]; decide))
theorem icmp_gt (K : Cx own code mL ret mn n0 Z p l e R s m args below meth c) (S : St n0 p l e R s m args below meth c k n h T) {o : Int} (hd : Bc code pc (.if_icmp .gt o) o q q') (g1 : y < x → Wp n0 p e R s below Q T (mkF m q' Ls st)) (g2 : ¬ y < x → Wp n0 p e R s below Q T (mkF m q Ls st)) : Wp n0 p e R s below Q T (mkF m pc Ls (.int y :: .int x :: st)) := by
  by_cases hc : y < x
  · exact icmp K S hd (fun _ => g1 hc) (fun q => absurd ((tlt hc).2.2.1) (by rw [q]; decide))
  · exact icmp K S hd (fun q => absurd ((flt hc).2.2.1) (by rw [q]; decide)) (fun _ => g2 hc)
theorem ific_gt (K : Cx own code mL ret mn n0 Z p l e R s m args below meth c) (S : St n0 p l e R s m args below meth c k n h T) {o : Int} (hd : Bc code pc (.ifCond .gt o) o q q') (g1 : 0 < x → Wp n0 p e R s below Q T (mkF m q' Ls st)) (g2 : ¬ 0 < x → Wp n0 p e R s below Q T (mkF m q Ls st)) : Wp n0 p e R s below Q T (mkF m pc Ls (.int x :: st)) := by
  by_cases hc : 0 < x
  · exact ific K S hd (fun _ => g1 hc) (fun q => absurd ((tlt hc).2.2.1) (by rw [q]; decide))
  · exact ific K S hd (fun q => absurd ((flt hc).2.2.1) (by rw [q]; decide)) (fun _ => g2 hc)
theorem icmp_le (K : Cx own code mL ret mn n0 Z p l e R s m args below meth c) (S : St n0 p l e R s m args below meth c k n h T) {o : Int} (hd : Bc code pc (.if_icmp .le o) o q q') (g1 : ¬ y < x → Wp n0 p e R s below Q T (mkF m q' Ls st)) (g2 : y < x → Wp n0 p e R s below Q T (mkF m q Ls st)) : Wp n0 p e R s below Q T (mkF m pc Ls (.int y :: .int x :: st)) := by
  by_cases hc : y < x
  · exact icmp K S hd (fun q => absurd ((tlt hc).2.2.2) (by rw [q]; decide)) (fun _ => g2 hc)
  · exact icmp K S hd (fun _ => g1 hc) (fun q => absurd ((flt hc).2.2.2) (by rw [q]; decide))
theorem ific_le (K : Cx own code mL ret mn n0 Z p l e R s m args below meth c) (S : St n0 p l e R s m args below meth c k n h T) {o : Int} (hd : Bc code pc (.ifCond .le o) o q q') (g1 : ¬ 0 < x → Wp n0 p e R s below Q T (mkF m q' Ls st)) (g2 : 0 < x → Wp n0 p e R s below Q T (mkF m q Ls st)) : Wp n0 p e R s below Q T (mkF m pc Ls (.int x :: st)) := by
  by_cases hc : 0 < x
  · exact ific K S hd (fun q => absurd ((tlt hc).2.2.2) (by rw [q]; decide)) (fun _ => g2 hc)
  · exact ific K S hd (fun _ => g1 hc) (fun q => absurd ((flt hc).2.2.2) (by rw [q]; decide))
theorem icmp_eq (K : Cx own code mL ret mn n0 Z p l e R s m args below meth c) (S : St n0 p l e R s m args below meth c k n h T) {o : Int} (hd : Bc code pc (.if_icmp .eq o) o q q') (g1 : x = y → Wp n0 p e R s below Q T (mkF m q' Ls st)) (g2 : ¬ x = y → Wp n0 p e R s below Q T (mkF m q Ls st)) : Wp n0 p e R s below Q T (mkF m pc Ls (.int y :: .int x :: st)) := by
  by_cases hc : x = y
  · exact icmp K S hd (fun _ => g1 hc) (fun q => absurd ((teq hc).1) (by rw [q]; decide))
  · exact icmp K S hd (fun q => absurd ((feq hc).1) (by rw [q]; decide)) (fun _ => g2 hc)
theorem ific_eq (K : Cx own code mL ret mn n0 Z p l e R s m args below meth c) (S : St n0 p l e R s m args below meth c k n h T) {o : Int} (hd : Bc code pc (.ifCond .eq o) o q q') (g1 : x = 0 → Wp n0 p e R s below Q T (mkF m q' Ls st)) (g2 : ¬ x = 0 → Wp n0 p e R s below Q T (mkF m q Ls st)) : Wp n0 p e R s below Q T (mkF m pc Ls (.int x :: st)) := by
  by_cases hc : x = 0
  · exact ific K S hd (fun _ => g1 hc) (fun q => absurd ((teq hc).1) (by rw [q]; decide))
  · exact ific K S hd (fun q => absurd ((feq hc).1) (by rw [q]; decide)) (fun _ => g2 hc)
theorem icmp_ne (K : Cx own code mL ret mn n0 Z p l e R s m args below meth c) (S : St n0 p l e R s m args below meth c k n h T) {o : Int} (hd : Bc code pc (.if_icmp .ne o) o q q') (g1 : ¬ x = y → Wp n0 p e R s below Q T (mkF m q' Ls st)) (g2 : x = y → Wp n0 p e R s below Q T (mkF m q Ls st)) : Wp n0 p e R s below Q T (mkF m pc Ls (.int y :: .int x :: st)) := by
  by_cases hc : x = y
  · exact icmp K S hd (fun q => absurd ((teq hc).2) (by rw [q]; decide)) (fun _ => g2 hc)
  · exact icmp K S hd (fun _ => g1 hc) (fun q => absurd ((feq hc).2) (by rw [q]; decide))
theorem ific_ne (K : Cx own code mL ret mn n0 Z p l e R s m args below meth c) (S : St n0 p l e R s m args below meth c k n h T) {o : Int} (hd : Bc code pc (.ifCond .ne o) o q q') (g1 : ¬ x = 0 → Wp n0 p e R s below Q T (mkF m q' Ls st)) (g2 : x = 0 → Wp n0 p e R s below Q T (mkF m q Ls st)) : Wp n0 p e R s below Q T (mkF m pc Ls (.int x :: st)) := by
  by_cases hc : x = 0
  · exact ific K S hd (fun q => absurd ((teq hc).2) (by rw [q]; decide)) (fun _ => g2 hc)
  · exact ific K S hd (fun _ => g1 hc) (fun q => absurd ((feq hc).2) (by rw [q]; decide))
theorem lcmp_lt (K : Cx own code mL ret mn n0 Z p l e R s m args below meth c) (S : St n0 p l e R s m args below meth c k n h T) {o : Int} {pc1 : Nat} (hd1 : Dc code pc .lcmp 1 pc1) (hd : Bc code pc1 (.ifCond .lt o) o q q') (g1 : X < Y → Wp n0 p e R s below Q T (mkF m q' Ls st)) (g2 : ¬ X < Y → Wp n0 p e R s below Q T (mkF m q Ls st)) : Wp n0 p e R s below Q T (mkF m pc Ls (.long Y :: .long X :: st)) := by
  obtain ⟨hx, hby, -⟩ := K; obtain ⟨locs, S, -, -⟩ := S; obtain ⟨hd, rfl, h1, h2⟩ := hd; obtain ⟨hd1, rfl⟩ := hd1
  by_cases hc : X < Y
  · exact wp_mono (fun t hr => XT.lcmp S.here hx rfl (hb hby hd1) rfl (XS.ifYes S.here hx rfl rfl (hb hby hd) rfl (XT.ll_lt_t hc) h1 h2 hr)) (g1 hc)
  · exact wp_mono (fun t hr => XT.lcmp S.here hx rfl (hb hby hd1) rfl (XS.ifNo S.here hx rfl (hb hby hd) rfl (XT.ll_lt_f hc) hr)) (g2 hc)
theorem lcmp_ge (K : Cx own code mL ret mn n0 Z p l e R s m args below meth c) (S : St n0 p l e R s m args below meth c k n h T) {o : Int} {pc1 : Nat} (hd1 : Dc code pc .lcmp 1 pc1) (hd : Bc code pc1 (.ifCond .ge o) o q q') (g1 : ¬ X < Y → Wp n0 p e R s below Q T (mkF m q' Ls st)) (g2 : X < Y → Wp n0 p e R s below Q T (mkF m q Ls st)) : Wp n0 p e R s below Q T (mkF m pc Ls (.long Y :: .long X :: st)) := by
  obtain ⟨hx, hby, -⟩ := K; obtain ⟨locs, S, -, -⟩ := S; obtain ⟨hd, rfl, h1, h2⟩ := hd; obtain ⟨hd1, rfl⟩ := hd1
  by_cases hc : X < Y
  · exact wp_mono (fun t hr => XT.lcmp S.here hx rfl (hb hby hd1) rfl (XS.ifNo S.here hx rfl (hb hby hd) rfl (XT.ll_ge_f hc) hr)) (g2 hc)
  · exact wp_mono (fun t hr => XT.lcmp S.here hx rfl (hb hby hd1) rfl (XS.ifYes S.here hx rfl rfl (hb hby hd) rfl (XT.ll_ge_t hc) h1 h2 hr)) (g1 hc)
theorem lcmp_gt (K : Cx own code mL ret mn n0 Z p l e R s m args below meth c) (S : St n0 p l e R s m args below meth c k n h T) {o : Int} {pc1 : Nat} (hd1 : Dc code pc .lcmp 1 pc1) (hd : Bc code pc1 (.ifCond .gt o) o q q') (g1 : Y < X → Wp n0 p e R s below Q T (mkF m q' Ls st)) (g2 : ¬ Y < X → Wp n0 p e R s below Q T (mkF m q Ls st)) : Wp n0 p e R s below Q T (mkF m pc Ls (.long Y :: .long X :: st)) := by
  obtain ⟨hx, hby, -⟩ := K; obtain ⟨locs, S, -, -⟩ := S; obtain ⟨hd, rfl, h1, h2⟩ := hd; obtain ⟨hd1, rfl⟩ := hd1
  by_cases hc : Y < X
  · exact wp_mono (fun t hr => XT.lcmp S.here hx rfl (hb hby hd1) rfl (XS.ifYes S.here hx rfl rfl (hb hby hd) rfl (XT.ll_gt_t hc) h1 h2 hr)) (g1 hc)
  · exact wp_mono (fun t hr => XT.lcmp S.here hx rfl (hb hby hd1) rfl (XS.ifNo S.here hx rfl (hb hby hd) rfl (XT.ll_gt_f hc) hr)) (g2 hc)
theorem lcmp_le (K : Cx own code mL ret mn n0 Z p l e R s m args below meth c) (S : St n0 p l e R s m args below meth c k n h T) {o : Int} {pc1 : Nat} (hd1 : Dc code pc .lcmp 1 pc1) (hd : Bc code pc1 (.ifCond .le o) o q q') (g1 : ¬ Y < X → Wp n0 p e R s below Q T (mkF m q' Ls st)) (g2 : Y < X → Wp n0 p e R s below Q T (mkF m q Ls st)) : Wp n0 p e R s below Q T (mkF m pc Ls (.long Y :: .long X :: st)) := by
  obtain ⟨hx, hby, -⟩ := K; obtain ⟨locs, S, -, -⟩ := S; obtain ⟨hd, rfl, h1, h2⟩ := hd; obtain ⟨hd1, rfl⟩ := hd1
  by_cases hc : Y < X
  · exact wp_mono (fun t hr => XT.lcmp S.here hx rfl (hb hby hd1) rfl (XS.ifNo S.here hx rfl (hb hby hd) rfl (XT.ll_le_f hc) hr)) (g2 hc)
  · exact wp_mono (fun t hr => XT.lcmp S.here hx rfl (hb hby hd1) rfl (XS.ifYes S.here hx rfl rfl (hb hby hd) rfl (XT.ll_le_t hc) h1 h2 hr)) (g1 hc)
theorem lcmp_eq (K : Cx own code mL ret mn n0 Z p l e R s m args below meth c) (S : St n0 p l e R s m args below meth c k n h T) {o : Int} {pc1 : Nat} (hd1 : Dc code pc .lcmp 1 pc1) (hd : Bc code pc1 (.ifCond .eq o) o q q') (g1 : X = Y → Wp n0 p e R s below Q T (mkF m q' Ls st)) (g2 : ¬ X = Y → Wp n0 p e R s below Q T (mkF m q Ls st)) : Wp n0 p e R s below Q T (mkF m pc Ls (.long Y :: .long X :: st)) := by
  obtain ⟨hx, hby, -⟩ := K; obtain ⟨locs, S, -, -⟩ := S; obtain ⟨hd, rfl, h1, h2⟩ := hd; obtain ⟨hd1, rfl⟩ := hd1
  by_cases hc : X = Y
  · exact wp_mono (fun t hr => XT.lcmp S.here hx rfl (hb hby hd1) rfl (XS.ifYes S.here hx rfl rfl (hb hby hd) rfl (XT.ll_eq_t hc) h1 h2 hr)) (g1 hc)
  · exact wp_mono (fun t hr => XT.lcmp S.here hx rfl (hb hby hd1) rfl (XS.ifNo S.here hx rfl (hb hby hd) rfl (XT.ll_eq_f hc) hr)) (g2 hc)
theorem lcmp_ne (K : Cx own code mL ret mn n0 Z p l e R s m args below meth c) (S : St n0 p l e R s m args below meth c k n h T) {o : Int} {pc1 : Nat} (hd1 : Dc code pc .lcmp 1 pc1) (hd : Bc code pc1 (.ifCond .ne o) o q q') (g1 : ¬ X = Y → Wp n0 p e R s below Q T (mkF m q' Ls st)) (g2 : X = Y → Wp n0 p e R s below Q T (mkF m q Ls st)) : Wp n0 p e R s below Q T (mkF m pc Ls (.long Y :: .long X :: st)) := by
  obtain ⟨hx, hby, -⟩ := K; obtain ⟨locs, S, -, -⟩ := S; obtain ⟨hd, rfl, h1, h2⟩ := hd; obtain ⟨hd1, rfl⟩ := hd1
  by_cases hc : X = Y
  · exact wp_mono (fun t hr => XT.lcmp S.here hx rfl (hb hby hd1) rfl (XS.ifNo S.here hx rfl (hb hby hd) rfl (XT.ll_ne_f hc) hr)) (g2 hc)
  · exact wp_mono (fun t hr => XT.lcmp S.here hx rfl (hb hby hd1) rfl (XS.ifYes S.here hx rfl rfl (hb hby hd) rfl (XT.ll_ne_t hc) h1 h2 hr)) (g1 hc)
theorem icmpz_lt (K : Cx own code mL ret mn n0 Z p l e R s m args below meth c) (S : St n0 p l e R s m args below meth c k n h T) {o : Int} (hd : Bc code pc (.if_icmp .lt o) o q q') (g1 : x.toInt < y.toInt → Wp n0 p e R s below Q T (mkF m q' Ls st)) (g2 : ¬ x.toInt < y.toInt → Wp n0 p e R s below Q T (mkF m q Ls st)) : Wp n0 p e R s below Q T (mkF m pc Ls (.int y :: .int x :: st)) :=
  icmp_lt K S hd (fun q => g1 (Int32.lt_iff_toInt_lt.mp q)) (fun q => g2 (fun r => q (Int32.lt_iff_toInt_lt.mpr r)))
theorem ificz_lt (K : Cx own code mL ret mn n0 Z p l e R s m args below meth c) (S : St n0 p l e R s m args below meth c k n h T) {o : Int} (hd : Bc code pc (.ifCond .lt o) o q q') (g1 : x.toInt < 0 → Wp n0 p e R s below Q T (mkF m q' Ls st)) (g2 : ¬ x.toInt < 0 → Wp n0 p e R s below Q T (mkF m q Ls st)) : Wp n0 p e R s below Q T (mkF m pc Ls (.int x :: st)) :=
  ific_lt K S hd (fun q => g1 (Int32.lt_iff_toInt_lt.mp q)) (fun q => g2 (fun r => q (Int32.lt_iff_toInt_lt.mpr r)))
theorem lcmpz_lt (K : Cx own code mL ret mn n0 Z p l e R s m args below meth c) (S : St n0 p l e R s m args below meth c k n h T) {o : Int} {pc1 : Nat} (hd1 : Dc code pc .lcmp 1 pc1) (hd : Bc code pc1 (.ifCond .lt o) o q q') (g1 : X.toInt < Y.toInt → Wp n0 p e R s below Q T (mkF m q' Ls st)) (g2 : ¬ X.toInt < Y.toInt → Wp n0 p e R s below Q T (mkF m q Ls st)) : Wp n0 p e R s below Q T (mkF m pc Ls (.long Y :: .long X :: st)) :=
  lcmp_lt K S hd1 hd (fun q => g1 (Int64.lt_iff_toInt_lt.mp q)) (fun q => g2 (fun r => q (Int64.lt_iff_toInt_lt.mpr r)))
theorem icmpz_ge (K : Cx own code mL ret mn n0 Z p l e R s m args below meth c) (S : St n0 p l e R s m args below meth c k n h T) {o : Int} (hd : Bc code pc (.if_icmp .ge o) o q q') (g1 : ¬ x.toInt < y.toInt → Wp n0 p e R s below Q T (mkF m q' Ls st)) (g2 : x.toInt < y.toInt → Wp n0 p e R s below Q T (mkF m q Ls st)) : Wp n0 p e R s below Q T (mkF m pc Ls (.int y :: .int x :: st)) :=
  icmp_ge K S hd (fun q => g1 (fun r => q (Int32.lt_iff_toInt_lt.mpr r))) (fun q => g2 (Int32.lt_iff_toInt_lt.mp q))
theorem ificz_ge (K : Cx own code mL ret mn n0 Z p l e R s m args below meth c) (S : St n0 p l e R s m args below meth c k n h T) {o : Int} (hd : Bc code pc (.ifCond .ge o) o q q') (g1 : ¬ x.toInt < 0 → Wp n0 p e R s below Q T (mkF m q' Ls st)) (g2 : x.toInt < 0 → Wp n0 p e R s below Q T (mkF m q Ls st)) : Wp n0 p e R s below Q T (mkF m pc Ls (.int x :: st)) :=
  ific_ge K S hd (fun q => g1 (fun r => q (Int32.lt_iff_toInt_lt.mpr r))) (fun q => g2 (Int32.lt_iff_toInt_lt.mp q))
theorem lcmpz_ge (K : Cx own code mL ret mn n0 Z p l e R s m args below meth c) (S : St n0 p l e R s m args below meth c k n h T) {o : Int} {pc1 : Nat} (hd1 : Dc code pc .lcmp 1 pc1) (hd : Bc code pc1 (.ifCond .ge o) o q q') (g1 : ¬ X.toInt < Y.toInt → Wp n0 p e R s below Q T (mkF m q' Ls st)) (g2 : X.toInt < Y.toInt → Wp n0 p e R s below Q T (mkF m q Ls st)) : Wp n0 p e R s below Q T (mkF m pc Ls (.long Y :: .long X :: st)) :=
  lcmp_ge K S hd1 hd (fun q => g1 (fun r => q (Int64.lt_iff_toInt_lt.mpr r))) (fun q => g2 (Int64.lt_iff_toInt_lt.mp q))
theorem icmpz_gt (K : Cx own code mL ret mn n0 Z p l e R s m args below meth c) (S : St n0 p l e R s m args below meth c k n h T) {o : Int} (hd : Bc code pc (.if_icmp .gt o) o q q') (g1 : y.toInt < x.toInt → Wp n0 p e R s below Q T (mkF m q' Ls st)) (g2 : ¬ y.toInt < x.toInt → Wp n0 p e R s below Q T (mkF m q Ls st)) : Wp n0 p e R s below Q T (mkF m pc Ls (.int y :: .int x :: st)) :=
  icmp_gt K S hd (fun q => g1 (Int32.lt_iff_toInt_lt.mp q)) (fun q => g2 (fun r => q (Int32.lt_iff_toInt_lt.mpr r)))
theorem ificz_gt (K : Cx own code mL ret mn n0 Z p l e R s m args below meth c) (S : St n0 p l e R s m args below meth c k n h T) {o : Int} (hd : Bc code pc (.ifCond .gt o) o q q') (g1 : 0 < x.toInt → Wp n0 p e R s below Q T (mkF m q' Ls st)) (g2 : ¬ 0 < x.toInt → Wp n0 p e R s below Q T (mkF m q Ls st)) : Wp n0 p e R s below Q T (mkF m pc Ls (.int x :: st)) :=
  ific_gt K S hd (fun q => g1 (Int32.lt_iff_toInt_lt.mp q)) (fun q => g2 (fun r => q (Int32.lt_iff_toInt_lt.mpr r)))
theorem lcmpz_gt (K : Cx own code mL ret mn n0 Z p l e R s m args below meth c) (S : St n0 p l e R s m args below meth c k n h T) {o : Int} {pc1 : Nat} (hd1 : Dc code pc .lcmp 1 pc1) (hd : Bc code pc1 (.ifCond .gt o) o q q') (g1 : Y.toInt < X.toInt → Wp n0 p e R s below Q T (mkF m q' Ls st)) (g2 : ¬ Y.toInt < X.toInt → Wp n0 p e R s below Q T (mkF m q Ls st)) : Wp n0 p e R s below Q T (mkF m pc Ls (.long Y :: .long X :: st)) :=
  lcmp_gt K S hd1 hd (fun q => g1 (Int64.lt_iff_toInt_lt.mp q)) (fun q => g2 (fun r => q (Int64.lt_iff_toInt_lt.mpr r)))
theorem icmpz_le (K : Cx own code mL ret mn n0 Z p l e R s m args below meth c) (S : St n0 p l e R s m args below meth c k n h T) {o : Int} (hd : Bc code pc (.if_icmp .le o) o q q') (g1 : ¬ y.toInt < x.toInt → Wp n0 p e R s below Q T (mkF m q' Ls st)) (g2 : y.toInt < x.toInt → Wp n0 p e R s below Q T (mkF m q Ls st)) : Wp n0 p e R s below Q T (mkF m pc Ls (.int y :: .int x :: st)) :=
  icmp_le K S hd (fun q => g1 (fun r => q (Int32.lt_iff_toInt_lt.mpr r))) (fun q => g2 (Int32.lt_iff_toInt_lt.mp q))
theorem ificz_le (K : Cx own code mL ret mn n0 Z p l e R s m args below meth c) (S : St n0 p l e R s m args below meth c k n h T) {o : Int} (hd : Bc code pc (.ifCond .le o) o q q') (g1 : ¬ 0 < x.toInt → Wp n0 p e R s below Q T (mkF m q' Ls st)) (g2 : 0 < x.toInt → Wp n0 p e R s below Q T (mkF m q Ls st)) : Wp n0 p e R s below Q T (mkF m pc Ls (.int x :: st)) :=
  ific_le K S hd (fun q => g1 (fun r => q (Int32.lt_iff_toInt_lt.mpr r))) (fun q => g2 (Int32.lt_iff_toInt_lt.mp q))
theorem lcmpz_le (K : Cx own code mL ret mn n0 Z p l e R s m args below meth c) (S : St n0 p l e R s m args below meth c k n h T) {o : Int} {pc1 : Nat} (hd1 : Dc code pc .lcmp 1 pc1) (hd : Bc code pc1 (.ifCond .le o) o q q') (g1 : ¬ Y.toInt < X.toInt → Wp n0 p e R s below Q T (mkF m q' Ls st)) (g2 : Y.toInt < X.toInt → Wp n0 p e R s below Q T (mkF m q Ls st)) : Wp n0 p e R s below Q T (mkF m pc Ls (.long Y :: .long X :: st)) :=
  lcmp_le K S hd1 hd (fun q => g1 (fun r => q (Int64.lt_iff_toInt_lt.mpr r))) (fun q => g2 (Int64.lt_iff_toInt_lt.mp q))
theorem icmpz_eq (K : Cx own code mL ret mn n0 Z p l e R s m args below meth c) (S : St n0 p l e R s m args below meth c k n h T) {o : Int} (hd : Bc code pc (.if_icmp .eq o) o q q') (g1 : x.toInt = y.toInt → Wp n0 p e R s below Q T (mkF m q' Ls st)) (g2 : ¬ x.toInt = y.toInt → Wp n0 p e R s below Q T (mkF m q Ls st)) : Wp n0 p e R s below Q T (mkF m pc Ls (.int y :: .int x :: st)) :=
  icmp_eq K S hd (fun q => g1 (congrArg Int32.toInt q)) (fun q => g2 (fun r => q (Int32.toInt_inj.mp r)))
theorem ificz_eq (K : Cx own code mL ret mn n0 Z p l e R s m args below meth c) (S : St n0 p l e R s m args below meth c k n h T) {o : Int} (hd : Bc code pc (.ifCond .eq o) o q q') (g1 : x.toInt = 0 → Wp n0 p e R s below Q T (mkF m q' Ls st)) (g2 : ¬ x.toInt = 0 → Wp n0 p e R s below Q T (mkF m q Ls st)) : Wp n0 p e R s below Q T (mkF m pc Ls (.int x :: st)) :=
  ific_eq K S hd (fun q => g1 (congrArg Int32.toInt q)) (fun q => g2 (fun r => q (Int32.toInt_inj.mp r)))
theorem lcmpz_eq (K : Cx own code mL ret mn n0 Z p l e R s m args below meth c) (S : St n0 p l e R s m args below meth c k n h T) {o : Int} {pc1 : Nat} (hd1 : Dc code pc .lcmp 1 pc1) (hd : Bc code pc1 (.ifCond .eq o) o q q') (g1 : X.toInt = Y.toInt → Wp n0 p e R s below Q T (mkF m q' Ls st)) (g2 : ¬ X.toInt = Y.toInt → Wp n0 p e R s below Q T (mkF m q Ls st)) : Wp n0 p e R s below Q T (mkF m pc Ls (.long Y :: .long X :: st)) :=
  lcmp_eq K S hd1 hd (fun q => g1 (congrArg Int64.toInt q)) (fun q => g2 (fun r => q (Int64.toInt_inj.mp r)))
theorem icmpz_ne (K : Cx own code mL ret mn n0 Z p l e R s m args below meth c) (S : St n0 p l e R s m args below meth c k n h T) {o : Int} (hd : Bc code pc (.if_icmp .ne o) o q q') (g1 : ¬ x.toInt = y.toInt → Wp n0 p e R s below Q T (mkF m q' Ls st)) (g2 : x.toInt = y.toInt → Wp n0 p e R s below Q T (mkF m q Ls st)) : Wp n0 p e R s below Q T (mkF m pc Ls (.int y :: .int x :: st)) :=
  icmp_ne K S hd (fun q => g1 (fun r => q (Int32.toInt_inj.mp r))) (fun q => g2 (congrArg Int32.toInt q))
theorem ificz_ne (K : Cx own code mL ret mn n0 Z p l e R s m args below meth c) (S : St n0 p l e R s m args below meth c k n h T) {o : Int} (hd : Bc code pc (.ifCond .ne o) o q q') (g1 : ¬ x.toInt = 0 → Wp n0 p e R s below Q T (mkF m q' Ls st)) (g2 : x.toInt = 0 → Wp n0 p e R s below Q T (mkF m q Ls st)) : Wp n0 p e R s below Q T (mkF m pc Ls (.int x :: st)) :=
  ific_ne K S hd (fun q => g1 (fun r => q (Int32.toInt_inj.mp r))) (fun q => g2 (congrArg Int32.toInt q))
theorem lcmpz_ne (K : Cx own code mL ret mn n0 Z p l e R s m args below meth c) (S : St n0 p l e R s m args below meth c k n h T) {o : Int} {pc1 : Nat} (hd1 : Dc code pc .lcmp 1 pc1) (hd : Bc code pc1 (.ifCond .ne o) o q q') (g1 : ¬ X.toInt = Y.toInt → Wp n0 p e R s below Q T (mkF m q' Ls st)) (g2 : X.toInt = Y.toInt → Wp n0 p e R s below Q T (mkF m q Ls st)) : Wp n0 p e R s below Q T (mkF m pc Ls (.long Y :: .long X :: st)) :=
  lcmp_ne K S hd1 hd (fun q => g1 (fun r => q (Int64.toInt_inj.mp r))) (fun q => g2 (congrArg Int64.toInt q))
theorem ifnull_ref (K : Cx own code mL ret mn n0 Z p l e R s m args below meth c) (S : St n0 p l e R s m args below meth c k n h T) {o : Int} (hd : Bc code pc (.ifnull o) o q q') (g : Wp n0 p e R s below Q T (mkF m q Ls st)) : Wp n0 p e R s below Q T (mkF m pc Ls (.ref a :: st)) := by
  obtain ⟨hx, hby, -⟩ := K; obtain ⟨locs, S, -, -⟩ := S; obtain ⟨hd, rfl, h1, h2⟩ := hd
  exact wp_mono (fun t hr => XS.ifnullNo S.here hx rfl (hb hby hd) rfl hr) g
theorem ldc (K : Cx own code mL ret mn n0 Z p l e R s m args below meth c) (S : St n0 p l e R s m args below meth c k n h T) {i : Nat} (w : (Jvm.Cond.constant own i x).before a0 Z = true) (hd : Dc code pc (.ldc i) 2 q) (g : Wp n0 p e R s below Q T (mkF m q Ls (.int x :: st))) : Wp n0 p e R s below Q T (mkF m pc Ls st) := by
  obtain ⟨hx, hby, -, -, -, hown, hZ, -⟩ := K; obtain ⟨locs, S, -, -⟩ := S; obtain ⟨hd, rfl⟩ := hd
  refine wp_mono (T' := T) (g' := mkF m (pc + 2) Ls (.int x :: st)) (fun t hr => ?_) g
  exact S.ldcInt hx hown (mvT hZ w) (g := mkF m pc Ls st) rfl (hb hby hd) t hr
theorem ldc2 (K : Cx own code mL ret mn n0 Z p l e R s m args below meth c) (S : St n0 p l e R s m args below meth c k n h T) {i : Nat} (w : (Jvm.Cond.constantLong own i X).before a0 Z = true) (hd : Dc code pc (.ldc2_w i) 3 q) (g : Wp n0 p e R s below Q T (mkF m q Ls (.long X :: st))) : Wp n0 p e R s below Q T (mkF m pc Ls st) := by
  obtain ⟨hx, hby, -, -, -, hown, hZ, -⟩ := K; obtain ⟨locs, S, -, -⟩ := S; obtain ⟨hd, rfl⟩ := hd
  refine wp_mono (T' := T) (g' := mkF m (pc + 3) Ls (.long X :: st)) (fun t hr => ?_) g
  exact S.ldc2Long hx hown (mvT hZ w) (g := mkF m pc Ls st) rfl (hb hby hd) t hr
theorem getf (K : Cx own code mL ret mn n0 Z p l e R s m args below meth c) (S : St n0 p l e R s m args below meth c k n h T) {i : Nat} {O fn d : String} (w : (Jvm.Cond.fieldLink own i O fn d).before a0 Z = true) (F : Fld Z h a O fn d v) (hd : Dc code pc (.getfield i) 3 q) (g : ∀ T, St n0 p l e R s m args below meth c k n h T → Wp n0 p e R s below Q T (mkF m q Ls (v :: st))) : Wp n0 p e R s below Q T (mkF m pc Ls (.ref a :: st)) := by
  obtain ⟨hx, hby, -, -, -, hown, hZ, -⟩ := K; obtain ⟨locs, S, e1, N, z⟩ := S; obtain ⟨hd, rfl⟩ := hd
  obtain ⟨T1, S1, e2, st1⟩ := getF S hx hZ hown (host := "") (Or.inl w) Via.refl e1 F (g := mkF m pc Ls (.ref a :: st)) rfl rfl (hb hby hd)
  exact wp_mono st1 (g T1 ⟨locs, S1, e2, N, z⟩)
theorem putf (K : Cx own code mL ret mn n0 Z p l e R s m args below meth c) (S : St n0 p l e R s m args below meth c k n h T) {i kk : Nat} {O fn d C : String} {old : Value} (w : (Jvm.Cond.fieldLink own i O fn d).before a0 Z = true) (F : Fld Z h a O fn d old) (E : Exa Z h a C) (L : (Jvm.Cond.lays C O fn d).before a0 Z = true ∨ ((Jvm.Cond.laysFinal C O fn d).before a0 Z = true ∧ own = O ∧ mn = "<init>")) (wi : (Jvm.Cond.instantiable C kk).before a0 Z = true) (hty : parseFieldDescriptor d = some ty) (hn : narrow ty v = v) (hf : fits ty v = true) (ha : n0 ≤ a) (hd : Dc code pc (.putfield i) 3 q) (g : ∀ T h', Wr h h' a (Jvm.RoadKit.slotOf Z O fn d) v → St n0 p l e R s m args below meth c k n h' T → Wp n0 p e R s below Q T (mkF m q Ls st)) : Wp n0 p e R s below Q T (mkF m pc Ls (v :: .ref a :: st)) := by
  obtain ⟨hx, hby, -, -, -, hown, hZ, hmn⟩ := K; obtain ⟨locs, S, e1, N, z⟩ := S; obtain ⟨hd, rfl⟩ := hd
  obtain ⟨T1, h1, S1, e2, W1, st1⟩ := putF S hx hZ hown (host := "") (Or.inl w) Via.refl e1 F E (L.imp id fun q => ⟨q.1, q.2.1, hmn.trans q.2.2⟩) wi hty hn hf (g := mkF m pc Ls (v :: .ref a :: st)) rfl rfl (hb hby hd)
  exact wp_mono st1 (g T1 h1 W1 ⟨_, S1, e2, Fr.snoc S1 N ha, by rw [W1.size]; exact z⟩)
theorem new (K : Cx own code mL ret mn n0 Z p l e R s m args below meth c) (S : St n0 p l e R s m args below meth c k n h T) {i nn : Nat} {C : String} (w : (Jvm.Cond.classLink own i C).before a0 Z = true) (wi : (Jvm.Cond.instantiable C nn).before a0 Z = true) (wz : (Jvm.Cond.initialized C).before a0 Z = true) (hc : k + 1 ≤ R.cells) (hl : n + nn ≤ R.slots) (hd : Dc code pc (.new i) 3 q) (g : ∀ T h' a, a = h.size → n0 ≤ a → Ext h h' → Exa Z h' a C → (∀ {O nm d : String} {ty : FieldType}, Laid Z a0 C O nm d → parseFieldDescriptor d = some ty → Fld Z h' a O nm d (defaultValue ty)) → St n0 p l e R s m args below meth c (k + 1) (n + nn) h' T → Wp n0 p e R s below Q T (mkF m q Ls (.ref a :: st))) : Wp n0 p e R s below Q T (mkF m pc Ls st) := by
  obtain ⟨hx, hby, -, -, -, hown, hZ, hmn⟩ := K; obtain ⟨locs, S, e1, N, z⟩ := S; obtain ⟨hd, rfl⟩ := hd
  obtain ⟨T1, h1, S1, e2, E1, A1, D1, -, st1⟩ := newO S hx hZ hown w wi wz e1 (g := mkF m pc Ls st) rfl (hb hby hd) hc hl
  exact wp_mono st1 (g T1 h1 h.size rfl z E1 A1 D1 ⟨_, S1, e2, N, Nat.le_trans z E1.1⟩)
theorem newarr (K : Cx own code mL ret mn n0 Z p l e R s m args below meth c) (S : St n0 p l e R s m args below meth c k n h T) {aty : ArrayType} {cap : Nat} (w : (Jvm.Cond.arrayClass (newarray.typeOf aty)).before a0 Z = true) (hn : ¬ x < 0) (hcap : x.toNatClampNeg ≤ cap) (hb' : cap * 8 ≤ 536870912) (hc : k + 1 ≤ R.cells) (hl : n + cap ≤ R.slots) (hd : Dc code pc (.newarray aty) 2 q) (g : ∀ T h' a, a = h.size → n0 ≤ a → Ext h h' → VA Z h' a (newarray.typeOf aty) (List.replicate x.toNatClampNeg (defaultValue (newarray.typeOf aty))) → St n0 p l e R s m args below meth c (k + 1) (n + cap) h' T → Wp n0 p e R s below Q T (mkF m q Ls (.ref a :: st))) : Wp n0 p e R s below Q T (mkF m pc Ls (.int x :: st)) := by
  obtain ⟨hx, hby, -, -, -, hown, hZ, hmn⟩ := K; obtain ⟨locs, S, e1, N, z⟩ := S; obtain ⟨hd, rfl⟩ := hd
  obtain ⟨T1, h1, cA, S1, e2, E1, A1, st1⟩ := newP S hx hZ w e1 (g := mkF m pc Ls (.int x :: st)) rfl (hb hby hd) rfl hn hcap hb' hc hl
  exact wp_mono st1 (g T1 h1 h.size rfl z E1 ⟨_, A1, by simp [newA]⟩ ⟨_, S1, e2, N, Nat.le_trans z E1.1⟩)
theorem inito (K : Cx own code mL ret mn n0 Z p l e R s m args below meth c) (S : St n0 p l e R s m args below meth c k n h T) {i W : Nat} (w1 : (Jvm.Cond.methodLink own i Lib.objectInit).before a0 Z = true) (w2 : (Jvm.Cond.instanceMethod Lib.objectInit).before a0 Z = true) (w3 : (Jvm.Cond.code Lib.objectInit ⟨#[0xb1]⟩ 1 none).before a0 Z = true) (hsz : Ls.size = mL) (hf : 1 ≤ R.frames) (hW : (st.map fun v => v.category).sum ≤ W) (hl : W + 12 ≤ R.locals) (hd : Dc code pc (.invokespecial i) 3 q) (g : ∀ T, St n0 p l e R s m args below meth c k n h T → Wp n0 p e R s below Q T (mkF m q Ls st)) : Wp n0 p e R s below Q T (mkF m pc Ls (.ref a :: st)) := by
  obtain ⟨hx, hby, hml, -, -, hown, hZ, hmn⟩ := K; obtain ⟨locs, S, e1, N, z⟩ := S; obtain ⟨hd, rfl⟩ := hd
  obtain ⟨T1, S1, e2, st1⟩ := initO S hx hZ hown w1 w2 w3 e1 (g := mkF m pc Ls (.ref a :: st)) rfl (by rw [hml]; exact hsz) rfl (hb hby hd) hf (W := W) (by show 2 * 0 + _ ≤ _; omega) hl
  exact wp_mono st1 (g T1 ⟨_, S1, e2, N, z⟩)
theorem iaload (K : Cx own code mL ret mn n0 Z p l e R s m args below meth c) (S : St n0 p l e R s m args below meth c k n h T) {i : Nat} (A : VA Z h a .int vs) (hi : Ix x i) (hv : vs[i]? = some v) (hd : Dc code pc .iaload 1 q) (g : Wp n0 p e R s below Q T (mkF m q Ls (v :: st))) : Wp n0 p e R s below Q T (mkF m pc Ls (.int x :: .ref a :: st)) := by
  obtain ⟨hx, hby, -, -, -, hown, hZ, -⟩ := K; obtain ⟨locs, S, e1, N, z⟩ := S; obtain ⟨hd, rfl⟩ := hd; obtain ⟨cl, A, hs⟩ := A; obtain ⟨hi0, rfl⟩ := hi
  have hlt : x.toNatClampNeg < vs.length := (List.getElem?_eq_some_iff.mp hv).1
  exact wp_mono (fun t hr => S.iaload hx (by rw [e1]; exact A.1) (State.isArrayOf_alike hZ.alike A.2.1) A.2.2 (by rw [hs]; simp; exact ⟨Int32.not_lt.mp hi0, hlt⟩) (by rw [hs]; simpa using hv) (g := mkF m pc Ls (.int x :: .ref a :: st)) rfl rfl (hb hby hd) t hr) g
theorem laload (K : Cx own code mL ret mn n0 Z p l e R s m args below meth c) (S : St n0 p l e R s m args below meth c k n h T) {i : Nat} (A : VA Z h a .long vs) (hi : Ix x i) (hv : vs[i]? = some v) (hd : Dc code pc .laload 1 q) (g : Wp n0 p e R s below Q T (mkF m q Ls (v :: st))) : Wp n0 p e R s below Q T (mkF m pc Ls (.int x :: .ref a :: st)) := by
  obtain ⟨hx, hby, -, -, -, hown, hZ, -⟩ := K; obtain ⟨locs, S, e1, N, z⟩ := S; obtain ⟨hd, rfl⟩ := hd; obtain ⟨cl, A, hs⟩ := A; obtain ⟨hi0, rfl⟩ := hi
  have hlt : x.toNatClampNeg < vs.length := (List.getElem?_eq_some_iff.mp hv).1
  exact wp_mono (fun t hr => S.laload hx (by rw [e1]; exact A.1) (State.isArrayOf_alike hZ.alike A.2.1) A.2.2 (by rw [hs]; simp; exact ⟨Int32.not_lt.mp hi0, hlt⟩) (by rw [hs]; simpa using hv) (g := mkF m pc Ls (.int x :: .ref a :: st)) rfl rfl (hb hby hd) t hr) g
theorem caload (K : Cx own code mL ret mn n0 Z p l e R s m args below meth c) (S : St n0 p l e R s m args below meth c k n h T) {i : Nat} (A : VA Z h a .char vs) (hi : Ix x i) (hv : vs[i]? = some v) (hd : Dc code pc .caload 1 q) (g : Wp n0 p e R s below Q T (mkF m q Ls (v :: st))) : Wp n0 p e R s below Q T (mkF m pc Ls (.int x :: .ref a :: st)) := by
  obtain ⟨hx, hby, -, -, -, hown, hZ, -⟩ := K; obtain ⟨locs, S, e1, N, z⟩ := S; obtain ⟨hd, rfl⟩ := hd; obtain ⟨cl, A, hs⟩ := A; obtain ⟨hi0, rfl⟩ := hi
  have hlt : x.toNatClampNeg < vs.length := (List.getElem?_eq_some_iff.mp hv).1
  exact wp_mono (fun t hr => S.caload hx (by rw [e1]; exact A.1) (State.isArrayOf_alike hZ.alike A.2.1) A.2.2 (by rw [hs]; simp; exact ⟨Int32.not_lt.mp hi0, hlt⟩) (by rw [hs]; simpa using hv) (g := mkF m pc Ls (.int x :: .ref a :: st)) rfl rfl (hb hby hd) t hr) g
theorem baload (K : Cx own code mL ret mn n0 Z p l e R s m args below meth c) (S : St n0 p l e R s m args below meth c k n h T) {i : Nat} (A : VA Z h a .byte vs) (hi : Ix x i) (hv : vs[i]? = some v) (hd : Dc code pc .baload 1 q) (g : Wp n0 p e R s below Q T (mkF m q Ls (v :: st))) : Wp n0 p e R s below Q T (mkF m pc Ls (.int x :: .ref a :: st)) := by
  obtain ⟨hx, hby, -, -, -, hown, hZ, -⟩ := K; obtain ⟨locs, S, e1, N, z⟩ := S; obtain ⟨hd, rfl⟩ := hd; obtain ⟨cl, A, hs⟩ := A; obtain ⟨hi0, rfl⟩ := hi
  have hlt : x.toNatClampNeg < vs.length := (List.getElem?_eq_some_iff.mp hv).1
  exact wp_mono (fun t hr => S.baloadBytes hx (by rw [e1]; exact A.1) (State.isArrayOf_alike hZ.alike A.2.1) A.2.2 (by rw [hs]; simp; exact ⟨Int32.not_lt.mp hi0, hlt⟩) (by rw [hs]; simpa using hv) (g := mkF m pc Ls (.int x :: .ref a :: st)) rfl rfl (hb hby hd) t hr) g
theorem iastore (K : Cx own code mL ret mn n0 Z p l e R s m args below meth c) (S : St n0 p l e R s m args below meth c k n h T) {i : Nat} (A : VA Z h a .int vs) (hi : Ix x i) (hlt : i < vs.length) (ha : n0 ≤ a) (hd : Dc code pc .iastore 1 q) (g : ∀ T h', Wr h h' a i (.int y) → VA Z h' a .int (vs.set i (.int y)) → St n0 p l e R s m args below meth c k n h' T → Wp n0 p e R s below Q T (mkF m q Ls st)) : Wp n0 p e R s below Q T (mkF m pc Ls (.int y :: .int x :: .ref a :: st)) := by
  obtain ⟨hx, hby, -, -, -, hown, hZ, -⟩ := K; obtain ⟨locs, S, e1, N, z⟩ := S; obtain ⟨hd, rfl⟩ := hd; have A0 := A; obtain ⟨cl, A, hs⟩ := A; obtain ⟨hi0, rfl⟩ := hi
  obtain ⟨T1, h1, S1, e2, W1, st1⟩ := stI S hx hZ e1 A (by rw [hs]; simp; exact ⟨Int32.not_lt.mp hi0, hlt⟩) (g := mkF m pc Ls (.int y :: .int x :: .ref a :: st)) rfl rfl (hb hby hd)
  exact wp_mono st1 (g T1 h1 W1 (A0.wr W1) ⟨_, S1, e2, Fr.snoc S1 N ha, by rw [W1.size]; exact z⟩)
theorem lastore (K : Cx own code mL ret mn n0 Z p l e R s m args below meth c) (S : St n0 p l e R s m args below meth c k n h T) {i : Nat} (A : VA Z h a .long vs) (hi : Ix x i) (hlt : i < vs.length) (ha : n0 ≤ a) (hd : Dc code pc .lastore 1 q) (g : ∀ T h', Wr h h' a i (.long X) → VA Z h' a .long (vs.set i (.long X)) → St n0 p l e R s m args below meth c k n h' T → Wp n0 p e R s below Q T (mkF m q Ls st)) : Wp n0 p e R s below Q T (mkF m pc Ls (.long X :: .int x :: .ref a :: st)) := by
  obtain ⟨hx, hby, -, -, -, hown, hZ, -⟩ := K; obtain ⟨locs, S, e1, N, z⟩ := S; obtain ⟨hd, rfl⟩ := hd; have A0 := A; obtain ⟨cl, A, hs⟩ := A; obtain ⟨hi0, rfl⟩ := hi
  obtain ⟨T1, h1, S1, e2, W1, st1⟩ := stJ S hx hZ e1 A (by rw [hs]; simp; exact ⟨Int32.not_lt.mp hi0, hlt⟩) (g := mkF m pc Ls (.long X :: .int x :: .ref a :: st)) rfl rfl (hb hby hd)
  exact wp_mono st1 (g T1 h1 W1 (A0.wr W1) ⟨_, S1, e2, Fr.snoc S1 N ha, by rw [W1.size]; exact z⟩)
theorem castore (K : Cx own code mL ret mn n0 Z p l e R s m args below meth c) (S : St n0 p l e R s m args below meth c k n h T) {i : Nat} (A : VA Z h a .char vs) (hi : Ix x i) (hlt : i < vs.length) (ha : n0 ≤ a) (hd : Dc code pc .castore 1 q) (g : ∀ T h', Wr h h' a i (.int (nar .char y)) → VA Z h' a .char (vs.set i (.int (nar .char y))) → St n0 p l e R s m args below meth c k n h' T → Wp n0 p e R s below Q T (mkF m q Ls st)) : Wp n0 p e R s below Q T (mkF m pc Ls (.int y :: .int x :: .ref a :: st)) := by
  obtain ⟨hx, hby, -, -, -, hown, hZ, -⟩ := K; obtain ⟨locs, S, e1, N, z⟩ := S; obtain ⟨hd, rfl⟩ := hd; have A0 := A; obtain ⟨cl, A, hs⟩ := A; obtain ⟨hi0, rfl⟩ := hi
  obtain ⟨T1, h1, S1, e2, W1, st1⟩ := stC S hx hZ e1 A (by rw [hs]; simp; exact ⟨Int32.not_lt.mp hi0, hlt⟩) (g := mkF m pc Ls (.int y :: .int x :: .ref a :: st)) rfl rfl (hb hby hd)
  exact wp_mono st1 (g T1 h1 W1 (A0.wr W1) ⟨_, S1, e2, Fr.snoc S1 N ha, by rw [W1.size]; exact z⟩)
theorem bastore (K : Cx own code mL ret mn n0 Z p l e R s m args below meth c) (S : St n0 p l e R s m args below meth c k n h T) {i : Nat} (A : VA Z h a .byte vs) (hi : Ix x i) (hlt : i < vs.length) (ha : n0 ≤ a) (hd : Dc code pc .bastore 1 q) (g : ∀ T h', Wr h h' a i (.int (nar .byte y)) → VA Z h' a .byte (vs.set i (.int (nar .byte y))) → St n0 p l e R s m args below meth c k n h' T → Wp n0 p e R s below Q T (mkF m q Ls st)) : Wp n0 p e R s below Q T (mkF m pc Ls (.int y :: .int x :: .ref a :: st)) := by
  obtain ⟨hx, hby, -, -, -, hown, hZ, -⟩ := K; obtain ⟨locs, S, e1, N, z⟩ := S; obtain ⟨hd, rfl⟩ := hd; have A0 := A; obtain ⟨cl, A, hs⟩ := A; obtain ⟨hi0, rfl⟩ := hi
  obtain ⟨T1, h1, S1, e2, W1, st1⟩ := stB S hx hZ e1 A (by rw [hs]; simp; exact ⟨Int32.not_lt.mp hi0, hlt⟩) (g := mkF m pc Ls (.int y :: .int x :: .ref a :: st)) rfl rfl (hb hby hd)
  exact wp_mono st1 (g T1 h1 W1 (A0.wr W1) ⟨_, S1, e2, Fr.snoc S1 N ha, by rw [W1.size]; exact z⟩)
theorem alen (K : Cx own code mL ret mn n0 Z p l e R s m args below meth c) (S : St n0 p l e R s m args below meth c k n h T) (A : VA Z h a ty vs) (hx' : vs.length.toInt32 = x) (hd : Dc code pc .arraylength 1 q) (g : Wp n0 p e R s below Q T (mkF m q Ls (.int x :: st))) : Wp n0 p e R s below Q T (mkF m pc Ls (.ref a :: st)) := by
  obtain ⟨hx, hby, -, -, -, hown, hZ, -⟩ := K; obtain ⟨locs, S, e1, N, z⟩ := S; obtain ⟨hd, rfl⟩ := hd; obtain ⟨cl, A, hs⟩ := A
  refine wp_mono (fun t hr => S.arraylength hx (by rw [e1]; exact A.1) (State.isArrayOf_alike hZ.alike A.2.1) (g := mkF m pc Ls (.ref a :: st)) rfl rfl (hb hby hd) t hr) (T' := T) (g' := mkF m (pc + 1) Ls (.int cl.slots.size.toInt32 :: st)) ?_
  rw [hs]; simpa [hx'] using g
theorem retn (K : Cx own code mL (some ty) mn n0 Z p l e R s m args below meth c) (S : St n0 p l e R s m args below meth c k n h T) (ht : ty = .boolean ∨ ty = .byte ∨ ty = .char ∨ ty = .short) (hz : nar ty x = y) (hk : k ≤ R.cells) (hn : n ≤ R.slots) (hd : Dc code pc .ireturn 1 q) (hQ : Q (some (.int y)) h) : Wp n0 p e R s below Q T (mkF m pc Ls (.int x :: st)) := by
  obtain ⟨hx, hby, -, hret, hlk, -⟩ := K; obtain ⟨locs, S, e1, N, z⟩ := S; obtain ⟨hd, -⟩ := hd
  obtain ⟨fs, hr, hrun, hended, hW, hsame⟩ := S.leave (v := some (.int y)) (fun h => by rw [hret] at h; cases h) hlk
  refine ⟨_, _, retN S hx hret ht (hb hby hd) (by rw [hz]; exact hr), hrun, hended, _, _, rfl, ⟨?_, ?_, N⟩, ⟨_, rfl⟩, hW, hsame.mono hk hn⟩
  · show Q _ T.heap; rw [e1]; exact hQ
  · show n0 ≤ T.heap.size; rw [e1]; exact z
theorem reti (K : Cx own code mL (some .int) mn n0 Z p l e R s m args below meth c) (S : St n0 p l e R s m args below meth c k n h T) (hk : k ≤ R.cells) (hn : n ≤ R.slots) (hd : Dc code pc .ireturn 1 q) (hQ : Q (some (.int x)) h) : Wp n0 p e R s below Q T (mkF m pc Ls (.int x :: st)) := by
  obtain ⟨hx, hby, -, hret, hlk, -⟩ := K; obtain ⟨locs, S, e1, N, z⟩ := S; obtain ⟨hd, -⟩ := hd
  obtain ⟨fs, hr, hrun, hended, hW, hsame⟩ := S.leave (v := some (.int x)) (fun h => by rw [hret] at h; cases h) hlk
  refine ⟨_, _, retOut S hx hret rfl (Or.inl ⟨rfl, Or.inl rfl, _, rfl⟩) (hb hby hd) hr, hrun, hended, _, _, rfl, ⟨?_, ?_, N⟩, ⟨_, rfl⟩, hW, hsame.mono hk hn⟩
  · show Q _ T.heap; rw [e1]; exact hQ
  · show n0 ≤ T.heap.size; rw [e1]; exact z
theorem retl (K : Cx own code mL (some .long) mn n0 Z p l e R s m args below meth c) (S : St n0 p l e R s m args below meth c k n h T) (hk : k ≤ R.cells) (hn : n ≤ R.slots) (hd : Dc code pc .lreturn 1 q) (hQ : Q (some (.long X)) h) : Wp n0 p e R s below Q T (mkF m pc Ls (.long X :: st)) := by
  obtain ⟨hx, hby, -, hret, hlk, -⟩ := K; obtain ⟨locs, S, e1, N, z⟩ := S; obtain ⟨hd, -⟩ := hd
  obtain ⟨fs, hr, hrun, hended, hW, hsame⟩ := S.leave (v := some (.long X)) (fun h => by rw [hret] at h; cases h) hlk
  refine ⟨_, _, retOut S hx hret rfl (Or.inr (Or.inl ⟨rfl, rfl, _, rfl⟩)) (hb hby hd) hr, hrun, hended, _, _, rfl, ⟨?_, ?_, N⟩, ⟨_, rfl⟩, hW, hsame.mono hk hn⟩
  · show Q _ T.heap; rw [e1]; exact hQ
  · show n0 ≤ T.heap.size; rw [e1]; exact z
theorem reta (K : Cx own code mL (some ty) mn n0 Z p l e R s m args below meth c) (S : St n0 p l e R s m args below meth c k n h T) (hrf : ty.isReference = true) (hnr : narrow ty (.ref a) = .ref a) (hk : k ≤ R.cells) (hn : n ≤ R.slots) (hd : Dc code pc .areturn 1 q) (hQ : Q (some (.ref a)) h) : Wp n0 p e R s below Q T (mkF m pc Ls (.ref a :: st)) := by
  obtain ⟨hx, hby, -, hret, hlk, -⟩ := K; obtain ⟨locs, S, e1, N, z⟩ := S; obtain ⟨hd, -⟩ := hd
  obtain ⟨fs, hr, hrun, hended, hW, hsame⟩ := S.leave (v := some (.ref a)) (fun h => by rw [hret] at h; cases h) hlk
  refine ⟨_, _, retOut S hx hret hnr (Or.inr (Or.inr (Or.inr (Or.inr ⟨rfl, hrf, rfl⟩)))) (hb hby hd) hr, hrun, hended, _, _, rfl, ⟨?_, ?_, N⟩, ⟨_, rfl⟩, hW, hsame.mono hk hn⟩
  · show Q _ T.heap; rw [e1]; exact hQ
  · show n0 ≤ T.heap.size; rw [e1]; exact z
theorem retv (K : Cx own code mL (none) mn n0 Z p l e R s m args below meth c) (S : St n0 p l e R s m args below meth c k n h T) (hk : k ≤ R.cells) (hn : n ≤ R.slots) (hd : Dc code pc .return_ 1 q) (hQ : Q (none) h) : Wp n0 p e R s below Q T (mkF m pc Ls ([])) := by
  obtain ⟨hx, hby, -, hret, hlk, -⟩ := K; obtain ⟨locs, S, e1, N, z⟩ := S; obtain ⟨hd, -⟩ := hd
  obtain ⟨fs, hr, hrun, hended, hW, hsame⟩ := S.leave (v := none) (fun _ => rfl) hlk
  refine ⟨_, _, S.returnOut hx hret (hb hby hd) hr, hrun, hended, _, _, rfl, ⟨?_, ?_, N⟩, ⟨_, rfl⟩, hW, hsame.mono hk hn⟩
  · show Q _ T.heap; rw [e1]; exact hQ
  · show n0 ≤ T.heap.size; rw [e1]; exact z
theorem callS (K : Cx own code mL ret mn n0 Z p l e R s m args below meth c) (S : St n0 p l e R s m args below meth c k n h T) {i mL' W : Nat} {y : MethodName} {bytes : ByteArray} {ret' : Option FieldType} {rm : Room} {as' : Array Value} {Q' : Option Value → Heap → Prop} {argsL : List Value} (M : Met n0 l Z y bytes mL' ret' rm [] as' h Q') (w1 : (Jvm.Cond.methodLink own i y).before a0 Z = true) (w2 : (Jvm.Cond.static y).before a0 Z = true) (w4 : (Jvm.Cond.code y bytes mL' ret').before a0 Z = true) (w5 : (Jvm.Cond.initialized y.cls).before a0 Z = true) (hy : y.cls ≠ "java/lang/invoke/MethodHandle" ∧ y.cls ≠ "java/lang/invoke/VarHandle") (hfr : rm.frames + 1 ≤ R.frames) (hlo : W + (mL' + 11) + rm.locals ≤ R.locals) (hce : k + rm.cells ≤ R.cells) (hsl : n + rm.slots ≤ R.slots) (hsz : Ls.size = mL) (has : (argsL).toArray = as') (hlen : ∀ sig, parseMethodDescriptor y.desc = some sig → argsL.length = sig.parameters.length) (hst : st = argsL.reverse ++ rest) (hW : (rest.map fun v => v.category).sum ≤ W) (hd : Dc code pc (.invokestatic i) 3 q) (g : ∀ T v h', Q' v h' → St n0 p l e R s m args below meth c (k + rm.cells) (n + rm.slots) h' T → Wp n0 p e R s below Q T (mkF m q Ls (v.toList ++ rest))) : Wp n0 p e R s below Q T (mkF m pc Ls st) := by
  obtain ⟨hx, hby, hml, -, -, hown, hZ, hmn⟩ := K; obtain ⟨locs, S, e1, N, z⟩ := S; obtain ⟨hd, rfl⟩ := hd; subst hst has
  obtain ⟨v1, _, ⟨T1, L1, k1, n1⟩, -, S1, ⟨Lc1, hQ1, l1, y1, z1⟩, st1⟩ := Jvm.LawKit.callS S hx (y := y) hown (mvT hZ w1) (mvT hZ w2) (mvT hZ w5) (mvT hZ w4) hy (backOf (W := W) (Q := fun v h L => Q' v h ∧ n0 ≤ h.size ∧ Fr n0 L) M hZ w4 w5 hfr hlo) (g := mkF m pc Ls (argsL.reverse ++ rest)) rfl (by rw [hml]; exact hsz) (argsL := argsL) (rest := rest) hlen rfl (by show 2 * 0 + _ ≤ _; omega) (hb hby hd) (fun _ _ => ⟨rfl, e1, hce, hsl⟩)
  dsimp only [Pt.U, Pt.locs, Pt.cells, Pt.slots] at S1 l1 y1 z1 st1 hQ1
  subst l1 y1 z1
  exact wp_mono st1 (g T1 v1 T1.heap hQ1.1 ⟨_, S1, rfl, Fr.app N hQ1.2.2, hQ1.2.1⟩)
theorem callC (K : Cx own code mL ret mn n0 Z p l e R s m args below meth c) (S : St n0 p l e R s m args below meth c k n h T) {i mL' W : Nat} {y : MethodName} {bytes : ByteArray} {ret' : Option FieldType} {rm : Room} {as' : Array Value} {Q' : Option Value → Heap → Prop} {argsL : List Value} (M : Met n0 l Z y bytes mL' ret' rm [] as' h Q') (hin : y.name = "<init>") (hr0 : ret' = none) (w1 : (Jvm.Cond.methodLink own i y).before a0 Z = true) (w2 : (Jvm.Cond.instanceMethod y).before a0 Z = true) (w4 : (Jvm.Cond.code y bytes mL' ret').before a0 Z = true) (w5 : (Jvm.Cond.initialized y.cls).before a0 Z = true) (hy : y.cls ≠ "java/lang/invoke/MethodHandle" ∧ y.cls ≠ "java/lang/invoke/VarHandle") (hfr : rm.frames + 1 ≤ R.frames) (hlo : W + (mL' + 11) + rm.locals ≤ R.locals) (hce : k + rm.cells ≤ R.cells) (hsl : n + rm.slots ≤ R.slots) (hsz : Ls.size = mL) (has : (.ref a :: argsL).toArray = as') (hlen : ∀ sig, parseMethodDescriptor y.desc = some sig → argsL.length = sig.parameters.length) (hst : st = argsL.reverse ++ .ref a :: rest) (hW : (rest.map fun v => v.category).sum ≤ W) (hd : Dc code pc (.invokespecial i) 3 q) (g : ∀ T v h', Q' v h' → St n0 p l e R s m args below meth c (k + rm.cells) (n + rm.slots) h' T → Wp n0 p e R s below Q T (mkF m q Ls (v.toList ++ rest))) : Wp n0 p e R s below Q T (mkF m pc Ls st) := by
  obtain ⟨hx, hby, hml, -, -, hown, hZ, hmn⟩ := K; obtain ⟨locs, S, e1, N, z⟩ := S; obtain ⟨hd, rfl⟩ := hd; subst hst has
  subst hr0
  obtain ⟨v1, _, ⟨T1, L1, k1, n1⟩, -, S1, ⟨Lc1, hQ1, l1, y1, z1⟩, st1⟩ := S.specialBack hx (y := y) hin hown (mvT hZ w1) (mvT hZ w2) (mvT hZ w4) hy (backOf (W := W) (Q := fun v h L => Q' v h ∧ n0 ≤ h.size ∧ Fr n0 L) M hZ w4 w5 hfr hlo) (g := mkF m pc Ls (argsL.reverse ++ .ref a :: rest)) rfl (by rw [hml]; exact hsz) (Steps.refl _) (a := a) (argsL := argsL) (rest := rest) hlen rfl (by show 2 * 0 + _ ≤ _; omega) (hb hby hd) (fun _ _ => ⟨rfl, e1, hce, hsl⟩)
  dsimp only [Pt.U, Pt.locs, Pt.cells, Pt.slots] at S1 l1 y1 z1 st1 hQ1
  subst l1 y1 z1
  exact wp_mono (fun t hr => st1.trans hr) (g T1 v1 T1.heap hQ1.1 ⟨_, S1, rfl, Fr.app N hQ1.2.2, hQ1.2.1⟩)
theorem callV (K : Cx own code mL ret mn n0 Z p l e R s m args below meth c) (S : St n0 p l e R s m args below meth c k n h T) {i mL' W : Nat} {y : MethodName} {bytes : ByteArray} {ret' : Option FieldType} {rm : Room} {as' : Array Value} {Q' : Option Value → Heap → Prop} {argsL : List Value} (M : Met n0 l Z y bytes mL' ret' rm [] as' h Q') (E : Exa Z h a y.cls) (w1 : (Jvm.Cond.methodLink own i y).before a0 Z = true) (w2 : (Jvm.Cond.declares y).before a0 Z = true) (w3 : (Jvm.Cond.selects y.cls y y).before a0 Z = true) (w6 : (Jvm.Cond.instanceMethod y).before a0 Z = true) (w4 : (Jvm.Cond.code y bytes mL' ret').before a0 Z = true) (w5 : (Jvm.Cond.initialized y.cls).before a0 Z = true) (hy : y.cls ≠ "java/lang/invoke/MethodHandle" ∧ y.cls ≠ "java/lang/invoke/VarHandle") (hfr : rm.frames + 1 ≤ R.frames) (hlo : W + (mL' + 11) + rm.locals ≤ R.locals) (hce : k + rm.cells ≤ R.cells) (hsl : n + rm.slots ≤ R.slots) (hsz : Ls.size = mL) (has : (.ref a :: argsL).toArray = as') (hlen : ∀ sig, parseMethodDescriptor y.desc = some sig → argsL.length = sig.parameters.length) (hst : st = argsL.reverse ++ .ref a :: rest) (hW : (rest.map fun v => v.category).sum ≤ W) (hd : Dc code pc (.invokevirtual i) 3 q) (g : ∀ T v h', Q' v h' → St n0 p l e R s m args below meth c (k + rm.cells) (n + rm.slots) h' T → Wp n0 p e R s below Q T (mkF m q Ls (v.toList ++ rest))) : Wp n0 p e R s below Q T (mkF m pc Ls st) := by
  obtain ⟨hx, hby, hml, -, -, hown, hZ, hmn⟩ := K; obtain ⟨locs, S, e1, N, z⟩ := S; obtain ⟨hd, rfl⟩ := hd; subst hst has
  obtain ⟨cq, kq, qa, qb, qc⟩ := isOf hZ e1 E
  obtain ⟨v1, _, ⟨T1, L1, k1, n1⟩, -, S1, ⟨Lc1, hQ1, l1, y1, z1⟩, st1⟩ := S.virtualBack hx (y := y) (z := y) hown (mvT hZ w1) (mvT hZ w2) (notFace_of_selects (args := #[]) (mvT hZ w3)) (mvT hZ w3) (mvT hZ w6) hy (backOf (W := W) (Q := fun v h L => Q' v h ∧ n0 ≤ h.size ∧ Fr n0 L) M hZ w4 w5 hfr hlo) qa qc (g := mkF m pc Ls (argsL.reverse ++ .ref a :: rest)) rfl (by rw [hml]; exact hsz) (Steps.refl _) (argsL := argsL) (rest := rest) hlen rfl (by show 2 * 0 + _ ≤ _; omega) (hb hby hd) (fun _ _ => ⟨rfl, e1, hce, hsl⟩)
  dsimp only [Pt.U, Pt.locs, Pt.cells, Pt.slots] at S1 l1 y1 z1 st1 hQ1
  subst l1 y1 z1
  exact wp_mono (fun t hr => st1.trans hr) (g T1 v1 T1.heap hQ1.1 ⟨_, S1, rfl, Fr.app N hQ1.2.2, hQ1.2.1⟩)
theorem callP (K : Cx own code mL ret mn n0 Z p l e R s m args below meth c) (S : St n0 p l e R s m args below meth c k n h T) {i mL' W : Nat} {y : MethodName} {bytes : ByteArray} {ret' : Option FieldType} {rm : Room} {as' : Array Value} {Q' : Option Value → Heap → Prop} {argsL : List Value} (M : Met n0 l Z y bytes mL' ret' rm [] as' h Q') (E : Exa Z h a y.cls) {y2 : MethodName} (hy2 : y2.cls = y.cls) (w1 : (Jvm.Cond.methodLink own i y).before a0 Z = true) (w2 : (Jvm.Cond.privateMethod y).before a0 Z = true) (w3 : (Jvm.Cond.selects y.cls y2 y2).before a0 Z = true) (w6 : (Jvm.Cond.instanceMethod y).before a0 Z = true) (w4 : (Jvm.Cond.code y bytes mL' ret').before a0 Z = true) (w5 : (Jvm.Cond.initialized y.cls).before a0 Z = true) (hy : y.cls ≠ "java/lang/invoke/MethodHandle" ∧ y.cls ≠ "java/lang/invoke/VarHandle") (hfr : rm.frames + 1 ≤ R.frames) (hlo : W + (mL' + 11) + rm.locals ≤ R.locals) (hce : k + rm.cells ≤ R.cells) (hsl : n + rm.slots ≤ R.slots) (hsz : Ls.size = mL) (has : (.ref a :: argsL).toArray = as') (hlen : ∀ sig, parseMethodDescriptor y.desc = some sig → argsL.length = sig.parameters.length) (hst : st = argsL.reverse ++ .ref a :: rest) (hW : (rest.map fun v => v.category).sum ≤ W) (hd : Dc code pc (.invokevirtual i) 3 q) (g : ∀ T v h', Q' v h' → St n0 p l e R s m args below meth c (k + rm.cells) (n + rm.slots) h' T → Wp n0 p e R s below Q T (mkF m q Ls (v.toList ++ rest))) : Wp n0 p e R s below Q T (mkF m pc Ls st) := by
  obtain ⟨hx, hby, hml, -, -, hown, hZ, hmn⟩ := K; obtain ⟨locs, S, e1, N, z⟩ := S; obtain ⟨hd, rfl⟩ := hd; subst hst has
  obtain ⟨cq, q1, q2⟩ := E.cell
  have w3' : (Jvm.Cond.selects y.cls y2 y2).before (args := #[]) s = true := mvT hZ w3
  have wp' := Cond.privateMethod_at (mvP hZ w2 (args := #[]))
  have w6' : (Jvm.Cond.instanceMethod y).before args s = true := mvT hZ w6
  obtain ⟨c1, r1, m1, f1, f2, f3, f4, k2, f5, f6⟩ := Cond.selects_spec w3'
  have f7 : s.vm.findClass y.cls = some m1.cls := by rw [← hy2]; exact findClass_of_methodNamed f3
  have hsel : (Jvm.Cond.selects y.cls y y).before args s = true := Stand.selects_self_of_private f7 f5 f6 wp' w6' hy
  obtain ⟨v1, _, ⟨T1, L1, k1, n1⟩, -, S1, ⟨Lc1, hQ1, l1, y1, z1⟩, st1⟩ := S.privateBack hx (y := y) hown (mvT hZ w1) w6' hsel wp' (mvT hZ w4) hy (backOf (W := W) (Q := fun v h L => Q' v h ∧ n0 ≤ h.size ∧ Fr n0 L) M hZ w4 w5 hfr hlo) (g := mkF m pc Ls (argsL.reverse ++ .ref a :: rest)) rfl (by rw [hml]; exact hsz) (Steps.refl _) (a := a) (by rw [e1]; exact q1) q2 (argsL := argsL) (rest := rest) hlen rfl (by show 2 * 0 + _ ≤ _; omega) (hb hby hd) (fun _ _ => ⟨rfl, e1, hce, hsl⟩)
  dsimp only [Pt.U, Pt.locs, Pt.cells, Pt.slots] at S1 l1 y1 z1 st1 hQ1
  subst l1 y1 z1
  exact wp_mono (fun t hr => st1.trans hr) (g T1 v1 T1.heap hQ1.1 ⟨_, S1, rfl, Fr.app N hQ1.2.2, hQ1.2.1⟩)
end Kit
end Jvm.Own
namespace Jvm.Pilot.@@N@@
open Jvm Jvm.ClassFile Sem Op Lib Jvm.Free Jvm.Stand Jvm.LawKit Jvm.RoadKit Bundle Jvm.Pilot.@@N@@.Jvm.D Jvm.Own
theorem hwi {a0 : Array Value} {Z : State} (hw : ∀ d ∈ tables_1, d.before a0 Z = true) (i : Nat) {d : Jvm.Cond} (h : tables_1[i]? = some d) : d.before a0 Z = true := hw _ (List.mem_of_getElem? h)
theorem d4_0 : Dc jdk_29_method_65_code 0 (.iload_n 0) 1 1 := ⟨by decide +kernel, rfl⟩
theorem d4_1 : Dc jdk_29_method_65_code 1 (.iload_n 1) 1 2 := ⟨by decide +kernel, rfl⟩
theorem d4_2 : Bc jdk_29_method_65_code 2 (.if_icmp .lt 7) (7) 5 9 := ⟨by decide +kernel, rfl, by decide, by decide⟩
theorem d4_5 : Dc jdk_29_method_65_code 5 (.iload_n 0) 1 6 := ⟨by decide +kernel, rfl⟩
theorem d4_6 : Bc jdk_29_method_65_code 6 (.goto 4) (4) 9 10 := ⟨by decide +kernel, rfl, by decide, by decide⟩
theorem d4_9 : Dc jdk_29_method_65_code 9 (.iload_n 1) 1 10 := ⟨by decide +kernel, rfl⟩
theorem d4_10 : Dc jdk_29_method_65_code 10 (.ireturn) 1 11 := ⟨by decide +kernel, rfl⟩
theorem ef_max (m : MethodId) (x : Int32) (y : Int32) : entryFrame m #[.int x, .int y] 2 = mkF m 0 #[.val (.int x), .val (.int y)] [] := by first | (simp [entryFrame, mkF, argsToLocals, Value.category]; done) | rfl
set_option maxRecDepth 65536 in
set_option maxHeartbeats 40000000 in
theorem m_max (l : Launch) (Z : State) (a0 : Array Value) (hw : ∀ d ∈ tables_1, d.before a0 Z = true) (n0 : Nat) (x : Int32) (y : Int32) (h : Heap) (hn : n0 ≤ h.size) : Met n0 l Z (⟨"java/lang/Math", "max", "(II)I"⟩ : MethodName) jdk_29_method_65_code 2 (some .int) ({ frames := 0, cells := 0, slots := 0, locals := 0 } : Room) [] #[.int x, .int y] h (Pr (fun r => (x.toInt < y.toInt → r.toInt = y.toInt) ∧ (¬ x.toInt < y.toInt → r.toInt = x.toInt)) h) := by
  refine enter (JP.mathPlain rfl (by decide)) (fun m => ef_max m x y) hn ?_
  intro p e s m below meth c T K S
  refine iload_n K S rfl d4_0 ?_
  refine iload_n K S rfl d4_1 ?_
  refine icmpz_lt K S d4_2 (fun (c2 : x.toInt < y.toInt) => ?_) (fun (c2 : ¬ x.toInt < y.toInt) => ?_)
  · refine iload_n K S rfl d4_9 ?_
    refine reti K S (by decide) (by decide) d4_10 ?_
    exact ⟨_, rfl, by omega, rfl⟩
  refine iload_n K S rfl d4_5 ?_
  refine goto K S d4_6 ?_
  refine reti K S (by decide) (by decide) d4_10 ?_
  exact ⟨_, rfl, by omega, rfl⟩

theorem d1_0 : Dc prog_59_method_1_code 0 (.aload_n 0) 1 1 := ⟨by decide +kernel, rfl⟩
theorem d1_1 : Dc prog_59_method_1_code 1 (.invokespecial 1) 3 4 := ⟨by decide +kernel, rfl⟩
theorem d1_4 : Dc prog_59_method_1_code 4 (.aload_n 0) 1 5 := ⟨by decide +kernel, rfl⟩
theorem d1_5 : Dc prog_59_method_1_code 5 (.iload_n 1) 1 6 := ⟨by decide +kernel, rfl⟩
theorem d1_6 : Dc prog_59_method_1_code 6 (.putfield 7) 3 9 := ⟨by decide +kernel, rfl⟩
theorem d1_9 : Dc prog_59_method_1_code 9 (.aload_n 0) 1 10 := ⟨by decide +kernel, rfl⟩
theorem d1_10 : Dc prog_59_method_1_code 10 (.iload_n 2) 1 11 := ⟨by decide +kernel, rfl⟩
theorem d1_11 : Dc prog_59_method_1_code 11 (.putfield 13) 3 14 := ⟨by decide +kernel, rfl⟩
theorem d1_14 : Dc prog_59_method_1_code 14 (.aload_n 0) 1 15 := ⟨by decide +kernel, rfl⟩
theorem d1_15 : Dc prog_59_method_1_code 15 (.iload_n 3) 1 16 := ⟨by decide +kernel, rfl⟩
theorem d1_16 : Dc prog_59_method_1_code 16 (.putfield 17) 3 19 := ⟨by decide +kernel, rfl⟩
theorem d1_19 : Dc prog_59_method_1_code 19 (.return_) 1 20 := ⟨by decide +kernel, rfl⟩
theorem ef_ini (m : MethodId) (a : Addr) (sg : Int32) (fe : Int32) (mo : Int32) : entryFrame m #[.ref a, .int sg, .int fe, .int mo] 4 = mkF m 0 #[.val (.ref a), .val (.int sg), .val (.int fe), .val (.int mo)] [] := by first | (simp [entryFrame, mkF, argsToLocals, Value.category]; done) | rfl
set_option maxRecDepth 65536 in
set_option maxHeartbeats 40000000 in
theorem m_ini (l : Launch) (Z : State) (a0 : Array Value) (hw : ∀ d ∈ tables_1, d.before a0 Z = true) (n0 : Nat) (a : Addr) (sg : Int32) (fe : Int32) (mo : Int32) (h : Heap) (hn : n0 ≤ h.size) (g_a : n0 ≤ a) (E_a : Exa Z h a "com/example/awardsmith/awardsmith/plan/Installments") (F_singleSum_a : Fld Z h a "com/example/awardsmith/awardsmith/plan/Installments" "singleSum" "Z" (.int 0)) (F_fewest_a : Fld Z h a "com/example/awardsmith/awardsmith/plan/Installments" "fewest" "I" (.int 0)) (F_most_a : Fld Z h a "com/example/awardsmith/awardsmith/plan/Installments" "most" "I" (.int 0)) (nb : narrow .boolean (.int sg) = .int sg) (fb : fits .boolean (.int sg) = true) : Met n0 l Z (⟨"com/example/awardsmith/awardsmith/plan/Installments", "<init>", "(ZII)V"⟩ : MethodName) prog_59_method_1_code 4 none ({ frames := 1, cells := 0, slots := 0, locals := 12 } : Room) [] #[.ref a, .int sg, .int fe, .int mo] h (Ef none (fun h' => Exa Z h' a "com/example/awardsmith/awardsmith/plan/Installments" ∧ Fld Z h' a "com/example/awardsmith/awardsmith/plan/Installments" "singleSum" "Z" (.int sg) ∧ Fld Z h' a "com/example/awardsmith/awardsmith/plan/Installments" "fewest" "I" (.int fe) ∧ Fld Z h' a "com/example/awardsmith/awardsmith/plan/Installments" "most" "I" (.int mo))) := by
  refine enter (plainFor_of_name (by first | (simp [plainName, overriddenIn]; done) | decide +kernel)) (fun m => ef_ini m a sg fe mo) hn ?_
  intro p e s m below meth c T K S
  refine aload_n K S rfl rfl d1_0 ?_
  refine inito K S (W := 0) (hwi hw 6 rfl) (hwi hw 7 rfl) (hwi hw 8 rfl) rfl (by decide) (by decide) (by decide) d1_1 fun T S => ?_
  refine aload_n K S rfl rfl d1_4 ?_
  refine iload_n K S rfl d1_5 ?_
  refine putf K S (hwi hw 9 rfl) F_singleSum_a E_a (Or.inr ⟨(hwi hw 10 rfl), rfl, rfl⟩) (hwi hw 1 rfl) (ty := .boolean) (by decide) nb fb g_a d1_6 fun T h6_1 W S => ?_
  replace E_a := E_a.wr W
  replace F_singleSum_a := F_singleSum_a.same W
  replace F_fewest_a := F_fewest_a.other W (Or.inr (slot_ne (C := "com/example/awardsmith/awardsmith/plan/Installments") (Or.inr (hwi hw 12 rfl)) (Or.inr (hwi hw 10 rfl)) (by decide) (t := .int) (t' := .boolean) (by decide) (by decide)))
  replace F_most_a := F_most_a.other W (Or.inr (slot_ne (C := "com/example/awardsmith/awardsmith/plan/Installments") (Or.inr (hwi hw 14 rfl)) (Or.inr (hwi hw 10 rfl)) (by decide) (t := .int) (t' := .boolean) (by decide) (by decide)))
  clear W
  refine aload_n K S rfl rfl d1_9 ?_
  refine iload_n K S rfl d1_10 ?_
  refine putf K S (hwi hw 11 rfl) F_fewest_a E_a (Or.inr ⟨(hwi hw 12 rfl), rfl, rfl⟩) (hwi hw 1 rfl) (ty := .int) (by decide) rfl rfl g_a d1_11 fun T h11_2 W S => ?_
  replace E_a := E_a.wr W
  replace F_singleSum_a := F_singleSum_a.other W (Or.inr (slot_ne (C := "com/example/awardsmith/awardsmith/plan/Installments") (Or.inr (hwi hw 10 rfl)) (Or.inr (hwi hw 12 rfl)) (by decide) (t := .boolean) (t' := .int) (by decide) (by decide)))
  replace F_fewest_a := F_fewest_a.same W
  replace F_most_a := F_most_a.other W (Or.inr (slot_ne (C := "com/example/awardsmith/awardsmith/plan/Installments") (Or.inr (hwi hw 14 rfl)) (Or.inr (hwi hw 12 rfl)) (by decide) (t := .int) (t' := .int) (by decide) (by decide)))
  clear W
  refine aload_n K S rfl rfl d1_14 ?_
  refine iload_n K S rfl d1_15 ?_
  refine putf K S (hwi hw 13 rfl) F_most_a E_a (Or.inr ⟨(hwi hw 14 rfl), rfl, rfl⟩) (hwi hw 1 rfl) (ty := .int) (by decide) rfl rfl g_a d1_16 fun T h16_3 W S => ?_
  replace E_a := E_a.wr W
  replace F_singleSum_a := F_singleSum_a.other W (Or.inr (slot_ne (C := "com/example/awardsmith/awardsmith/plan/Installments") (Or.inr (hwi hw 10 rfl)) (Or.inr (hwi hw 14 rfl)) (by decide) (t := .boolean) (t' := .int) (by decide) (by decide)))
  replace F_fewest_a := F_fewest_a.other W (Or.inr (slot_ne (C := "com/example/awardsmith/awardsmith/plan/Installments") (Or.inr (hwi hw 12 rfl)) (Or.inr (hwi hw 14 rfl)) (by decide) (t := .int) (t' := .int) (by decide) (by decide)))
  replace F_most_a := F_most_a.same W
  clear W
  refine retv K S (by decide) (by decide) d1_19 ?_
  exact ⟨rfl, E_a, F_singleSum_a, F_fewest_a, F_most_a⟩

theorem d3_0 : Dc prog_59_method_2_code 0 (.iload_n 1) 1 1 := ⟨by decide +kernel, rfl⟩
theorem d3_1 : Dc prog_59_method_2_code 1 (.iconst 1) 1 2 := ⟨by decide +kernel, rfl⟩
theorem d3_2 : Bc prog_59_method_2_code 2 (.if_icmp .ne 10) (10) 5 12 := ⟨by decide +kernel, rfl, by decide, by decide⟩
theorem d3_5 : Dc prog_59_method_2_code 5 (.aload_n 0) 1 6 := ⟨by decide +kernel, rfl⟩
theorem d3_6 : Dc prog_59_method_2_code 6 (.getfield 7) 3 9 := ⟨by decide +kernel, rfl⟩
theorem d3_9 : Bc prog_59_method_2_code 9 (.goto 31) (31) 12 40 := ⟨by decide +kernel, rfl, by decide, by decide⟩
theorem d3_12 : Dc prog_59_method_2_code 12 (.aload_n 0) 1 13 := ⟨by decide +kernel, rfl⟩
theorem d3_13 : Dc prog_59_method_2_code 13 (.getfield 13) 3 16 := ⟨by decide +kernel, rfl⟩
theorem d3_16 : Bc prog_59_method_2_code 16 (.ifCond .le 23) (23) 19 39 := ⟨by decide +kernel, rfl, by decide, by decide⟩
theorem d3_19 : Dc prog_59_method_2_code 19 (.iload_n 1) 1 20 := ⟨by decide +kernel, rfl⟩
theorem d3_20 : Dc prog_59_method_2_code 20 (.aload_n 0) 1 21 := ⟨by decide +kernel, rfl⟩
theorem d3_21 : Dc prog_59_method_2_code 21 (.getfield 13) 3 24 := ⟨by decide +kernel, rfl⟩
theorem d3_24 : Bc prog_59_method_2_code 24 (.if_icmp .lt 15) (15) 27 39 := ⟨by decide +kernel, rfl, by decide, by decide⟩
theorem d3_27 : Dc prog_59_method_2_code 27 (.iload_n 1) 1 28 := ⟨by decide +kernel, rfl⟩
theorem d3_28 : Dc prog_59_method_2_code 28 (.aload_n 0) 1 29 := ⟨by decide +kernel, rfl⟩
theorem d3_29 : Dc prog_59_method_2_code 29 (.getfield 17) 3 32 := ⟨by decide +kernel, rfl⟩
theorem d3_32 : Bc prog_59_method_2_code 32 (.if_icmp .gt 7) (7) 35 39 := ⟨by decide +kernel, rfl, by decide, by decide⟩
theorem d3_35 : Dc prog_59_method_2_code 35 (.iconst 1) 1 36 := ⟨by decide +kernel, rfl⟩
theorem d3_36 : Bc prog_59_method_2_code 36 (.goto 4) (4) 39 40 := ⟨by decide +kernel, rfl, by decide, by decide⟩
theorem d3_39 : Dc prog_59_method_2_code 39 (.iconst 0) 1 40 := ⟨by decide +kernel, rfl⟩
theorem d3_40 : Dc prog_59_method_2_code 40 (.ireturn) 1 41 := ⟨by decide +kernel, rfl⟩
theorem ef_allows (m : MethodId) (a : Addr) (n : Int32) (sg : Int32) (fe : Int32) (mo : Int32) : entryFrame m #[.ref a, .int n] 2 = mkF m 0 #[.val (.ref a), .val (.int n)] [] := by first | (simp [entryFrame, mkF, argsToLocals, Value.category]; done) | rfl
set_option maxRecDepth 65536 in
set_option maxHeartbeats 40000000 in
theorem m_allows (l : Launch) (Z : State) (a0 : Array Value) (hw : ∀ d ∈ tables_1, d.before a0 Z = true) (n0 : Nat) (a : Addr) (n : Int32) (sg : Int32) (fe : Int32) (mo : Int32) (h : Heap) (hn : n0 ≤ h.size) (F_singleSum_a : Fld Z h a "com/example/awardsmith/awardsmith/plan/Installments" "singleSum" "Z" (.int sg)) (F_fewest_a : Fld Z h a "com/example/awardsmith/awardsmith/plan/Installments" "fewest" "I" (.int fe)) (F_most_a : Fld Z h a "com/example/awardsmith/awardsmith/plan/Installments" "most" "I" (.int mo)) (hs : sg.toInt = 0 ∨ sg.toInt = 1) : Met n0 l Z (⟨"com/example/awardsmith/awardsmith/plan/Installments", "allows", "(I)Z"⟩ : MethodName) prog_59_method_2_code 2 (some .boolean) ({ frames := 0, cells := 0, slots := 0, locals := 0 } : Room) [] #[.ref a, .int n] h (Pr (fun r => (n.toInt = 1 ∧ r.toInt = sg.toInt) ∨ (¬ n.toInt = 1 ∧ (((0 < fe.toInt ∧ fe.toInt ≤ n.toInt ∧ n.toInt ≤ mo.toInt) ∧ r.toInt = 1) ∨ (¬ (0 < fe.toInt ∧ fe.toInt ≤ n.toInt ∧ n.toInt ≤ mo.toInt) ∧ r.toInt = 0)))) h) := by
  refine enter (plainFor_of_name (by first | (simp [plainName, overriddenIn]; done) | decide +kernel)) (fun m => ef_allows m a n sg fe mo) hn ?_
  intro p e s m below meth c T K S
  refine iload_n K S rfl d3_0 ?_
  refine iconst K S (x := (1 : Int32)) rfl d3_1 ?_
  refine icmpz_ne K S d3_2 (fun (c2 : ¬ n.toInt = 1) => ?_) (fun (c2 : n.toInt = 1) => ?_)
  · refine aload_n K S rfl rfl d3_12 ?_
    refine getf K S (hwi hw 11 rfl) F_fewest_a d3_13 fun T S => ?_
    refine ificz_le K S d3_16 (fun (c16 : ¬ 0 < fe.toInt) => ?_) (fun (c16 : 0 < fe.toInt) => ?_)
    · refine iconst K S (x := (0 : Int32)) rfl d3_39 ?_
      refine retn K S (by simp) (y := (0 : Int32)) rfl (by decide) (by decide) d3_40 ?_
      exact ⟨_, rfl, by have z0 : (0 : Int32).toInt = 0 := rfl; have z1 : (1 : Int32).toInt = 1 := rfl; omega, rfl⟩
    refine iload_n K S rfl d3_19 ?_
    refine aload_n K S rfl rfl d3_20 ?_
    refine getf K S (hwi hw 11 rfl) F_fewest_a d3_21 fun T S => ?_
    refine icmpz_lt K S d3_24 (fun (c24 : n.toInt < fe.toInt) => ?_) (fun (c24 : ¬ n.toInt < fe.toInt) => ?_)
    · refine iconst K S (x := (0 : Int32)) rfl d3_39 ?_
      refine retn K S (by simp) (y := (0 : Int32)) rfl (by decide) (by decide) d3_40 ?_
      exact ⟨_, rfl, by have z0 : (0 : Int32).toInt = 0 := rfl; have z1 : (1 : Int32).toInt = 1 := rfl; omega, rfl⟩
    refine iload_n K S rfl d3_27 ?_
    refine aload_n K S rfl rfl d3_28 ?_
    refine getf K S (hwi hw 13 rfl) F_most_a d3_29 fun T S => ?_
    refine icmpz_gt K S d3_32 (fun (c32 : mo.toInt < n.toInt) => ?_) (fun (c32 : ¬ mo.toInt < n.toInt) => ?_)
    · refine iconst K S (x := (0 : Int32)) rfl d3_39 ?_
      refine retn K S (by simp) (y := (0 : Int32)) rfl (by decide) (by decide) d3_40 ?_
      exact ⟨_, rfl, by have z0 : (0 : Int32).toInt = 0 := rfl; have z1 : (1 : Int32).toInt = 1 := rfl; omega, rfl⟩
    refine iconst K S (x := (1 : Int32)) rfl d3_35 ?_
    refine goto K S d3_36 ?_
    refine retn K S (by simp) (y := (1 : Int32)) rfl (by decide) (by decide) d3_40 ?_
    exact ⟨_, rfl, by have z0 : (0 : Int32).toInt = 0 := rfl; have z1 : (1 : Int32).toInt = 1 := rfl; omega, rfl⟩
  refine aload_n K S rfl rfl d3_5 ?_
  refine getf K S (hwi hw 9 rfl) F_singleSum_a d3_6 fun T S => ?_
  refine goto K S d3_9 ?_
  refine retn K S (by simp) (y := sg) (own_b01 hs) (by decide) (by decide) d3_40 ?_
  exact ⟨_, rfl, by have z0 : (0 : Int32).toInt = 0 := rfl; have z1 : (1 : Int32).toInt = 1 := rfl; omega, rfl⟩

theorem d0_0 : Dc code 0 (.iload_n 0) 1 1 := ⟨at_0, rfl⟩
theorem d0_1 : Dc code 1 (.iconst 1) 1 2 := ⟨at_1, rfl⟩
theorem d0_2 : Dc code 2 (.iushr) 1 3 := ⟨at_2, rfl⟩
theorem d0_3 : Dc code 3 (.iconst 1) 1 4 := ⟨at_3, rfl⟩
theorem d0_4 : Dc code 4 (.iand) 1 5 := ⟨at_4, rfl⟩
theorem d0_5 : Bc code 5 (.ifCond .eq 7) (7) 8 12 := ⟨at_5, rfl, by decide, by decide⟩
theorem d0_8 : Dc code 8 (.iconst 1) 1 9 := ⟨at_8, rfl⟩
theorem d0_9 : Bc code 9 (.goto 4) (4) 12 13 := ⟨at_9, rfl, by decide, by decide⟩
theorem d0_12 : Dc code 12 (.iconst 0) 1 13 := ⟨at_12, rfl⟩
theorem d0_13 : Dc code 13 (.istore 4) 2 15 := ⟨at_13, rfl⟩
theorem d0_15 : Dc code 15 (.iload 4) 2 17 := ⟨at_15, rfl⟩
theorem d0_17 : Bc code 17 (.ifCond .eq 9) (9) 20 26 := ⟨at_17, rfl, by decide, by decide⟩
theorem d0_20 : Dc code 20 (.iload_n 0) 1 21 := ⟨at_20, rfl⟩
theorem d0_21 : Dc code 21 (.iconst 1) 1 22 := ⟨at_21, rfl⟩
theorem d0_22 : Dc code 22 (.iand) 1 23 := ⟨at_22, rfl⟩
theorem d0_23 : Bc code 23 (.ifCond .eq 7) (7) 26 30 := ⟨at_23, rfl, by decide, by decide⟩
theorem d0_26 : Dc code 26 (.iconst 1) 1 27 := ⟨at_26, rfl⟩
theorem d0_27 : Bc code 27 (.goto 4) (4) 30 31 := ⟨at_27, rfl, by decide, by decide⟩
theorem d0_30 : Dc code 30 (.iconst 0) 1 31 := ⟨at_30, rfl⟩
theorem d0_31 : Dc code 31 (.istore 5) 2 33 := ⟨at_31, rfl⟩
theorem d0_33 : Dc code 33 (.iconst 0) 1 34 := ⟨at_33, rfl⟩
theorem d0_34 : Dc code 34 (.istore 6) 2 36 := ⟨at_34, rfl⟩
theorem d0_36 : Dc code 36 (.iconst 0) 1 37 := ⟨at_36, rfl⟩
theorem d0_37 : Dc code 37 (.istore 7) 2 39 := ⟨at_37, rfl⟩
theorem d0_39 : Dc code 39 (.iload 4) 2 41 := ⟨at_39, rfl⟩
theorem d0_41 : Bc code 41 (.ifCond .eq 18) (18) 44 59 := ⟨at_41, rfl, by decide, by decide⟩
theorem d0_44 : Dc code 44 (.iconst 2) 1 45 := ⟨at_44, rfl⟩
theorem d0_45 : Dc code 45 (.iload_n 1) 1 46 := ⟨at_45, rfl⟩
theorem d0_46 : Dc code 46 (.invokestatic 7) 3 49 := ⟨at_46, rfl⟩
theorem d0_49 : Dc code 49 (.istore 6) 2 51 := ⟨at_49, rfl⟩
theorem d0_51 : Dc code 51 (.iload 6) 2 53 := ⟨at_51, rfl⟩
theorem d0_53 : Dc code 53 (.iload_n 2) 1 54 := ⟨at_53, rfl⟩
theorem d0_54 : Dc code 54 (.invokestatic 7) 3 57 := ⟨at_54, rfl⟩
theorem d0_57 : Dc code 57 (.istore 7) 2 59 := ⟨at_57, rfl⟩
theorem d0_59 : Dc code 59 (.iload_n 0) 1 60 := ⟨at_59, rfl⟩
theorem d0_60 : Dc code 60 (.iconst 2) 1 61 := ⟨at_60, rfl⟩
theorem d0_61 : Dc code 61 (.iushr) 1 62 := ⟨at_61, rfl⟩
theorem d0_62 : Dc code 62 (.iconst 3) 1 63 := ⟨at_62, rfl⟩
theorem d0_63 : Dc code 63 (.iand) 1 64 := ⟨at_63, rfl⟩
theorem d0_64 : Dc code 64 (.istore 8) 2 66 := ⟨at_64, rfl⟩
theorem d0_66 : Dc code 66 (.iload_n 3) 1 67 := ⟨at_66, rfl⟩
theorem d0_67 : Dc code 67 (.istore 9) 2 69 := ⟨at_67, rfl⟩
theorem d0_69 : Dc code 69 (.iload 8) 2 71 := ⟨at_69, rfl⟩
theorem d0_71 : Dc code 71 (.iconst 1) 1 72 := ⟨at_71, rfl⟩
theorem d0_72 : Bc code 72 (.if_icmp .ne 16) (16) 75 88 := ⟨at_72, rfl, by decide, by decide⟩
theorem d0_75 : Dc code 75 (.iload 6) 2 77 := ⟨at_75, rfl⟩
theorem d0_77 : Dc code 77 (.iconst 1) 1 78 := ⟨at_77, rfl⟩
theorem d0_78 : Dc code 78 (.isub) 1 79 := ⟨at_78, rfl⟩
theorem d0_79 : Dc code 79 (.iload_n 3) 1 80 := ⟨at_79, rfl⟩
theorem d0_80 : Dc code 80 (.iconst 3) 1 81 := ⟨at_80, rfl⟩
theorem d0_81 : Dc code 81 (.iand) 1 82 := ⟨at_81, rfl⟩
theorem d0_82 : Dc code 82 (.iadd) 1 83 := ⟨at_82, rfl⟩
theorem d0_83 : Dc code 83 (.istore 9) 2 85 := ⟨at_83, rfl⟩
theorem d0_85 : Bc code 85 (.goto 31) (31) 88 116 := ⟨at_85, rfl, by decide, by decide⟩
theorem d0_88 : Dc code 88 (.iload 8) 2 90 := ⟨at_88, rfl⟩
theorem d0_90 : Dc code 90 (.iconst 2) 1 91 := ⟨at_90, rfl⟩
theorem d0_91 : Bc code 91 (.if_icmp .ne 16) (16) 94 107 := ⟨at_91, rfl, by decide, by decide⟩
theorem d0_94 : Dc code 94 (.iload 7) 2 96 := ⟨at_94, rfl⟩
theorem d0_96 : Dc code 96 (.iconst 1) 1 97 := ⟨at_96, rfl⟩
theorem d0_97 : Dc code 97 (.isub) 1 98 := ⟨at_97, rfl⟩
theorem d0_98 : Dc code 98 (.iload_n 3) 1 99 := ⟨at_98, rfl⟩
theorem d0_99 : Dc code 99 (.iconst 3) 1 100 := ⟨at_99, rfl⟩
theorem d0_100 : Dc code 100 (.iand) 1 101 := ⟨at_100, rfl⟩
theorem d0_101 : Dc code 101 (.iadd) 1 102 := ⟨at_101, rfl⟩
theorem d0_102 : Dc code 102 (.istore 9) 2 104 := ⟨at_102, rfl⟩
theorem d0_104 : Bc code 104 (.goto 12) (12) 107 116 := ⟨at_104, rfl, by decide, by decide⟩
theorem d0_107 : Dc code 107 (.iload 8) 2 109 := ⟨at_107, rfl⟩
theorem d0_109 : Dc code 109 (.iconst 3) 1 110 := ⟨at_109, rfl⟩
theorem d0_110 : Bc code 110 (.if_icmp .ne 6) (6) 113 116 := ⟨at_110, rfl, by decide, by decide⟩
theorem d0_113 : Dc code 113 (.iconst 1) 1 114 := ⟨at_113, rfl⟩
theorem d0_114 : Dc code 114 (.istore 9) 2 116 := ⟨at_114, rfl⟩
theorem d0_116 : Dc code 116 (.iload 9) 2 118 := ⟨at_116, rfl⟩
theorem d0_118 : Dc code 118 (.iconst 1) 1 119 := ⟨at_118, rfl⟩
theorem d0_119 : Bc code 119 (.if_icmp .ne 8) (8) 122 127 := ⟨at_119, rfl, by decide, by decide⟩
theorem d0_122 : Dc code 122 (.iload 5) 2 124 := ⟨at_122, rfl⟩
theorem d0_124 : Bc code 124 (.ifCond .ne 22) (22) 127 146 := ⟨at_124, rfl, by decide, by decide⟩
theorem d0_127 : Dc code 127 (.iload 4) 2 129 := ⟨at_127, rfl⟩
theorem d0_129 : Bc code 129 (.ifCond .eq 21) (21) 132 150 := ⟨at_129, rfl, by decide, by decide⟩
theorem d0_132 : Dc code 132 (.iload 6) 2 134 := ⟨at_132, rfl⟩
theorem d0_134 : Dc code 134 (.iload 9) 2 136 := ⟨at_134, rfl⟩
theorem d0_136 : Bc code 136 (.if_icmp .gt 14) (14) 139 150 := ⟨at_136, rfl, by decide, by decide⟩
theorem d0_139 : Dc code 139 (.iload 9) 2 141 := ⟨at_139, rfl⟩
theorem d0_141 : Dc code 141 (.iload 7) 2 143 := ⟨at_141, rfl⟩
theorem d0_143 : Bc code 143 (.if_icmp .gt 7) (7) 146 150 := ⟨at_143, rfl, by decide, by decide⟩
theorem d0_146 : Dc code 146 (.iconst 1) 1 147 := ⟨at_146, rfl⟩
theorem d0_147 : Bc code 147 (.goto 4) (4) 150 151 := ⟨at_147, rfl, by decide, by decide⟩
theorem d0_150 : Dc code 150 (.iconst 0) 1 151 := ⟨at_150, rfl⟩
theorem d0_151 : Dc code 151 (.istore 10) 2 153 := ⟨at_151, rfl⟩
theorem d0_153 : Dc code 153 (.new 13) 3 156 := ⟨at_153, rfl⟩
theorem d0_156 : Dc code 156 (.dup) 1 157 := ⟨at_156, rfl⟩
theorem d0_157 : Dc code 157 (.iload 5) 2 159 := ⟨at_157, rfl⟩
theorem d0_159 : Dc code 159 (.iload 6) 2 161 := ⟨at_159, rfl⟩
theorem d0_161 : Dc code 161 (.iload 7) 2 163 := ⟨at_161, rfl⟩
theorem d0_163 : Dc code 163 (.invokespecial 15) 3 166 := ⟨at_163, rfl⟩
theorem d0_166 : Dc code 166 (.astore 11) 2 168 := ⟨at_166, rfl⟩
theorem d0_168 : Dc code 168 (.aload 11) 2 170 := ⟨at_168, rfl⟩
theorem d0_170 : Dc code 170 (.iload 9) 2 172 := ⟨at_170, rfl⟩
theorem d0_172 : Dc code 172 (.invokevirtual 18) 3 175 := ⟨at_172, rfl⟩
theorem d0_175 : Dc code 175 (.iload 10) 2 177 := ⟨at_175, rfl⟩
theorem d0_177 : Bc code 177 (.if_icmp .ne 7) (7) 180 184 := ⟨at_177, rfl, by decide, by decide⟩
theorem d0_180 : Dc code 180 (.iconst 1) 1 181 := ⟨at_180, rfl⟩
theorem d0_181 : Bc code 181 (.goto 4) (4) 184 185 := ⟨at_181, rfl, by decide, by decide⟩
theorem d0_184 : Dc code 184 (.iconst 0) 1 185 := ⟨at_184, rfl⟩
theorem d0_185 : Dc code 185 (.ireturn) 1 186 := ⟨at_185, rfl⟩
theorem pd_1 : parseMethodDescriptor "(ZII)V" = some ⟨[.boolean, .int, .int], none⟩ := by decide +kernel
theorem pd_3 : parseMethodDescriptor "(I)Z" = some ⟨[.int], (some .boolean)⟩ := by decide +kernel
theorem pd_4 : parseMethodDescriptor "(II)I" = some ⟨[.int, .int], (some .int)⟩ := by decide +kernel
theorem ef_law (m : MethodId) (x0 : Int32) (x1 : Int32) (x2 : Int32) (x3 : Int32) : entryFrame m #[.int x0, .int x1, .int x2, .int x3] maxLocals = mkF m 0 #[.val (.int x0), .val (.int x1), .val (.int x2), .val (.int x3), .unset, .unset, .unset, .unset, .unset, .unset, .unset, .unset] [] := by first | (simp [entryFrame, mkF, argsToLocals, Value.category, maxLocals]; done) | rfl
set_option maxRecDepth 65536 in
set_option maxHeartbeats 40000000 in
theorem m_law (l : Launch) (Z : State) (a0 : Array Value) (hw : ∀ d ∈ tables_1, d.before a0 Z = true) (n0 : Nat) (x0 : Int32) (x1 : Int32) (x2 : Int32) (x3 : Int32) (h : Heap) (hn : n0 ≤ h.size) : Met n0 l Z x code maxLocals ret room_1 tables_1 #[.int x0, .int x1, .int x2, .int x3] h (fun v _ => v = some (.int 1)) := by
  refine enter (plainFor_of_name (by first | (simp [plainName, overriddenIn, x]; done) | decide +kernel)) (fun m => ef_law m x0 x1 x2 x3) hn ?_
  intro p e s m below meth c T K S
  refine iload_n K S rfl d0_0 ?_
  refine iconst K S (x := (1 : Int32)) rfl d0_1 ?_
  refine iushr K S d0_2 ?_
  refine nmI fun t2 ht2 => ?_
  have ft2 : t2.toInt = (x0.toInt % 4294967296) / 2 := by rw [ht2]; exact c_iushr x0 (1 : Int32) 1 (by decide) (by decide)
  have rt2 := rng32 t2
  refine iconst K S (x := (1 : Int32)) rfl d0_3 ?_
  refine iand K S d0_4 ?_
  refine nmI fun t4 ht4 => ?_
  have ft4 : t4.toInt = t2.toInt % 2 := by rw [ht4]; exact c_mask t2 (1 : Int32) 1 (by decide) (by decide)
  have rt4 := rng32 t4
  refine ificz_eq K S d0_5 (fun (c5 : t4.toInt = 0) => ?_) (fun (c5 : ¬ t4.toInt = 0) => ?_)
  · refine iconst K S (x := (0 : Int32)) rfl d0_12 ?_
    refine istore K S (l' := #[.val (.int x0), .val (.int x1), .val (.int x2), .val (.int x3), .val (.int (0 : Int32)), .unset, .unset, .unset, .unset, .unset, .unset, .unset]) rfl d0_13 ?_
    refine iload K S rfl d0_15 ?_
    refine ificz_eq K S d0_17 (fun (c17 : 0 = 0) => ?_) (fun (c17 : ¬ 0 = 0) => ?_)
    rotate_left
    · exact absurd c17 (by decide)
    refine iconst K S (x := (1 : Int32)) rfl d0_26 ?_
    refine goto K S d0_27 ?_
    refine istore K S (l' := #[.val (.int x0), .val (.int x1), .val (.int x2), .val (.int x3), .val (.int (0 : Int32)), .val (.int (1 : Int32)), .unset, .unset, .unset, .unset, .unset, .unset]) rfl d0_31 ?_
    refine iconst K S (x := (0 : Int32)) rfl d0_33 ?_
    refine istore K S (l' := #[.val (.int x0), .val (.int x1), .val (.int x2), .val (.int x3), .val (.int (0 : Int32)), .val (.int (1 : Int32)), .val (.int (0 : Int32)), .unset, .unset, .unset, .unset, .unset]) rfl d0_34 ?_
    refine iconst K S (x := (0 : Int32)) rfl d0_36 ?_
    refine istore K S (l' := #[.val (.int x0), .val (.int x1), .val (.int x2), .val (.int x3), .val (.int (0 : Int32)), .val (.int (1 : Int32)), .val (.int (0 : Int32)), .val (.int (0 : Int32)), .unset, .unset, .unset, .unset]) rfl d0_37 ?_
    refine iload K S rfl d0_39 ?_
    refine ificz_eq K S d0_41 (fun (c41 : 0 = 0) => ?_) (fun (c41 : ¬ 0 = 0) => ?_)
    rotate_left
    · exact absurd c41 (by decide)
    refine iload_n K S rfl d0_59 ?_
    refine iconst K S (x := (2 : Int32)) rfl d0_60 ?_
    refine iushr K S d0_61 ?_
    refine nmI fun t61 ht61 => ?_
    have ft61 : t61.toInt = (x0.toInt % 4294967296) / 4 := by rw [ht61]; exact c_iushr x0 (2 : Int32) 2 (by decide) (by decide)
    have rt61 := rng32 t61
    refine iconst K S (x := (3 : Int32)) rfl d0_62 ?_
    refine iand K S d0_63 ?_
    refine nmI fun t63 ht63 => ?_
    have ft63 : t63.toInt = t61.toInt % 4 := by rw [ht63]; exact c_mask t61 (3 : Int32) 2 (by decide) (by decide)
    have rt63 := rng32 t63
    refine istore K S (l' := #[.val (.int x0), .val (.int x1), .val (.int x2), .val (.int x3), .val (.int (0 : Int32)), .val (.int (1 : Int32)), .val (.int (0 : Int32)), .val (.int (0 : Int32)), .val (.int t63), .unset, .unset, .unset]) rfl d0_64 ?_
    refine iload_n K S rfl d0_66 ?_
    refine istore K S (l' := #[.val (.int x0), .val (.int x1), .val (.int x2), .val (.int x3), .val (.int (0 : Int32)), .val (.int (1 : Int32)), .val (.int (0 : Int32)), .val (.int (0 : Int32)), .val (.int t63), .val (.int x3), .unset, .unset]) rfl d0_67 ?_
    refine iload K S rfl d0_69 ?_
    refine iconst K S (x := (1 : Int32)) rfl d0_71 ?_
    refine icmpz_ne K S d0_72 (fun (c72 : ¬ t63.toInt = 1) => ?_) (fun (c72 : t63.toInt = 1) => ?_)
    · refine iload K S rfl d0_88 ?_
      refine iconst K S (x := (2 : Int32)) rfl d0_90 ?_
      refine icmpz_ne K S d0_91 (fun (c91 : ¬ t63.toInt = 2) => ?_) (fun (c91 : t63.toInt = 2) => ?_)
      · refine iload K S rfl d0_107 ?_
        refine iconst K S (x := (3 : Int32)) rfl d0_109 ?_
        refine icmpz_ne K S d0_110 (fun (c110 : ¬ t63.toInt = 3) => ?_) (fun (c110 : t63.toInt = 3) => ?_)
        · refine iload K S rfl d0_116 ?_
          refine iconst K S (x := (1 : Int32)) rfl d0_118 ?_
          refine icmpz_ne K S d0_119 (fun (c119 : ¬ x3.toInt = 1) => ?_) (fun (c119 : x3.toInt = 1) => ?_)
          · refine iload K S rfl d0_127 ?_
            refine ificz_eq K S d0_129 (fun (c129 : 0 = 0) => ?_) (fun (c129 : ¬ 0 = 0) => ?_)
            rotate_left
            · exact absurd c129 (by decide)
            refine iconst K S (x := (0 : Int32)) rfl d0_150 ?_
            refine istore K S (l' := #[.val (.int x0), .val (.int x1), .val (.int x2), .val (.int x3), .val (.int (0 : Int32)), .val (.int (1 : Int32)), .val (.int (0 : Int32)), .val (.int (0 : Int32)), .val (.int t63), .val (.int x3), .val (.int (0 : Int32)), .unset]) rfl d0_151 ?_
            refine new K S (hwi hw 0 rfl) (hwi hw 1 rfl) (hwi hw 2 rfl) (by decide) (by decide) d0_153 fun T h153_1 o153 z_o153 g_o153 X E_o153 D S => ?_
            have F_singleSum_o153 : Fld Z h153_1 o153 "com/example/awardsmith/awardsmith/plan/Installments" "singleSum" "Z" (.int (0 : Int32)) := D (Or.inr (hwi hw 10 rfl)) (ty := .boolean) (by decide)
            have F_fewest_o153 : Fld Z h153_1 o153 "com/example/awardsmith/awardsmith/plan/Installments" "fewest" "I" (.int (0 : Int32)) := D (Or.inr (hwi hw 12 rfl)) (ty := .int) (by decide)
            have F_most_o153 : Fld Z h153_1 o153 "com/example/awardsmith/awardsmith/plan/Installments" "most" "I" (.int (0 : Int32)) := D (Or.inr (hwi hw 14 rfl)) (ty := .int) (by decide)
            clear D X
            refine dup K S rfl d0_156 ?_
            refine iload K S rfl d0_157 ?_
            refine iload K S rfl d0_159 ?_
            refine iload K S rfl d0_161 ?_
            refine callC K S (W := 1) (m_ini l Z a0 hw n0 o153 (1 : Int32) (0 : Int32) (0 : Int32) h153_1 (Sle S) g_o153 E_o153 F_singleSum_o153 F_fewest_o153 F_most_o153 rfl rfl) rfl rfl (hwi hw 3 rfl) (hwi hw 4 rfl) (hwi hw 5 rfl) (hwi hw 2 rfl) (by decide) (by decide) (by decide) (by decide) (by decide) rfl (argsL := [.int (1 : Int32), .int (0 : Int32), .int (0 : Int32)]) rfl (lenOf pd_1 rfl) (rest := [.ref o153]) rfl (Nat.le_of_eq rfl) d0_163 (ef fun T h163_2 hP S => ?_)
            obtain ⟨E_o153, F_singleSum_o153, F_fewest_o153, F_most_o153⟩ := hP
            show Wp n0 p e _ s below _ T (mkF m 166 #[.val (.int x0), .val (.int x1), .val (.int x2), .val (.int x3), .val (.int (0 : Int32)), .val (.int (1 : Int32)), .val (.int (0 : Int32)), .val (.int (0 : Int32)), .val (.int t63), .val (.int x3), .val (.int (0 : Int32)), .unset] [.ref o153])
            refine astore K S (l' := #[.val (.int x0), .val (.int x1), .val (.int x2), .val (.int x3), .val (.int (0 : Int32)), .val (.int (1 : Int32)), .val (.int (0 : Int32)), .val (.int (0 : Int32)), .val (.int t63), .val (.int x3), .val (.int (0 : Int32)), .val (.ref o153)]) rfl rfl d0_166 ?_
            refine aload K S rfl rfl d0_168 ?_
            refine iload K S rfl d0_170 ?_
            refine callV K S (W := 0) (m_allows l Z a0 hw n0 o153 x3 (1 : Int32) (0 : Int32) (0 : Int32) h163_2 (Sle S) F_singleSum_o153 F_fewest_o153 F_most_o153 (by decide)) E_o153 (hwi hw 15 rfl) (hwi hw 16 rfl) (hwi hw 18 rfl) (hwi hw 17 rfl) (hwi hw 19 rfl) (hwi hw 2 rfl) (by decide) (by decide) (by decide) (by decide) (by decide) rfl (argsL := [.int x3]) rfl (lenOf pd_3 rfl) (rest := []) rfl (Nat.le_of_eq rfl) d0_172 (pr fun T r172 pr172 S => ?_)
            show Wp n0 p e _ s below _ T (mkF m 175 #[.val (.int x0), .val (.int x1), .val (.int x2), .val (.int x3), .val (.int (0 : Int32)), .val (.int (1 : Int32)), .val (.int (0 : Int32)), .val (.int (0 : Int32)), .val (.int t63), .val (.int x3), .val (.int (0 : Int32)), .val (.ref o153)] [.int r172])
            refine iload K S rfl d0_175 ?_
            refine icmpz_ne K S d0_177 (fun (c177 : ¬ r172.toInt = 0) => ?_) (fun (c177 : r172.toInt = 0) => ?_)
            · exfalso; have q0 : (0 : Int32).toInt = 0 := rfl; have q1 : (1 : Int32).toInt = 1 := rfl; have q2 : (2 : Int32).toInt = 2 := rfl; omega
            refine iconst K S (x := (1 : Int32)) rfl d0_180 ?_
            refine goto K S d0_181 ?_
            refine retn K S (by simp) (y := (1 : Int32)) rfl (by decide) (by decide) d0_185 ?_
            rfl
          refine iload K S rfl d0_122 ?_
          refine ificz_ne K S d0_124 (fun (c124 : ¬ 1 = 0) => ?_) (fun (c124 : 1 = 0) => ?_)
          rotate_left
          · exact absurd c124 (by decide)
          refine iconst K S (x := (1 : Int32)) rfl d0_146 ?_
          refine goto K S d0_147 ?_
          refine istore K S (l' := #[.val (.int x0), .val (.int x1), .val (.int x2), .val (.int x3), .val (.int (0 : Int32)), .val (.int (1 : Int32)), .val (.int (0 : Int32)), .val (.int (0 : Int32)), .val (.int t63), .val (.int x3), .val (.int (1 : Int32)), .unset]) rfl d0_151 ?_
          refine new K S (hwi hw 0 rfl) (hwi hw 1 rfl) (hwi hw 2 rfl) (by decide) (by decide) d0_153 fun T h153_3 o153 z_o153 g_o153 X E_o153 D S => ?_
          have F_singleSum_o153 : Fld Z h153_3 o153 "com/example/awardsmith/awardsmith/plan/Installments" "singleSum" "Z" (.int (0 : Int32)) := D (Or.inr (hwi hw 10 rfl)) (ty := .boolean) (by decide)
          have F_fewest_o153 : Fld Z h153_3 o153 "com/example/awardsmith/awardsmith/plan/Installments" "fewest" "I" (.int (0 : Int32)) := D (Or.inr (hwi hw 12 rfl)) (ty := .int) (by decide)
          have F_most_o153 : Fld Z h153_3 o153 "com/example/awardsmith/awardsmith/plan/Installments" "most" "I" (.int (0 : Int32)) := D (Or.inr (hwi hw 14 rfl)) (ty := .int) (by decide)
          clear D X
          refine dup K S rfl d0_156 ?_
          refine iload K S rfl d0_157 ?_
          refine iload K S rfl d0_159 ?_
          refine iload K S rfl d0_161 ?_
          refine callC K S (W := 1) (m_ini l Z a0 hw n0 o153 (1 : Int32) (0 : Int32) (0 : Int32) h153_3 (Sle S) g_o153 E_o153 F_singleSum_o153 F_fewest_o153 F_most_o153 rfl rfl) rfl rfl (hwi hw 3 rfl) (hwi hw 4 rfl) (hwi hw 5 rfl) (hwi hw 2 rfl) (by decide) (by decide) (by decide) (by decide) (by decide) rfl (argsL := [.int (1 : Int32), .int (0 : Int32), .int (0 : Int32)]) rfl (lenOf pd_1 rfl) (rest := [.ref o153]) rfl (Nat.le_of_eq rfl) d0_163 (ef fun T h163_4 hP S => ?_)
          obtain ⟨E_o153, F_singleSum_o153, F_fewest_o153, F_most_o153⟩ := hP
          show Wp n0 p e _ s below _ T (mkF m 166 #[.val (.int x0), .val (.int x1), .val (.int x2), .val (.int x3), .val (.int (0 : Int32)), .val (.int (1 : Int32)), .val (.int (0 : Int32)), .val (.int (0 : Int32)), .val (.int t63), .val (.int x3), .val (.int (1 : Int32)), .unset] [.ref o153])
          refine astore K S (l' := #[.val (.int x0), .val (.int x1), .val (.int x2), .val (.int x3), .val (.int (0 : Int32)), .val (.int (1 : Int32)), .val (.int (0 : Int32)), .val (.int (0 : Int32)), .val (.int t63), .val (.int x3), .val (.int (1 : Int32)), .val (.ref o153)]) rfl rfl d0_166 ?_
          refine aload K S rfl rfl d0_168 ?_
          refine iload K S rfl d0_170 ?_
          refine callV K S (W := 0) (m_allows l Z a0 hw n0 o153 x3 (1 : Int32) (0 : Int32) (0 : Int32) h163_4 (Sle S) F_singleSum_o153 F_fewest_o153 F_most_o153 (by decide)) E_o153 (hwi hw 15 rfl) (hwi hw 16 rfl) (hwi hw 18 rfl) (hwi hw 17 rfl) (hwi hw 19 rfl) (hwi hw 2 rfl) (by decide) (by decide) (by decide) (by decide) (by decide) rfl (argsL := [.int x3]) rfl (lenOf pd_3 rfl) (rest := []) rfl (Nat.le_of_eq rfl) d0_172 (pr fun T r172 pr172 S => ?_)
          show Wp n0 p e _ s below _ T (mkF m 175 #[.val (.int x0), .val (.int x1), .val (.int x2), .val (.int x3), .val (.int (0 : Int32)), .val (.int (1 : Int32)), .val (.int (0 : Int32)), .val (.int (0 : Int32)), .val (.int t63), .val (.int x3), .val (.int (1 : Int32)), .val (.ref o153)] [.int r172])
          refine iload K S rfl d0_175 ?_
          refine icmpz_ne K S d0_177 (fun (c177 : ¬ r172.toInt = 1) => ?_) (fun (c177 : r172.toInt = 1) => ?_)
          · exfalso; have q0 : (0 : Int32).toInt = 0 := rfl; have q1 : (1 : Int32).toInt = 1 := rfl; have q2 : (2 : Int32).toInt = 2 := rfl; omega
          refine iconst K S (x := (1 : Int32)) rfl d0_180 ?_
          refine goto K S d0_181 ?_
          refine retn K S (by simp) (y := (1 : Int32)) rfl (by decide) (by decide) d0_185 ?_
          rfl
        refine iconst K S (x := (1 : Int32)) rfl d0_113 ?_
        refine istore K S (l' := #[.val (.int x0), .val (.int x1), .val (.int x2), .val (.int x3), .val (.int (0 : Int32)), .val (.int (1 : Int32)), .val (.int (0 : Int32)), .val (.int (0 : Int32)), .val (.int t63), .val (.int (1 : Int32)), .unset, .unset]) rfl d0_114 ?_
        refine iload K S rfl d0_116 ?_
        refine iconst K S (x := (1 : Int32)) rfl d0_118 ?_
        refine icmpz_ne K S d0_119 (fun (c119 : ¬ 1 = 1) => ?_) (fun (c119 : 1 = 1) => ?_)
        · exact absurd c119 (by decide)
        refine iload K S rfl d0_122 ?_
        refine ificz_ne K S d0_124 (fun (c124 : ¬ 1 = 0) => ?_) (fun (c124 : 1 = 0) => ?_)
        rotate_left
        · exact absurd c124 (by decide)
        refine iconst K S (x := (1 : Int32)) rfl d0_146 ?_
        refine goto K S d0_147 ?_
        refine istore K S (l' := #[.val (.int x0), .val (.int x1), .val (.int x2), .val (.int x3), .val (.int (0 : Int32)), .val (.int (1 : Int32)), .val (.int (0 : Int32)), .val (.int (0 : Int32)), .val (.int t63), .val (.int (1 : Int32)), .val (.int (1 : Int32)), .unset]) rfl d0_151 ?_
        refine new K S (hwi hw 0 rfl) (hwi hw 1 rfl) (hwi hw 2 rfl) (by decide) (by decide) d0_153 fun T h153_5 o153 z_o153 g_o153 X E_o153 D S => ?_
        have F_singleSum_o153 : Fld Z h153_5 o153 "com/example/awardsmith/awardsmith/plan/Installments" "singleSum" "Z" (.int (0 : Int32)) := D (Or.inr (hwi hw 10 rfl)) (ty := .boolean) (by decide)
        have F_fewest_o153 : Fld Z h153_5 o153 "com/example/awardsmith/awardsmith/plan/Installments" "fewest" "I" (.int (0 : Int32)) := D (Or.inr (hwi hw 12 rfl)) (ty := .int) (by decide)
        have F_most_o153 : Fld Z h153_5 o153 "com/example/awardsmith/awardsmith/plan/Installments" "most" "I" (.int (0 : Int32)) := D (Or.inr (hwi hw 14 rfl)) (ty := .int) (by decide)
        clear D X
        refine dup K S rfl d0_156 ?_
        refine iload K S rfl d0_157 ?_
        refine iload K S rfl d0_159 ?_
        refine iload K S rfl d0_161 ?_
        refine callC K S (W := 1) (m_ini l Z a0 hw n0 o153 (1 : Int32) (0 : Int32) (0 : Int32) h153_5 (Sle S) g_o153 E_o153 F_singleSum_o153 F_fewest_o153 F_most_o153 rfl rfl) rfl rfl (hwi hw 3 rfl) (hwi hw 4 rfl) (hwi hw 5 rfl) (hwi hw 2 rfl) (by decide) (by decide) (by decide) (by decide) (by decide) rfl (argsL := [.int (1 : Int32), .int (0 : Int32), .int (0 : Int32)]) rfl (lenOf pd_1 rfl) (rest := [.ref o153]) rfl (Nat.le_of_eq rfl) d0_163 (ef fun T h163_6 hP S => ?_)
        obtain ⟨E_o153, F_singleSum_o153, F_fewest_o153, F_most_o153⟩ := hP
        show Wp n0 p e _ s below _ T (mkF m 166 #[.val (.int x0), .val (.int x1), .val (.int x2), .val (.int x3), .val (.int (0 : Int32)), .val (.int (1 : Int32)), .val (.int (0 : Int32)), .val (.int (0 : Int32)), .val (.int t63), .val (.int (1 : Int32)), .val (.int (1 : Int32)), .unset] [.ref o153])
        refine astore K S (l' := #[.val (.int x0), .val (.int x1), .val (.int x2), .val (.int x3), .val (.int (0 : Int32)), .val (.int (1 : Int32)), .val (.int (0 : Int32)), .val (.int (0 : Int32)), .val (.int t63), .val (.int (1 : Int32)), .val (.int (1 : Int32)), .val (.ref o153)]) rfl rfl d0_166 ?_
        refine aload K S rfl rfl d0_168 ?_
        refine iload K S rfl d0_170 ?_
        refine callV K S (W := 0) (m_allows l Z a0 hw n0 o153 (1 : Int32) (1 : Int32) (0 : Int32) (0 : Int32) h163_6 (Sle S) F_singleSum_o153 F_fewest_o153 F_most_o153 (by decide)) E_o153 (hwi hw 15 rfl) (hwi hw 16 rfl) (hwi hw 18 rfl) (hwi hw 17 rfl) (hwi hw 19 rfl) (hwi hw 2 rfl) (by decide) (by decide) (by decide) (by decide) (by decide) rfl (argsL := [.int (1 : Int32)]) rfl (lenOf pd_3 rfl) (rest := []) rfl (Nat.le_of_eq rfl) d0_172 (pr fun T r172 pr172 S => ?_)
        show Wp n0 p e _ s below _ T (mkF m 175 #[.val (.int x0), .val (.int x1), .val (.int x2), .val (.int x3), .val (.int (0 : Int32)), .val (.int (1 : Int32)), .val (.int (0 : Int32)), .val (.int (0 : Int32)), .val (.int t63), .val (.int (1 : Int32)), .val (.int (1 : Int32)), .val (.ref o153)] [.int r172])
        refine iload K S rfl d0_175 ?_
        refine icmpz_ne K S d0_177 (fun (c177 : ¬ r172.toInt = 1) => ?_) (fun (c177 : r172.toInt = 1) => ?_)
        · exfalso; have q0 : (0 : Int32).toInt = 0 := rfl; have q1 : (1 : Int32).toInt = 1 := rfl; have q2 : (2 : Int32).toInt = 2 := rfl; omega
        refine iconst K S (x := (1 : Int32)) rfl d0_180 ?_
        refine goto K S d0_181 ?_
        refine retn K S (by simp) (y := (1 : Int32)) rfl (by decide) (by decide) d0_185 ?_
        rfl
      refine iload K S rfl d0_94 ?_
      refine iconst K S (x := (1 : Int32)) rfl d0_96 ?_
      refine isub K S d0_97 ?_
      refine nmI fun t97 ht97 => ?_
      have ft97 : (t97.toInt - (0 - 1)) % 4294967296 = 0 := by rw [ht97]; exact c_isub (0 : Int32) (1 : Int32)
      have rt97 := rng32 t97
      refine iload_n K S rfl d0_98 ?_
      refine iconst K S (x := (3 : Int32)) rfl d0_99 ?_
      refine iand K S d0_100 ?_
      refine nmI fun t100 ht100 => ?_
      have ft100 : t100.toInt = x3.toInt % 4 := by rw [ht100]; exact c_mask x3 (3 : Int32) 2 (by decide) (by decide)
      have rt100 := rng32 t100
      refine iadd K S d0_101 ?_
      refine nmI fun t101 ht101 => ?_
      have ft101 : (t101.toInt - (t97.toInt + t100.toInt)) % 4294967296 = 0 := by rw [ht101]; exact c_iadd t97 t100
      have rt101 := rng32 t101
      refine istore K S (l' := #[.val (.int x0), .val (.int x1), .val (.int x2), .val (.int x3), .val (.int (0 : Int32)), .val (.int (1 : Int32)), .val (.int (0 : Int32)), .val (.int (0 : Int32)), .val (.int t63), .val (.int t101), .unset, .unset]) rfl d0_102 ?_
      refine goto K S d0_104 ?_
      refine iload K S rfl d0_116 ?_
      refine iconst K S (x := (1 : Int32)) rfl d0_118 ?_
      refine icmpz_ne K S d0_119 (fun (c119 : ¬ t101.toInt = 1) => ?_) (fun (c119 : t101.toInt = 1) => ?_)
      · refine iload K S rfl d0_127 ?_
        refine ificz_eq K S d0_129 (fun (c129 : 0 = 0) => ?_) (fun (c129 : ¬ 0 = 0) => ?_)
        rotate_left
        · exact absurd c129 (by decide)
        refine iconst K S (x := (0 : Int32)) rfl d0_150 ?_
        refine istore K S (l' := #[.val (.int x0), .val (.int x1), .val (.int x2), .val (.int x3), .val (.int (0 : Int32)), .val (.int (1 : Int32)), .val (.int (0 : Int32)), .val (.int (0 : Int32)), .val (.int t63), .val (.int t101), .val (.int (0 : Int32)), .unset]) rfl d0_151 ?_
        refine new K S (hwi hw 0 rfl) (hwi hw 1 rfl) (hwi hw 2 rfl) (by decide) (by decide) d0_153 fun T h153_7 o153 z_o153 g_o153 X E_o153 D S => ?_
        have F_singleSum_o153 : Fld Z h153_7 o153 "com/example/awardsmith/awardsmith/plan/Installments" "singleSum" "Z" (.int (0 : Int32)) := D (Or.inr (hwi hw 10 rfl)) (ty := .boolean) (by decide)
        have F_fewest_o153 : Fld Z h153_7 o153 "com/example/awardsmith/awardsmith/plan/Installments" "fewest" "I" (.int (0 : Int32)) := D (Or.inr (hwi hw 12 rfl)) (ty := .int) (by decide)
        have F_most_o153 : Fld Z h153_7 o153 "com/example/awardsmith/awardsmith/plan/Installments" "most" "I" (.int (0 : Int32)) := D (Or.inr (hwi hw 14 rfl)) (ty := .int) (by decide)
        clear D X
        refine dup K S rfl d0_156 ?_
        refine iload K S rfl d0_157 ?_
        refine iload K S rfl d0_159 ?_
        refine iload K S rfl d0_161 ?_
        refine callC K S (W := 1) (m_ini l Z a0 hw n0 o153 (1 : Int32) (0 : Int32) (0 : Int32) h153_7 (Sle S) g_o153 E_o153 F_singleSum_o153 F_fewest_o153 F_most_o153 rfl rfl) rfl rfl (hwi hw 3 rfl) (hwi hw 4 rfl) (hwi hw 5 rfl) (hwi hw 2 rfl) (by decide) (by decide) (by decide) (by decide) (by decide) rfl (argsL := [.int (1 : Int32), .int (0 : Int32), .int (0 : Int32)]) rfl (lenOf pd_1 rfl) (rest := [.ref o153]) rfl (Nat.le_of_eq rfl) d0_163 (ef fun T h163_8 hP S => ?_)
        obtain ⟨E_o153, F_singleSum_o153, F_fewest_o153, F_most_o153⟩ := hP
        show Wp n0 p e _ s below _ T (mkF m 166 #[.val (.int x0), .val (.int x1), .val (.int x2), .val (.int x3), .val (.int (0 : Int32)), .val (.int (1 : Int32)), .val (.int (0 : Int32)), .val (.int (0 : Int32)), .val (.int t63), .val (.int t101), .val (.int (0 : Int32)), .unset] [.ref o153])
        refine astore K S (l' := #[.val (.int x0), .val (.int x1), .val (.int x2), .val (.int x3), .val (.int (0 : Int32)), .val (.int (1 : Int32)), .val (.int (0 : Int32)), .val (.int (0 : Int32)), .val (.int t63), .val (.int t101), .val (.int (0 : Int32)), .val (.ref o153)]) rfl rfl d0_166 ?_
        refine aload K S rfl rfl d0_168 ?_
        refine iload K S rfl d0_170 ?_
        refine callV K S (W := 0) (m_allows l Z a0 hw n0 o153 t101 (1 : Int32) (0 : Int32) (0 : Int32) h163_8 (Sle S) F_singleSum_o153 F_fewest_o153 F_most_o153 (by decide)) E_o153 (hwi hw 15 rfl) (hwi hw 16 rfl) (hwi hw 18 rfl) (hwi hw 17 rfl) (hwi hw 19 rfl) (hwi hw 2 rfl) (by decide) (by decide) (by decide) (by decide) (by decide) rfl (argsL := [.int t101]) rfl (lenOf pd_3 rfl) (rest := []) rfl (Nat.le_of_eq rfl) d0_172 (pr fun T r172 pr172 S => ?_)
        show Wp n0 p e _ s below _ T (mkF m 175 #[.val (.int x0), .val (.int x1), .val (.int x2), .val (.int x3), .val (.int (0 : Int32)), .val (.int (1 : Int32)), .val (.int (0 : Int32)), .val (.int (0 : Int32)), .val (.int t63), .val (.int t101), .val (.int (0 : Int32)), .val (.ref o153)] [.int r172])
        refine iload K S rfl d0_175 ?_
        refine icmpz_ne K S d0_177 (fun (c177 : ¬ r172.toInt = 0) => ?_) (fun (c177 : r172.toInt = 0) => ?_)
        · exfalso; have q0 : (0 : Int32).toInt = 0 := rfl; have q1 : (1 : Int32).toInt = 1 := rfl; have q2 : (2 : Int32).toInt = 2 := rfl; omega
        refine iconst K S (x := (1 : Int32)) rfl d0_180 ?_
        refine goto K S d0_181 ?_
        refine retn K S (by simp) (y := (1 : Int32)) rfl (by decide) (by decide) d0_185 ?_
        rfl
      refine iload K S rfl d0_122 ?_
      refine ificz_ne K S d0_124 (fun (c124 : ¬ 1 = 0) => ?_) (fun (c124 : 1 = 0) => ?_)
      rotate_left
      · exact absurd c124 (by decide)
      refine iconst K S (x := (1 : Int32)) rfl d0_146 ?_
      refine goto K S d0_147 ?_
      refine istore K S (l' := #[.val (.int x0), .val (.int x1), .val (.int x2), .val (.int x3), .val (.int (0 : Int32)), .val (.int (1 : Int32)), .val (.int (0 : Int32)), .val (.int (0 : Int32)), .val (.int t63), .val (.int t101), .val (.int (1 : Int32)), .unset]) rfl d0_151 ?_
      refine new K S (hwi hw 0 rfl) (hwi hw 1 rfl) (hwi hw 2 rfl) (by decide) (by decide) d0_153 fun T h153_9 o153 z_o153 g_o153 X E_o153 D S => ?_
      have F_singleSum_o153 : Fld Z h153_9 o153 "com/example/awardsmith/awardsmith/plan/Installments" "singleSum" "Z" (.int (0 : Int32)) := D (Or.inr (hwi hw 10 rfl)) (ty := .boolean) (by decide)
      have F_fewest_o153 : Fld Z h153_9 o153 "com/example/awardsmith/awardsmith/plan/Installments" "fewest" "I" (.int (0 : Int32)) := D (Or.inr (hwi hw 12 rfl)) (ty := .int) (by decide)
      have F_most_o153 : Fld Z h153_9 o153 "com/example/awardsmith/awardsmith/plan/Installments" "most" "I" (.int (0 : Int32)) := D (Or.inr (hwi hw 14 rfl)) (ty := .int) (by decide)
      clear D X
      refine dup K S rfl d0_156 ?_
      refine iload K S rfl d0_157 ?_
      refine iload K S rfl d0_159 ?_
      refine iload K S rfl d0_161 ?_
      refine callC K S (W := 1) (m_ini l Z a0 hw n0 o153 (1 : Int32) (0 : Int32) (0 : Int32) h153_9 (Sle S) g_o153 E_o153 F_singleSum_o153 F_fewest_o153 F_most_o153 rfl rfl) rfl rfl (hwi hw 3 rfl) (hwi hw 4 rfl) (hwi hw 5 rfl) (hwi hw 2 rfl) (by decide) (by decide) (by decide) (by decide) (by decide) rfl (argsL := [.int (1 : Int32), .int (0 : Int32), .int (0 : Int32)]) rfl (lenOf pd_1 rfl) (rest := [.ref o153]) rfl (Nat.le_of_eq rfl) d0_163 (ef fun T h163_10 hP S => ?_)
      obtain ⟨E_o153, F_singleSum_o153, F_fewest_o153, F_most_o153⟩ := hP
      show Wp n0 p e _ s below _ T (mkF m 166 #[.val (.int x0), .val (.int x1), .val (.int x2), .val (.int x3), .val (.int (0 : Int32)), .val (.int (1 : Int32)), .val (.int (0 : Int32)), .val (.int (0 : Int32)), .val (.int t63), .val (.int t101), .val (.int (1 : Int32)), .unset] [.ref o153])
      refine astore K S (l' := #[.val (.int x0), .val (.int x1), .val (.int x2), .val (.int x3), .val (.int (0 : Int32)), .val (.int (1 : Int32)), .val (.int (0 : Int32)), .val (.int (0 : Int32)), .val (.int t63), .val (.int t101), .val (.int (1 : Int32)), .val (.ref o153)]) rfl rfl d0_166 ?_
      refine aload K S rfl rfl d0_168 ?_
      refine iload K S rfl d0_170 ?_
      refine callV K S (W := 0) (m_allows l Z a0 hw n0 o153 t101 (1 : Int32) (0 : Int32) (0 : Int32) h163_10 (Sle S) F_singleSum_o153 F_fewest_o153 F_most_o153 (by decide)) E_o153 (hwi hw 15 rfl) (hwi hw 16 rfl) (hwi hw 18 rfl) (hwi hw 17 rfl) (hwi hw 19 rfl) (hwi hw 2 rfl) (by decide) (by decide) (by decide) (by decide) (by decide) rfl (argsL := [.int t101]) rfl (lenOf pd_3 rfl) (rest := []) rfl (Nat.le_of_eq rfl) d0_172 (pr fun T r172 pr172 S => ?_)
      show Wp n0 p e _ s below _ T (mkF m 175 #[.val (.int x0), .val (.int x1), .val (.int x2), .val (.int x3), .val (.int (0 : Int32)), .val (.int (1 : Int32)), .val (.int (0 : Int32)), .val (.int (0 : Int32)), .val (.int t63), .val (.int t101), .val (.int (1 : Int32)), .val (.ref o153)] [.int r172])
      refine iload K S rfl d0_175 ?_
      refine icmpz_ne K S d0_177 (fun (c177 : ¬ r172.toInt = 1) => ?_) (fun (c177 : r172.toInt = 1) => ?_)
      · exfalso; have q0 : (0 : Int32).toInt = 0 := rfl; have q1 : (1 : Int32).toInt = 1 := rfl; have q2 : (2 : Int32).toInt = 2 := rfl; omega
      refine iconst K S (x := (1 : Int32)) rfl d0_180 ?_
      refine goto K S d0_181 ?_
      refine retn K S (by simp) (y := (1 : Int32)) rfl (by decide) (by decide) d0_185 ?_
      rfl
    refine iload K S rfl d0_75 ?_
    refine iconst K S (x := (1 : Int32)) rfl d0_77 ?_
    refine isub K S d0_78 ?_
    refine nmI fun t78 ht78 => ?_
    have ft78 : (t78.toInt - (0 - 1)) % 4294967296 = 0 := by rw [ht78]; exact c_isub (0 : Int32) (1 : Int32)
    have rt78 := rng32 t78
    refine iload_n K S rfl d0_79 ?_
    refine iconst K S (x := (3 : Int32)) rfl d0_80 ?_
    refine iand K S d0_81 ?_
    refine nmI fun t81 ht81 => ?_
    have ft81 : t81.toInt = x3.toInt % 4 := by rw [ht81]; exact c_mask x3 (3 : Int32) 2 (by decide) (by decide)
    have rt81 := rng32 t81
    refine iadd K S d0_82 ?_
    refine nmI fun t82 ht82 => ?_
    have ft82 : (t82.toInt - (t78.toInt + t81.toInt)) % 4294967296 = 0 := by rw [ht82]; exact c_iadd t78 t81
    have rt82 := rng32 t82
    refine istore K S (l' := #[.val (.int x0), .val (.int x1), .val (.int x2), .val (.int x3), .val (.int (0 : Int32)), .val (.int (1 : Int32)), .val (.int (0 : Int32)), .val (.int (0 : Int32)), .val (.int t63), .val (.int t82), .unset, .unset]) rfl d0_83 ?_
    refine goto K S d0_85 ?_
    refine iload K S rfl d0_116 ?_
    refine iconst K S (x := (1 : Int32)) rfl d0_118 ?_
    refine icmpz_ne K S d0_119 (fun (c119 : ¬ t82.toInt = 1) => ?_) (fun (c119 : t82.toInt = 1) => ?_)
    · refine iload K S rfl d0_127 ?_
      refine ificz_eq K S d0_129 (fun (c129 : 0 = 0) => ?_) (fun (c129 : ¬ 0 = 0) => ?_)
      rotate_left
      · exact absurd c129 (by decide)
      refine iconst K S (x := (0 : Int32)) rfl d0_150 ?_
      refine istore K S (l' := #[.val (.int x0), .val (.int x1), .val (.int x2), .val (.int x3), .val (.int (0 : Int32)), .val (.int (1 : Int32)), .val (.int (0 : Int32)), .val (.int (0 : Int32)), .val (.int t63), .val (.int t82), .val (.int (0 : Int32)), .unset]) rfl d0_151 ?_
      refine new K S (hwi hw 0 rfl) (hwi hw 1 rfl) (hwi hw 2 rfl) (by decide) (by decide) d0_153 fun T h153_11 o153 z_o153 g_o153 X E_o153 D S => ?_
      have F_singleSum_o153 : Fld Z h153_11 o153 "com/example/awardsmith/awardsmith/plan/Installments" "singleSum" "Z" (.int (0 : Int32)) := D (Or.inr (hwi hw 10 rfl)) (ty := .boolean) (by decide)
      have F_fewest_o153 : Fld Z h153_11 o153 "com/example/awardsmith/awardsmith/plan/Installments" "fewest" "I" (.int (0 : Int32)) := D (Or.inr (hwi hw 12 rfl)) (ty := .int) (by decide)
      have F_most_o153 : Fld Z h153_11 o153 "com/example/awardsmith/awardsmith/plan/Installments" "most" "I" (.int (0 : Int32)) := D (Or.inr (hwi hw 14 rfl)) (ty := .int) (by decide)
      clear D X
      refine dup K S rfl d0_156 ?_
      refine iload K S rfl d0_157 ?_
      refine iload K S rfl d0_159 ?_
      refine iload K S rfl d0_161 ?_
      refine callC K S (W := 1) (m_ini l Z a0 hw n0 o153 (1 : Int32) (0 : Int32) (0 : Int32) h153_11 (Sle S) g_o153 E_o153 F_singleSum_o153 F_fewest_o153 F_most_o153 rfl rfl) rfl rfl (hwi hw 3 rfl) (hwi hw 4 rfl) (hwi hw 5 rfl) (hwi hw 2 rfl) (by decide) (by decide) (by decide) (by decide) (by decide) rfl (argsL := [.int (1 : Int32), .int (0 : Int32), .int (0 : Int32)]) rfl (lenOf pd_1 rfl) (rest := [.ref o153]) rfl (Nat.le_of_eq rfl) d0_163 (ef fun T h163_12 hP S => ?_)
      obtain ⟨E_o153, F_singleSum_o153, F_fewest_o153, F_most_o153⟩ := hP
      show Wp n0 p e _ s below _ T (mkF m 166 #[.val (.int x0), .val (.int x1), .val (.int x2), .val (.int x3), .val (.int (0 : Int32)), .val (.int (1 : Int32)), .val (.int (0 : Int32)), .val (.int (0 : Int32)), .val (.int t63), .val (.int t82), .val (.int (0 : Int32)), .unset] [.ref o153])
      refine astore K S (l' := #[.val (.int x0), .val (.int x1), .val (.int x2), .val (.int x3), .val (.int (0 : Int32)), .val (.int (1 : Int32)), .val (.int (0 : Int32)), .val (.int (0 : Int32)), .val (.int t63), .val (.int t82), .val (.int (0 : Int32)), .val (.ref o153)]) rfl rfl d0_166 ?_
      refine aload K S rfl rfl d0_168 ?_
      refine iload K S rfl d0_170 ?_
      refine callV K S (W := 0) (m_allows l Z a0 hw n0 o153 t82 (1 : Int32) (0 : Int32) (0 : Int32) h163_12 (Sle S) F_singleSum_o153 F_fewest_o153 F_most_o153 (by decide)) E_o153 (hwi hw 15 rfl) (hwi hw 16 rfl) (hwi hw 18 rfl) (hwi hw 17 rfl) (hwi hw 19 rfl) (hwi hw 2 rfl) (by decide) (by decide) (by decide) (by decide) (by decide) rfl (argsL := [.int t82]) rfl (lenOf pd_3 rfl) (rest := []) rfl (Nat.le_of_eq rfl) d0_172 (pr fun T r172 pr172 S => ?_)
      show Wp n0 p e _ s below _ T (mkF m 175 #[.val (.int x0), .val (.int x1), .val (.int x2), .val (.int x3), .val (.int (0 : Int32)), .val (.int (1 : Int32)), .val (.int (0 : Int32)), .val (.int (0 : Int32)), .val (.int t63), .val (.int t82), .val (.int (0 : Int32)), .val (.ref o153)] [.int r172])
      refine iload K S rfl d0_175 ?_
      refine icmpz_ne K S d0_177 (fun (c177 : ¬ r172.toInt = 0) => ?_) (fun (c177 : r172.toInt = 0) => ?_)
      · exfalso; have q0 : (0 : Int32).toInt = 0 := rfl; have q1 : (1 : Int32).toInt = 1 := rfl; have q2 : (2 : Int32).toInt = 2 := rfl; omega
      refine iconst K S (x := (1 : Int32)) rfl d0_180 ?_
      refine goto K S d0_181 ?_
      refine retn K S (by simp) (y := (1 : Int32)) rfl (by decide) (by decide) d0_185 ?_
      rfl
    refine iload K S rfl d0_122 ?_
    refine ificz_ne K S d0_124 (fun (c124 : ¬ 1 = 0) => ?_) (fun (c124 : 1 = 0) => ?_)
    rotate_left
    · exact absurd c124 (by decide)
    refine iconst K S (x := (1 : Int32)) rfl d0_146 ?_
    refine goto K S d0_147 ?_
    refine istore K S (l' := #[.val (.int x0), .val (.int x1), .val (.int x2), .val (.int x3), .val (.int (0 : Int32)), .val (.int (1 : Int32)), .val (.int (0 : Int32)), .val (.int (0 : Int32)), .val (.int t63), .val (.int t82), .val (.int (1 : Int32)), .unset]) rfl d0_151 ?_
    refine new K S (hwi hw 0 rfl) (hwi hw 1 rfl) (hwi hw 2 rfl) (by decide) (by decide) d0_153 fun T h153_13 o153 z_o153 g_o153 X E_o153 D S => ?_
    have F_singleSum_o153 : Fld Z h153_13 o153 "com/example/awardsmith/awardsmith/plan/Installments" "singleSum" "Z" (.int (0 : Int32)) := D (Or.inr (hwi hw 10 rfl)) (ty := .boolean) (by decide)
    have F_fewest_o153 : Fld Z h153_13 o153 "com/example/awardsmith/awardsmith/plan/Installments" "fewest" "I" (.int (0 : Int32)) := D (Or.inr (hwi hw 12 rfl)) (ty := .int) (by decide)
    have F_most_o153 : Fld Z h153_13 o153 "com/example/awardsmith/awardsmith/plan/Installments" "most" "I" (.int (0 : Int32)) := D (Or.inr (hwi hw 14 rfl)) (ty := .int) (by decide)
    clear D X
    refine dup K S rfl d0_156 ?_
    refine iload K S rfl d0_157 ?_
    refine iload K S rfl d0_159 ?_
    refine iload K S rfl d0_161 ?_
    refine callC K S (W := 1) (m_ini l Z a0 hw n0 o153 (1 : Int32) (0 : Int32) (0 : Int32) h153_13 (Sle S) g_o153 E_o153 F_singleSum_o153 F_fewest_o153 F_most_o153 rfl rfl) rfl rfl (hwi hw 3 rfl) (hwi hw 4 rfl) (hwi hw 5 rfl) (hwi hw 2 rfl) (by decide) (by decide) (by decide) (by decide) (by decide) rfl (argsL := [.int (1 : Int32), .int (0 : Int32), .int (0 : Int32)]) rfl (lenOf pd_1 rfl) (rest := [.ref o153]) rfl (Nat.le_of_eq rfl) d0_163 (ef fun T h163_14 hP S => ?_)
    obtain ⟨E_o153, F_singleSum_o153, F_fewest_o153, F_most_o153⟩ := hP
    show Wp n0 p e _ s below _ T (mkF m 166 #[.val (.int x0), .val (.int x1), .val (.int x2), .val (.int x3), .val (.int (0 : Int32)), .val (.int (1 : Int32)), .val (.int (0 : Int32)), .val (.int (0 : Int32)), .val (.int t63), .val (.int t82), .val (.int (1 : Int32)), .unset] [.ref o153])
    refine astore K S (l' := #[.val (.int x0), .val (.int x1), .val (.int x2), .val (.int x3), .val (.int (0 : Int32)), .val (.int (1 : Int32)), .val (.int (0 : Int32)), .val (.int (0 : Int32)), .val (.int t63), .val (.int t82), .val (.int (1 : Int32)), .val (.ref o153)]) rfl rfl d0_166 ?_
    refine aload K S rfl rfl d0_168 ?_
    refine iload K S rfl d0_170 ?_
    refine callV K S (W := 0) (m_allows l Z a0 hw n0 o153 t82 (1 : Int32) (0 : Int32) (0 : Int32) h163_14 (Sle S) F_singleSum_o153 F_fewest_o153 F_most_o153 (by decide)) E_o153 (hwi hw 15 rfl) (hwi hw 16 rfl) (hwi hw 18 rfl) (hwi hw 17 rfl) (hwi hw 19 rfl) (hwi hw 2 rfl) (by decide) (by decide) (by decide) (by decide) (by decide) rfl (argsL := [.int t82]) rfl (lenOf pd_3 rfl) (rest := []) rfl (Nat.le_of_eq rfl) d0_172 (pr fun T r172 pr172 S => ?_)
    show Wp n0 p e _ s below _ T (mkF m 175 #[.val (.int x0), .val (.int x1), .val (.int x2), .val (.int x3), .val (.int (0 : Int32)), .val (.int (1 : Int32)), .val (.int (0 : Int32)), .val (.int (0 : Int32)), .val (.int t63), .val (.int t82), .val (.int (1 : Int32)), .val (.ref o153)] [.int r172])
    refine iload K S rfl d0_175 ?_
    refine icmpz_ne K S d0_177 (fun (c177 : ¬ r172.toInt = 1) => ?_) (fun (c177 : r172.toInt = 1) => ?_)
    · exfalso; have q0 : (0 : Int32).toInt = 0 := rfl; have q1 : (1 : Int32).toInt = 1 := rfl; have q2 : (2 : Int32).toInt = 2 := rfl; omega
    refine iconst K S (x := (1 : Int32)) rfl d0_180 ?_
    refine goto K S d0_181 ?_
    refine retn K S (by simp) (y := (1 : Int32)) rfl (by decide) (by decide) d0_185 ?_
    rfl
  refine iconst K S (x := (1 : Int32)) rfl d0_8 ?_
  refine goto K S d0_9 ?_
  refine istore K S (l' := #[.val (.int x0), .val (.int x1), .val (.int x2), .val (.int x3), .val (.int (1 : Int32)), .unset, .unset, .unset, .unset, .unset, .unset, .unset]) rfl d0_13 ?_
  refine iload K S rfl d0_15 ?_
  refine ificz_eq K S d0_17 (fun (c17 : 1 = 0) => ?_) (fun (c17 : ¬ 1 = 0) => ?_)
  · exact absurd c17 (by decide)
  refine iload_n K S rfl d0_20 ?_
  refine iconst K S (x := (1 : Int32)) rfl d0_21 ?_
  refine iand K S d0_22 ?_
  refine nmI fun t22 ht22 => ?_
  have ft22 : t22.toInt = x0.toInt % 2 := by rw [ht22]; exact c_mask x0 (1 : Int32) 1 (by decide) (by decide)
  have rt22 := rng32 t22
  refine ificz_eq K S d0_23 (fun (c23 : t22.toInt = 0) => ?_) (fun (c23 : ¬ t22.toInt = 0) => ?_)
  · refine iconst K S (x := (0 : Int32)) rfl d0_30 ?_
    refine istore K S (l' := #[.val (.int x0), .val (.int x1), .val (.int x2), .val (.int x3), .val (.int (1 : Int32)), .val (.int (0 : Int32)), .unset, .unset, .unset, .unset, .unset, .unset]) rfl d0_31 ?_
    refine iconst K S (x := (0 : Int32)) rfl d0_33 ?_
    refine istore K S (l' := #[.val (.int x0), .val (.int x1), .val (.int x2), .val (.int x3), .val (.int (1 : Int32)), .val (.int (0 : Int32)), .val (.int (0 : Int32)), .unset, .unset, .unset, .unset, .unset]) rfl d0_34 ?_
    refine iconst K S (x := (0 : Int32)) rfl d0_36 ?_
    refine istore K S (l' := #[.val (.int x0), .val (.int x1), .val (.int x2), .val (.int x3), .val (.int (1 : Int32)), .val (.int (0 : Int32)), .val (.int (0 : Int32)), .val (.int (0 : Int32)), .unset, .unset, .unset, .unset]) rfl d0_37 ?_
    refine iload K S rfl d0_39 ?_
    refine ificz_eq K S d0_41 (fun (c41 : 1 = 0) => ?_) (fun (c41 : ¬ 1 = 0) => ?_)
    · exact absurd c41 (by decide)
    refine iconst K S (x := (2 : Int32)) rfl d0_44 ?_
    refine iload_n K S rfl d0_45 ?_
    refine callS K S (W := 0) (m_max l Z a0 hw n0 (2 : Int32) x1 h (Sle S) ) (hwi hw 20 rfl) (hwi hw 21 rfl) (hwi hw 23 rfl) (hwi hw 22 rfl) (by decide) (by decide) (by decide) (by decide) (by decide) rfl (argsL := [.int (2 : Int32), .int x1]) rfl (lenOf pd_4 rfl) (rest := []) rfl (Nat.le_of_eq rfl) d0_46 (pr fun T r46 pr46 S => ?_)
    show Wp n0 p e _ s below _ T (mkF m 49 #[.val (.int x0), .val (.int x1), .val (.int x2), .val (.int x3), .val (.int (1 : Int32)), .val (.int (0 : Int32)), .val (.int (0 : Int32)), .val (.int (0 : Int32)), .unset, .unset, .unset, .unset] [.int r46])
    refine istore K S (l' := #[.val (.int x0), .val (.int x1), .val (.int x2), .val (.int x3), .val (.int (1 : Int32)), .val (.int (0 : Int32)), .val (.int r46), .val (.int (0 : Int32)), .unset, .unset, .unset, .unset]) rfl d0_49 ?_
    refine iload K S rfl d0_51 ?_
    refine iload_n K S rfl d0_53 ?_
    refine callS K S (W := 0) (m_max l Z a0 hw n0 r46 x2 h (Sle S) ) (hwi hw 20 rfl) (hwi hw 21 rfl) (hwi hw 23 rfl) (hwi hw 22 rfl) (by decide) (by decide) (by decide) (by decide) (by decide) rfl (argsL := [.int r46, .int x2]) rfl (lenOf pd_4 rfl) (rest := []) rfl (Nat.le_of_eq rfl) d0_54 (pr fun T r54 pr54 S => ?_)
    show Wp n0 p e _ s below _ T (mkF m 57 #[.val (.int x0), .val (.int x1), .val (.int x2), .val (.int x3), .val (.int (1 : Int32)), .val (.int (0 : Int32)), .val (.int r46), .val (.int (0 : Int32)), .unset, .unset, .unset, .unset] [.int r54])
    refine istore K S (l' := #[.val (.int x0), .val (.int x1), .val (.int x2), .val (.int x3), .val (.int (1 : Int32)), .val (.int (0 : Int32)), .val (.int r46), .val (.int r54), .unset, .unset, .unset, .unset]) rfl d0_57 ?_
    refine iload_n K S rfl d0_59 ?_
    refine iconst K S (x := (2 : Int32)) rfl d0_60 ?_
    refine iushr K S d0_61 ?_
    refine nmI fun t61 ht61 => ?_
    have ft61 : t61.toInt = (x0.toInt % 4294967296) / 4 := by rw [ht61]; exact c_iushr x0 (2 : Int32) 2 (by decide) (by decide)
    have rt61 := rng32 t61
    refine iconst K S (x := (3 : Int32)) rfl d0_62 ?_
    refine iand K S d0_63 ?_
    refine nmI fun t63 ht63 => ?_
    have ft63 : t63.toInt = t61.toInt % 4 := by rw [ht63]; exact c_mask t61 (3 : Int32) 2 (by decide) (by decide)
    have rt63 := rng32 t63
    refine istore K S (l' := #[.val (.int x0), .val (.int x1), .val (.int x2), .val (.int x3), .val (.int (1 : Int32)), .val (.int (0 : Int32)), .val (.int r46), .val (.int r54), .val (.int t63), .unset, .unset, .unset]) rfl d0_64 ?_
    refine iload_n K S rfl d0_66 ?_
    refine istore K S (l' := #[.val (.int x0), .val (.int x1), .val (.int x2), .val (.int x3), .val (.int (1 : Int32)), .val (.int (0 : Int32)), .val (.int r46), .val (.int r54), .val (.int t63), .val (.int x3), .unset, .unset]) rfl d0_67 ?_
    refine iload K S rfl d0_69 ?_
    refine iconst K S (x := (1 : Int32)) rfl d0_71 ?_
    refine icmpz_ne K S d0_72 (fun (c72 : ¬ t63.toInt = 1) => ?_) (fun (c72 : t63.toInt = 1) => ?_)
    · refine iload K S rfl d0_88 ?_
      refine iconst K S (x := (2 : Int32)) rfl d0_90 ?_
      refine icmpz_ne K S d0_91 (fun (c91 : ¬ t63.toInt = 2) => ?_) (fun (c91 : t63.toInt = 2) => ?_)
      · refine iload K S rfl d0_107 ?_
        refine iconst K S (x := (3 : Int32)) rfl d0_109 ?_
        refine icmpz_ne K S d0_110 (fun (c110 : ¬ t63.toInt = 3) => ?_) (fun (c110 : t63.toInt = 3) => ?_)
        · refine iload K S rfl d0_116 ?_
          refine iconst K S (x := (1 : Int32)) rfl d0_118 ?_
          refine icmpz_ne K S d0_119 (fun (c119 : ¬ x3.toInt = 1) => ?_) (fun (c119 : x3.toInt = 1) => ?_)
          · refine iload K S rfl d0_127 ?_
            refine ificz_eq K S d0_129 (fun (c129 : 1 = 0) => ?_) (fun (c129 : ¬ 1 = 0) => ?_)
            · exact absurd c129 (by decide)
            refine iload K S rfl d0_132 ?_
            refine iload K S rfl d0_134 ?_
            refine icmpz_gt K S d0_136 (fun (c136 : x3.toInt < r46.toInt) => ?_) (fun (c136 : ¬ x3.toInt < r46.toInt) => ?_)
            · refine iconst K S (x := (0 : Int32)) rfl d0_150 ?_
              refine istore K S (l' := #[.val (.int x0), .val (.int x1), .val (.int x2), .val (.int x3), .val (.int (1 : Int32)), .val (.int (0 : Int32)), .val (.int r46), .val (.int r54), .val (.int t63), .val (.int x3), .val (.int (0 : Int32)), .unset]) rfl d0_151 ?_
              refine new K S (hwi hw 0 rfl) (hwi hw 1 rfl) (hwi hw 2 rfl) (by decide) (by decide) d0_153 fun T h153_15 o153 z_o153 g_o153 X E_o153 D S => ?_
              have F_singleSum_o153 : Fld Z h153_15 o153 "com/example/awardsmith/awardsmith/plan/Installments" "singleSum" "Z" (.int (0 : Int32)) := D (Or.inr (hwi hw 10 rfl)) (ty := .boolean) (by decide)
              have F_fewest_o153 : Fld Z h153_15 o153 "com/example/awardsmith/awardsmith/plan/Installments" "fewest" "I" (.int (0 : Int32)) := D (Or.inr (hwi hw 12 rfl)) (ty := .int) (by decide)
              have F_most_o153 : Fld Z h153_15 o153 "com/example/awardsmith/awardsmith/plan/Installments" "most" "I" (.int (0 : Int32)) := D (Or.inr (hwi hw 14 rfl)) (ty := .int) (by decide)
              clear D X
              refine dup K S rfl d0_156 ?_
              refine iload K S rfl d0_157 ?_
              refine iload K S rfl d0_159 ?_
              refine iload K S rfl d0_161 ?_
              refine callC K S (W := 1) (m_ini l Z a0 hw n0 o153 (0 : Int32) r46 r54 h153_15 (Sle S) g_o153 E_o153 F_singleSum_o153 F_fewest_o153 F_most_o153 rfl rfl) rfl rfl (hwi hw 3 rfl) (hwi hw 4 rfl) (hwi hw 5 rfl) (hwi hw 2 rfl) (by decide) (by decide) (by decide) (by decide) (by decide) rfl (argsL := [.int (0 : Int32), .int r46, .int r54]) rfl (lenOf pd_1 rfl) (rest := [.ref o153]) rfl (Nat.le_of_eq rfl) d0_163 (ef fun T h163_16 hP S => ?_)
              obtain ⟨E_o153, F_singleSum_o153, F_fewest_o153, F_most_o153⟩ := hP
              show Wp n0 p e _ s below _ T (mkF m 166 #[.val (.int x0), .val (.int x1), .val (.int x2), .val (.int x3), .val (.int (1 : Int32)), .val (.int (0 : Int32)), .val (.int r46), .val (.int r54), .val (.int t63), .val (.int x3), .val (.int (0 : Int32)), .unset] [.ref o153])
              refine astore K S (l' := #[.val (.int x0), .val (.int x1), .val (.int x2), .val (.int x3), .val (.int (1 : Int32)), .val (.int (0 : Int32)), .val (.int r46), .val (.int r54), .val (.int t63), .val (.int x3), .val (.int (0 : Int32)), .val (.ref o153)]) rfl rfl d0_166 ?_
              refine aload K S rfl rfl d0_168 ?_
              refine iload K S rfl d0_170 ?_
              refine callV K S (W := 0) (m_allows l Z a0 hw n0 o153 x3 (0 : Int32) r46 r54 h163_16 (Sle S) F_singleSum_o153 F_fewest_o153 F_most_o153 (by decide)) E_o153 (hwi hw 15 rfl) (hwi hw 16 rfl) (hwi hw 18 rfl) (hwi hw 17 rfl) (hwi hw 19 rfl) (hwi hw 2 rfl) (by decide) (by decide) (by decide) (by decide) (by decide) rfl (argsL := [.int x3]) rfl (lenOf pd_3 rfl) (rest := []) rfl (Nat.le_of_eq rfl) d0_172 (pr fun T r172 pr172 S => ?_)
              show Wp n0 p e _ s below _ T (mkF m 175 #[.val (.int x0), .val (.int x1), .val (.int x2), .val (.int x3), .val (.int (1 : Int32)), .val (.int (0 : Int32)), .val (.int r46), .val (.int r54), .val (.int t63), .val (.int x3), .val (.int (0 : Int32)), .val (.ref o153)] [.int r172])
              refine iload K S rfl d0_175 ?_
              refine icmpz_ne K S d0_177 (fun (c177 : ¬ r172.toInt = 0) => ?_) (fun (c177 : r172.toInt = 0) => ?_)
              · exfalso; have q0 : (0 : Int32).toInt = 0 := rfl; have q1 : (1 : Int32).toInt = 1 := rfl; have q2 : (2 : Int32).toInt = 2 := rfl; omega
              refine iconst K S (x := (1 : Int32)) rfl d0_180 ?_
              refine goto K S d0_181 ?_
              refine retn K S (by simp) (y := (1 : Int32)) rfl (by decide) (by decide) d0_185 ?_
              rfl
            refine iload K S rfl d0_139 ?_
            refine iload K S rfl d0_141 ?_
            refine icmpz_gt K S d0_143 (fun (c143 : r54.toInt < x3.toInt) => ?_) (fun (c143 : ¬ r54.toInt < x3.toInt) => ?_)
            · refine iconst K S (x := (0 : Int32)) rfl d0_150 ?_
              refine istore K S (l' := #[.val (.int x0), .val (.int x1), .val (.int x2), .val (.int x3), .val (.int (1 : Int32)), .val (.int (0 : Int32)), .val (.int r46), .val (.int r54), .val (.int t63), .val (.int x3), .val (.int (0 : Int32)), .unset]) rfl d0_151 ?_
              refine new K S (hwi hw 0 rfl) (hwi hw 1 rfl) (hwi hw 2 rfl) (by decide) (by decide) d0_153 fun T h153_17 o153 z_o153 g_o153 X E_o153 D S => ?_
              have F_singleSum_o153 : Fld Z h153_17 o153 "com/example/awardsmith/awardsmith/plan/Installments" "singleSum" "Z" (.int (0 : Int32)) := D (Or.inr (hwi hw 10 rfl)) (ty := .boolean) (by decide)
              have F_fewest_o153 : Fld Z h153_17 o153 "com/example/awardsmith/awardsmith/plan/Installments" "fewest" "I" (.int (0 : Int32)) := D (Or.inr (hwi hw 12 rfl)) (ty := .int) (by decide)
              have F_most_o153 : Fld Z h153_17 o153 "com/example/awardsmith/awardsmith/plan/Installments" "most" "I" (.int (0 : Int32)) := D (Or.inr (hwi hw 14 rfl)) (ty := .int) (by decide)
              clear D X
              refine dup K S rfl d0_156 ?_
              refine iload K S rfl d0_157 ?_
              refine iload K S rfl d0_159 ?_
              refine iload K S rfl d0_161 ?_
              refine callC K S (W := 1) (m_ini l Z a0 hw n0 o153 (0 : Int32) r46 r54 h153_17 (Sle S) g_o153 E_o153 F_singleSum_o153 F_fewest_o153 F_most_o153 rfl rfl) rfl rfl (hwi hw 3 rfl) (hwi hw 4 rfl) (hwi hw 5 rfl) (hwi hw 2 rfl) (by decide) (by decide) (by decide) (by decide) (by decide) rfl (argsL := [.int (0 : Int32), .int r46, .int r54]) rfl (lenOf pd_1 rfl) (rest := [.ref o153]) rfl (Nat.le_of_eq rfl) d0_163 (ef fun T h163_18 hP S => ?_)
              obtain ⟨E_o153, F_singleSum_o153, F_fewest_o153, F_most_o153⟩ := hP
              show Wp n0 p e _ s below _ T (mkF m 166 #[.val (.int x0), .val (.int x1), .val (.int x2), .val (.int x3), .val (.int (1 : Int32)), .val (.int (0 : Int32)), .val (.int r46), .val (.int r54), .val (.int t63), .val (.int x3), .val (.int (0 : Int32)), .unset] [.ref o153])
              refine astore K S (l' := #[.val (.int x0), .val (.int x1), .val (.int x2), .val (.int x3), .val (.int (1 : Int32)), .val (.int (0 : Int32)), .val (.int r46), .val (.int r54), .val (.int t63), .val (.int x3), .val (.int (0 : Int32)), .val (.ref o153)]) rfl rfl d0_166 ?_
              refine aload K S rfl rfl d0_168 ?_
              refine iload K S rfl d0_170 ?_
              refine callV K S (W := 0) (m_allows l Z a0 hw n0 o153 x3 (0 : Int32) r46 r54 h163_18 (Sle S) F_singleSum_o153 F_fewest_o153 F_most_o153 (by decide)) E_o153 (hwi hw 15 rfl) (hwi hw 16 rfl) (hwi hw 18 rfl) (hwi hw 17 rfl) (hwi hw 19 rfl) (hwi hw 2 rfl) (by decide) (by decide) (by decide) (by decide) (by decide) rfl (argsL := [.int x3]) rfl (lenOf pd_3 rfl) (rest := []) rfl (Nat.le_of_eq rfl) d0_172 (pr fun T r172 pr172 S => ?_)
              show Wp n0 p e _ s below _ T (mkF m 175 #[.val (.int x0), .val (.int x1), .val (.int x2), .val (.int x3), .val (.int (1 : Int32)), .val (.int (0 : Int32)), .val (.int r46), .val (.int r54), .val (.int t63), .val (.int x3), .val (.int (0 : Int32)), .val (.ref o153)] [.int r172])
              refine iload K S rfl d0_175 ?_
              refine icmpz_ne K S d0_177 (fun (c177 : ¬ r172.toInt = 0) => ?_) (fun (c177 : r172.toInt = 0) => ?_)
              · exfalso; have q0 : (0 : Int32).toInt = 0 := rfl; have q1 : (1 : Int32).toInt = 1 := rfl; have q2 : (2 : Int32).toInt = 2 := rfl; omega
              refine iconst K S (x := (1 : Int32)) rfl d0_180 ?_
              refine goto K S d0_181 ?_
              refine retn K S (by simp) (y := (1 : Int32)) rfl (by decide) (by decide) d0_185 ?_
              rfl
            refine iconst K S (x := (1 : Int32)) rfl d0_146 ?_
            refine goto K S d0_147 ?_
            refine istore K S (l' := #[.val (.int x0), .val (.int x1), .val (.int x2), .val (.int x3), .val (.int (1 : Int32)), .val (.int (0 : Int32)), .val (.int r46), .val (.int r54), .val (.int t63), .val (.int x3), .val (.int (1 : Int32)), .unset]) rfl d0_151 ?_
            refine new K S (hwi hw 0 rfl) (hwi hw 1 rfl) (hwi hw 2 rfl) (by decide) (by decide) d0_153 fun T h153_19 o153 z_o153 g_o153 X E_o153 D S => ?_
            have F_singleSum_o153 : Fld Z h153_19 o153 "com/example/awardsmith/awardsmith/plan/Installments" "singleSum" "Z" (.int (0 : Int32)) := D (Or.inr (hwi hw 10 rfl)) (ty := .boolean) (by decide)
            have F_fewest_o153 : Fld Z h153_19 o153 "com/example/awardsmith/awardsmith/plan/Installments" "fewest" "I" (.int (0 : Int32)) := D (Or.inr (hwi hw 12 rfl)) (ty := .int) (by decide)
            have F_most_o153 : Fld Z h153_19 o153 "com/example/awardsmith/awardsmith/plan/Installments" "most" "I" (.int (0 : Int32)) := D (Or.inr (hwi hw 14 rfl)) (ty := .int) (by decide)
            clear D X
            refine dup K S rfl d0_156 ?_
            refine iload K S rfl d0_157 ?_
            refine iload K S rfl d0_159 ?_
            refine iload K S rfl d0_161 ?_
            refine callC K S (W := 1) (m_ini l Z a0 hw n0 o153 (0 : Int32) r46 r54 h153_19 (Sle S) g_o153 E_o153 F_singleSum_o153 F_fewest_o153 F_most_o153 rfl rfl) rfl rfl (hwi hw 3 rfl) (hwi hw 4 rfl) (hwi hw 5 rfl) (hwi hw 2 rfl) (by decide) (by decide) (by decide) (by decide) (by decide) rfl (argsL := [.int (0 : Int32), .int r46, .int r54]) rfl (lenOf pd_1 rfl) (rest := [.ref o153]) rfl (Nat.le_of_eq rfl) d0_163 (ef fun T h163_20 hP S => ?_)
            obtain ⟨E_o153, F_singleSum_o153, F_fewest_o153, F_most_o153⟩ := hP
            show Wp n0 p e _ s below _ T (mkF m 166 #[.val (.int x0), .val (.int x1), .val (.int x2), .val (.int x3), .val (.int (1 : Int32)), .val (.int (0 : Int32)), .val (.int r46), .val (.int r54), .val (.int t63), .val (.int x3), .val (.int (1 : Int32)), .unset] [.ref o153])
            refine astore K S (l' := #[.val (.int x0), .val (.int x1), .val (.int x2), .val (.int x3), .val (.int (1 : Int32)), .val (.int (0 : Int32)), .val (.int r46), .val (.int r54), .val (.int t63), .val (.int x3), .val (.int (1 : Int32)), .val (.ref o153)]) rfl rfl d0_166 ?_
            refine aload K S rfl rfl d0_168 ?_
            refine iload K S rfl d0_170 ?_
            refine callV K S (W := 0) (m_allows l Z a0 hw n0 o153 x3 (0 : Int32) r46 r54 h163_20 (Sle S) F_singleSum_o153 F_fewest_o153 F_most_o153 (by decide)) E_o153 (hwi hw 15 rfl) (hwi hw 16 rfl) (hwi hw 18 rfl) (hwi hw 17 rfl) (hwi hw 19 rfl) (hwi hw 2 rfl) (by decide) (by decide) (by decide) (by decide) (by decide) rfl (argsL := [.int x3]) rfl (lenOf pd_3 rfl) (rest := []) rfl (Nat.le_of_eq rfl) d0_172 (pr fun T r172 pr172 S => ?_)
            show Wp n0 p e _ s below _ T (mkF m 175 #[.val (.int x0), .val (.int x1), .val (.int x2), .val (.int x3), .val (.int (1 : Int32)), .val (.int (0 : Int32)), .val (.int r46), .val (.int r54), .val (.int t63), .val (.int x3), .val (.int (1 : Int32)), .val (.ref o153)] [.int r172])
            refine iload K S rfl d0_175 ?_
            refine icmpz_ne K S d0_177 (fun (c177 : ¬ r172.toInt = 1) => ?_) (fun (c177 : r172.toInt = 1) => ?_)
            · exfalso; have q0 : (0 : Int32).toInt = 0 := rfl; have q1 : (1 : Int32).toInt = 1 := rfl; have q2 : (2 : Int32).toInt = 2 := rfl; omega
            refine iconst K S (x := (1 : Int32)) rfl d0_180 ?_
            refine goto K S d0_181 ?_
            refine retn K S (by simp) (y := (1 : Int32)) rfl (by decide) (by decide) d0_185 ?_
            rfl
          refine iload K S rfl d0_122 ?_
          refine ificz_ne K S d0_124 (fun (c124 : ¬ 0 = 0) => ?_) (fun (c124 : 0 = 0) => ?_)
          · exact absurd c124 (by decide)
          refine iload K S rfl d0_127 ?_
          refine ificz_eq K S d0_129 (fun (c129 : 1 = 0) => ?_) (fun (c129 : ¬ 1 = 0) => ?_)
          · exact absurd c129 (by decide)
          refine iload K S rfl d0_132 ?_
          refine iload K S rfl d0_134 ?_
          refine icmpz_gt K S d0_136 (fun (c136 : x3.toInt < r46.toInt) => ?_) (fun (c136 : ¬ x3.toInt < r46.toInt) => ?_)
          · refine iconst K S (x := (0 : Int32)) rfl d0_150 ?_
            refine istore K S (l' := #[.val (.int x0), .val (.int x1), .val (.int x2), .val (.int x3), .val (.int (1 : Int32)), .val (.int (0 : Int32)), .val (.int r46), .val (.int r54), .val (.int t63), .val (.int x3), .val (.int (0 : Int32)), .unset]) rfl d0_151 ?_
            refine new K S (hwi hw 0 rfl) (hwi hw 1 rfl) (hwi hw 2 rfl) (by decide) (by decide) d0_153 fun T h153_21 o153 z_o153 g_o153 X E_o153 D S => ?_
            have F_singleSum_o153 : Fld Z h153_21 o153 "com/example/awardsmith/awardsmith/plan/Installments" "singleSum" "Z" (.int (0 : Int32)) := D (Or.inr (hwi hw 10 rfl)) (ty := .boolean) (by decide)
            have F_fewest_o153 : Fld Z h153_21 o153 "com/example/awardsmith/awardsmith/plan/Installments" "fewest" "I" (.int (0 : Int32)) := D (Or.inr (hwi hw 12 rfl)) (ty := .int) (by decide)
            have F_most_o153 : Fld Z h153_21 o153 "com/example/awardsmith/awardsmith/plan/Installments" "most" "I" (.int (0 : Int32)) := D (Or.inr (hwi hw 14 rfl)) (ty := .int) (by decide)
            clear D X
            refine dup K S rfl d0_156 ?_
            refine iload K S rfl d0_157 ?_
            refine iload K S rfl d0_159 ?_
            refine iload K S rfl d0_161 ?_
            refine callC K S (W := 1) (m_ini l Z a0 hw n0 o153 (0 : Int32) r46 r54 h153_21 (Sle S) g_o153 E_o153 F_singleSum_o153 F_fewest_o153 F_most_o153 rfl rfl) rfl rfl (hwi hw 3 rfl) (hwi hw 4 rfl) (hwi hw 5 rfl) (hwi hw 2 rfl) (by decide) (by decide) (by decide) (by decide) (by decide) rfl (argsL := [.int (0 : Int32), .int r46, .int r54]) rfl (lenOf pd_1 rfl) (rest := [.ref o153]) rfl (Nat.le_of_eq rfl) d0_163 (ef fun T h163_22 hP S => ?_)
            obtain ⟨E_o153, F_singleSum_o153, F_fewest_o153, F_most_o153⟩ := hP
            show Wp n0 p e _ s below _ T (mkF m 166 #[.val (.int x0), .val (.int x1), .val (.int x2), .val (.int x3), .val (.int (1 : Int32)), .val (.int (0 : Int32)), .val (.int r46), .val (.int r54), .val (.int t63), .val (.int x3), .val (.int (0 : Int32)), .unset] [.ref o153])
            refine astore K S (l' := #[.val (.int x0), .val (.int x1), .val (.int x2), .val (.int x3), .val (.int (1 : Int32)), .val (.int (0 : Int32)), .val (.int r46), .val (.int r54), .val (.int t63), .val (.int x3), .val (.int (0 : Int32)), .val (.ref o153)]) rfl rfl d0_166 ?_
            refine aload K S rfl rfl d0_168 ?_
            refine iload K S rfl d0_170 ?_
            refine callV K S (W := 0) (m_allows l Z a0 hw n0 o153 x3 (0 : Int32) r46 r54 h163_22 (Sle S) F_singleSum_o153 F_fewest_o153 F_most_o153 (by decide)) E_o153 (hwi hw 15 rfl) (hwi hw 16 rfl) (hwi hw 18 rfl) (hwi hw 17 rfl) (hwi hw 19 rfl) (hwi hw 2 rfl) (by decide) (by decide) (by decide) (by decide) (by decide) rfl (argsL := [.int x3]) rfl (lenOf pd_3 rfl) (rest := []) rfl (Nat.le_of_eq rfl) d0_172 (pr fun T r172 pr172 S => ?_)
            show Wp n0 p e _ s below _ T (mkF m 175 #[.val (.int x0), .val (.int x1), .val (.int x2), .val (.int x3), .val (.int (1 : Int32)), .val (.int (0 : Int32)), .val (.int r46), .val (.int r54), .val (.int t63), .val (.int x3), .val (.int (0 : Int32)), .val (.ref o153)] [.int r172])
            refine iload K S rfl d0_175 ?_
            refine icmpz_ne K S d0_177 (fun (c177 : ¬ r172.toInt = 0) => ?_) (fun (c177 : r172.toInt = 0) => ?_)
            · exfalso; have q0 : (0 : Int32).toInt = 0 := rfl; have q1 : (1 : Int32).toInt = 1 := rfl; have q2 : (2 : Int32).toInt = 2 := rfl; omega
            refine iconst K S (x := (1 : Int32)) rfl d0_180 ?_
            refine goto K S d0_181 ?_
            refine retn K S (by simp) (y := (1 : Int32)) rfl (by decide) (by decide) d0_185 ?_
            rfl
          refine iload K S rfl d0_139 ?_
          refine iload K S rfl d0_141 ?_
          refine icmpz_gt K S d0_143 (fun (c143 : r54.toInt < x3.toInt) => ?_) (fun (c143 : ¬ r54.toInt < x3.toInt) => ?_)
          · refine iconst K S (x := (0 : Int32)) rfl d0_150 ?_
            refine istore K S (l' := #[.val (.int x0), .val (.int x1), .val (.int x2), .val (.int x3), .val (.int (1 : Int32)), .val (.int (0 : Int32)), .val (.int r46), .val (.int r54), .val (.int t63), .val (.int x3), .val (.int (0 : Int32)), .unset]) rfl d0_151 ?_
            refine new K S (hwi hw 0 rfl) (hwi hw 1 rfl) (hwi hw 2 rfl) (by decide) (by decide) d0_153 fun T h153_23 o153 z_o153 g_o153 X E_o153 D S => ?_
            have F_singleSum_o153 : Fld Z h153_23 o153 "com/example/awardsmith/awardsmith/plan/Installments" "singleSum" "Z" (.int (0 : Int32)) := D (Or.inr (hwi hw 10 rfl)) (ty := .boolean) (by decide)
            have F_fewest_o153 : Fld Z h153_23 o153 "com/example/awardsmith/awardsmith/plan/Installments" "fewest" "I" (.int (0 : Int32)) := D (Or.inr (hwi hw 12 rfl)) (ty := .int) (by decide)
            have F_most_o153 : Fld Z h153_23 o153 "com/example/awardsmith/awardsmith/plan/Installments" "most" "I" (.int (0 : Int32)) := D (Or.inr (hwi hw 14 rfl)) (ty := .int) (by decide)
            clear D X
            refine dup K S rfl d0_156 ?_
            refine iload K S rfl d0_157 ?_
            refine iload K S rfl d0_159 ?_
            refine iload K S rfl d0_161 ?_
            refine callC K S (W := 1) (m_ini l Z a0 hw n0 o153 (0 : Int32) r46 r54 h153_23 (Sle S) g_o153 E_o153 F_singleSum_o153 F_fewest_o153 F_most_o153 rfl rfl) rfl rfl (hwi hw 3 rfl) (hwi hw 4 rfl) (hwi hw 5 rfl) (hwi hw 2 rfl) (by decide) (by decide) (by decide) (by decide) (by decide) rfl (argsL := [.int (0 : Int32), .int r46, .int r54]) rfl (lenOf pd_1 rfl) (rest := [.ref o153]) rfl (Nat.le_of_eq rfl) d0_163 (ef fun T h163_24 hP S => ?_)
            obtain ⟨E_o153, F_singleSum_o153, F_fewest_o153, F_most_o153⟩ := hP
            show Wp n0 p e _ s below _ T (mkF m 166 #[.val (.int x0), .val (.int x1), .val (.int x2), .val (.int x3), .val (.int (1 : Int32)), .val (.int (0 : Int32)), .val (.int r46), .val (.int r54), .val (.int t63), .val (.int x3), .val (.int (0 : Int32)), .unset] [.ref o153])
            refine astore K S (l' := #[.val (.int x0), .val (.int x1), .val (.int x2), .val (.int x3), .val (.int (1 : Int32)), .val (.int (0 : Int32)), .val (.int r46), .val (.int r54), .val (.int t63), .val (.int x3), .val (.int (0 : Int32)), .val (.ref o153)]) rfl rfl d0_166 ?_
            refine aload K S rfl rfl d0_168 ?_
            refine iload K S rfl d0_170 ?_
            refine callV K S (W := 0) (m_allows l Z a0 hw n0 o153 x3 (0 : Int32) r46 r54 h163_24 (Sle S) F_singleSum_o153 F_fewest_o153 F_most_o153 (by decide)) E_o153 (hwi hw 15 rfl) (hwi hw 16 rfl) (hwi hw 18 rfl) (hwi hw 17 rfl) (hwi hw 19 rfl) (hwi hw 2 rfl) (by decide) (by decide) (by decide) (by decide) (by decide) rfl (argsL := [.int x3]) rfl (lenOf pd_3 rfl) (rest := []) rfl (Nat.le_of_eq rfl) d0_172 (pr fun T r172 pr172 S => ?_)
            show Wp n0 p e _ s below _ T (mkF m 175 #[.val (.int x0), .val (.int x1), .val (.int x2), .val (.int x3), .val (.int (1 : Int32)), .val (.int (0 : Int32)), .val (.int r46), .val (.int r54), .val (.int t63), .val (.int x3), .val (.int (0 : Int32)), .val (.ref o153)] [.int r172])
            refine iload K S rfl d0_175 ?_
            refine icmpz_ne K S d0_177 (fun (c177 : ¬ r172.toInt = 0) => ?_) (fun (c177 : r172.toInt = 0) => ?_)
            · exfalso; have q0 : (0 : Int32).toInt = 0 := rfl; have q1 : (1 : Int32).toInt = 1 := rfl; have q2 : (2 : Int32).toInt = 2 := rfl; omega
            refine iconst K S (x := (1 : Int32)) rfl d0_180 ?_
            refine goto K S d0_181 ?_
            refine retn K S (by simp) (y := (1 : Int32)) rfl (by decide) (by decide) d0_185 ?_
            rfl
          refine iconst K S (x := (1 : Int32)) rfl d0_146 ?_
          refine goto K S d0_147 ?_
          refine istore K S (l' := #[.val (.int x0), .val (.int x1), .val (.int x2), .val (.int x3), .val (.int (1 : Int32)), .val (.int (0 : Int32)), .val (.int r46), .val (.int r54), .val (.int t63), .val (.int x3), .val (.int (1 : Int32)), .unset]) rfl d0_151 ?_
          refine new K S (hwi hw 0 rfl) (hwi hw 1 rfl) (hwi hw 2 rfl) (by decide) (by decide) d0_153 fun T h153_25 o153 z_o153 g_o153 X E_o153 D S => ?_
          have F_singleSum_o153 : Fld Z h153_25 o153 "com/example/awardsmith/awardsmith/plan/Installments" "singleSum" "Z" (.int (0 : Int32)) := D (Or.inr (hwi hw 10 rfl)) (ty := .boolean) (by decide)
          have F_fewest_o153 : Fld Z h153_25 o153 "com/example/awardsmith/awardsmith/plan/Installments" "fewest" "I" (.int (0 : Int32)) := D (Or.inr (hwi hw 12 rfl)) (ty := .int) (by decide)
          have F_most_o153 : Fld Z h153_25 o153 "com/example/awardsmith/awardsmith/plan/Installments" "most" "I" (.int (0 : Int32)) := D (Or.inr (hwi hw 14 rfl)) (ty := .int) (by decide)
          clear D X
          refine dup K S rfl d0_156 ?_
          refine iload K S rfl d0_157 ?_
          refine iload K S rfl d0_159 ?_
          refine iload K S rfl d0_161 ?_
          refine callC K S (W := 1) (m_ini l Z a0 hw n0 o153 (0 : Int32) r46 r54 h153_25 (Sle S) g_o153 E_o153 F_singleSum_o153 F_fewest_o153 F_most_o153 rfl rfl) rfl rfl (hwi hw 3 rfl) (hwi hw 4 rfl) (hwi hw 5 rfl) (hwi hw 2 rfl) (by decide) (by decide) (by decide) (by decide) (by decide) rfl (argsL := [.int (0 : Int32), .int r46, .int r54]) rfl (lenOf pd_1 rfl) (rest := [.ref o153]) rfl (Nat.le_of_eq rfl) d0_163 (ef fun T h163_26 hP S => ?_)
          obtain ⟨E_o153, F_singleSum_o153, F_fewest_o153, F_most_o153⟩ := hP
          show Wp n0 p e _ s below _ T (mkF m 166 #[.val (.int x0), .val (.int x1), .val (.int x2), .val (.int x3), .val (.int (1 : Int32)), .val (.int (0 : Int32)), .val (.int r46), .val (.int r54), .val (.int t63), .val (.int x3), .val (.int (1 : Int32)), .unset] [.ref o153])
          refine astore K S (l' := #[.val (.int x0), .val (.int x1), .val (.int x2), .val (.int x3), .val (.int (1 : Int32)), .val (.int (0 : Int32)), .val (.int r46), .val (.int r54), .val (.int t63), .val (.int x3), .val (.int (1 : Int32)), .val (.ref o153)]) rfl rfl d0_166 ?_
          refine aload K S rfl rfl d0_168 ?_
          refine iload K S rfl d0_170 ?_
          refine callV K S (W := 0) (m_allows l Z a0 hw n0 o153 x3 (0 : Int32) r46 r54 h163_26 (Sle S) F_singleSum_o153 F_fewest_o153 F_most_o153 (by decide)) E_o153 (hwi hw 15 rfl) (hwi hw 16 rfl) (hwi hw 18 rfl) (hwi hw 17 rfl) (hwi hw 19 rfl) (hwi hw 2 rfl) (by decide) (by decide) (by decide) (by decide) (by decide) rfl (argsL := [.int x3]) rfl (lenOf pd_3 rfl) (rest := []) rfl (Nat.le_of_eq rfl) d0_172 (pr fun T r172 pr172 S => ?_)
          show Wp n0 p e _ s below _ T (mkF m 175 #[.val (.int x0), .val (.int x1), .val (.int x2), .val (.int x3), .val (.int (1 : Int32)), .val (.int (0 : Int32)), .val (.int r46), .val (.int r54), .val (.int t63), .val (.int x3), .val (.int (1 : Int32)), .val (.ref o153)] [.int r172])
          refine iload K S rfl d0_175 ?_
          refine icmpz_ne K S d0_177 (fun (c177 : ¬ r172.toInt = 1) => ?_) (fun (c177 : r172.toInt = 1) => ?_)
          · exfalso; have q0 : (0 : Int32).toInt = 0 := rfl; have q1 : (1 : Int32).toInt = 1 := rfl; have q2 : (2 : Int32).toInt = 2 := rfl; omega
          refine iconst K S (x := (1 : Int32)) rfl d0_180 ?_
          refine goto K S d0_181 ?_
          refine retn K S (by simp) (y := (1 : Int32)) rfl (by decide) (by decide) d0_185 ?_
          rfl
        refine iconst K S (x := (1 : Int32)) rfl d0_113 ?_
        refine istore K S (l' := #[.val (.int x0), .val (.int x1), .val (.int x2), .val (.int x3), .val (.int (1 : Int32)), .val (.int (0 : Int32)), .val (.int r46), .val (.int r54), .val (.int t63), .val (.int (1 : Int32)), .unset, .unset]) rfl d0_114 ?_
        refine iload K S rfl d0_116 ?_
        refine iconst K S (x := (1 : Int32)) rfl d0_118 ?_
        refine icmpz_ne K S d0_119 (fun (c119 : ¬ 1 = 1) => ?_) (fun (c119 : 1 = 1) => ?_)
        · exact absurd c119 (by decide)
        refine iload K S rfl d0_122 ?_
        refine ificz_ne K S d0_124 (fun (c124 : ¬ 0 = 0) => ?_) (fun (c124 : 0 = 0) => ?_)
        · exact absurd c124 (by decide)
        refine iload K S rfl d0_127 ?_
        refine ificz_eq K S d0_129 (fun (c129 : 1 = 0) => ?_) (fun (c129 : ¬ 1 = 0) => ?_)
        · exact absurd c129 (by decide)
        refine iload K S rfl d0_132 ?_
        refine iload K S rfl d0_134 ?_
        refine icmpz_gt K S d0_136 (fun (c136 : 1 < r46.toInt) => ?_) (fun (c136 : ¬ 1 < r46.toInt) => ?_)
        · refine iconst K S (x := (0 : Int32)) rfl d0_150 ?_
          refine istore K S (l' := #[.val (.int x0), .val (.int x1), .val (.int x2), .val (.int x3), .val (.int (1 : Int32)), .val (.int (0 : Int32)), .val (.int r46), .val (.int r54), .val (.int t63), .val (.int (1 : Int32)), .val (.int (0 : Int32)), .unset]) rfl d0_151 ?_
          refine new K S (hwi hw 0 rfl) (hwi hw 1 rfl) (hwi hw 2 rfl) (by decide) (by decide) d0_153 fun T h153_27 o153 z_o153 g_o153 X E_o153 D S => ?_
          have F_singleSum_o153 : Fld Z h153_27 o153 "com/example/awardsmith/awardsmith/plan/Installments" "singleSum" "Z" (.int (0 : Int32)) := D (Or.inr (hwi hw 10 rfl)) (ty := .boolean) (by decide)
          have F_fewest_o153 : Fld Z h153_27 o153 "com/example/awardsmith/awardsmith/plan/Installments" "fewest" "I" (.int (0 : Int32)) := D (Or.inr (hwi hw 12 rfl)) (ty := .int) (by decide)
          have F_most_o153 : Fld Z h153_27 o153 "com/example/awardsmith/awardsmith/plan/Installments" "most" "I" (.int (0 : Int32)) := D (Or.inr (hwi hw 14 rfl)) (ty := .int) (by decide)
          clear D X
          refine dup K S rfl d0_156 ?_
          refine iload K S rfl d0_157 ?_
          refine iload K S rfl d0_159 ?_
          refine iload K S rfl d0_161 ?_
          refine callC K S (W := 1) (m_ini l Z a0 hw n0 o153 (0 : Int32) r46 r54 h153_27 (Sle S) g_o153 E_o153 F_singleSum_o153 F_fewest_o153 F_most_o153 rfl rfl) rfl rfl (hwi hw 3 rfl) (hwi hw 4 rfl) (hwi hw 5 rfl) (hwi hw 2 rfl) (by decide) (by decide) (by decide) (by decide) (by decide) rfl (argsL := [.int (0 : Int32), .int r46, .int r54]) rfl (lenOf pd_1 rfl) (rest := [.ref o153]) rfl (Nat.le_of_eq rfl) d0_163 (ef fun T h163_28 hP S => ?_)
          obtain ⟨E_o153, F_singleSum_o153, F_fewest_o153, F_most_o153⟩ := hP
          show Wp n0 p e _ s below _ T (mkF m 166 #[.val (.int x0), .val (.int x1), .val (.int x2), .val (.int x3), .val (.int (1 : Int32)), .val (.int (0 : Int32)), .val (.int r46), .val (.int r54), .val (.int t63), .val (.int (1 : Int32)), .val (.int (0 : Int32)), .unset] [.ref o153])
          refine astore K S (l' := #[.val (.int x0), .val (.int x1), .val (.int x2), .val (.int x3), .val (.int (1 : Int32)), .val (.int (0 : Int32)), .val (.int r46), .val (.int r54), .val (.int t63), .val (.int (1 : Int32)), .val (.int (0 : Int32)), .val (.ref o153)]) rfl rfl d0_166 ?_
          refine aload K S rfl rfl d0_168 ?_
          refine iload K S rfl d0_170 ?_
          refine callV K S (W := 0) (m_allows l Z a0 hw n0 o153 (1 : Int32) (0 : Int32) r46 r54 h163_28 (Sle S) F_singleSum_o153 F_fewest_o153 F_most_o153 (by decide)) E_o153 (hwi hw 15 rfl) (hwi hw 16 rfl) (hwi hw 18 rfl) (hwi hw 17 rfl) (hwi hw 19 rfl) (hwi hw 2 rfl) (by decide) (by decide) (by decide) (by decide) (by decide) rfl (argsL := [.int (1 : Int32)]) rfl (lenOf pd_3 rfl) (rest := []) rfl (Nat.le_of_eq rfl) d0_172 (pr fun T r172 pr172 S => ?_)
          show Wp n0 p e _ s below _ T (mkF m 175 #[.val (.int x0), .val (.int x1), .val (.int x2), .val (.int x3), .val (.int (1 : Int32)), .val (.int (0 : Int32)), .val (.int r46), .val (.int r54), .val (.int t63), .val (.int (1 : Int32)), .val (.int (0 : Int32)), .val (.ref o153)] [.int r172])
          refine iload K S rfl d0_175 ?_
          refine icmpz_ne K S d0_177 (fun (c177 : ¬ r172.toInt = 0) => ?_) (fun (c177 : r172.toInt = 0) => ?_)
          · exfalso; have q0 : (0 : Int32).toInt = 0 := rfl; have q1 : (1 : Int32).toInt = 1 := rfl; have q2 : (2 : Int32).toInt = 2 := rfl; omega
          refine iconst K S (x := (1 : Int32)) rfl d0_180 ?_
          refine goto K S d0_181 ?_
          refine retn K S (by simp) (y := (1 : Int32)) rfl (by decide) (by decide) d0_185 ?_
          rfl
        refine iload K S rfl d0_139 ?_
        refine iload K S rfl d0_141 ?_
        refine icmpz_gt K S d0_143 (fun (c143 : r54.toInt < 1) => ?_) (fun (c143 : ¬ r54.toInt < 1) => ?_)
        · refine iconst K S (x := (0 : Int32)) rfl d0_150 ?_
          refine istore K S (l' := #[.val (.int x0), .val (.int x1), .val (.int x2), .val (.int x3), .val (.int (1 : Int32)), .val (.int (0 : Int32)), .val (.int r46), .val (.int r54), .val (.int t63), .val (.int (1 : Int32)), .val (.int (0 : Int32)), .unset]) rfl d0_151 ?_
          refine new K S (hwi hw 0 rfl) (hwi hw 1 rfl) (hwi hw 2 rfl) (by decide) (by decide) d0_153 fun T h153_29 o153 z_o153 g_o153 X E_o153 D S => ?_
          have F_singleSum_o153 : Fld Z h153_29 o153 "com/example/awardsmith/awardsmith/plan/Installments" "singleSum" "Z" (.int (0 : Int32)) := D (Or.inr (hwi hw 10 rfl)) (ty := .boolean) (by decide)
          have F_fewest_o153 : Fld Z h153_29 o153 "com/example/awardsmith/awardsmith/plan/Installments" "fewest" "I" (.int (0 : Int32)) := D (Or.inr (hwi hw 12 rfl)) (ty := .int) (by decide)
          have F_most_o153 : Fld Z h153_29 o153 "com/example/awardsmith/awardsmith/plan/Installments" "most" "I" (.int (0 : Int32)) := D (Or.inr (hwi hw 14 rfl)) (ty := .int) (by decide)
          clear D X
          refine dup K S rfl d0_156 ?_
          refine iload K S rfl d0_157 ?_
          refine iload K S rfl d0_159 ?_
          refine iload K S rfl d0_161 ?_
          refine callC K S (W := 1) (m_ini l Z a0 hw n0 o153 (0 : Int32) r46 r54 h153_29 (Sle S) g_o153 E_o153 F_singleSum_o153 F_fewest_o153 F_most_o153 rfl rfl) rfl rfl (hwi hw 3 rfl) (hwi hw 4 rfl) (hwi hw 5 rfl) (hwi hw 2 rfl) (by decide) (by decide) (by decide) (by decide) (by decide) rfl (argsL := [.int (0 : Int32), .int r46, .int r54]) rfl (lenOf pd_1 rfl) (rest := [.ref o153]) rfl (Nat.le_of_eq rfl) d0_163 (ef fun T h163_30 hP S => ?_)
          obtain ⟨E_o153, F_singleSum_o153, F_fewest_o153, F_most_o153⟩ := hP
          show Wp n0 p e _ s below _ T (mkF m 166 #[.val (.int x0), .val (.int x1), .val (.int x2), .val (.int x3), .val (.int (1 : Int32)), .val (.int (0 : Int32)), .val (.int r46), .val (.int r54), .val (.int t63), .val (.int (1 : Int32)), .val (.int (0 : Int32)), .unset] [.ref o153])
          refine astore K S (l' := #[.val (.int x0), .val (.int x1), .val (.int x2), .val (.int x3), .val (.int (1 : Int32)), .val (.int (0 : Int32)), .val (.int r46), .val (.int r54), .val (.int t63), .val (.int (1 : Int32)), .val (.int (0 : Int32)), .val (.ref o153)]) rfl rfl d0_166 ?_
          refine aload K S rfl rfl d0_168 ?_
          refine iload K S rfl d0_170 ?_
          refine callV K S (W := 0) (m_allows l Z a0 hw n0 o153 (1 : Int32) (0 : Int32) r46 r54 h163_30 (Sle S) F_singleSum_o153 F_fewest_o153 F_most_o153 (by decide)) E_o153 (hwi hw 15 rfl) (hwi hw 16 rfl) (hwi hw 18 rfl) (hwi hw 17 rfl) (hwi hw 19 rfl) (hwi hw 2 rfl) (by decide) (by decide) (by decide) (by decide) (by decide) rfl (argsL := [.int (1 : Int32)]) rfl (lenOf pd_3 rfl) (rest := []) rfl (Nat.le_of_eq rfl) d0_172 (pr fun T r172 pr172 S => ?_)
          show Wp n0 p e _ s below _ T (mkF m 175 #[.val (.int x0), .val (.int x1), .val (.int x2), .val (.int x3), .val (.int (1 : Int32)), .val (.int (0 : Int32)), .val (.int r46), .val (.int r54), .val (.int t63), .val (.int (1 : Int32)), .val (.int (0 : Int32)), .val (.ref o153)] [.int r172])
          refine iload K S rfl d0_175 ?_
          refine icmpz_ne K S d0_177 (fun (c177 : ¬ r172.toInt = 0) => ?_) (fun (c177 : r172.toInt = 0) => ?_)
          · exfalso; have q0 : (0 : Int32).toInt = 0 := rfl; have q1 : (1 : Int32).toInt = 1 := rfl; have q2 : (2 : Int32).toInt = 2 := rfl; omega
          refine iconst K S (x := (1 : Int32)) rfl d0_180 ?_
          refine goto K S d0_181 ?_
          refine retn K S (by simp) (y := (1 : Int32)) rfl (by decide) (by decide) d0_185 ?_
          rfl
        refine iconst K S (x := (1 : Int32)) rfl d0_146 ?_
        refine goto K S d0_147 ?_
        refine istore K S (l' := #[.val (.int x0), .val (.int x1), .val (.int x2), .val (.int x3), .val (.int (1 : Int32)), .val (.int (0 : Int32)), .val (.int r46), .val (.int r54), .val (.int t63), .val (.int (1 : Int32)), .val (.int (1 : Int32)), .unset]) rfl d0_151 ?_
        refine new K S (hwi hw 0 rfl) (hwi hw 1 rfl) (hwi hw 2 rfl) (by decide) (by decide) d0_153 fun T h153_31 o153 z_o153 g_o153 X E_o153 D S => ?_
        have F_singleSum_o153 : Fld Z h153_31 o153 "com/example/awardsmith/awardsmith/plan/Installments" "singleSum" "Z" (.int (0 : Int32)) := D (Or.inr (hwi hw 10 rfl)) (ty := .boolean) (by decide)
        have F_fewest_o153 : Fld Z h153_31 o153 "com/example/awardsmith/awardsmith/plan/Installments" "fewest" "I" (.int (0 : Int32)) := D (Or.inr (hwi hw 12 rfl)) (ty := .int) (by decide)
        have F_most_o153 : Fld Z h153_31 o153 "com/example/awardsmith/awardsmith/plan/Installments" "most" "I" (.int (0 : Int32)) := D (Or.inr (hwi hw 14 rfl)) (ty := .int) (by decide)
        clear D X
        refine dup K S rfl d0_156 ?_
        refine iload K S rfl d0_157 ?_
        refine iload K S rfl d0_159 ?_
        refine iload K S rfl d0_161 ?_
        refine callC K S (W := 1) (m_ini l Z a0 hw n0 o153 (0 : Int32) r46 r54 h153_31 (Sle S) g_o153 E_o153 F_singleSum_o153 F_fewest_o153 F_most_o153 rfl rfl) rfl rfl (hwi hw 3 rfl) (hwi hw 4 rfl) (hwi hw 5 rfl) (hwi hw 2 rfl) (by decide) (by decide) (by decide) (by decide) (by decide) rfl (argsL := [.int (0 : Int32), .int r46, .int r54]) rfl (lenOf pd_1 rfl) (rest := [.ref o153]) rfl (Nat.le_of_eq rfl) d0_163 (ef fun T h163_32 hP S => ?_)
        obtain ⟨E_o153, F_singleSum_o153, F_fewest_o153, F_most_o153⟩ := hP
        show Wp n0 p e _ s below _ T (mkF m 166 #[.val (.int x0), .val (.int x1), .val (.int x2), .val (.int x3), .val (.int (1 : Int32)), .val (.int (0 : Int32)), .val (.int r46), .val (.int r54), .val (.int t63), .val (.int (1 : Int32)), .val (.int (1 : Int32)), .unset] [.ref o153])
        refine astore K S (l' := #[.val (.int x0), .val (.int x1), .val (.int x2), .val (.int x3), .val (.int (1 : Int32)), .val (.int (0 : Int32)), .val (.int r46), .val (.int r54), .val (.int t63), .val (.int (1 : Int32)), .val (.int (1 : Int32)), .val (.ref o153)]) rfl rfl d0_166 ?_
        refine aload K S rfl rfl d0_168 ?_
        refine iload K S rfl d0_170 ?_
        refine callV K S (W := 0) (m_allows l Z a0 hw n0 o153 (1 : Int32) (0 : Int32) r46 r54 h163_32 (Sle S) F_singleSum_o153 F_fewest_o153 F_most_o153 (by decide)) E_o153 (hwi hw 15 rfl) (hwi hw 16 rfl) (hwi hw 18 rfl) (hwi hw 17 rfl) (hwi hw 19 rfl) (hwi hw 2 rfl) (by decide) (by decide) (by decide) (by decide) (by decide) rfl (argsL := [.int (1 : Int32)]) rfl (lenOf pd_3 rfl) (rest := []) rfl (Nat.le_of_eq rfl) d0_172 (pr fun T r172 pr172 S => ?_)
        show Wp n0 p e _ s below _ T (mkF m 175 #[.val (.int x0), .val (.int x1), .val (.int x2), .val (.int x3), .val (.int (1 : Int32)), .val (.int (0 : Int32)), .val (.int r46), .val (.int r54), .val (.int t63), .val (.int (1 : Int32)), .val (.int (1 : Int32)), .val (.ref o153)] [.int r172])
        refine iload K S rfl d0_175 ?_
        refine icmpz_ne K S d0_177 (fun (c177 : ¬ r172.toInt = 1) => ?_) (fun (c177 : r172.toInt = 1) => ?_)
        · exfalso; have q0 : (0 : Int32).toInt = 0 := rfl; have q1 : (1 : Int32).toInt = 1 := rfl; have q2 : (2 : Int32).toInt = 2 := rfl; omega
        refine iconst K S (x := (1 : Int32)) rfl d0_180 ?_
        refine goto K S d0_181 ?_
        refine retn K S (by simp) (y := (1 : Int32)) rfl (by decide) (by decide) d0_185 ?_
        rfl
      refine iload K S rfl d0_94 ?_
      refine iconst K S (x := (1 : Int32)) rfl d0_96 ?_
      refine isub K S d0_97 ?_
      refine nmI fun t97 ht97 => ?_
      have ft97 : (t97.toInt - (r54.toInt - 1)) % 4294967296 = 0 := by rw [ht97]; exact c_isub r54 (1 : Int32)
      have rt97 := rng32 t97
      refine iload_n K S rfl d0_98 ?_
      refine iconst K S (x := (3 : Int32)) rfl d0_99 ?_
      refine iand K S d0_100 ?_
      refine nmI fun t100 ht100 => ?_
      have ft100 : t100.toInt = x3.toInt % 4 := by rw [ht100]; exact c_mask x3 (3 : Int32) 2 (by decide) (by decide)
      have rt100 := rng32 t100
      refine iadd K S d0_101 ?_
      refine nmI fun t101 ht101 => ?_
      have ft101 : (t101.toInt - (t97.toInt + t100.toInt)) % 4294967296 = 0 := by rw [ht101]; exact c_iadd t97 t100
      have rt101 := rng32 t101
      refine istore K S (l' := #[.val (.int x0), .val (.int x1), .val (.int x2), .val (.int x3), .val (.int (1 : Int32)), .val (.int (0 : Int32)), .val (.int r46), .val (.int r54), .val (.int t63), .val (.int t101), .unset, .unset]) rfl d0_102 ?_
      refine goto K S d0_104 ?_
      refine iload K S rfl d0_116 ?_
      refine iconst K S (x := (1 : Int32)) rfl d0_118 ?_
      refine icmpz_ne K S d0_119 (fun (c119 : ¬ t101.toInt = 1) => ?_) (fun (c119 : t101.toInt = 1) => ?_)
      · refine iload K S rfl d0_127 ?_
        refine ificz_eq K S d0_129 (fun (c129 : 1 = 0) => ?_) (fun (c129 : ¬ 1 = 0) => ?_)
        · exact absurd c129 (by decide)
        refine iload K S rfl d0_132 ?_
        refine iload K S rfl d0_134 ?_
        refine icmpz_gt K S d0_136 (fun (c136 : t101.toInt < r46.toInt) => ?_) (fun (c136 : ¬ t101.toInt < r46.toInt) => ?_)
        · refine iconst K S (x := (0 : Int32)) rfl d0_150 ?_
          refine istore K S (l' := #[.val (.int x0), .val (.int x1), .val (.int x2), .val (.int x3), .val (.int (1 : Int32)), .val (.int (0 : Int32)), .val (.int r46), .val (.int r54), .val (.int t63), .val (.int t101), .val (.int (0 : Int32)), .unset]) rfl d0_151 ?_
          refine new K S (hwi hw 0 rfl) (hwi hw 1 rfl) (hwi hw 2 rfl) (by decide) (by decide) d0_153 fun T h153_33 o153 z_o153 g_o153 X E_o153 D S => ?_
          have F_singleSum_o153 : Fld Z h153_33 o153 "com/example/awardsmith/awardsmith/plan/Installments" "singleSum" "Z" (.int (0 : Int32)) := D (Or.inr (hwi hw 10 rfl)) (ty := .boolean) (by decide)
          have F_fewest_o153 : Fld Z h153_33 o153 "com/example/awardsmith/awardsmith/plan/Installments" "fewest" "I" (.int (0 : Int32)) := D (Or.inr (hwi hw 12 rfl)) (ty := .int) (by decide)
          have F_most_o153 : Fld Z h153_33 o153 "com/example/awardsmith/awardsmith/plan/Installments" "most" "I" (.int (0 : Int32)) := D (Or.inr (hwi hw 14 rfl)) (ty := .int) (by decide)
          clear D X
          refine dup K S rfl d0_156 ?_
          refine iload K S rfl d0_157 ?_
          refine iload K S rfl d0_159 ?_
          refine iload K S rfl d0_161 ?_
          refine callC K S (W := 1) (m_ini l Z a0 hw n0 o153 (0 : Int32) r46 r54 h153_33 (Sle S) g_o153 E_o153 F_singleSum_o153 F_fewest_o153 F_most_o153 rfl rfl) rfl rfl (hwi hw 3 rfl) (hwi hw 4 rfl) (hwi hw 5 rfl) (hwi hw 2 rfl) (by decide) (by decide) (by decide) (by decide) (by decide) rfl (argsL := [.int (0 : Int32), .int r46, .int r54]) rfl (lenOf pd_1 rfl) (rest := [.ref o153]) rfl (Nat.le_of_eq rfl) d0_163 (ef fun T h163_34 hP S => ?_)
          obtain ⟨E_o153, F_singleSum_o153, F_fewest_o153, F_most_o153⟩ := hP
          show Wp n0 p e _ s below _ T (mkF m 166 #[.val (.int x0), .val (.int x1), .val (.int x2), .val (.int x3), .val (.int (1 : Int32)), .val (.int (0 : Int32)), .val (.int r46), .val (.int r54), .val (.int t63), .val (.int t101), .val (.int (0 : Int32)), .unset] [.ref o153])
          refine astore K S (l' := #[.val (.int x0), .val (.int x1), .val (.int x2), .val (.int x3), .val (.int (1 : Int32)), .val (.int (0 : Int32)), .val (.int r46), .val (.int r54), .val (.int t63), .val (.int t101), .val (.int (0 : Int32)), .val (.ref o153)]) rfl rfl d0_166 ?_
          refine aload K S rfl rfl d0_168 ?_
          refine iload K S rfl d0_170 ?_
          refine callV K S (W := 0) (m_allows l Z a0 hw n0 o153 t101 (0 : Int32) r46 r54 h163_34 (Sle S) F_singleSum_o153 F_fewest_o153 F_most_o153 (by decide)) E_o153 (hwi hw 15 rfl) (hwi hw 16 rfl) (hwi hw 18 rfl) (hwi hw 17 rfl) (hwi hw 19 rfl) (hwi hw 2 rfl) (by decide) (by decide) (by decide) (by decide) (by decide) rfl (argsL := [.int t101]) rfl (lenOf pd_3 rfl) (rest := []) rfl (Nat.le_of_eq rfl) d0_172 (pr fun T r172 pr172 S => ?_)
          show Wp n0 p e _ s below _ T (mkF m 175 #[.val (.int x0), .val (.int x1), .val (.int x2), .val (.int x3), .val (.int (1 : Int32)), .val (.int (0 : Int32)), .val (.int r46), .val (.int r54), .val (.int t63), .val (.int t101), .val (.int (0 : Int32)), .val (.ref o153)] [.int r172])
          refine iload K S rfl d0_175 ?_
          refine icmpz_ne K S d0_177 (fun (c177 : ¬ r172.toInt = 0) => ?_) (fun (c177 : r172.toInt = 0) => ?_)
          · exfalso; have q0 : (0 : Int32).toInt = 0 := rfl; have q1 : (1 : Int32).toInt = 1 := rfl; have q2 : (2 : Int32).toInt = 2 := rfl; omega
          refine iconst K S (x := (1 : Int32)) rfl d0_180 ?_
          refine goto K S d0_181 ?_
          refine retn K S (by simp) (y := (1 : Int32)) rfl (by decide) (by decide) d0_185 ?_
          rfl
        refine iload K S rfl d0_139 ?_
        refine iload K S rfl d0_141 ?_
        refine icmpz_gt K S d0_143 (fun (c143 : r54.toInt < t101.toInt) => ?_) (fun (c143 : ¬ r54.toInt < t101.toInt) => ?_)
        · refine iconst K S (x := (0 : Int32)) rfl d0_150 ?_
          refine istore K S (l' := #[.val (.int x0), .val (.int x1), .val (.int x2), .val (.int x3), .val (.int (1 : Int32)), .val (.int (0 : Int32)), .val (.int r46), .val (.int r54), .val (.int t63), .val (.int t101), .val (.int (0 : Int32)), .unset]) rfl d0_151 ?_
          refine new K S (hwi hw 0 rfl) (hwi hw 1 rfl) (hwi hw 2 rfl) (by decide) (by decide) d0_153 fun T h153_35 o153 z_o153 g_o153 X E_o153 D S => ?_
          have F_singleSum_o153 : Fld Z h153_35 o153 "com/example/awardsmith/awardsmith/plan/Installments" "singleSum" "Z" (.int (0 : Int32)) := D (Or.inr (hwi hw 10 rfl)) (ty := .boolean) (by decide)
          have F_fewest_o153 : Fld Z h153_35 o153 "com/example/awardsmith/awardsmith/plan/Installments" "fewest" "I" (.int (0 : Int32)) := D (Or.inr (hwi hw 12 rfl)) (ty := .int) (by decide)
          have F_most_o153 : Fld Z h153_35 o153 "com/example/awardsmith/awardsmith/plan/Installments" "most" "I" (.int (0 : Int32)) := D (Or.inr (hwi hw 14 rfl)) (ty := .int) (by decide)
          clear D X
          refine dup K S rfl d0_156 ?_
          refine iload K S rfl d0_157 ?_
          refine iload K S rfl d0_159 ?_
          refine iload K S rfl d0_161 ?_
          refine callC K S (W := 1) (m_ini l Z a0 hw n0 o153 (0 : Int32) r46 r54 h153_35 (Sle S) g_o153 E_o153 F_singleSum_o153 F_fewest_o153 F_most_o153 rfl rfl) rfl rfl (hwi hw 3 rfl) (hwi hw 4 rfl) (hwi hw 5 rfl) (hwi hw 2 rfl) (by decide) (by decide) (by decide) (by decide) (by decide) rfl (argsL := [.int (0 : Int32), .int r46, .int r54]) rfl (lenOf pd_1 rfl) (rest := [.ref o153]) rfl (Nat.le_of_eq rfl) d0_163 (ef fun T h163_36 hP S => ?_)
          obtain ⟨E_o153, F_singleSum_o153, F_fewest_o153, F_most_o153⟩ := hP
          show Wp n0 p e _ s below _ T (mkF m 166 #[.val (.int x0), .val (.int x1), .val (.int x2), .val (.int x3), .val (.int (1 : Int32)), .val (.int (0 : Int32)), .val (.int r46), .val (.int r54), .val (.int t63), .val (.int t101), .val (.int (0 : Int32)), .unset] [.ref o153])
          refine astore K S (l' := #[.val (.int x0), .val (.int x1), .val (.int x2), .val (.int x3), .val (.int (1 : Int32)), .val (.int (0 : Int32)), .val (.int r46), .val (.int r54), .val (.int t63), .val (.int t101), .val (.int (0 : Int32)), .val (.ref o153)]) rfl rfl d0_166 ?_
          refine aload K S rfl rfl d0_168 ?_
          refine iload K S rfl d0_170 ?_
          refine callV K S (W := 0) (m_allows l Z a0 hw n0 o153 t101 (0 : Int32) r46 r54 h163_36 (Sle S) F_singleSum_o153 F_fewest_o153 F_most_o153 (by decide)) E_o153 (hwi hw 15 rfl) (hwi hw 16 rfl) (hwi hw 18 rfl) (hwi hw 17 rfl) (hwi hw 19 rfl) (hwi hw 2 rfl) (by decide) (by decide) (by decide) (by decide) (by decide) rfl (argsL := [.int t101]) rfl (lenOf pd_3 rfl) (rest := []) rfl (Nat.le_of_eq rfl) d0_172 (pr fun T r172 pr172 S => ?_)
          show Wp n0 p e _ s below _ T (mkF m 175 #[.val (.int x0), .val (.int x1), .val (.int x2), .val (.int x3), .val (.int (1 : Int32)), .val (.int (0 : Int32)), .val (.int r46), .val (.int r54), .val (.int t63), .val (.int t101), .val (.int (0 : Int32)), .val (.ref o153)] [.int r172])
          refine iload K S rfl d0_175 ?_
          refine icmpz_ne K S d0_177 (fun (c177 : ¬ r172.toInt = 0) => ?_) (fun (c177 : r172.toInt = 0) => ?_)
          · exfalso; have q0 : (0 : Int32).toInt = 0 := rfl; have q1 : (1 : Int32).toInt = 1 := rfl; have q2 : (2 : Int32).toInt = 2 := rfl; omega
          refine iconst K S (x := (1 : Int32)) rfl d0_180 ?_
          refine goto K S d0_181 ?_
          refine retn K S (by simp) (y := (1 : Int32)) rfl (by decide) (by decide) d0_185 ?_
          rfl
        refine iconst K S (x := (1 : Int32)) rfl d0_146 ?_
        refine goto K S d0_147 ?_
        refine istore K S (l' := #[.val (.int x0), .val (.int x1), .val (.int x2), .val (.int x3), .val (.int (1 : Int32)), .val (.int (0 : Int32)), .val (.int r46), .val (.int r54), .val (.int t63), .val (.int t101), .val (.int (1 : Int32)), .unset]) rfl d0_151 ?_
        refine new K S (hwi hw 0 rfl) (hwi hw 1 rfl) (hwi hw 2 rfl) (by decide) (by decide) d0_153 fun T h153_37 o153 z_o153 g_o153 X E_o153 D S => ?_
        have F_singleSum_o153 : Fld Z h153_37 o153 "com/example/awardsmith/awardsmith/plan/Installments" "singleSum" "Z" (.int (0 : Int32)) := D (Or.inr (hwi hw 10 rfl)) (ty := .boolean) (by decide)
        have F_fewest_o153 : Fld Z h153_37 o153 "com/example/awardsmith/awardsmith/plan/Installments" "fewest" "I" (.int (0 : Int32)) := D (Or.inr (hwi hw 12 rfl)) (ty := .int) (by decide)
        have F_most_o153 : Fld Z h153_37 o153 "com/example/awardsmith/awardsmith/plan/Installments" "most" "I" (.int (0 : Int32)) := D (Or.inr (hwi hw 14 rfl)) (ty := .int) (by decide)
        clear D X
        refine dup K S rfl d0_156 ?_
        refine iload K S rfl d0_157 ?_
        refine iload K S rfl d0_159 ?_
        refine iload K S rfl d0_161 ?_
        refine callC K S (W := 1) (m_ini l Z a0 hw n0 o153 (0 : Int32) r46 r54 h153_37 (Sle S) g_o153 E_o153 F_singleSum_o153 F_fewest_o153 F_most_o153 rfl rfl) rfl rfl (hwi hw 3 rfl) (hwi hw 4 rfl) (hwi hw 5 rfl) (hwi hw 2 rfl) (by decide) (by decide) (by decide) (by decide) (by decide) rfl (argsL := [.int (0 : Int32), .int r46, .int r54]) rfl (lenOf pd_1 rfl) (rest := [.ref o153]) rfl (Nat.le_of_eq rfl) d0_163 (ef fun T h163_38 hP S => ?_)
        obtain ⟨E_o153, F_singleSum_o153, F_fewest_o153, F_most_o153⟩ := hP
        show Wp n0 p e _ s below _ T (mkF m 166 #[.val (.int x0), .val (.int x1), .val (.int x2), .val (.int x3), .val (.int (1 : Int32)), .val (.int (0 : Int32)), .val (.int r46), .val (.int r54), .val (.int t63), .val (.int t101), .val (.int (1 : Int32)), .unset] [.ref o153])
        refine astore K S (l' := #[.val (.int x0), .val (.int x1), .val (.int x2), .val (.int x3), .val (.int (1 : Int32)), .val (.int (0 : Int32)), .val (.int r46), .val (.int r54), .val (.int t63), .val (.int t101), .val (.int (1 : Int32)), .val (.ref o153)]) rfl rfl d0_166 ?_
        refine aload K S rfl rfl d0_168 ?_
        refine iload K S rfl d0_170 ?_
        refine callV K S (W := 0) (m_allows l Z a0 hw n0 o153 t101 (0 : Int32) r46 r54 h163_38 (Sle S) F_singleSum_o153 F_fewest_o153 F_most_o153 (by decide)) E_o153 (hwi hw 15 rfl) (hwi hw 16 rfl) (hwi hw 18 rfl) (hwi hw 17 rfl) (hwi hw 19 rfl) (hwi hw 2 rfl) (by decide) (by decide) (by decide) (by decide) (by decide) rfl (argsL := [.int t101]) rfl (lenOf pd_3 rfl) (rest := []) rfl (Nat.le_of_eq rfl) d0_172 (pr fun T r172 pr172 S => ?_)
        show Wp n0 p e _ s below _ T (mkF m 175 #[.val (.int x0), .val (.int x1), .val (.int x2), .val (.int x3), .val (.int (1 : Int32)), .val (.int (0 : Int32)), .val (.int r46), .val (.int r54), .val (.int t63), .val (.int t101), .val (.int (1 : Int32)), .val (.ref o153)] [.int r172])
        refine iload K S rfl d0_175 ?_
        refine icmpz_ne K S d0_177 (fun (c177 : ¬ r172.toInt = 1) => ?_) (fun (c177 : r172.toInt = 1) => ?_)
        · exfalso; have q0 : (0 : Int32).toInt = 0 := rfl; have q1 : (1 : Int32).toInt = 1 := rfl; have q2 : (2 : Int32).toInt = 2 := rfl; omega
        refine iconst K S (x := (1 : Int32)) rfl d0_180 ?_
        refine goto K S d0_181 ?_
        refine retn K S (by simp) (y := (1 : Int32)) rfl (by decide) (by decide) d0_185 ?_
        rfl
      refine iload K S rfl d0_122 ?_
      refine ificz_ne K S d0_124 (fun (c124 : ¬ 0 = 0) => ?_) (fun (c124 : 0 = 0) => ?_)
      · exact absurd c124 (by decide)
      refine iload K S rfl d0_127 ?_
      refine ificz_eq K S d0_129 (fun (c129 : 1 = 0) => ?_) (fun (c129 : ¬ 1 = 0) => ?_)
      · exact absurd c129 (by decide)
      refine iload K S rfl d0_132 ?_
      refine iload K S rfl d0_134 ?_
      refine icmpz_gt K S d0_136 (fun (c136 : t101.toInt < r46.toInt) => ?_) (fun (c136 : ¬ t101.toInt < r46.toInt) => ?_)
      · refine iconst K S (x := (0 : Int32)) rfl d0_150 ?_
        refine istore K S (l' := #[.val (.int x0), .val (.int x1), .val (.int x2), .val (.int x3), .val (.int (1 : Int32)), .val (.int (0 : Int32)), .val (.int r46), .val (.int r54), .val (.int t63), .val (.int t101), .val (.int (0 : Int32)), .unset]) rfl d0_151 ?_
        refine new K S (hwi hw 0 rfl) (hwi hw 1 rfl) (hwi hw 2 rfl) (by decide) (by decide) d0_153 fun T h153_39 o153 z_o153 g_o153 X E_o153 D S => ?_
        have F_singleSum_o153 : Fld Z h153_39 o153 "com/example/awardsmith/awardsmith/plan/Installments" "singleSum" "Z" (.int (0 : Int32)) := D (Or.inr (hwi hw 10 rfl)) (ty := .boolean) (by decide)
        have F_fewest_o153 : Fld Z h153_39 o153 "com/example/awardsmith/awardsmith/plan/Installments" "fewest" "I" (.int (0 : Int32)) := D (Or.inr (hwi hw 12 rfl)) (ty := .int) (by decide)
        have F_most_o153 : Fld Z h153_39 o153 "com/example/awardsmith/awardsmith/plan/Installments" "most" "I" (.int (0 : Int32)) := D (Or.inr (hwi hw 14 rfl)) (ty := .int) (by decide)
        clear D X
        refine dup K S rfl d0_156 ?_
        refine iload K S rfl d0_157 ?_
        refine iload K S rfl d0_159 ?_
        refine iload K S rfl d0_161 ?_
        refine callC K S (W := 1) (m_ini l Z a0 hw n0 o153 (0 : Int32) r46 r54 h153_39 (Sle S) g_o153 E_o153 F_singleSum_o153 F_fewest_o153 F_most_o153 rfl rfl) rfl rfl (hwi hw 3 rfl) (hwi hw 4 rfl) (hwi hw 5 rfl) (hwi hw 2 rfl) (by decide) (by decide) (by decide) (by decide) (by decide) rfl (argsL := [.int (0 : Int32), .int r46, .int r54]) rfl (lenOf pd_1 rfl) (rest := [.ref o153]) rfl (Nat.le_of_eq rfl) d0_163 (ef fun T h163_40 hP S => ?_)
        obtain ⟨E_o153, F_singleSum_o153, F_fewest_o153, F_most_o153⟩ := hP
        show Wp n0 p e _ s below _ T (mkF m 166 #[.val (.int x0), .val (.int x1), .val (.int x2), .val (.int x3), .val (.int (1 : Int32)), .val (.int (0 : Int32)), .val (.int r46), .val (.int r54), .val (.int t63), .val (.int t101), .val (.int (0 : Int32)), .unset] [.ref o153])
        refine astore K S (l' := #[.val (.int x0), .val (.int x1), .val (.int x2), .val (.int x3), .val (.int (1 : Int32)), .val (.int (0 : Int32)), .val (.int r46), .val (.int r54), .val (.int t63), .val (.int t101), .val (.int (0 : Int32)), .val (.ref o153)]) rfl rfl d0_166 ?_
        refine aload K S rfl rfl d0_168 ?_
        refine iload K S rfl d0_170 ?_
        refine callV K S (W := 0) (m_allows l Z a0 hw n0 o153 t101 (0 : Int32) r46 r54 h163_40 (Sle S) F_singleSum_o153 F_fewest_o153 F_most_o153 (by decide)) E_o153 (hwi hw 15 rfl) (hwi hw 16 rfl) (hwi hw 18 rfl) (hwi hw 17 rfl) (hwi hw 19 rfl) (hwi hw 2 rfl) (by decide) (by decide) (by decide) (by decide) (by decide) rfl (argsL := [.int t101]) rfl (lenOf pd_3 rfl) (rest := []) rfl (Nat.le_of_eq rfl) d0_172 (pr fun T r172 pr172 S => ?_)
        show Wp n0 p e _ s below _ T (mkF m 175 #[.val (.int x0), .val (.int x1), .val (.int x2), .val (.int x3), .val (.int (1 : Int32)), .val (.int (0 : Int32)), .val (.int r46), .val (.int r54), .val (.int t63), .val (.int t101), .val (.int (0 : Int32)), .val (.ref o153)] [.int r172])
        refine iload K S rfl d0_175 ?_
        refine icmpz_ne K S d0_177 (fun (c177 : ¬ r172.toInt = 0) => ?_) (fun (c177 : r172.toInt = 0) => ?_)
        · exfalso; have q0 : (0 : Int32).toInt = 0 := rfl; have q1 : (1 : Int32).toInt = 1 := rfl; have q2 : (2 : Int32).toInt = 2 := rfl; omega
        refine iconst K S (x := (1 : Int32)) rfl d0_180 ?_
        refine goto K S d0_181 ?_
        refine retn K S (by simp) (y := (1 : Int32)) rfl (by decide) (by decide) d0_185 ?_
        rfl
      refine iload K S rfl d0_139 ?_
      refine iload K S rfl d0_141 ?_
      refine icmpz_gt K S d0_143 (fun (c143 : r54.toInt < t101.toInt) => ?_) (fun (c143 : ¬ r54.toInt < t101.toInt) => ?_)
      · refine iconst K S (x := (0 : Int32)) rfl d0_150 ?_
        refine istore K S (l' := #[.val (.int x0), .val (.int x1), .val (.int x2), .val (.int x3), .val (.int (1 : Int32)), .val (.int (0 : Int32)), .val (.int r46), .val (.int r54), .val (.int t63), .val (.int t101), .val (.int (0 : Int32)), .unset]) rfl d0_151 ?_
        refine new K S (hwi hw 0 rfl) (hwi hw 1 rfl) (hwi hw 2 rfl) (by decide) (by decide) d0_153 fun T h153_41 o153 z_o153 g_o153 X E_o153 D S => ?_
        have F_singleSum_o153 : Fld Z h153_41 o153 "com/example/awardsmith/awardsmith/plan/Installments" "singleSum" "Z" (.int (0 : Int32)) := D (Or.inr (hwi hw 10 rfl)) (ty := .boolean) (by decide)
        have F_fewest_o153 : Fld Z h153_41 o153 "com/example/awardsmith/awardsmith/plan/Installments" "fewest" "I" (.int (0 : Int32)) := D (Or.inr (hwi hw 12 rfl)) (ty := .int) (by decide)
        have F_most_o153 : Fld Z h153_41 o153 "com/example/awardsmith/awardsmith/plan/Installments" "most" "I" (.int (0 : Int32)) := D (Or.inr (hwi hw 14 rfl)) (ty := .int) (by decide)
        clear D X
        refine dup K S rfl d0_156 ?_
        refine iload K S rfl d0_157 ?_
        refine iload K S rfl d0_159 ?_
        refine iload K S rfl d0_161 ?_
        refine callC K S (W := 1) (m_ini l Z a0 hw n0 o153 (0 : Int32) r46 r54 h153_41 (Sle S) g_o153 E_o153 F_singleSum_o153 F_fewest_o153 F_most_o153 rfl rfl) rfl rfl (hwi hw 3 rfl) (hwi hw 4 rfl) (hwi hw 5 rfl) (hwi hw 2 rfl) (by decide) (by decide) (by decide) (by decide) (by decide) rfl (argsL := [.int (0 : Int32), .int r46, .int r54]) rfl (lenOf pd_1 rfl) (rest := [.ref o153]) rfl (Nat.le_of_eq rfl) d0_163 (ef fun T h163_42 hP S => ?_)
        obtain ⟨E_o153, F_singleSum_o153, F_fewest_o153, F_most_o153⟩ := hP
        show Wp n0 p e _ s below _ T (mkF m 166 #[.val (.int x0), .val (.int x1), .val (.int x2), .val (.int x3), .val (.int (1 : Int32)), .val (.int (0 : Int32)), .val (.int r46), .val (.int r54), .val (.int t63), .val (.int t101), .val (.int (0 : Int32)), .unset] [.ref o153])
        refine astore K S (l' := #[.val (.int x0), .val (.int x1), .val (.int x2), .val (.int x3), .val (.int (1 : Int32)), .val (.int (0 : Int32)), .val (.int r46), .val (.int r54), .val (.int t63), .val (.int t101), .val (.int (0 : Int32)), .val (.ref o153)]) rfl rfl d0_166 ?_
        refine aload K S rfl rfl d0_168 ?_
        refine iload K S rfl d0_170 ?_
        refine callV K S (W := 0) (m_allows l Z a0 hw n0 o153 t101 (0 : Int32) r46 r54 h163_42 (Sle S) F_singleSum_o153 F_fewest_o153 F_most_o153 (by decide)) E_o153 (hwi hw 15 rfl) (hwi hw 16 rfl) (hwi hw 18 rfl) (hwi hw 17 rfl) (hwi hw 19 rfl) (hwi hw 2 rfl) (by decide) (by decide) (by decide) (by decide) (by decide) rfl (argsL := [.int t101]) rfl (lenOf pd_3 rfl) (rest := []) rfl (Nat.le_of_eq rfl) d0_172 (pr fun T r172 pr172 S => ?_)
        show Wp n0 p e _ s below _ T (mkF m 175 #[.val (.int x0), .val (.int x1), .val (.int x2), .val (.int x3), .val (.int (1 : Int32)), .val (.int (0 : Int32)), .val (.int r46), .val (.int r54), .val (.int t63), .val (.int t101), .val (.int (0 : Int32)), .val (.ref o153)] [.int r172])
        refine iload K S rfl d0_175 ?_
        refine icmpz_ne K S d0_177 (fun (c177 : ¬ r172.toInt = 0) => ?_) (fun (c177 : r172.toInt = 0) => ?_)
        · exfalso; have q0 : (0 : Int32).toInt = 0 := rfl; have q1 : (1 : Int32).toInt = 1 := rfl; have q2 : (2 : Int32).toInt = 2 := rfl; omega
        refine iconst K S (x := (1 : Int32)) rfl d0_180 ?_
        refine goto K S d0_181 ?_
        refine retn K S (by simp) (y := (1 : Int32)) rfl (by decide) (by decide) d0_185 ?_
        rfl
      refine iconst K S (x := (1 : Int32)) rfl d0_146 ?_
      refine goto K S d0_147 ?_
      refine istore K S (l' := #[.val (.int x0), .val (.int x1), .val (.int x2), .val (.int x3), .val (.int (1 : Int32)), .val (.int (0 : Int32)), .val (.int r46), .val (.int r54), .val (.int t63), .val (.int t101), .val (.int (1 : Int32)), .unset]) rfl d0_151 ?_
      refine new K S (hwi hw 0 rfl) (hwi hw 1 rfl) (hwi hw 2 rfl) (by decide) (by decide) d0_153 fun T h153_43 o153 z_o153 g_o153 X E_o153 D S => ?_
      have F_singleSum_o153 : Fld Z h153_43 o153 "com/example/awardsmith/awardsmith/plan/Installments" "singleSum" "Z" (.int (0 : Int32)) := D (Or.inr (hwi hw 10 rfl)) (ty := .boolean) (by decide)
      have F_fewest_o153 : Fld Z h153_43 o153 "com/example/awardsmith/awardsmith/plan/Installments" "fewest" "I" (.int (0 : Int32)) := D (Or.inr (hwi hw 12 rfl)) (ty := .int) (by decide)
      have F_most_o153 : Fld Z h153_43 o153 "com/example/awardsmith/awardsmith/plan/Installments" "most" "I" (.int (0 : Int32)) := D (Or.inr (hwi hw 14 rfl)) (ty := .int) (by decide)
      clear D X
      refine dup K S rfl d0_156 ?_
      refine iload K S rfl d0_157 ?_
      refine iload K S rfl d0_159 ?_
      refine iload K S rfl d0_161 ?_
      refine callC K S (W := 1) (m_ini l Z a0 hw n0 o153 (0 : Int32) r46 r54 h153_43 (Sle S) g_o153 E_o153 F_singleSum_o153 F_fewest_o153 F_most_o153 rfl rfl) rfl rfl (hwi hw 3 rfl) (hwi hw 4 rfl) (hwi hw 5 rfl) (hwi hw 2 rfl) (by decide) (by decide) (by decide) (by decide) (by decide) rfl (argsL := [.int (0 : Int32), .int r46, .int r54]) rfl (lenOf pd_1 rfl) (rest := [.ref o153]) rfl (Nat.le_of_eq rfl) d0_163 (ef fun T h163_44 hP S => ?_)
      obtain ⟨E_o153, F_singleSum_o153, F_fewest_o153, F_most_o153⟩ := hP
      show Wp n0 p e _ s below _ T (mkF m 166 #[.val (.int x0), .val (.int x1), .val (.int x2), .val (.int x3), .val (.int (1 : Int32)), .val (.int (0 : Int32)), .val (.int r46), .val (.int r54), .val (.int t63), .val (.int t101), .val (.int (1 : Int32)), .unset] [.ref o153])
      refine astore K S (l' := #[.val (.int x0), .val (.int x1), .val (.int x2), .val (.int x3), .val (.int (1 : Int32)), .val (.int (0 : Int32)), .val (.int r46), .val (.int r54), .val (.int t63), .val (.int t101), .val (.int (1 : Int32)), .val (.ref o153)]) rfl rfl d0_166 ?_
      refine aload K S rfl rfl d0_168 ?_
      refine iload K S rfl d0_170 ?_
      refine callV K S (W := 0) (m_allows l Z a0 hw n0 o153 t101 (0 : Int32) r46 r54 h163_44 (Sle S) F_singleSum_o153 F_fewest_o153 F_most_o153 (by decide)) E_o153 (hwi hw 15 rfl) (hwi hw 16 rfl) (hwi hw 18 rfl) (hwi hw 17 rfl) (hwi hw 19 rfl) (hwi hw 2 rfl) (by decide) (by decide) (by decide) (by decide) (by decide) rfl (argsL := [.int t101]) rfl (lenOf pd_3 rfl) (rest := []) rfl (Nat.le_of_eq rfl) d0_172 (pr fun T r172 pr172 S => ?_)
      show Wp n0 p e _ s below _ T (mkF m 175 #[.val (.int x0), .val (.int x1), .val (.int x2), .val (.int x3), .val (.int (1 : Int32)), .val (.int (0 : Int32)), .val (.int r46), .val (.int r54), .val (.int t63), .val (.int t101), .val (.int (1 : Int32)), .val (.ref o153)] [.int r172])
      refine iload K S rfl d0_175 ?_
      refine icmpz_ne K S d0_177 (fun (c177 : ¬ r172.toInt = 1) => ?_) (fun (c177 : r172.toInt = 1) => ?_)
      · exfalso; have q0 : (0 : Int32).toInt = 0 := rfl; have q1 : (1 : Int32).toInt = 1 := rfl; have q2 : (2 : Int32).toInt = 2 := rfl; omega
      refine iconst K S (x := (1 : Int32)) rfl d0_180 ?_
      refine goto K S d0_181 ?_
      refine retn K S (by simp) (y := (1 : Int32)) rfl (by decide) (by decide) d0_185 ?_
      rfl
    refine iload K S rfl d0_75 ?_
    refine iconst K S (x := (1 : Int32)) rfl d0_77 ?_
    refine isub K S d0_78 ?_
    refine nmI fun t78 ht78 => ?_
    have ft78 : (t78.toInt - (r46.toInt - 1)) % 4294967296 = 0 := by rw [ht78]; exact c_isub r46 (1 : Int32)
    have rt78 := rng32 t78
    refine iload_n K S rfl d0_79 ?_
    refine iconst K S (x := (3 : Int32)) rfl d0_80 ?_
    refine iand K S d0_81 ?_
    refine nmI fun t81 ht81 => ?_
    have ft81 : t81.toInt = x3.toInt % 4 := by rw [ht81]; exact c_mask x3 (3 : Int32) 2 (by decide) (by decide)
    have rt81 := rng32 t81
    refine iadd K S d0_82 ?_
    refine nmI fun t82 ht82 => ?_
    have ft82 : (t82.toInt - (t78.toInt + t81.toInt)) % 4294967296 = 0 := by rw [ht82]; exact c_iadd t78 t81
    have rt82 := rng32 t82
    refine istore K S (l' := #[.val (.int x0), .val (.int x1), .val (.int x2), .val (.int x3), .val (.int (1 : Int32)), .val (.int (0 : Int32)), .val (.int r46), .val (.int r54), .val (.int t63), .val (.int t82), .unset, .unset]) rfl d0_83 ?_
    refine goto K S d0_85 ?_
    refine iload K S rfl d0_116 ?_
    refine iconst K S (x := (1 : Int32)) rfl d0_118 ?_
    refine icmpz_ne K S d0_119 (fun (c119 : ¬ t82.toInt = 1) => ?_) (fun (c119 : t82.toInt = 1) => ?_)
    · refine iload K S rfl d0_127 ?_
      refine ificz_eq K S d0_129 (fun (c129 : 1 = 0) => ?_) (fun (c129 : ¬ 1 = 0) => ?_)
      · exact absurd c129 (by decide)
      refine iload K S rfl d0_132 ?_
      refine iload K S rfl d0_134 ?_
      refine icmpz_gt K S d0_136 (fun (c136 : t82.toInt < r46.toInt) => ?_) (fun (c136 : ¬ t82.toInt < r46.toInt) => ?_)
      · refine iconst K S (x := (0 : Int32)) rfl d0_150 ?_
        refine istore K S (l' := #[.val (.int x0), .val (.int x1), .val (.int x2), .val (.int x3), .val (.int (1 : Int32)), .val (.int (0 : Int32)), .val (.int r46), .val (.int r54), .val (.int t63), .val (.int t82), .val (.int (0 : Int32)), .unset]) rfl d0_151 ?_
        refine new K S (hwi hw 0 rfl) (hwi hw 1 rfl) (hwi hw 2 rfl) (by decide) (by decide) d0_153 fun T h153_45 o153 z_o153 g_o153 X E_o153 D S => ?_
        have F_singleSum_o153 : Fld Z h153_45 o153 "com/example/awardsmith/awardsmith/plan/Installments" "singleSum" "Z" (.int (0 : Int32)) := D (Or.inr (hwi hw 10 rfl)) (ty := .boolean) (by decide)
        have F_fewest_o153 : Fld Z h153_45 o153 "com/example/awardsmith/awardsmith/plan/Installments" "fewest" "I" (.int (0 : Int32)) := D (Or.inr (hwi hw 12 rfl)) (ty := .int) (by decide)
        have F_most_o153 : Fld Z h153_45 o153 "com/example/awardsmith/awardsmith/plan/Installments" "most" "I" (.int (0 : Int32)) := D (Or.inr (hwi hw 14 rfl)) (ty := .int) (by decide)
        clear D X
        refine dup K S rfl d0_156 ?_
        refine iload K S rfl d0_157 ?_
        refine iload K S rfl d0_159 ?_
        refine iload K S rfl d0_161 ?_
        refine callC K S (W := 1) (m_ini l Z a0 hw n0 o153 (0 : Int32) r46 r54 h153_45 (Sle S) g_o153 E_o153 F_singleSum_o153 F_fewest_o153 F_most_o153 rfl rfl) rfl rfl (hwi hw 3 rfl) (hwi hw 4 rfl) (hwi hw 5 rfl) (hwi hw 2 rfl) (by decide) (by decide) (by decide) (by decide) (by decide) rfl (argsL := [.int (0 : Int32), .int r46, .int r54]) rfl (lenOf pd_1 rfl) (rest := [.ref o153]) rfl (Nat.le_of_eq rfl) d0_163 (ef fun T h163_46 hP S => ?_)
        obtain ⟨E_o153, F_singleSum_o153, F_fewest_o153, F_most_o153⟩ := hP
        show Wp n0 p e _ s below _ T (mkF m 166 #[.val (.int x0), .val (.int x1), .val (.int x2), .val (.int x3), .val (.int (1 : Int32)), .val (.int (0 : Int32)), .val (.int r46), .val (.int r54), .val (.int t63), .val (.int t82), .val (.int (0 : Int32)), .unset] [.ref o153])
        refine astore K S (l' := #[.val (.int x0), .val (.int x1), .val (.int x2), .val (.int x3), .val (.int (1 : Int32)), .val (.int (0 : Int32)), .val (.int r46), .val (.int r54), .val (.int t63), .val (.int t82), .val (.int (0 : Int32)), .val (.ref o153)]) rfl rfl d0_166 ?_
        refine aload K S rfl rfl d0_168 ?_
        refine iload K S rfl d0_170 ?_
        refine callV K S (W := 0) (m_allows l Z a0 hw n0 o153 t82 (0 : Int32) r46 r54 h163_46 (Sle S) F_singleSum_o153 F_fewest_o153 F_most_o153 (by decide)) E_o153 (hwi hw 15 rfl) (hwi hw 16 rfl) (hwi hw 18 rfl) (hwi hw 17 rfl) (hwi hw 19 rfl) (hwi hw 2 rfl) (by decide) (by decide) (by decide) (by decide) (by decide) rfl (argsL := [.int t82]) rfl (lenOf pd_3 rfl) (rest := []) rfl (Nat.le_of_eq rfl) d0_172 (pr fun T r172 pr172 S => ?_)
        show Wp n0 p e _ s below _ T (mkF m 175 #[.val (.int x0), .val (.int x1), .val (.int x2), .val (.int x3), .val (.int (1 : Int32)), .val (.int (0 : Int32)), .val (.int r46), .val (.int r54), .val (.int t63), .val (.int t82), .val (.int (0 : Int32)), .val (.ref o153)] [.int r172])
        refine iload K S rfl d0_175 ?_
        refine icmpz_ne K S d0_177 (fun (c177 : ¬ r172.toInt = 0) => ?_) (fun (c177 : r172.toInt = 0) => ?_)
        · exfalso; have q0 : (0 : Int32).toInt = 0 := rfl; have q1 : (1 : Int32).toInt = 1 := rfl; have q2 : (2 : Int32).toInt = 2 := rfl; omega
        refine iconst K S (x := (1 : Int32)) rfl d0_180 ?_
        refine goto K S d0_181 ?_
        refine retn K S (by simp) (y := (1 : Int32)) rfl (by decide) (by decide) d0_185 ?_
        rfl
      refine iload K S rfl d0_139 ?_
      refine iload K S rfl d0_141 ?_
      refine icmpz_gt K S d0_143 (fun (c143 : r54.toInt < t82.toInt) => ?_) (fun (c143 : ¬ r54.toInt < t82.toInt) => ?_)
      · refine iconst K S (x := (0 : Int32)) rfl d0_150 ?_
        refine istore K S (l' := #[.val (.int x0), .val (.int x1), .val (.int x2), .val (.int x3), .val (.int (1 : Int32)), .val (.int (0 : Int32)), .val (.int r46), .val (.int r54), .val (.int t63), .val (.int t82), .val (.int (0 : Int32)), .unset]) rfl d0_151 ?_
        refine new K S (hwi hw 0 rfl) (hwi hw 1 rfl) (hwi hw 2 rfl) (by decide) (by decide) d0_153 fun T h153_47 o153 z_o153 g_o153 X E_o153 D S => ?_
        have F_singleSum_o153 : Fld Z h153_47 o153 "com/example/awardsmith/awardsmith/plan/Installments" "singleSum" "Z" (.int (0 : Int32)) := D (Or.inr (hwi hw 10 rfl)) (ty := .boolean) (by decide)
        have F_fewest_o153 : Fld Z h153_47 o153 "com/example/awardsmith/awardsmith/plan/Installments" "fewest" "I" (.int (0 : Int32)) := D (Or.inr (hwi hw 12 rfl)) (ty := .int) (by decide)
        have F_most_o153 : Fld Z h153_47 o153 "com/example/awardsmith/awardsmith/plan/Installments" "most" "I" (.int (0 : Int32)) := D (Or.inr (hwi hw 14 rfl)) (ty := .int) (by decide)
        clear D X
        refine dup K S rfl d0_156 ?_
        refine iload K S rfl d0_157 ?_
        refine iload K S rfl d0_159 ?_
        refine iload K S rfl d0_161 ?_
        refine callC K S (W := 1) (m_ini l Z a0 hw n0 o153 (0 : Int32) r46 r54 h153_47 (Sle S) g_o153 E_o153 F_singleSum_o153 F_fewest_o153 F_most_o153 rfl rfl) rfl rfl (hwi hw 3 rfl) (hwi hw 4 rfl) (hwi hw 5 rfl) (hwi hw 2 rfl) (by decide) (by decide) (by decide) (by decide) (by decide) rfl (argsL := [.int (0 : Int32), .int r46, .int r54]) rfl (lenOf pd_1 rfl) (rest := [.ref o153]) rfl (Nat.le_of_eq rfl) d0_163 (ef fun T h163_48 hP S => ?_)
        obtain ⟨E_o153, F_singleSum_o153, F_fewest_o153, F_most_o153⟩ := hP
        show Wp n0 p e _ s below _ T (mkF m 166 #[.val (.int x0), .val (.int x1), .val (.int x2), .val (.int x3), .val (.int (1 : Int32)), .val (.int (0 : Int32)), .val (.int r46), .val (.int r54), .val (.int t63), .val (.int t82), .val (.int (0 : Int32)), .unset] [.ref o153])
        refine astore K S (l' := #[.val (.int x0), .val (.int x1), .val (.int x2), .val (.int x3), .val (.int (1 : Int32)), .val (.int (0 : Int32)), .val (.int r46), .val (.int r54), .val (.int t63), .val (.int t82), .val (.int (0 : Int32)), .val (.ref o153)]) rfl rfl d0_166 ?_
        refine aload K S rfl rfl d0_168 ?_
        refine iload K S rfl d0_170 ?_
        refine callV K S (W := 0) (m_allows l Z a0 hw n0 o153 t82 (0 : Int32) r46 r54 h163_48 (Sle S) F_singleSum_o153 F_fewest_o153 F_most_o153 (by decide)) E_o153 (hwi hw 15 rfl) (hwi hw 16 rfl) (hwi hw 18 rfl) (hwi hw 17 rfl) (hwi hw 19 rfl) (hwi hw 2 rfl) (by decide) (by decide) (by decide) (by decide) (by decide) rfl (argsL := [.int t82]) rfl (lenOf pd_3 rfl) (rest := []) rfl (Nat.le_of_eq rfl) d0_172 (pr fun T r172 pr172 S => ?_)
        show Wp n0 p e _ s below _ T (mkF m 175 #[.val (.int x0), .val (.int x1), .val (.int x2), .val (.int x3), .val (.int (1 : Int32)), .val (.int (0 : Int32)), .val (.int r46), .val (.int r54), .val (.int t63), .val (.int t82), .val (.int (0 : Int32)), .val (.ref o153)] [.int r172])
        refine iload K S rfl d0_175 ?_
        refine icmpz_ne K S d0_177 (fun (c177 : ¬ r172.toInt = 0) => ?_) (fun (c177 : r172.toInt = 0) => ?_)
        · exfalso; have q0 : (0 : Int32).toInt = 0 := rfl; have q1 : (1 : Int32).toInt = 1 := rfl; have q2 : (2 : Int32).toInt = 2 := rfl; omega
        refine iconst K S (x := (1 : Int32)) rfl d0_180 ?_
        refine goto K S d0_181 ?_
        refine retn K S (by simp) (y := (1 : Int32)) rfl (by decide) (by decide) d0_185 ?_
        rfl
      refine iconst K S (x := (1 : Int32)) rfl d0_146 ?_
      refine goto K S d0_147 ?_
      refine istore K S (l' := #[.val (.int x0), .val (.int x1), .val (.int x2), .val (.int x3), .val (.int (1 : Int32)), .val (.int (0 : Int32)), .val (.int r46), .val (.int r54), .val (.int t63), .val (.int t82), .val (.int (1 : Int32)), .unset]) rfl d0_151 ?_
      refine new K S (hwi hw 0 rfl) (hwi hw 1 rfl) (hwi hw 2 rfl) (by decide) (by decide) d0_153 fun T h153_49 o153 z_o153 g_o153 X E_o153 D S => ?_
      have F_singleSum_o153 : Fld Z h153_49 o153 "com/example/awardsmith/awardsmith/plan/Installments" "singleSum" "Z" (.int (0 : Int32)) := D (Or.inr (hwi hw 10 rfl)) (ty := .boolean) (by decide)
      have F_fewest_o153 : Fld Z h153_49 o153 "com/example/awardsmith/awardsmith/plan/Installments" "fewest" "I" (.int (0 : Int32)) := D (Or.inr (hwi hw 12 rfl)) (ty := .int) (by decide)
      have F_most_o153 : Fld Z h153_49 o153 "com/example/awardsmith/awardsmith/plan/Installments" "most" "I" (.int (0 : Int32)) := D (Or.inr (hwi hw 14 rfl)) (ty := .int) (by decide)
      clear D X
      refine dup K S rfl d0_156 ?_
      refine iload K S rfl d0_157 ?_
      refine iload K S rfl d0_159 ?_
      refine iload K S rfl d0_161 ?_
      refine callC K S (W := 1) (m_ini l Z a0 hw n0 o153 (0 : Int32) r46 r54 h153_49 (Sle S) g_o153 E_o153 F_singleSum_o153 F_fewest_o153 F_most_o153 rfl rfl) rfl rfl (hwi hw 3 rfl) (hwi hw 4 rfl) (hwi hw 5 rfl) (hwi hw 2 rfl) (by decide) (by decide) (by decide) (by decide) (by decide) rfl (argsL := [.int (0 : Int32), .int r46, .int r54]) rfl (lenOf pd_1 rfl) (rest := [.ref o153]) rfl (Nat.le_of_eq rfl) d0_163 (ef fun T h163_50 hP S => ?_)
      obtain ⟨E_o153, F_singleSum_o153, F_fewest_o153, F_most_o153⟩ := hP
      show Wp n0 p e _ s below _ T (mkF m 166 #[.val (.int x0), .val (.int x1), .val (.int x2), .val (.int x3), .val (.int (1 : Int32)), .val (.int (0 : Int32)), .val (.int r46), .val (.int r54), .val (.int t63), .val (.int t82), .val (.int (1 : Int32)), .unset] [.ref o153])
      refine astore K S (l' := #[.val (.int x0), .val (.int x1), .val (.int x2), .val (.int x3), .val (.int (1 : Int32)), .val (.int (0 : Int32)), .val (.int r46), .val (.int r54), .val (.int t63), .val (.int t82), .val (.int (1 : Int32)), .val (.ref o153)]) rfl rfl d0_166 ?_
      refine aload K S rfl rfl d0_168 ?_
      refine iload K S rfl d0_170 ?_
      refine callV K S (W := 0) (m_allows l Z a0 hw n0 o153 t82 (0 : Int32) r46 r54 h163_50 (Sle S) F_singleSum_o153 F_fewest_o153 F_most_o153 (by decide)) E_o153 (hwi hw 15 rfl) (hwi hw 16 rfl) (hwi hw 18 rfl) (hwi hw 17 rfl) (hwi hw 19 rfl) (hwi hw 2 rfl) (by decide) (by decide) (by decide) (by decide) (by decide) rfl (argsL := [.int t82]) rfl (lenOf pd_3 rfl) (rest := []) rfl (Nat.le_of_eq rfl) d0_172 (pr fun T r172 pr172 S => ?_)
      show Wp n0 p e _ s below _ T (mkF m 175 #[.val (.int x0), .val (.int x1), .val (.int x2), .val (.int x3), .val (.int (1 : Int32)), .val (.int (0 : Int32)), .val (.int r46), .val (.int r54), .val (.int t63), .val (.int t82), .val (.int (1 : Int32)), .val (.ref o153)] [.int r172])
      refine iload K S rfl d0_175 ?_
      refine icmpz_ne K S d0_177 (fun (c177 : ¬ r172.toInt = 1) => ?_) (fun (c177 : r172.toInt = 1) => ?_)
      · exfalso; have q0 : (0 : Int32).toInt = 0 := rfl; have q1 : (1 : Int32).toInt = 1 := rfl; have q2 : (2 : Int32).toInt = 2 := rfl; omega
      refine iconst K S (x := (1 : Int32)) rfl d0_180 ?_
      refine goto K S d0_181 ?_
      refine retn K S (by simp) (y := (1 : Int32)) rfl (by decide) (by decide) d0_185 ?_
      rfl
    refine iload K S rfl d0_122 ?_
    refine ificz_ne K S d0_124 (fun (c124 : ¬ 0 = 0) => ?_) (fun (c124 : 0 = 0) => ?_)
    · exact absurd c124 (by decide)
    refine iload K S rfl d0_127 ?_
    refine ificz_eq K S d0_129 (fun (c129 : 1 = 0) => ?_) (fun (c129 : ¬ 1 = 0) => ?_)
    · exact absurd c129 (by decide)
    refine iload K S rfl d0_132 ?_
    refine iload K S rfl d0_134 ?_
    refine icmpz_gt K S d0_136 (fun (c136 : t82.toInt < r46.toInt) => ?_) (fun (c136 : ¬ t82.toInt < r46.toInt) => ?_)
    · refine iconst K S (x := (0 : Int32)) rfl d0_150 ?_
      refine istore K S (l' := #[.val (.int x0), .val (.int x1), .val (.int x2), .val (.int x3), .val (.int (1 : Int32)), .val (.int (0 : Int32)), .val (.int r46), .val (.int r54), .val (.int t63), .val (.int t82), .val (.int (0 : Int32)), .unset]) rfl d0_151 ?_
      refine new K S (hwi hw 0 rfl) (hwi hw 1 rfl) (hwi hw 2 rfl) (by decide) (by decide) d0_153 fun T h153_51 o153 z_o153 g_o153 X E_o153 D S => ?_
      have F_singleSum_o153 : Fld Z h153_51 o153 "com/example/awardsmith/awardsmith/plan/Installments" "singleSum" "Z" (.int (0 : Int32)) := D (Or.inr (hwi hw 10 rfl)) (ty := .boolean) (by decide)
      have F_fewest_o153 : Fld Z h153_51 o153 "com/example/awardsmith/awardsmith/plan/Installments" "fewest" "I" (.int (0 : Int32)) := D (Or.inr (hwi hw 12 rfl)) (ty := .int) (by decide)
      have F_most_o153 : Fld Z h153_51 o153 "com/example/awardsmith/awardsmith/plan/Installments" "most" "I" (.int (0 : Int32)) := D (Or.inr (hwi hw 14 rfl)) (ty := .int) (by decide)
      clear D X
      refine dup K S rfl d0_156 ?_
      refine iload K S rfl d0_157 ?_
      refine iload K S rfl d0_159 ?_
      refine iload K S rfl d0_161 ?_
      refine callC K S (W := 1) (m_ini l Z a0 hw n0 o153 (0 : Int32) r46 r54 h153_51 (Sle S) g_o153 E_o153 F_singleSum_o153 F_fewest_o153 F_most_o153 rfl rfl) rfl rfl (hwi hw 3 rfl) (hwi hw 4 rfl) (hwi hw 5 rfl) (hwi hw 2 rfl) (by decide) (by decide) (by decide) (by decide) (by decide) rfl (argsL := [.int (0 : Int32), .int r46, .int r54]) rfl (lenOf pd_1 rfl) (rest := [.ref o153]) rfl (Nat.le_of_eq rfl) d0_163 (ef fun T h163_52 hP S => ?_)
      obtain ⟨E_o153, F_singleSum_o153, F_fewest_o153, F_most_o153⟩ := hP
      show Wp n0 p e _ s below _ T (mkF m 166 #[.val (.int x0), .val (.int x1), .val (.int x2), .val (.int x3), .val (.int (1 : Int32)), .val (.int (0 : Int32)), .val (.int r46), .val (.int r54), .val (.int t63), .val (.int t82), .val (.int (0 : Int32)), .unset] [.ref o153])
      refine astore K S (l' := #[.val (.int x0), .val (.int x1), .val (.int x2), .val (.int x3), .val (.int (1 : Int32)), .val (.int (0 : Int32)), .val (.int r46), .val (.int r54), .val (.int t63), .val (.int t82), .val (.int (0 : Int32)), .val (.ref o153)]) rfl rfl d0_166 ?_
      refine aload K S rfl rfl d0_168 ?_
      refine iload K S rfl d0_170 ?_
      refine callV K S (W := 0) (m_allows l Z a0 hw n0 o153 t82 (0 : Int32) r46 r54 h163_52 (Sle S) F_singleSum_o153 F_fewest_o153 F_most_o153 (by decide)) E_o153 (hwi hw 15 rfl) (hwi hw 16 rfl) (hwi hw 18 rfl) (hwi hw 17 rfl) (hwi hw 19 rfl) (hwi hw 2 rfl) (by decide) (by decide) (by decide) (by decide) (by decide) rfl (argsL := [.int t82]) rfl (lenOf pd_3 rfl) (rest := []) rfl (Nat.le_of_eq rfl) d0_172 (pr fun T r172 pr172 S => ?_)
      show Wp n0 p e _ s below _ T (mkF m 175 #[.val (.int x0), .val (.int x1), .val (.int x2), .val (.int x3), .val (.int (1 : Int32)), .val (.int (0 : Int32)), .val (.int r46), .val (.int r54), .val (.int t63), .val (.int t82), .val (.int (0 : Int32)), .val (.ref o153)] [.int r172])
      refine iload K S rfl d0_175 ?_
      refine icmpz_ne K S d0_177 (fun (c177 : ¬ r172.toInt = 0) => ?_) (fun (c177 : r172.toInt = 0) => ?_)
      · exfalso; have q0 : (0 : Int32).toInt = 0 := rfl; have q1 : (1 : Int32).toInt = 1 := rfl; have q2 : (2 : Int32).toInt = 2 := rfl; omega
      refine iconst K S (x := (1 : Int32)) rfl d0_180 ?_
      refine goto K S d0_181 ?_
      refine retn K S (by simp) (y := (1 : Int32)) rfl (by decide) (by decide) d0_185 ?_
      rfl
    refine iload K S rfl d0_139 ?_
    refine iload K S rfl d0_141 ?_
    refine icmpz_gt K S d0_143 (fun (c143 : r54.toInt < t82.toInt) => ?_) (fun (c143 : ¬ r54.toInt < t82.toInt) => ?_)
    · refine iconst K S (x := (0 : Int32)) rfl d0_150 ?_
      refine istore K S (l' := #[.val (.int x0), .val (.int x1), .val (.int x2), .val (.int x3), .val (.int (1 : Int32)), .val (.int (0 : Int32)), .val (.int r46), .val (.int r54), .val (.int t63), .val (.int t82), .val (.int (0 : Int32)), .unset]) rfl d0_151 ?_
      refine new K S (hwi hw 0 rfl) (hwi hw 1 rfl) (hwi hw 2 rfl) (by decide) (by decide) d0_153 fun T h153_53 o153 z_o153 g_o153 X E_o153 D S => ?_
      have F_singleSum_o153 : Fld Z h153_53 o153 "com/example/awardsmith/awardsmith/plan/Installments" "singleSum" "Z" (.int (0 : Int32)) := D (Or.inr (hwi hw 10 rfl)) (ty := .boolean) (by decide)
      have F_fewest_o153 : Fld Z h153_53 o153 "com/example/awardsmith/awardsmith/plan/Installments" "fewest" "I" (.int (0 : Int32)) := D (Or.inr (hwi hw 12 rfl)) (ty := .int) (by decide)
      have F_most_o153 : Fld Z h153_53 o153 "com/example/awardsmith/awardsmith/plan/Installments" "most" "I" (.int (0 : Int32)) := D (Or.inr (hwi hw 14 rfl)) (ty := .int) (by decide)
      clear D X
      refine dup K S rfl d0_156 ?_
      refine iload K S rfl d0_157 ?_
      refine iload K S rfl d0_159 ?_
      refine iload K S rfl d0_161 ?_
      refine callC K S (W := 1) (m_ini l Z a0 hw n0 o153 (0 : Int32) r46 r54 h153_53 (Sle S) g_o153 E_o153 F_singleSum_o153 F_fewest_o153 F_most_o153 rfl rfl) rfl rfl (hwi hw 3 rfl) (hwi hw 4 rfl) (hwi hw 5 rfl) (hwi hw 2 rfl) (by decide) (by decide) (by decide) (by decide) (by decide) rfl (argsL := [.int (0 : Int32), .int r46, .int r54]) rfl (lenOf pd_1 rfl) (rest := [.ref o153]) rfl (Nat.le_of_eq rfl) d0_163 (ef fun T h163_54 hP S => ?_)
      obtain ⟨E_o153, F_singleSum_o153, F_fewest_o153, F_most_o153⟩ := hP
      show Wp n0 p e _ s below _ T (mkF m 166 #[.val (.int x0), .val (.int x1), .val (.int x2), .val (.int x3), .val (.int (1 : Int32)), .val (.int (0 : Int32)), .val (.int r46), .val (.int r54), .val (.int t63), .val (.int t82), .val (.int (0 : Int32)), .unset] [.ref o153])
      refine astore K S (l' := #[.val (.int x0), .val (.int x1), .val (.int x2), .val (.int x3), .val (.int (1 : Int32)), .val (.int (0 : Int32)), .val (.int r46), .val (.int r54), .val (.int t63), .val (.int t82), .val (.int (0 : Int32)), .val (.ref o153)]) rfl rfl d0_166 ?_
      refine aload K S rfl rfl d0_168 ?_
      refine iload K S rfl d0_170 ?_
      refine callV K S (W := 0) (m_allows l Z a0 hw n0 o153 t82 (0 : Int32) r46 r54 h163_54 (Sle S) F_singleSum_o153 F_fewest_o153 F_most_o153 (by decide)) E_o153 (hwi hw 15 rfl) (hwi hw 16 rfl) (hwi hw 18 rfl) (hwi hw 17 rfl) (hwi hw 19 rfl) (hwi hw 2 rfl) (by decide) (by decide) (by decide) (by decide) (by decide) rfl (argsL := [.int t82]) rfl (lenOf pd_3 rfl) (rest := []) rfl (Nat.le_of_eq rfl) d0_172 (pr fun T r172 pr172 S => ?_)
      show Wp n0 p e _ s below _ T (mkF m 175 #[.val (.int x0), .val (.int x1), .val (.int x2), .val (.int x3), .val (.int (1 : Int32)), .val (.int (0 : Int32)), .val (.int r46), .val (.int r54), .val (.int t63), .val (.int t82), .val (.int (0 : Int32)), .val (.ref o153)] [.int r172])
      refine iload K S rfl d0_175 ?_
      refine icmpz_ne K S d0_177 (fun (c177 : ¬ r172.toInt = 0) => ?_) (fun (c177 : r172.toInt = 0) => ?_)
      · exfalso; have q0 : (0 : Int32).toInt = 0 := rfl; have q1 : (1 : Int32).toInt = 1 := rfl; have q2 : (2 : Int32).toInt = 2 := rfl; omega
      refine iconst K S (x := (1 : Int32)) rfl d0_180 ?_
      refine goto K S d0_181 ?_
      refine retn K S (by simp) (y := (1 : Int32)) rfl (by decide) (by decide) d0_185 ?_
      rfl
    refine iconst K S (x := (1 : Int32)) rfl d0_146 ?_
    refine goto K S d0_147 ?_
    refine istore K S (l' := #[.val (.int x0), .val (.int x1), .val (.int x2), .val (.int x3), .val (.int (1 : Int32)), .val (.int (0 : Int32)), .val (.int r46), .val (.int r54), .val (.int t63), .val (.int t82), .val (.int (1 : Int32)), .unset]) rfl d0_151 ?_
    refine new K S (hwi hw 0 rfl) (hwi hw 1 rfl) (hwi hw 2 rfl) (by decide) (by decide) d0_153 fun T h153_55 o153 z_o153 g_o153 X E_o153 D S => ?_
    have F_singleSum_o153 : Fld Z h153_55 o153 "com/example/awardsmith/awardsmith/plan/Installments" "singleSum" "Z" (.int (0 : Int32)) := D (Or.inr (hwi hw 10 rfl)) (ty := .boolean) (by decide)
    have F_fewest_o153 : Fld Z h153_55 o153 "com/example/awardsmith/awardsmith/plan/Installments" "fewest" "I" (.int (0 : Int32)) := D (Or.inr (hwi hw 12 rfl)) (ty := .int) (by decide)
    have F_most_o153 : Fld Z h153_55 o153 "com/example/awardsmith/awardsmith/plan/Installments" "most" "I" (.int (0 : Int32)) := D (Or.inr (hwi hw 14 rfl)) (ty := .int) (by decide)
    clear D X
    refine dup K S rfl d0_156 ?_
    refine iload K S rfl d0_157 ?_
    refine iload K S rfl d0_159 ?_
    refine iload K S rfl d0_161 ?_
    refine callC K S (W := 1) (m_ini l Z a0 hw n0 o153 (0 : Int32) r46 r54 h153_55 (Sle S) g_o153 E_o153 F_singleSum_o153 F_fewest_o153 F_most_o153 rfl rfl) rfl rfl (hwi hw 3 rfl) (hwi hw 4 rfl) (hwi hw 5 rfl) (hwi hw 2 rfl) (by decide) (by decide) (by decide) (by decide) (by decide) rfl (argsL := [.int (0 : Int32), .int r46, .int r54]) rfl (lenOf pd_1 rfl) (rest := [.ref o153]) rfl (Nat.le_of_eq rfl) d0_163 (ef fun T h163_56 hP S => ?_)
    obtain ⟨E_o153, F_singleSum_o153, F_fewest_o153, F_most_o153⟩ := hP
    show Wp n0 p e _ s below _ T (mkF m 166 #[.val (.int x0), .val (.int x1), .val (.int x2), .val (.int x3), .val (.int (1 : Int32)), .val (.int (0 : Int32)), .val (.int r46), .val (.int r54), .val (.int t63), .val (.int t82), .val (.int (1 : Int32)), .unset] [.ref o153])
    refine astore K S (l' := #[.val (.int x0), .val (.int x1), .val (.int x2), .val (.int x3), .val (.int (1 : Int32)), .val (.int (0 : Int32)), .val (.int r46), .val (.int r54), .val (.int t63), .val (.int t82), .val (.int (1 : Int32)), .val (.ref o153)]) rfl rfl d0_166 ?_
    refine aload K S rfl rfl d0_168 ?_
    refine iload K S rfl d0_170 ?_
    refine callV K S (W := 0) (m_allows l Z a0 hw n0 o153 t82 (0 : Int32) r46 r54 h163_56 (Sle S) F_singleSum_o153 F_fewest_o153 F_most_o153 (by decide)) E_o153 (hwi hw 15 rfl) (hwi hw 16 rfl) (hwi hw 18 rfl) (hwi hw 17 rfl) (hwi hw 19 rfl) (hwi hw 2 rfl) (by decide) (by decide) (by decide) (by decide) (by decide) rfl (argsL := [.int t82]) rfl (lenOf pd_3 rfl) (rest := []) rfl (Nat.le_of_eq rfl) d0_172 (pr fun T r172 pr172 S => ?_)
    show Wp n0 p e _ s below _ T (mkF m 175 #[.val (.int x0), .val (.int x1), .val (.int x2), .val (.int x3), .val (.int (1 : Int32)), .val (.int (0 : Int32)), .val (.int r46), .val (.int r54), .val (.int t63), .val (.int t82), .val (.int (1 : Int32)), .val (.ref o153)] [.int r172])
    refine iload K S rfl d0_175 ?_
    refine icmpz_ne K S d0_177 (fun (c177 : ¬ r172.toInt = 1) => ?_) (fun (c177 : r172.toInt = 1) => ?_)
    · exfalso; have q0 : (0 : Int32).toInt = 0 := rfl; have q1 : (1 : Int32).toInt = 1 := rfl; have q2 : (2 : Int32).toInt = 2 := rfl; omega
    refine iconst K S (x := (1 : Int32)) rfl d0_180 ?_
    refine goto K S d0_181 ?_
    refine retn K S (by simp) (y := (1 : Int32)) rfl (by decide) (by decide) d0_185 ?_
    rfl
  refine iconst K S (x := (1 : Int32)) rfl d0_26 ?_
  refine goto K S d0_27 ?_
  refine istore K S (l' := #[.val (.int x0), .val (.int x1), .val (.int x2), .val (.int x3), .val (.int (1 : Int32)), .val (.int (1 : Int32)), .unset, .unset, .unset, .unset, .unset, .unset]) rfl d0_31 ?_
  refine iconst K S (x := (0 : Int32)) rfl d0_33 ?_
  refine istore K S (l' := #[.val (.int x0), .val (.int x1), .val (.int x2), .val (.int x3), .val (.int (1 : Int32)), .val (.int (1 : Int32)), .val (.int (0 : Int32)), .unset, .unset, .unset, .unset, .unset]) rfl d0_34 ?_
  refine iconst K S (x := (0 : Int32)) rfl d0_36 ?_
  refine istore K S (l' := #[.val (.int x0), .val (.int x1), .val (.int x2), .val (.int x3), .val (.int (1 : Int32)), .val (.int (1 : Int32)), .val (.int (0 : Int32)), .val (.int (0 : Int32)), .unset, .unset, .unset, .unset]) rfl d0_37 ?_
  refine iload K S rfl d0_39 ?_
  refine ificz_eq K S d0_41 (fun (c41 : 1 = 0) => ?_) (fun (c41 : ¬ 1 = 0) => ?_)
  · exact absurd c41 (by decide)
  refine iconst K S (x := (2 : Int32)) rfl d0_44 ?_
  refine iload_n K S rfl d0_45 ?_
  refine callS K S (W := 0) (m_max l Z a0 hw n0 (2 : Int32) x1 h (Sle S) ) (hwi hw 20 rfl) (hwi hw 21 rfl) (hwi hw 23 rfl) (hwi hw 22 rfl) (by decide) (by decide) (by decide) (by decide) (by decide) rfl (argsL := [.int (2 : Int32), .int x1]) rfl (lenOf pd_4 rfl) (rest := []) rfl (Nat.le_of_eq rfl) d0_46 (pr fun T r46 pr46 S => ?_)
  show Wp n0 p e _ s below _ T (mkF m 49 #[.val (.int x0), .val (.int x1), .val (.int x2), .val (.int x3), .val (.int (1 : Int32)), .val (.int (1 : Int32)), .val (.int (0 : Int32)), .val (.int (0 : Int32)), .unset, .unset, .unset, .unset] [.int r46])
  refine istore K S (l' := #[.val (.int x0), .val (.int x1), .val (.int x2), .val (.int x3), .val (.int (1 : Int32)), .val (.int (1 : Int32)), .val (.int r46), .val (.int (0 : Int32)), .unset, .unset, .unset, .unset]) rfl d0_49 ?_
  refine iload K S rfl d0_51 ?_
  refine iload_n K S rfl d0_53 ?_
  refine callS K S (W := 0) (m_max l Z a0 hw n0 r46 x2 h (Sle S) ) (hwi hw 20 rfl) (hwi hw 21 rfl) (hwi hw 23 rfl) (hwi hw 22 rfl) (by decide) (by decide) (by decide) (by decide) (by decide) rfl (argsL := [.int r46, .int x2]) rfl (lenOf pd_4 rfl) (rest := []) rfl (Nat.le_of_eq rfl) d0_54 (pr fun T r54 pr54 S => ?_)
  show Wp n0 p e _ s below _ T (mkF m 57 #[.val (.int x0), .val (.int x1), .val (.int x2), .val (.int x3), .val (.int (1 : Int32)), .val (.int (1 : Int32)), .val (.int r46), .val (.int (0 : Int32)), .unset, .unset, .unset, .unset] [.int r54])
  refine istore K S (l' := #[.val (.int x0), .val (.int x1), .val (.int x2), .val (.int x3), .val (.int (1 : Int32)), .val (.int (1 : Int32)), .val (.int r46), .val (.int r54), .unset, .unset, .unset, .unset]) rfl d0_57 ?_
  refine iload_n K S rfl d0_59 ?_
  refine iconst K S (x := (2 : Int32)) rfl d0_60 ?_
  refine iushr K S d0_61 ?_
  refine nmI fun t61 ht61 => ?_
  have ft61 : t61.toInt = (x0.toInt % 4294967296) / 4 := by rw [ht61]; exact c_iushr x0 (2 : Int32) 2 (by decide) (by decide)
  have rt61 := rng32 t61
  refine iconst K S (x := (3 : Int32)) rfl d0_62 ?_
  refine iand K S d0_63 ?_
  refine nmI fun t63 ht63 => ?_
  have ft63 : t63.toInt = t61.toInt % 4 := by rw [ht63]; exact c_mask t61 (3 : Int32) 2 (by decide) (by decide)
  have rt63 := rng32 t63
  refine istore K S (l' := #[.val (.int x0), .val (.int x1), .val (.int x2), .val (.int x3), .val (.int (1 : Int32)), .val (.int (1 : Int32)), .val (.int r46), .val (.int r54), .val (.int t63), .unset, .unset, .unset]) rfl d0_64 ?_
  refine iload_n K S rfl d0_66 ?_
  refine istore K S (l' := #[.val (.int x0), .val (.int x1), .val (.int x2), .val (.int x3), .val (.int (1 : Int32)), .val (.int (1 : Int32)), .val (.int r46), .val (.int r54), .val (.int t63), .val (.int x3), .unset, .unset]) rfl d0_67 ?_
  refine iload K S rfl d0_69 ?_
  refine iconst K S (x := (1 : Int32)) rfl d0_71 ?_
  refine icmpz_ne K S d0_72 (fun (c72 : ¬ t63.toInt = 1) => ?_) (fun (c72 : t63.toInt = 1) => ?_)
  · refine iload K S rfl d0_88 ?_
    refine iconst K S (x := (2 : Int32)) rfl d0_90 ?_
    refine icmpz_ne K S d0_91 (fun (c91 : ¬ t63.toInt = 2) => ?_) (fun (c91 : t63.toInt = 2) => ?_)
    · refine iload K S rfl d0_107 ?_
      refine iconst K S (x := (3 : Int32)) rfl d0_109 ?_
      refine icmpz_ne K S d0_110 (fun (c110 : ¬ t63.toInt = 3) => ?_) (fun (c110 : t63.toInt = 3) => ?_)
      · refine iload K S rfl d0_116 ?_
        refine iconst K S (x := (1 : Int32)) rfl d0_118 ?_
        refine icmpz_ne K S d0_119 (fun (c119 : ¬ x3.toInt = 1) => ?_) (fun (c119 : x3.toInt = 1) => ?_)
        · refine iload K S rfl d0_127 ?_
          refine ificz_eq K S d0_129 (fun (c129 : 1 = 0) => ?_) (fun (c129 : ¬ 1 = 0) => ?_)
          · exact absurd c129 (by decide)
          refine iload K S rfl d0_132 ?_
          refine iload K S rfl d0_134 ?_
          refine icmpz_gt K S d0_136 (fun (c136 : x3.toInt < r46.toInt) => ?_) (fun (c136 : ¬ x3.toInt < r46.toInt) => ?_)
          · refine iconst K S (x := (0 : Int32)) rfl d0_150 ?_
            refine istore K S (l' := #[.val (.int x0), .val (.int x1), .val (.int x2), .val (.int x3), .val (.int (1 : Int32)), .val (.int (1 : Int32)), .val (.int r46), .val (.int r54), .val (.int t63), .val (.int x3), .val (.int (0 : Int32)), .unset]) rfl d0_151 ?_
            refine new K S (hwi hw 0 rfl) (hwi hw 1 rfl) (hwi hw 2 rfl) (by decide) (by decide) d0_153 fun T h153_57 o153 z_o153 g_o153 X E_o153 D S => ?_
            have F_singleSum_o153 : Fld Z h153_57 o153 "com/example/awardsmith/awardsmith/plan/Installments" "singleSum" "Z" (.int (0 : Int32)) := D (Or.inr (hwi hw 10 rfl)) (ty := .boolean) (by decide)
            have F_fewest_o153 : Fld Z h153_57 o153 "com/example/awardsmith/awardsmith/plan/Installments" "fewest" "I" (.int (0 : Int32)) := D (Or.inr (hwi hw 12 rfl)) (ty := .int) (by decide)
            have F_most_o153 : Fld Z h153_57 o153 "com/example/awardsmith/awardsmith/plan/Installments" "most" "I" (.int (0 : Int32)) := D (Or.inr (hwi hw 14 rfl)) (ty := .int) (by decide)
            clear D X
            refine dup K S rfl d0_156 ?_
            refine iload K S rfl d0_157 ?_
            refine iload K S rfl d0_159 ?_
            refine iload K S rfl d0_161 ?_
            refine callC K S (W := 1) (m_ini l Z a0 hw n0 o153 (1 : Int32) r46 r54 h153_57 (Sle S) g_o153 E_o153 F_singleSum_o153 F_fewest_o153 F_most_o153 rfl rfl) rfl rfl (hwi hw 3 rfl) (hwi hw 4 rfl) (hwi hw 5 rfl) (hwi hw 2 rfl) (by decide) (by decide) (by decide) (by decide) (by decide) rfl (argsL := [.int (1 : Int32), .int r46, .int r54]) rfl (lenOf pd_1 rfl) (rest := [.ref o153]) rfl (Nat.le_of_eq rfl) d0_163 (ef fun T h163_58 hP S => ?_)
            obtain ⟨E_o153, F_singleSum_o153, F_fewest_o153, F_most_o153⟩ := hP
            show Wp n0 p e _ s below _ T (mkF m 166 #[.val (.int x0), .val (.int x1), .val (.int x2), .val (.int x3), .val (.int (1 : Int32)), .val (.int (1 : Int32)), .val (.int r46), .val (.int r54), .val (.int t63), .val (.int x3), .val (.int (0 : Int32)), .unset] [.ref o153])
            refine astore K S (l' := #[.val (.int x0), .val (.int x1), .val (.int x2), .val (.int x3), .val (.int (1 : Int32)), .val (.int (1 : Int32)), .val (.int r46), .val (.int r54), .val (.int t63), .val (.int x3), .val (.int (0 : Int32)), .val (.ref o153)]) rfl rfl d0_166 ?_
            refine aload K S rfl rfl d0_168 ?_
            refine iload K S rfl d0_170 ?_
            refine callV K S (W := 0) (m_allows l Z a0 hw n0 o153 x3 (1 : Int32) r46 r54 h163_58 (Sle S) F_singleSum_o153 F_fewest_o153 F_most_o153 (by decide)) E_o153 (hwi hw 15 rfl) (hwi hw 16 rfl) (hwi hw 18 rfl) (hwi hw 17 rfl) (hwi hw 19 rfl) (hwi hw 2 rfl) (by decide) (by decide) (by decide) (by decide) (by decide) rfl (argsL := [.int x3]) rfl (lenOf pd_3 rfl) (rest := []) rfl (Nat.le_of_eq rfl) d0_172 (pr fun T r172 pr172 S => ?_)
            show Wp n0 p e _ s below _ T (mkF m 175 #[.val (.int x0), .val (.int x1), .val (.int x2), .val (.int x3), .val (.int (1 : Int32)), .val (.int (1 : Int32)), .val (.int r46), .val (.int r54), .val (.int t63), .val (.int x3), .val (.int (0 : Int32)), .val (.ref o153)] [.int r172])
            refine iload K S rfl d0_175 ?_
            refine icmpz_ne K S d0_177 (fun (c177 : ¬ r172.toInt = 0) => ?_) (fun (c177 : r172.toInt = 0) => ?_)
            · exfalso; have q0 : (0 : Int32).toInt = 0 := rfl; have q1 : (1 : Int32).toInt = 1 := rfl; have q2 : (2 : Int32).toInt = 2 := rfl; omega
            refine iconst K S (x := (1 : Int32)) rfl d0_180 ?_
            refine goto K S d0_181 ?_
            refine retn K S (by simp) (y := (1 : Int32)) rfl (by decide) (by decide) d0_185 ?_
            rfl
          refine iload K S rfl d0_139 ?_
          refine iload K S rfl d0_141 ?_
          refine icmpz_gt K S d0_143 (fun (c143 : r54.toInt < x3.toInt) => ?_) (fun (c143 : ¬ r54.toInt < x3.toInt) => ?_)
          · refine iconst K S (x := (0 : Int32)) rfl d0_150 ?_
            refine istore K S (l' := #[.val (.int x0), .val (.int x1), .val (.int x2), .val (.int x3), .val (.int (1 : Int32)), .val (.int (1 : Int32)), .val (.int r46), .val (.int r54), .val (.int t63), .val (.int x3), .val (.int (0 : Int32)), .unset]) rfl d0_151 ?_
            refine new K S (hwi hw 0 rfl) (hwi hw 1 rfl) (hwi hw 2 rfl) (by decide) (by decide) d0_153 fun T h153_59 o153 z_o153 g_o153 X E_o153 D S => ?_
            have F_singleSum_o153 : Fld Z h153_59 o153 "com/example/awardsmith/awardsmith/plan/Installments" "singleSum" "Z" (.int (0 : Int32)) := D (Or.inr (hwi hw 10 rfl)) (ty := .boolean) (by decide)
            have F_fewest_o153 : Fld Z h153_59 o153 "com/example/awardsmith/awardsmith/plan/Installments" "fewest" "I" (.int (0 : Int32)) := D (Or.inr (hwi hw 12 rfl)) (ty := .int) (by decide)
            have F_most_o153 : Fld Z h153_59 o153 "com/example/awardsmith/awardsmith/plan/Installments" "most" "I" (.int (0 : Int32)) := D (Or.inr (hwi hw 14 rfl)) (ty := .int) (by decide)
            clear D X
            refine dup K S rfl d0_156 ?_
            refine iload K S rfl d0_157 ?_
            refine iload K S rfl d0_159 ?_
            refine iload K S rfl d0_161 ?_
            refine callC K S (W := 1) (m_ini l Z a0 hw n0 o153 (1 : Int32) r46 r54 h153_59 (Sle S) g_o153 E_o153 F_singleSum_o153 F_fewest_o153 F_most_o153 rfl rfl) rfl rfl (hwi hw 3 rfl) (hwi hw 4 rfl) (hwi hw 5 rfl) (hwi hw 2 rfl) (by decide) (by decide) (by decide) (by decide) (by decide) rfl (argsL := [.int (1 : Int32), .int r46, .int r54]) rfl (lenOf pd_1 rfl) (rest := [.ref o153]) rfl (Nat.le_of_eq rfl) d0_163 (ef fun T h163_60 hP S => ?_)
            obtain ⟨E_o153, F_singleSum_o153, F_fewest_o153, F_most_o153⟩ := hP
            show Wp n0 p e _ s below _ T (mkF m 166 #[.val (.int x0), .val (.int x1), .val (.int x2), .val (.int x3), .val (.int (1 : Int32)), .val (.int (1 : Int32)), .val (.int r46), .val (.int r54), .val (.int t63), .val (.int x3), .val (.int (0 : Int32)), .unset] [.ref o153])
            refine astore K S (l' := #[.val (.int x0), .val (.int x1), .val (.int x2), .val (.int x3), .val (.int (1 : Int32)), .val (.int (1 : Int32)), .val (.int r46), .val (.int r54), .val (.int t63), .val (.int x3), .val (.int (0 : Int32)), .val (.ref o153)]) rfl rfl d0_166 ?_
            refine aload K S rfl rfl d0_168 ?_
            refine iload K S rfl d0_170 ?_
            refine callV K S (W := 0) (m_allows l Z a0 hw n0 o153 x3 (1 : Int32) r46 r54 h163_60 (Sle S) F_singleSum_o153 F_fewest_o153 F_most_o153 (by decide)) E_o153 (hwi hw 15 rfl) (hwi hw 16 rfl) (hwi hw 18 rfl) (hwi hw 17 rfl) (hwi hw 19 rfl) (hwi hw 2 rfl) (by decide) (by decide) (by decide) (by decide) (by decide) rfl (argsL := [.int x3]) rfl (lenOf pd_3 rfl) (rest := []) rfl (Nat.le_of_eq rfl) d0_172 (pr fun T r172 pr172 S => ?_)
            show Wp n0 p e _ s below _ T (mkF m 175 #[.val (.int x0), .val (.int x1), .val (.int x2), .val (.int x3), .val (.int (1 : Int32)), .val (.int (1 : Int32)), .val (.int r46), .val (.int r54), .val (.int t63), .val (.int x3), .val (.int (0 : Int32)), .val (.ref o153)] [.int r172])
            refine iload K S rfl d0_175 ?_
            refine icmpz_ne K S d0_177 (fun (c177 : ¬ r172.toInt = 0) => ?_) (fun (c177 : r172.toInt = 0) => ?_)
            · exfalso; have q0 : (0 : Int32).toInt = 0 := rfl; have q1 : (1 : Int32).toInt = 1 := rfl; have q2 : (2 : Int32).toInt = 2 := rfl; omega
            refine iconst K S (x := (1 : Int32)) rfl d0_180 ?_
            refine goto K S d0_181 ?_
            refine retn K S (by simp) (y := (1 : Int32)) rfl (by decide) (by decide) d0_185 ?_
            rfl
          refine iconst K S (x := (1 : Int32)) rfl d0_146 ?_
          refine goto K S d0_147 ?_
          refine istore K S (l' := #[.val (.int x0), .val (.int x1), .val (.int x2), .val (.int x3), .val (.int (1 : Int32)), .val (.int (1 : Int32)), .val (.int r46), .val (.int r54), .val (.int t63), .val (.int x3), .val (.int (1 : Int32)), .unset]) rfl d0_151 ?_
          refine new K S (hwi hw 0 rfl) (hwi hw 1 rfl) (hwi hw 2 rfl) (by decide) (by decide) d0_153 fun T h153_61 o153 z_o153 g_o153 X E_o153 D S => ?_
          have F_singleSum_o153 : Fld Z h153_61 o153 "com/example/awardsmith/awardsmith/plan/Installments" "singleSum" "Z" (.int (0 : Int32)) := D (Or.inr (hwi hw 10 rfl)) (ty := .boolean) (by decide)
          have F_fewest_o153 : Fld Z h153_61 o153 "com/example/awardsmith/awardsmith/plan/Installments" "fewest" "I" (.int (0 : Int32)) := D (Or.inr (hwi hw 12 rfl)) (ty := .int) (by decide)
          have F_most_o153 : Fld Z h153_61 o153 "com/example/awardsmith/awardsmith/plan/Installments" "most" "I" (.int (0 : Int32)) := D (Or.inr (hwi hw 14 rfl)) (ty := .int) (by decide)
          clear D X
          refine dup K S rfl d0_156 ?_
          refine iload K S rfl d0_157 ?_
          refine iload K S rfl d0_159 ?_
          refine iload K S rfl d0_161 ?_
          refine callC K S (W := 1) (m_ini l Z a0 hw n0 o153 (1 : Int32) r46 r54 h153_61 (Sle S) g_o153 E_o153 F_singleSum_o153 F_fewest_o153 F_most_o153 rfl rfl) rfl rfl (hwi hw 3 rfl) (hwi hw 4 rfl) (hwi hw 5 rfl) (hwi hw 2 rfl) (by decide) (by decide) (by decide) (by decide) (by decide) rfl (argsL := [.int (1 : Int32), .int r46, .int r54]) rfl (lenOf pd_1 rfl) (rest := [.ref o153]) rfl (Nat.le_of_eq rfl) d0_163 (ef fun T h163_62 hP S => ?_)
          obtain ⟨E_o153, F_singleSum_o153, F_fewest_o153, F_most_o153⟩ := hP
          show Wp n0 p e _ s below _ T (mkF m 166 #[.val (.int x0), .val (.int x1), .val (.int x2), .val (.int x3), .val (.int (1 : Int32)), .val (.int (1 : Int32)), .val (.int r46), .val (.int r54), .val (.int t63), .val (.int x3), .val (.int (1 : Int32)), .unset] [.ref o153])
          refine astore K S (l' := #[.val (.int x0), .val (.int x1), .val (.int x2), .val (.int x3), .val (.int (1 : Int32)), .val (.int (1 : Int32)), .val (.int r46), .val (.int r54), .val (.int t63), .val (.int x3), .val (.int (1 : Int32)), .val (.ref o153)]) rfl rfl d0_166 ?_
          refine aload K S rfl rfl d0_168 ?_
          refine iload K S rfl d0_170 ?_
          refine callV K S (W := 0) (m_allows l Z a0 hw n0 o153 x3 (1 : Int32) r46 r54 h163_62 (Sle S) F_singleSum_o153 F_fewest_o153 F_most_o153 (by decide)) E_o153 (hwi hw 15 rfl) (hwi hw 16 rfl) (hwi hw 18 rfl) (hwi hw 17 rfl) (hwi hw 19 rfl) (hwi hw 2 rfl) (by decide) (by decide) (by decide) (by decide) (by decide) rfl (argsL := [.int x3]) rfl (lenOf pd_3 rfl) (rest := []) rfl (Nat.le_of_eq rfl) d0_172 (pr fun T r172 pr172 S => ?_)
          show Wp n0 p e _ s below _ T (mkF m 175 #[.val (.int x0), .val (.int x1), .val (.int x2), .val (.int x3), .val (.int (1 : Int32)), .val (.int (1 : Int32)), .val (.int r46), .val (.int r54), .val (.int t63), .val (.int x3), .val (.int (1 : Int32)), .val (.ref o153)] [.int r172])
          refine iload K S rfl d0_175 ?_
          refine icmpz_ne K S d0_177 (fun (c177 : ¬ r172.toInt = 1) => ?_) (fun (c177 : r172.toInt = 1) => ?_)
          · exfalso; have q0 : (0 : Int32).toInt = 0 := rfl; have q1 : (1 : Int32).toInt = 1 := rfl; have q2 : (2 : Int32).toInt = 2 := rfl; omega
          refine iconst K S (x := (1 : Int32)) rfl d0_180 ?_
          refine goto K S d0_181 ?_
          refine retn K S (by simp) (y := (1 : Int32)) rfl (by decide) (by decide) d0_185 ?_
          rfl
        refine iload K S rfl d0_122 ?_
        refine ificz_ne K S d0_124 (fun (c124 : ¬ 1 = 0) => ?_) (fun (c124 : 1 = 0) => ?_)
        rotate_left
        · exact absurd c124 (by decide)
        refine iconst K S (x := (1 : Int32)) rfl d0_146 ?_
        refine goto K S d0_147 ?_
        refine istore K S (l' := #[.val (.int x0), .val (.int x1), .val (.int x2), .val (.int x3), .val (.int (1 : Int32)), .val (.int (1 : Int32)), .val (.int r46), .val (.int r54), .val (.int t63), .val (.int x3), .val (.int (1 : Int32)), .unset]) rfl d0_151 ?_
        refine new K S (hwi hw 0 rfl) (hwi hw 1 rfl) (hwi hw 2 rfl) (by decide) (by decide) d0_153 fun T h153_63 o153 z_o153 g_o153 X E_o153 D S => ?_
        have F_singleSum_o153 : Fld Z h153_63 o153 "com/example/awardsmith/awardsmith/plan/Installments" "singleSum" "Z" (.int (0 : Int32)) := D (Or.inr (hwi hw 10 rfl)) (ty := .boolean) (by decide)
        have F_fewest_o153 : Fld Z h153_63 o153 "com/example/awardsmith/awardsmith/plan/Installments" "fewest" "I" (.int (0 : Int32)) := D (Or.inr (hwi hw 12 rfl)) (ty := .int) (by decide)
        have F_most_o153 : Fld Z h153_63 o153 "com/example/awardsmith/awardsmith/plan/Installments" "most" "I" (.int (0 : Int32)) := D (Or.inr (hwi hw 14 rfl)) (ty := .int) (by decide)
        clear D X
        refine dup K S rfl d0_156 ?_
        refine iload K S rfl d0_157 ?_
        refine iload K S rfl d0_159 ?_
        refine iload K S rfl d0_161 ?_
        refine callC K S (W := 1) (m_ini l Z a0 hw n0 o153 (1 : Int32) r46 r54 h153_63 (Sle S) g_o153 E_o153 F_singleSum_o153 F_fewest_o153 F_most_o153 rfl rfl) rfl rfl (hwi hw 3 rfl) (hwi hw 4 rfl) (hwi hw 5 rfl) (hwi hw 2 rfl) (by decide) (by decide) (by decide) (by decide) (by decide) rfl (argsL := [.int (1 : Int32), .int r46, .int r54]) rfl (lenOf pd_1 rfl) (rest := [.ref o153]) rfl (Nat.le_of_eq rfl) d0_163 (ef fun T h163_64 hP S => ?_)
        obtain ⟨E_o153, F_singleSum_o153, F_fewest_o153, F_most_o153⟩ := hP
        show Wp n0 p e _ s below _ T (mkF m 166 #[.val (.int x0), .val (.int x1), .val (.int x2), .val (.int x3), .val (.int (1 : Int32)), .val (.int (1 : Int32)), .val (.int r46), .val (.int r54), .val (.int t63), .val (.int x3), .val (.int (1 : Int32)), .unset] [.ref o153])
        refine astore K S (l' := #[.val (.int x0), .val (.int x1), .val (.int x2), .val (.int x3), .val (.int (1 : Int32)), .val (.int (1 : Int32)), .val (.int r46), .val (.int r54), .val (.int t63), .val (.int x3), .val (.int (1 : Int32)), .val (.ref o153)]) rfl rfl d0_166 ?_
        refine aload K S rfl rfl d0_168 ?_
        refine iload K S rfl d0_170 ?_
        refine callV K S (W := 0) (m_allows l Z a0 hw n0 o153 x3 (1 : Int32) r46 r54 h163_64 (Sle S) F_singleSum_o153 F_fewest_o153 F_most_o153 (by decide)) E_o153 (hwi hw 15 rfl) (hwi hw 16 rfl) (hwi hw 18 rfl) (hwi hw 17 rfl) (hwi hw 19 rfl) (hwi hw 2 rfl) (by decide) (by decide) (by decide) (by decide) (by decide) rfl (argsL := [.int x3]) rfl (lenOf pd_3 rfl) (rest := []) rfl (Nat.le_of_eq rfl) d0_172 (pr fun T r172 pr172 S => ?_)
        show Wp n0 p e _ s below _ T (mkF m 175 #[.val (.int x0), .val (.int x1), .val (.int x2), .val (.int x3), .val (.int (1 : Int32)), .val (.int (1 : Int32)), .val (.int r46), .val (.int r54), .val (.int t63), .val (.int x3), .val (.int (1 : Int32)), .val (.ref o153)] [.int r172])
        refine iload K S rfl d0_175 ?_
        refine icmpz_ne K S d0_177 (fun (c177 : ¬ r172.toInt = 1) => ?_) (fun (c177 : r172.toInt = 1) => ?_)
        · exfalso; have q0 : (0 : Int32).toInt = 0 := rfl; have q1 : (1 : Int32).toInt = 1 := rfl; have q2 : (2 : Int32).toInt = 2 := rfl; omega
        refine iconst K S (x := (1 : Int32)) rfl d0_180 ?_
        refine goto K S d0_181 ?_
        refine retn K S (by simp) (y := (1 : Int32)) rfl (by decide) (by decide) d0_185 ?_
        rfl
      refine iconst K S (x := (1 : Int32)) rfl d0_113 ?_
      refine istore K S (l' := #[.val (.int x0), .val (.int x1), .val (.int x2), .val (.int x3), .val (.int (1 : Int32)), .val (.int (1 : Int32)), .val (.int r46), .val (.int r54), .val (.int t63), .val (.int (1 : Int32)), .unset, .unset]) rfl d0_114 ?_
      refine iload K S rfl d0_116 ?_
      refine iconst K S (x := (1 : Int32)) rfl d0_118 ?_
      refine icmpz_ne K S d0_119 (fun (c119 : ¬ 1 = 1) => ?_) (fun (c119 : 1 = 1) => ?_)
      · exact absurd c119 (by decide)
      refine iload K S rfl d0_122 ?_
      refine ificz_ne K S d0_124 (fun (c124 : ¬ 1 = 0) => ?_) (fun (c124 : 1 = 0) => ?_)
      rotate_left
      · exact absurd c124 (by decide)
      refine iconst K S (x := (1 : Int32)) rfl d0_146 ?_
      refine goto K S d0_147 ?_
      refine istore K S (l' := #[.val (.int x0), .val (.int x1), .val (.int x2), .val (.int x3), .val (.int (1 : Int32)), .val (.int (1 : Int32)), .val (.int r46), .val (.int r54), .val (.int t63), .val (.int (1 : Int32)), .val (.int (1 : Int32)), .unset]) rfl d0_151 ?_
      refine new K S (hwi hw 0 rfl) (hwi hw 1 rfl) (hwi hw 2 rfl) (by decide) (by decide) d0_153 fun T h153_65 o153 z_o153 g_o153 X E_o153 D S => ?_
      have F_singleSum_o153 : Fld Z h153_65 o153 "com/example/awardsmith/awardsmith/plan/Installments" "singleSum" "Z" (.int (0 : Int32)) := D (Or.inr (hwi hw 10 rfl)) (ty := .boolean) (by decide)
      have F_fewest_o153 : Fld Z h153_65 o153 "com/example/awardsmith/awardsmith/plan/Installments" "fewest" "I" (.int (0 : Int32)) := D (Or.inr (hwi hw 12 rfl)) (ty := .int) (by decide)
      have F_most_o153 : Fld Z h153_65 o153 "com/example/awardsmith/awardsmith/plan/Installments" "most" "I" (.int (0 : Int32)) := D (Or.inr (hwi hw 14 rfl)) (ty := .int) (by decide)
      clear D X
      refine dup K S rfl d0_156 ?_
      refine iload K S rfl d0_157 ?_
      refine iload K S rfl d0_159 ?_
      refine iload K S rfl d0_161 ?_
      refine callC K S (W := 1) (m_ini l Z a0 hw n0 o153 (1 : Int32) r46 r54 h153_65 (Sle S) g_o153 E_o153 F_singleSum_o153 F_fewest_o153 F_most_o153 rfl rfl) rfl rfl (hwi hw 3 rfl) (hwi hw 4 rfl) (hwi hw 5 rfl) (hwi hw 2 rfl) (by decide) (by decide) (by decide) (by decide) (by decide) rfl (argsL := [.int (1 : Int32), .int r46, .int r54]) rfl (lenOf pd_1 rfl) (rest := [.ref o153]) rfl (Nat.le_of_eq rfl) d0_163 (ef fun T h163_66 hP S => ?_)
      obtain ⟨E_o153, F_singleSum_o153, F_fewest_o153, F_most_o153⟩ := hP
      show Wp n0 p e _ s below _ T (mkF m 166 #[.val (.int x0), .val (.int x1), .val (.int x2), .val (.int x3), .val (.int (1 : Int32)), .val (.int (1 : Int32)), .val (.int r46), .val (.int r54), .val (.int t63), .val (.int (1 : Int32)), .val (.int (1 : Int32)), .unset] [.ref o153])
      refine astore K S (l' := #[.val (.int x0), .val (.int x1), .val (.int x2), .val (.int x3), .val (.int (1 : Int32)), .val (.int (1 : Int32)), .val (.int r46), .val (.int r54), .val (.int t63), .val (.int (1 : Int32)), .val (.int (1 : Int32)), .val (.ref o153)]) rfl rfl d0_166 ?_
      refine aload K S rfl rfl d0_168 ?_
      refine iload K S rfl d0_170 ?_
      refine callV K S (W := 0) (m_allows l Z a0 hw n0 o153 (1 : Int32) (1 : Int32) r46 r54 h163_66 (Sle S) F_singleSum_o153 F_fewest_o153 F_most_o153 (by decide)) E_o153 (hwi hw 15 rfl) (hwi hw 16 rfl) (hwi hw 18 rfl) (hwi hw 17 rfl) (hwi hw 19 rfl) (hwi hw 2 rfl) (by decide) (by decide) (by decide) (by decide) (by decide) rfl (argsL := [.int (1 : Int32)]) rfl (lenOf pd_3 rfl) (rest := []) rfl (Nat.le_of_eq rfl) d0_172 (pr fun T r172 pr172 S => ?_)
      show Wp n0 p e _ s below _ T (mkF m 175 #[.val (.int x0), .val (.int x1), .val (.int x2), .val (.int x3), .val (.int (1 : Int32)), .val (.int (1 : Int32)), .val (.int r46), .val (.int r54), .val (.int t63), .val (.int (1 : Int32)), .val (.int (1 : Int32)), .val (.ref o153)] [.int r172])
      refine iload K S rfl d0_175 ?_
      refine icmpz_ne K S d0_177 (fun (c177 : ¬ r172.toInt = 1) => ?_) (fun (c177 : r172.toInt = 1) => ?_)
      · exfalso; have q0 : (0 : Int32).toInt = 0 := rfl; have q1 : (1 : Int32).toInt = 1 := rfl; have q2 : (2 : Int32).toInt = 2 := rfl; omega
      refine iconst K S (x := (1 : Int32)) rfl d0_180 ?_
      refine goto K S d0_181 ?_
      refine retn K S (by simp) (y := (1 : Int32)) rfl (by decide) (by decide) d0_185 ?_
      rfl
    refine iload K S rfl d0_94 ?_
    refine iconst K S (x := (1 : Int32)) rfl d0_96 ?_
    refine isub K S d0_97 ?_
    refine nmI fun t97 ht97 => ?_
    have ft97 : (t97.toInt - (r54.toInt - 1)) % 4294967296 = 0 := by rw [ht97]; exact c_isub r54 (1 : Int32)
    have rt97 := rng32 t97
    refine iload_n K S rfl d0_98 ?_
    refine iconst K S (x := (3 : Int32)) rfl d0_99 ?_
    refine iand K S d0_100 ?_
    refine nmI fun t100 ht100 => ?_
    have ft100 : t100.toInt = x3.toInt % 4 := by rw [ht100]; exact c_mask x3 (3 : Int32) 2 (by decide) (by decide)
    have rt100 := rng32 t100
    refine iadd K S d0_101 ?_
    refine nmI fun t101 ht101 => ?_
    have ft101 : (t101.toInt - (t97.toInt + t100.toInt)) % 4294967296 = 0 := by rw [ht101]; exact c_iadd t97 t100
    have rt101 := rng32 t101
    refine istore K S (l' := #[.val (.int x0), .val (.int x1), .val (.int x2), .val (.int x3), .val (.int (1 : Int32)), .val (.int (1 : Int32)), .val (.int r46), .val (.int r54), .val (.int t63), .val (.int t101), .unset, .unset]) rfl d0_102 ?_
    refine goto K S d0_104 ?_
    refine iload K S rfl d0_116 ?_
    refine iconst K S (x := (1 : Int32)) rfl d0_118 ?_
    refine icmpz_ne K S d0_119 (fun (c119 : ¬ t101.toInt = 1) => ?_) (fun (c119 : t101.toInt = 1) => ?_)
    · refine iload K S rfl d0_127 ?_
      refine ificz_eq K S d0_129 (fun (c129 : 1 = 0) => ?_) (fun (c129 : ¬ 1 = 0) => ?_)
      · exact absurd c129 (by decide)
      refine iload K S rfl d0_132 ?_
      refine iload K S rfl d0_134 ?_
      refine icmpz_gt K S d0_136 (fun (c136 : t101.toInt < r46.toInt) => ?_) (fun (c136 : ¬ t101.toInt < r46.toInt) => ?_)
      · refine iconst K S (x := (0 : Int32)) rfl d0_150 ?_
        refine istore K S (l' := #[.val (.int x0), .val (.int x1), .val (.int x2), .val (.int x3), .val (.int (1 : Int32)), .val (.int (1 : Int32)), .val (.int r46), .val (.int r54), .val (.int t63), .val (.int t101), .val (.int (0 : Int32)), .unset]) rfl d0_151 ?_
        refine new K S (hwi hw 0 rfl) (hwi hw 1 rfl) (hwi hw 2 rfl) (by decide) (by decide) d0_153 fun T h153_67 o153 z_o153 g_o153 X E_o153 D S => ?_
        have F_singleSum_o153 : Fld Z h153_67 o153 "com/example/awardsmith/awardsmith/plan/Installments" "singleSum" "Z" (.int (0 : Int32)) := D (Or.inr (hwi hw 10 rfl)) (ty := .boolean) (by decide)
        have F_fewest_o153 : Fld Z h153_67 o153 "com/example/awardsmith/awardsmith/plan/Installments" "fewest" "I" (.int (0 : Int32)) := D (Or.inr (hwi hw 12 rfl)) (ty := .int) (by decide)
        have F_most_o153 : Fld Z h153_67 o153 "com/example/awardsmith/awardsmith/plan/Installments" "most" "I" (.int (0 : Int32)) := D (Or.inr (hwi hw 14 rfl)) (ty := .int) (by decide)
        clear D X
        refine dup K S rfl d0_156 ?_
        refine iload K S rfl d0_157 ?_
        refine iload K S rfl d0_159 ?_
        refine iload K S rfl d0_161 ?_
        refine callC K S (W := 1) (m_ini l Z a0 hw n0 o153 (1 : Int32) r46 r54 h153_67 (Sle S) g_o153 E_o153 F_singleSum_o153 F_fewest_o153 F_most_o153 rfl rfl) rfl rfl (hwi hw 3 rfl) (hwi hw 4 rfl) (hwi hw 5 rfl) (hwi hw 2 rfl) (by decide) (by decide) (by decide) (by decide) (by decide) rfl (argsL := [.int (1 : Int32), .int r46, .int r54]) rfl (lenOf pd_1 rfl) (rest := [.ref o153]) rfl (Nat.le_of_eq rfl) d0_163 (ef fun T h163_68 hP S => ?_)
        obtain ⟨E_o153, F_singleSum_o153, F_fewest_o153, F_most_o153⟩ := hP
        show Wp n0 p e _ s below _ T (mkF m 166 #[.val (.int x0), .val (.int x1), .val (.int x2), .val (.int x3), .val (.int (1 : Int32)), .val (.int (1 : Int32)), .val (.int r46), .val (.int r54), .val (.int t63), .val (.int t101), .val (.int (0 : Int32)), .unset] [.ref o153])
        refine astore K S (l' := #[.val (.int x0), .val (.int x1), .val (.int x2), .val (.int x3), .val (.int (1 : Int32)), .val (.int (1 : Int32)), .val (.int r46), .val (.int r54), .val (.int t63), .val (.int t101), .val (.int (0 : Int32)), .val (.ref o153)]) rfl rfl d0_166 ?_
        refine aload K S rfl rfl d0_168 ?_
        refine iload K S rfl d0_170 ?_
        refine callV K S (W := 0) (m_allows l Z a0 hw n0 o153 t101 (1 : Int32) r46 r54 h163_68 (Sle S) F_singleSum_o153 F_fewest_o153 F_most_o153 (by decide)) E_o153 (hwi hw 15 rfl) (hwi hw 16 rfl) (hwi hw 18 rfl) (hwi hw 17 rfl) (hwi hw 19 rfl) (hwi hw 2 rfl) (by decide) (by decide) (by decide) (by decide) (by decide) rfl (argsL := [.int t101]) rfl (lenOf pd_3 rfl) (rest := []) rfl (Nat.le_of_eq rfl) d0_172 (pr fun T r172 pr172 S => ?_)
        show Wp n0 p e _ s below _ T (mkF m 175 #[.val (.int x0), .val (.int x1), .val (.int x2), .val (.int x3), .val (.int (1 : Int32)), .val (.int (1 : Int32)), .val (.int r46), .val (.int r54), .val (.int t63), .val (.int t101), .val (.int (0 : Int32)), .val (.ref o153)] [.int r172])
        refine iload K S rfl d0_175 ?_
        refine icmpz_ne K S d0_177 (fun (c177 : ¬ r172.toInt = 0) => ?_) (fun (c177 : r172.toInt = 0) => ?_)
        · exfalso; have q0 : (0 : Int32).toInt = 0 := rfl; have q1 : (1 : Int32).toInt = 1 := rfl; have q2 : (2 : Int32).toInt = 2 := rfl; omega
        refine iconst K S (x := (1 : Int32)) rfl d0_180 ?_
        refine goto K S d0_181 ?_
        refine retn K S (by simp) (y := (1 : Int32)) rfl (by decide) (by decide) d0_185 ?_
        rfl
      refine iload K S rfl d0_139 ?_
      refine iload K S rfl d0_141 ?_
      refine icmpz_gt K S d0_143 (fun (c143 : r54.toInt < t101.toInt) => ?_) (fun (c143 : ¬ r54.toInt < t101.toInt) => ?_)
      · refine iconst K S (x := (0 : Int32)) rfl d0_150 ?_
        refine istore K S (l' := #[.val (.int x0), .val (.int x1), .val (.int x2), .val (.int x3), .val (.int (1 : Int32)), .val (.int (1 : Int32)), .val (.int r46), .val (.int r54), .val (.int t63), .val (.int t101), .val (.int (0 : Int32)), .unset]) rfl d0_151 ?_
        refine new K S (hwi hw 0 rfl) (hwi hw 1 rfl) (hwi hw 2 rfl) (by decide) (by decide) d0_153 fun T h153_69 o153 z_o153 g_o153 X E_o153 D S => ?_
        have F_singleSum_o153 : Fld Z h153_69 o153 "com/example/awardsmith/awardsmith/plan/Installments" "singleSum" "Z" (.int (0 : Int32)) := D (Or.inr (hwi hw 10 rfl)) (ty := .boolean) (by decide)
        have F_fewest_o153 : Fld Z h153_69 o153 "com/example/awardsmith/awardsmith/plan/Installments" "fewest" "I" (.int (0 : Int32)) := D (Or.inr (hwi hw 12 rfl)) (ty := .int) (by decide)
        have F_most_o153 : Fld Z h153_69 o153 "com/example/awardsmith/awardsmith/plan/Installments" "most" "I" (.int (0 : Int32)) := D (Or.inr (hwi hw 14 rfl)) (ty := .int) (by decide)
        clear D X
        refine dup K S rfl d0_156 ?_
        refine iload K S rfl d0_157 ?_
        refine iload K S rfl d0_159 ?_
        refine iload K S rfl d0_161 ?_
        refine callC K S (W := 1) (m_ini l Z a0 hw n0 o153 (1 : Int32) r46 r54 h153_69 (Sle S) g_o153 E_o153 F_singleSum_o153 F_fewest_o153 F_most_o153 rfl rfl) rfl rfl (hwi hw 3 rfl) (hwi hw 4 rfl) (hwi hw 5 rfl) (hwi hw 2 rfl) (by decide) (by decide) (by decide) (by decide) (by decide) rfl (argsL := [.int (1 : Int32), .int r46, .int r54]) rfl (lenOf pd_1 rfl) (rest := [.ref o153]) rfl (Nat.le_of_eq rfl) d0_163 (ef fun T h163_70 hP S => ?_)
        obtain ⟨E_o153, F_singleSum_o153, F_fewest_o153, F_most_o153⟩ := hP
        show Wp n0 p e _ s below _ T (mkF m 166 #[.val (.int x0), .val (.int x1), .val (.int x2), .val (.int x3), .val (.int (1 : Int32)), .val (.int (1 : Int32)), .val (.int r46), .val (.int r54), .val (.int t63), .val (.int t101), .val (.int (0 : Int32)), .unset] [.ref o153])
        refine astore K S (l' := #[.val (.int x0), .val (.int x1), .val (.int x2), .val (.int x3), .val (.int (1 : Int32)), .val (.int (1 : Int32)), .val (.int r46), .val (.int r54), .val (.int t63), .val (.int t101), .val (.int (0 : Int32)), .val (.ref o153)]) rfl rfl d0_166 ?_
        refine aload K S rfl rfl d0_168 ?_
        refine iload K S rfl d0_170 ?_
        refine callV K S (W := 0) (m_allows l Z a0 hw n0 o153 t101 (1 : Int32) r46 r54 h163_70 (Sle S) F_singleSum_o153 F_fewest_o153 F_most_o153 (by decide)) E_o153 (hwi hw 15 rfl) (hwi hw 16 rfl) (hwi hw 18 rfl) (hwi hw 17 rfl) (hwi hw 19 rfl) (hwi hw 2 rfl) (by decide) (by decide) (by decide) (by decide) (by decide) rfl (argsL := [.int t101]) rfl (lenOf pd_3 rfl) (rest := []) rfl (Nat.le_of_eq rfl) d0_172 (pr fun T r172 pr172 S => ?_)
        show Wp n0 p e _ s below _ T (mkF m 175 #[.val (.int x0), .val (.int x1), .val (.int x2), .val (.int x3), .val (.int (1 : Int32)), .val (.int (1 : Int32)), .val (.int r46), .val (.int r54), .val (.int t63), .val (.int t101), .val (.int (0 : Int32)), .val (.ref o153)] [.int r172])
        refine iload K S rfl d0_175 ?_
        refine icmpz_ne K S d0_177 (fun (c177 : ¬ r172.toInt = 0) => ?_) (fun (c177 : r172.toInt = 0) => ?_)
        · exfalso; have q0 : (0 : Int32).toInt = 0 := rfl; have q1 : (1 : Int32).toInt = 1 := rfl; have q2 : (2 : Int32).toInt = 2 := rfl; omega
        refine iconst K S (x := (1 : Int32)) rfl d0_180 ?_
        refine goto K S d0_181 ?_
        refine retn K S (by simp) (y := (1 : Int32)) rfl (by decide) (by decide) d0_185 ?_
        rfl
      refine iconst K S (x := (1 : Int32)) rfl d0_146 ?_
      refine goto K S d0_147 ?_
      refine istore K S (l' := #[.val (.int x0), .val (.int x1), .val (.int x2), .val (.int x3), .val (.int (1 : Int32)), .val (.int (1 : Int32)), .val (.int r46), .val (.int r54), .val (.int t63), .val (.int t101), .val (.int (1 : Int32)), .unset]) rfl d0_151 ?_
      refine new K S (hwi hw 0 rfl) (hwi hw 1 rfl) (hwi hw 2 rfl) (by decide) (by decide) d0_153 fun T h153_71 o153 z_o153 g_o153 X E_o153 D S => ?_
      have F_singleSum_o153 : Fld Z h153_71 o153 "com/example/awardsmith/awardsmith/plan/Installments" "singleSum" "Z" (.int (0 : Int32)) := D (Or.inr (hwi hw 10 rfl)) (ty := .boolean) (by decide)
      have F_fewest_o153 : Fld Z h153_71 o153 "com/example/awardsmith/awardsmith/plan/Installments" "fewest" "I" (.int (0 : Int32)) := D (Or.inr (hwi hw 12 rfl)) (ty := .int) (by decide)
      have F_most_o153 : Fld Z h153_71 o153 "com/example/awardsmith/awardsmith/plan/Installments" "most" "I" (.int (0 : Int32)) := D (Or.inr (hwi hw 14 rfl)) (ty := .int) (by decide)
      clear D X
      refine dup K S rfl d0_156 ?_
      refine iload K S rfl d0_157 ?_
      refine iload K S rfl d0_159 ?_
      refine iload K S rfl d0_161 ?_
      refine callC K S (W := 1) (m_ini l Z a0 hw n0 o153 (1 : Int32) r46 r54 h153_71 (Sle S) g_o153 E_o153 F_singleSum_o153 F_fewest_o153 F_most_o153 rfl rfl) rfl rfl (hwi hw 3 rfl) (hwi hw 4 rfl) (hwi hw 5 rfl) (hwi hw 2 rfl) (by decide) (by decide) (by decide) (by decide) (by decide) rfl (argsL := [.int (1 : Int32), .int r46, .int r54]) rfl (lenOf pd_1 rfl) (rest := [.ref o153]) rfl (Nat.le_of_eq rfl) d0_163 (ef fun T h163_72 hP S => ?_)
      obtain ⟨E_o153, F_singleSum_o153, F_fewest_o153, F_most_o153⟩ := hP
      show Wp n0 p e _ s below _ T (mkF m 166 #[.val (.int x0), .val (.int x1), .val (.int x2), .val (.int x3), .val (.int (1 : Int32)), .val (.int (1 : Int32)), .val (.int r46), .val (.int r54), .val (.int t63), .val (.int t101), .val (.int (1 : Int32)), .unset] [.ref o153])
      refine astore K S (l' := #[.val (.int x0), .val (.int x1), .val (.int x2), .val (.int x3), .val (.int (1 : Int32)), .val (.int (1 : Int32)), .val (.int r46), .val (.int r54), .val (.int t63), .val (.int t101), .val (.int (1 : Int32)), .val (.ref o153)]) rfl rfl d0_166 ?_
      refine aload K S rfl rfl d0_168 ?_
      refine iload K S rfl d0_170 ?_
      refine callV K S (W := 0) (m_allows l Z a0 hw n0 o153 t101 (1 : Int32) r46 r54 h163_72 (Sle S) F_singleSum_o153 F_fewest_o153 F_most_o153 (by decide)) E_o153 (hwi hw 15 rfl) (hwi hw 16 rfl) (hwi hw 18 rfl) (hwi hw 17 rfl) (hwi hw 19 rfl) (hwi hw 2 rfl) (by decide) (by decide) (by decide) (by decide) (by decide) rfl (argsL := [.int t101]) rfl (lenOf pd_3 rfl) (rest := []) rfl (Nat.le_of_eq rfl) d0_172 (pr fun T r172 pr172 S => ?_)
      show Wp n0 p e _ s below _ T (mkF m 175 #[.val (.int x0), .val (.int x1), .val (.int x2), .val (.int x3), .val (.int (1 : Int32)), .val (.int (1 : Int32)), .val (.int r46), .val (.int r54), .val (.int t63), .val (.int t101), .val (.int (1 : Int32)), .val (.ref o153)] [.int r172])
      refine iload K S rfl d0_175 ?_
      refine icmpz_ne K S d0_177 (fun (c177 : ¬ r172.toInt = 1) => ?_) (fun (c177 : r172.toInt = 1) => ?_)
      · exfalso; have q0 : (0 : Int32).toInt = 0 := rfl; have q1 : (1 : Int32).toInt = 1 := rfl; have q2 : (2 : Int32).toInt = 2 := rfl; omega
      refine iconst K S (x := (1 : Int32)) rfl d0_180 ?_
      refine goto K S d0_181 ?_
      refine retn K S (by simp) (y := (1 : Int32)) rfl (by decide) (by decide) d0_185 ?_
      rfl
    refine iload K S rfl d0_122 ?_
    refine ificz_ne K S d0_124 (fun (c124 : ¬ 1 = 0) => ?_) (fun (c124 : 1 = 0) => ?_)
    rotate_left
    · exact absurd c124 (by decide)
    refine iconst K S (x := (1 : Int32)) rfl d0_146 ?_
    refine goto K S d0_147 ?_
    refine istore K S (l' := #[.val (.int x0), .val (.int x1), .val (.int x2), .val (.int x3), .val (.int (1 : Int32)), .val (.int (1 : Int32)), .val (.int r46), .val (.int r54), .val (.int t63), .val (.int t101), .val (.int (1 : Int32)), .unset]) rfl d0_151 ?_
    refine new K S (hwi hw 0 rfl) (hwi hw 1 rfl) (hwi hw 2 rfl) (by decide) (by decide) d0_153 fun T h153_73 o153 z_o153 g_o153 X E_o153 D S => ?_
    have F_singleSum_o153 : Fld Z h153_73 o153 "com/example/awardsmith/awardsmith/plan/Installments" "singleSum" "Z" (.int (0 : Int32)) := D (Or.inr (hwi hw 10 rfl)) (ty := .boolean) (by decide)
    have F_fewest_o153 : Fld Z h153_73 o153 "com/example/awardsmith/awardsmith/plan/Installments" "fewest" "I" (.int (0 : Int32)) := D (Or.inr (hwi hw 12 rfl)) (ty := .int) (by decide)
    have F_most_o153 : Fld Z h153_73 o153 "com/example/awardsmith/awardsmith/plan/Installments" "most" "I" (.int (0 : Int32)) := D (Or.inr (hwi hw 14 rfl)) (ty := .int) (by decide)
    clear D X
    refine dup K S rfl d0_156 ?_
    refine iload K S rfl d0_157 ?_
    refine iload K S rfl d0_159 ?_
    refine iload K S rfl d0_161 ?_
    refine callC K S (W := 1) (m_ini l Z a0 hw n0 o153 (1 : Int32) r46 r54 h153_73 (Sle S) g_o153 E_o153 F_singleSum_o153 F_fewest_o153 F_most_o153 rfl rfl) rfl rfl (hwi hw 3 rfl) (hwi hw 4 rfl) (hwi hw 5 rfl) (hwi hw 2 rfl) (by decide) (by decide) (by decide) (by decide) (by decide) rfl (argsL := [.int (1 : Int32), .int r46, .int r54]) rfl (lenOf pd_1 rfl) (rest := [.ref o153]) rfl (Nat.le_of_eq rfl) d0_163 (ef fun T h163_74 hP S => ?_)
    obtain ⟨E_o153, F_singleSum_o153, F_fewest_o153, F_most_o153⟩ := hP
    show Wp n0 p e _ s below _ T (mkF m 166 #[.val (.int x0), .val (.int x1), .val (.int x2), .val (.int x3), .val (.int (1 : Int32)), .val (.int (1 : Int32)), .val (.int r46), .val (.int r54), .val (.int t63), .val (.int t101), .val (.int (1 : Int32)), .unset] [.ref o153])
    refine astore K S (l' := #[.val (.int x0), .val (.int x1), .val (.int x2), .val (.int x3), .val (.int (1 : Int32)), .val (.int (1 : Int32)), .val (.int r46), .val (.int r54), .val (.int t63), .val (.int t101), .val (.int (1 : Int32)), .val (.ref o153)]) rfl rfl d0_166 ?_
    refine aload K S rfl rfl d0_168 ?_
    refine iload K S rfl d0_170 ?_
    refine callV K S (W := 0) (m_allows l Z a0 hw n0 o153 t101 (1 : Int32) r46 r54 h163_74 (Sle S) F_singleSum_o153 F_fewest_o153 F_most_o153 (by decide)) E_o153 (hwi hw 15 rfl) (hwi hw 16 rfl) (hwi hw 18 rfl) (hwi hw 17 rfl) (hwi hw 19 rfl) (hwi hw 2 rfl) (by decide) (by decide) (by decide) (by decide) (by decide) rfl (argsL := [.int t101]) rfl (lenOf pd_3 rfl) (rest := []) rfl (Nat.le_of_eq rfl) d0_172 (pr fun T r172 pr172 S => ?_)
    show Wp n0 p e _ s below _ T (mkF m 175 #[.val (.int x0), .val (.int x1), .val (.int x2), .val (.int x3), .val (.int (1 : Int32)), .val (.int (1 : Int32)), .val (.int r46), .val (.int r54), .val (.int t63), .val (.int t101), .val (.int (1 : Int32)), .val (.ref o153)] [.int r172])
    refine iload K S rfl d0_175 ?_
    refine icmpz_ne K S d0_177 (fun (c177 : ¬ r172.toInt = 1) => ?_) (fun (c177 : r172.toInt = 1) => ?_)
    · exfalso; have q0 : (0 : Int32).toInt = 0 := rfl; have q1 : (1 : Int32).toInt = 1 := rfl; have q2 : (2 : Int32).toInt = 2 := rfl; omega
    refine iconst K S (x := (1 : Int32)) rfl d0_180 ?_
    refine goto K S d0_181 ?_
    refine retn K S (by simp) (y := (1 : Int32)) rfl (by decide) (by decide) d0_185 ?_
    rfl
  refine iload K S rfl d0_75 ?_
  refine iconst K S (x := (1 : Int32)) rfl d0_77 ?_
  refine isub K S d0_78 ?_
  refine nmI fun t78 ht78 => ?_
  have ft78 : (t78.toInt - (r46.toInt - 1)) % 4294967296 = 0 := by rw [ht78]; exact c_isub r46 (1 : Int32)
  have rt78 := rng32 t78
  refine iload_n K S rfl d0_79 ?_
  refine iconst K S (x := (3 : Int32)) rfl d0_80 ?_
  refine iand K S d0_81 ?_
  refine nmI fun t81 ht81 => ?_
  have ft81 : t81.toInt = x3.toInt % 4 := by rw [ht81]; exact c_mask x3 (3 : Int32) 2 (by decide) (by decide)
  have rt81 := rng32 t81
  refine iadd K S d0_82 ?_
  refine nmI fun t82 ht82 => ?_
  have ft82 : (t82.toInt - (t78.toInt + t81.toInt)) % 4294967296 = 0 := by rw [ht82]; exact c_iadd t78 t81
  have rt82 := rng32 t82
  refine istore K S (l' := #[.val (.int x0), .val (.int x1), .val (.int x2), .val (.int x3), .val (.int (1 : Int32)), .val (.int (1 : Int32)), .val (.int r46), .val (.int r54), .val (.int t63), .val (.int t82), .unset, .unset]) rfl d0_83 ?_
  refine goto K S d0_85 ?_
  refine iload K S rfl d0_116 ?_
  refine iconst K S (x := (1 : Int32)) rfl d0_118 ?_
  refine icmpz_ne K S d0_119 (fun (c119 : ¬ t82.toInt = 1) => ?_) (fun (c119 : t82.toInt = 1) => ?_)
  · refine iload K S rfl d0_127 ?_
    refine ificz_eq K S d0_129 (fun (c129 : 1 = 0) => ?_) (fun (c129 : ¬ 1 = 0) => ?_)
    · exact absurd c129 (by decide)
    refine iload K S rfl d0_132 ?_
    refine iload K S rfl d0_134 ?_
    refine icmpz_gt K S d0_136 (fun (c136 : t82.toInt < r46.toInt) => ?_) (fun (c136 : ¬ t82.toInt < r46.toInt) => ?_)
    · refine iconst K S (x := (0 : Int32)) rfl d0_150 ?_
      refine istore K S (l' := #[.val (.int x0), .val (.int x1), .val (.int x2), .val (.int x3), .val (.int (1 : Int32)), .val (.int (1 : Int32)), .val (.int r46), .val (.int r54), .val (.int t63), .val (.int t82), .val (.int (0 : Int32)), .unset]) rfl d0_151 ?_
      refine new K S (hwi hw 0 rfl) (hwi hw 1 rfl) (hwi hw 2 rfl) (by decide) (by decide) d0_153 fun T h153_75 o153 z_o153 g_o153 X E_o153 D S => ?_
      have F_singleSum_o153 : Fld Z h153_75 o153 "com/example/awardsmith/awardsmith/plan/Installments" "singleSum" "Z" (.int (0 : Int32)) := D (Or.inr (hwi hw 10 rfl)) (ty := .boolean) (by decide)
      have F_fewest_o153 : Fld Z h153_75 o153 "com/example/awardsmith/awardsmith/plan/Installments" "fewest" "I" (.int (0 : Int32)) := D (Or.inr (hwi hw 12 rfl)) (ty := .int) (by decide)
      have F_most_o153 : Fld Z h153_75 o153 "com/example/awardsmith/awardsmith/plan/Installments" "most" "I" (.int (0 : Int32)) := D (Or.inr (hwi hw 14 rfl)) (ty := .int) (by decide)
      clear D X
      refine dup K S rfl d0_156 ?_
      refine iload K S rfl d0_157 ?_
      refine iload K S rfl d0_159 ?_
      refine iload K S rfl d0_161 ?_
      refine callC K S (W := 1) (m_ini l Z a0 hw n0 o153 (1 : Int32) r46 r54 h153_75 (Sle S) g_o153 E_o153 F_singleSum_o153 F_fewest_o153 F_most_o153 rfl rfl) rfl rfl (hwi hw 3 rfl) (hwi hw 4 rfl) (hwi hw 5 rfl) (hwi hw 2 rfl) (by decide) (by decide) (by decide) (by decide) (by decide) rfl (argsL := [.int (1 : Int32), .int r46, .int r54]) rfl (lenOf pd_1 rfl) (rest := [.ref o153]) rfl (Nat.le_of_eq rfl) d0_163 (ef fun T h163_76 hP S => ?_)
      obtain ⟨E_o153, F_singleSum_o153, F_fewest_o153, F_most_o153⟩ := hP
      show Wp n0 p e _ s below _ T (mkF m 166 #[.val (.int x0), .val (.int x1), .val (.int x2), .val (.int x3), .val (.int (1 : Int32)), .val (.int (1 : Int32)), .val (.int r46), .val (.int r54), .val (.int t63), .val (.int t82), .val (.int (0 : Int32)), .unset] [.ref o153])
      refine astore K S (l' := #[.val (.int x0), .val (.int x1), .val (.int x2), .val (.int x3), .val (.int (1 : Int32)), .val (.int (1 : Int32)), .val (.int r46), .val (.int r54), .val (.int t63), .val (.int t82), .val (.int (0 : Int32)), .val (.ref o153)]) rfl rfl d0_166 ?_
      refine aload K S rfl rfl d0_168 ?_
      refine iload K S rfl d0_170 ?_
      refine callV K S (W := 0) (m_allows l Z a0 hw n0 o153 t82 (1 : Int32) r46 r54 h163_76 (Sle S) F_singleSum_o153 F_fewest_o153 F_most_o153 (by decide)) E_o153 (hwi hw 15 rfl) (hwi hw 16 rfl) (hwi hw 18 rfl) (hwi hw 17 rfl) (hwi hw 19 rfl) (hwi hw 2 rfl) (by decide) (by decide) (by decide) (by decide) (by decide) rfl (argsL := [.int t82]) rfl (lenOf pd_3 rfl) (rest := []) rfl (Nat.le_of_eq rfl) d0_172 (pr fun T r172 pr172 S => ?_)
      show Wp n0 p e _ s below _ T (mkF m 175 #[.val (.int x0), .val (.int x1), .val (.int x2), .val (.int x3), .val (.int (1 : Int32)), .val (.int (1 : Int32)), .val (.int r46), .val (.int r54), .val (.int t63), .val (.int t82), .val (.int (0 : Int32)), .val (.ref o153)] [.int r172])
      refine iload K S rfl d0_175 ?_
      refine icmpz_ne K S d0_177 (fun (c177 : ¬ r172.toInt = 0) => ?_) (fun (c177 : r172.toInt = 0) => ?_)
      · exfalso; have q0 : (0 : Int32).toInt = 0 := rfl; have q1 : (1 : Int32).toInt = 1 := rfl; have q2 : (2 : Int32).toInt = 2 := rfl; omega
      refine iconst K S (x := (1 : Int32)) rfl d0_180 ?_
      refine goto K S d0_181 ?_
      refine retn K S (by simp) (y := (1 : Int32)) rfl (by decide) (by decide) d0_185 ?_
      rfl
    refine iload K S rfl d0_139 ?_
    refine iload K S rfl d0_141 ?_
    refine icmpz_gt K S d0_143 (fun (c143 : r54.toInt < t82.toInt) => ?_) (fun (c143 : ¬ r54.toInt < t82.toInt) => ?_)
    · refine iconst K S (x := (0 : Int32)) rfl d0_150 ?_
      refine istore K S (l' := #[.val (.int x0), .val (.int x1), .val (.int x2), .val (.int x3), .val (.int (1 : Int32)), .val (.int (1 : Int32)), .val (.int r46), .val (.int r54), .val (.int t63), .val (.int t82), .val (.int (0 : Int32)), .unset]) rfl d0_151 ?_
      refine new K S (hwi hw 0 rfl) (hwi hw 1 rfl) (hwi hw 2 rfl) (by decide) (by decide) d0_153 fun T h153_77 o153 z_o153 g_o153 X E_o153 D S => ?_
      have F_singleSum_o153 : Fld Z h153_77 o153 "com/example/awardsmith/awardsmith/plan/Installments" "singleSum" "Z" (.int (0 : Int32)) := D (Or.inr (hwi hw 10 rfl)) (ty := .boolean) (by decide)
      have F_fewest_o153 : Fld Z h153_77 o153 "com/example/awardsmith/awardsmith/plan/Installments" "fewest" "I" (.int (0 : Int32)) := D (Or.inr (hwi hw 12 rfl)) (ty := .int) (by decide)
      have F_most_o153 : Fld Z h153_77 o153 "com/example/awardsmith/awardsmith/plan/Installments" "most" "I" (.int (0 : Int32)) := D (Or.inr (hwi hw 14 rfl)) (ty := .int) (by decide)
      clear D X
      refine dup K S rfl d0_156 ?_
      refine iload K S rfl d0_157 ?_
      refine iload K S rfl d0_159 ?_
      refine iload K S rfl d0_161 ?_
      refine callC K S (W := 1) (m_ini l Z a0 hw n0 o153 (1 : Int32) r46 r54 h153_77 (Sle S) g_o153 E_o153 F_singleSum_o153 F_fewest_o153 F_most_o153 rfl rfl) rfl rfl (hwi hw 3 rfl) (hwi hw 4 rfl) (hwi hw 5 rfl) (hwi hw 2 rfl) (by decide) (by decide) (by decide) (by decide) (by decide) rfl (argsL := [.int (1 : Int32), .int r46, .int r54]) rfl (lenOf pd_1 rfl) (rest := [.ref o153]) rfl (Nat.le_of_eq rfl) d0_163 (ef fun T h163_78 hP S => ?_)
      obtain ⟨E_o153, F_singleSum_o153, F_fewest_o153, F_most_o153⟩ := hP
      show Wp n0 p e _ s below _ T (mkF m 166 #[.val (.int x0), .val (.int x1), .val (.int x2), .val (.int x3), .val (.int (1 : Int32)), .val (.int (1 : Int32)), .val (.int r46), .val (.int r54), .val (.int t63), .val (.int t82), .val (.int (0 : Int32)), .unset] [.ref o153])
      refine astore K S (l' := #[.val (.int x0), .val (.int x1), .val (.int x2), .val (.int x3), .val (.int (1 : Int32)), .val (.int (1 : Int32)), .val (.int r46), .val (.int r54), .val (.int t63), .val (.int t82), .val (.int (0 : Int32)), .val (.ref o153)]) rfl rfl d0_166 ?_
      refine aload K S rfl rfl d0_168 ?_
      refine iload K S rfl d0_170 ?_
      refine callV K S (W := 0) (m_allows l Z a0 hw n0 o153 t82 (1 : Int32) r46 r54 h163_78 (Sle S) F_singleSum_o153 F_fewest_o153 F_most_o153 (by decide)) E_o153 (hwi hw 15 rfl) (hwi hw 16 rfl) (hwi hw 18 rfl) (hwi hw 17 rfl) (hwi hw 19 rfl) (hwi hw 2 rfl) (by decide) (by decide) (by decide) (by decide) (by decide) rfl (argsL := [.int t82]) rfl (lenOf pd_3 rfl) (rest := []) rfl (Nat.le_of_eq rfl) d0_172 (pr fun T r172 pr172 S => ?_)
      show Wp n0 p e _ s below _ T (mkF m 175 #[.val (.int x0), .val (.int x1), .val (.int x2), .val (.int x3), .val (.int (1 : Int32)), .val (.int (1 : Int32)), .val (.int r46), .val (.int r54), .val (.int t63), .val (.int t82), .val (.int (0 : Int32)), .val (.ref o153)] [.int r172])
      refine iload K S rfl d0_175 ?_
      refine icmpz_ne K S d0_177 (fun (c177 : ¬ r172.toInt = 0) => ?_) (fun (c177 : r172.toInt = 0) => ?_)
      · exfalso; have q0 : (0 : Int32).toInt = 0 := rfl; have q1 : (1 : Int32).toInt = 1 := rfl; have q2 : (2 : Int32).toInt = 2 := rfl; omega
      refine iconst K S (x := (1 : Int32)) rfl d0_180 ?_
      refine goto K S d0_181 ?_
      refine retn K S (by simp) (y := (1 : Int32)) rfl (by decide) (by decide) d0_185 ?_
      rfl
    refine iconst K S (x := (1 : Int32)) rfl d0_146 ?_
    refine goto K S d0_147 ?_
    refine istore K S (l' := #[.val (.int x0), .val (.int x1), .val (.int x2), .val (.int x3), .val (.int (1 : Int32)), .val (.int (1 : Int32)), .val (.int r46), .val (.int r54), .val (.int t63), .val (.int t82), .val (.int (1 : Int32)), .unset]) rfl d0_151 ?_
    refine new K S (hwi hw 0 rfl) (hwi hw 1 rfl) (hwi hw 2 rfl) (by decide) (by decide) d0_153 fun T h153_79 o153 z_o153 g_o153 X E_o153 D S => ?_
    have F_singleSum_o153 : Fld Z h153_79 o153 "com/example/awardsmith/awardsmith/plan/Installments" "singleSum" "Z" (.int (0 : Int32)) := D (Or.inr (hwi hw 10 rfl)) (ty := .boolean) (by decide)
    have F_fewest_o153 : Fld Z h153_79 o153 "com/example/awardsmith/awardsmith/plan/Installments" "fewest" "I" (.int (0 : Int32)) := D (Or.inr (hwi hw 12 rfl)) (ty := .int) (by decide)
    have F_most_o153 : Fld Z h153_79 o153 "com/example/awardsmith/awardsmith/plan/Installments" "most" "I" (.int (0 : Int32)) := D (Or.inr (hwi hw 14 rfl)) (ty := .int) (by decide)
    clear D X
    refine dup K S rfl d0_156 ?_
    refine iload K S rfl d0_157 ?_
    refine iload K S rfl d0_159 ?_
    refine iload K S rfl d0_161 ?_
    refine callC K S (W := 1) (m_ini l Z a0 hw n0 o153 (1 : Int32) r46 r54 h153_79 (Sle S) g_o153 E_o153 F_singleSum_o153 F_fewest_o153 F_most_o153 rfl rfl) rfl rfl (hwi hw 3 rfl) (hwi hw 4 rfl) (hwi hw 5 rfl) (hwi hw 2 rfl) (by decide) (by decide) (by decide) (by decide) (by decide) rfl (argsL := [.int (1 : Int32), .int r46, .int r54]) rfl (lenOf pd_1 rfl) (rest := [.ref o153]) rfl (Nat.le_of_eq rfl) d0_163 (ef fun T h163_80 hP S => ?_)
    obtain ⟨E_o153, F_singleSum_o153, F_fewest_o153, F_most_o153⟩ := hP
    show Wp n0 p e _ s below _ T (mkF m 166 #[.val (.int x0), .val (.int x1), .val (.int x2), .val (.int x3), .val (.int (1 : Int32)), .val (.int (1 : Int32)), .val (.int r46), .val (.int r54), .val (.int t63), .val (.int t82), .val (.int (1 : Int32)), .unset] [.ref o153])
    refine astore K S (l' := #[.val (.int x0), .val (.int x1), .val (.int x2), .val (.int x3), .val (.int (1 : Int32)), .val (.int (1 : Int32)), .val (.int r46), .val (.int r54), .val (.int t63), .val (.int t82), .val (.int (1 : Int32)), .val (.ref o153)]) rfl rfl d0_166 ?_
    refine aload K S rfl rfl d0_168 ?_
    refine iload K S rfl d0_170 ?_
    refine callV K S (W := 0) (m_allows l Z a0 hw n0 o153 t82 (1 : Int32) r46 r54 h163_80 (Sle S) F_singleSum_o153 F_fewest_o153 F_most_o153 (by decide)) E_o153 (hwi hw 15 rfl) (hwi hw 16 rfl) (hwi hw 18 rfl) (hwi hw 17 rfl) (hwi hw 19 rfl) (hwi hw 2 rfl) (by decide) (by decide) (by decide) (by decide) (by decide) rfl (argsL := [.int t82]) rfl (lenOf pd_3 rfl) (rest := []) rfl (Nat.le_of_eq rfl) d0_172 (pr fun T r172 pr172 S => ?_)
    show Wp n0 p e _ s below _ T (mkF m 175 #[.val (.int x0), .val (.int x1), .val (.int x2), .val (.int x3), .val (.int (1 : Int32)), .val (.int (1 : Int32)), .val (.int r46), .val (.int r54), .val (.int t63), .val (.int t82), .val (.int (1 : Int32)), .val (.ref o153)] [.int r172])
    refine iload K S rfl d0_175 ?_
    refine icmpz_ne K S d0_177 (fun (c177 : ¬ r172.toInt = 1) => ?_) (fun (c177 : r172.toInt = 1) => ?_)
    · exfalso; have q0 : (0 : Int32).toInt = 0 := rfl; have q1 : (1 : Int32).toInt = 1 := rfl; have q2 : (2 : Int32).toInt = 2 := rfl; omega
    refine iconst K S (x := (1 : Int32)) rfl d0_180 ?_
    refine goto K S d0_181 ?_
    refine retn K S (by simp) (y := (1 : Int32)) rfl (by decide) (by decide) d0_185 ?_
    rfl
  refine iload K S rfl d0_122 ?_
  refine ificz_ne K S d0_124 (fun (c124 : ¬ 1 = 0) => ?_) (fun (c124 : 1 = 0) => ?_)
  rotate_left
  · exact absurd c124 (by decide)
  refine iconst K S (x := (1 : Int32)) rfl d0_146 ?_
  refine goto K S d0_147 ?_
  refine istore K S (l' := #[.val (.int x0), .val (.int x1), .val (.int x2), .val (.int x3), .val (.int (1 : Int32)), .val (.int (1 : Int32)), .val (.int r46), .val (.int r54), .val (.int t63), .val (.int t82), .val (.int (1 : Int32)), .unset]) rfl d0_151 ?_
  refine new K S (hwi hw 0 rfl) (hwi hw 1 rfl) (hwi hw 2 rfl) (by decide) (by decide) d0_153 fun T h153_81 o153 z_o153 g_o153 X E_o153 D S => ?_
  have F_singleSum_o153 : Fld Z h153_81 o153 "com/example/awardsmith/awardsmith/plan/Installments" "singleSum" "Z" (.int (0 : Int32)) := D (Or.inr (hwi hw 10 rfl)) (ty := .boolean) (by decide)
  have F_fewest_o153 : Fld Z h153_81 o153 "com/example/awardsmith/awardsmith/plan/Installments" "fewest" "I" (.int (0 : Int32)) := D (Or.inr (hwi hw 12 rfl)) (ty := .int) (by decide)
  have F_most_o153 : Fld Z h153_81 o153 "com/example/awardsmith/awardsmith/plan/Installments" "most" "I" (.int (0 : Int32)) := D (Or.inr (hwi hw 14 rfl)) (ty := .int) (by decide)
  clear D X
  refine dup K S rfl d0_156 ?_
  refine iload K S rfl d0_157 ?_
  refine iload K S rfl d0_159 ?_
  refine iload K S rfl d0_161 ?_
  refine callC K S (W := 1) (m_ini l Z a0 hw n0 o153 (1 : Int32) r46 r54 h153_81 (Sle S) g_o153 E_o153 F_singleSum_o153 F_fewest_o153 F_most_o153 rfl rfl) rfl rfl (hwi hw 3 rfl) (hwi hw 4 rfl) (hwi hw 5 rfl) (hwi hw 2 rfl) (by decide) (by decide) (by decide) (by decide) (by decide) rfl (argsL := [.int (1 : Int32), .int r46, .int r54]) rfl (lenOf pd_1 rfl) (rest := [.ref o153]) rfl (Nat.le_of_eq rfl) d0_163 (ef fun T h163_82 hP S => ?_)
  obtain ⟨E_o153, F_singleSum_o153, F_fewest_o153, F_most_o153⟩ := hP
  show Wp n0 p e _ s below _ T (mkF m 166 #[.val (.int x0), .val (.int x1), .val (.int x2), .val (.int x3), .val (.int (1 : Int32)), .val (.int (1 : Int32)), .val (.int r46), .val (.int r54), .val (.int t63), .val (.int t82), .val (.int (1 : Int32)), .unset] [.ref o153])
  refine astore K S (l' := #[.val (.int x0), .val (.int x1), .val (.int x2), .val (.int x3), .val (.int (1 : Int32)), .val (.int (1 : Int32)), .val (.int r46), .val (.int r54), .val (.int t63), .val (.int t82), .val (.int (1 : Int32)), .val (.ref o153)]) rfl rfl d0_166 ?_
  refine aload K S rfl rfl d0_168 ?_
  refine iload K S rfl d0_170 ?_
  refine callV K S (W := 0) (m_allows l Z a0 hw n0 o153 t82 (1 : Int32) r46 r54 h163_82 (Sle S) F_singleSum_o153 F_fewest_o153 F_most_o153 (by decide)) E_o153 (hwi hw 15 rfl) (hwi hw 16 rfl) (hwi hw 18 rfl) (hwi hw 17 rfl) (hwi hw 19 rfl) (hwi hw 2 rfl) (by decide) (by decide) (by decide) (by decide) (by decide) rfl (argsL := [.int t82]) rfl (lenOf pd_3 rfl) (rest := []) rfl (Nat.le_of_eq rfl) d0_172 (pr fun T r172 pr172 S => ?_)
  show Wp n0 p e _ s below _ T (mkF m 175 #[.val (.int x0), .val (.int x1), .val (.int x2), .val (.int x3), .val (.int (1 : Int32)), .val (.int (1 : Int32)), .val (.int r46), .val (.int r54), .val (.int t63), .val (.int t82), .val (.int (1 : Int32)), .val (.ref o153)] [.int r172])
  refine iload K S rfl d0_175 ?_
  refine icmpz_ne K S d0_177 (fun (c177 : ¬ r172.toInt = 1) => ?_) (fun (c177 : r172.toInt = 1) => ?_)
  · exfalso; have q0 : (0 : Int32).toInt = 0 := rfl; have q1 : (1 : Int32).toInt = 1 := rfl; have q2 : (2 : Int32).toInt = 2 := rfl; omega
  refine iconst K S (x := (1 : Int32)) rfl d0_180 ?_
  refine goto K S d0_181 ?_
  refine retn K S (by simp) (y := (1 : Int32)) rfl (by decide) (by decide) d0_185 ?_
  rfl

set_option maxRecDepth 65536 in
set_option maxHeartbeats 40000000 in
theorem comes_1 {Post : Tables → Env → Array Value → State → Outcome → State → Prop} (hpost : ∀ tb e args s v u, (limb_1_1.after args s (.returned v) u = true ∧ limb_1_2.after args s (.returned v) u = true ∧ True) → FrameEnd s (.returned v) u (Jvm.fieldLocs frame_1_writes args s ++ Jvm.arrayLocs frame_1_arrays args s ++ Jvm.staticLocs frame_1_statics s) 16 128 → Post tb e args s (.returned v) u) :
    ArmFor flags0 classFile x code maxLocals ret World_1 tables_1 room_1 Calls_1 rest_1 Pre_1 Post := by
  intro l hfl _ _ p e ha hc hk s m args below hf hA hF happ hP
  obtain ⟨hcalls, hrest, hpre⟩ := hP
  obtain ⟨-, -, -, hnamed, -, -, -, hat⟩ := (Spec.applies_iff hf).mp happ
  obtain ⟨hg, hn⟩ := and_e (Cond.before_iff.mp (show (Jvm.Cond.and given_1 narrow_1).before args s = true from hpre))
  obtain ⟨gc, r0⟩ := and_e hg
  obtain ⟨g0, r1⟩ := and_e r0
  obtain ⟨g1, r2⟩ := and_e r1
  obtain ⟨g2, r3⟩ := and_e r2
  obtain ⟨w0, w1, w2, w3, rfl⟩ : ∃ w0 w1 w2 w3 : Value, args = #[w0, w1, w2, w3] := by
    have hs : args.size = 4 := by simpa [Cond.value, given_1] using gc
    obtain ⟨L⟩ := args
    match L, hs with
    | [w0, w1, w2, w3], _ => exact ⟨w0, w1, w2, w3, rfl⟩
  have hw := fun d (hd : d ∈ tables_1) => atoms_spec (ws := Jvm.Cond.code x code maxLocals ret :: tables_1) hat d (List.mem_cons_of_mem _ hd)
  obtain ⟨i0, ei0⟩ := is_v g0
  obtain rfl : w0 = (.int i0) := Option.some.inj ei0
  obtain ⟨i1, ei1⟩ := is_v g1
  obtain rfl : w1 = (.int i1) := Option.some.inj ei1
  obtain ⟨i2, ei2⟩ := is_v g2
  obtain rfl : w2 = (.int i2) := Option.some.inj ei2
  obtain ⟨i3, ei3⟩ := is_v r3
  obtain rfl : w3 = (.int i3) := Option.some.inj ei3
  obtain ⟨n, o, h1, h2, h3, _, L, rfl, ⟨rfl, -, N⟩, hq⟩ := m_law l s _ hw s.heap.size i0 i1 i2 i3 s.heap (Nat.le_refl _) p e ha hc hk s m _ below hf ((Spec.applies_iff_loose hf).mp happ).1 ⟨rfl, State.Warmed39.refl s, rfl⟩ trivial
  refine ⟨n, _, h1, h2, h3, hpost _ _ _ _ _ _ ⟨Cond.after_iff.mpr rfl, Cond.after_iff.mpr (eq_i res_at (Term.int_eval (1)) rfl), trivial⟩ ⟨hq.1, hq.2.1, (hq.2.2.sift fun y hy => Or.inr (N y hy)).mono (by decide) (by decide)⟩⟩
theorem main_1_1 : Claimed_1_1 := comes_1 fun _ _ _ _ _ _ h hF => ⟨h.1, hF⟩
theorem main_1_2 : Claimed_1_2 := comes_1 fun _ _ _ _ _ _ h hF => ⟨h.2.1, hF⟩
end Jvm.Pilot.@@N@@
namespace Jvm.Pilot.@@N@@
open Jvm Jvm.ClassFile Sem Op Lib Jvm.Free Jvm.Stand Jvm.Pilot.@@N@@.Jvm.D
/-! MADE BY PROGRAM (witnessworld.py) out of the Statement's table words and the real class files: 10 classes; the members and pool entries that the words name. The judged class is class 1, her method 1. -/
namespace start1
open Jvm.ClassFile
def u (s : String) : CpInfo := .utf8 (stringToUtf16 s)
/-- a pool by its gaps: so many unusable entries, then the entry; so many at the end -/
def gap : Nat → List CpInfo → List CpInfo
  | 0, r => r
  | n + 1, r => .unusable :: gap n r
def poolList (es : List (Nat × CpInfo)) (last : Nat) : List CpInfo := es.foldr (fun e r => gap e.1 (e.2 :: r)) (gap last [])
def pool (es : List (Nat × CpInfo)) (last : Nat) : Array CpInfo := ⟨poolList es last⟩
def fileOf (pool : Array CpInfo) (this : Nat) (attrs : Array Attribute := #[]) (ms : Array MethodInfo := #[]) (fl : Nat := 33) (sup : Nat := 0) (ifs : Array Nat := #[]) (fds : Array FieldInfo := #[]) : ClassFile where
  minorVersion := 0
  majorVersion := 65
  constantPool := pool
  accessFlags := fl
  thisClass := this
  superClass := sup
  interfaces := ifs
  fields := fds
  methods := ms
  attributes := attrs
def plain (name : String) (sup : Option ClassId) : Class where
  name := name
  kind := .ordinary
  loader := none
  accessFlags := 33
  super := sup
  interfaces := #[]
  cf := none
  fields := #[]
  methods := #[]
  instanceTypes := #[]
  staticTypes := #[]
  resolved := #[]
  callSites := []
  init := .initialized
  statics := none
  mirror := none

def pool0 : Array CpInfo := pool [(5, u "<init>"), (0, u "()V"), (1, .class_ 10), (1, u "java/lang/Object")] 113

def k0c0 : Code := { maxStack := 0, maxLocals := 1, code := object_method_1_code, exceptionTable := #[], attributes := #[] }
def k0m0 : Method := { name := "<init>", desc := "()V", sig := { parameters := [], returnType := none }, accessFlags := 1, code := some k0c0 }
/-- java/lang/Object -/
def k0 : Class := { plain "java/lang/Object" none with
  accessFlags := 33
  interfaces := #[]
  cf := some (fileOf pool0 8 #[] #[{ accessFlags := 1, nameIndex := 5, descriptorIndex := 6, attributes := #[] }] 33 0 #[] #[])
  fields := #[]
  methods := #[k0m0]
  instanceTypes := #[]
  staticTypes := #[]
  resolved := Array.replicate 124 none
  statics := none }

def pool1 : Array CpInfo := pool [(2, .class_ 4), (1, u "java/lang/Object"), (0, u "<init>"), (0, u "()V"), (0, .methodref 8 9), (0, .class_ 10), (0, .nameAndType 11 12), (0, u "java/lang/Math"), (0, u "max"), (0, u "(II)I"), (0, .class_ 14), (0, u "com/example/awardsmith/awardsmith/plan/Installments"), (0, .methodref 13 16), (0, .nameAndType 5 17), (0, u "(ZII)V"), (0, .methodref 13 19), (0, .nameAndType 20 21), (0, u "allows"), (0, u "(I)Z"), (0, .class_ 23), (0, u "com/example/awardsmith/awardsmith/plan/InstallmentsAllowsPinLaw"), (2, u "law"), (0, u "(IIII)Z")] 3

def k1m0 : Method := { name := "<init>", desc := "()V", sig := { parameters := [], returnType := none }, accessFlags := 1, code := none }
def k1c1 : Code := { maxStack := 5, maxLocals := 12, code := code, exceptionTable := #[], attributes := #[] }
def k1m1 : Method := { name := "law", desc := "(IIII)Z", sig := { parameters := [.int, .int, .int, .int], returnType := some .boolean }, accessFlags := 9, code := some k1c1 }
/-- com/example/awardsmith/awardsmith/plan/InstallmentsAllowsPinLaw -/
def k1 : Class := { plain "com/example/awardsmith/awardsmith/plan/InstallmentsAllowsPinLaw" (some 0) with
  accessFlags := 49
  interfaces := #[]
  cf := some (fileOf pool1 22 #[] #[{ accessFlags := 1, nameIndex := 5, descriptorIndex := 6, attributes := #[] }, { accessFlags := 9, nameIndex := 26, descriptorIndex := 27, attributes := #[] }] 49 2 #[] #[])
  fields := #[]
  methods := #[k1m0, k1m1]
  instanceTypes := #[]
  staticTypes := #[]
  resolved := Array.replicate 31 none
  statics := none }

def pool2 : Array CpInfo := pool [(1, .methodref 2 3), (0, .class_ 4), (0, .nameAndType 5 6), (0, u "java/lang/Object"), (0, u "<init>"), (0, u "()V"), (0, .fieldref 8 9), (0, .class_ 10), (0, .nameAndType 11 12), (0, u "com/example/awardsmith/awardsmith/plan/Installments"), (0, u "singleSum"), (0, u "Z"), (0, .fieldref 8 14), (0, .nameAndType 15 16), (0, u "fewest"), (0, u "I"), (0, .fieldref 8 18), (0, .nameAndType 19 16), (0, u "most"), (9, u "(ZII)V"), (2, u "allows"), (0, u "(I)Z")] 24

def k2c0 : Code := { maxStack := 2, maxLocals := 4, code := prog_59_method_1_code, exceptionTable := #[], attributes := #[] }
def k2m0 : Method := { name := "<init>", desc := "(ZII)V", sig := { parameters := [.boolean, .int, .int], returnType := none }, accessFlags := 1, code := some k2c0 }
def k2c1 : Code := { maxStack := 2, maxLocals := 2, code := prog_59_method_2_code, exceptionTable := #[], attributes := #[] }
def k2m1 : Method := { name := "allows", desc := "(I)Z", sig := { parameters := [.int], returnType := some .boolean }, accessFlags := 1, code := some k2c1 }
/-- com/example/awardsmith/awardsmith/plan/Installments -/
def k2 : Class := { plain "com/example/awardsmith/awardsmith/plan/Installments" (some 0) with
  accessFlags := 33
  interfaces := #[]
  cf := some (fileOf pool2 8 #[] #[{ accessFlags := 1, nameIndex := 5, descriptorIndex := 29, attributes := #[] }, { accessFlags := 1, nameIndex := 32, descriptorIndex := 33, attributes := #[] }] 33 2 #[] #[{ accessFlags := 18, nameIndex := 11, descriptorIndex := 12, attributes := #[] }, { accessFlags := 18, nameIndex := 15, descriptorIndex := 16, attributes := #[] }, { accessFlags := 18, nameIndex := 19, descriptorIndex := 16, attributes := #[] }])
  fields := #[{ name := "singleSum", type := .boolean, accessFlags := 18, slot := 0, constantValue := 0 }, { name := "fewest", type := .int, accessFlags := 18, slot := 1, constantValue := 0 }, { name := "most", type := .int, accessFlags := 18, slot := 2, constantValue := 0 }]
  methods := #[k2m0, k2m1]
  instanceTypes := #[.boolean, .int, .int]
  staticTypes := #[]
  resolved := Array.replicate 58 none
  statics := none }

def pool3 : Array CpInfo := pool [(1, .class_ 2), (0, u "java/lang/Math"), (1, .class_ 6), (1, u "java/lang/Object"), (0, u "<init>"), (0, u "()V"), (89, .class_ 100), (1, u "java/lang/Math$RandomNumberGeneratorHolder"), (71, u "negativeZeroFloatBits"), (0, u "J"), (2, u "negativeZeroDoubleBits"), (21, u "max"), (46, u "$assertionsDisabled"), (0, u "Z"), (88, u "(II)I"), (2, u "twoToTheDoubleScaleDown"), (0, u "D"), (4, u "twoToTheDoubleScaleUp"), (9, u "E"), (3, u "PI"), (2, u "TAU"), (2, u "DEGREES_TO_RADIANS"), (0, u "RADIANS_TO_DEGREES")] 94

def k3m0 : Method := { name := "<init>", desc := "()V", sig := { parameters := [], returnType := none }, accessFlags := 2, code := none }
def k3c1 : Code := { maxStack := 2, maxLocals := 2, code := jdk_29_method_65_code, exceptionTable := #[], attributes := #[] }
def k3m1 : Method := { name := "max", desc := "(II)I", sig := { parameters := [.int, .int], returnType := some .int }, accessFlags := 9, code := some k3c1 }
/-- java/lang/Math -/
def k3 : Class := { plain "java/lang/Math" (some 0) with
  accessFlags := 49
  interfaces := #[]
  cf := some (fileOf pool3 1 #[.nestMembers #[98]] #[{ accessFlags := 2, nameIndex := 7, descriptorIndex := 8, attributes := #[] }, { accessFlags := 9, nameIndex := 198, descriptorIndex := 335, attributes := #[] }] 49 4 #[] #[{ accessFlags := 25, nameIndex := 354, descriptorIndex := 339, attributes := #[] }, { accessFlags := 25, nameIndex := 358, descriptorIndex := 339, attributes := #[] }, { accessFlags := 25, nameIndex := 361, descriptorIndex := 339, attributes := #[] }, { accessFlags := 26, nameIndex := 364, descriptorIndex := 339, attributes := #[] }, { accessFlags := 26, nameIndex := 365, descriptorIndex := 339, attributes := #[] }, { accessFlags := 26, nameIndex := 172, descriptorIndex := 173, attributes := #[] }, { accessFlags := 26, nameIndex := 176, descriptorIndex := 173, attributes := #[] }, { accessFlags := 8, nameIndex := 344, descriptorIndex := 339, attributes := #[] }, { accessFlags := 8, nameIndex := 338, descriptorIndex := 339, attributes := #[] }, { accessFlags := 4120, nameIndex := 245, descriptorIndex := 246, attributes := #[] }])
  fields := #[{ name := "E", type := .double, accessFlags := 25, slot := 0, constantValue := 0 }, { name := "PI", type := .double, accessFlags := 25, slot := 1, constantValue := 0 }, { name := "TAU", type := .double, accessFlags := 25, slot := 2, constantValue := 0 }, { name := "DEGREES_TO_RADIANS", type := .double, accessFlags := 26, slot := 3, constantValue := 0 }, { name := "RADIANS_TO_DEGREES", type := .double, accessFlags := 26, slot := 4, constantValue := 0 }, { name := "negativeZeroFloatBits", type := .long, accessFlags := 26, slot := 5, constantValue := 0 }, { name := "negativeZeroDoubleBits", type := .long, accessFlags := 26, slot := 6, constantValue := 0 }, { name := "twoToTheDoubleScaleUp", type := .double, accessFlags := 8, slot := 7, constantValue := 0 }, { name := "twoToTheDoubleScaleDown", type := .double, accessFlags := 8, slot := 8, constantValue := 0 }, { name := "$assertionsDisabled", type := .boolean, accessFlags := 4120, slot := 9, constantValue := 0 }]
  methods := #[k3m0, k3m1]
  instanceTypes := #[]
  staticTypes := #[.double, .double, .double, .double, .double, .long, .long, .double, .double, .boolean]
  resolved := Array.replicate 460 none
  statics := none }

def pool4 : Array CpInfo := pool [(1, u "java/lang/Cloneable"), (0, .class_ 1), (0, u "java/lang/Object"), (0, .class_ 3)] 3

/-- java/lang/Cloneable -/
def k4 : Class := { plain "java/lang/Cloneable" (some 0) with
  accessFlags := 1537
  interfaces := #[]
  cf := some (fileOf pool4 2 #[] #[] 1537 4 #[] #[])
  fields := #[]
  methods := #[]
  instanceTypes := #[]
  staticTypes := #[]
  resolved := Array.replicate 8 none
  statics := none }

def pool5 : Array CpInfo := pool [(1, u "java/io/Serializable"), (0, .class_ 1), (0, u "java/lang/Object"), (0, .class_ 3)] 3

/-- java/io/Serializable -/
def k5 : Class := { plain "java/io/Serializable" (some 0) with
  accessFlags := 1537
  interfaces := #[]
  cf := some (fileOf pool5 2 #[] #[] 1537 4 #[] #[])
  fields := #[]
  methods := #[]
  instanceTypes := #[]
  staticTypes := #[]
  resolved := Array.replicate 8 none
  statics := none }

/-- the primitive byte -/
def k6 : Class := { plain "byte" none with kind := .primitive 'B', accessFlags := 0x411 }
/-- [B -/
def k7 : Class := { plain "[B" (some 0) with kind := .array 6 .byte, interfaces := #[4, 5], accessFlags := 1041 }

/-- the primitive int -/
def k8 : Class := { plain "int" none with kind := .primitive 'I', accessFlags := 0x411 }
/-- [I -/
def k9 : Class := { plain "[I" (some 0) with kind := .array 8 .int, interfaces := #[4, 5], accessFlags := 1041 }

def heap : Heap := #[]
def classes : Array Class := #[k0, k1, k2, k3, k4, k5, k6, k7, k8, k9]
def interned : List (Array UInt16 × Addr) := []
def slotsUsed : Nat := 0
def theMethod : MethodId := ⟨1, 1⟩
def args0 : Array Value := #[.int 2, .int 3, .int 7, .int 4]
def aboutOver (below : List Frame) : State where
  vm := { classes := classes, interned := interned.toArray }
  heap := heap
  slotsUsed := slotsUsed
  threads := #[{ frames := .invoking theMethod args0 :: below }]
def below0 : List Frame := [.native { method := ⟨0, 0⟩, args := #[] }]
def about1 : State := aboutOver below0
def p0 : Program := .bare "" "" ""
def e0 : Env := launch0.env 0 0 0
theorem w_frames : about1.frames = Frame.invoking theMethod args0 :: below0 := rfl
set_option maxRecDepth 65536 in
theorem w_args : argsFit about1.vm theMethod args0 = true := by decide +kernel
set_option maxRecDepth 65536 in
theorem w_heap : heapFits about1 = true := by decide +kernel
set_option maxRecDepth 65536 in
theorem w_runnable : about1.curStatus? = some .runnable := by decide +kernel
set_option maxRecDepth 65536 in
theorem w_alone : about1.alone = true := by decide +kernel
set_option maxRecDepth 65536 in
theorem w_named : about1.methodNamed? x = some theMethod := by decide +kernel
set_option maxRecDepth 65536 in
theorem w_hears : about1.hears theMethod below0 = true := by decide +kernel
set_option maxRecDepth 65536 in
theorem w_ripe : about1.ripe theMethod args0 below0 = true := by decide +kernel
theorem w_running : about1.status = .running := rfl
set_option maxRecDepth 65536 in
theorem w_room : about1.hasRoom e0.platform room_1 = true :=
  launch0.hasRoom_least _ room_1 (by decide +kernel) (by decide +kernel) (by decide +kernel) (by decide +kernel) (by decide +kernel) (by decide +kernel)
theorem allAtoms_all (ts : List Jvm.Cond) (a : Array Jvm.Value) (st : Jvm.State) : (allAtoms ts).before a st = ts.all (fun c => c.before a st) := by
  induction ts with
  | nil => rfl
  | cons c t ih =>
    show (Jvm.Cond.and c (allAtoms t)).before a st = _
    rw [Jvm.Cond.before_and, ih, List.all_cons]
def words1 : List Jvm.Cond := Jvm.Cond.code x code maxLocals ret :: tables_1
/-- a 'code' word, met by the world's own term for the bytes: nothing is compared byte by byte -/
theorem code_word {y : MethodName} {bytes : ByteArray} {mx : Nat} {rt : Option FieldType} {a : Array Value} {s : State} {m : MethodId} {meth : Method} {c : Code} (h1 : s.methodNamed? y = some m) (h2 : s.vm.method? m = some meth) (h3 : meth.code = some c) (h4 : c.code = bytes)
    (h5 : (c.maxLocals == mx && c.exceptionTable.isEmpty && decide (c.maxStack ≤ mostOperands) && decide (meth.sig.returnType = rt) && !meth.locks && decide (parseMethodDescriptor y.desc = some meth.sig)) = true) : (Jvm.Cond.code y bytes mx rt).before a s = true := by
  simp only [Bool.and_eq_true, beq_iff_eq, Bool.not_eq_true', decide_eq_true_eq] at h5
  obtain ⟨⟨⟨⟨⟨g1, g2⟩, g3⟩, g4⟩, g5⟩, g6⟩ := h5
  simp [Cond.before, Cond.holds, Cond.value, h1, h2, h3, h4, g1, g2, g3, g4, g5, g6]
def isCode : Jvm.Cond → Bool
  | .code _ _ _ _ => true
  | _ => false
theorem all_split {L : List Jvm.Cond} {P : Jvm.Cond → Bool} (h1 : L.all (fun c => isCode c || P c) = true) (h2 : ∀ c ∈ L.filter isCode, P c = true) : L.all P = true := by
  refine List.all_eq_true.mpr fun c hc => ?_
  have h := List.all_eq_true.mp h1 c hc
  rcases Bool.eq_false_or_eq_true (isCode c) with hi | hi
  · exact h2 c (List.mem_filter.mpr ⟨hc, hi⟩)
  · simpa [hi] using h
set_option maxRecDepth 65536 in
theorem w_c0 : (Jvm.Cond.code x code maxLocals ret).before args0 about1 = true := code_word (m := ⟨1, 1⟩) (meth := k1m1) (c := k1c1) (by decide +kernel) rfl rfl rfl (by decide +kernel)
set_option maxRecDepth 65536 in
theorem w_c1 : (Jvm.Cond.code ({ cls := "com/example/awardsmith/awardsmith/plan/Installments", name := "<init>", desc := "(ZII)V" } : Jvm.MethodName) prog_59_method_1_code (4 : Nat) (Option.none : Option Jvm.ClassFile.FieldType)).before args0 about1 = true := code_word (m := ⟨2, 0⟩) (meth := k2m0) (c := k2c0) (by decide +kernel) rfl rfl rfl (by decide +kernel)
set_option maxRecDepth 65536 in
theorem w_c2 : (Jvm.Cond.code ({ cls := "java/lang/Object", name := "<init>", desc := "()V" } : Jvm.MethodName) object_method_1_code (1 : Nat) (Option.none : Option Jvm.ClassFile.FieldType)).before args0 about1 = true := code_word (m := ⟨0, 0⟩) (meth := k0m0) (c := k0c0) (by decide +kernel) rfl rfl rfl (by decide +kernel)
set_option maxRecDepth 65536 in
theorem w_c3 : (Jvm.Cond.code ({ cls := "com/example/awardsmith/awardsmith/plan/Installments", name := "allows", desc := "(I)Z" } : Jvm.MethodName) prog_59_method_2_code (2 : Nat) (Option.some Jvm.ClassFile.FieldType.boolean)).before args0 about1 = true := code_word (m := ⟨2, 1⟩) (meth := k2m1) (c := k2c1) (by decide +kernel) rfl rfl rfl (by decide +kernel)
set_option maxRecDepth 65536 in
theorem w_c4 : (Jvm.Cond.code ({ cls := "java/lang/Math", name := "max", desc := "(II)I" } : Jvm.MethodName) jdk_29_method_65_code (2 : Nat) (Option.some Jvm.ClassFile.FieldType.int)).before args0 about1 = true := code_word (m := ⟨3, 1⟩) (meth := k3m1) (c := k3c1) (by decide +kernel) rfl rfl rfl (by decide +kernel)
def codes1 : List Jvm.Cond := [Jvm.Cond.code x code maxLocals ret, Jvm.Cond.code ({ cls := "com/example/awardsmith/awardsmith/plan/Installments", name := "<init>", desc := "(ZII)V" } : Jvm.MethodName) prog_59_method_1_code (4 : Nat) (Option.none : Option Jvm.ClassFile.FieldType), Jvm.Cond.code ({ cls := "java/lang/Object", name := "<init>", desc := "()V" } : Jvm.MethodName) object_method_1_code (1 : Nat) (Option.none : Option Jvm.ClassFile.FieldType), Jvm.Cond.code ({ cls := "com/example/awardsmith/awardsmith/plan/Installments", name := "allows", desc := "(I)Z" } : Jvm.MethodName) prog_59_method_2_code (2 : Nat) (Option.some Jvm.ClassFile.FieldType.boolean), Jvm.Cond.code ({ cls := "java/lang/Math", name := "max", desc := "(II)I" } : Jvm.MethodName) jdk_29_method_65_code (2 : Nat) (Option.some Jvm.ClassFile.FieldType.int)]
set_option maxRecDepth 65536 in
theorem codes_eq : words1.filter isCode = codes1 := rfl
theorem w_codes : ∀ c ∈ words1.filter isCode, c.before args0 about1 = true := by
  rw [codes_eq]
  intro c hc
  simp only [codes1, List.mem_cons, List.not_mem_nil, or_false] at hc
  rcases hc with rfl | rfl | rfl | rfl | rfl
  · exact w_c0
  · exact w_c1
  · exact w_c2
  · exact w_c3
  · exact w_c4
set_option maxRecDepth 65536 in
theorem w_t1 : (words1.take 24).all (fun c => isCode c || c.before args0 about1) = true := by decide +kernel
set_option maxRecDepth 65536 in
theorem w_t2 : (words1.drop 24).all (fun c => isCode c || c.before args0 about1) = true := by decide +kernel
theorem w_tables : (allAtoms (Jvm.Cond.code x code maxLocals ret :: tables_1)).before args0 about1 = true := by
  rw [allAtoms_all]
  show words1.all (fun c => c.before args0 about1) = true
  refine all_split ?_ w_codes
  rw [← List.take_append_drop 24 words1, List.all_append, w_t1, w_t2]
  rfl
set_option maxRecDepth 65536 in
theorem w_case : (Jvm.Cond.and given_1 narrow_1).before args0 about1 = true := by decide +kernel
theorem w_applies : (headSpec (Jvm.Cond.code x code maxLocals ret :: tables_1) room_1).applies x e0.platform about1 = true :=
  (Spec.applies_iff w_frames).mpr ⟨w_running, w_runnable, w_alone, w_named, w_hears, w_ripe, w_room, w_tables⟩
theorem atStart : AtStart classFile x code maxLocals ret World_1 tables_1 room_1 Calls_1 rest_1 Pre_1 launch0 p0 e0 about1 theMethod args0 below0 :=
  ⟨lists_1, trivial, launch0.admits_env _ _ _, launch0.least_env, fairChoices_fair.cas, fairChoices_fair.clock, w_frames, w_args, w_heap, w_applies, trivial, trivial, w_case⟩
end start1
theorem witness_1 : WitnessClaimed_1 := ⟨start1.p0, start1.e0, start1.about1, start1.theMethod, start1.args0, start1.below0, start1.atStart⟩
end Jvm.Pilot.@@N@@
