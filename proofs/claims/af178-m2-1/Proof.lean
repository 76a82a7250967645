import JvmDerived
import JvmDerived.Pilot.@@N@@Statement
import JvmDerived.Pilot.@@N@@Code
set_option linter.unusedVariables false
set_option linter.unusedSimpArgs false
namespace Jvm.Own
open Jvm Sem ClassFile Op Lib Jvm.Stand Jvm.Free Jvm.LawKit Jvm.RoadKit
section Kit
/-- the fixed surroundings of one body's walk -/
def Cx (own : String) (code : ByteArray) (mL : Nat) (ret : Option FieldType) (mn : String) (n0 : Nat) (Z : State) (p : Program) (l : Launch) (e : Env) (R : Room) (s : State) (m : MethodId) (args : Array Value) (below : List Frame) (meth : Method) (c : Code) : Prop :=
  p.tables.exec = Jvm.exec ∧ c.code = code ∧ c.maxLocals = mL ∧ meth.sig.returnType = ret ∧ meth.locks = false ∧ s.vm.findClass own = some m.cls ∧ Z.Warmed39 s.vm ∧ meth.name = mn
/-- where the walk stands: k cells and n slots made so far, the heap h -/
def St (n0 : Nat) (p : Program) (l : Launch) (e : Env) (R : Room) (s : State) (m : MethodId) (args : Array Value) (below : List Frame) (meth : Method) (c : Code) (k n : Nat) (h : Heap) (T : State) : Prop :=
  ∃ locs, Stand p l e R s m args below meth c T locs k n ∧ T.heap = h ∧ Fr n0 locs ∧ n0 ≤ h.size
/-- from here the body comes to its end, and Q holds there -/
def Wp (n0 : Nat) (p : Program) (e : Env) (R : Room) (s : State) (below : List Frame) (Q : Option Value → Heap → Prop) (T : State) (g : JFrame) : Prop :=
  ∃ s₂ o, Steps p.tables e below (T.setTop g) s₂ ∧ s₂.status = .running ∧ Ended s₂ below o ∧ ∃ v L, o = .returned v ∧ (Q v s₂.heap ∧ n0 ≤ s₂.heap.size ∧ Fr n0 L) ∧ FrameEnd s o s₂ L R.cells R.slots
/-- a body's contract: entered with the arguments as' at the heap h it returns, and Q holds of what it returns and of the heap -/
def Met (n0 : Nat) (l : Launch) (Z : State) (y : MethodName) (bytes : ByteArray) (mL : Nat) (ret : Option FieldType) (rm : Room) (ws : List Jvm.Cond) (as' : Array Value) (h : Heap) (Q : Option Value → Heap → Prop) : Prop :=
  MetFree l y (head1 (Jvm.Cond.code y bytes mL ret :: ws) rm) (fun a U => a = as' ∧ Z.Warmed39 U.vm ∧ U.heap = h) (fun _ _ _ _ _ => True) (fun _ U o U' => ∃ v L, o = .returned v ∧ (Q v U'.heap ∧ n0 ≤ U'.heap.size ∧ Fr n0 L) ∧ FrameEnd U o U' L rm.cells rm.slots)
def Dc (code : ByteArray) (pc : Nat) (i : Instr) (len q : Nat) : Prop := decode code pc = .ok (i, len) ∧ pc + len = q
def Bc (code : ByteArray) (pc : Nat) (i : Instr) (o : Int) (q q' : Nat) : Prop := decode code pc = .ok (i, 3) ∧ pc + 3 = q ∧ 0 ≤ (pc : Int) + o ∧ ((pc : Int) + o).toNat = q'
/-- the place i that the int j names -/
def Ix (j : Int32) (i : Nat) : Prop := ¬ j < 0 ∧ j.toNatClampNeg = i
/-- an array of the values vs -/
def VA (Z : State) (h : Heap) (a : Addr) (ty : FieldType) (vs : List Value) : Prop := ∃ cl : Cell, Arr Z h a cl ty ∧ cl.slots = vs.toArray
variable {own : String} {code : ByteArray} {mL : Nat} {ret : Option FieldType} {mn : String} {n0 : Nat} {Z : State} {p : Program} {l : Launch} {e : Env} {R : Room} {s : State} {m : MethodId} {args : Array Value} {below : List Frame} {meth : Method} {c : Code} {T : State} {k n : Nat} {h h' : Heap} {Q : Option Value → Heap → Prop} {pc q q' : Nat} {Ls l' : Array Slot} {st rest : List Value} {a0 : Array Value} {ty : FieldType} {vs : List Value} {a b : Addr} {v w : Value} {x y : Int32} {X Y : Int64}
theorem VA.ext (F : VA Z h a ty vs) (E : Ext h h') : VA Z h' a ty vs := by obtain ⟨cl, A, r⟩ := F; exact ⟨cl, A.ext E, r⟩
theorem VA.other {sl : Nat} (F : VA Z h a ty vs) (W : Wr h h' b sl v) (ne : a ≠ b) : VA Z h' a ty vs := by obtain ⟨cl, A, r⟩ := F; exact ⟨cl, A.other W ne, r⟩
theorem VA.keep {ws : List Addr} (F : VA Z h a ty vs) (K : Keep h h' ws) (ne : a ∉ ws) : VA Z h' a ty vs := by obtain ⟨cl, A, r⟩ := F; exact ⟨cl, ⟨K.2.1 a cl A.1 ne, A.2⟩, r⟩
theorem VA.lt (F : VA Z h a ty vs) : a < h.size := by obtain ⟨cl, A, r⟩ := F; exact A.lt
theorem VA.wr {i : Nat} (F : VA Z h a ty vs) (W : Wr h h' a i v) : VA Z h' a ty (vs.set i v) := by
  obtain ⟨cl, A, r⟩ := F
  refine ⟨_, Arr.same W A, ?_⟩
  show cl.slots.setIfInBounds i v = _
  rw [r]; simp
theorem wp_mono {T' : State} {g g' : JFrame} (f : ∀ t, Steps p.tables e below (T'.setTop g') t → Steps p.tables e below (T.setTop g) t) (w : Wp n0 p e R s below Q T' g') : Wp n0 p e R s below Q T g := by
  obtain ⟨s₂, o, h1, r⟩ := w; exact ⟨s₂, o, f _ h1, r⟩
theorem nmI (g : ∀ z, z = x → Wp n0 p e R s below Q T (mkF m pc Ls (.int z :: st))) : Wp n0 p e R s below Q T (mkF m pc Ls (.int x :: st)) := g x rfl
theorem nmL (g : ∀ z, z = X → Wp n0 p e R s below Q T (mkF m pc Ls (.long z :: st))) : Wp n0 p e R s below Q T (mkF m pc Ls (.long X :: st)) := g X rfl
def Pu (r : Option Value) (h : Heap) : Option Value → Heap → Prop := fun v h' => v = r ∧ h' = h
def Ef (r : Option Value) (P : Heap → Prop) : Option Value → Heap → Prop := fun v h' => v = r ∧ P h'
def Pr (P : Int32 → Prop) (h : Heap) : Option Value → Heap → Prop := fun v h' => ∃ r, v = some (.int r) ∧ P r ∧ h' = h
def PrL (P : Int64 → Prop) (h : Heap) : Option Value → Heap → Prop := fun v h' => ∃ r, v = some (.long r) ∧ P r ∧ h' = h
def Er (P : Int32 → Heap → Prop) : Option Value → Heap → Prop := fun v h' => ∃ r, v = some (.int r) ∧ P r h'
def Ea (P : Addr → Heap → Prop) : Option Value → Heap → Prop := fun v h' => ∃ r, v = some (.ref r) ∧ P r h'
theorem own_b01 {x : Int32} (h : x.toInt = 0 ∨ x.toInt = 1) : nar .boolean x = x := by
  rcases h with h | h
  · have e : x = 0 := Int32.toInt_inj.mp h
    subst e; rfl
  · have e : x = 1 := Int32.toInt_inj.mp h
    subst e; rfl
theorem own_eqz {x y : Int32} (h : x.toInt = y.toInt) : x = y := Int32.toInt_inj.mp h
theorem own_eqZ {x y : Int64} (h : x.toInt = y.toInt) : x = y := Int64.toInt_inj.mp h
theorem own_lrem (x y : Int64) (d : Int) (hy : y.toInt = d) : (0 ≤ x.toInt → (x % y).toInt = x.toInt % d) ∧ (x.toInt < 0 → (x % y).toInt = -((-x.toInt) % d)) := by rw [Int64.toInt_mod, hy]; exact tr _ _
theorem own_nz {y : Int32} (h : 0 < y.toInt) : y ≠ 0 := fun q => by rw [q] at h; exact absurd h (by decide)
theorem own_nneg {x : Int32} (h : 0 ≤ x.toInt) : ¬ x < 0 := fun q => by
  have q' := Int32.lt_iff_toInt_lt.mp q
  have z0 : (0 : Int32).toInt = 0 := rfl
  omega
theorem own_cl {x : Int32} (h : 0 ≤ x.toInt) : (x.toNatClampNeg : Int) = x.toInt := by
  have e : x.toNatClampNeg = x.toInt.toNat := rfl
  omega
theorem own_ix {x : Int32} (h : 0 ≤ x.toInt) : Ix x x.toInt.toNat := ⟨own_nneg h, rfl⟩
theorem stO {i : Nat} {o : Slot} (ho : One o) (hold : Ls[i]? = some o) (hv : v.category = 1) (he : Ls.setIfInBounds i (.val v) = l') : storeLocals Ls i v = some l' := he ▸ XS.store1 hold ho hv
theorem Sle (S : St n0 p l e R s m args below meth c k n h T) : n0 ≤ h.size := by obtain ⟨_, _, _, _, z⟩ := S; exact z
theorem more {k' n' : Nat} (S : St n0 p l e R s m args below meth c k n h T) (hk : k ≤ k') (hn : n ≤ n') : St n0 p l e R s m args below meth c k' n' h T := by
  obtain ⟨locs, S, r⟩ := S; exact ⟨locs, S.more hk hn, r⟩
theorem pu {r : Option Value} (g : ∀ T, St n0 p l e R s m args below meth c k n h T → Wp n0 p e R s below Q T (mkF m q Ls (r.toList ++ rest))) : ∀ T v h', Pu r h v h' → St n0 p l e R s m args below meth c k n h' T → Wp n0 p e R s below Q T (mkF m q Ls (v.toList ++ rest)) := by
  intro T v h' hq S; obtain ⟨rfl, rfl⟩ := hq; exact g T S
theorem ef {r : Option Value} {P : Heap → Prop} (g : ∀ T h', P h' → St n0 p l e R s m args below meth c k n h' T → Wp n0 p e R s below Q T (mkF m q Ls (r.toList ++ rest))) : ∀ T v h', Ef r P v h' → St n0 p l e R s m args below meth c k n h' T → Wp n0 p e R s below Q T (mkF m q Ls (v.toList ++ rest)) := by
  intro T v h' hq S; obtain ⟨rfl, hp⟩ := hq; exact g T h' hp S
theorem pr {P : Int32 → Prop} (g : ∀ T r, P r → St n0 p l e R s m args below meth c k n h T → Wp n0 p e R s below Q T (mkF m q Ls (.int r :: rest))) : ∀ T v h', Pr P h v h' → St n0 p l e R s m args below meth c k n h' T → Wp n0 p e R s below Q T (mkF m q Ls (v.toList ++ rest)) := by
  intro T v h' hq S; obtain ⟨r, rfl, hp, rfl⟩ := hq; exact g T r hp S
theorem prL {P : Int64 → Prop} (g : ∀ T r, P r → St n0 p l e R s m args below meth c k n h T → Wp n0 p e R s below Q T (mkF m q Ls (.long r :: rest))) : ∀ T v h', PrL P h v h' → St n0 p l e R s m args below meth c k n h' T → Wp n0 p e R s below Q T (mkF m q Ls (v.toList ++ rest)) := by
  intro T v h' hq S; obtain ⟨r, rfl, hp, rfl⟩ := hq; exact g T r hp S
theorem er {P : Int32 → Heap → Prop} (g : ∀ T r h', P r h' → St n0 p l e R s m args below meth c k n h' T → Wp n0 p e R s below Q T (mkF m q Ls (.int r :: rest))) : ∀ T v h', Er P v h' → St n0 p l e R s m args below meth c k n h' T → Wp n0 p e R s below Q T (mkF m q Ls (v.toList ++ rest)) := by
  intro T v h' hq S; obtain ⟨r, rfl, hp⟩ := hq; exact g T r h' hp S
theorem ea {P : Addr → Heap → Prop} (g : ∀ T r h', P r h' → St n0 p l e R s m args below meth c k n h' T → Wp n0 p e R s below Q T (mkF m q Ls (.ref r :: rest))) : ∀ T v h', Ea P v h' → St n0 p l e R s m args below meth c k n h' T → Wp n0 p e R s below Q T (mkF m q Ls (v.toList ++ rest)) := by
  intro T v h' hq S; obtain ⟨r, rfl, hp⟩ := hq; exact g T r h' hp S
theorem enter {y : MethodName} {bytes : ByteArray} {rm : Room} {ws : List Jvm.Cond} {as' : Array Value} (hpn : plainFor y = true) (ef : ∀ m, entryFrame m as' mL = mkF m 0 Ls []) (hn : n0 ≤ h.size)
    (body : ∀ p e s m below meth c T, Cx y.cls bytes mL ret y.name n0 Z p l e rm s m as' below meth c → St n0 p l e rm s m as' below meth c 0 0 h T → Wp n0 p e rm s below Q T (mkF m 0 Ls [])) : Met n0 l Z y bytes mL ret rm ws as' h Q := by
  refine MetFree.of_bodySF hpn hisR ?_
  intro p e s m args below meth c s₁ Bd hml0 hP hK
  obtain ⟨rfl, hZ, hh⟩ := hP
  have e0 : s₁.heap = h := by rw [← hh, Bd.state]; rfl
  have w := body p e s m below meth c s₁ ⟨Bd.exec, Bd.bytes, hml0, Bd.returns, Bd.notSynchronized, findClass_of_methodNamed Bd.named, hZ, (name_of_methodNamed Bd.named Bd.method).1⟩ ⟨[], Stand.of_body Bd, e0, Fr.nil n0, hn⟩
  obtain ⟨s₂, o, h1, r⟩ := w
  exact ⟨s₂, o, castTop (ef m) h1, r⟩
theorem iadd (K : Cx own code mL ret mn n0 Z p l e R s m args below meth c) (S : St n0 p l e R s m args below meth c k n h T) (hd : Dc code pc (.iadd) 1 q) (g : Wp n0 p e R s below Q T (mkF m q Ls (.int (x + y) :: st))) : Wp n0 p e R s below Q T (mkF m pc Ls (.int y :: .int x :: st)) := by
  obtain ⟨hx, hby, -⟩ := K; obtain ⟨locs, S, -, -⟩ := S; obtain ⟨hd, rfl⟩ := hd
  exact wp_mono (fun t hr => XS.iadd S.here hx rfl (hb hby hd) rfl hr) g
theorem isub (K : Cx own code mL ret mn n0 Z p l e R s m args below meth c) (S : St n0 p l e R s m args below meth c k n h T) (hd : Dc code pc (.isub) 1 q) (g : Wp n0 p e R s below Q T (mkF m q Ls (.int (x - y) :: st))) : Wp n0 p e R s below Q T (mkF m pc Ls (.int y :: .int x :: st)) := by
  obtain ⟨hx, hby, -⟩ := K; obtain ⟨locs, S, -, -⟩ := S; obtain ⟨hd, rfl⟩ := hd
  exact wp_mono (fun t hr => XS.isub S.here hx rfl (hb hby hd) rfl hr) g
theorem imul (K : Cx own code mL ret mn n0 Z p l e R s m args below meth c) (S : St n0 p l e R s m args below meth c k n h T) (hd : Dc code pc (.imul) 1 q) (g : Wp n0 p e R s below Q T (mkF m q Ls (.int (x * y) :: st))) : Wp n0 p e R s below Q T (mkF m pc Ls (.int y :: .int x :: st)) := by
  obtain ⟨hx, hby, -⟩ := K; obtain ⟨locs, S, -, -⟩ := S; obtain ⟨hd, rfl⟩ := hd
  exact wp_mono (fun t hr => XS.imul S.here hx rfl (hb hby hd) rfl hr) g
theorem iand (K : Cx own code mL ret mn n0 Z p l e R s m args below meth c) (S : St n0 p l e R s m args below meth c k n h T) (hd : Dc code pc (.iand) 1 q) (g : Wp n0 p e R s below Q T (mkF m q Ls (.int (x &&& y) :: st))) : Wp n0 p e R s below Q T (mkF m pc Ls (.int y :: .int x :: st)) := by
  obtain ⟨hx, hby, -⟩ := K; obtain ⟨locs, S, -, -⟩ := S; obtain ⟨hd, rfl⟩ := hd
  exact wp_mono (fun t hr => XS.iand S.here hx rfl (hb hby hd) rfl hr) g
theorem ior (K : Cx own code mL ret mn n0 Z p l e R s m args below meth c) (S : St n0 p l e R s m args below meth c k n h T) (hd : Dc code pc (.ior) 1 q) (g : Wp n0 p e R s below Q T (mkF m q Ls (.int (x ||| y) :: st))) : Wp n0 p e R s below Q T (mkF m pc Ls (.int y :: .int x :: st)) := by
  obtain ⟨hx, hby, -⟩ := K; obtain ⟨locs, S, -, -⟩ := S; obtain ⟨hd, rfl⟩ := hd
  exact wp_mono (fun t hr => XT.ior S.here hx rfl (hb hby hd) rfl hr) g
theorem ixor (K : Cx own code mL ret mn n0 Z p l e R s m args below meth c) (S : St n0 p l e R s m args below meth c k n h T) (hd : Dc code pc (.ixor) 1 q) (g : Wp n0 p e R s below Q T (mkF m q Ls (.int (x ^^^ y) :: st))) : Wp n0 p e R s below Q T (mkF m pc Ls (.int y :: .int x :: st)) := by
  obtain ⟨hx, hby, -⟩ := K; obtain ⟨locs, S, -, -⟩ := S; obtain ⟨hd, rfl⟩ := hd
  exact wp_mono (fun t hr => XT.ixor S.here hx rfl (hb hby hd) rfl hr) g
theorem ishl (K : Cx own code mL ret mn n0 Z p l e R s m args below meth c) (S : St n0 p l e R s m args below meth c k n h T) (hd : Dc code pc (.ishl) 1 q) (g : Wp n0 p e R s below Q T (mkF m q Ls (.int (x <<< (y &&& 31)) :: st))) : Wp n0 p e R s below Q T (mkF m pc Ls (.int y :: .int x :: st)) := by
  obtain ⟨hx, hby, -⟩ := K; obtain ⟨locs, S, -, -⟩ := S; obtain ⟨hd, rfl⟩ := hd
  exact wp_mono (fun t hr => XT.ishl S.here hx rfl (hb hby hd) rfl hr) g
theorem ishr (K : Cx own code mL ret mn n0 Z p l e R s m args below meth c) (S : St n0 p l e R s m args below meth c k n h T) (hd : Dc code pc (.ishr) 1 q) (g : Wp n0 p e R s below Q T (mkF m q Ls (.int (x >>> (y &&& 31)) :: st))) : Wp n0 p e R s below Q T (mkF m pc Ls (.int y :: .int x :: st)) := by
  obtain ⟨hx, hby, -⟩ := K; obtain ⟨locs, S, -, -⟩ := S; obtain ⟨hd, rfl⟩ := hd
  exact wp_mono (fun t hr => XT.ishr S.here hx rfl (hb hby hd) rfl hr) g
theorem iushr (K : Cx own code mL ret mn n0 Z p l e R s m args below meth c) (S : St n0 p l e R s m args below meth c k n h T) (hd : Dc code pc (.iushr) 1 q) (g : Wp n0 p e R s below Q T (mkF m q Ls (.int (XT.ushr x y) :: st))) : Wp n0 p e R s below Q T (mkF m pc Ls (.int y :: .int x :: st)) := by
  obtain ⟨hx, hby, -⟩ := K; obtain ⟨locs, S, -, -⟩ := S; obtain ⟨hd, rfl⟩ := hd
  exact wp_mono (fun t hr => XT.iushr S.here hx rfl (hb hby hd) rfl hr) g
theorem idiv (K : Cx own code mL ret mn n0 Z p l e R s m args below meth c) (S : St n0 p l e R s m args below meth c k n h T) (hy : y ≠ 0) (hd : Dc code pc (.idiv) 1 q) (g : Wp n0 p e R s below Q T (mkF m q Ls (.int (x / y) :: st))) : Wp n0 p e R s below Q T (mkF m pc Ls (.int y :: .int x :: st)) := by
  obtain ⟨hx, hby, -⟩ := K; obtain ⟨locs, S, -, -⟩ := S; obtain ⟨hd, rfl⟩ := hd
  exact wp_mono (fun t hr => XS.idiv S.here hx rfl (hb hby hd) rfl hy hr) g
theorem irem (K : Cx own code mL ret mn n0 Z p l e R s m args below meth c) (S : St n0 p l e R s m args below meth c k n h T) (hy : y ≠ 0) (hd : Dc code pc (.irem) 1 q) (g : Wp n0 p e R s below Q T (mkF m q Ls (.int (x % y) :: st))) : Wp n0 p e R s below Q T (mkF m pc Ls (.int y :: .int x :: st)) := by
  obtain ⟨hx, hby, -⟩ := K; obtain ⟨locs, S, -, -⟩ := S; obtain ⟨hd, rfl⟩ := hd
  exact wp_mono (fun t hr => iremM S hx rfl (hb hby hd) rfl hy hr) g
theorem ladd (K : Cx own code mL ret mn n0 Z p l e R s m args below meth c) (S : St n0 p l e R s m args below meth c k n h T) (hd : Dc code pc (.ladd) 1 q) (g : Wp n0 p e R s below Q T (mkF m q Ls (.long (X + Y) :: st))) : Wp n0 p e R s below Q T (mkF m pc Ls (.long Y :: .long X :: st)) := by
  obtain ⟨hx, hby, -⟩ := K; obtain ⟨locs, S, -, -⟩ := S; obtain ⟨hd, rfl⟩ := hd
  exact wp_mono (fun t hr => XT.ladd S.here hx rfl (hb hby hd) rfl hr) g
theorem lsub (K : Cx own code mL ret mn n0 Z p l e R s m args below meth c) (S : St n0 p l e R s m args below meth c k n h T) (hd : Dc code pc (.lsub) 1 q) (g : Wp n0 p e R s below Q T (mkF m q Ls (.long (X - Y) :: st))) : Wp n0 p e R s below Q T (mkF m pc Ls (.long Y :: .long X :: st)) := by
  obtain ⟨hx, hby, -⟩ := K; obtain ⟨locs, S, -, -⟩ := S; obtain ⟨hd, rfl⟩ := hd
  exact wp_mono (fun t hr => XT.lsub S.here hx rfl (hb hby hd) rfl hr) g
theorem lmul (K : Cx own code mL ret mn n0 Z p l e R s m args below meth c) (S : St n0 p l e R s m args below meth c k n h T) (hd : Dc code pc (.lmul) 1 q) (g : Wp n0 p e R s below Q T (mkF m q Ls (.long (X * Y) :: st))) : Wp n0 p e R s below Q T (mkF m pc Ls (.long Y :: .long X :: st)) := by
  obtain ⟨hx, hby, -⟩ := K; obtain ⟨locs, S, -, -⟩ := S; obtain ⟨hd, rfl⟩ := hd
  exact wp_mono (fun t hr => XT.lmul S.here hx rfl (hb hby hd) rfl hr) g
theorem land (K : Cx own code mL ret mn n0 Z p l e R s m args below meth c) (S : St n0 p l e R s m args below meth c k n h T) (hd : Dc code pc (.land) 1 q) (g : Wp n0 p e R s below Q T (mkF m q Ls (.long (X &&& Y) :: st))) : Wp n0 p e R s below Q T (mkF m pc Ls (.long Y :: .long X :: st)) := by
  obtain ⟨hx, hby, -⟩ := K; obtain ⟨locs, S, -, -⟩ := S; obtain ⟨hd, rfl⟩ := hd
  exact wp_mono (fun t hr => XT.land S.here hx rfl (hb hby hd) rfl hr) g
theorem ldiv (K : Cx own code mL ret mn n0 Z p l e R s m args below meth c) (S : St n0 p l e R s m args below meth c k n h T) (hy : Y ≠ 0) (hd : Dc code pc (.ldiv) 1 q) (g : Wp n0 p e R s below Q T (mkF m q Ls (.long (X / Y) :: st))) : Wp n0 p e R s below Q T (mkF m pc Ls (.long Y :: .long X :: st)) := by
  obtain ⟨hx, hby, -⟩ := K; obtain ⟨locs, S, -, -⟩ := S; obtain ⟨hd, rfl⟩ := hd
  exact wp_mono (fun t hr => XT.ldiv S.here hx rfl (hb hby hd) rfl hy hr) g
theorem lrem (K : Cx own code mL ret mn n0 Z p l e R s m args below meth c) (S : St n0 p l e R s m args below meth c k n h T) (hy : Y ≠ 0) (hd : Dc code pc (.lrem) 1 q) (g : Wp n0 p e R s below Q T (mkF m q Ls (.long (X % Y) :: st))) : Wp n0 p e R s below Q T (mkF m pc Ls (.long Y :: .long X :: st)) := by
  obtain ⟨hx, hby, -⟩ := K; obtain ⟨locs, S, -, -⟩ := S; obtain ⟨hd, rfl⟩ := hd
  exact wp_mono (fun t hr => XT.lrem S.here hx rfl (hb hby hd) rfl hy (by rw [lrem_mod]; exact hr)) g
theorem lushr (K : Cx own code mL ret mn n0 Z p l e R s m args below meth c) (S : St n0 p l e R s m args below meth c k n h T) (hd : Dc code pc (.lushr) 1 q) (g : Wp n0 p e R s below Q T (mkF m q Ls (.long (XT.ushrL X y) :: st))) : Wp n0 p e R s below Q T (mkF m pc Ls (.int y :: .long X :: st)) := by
  obtain ⟨hx, hby, -⟩ := K; obtain ⟨locs, S, -, -⟩ := S; obtain ⟨hd, rfl⟩ := hd
  exact wp_mono (fun t hr => XT.lushr S.here hx rfl (hb hby hd) rfl hr) g
theorem i2l (K : Cx own code mL ret mn n0 Z p l e R s m args below meth c) (S : St n0 p l e R s m args below meth c k n h T) (hd : Dc code pc (.i2l) 1 q) (g : Wp n0 p e R s below Q T (mkF m q Ls (.long x.toInt64 :: st))) : Wp n0 p e R s below Q T (mkF m pc Ls (.int x :: st)) := by
  obtain ⟨hx, hby, -⟩ := K; obtain ⟨locs, S, -, -⟩ := S; obtain ⟨hd, rfl⟩ := hd
  exact wp_mono (fun t hr => XT.i2l S.here hx rfl (hb hby hd) rfl hr) g
theorem l2i (K : Cx own code mL ret mn n0 Z p l e R s m args below meth c) (S : St n0 p l e R s m args below meth c k n h T) (hd : Dc code pc (.l2i) 1 q) (g : Wp n0 p e R s below Q T (mkF m q Ls (.int X.toInt32 :: st))) : Wp n0 p e R s below Q T (mkF m pc Ls (.long X :: st)) := by
  obtain ⟨hx, hby, -⟩ := K; obtain ⟨locs, S, -, -⟩ := S; obtain ⟨hd, rfl⟩ := hd
  exact wp_mono (fun t hr => XT.l2i S.here hx rfl (hb hby hd) rfl hr) g
theorem i2b (K : Cx own code mL ret mn n0 Z p l e R s m args below meth c) (S : St n0 p l e R s m args below meth c k n h T) (hd : Dc code pc (.i2b) 1 q) (g : Wp n0 p e R s below Q T (mkF m q Ls (.int x.toInt8.toInt32 :: st))) : Wp n0 p e R s below Q T (mkF m pc Ls (.int x :: st)) := by
  obtain ⟨hx, hby, -⟩ := K; obtain ⟨locs, S, -, -⟩ := S; obtain ⟨hd, rfl⟩ := hd
  exact wp_mono (fun t hr => XT.i2b S.here hx rfl (hb hby hd) rfl hr) g
theorem i2s (K : Cx own code mL ret mn n0 Z p l e R s m args below meth c) (S : St n0 p l e R s m args below meth c k n h T) (hd : Dc code pc (.i2s) 1 q) (g : Wp n0 p e R s below Q T (mkF m q Ls (.int x.toInt16.toInt32 :: st))) : Wp n0 p e R s below Q T (mkF m pc Ls (.int x :: st)) := by
  obtain ⟨hx, hby, -⟩ := K; obtain ⟨locs, S, -, -⟩ := S; obtain ⟨hd, rfl⟩ := hd
  exact wp_mono (fun t hr => XT.i2s S.here hx rfl (hb hby hd) rfl hr) g
theorem i2c (K : Cx own code mL ret mn n0 Z p l e R s m args below meth c) (S : St n0 p l e R s m args below meth c k n h T) (hd : Dc code pc (.i2c) 1 q) (g : Wp n0 p e R s below Q T (mkF m q Ls (.int x.toUInt32.toUInt16.toUInt32.toInt32 :: st))) : Wp n0 p e R s below Q T (mkF m pc Ls (.int x :: st)) := by
  obtain ⟨hx, hby, -⟩ := K; obtain ⟨locs, S, -, -⟩ := S; obtain ⟨hd, rfl⟩ := hd
  exact wp_mono (fun t hr => XT.i2c S.here hx rfl (hb hby hd) rfl hr) g
theorem iconst (K : Cx own code mL ret mn n0 Z p l e R s m args below meth c) (S : St n0 p l e R s m args below meth c k n h T) {i : Int} (hv : Int32.ofInt i = x) (hd : Dc code pc (.iconst i) 1 q) (g : Wp n0 p e R s below Q T (mkF m q Ls (.int x :: st))) : Wp n0 p e R s below Q T (mkF m pc Ls st) := by
  obtain ⟨hx, hby, -⟩ := K; obtain ⟨locs, S, -, -⟩ := S; obtain ⟨hd, rfl⟩ := hd
  exact wp_mono (fun t hr => XS.iconst S.here hx rfl (hb hby hd) (by rw [hv]; exact hr)) g
theorem bipush (K : Cx own code mL ret mn n0 Z p l e R s m args below meth c) (S : St n0 p l e R s m args below meth c k n h T) {i : Int} (hv : (Int8.ofInt i).toInt32 = x) (hd : Dc code pc (.bipush i) 2 q) (g : Wp n0 p e R s below Q T (mkF m q Ls (.int x :: st))) : Wp n0 p e R s below Q T (mkF m pc Ls st) := by
  obtain ⟨hx, hby, -⟩ := K; obtain ⟨locs, S, -, -⟩ := S; obtain ⟨hd, rfl⟩ := hd
  exact wp_mono (fun t hr => XS.bipush S.here hx rfl (hb hby hd) (by rw [hv]; exact hr)) g
theorem sipush (K : Cx own code mL ret mn n0 Z p l e R s m args below meth c) (S : St n0 p l e R s m args below meth c k n h T) {i : Int} (hv : (Int16.ofInt i).toInt32 = x) (hd : Dc code pc (.sipush i) 3 q) (g : Wp n0 p e R s below Q T (mkF m q Ls (.int x :: st))) : Wp n0 p e R s below Q T (mkF m pc Ls st) := by
  obtain ⟨hx, hby, -⟩ := K; obtain ⟨locs, S, -, -⟩ := S; obtain ⟨hd, rfl⟩ := hd
  exact wp_mono (fun t hr => XS.sipush S.here hx rfl (hb hby hd) (by rw [hv]; exact hr)) g
theorem lconst (K : Cx own code mL ret mn n0 Z p l e R s m args below meth c) (S : St n0 p l e R s m args below meth c k n h T) {i : Fin 2} (hv : Int64.ofNat i = X) (hd : Dc code pc (.lconst i) 1 q) (g : Wp n0 p e R s below Q T (mkF m q Ls (.long X :: st))) : Wp n0 p e R s below Q T (mkF m pc Ls st) := by
  obtain ⟨hx, hby, -⟩ := K; obtain ⟨locs, S, -, -⟩ := S; obtain ⟨hd, rfl⟩ := hd
  exact wp_mono (fun t hr => XT.lconst S.here hx rfl (hb hby hd) (by rw [hv]; exact hr)) g
theorem anull (K : Cx own code mL ret mn n0 Z p l e R s m args below meth c) (S : St n0 p l e R s m args below meth c k n h T) (hd : Dc code pc (.aconst_null) 1 q) (g : Wp n0 p e R s below Q T (mkF m q Ls (.null :: st))) : Wp n0 p e R s below Q T (mkF m pc Ls st) := by
  obtain ⟨hx, hby, -⟩ := K; obtain ⟨locs, S, -, -⟩ := S; obtain ⟨hd, rfl⟩ := hd
  exact wp_mono (fun t hr => XS.aconstNull S.here hx rfl (hb hby hd) hr) g
theorem dup (K : Cx own code mL ret mn n0 Z p l e R s m args below meth c) (S : St n0 p l e R s m args below meth c k n h T) (hc : v.category = 1) (hd : Dc code pc (.dup) 1 q) (g : Wp n0 p e R s below Q T (mkF m q Ls (v :: v :: st))) : Wp n0 p e R s below Q T (mkF m pc Ls (v :: st)) := by
  obtain ⟨hx, hby, -⟩ := K; obtain ⟨locs, S, -, -⟩ := S; obtain ⟨hd, rfl⟩ := hd
  exact wp_mono (fun t hr => XS.dup S.here hx rfl (hb hby hd) rfl hc hr) g
theorem pop (K : Cx own code mL ret mn n0 Z p l e R s m args below meth c) (S : St n0 p l e R s m args below meth c k n h T) (hc : v.category = 1) (hd : Dc code pc (.pop) 1 q) (g : Wp n0 p e R s below Q T (mkF m q Ls st)) : Wp n0 p e R s below Q T (mkF m pc Ls (v :: st)) := by
  obtain ⟨hx, hby, -⟩ := K; obtain ⟨locs, S, -, -⟩ := S; obtain ⟨hd, rfl⟩ := hd
  exact wp_mono (fun t hr => XT.pop S.here hx rfl (hb hby hd) rfl hc hr) g
theorem dup_x1 (K : Cx own code mL ret mn n0 Z p l e R s m args below meth c) (S : St n0 p l e R s m args below meth c k n h T) (hc : v.category = 1) (hc' : w.category = 1) (hd : Dc code pc (.dup_x1) 1 q) (g : Wp n0 p e R s below Q T (mkF m q Ls (v :: w :: v :: st))) : Wp n0 p e R s below Q T (mkF m pc Ls (v :: w :: st)) := by
  obtain ⟨hx, hby, -⟩ := K; obtain ⟨locs, S, -, -⟩ := S; obtain ⟨hd, rfl⟩ := hd
  exact wp_mono (fun t hr => XT.dupX1 S.here hx rfl (hb hby hd) rfl hc hc' hr) g
theorem dup2 (K : Cx own code mL ret mn n0 Z p l e R s m args below meth c) (S : St n0 p l e R s m args below meth c k n h T) (hc : v.category = 1) (hc' : w.category = 1) (hd : Dc code pc (.dup2) 1 q) (g : Wp n0 p e R s below Q T (mkF m q Ls (v :: w :: v :: w :: st))) : Wp n0 p e R s below Q T (mkF m pc Ls (v :: w :: st)) := by
  obtain ⟨hx, hby, -⟩ := K; obtain ⟨locs, S, -, -⟩ := S; obtain ⟨hd, rfl⟩ := hd
  exact wp_mono (fun t hr => XT.dup2 S.here hx rfl (hb hby hd) rfl hc hc' hr) g
theorem iload (K : Cx own code mL ret mn n0 Z p l e R s m args below meth c) (S : St n0 p l e R s m args below meth c k n h T) {i : Nat} (hl : Ls[i]? = some (.val (.int x))) (hd : Dc code pc (.iload i) 2 q) (g : Wp n0 p e R s below Q T (mkF m q Ls (.int x :: st))) : Wp n0 p e R s below Q T (mkF m pc Ls st) := by
  obtain ⟨hx, hby, -⟩ := K; obtain ⟨locs, S, -, -⟩ := S; obtain ⟨hd, rfl⟩ := hd
  exact wp_mono (fun t hr => XS.iload S.here hx rfl (hb hby hd) hl hr) g
theorem iload_n (K : Cx own code mL ret mn n0 Z p l e R s m args below meth c) (S : St n0 p l e R s m args below meth c k n h T) {i : Fin 4} (hl : Ls[i.val]? = some (.val (.int x))) (hd : Dc code pc (.iload_n i) 1 q) (g : Wp n0 p e R s below Q T (mkF m q Ls (.int x :: st))) : Wp n0 p e R s below Q T (mkF m pc Ls st) := by
  obtain ⟨hx, hby, -⟩ := K; obtain ⟨locs, S, -, -⟩ := S; obtain ⟨hd, rfl⟩ := hd
  exact wp_mono (fun t hr => XS.iloadN S.here hx rfl (hb hby hd) hl hr) g
theorem aload (K : Cx own code mL ret mn n0 Z p l e R s m args below meth c) (S : St n0 p l e R s m args below meth c k n h T) {i : Nat} (hl : Ls[i]? = some (.val (v))) (hv : v.isRef = true) (hd : Dc code pc (.aload i) 2 q) (g : Wp n0 p e R s below Q T (mkF m q Ls (v :: st))) : Wp n0 p e R s below Q T (mkF m pc Ls st) := by
  obtain ⟨hx, hby, -⟩ := K; obtain ⟨locs, S, -, -⟩ := S; obtain ⟨hd, rfl⟩ := hd
  exact wp_mono (fun t hr => XS.aload S.here hx rfl (hb hby hd) hl hv hr) g
theorem aload_n (K : Cx own code mL ret mn n0 Z p l e R s m args below meth c) (S : St n0 p l e R s m args below meth c k n h T) {i : Fin 4} (hl : Ls[i.val]? = some (.val (v))) (hv : v.isRef = true) (hd : Dc code pc (.aload_n i) 1 q) (g : Wp n0 p e R s below Q T (mkF m q Ls (v :: st))) : Wp n0 p e R s below Q T (mkF m pc Ls st) := by
  obtain ⟨hx, hby, -⟩ := K; obtain ⟨locs, S, -, -⟩ := S; obtain ⟨hd, rfl⟩ := hd
  exact wp_mono (fun t hr => XS.aloadN S.here hx rfl (hb hby hd) hl hv hr) g
theorem lload (K : Cx own code mL ret mn n0 Z p l e R s m args below meth c) (S : St n0 p l e R s m args below meth c k n h T) {i : Nat} (hl : Ls[i]? = some (.val (.long X))) (hd : Dc code pc (.lload i) 2 q) (g : Wp n0 p e R s below Q T (mkF m q Ls (.long X :: st))) : Wp n0 p e R s below Q T (mkF m pc Ls st) := by
  obtain ⟨hx, hby, -⟩ := K; obtain ⟨locs, S, -, -⟩ := S; obtain ⟨hd, rfl⟩ := hd
  exact wp_mono (fun t hr => XT.lload S.here hx rfl (hb hby hd) hl hr) g
theorem lload_n (K : Cx own code mL ret mn n0 Z p l e R s m args below meth c) (S : St n0 p l e R s m args below meth c k n h T) {i : Fin 4} (hl : Ls[i.val]? = some (.val (.long X))) (hd : Dc code pc (.lload_n i) 1 q) (g : Wp n0 p e R s below Q T (mkF m q Ls (.long X :: st))) : Wp n0 p e R s below Q T (mkF m pc Ls st) := by
  obtain ⟨hx, hby, -⟩ := K; obtain ⟨locs, S, -, -⟩ := S; obtain ⟨hd, rfl⟩ := hd
  exact wp_mono (fun t hr => XT.lloadN S.here hx rfl (hb hby hd) hl hr) g
theorem istore (K : Cx own code mL ret mn n0 Z p l e R s m args below meth c) (S : St n0 p l e R s m args below meth c k n h T) {i : Nat} (hl : storeLocals Ls i (.int x) = some l') (hd : Dc code pc (.istore i) 2 q) (g : Wp n0 p e R s below Q T (mkF m q l' st)) : Wp n0 p e R s below Q T (mkF m pc Ls (.int x :: st)) := by
  obtain ⟨hx, hby, -⟩ := K; obtain ⟨locs, S, -, -⟩ := S; obtain ⟨hd, rfl⟩ := hd
  exact wp_mono (fun t hr => XS.istore S.here hx rfl (hb hby hd) rfl hl hr) g
theorem istore_n (K : Cx own code mL ret mn n0 Z p l e R s m args below meth c) (S : St n0 p l e R s m args below meth c k n h T) {i : Fin 4} (hl : storeLocals Ls i.val (.int x) = some l') (hd : Dc code pc (.istore_n i) 1 q) (g : Wp n0 p e R s below Q T (mkF m q l' st)) : Wp n0 p e R s below Q T (mkF m pc Ls (.int x :: st)) := by
  obtain ⟨hx, hby, -⟩ := K; obtain ⟨locs, S, -, -⟩ := S; obtain ⟨hd, rfl⟩ := hd
  exact wp_mono (fun t hr => XS.istoreN S.here hx rfl (hb hby hd) rfl hl hr) g
theorem astore (K : Cx own code mL ret mn n0 Z p l e R s m args below meth c) (S : St n0 p l e R s m args below meth c k n h T) {i : Nat} (hv : v.isRef = true) (hl : storeLocals Ls i (v) = some l') (hd : Dc code pc (.astore i) 2 q) (g : Wp n0 p e R s below Q T (mkF m q l' st)) : Wp n0 p e R s below Q T (mkF m pc Ls (v :: st)) := by
  obtain ⟨hx, hby, -⟩ := K; obtain ⟨locs, S, -, -⟩ := S; obtain ⟨hd, rfl⟩ := hd
  exact wp_mono (fun t hr => XS.astore S.here hx rfl (hb hby hd) rfl hv hl hr) g
theorem astore_n (K : Cx own code mL ret mn n0 Z p l e R s m args below meth c) (S : St n0 p l e R s m args below meth c k n h T) {i : Fin 4} (hv : v.isRef = true) (hl : storeLocals Ls i.val (v) = some l') (hd : Dc code pc (.astore_n i) 1 q) (g : Wp n0 p e R s below Q T (mkF m q l' st)) : Wp n0 p e R s below Q T (mkF m pc Ls (v :: st)) := by
  obtain ⟨hx, hby, -⟩ := K; obtain ⟨locs, S, -, -⟩ := S; obtain ⟨hd, rfl⟩ := hd
  exact wp_mono (fun t hr => XS.astoreN S.here hx rfl (hb hby hd) rfl hv hl hr) g
theorem lstore (K : Cx own code mL ret mn n0 Z p l e R s m args below meth c) (S : St n0 p l e R s m args below meth c k n h T) {i : Nat} (hl : storeLocals Ls i (.long X) = some l') (hd : Dc code pc (.lstore i) 2 q) (g : Wp n0 p e R s below Q T (mkF m q l' st)) : Wp n0 p e R s below Q T (mkF m pc Ls (.long X :: st)) := by
  obtain ⟨hx, hby, -⟩ := K; obtain ⟨locs, S, -, -⟩ := S; obtain ⟨hd, rfl⟩ := hd
  exact wp_mono (fun t hr => XT.lstore S.here hx rfl (hb hby hd) rfl hl hr) g
theorem lstore_n (K : Cx own code mL ret mn n0 Z p l e R s m args below meth c) (S : St n0 p l e R s m args below meth c k n h T) {i : Fin 4} (hl : storeLocals Ls i.val (.long X) = some l') (hd : Dc code pc (.lstore_n i) 1 q) (g : Wp n0 p e R s below Q T (mkF m q l' st)) : Wp n0 p e R s below Q T (mkF m pc Ls (.long X :: st)) := by
  obtain ⟨hx, hby, -⟩ := K; obtain ⟨locs, S, -, -⟩ := S; obtain ⟨hd, rfl⟩ := hd
  exact wp_mono (fun t hr => XT.lstoreN S.here hx rfl (hb hby hd) rfl hl hr) g
theorem iinc (K : Cx own code mL ret mn n0 Z p l e R s m args below meth c) (S : St n0 p l e R s m args below meth c k n h T) {i : Nat} {cst : Int} (hv : Int32.ofInt cst = y) (hl : Ls[i]? = some (.val (.int x))) (hl' : storeLocals Ls i (.int (x + y)) = some l') (hd : Dc code pc (.iinc i cst) 3 q) (g : Wp n0 p e R s below Q T (mkF m q l' st)) : Wp n0 p e R s below Q T (mkF m pc Ls st) := by
  obtain ⟨hx, hby, -⟩ := K; obtain ⟨locs, S, -, -⟩ := S; obtain ⟨hd, rfl⟩ := hd
  exact wp_mono (fun t hr => XS.iinc S.here hx rfl (hb hby hd) hl (by rw [hv]; exact hl') hr) g
theorem goto (K : Cx own code mL ret mn n0 Z p l e R s m args below meth c) (S : St n0 p l e R s m args below meth c k n h T) {o : Int} (hd : Bc code pc (.goto o) o q q') (g : Wp n0 p e R s below Q T (mkF m q' Ls st)) : Wp n0 p e R s below Q T (mkF m pc Ls st) := by
  obtain ⟨hx, hby, -⟩ := K; obtain ⟨locs, S, -, -⟩ := S; obtain ⟨hd, -, h1, h2⟩ := hd
  exact wp_mono (fun t hr => XS.goto S.here hx rfl rfl (hb hby hd) h1 h2 hr) g
theorem icmp (K : Cx own code mL ret mn n0 Z p l e R s m args below meth c) (S : St n0 p l e R s m args below meth c k n h T) {o : Int} {cd : ClassFile.Cond} (hd : Bc code pc (.if_icmp cd o) o q q') (g1 : if_icmp.holds cd x y = true → Wp n0 p e R s below Q T (mkF m q' Ls st)) (g2 : if_icmp.holds cd x y = false → Wp n0 p e R s below Q T (mkF m q Ls st)) : Wp n0 p e R s below Q T (mkF m pc Ls (.int y :: .int x :: st)) := by
  obtain ⟨hx, hby, -⟩ := K; obtain ⟨locs, S, -, -⟩ := S; obtain ⟨hd, rfl, h1, h2⟩ := hd
  cases hc : if_icmp.holds cd x y with
  | true => exact wp_mono (fun t hr => XS.icmpYes S.here hx rfl rfl (hb hby hd) rfl hc h1 h2 hr) (g1 hc)
  | false => exact wp_mono (fun t hr => XS.icmpNo S.here hx rfl (hb hby hd) rfl hc hr) (g2 hc)
theorem ific (K : Cx own code mL ret mn n0 Z p l e R s m args below meth c) (S : St n0 p l e R s m args below meth c k n h T) {o : Int} {cd : ClassFile.Cond} (hd : Bc code pc (.ifCond cd o) o q q') (g1 : if_icmp.holds cd x 0 = true → Wp n0 p e R s below Q T (mkF m q' Ls st)) (g2 : if_icmp.holds cd x 0 = false → Wp n0 p e R s below Q T (mkF m q Ls st)) : Wp n0 p e R s below Q T (mkF m pc Ls (.int x :: st)) := by
  obtain ⟨hx, hby, -⟩ := K; obtain ⟨locs, S, -, -⟩ := S; obtain ⟨hd, rfl, h1, h2⟩ := hd
  cases hc : if_icmp.holds cd x 0 with
  | true => exact wp_mono (fun t hr => XS.ifYes S.here hx rfl rfl (hb hby hd) rfl (by rw [if0]; exact hc) h1 h2 hr) (g1 hc)
  | false => exact wp_mono (fun t hr => XS.ifNo S.here hx rfl (hb hby hd) rfl (by rw [if0]; exact hc) hr) (g2 hc)
theorem icmp_lt (K : Cx own code mL ret mn n0 Z p l e R s m args below meth c) (S : St n0 p l e R s m args below meth c k n h T) {o : Int} (hd : Bc code pc (.if_icmp .lt o) o q q') (g1 : x < y → Wp n0 p e R s below Q T (mkF m q' Ls st)) (g2 : ¬ x < y → Wp n0 p e R s below Q T (mkF m q Ls st)) : Wp n0 p e R s below Q T (mkF m pc Ls (.int y :: .int x :: st)) := by
  by_cases hc : x < y
  · exact icmp K S hd (fun _ => g1 hc) (fun q => absurd ((tlt hc).1) (by rw [q]; decide))
  · exact icmp K S hd (fun q => absurd ((flt hc).1) (by rw [q]; decide)) (fun _ => g2 hc)
theorem ific_lt (K : Cx own code mL ret mn n0 Z p l e R s m args below meth c) (S : St n0 p l e R s m args below meth c k n h T) {o : Int} (hd : Bc code pc (.ifCond .lt o) o q q') (g1 : x < 0 → Wp n0 p e R s below Q T (mkF m q' Ls st)) (g2 : ¬ x < 0 → Wp n0 p e R s below Q T (mkF m q Ls st)) : Wp n0 p e R s below Q T (mkF m pc Ls (.int x :: st)) := by
  by_cases hc : x < 0
  · exact ific K S hd (fun _ => g1 hc) (fun q => absurd ((tlt hc).1) (by rw [q]; decide))
  · exact ific K S hd (fun q => absurd ((flt hc).1) (by rw [q]; decide)) (fun _ => g2 hc)
theorem icmp_ge (K : Cx own code mL ret mn n0 Z p l e R s m args below meth c) (S : St n0 p l e R s m args below meth c k n h T) {o : Int} (hd : Bc code pc (.if_icmp .ge o) o q q') (g1 : ¬ x < y → Wp n0 p e R s below Q T (mkF m q' Ls st)) (g2 : x < y → Wp n0 p e R s below Q T (mkF m q Ls st)) : Wp n0 p e R s below Q T (mkF m pc Ls (.int y :: .int x :: st)) := by
  by_cases hc : x < y
  · exact icmp K S hd (fun q => absurd ((tlt hc).2.1) (by rw [q]; decide)) (fun _ => g2 hc)
  · exact icmp K S hd (fun _ => g1 hc) (fun q => absurd ((flt hc).2.1) (by rw [q]; decide))
theorem ific_ge (K : Cx own code mL ret mn n0 Z p l e R s m args below meth c) (S : St n0 p l e R s m args below meth c k n h T) {o : Int} (hd : Bc code pc (.ifCond .ge o) o q q') (g1 : ¬ x < 0 → Wp n0 p e R s below Q T (mkF m q' Ls st)) (g2 : x < 0 → Wp n0 p e R s below Q T (mkF m q Ls st)) : Wp n0 p e R s below Q T (mkF m pc Ls (.int x :: st)) := by
  by_cases hc : x < 0
  · exact ific K S hd (fun q => absurd ((tlt hc).2.1) (by rw [q]; decide)) (fun _ => g2 hc)
  · exact ific K S hd (fun _ => g1 hc) (fun q => absurd ((flt hc).2.1) (by rw [q]; decide))
theorem icmp_gt (K : Cx own code mL ret mn n0 Z p l e R s m args below meth c) (S : St n0 p l e R s m args below meth c k n h T) {o : Int} (hd : Bc code pc (.if_icmp .gt o) o q q') (g1 : y < x → Wp n0 p e R s below Q T (mkF m q' Ls st)) (g2 : ¬ y < x → Wp n0 p e R s below Q T (mkF m q Ls st)) : Wp n0 p e R s below Q T (mkF m pc Ls (.int y :: .int x :: st)) := by
  by_cases hc : y < x
  · exact icmp K S hd (fun _ => g1 hc) (fun q => absurd ((tlt hc).2.2.1) (by rw [q]; decide))
  · exact icmp K S hd (fun q => absurd ((flt hc).2.2.1) (by rw [q]; decide)) (fun _ => g2 hc)
theorem ific_gt (K : Cx own code mL ret mn n0 Z p l e R s m args below meth c) (S : St n0 p l e R s m args below meth c k n h T) {o : Int} (hd : Bc code pc (.ifCond .gt o) o q q') (g1 : 0 < x → Wp n0 p e R s below Q T (mkF m q' Ls st)) (g2 : ¬ 0 < x → Wp n0 p e R s below Q T (mkF m q Ls st)) : Wp n0 p e R s below Q T (mkF m pc Ls (.int x :: st)) := by
  by_cases hc : 0 < x
  · exact ific K S hd (fun _ => g1 hc) (fun q => absurd ((tlt hc).2.2.1) (by rw [q]; decide))
  · exact ific K S hd (fun q => absurd ((flt hc).2.2.1) (by rw [q]; decide)) (fun _ => g2 hc)
theorem icmp_le (K : Cx own code mL ret mn n0 Z p l e R s m args below meth c) (S : St n0 p l e R s m args below meth c k n h T) {o : Int} (hd : Bc code pc (.if_icmp .le o) o q q') (g1 : ¬ y < x → Wp n0 p e R s below Q T (mkF m q' Ls st)) (g2 : y < x → Wp n0 p e R s below Q T (mkF m q Ls st)) : Wp n0 p e R s below Q T (mkF m pc Ls (.int y :: .int x :: st)) := by
  by_cases hc : y < x
  · exact icmp K S hd (fun q => absurd ((tlt hc).2.2.2) (by rw [q]; decide)) (fun _ => g2 hc)
  · exact icmp K S hd (fun _ => g1 hc) (fun q => absurd ((flt hc).2.2.2) (by rw [q]; decide))
theorem ific_le (K : Cx own code mL ret mn n0 Z p l e R s m args below meth c) (S : St n0 p l e R s m args below meth c k n h T) {o : Int} (hd : Bc code pc (.ifCond .le o) o q q') (g1 : ¬ 0 < x → Wp n0 p e R s below Q T (mkF m q' Ls st)) (g2 : 0 < x → Wp n0 p e R s below Q T (mkF m q Ls st)) : Wp n0 p e R s below Q T (mkF m pc Ls (.int x :: st)) := by
  by_cases hc : 0 < x
  · exact ific K S hd (fun q => absurd ((tlt hc).2.2.2) (by rw [q]; decide)) (fun _ => g2 hc)
  · exact ific K S hd (fun _ => g1 hc) (fun q => absurd ((flt hc).2.2.2) (by rw [q]; decide))
theorem icmp_eq (K : Cx own code mL ret mn n0 Z p l e R s m args below meth c) (S : St n0 p l e R s m args below meth c k n h T) {o : Int} (hd : Bc code pc (.if_icmp .eq o) o q q') (g1 : x = y → Wp n0 p e R s below Q T (mkF m q' Ls st)) (g2 : ¬ x = y → Wp n0 p e R s below Q T (mkF m q Ls st)) : Wp n0 p e R s below Q T (mkF m pc Ls (.int y :: .int x :: st)) := by
  by_cases hc : x = y
  · exact icmp K S hd (fun _ => g1 hc) (fun q => absurd ((teq hc).1) (by rw [q]; decide))
  · exact icmp K S hd (fun q => absurd ((feq hc).1) (by rw [q]; decide)) (fun _ => g2 hc)
theorem ific_eq (K : Cx own code mL ret mn n0 Z p l e R s m args below meth c) (S : St n0 p l e R s m args below meth c k n h T) {o : Int} (hd : Bc code pc (.ifCond .eq o) o q q') (g1 : x = 0 → Wp n0 p e R s below Q T (mkF m q' Ls st)) (g2 : ¬ x = 0 → Wp n0 p e R s below Q T (mkF m q Ls st)) : Wp n0 p e R s below Q T (mkF m pc Ls (.int x :: st)) := by
  by_cases hc : x = 0
  · exact ific K S hd (fun _ => g1 hc) (fun q => absurd ((teq hc).1) (by rw [q]; decide))
  · exact ific K S hd (fun q => absurd ((feq hc).1) (by rw [q]; decide)) (fun _ => g2 hc)
theorem icmp_ne (K : Cx own code mL ret mn n0 Z p l e R s m args below meth c) (S : St n0 p l e R s m args below meth c k n h T) {o : Int} (hd : Bc code pc (.if_icmp .ne o) o q q') (g1 : ¬ x = y → Wp n0 p e R s below Q T (mkF m q' Ls st)) (g2 : x = y → Wp n0 p e R s below Q T (mkF m q Ls st)) : Wp n0 p e R s below Q T (mkF m pc Ls (.int y :: .int x :: st)) := by
  by_cases hc : x = y
  · exact icmp K S hd (fun q => absurd ((teq hc).2) (by rw [q]; decide)) (fun _ => g2 hc)
  · exact icmp K S hd (fun _ => g1 hc) (fun q => absurd ((feq hc).2) (by rw [q]; decide))
theorem ific_ne (K : Cx own code mL ret mn n0 Z p l e R s m args below meth c) (S : St n0 p l e R s m args below meth c k n h T) {o : Int} (hd : Bc code pc (.ifCond .ne o) o q q') (g1 : ¬ x = 0 → Wp n0 p e R s below Q T (mkF m q' Ls st)) (g2 : x = 0 → Wp n0 p e R s below Q T (mkF m q Ls st)) : Wp n0 p e R s below Q T (mkF m pc Ls (.int x :: st)) := by
  by_cases hc : x = 0
  · exact ific K S hd (fun q => absurd ((teq hc).2) (by rw [q]; decide)) (fun _ => g2 hc)
  · exact ific K S hd (fun _ => g1 hc) (fun q => absurd ((feq hc).2) (by rw [q]; decide))
theorem lcmp_lt (K : Cx own code mL ret mn n0 Z p l e R s m args below meth c) (S : St n0 p l e R s m args below meth c k n h T) {o : Int} {pc1 : Nat} (hd1 : Dc code pc .lcmp 1 pc1) (hd : Bc code pc1 (.ifCond .lt o) o q q') (g1 : X < Y → Wp n0 p e R s below Q T (mkF m q' Ls st)) (g2 : ¬ X < Y → Wp n0 p e R s below Q T (mkF m q Ls st)) : Wp n0 p e R s below Q T (mkF m pc Ls (.long Y :: .long X :: st)) := by
  obtain ⟨hx, hby, -⟩ := K; obtain ⟨locs, S, -, -⟩ := S; obtain ⟨hd, rfl, h1, h2⟩ := hd; obtain ⟨hd1, rfl⟩ := hd1
  by_cases hc : X < Y
  · exact wp_mono (fun t hr => XT.lcmp S.here hx rfl (hb hby hd1) rfl (XS.ifYes S.here hx rfl rfl (hb hby hd) rfl (XT.ll_lt_t hc) h1 h2 hr)) (g1 hc)
  · exact wp_mono (fun t hr => XT.lcmp S.here hx rfl (hb hby hd1) rfl (XS.ifNo S.here hx rfl (hb hby hd) rfl (XT.ll_lt_f hc) hr)) (g2 hc)
theorem lcmp_ge (K : Cx own code mL ret mn n0 Z p l e R s m args below meth c) (S : St n0 p l e R s m args below meth c k n h T) {o : Int} {pc1 : Nat} (hd1 : Dc code pc .lcmp 1 pc1) (hd : Bc code pc1 (.ifCond .ge o) o q q') (g1 : ¬ X < Y → Wp n0 p e R s below Q T (mkF m q' Ls st)) (g2 : X < Y → Wp n0 p e R s below Q T (mkF m q Ls st)) : Wp n0 p e R s below Q T (mkF m pc Ls (.long Y :: .long X :: st)) := by
  obtain ⟨hx, hby, -⟩ := K; obtain ⟨locs, S, -, -⟩ := S; obtain ⟨hd, rfl, h1, h2⟩ := hd; obtain ⟨hd1, rfl⟩ := hd1
  by_cases hc : X < Y
  · exact wp_mono (fun t hr => XT.lcmp S.here hx rfl (hb hby hd1) rfl (XS.ifNo S.here hx rfl (hb hby hd) rfl (XT.ll_ge_f hc) hr)) (g2 hc)
  · exact wp_mono (fun t hr => XT.lcmp S.here hx rfl (hb hby hd1) rfl (XS.ifYes S.here hx rfl rfl (hb hby hd) rfl (XT.ll_ge_t hc) h1 h2 hr)) (g1 hc)
theorem lcmp_gt (K : Cx own code mL ret mn n0 Z p l e R s m args below meth c) (S : St n0 p l e R s m args below meth c k n h T) {o : Int} {pc1 : Nat} (hd1 : Dc code pc .lcmp 1 pc1) (hd : Bc code pc1 (.ifCond .gt o) o q q') (g1 : Y < X → Wp n0 p e R s below Q T (mkF m q' Ls st)) (g2 : ¬ Y < X → Wp n0 p e R s below Q T (mkF m q Ls st)) : Wp n0 p e R s below Q T (mkF m pc Ls (.long Y :: .long X :: st)) := by
  obtain ⟨hx, hby, -⟩ := K; obtain ⟨locs, S, -, -⟩ := S; obtain ⟨hd, rfl, h1, h2⟩ := hd; obtain ⟨hd1, rfl⟩ := hd1
  by_cases hc : Y < X
  · exact wp_mono (fun t hr => XT.lcmp S.here hx rfl (hb hby hd1) rfl (XS.ifYes S.here hx rfl rfl (hb hby hd) rfl (XT.ll_gt_t hc) h1 h2 hr)) (g1 hc)
  · exact wp_mono (fun t hr => XT.lcmp S.here hx rfl (hb hby hd1) rfl (XS.ifNo S.here hx rfl (hb hby hd) rfl (XT.ll_gt_f hc) hr)) (g2 hc)
theorem lcmp_le (K : Cx own code mL ret mn n0 Z p l e R s m args below meth c) (S : St n0 p l e R s m args below meth c k n h T) {o : Int} {pc1 : Nat} (hd1 : Dc code pc .lcmp 1 pc1) (hd : Bc code pc1 (.ifCond .le o) o q q') (g1 : ¬ Y < X → Wp n0 p e R s below Q T (mkF m q' Ls st)) (g2 : Y < X → Wp n0 p e R s below Q T (mkF m q Ls st)) : Wp n0 p e R s below Q T (mkF m pc Ls (.long Y :: .long X :: st)) := by
  obtain ⟨hx, hby, -⟩ := K; obtain ⟨locs, S, -, -⟩ := S; obtain ⟨hd, rfl, h1, h2⟩ := hd; obtain ⟨hd1, rfl⟩ := hd1
  by_cases hc : Y < X
  · exact wp_mono (fun t hr => XT.lcmp S.here hx rfl (hb hby hd1) rfl (XS.ifNo S.here hx rfl (hb hby hd) rfl (XT.ll_le_f hc) hr)) (g2 hc)
  · exact wp_mono (fun t hr => XT.lcmp S.here hx rfl (hb hby hd1) rfl (XS.ifYes S.here hx rfl rfl (hb hby hd) rfl (XT.ll_le_t hc) h1 h2 hr)) (g1 hc)
theorem lcmp_eq (K : Cx own code mL ret mn n0 Z p l e R s m args below meth c) (S : St n0 p l e R s m args below meth c k n h T) {o : Int} {pc1 : Nat} (hd1 : Dc code pc .lcmp 1 pc1) (hd : Bc code pc1 (.ifCond .eq o) o q q') (g1 : X = Y → Wp n0 p e R s below Q T (mkF m q' Ls st)) (g2 : ¬ X = Y → Wp n0 p e R s below Q T (mkF m q Ls st)) : Wp n0 p e R s below Q T (mkF m pc Ls (.long Y :: .long X :: st)) := by
  obtain ⟨hx, hby, -⟩ := K; obtain ⟨locs, S, -, -⟩ := S; obtain ⟨hd, rfl, h1, h2⟩ := hd; obtain ⟨hd1, rfl⟩ := hd1
  by_cases hc : X = Y
  · exact wp_mono (fun t hr => XT.lcmp S.here hx rfl (hb hby hd1) rfl (XS.ifYes S.here hx rfl rfl (hb hby hd) rfl (XT.ll_eq_t hc) h1 h2 hr)) (g1 hc)
  · exact wp_mono (fun t hr => XT.lcmp S.here hx rfl (hb hby hd1) rfl (XS.ifNo S.here hx rfl (hb hby hd) rfl (XT.ll_eq_f hc) hr)) (g2 hc)
theorem lcmp_ne (K : Cx own code mL ret mn n0 Z p l e R s m args below meth c) (S : St n0 p l e R s m args below meth c k n h T) {o : Int} {pc1 : Nat} (hd1 : Dc code pc .lcmp 1 pc1) (hd : Bc code pc1 (.ifCond .ne o) o q q') (g1 : ¬ X = Y → Wp n0 p e R s below Q T (mkF m q' Ls st)) (g2 : X = Y → Wp n0 p e R s below Q T (mkF m q Ls st)) : Wp n0 p e R s below Q T (mkF m pc Ls (.long Y :: .long X :: st)) := by
  obtain ⟨hx, hby, -⟩ := K; obtain ⟨locs, S, -, -⟩ := S; obtain ⟨hd, rfl, h1, h2⟩ := hd; obtain ⟨hd1, rfl⟩ := hd1
  by_cases hc : X = Y
  · exact wp_mono (fun t hr => XT.lcmp S.here hx rfl (hb hby hd1) rfl (XS.ifNo S.here hx rfl (hb hby hd) rfl (XT.ll_ne_f hc) hr)) (g2 hc)
  · exact wp_mono (fun t hr => XT.lcmp S.here hx rfl (hb hby hd1) rfl (XS.ifYes S.here hx rfl rfl (hb hby hd) rfl (XT.ll_ne_t hc) h1 h2 hr)) (g1 hc)
theorem icmpz_lt (K : Cx own code mL ret mn n0 Z p l e R s m args below meth c) (S : St n0 p l e R s m args below meth c k n h T) {o : Int} (hd : Bc code pc (.if_icmp .lt o) o q q') (g1 : x.toInt < y.toInt → Wp n0 p e R s below Q T (mkF m q' Ls st)) (g2 : ¬ x.toInt < y.toInt → Wp n0 p e R s below Q T (mkF m q Ls st)) : Wp n0 p e R s below Q T (mkF m pc Ls (.int y :: .int x :: st)) :=
  icmp_lt K S hd (fun q => g1 (Int32.lt_iff_toInt_lt.mp q)) (fun q => g2 (fun r => q (Int32.lt_iff_toInt_lt.mpr r)))
theorem ificz_lt (K : Cx own code mL ret mn n0 Z p l e R s m args below meth c) (S : St n0 p l e R s m args below meth c k n h T) {o : Int} (hd : Bc code pc (.ifCond .lt o) o q q') (g1 : x.toInt < 0 → Wp n0 p e R s below Q T (mkF m q' Ls st)) (g2 : ¬ x.toInt < 0 → Wp n0 p e R s below Q T (mkF m q Ls st)) : Wp n0 p e R s below Q T (mkF m pc Ls (.int x :: st)) :=
  ific_lt K S hd (fun q => g1 (Int32.lt_iff_toInt_lt.mp q)) (fun q => g2 (fun r => q (Int32.lt_iff_toInt_lt.mpr r)))
theorem lcmpz_lt (K : Cx own code mL ret mn n0 Z p l e R s m args below meth c) (S : St n0 p l e R s m args below meth c k n h T) {o : Int} {pc1 : Nat} (hd1 : Dc code pc .lcmp 1 pc1) (hd : Bc code pc1 (.ifCond .lt o) o q q') (g1 : X.toInt < Y.toInt → Wp n0 p e R s below Q T (mkF m q' Ls st)) (g2 : ¬ X.toInt < Y.toInt → Wp n0 p e R s below Q T (mkF m q Ls st)) : Wp n0 p e R s below Q T (mkF m pc Ls (.long Y :: .long X :: st)) :=
  lcmp_lt K S hd1 hd (fun q => g1 (Int64.lt_iff_toInt_lt.mp q)) (fun q => g2 (fun r => q (Int64.lt_iff_toInt_lt.mpr r)))
theorem icmpz_ge (K : Cx own code mL ret mn n0 Z p l e R s m args below meth c) (S : St n0 p l e R s m args below meth c k n h T) {o : Int} (hd : Bc code pc (.if_icmp .ge o) o q q') (g1 : ¬ x.toInt < y.toInt → Wp n0 p e R s below Q T (mkF m q' Ls st)) (g2 : x.toInt < y.toInt → Wp n0 p e R s below Q T (mkF m q Ls st)) : Wp n0 p e R s below Q T (mkF m pc Ls (.int y :: .int x :: st)) :=
  icmp_ge K S hd (fun q => g1 (fun r => q (Int32.lt_iff_toInt_lt.mpr r))) (fun q => g2 (Int32.lt_iff_toInt_lt.mp q))
theorem ificz_ge (K : Cx own code mL ret mn n0 Z p l e R s m args below meth c) (S : St n0 p l e R s m args below meth c k n h T) {o : Int} (hd : Bc code pc (.ifCond .ge o) o q q') (g1 : ¬ x.toInt < 0 → Wp n0 p e R s below Q T (mkF m q' Ls st)) (g2 : x.toInt < 0 → Wp n0 p e R s below Q T (mkF m q Ls st)) : Wp n0 p e R s below Q T (mkF m pc Ls (.int x :: st)) :=
  ific_ge K S hd (fun q => g1 (fun r => q (Int32.lt_iff_toInt_lt.mpr r))) (fun q => g2 (Int32.lt_iff_toInt_lt.mp q))
theorem lcmpz_ge (K : Cx own code mL ret mn n0 Z p l e R s m args below meth c) (S : St n0 p l e R s m args below meth c k n h T) {o : Int} {pc1 : Nat} (hd1 : Dc code pc .lcmp 1 pc1) (hd : Bc code pc1 (.ifCond .ge o) o q q') (g1 : ¬ X.toInt < Y.toInt → Wp n0 p e R s below Q T (mkF m q' Ls st)) (g2 : X.toInt < Y.toInt → Wp n0 p e R s below Q T (mkF m q Ls st)) : Wp n0 p e R s below Q T (mkF m pc Ls (.long Y :: .long X :: st)) :=
  lcmp_ge K S hd1 hd (fun q => g1 (fun r => q (Int64.lt_iff_toInt_lt.mpr r))) (fun q => g2 (Int64.lt_iff_toInt_lt.mp q))
theorem icmpz_gt (K : Cx own code mL ret mn n0 Z p l e R s m args below meth c) (S : St n0 p l e R s m args below meth c k n h T) {o : Int} (hd : Bc code pc (.if_icmp .gt o) o q q') (g1 : y.toInt < x.toInt → Wp n0 p e R s below Q T (mkF m q' Ls st)) (g2 : ¬ y.toInt < x.toInt → Wp n0 p e R s below Q T (mkF m q Ls st)) : Wp n0 p e R s below Q T (mkF m pc Ls (.int y :: .int x :: st)) :=
  icmp_gt K S hd (fun q => g1 (Int32.lt_iff_toInt_lt.mp q)) (fun q => g2 (fun r => q (Int32.lt_iff_toInt_lt.mpr r)))
theorem ificz_gt (K : Cx own code mL ret mn n0 Z p l e R s m args below meth c) (S : St n0 p l e R s m args below meth c k n h T) {o : Int} (hd : Bc code pc (.ifCond .gt o) o q q') (g1 : 0 < x.toInt → Wp n0 p e R s below Q T (mkF m q' Ls st)) (g2 : ¬ 0 < x.toInt → Wp n0 p e R s below Q T (mkF m q Ls st)) : Wp n0 p e R s below Q T (mkF m pc Ls (.int x :: st)) :=
  ific_gt K S hd (fun q => g1 (Int32.lt_iff_toInt_lt.mp q)) (fun q => g2 (fun r => q (Int32.lt_iff_toInt_lt.mpr r)))
theorem lcmpz_gt (K : Cx own code mL ret mn n0 Z p l e R s m args below meth c) (S : St n0 p l e R s m args below meth c k n h T) {o : Int} {pc1 : Nat} (hd1 : Dc code pc .lcmp 1 pc1) (hd : Bc code pc1 (.ifCond .gt o) o q q') (g1 : Y.toInt < X.toInt → Wp n0 p e R s below Q T (mkF m q' Ls st)) (g2 : ¬ Y.toInt < X.toInt → Wp n0 p e R s below Q T (mkF m q Ls st)) : Wp n0 p e R s below Q T (mkF m pc Ls (.long Y :: .long X :: st)) :=
  lcmp_gt K S hd1 hd (fun q => g1 (Int64.lt_iff_toInt_lt.mp q)) (fun q => g2 (fun r => q (Int64.lt_iff_toInt_lt.mpr r)))
theorem icmpz_le (K : Cx own code mL ret mn n0 Z p l e R s m args below meth c) (S : St n0 p l e R s m args below meth c k n h T) {o : Int} (hd : Bc code pc (.if_icmp .le o) o q q') (g1 : ¬ y.toInt < x.toInt → Wp n0 p e R s below Q T (mkF m q' Ls st)) (g2 : y.toInt < x.toInt → Wp n0 p e R s below Q T (mkF m q Ls st)) : Wp n0 p e R s below Q T (mkF m pc Ls (.int y :: .int x :: st)) :=
  icmp_le K S hd (fun q => g1 (fun r => q (Int32.lt_iff_toInt_lt.mpr r))) (fun q => g2 (Int32.lt_iff_toInt_lt.mp q))
theorem ificz_le (K : Cx own code mL ret mn n0 Z p l e R s m args below meth c) (S : St n0 p l e R s m args below meth c k n h T) {o : Int} (hd : Bc code pc (.ifCond .le o) o q q') (g1 : ¬ 0 < x.toInt → Wp n0 p e R s below Q T (mkF m q' Ls st)) (g2 : 0 < x.toInt → Wp n0 p e R s below Q T (mkF m q Ls st)) : Wp n0 p e R s below Q T (mkF m pc Ls (.int x :: st)) :=
  ific_le K S hd (fun q => g1 (fun r => q (Int32.lt_iff_toInt_lt.mpr r))) (fun q => g2 (Int32.lt_iff_toInt_lt.mp q))
theorem lcmpz_le (K : Cx own code mL ret mn n0 Z p l e R s m args below meth c) (S : St n0 p l e R s m args below meth c k n h T) {o : Int} {pc1 : Nat} (hd1 : Dc code pc .lcmp 1 pc1) (hd : Bc code pc1 (.ifCond .le o) o q q') (g1 : ¬ Y.toInt < X.toInt → Wp n0 p e R s below Q T (mkF m q' Ls st)) (g2 : Y.toInt < X.toInt → Wp n0 p e R s below Q T (mkF m q Ls st)) : Wp n0 p e R s below Q T (mkF m pc Ls (.long Y :: .long X :: st)) :=
  lcmp_le K S hd1 hd (fun q => g1 (fun r => q (Int64.lt_iff_toInt_lt.mpr r))) (fun q => g2 (Int64.lt_iff_toInt_lt.mp q))
theorem icmpz_eq (K : Cx own code mL ret mn n0 Z p l e R s m args below meth c) (S : St n0 p l e R s m args below meth c k n h T) {o : Int} (hd : Bc code pc (.if_icmp .eq o) o q q') (g1 : x.toInt = y.toInt → Wp n0 p e R s below Q T (mkF m q' Ls st)) (g2 : ¬ x.toInt = y.toInt → Wp n0 p e R s below Q T (mkF m q Ls st)) : Wp n0 p e R s below Q T (mkF m pc Ls (.int y :: .int x :: st)) :=
  icmp_eq K S hd (fun q => g1 (congrArg Int32.toInt q)) (fun q => g2 (fun r => q (Int32.toInt_inj.mp r)))
theorem ificz_eq (K : Cx own code mL ret mn n0 Z p l e R s m args below meth c) (S : St n0 p l e R s m args below meth c k n h T) {o : Int} (hd : Bc code pc (.ifCond .eq o) o q q') (g1 : x.toInt = 0 → Wp n0 p e R s below Q T (mkF m q' Ls st)) (g2 : ¬ x.toInt = 0 → Wp n0 p e R s below Q T (mkF m q Ls st)) : Wp n0 p e R s below Q T (mkF m pc Ls (.int x :: st)) :=
  ific_eq K S hd (fun q => g1 (congrArg Int32.toInt q)) (fun q => g2 (fun r => q (Int32.toInt_inj.mp r)))
theorem lcmpz_eq (K : Cx own code mL ret mn n0 Z p l e R s m args below meth c) (S : St n0 p l e R s m args below meth c k n h T) {o : Int} {pc1 : Nat} (hd1 : Dc code pc .lcmp 1 pc1) (hd : Bc code pc1 (.ifCond .eq o) o q q') (g1 : X.toInt = Y.toInt → Wp n0 p e R s below Q T (mkF m q' Ls st)) (g2 : ¬ X.toInt = Y.toInt → Wp n0 p e R s below Q T (mkF m q Ls st)) : Wp n0 p e R s below Q T (mkF m pc Ls (.long Y :: .long X :: st)) :=
  lcmp_eq K S hd1 hd (fun q => g1 (congrArg Int64.toInt q)) (fun q => g2 (fun r => q (Int64.toInt_inj.mp r)))
theorem icmpz_ne (K : Cx own code mL ret mn n0 Z p l e R s m args below meth c) (S : St n0 p l e R s m args below meth c k n h T) {o : Int} (hd : Bc code pc (.if_icmp .ne o) o q q') (g1 : ¬ x.toInt = y.toInt → Wp n0 p e R s below Q T (mkF m q' Ls st)) (g2 : x.toInt = y.toInt → Wp n0 p e R s below Q T (mkF m q Ls st)) : Wp n0 p e R s below Q T (mkF m pc Ls (.int y :: .int x :: st)) :=
  icmp_ne K S hd (fun q => g1 (fun r => q (Int32.toInt_inj.mp r))) (fun q => g2 (congrArg Int32.toInt q))
theorem ificz_ne (K : Cx own code mL ret mn n0 Z p l e R s m args below meth c) (S : St n0 p l e R s m args below meth c k n h T) {o : Int} (hd : Bc code pc (.ifCond .ne o) o q q') (g1 : ¬ x.toInt = 0 → Wp n0 p e R s below Q T (mkF m q' Ls st)) (g2 : x.toInt = 0 → Wp n0 p e R s below Q T (mkF m q Ls st)) : Wp n0 p e R s below Q T (mkF m pc Ls (.int x :: st)) :=
  ific_ne K S hd (fun q => g1 (fun r => q (Int32.toInt_inj.mp r))) (fun q => g2 (congrArg Int32.toInt q))
theorem lcmpz_ne (K : Cx own code mL ret mn n0 Z p l e R s m args below meth c) (S : St n0 p l e R s m args below meth c k n h T) {o : Int} {pc1 : Nat} (hd1 : Dc code pc .lcmp 1 pc1) (hd : Bc code pc1 (.ifCond .ne o) o q q') (g1 : ¬ X.toInt = Y.toInt → Wp n0 p e R s below Q T (mkF m q' Ls st)) (g2 : X.toInt = Y.toInt → Wp n0 p e R s below Q T (mkF m q Ls st)) : Wp n0 p e R s below Q T (mkF m pc Ls (.long Y :: .long X :: st)) :=
  lcmp_ne K S hd1 hd (fun q => g1 (fun r => q (Int64.toInt_inj.mp r))) (fun q => g2 (congrArg Int64.toInt q))
theorem ifnull_ref (K : Cx own code mL ret mn n0 Z p l e R s m args below meth c) (S : St n0 p l e R s m args below meth c k n h T) {o : Int} (hd : Bc code pc (.ifnull o) o q q') (g : Wp n0 p e R s below Q T (mkF m q Ls st)) : Wp n0 p e R s below Q T (mkF m pc Ls (.ref a :: st)) := by
  obtain ⟨hx, hby, -⟩ := K; obtain ⟨locs, S, -, -⟩ := S; obtain ⟨hd, rfl, h1, h2⟩ := hd
  exact wp_mono (fun t hr => XS.ifnullNo S.here hx rfl (hb hby hd) rfl hr) g
theorem ldc (K : Cx own code mL ret mn n0 Z p l e R s m args below meth c) (S : St n0 p l e R s m args below meth c k n h T) {i : Nat} (w : (Jvm.Cond.constant own i x).before a0 Z = true) (hd : Dc code pc (.ldc i) 2 q) (g : Wp n0 p e R s below Q T (mkF m q Ls (.int x :: st))) : Wp n0 p e R s below Q T (mkF m pc Ls st) := by
  obtain ⟨hx, hby, -, -, -, hown, hZ, -⟩ := K; obtain ⟨locs, S, -, -⟩ := S; obtain ⟨hd, rfl⟩ := hd
  refine wp_mono (T' := T) (g' := mkF m (pc + 2) Ls (.int x :: st)) (fun t hr => ?_) g
  exact S.ldcInt hx hown (mvT hZ w) (g := mkF m pc Ls st) rfl (hb hby hd) t hr
theorem ldc2 (K : Cx own code mL ret mn n0 Z p l e R s m args below meth c) (S : St n0 p l e R s m args below meth c k n h T) {i : Nat} (w : (Jvm.Cond.constantLong own i X).before a0 Z = true) (hd : Dc code pc (.ldc2_w i) 3 q) (g : Wp n0 p e R s below Q T (mkF m q Ls (.long X :: st))) : Wp n0 p e R s below Q T (mkF m pc Ls st) := by
  obtain ⟨hx, hby, -, -, -, hown, hZ, -⟩ := K; obtain ⟨locs, S, -, -⟩ := S; obtain ⟨hd, rfl⟩ := hd
  refine wp_mono (T' := T) (g' := mkF m (pc + 3) Ls (.long X :: st)) (fun t hr => ?_) g
  exact S.ldc2Long hx hown (mvT hZ w) (g := mkF m pc Ls st) rfl (hb hby hd) t hr
theorem getf (K : Cx own code mL ret mn n0 Z p l e R s m args below meth c) (S : St n0 p l e R s m args below meth c k n h T) {i : Nat} {O fn d : String} (w : (Jvm.Cond.fieldLink own i O fn d).before a0 Z = true) (F : Fld Z h a O fn d v) (hd : Dc code pc (.getfield i) 3 q) (g : ∀ T, St n0 p l e R s m args below meth c k n h T → Wp n0 p e R s below Q T (mkF m q Ls (v :: st))) : Wp n0 p e R s below Q T (mkF m pc Ls (.ref a :: st)) := by
  obtain ⟨hx, hby, -, -, -, hown, hZ, -⟩ := K; obtain ⟨locs, S, e1, N, z⟩ := S; obtain ⟨hd, rfl⟩ := hd
  obtain ⟨T1, S1, e2, st1⟩ := getF S hx hZ hown (host := "") (Or.inl w) Via.refl e1 F (g := mkF m pc Ls (.ref a :: st)) rfl rfl (hb hby hd)
  exact wp_mono st1 (g T1 ⟨locs, S1, e2, N, z⟩)
theorem putf (K : Cx own code mL ret mn n0 Z p l e R s m args below meth c) (S : St n0 p l e R s m args below meth c k n h T) {i kk : Nat} {O fn d C : String} {old : Value} (w : (Jvm.Cond.fieldLink own i O fn d).before a0 Z = true) (F : Fld Z h a O fn d old) (E : Exa Z h a C) (L : (Jvm.Cond.lays C O fn d).before a0 Z = true ∨ ((Jvm.Cond.laysFinal C O fn d).before a0 Z = true ∧ own = O ∧ mn = "<init>")) (wi : (Jvm.Cond.instantiable C kk).before a0 Z = true) (hty : parseFieldDescriptor d = some ty) (hn : narrow ty v = v) (hf : fits ty v = true) (ha : n0 ≤ a) (hd : Dc code pc (.putfield i) 3 q) (g : ∀ T h', Wr h h' a (Jvm.RoadKit.slotOf Z O fn d) v → St n0 p l e R s m args below meth c k n h' T → Wp n0 p e R s below Q T (mkF m q Ls st)) : Wp n0 p e R s below Q T (mkF m pc Ls (v :: .ref a :: st)) := by
  obtain ⟨hx, hby, -, -, -, hown, hZ, hmn⟩ := K; obtain ⟨locs, S, e1, N, z⟩ := S; obtain ⟨hd, rfl⟩ := hd
  obtain ⟨T1, h1, S1, e2, W1, st1⟩ := putF S hx hZ hown (host := "") (Or.inl w) Via.refl e1 F E (L.imp id fun q => ⟨q.1, q.2.1, hmn.trans q.2.2⟩) wi hty hn hf (g := mkF m pc Ls (v :: .ref a :: st)) rfl rfl (hb hby hd)
  exact wp_mono st1 (g T1 h1 W1 ⟨_, S1, e2, Fr.snoc S1 N ha, by rw [W1.size]; exact z⟩)
theorem new (K : Cx own code mL ret mn n0 Z p l e R s m args below meth c) (S : St n0 p l e R s m args below meth c k n h T) {i nn : Nat} {C : String} (w : (Jvm.Cond.classLink own i C).before a0 Z = true) (wi : (Jvm.Cond.instantiable C nn).before a0 Z = true) (wz : (Jvm.Cond.initialized C).before a0 Z = true) (hc : k + 1 ≤ R.cells) (hl : n + nn ≤ R.slots) (hd : Dc code pc (.new i) 3 q) (g : ∀ T h' a, a = h.size → n0 ≤ a → Ext h h' → Exa Z h' a C → (∀ {O nm d : String} {ty : FieldType}, Laid Z a0 C O nm d → parseFieldDescriptor d = some ty → Fld Z h' a O nm d (defaultValue ty)) → St n0 p l e R s m args below meth c (k + 1) (n + nn) h' T → Wp n0 p e R s below Q T (mkF m q Ls (.ref a :: st))) : Wp n0 p e R s below Q T (mkF m pc Ls st) := by
  obtain ⟨hx, hby, -, -, -, hown, hZ, hmn⟩ := K; obtain ⟨locs, S, e1, N, z⟩ := S; obtain ⟨hd, rfl⟩ := hd
  obtain ⟨T1, h1, S1, e2, E1, A1, D1, -, st1⟩ := newO S hx hZ hown w wi wz e1 (g := mkF m pc Ls st) rfl (hb hby hd) hc hl
  exact wp_mono st1 (g T1 h1 h.size rfl z E1 A1 D1 ⟨_, S1, e2, N, Nat.le_trans z E1.1⟩)
theorem newarr (K : Cx own code mL ret mn n0 Z p l e R s m args below meth c) (S : St n0 p l e R s m args below meth c k n h T) {aty : ArrayType} {cap : Nat} (w : (Jvm.Cond.arrayClass (newarray.typeOf aty)).before a0 Z = true) (hn : ¬ x < 0) (hcap : x.toNatClampNeg ≤ cap) (hb' : cap * 8 ≤ 536870912) (hc : k + 1 ≤ R.cells) (hl : n + cap ≤ R.slots) (hd : Dc code pc (.newarray aty) 2 q) (g : ∀ T h' a, a = h.size → n0 ≤ a → Ext h h' → VA Z h' a (newarray.typeOf aty) (List.replicate x.toNatClampNeg (defaultValue (newarray.typeOf aty))) → St n0 p l e R s m args below meth c (k + 1) (n + cap) h' T → Wp n0 p e R s below Q T (mkF m q Ls (.ref a :: st))) : Wp n0 p e R s below Q T (mkF m pc Ls (.int x :: st)) := by
  obtain ⟨hx, hby, -, -, -, hown, hZ, hmn⟩ := K; obtain ⟨locs, S, e1, N, z⟩ := S; obtain ⟨hd, rfl⟩ := hd
  obtain ⟨T1, h1, cA, S1, e2, E1, A1, st1⟩ := newP S hx hZ w e1 (g := mkF m pc Ls (.int x :: st)) rfl (hb hby hd) rfl hn hcap hb' hc hl
  exact wp_mono st1 (g T1 h1 h.size rfl z E1 ⟨_, A1, by simp [newA]⟩ ⟨_, S1, e2, N, Nat.le_trans z E1.1⟩)
theorem inito (K : Cx own code mL ret mn n0 Z p l e R s m args below meth c) (S : St n0 p l e R s m args below meth c k n h T) {i W : Nat} (w1 : (Jvm.Cond.methodLink own i Lib.objectInit).before a0 Z = true) (w2 : (Jvm.Cond.instanceMethod Lib.objectInit).before a0 Z = true) (w3 : (Jvm.Cond.code Lib.objectInit ⟨#[0xb1]⟩ 1 none).before a0 Z = true) (hsz : Ls.size = mL) (hf : 1 ≤ R.frames) (hW : (st.map fun v => v.category).sum ≤ W) (hl : W + 12 ≤ R.locals) (hd : Dc code pc (.invokespecial i) 3 q) (g : ∀ T, St n0 p l e R s m args below meth c k n h T → Wp n0 p e R s below Q T (mkF m q Ls st)) : Wp n0 p e R s below Q T (mkF m pc Ls (.ref a :: st)) := by
  obtain ⟨hx, hby, hml, -, -, hown, hZ, hmn⟩ := K; obtain ⟨locs, S, e1, N, z⟩ := S; obtain ⟨hd, rfl⟩ := hd
  obtain ⟨T1, S1, e2, st1⟩ := initO S hx hZ hown w1 w2 w3 e1 (g := mkF m pc Ls (.ref a :: st)) rfl (by rw [hml]; exact hsz) rfl (hb hby hd) hf (W := W) (by show 2 * 0 + _ ≤ _; omega) hl
  exact wp_mono st1 (g T1 ⟨_, S1, e2, N, z⟩)
theorem iaload (K : Cx own code mL ret mn n0 Z p l e R s m args below meth c) (S : St n0 p l e R s m args below meth c k n h T) {i : Nat} (A : VA Z h a .int vs) (hi : Ix x i) (hv : vs[i]? = some v) (hd : Dc code pc .iaload 1 q) (g : Wp n0 p e R s below Q T (mkF m q Ls (v :: st))) : Wp n0 p e R s below Q T (mkF m pc Ls (.int x :: .ref a :: st)) := by
  obtain ⟨hx, hby, -, -, -, hown, hZ, -⟩ := K; obtain ⟨locs, S, e1, N, z⟩ := S; obtain ⟨hd, rfl⟩ := hd; obtain ⟨cl, A, hs⟩ := A; obtain ⟨hi0, rfl⟩ := hi
  have hlt : x.toNatClampNeg < vs.length := (List.getElem?_eq_some_iff.mp hv).1
  exact wp_mono (fun t hr => S.iaload hx (by rw [e1]; exact A.1) (State.isArrayOf_alike hZ.alike A.2.1) A.2.2 (by rw [hs]; simp; exact ⟨Int32.not_lt.mp hi0, hlt⟩) (by rw [hs]; simpa using hv) (g := mkF m pc Ls (.int x :: .ref a :: st)) rfl rfl (hb hby hd) t hr) g
theorem laload (K : Cx own code mL ret mn n0 Z p l e R s m args below meth c) (S : St n0 p l e R s m args below meth c k n h T) {i : Nat} (A : VA Z h a .long vs) (hi : Ix x i) (hv : vs[i]? = some v) (hd : Dc code pc .laload 1 q) (g : Wp n0 p e R s below Q T (mkF m q Ls (v :: st))) : Wp n0 p e R s below Q T (mkF m pc Ls (.int x :: .ref a :: st)) := by
  obtain ⟨hx, hby, -, -, -, hown, hZ, -⟩ := K; obtain ⟨locs, S, e1, N, z⟩ := S; obtain ⟨hd, rfl⟩ := hd; obtain ⟨cl, A, hs⟩ := A; obtain ⟨hi0, rfl⟩ := hi
  have hlt : x.toNatClampNeg < vs.length := (List.getElem?_eq_some_iff.mp hv).1
  exact wp_mono (fun t hr => S.laload hx (by rw [e1]; exact A.1) (State.isArrayOf_alike hZ.alike A.2.1) A.2.2 (by rw [hs]; simp; exact ⟨Int32.not_lt.mp hi0, hlt⟩) (by rw [hs]; simpa using hv) (g := mkF m pc Ls (.int x :: .ref a :: st)) rfl rfl (hb hby hd) t hr) g
theorem caload (K : Cx own code mL ret mn n0 Z p l e R s m args below meth c) (S : St n0 p l e R s m args below meth c k n h T) {i : Nat} (A : VA Z h a .char vs) (hi : Ix x i) (hv : vs[i]? = some v) (hd : Dc code pc .caload 1 q) (g : Wp n0 p e R s below Q T (mkF m q Ls (v :: st))) : Wp n0 p e R s below Q T (mkF m pc Ls (.int x :: .ref a :: st)) := by
  obtain ⟨hx, hby, -, -, -, hown, hZ, -⟩ := K; obtain ⟨locs, S, e1, N, z⟩ := S; obtain ⟨hd, rfl⟩ := hd; obtain ⟨cl, A, hs⟩ := A; obtain ⟨hi0, rfl⟩ := hi
  have hlt : x.toNatClampNeg < vs.length := (List.getElem?_eq_some_iff.mp hv).1
  exact wp_mono (fun t hr => S.caload hx (by rw [e1]; exact A.1) (State.isArrayOf_alike hZ.alike A.2.1) A.2.2 (by rw [hs]; simp; exact ⟨Int32.not_lt.mp hi0, hlt⟩) (by rw [hs]; simpa using hv) (g := mkF m pc Ls (.int x :: .ref a :: st)) rfl rfl (hb hby hd) t hr) g
theorem baload (K : Cx own code mL ret mn n0 Z p l e R s m args below meth c) (S : St n0 p l e R s m args below meth c k n h T) {i : Nat} (A : VA Z h a .byte vs) (hi : Ix x i) (hv : vs[i]? = some v) (hd : Dc code pc .baload 1 q) (g : Wp n0 p e R s below Q T (mkF m q Ls (v :: st))) : Wp n0 p e R s below Q T (mkF m pc Ls (.int x :: .ref a :: st)) := by
  obtain ⟨hx, hby, -, -, -, hown, hZ, -⟩ := K; obtain ⟨locs, S, e1, N, z⟩ := S; obtain ⟨hd, rfl⟩ := hd; obtain ⟨cl, A, hs⟩ := A; obtain ⟨hi0, rfl⟩ := hi
  have hlt : x.toNatClampNeg < vs.length := (List.getElem?_eq_some_iff.mp hv).1
  exact wp_mono (fun t hr => S.baloadBytes hx (by rw [e1]; exact A.1) (State.isArrayOf_alike hZ.alike A.2.1) A.2.2 (by rw [hs]; simp; exact ⟨Int32.not_lt.mp hi0, hlt⟩) (by rw [hs]; simpa using hv) (g := mkF m pc Ls (.int x :: .ref a :: st)) rfl rfl (hb hby hd) t hr) g
theorem iastore (K : Cx own code mL ret mn n0 Z p l e R s m args below meth c) (S : St n0 p l e R s m args below meth c k n h T) {i : Nat} (A : VA Z h a .int vs) (hi : Ix x i) (hlt : i < vs.length) (ha : n0 ≤ a) (hd : Dc code pc .iastore 1 q) (g : ∀ T h', Wr h h' a i (.int y) → VA Z h' a .int (vs.set i (.int y)) → St n0 p l e R s m args below meth c k n h' T → Wp n0 p e R s below Q T (mkF m q Ls st)) : Wp n0 p e R s below Q T (mkF m pc Ls (.int y :: .int x :: .ref a :: st)) := by
  obtain ⟨hx, hby, -, -, -, hown, hZ, -⟩ := K; obtain ⟨locs, S, e1, N, z⟩ := S; obtain ⟨hd, rfl⟩ := hd; have A0 := A; obtain ⟨cl, A, hs⟩ := A; obtain ⟨hi0, rfl⟩ := hi
  obtain ⟨T1, h1, S1, e2, W1, st1⟩ := stI S hx hZ e1 A (by rw [hs]; simp; exact ⟨Int32.not_lt.mp hi0, hlt⟩) (g := mkF m pc Ls (.int y :: .int x :: .ref a :: st)) rfl rfl (hb hby hd)
  exact wp_mono st1 (g T1 h1 W1 (A0.wr W1) ⟨_, S1, e2, Fr.snoc S1 N ha, by rw [W1.size]; exact z⟩)
theorem lastore (K : Cx own code mL ret mn n0 Z p l e R s m args below meth c) (S : St n0 p l e R s m args below meth c k n h T) {i : Nat} (A : VA Z h a .long vs) (hi : Ix x i) (hlt : i < vs.length) (ha : n0 ≤ a) (hd : Dc code pc .lastore 1 q) (g : ∀ T h', Wr h h' a i (.long X) → VA Z h' a .long (vs.set i (.long X)) → St n0 p l e R s m args below meth c k n h' T → Wp n0 p e R s below Q T (mkF m q Ls st)) : Wp n0 p e R s below Q T (mkF m pc Ls (.long X :: .int x :: .ref a :: st)) := by
  obtain ⟨hx, hby, -, -, -, hown, hZ, -⟩ := K; obtain ⟨locs, S, e1, N, z⟩ := S; obtain ⟨hd, rfl⟩ := hd; have A0 := A; obtain ⟨cl, A, hs⟩ := A; obtain ⟨hi0, rfl⟩ := hi
  obtain ⟨T1, h1, S1, e2, W1, st1⟩ := stJ S hx hZ e1 A (by rw [hs]; simp; exact ⟨Int32.not_lt.mp hi0, hlt⟩) (g := mkF m pc Ls (.long X :: .int x :: .ref a :: st)) rfl rfl (hb hby hd)
  exact wp_mono st1 (g T1 h1 W1 (A0.wr W1) ⟨_, S1, e2, Fr.snoc S1 N ha, by rw [W1.size]; exact z⟩)
theorem castore (K : Cx own code mL ret mn n0 Z p l e R s m args below meth c) (S : St n0 p l e R s m args below meth c k n h T) {i : Nat} (A : VA Z h a .char vs) (hi : Ix x i) (hlt : i < vs.length) (ha : n0 ≤ a) (hd : Dc code pc .castore 1 q) (g : ∀ T h', Wr h h' a i (.int (nar .char y)) → VA Z h' a .char (vs.set i (.int (nar .char y))) → St n0 p l e R s m args below meth c k n h' T → Wp n0 p e R s below Q T (mkF m q Ls st)) : Wp n0 p e R s below Q T (mkF m pc Ls (.int y :: .int x :: .ref a :: st)) := by
  obtain ⟨hx, hby, -, -, -, hown, hZ, -⟩ := K; obtain ⟨locs, S, e1, N, z⟩ := S; obtain ⟨hd, rfl⟩ := hd; have A0 := A; obtain ⟨cl, A, hs⟩ := A; obtain ⟨hi0, rfl⟩ := hi
  obtain ⟨T1, h1, S1, e2, W1, st1⟩ := stC S hx hZ e1 A (by rw [hs]; simp; exact ⟨Int32.not_lt.mp hi0, hlt⟩) (g := mkF m pc Ls (.int y :: .int x :: .ref a :: st)) rfl rfl (hb hby hd)
  exact wp_mono st1 (g T1 h1 W1 (A0.wr W1) ⟨_, S1, e2, Fr.snoc S1 N ha, by rw [W1.size]; exact z⟩)
theorem bastore (K : Cx own code mL ret mn n0 Z p l e R s m args below meth c) (S : St n0 p l e R s m args below meth c k n h T) {i : Nat} (A : VA Z h a .byte vs) (hi : Ix x i) (hlt : i < vs.length) (ha : n0 ≤ a) (hd : Dc code pc .bastore 1 q) (g : ∀ T h', Wr h h' a i (.int (nar .byte y)) → VA Z h' a .byte (vs.set i (.int (nar .byte y))) → St n0 p l e R s m args below meth c k n h' T → Wp n0 p e R s below Q T (mkF m q Ls st)) : Wp n0 p e R s below Q T (mkF m pc Ls (.int y :: .int x :: .ref a :: st)) := by
  obtain ⟨hx, hby, -, -, -, hown, hZ, -⟩ := K; obtain ⟨locs, S, e1, N, z⟩ := S; obtain ⟨hd, rfl⟩ := hd; have A0 := A; obtain ⟨cl, A, hs⟩ := A; obtain ⟨hi0, rfl⟩ := hi
  obtain ⟨T1, h1, S1, e2, W1, st1⟩ := stB S hx hZ e1 A (by rw [hs]; simp; exact ⟨Int32.not_lt.mp hi0, hlt⟩) (g := mkF m pc Ls (.int y :: .int x :: .ref a :: st)) rfl rfl (hb hby hd)
  exact wp_mono st1 (g T1 h1 W1 (A0.wr W1) ⟨_, S1, e2, Fr.snoc S1 N ha, by rw [W1.size]; exact z⟩)
theorem alen (K : Cx own code mL ret mn n0 Z p l e R s m args below meth c) (S : St n0 p l e R s m args below meth c k n h T) (A : VA Z h a ty vs) (hx' : vs.length.toInt32 = x) (hd : Dc code pc .arraylength 1 q) (g : Wp n0 p e R s below Q T (mkF m q Ls (.int x :: st))) : Wp n0 p e R s below Q T (mkF m pc Ls (.ref a :: st)) := by
  obtain ⟨hx, hby, -, -, -, hown, hZ, -⟩ := K; obtain ⟨locs, S, e1, N, z⟩ := S; obtain ⟨hd, rfl⟩ := hd; obtain ⟨cl, A, hs⟩ := A
  refine wp_mono (fun t hr => S.arraylength hx (by rw [e1]; exact A.1) (State.isArrayOf_alike hZ.alike A.2.1) (g := mkF m pc Ls (.ref a :: st)) rfl rfl (hb hby hd) t hr) (T' := T) (g' := mkF m (pc + 1) Ls (.int cl.slots.size.toInt32 :: st)) ?_
  rw [hs]; simpa [hx'] using g
theorem retn (K : Cx own code mL (some ty) mn n0 Z p l e R s m args below meth c) (S : St n0 p l e R s m args below meth c k n h T) (ht : ty = .boolean ∨ ty = .byte ∨ ty = .char ∨ ty = .short) (hz : nar ty x = y) (hk : k ≤ R.cells) (hn : n ≤ R.slots) (hd : Dc code pc .ireturn 1 q) (hQ : Q (some (.int y)) h) : Wp n0 p e R s below Q T (mkF m pc Ls (.int x :: st)) := by
  obtain ⟨hx, hby, -, hret, hlk, -⟩ := K; obtain ⟨locs, S, e1, N, z⟩ := S; obtain ⟨hd, -⟩ := hd
  obtain ⟨fs, hr, hrun, hended, hW, hsame⟩ := S.leave (v := some (.int y)) (fun h => by rw [hret] at h; cases h) hlk
  refine ⟨_, _, retN S hx hret ht (hb hby hd) (by rw [hz]; exact hr), hrun, hended, _, _, rfl, ⟨?_, ?_, N⟩, ⟨_, rfl⟩, hW, hsame.mono hk hn⟩
  · show Q _ T.heap; rw [e1]; exact hQ
  · show n0 ≤ T.heap.size; rw [e1]; exact z
theorem reti (K : Cx own code mL (some .int) mn n0 Z p l e R s m args below meth c) (S : St n0 p l e R s m args below meth c k n h T) (hk : k ≤ R.cells) (hn : n ≤ R.slots) (hd : Dc code pc .ireturn 1 q) (hQ : Q (some (.int x)) h) : Wp n0 p e R s below Q T (mkF m pc Ls (.int x :: st)) := by
  obtain ⟨hx, hby, -, hret, hlk, -⟩ := K; obtain ⟨locs, S, e1, N, z⟩ := S; obtain ⟨hd, -⟩ := hd
  obtain ⟨fs, hr, hrun, hended, hW, hsame⟩ := S.leave (v := some (.int x)) (fun h => by rw [hret] at h; cases h) hlk
  refine ⟨_, _, retOut S hx hret rfl (Or.inl ⟨rfl, Or.inl rfl, _, rfl⟩) (hb hby hd) hr, hrun, hended, _, _, rfl, ⟨?_, ?_, N⟩, ⟨_, rfl⟩, hW, hsame.mono hk hn⟩
  · show Q _ T.heap; rw [e1]; exact hQ
  · show n0 ≤ T.heap.size; rw [e1]; exact z
theorem retl (K : Cx own code mL (some .long) mn n0 Z p l e R s m args below meth c) (S : St n0 p l e R s m args below meth c k n h T) (hk : k ≤ R.cells) (hn : n ≤ R.slots) (hd : Dc code pc .lreturn 1 q) (hQ : Q (some (.long X)) h) : Wp n0 p e R s below Q T (mkF m pc Ls (.long X :: st)) := by
  obtain ⟨hx, hby, -, hret, hlk, -⟩ := K; obtain ⟨locs, S, e1, N, z⟩ := S; obtain ⟨hd, -⟩ := hd
  obtain ⟨fs, hr, hrun, hended, hW, hsame⟩ := S.leave (v := some (.long X)) (fun h => by rw [hret] at h; cases h) hlk
  refine ⟨_, _, retOut S hx hret rfl (Or.inr (Or.inl ⟨rfl, rfl, _, rfl⟩)) (hb hby hd) hr, hrun, hended, _, _, rfl, ⟨?_, ?_, N⟩, ⟨_, rfl⟩, hW, hsame.mono hk hn⟩
  · show Q _ T.heap; rw [e1]; exact hQ
  · show n0 ≤ T.heap.size; rw [e1]; exact z
theorem reta (K : Cx own code mL (some ty) mn n0 Z p l e R s m args below meth c) (S : St n0 p l e R s m args below meth c k n h T) (hrf : ty.isReference = true) (hnr : narrow ty (.ref a) = .ref a) (hk : k ≤ R.cells) (hn : n ≤ R.slots) (hd : Dc code pc .areturn 1 q) (hQ : Q (some (.ref a)) h) : Wp n0 p e R s below Q T (mkF m pc Ls (.ref a :: st)) := by
  obtain ⟨hx, hby, -, hret, hlk, -⟩ := K; obtain ⟨locs, S, e1, N, z⟩ := S; obtain ⟨hd, -⟩ := hd
  obtain ⟨fs, hr, hrun, hended, hW, hsame⟩ := S.leave (v := some (.ref a)) (fun h => by rw [hret] at h; cases h) hlk
  refine ⟨_, _, retOut S hx hret hnr (Or.inr (Or.inr (Or.inr (Or.inr ⟨rfl, hrf, rfl⟩)))) (hb hby hd) hr, hrun, hended, _, _, rfl, ⟨?_, ?_, N⟩, ⟨_, rfl⟩, hW, hsame.mono hk hn⟩
  · show Q _ T.heap; rw [e1]; exact hQ
  · show n0 ≤ T.heap.size; rw [e1]; exact z
theorem retv (K : Cx own code mL (none) mn n0 Z p l e R s m args below meth c) (S : St n0 p l e R s m args below meth c k n h T) (hk : k ≤ R.cells) (hn : n ≤ R.slots) (hd : Dc code pc .return_ 1 q) (hQ : Q (none) h) : Wp n0 p e R s below Q T (mkF m pc Ls ([])) := by
  obtain ⟨hx, hby, -, hret, hlk, -⟩ := K; obtain ⟨locs, S, e1, N, z⟩ := S; obtain ⟨hd, -⟩ := hd
  obtain ⟨fs, hr, hrun, hended, hW, hsame⟩ := S.leave (v := none) (fun _ => rfl) hlk
  refine ⟨_, _, S.returnOut hx hret (hb hby hd) hr, hrun, hended, _, _, rfl, ⟨?_, ?_, N⟩, ⟨_, rfl⟩, hW, hsame.mono hk hn⟩
  · show Q _ T.heap; rw [e1]; exact hQ
  · show n0 ≤ T.heap.size; rw [e1]; exact z
theorem callS (K : Cx own code mL ret mn n0 Z p l e R s m args below meth c) (S : St n0 p l e R s m args below meth c k n h T) {i mL' W : Nat} {y : MethodName} {bytes : ByteArray} {ret' : Option FieldType} {rm : Room} {as' : Array Value} {Q' : Option Value → Heap → Prop} {argsL : List Value} (M : Met n0 l Z y bytes mL' ret' rm [] as' h Q') (w1 : (Jvm.Cond.methodLink own i y).before a0 Z = true) (w2 : (Jvm.Cond.static y).before a0 Z = true) (w4 : (Jvm.Cond.code y bytes mL' ret').before a0 Z = true) (w5 : (Jvm.Cond.initialized y.cls).before a0 Z = true) (hy : y.cls ≠ "java/lang/invoke/MethodHandle" ∧ y.cls ≠ "java/lang/invoke/VarHandle") (hfr : rm.frames + 1 ≤ R.frames) (hlo : W + (mL' + 11) + rm.locals ≤ R.locals) (hce : k + rm.cells ≤ R.cells) (hsl : n + rm.slots ≤ R.slots) (hsz : Ls.size = mL) (has : (argsL).toArray = as') (hlen : ∀ sig, parseMethodDescriptor y.desc = some sig → argsL.length = sig.parameters.length) (hst : st = argsL.reverse ++ rest) (hW : (rest.map fun v => v.category).sum ≤ W) (hd : Dc code pc (.invokestatic i) 3 q) (g : ∀ T v h', Q' v h' → St n0 p l e R s m args below meth c (k + rm.cells) (n + rm.slots) h' T → Wp n0 p e R s below Q T (mkF m q Ls (v.toList ++ rest))) : Wp n0 p e R s below Q T (mkF m pc Ls st) := by
  obtain ⟨hx, hby, hml, -, -, hown, hZ, hmn⟩ := K; obtain ⟨locs, S, e1, N, z⟩ := S; obtain ⟨hd, rfl⟩ := hd; subst hst has
  obtain ⟨v1, _, ⟨T1, L1, k1, n1⟩, -, S1, ⟨Lc1, hQ1, l1, y1, z1⟩, st1⟩ := Jvm.LawKit.callS S hx (y := y) hown (mvT hZ w1) (mvT hZ w2) (mvT hZ w5) (mvT hZ w4) hy (backOf (W := W) (Q := fun v h L => Q' v h ∧ n0 ≤ h.size ∧ Fr n0 L) M hZ w4 w5 hfr hlo) (g := mkF m pc Ls (argsL.reverse ++ rest)) rfl (by rw [hml]; exact hsz) (argsL := argsL) (rest := rest) hlen rfl (by show 2 * 0 + _ ≤ _; omega) (hb hby hd) (fun _ _ => ⟨rfl, e1, hce, hsl⟩)
  dsimp only [Pt.U, Pt.locs, Pt.cells, Pt.slots] at S1 l1 y1 z1 st1 hQ1
  subst l1 y1 z1
  exact wp_mono st1 (g T1 v1 T1.heap hQ1.1 ⟨_, S1, rfl, Fr.app N hQ1.2.2, hQ1.2.1⟩)
theorem callC (K : Cx own code mL ret mn n0 Z p l e R s m args below meth c) (S : St n0 p l e R s m args below meth c k n h T) {i mL' W : Nat} {y : MethodName} {bytes : ByteArray} {ret' : Option FieldType} {rm : Room} {as' : Array Value} {Q' : Option Value → Heap → Prop} {argsL : List Value} (M : Met n0 l Z y bytes mL' ret' rm [] as' h Q') (hin : y.name = "<init>") (hr0 : ret' = none) (w1 : (Jvm.Cond.methodLink own i y).before a0 Z = true) (w2 : (Jvm.Cond.instanceMethod y).before a0 Z = true) (w4 : (Jvm.Cond.code y bytes mL' ret').before a0 Z = true) (w5 : (Jvm.Cond.initialized y.cls).before a0 Z = true) (hy : y.cls ≠ "java/lang/invoke/MethodHandle" ∧ y.cls ≠ "java/lang/invoke/VarHandle") (hfr : rm.frames + 1 ≤ R.frames) (hlo : W + (mL' + 11) + rm.locals ≤ R.locals) (hce : k + rm.cells ≤ R.cells) (hsl : n + rm.slots ≤ R.slots) (hsz : Ls.size = mL) (has : (.ref a :: argsL).toArray = as') (hlen : ∀ sig, parseMethodDescriptor y.desc = some sig → argsL.length = sig.parameters.length) (hst : st = argsL.reverse ++ .ref a :: rest) (hW : (rest.map fun v => v.category).sum ≤ W) (hd : Dc code pc (.invokespecial i) 3 q) (g : ∀ T v h', Q' v h' → St n0 p l e R s m args below meth c (k + rm.cells) (n + rm.slots) h' T → Wp n0 p e R s below Q T (mkF m q Ls (v.toList ++ rest))) : Wp n0 p e R s below Q T (mkF m pc Ls st) := by
  obtain ⟨hx, hby, hml, -, -, hown, hZ, hmn⟩ := K; obtain ⟨locs, S, e1, N, z⟩ := S; obtain ⟨hd, rfl⟩ := hd; subst hst has
  subst hr0
  obtain ⟨v1, _, ⟨T1, L1, k1, n1⟩, -, S1, ⟨Lc1, hQ1, l1, y1, z1⟩, st1⟩ := S.specialBack hx (y := y) hin hown (mvT hZ w1) (mvT hZ w2) (mvT hZ w4) hy (backOf (W := W) (Q := fun v h L => Q' v h ∧ n0 ≤ h.size ∧ Fr n0 L) M hZ w4 w5 hfr hlo) (g := mkF m pc Ls (argsL.reverse ++ .ref a :: rest)) rfl (by rw [hml]; exact hsz) (Steps.refl _) (a := a) (argsL := argsL) (rest := rest) hlen rfl (by show 2 * 0 + _ ≤ _; omega) (hb hby hd) (fun _ _ => ⟨rfl, e1, hce, hsl⟩)
  dsimp only [Pt.U, Pt.locs, Pt.cells, Pt.slots] at S1 l1 y1 z1 st1 hQ1
  subst l1 y1 z1
  exact wp_mono (fun t hr => st1.trans hr) (g T1 v1 T1.heap hQ1.1 ⟨_, S1, rfl, Fr.app N hQ1.2.2, hQ1.2.1⟩)
theorem callV (K : Cx own code mL ret mn n0 Z p l e R s m args below meth c) (S : St n0 p l e R s m args below meth c k n h T) {i mL' W : Nat} {y : MethodName} {bytes : ByteArray} {ret' : Option FieldType} {rm : Room} {as' : Array Value} {Q' : Option Value → Heap → Prop} {argsL : List Value} (M : Met n0 l Z y bytes mL' ret' rm [] as' h Q') (E : Exa Z h a y.cls) (w1 : (Jvm.Cond.methodLink own i y).before a0 Z = true) (w2 : (Jvm.Cond.declares y).before a0 Z = true) (w3 : (Jvm.Cond.selects y.cls y y).before a0 Z = true) (w6 : (Jvm.Cond.instanceMethod y).before a0 Z = true) (w4 : (Jvm.Cond.code y bytes mL' ret').before a0 Z = true) (w5 : (Jvm.Cond.initialized y.cls).before a0 Z = true) (hy : y.cls ≠ "java/lang/invoke/MethodHandle" ∧ y.cls ≠ "java/lang/invoke/VarHandle") (hfr : rm.frames + 1 ≤ R.frames) (hlo : W + (mL' + 11) + rm.locals ≤ R.locals) (hce : k + rm.cells ≤ R.cells) (hsl : n + rm.slots ≤ R.slots) (hsz : Ls.size = mL) (has : (.ref a :: argsL).toArray = as') (hlen : ∀ sig, parseMethodDescriptor y.desc = some sig → argsL.length = sig.parameters.length) (hst : st = argsL.reverse ++ .ref a :: rest) (hW : (rest.map fun v => v.category).sum ≤ W) (hd : Dc code pc (.invokevirtual i) 3 q) (g : ∀ T v h', Q' v h' → St n0 p l e R s m args below meth c (k + rm.cells) (n + rm.slots) h' T → Wp n0 p e R s below Q T (mkF m q Ls (v.toList ++ rest))) : Wp n0 p e R s below Q T (mkF m pc Ls st) := by
  obtain ⟨hx, hby, hml, -, -, hown, hZ, hmn⟩ := K; obtain ⟨locs, S, e1, N, z⟩ := S; obtain ⟨hd, rfl⟩ := hd; subst hst has
  obtain ⟨cq, kq, qa, qb, qc⟩ := isOf hZ e1 E
  obtain ⟨v1, _, ⟨T1, L1, k1, n1⟩, -, S1, ⟨Lc1, hQ1, l1, y1, z1⟩, st1⟩ := S.virtualBack hx (y := y) (z := y) hown (mvT hZ w1) (mvT hZ w2) (notFace_of_selects (args := #[]) (mvT hZ w3)) (mvT hZ w3) (mvT hZ w6) hy (backOf (W := W) (Q := fun v h L => Q' v h ∧ n0 ≤ h.size ∧ Fr n0 L) M hZ w4 w5 hfr hlo) qa qc (g := mkF m pc Ls (argsL.reverse ++ .ref a :: rest)) rfl (by rw [hml]; exact hsz) (Steps.refl _) (argsL := argsL) (rest := rest) hlen rfl (by show 2 * 0 + _ ≤ _; omega) (hb hby hd) (fun _ _ => ⟨rfl, e1, hce, hsl⟩)
  dsimp only [Pt.U, Pt.locs, Pt.cells, Pt.slots] at S1 l1 y1 z1 st1 hQ1
  subst l1 y1 z1
  exact wp_mono (fun t hr => st1.trans hr) (g T1 v1 T1.heap hQ1.1 ⟨_, S1, rfl, Fr.app N hQ1.2.2, hQ1.2.1⟩)
theorem callP (K : Cx own code mL ret mn n0 Z p l e R s m args below meth c) (S : St n0 p l e R s m args below meth c k n h T) {i mL' W : Nat} {y : MethodName} {bytes : ByteArray} {ret' : Option FieldType} {rm : Room} {as' : Array Value} {Q' : Option Value → Heap → Prop} {argsL : List Value} (M : Met n0 l Z y bytes mL' ret' rm [] as' h Q') (E : Exa Z h a y.cls) {y2 : MethodName} (hy2 : y2.cls = y.cls) (w1 : (Jvm.Cond.methodLink own i y).before a0 Z = true) (w2 : (Jvm.Cond.privateMethod y).before a0 Z = true) (w3 : (Jvm.Cond.selects y.cls y2 y2).before a0 Z = true) (w6 : (Jvm.Cond.instanceMethod y).before a0 Z = true) (w4 : (Jvm.Cond.code y bytes mL' ret').before a0 Z = true) (w5 : (Jvm.Cond.initialized y.cls).before a0 Z = true) (hy : y.cls ≠ "java/lang/invoke/MethodHandle" ∧ y.cls ≠ "java/lang/invoke/VarHandle") (hfr : rm.frames + 1 ≤ R.frames) (hlo : W + (mL' + 11) + rm.locals ≤ R.locals) (hce : k + rm.cells ≤ R.cells) (hsl : n + rm.slots ≤ R.slots) (hsz : Ls.size = mL) (has : (.ref a :: argsL).toArray = as') (hlen : ∀ sig, parseMethodDescriptor y.desc = some sig → argsL.length = sig.parameters.length) (hst : st = argsL.reverse ++ .ref a :: rest) (hW : (rest.map fun v => v.category).sum ≤ W) (hd : Dc code pc (.invokevirtual i) 3 q) (g : ∀ T v h', Q' v h' → St n0 p l e R s m args below meth c (k + rm.cells) (n + rm.slots) h' T → Wp n0 p e R s below Q T (mkF m q Ls (v.toList ++ rest))) : Wp n0 p e R s below Q T (mkF m pc Ls st) := by
  obtain ⟨hx, hby, hml, -, -, hown, hZ, hmn⟩ := K; obtain ⟨locs, S, e1, N, z⟩ := S; obtain ⟨hd, rfl⟩ := hd; subst hst has
  obtain ⟨cq, q1, q2⟩ := E.cell
  have w3' : (Jvm.Cond.selects y.cls y2 y2).before (args := #[]) s = true := mvT hZ w3
  have wp' := Cond.privateMethod_at (mvP hZ w2 (args := #[]))
  have w6' : (Jvm.Cond.instanceMethod y).before args s = true := mvT hZ w6
  obtain ⟨c1, r1, m1, f1, f2, f3, f4, k2, f5, f6⟩ := Cond.selects_spec w3'
  have f7 : s.vm.findClass y.cls = some m1.cls := by rw [← hy2]; exact findClass_of_methodNamed f3
  have hsel : (Jvm.Cond.selects y.cls y y).before args s = true := Stand.selects_self_of_private f7 f5 f6 wp' w6' hy
  obtain ⟨v1, _, ⟨T1, L1, k1, n1⟩, -, S1, ⟨Lc1, hQ1, l1, y1, z1⟩, st1⟩ := S.privateBack hx (y := y) hown (mvT hZ w1) w6' hsel wp' (mvT hZ w4) hy (backOf (W := W) (Q := fun v h L => Q' v h ∧ n0 ≤ h.size ∧ Fr n0 L) M hZ w4 w5 hfr hlo) (g := mkF m pc Ls (argsL.reverse ++ .ref a :: rest)) rfl (by rw [hml]; exact hsz) (Steps.refl _) (a := a) (by rw [e1]; exact q1) q2 (argsL := argsL) (rest := rest) hlen rfl (by show 2 * 0 + _ ≤ _; omega) (hb hby hd) (fun _ _ => ⟨rfl, e1, hce, hsl⟩)
  dsimp only [Pt.U, Pt.locs, Pt.cells, Pt.slots] at S1 l1 y1 z1 st1 hQ1
  subst l1 y1 z1
  exact wp_mono (fun t hr => st1.trans hr) (g T1 v1 T1.heap hQ1.1 ⟨_, S1, rfl, Fr.app N hQ1.2.2, hQ1.2.1⟩)
end Kit
end Jvm.Own
namespace Jvm.Pilot.@@N@@
open Jvm Jvm.ClassFile Sem Op Lib Jvm.Free Jvm.Stand Jvm.LawKit Jvm.RoadKit Bundle Jvm.Pilot.@@N@@.Jvm.D Jvm.Own
theorem hwi {a0 : Array Value} {Z : State} (hw : ∀ d ∈ tables_1, d.before a0 Z = true) (i : Nat) {d : Jvm.Cond} (h : tables_1[i]? = some d) : d.before a0 Z = true := hw _ (List.mem_of_getElem? h)
def BR (Z : State) (h : Heap) (a b : Addr) (x y : Int32) : Prop := Exa Z h a "com/example/awardsmith/awardsmith/spill/ByteReader" ∧ Fld Z h a "com/example/awardsmith/awardsmith/spill/ByteReader" "channel" "Ljava/nio/channels/FileChannel;" (.null) ∧ Fld Z h a "com/example/awardsmith/awardsmith/spill/ByteReader" "bytes" "[B" (.ref b) ∧ Fld Z h a "com/example/awardsmith/awardsmith/spill/ByteReader" "at" "I" (.int x) ∧ Fld Z h a "com/example/awardsmith/awardsmith/spill/ByteReader" "end" "I" (.int y) ∧ Fld Z h a "com/example/awardsmith/awardsmith/spill/ByteReader" "next" "J" (.long 0) ∧ Fld Z h a "com/example/awardsmith/awardsmith/spill/ByteReader" "limit" "J" (.long 0)
theorem d1_0 : Dc prog_99_method_1_code 0 (.aload_n 0) 1 1 := ⟨by decide +kernel, rfl⟩
theorem d1_1 : Dc prog_99_method_1_code 1 (.invokespecial 1) 3 4 := ⟨by decide +kernel, rfl⟩
theorem d1_4 : Dc prog_99_method_1_code 4 (.aload_n 0) 1 5 := ⟨by decide +kernel, rfl⟩
theorem d1_5 : Dc prog_99_method_1_code 5 (.aconst_null) 1 6 := ⟨by decide +kernel, rfl⟩
theorem d1_6 : Dc prog_99_method_1_code 6 (.putfield 7) 3 9 := ⟨by decide +kernel, rfl⟩
theorem d1_9 : Dc prog_99_method_1_code 9 (.aload_n 0) 1 10 := ⟨by decide +kernel, rfl⟩
theorem d1_10 : Dc prog_99_method_1_code 10 (.aload_n 1) 1 11 := ⟨by decide +kernel, rfl⟩
theorem d1_11 : Dc prog_99_method_1_code 11 (.putfield 13) 3 14 := ⟨by decide +kernel, rfl⟩
theorem d1_14 : Dc prog_99_method_1_code 14 (.aload_n 0) 1 15 := ⟨by decide +kernel, rfl⟩
theorem d1_15 : Dc prog_99_method_1_code 15 (.iload_n 2) 1 16 := ⟨by decide +kernel, rfl⟩
theorem d1_16 : Dc prog_99_method_1_code 16 (.putfield 17) 3 19 := ⟨by decide +kernel, rfl⟩
theorem d1_19 : Dc prog_99_method_1_code 19 (.aload_n 0) 1 20 := ⟨by decide +kernel, rfl⟩
theorem d1_20 : Dc prog_99_method_1_code 20 (.iload_n 2) 1 21 := ⟨by decide +kernel, rfl⟩
theorem d1_21 : Dc prog_99_method_1_code 21 (.iload_n 3) 1 22 := ⟨by decide +kernel, rfl⟩
theorem d1_22 : Dc prog_99_method_1_code 22 (.iadd) 1 23 := ⟨by decide +kernel, rfl⟩
theorem d1_23 : Dc prog_99_method_1_code 23 (.putfield 21) 3 26 := ⟨by decide +kernel, rfl⟩
theorem d1_26 : Dc prog_99_method_1_code 26 (.aload_n 0) 1 27 := ⟨by decide +kernel, rfl⟩
theorem d1_27 : Dc prog_99_method_1_code 27 (.lconst 0) 1 28 := ⟨by decide +kernel, rfl⟩
theorem d1_28 : Dc prog_99_method_1_code 28 (.putfield 24) 3 31 := ⟨by decide +kernel, rfl⟩
theorem d1_31 : Dc prog_99_method_1_code 31 (.return_) 1 32 := ⟨by decide +kernel, rfl⟩
theorem ef_ini (m : MethodId) (a : Addr) (b : Addr) (x : Int32) (le : Int32) : entryFrame m #[.ref a, .ref b, .int x, .int le] 4 = mkF m 0 #[.val (.ref a), .val (.ref b), .val (.int x), .val (.int le)] [] := by first | (simp [entryFrame, mkF, argsToLocals, Value.category]; done) | rfl
set_option maxRecDepth 65536 in
set_option maxHeartbeats 40000000 in
theorem m_ini (l : Launch) (Z : State) (a0 : Array Value) (hw : ∀ d ∈ tables_1, d.before a0 Z = true) (n0 : Nat) (a : Addr) (b : Addr) (x : Int32) (le : Int32) (h : Heap) (hn : n0 ≤ h.size) (g_a : n0 ≤ a) (E_a : Exa Z h a "com/example/awardsmith/awardsmith/spill/ByteReader") (F_channel_a : Fld Z h a "com/example/awardsmith/awardsmith/spill/ByteReader" "channel" "Ljava/nio/channels/FileChannel;" (.null)) (F_bytes_a : Fld Z h a "com/example/awardsmith/awardsmith/spill/ByteReader" "bytes" "[B" (.null)) (F_at_a : Fld Z h a "com/example/awardsmith/awardsmith/spill/ByteReader" "at" "I" (.int 0)) (F_end_a : Fld Z h a "com/example/awardsmith/awardsmith/spill/ByteReader" "end" "I" (.int 0)) (F_next_a : Fld Z h a "com/example/awardsmith/awardsmith/spill/ByteReader" "next" "J" (.long 0)) (F_limit_a : Fld Z h a "com/example/awardsmith/awardsmith/spill/ByteReader" "limit" "J" (.long 0)) : Met n0 l Z (⟨"com/example/awardsmith/awardsmith/spill/ByteReader", "<init>", "([BII)V"⟩ : MethodName) prog_99_method_1_code 4 none ({ frames := 1, cells := 0, slots := 0, locals := 12 } : Room) [] #[.ref a, .ref b, .int x, .int le] h (Ef none (fun h' => BR Z h' a b x (x + le) ∧ Keep h h' [a])) := by
  refine enter (plainFor_of_name (by first | (simp [plainName, overriddenIn]; done) | decide +kernel)) (fun m => ef_ini m a b x le) hn ?_
  intro p e s m below meth c T K S
  have Kp := Keep.refl h [a]
  refine aload_n K S rfl rfl d1_0 ?_
  refine inito K S (W := 0) (hwi hw 8 rfl) (hwi hw 9 rfl) (hwi hw 10 rfl) rfl (by decide) (by decide) (by decide) d1_1 fun T S => ?_
  refine aload_n K S rfl rfl d1_4 ?_
  refine anull K S d1_5 ?_
  refine putf K S (hwi hw 11 rfl) F_channel_a E_a (Or.inr ⟨(hwi hw 12 rfl), rfl, rfl⟩) (hwi hw 3 rfl) (ty := .object "java/nio/channels/FileChannel") (by decide) rfl rfl g_a d1_6 fun T h6_1 W S => ?_
  replace E_a := E_a.wr W
  replace F_channel_a := F_channel_a.same W
  replace F_bytes_a := F_bytes_a.other W (Or.inr (slot_ne (C := "com/example/awardsmith/awardsmith/spill/ByteReader") (Or.inr (hwi hw 14 rfl)) (Or.inr (hwi hw 12 rfl)) (by decide) (t := .array .byte) (t' := .object "java/nio/channels/FileChannel") (by decide) (by decide)))
  replace F_at_a := F_at_a.other W (Or.inr (slot_ne (C := "com/example/awardsmith/awardsmith/spill/ByteReader") (Or.inl (hwi hw 16 rfl)) (Or.inr (hwi hw 12 rfl)) (by decide) (t := .int) (t' := .object "java/nio/channels/FileChannel") (by decide) (by decide)))
  replace F_end_a := F_end_a.other W (Or.inr (slot_ne (C := "com/example/awardsmith/awardsmith/spill/ByteReader") (Or.inl (hwi hw 18 rfl)) (Or.inr (hwi hw 12 rfl)) (by decide) (t := .int) (t' := .object "java/nio/channels/FileChannel") (by decide) (by decide)))
  replace F_next_a := F_next_a.other W (Or.inr (slot_ne (C := "com/example/awardsmith/awardsmith/spill/ByteReader") (Or.inl (hwi hw 27 rfl)) (Or.inr (hwi hw 12 rfl)) (by decide) (t := .long) (t' := .object "java/nio/channels/FileChannel") (by decide) (by decide)))
  replace F_limit_a := F_limit_a.other W (Or.inr (slot_ne (C := "com/example/awardsmith/awardsmith/spill/ByteReader") (Or.inr (hwi hw 20 rfl)) (Or.inr (hwi hw 12 rfl)) (by decide) (t := .long) (t' := .object "java/nio/channels/FileChannel") (by decide) (by decide)))
  replace Kp := Kp.wr W (Or.inl (by simp))
  clear W
  refine aload_n K S rfl rfl d1_9 ?_
  refine aload_n K S rfl rfl d1_10 ?_
  refine putf K S (hwi hw 13 rfl) F_bytes_a E_a (Or.inr ⟨(hwi hw 14 rfl), rfl, rfl⟩) (hwi hw 3 rfl) (ty := .array .byte) (by decide) rfl rfl g_a d1_11 fun T h11_2 W S => ?_
  replace E_a := E_a.wr W
  replace F_channel_a := F_channel_a.other W (Or.inr (slot_ne (C := "com/example/awardsmith/awardsmith/spill/ByteReader") (Or.inr (hwi hw 12 rfl)) (Or.inr (hwi hw 14 rfl)) (by decide) (t := .object "java/nio/channels/FileChannel") (t' := .array .byte) (by decide) (by decide)))
  replace F_bytes_a := F_bytes_a.same W
  replace F_at_a := F_at_a.other W (Or.inr (slot_ne (C := "com/example/awardsmith/awardsmith/spill/ByteReader") (Or.inl (hwi hw 16 rfl)) (Or.inr (hwi hw 14 rfl)) (by decide) (t := .int) (t' := .array .byte) (by decide) (by decide)))
  replace F_end_a := F_end_a.other W (Or.inr (slot_ne (C := "com/example/awardsmith/awardsmith/spill/ByteReader") (Or.inl (hwi hw 18 rfl)) (Or.inr (hwi hw 14 rfl)) (by decide) (t := .int) (t' := .array .byte) (by decide) (by decide)))
  replace F_next_a := F_next_a.other W (Or.inr (slot_ne (C := "com/example/awardsmith/awardsmith/spill/ByteReader") (Or.inl (hwi hw 27 rfl)) (Or.inr (hwi hw 14 rfl)) (by decide) (t := .long) (t' := .array .byte) (by decide) (by decide)))
  replace F_limit_a := F_limit_a.other W (Or.inr (slot_ne (C := "com/example/awardsmith/awardsmith/spill/ByteReader") (Or.inr (hwi hw 20 rfl)) (Or.inr (hwi hw 14 rfl)) (by decide) (t := .long) (t' := .array .byte) (by decide) (by decide)))
  replace Kp := Kp.wr W (Or.inl (by simp))
  clear W
  refine aload_n K S rfl rfl d1_14 ?_
  refine iload_n K S rfl d1_15 ?_
  refine putf K S (hwi hw 15 rfl) F_at_a E_a (Or.inl (hwi hw 16 rfl)) (hwi hw 3 rfl) (ty := .int) (by decide) rfl rfl g_a d1_16 fun T h16_3 W S => ?_
  replace E_a := E_a.wr W
  replace F_channel_a := F_channel_a.other W (Or.inr (slot_ne (C := "com/example/awardsmith/awardsmith/spill/ByteReader") (Or.inr (hwi hw 12 rfl)) (Or.inl (hwi hw 16 rfl)) (by decide) (t := .object "java/nio/channels/FileChannel") (t' := .int) (by decide) (by decide)))
  replace F_bytes_a := F_bytes_a.other W (Or.inr (slot_ne (C := "com/example/awardsmith/awardsmith/spill/ByteReader") (Or.inr (hwi hw 14 rfl)) (Or.inl (hwi hw 16 rfl)) (by decide) (t := .array .byte) (t' := .int) (by decide) (by decide)))
  replace F_at_a := F_at_a.same W
  replace F_end_a := F_end_a.other W (Or.inr (slot_ne (C := "com/example/awardsmith/awardsmith/spill/ByteReader") (Or.inl (hwi hw 18 rfl)) (Or.inl (hwi hw 16 rfl)) (by decide) (t := .int) (t' := .int) (by decide) (by decide)))
  replace F_next_a := F_next_a.other W (Or.inr (slot_ne (C := "com/example/awardsmith/awardsmith/spill/ByteReader") (Or.inl (hwi hw 27 rfl)) (Or.inl (hwi hw 16 rfl)) (by decide) (t := .long) (t' := .int) (by decide) (by decide)))
  replace F_limit_a := F_limit_a.other W (Or.inr (slot_ne (C := "com/example/awardsmith/awardsmith/spill/ByteReader") (Or.inr (hwi hw 20 rfl)) (Or.inl (hwi hw 16 rfl)) (by decide) (t := .long) (t' := .int) (by decide) (by decide)))
  replace Kp := Kp.wr W (Or.inl (by simp))
  clear W
  refine aload_n K S rfl rfl d1_19 ?_
  refine iload_n K S rfl d1_20 ?_
  refine iload_n K S rfl d1_21 ?_
  refine iadd K S d1_22 ?_
  refine putf K S (hwi hw 17 rfl) F_end_a E_a (Or.inl (hwi hw 18 rfl)) (hwi hw 3 rfl) (ty := .int) (by decide) rfl rfl g_a d1_23 fun T h23_4 W S => ?_
  replace E_a := E_a.wr W
  replace F_channel_a := F_channel_a.other W (Or.inr (slot_ne (C := "com/example/awardsmith/awardsmith/spill/ByteReader") (Or.inr (hwi hw 12 rfl)) (Or.inl (hwi hw 18 rfl)) (by decide) (t := .object "java/nio/channels/FileChannel") (t' := .int) (by decide) (by decide)))
  replace F_bytes_a := F_bytes_a.other W (Or.inr (slot_ne (C := "com/example/awardsmith/awardsmith/spill/ByteReader") (Or.inr (hwi hw 14 rfl)) (Or.inl (hwi hw 18 rfl)) (by decide) (t := .array .byte) (t' := .int) (by decide) (by decide)))
  replace F_at_a := F_at_a.other W (Or.inr (slot_ne (C := "com/example/awardsmith/awardsmith/spill/ByteReader") (Or.inl (hwi hw 16 rfl)) (Or.inl (hwi hw 18 rfl)) (by decide) (t := .int) (t' := .int) (by decide) (by decide)))
  replace F_end_a := F_end_a.same W
  replace F_next_a := F_next_a.other W (Or.inr (slot_ne (C := "com/example/awardsmith/awardsmith/spill/ByteReader") (Or.inl (hwi hw 27 rfl)) (Or.inl (hwi hw 18 rfl)) (by decide) (t := .long) (t' := .int) (by decide) (by decide)))
  replace F_limit_a := F_limit_a.other W (Or.inr (slot_ne (C := "com/example/awardsmith/awardsmith/spill/ByteReader") (Or.inr (hwi hw 20 rfl)) (Or.inl (hwi hw 18 rfl)) (by decide) (t := .long) (t' := .int) (by decide) (by decide)))
  replace Kp := Kp.wr W (Or.inl (by simp))
  clear W
  refine aload_n K S rfl rfl d1_26 ?_
  refine lconst K S (X := (0 : Int64)) rfl d1_27 ?_
  refine putf K S (hwi hw 19 rfl) F_limit_a E_a (Or.inr ⟨(hwi hw 20 rfl), rfl, rfl⟩) (hwi hw 3 rfl) (ty := .long) (by decide) rfl rfl g_a d1_28 fun T h28_5 W S => ?_
  replace E_a := E_a.wr W
  replace F_channel_a := F_channel_a.other W (Or.inr (slot_ne (C := "com/example/awardsmith/awardsmith/spill/ByteReader") (Or.inr (hwi hw 12 rfl)) (Or.inr (hwi hw 20 rfl)) (by decide) (t := .object "java/nio/channels/FileChannel") (t' := .long) (by decide) (by decide)))
  replace F_bytes_a := F_bytes_a.other W (Or.inr (slot_ne (C := "com/example/awardsmith/awardsmith/spill/ByteReader") (Or.inr (hwi hw 14 rfl)) (Or.inr (hwi hw 20 rfl)) (by decide) (t := .array .byte) (t' := .long) (by decide) (by decide)))
  replace F_at_a := F_at_a.other W (Or.inr (slot_ne (C := "com/example/awardsmith/awardsmith/spill/ByteReader") (Or.inl (hwi hw 16 rfl)) (Or.inr (hwi hw 20 rfl)) (by decide) (t := .int) (t' := .long) (by decide) (by decide)))
  replace F_end_a := F_end_a.other W (Or.inr (slot_ne (C := "com/example/awardsmith/awardsmith/spill/ByteReader") (Or.inl (hwi hw 18 rfl)) (Or.inr (hwi hw 20 rfl)) (by decide) (t := .int) (t' := .long) (by decide) (by decide)))
  replace F_next_a := F_next_a.other W (Or.inr (slot_ne (C := "com/example/awardsmith/awardsmith/spill/ByteReader") (Or.inl (hwi hw 27 rfl)) (Or.inr (hwi hw 20 rfl)) (by decide) (t := .long) (t' := .long) (by decide) (by decide)))
  replace F_limit_a := F_limit_a.same W
  replace Kp := Kp.wr W (Or.inl (by simp))
  clear W
  refine retv K S (by decide) (by decide) d1_31 ?_
  exact ⟨rfl, ⟨E_a, F_channel_a, F_bytes_a, F_at_a, F_end_a, F_next_a, F_limit_a⟩, Kp⟩

theorem d3_0 : Dc prog_99_method_4_code 0 (.aload_n 0) 1 1 := ⟨by decide +kernel, rfl⟩
theorem d3_1 : Dc prog_99_method_4_code 1 (.getfield 17) 3 4 := ⟨by decide +kernel, rfl⟩
theorem d3_4 : Dc prog_99_method_4_code 4 (.aload_n 0) 1 5 := ⟨by decide +kernel, rfl⟩
theorem d3_5 : Dc prog_99_method_4_code 5 (.getfield 21) 3 8 := ⟨by decide +kernel, rfl⟩
theorem d3_8 : Bc prog_99_method_4_code 8 (.if_icmp .lt 15) (15) 11 23 := ⟨by decide +kernel, rfl, by decide, by decide⟩
theorem d3_11 : Dc prog_99_method_4_code 11 (.aload_n 0) 1 12 := ⟨by decide +kernel, rfl⟩
theorem d3_12 : Dc prog_99_method_4_code 12 (.getfield 31) 3 15 := ⟨by decide +kernel, rfl⟩
theorem d3_15 : Dc prog_99_method_4_code 15 (.aload_n 0) 1 16 := ⟨by decide +kernel, rfl⟩
theorem d3_16 : Dc prog_99_method_4_code 16 (.getfield 24) 3 19 := ⟨by decide +kernel, rfl⟩
theorem d3_19 : Dc prog_99_method_4_code 19 (.lcmp) 1 20 := ⟨by decide +kernel, rfl⟩
theorem d3_20 : Bc prog_99_method_4_code 20 (.ifCond .ge 7) (7) 23 27 := ⟨by decide +kernel, rfl, by decide, by decide⟩
theorem d3_23 : Dc prog_99_method_4_code 23 (.iconst 1) 1 24 := ⟨by decide +kernel, rfl⟩
theorem d3_24 : Bc prog_99_method_4_code 24 (.goto 4) (4) 27 28 := ⟨by decide +kernel, rfl, by decide, by decide⟩
theorem d3_27 : Dc prog_99_method_4_code 27 (.iconst 0) 1 28 := ⟨by decide +kernel, rfl⟩
theorem d3_28 : Dc prog_99_method_4_code 28 (.ireturn) 1 29 := ⟨by decide +kernel, rfl⟩
theorem ef_more (m : MethodId) (a : Addr) (b : Addr) (x : Int32) (y : Int32) : entryFrame m #[.ref a] 1 = mkF m 0 #[.val (.ref a)] [] := by first | (simp [entryFrame, mkF, argsToLocals, Value.category]; done) | rfl
set_option maxRecDepth 65536 in
set_option maxHeartbeats 40000000 in
theorem m_more (l : Launch) (Z : State) (a0 : Array Value) (hw : ∀ d ∈ tables_1, d.before a0 Z = true) (n0 : Nat) (a : Addr) (b : Addr) (x : Int32) (y : Int32) (h : Heap) (hn : n0 ≤ h.size) (H : BR Z h a b x y) : Met n0 l Z (⟨"com/example/awardsmith/awardsmith/spill/ByteReader", "hasMore", "()Z"⟩ : MethodName) prog_99_method_4_code 1 (some .boolean) ({ frames := 0, cells := 0, slots := 0, locals := 0 } : Room) [] #[.ref a] h (Pr (fun r => (r.toInt = 1 ∧ x.toInt < y.toInt) ∨ (r.toInt = 0 ∧ ¬ x.toInt < y.toInt)) h) := by
  refine enter (plainFor_of_name (by first | (simp [plainName, overriddenIn]; done) | decide +kernel)) (fun m => ef_more m a b x y) hn ?_
  intro p e s m below meth c T K S
  obtain ⟨E_a, F_channel_a, F_bytes_a, F_at_a, F_end_a, F_next_a, F_limit_a⟩ := H
  refine aload_n K S rfl rfl d3_0 ?_
  refine getf K S (hwi hw 15 rfl) F_at_a d3_1 fun T S => ?_
  refine aload_n K S rfl rfl d3_4 ?_
  refine getf K S (hwi hw 17 rfl) F_end_a d3_5 fun T S => ?_
  refine icmpz_lt K S d3_8 (fun (c8 : x.toInt < y.toInt) => ?_) (fun (c8 : ¬ x.toInt < y.toInt) => ?_)
  · refine iconst K S (x := (1 : Int32)) rfl d3_23 ?_
    refine goto K S d3_24 ?_
    refine retn K S (by simp) (y := (1 : Int32)) rfl (by decide) (by decide) d3_28 ?_
    exact ⟨_, rfl, by have z0 : (0 : Int32).toInt = 0 := rfl; have z1 : (1 : Int32).toInt = 1 := rfl; omega, rfl⟩
  refine aload_n K S rfl rfl d3_11 ?_
  refine getf K S (hwi hw 26 rfl) F_next_a d3_12 fun T S => ?_
  refine aload_n K S rfl rfl d3_15 ?_
  refine getf K S (hwi hw 19 rfl) F_limit_a d3_16 fun T S => ?_
  refine lcmpz_ge K S d3_19 d3_20 (fun (c20 : ¬ 0 < 0) => ?_) (fun (c20 : 0 < 0) => ?_)
  rotate_left
  · exact absurd c20 (by decide)
  refine iconst K S (x := (0 : Int32)) rfl d3_27 ?_
  refine retn K S (by simp) (y := (0 : Int32)) rfl (by decide) (by decide) d3_28 ?_
  exact ⟨_, rfl, by have z0 : (0 : Int32).toInt = 0 := rfl; have z1 : (1 : Int32).toInt = 1 := rfl; omega, rfl⟩

theorem d5_0 : Dc jdk_29_method_70_code 0 (.lload_n 0) 1 1 := ⟨by decide +kernel, rfl⟩
theorem d5_1 : Dc jdk_29_method_70_code 1 (.lload_n 2) 1 2 := ⟨by decide +kernel, rfl⟩
theorem d5_2 : Dc jdk_29_method_70_code 2 (.lcmp) 1 3 := ⟨by decide +kernel, rfl⟩
theorem d5_3 : Bc jdk_29_method_70_code 3 (.ifCond .gt 7) (7) 6 10 := ⟨by decide +kernel, rfl, by decide, by decide⟩
theorem d5_6 : Dc jdk_29_method_70_code 6 (.lload_n 0) 1 7 := ⟨by decide +kernel, rfl⟩
theorem d5_7 : Bc jdk_29_method_70_code 7 (.goto 4) (4) 10 11 := ⟨by decide +kernel, rfl, by decide, by decide⟩
theorem d5_10 : Dc jdk_29_method_70_code 10 (.lload_n 2) 1 11 := ⟨by decide +kernel, rfl⟩
theorem d5_11 : Dc jdk_29_method_70_code 11 (.lreturn) 1 12 := ⟨by decide +kernel, rfl⟩
theorem ef_min (m : MethodId) (X : Int64) (Y : Int64) : entryFrame m #[.long X, .long Y] 4 = mkF m 0 #[.val (.long X), .second, .val (.long Y), .second] [] := by first | (simp [entryFrame, mkF, argsToLocals, Value.category]; done) | rfl
set_option maxRecDepth 65536 in
set_option maxHeartbeats 40000000 in
theorem m_min (l : Launch) (Z : State) (a0 : Array Value) (hw : ∀ d ∈ tables_1, d.before a0 Z = true) (n0 : Nat) (X : Int64) (Y : Int64) (h : Heap) (hn : n0 ≤ h.size) : Met n0 l Z (⟨"java/lang/Math", "min", "(JJ)J"⟩ : MethodName) jdk_29_method_70_code 4 (some .long) ({ frames := 0, cells := 0, slots := 0, locals := 0 } : Room) [] #[.long X, .long Y] h (PrL (fun r => (Y.toInt < X.toInt → r.toInt = Y.toInt) ∧ (¬ Y.toInt < X.toInt → r.toInt = X.toInt)) h) := by
  refine enter (JP.mathPlain rfl (by decide)) (fun m => ef_min m X Y) hn ?_
  intro p e s m below meth c T K S
  refine lload_n K S rfl d5_0 ?_
  refine lload_n K S rfl d5_1 ?_
  refine lcmpz_gt K S d5_2 d5_3 (fun (c3 : Y.toInt < X.toInt) => ?_) (fun (c3 : ¬ Y.toInt < X.toInt) => ?_)
  · refine lload_n K S rfl d5_10 ?_
    refine retl K S (by decide) (by decide) d5_11 ?_
    exact ⟨_, rfl, by omega, rfl⟩
  refine lload_n K S rfl d5_6 ?_
  refine goto K S d5_7 ?_
  refine retl K S (by decide) (by decide) d5_11 ?_
  exact ⟨_, rfl, by omega, rfl⟩

theorem d4_0 : Dc prog_99_method_14_code 0 (.lload_n 1) 1 1 := ⟨by decide +kernel, rfl⟩
theorem d4_1 : Dc prog_99_method_14_code 1 (.aload_n 0) 1 2 := ⟨by decide +kernel, rfl⟩
theorem d4_2 : Dc prog_99_method_14_code 2 (.getfield 21) 3 5 := ⟨by decide +kernel, rfl⟩
theorem d4_5 : Dc prog_99_method_14_code 5 (.aload_n 0) 1 6 := ⟨by decide +kernel, rfl⟩
theorem d4_6 : Dc prog_99_method_14_code 6 (.getfield 17) 3 9 := ⟨by decide +kernel, rfl⟩
theorem d4_9 : Dc prog_99_method_14_code 9 (.isub) 1 10 := ⟨by decide +kernel, rfl⟩
theorem d4_10 : Dc prog_99_method_14_code 10 (.i2l) 1 11 := ⟨by decide +kernel, rfl⟩
theorem d4_11 : Dc prog_99_method_14_code 11 (.invokestatic 110) 3 14 := ⟨by decide +kernel, rfl⟩
theorem d4_14 : Dc prog_99_method_14_code 14 (.lstore_n 3) 1 15 := ⟨by decide +kernel, rfl⟩
theorem d4_15 : Dc prog_99_method_14_code 15 (.aload_n 0) 1 16 := ⟨by decide +kernel, rfl⟩
theorem d4_16 : Dc prog_99_method_14_code 16 (.dup) 1 17 := ⟨by decide +kernel, rfl⟩
theorem d4_17 : Dc prog_99_method_14_code 17 (.getfield 17) 3 20 := ⟨by decide +kernel, rfl⟩
theorem d4_20 : Dc prog_99_method_14_code 20 (.lload_n 3) 1 21 := ⟨by decide +kernel, rfl⟩
theorem d4_21 : Dc prog_99_method_14_code 21 (.l2i) 1 22 := ⟨by decide +kernel, rfl⟩
theorem d4_22 : Dc prog_99_method_14_code 22 (.iadd) 1 23 := ⟨by decide +kernel, rfl⟩
theorem d4_23 : Dc prog_99_method_14_code 23 (.putfield 17) 3 26 := ⟨by decide +kernel, rfl⟩
theorem d4_26 : Dc prog_99_method_14_code 26 (.lload_n 1) 1 27 := ⟨by decide +kernel, rfl⟩
theorem d4_27 : Dc prog_99_method_14_code 27 (.lload_n 3) 1 28 := ⟨by decide +kernel, rfl⟩
theorem d4_28 : Dc prog_99_method_14_code 28 (.lsub) 1 29 := ⟨by decide +kernel, rfl⟩
theorem d4_29 : Dc prog_99_method_14_code 29 (.lstore 5) 2 31 := ⟨by decide +kernel, rfl⟩
theorem d4_31 : Dc prog_99_method_14_code 31 (.lload 5) 2 33 := ⟨by decide +kernel, rfl⟩
theorem d4_33 : Dc prog_99_method_14_code 33 (.aload_n 0) 1 34 := ⟨by decide +kernel, rfl⟩
theorem d4_34 : Dc prog_99_method_14_code 34 (.getfield 24) 3 37 := ⟨by decide +kernel, rfl⟩
theorem d4_37 : Dc prog_99_method_14_code 37 (.aload_n 0) 1 38 := ⟨by decide +kernel, rfl⟩
theorem d4_38 : Dc prog_99_method_14_code 38 (.getfield 31) 3 41 := ⟨by decide +kernel, rfl⟩
theorem d4_41 : Dc prog_99_method_14_code 41 (.lsub) 1 42 := ⟨by decide +kernel, rfl⟩
theorem d4_42 : Dc prog_99_method_14_code 42 (.lcmp) 1 43 := ⟨by decide +kernel, rfl⟩
theorem d4_43 : Bc prog_99_method_14_code 43 (.ifCond .le 13) (13) 46 56 := ⟨by decide +kernel, rfl, by decide, by decide⟩
theorem d4_46 : Dc prog_99_method_14_code 46 (.new 113) 3 49 := ⟨by decide +kernel, rfl⟩
theorem d4_49 : Dc prog_99_method_14_code 49 (.dup) 1 50 := ⟨by decide +kernel, rfl⟩
theorem d4_50 : Dc prog_99_method_14_code 50 (.ldc 115) 2 52 := ⟨by decide +kernel, rfl⟩
theorem d4_52 : Dc prog_99_method_14_code 52 (.invokespecial 117) 3 55 := ⟨by decide +kernel, rfl⟩
theorem d4_55 : Dc prog_99_method_14_code 55 (.athrow) 1 56 := ⟨by decide +kernel, rfl⟩
theorem d4_56 : Dc prog_99_method_14_code 56 (.aload_n 0) 1 57 := ⟨by decide +kernel, rfl⟩
theorem d4_57 : Dc prog_99_method_14_code 57 (.dup) 1 58 := ⟨by decide +kernel, rfl⟩
theorem d4_58 : Dc prog_99_method_14_code 58 (.getfield 31) 3 61 := ⟨by decide +kernel, rfl⟩
theorem d4_61 : Dc prog_99_method_14_code 61 (.lload 5) 2 63 := ⟨by decide +kernel, rfl⟩
theorem d4_63 : Dc prog_99_method_14_code 63 (.ladd) 1 64 := ⟨by decide +kernel, rfl⟩
theorem d4_64 : Dc prog_99_method_14_code 64 (.putfield 31) 3 67 := ⟨by decide +kernel, rfl⟩
theorem d4_67 : Dc prog_99_method_14_code 67 (.return_) 1 68 := ⟨by decide +kernel, rfl⟩
theorem pd_5 : parseMethodDescriptor "(JJ)J" = some ⟨[.long, .long], (some .long)⟩ := by decide +kernel
theorem ef_skip (m : MethodId) (a : Addr) (b : Addr) (x : Int32) (y : Int32) (N : Int64) : entryFrame m #[.ref a, .long N] 7 = mkF m 0 #[.val (.ref a), .val (.long N), .second, .unset, .unset, .unset, .unset] [] := by first | (simp [entryFrame, mkF, argsToLocals, Value.category]; done) | rfl
set_option maxRecDepth 65536 in
set_option maxHeartbeats 40000000 in
theorem m_skip (l : Launch) (Z : State) (a0 : Array Value) (hw : ∀ d ∈ tables_1, d.before a0 Z = true) (n0 : Nat) (a : Addr) (b : Addr) (x : Int32) (y : Int32) (N : Int64) (h : Heap) (hn : n0 ≤ h.size) (g_a : n0 ≤ a) (H : BR Z h a b x y) (p0 : 0 ≤ N.toInt) (p1 : N.toInt ≤ y.toInt - x.toInt) (p2 : 0 ≤ x.toInt) : Met n0 l Z (⟨"com/example/awardsmith/awardsmith/spill/ByteReader", "skip", "(J)V"⟩ : MethodName) prog_99_method_14_code 7 none ({ frames := 1, cells := 0, slots := 0, locals := 15 } : Room) [] #[.ref a, .long N] h (Ef none (fun h' => ∃ x2 : Int32, x2.toInt = x.toInt + N.toInt ∧ BR Z h' a b x2 y ∧ Keep h h' [a])) := by
  refine enter (plainFor_of_name (by first | (simp [plainName, overriddenIn]; done) | decide +kernel)) (fun m => ef_skip m a b x y N) hn ?_
  intro p e s m below meth c T K S
  have Kp := Keep.refl h [a]
  obtain ⟨E_a, F_channel_a, F_bytes_a, F_at_a, F_end_a, F_next_a, F_limit_a⟩ := H
  have rx := rng32 x
  have ry := rng32 y
  refine lload_n K S rfl d4_0 ?_
  refine aload_n K S rfl rfl d4_1 ?_
  refine getf K S (hwi hw 17 rfl) F_end_a d4_2 fun T S => ?_
  refine aload_n K S rfl rfl d4_5 ?_
  refine getf K S (hwi hw 15 rfl) F_at_a d4_6 fun T S => ?_
  refine isub K S d4_9 ?_
  refine nmI fun t9 ht9 => ?_
  have ft9 : (t9.toInt - (y.toInt - x.toInt)) % 4294967296 = 0 := by rw [ht9]; exact c_isub y x
  have rt9 := rng32 t9
  refine i2l K S d4_10 ?_
  refine nmL fun t10 ht10 => ?_
  have ft10 : t10.toInt = t9.toInt := by rw [ht10]; exact c_i2l t9
  have rt10 := rng64 t10
  refine callS K S (W := 0) (m_min l Z a0 hw n0 N t10 h (Sle S) ) (hwi hw 33 rfl) (hwi hw 34 rfl) (hwi hw 36 rfl) (hwi hw 35 rfl) (by decide) (by decide) (by decide) (by decide) (by decide) rfl (argsL := [.long N, .long t10]) rfl (lenOf pd_5 rfl) (rest := []) rfl (Nat.le_of_eq rfl) d4_11 (prL fun T mi pmi S => ?_)
  have rmi := rng64 mi
  show Wp n0 p e _ s below _ T (mkF m 14 #[.val (.ref a), .val (.long N), .second, .unset, .unset, .unset, .unset] [.long mi])
  refine lstore_n K S (l' := #[.val (.ref a), .val (.long N), .second, .val (.long mi), .second, .unset, .unset]) rfl d4_14 ?_
  refine aload_n K S rfl rfl d4_15 ?_
  refine dup K S rfl d4_16 ?_
  refine getf K S (hwi hw 15 rfl) F_at_a d4_17 fun T S => ?_
  refine lload_n K S rfl d4_20 ?_
  refine l2i K S d4_21 ?_
  refine nmI fun t21 ht21 => ?_
  have ft21 : (t21.toInt - mi.toInt) % 4294967296 = 0 := by rw [ht21]; exact c_l2i mi
  have rt21 := rng32 t21
  refine iadd K S d4_22 ?_
  refine nmI fun t22 ht22 => ?_
  have ft22 : (t22.toInt - (x.toInt + t21.toInt)) % 4294967296 = 0 := by rw [ht22]; exact c_iadd x t21
  have rt22 := rng32 t22
  refine putf K S (hwi hw 15 rfl) F_at_a E_a (Or.inl (hwi hw 16 rfl)) (hwi hw 3 rfl) (ty := .int) (by decide) rfl rfl g_a d4_23 fun T h23_1 W S => ?_
  replace E_a := E_a.wr W
  replace F_channel_a := F_channel_a.other W (Or.inr (slot_ne (C := "com/example/awardsmith/awardsmith/spill/ByteReader") (Or.inr (hwi hw 12 rfl)) (Or.inl (hwi hw 16 rfl)) (by decide) (t := .object "java/nio/channels/FileChannel") (t' := .int) (by decide) (by decide)))
  replace F_bytes_a := F_bytes_a.other W (Or.inr (slot_ne (C := "com/example/awardsmith/awardsmith/spill/ByteReader") (Or.inr (hwi hw 14 rfl)) (Or.inl (hwi hw 16 rfl)) (by decide) (t := .array .byte) (t' := .int) (by decide) (by decide)))
  replace F_at_a := F_at_a.same W
  replace F_end_a := F_end_a.other W (Or.inr (slot_ne (C := "com/example/awardsmith/awardsmith/spill/ByteReader") (Or.inl (hwi hw 18 rfl)) (Or.inl (hwi hw 16 rfl)) (by decide) (t := .int) (t' := .int) (by decide) (by decide)))
  replace F_next_a := F_next_a.other W (Or.inr (slot_ne (C := "com/example/awardsmith/awardsmith/spill/ByteReader") (Or.inl (hwi hw 27 rfl)) (Or.inl (hwi hw 16 rfl)) (by decide) (t := .long) (t' := .int) (by decide) (by decide)))
  replace F_limit_a := F_limit_a.other W (Or.inr (slot_ne (C := "com/example/awardsmith/awardsmith/spill/ByteReader") (Or.inr (hwi hw 20 rfl)) (Or.inl (hwi hw 16 rfl)) (by decide) (t := .long) (t' := .int) (by decide) (by decide)))
  replace Kp := Kp.wr W (Or.inl (by simp))
  clear W
  refine lload_n K S rfl d4_26 ?_
  refine lload_n K S rfl d4_27 ?_
  refine lsub K S d4_28 ?_
  refine nmL fun t28 ht28 => ?_
  have ft28 : (t28.toInt - (N.toInt - mi.toInt)) % 18446744073709551616 = 0 := by rw [ht28]; exact c_lsub N mi
  have rt28 := rng64 t28
  refine lstore K S (l' := #[.val (.ref a), .val (.long N), .second, .val (.long mi), .second, .val (.long t28), .second]) rfl d4_29 ?_
  refine lload K S rfl d4_31 ?_
  refine aload_n K S rfl rfl d4_33 ?_
  refine getf K S (hwi hw 19 rfl) F_limit_a d4_34 fun T S => ?_
  refine aload_n K S rfl rfl d4_37 ?_
  refine getf K S (hwi hw 26 rfl) F_next_a d4_38 fun T S => ?_
  refine lsub K S d4_41 ?_
  refine nmL fun t41 ht41 => ?_
  have ft41 : (t41.toInt - (0 - 0)) % 18446744073709551616 = 0 := by rw [ht41]; exact c_lsub (0 : Int64) (0 : Int64)
  have rt41 := rng64 t41
  refine lcmpz_le K S d4_42 d4_43 (fun (c43 : ¬ t41.toInt < t28.toInt) => ?_) (fun (c43 : t41.toInt < t28.toInt) => ?_)
  rotate_left
  · exfalso; omega
  refine aload_n K S rfl rfl d4_56 ?_
  refine dup K S rfl d4_57 ?_
  refine getf K S (hwi hw 26 rfl) F_next_a d4_58 fun T S => ?_
  refine lload K S rfl d4_61 ?_
  refine ladd K S d4_63 ?_
  refine nmL fun t63 ht63 => ?_
  have ft63 : (t63.toInt - (0 + t28.toInt)) % 18446744073709551616 = 0 := by rw [ht63]; exact c_ladd (0 : Int64) t28
  have rt63 := rng64 t63
  refine putf K S (hwi hw 26 rfl) F_next_a E_a (Or.inl (hwi hw 27 rfl)) (hwi hw 3 rfl) (ty := .long) (by decide) rfl rfl g_a d4_64 fun T h64_2 W S => ?_
  replace E_a := E_a.wr W
  replace F_channel_a := F_channel_a.other W (Or.inr (slot_ne (C := "com/example/awardsmith/awardsmith/spill/ByteReader") (Or.inr (hwi hw 12 rfl)) (Or.inl (hwi hw 27 rfl)) (by decide) (t := .object "java/nio/channels/FileChannel") (t' := .long) (by decide) (by decide)))
  replace F_bytes_a := F_bytes_a.other W (Or.inr (slot_ne (C := "com/example/awardsmith/awardsmith/spill/ByteReader") (Or.inr (hwi hw 14 rfl)) (Or.inl (hwi hw 27 rfl)) (by decide) (t := .array .byte) (t' := .long) (by decide) (by decide)))
  replace F_at_a := F_at_a.other W (Or.inr (slot_ne (C := "com/example/awardsmith/awardsmith/spill/ByteReader") (Or.inl (hwi hw 16 rfl)) (Or.inl (hwi hw 27 rfl)) (by decide) (t := .int) (t' := .long) (by decide) (by decide)))
  replace F_end_a := F_end_a.other W (Or.inr (slot_ne (C := "com/example/awardsmith/awardsmith/spill/ByteReader") (Or.inl (hwi hw 18 rfl)) (Or.inl (hwi hw 27 rfl)) (by decide) (t := .int) (t' := .long) (by decide) (by decide)))
  replace F_next_a := F_next_a.same W
  replace F_limit_a := F_limit_a.other W (Or.inr (slot_ne (C := "com/example/awardsmith/awardsmith/spill/ByteReader") (Or.inr (hwi hw 20 rfl)) (Or.inl (hwi hw 27 rfl)) (by decide) (t := .long) (t' := .long) (by decide) (by decide)))
  replace Kp := Kp.wr W (Or.inl (by simp))
  clear W
  refine retv K S (by decide) (by decide) d4_67 ?_
  have e : t63 = 0 := own_eqZ (show t63.toInt = 0 by omega)
  rw [e] at F_next_a
  exact ⟨rfl, _, by omega, ⟨E_a, F_channel_a, F_bytes_a, F_at_a, F_end_a, F_next_a, F_limit_a⟩, Kp⟩

theorem d7_0 : Dc prog_99_method_16_code 0 (.aload_n 0) 1 1 := ⟨by decide +kernel, rfl⟩
theorem d7_1 : Dc prog_99_method_16_code 1 (.getfield 21) 3 4 := ⟨by decide +kernel, rfl⟩
theorem d7_4 : Dc prog_99_method_16_code 4 (.aload_n 0) 1 5 := ⟨by decide +kernel, rfl⟩
theorem d7_5 : Dc prog_99_method_16_code 5 (.getfield 17) 3 8 := ⟨by decide +kernel, rfl⟩
theorem d7_8 : Dc prog_99_method_16_code 8 (.isub) 1 9 := ⟨by decide +kernel, rfl⟩
theorem d7_9 : Dc prog_99_method_16_code 9 (.iload_n 1) 1 10 := ⟨by decide +kernel, rfl⟩
theorem d7_10 : Bc prog_99_method_16_code 10 (.if_icmp .lt 4) (4) 13 14 := ⟨by decide +kernel, rfl, by decide, by decide⟩
theorem d7_13 : Dc prog_99_method_16_code 13 (.return_) 1 14 := ⟨by decide +kernel, rfl⟩
theorem d7_14 : Dc prog_99_method_16_code 14 (.aload_n 0) 1 15 := ⟨by decide +kernel, rfl⟩
theorem d7_15 : Dc prog_99_method_16_code 15 (.getfield 7) 3 18 := ⟨by decide +kernel, rfl⟩
theorem d7_18 : Bc prog_99_method_16_code 18 (.ifnull 29) (29) 21 47 := ⟨by decide +kernel, rfl, by decide, by decide⟩
theorem d7_21 : Dc prog_99_method_16_code 21 (.aload_n 0) 1 22 := ⟨by decide +kernel, rfl⟩
theorem d7_22 : Dc prog_99_method_16_code 22 (.getfield 21) 3 25 := ⟨by decide +kernel, rfl⟩
theorem d7_25 : Dc prog_99_method_16_code 25 (.aload_n 0) 1 26 := ⟨by decide +kernel, rfl⟩
theorem d7_26 : Dc prog_99_method_16_code 26 (.getfield 17) 3 29 := ⟨by decide +kernel, rfl⟩
theorem d7_29 : Dc prog_99_method_16_code 29 (.isub) 1 30 := ⟨by decide +kernel, rfl⟩
theorem d7_30 : Dc prog_99_method_16_code 30 (.i2l) 1 31 := ⟨by decide +kernel, rfl⟩
theorem d7_31 : Dc prog_99_method_16_code 31 (.aload_n 0) 1 32 := ⟨by decide +kernel, rfl⟩
theorem d7_32 : Dc prog_99_method_16_code 32 (.getfield 24) 3 35 := ⟨by decide +kernel, rfl⟩
theorem d7_35 : Dc prog_99_method_16_code 35 (.aload_n 0) 1 36 := ⟨by decide +kernel, rfl⟩
theorem d7_36 : Dc prog_99_method_16_code 36 (.getfield 31) 3 39 := ⟨by decide +kernel, rfl⟩
theorem d7_39 : Dc prog_99_method_16_code 39 (.lsub) 1 40 := ⟨by decide +kernel, rfl⟩
theorem d7_40 : Dc prog_99_method_16_code 40 (.ladd) 1 41 := ⟨by decide +kernel, rfl⟩
theorem d7_41 : Dc prog_99_method_16_code 41 (.iload_n 1) 1 42 := ⟨by decide +kernel, rfl⟩
theorem d7_42 : Dc prog_99_method_16_code 42 (.i2l) 1 43 := ⟨by decide +kernel, rfl⟩
theorem d7_43 : Dc prog_99_method_16_code 43 (.lcmp) 1 44 := ⟨by decide +kernel, rfl⟩
theorem d7_44 : Bc prog_99_method_16_code 44 (.ifCond .ge 13) (13) 47 57 := ⟨by decide +kernel, rfl, by decide, by decide⟩
theorem d7_47 : Dc prog_99_method_16_code 47 (.new 113) 3 50 := ⟨by decide +kernel, rfl⟩
theorem d7_50 : Dc prog_99_method_16_code 50 (.dup) 1 51 := ⟨by decide +kernel, rfl⟩
theorem d7_51 : Dc prog_99_method_16_code 51 (.ldc 120) 2 53 := ⟨by decide +kernel, rfl⟩
theorem d7_53 : Dc prog_99_method_16_code 53 (.invokespecial 117) 3 56 := ⟨by decide +kernel, rfl⟩
theorem d7_56 : Dc prog_99_method_16_code 56 (.athrow) 1 57 := ⟨by decide +kernel, rfl⟩
theorem d7_57 : Dc prog_99_method_16_code 57 (.aload_n 0) 1 58 := ⟨by decide +kernel, rfl⟩
theorem d7_58 : Dc prog_99_method_16_code 58 (.getfield 13) 3 61 := ⟨by decide +kernel, rfl⟩
theorem d7_61 : Dc prog_99_method_16_code 61 (.aload_n 0) 1 62 := ⟨by decide +kernel, rfl⟩
theorem d7_62 : Dc prog_99_method_16_code 62 (.getfield 17) 3 65 := ⟨by decide +kernel, rfl⟩
theorem d7_65 : Dc prog_99_method_16_code 65 (.aload_n 0) 1 66 := ⟨by decide +kernel, rfl⟩
theorem d7_66 : Dc prog_99_method_16_code 66 (.getfield 13) 3 69 := ⟨by decide +kernel, rfl⟩
theorem d7_69 : Dc prog_99_method_16_code 69 (.iconst 0) 1 70 := ⟨by decide +kernel, rfl⟩
theorem d7_70 : Dc prog_99_method_16_code 70 (.aload_n 0) 1 71 := ⟨by decide +kernel, rfl⟩
theorem d7_71 : Dc prog_99_method_16_code 71 (.getfield 21) 3 74 := ⟨by decide +kernel, rfl⟩
theorem d7_74 : Dc prog_99_method_16_code 74 (.aload_n 0) 1 75 := ⟨by decide +kernel, rfl⟩
theorem d7_75 : Dc prog_99_method_16_code 75 (.getfield 17) 3 78 := ⟨by decide +kernel, rfl⟩
theorem d7_78 : Dc prog_99_method_16_code 78 (.isub) 1 79 := ⟨by decide +kernel, rfl⟩
theorem d7_79 : Dc prog_99_method_16_code 79 (.invokestatic 69) 3 82 := ⟨by decide +kernel, rfl⟩
theorem d7_82 : Dc prog_99_method_16_code 82 (.aload_n 0) 1 83 := ⟨by decide +kernel, rfl⟩
theorem d7_83 : Dc prog_99_method_16_code 83 (.dup) 1 84 := ⟨by decide +kernel, rfl⟩
theorem d7_84 : Dc prog_99_method_16_code 84 (.getfield 21) 3 87 := ⟨by decide +kernel, rfl⟩
theorem d7_87 : Dc prog_99_method_16_code 87 (.aload_n 0) 1 88 := ⟨by decide +kernel, rfl⟩
theorem d7_88 : Dc prog_99_method_16_code 88 (.getfield 17) 3 91 := ⟨by decide +kernel, rfl⟩
theorem d7_91 : Dc prog_99_method_16_code 91 (.isub) 1 92 := ⟨by decide +kernel, rfl⟩
theorem d7_92 : Dc prog_99_method_16_code 92 (.putfield 21) 3 95 := ⟨by decide +kernel, rfl⟩
theorem d7_95 : Dc prog_99_method_16_code 95 (.aload_n 0) 1 96 := ⟨by decide +kernel, rfl⟩
theorem d7_96 : Dc prog_99_method_16_code 96 (.iconst 0) 1 97 := ⟨by decide +kernel, rfl⟩
theorem d7_97 : Dc prog_99_method_16_code 97 (.putfield 17) 3 100 := ⟨by decide +kernel, rfl⟩
theorem d7_100 : Dc prog_99_method_16_code 100 (.aload_n 0) 1 101 := ⟨by decide +kernel, rfl⟩
theorem d7_101 : Dc prog_99_method_16_code 101 (.getfield 13) 3 104 := ⟨by decide +kernel, rfl⟩
theorem d7_104 : Dc prog_99_method_16_code 104 (.aload_n 0) 1 105 := ⟨by decide +kernel, rfl⟩
theorem d7_105 : Dc prog_99_method_16_code 105 (.getfield 21) 3 108 := ⟨by decide +kernel, rfl⟩
theorem d7_108 : Dc prog_99_method_16_code 108 (.aload_n 0) 1 109 := ⟨by decide +kernel, rfl⟩
theorem d7_109 : Dc prog_99_method_16_code 109 (.getfield 13) 3 112 := ⟨by decide +kernel, rfl⟩
theorem d7_112 : Dc prog_99_method_16_code 112 (.arraylength) 1 113 := ⟨by decide +kernel, rfl⟩
theorem d7_113 : Dc prog_99_method_16_code 113 (.aload_n 0) 1 114 := ⟨by decide +kernel, rfl⟩
theorem d7_114 : Dc prog_99_method_16_code 114 (.getfield 21) 3 117 := ⟨by decide +kernel, rfl⟩
theorem d7_117 : Dc prog_99_method_16_code 117 (.isub) 1 118 := ⟨by decide +kernel, rfl⟩
theorem d7_118 : Dc prog_99_method_16_code 118 (.i2l) 1 119 := ⟨by decide +kernel, rfl⟩
theorem d7_119 : Dc prog_99_method_16_code 119 (.aload_n 0) 1 120 := ⟨by decide +kernel, rfl⟩
theorem d7_120 : Dc prog_99_method_16_code 120 (.getfield 24) 3 123 := ⟨by decide +kernel, rfl⟩
theorem d7_123 : Dc prog_99_method_16_code 123 (.aload_n 0) 1 124 := ⟨by decide +kernel, rfl⟩
theorem d7_124 : Dc prog_99_method_16_code 124 (.getfield 31) 3 127 := ⟨by decide +kernel, rfl⟩
theorem d7_127 : Dc prog_99_method_16_code 127 (.lsub) 1 128 := ⟨by decide +kernel, rfl⟩
theorem d7_128 : Dc prog_99_method_16_code 128 (.invokestatic 110) 3 131 := ⟨by decide +kernel, rfl⟩
theorem d7_131 : Dc prog_99_method_16_code 131 (.l2i) 1 132 := ⟨by decide +kernel, rfl⟩
theorem d7_132 : Dc prog_99_method_16_code 132 (.invokestatic 122) 3 135 := ⟨by decide +kernel, rfl⟩
theorem d7_135 : Dc prog_99_method_16_code 135 (.astore_n 2) 1 136 := ⟨by decide +kernel, rfl⟩
theorem d7_136 : Dc prog_99_method_16_code 136 (.aload_n 0) 1 137 := ⟨by decide +kernel, rfl⟩
theorem d7_137 : Dc prog_99_method_16_code 137 (.getfield 21) 3 140 := ⟨by decide +kernel, rfl⟩
theorem d7_140 : Dc prog_99_method_16_code 140 (.aload_n 0) 1 141 := ⟨by decide +kernel, rfl⟩
theorem d7_141 : Dc prog_99_method_16_code 141 (.getfield 17) 3 144 := ⟨by decide +kernel, rfl⟩
theorem d7_144 : Dc prog_99_method_16_code 144 (.isub) 1 145 := ⟨by decide +kernel, rfl⟩
theorem d7_145 : Dc prog_99_method_16_code 145 (.iload_n 1) 1 146 := ⟨by decide +kernel, rfl⟩
theorem d7_146 : Bc prog_99_method_16_code 146 (.if_icmp .ge 54) (54) 149 200 := ⟨by decide +kernel, rfl, by decide, by decide⟩
theorem d7_149 : Dc prog_99_method_16_code 149 (.aload_n 0) 1 150 := ⟨by decide +kernel, rfl⟩
theorem d7_150 : Dc prog_99_method_16_code 150 (.getfield 7) 3 153 := ⟨by decide +kernel, rfl⟩
theorem d7_153 : Dc prog_99_method_16_code 153 (.aload_n 2) 1 154 := ⟨by decide +kernel, rfl⟩
theorem d7_154 : Dc prog_99_method_16_code 154 (.aload_n 0) 1 155 := ⟨by decide +kernel, rfl⟩
theorem d7_155 : Dc prog_99_method_16_code 155 (.getfield 31) 3 158 := ⟨by decide +kernel, rfl⟩
theorem d7_158 : Dc prog_99_method_16_code 158 (.invokevirtual 128) 3 161 := ⟨by decide +kernel, rfl⟩
theorem d7_161 : Dc prog_99_method_16_code 161 (.istore_n 3) 1 162 := ⟨by decide +kernel, rfl⟩
theorem d7_162 : Dc prog_99_method_16_code 162 (.iload_n 3) 1 163 := ⟨by decide +kernel, rfl⟩
theorem d7_163 : Bc prog_99_method_16_code 163 (.ifCond .ge 13) (13) 166 176 := ⟨by decide +kernel, rfl, by decide, by decide⟩
theorem d7_166 : Dc prog_99_method_16_code 166 (.new 113) 3 169 := ⟨by decide +kernel, rfl⟩
theorem d7_169 : Dc prog_99_method_16_code 169 (.dup) 1 170 := ⟨by decide +kernel, rfl⟩
theorem d7_170 : Dc prog_99_method_16_code 170 (.ldc 134) 2 172 := ⟨by decide +kernel, rfl⟩
theorem d7_172 : Dc prog_99_method_16_code 172 (.invokespecial 117) 3 175 := ⟨by decide +kernel, rfl⟩
theorem d7_175 : Dc prog_99_method_16_code 175 (.athrow) 1 176 := ⟨by decide +kernel, rfl⟩
theorem d7_176 : Dc prog_99_method_16_code 176 (.aload_n 0) 1 177 := ⟨by decide +kernel, rfl⟩
theorem d7_177 : Dc prog_99_method_16_code 177 (.dup) 1 178 := ⟨by decide +kernel, rfl⟩
theorem d7_178 : Dc prog_99_method_16_code 178 (.getfield 31) 3 181 := ⟨by decide +kernel, rfl⟩
theorem d7_181 : Dc prog_99_method_16_code 181 (.iload_n 3) 1 182 := ⟨by decide +kernel, rfl⟩
theorem d7_182 : Dc prog_99_method_16_code 182 (.i2l) 1 183 := ⟨by decide +kernel, rfl⟩
theorem d7_183 : Dc prog_99_method_16_code 183 (.ladd) 1 184 := ⟨by decide +kernel, rfl⟩
theorem d7_184 : Dc prog_99_method_16_code 184 (.putfield 31) 3 187 := ⟨by decide +kernel, rfl⟩
theorem d7_187 : Dc prog_99_method_16_code 187 (.aload_n 0) 1 188 := ⟨by decide +kernel, rfl⟩
theorem d7_188 : Dc prog_99_method_16_code 188 (.dup) 1 189 := ⟨by decide +kernel, rfl⟩
theorem d7_189 : Dc prog_99_method_16_code 189 (.getfield 21) 3 192 := ⟨by decide +kernel, rfl⟩
theorem d7_192 : Dc prog_99_method_16_code 192 (.iload_n 3) 1 193 := ⟨by decide +kernel, rfl⟩
theorem d7_193 : Dc prog_99_method_16_code 193 (.iadd) 1 194 := ⟨by decide +kernel, rfl⟩
theorem d7_194 : Dc prog_99_method_16_code 194 (.putfield 21) 3 197 := ⟨by decide +kernel, rfl⟩
theorem d7_197 : Bc prog_99_method_16_code 197 (.goto (-61)) (-61) 200 136 := ⟨by decide +kernel, rfl, by decide, by decide⟩
theorem d7_200 : Dc prog_99_method_16_code 200 (.return_) 1 201 := ⟨by decide +kernel, rfl⟩
theorem ef_need (m : MethodId) (a : Addr) (b : Addr) (x : Int32) (y : Int32) : entryFrame m #[.ref a, .int (1 : Int32)] 4 = mkF m 0 #[.val (.ref a), .val (.int (1 : Int32)), .unset, .unset] [] := by first | (simp [entryFrame, mkF, argsToLocals, Value.category]; done) | rfl
set_option maxRecDepth 65536 in
set_option maxHeartbeats 40000000 in
theorem m_need (l : Launch) (Z : State) (a0 : Array Value) (hw : ∀ d ∈ tables_1, d.before a0 Z = true) (n0 : Nat) (a : Addr) (b : Addr) (x : Int32) (y : Int32) (h : Heap) (hn : n0 ≤ h.size) (H : BR Z h a b x y) (p0 : x.toInt < y.toInt) (p1 : 0 ≤ x.toInt) : Met n0 l Z (⟨"com/example/awardsmith/awardsmith/spill/ByteReader", "need", "(I)V"⟩ : MethodName) prog_99_method_16_code 4 none ({ frames := 0, cells := 0, slots := 0, locals := 0 } : Room) [] #[.ref a, .int (1 : Int32)] h (Pu none h) := by
  refine enter (plainFor_of_name (by first | (simp [plainName, overriddenIn]; done) | decide +kernel)) (fun m => ef_need m a b x y) hn ?_
  intro p e s m below meth c T K S
  obtain ⟨E_a, F_channel_a, F_bytes_a, F_at_a, F_end_a, F_next_a, F_limit_a⟩ := H
  have rx := rng32 x
  have ry := rng32 y
  refine aload_n K S rfl rfl d7_0 ?_
  refine getf K S (hwi hw 17 rfl) F_end_a d7_1 fun T S => ?_
  refine aload_n K S rfl rfl d7_4 ?_
  refine getf K S (hwi hw 15 rfl) F_at_a d7_5 fun T S => ?_
  refine isub K S d7_8 ?_
  refine nmI fun t8 ht8 => ?_
  have ft8 : (t8.toInt - (y.toInt - x.toInt)) % 4294967296 = 0 := by rw [ht8]; exact c_isub y x
  have rt8 := rng32 t8
  refine iload_n K S rfl d7_9 ?_
  refine icmpz_lt K S d7_10 (fun (c10 : t8.toInt < 1) => ?_) (fun (c10 : ¬ t8.toInt < 1) => ?_)
  · exfalso; omega
  refine retv K S (by decide) (by decide) d7_13 ?_
  exact ⟨rfl, rfl⟩

theorem d6_0 : Dc prog_99_method_10_code 0 (.aload_n 0) 1 1 := ⟨by decide +kernel, rfl⟩
theorem d6_1 : Dc prog_99_method_10_code 1 (.iconst 1) 1 2 := ⟨by decide +kernel, rfl⟩
theorem d6_2 : Dc prog_99_method_10_code 2 (.invokevirtual 49) 3 5 := ⟨by decide +kernel, rfl⟩
theorem d6_5 : Dc prog_99_method_10_code 5 (.aload_n 0) 1 6 := ⟨by decide +kernel, rfl⟩
theorem d6_6 : Dc prog_99_method_10_code 6 (.getfield 13) 3 9 := ⟨by decide +kernel, rfl⟩
theorem d6_9 : Dc prog_99_method_10_code 9 (.aload_n 0) 1 10 := ⟨by decide +kernel, rfl⟩
theorem d6_10 : Dc prog_99_method_10_code 10 (.dup) 1 11 := ⟨by decide +kernel, rfl⟩
theorem d6_11 : Dc prog_99_method_10_code 11 (.getfield 17) 3 14 := ⟨by decide +kernel, rfl⟩
theorem d6_14 : Dc prog_99_method_10_code 14 (.dup_x1) 1 15 := ⟨by decide +kernel, rfl⟩
theorem d6_15 : Dc prog_99_method_10_code 15 (.iconst 1) 1 16 := ⟨by decide +kernel, rfl⟩
theorem d6_16 : Dc prog_99_method_10_code 16 (.iadd) 1 17 := ⟨by decide +kernel, rfl⟩
theorem d6_17 : Dc prog_99_method_10_code 17 (.putfield 17) 3 20 := ⟨by decide +kernel, rfl⟩
theorem d6_20 : Dc prog_99_method_10_code 20 (.baload) 1 21 := ⟨by decide +kernel, rfl⟩
theorem d6_21 : Bc prog_99_method_10_code 21 (.ifCond .eq 7) (7) 24 28 := ⟨by decide +kernel, rfl, by decide, by decide⟩
theorem d6_24 : Dc prog_99_method_10_code 24 (.iconst 1) 1 25 := ⟨by decide +kernel, rfl⟩
theorem d6_25 : Bc prog_99_method_10_code 25 (.goto 4) (4) 28 29 := ⟨by decide +kernel, rfl, by decide, by decide⟩
theorem d6_28 : Dc prog_99_method_10_code 28 (.iconst 0) 1 29 := ⟨by decide +kernel, rfl⟩
theorem d6_29 : Dc prog_99_method_10_code 29 (.ireturn) 1 30 := ⟨by decide +kernel, rfl⟩
theorem pd_7 : parseMethodDescriptor "(I)V" = some ⟨[.int], none⟩ := by decide +kernel
theorem ef_rb (m : MethodId) (a : Addr) (b : Addr) (x : Int32) (y : Int32) (N : Nat) : entryFrame m #[.ref a] 1 = mkF m 0 #[.val (.ref a)] [] := by first | (simp [entryFrame, mkF, argsToLocals, Value.category]; done) | rfl
set_option maxRecDepth 65536 in
set_option maxHeartbeats 40000000 in
theorem m_rb (l : Launch) (Z : State) (a0 : Array Value) (hw : ∀ d ∈ tables_1, d.before a0 Z = true) (n0 : Nat) (a : Addr) (b : Addr) (x : Int32) (y : Int32) (N : Nat) (h : Heap) (hn : n0 ≤ h.size) (g_a : n0 ≤ a) (H : BR Z h a b x y) (p0 : x.toInt < y.toInt) (p1 : 0 ≤ x.toInt) (A_b : VA Z h b .byte (List.replicate N (.int 0))) (p2 : x.toInt.toNat < N) (n_a_b : a ≠ b) : Met n0 l Z (⟨"com/example/awardsmith/awardsmith/spill/ByteReader", "readBoolean", "()Z"⟩ : MethodName) prog_99_method_10_code 1 (some .boolean) ({ frames := 1, cells := 0, slots := 0, locals := 15 } : Room) [] #[.ref a] h (Er (fun r h' => ∃ x2 : Int32, x2.toInt = x.toInt + 1 ∧ BR Z h' a b x2 y ∧ Keep h h' [a])) := by
  refine enter (plainFor_of_name (by first | (simp [plainName, overriddenIn]; done) | decide +kernel)) (fun m => ef_rb m a b x y N) hn ?_
  intro p e s m below meth c T K S
  have Kp := Keep.refl h [a]
  have H0 := H
  obtain ⟨E_a, F_channel_a, F_bytes_a, F_at_a, F_end_a, F_next_a, F_limit_a⟩ := H
  have rx := rng32 x
  have ry := rng32 y
  refine aload_n K S rfl rfl d6_0 ?_
  refine iconst K S (x := (1 : Int32)) rfl d6_1 ?_
  refine callP K S (W := 0) (m_need l Z a0 hw n0 a b x y h (Sle S) H0 p0 p1) E_a (y2 := ⟨"com/example/awardsmith/awardsmith/spill/ByteReader", "hasMore", "()Z"⟩) rfl (hwi hw 42 rfl) (hwi hw 44 rfl) (hwi hw 24 rfl) (hwi hw 43 rfl) (hwi hw 45 rfl) (hwi hw 4 rfl) (by decide) (by decide) (by decide) (by decide) (by decide) rfl (argsL := [.int (1 : Int32)]) rfl (lenOf pd_7 rfl) (rest := []) rfl (Nat.le_of_eq rfl) d6_2 (pu fun T S => ?_)
  show Wp n0 p e _ s below _ T (mkF m 5 #[.val (.ref a)] [])
  refine aload_n K S rfl rfl d6_5 ?_
  refine getf K S (hwi hw 13 rfl) F_bytes_a d6_6 fun T S => ?_
  refine aload_n K S rfl rfl d6_9 ?_
  refine dup K S rfl d6_10 ?_
  refine getf K S (hwi hw 15 rfl) F_at_a d6_11 fun T S => ?_
  refine dup_x1 K S rfl rfl d6_14 ?_
  refine iconst K S (x := (1 : Int32)) rfl d6_15 ?_
  refine iadd K S d6_16 ?_
  refine nmI fun t16 ht16 => ?_
  have ft16 : (t16.toInt - (x.toInt + 1)) % 4294967296 = 0 := by rw [ht16]; exact c_iadd x (1 : Int32)
  have rt16 := rng32 t16
  refine putf K S (hwi hw 15 rfl) F_at_a E_a (Or.inl (hwi hw 16 rfl)) (hwi hw 3 rfl) (ty := .int) (by decide) rfl rfl g_a d6_17 fun T h17_1 W S => ?_
  replace E_a := E_a.wr W
  replace F_channel_a := F_channel_a.other W (Or.inr (slot_ne (C := "com/example/awardsmith/awardsmith/spill/ByteReader") (Or.inr (hwi hw 12 rfl)) (Or.inl (hwi hw 16 rfl)) (by decide) (t := .object "java/nio/channels/FileChannel") (t' := .int) (by decide) (by decide)))
  replace F_bytes_a := F_bytes_a.other W (Or.inr (slot_ne (C := "com/example/awardsmith/awardsmith/spill/ByteReader") (Or.inr (hwi hw 14 rfl)) (Or.inl (hwi hw 16 rfl)) (by decide) (t := .array .byte) (t' := .int) (by decide) (by decide)))
  replace F_at_a := F_at_a.same W
  replace F_end_a := F_end_a.other W (Or.inr (slot_ne (C := "com/example/awardsmith/awardsmith/spill/ByteReader") (Or.inl (hwi hw 18 rfl)) (Or.inl (hwi hw 16 rfl)) (by decide) (t := .int) (t' := .int) (by decide) (by decide)))
  replace F_next_a := F_next_a.other W (Or.inr (slot_ne (C := "com/example/awardsmith/awardsmith/spill/ByteReader") (Or.inl (hwi hw 27 rfl)) (Or.inl (hwi hw 16 rfl)) (by decide) (t := .long) (t' := .int) (by decide) (by decide)))
  replace F_limit_a := F_limit_a.other W (Or.inr (slot_ne (C := "com/example/awardsmith/awardsmith/spill/ByteReader") (Or.inr (hwi hw 20 rfl)) (Or.inl (hwi hw 16 rfl)) (by decide) (t := .long) (t' := .int) (by decide) (by decide)))
  replace A_b := A_b.other W (by first | exact n_b_a | exact Ne.symm n_a_b | omega)
  replace Kp := Kp.wr W (Or.inl (by simp))
  clear W
  refine baload K S (v := .int (0 : Int32)) (i := x.toInt.toNat) A_b (own_ix p1) (by rw [List.getElem?_replicate]; simp only [p2, if_true]) d6_20 ?_
  refine ificz_eq K S d6_21 (fun (c21 : 0 = 0) => ?_) (fun (c21 : ¬ 0 = 0) => ?_)
  rotate_left
  · exact absurd c21 (by decide)
  refine iconst K S (x := (0 : Int32)) rfl d6_28 ?_
  refine retn K S (by simp) (y := (0 : Int32)) rfl (by decide) (by decide) d6_29 ?_
  exact ⟨_, rfl, _, by omega, ⟨E_a, F_channel_a, F_bytes_a, F_at_a, F_end_a, F_next_a, F_limit_a⟩, Kp⟩

theorem d0_0 : Dc code 0 (.iload_n 0) 1 1 := ⟨at_0, rfl⟩
theorem d0_1 : Dc code 1 (.bipush 7) 2 3 := ⟨at_1, rfl⟩
theorem d0_3 : Dc code 3 (.iand) 1 4 := ⟨at_3, rfl⟩
theorem d0_4 : Dc code 4 (.istore 4) 2 6 := ⟨at_4, rfl⟩
theorem d0_6 : Dc code 6 (.iload 4) 2 8 := ⟨at_6, rfl⟩
theorem d0_8 : Dc code 8 (.newarray .byte) 2 10 := ⟨at_8, rfl⟩
theorem d0_10 : Dc code 10 (.astore 5) 2 12 := ⟨at_10, rfl⟩
theorem d0_12 : Dc code 12 (.iload_n 1) 1 13 := ⟨at_12, rfl⟩
theorem d0_13 : Dc code 13 (.ldc 7) 2 15 := ⟨at_13, rfl⟩
theorem d0_15 : Dc code 15 (.iand) 1 16 := ⟨at_15, rfl⟩
theorem d0_16 : Dc code 16 (.iload 4) 2 18 := ⟨at_16, rfl⟩
theorem d0_18 : Dc code 18 (.iconst 1) 1 19 := ⟨at_18, rfl⟩
theorem d0_19 : Dc code 19 (.iadd) 1 20 := ⟨at_19, rfl⟩
theorem d0_20 : Dc code 20 (.irem) 1 21 := ⟨at_20, rfl⟩
theorem d0_21 : Dc code 21 (.istore 6) 2 23 := ⟨at_21, rfl⟩
theorem d0_23 : Dc code 23 (.iload_n 2) 1 24 := ⟨at_23, rfl⟩
theorem d0_24 : Dc code 24 (.ldc 7) 2 26 := ⟨at_24, rfl⟩
theorem d0_26 : Dc code 26 (.iand) 1 27 := ⟨at_26, rfl⟩
theorem d0_27 : Dc code 27 (.iload 4) 2 29 := ⟨at_27, rfl⟩
theorem d0_29 : Dc code 29 (.iload 6) 2 31 := ⟨at_29, rfl⟩
theorem d0_31 : Dc code 31 (.isub) 1 32 := ⟨at_31, rfl⟩
theorem d0_32 : Dc code 32 (.iconst 1) 1 33 := ⟨at_32, rfl⟩
theorem d0_33 : Dc code 33 (.iadd) 1 34 := ⟨at_33, rfl⟩
theorem d0_34 : Dc code 34 (.irem) 1 35 := ⟨at_34, rfl⟩
theorem d0_35 : Dc code 35 (.istore 7) 2 37 := ⟨at_35, rfl⟩
theorem d0_37 : Dc code 37 (.new 8) 3 40 := ⟨at_37, rfl⟩
theorem d0_40 : Dc code 40 (.dup) 1 41 := ⟨at_40, rfl⟩
theorem d0_41 : Dc code 41 (.aload 5) 2 43 := ⟨at_41, rfl⟩
theorem d0_43 : Dc code 43 (.iload 6) 2 45 := ⟨at_43, rfl⟩
theorem d0_45 : Dc code 45 (.iload 7) 2 47 := ⟨at_45, rfl⟩
theorem d0_47 : Dc code 47 (.invokespecial 10) 3 50 := ⟨at_47, rfl⟩
theorem d0_50 : Dc code 50 (.astore 8) 2 52 := ⟨at_50, rfl⟩
theorem d0_52 : Dc code 52 (.aload 8) 2 54 := ⟨at_52, rfl⟩
theorem d0_54 : Dc code 54 (.invokevirtual 13) 3 57 := ⟨at_54, rfl⟩
theorem d0_57 : Dc code 57 (.iload 7) 2 59 := ⟨at_57, rfl⟩
theorem d0_59 : Bc code 59 (.ifCond .le 7) (7) 62 66 := ⟨at_59, rfl, by decide, by decide⟩
theorem d0_62 : Dc code 62 (.iconst 1) 1 63 := ⟨at_62, rfl⟩
theorem d0_63 : Bc code 63 (.goto 4) (4) 66 67 := ⟨at_63, rfl, by decide, by decide⟩
theorem d0_66 : Dc code 66 (.iconst 0) 1 67 := ⟨at_66, rfl⟩
theorem d0_67 : Bc code 67 (.if_icmp .ne 7) (7) 70 74 := ⟨at_67, rfl, by decide, by decide⟩
theorem d0_70 : Dc code 70 (.iconst 1) 1 71 := ⟨at_70, rfl⟩
theorem d0_71 : Bc code 71 (.goto 4) (4) 74 75 := ⟨at_71, rfl, by decide, by decide⟩
theorem d0_74 : Dc code 74 (.iconst 0) 1 75 := ⟨at_74, rfl⟩
theorem d0_75 : Dc code 75 (.istore 9) 2 77 := ⟨at_75, rfl⟩
theorem d0_77 : Dc code 77 (.iload 9) 2 79 := ⟨at_77, rfl⟩
theorem d0_79 : Bc code 79 (.ifCond .eq 25) (25) 82 104 := ⟨at_79, rfl, by decide, by decide⟩
theorem d0_82 : Dc code 82 (.aload 8) 2 84 := ⟨at_82, rfl⟩
theorem d0_84 : Dc code 84 (.invokevirtual 13) 3 87 := ⟨at_84, rfl⟩
theorem d0_87 : Dc code 87 (.iload 7) 2 89 := ⟨at_87, rfl⟩
theorem d0_89 : Bc code 89 (.ifCond .le 7) (7) 92 96 := ⟨at_89, rfl, by decide, by decide⟩
theorem d0_92 : Dc code 92 (.iconst 1) 1 93 := ⟨at_92, rfl⟩
theorem d0_93 : Bc code 93 (.goto 4) (4) 96 97 := ⟨at_93, rfl, by decide, by decide⟩
theorem d0_96 : Dc code 96 (.iconst 0) 1 97 := ⟨at_96, rfl⟩
theorem d0_97 : Bc code 97 (.if_icmp .ne 7) (7) 100 104 := ⟨at_97, rfl, by decide, by decide⟩
theorem d0_100 : Dc code 100 (.iconst 1) 1 101 := ⟨at_100, rfl⟩
theorem d0_101 : Bc code 101 (.goto 4) (4) 104 105 := ⟨at_101, rfl, by decide, by decide⟩
theorem d0_104 : Dc code 104 (.iconst 0) 1 105 := ⟨at_104, rfl⟩
theorem d0_105 : Dc code 105 (.istore 9) 2 107 := ⟨at_105, rfl⟩
theorem d0_107 : Dc code 107 (.iload_n 3) 1 108 := ⟨at_107, rfl⟩
theorem d0_108 : Dc code 108 (.ldc 7) 2 110 := ⟨at_108, rfl⟩
theorem d0_110 : Dc code 110 (.iand) 1 111 := ⟨at_110, rfl⟩
theorem d0_111 : Dc code 111 (.iload 7) 2 113 := ⟨at_111, rfl⟩
theorem d0_113 : Dc code 113 (.iconst 1) 1 114 := ⟨at_113, rfl⟩
theorem d0_114 : Dc code 114 (.iadd) 1 115 := ⟨at_114, rfl⟩
theorem d0_115 : Dc code 115 (.irem) 1 116 := ⟨at_115, rfl⟩
theorem d0_116 : Dc code 116 (.istore 10) 2 118 := ⟨at_116, rfl⟩
theorem d0_118 : Dc code 118 (.aload 8) 2 120 := ⟨at_118, rfl⟩
theorem d0_120 : Dc code 120 (.iload 10) 2 122 := ⟨at_120, rfl⟩
theorem d0_122 : Dc code 122 (.i2l) 1 123 := ⟨at_122, rfl⟩
theorem d0_123 : Dc code 123 (.invokevirtual 17) 3 126 := ⟨at_123, rfl⟩
theorem d0_126 : Dc code 126 (.iload 7) 2 128 := ⟨at_126, rfl⟩
theorem d0_128 : Dc code 128 (.iload 10) 2 130 := ⟨at_128, rfl⟩
theorem d0_130 : Dc code 130 (.isub) 1 131 := ⟨at_130, rfl⟩
theorem d0_131 : Dc code 131 (.istore 11) 2 133 := ⟨at_131, rfl⟩
theorem d0_133 : Dc code 133 (.iload 9) 2 135 := ⟨at_133, rfl⟩
theorem d0_135 : Bc code 135 (.ifCond .eq 25) (25) 138 160 := ⟨at_135, rfl, by decide, by decide⟩
theorem d0_138 : Dc code 138 (.aload 8) 2 140 := ⟨at_138, rfl⟩
theorem d0_140 : Dc code 140 (.invokevirtual 13) 3 143 := ⟨at_140, rfl⟩
theorem d0_143 : Dc code 143 (.iload 11) 2 145 := ⟨at_143, rfl⟩
theorem d0_145 : Bc code 145 (.ifCond .le 7) (7) 148 152 := ⟨at_145, rfl, by decide, by decide⟩
theorem d0_148 : Dc code 148 (.iconst 1) 1 149 := ⟨at_148, rfl⟩
theorem d0_149 : Bc code 149 (.goto 4) (4) 152 153 := ⟨at_149, rfl, by decide, by decide⟩
theorem d0_152 : Dc code 152 (.iconst 0) 1 153 := ⟨at_152, rfl⟩
theorem d0_153 : Bc code 153 (.if_icmp .ne 7) (7) 156 160 := ⟨at_153, rfl, by decide, by decide⟩
theorem d0_156 : Dc code 156 (.iconst 1) 1 157 := ⟨at_156, rfl⟩
theorem d0_157 : Bc code 157 (.goto 4) (4) 160 161 := ⟨at_157, rfl, by decide, by decide⟩
theorem d0_160 : Dc code 160 (.iconst 0) 1 161 := ⟨at_160, rfl⟩
theorem d0_161 : Dc code 161 (.istore 9) 2 163 := ⟨at_161, rfl⟩
theorem d0_163 : Dc code 163 (.iload 11) 2 165 := ⟨at_163, rfl⟩
theorem d0_165 : Bc code 165 (.ifCond .le 41) (41) 168 206 := ⟨at_165, rfl, by decide, by decide⟩
theorem d0_168 : Dc code 168 (.aload 8) 2 170 := ⟨at_168, rfl⟩
theorem d0_170 : Dc code 170 (.invokevirtual 21) 3 173 := ⟨at_170, rfl⟩
theorem d0_173 : Dc code 173 (.pop) 1 174 := ⟨at_173, rfl⟩
theorem d0_174 : Dc code 174 (.iload 9) 2 176 := ⟨at_174, rfl⟩
theorem d0_176 : Bc code 176 (.ifCond .eq 27) (27) 179 203 := ⟨at_176, rfl, by decide, by decide⟩
theorem d0_179 : Dc code 179 (.aload 8) 2 181 := ⟨at_179, rfl⟩
theorem d0_181 : Dc code 181 (.invokevirtual 13) 3 184 := ⟨at_181, rfl⟩
theorem d0_184 : Dc code 184 (.iload 11) 2 186 := ⟨at_184, rfl⟩
theorem d0_186 : Dc code 186 (.iconst 1) 1 187 := ⟨at_186, rfl⟩
theorem d0_187 : Dc code 187 (.isub) 1 188 := ⟨at_187, rfl⟩
theorem d0_188 : Bc code 188 (.ifCond .le 7) (7) 191 195 := ⟨at_188, rfl, by decide, by decide⟩
theorem d0_191 : Dc code 191 (.iconst 1) 1 192 := ⟨at_191, rfl⟩
theorem d0_192 : Bc code 192 (.goto 4) (4) 195 196 := ⟨at_192, rfl, by decide, by decide⟩
theorem d0_195 : Dc code 195 (.iconst 0) 1 196 := ⟨at_195, rfl⟩
theorem d0_196 : Bc code 196 (.if_icmp .ne 7) (7) 199 203 := ⟨at_196, rfl, by decide, by decide⟩
theorem d0_199 : Dc code 199 (.iconst 1) 1 200 := ⟨at_199, rfl⟩
theorem d0_200 : Bc code 200 (.goto 4) (4) 203 204 := ⟨at_200, rfl, by decide, by decide⟩
theorem d0_203 : Dc code 203 (.iconst 0) 1 204 := ⟨at_203, rfl⟩
theorem d0_204 : Dc code 204 (.istore 9) 2 206 := ⟨at_204, rfl⟩
theorem d0_206 : Dc code 206 (.iload 9) 2 208 := ⟨at_206, rfl⟩
theorem d0_208 : Dc code 208 (.ireturn) 1 209 := ⟨at_208, rfl⟩
theorem pd_1 : parseMethodDescriptor "([BII)V" = some ⟨[.array .byte, .int, .int], none⟩ := by decide +kernel
theorem pd_3 : parseMethodDescriptor "()Z" = some ⟨[], (some .boolean)⟩ := by decide +kernel
theorem pd_4 : parseMethodDescriptor "(J)V" = some ⟨[.long], none⟩ := by decide +kernel
theorem pd_6 : parseMethodDescriptor "()Z" = some ⟨[], (some .boolean)⟩ := by decide +kernel
theorem ef_law (m : MethodId) (x0 : Int32) (x1 : Int32) (x2 : Int32) (x3 : Int32) : entryFrame m #[.int x0, .int x1, .int x2, .int x3] maxLocals = mkF m 0 #[.val (.int x0), .val (.int x1), .val (.int x2), .val (.int x3), .unset, .unset, .unset, .unset, .unset, .unset, .unset, .unset] [] := by first | (simp [entryFrame, mkF, argsToLocals, Value.category, maxLocals]; done) | rfl
set_option maxRecDepth 65536 in
set_option maxHeartbeats 40000000 in
theorem m_law (l : Launch) (Z : State) (a0 : Array Value) (hw : ∀ d ∈ tables_1, d.before a0 Z = true) (n0 : Nat) (x0 : Int32) (x1 : Int32) (x2 : Int32) (x3 : Int32) (h : Heap) (hn : n0 ≤ h.size) : Met n0 l Z x code maxLocals ret room_1 tables_1 #[.int x0, .int x1, .int x2, .int x3] h (fun v _ => v = some (.int 1)) := by
  refine enter (plainFor_of_name (by first | (simp [plainName, overriddenIn, x]; done) | decide +kernel)) (fun m => ef_law m x0 x1 x2 x3) hn ?_
  intro p e s m below meth c T K S
  refine iload_n K S rfl d0_0 ?_
  refine bipush K S (x := (7 : Int32)) rfl d0_1 ?_
  refine iand K S d0_3 ?_
  refine nmI fun t3 ht3 => ?_
  have ft3 : t3.toInt = x0.toInt % 8 := by rw [ht3]; exact c_mask x0 (7 : Int32) 3 (by decide) (by decide)
  have rt3 := rng32 t3
  refine istore K S (l' := #[.val (.int x0), .val (.int x1), .val (.int x2), .val (.int x3), .val (.int t3), .unset, .unset, .unset, .unset, .unset, .unset, .unset]) rfl d0_4 ?_
  refine iload K S rfl d0_6 ?_
  refine newarr K S (cap := 7) (hwi hw 0 rfl) (own_nneg (by omega)) (by have := own_cl (x := t3) (by omega); omega) (by decide) (by decide) (by decide) d0_8 fun T h8_1 o8 z_o8 g_o8 X A_o8 S => ?_
  replace A_o8 : VA Z h8_1 o8 .byte (List.replicate t3.toNatClampNeg (.int (0 : Int32))) := A_o8
  clear X
  refine astore K S (l' := #[.val (.int x0), .val (.int x1), .val (.int x2), .val (.int x3), .val (.int t3), .val (.ref o8), .unset, .unset, .unset, .unset, .unset, .unset]) rfl rfl d0_10 ?_
  refine iload_n K S rfl d0_12 ?_
  refine ldc K S (x := (2147483647 : Int32)) (hwi hw 1 rfl) d0_13 ?_
  refine iand K S d0_15 ?_
  refine nmI fun t15 ht15 => ?_
  have ft15 : t15.toInt = x1.toInt % 2147483648 := by rw [ht15]; exact c_mask x1 (2147483647 : Int32) 31 (by decide) (by decide)
  have rt15 := rng32 t15
  refine iload K S rfl d0_16 ?_
  refine iconst K S (x := (1 : Int32)) rfl d0_18 ?_
  refine iadd K S d0_19 ?_
  refine nmI fun t19 ht19 => ?_
  have ft19 : (t19.toInt - (t3.toInt + 1)) % 4294967296 = 0 := by rw [ht19]; exact c_iadd t3 (1 : Int32)
  have rt19 := rng32 t19
  refine irem K S (own_nz (by omega)) d0_20 ?_
  refine nmI fun t20 ht20 => ?_
  have ft20 : 0 ≤ t20.toInt ∧ t20.toInt < t19.toInt := by rw [ht20]; exact ⟨((c_iremV t15 t19).1 (by omega) (by omega)).1, ((c_iremV t15 t19).1 (by omega) (by omega)).2.1⟩
  have rt20 := rng32 t20
  refine istore K S (l' := #[.val (.int x0), .val (.int x1), .val (.int x2), .val (.int x3), .val (.int t3), .val (.ref o8), .val (.int t20), .unset, .unset, .unset, .unset, .unset]) rfl d0_21 ?_
  refine iload_n K S rfl d0_23 ?_
  refine ldc K S (x := (2147483647 : Int32)) (hwi hw 1 rfl) d0_24 ?_
  refine iand K S d0_26 ?_
  refine nmI fun t26 ht26 => ?_
  have ft26 : t26.toInt = x2.toInt % 2147483648 := by rw [ht26]; exact c_mask x2 (2147483647 : Int32) 31 (by decide) (by decide)
  have rt26 := rng32 t26
  refine iload K S rfl d0_27 ?_
  refine iload K S rfl d0_29 ?_
  refine isub K S d0_31 ?_
  refine nmI fun t31 ht31 => ?_
  have ft31 : (t31.toInt - (t3.toInt - t20.toInt)) % 4294967296 = 0 := by rw [ht31]; exact c_isub t3 t20
  have rt31 := rng32 t31
  refine iconst K S (x := (1 : Int32)) rfl d0_32 ?_
  refine iadd K S d0_33 ?_
  refine nmI fun t33 ht33 => ?_
  have ft33 : (t33.toInt - (t31.toInt + 1)) % 4294967296 = 0 := by rw [ht33]; exact c_iadd t31 (1 : Int32)
  have rt33 := rng32 t33
  refine irem K S (own_nz (by omega)) d0_34 ?_
  refine nmI fun t34 ht34 => ?_
  have ft34 : 0 ≤ t34.toInt ∧ t34.toInt < t33.toInt := by rw [ht34]; exact ⟨((c_iremV t26 t33).1 (by omega) (by omega)).1, ((c_iremV t26 t33).1 (by omega) (by omega)).2.1⟩
  have rt34 := rng32 t34
  refine istore K S (l' := #[.val (.int x0), .val (.int x1), .val (.int x2), .val (.int x3), .val (.int t3), .val (.ref o8), .val (.int t20), .val (.int t34), .unset, .unset, .unset, .unset]) rfl d0_35 ?_
  refine new K S (hwi hw 2 rfl) (hwi hw 3 rfl) (hwi hw 4 rfl) (by decide) (by decide) d0_37 fun T h37_2 o37 z_o37 g_o37 X E_o37 D S => ?_
  have n_o8_o37 : o8 ≠ o37 := by rw [z_o37]; exact Nat.ne_of_lt A_o8.lt
  replace A_o8 := A_o8.ext X
  have F_channel_o37 : Fld Z h37_2 o37 "com/example/awardsmith/awardsmith/spill/ByteReader" "channel" "Ljava/nio/channels/FileChannel;" (.null) := D (Or.inr (hwi hw 12 rfl)) (ty := .object "java/nio/channels/FileChannel") (by decide)
  have F_bytes_o37 : Fld Z h37_2 o37 "com/example/awardsmith/awardsmith/spill/ByteReader" "bytes" "[B" (.null) := D (Or.inr (hwi hw 14 rfl)) (ty := .array .byte) (by decide)
  have F_at_o37 : Fld Z h37_2 o37 "com/example/awardsmith/awardsmith/spill/ByteReader" "at" "I" (.int (0 : Int32)) := D (Or.inl (hwi hw 16 rfl)) (ty := .int) (by decide)
  have F_end_o37 : Fld Z h37_2 o37 "com/example/awardsmith/awardsmith/spill/ByteReader" "end" "I" (.int (0 : Int32)) := D (Or.inl (hwi hw 18 rfl)) (ty := .int) (by decide)
  have F_limit_o37 : Fld Z h37_2 o37 "com/example/awardsmith/awardsmith/spill/ByteReader" "limit" "J" (.long (0 : Int64)) := D (Or.inr (hwi hw 20 rfl)) (ty := .long) (by decide)
  have F_next_o37 : Fld Z h37_2 o37 "com/example/awardsmith/awardsmith/spill/ByteReader" "next" "J" (.long (0 : Int64)) := D (Or.inl (hwi hw 27 rfl)) (ty := .long) (by decide)
  clear D X
  refine dup K S rfl d0_40 ?_
  refine aload K S rfl rfl d0_41 ?_
  refine iload K S rfl d0_43 ?_
  refine iload K S rfl d0_45 ?_
  refine callC K S (W := 1) (m_ini l Z a0 hw n0 o37 o8 t20 t34 h37_2 (Sle S) g_o37 E_o37 F_channel_o37 F_bytes_o37 F_at_o37 F_end_o37 F_next_o37 F_limit_o37) rfl rfl (hwi hw 5 rfl) (hwi hw 6 rfl) (hwi hw 7 rfl) (hwi hw 4 rfl) (by decide) (by decide) (by decide) (by decide) (by decide) rfl (argsL := [.ref o8, .int t20, .int t34]) rfl (lenOf pd_1 rfl) (rest := [.ref o37]) rfl (Nat.le_of_eq rfl) d0_47 (ef fun T h47_3 hP S => ?_)
  obtain ⟨H, K1⟩ := hP
  clear F_channel_o37
  clear F_bytes_o37
  clear F_at_o37
  clear F_end_o37
  clear F_next_o37
  clear F_limit_o37
  replace A_o8 := A_o8.keep K1 (ninS (by first | exact n_o8_o37 | exact Ne.symm n_o37_o8 | omega) nin0)
  replace E_o37 := E_o37.keep K1
  replace E_o37 := H.1
  obtain ⟨en, hen⟩ : ∃ z, z = t20 + t34 := ⟨_, rfl⟩
  rw [← hen] at H
  have fen : (en.toInt - (t20.toInt + t34.toInt)) % 4294967296 = 0 := by rw [hen]; exact c_iadd t20 t34
  have ren := rng32 en
  show Wp n0 p e _ s below _ T (mkF m 50 #[.val (.int x0), .val (.int x1), .val (.int x2), .val (.int x3), .val (.int t3), .val (.ref o8), .val (.int t20), .val (.int t34), .unset, .unset, .unset, .unset] [.ref o37])
  refine astore K S (l' := #[.val (.int x0), .val (.int x1), .val (.int x2), .val (.int x3), .val (.int t3), .val (.ref o8), .val (.int t20), .val (.int t34), .val (.ref o37), .unset, .unset, .unset]) rfl rfl d0_50 ?_
  refine aload K S rfl rfl d0_52 ?_
  refine callV K S (W := 0) (m_more l Z a0 hw n0 o37 o8 t20 en h47_3 (Sle S) H) E_o37 (hwi hw 21 rfl) (hwi hw 22 rfl) (hwi hw 24 rfl) (hwi hw 23 rfl) (hwi hw 25 rfl) (hwi hw 4 rfl) (by decide) (by decide) (by decide) (by decide) (by decide) rfl (argsL := []) rfl (lenOf pd_3 rfl) (rest := []) rfl (Nat.le_of_eq rfl) d0_54 (pr fun T r54 pr54 S => ?_)
  show Wp n0 p e _ s below _ T (mkF m 57 #[.val (.int x0), .val (.int x1), .val (.int x2), .val (.int x3), .val (.int t3), .val (.ref o8), .val (.int t20), .val (.int t34), .val (.ref o37), .unset, .unset, .unset] [.int r54])
  refine iload K S rfl d0_57 ?_
  refine ificz_le K S d0_59 (fun (c59 : ¬ 0 < t34.toInt) => ?_) (fun (c59 : 0 < t34.toInt) => ?_)
  · refine iconst K S (x := (0 : Int32)) rfl d0_66 ?_
    refine icmpz_ne K S d0_67 (fun (c67 : ¬ r54.toInt = 0) => ?_) (fun (c67 : r54.toInt = 0) => ?_)
    · exfalso; have z0 : (0 : Int32).toInt = 0 := rfl; have z1 : (1 : Int32).toInt = 1 := rfl; omega
    refine iconst K S (x := (1 : Int32)) rfl d0_70 ?_
    refine goto K S d0_71 ?_
    refine istore K S (l' := #[.val (.int x0), .val (.int x1), .val (.int x2), .val (.int x3), .val (.int t3), .val (.ref o8), .val (.int t20), .val (.int t34), .val (.ref o37), .val (.int (1 : Int32)), .unset, .unset]) rfl d0_75 ?_
    refine iload K S rfl d0_77 ?_
    refine ificz_eq K S d0_79 (fun (c79 : 1 = 0) => ?_) (fun (c79 : ¬ 1 = 0) => ?_)
    · exact absurd c79 (by decide)
    refine aload K S rfl rfl d0_82 ?_
    refine callV K S (W := 0) (m_more l Z a0 hw n0 o37 o8 t20 en h47_3 (Sle S) H) E_o37 (hwi hw 21 rfl) (hwi hw 22 rfl) (hwi hw 24 rfl) (hwi hw 23 rfl) (hwi hw 25 rfl) (hwi hw 4 rfl) (by decide) (by decide) (by decide) (by decide) (by decide) rfl (argsL := []) rfl (lenOf pd_3 rfl) (rest := []) rfl (Nat.le_of_eq rfl) d0_84 (pr fun T r84 pr84 S => ?_)
    show Wp n0 p e _ s below _ T (mkF m 87 #[.val (.int x0), .val (.int x1), .val (.int x2), .val (.int x3), .val (.int t3), .val (.ref o8), .val (.int t20), .val (.int t34), .val (.ref o37), .val (.int (1 : Int32)), .unset, .unset] [.int r84])
    refine iload K S rfl d0_87 ?_
    refine ificz_le K S d0_89 (fun (c89 : ¬ 0 < t34.toInt) => ?_) (fun (c89 : 0 < t34.toInt) => ?_)
    · refine iconst K S (x := (0 : Int32)) rfl d0_96 ?_
      refine icmpz_ne K S d0_97 (fun (c97 : ¬ r84.toInt = 0) => ?_) (fun (c97 : r84.toInt = 0) => ?_)
      · exfalso; have z0 : (0 : Int32).toInt = 0 := rfl; have z1 : (1 : Int32).toInt = 1 := rfl; omega
      refine iconst K S (x := (1 : Int32)) rfl d0_100 ?_
      refine goto K S d0_101 ?_
      refine istore K S (l' := #[.val (.int x0), .val (.int x1), .val (.int x2), .val (.int x3), .val (.int t3), .val (.ref o8), .val (.int t20), .val (.int t34), .val (.ref o37), .val (.int (1 : Int32)), .unset, .unset]) rfl d0_105 ?_
      refine iload_n K S rfl d0_107 ?_
      refine ldc K S (x := (2147483647 : Int32)) (hwi hw 1 rfl) d0_108 ?_
      refine iand K S d0_110 ?_
      refine nmI fun t110 ht110 => ?_
      have ft110 : t110.toInt = x3.toInt % 2147483648 := by rw [ht110]; exact c_mask x3 (2147483647 : Int32) 31 (by decide) (by decide)
      have rt110 := rng32 t110
      refine iload K S rfl d0_111 ?_
      refine iconst K S (x := (1 : Int32)) rfl d0_113 ?_
      refine iadd K S d0_114 ?_
      refine nmI fun t114 ht114 => ?_
      have ft114 : (t114.toInt - (t34.toInt + 1)) % 4294967296 = 0 := by rw [ht114]; exact c_iadd t34 (1 : Int32)
      have rt114 := rng32 t114
      refine irem K S (own_nz (by omega)) d0_115 ?_
      refine nmI fun t115 ht115 => ?_
      have ft115 : 0 ≤ t115.toInt ∧ t115.toInt < t114.toInt := by rw [ht115]; exact ⟨((c_iremV t110 t114).1 (by omega) (by omega)).1, ((c_iremV t110 t114).1 (by omega) (by omega)).2.1⟩
      have rt115 := rng32 t115
      refine istore K S (l' := #[.val (.int x0), .val (.int x1), .val (.int x2), .val (.int x3), .val (.int t3), .val (.ref o8), .val (.int t20), .val (.int t34), .val (.ref o37), .val (.int (1 : Int32)), .val (.int t115), .unset]) rfl d0_116 ?_
      refine aload K S rfl rfl d0_118 ?_
      refine iload K S rfl d0_120 ?_
      refine i2l K S d0_122 ?_
      refine nmL fun t122 ht122 => ?_
      have ft122 : t122.toInt = t115.toInt := by rw [ht122]; exact c_i2l t115
      have rt122 := rng64 t122
      refine callV K S (W := 0) (m_skip l Z a0 hw n0 o37 o8 t20 en t122 h47_3 (Sle S) g_o37 H (by omega) (by omega) (by omega)) E_o37 (hwi hw 28 rfl) (hwi hw 29 rfl) (hwi hw 31 rfl) (hwi hw 30 rfl) (hwi hw 32 rfl) (hwi hw 4 rfl) (by decide) (by decide) (by decide) (by decide) (by decide) rfl (argsL := [.long t122]) rfl (lenOf pd_4 rfl) (rest := []) rfl (Nat.le_of_eq rfl) d0_123 (ef fun T h123_4 hP S => ?_)
      obtain ⟨xs, q123, H, K1⟩ := hP
      replace A_o8 := A_o8.keep K1 (ninS (by first | exact n_o8_o37 | exact Ne.symm n_o37_o8 | omega) nin0)
      replace E_o37 := E_o37.keep K1
      replace E_o37 := H.1
      show Wp n0 p e _ s below _ T (mkF m 126 #[.val (.int x0), .val (.int x1), .val (.int x2), .val (.int x3), .val (.int t3), .val (.ref o8), .val (.int t20), .val (.int t34), .val (.ref o37), .val (.int (1 : Int32)), .val (.int t115), .unset] [])
      refine iload K S rfl d0_126 ?_
      refine iload K S rfl d0_128 ?_
      refine isub K S d0_130 ?_
      refine nmI fun t130 ht130 => ?_
      have ft130 : (t130.toInt - (t34.toInt - t115.toInt)) % 4294967296 = 0 := by rw [ht130]; exact c_isub t34 t115
      have rt130 := rng32 t130
      refine istore K S (l' := #[.val (.int x0), .val (.int x1), .val (.int x2), .val (.int x3), .val (.int t3), .val (.ref o8), .val (.int t20), .val (.int t34), .val (.ref o37), .val (.int (1 : Int32)), .val (.int t115), .val (.int t130)]) rfl d0_131 ?_
      refine iload K S rfl d0_133 ?_
      refine ificz_eq K S d0_135 (fun (c135 : 1 = 0) => ?_) (fun (c135 : ¬ 1 = 0) => ?_)
      · exact absurd c135 (by decide)
      refine aload K S rfl rfl d0_138 ?_
      refine callV K S (W := 0) (m_more l Z a0 hw n0 o37 o8 xs en h123_4 (Sle S) H) E_o37 (hwi hw 21 rfl) (hwi hw 22 rfl) (hwi hw 24 rfl) (hwi hw 23 rfl) (hwi hw 25 rfl) (hwi hw 4 rfl) (by decide) (by decide) (by decide) (by decide) (by decide) rfl (argsL := []) rfl (lenOf pd_3 rfl) (rest := []) rfl (Nat.le_of_eq rfl) d0_140 (pr fun T r140 pr140 S => ?_)
      show Wp n0 p e _ s below _ T (mkF m 143 #[.val (.int x0), .val (.int x1), .val (.int x2), .val (.int x3), .val (.int t3), .val (.ref o8), .val (.int t20), .val (.int t34), .val (.ref o37), .val (.int (1 : Int32)), .val (.int t115), .val (.int t130)] [.int r140])
      refine iload K S rfl d0_143 ?_
      refine ificz_le K S d0_145 (fun (c145 : ¬ 0 < t130.toInt) => ?_) (fun (c145 : 0 < t130.toInt) => ?_)
      · refine iconst K S (x := (0 : Int32)) rfl d0_152 ?_
        refine icmpz_ne K S d0_153 (fun (c153 : ¬ r140.toInt = 0) => ?_) (fun (c153 : r140.toInt = 0) => ?_)
        · exfalso; have z0 : (0 : Int32).toInt = 0 := rfl; have z1 : (1 : Int32).toInt = 1 := rfl; omega
        refine iconst K S (x := (1 : Int32)) rfl d0_156 ?_
        refine goto K S d0_157 ?_
        refine istore K S (l' := #[.val (.int x0), .val (.int x1), .val (.int x2), .val (.int x3), .val (.int t3), .val (.ref o8), .val (.int t20), .val (.int t34), .val (.ref o37), .val (.int (1 : Int32)), .val (.int t115), .val (.int t130)]) rfl d0_161 ?_
        refine iload K S rfl d0_163 ?_
        refine ificz_le K S d0_165 (fun (c165 : ¬ 0 < t130.toInt) => ?_) (fun (c165 : 0 < t130.toInt) => ?_)
        · refine iload K S rfl d0_206 ?_
          refine retn K S (by simp) (y := (1 : Int32)) rfl (by decide) (by decide) d0_208 ?_
          rfl
        refine aload K S rfl rfl d0_168 ?_
        refine callV K S (W := 0) (m_rb l Z a0 hw n0 o37 o8 xs en t3.toNatClampNeg h123_4 (Sle S) g_o37 H (by omega) (by omega) A_o8 (by have := own_cl (x := t3) (by omega); omega) (Ne.symm n_o8_o37)) E_o37 (hwi hw 37 rfl) (hwi hw 38 rfl) (hwi hw 40 rfl) (hwi hw 39 rfl) (hwi hw 41 rfl) (hwi hw 4 rfl) (by decide) (by decide) (by decide) (by decide) (by decide) rfl (argsL := []) rfl (lenOf pd_6 rfl) (rest := []) rfl (Nat.le_of_eq rfl) d0_170 (er fun T r170 h170_5 hP S => ?_)
        obtain ⟨xr, q170, H, K1⟩ := hP
        replace A_o8 := A_o8.keep K1 (ninS (by first | exact n_o8_o37 | exact Ne.symm n_o37_o8 | omega) nin0)
        replace E_o37 := E_o37.keep K1
        replace E_o37 := H.1
        show Wp n0 p e _ s below _ T (mkF m 173 #[.val (.int x0), .val (.int x1), .val (.int x2), .val (.int x3), .val (.int t3), .val (.ref o8), .val (.int t20), .val (.int t34), .val (.ref o37), .val (.int (1 : Int32)), .val (.int t115), .val (.int t130)] [.int r170])
        refine Own.pop K S rfl d0_173 ?_
        refine iload K S rfl d0_174 ?_
        refine ificz_eq K S d0_176 (fun (c176 : 1 = 0) => ?_) (fun (c176 : ¬ 1 = 0) => ?_)
        · exact absurd c176 (by decide)
        refine aload K S rfl rfl d0_179 ?_
        refine callV K S (W := 0) (m_more l Z a0 hw n0 o37 o8 xr en h170_5 (Sle S) H) E_o37 (hwi hw 21 rfl) (hwi hw 22 rfl) (hwi hw 24 rfl) (hwi hw 23 rfl) (hwi hw 25 rfl) (hwi hw 4 rfl) (by decide) (by decide) (by decide) (by decide) (by decide) rfl (argsL := []) rfl (lenOf pd_3 rfl) (rest := []) rfl (Nat.le_of_eq rfl) d0_181 (pr fun T r181 pr181 S => ?_)
        show Wp n0 p e _ s below _ T (mkF m 184 #[.val (.int x0), .val (.int x1), .val (.int x2), .val (.int x3), .val (.int t3), .val (.ref o8), .val (.int t20), .val (.int t34), .val (.ref o37), .val (.int (1 : Int32)), .val (.int t115), .val (.int t130)] [.int r181])
        refine iload K S rfl d0_184 ?_
        refine iconst K S (x := (1 : Int32)) rfl d0_186 ?_
        refine isub K S d0_187 ?_
        refine nmI fun t187 ht187 => ?_
        have ft187 : (t187.toInt - (t130.toInt - 1)) % 4294967296 = 0 := by rw [ht187]; exact c_isub t130 (1 : Int32)
        have rt187 := rng32 t187
        refine ificz_le K S d0_188 (fun (c188 : ¬ 0 < t187.toInt) => ?_) (fun (c188 : 0 < t187.toInt) => ?_)
        · refine iconst K S (x := (0 : Int32)) rfl d0_195 ?_
          refine icmpz_ne K S d0_196 (fun (c196 : ¬ r181.toInt = 0) => ?_) (fun (c196 : r181.toInt = 0) => ?_)
          · exfalso; have z0 : (0 : Int32).toInt = 0 := rfl; have z1 : (1 : Int32).toInt = 1 := rfl; omega
          refine iconst K S (x := (1 : Int32)) rfl d0_199 ?_
          refine goto K S d0_200 ?_
          refine istore K S (l' := #[.val (.int x0), .val (.int x1), .val (.int x2), .val (.int x3), .val (.int t3), .val (.ref o8), .val (.int t20), .val (.int t34), .val (.ref o37), .val (.int (1 : Int32)), .val (.int t115), .val (.int t130)]) rfl d0_204 ?_
          refine iload K S rfl d0_206 ?_
          refine retn K S (by simp) (y := (1 : Int32)) rfl (by decide) (by decide) d0_208 ?_
          rfl
        refine iconst K S (x := (1 : Int32)) rfl d0_191 ?_
        refine goto K S d0_192 ?_
        refine icmpz_ne K S d0_196 (fun (c196 : ¬ r181.toInt = 1) => ?_) (fun (c196 : r181.toInt = 1) => ?_)
        · exfalso; have z0 : (0 : Int32).toInt = 0 := rfl; have z1 : (1 : Int32).toInt = 1 := rfl; omega
        refine iconst K S (x := (1 : Int32)) rfl d0_199 ?_
        refine goto K S d0_200 ?_
        refine istore K S (l' := #[.val (.int x0), .val (.int x1), .val (.int x2), .val (.int x3), .val (.int t3), .val (.ref o8), .val (.int t20), .val (.int t34), .val (.ref o37), .val (.int (1 : Int32)), .val (.int t115), .val (.int t130)]) rfl d0_204 ?_
        refine iload K S rfl d0_206 ?_
        refine retn K S (by simp) (y := (1 : Int32)) rfl (by decide) (by decide) d0_208 ?_
        rfl
      refine iconst K S (x := (1 : Int32)) rfl d0_148 ?_
      refine goto K S d0_149 ?_
      refine icmpz_ne K S d0_153 (fun (c153 : ¬ r140.toInt = 1) => ?_) (fun (c153 : r140.toInt = 1) => ?_)
      · exfalso; have z0 : (0 : Int32).toInt = 0 := rfl; have z1 : (1 : Int32).toInt = 1 := rfl; omega
      refine iconst K S (x := (1 : Int32)) rfl d0_156 ?_
      refine goto K S d0_157 ?_
      refine istore K S (l' := #[.val (.int x0), .val (.int x1), .val (.int x2), .val (.int x3), .val (.int t3), .val (.ref o8), .val (.int t20), .val (.int t34), .val (.ref o37), .val (.int (1 : Int32)), .val (.int t115), .val (.int t130)]) rfl d0_161 ?_
      refine iload K S rfl d0_163 ?_
      refine ificz_le K S d0_165 (fun (c165 : ¬ 0 < t130.toInt) => ?_) (fun (c165 : 0 < t130.toInt) => ?_)
      · refine iload K S rfl d0_206 ?_
        refine retn K S (by simp) (y := (1 : Int32)) rfl (by decide) (by decide) d0_208 ?_
        rfl
      refine aload K S rfl rfl d0_168 ?_
      refine callV K S (W := 0) (m_rb l Z a0 hw n0 o37 o8 xs en t3.toNatClampNeg h123_4 (Sle S) g_o37 H (by omega) (by omega) A_o8 (by have := own_cl (x := t3) (by omega); omega) (Ne.symm n_o8_o37)) E_o37 (hwi hw 37 rfl) (hwi hw 38 rfl) (hwi hw 40 rfl) (hwi hw 39 rfl) (hwi hw 41 rfl) (hwi hw 4 rfl) (by decide) (by decide) (by decide) (by decide) (by decide) rfl (argsL := []) rfl (lenOf pd_6 rfl) (rest := []) rfl (Nat.le_of_eq rfl) d0_170 (er fun T r170 h170_6 hP S => ?_)
      obtain ⟨xr, q170, H, K1⟩ := hP
      replace A_o8 := A_o8.keep K1 (ninS (by first | exact n_o8_o37 | exact Ne.symm n_o37_o8 | omega) nin0)
      replace E_o37 := E_o37.keep K1
      replace E_o37 := H.1
      show Wp n0 p e _ s below _ T (mkF m 173 #[.val (.int x0), .val (.int x1), .val (.int x2), .val (.int x3), .val (.int t3), .val (.ref o8), .val (.int t20), .val (.int t34), .val (.ref o37), .val (.int (1 : Int32)), .val (.int t115), .val (.int t130)] [.int r170])
      refine Own.pop K S rfl d0_173 ?_
      refine iload K S rfl d0_174 ?_
      refine ificz_eq K S d0_176 (fun (c176 : 1 = 0) => ?_) (fun (c176 : ¬ 1 = 0) => ?_)
      · exact absurd c176 (by decide)
      refine aload K S rfl rfl d0_179 ?_
      refine callV K S (W := 0) (m_more l Z a0 hw n0 o37 o8 xr en h170_6 (Sle S) H) E_o37 (hwi hw 21 rfl) (hwi hw 22 rfl) (hwi hw 24 rfl) (hwi hw 23 rfl) (hwi hw 25 rfl) (hwi hw 4 rfl) (by decide) (by decide) (by decide) (by decide) (by decide) rfl (argsL := []) rfl (lenOf pd_3 rfl) (rest := []) rfl (Nat.le_of_eq rfl) d0_181 (pr fun T r181 pr181 S => ?_)
      show Wp n0 p e _ s below _ T (mkF m 184 #[.val (.int x0), .val (.int x1), .val (.int x2), .val (.int x3), .val (.int t3), .val (.ref o8), .val (.int t20), .val (.int t34), .val (.ref o37), .val (.int (1 : Int32)), .val (.int t115), .val (.int t130)] [.int r181])
      refine iload K S rfl d0_184 ?_
      refine iconst K S (x := (1 : Int32)) rfl d0_186 ?_
      refine isub K S d0_187 ?_
      refine nmI fun t187 ht187 => ?_
      have ft187 : (t187.toInt - (t130.toInt - 1)) % 4294967296 = 0 := by rw [ht187]; exact c_isub t130 (1 : Int32)
      have rt187 := rng32 t187
      refine ificz_le K S d0_188 (fun (c188 : ¬ 0 < t187.toInt) => ?_) (fun (c188 : 0 < t187.toInt) => ?_)
      · refine iconst K S (x := (0 : Int32)) rfl d0_195 ?_
        refine icmpz_ne K S d0_196 (fun (c196 : ¬ r181.toInt = 0) => ?_) (fun (c196 : r181.toInt = 0) => ?_)
        · exfalso; have z0 : (0 : Int32).toInt = 0 := rfl; have z1 : (1 : Int32).toInt = 1 := rfl; omega
        refine iconst K S (x := (1 : Int32)) rfl d0_199 ?_
        refine goto K S d0_200 ?_
        refine istore K S (l' := #[.val (.int x0), .val (.int x1), .val (.int x2), .val (.int x3), .val (.int t3), .val (.ref o8), .val (.int t20), .val (.int t34), .val (.ref o37), .val (.int (1 : Int32)), .val (.int t115), .val (.int t130)]) rfl d0_204 ?_
        refine iload K S rfl d0_206 ?_
        refine retn K S (by simp) (y := (1 : Int32)) rfl (by decide) (by decide) d0_208 ?_
        rfl
      refine iconst K S (x := (1 : Int32)) rfl d0_191 ?_
      refine goto K S d0_192 ?_
      refine icmpz_ne K S d0_196 (fun (c196 : ¬ r181.toInt = 1) => ?_) (fun (c196 : r181.toInt = 1) => ?_)
      · exfalso; have z0 : (0 : Int32).toInt = 0 := rfl; have z1 : (1 : Int32).toInt = 1 := rfl; omega
      refine iconst K S (x := (1 : Int32)) rfl d0_199 ?_
      refine goto K S d0_200 ?_
      refine istore K S (l' := #[.val (.int x0), .val (.int x1), .val (.int x2), .val (.int x3), .val (.int t3), .val (.ref o8), .val (.int t20), .val (.int t34), .val (.ref o37), .val (.int (1 : Int32)), .val (.int t115), .val (.int t130)]) rfl d0_204 ?_
      refine iload K S rfl d0_206 ?_
      refine retn K S (by simp) (y := (1 : Int32)) rfl (by decide) (by decide) d0_208 ?_
      rfl
    refine iconst K S (x := (1 : Int32)) rfl d0_92 ?_
    refine goto K S d0_93 ?_
    refine icmpz_ne K S d0_97 (fun (c97 : ¬ r84.toInt = 1) => ?_) (fun (c97 : r84.toInt = 1) => ?_)
    · exfalso; have z0 : (0 : Int32).toInt = 0 := rfl; have z1 : (1 : Int32).toInt = 1 := rfl; omega
    refine iconst K S (x := (1 : Int32)) rfl d0_100 ?_
    refine goto K S d0_101 ?_
    refine istore K S (l' := #[.val (.int x0), .val (.int x1), .val (.int x2), .val (.int x3), .val (.int t3), .val (.ref o8), .val (.int t20), .val (.int t34), .val (.ref o37), .val (.int (1 : Int32)), .unset, .unset]) rfl d0_105 ?_
    refine iload_n K S rfl d0_107 ?_
    refine ldc K S (x := (2147483647 : Int32)) (hwi hw 1 rfl) d0_108 ?_
    refine iand K S d0_110 ?_
    refine nmI fun t110 ht110 => ?_
    have ft110 : t110.toInt = x3.toInt % 2147483648 := by rw [ht110]; exact c_mask x3 (2147483647 : Int32) 31 (by decide) (by decide)
    have rt110 := rng32 t110
    refine iload K S rfl d0_111 ?_
    refine iconst K S (x := (1 : Int32)) rfl d0_113 ?_
    refine iadd K S d0_114 ?_
    refine nmI fun t114 ht114 => ?_
    have ft114 : (t114.toInt - (t34.toInt + 1)) % 4294967296 = 0 := by rw [ht114]; exact c_iadd t34 (1 : Int32)
    have rt114 := rng32 t114
    refine irem K S (own_nz (by omega)) d0_115 ?_
    refine nmI fun t115 ht115 => ?_
    have ft115 : 0 ≤ t115.toInt ∧ t115.toInt < t114.toInt := by rw [ht115]; exact ⟨((c_iremV t110 t114).1 (by omega) (by omega)).1, ((c_iremV t110 t114).1 (by omega) (by omega)).2.1⟩
    have rt115 := rng32 t115
    refine istore K S (l' := #[.val (.int x0), .val (.int x1), .val (.int x2), .val (.int x3), .val (.int t3), .val (.ref o8), .val (.int t20), .val (.int t34), .val (.ref o37), .val (.int (1 : Int32)), .val (.int t115), .unset]) rfl d0_116 ?_
    refine aload K S rfl rfl d0_118 ?_
    refine iload K S rfl d0_120 ?_
    refine i2l K S d0_122 ?_
    refine nmL fun t122 ht122 => ?_
    have ft122 : t122.toInt = t115.toInt := by rw [ht122]; exact c_i2l t115
    have rt122 := rng64 t122
    refine callV K S (W := 0) (m_skip l Z a0 hw n0 o37 o8 t20 en t122 h47_3 (Sle S) g_o37 H (by omega) (by omega) (by omega)) E_o37 (hwi hw 28 rfl) (hwi hw 29 rfl) (hwi hw 31 rfl) (hwi hw 30 rfl) (hwi hw 32 rfl) (hwi hw 4 rfl) (by decide) (by decide) (by decide) (by decide) (by decide) rfl (argsL := [.long t122]) rfl (lenOf pd_4 rfl) (rest := []) rfl (Nat.le_of_eq rfl) d0_123 (ef fun T h123_7 hP S => ?_)
    obtain ⟨xs, q123, H, K1⟩ := hP
    replace A_o8 := A_o8.keep K1 (ninS (by first | exact n_o8_o37 | exact Ne.symm n_o37_o8 | omega) nin0)
    replace E_o37 := E_o37.keep K1
    replace E_o37 := H.1
    show Wp n0 p e _ s below _ T (mkF m 126 #[.val (.int x0), .val (.int x1), .val (.int x2), .val (.int x3), .val (.int t3), .val (.ref o8), .val (.int t20), .val (.int t34), .val (.ref o37), .val (.int (1 : Int32)), .val (.int t115), .unset] [])
    refine iload K S rfl d0_126 ?_
    refine iload K S rfl d0_128 ?_
    refine isub K S d0_130 ?_
    refine nmI fun t130 ht130 => ?_
    have ft130 : (t130.toInt - (t34.toInt - t115.toInt)) % 4294967296 = 0 := by rw [ht130]; exact c_isub t34 t115
    have rt130 := rng32 t130
    refine istore K S (l' := #[.val (.int x0), .val (.int x1), .val (.int x2), .val (.int x3), .val (.int t3), .val (.ref o8), .val (.int t20), .val (.int t34), .val (.ref o37), .val (.int (1 : Int32)), .val (.int t115), .val (.int t130)]) rfl d0_131 ?_
    refine iload K S rfl d0_133 ?_
    refine ificz_eq K S d0_135 (fun (c135 : 1 = 0) => ?_) (fun (c135 : ¬ 1 = 0) => ?_)
    · exact absurd c135 (by decide)
    refine aload K S rfl rfl d0_138 ?_
    refine callV K S (W := 0) (m_more l Z a0 hw n0 o37 o8 xs en h123_7 (Sle S) H) E_o37 (hwi hw 21 rfl) (hwi hw 22 rfl) (hwi hw 24 rfl) (hwi hw 23 rfl) (hwi hw 25 rfl) (hwi hw 4 rfl) (by decide) (by decide) (by decide) (by decide) (by decide) rfl (argsL := []) rfl (lenOf pd_3 rfl) (rest := []) rfl (Nat.le_of_eq rfl) d0_140 (pr fun T r140 pr140 S => ?_)
    show Wp n0 p e _ s below _ T (mkF m 143 #[.val (.int x0), .val (.int x1), .val (.int x2), .val (.int x3), .val (.int t3), .val (.ref o8), .val (.int t20), .val (.int t34), .val (.ref o37), .val (.int (1 : Int32)), .val (.int t115), .val (.int t130)] [.int r140])
    refine iload K S rfl d0_143 ?_
    refine ificz_le K S d0_145 (fun (c145 : ¬ 0 < t130.toInt) => ?_) (fun (c145 : 0 < t130.toInt) => ?_)
    · refine iconst K S (x := (0 : Int32)) rfl d0_152 ?_
      refine icmpz_ne K S d0_153 (fun (c153 : ¬ r140.toInt = 0) => ?_) (fun (c153 : r140.toInt = 0) => ?_)
      · exfalso; have z0 : (0 : Int32).toInt = 0 := rfl; have z1 : (1 : Int32).toInt = 1 := rfl; omega
      refine iconst K S (x := (1 : Int32)) rfl d0_156 ?_
      refine goto K S d0_157 ?_
      refine istore K S (l' := #[.val (.int x0), .val (.int x1), .val (.int x2), .val (.int x3), .val (.int t3), .val (.ref o8), .val (.int t20), .val (.int t34), .val (.ref o37), .val (.int (1 : Int32)), .val (.int t115), .val (.int t130)]) rfl d0_161 ?_
      refine iload K S rfl d0_163 ?_
      refine ificz_le K S d0_165 (fun (c165 : ¬ 0 < t130.toInt) => ?_) (fun (c165 : 0 < t130.toInt) => ?_)
      · refine iload K S rfl d0_206 ?_
        refine retn K S (by simp) (y := (1 : Int32)) rfl (by decide) (by decide) d0_208 ?_
        rfl
      refine aload K S rfl rfl d0_168 ?_
      refine callV K S (W := 0) (m_rb l Z a0 hw n0 o37 o8 xs en t3.toNatClampNeg h123_7 (Sle S) g_o37 H (by omega) (by omega) A_o8 (by have := own_cl (x := t3) (by omega); omega) (Ne.symm n_o8_o37)) E_o37 (hwi hw 37 rfl) (hwi hw 38 rfl) (hwi hw 40 rfl) (hwi hw 39 rfl) (hwi hw 41 rfl) (hwi hw 4 rfl) (by decide) (by decide) (by decide) (by decide) (by decide) rfl (argsL := []) rfl (lenOf pd_6 rfl) (rest := []) rfl (Nat.le_of_eq rfl) d0_170 (er fun T r170 h170_8 hP S => ?_)
      obtain ⟨xr, q170, H, K1⟩ := hP
      replace A_o8 := A_o8.keep K1 (ninS (by first | exact n_o8_o37 | exact Ne.symm n_o37_o8 | omega) nin0)
      replace E_o37 := E_o37.keep K1
      replace E_o37 := H.1
      show Wp n0 p e _ s below _ T (mkF m 173 #[.val (.int x0), .val (.int x1), .val (.int x2), .val (.int x3), .val (.int t3), .val (.ref o8), .val (.int t20), .val (.int t34), .val (.ref o37), .val (.int (1 : Int32)), .val (.int t115), .val (.int t130)] [.int r170])
      refine Own.pop K S rfl d0_173 ?_
      refine iload K S rfl d0_174 ?_
      refine ificz_eq K S d0_176 (fun (c176 : 1 = 0) => ?_) (fun (c176 : ¬ 1 = 0) => ?_)
      · exact absurd c176 (by decide)
      refine aload K S rfl rfl d0_179 ?_
      refine callV K S (W := 0) (m_more l Z a0 hw n0 o37 o8 xr en h170_8 (Sle S) H) E_o37 (hwi hw 21 rfl) (hwi hw 22 rfl) (hwi hw 24 rfl) (hwi hw 23 rfl) (hwi hw 25 rfl) (hwi hw 4 rfl) (by decide) (by decide) (by decide) (by decide) (by decide) rfl (argsL := []) rfl (lenOf pd_3 rfl) (rest := []) rfl (Nat.le_of_eq rfl) d0_181 (pr fun T r181 pr181 S => ?_)
      show Wp n0 p e _ s below _ T (mkF m 184 #[.val (.int x0), .val (.int x1), .val (.int x2), .val (.int x3), .val (.int t3), .val (.ref o8), .val (.int t20), .val (.int t34), .val (.ref o37), .val (.int (1 : Int32)), .val (.int t115), .val (.int t130)] [.int r181])
      refine iload K S rfl d0_184 ?_
      refine iconst K S (x := (1 : Int32)) rfl d0_186 ?_
      refine isub K S d0_187 ?_
      refine nmI fun t187 ht187 => ?_
      have ft187 : (t187.toInt - (t130.toInt - 1)) % 4294967296 = 0 := by rw [ht187]; exact c_isub t130 (1 : Int32)
      have rt187 := rng32 t187
      refine ificz_le K S d0_188 (fun (c188 : ¬ 0 < t187.toInt) => ?_) (fun (c188 : 0 < t187.toInt) => ?_)
      · refine iconst K S (x := (0 : Int32)) rfl d0_195 ?_
        refine icmpz_ne K S d0_196 (fun (c196 : ¬ r181.toInt = 0) => ?_) (fun (c196 : r181.toInt = 0) => ?_)
        · exfalso; have z0 : (0 : Int32).toInt = 0 := rfl; have z1 : (1 : Int32).toInt = 1 := rfl; omega
        refine iconst K S (x := (1 : Int32)) rfl d0_199 ?_
        refine goto K S d0_200 ?_
        refine istore K S (l' := #[.val (.int x0), .val (.int x1), .val (.int x2), .val (.int x3), .val (.int t3), .val (.ref o8), .val (.int t20), .val (.int t34), .val (.ref o37), .val (.int (1 : Int32)), .val (.int t115), .val (.int t130)]) rfl d0_204 ?_
        refine iload K S rfl d0_206 ?_
        refine retn K S (by simp) (y := (1 : Int32)) rfl (by decide) (by decide) d0_208 ?_
        rfl
      refine iconst K S (x := (1 : Int32)) rfl d0_191 ?_
      refine goto K S d0_192 ?_
      refine icmpz_ne K S d0_196 (fun (c196 : ¬ r181.toInt = 1) => ?_) (fun (c196 : r181.toInt = 1) => ?_)
      · exfalso; have z0 : (0 : Int32).toInt = 0 := rfl; have z1 : (1 : Int32).toInt = 1 := rfl; omega
      refine iconst K S (x := (1 : Int32)) rfl d0_199 ?_
      refine goto K S d0_200 ?_
      refine istore K S (l' := #[.val (.int x0), .val (.int x1), .val (.int x2), .val (.int x3), .val (.int t3), .val (.ref o8), .val (.int t20), .val (.int t34), .val (.ref o37), .val (.int (1 : Int32)), .val (.int t115), .val (.int t130)]) rfl d0_204 ?_
      refine iload K S rfl d0_206 ?_
      refine retn K S (by simp) (y := (1 : Int32)) rfl (by decide) (by decide) d0_208 ?_
      rfl
    refine iconst K S (x := (1 : Int32)) rfl d0_148 ?_
    refine goto K S d0_149 ?_
    refine icmpz_ne K S d0_153 (fun (c153 : ¬ r140.toInt = 1) => ?_) (fun (c153 : r140.toInt = 1) => ?_)
    · exfalso; have z0 : (0 : Int32).toInt = 0 := rfl; have z1 : (1 : Int32).toInt = 1 := rfl; omega
    refine iconst K S (x := (1 : Int32)) rfl d0_156 ?_
    refine goto K S d0_157 ?_
    refine istore K S (l' := #[.val (.int x0), .val (.int x1), .val (.int x2), .val (.int x3), .val (.int t3), .val (.ref o8), .val (.int t20), .val (.int t34), .val (.ref o37), .val (.int (1 : Int32)), .val (.int t115), .val (.int t130)]) rfl d0_161 ?_
    refine iload K S rfl d0_163 ?_
    refine ificz_le K S d0_165 (fun (c165 : ¬ 0 < t130.toInt) => ?_) (fun (c165 : 0 < t130.toInt) => ?_)
    · refine iload K S rfl d0_206 ?_
      refine retn K S (by simp) (y := (1 : Int32)) rfl (by decide) (by decide) d0_208 ?_
      rfl
    refine aload K S rfl rfl d0_168 ?_
    refine callV K S (W := 0) (m_rb l Z a0 hw n0 o37 o8 xs en t3.toNatClampNeg h123_7 (Sle S) g_o37 H (by omega) (by omega) A_o8 (by have := own_cl (x := t3) (by omega); omega) (Ne.symm n_o8_o37)) E_o37 (hwi hw 37 rfl) (hwi hw 38 rfl) (hwi hw 40 rfl) (hwi hw 39 rfl) (hwi hw 41 rfl) (hwi hw 4 rfl) (by decide) (by decide) (by decide) (by decide) (by decide) rfl (argsL := []) rfl (lenOf pd_6 rfl) (rest := []) rfl (Nat.le_of_eq rfl) d0_170 (er fun T r170 h170_9 hP S => ?_)
    obtain ⟨xr, q170, H, K1⟩ := hP
    replace A_o8 := A_o8.keep K1 (ninS (by first | exact n_o8_o37 | exact Ne.symm n_o37_o8 | omega) nin0)
    replace E_o37 := E_o37.keep K1
    replace E_o37 := H.1
    show Wp n0 p e _ s below _ T (mkF m 173 #[.val (.int x0), .val (.int x1), .val (.int x2), .val (.int x3), .val (.int t3), .val (.ref o8), .val (.int t20), .val (.int t34), .val (.ref o37), .val (.int (1 : Int32)), .val (.int t115), .val (.int t130)] [.int r170])
    refine Own.pop K S rfl d0_173 ?_
    refine iload K S rfl d0_174 ?_
    refine ificz_eq K S d0_176 (fun (c176 : 1 = 0) => ?_) (fun (c176 : ¬ 1 = 0) => ?_)
    · exact absurd c176 (by decide)
    refine aload K S rfl rfl d0_179 ?_
    refine callV K S (W := 0) (m_more l Z a0 hw n0 o37 o8 xr en h170_9 (Sle S) H) E_o37 (hwi hw 21 rfl) (hwi hw 22 rfl) (hwi hw 24 rfl) (hwi hw 23 rfl) (hwi hw 25 rfl) (hwi hw 4 rfl) (by decide) (by decide) (by decide) (by decide) (by decide) rfl (argsL := []) rfl (lenOf pd_3 rfl) (rest := []) rfl (Nat.le_of_eq rfl) d0_181 (pr fun T r181 pr181 S => ?_)
    show Wp n0 p e _ s below _ T (mkF m 184 #[.val (.int x0), .val (.int x1), .val (.int x2), .val (.int x3), .val (.int t3), .val (.ref o8), .val (.int t20), .val (.int t34), .val (.ref o37), .val (.int (1 : Int32)), .val (.int t115), .val (.int t130)] [.int r181])
    refine iload K S rfl d0_184 ?_
    refine iconst K S (x := (1 : Int32)) rfl d0_186 ?_
    refine isub K S d0_187 ?_
    refine nmI fun t187 ht187 => ?_
    have ft187 : (t187.toInt - (t130.toInt - 1)) % 4294967296 = 0 := by rw [ht187]; exact c_isub t130 (1 : Int32)
    have rt187 := rng32 t187
    refine ificz_le K S d0_188 (fun (c188 : ¬ 0 < t187.toInt) => ?_) (fun (c188 : 0 < t187.toInt) => ?_)
    · refine iconst K S (x := (0 : Int32)) rfl d0_195 ?_
      refine icmpz_ne K S d0_196 (fun (c196 : ¬ r181.toInt = 0) => ?_) (fun (c196 : r181.toInt = 0) => ?_)
      · exfalso; have z0 : (0 : Int32).toInt = 0 := rfl; have z1 : (1 : Int32).toInt = 1 := rfl; omega
      refine iconst K S (x := (1 : Int32)) rfl d0_199 ?_
      refine goto K S d0_200 ?_
      refine istore K S (l' := #[.val (.int x0), .val (.int x1), .val (.int x2), .val (.int x3), .val (.int t3), .val (.ref o8), .val (.int t20), .val (.int t34), .val (.ref o37), .val (.int (1 : Int32)), .val (.int t115), .val (.int t130)]) rfl d0_204 ?_
      refine iload K S rfl d0_206 ?_
      refine retn K S (by simp) (y := (1 : Int32)) rfl (by decide) (by decide) d0_208 ?_
      rfl
    refine iconst K S (x := (1 : Int32)) rfl d0_191 ?_
    refine goto K S d0_192 ?_
    refine icmpz_ne K S d0_196 (fun (c196 : ¬ r181.toInt = 1) => ?_) (fun (c196 : r181.toInt = 1) => ?_)
    · exfalso; have z0 : (0 : Int32).toInt = 0 := rfl; have z1 : (1 : Int32).toInt = 1 := rfl; omega
    refine iconst K S (x := (1 : Int32)) rfl d0_199 ?_
    refine goto K S d0_200 ?_
    refine istore K S (l' := #[.val (.int x0), .val (.int x1), .val (.int x2), .val (.int x3), .val (.int t3), .val (.ref o8), .val (.int t20), .val (.int t34), .val (.ref o37), .val (.int (1 : Int32)), .val (.int t115), .val (.int t130)]) rfl d0_204 ?_
    refine iload K S rfl d0_206 ?_
    refine retn K S (by simp) (y := (1 : Int32)) rfl (by decide) (by decide) d0_208 ?_
    rfl
  refine iconst K S (x := (1 : Int32)) rfl d0_62 ?_
  refine goto K S d0_63 ?_
  refine icmpz_ne K S d0_67 (fun (c67 : ¬ r54.toInt = 1) => ?_) (fun (c67 : r54.toInt = 1) => ?_)
  · exfalso; have z0 : (0 : Int32).toInt = 0 := rfl; have z1 : (1 : Int32).toInt = 1 := rfl; omega
  refine iconst K S (x := (1 : Int32)) rfl d0_70 ?_
  refine goto K S d0_71 ?_
  refine istore K S (l' := #[.val (.int x0), .val (.int x1), .val (.int x2), .val (.int x3), .val (.int t3), .val (.ref o8), .val (.int t20), .val (.int t34), .val (.ref o37), .val (.int (1 : Int32)), .unset, .unset]) rfl d0_75 ?_
  refine iload K S rfl d0_77 ?_
  refine ificz_eq K S d0_79 (fun (c79 : 1 = 0) => ?_) (fun (c79 : ¬ 1 = 0) => ?_)
  · exact absurd c79 (by decide)
  refine aload K S rfl rfl d0_82 ?_
  refine callV K S (W := 0) (m_more l Z a0 hw n0 o37 o8 t20 en h47_3 (Sle S) H) E_o37 (hwi hw 21 rfl) (hwi hw 22 rfl) (hwi hw 24 rfl) (hwi hw 23 rfl) (hwi hw 25 rfl) (hwi hw 4 rfl) (by decide) (by decide) (by decide) (by decide) (by decide) rfl (argsL := []) rfl (lenOf pd_3 rfl) (rest := []) rfl (Nat.le_of_eq rfl) d0_84 (pr fun T r84 pr84 S => ?_)
  show Wp n0 p e _ s below _ T (mkF m 87 #[.val (.int x0), .val (.int x1), .val (.int x2), .val (.int x3), .val (.int t3), .val (.ref o8), .val (.int t20), .val (.int t34), .val (.ref o37), .val (.int (1 : Int32)), .unset, .unset] [.int r84])
  refine iload K S rfl d0_87 ?_
  refine ificz_le K S d0_89 (fun (c89 : ¬ 0 < t34.toInt) => ?_) (fun (c89 : 0 < t34.toInt) => ?_)
  · refine iconst K S (x := (0 : Int32)) rfl d0_96 ?_
    refine icmpz_ne K S d0_97 (fun (c97 : ¬ r84.toInt = 0) => ?_) (fun (c97 : r84.toInt = 0) => ?_)
    · exfalso; have z0 : (0 : Int32).toInt = 0 := rfl; have z1 : (1 : Int32).toInt = 1 := rfl; omega
    refine iconst K S (x := (1 : Int32)) rfl d0_100 ?_
    refine goto K S d0_101 ?_
    refine istore K S (l' := #[.val (.int x0), .val (.int x1), .val (.int x2), .val (.int x3), .val (.int t3), .val (.ref o8), .val (.int t20), .val (.int t34), .val (.ref o37), .val (.int (1 : Int32)), .unset, .unset]) rfl d0_105 ?_
    refine iload_n K S rfl d0_107 ?_
    refine ldc K S (x := (2147483647 : Int32)) (hwi hw 1 rfl) d0_108 ?_
    refine iand K S d0_110 ?_
    refine nmI fun t110 ht110 => ?_
    have ft110 : t110.toInt = x3.toInt % 2147483648 := by rw [ht110]; exact c_mask x3 (2147483647 : Int32) 31 (by decide) (by decide)
    have rt110 := rng32 t110
    refine iload K S rfl d0_111 ?_
    refine iconst K S (x := (1 : Int32)) rfl d0_113 ?_
    refine iadd K S d0_114 ?_
    refine nmI fun t114 ht114 => ?_
    have ft114 : (t114.toInt - (t34.toInt + 1)) % 4294967296 = 0 := by rw [ht114]; exact c_iadd t34 (1 : Int32)
    have rt114 := rng32 t114
    refine irem K S (own_nz (by omega)) d0_115 ?_
    refine nmI fun t115 ht115 => ?_
    have ft115 : 0 ≤ t115.toInt ∧ t115.toInt < t114.toInt := by rw [ht115]; exact ⟨((c_iremV t110 t114).1 (by omega) (by omega)).1, ((c_iremV t110 t114).1 (by omega) (by omega)).2.1⟩
    have rt115 := rng32 t115
    refine istore K S (l' := #[.val (.int x0), .val (.int x1), .val (.int x2), .val (.int x3), .val (.int t3), .val (.ref o8), .val (.int t20), .val (.int t34), .val (.ref o37), .val (.int (1 : Int32)), .val (.int t115), .unset]) rfl d0_116 ?_
    refine aload K S rfl rfl d0_118 ?_
    refine iload K S rfl d0_120 ?_
    refine i2l K S d0_122 ?_
    refine nmL fun t122 ht122 => ?_
    have ft122 : t122.toInt = t115.toInt := by rw [ht122]; exact c_i2l t115
    have rt122 := rng64 t122
    refine callV K S (W := 0) (m_skip l Z a0 hw n0 o37 o8 t20 en t122 h47_3 (Sle S) g_o37 H (by omega) (by omega) (by omega)) E_o37 (hwi hw 28 rfl) (hwi hw 29 rfl) (hwi hw 31 rfl) (hwi hw 30 rfl) (hwi hw 32 rfl) (hwi hw 4 rfl) (by decide) (by decide) (by decide) (by decide) (by decide) rfl (argsL := [.long t122]) rfl (lenOf pd_4 rfl) (rest := []) rfl (Nat.le_of_eq rfl) d0_123 (ef fun T h123_10 hP S => ?_)
    obtain ⟨xs, q123, H, K1⟩ := hP
    replace A_o8 := A_o8.keep K1 (ninS (by first | exact n_o8_o37 | exact Ne.symm n_o37_o8 | omega) nin0)
    replace E_o37 := E_o37.keep K1
    replace E_o37 := H.1
    show Wp n0 p e _ s below _ T (mkF m 126 #[.val (.int x0), .val (.int x1), .val (.int x2), .val (.int x3), .val (.int t3), .val (.ref o8), .val (.int t20), .val (.int t34), .val (.ref o37), .val (.int (1 : Int32)), .val (.int t115), .unset] [])
    refine iload K S rfl d0_126 ?_
    refine iload K S rfl d0_128 ?_
    refine isub K S d0_130 ?_
    refine nmI fun t130 ht130 => ?_
    have ft130 : (t130.toInt - (t34.toInt - t115.toInt)) % 4294967296 = 0 := by rw [ht130]; exact c_isub t34 t115
    have rt130 := rng32 t130
    refine istore K S (l' := #[.val (.int x0), .val (.int x1), .val (.int x2), .val (.int x3), .val (.int t3), .val (.ref o8), .val (.int t20), .val (.int t34), .val (.ref o37), .val (.int (1 : Int32)), .val (.int t115), .val (.int t130)]) rfl d0_131 ?_
    refine iload K S rfl d0_133 ?_
    refine ificz_eq K S d0_135 (fun (c135 : 1 = 0) => ?_) (fun (c135 : ¬ 1 = 0) => ?_)
    · exact absurd c135 (by decide)
    refine aload K S rfl rfl d0_138 ?_
    refine callV K S (W := 0) (m_more l Z a0 hw n0 o37 o8 xs en h123_10 (Sle S) H) E_o37 (hwi hw 21 rfl) (hwi hw 22 rfl) (hwi hw 24 rfl) (hwi hw 23 rfl) (hwi hw 25 rfl) (hwi hw 4 rfl) (by decide) (by decide) (by decide) (by decide) (by decide) rfl (argsL := []) rfl (lenOf pd_3 rfl) (rest := []) rfl (Nat.le_of_eq rfl) d0_140 (pr fun T r140 pr140 S => ?_)
    show Wp n0 p e _ s below _ T (mkF m 143 #[.val (.int x0), .val (.int x1), .val (.int x2), .val (.int x3), .val (.int t3), .val (.ref o8), .val (.int t20), .val (.int t34), .val (.ref o37), .val (.int (1 : Int32)), .val (.int t115), .val (.int t130)] [.int r140])
    refine iload K S rfl d0_143 ?_
    refine ificz_le K S d0_145 (fun (c145 : ¬ 0 < t130.toInt) => ?_) (fun (c145 : 0 < t130.toInt) => ?_)
    · refine iconst K S (x := (0 : Int32)) rfl d0_152 ?_
      refine icmpz_ne K S d0_153 (fun (c153 : ¬ r140.toInt = 0) => ?_) (fun (c153 : r140.toInt = 0) => ?_)
      · exfalso; have z0 : (0 : Int32).toInt = 0 := rfl; have z1 : (1 : Int32).toInt = 1 := rfl; omega
      refine iconst K S (x := (1 : Int32)) rfl d0_156 ?_
      refine goto K S d0_157 ?_
      refine istore K S (l' := #[.val (.int x0), .val (.int x1), .val (.int x2), .val (.int x3), .val (.int t3), .val (.ref o8), .val (.int t20), .val (.int t34), .val (.ref o37), .val (.int (1 : Int32)), .val (.int t115), .val (.int t130)]) rfl d0_161 ?_
      refine iload K S rfl d0_163 ?_
      refine ificz_le K S d0_165 (fun (c165 : ¬ 0 < t130.toInt) => ?_) (fun (c165 : 0 < t130.toInt) => ?_)
      · refine iload K S rfl d0_206 ?_
        refine retn K S (by simp) (y := (1 : Int32)) rfl (by decide) (by decide) d0_208 ?_
        rfl
      refine aload K S rfl rfl d0_168 ?_
      refine callV K S (W := 0) (m_rb l Z a0 hw n0 o37 o8 xs en t3.toNatClampNeg h123_10 (Sle S) g_o37 H (by omega) (by omega) A_o8 (by have := own_cl (x := t3) (by omega); omega) (Ne.symm n_o8_o37)) E_o37 (hwi hw 37 rfl) (hwi hw 38 rfl) (hwi hw 40 rfl) (hwi hw 39 rfl) (hwi hw 41 rfl) (hwi hw 4 rfl) (by decide) (by decide) (by decide) (by decide) (by decide) rfl (argsL := []) rfl (lenOf pd_6 rfl) (rest := []) rfl (Nat.le_of_eq rfl) d0_170 (er fun T r170 h170_11 hP S => ?_)
      obtain ⟨xr, q170, H, K1⟩ := hP
      replace A_o8 := A_o8.keep K1 (ninS (by first | exact n_o8_o37 | exact Ne.symm n_o37_o8 | omega) nin0)
      replace E_o37 := E_o37.keep K1
      replace E_o37 := H.1
      show Wp n0 p e _ s below _ T (mkF m 173 #[.val (.int x0), .val (.int x1), .val (.int x2), .val (.int x3), .val (.int t3), .val (.ref o8), .val (.int t20), .val (.int t34), .val (.ref o37), .val (.int (1 : Int32)), .val (.int t115), .val (.int t130)] [.int r170])
      refine Own.pop K S rfl d0_173 ?_
      refine iload K S rfl d0_174 ?_
      refine ificz_eq K S d0_176 (fun (c176 : 1 = 0) => ?_) (fun (c176 : ¬ 1 = 0) => ?_)
      · exact absurd c176 (by decide)
      refine aload K S rfl rfl d0_179 ?_
      refine callV K S (W := 0) (m_more l Z a0 hw n0 o37 o8 xr en h170_11 (Sle S) H) E_o37 (hwi hw 21 rfl) (hwi hw 22 rfl) (hwi hw 24 rfl) (hwi hw 23 rfl) (hwi hw 25 rfl) (hwi hw 4 rfl) (by decide) (by decide) (by decide) (by decide) (by decide) rfl (argsL := []) rfl (lenOf pd_3 rfl) (rest := []) rfl (Nat.le_of_eq rfl) d0_181 (pr fun T r181 pr181 S => ?_)
      show Wp n0 p e _ s below _ T (mkF m 184 #[.val (.int x0), .val (.int x1), .val (.int x2), .val (.int x3), .val (.int t3), .val (.ref o8), .val (.int t20), .val (.int t34), .val (.ref o37), .val (.int (1 : Int32)), .val (.int t115), .val (.int t130)] [.int r181])
      refine iload K S rfl d0_184 ?_
      refine iconst K S (x := (1 : Int32)) rfl d0_186 ?_
      refine isub K S d0_187 ?_
      refine nmI fun t187 ht187 => ?_
      have ft187 : (t187.toInt - (t130.toInt - 1)) % 4294967296 = 0 := by rw [ht187]; exact c_isub t130 (1 : Int32)
      have rt187 := rng32 t187
      refine ificz_le K S d0_188 (fun (c188 : ¬ 0 < t187.toInt) => ?_) (fun (c188 : 0 < t187.toInt) => ?_)
      · refine iconst K S (x := (0 : Int32)) rfl d0_195 ?_
        refine icmpz_ne K S d0_196 (fun (c196 : ¬ r181.toInt = 0) => ?_) (fun (c196 : r181.toInt = 0) => ?_)
        · exfalso; have z0 : (0 : Int32).toInt = 0 := rfl; have z1 : (1 : Int32).toInt = 1 := rfl; omega
        refine iconst K S (x := (1 : Int32)) rfl d0_199 ?_
        refine goto K S d0_200 ?_
        refine istore K S (l' := #[.val (.int x0), .val (.int x1), .val (.int x2), .val (.int x3), .val (.int t3), .val (.ref o8), .val (.int t20), .val (.int t34), .val (.ref o37), .val (.int (1 : Int32)), .val (.int t115), .val (.int t130)]) rfl d0_204 ?_
        refine iload K S rfl d0_206 ?_
        refine retn K S (by simp) (y := (1 : Int32)) rfl (by decide) (by decide) d0_208 ?_
        rfl
      refine iconst K S (x := (1 : Int32)) rfl d0_191 ?_
      refine goto K S d0_192 ?_
      refine icmpz_ne K S d0_196 (fun (c196 : ¬ r181.toInt = 1) => ?_) (fun (c196 : r181.toInt = 1) => ?_)
      · exfalso; have z0 : (0 : Int32).toInt = 0 := rfl; have z1 : (1 : Int32).toInt = 1 := rfl; omega
      refine iconst K S (x := (1 : Int32)) rfl d0_199 ?_
      refine goto K S d0_200 ?_
      refine istore K S (l' := #[.val (.int x0), .val (.int x1), .val (.int x2), .val (.int x3), .val (.int t3), .val (.ref o8), .val (.int t20), .val (.int t34), .val (.ref o37), .val (.int (1 : Int32)), .val (.int t115), .val (.int t130)]) rfl d0_204 ?_
      refine iload K S rfl d0_206 ?_
      refine retn K S (by simp) (y := (1 : Int32)) rfl (by decide) (by decide) d0_208 ?_
      rfl
    refine iconst K S (x := (1 : Int32)) rfl d0_148 ?_
    refine goto K S d0_149 ?_
    refine icmpz_ne K S d0_153 (fun (c153 : ¬ r140.toInt = 1) => ?_) (fun (c153 : r140.toInt = 1) => ?_)
    · exfalso; have z0 : (0 : Int32).toInt = 0 := rfl; have z1 : (1 : Int32).toInt = 1 := rfl; omega
    refine iconst K S (x := (1 : Int32)) rfl d0_156 ?_
    refine goto K S d0_157 ?_
    refine istore K S (l' := #[.val (.int x0), .val (.int x1), .val (.int x2), .val (.int x3), .val (.int t3), .val (.ref o8), .val (.int t20), .val (.int t34), .val (.ref o37), .val (.int (1 : Int32)), .val (.int t115), .val (.int t130)]) rfl d0_161 ?_
    refine iload K S rfl d0_163 ?_
    refine ificz_le K S d0_165 (fun (c165 : ¬ 0 < t130.toInt) => ?_) (fun (c165 : 0 < t130.toInt) => ?_)
    · refine iload K S rfl d0_206 ?_
      refine retn K S (by simp) (y := (1 : Int32)) rfl (by decide) (by decide) d0_208 ?_
      rfl
    refine aload K S rfl rfl d0_168 ?_
    refine callV K S (W := 0) (m_rb l Z a0 hw n0 o37 o8 xs en t3.toNatClampNeg h123_10 (Sle S) g_o37 H (by omega) (by omega) A_o8 (by have := own_cl (x := t3) (by omega); omega) (Ne.symm n_o8_o37)) E_o37 (hwi hw 37 rfl) (hwi hw 38 rfl) (hwi hw 40 rfl) (hwi hw 39 rfl) (hwi hw 41 rfl) (hwi hw 4 rfl) (by decide) (by decide) (by decide) (by decide) (by decide) rfl (argsL := []) rfl (lenOf pd_6 rfl) (rest := []) rfl (Nat.le_of_eq rfl) d0_170 (er fun T r170 h170_12 hP S => ?_)
    obtain ⟨xr, q170, H, K1⟩ := hP
    replace A_o8 := A_o8.keep K1 (ninS (by first | exact n_o8_o37 | exact Ne.symm n_o37_o8 | omega) nin0)
    replace E_o37 := E_o37.keep K1
    replace E_o37 := H.1
    show Wp n0 p e _ s below _ T (mkF m 173 #[.val (.int x0), .val (.int x1), .val (.int x2), .val (.int x3), .val (.int t3), .val (.ref o8), .val (.int t20), .val (.int t34), .val (.ref o37), .val (.int (1 : Int32)), .val (.int t115), .val (.int t130)] [.int r170])
    refine Own.pop K S rfl d0_173 ?_
    refine iload K S rfl d0_174 ?_
    refine ificz_eq K S d0_176 (fun (c176 : 1 = 0) => ?_) (fun (c176 : ¬ 1 = 0) => ?_)
    · exact absurd c176 (by decide)
    refine aload K S rfl rfl d0_179 ?_
    refine callV K S (W := 0) (m_more l Z a0 hw n0 o37 o8 xr en h170_12 (Sle S) H) E_o37 (hwi hw 21 rfl) (hwi hw 22 rfl) (hwi hw 24 rfl) (hwi hw 23 rfl) (hwi hw 25 rfl) (hwi hw 4 rfl) (by decide) (by decide) (by decide) (by decide) (by decide) rfl (argsL := []) rfl (lenOf pd_3 rfl) (rest := []) rfl (Nat.le_of_eq rfl) d0_181 (pr fun T r181 pr181 S => ?_)
    show Wp n0 p e _ s below _ T (mkF m 184 #[.val (.int x0), .val (.int x1), .val (.int x2), .val (.int x3), .val (.int t3), .val (.ref o8), .val (.int t20), .val (.int t34), .val (.ref o37), .val (.int (1 : Int32)), .val (.int t115), .val (.int t130)] [.int r181])
    refine iload K S rfl d0_184 ?_
    refine iconst K S (x := (1 : Int32)) rfl d0_186 ?_
    refine isub K S d0_187 ?_
    refine nmI fun t187 ht187 => ?_
    have ft187 : (t187.toInt - (t130.toInt - 1)) % 4294967296 = 0 := by rw [ht187]; exact c_isub t130 (1 : Int32)
    have rt187 := rng32 t187
    refine ificz_le K S d0_188 (fun (c188 : ¬ 0 < t187.toInt) => ?_) (fun (c188 : 0 < t187.toInt) => ?_)
    · refine iconst K S (x := (0 : Int32)) rfl d0_195 ?_
      refine icmpz_ne K S d0_196 (fun (c196 : ¬ r181.toInt = 0) => ?_) (fun (c196 : r181.toInt = 0) => ?_)
      · exfalso; have z0 : (0 : Int32).toInt = 0 := rfl; have z1 : (1 : Int32).toInt = 1 := rfl; omega
      refine iconst K S (x := (1 : Int32)) rfl d0_199 ?_
      refine goto K S d0_200 ?_
      refine istore K S (l' := #[.val (.int x0), .val (.int x1), .val (.int x2), .val (.int x3), .val (.int t3), .val (.ref o8), .val (.int t20), .val (.int t34), .val (.ref o37), .val (.int (1 : Int32)), .val (.int t115), .val (.int t130)]) rfl d0_204 ?_
      refine iload K S rfl d0_206 ?_
      refine retn K S (by simp) (y := (1 : Int32)) rfl (by decide) (by decide) d0_208 ?_
      rfl
    refine iconst K S (x := (1 : Int32)) rfl d0_191 ?_
    refine goto K S d0_192 ?_
    refine icmpz_ne K S d0_196 (fun (c196 : ¬ r181.toInt = 1) => ?_) (fun (c196 : r181.toInt = 1) => ?_)
    · exfalso; have z0 : (0 : Int32).toInt = 0 := rfl; have z1 : (1 : Int32).toInt = 1 := rfl; omega
    refine iconst K S (x := (1 : Int32)) rfl d0_199 ?_
    refine goto K S d0_200 ?_
    refine istore K S (l' := #[.val (.int x0), .val (.int x1), .val (.int x2), .val (.int x3), .val (.int t3), .val (.ref o8), .val (.int t20), .val (.int t34), .val (.ref o37), .val (.int (1 : Int32)), .val (.int t115), .val (.int t130)]) rfl d0_204 ?_
    refine iload K S rfl d0_206 ?_
    refine retn K S (by simp) (y := (1 : Int32)) rfl (by decide) (by decide) d0_208 ?_
    rfl
  refine iconst K S (x := (1 : Int32)) rfl d0_92 ?_
  refine goto K S d0_93 ?_
  refine icmpz_ne K S d0_97 (fun (c97 : ¬ r84.toInt = 1) => ?_) (fun (c97 : r84.toInt = 1) => ?_)
  · exfalso; have z0 : (0 : Int32).toInt = 0 := rfl; have z1 : (1 : Int32).toInt = 1 := rfl; omega
  refine iconst K S (x := (1 : Int32)) rfl d0_100 ?_
  refine goto K S d0_101 ?_
  refine istore K S (l' := #[.val (.int x0), .val (.int x1), .val (.int x2), .val (.int x3), .val (.int t3), .val (.ref o8), .val (.int t20), .val (.int t34), .val (.ref o37), .val (.int (1 : Int32)), .unset, .unset]) rfl d0_105 ?_
  refine iload_n K S rfl d0_107 ?_
  refine ldc K S (x := (2147483647 : Int32)) (hwi hw 1 rfl) d0_108 ?_
  refine iand K S d0_110 ?_
  refine nmI fun t110 ht110 => ?_
  have ft110 : t110.toInt = x3.toInt % 2147483648 := by rw [ht110]; exact c_mask x3 (2147483647 : Int32) 31 (by decide) (by decide)
  have rt110 := rng32 t110
  refine iload K S rfl d0_111 ?_
  refine iconst K S (x := (1 : Int32)) rfl d0_113 ?_
  refine iadd K S d0_114 ?_
  refine nmI fun t114 ht114 => ?_
  have ft114 : (t114.toInt - (t34.toInt + 1)) % 4294967296 = 0 := by rw [ht114]; exact c_iadd t34 (1 : Int32)
  have rt114 := rng32 t114
  refine irem K S (own_nz (by omega)) d0_115 ?_
  refine nmI fun t115 ht115 => ?_
  have ft115 : 0 ≤ t115.toInt ∧ t115.toInt < t114.toInt := by rw [ht115]; exact ⟨((c_iremV t110 t114).1 (by omega) (by omega)).1, ((c_iremV t110 t114).1 (by omega) (by omega)).2.1⟩
  have rt115 := rng32 t115
  refine istore K S (l' := #[.val (.int x0), .val (.int x1), .val (.int x2), .val (.int x3), .val (.int t3), .val (.ref o8), .val (.int t20), .val (.int t34), .val (.ref o37), .val (.int (1 : Int32)), .val (.int t115), .unset]) rfl d0_116 ?_
  refine aload K S rfl rfl d0_118 ?_
  refine iload K S rfl d0_120 ?_
  refine i2l K S d0_122 ?_
  refine nmL fun t122 ht122 => ?_
  have ft122 : t122.toInt = t115.toInt := by rw [ht122]; exact c_i2l t115
  have rt122 := rng64 t122
  refine callV K S (W := 0) (m_skip l Z a0 hw n0 o37 o8 t20 en t122 h47_3 (Sle S) g_o37 H (by omega) (by omega) (by omega)) E_o37 (hwi hw 28 rfl) (hwi hw 29 rfl) (hwi hw 31 rfl) (hwi hw 30 rfl) (hwi hw 32 rfl) (hwi hw 4 rfl) (by decide) (by decide) (by decide) (by decide) (by decide) rfl (argsL := [.long t122]) rfl (lenOf pd_4 rfl) (rest := []) rfl (Nat.le_of_eq rfl) d0_123 (ef fun T h123_13 hP S => ?_)
  obtain ⟨xs, q123, H, K1⟩ := hP
  replace A_o8 := A_o8.keep K1 (ninS (by first | exact n_o8_o37 | exact Ne.symm n_o37_o8 | omega) nin0)
  replace E_o37 := E_o37.keep K1
  replace E_o37 := H.1
  show Wp n0 p e _ s below _ T (mkF m 126 #[.val (.int x0), .val (.int x1), .val (.int x2), .val (.int x3), .val (.int t3), .val (.ref o8), .val (.int t20), .val (.int t34), .val (.ref o37), .val (.int (1 : Int32)), .val (.int t115), .unset] [])
  refine iload K S rfl d0_126 ?_
  refine iload K S rfl d0_128 ?_
  refine isub K S d0_130 ?_
  refine nmI fun t130 ht130 => ?_
  have ft130 : (t130.toInt - (t34.toInt - t115.toInt)) % 4294967296 = 0 := by rw [ht130]; exact c_isub t34 t115
  have rt130 := rng32 t130
  refine istore K S (l' := #[.val (.int x0), .val (.int x1), .val (.int x2), .val (.int x3), .val (.int t3), .val (.ref o8), .val (.int t20), .val (.int t34), .val (.ref o37), .val (.int (1 : Int32)), .val (.int t115), .val (.int t130)]) rfl d0_131 ?_
  refine iload K S rfl d0_133 ?_
  refine ificz_eq K S d0_135 (fun (c135 : 1 = 0) => ?_) (fun (c135 : ¬ 1 = 0) => ?_)
  · exact absurd c135 (by decide)
  refine aload K S rfl rfl d0_138 ?_
  refine callV K S (W := 0) (m_more l Z a0 hw n0 o37 o8 xs en h123_13 (Sle S) H) E_o37 (hwi hw 21 rfl) (hwi hw 22 rfl) (hwi hw 24 rfl) (hwi hw 23 rfl) (hwi hw 25 rfl) (hwi hw 4 rfl) (by decide) (by decide) (by decide) (by decide) (by decide) rfl (argsL := []) rfl (lenOf pd_3 rfl) (rest := []) rfl (Nat.le_of_eq rfl) d0_140 (pr fun T r140 pr140 S => ?_)
  show Wp n0 p e _ s below _ T (mkF m 143 #[.val (.int x0), .val (.int x1), .val (.int x2), .val (.int x3), .val (.int t3), .val (.ref o8), .val (.int t20), .val (.int t34), .val (.ref o37), .val (.int (1 : Int32)), .val (.int t115), .val (.int t130)] [.int r140])
  refine iload K S rfl d0_143 ?_
  refine ificz_le K S d0_145 (fun (c145 : ¬ 0 < t130.toInt) => ?_) (fun (c145 : 0 < t130.toInt) => ?_)
  · refine iconst K S (x := (0 : Int32)) rfl d0_152 ?_
    refine icmpz_ne K S d0_153 (fun (c153 : ¬ r140.toInt = 0) => ?_) (fun (c153 : r140.toInt = 0) => ?_)
    · exfalso; have z0 : (0 : Int32).toInt = 0 := rfl; have z1 : (1 : Int32).toInt = 1 := rfl; omega
    refine iconst K S (x := (1 : Int32)) rfl d0_156 ?_
    refine goto K S d0_157 ?_
    refine istore K S (l' := #[.val (.int x0), .val (.int x1), .val (.int x2), .val (.int x3), .val (.int t3), .val (.ref o8), .val (.int t20), .val (.int t34), .val (.ref o37), .val (.int (1 : Int32)), .val (.int t115), .val (.int t130)]) rfl d0_161 ?_
    refine iload K S rfl d0_163 ?_
    refine ificz_le K S d0_165 (fun (c165 : ¬ 0 < t130.toInt) => ?_) (fun (c165 : 0 < t130.toInt) => ?_)
    · refine iload K S rfl d0_206 ?_
      refine retn K S (by simp) (y := (1 : Int32)) rfl (by decide) (by decide) d0_208 ?_
      rfl
    refine aload K S rfl rfl d0_168 ?_
    refine callV K S (W := 0) (m_rb l Z a0 hw n0 o37 o8 xs en t3.toNatClampNeg h123_13 (Sle S) g_o37 H (by omega) (by omega) A_o8 (by have := own_cl (x := t3) (by omega); omega) (Ne.symm n_o8_o37)) E_o37 (hwi hw 37 rfl) (hwi hw 38 rfl) (hwi hw 40 rfl) (hwi hw 39 rfl) (hwi hw 41 rfl) (hwi hw 4 rfl) (by decide) (by decide) (by decide) (by decide) (by decide) rfl (argsL := []) rfl (lenOf pd_6 rfl) (rest := []) rfl (Nat.le_of_eq rfl) d0_170 (er fun T r170 h170_14 hP S => ?_)
    obtain ⟨xr, q170, H, K1⟩ := hP
    replace A_o8 := A_o8.keep K1 (ninS (by first | exact n_o8_o37 | exact Ne.symm n_o37_o8 | omega) nin0)
    replace E_o37 := E_o37.keep K1
    replace E_o37 := H.1
    show Wp n0 p e _ s below _ T (mkF m 173 #[.val (.int x0), .val (.int x1), .val (.int x2), .val (.int x3), .val (.int t3), .val (.ref o8), .val (.int t20), .val (.int t34), .val (.ref o37), .val (.int (1 : Int32)), .val (.int t115), .val (.int t130)] [.int r170])
    refine Own.pop K S rfl d0_173 ?_
    refine iload K S rfl d0_174 ?_
    refine ificz_eq K S d0_176 (fun (c176 : 1 = 0) => ?_) (fun (c176 : ¬ 1 = 0) => ?_)
    · exact absurd c176 (by decide)
    refine aload K S rfl rfl d0_179 ?_
    refine callV K S (W := 0) (m_more l Z a0 hw n0 o37 o8 xr en h170_14 (Sle S) H) E_o37 (hwi hw 21 rfl) (hwi hw 22 rfl) (hwi hw 24 rfl) (hwi hw 23 rfl) (hwi hw 25 rfl) (hwi hw 4 rfl) (by decide) (by decide) (by decide) (by decide) (by decide) rfl (argsL := []) rfl (lenOf pd_3 rfl) (rest := []) rfl (Nat.le_of_eq rfl) d0_181 (pr fun T r181 pr181 S => ?_)
    show Wp n0 p e _ s below _ T (mkF m 184 #[.val (.int x0), .val (.int x1), .val (.int x2), .val (.int x3), .val (.int t3), .val (.ref o8), .val (.int t20), .val (.int t34), .val (.ref o37), .val (.int (1 : Int32)), .val (.int t115), .val (.int t130)] [.int r181])
    refine iload K S rfl d0_184 ?_
    refine iconst K S (x := (1 : Int32)) rfl d0_186 ?_
    refine isub K S d0_187 ?_
    refine nmI fun t187 ht187 => ?_
    have ft187 : (t187.toInt - (t130.toInt - 1)) % 4294967296 = 0 := by rw [ht187]; exact c_isub t130 (1 : Int32)
    have rt187 := rng32 t187
    refine ificz_le K S d0_188 (fun (c188 : ¬ 0 < t187.toInt) => ?_) (fun (c188 : 0 < t187.toInt) => ?_)
    · refine iconst K S (x := (0 : Int32)) rfl d0_195 ?_
      refine icmpz_ne K S d0_196 (fun (c196 : ¬ r181.toInt = 0) => ?_) (fun (c196 : r181.toInt = 0) => ?_)
      · exfalso; have z0 : (0 : Int32).toInt = 0 := rfl; have z1 : (1 : Int32).toInt = 1 := rfl; omega
      refine iconst K S (x := (1 : Int32)) rfl d0_199 ?_
      refine goto K S d0_200 ?_
      refine istore K S (l' := #[.val (.int x0), .val (.int x1), .val (.int x2), .val (.int x3), .val (.int t3), .val (.ref o8), .val (.int t20), .val (.int t34), .val (.ref o37), .val (.int (1 : Int32)), .val (.int t115), .val (.int t130)]) rfl d0_204 ?_
      refine iload K S rfl d0_206 ?_
      refine retn K S (by simp) (y := (1 : Int32)) rfl (by decide) (by decide) d0_208 ?_
      rfl
    refine iconst K S (x := (1 : Int32)) rfl d0_191 ?_
    refine goto K S d0_192 ?_
    refine icmpz_ne K S d0_196 (fun (c196 : ¬ r181.toInt = 1) => ?_) (fun (c196 : r181.toInt = 1) => ?_)
    · exfalso; have z0 : (0 : Int32).toInt = 0 := rfl; have z1 : (1 : Int32).toInt = 1 := rfl; omega
    refine iconst K S (x := (1 : Int32)) rfl d0_199 ?_
    refine goto K S d0_200 ?_
    refine istore K S (l' := #[.val (.int x0), .val (.int x1), .val (.int x2), .val (.int x3), .val (.int t3), .val (.ref o8), .val (.int t20), .val (.int t34), .val (.ref o37), .val (.int (1 : Int32)), .val (.int t115), .val (.int t130)]) rfl d0_204 ?_
    refine iload K S rfl d0_206 ?_
    refine retn K S (by simp) (y := (1 : Int32)) rfl (by decide) (by decide) d0_208 ?_
    rfl
  refine iconst K S (x := (1 : Int32)) rfl d0_148 ?_
  refine goto K S d0_149 ?_
  refine icmpz_ne K S d0_153 (fun (c153 : ¬ r140.toInt = 1) => ?_) (fun (c153 : r140.toInt = 1) => ?_)
  · exfalso; have z0 : (0 : Int32).toInt = 0 := rfl; have z1 : (1 : Int32).toInt = 1 := rfl; omega
  refine iconst K S (x := (1 : Int32)) rfl d0_156 ?_
  refine goto K S d0_157 ?_
  refine istore K S (l' := #[.val (.int x0), .val (.int x1), .val (.int x2), .val (.int x3), .val (.int t3), .val (.ref o8), .val (.int t20), .val (.int t34), .val (.ref o37), .val (.int (1 : Int32)), .val (.int t115), .val (.int t130)]) rfl d0_161 ?_
  refine iload K S rfl d0_163 ?_
  refine ificz_le K S d0_165 (fun (c165 : ¬ 0 < t130.toInt) => ?_) (fun (c165 : 0 < t130.toInt) => ?_)
  · refine iload K S rfl d0_206 ?_
    refine retn K S (by simp) (y := (1 : Int32)) rfl (by decide) (by decide) d0_208 ?_
    rfl
  refine aload K S rfl rfl d0_168 ?_
  refine callV K S (W := 0) (m_rb l Z a0 hw n0 o37 o8 xs en t3.toNatClampNeg h123_13 (Sle S) g_o37 H (by omega) (by omega) A_o8 (by have := own_cl (x := t3) (by omega); omega) (Ne.symm n_o8_o37)) E_o37 (hwi hw 37 rfl) (hwi hw 38 rfl) (hwi hw 40 rfl) (hwi hw 39 rfl) (hwi hw 41 rfl) (hwi hw 4 rfl) (by decide) (by decide) (by decide) (by decide) (by decide) rfl (argsL := []) rfl (lenOf pd_6 rfl) (rest := []) rfl (Nat.le_of_eq rfl) d0_170 (er fun T r170 h170_15 hP S => ?_)
  obtain ⟨xr, q170, H, K1⟩ := hP
  replace A_o8 := A_o8.keep K1 (ninS (by first | exact n_o8_o37 | exact Ne.symm n_o37_o8 | omega) nin0)
  replace E_o37 := E_o37.keep K1
  replace E_o37 := H.1
  show Wp n0 p e _ s below _ T (mkF m 173 #[.val (.int x0), .val (.int x1), .val (.int x2), .val (.int x3), .val (.int t3), .val (.ref o8), .val (.int t20), .val (.int t34), .val (.ref o37), .val (.int (1 : Int32)), .val (.int t115), .val (.int t130)] [.int r170])
  refine Own.pop K S rfl d0_173 ?_
  refine iload K S rfl d0_174 ?_
  refine ificz_eq K S d0_176 (fun (c176 : 1 = 0) => ?_) (fun (c176 : ¬ 1 = 0) => ?_)
  · exact absurd c176 (by decide)
  refine aload K S rfl rfl d0_179 ?_
  refine callV K S (W := 0) (m_more l Z a0 hw n0 o37 o8 xr en h170_15 (Sle S) H) E_o37 (hwi hw 21 rfl) (hwi hw 22 rfl) (hwi hw 24 rfl) (hwi hw 23 rfl) (hwi hw 25 rfl) (hwi hw 4 rfl) (by decide) (by decide) (by decide) (by decide) (by decide) rfl (argsL := []) rfl (lenOf pd_3 rfl) (rest := []) rfl (Nat.le_of_eq rfl) d0_181 (pr fun T r181 pr181 S => ?_)
  show Wp n0 p e _ s below _ T (mkF m 184 #[.val (.int x0), .val (.int x1), .val (.int x2), .val (.int x3), .val (.int t3), .val (.ref o8), .val (.int t20), .val (.int t34), .val (.ref o37), .val (.int (1 : Int32)), .val (.int t115), .val (.int t130)] [.int r181])
  refine iload K S rfl d0_184 ?_
  refine iconst K S (x := (1 : Int32)) rfl d0_186 ?_
  refine isub K S d0_187 ?_
  refine nmI fun t187 ht187 => ?_
  have ft187 : (t187.toInt - (t130.toInt - 1)) % 4294967296 = 0 := by rw [ht187]; exact c_isub t130 (1 : Int32)
  have rt187 := rng32 t187
  refine ificz_le K S d0_188 (fun (c188 : ¬ 0 < t187.toInt) => ?_) (fun (c188 : 0 < t187.toInt) => ?_)
  · refine iconst K S (x := (0 : Int32)) rfl d0_195 ?_
    refine icmpz_ne K S d0_196 (fun (c196 : ¬ r181.toInt = 0) => ?_) (fun (c196 : r181.toInt = 0) => ?_)
    · exfalso; have z0 : (0 : Int32).toInt = 0 := rfl; have z1 : (1 : Int32).toInt = 1 := rfl; omega
    refine iconst K S (x := (1 : Int32)) rfl d0_199 ?_
    refine goto K S d0_200 ?_
    refine istore K S (l' := #[.val (.int x0), .val (.int x1), .val (.int x2), .val (.int x3), .val (.int t3), .val (.ref o8), .val (.int t20), .val (.int t34), .val (.ref o37), .val (.int (1 : Int32)), .val (.int t115), .val (.int t130)]) rfl d0_204 ?_
    refine iload K S rfl d0_206 ?_
    refine retn K S (by simp) (y := (1 : Int32)) rfl (by decide) (by decide) d0_208 ?_
    rfl
  refine iconst K S (x := (1 : Int32)) rfl d0_191 ?_
  refine goto K S d0_192 ?_
  refine icmpz_ne K S d0_196 (fun (c196 : ¬ r181.toInt = 1) => ?_) (fun (c196 : r181.toInt = 1) => ?_)
  · exfalso; have z0 : (0 : Int32).toInt = 0 := rfl; have z1 : (1 : Int32).toInt = 1 := rfl; omega
  refine iconst K S (x := (1 : Int32)) rfl d0_199 ?_
  refine goto K S d0_200 ?_
  refine istore K S (l' := #[.val (.int x0), .val (.int x1), .val (.int x2), .val (.int x3), .val (.int t3), .val (.ref o8), .val (.int t20), .val (.int t34), .val (.ref o37), .val (.int (1 : Int32)), .val (.int t115), .val (.int t130)]) rfl d0_204 ?_
  refine iload K S rfl d0_206 ?_
  refine retn K S (by simp) (y := (1 : Int32)) rfl (by decide) (by decide) d0_208 ?_
  rfl

set_option maxRecDepth 65536 in
set_option maxHeartbeats 40000000 in
theorem comes_1 {Post : Tables → Env → Array Value → State → Outcome → State → Prop} (hpost : ∀ tb e args s v u, (limb_1_1.after args s (.returned v) u = true ∧ limb_1_2.after args s (.returned v) u = true ∧ True) → FrameEnd s (.returned v) u (Jvm.fieldLocs frame_1_writes args s ++ Jvm.arrayLocs frame_1_arrays args s ++ Jvm.staticLocs frame_1_statics s) 16 128 → Post tb e args s (.returned v) u) :
    ArmFor flags0 classFile x code maxLocals ret World_1 tables_1 room_1 Calls_1 rest_1 Pre_1 Post := by
  intro l hfl _ _ p e ha hc hk s m args below hf hA hF happ hP
  obtain ⟨hcalls, hrest, hpre⟩ := hP
  obtain ⟨-, -, -, hnamed, -, -, -, hat⟩ := (Spec.applies_iff hf).mp happ
  obtain ⟨hg, hn⟩ := and_e (Cond.before_iff.mp (show (Jvm.Cond.and given_1 narrow_1).before args s = true from hpre))
  obtain ⟨gc, r0⟩ := and_e hg
  obtain ⟨g0, r1⟩ := and_e r0
  obtain ⟨g1, r2⟩ := and_e r1
  obtain ⟨g2, r3⟩ := and_e r2
  obtain ⟨w0, w1, w2, w3, rfl⟩ : ∃ w0 w1 w2 w3 : Value, args = #[w0, w1, w2, w3] := by
    have hs : args.size = 4 := by simpa [Cond.value, given_1] using gc
    obtain ⟨L⟩ := args
    match L, hs with
    | [w0, w1, w2, w3], _ => exact ⟨w0, w1, w2, w3, rfl⟩
  have hw := fun d (hd : d ∈ tables_1) => atoms_spec (ws := Jvm.Cond.code x code maxLocals ret :: tables_1) hat d (List.mem_cons_of_mem _ hd)
  obtain ⟨i0, ei0⟩ := is_v g0
  obtain rfl : w0 = (.int i0) := Option.some.inj ei0
  obtain ⟨i1, ei1⟩ := is_v g1
  obtain rfl : w1 = (.int i1) := Option.some.inj ei1
  obtain ⟨i2, ei2⟩ := is_v g2
  obtain rfl : w2 = (.int i2) := Option.some.inj ei2
  obtain ⟨i3, ei3⟩ := is_v r3
  obtain rfl : w3 = (.int i3) := Option.some.inj ei3
  obtain ⟨n, o, h1, h2, h3, _, L, rfl, ⟨rfl, -, N⟩, hq⟩ := m_law l s _ hw s.heap.size i0 i1 i2 i3 s.heap (Nat.le_refl _) p e ha hc hk s m _ below hf ((Spec.applies_iff_loose hf).mp happ).1 ⟨rfl, State.Warmed39.refl s, rfl⟩ trivial
  refine ⟨n, _, h1, h2, h3, hpost _ _ _ _ _ _ ⟨Cond.after_iff.mpr rfl, Cond.after_iff.mpr (eq_i res_at (Term.int_eval (1)) rfl), trivial⟩ ⟨hq.1, hq.2.1, (hq.2.2.sift fun y hy => Or.inr (N y hy)).mono (by decide) (by decide)⟩⟩
theorem main_1_1 : Claimed_1_1 := comes_1 fun _ _ _ _ _ _ h hF => ⟨h.1, hF⟩
theorem main_1_2 : Claimed_1_2 := comes_1 fun _ _ _ _ _ _ h hF => ⟨h.2.1, hF⟩
end Jvm.Pilot.@@N@@
namespace Jvm.Pilot.@@N@@
open Jvm Jvm.ClassFile Sem Op Lib Jvm.Free Jvm.Stand Jvm.Pilot.@@N@@.Jvm.D
/-! MADE BY PROGRAM (witnessworld.py) out of the Statement's table words and the real class files: 10 classes; the members and pool entries that the words name. The judged class is class 1, her method 1. -/
namespace start1
open Jvm.ClassFile
def u (s : String) : CpInfo := .utf8 (stringToUtf16 s)
/-- a pool by its gaps: so many unusable entries, then the entry; so many at the end -/
def gap : Nat → List CpInfo → List CpInfo
  | 0, r => r
  | n + 1, r => .unusable :: gap n r
def poolList (es : List (Nat × CpInfo)) (last : Nat) : List CpInfo := es.foldr (fun e r => gap e.1 (e.2 :: r)) (gap last [])
def pool (es : List (Nat × CpInfo)) (last : Nat) : Array CpInfo := ⟨poolList es last⟩
def fileOf (pool : Array CpInfo) (this : Nat) (attrs : Array Attribute := #[]) (ms : Array MethodInfo := #[]) (fl : Nat := 33) (sup : Nat := 0) (ifs : Array Nat := #[]) (fds : Array FieldInfo := #[]) : ClassFile where
  minorVersion := 0
  majorVersion := 65
  constantPool := pool
  accessFlags := fl
  thisClass := this
  superClass := sup
  interfaces := ifs
  fields := fds
  methods := ms
  attributes := attrs
def plain (name : String) (sup : Option ClassId) : Class where
  name := name
  kind := .ordinary
  loader := none
  accessFlags := 33
  super := sup
  interfaces := #[]
  cf := none
  fields := #[]
  methods := #[]
  instanceTypes := #[]
  staticTypes := #[]
  resolved := #[]
  callSites := []
  init := .initialized
  statics := none
  mirror := none

def pool0 : Array CpInfo := pool [(5, u "<init>"), (0, u "()V"), (1, .class_ 10), (1, u "java/lang/Object")] 113

def k0c0 : Code := { maxStack := 0, maxLocals := 1, code := object_method_1_code, exceptionTable := #[], attributes := #[] }
def k0m0 : Method := { name := "<init>", desc := "()V", sig := { parameters := [], returnType := none }, accessFlags := 1, code := some k0c0 }
/-- java/lang/Object -/
def k0 : Class := { plain "java/lang/Object" none with
  accessFlags := 33
  interfaces := #[]
  cf := some (fileOf pool0 8 #[] #[{ accessFlags := 1, nameIndex := 5, descriptorIndex := 6, attributes := #[] }] 33 0 #[] #[])
  fields := #[]
  methods := #[k0m0]
  instanceTypes := #[]
  staticTypes := #[]
  resolved := Array.replicate 124 none
  statics := none }

def pool1 : Array CpInfo := pool [(2, .class_ 4), (1, u "java/lang/Object"), (0, u "<init>"), (0, u "()V"), (0, .integer 2147483647), (0, .class_ 9), (0, u "com/example/awardsmith/awardsmith/spill/ByteReader"), (0, .methodref 8 11), (0, .nameAndType 5 12), (0, u "([BII)V"), (0, .methodref 8 14), (0, .nameAndType 15 16), (0, u "hasMore"), (0, u "()Z"), (0, .methodref 8 18), (0, .nameAndType 19 20), (0, u "skip"), (0, u "(J)V"), (0, .methodref 8 22), (0, .nameAndType 23 16), (0, u "readBoolean"), (0, .class_ 25), (0, u "com/example/awardsmith/awardsmith/spill/ByteReaderHasMorePinLaw"), (2, u "law"), (0, u "(IIII)Z")] 8

def k1m0 : Method := { name := "<init>", desc := "()V", sig := { parameters := [], returnType := none }, accessFlags := 1, code := none }
def k1c1 : Code := { maxStack := 5, maxLocals := 12, code := code, exceptionTable := #[], attributes := #[] }
def k1m1 : Method := { name := "law", desc := "(IIII)Z", sig := { parameters := [.int, .int, .int, .int], returnType := some .boolean }, accessFlags := 9, code := some k1c1 }
/-- com/example/awardsmith/awardsmith/spill/ByteReaderHasMorePinLaw -/
def k1 : Class := { plain "com/example/awardsmith/awardsmith/spill/ByteReaderHasMorePinLaw" (some 0) with
  accessFlags := 49
  interfaces := #[]
  cf := some (fileOf pool1 24 #[] #[{ accessFlags := 1, nameIndex := 5, descriptorIndex := 6, attributes := #[] }, { accessFlags := 9, nameIndex := 28, descriptorIndex := 29, attributes := #[] }] 49 2 #[] #[])
  fields := #[]
  methods := #[k1m0, k1m1]
  instanceTypes := #[]
  staticTypes := #[]
  resolved := Array.replicate 38 none
  statics := none }

def pool2 : Array CpInfo := pool [(1, .methodref 2 3), (0, .class_ 4), (0, .nameAndType 5 6), (0, u "java/lang/Object"), (0, u "<init>"), (0, u "()V"), (0, .fieldref 8 9), (0, .class_ 10), (0, .nameAndType 11 12), (0, u "com/example/awardsmith/awardsmith/spill/ByteReader"), (0, u "channel"), (0, u "Ljava/nio/channels/FileChannel;"), (0, .fieldref 8 14), (0, .nameAndType 15 16), (0, u "bytes"), (0, u "[B"), (0, .fieldref 8 18), (0, .nameAndType 19 20), (0, u "at"), (0, u "I"), (0, .fieldref 8 22), (0, .nameAndType 23 20), (0, u "end"), (0, .fieldref 8 25), (0, .nameAndType 26 27), (0, u "limit"), (0, u "J"), (2, u "([BII)V"), (0, .fieldref 8 32), (0, .nameAndType 33 27), (0, u "next"), (15, .methodref 8 50), (0, .nameAndType 51 52), (0, u "need"), (0, u "(I)V"), (11, .class_ 66), (1, u "java/lang/Math"), (0, u "min"), (42, .methodref 64 111), (0, .nameAndType 67 112), (0, u "(JJ)J"), (26, u "hasMore"), (0, u "()Z"), (4, u "readBoolean"), (5, u "skip"), (0, u "(J)V")] 17

def k2c0 : Code := { maxStack := 3, maxLocals := 4, code := prog_99_method_1_code, exceptionTable := #[], attributes := #[] }
def k2m0 : Method := { name := "<init>", desc := "([BII)V", sig := { parameters := [(.array .byte), .int, .int], returnType := none }, accessFlags := 0, code := some k2c0 }
def k2c1 : Code := { maxStack := 4, maxLocals := 1, code := prog_99_method_4_code, exceptionTable := #[], attributes := #[] }
def k2m1 : Method := { name := "hasMore", desc := "()Z", sig := { parameters := [], returnType := some .boolean }, accessFlags := 1, code := some k2c1 }
def k2c2 : Code := { maxStack := 5, maxLocals := 1, code := prog_99_method_10_code, exceptionTable := #[], attributes := #[] }
def k2m2 : Method := { name := "readBoolean", desc := "()Z", sig := { parameters := [], returnType := some .boolean }, accessFlags := 1, code := some k2c2 }
def k2c3 : Code := { maxStack := 6, maxLocals := 7, code := prog_99_method_14_code, exceptionTable := #[], attributes := #[] }
def k2m3 : Method := { name := "skip", desc := "(J)V", sig := { parameters := [.long], returnType := none }, accessFlags := 1, code := some k2c3 }
def k2c4 : Code := { maxStack := 8, maxLocals := 4, code := prog_99_method_16_code, exceptionTable := #[], attributes := #[] }
def k2m4 : Method := { name := "need", desc := "(I)V", sig := { parameters := [.int], returnType := none }, accessFlags := 2, code := some k2c4 }
/-- com/example/awardsmith/awardsmith/spill/ByteReader -/
def k2 : Class := { plain "com/example/awardsmith/awardsmith/spill/ByteReader" (some 0) with
  accessFlags := 33
  interfaces := #[]
  cf := some (fileOf pool2 8 #[] #[{ accessFlags := 0, nameIndex := 5, descriptorIndex := 30, attributes := #[] }, { accessFlags := 1, nameIndex := 139, descriptorIndex := 140, attributes := #[] }, { accessFlags := 1, nameIndex := 145, descriptorIndex := 140, attributes := #[] }, { accessFlags := 1, nameIndex := 151, descriptorIndex := 152, attributes := #[] }, { accessFlags := 2, nameIndex := 51, descriptorIndex := 52, attributes := #[] }] 33 2 #[] #[{ accessFlags := 18, nameIndex := 11, descriptorIndex := 12, attributes := #[] }, { accessFlags := 18, nameIndex := 15, descriptorIndex := 16, attributes := #[] }, { accessFlags := 2, nameIndex := 19, descriptorIndex := 20, attributes := #[] }, { accessFlags := 2, nameIndex := 23, descriptorIndex := 20, attributes := #[] }, { accessFlags := 2, nameIndex := 33, descriptorIndex := 27, attributes := #[] }, { accessFlags := 18, nameIndex := 26, descriptorIndex := 27, attributes := #[] }])
  fields := #[{ name := "channel", type := (.object "java/nio/channels/FileChannel"), accessFlags := 18, slot := 0, constantValue := 0 }, { name := "bytes", type := (.array .byte), accessFlags := 18, slot := 1, constantValue := 0 }, { name := "at", type := .int, accessFlags := 2, slot := 2, constantValue := 0 }, { name := "end", type := .int, accessFlags := 2, slot := 3, constantValue := 0 }, { name := "next", type := .long, accessFlags := 2, slot := 4, constantValue := 0 }, { name := "limit", type := .long, accessFlags := 18, slot := 5, constantValue := 0 }]
  methods := #[k2m0, k2m1, k2m2, k2m3, k2m4]
  instanceTypes := #[(.object "java/nio/channels/FileChannel"), (.array .byte), .int, .int, .long, .long]
  staticTypes := #[]
  resolved := Array.replicate 170 none
  statics := none }

def pool3 : Array CpInfo := pool [(1, .class_ 2), (0, u "java/lang/Math"), (1, .class_ 6), (1, u "java/lang/Object"), (0, u "<init>"), (0, u "()V"), (89, .class_ 100), (1, u "java/lang/Math$RandomNumberGeneratorHolder"), (20, u "(JJ)J"), (50, u "negativeZeroFloatBits"), (0, u "J"), (2, u "negativeZeroDoubleBits"), (24, u "min"), (43, u "$assertionsDisabled"), (0, u "Z"), (91, u "twoToTheDoubleScaleDown"), (0, u "D"), (4, u "twoToTheDoubleScaleUp"), (9, u "E"), (3, u "PI"), (2, u "TAU"), (2, u "DEGREES_TO_RADIANS"), (0, u "RADIANS_TO_DEGREES")] 94

def k3m0 : Method := { name := "<init>", desc := "()V", sig := { parameters := [], returnType := none }, accessFlags := 2, code := none }
def k3c1 : Code := { maxStack := 4, maxLocals := 4, code := jdk_29_method_70_code, exceptionTable := #[], attributes := #[] }
def k3m1 : Method := { name := "min", desc := "(JJ)J", sig := { parameters := [.long, .long], returnType := some .long }, accessFlags := 9, code := some k3c1 }
/-- java/lang/Math -/
def k3 : Class := { plain "java/lang/Math" (some 0) with
  accessFlags := 49
  interfaces := #[]
  cf := some (fileOf pool3 1 #[.nestMembers #[98]] #[{ accessFlags := 2, nameIndex := 7, descriptorIndex := 8, attributes := #[] }, { accessFlags := 9, nameIndex := 201, descriptorIndex := 121, attributes := #[] }] 49 4 #[] #[{ accessFlags := 25, nameIndex := 354, descriptorIndex := 339, attributes := #[] }, { accessFlags := 25, nameIndex := 358, descriptorIndex := 339, attributes := #[] }, { accessFlags := 25, nameIndex := 361, descriptorIndex := 339, attributes := #[] }, { accessFlags := 26, nameIndex := 364, descriptorIndex := 339, attributes := #[] }, { accessFlags := 26, nameIndex := 365, descriptorIndex := 339, attributes := #[] }, { accessFlags := 26, nameIndex := 172, descriptorIndex := 173, attributes := #[] }, { accessFlags := 26, nameIndex := 176, descriptorIndex := 173, attributes := #[] }, { accessFlags := 8, nameIndex := 344, descriptorIndex := 339, attributes := #[] }, { accessFlags := 8, nameIndex := 338, descriptorIndex := 339, attributes := #[] }, { accessFlags := 4120, nameIndex := 245, descriptorIndex := 246, attributes := #[] }])
  fields := #[{ name := "E", type := .double, accessFlags := 25, slot := 0, constantValue := 0 }, { name := "PI", type := .double, accessFlags := 25, slot := 1, constantValue := 0 }, { name := "TAU", type := .double, accessFlags := 25, slot := 2, constantValue := 0 }, { name := "DEGREES_TO_RADIANS", type := .double, accessFlags := 26, slot := 3, constantValue := 0 }, { name := "RADIANS_TO_DEGREES", type := .double, accessFlags := 26, slot := 4, constantValue := 0 }, { name := "negativeZeroFloatBits", type := .long, accessFlags := 26, slot := 5, constantValue := 0 }, { name := "negativeZeroDoubleBits", type := .long, accessFlags := 26, slot := 6, constantValue := 0 }, { name := "twoToTheDoubleScaleUp", type := .double, accessFlags := 8, slot := 7, constantValue := 0 }, { name := "twoToTheDoubleScaleDown", type := .double, accessFlags := 8, slot := 8, constantValue := 0 }, { name := "$assertionsDisabled", type := .boolean, accessFlags := 4120, slot := 9, constantValue := 0 }]
  methods := #[k3m0, k3m1]
  instanceTypes := #[]
  staticTypes := #[.double, .double, .double, .double, .double, .long, .long, .double, .double, .boolean]
  resolved := Array.replicate 460 none
  statics := none }

def pool4 : Array CpInfo := pool [(1, u "java/lang/Cloneable"), (0, .class_ 1), (0, u "java/lang/Object"), (0, .class_ 3)] 3

/-- java/lang/Cloneable -/
def k4 : Class := { plain "java/lang/Cloneable" (some 0) with
  accessFlags := 1537
  interfaces := #[]
  cf := some (fileOf pool4 2 #[] #[] 1537 4 #[] #[])
  fields := #[]
  methods := #[]
  instanceTypes := #[]
  staticTypes := #[]
  resolved := Array.replicate 8 none
  statics := none }

def pool5 : Array CpInfo := pool [(1, u "java/io/Serializable"), (0, .class_ 1), (0, u "java/lang/Object"), (0, .class_ 3)] 3

/-- java/io/Serializable -/
def k5 : Class := { plain "java/io/Serializable" (some 0) with
  accessFlags := 1537
  interfaces := #[]
  cf := some (fileOf pool5 2 #[] #[] 1537 4 #[] #[])
  fields := #[]
  methods := #[]
  instanceTypes := #[]
  staticTypes := #[]
  resolved := Array.replicate 8 none
  statics := none }

/-- the primitive byte -/
def k6 : Class := { plain "byte" none with kind := .primitive 'B', accessFlags := 0x411 }
/-- [B -/
def k7 : Class := { plain "[B" (some 0) with kind := .array 6 .byte, interfaces := #[4, 5], accessFlags := 1041 }

/-- the primitive int -/
def k8 : Class := { plain "int" none with kind := .primitive 'I', accessFlags := 0x411 }
/-- [I -/
def k9 : Class := { plain "[I" (some 0) with kind := .array 8 .int, interfaces := #[4, 5], accessFlags := 1041 }

def heap : Heap := #[]
def classes : Array Class := #[k0, k1, k2, k3, k4, k5, k6, k7, k8, k9]
def interned : List (Array UInt16 × Addr) := []
def slotsUsed : Nat := 0
def theMethod : MethodId := ⟨1, 1⟩
def args0 : Array Value := #[.int 5, .int 300, .int 7, .int 3]
def aboutOver (below : List Frame) : State where
  vm := { classes := classes, interned := interned.toArray }
  heap := heap
  slotsUsed := slotsUsed
  threads := #[{ frames := .invoking theMethod args0 :: below }]
def below0 : List Frame := [.native { method := ⟨0, 0⟩, args := #[] }]
def about1 : State := aboutOver below0
def p0 : Program := .bare "" "" ""
def e0 : Env := launch0.env 0 0 0
theorem w_frames : about1.frames = Frame.invoking theMethod args0 :: below0 := rfl
set_option maxRecDepth 65536 in
theorem w_args : argsFit about1.vm theMethod args0 = true := by decide +kernel
set_option maxRecDepth 65536 in
theorem w_heap : heapFits about1 = true := by decide +kernel
set_option maxRecDepth 65536 in
theorem w_runnable : about1.curStatus? = some .runnable := by decide +kernel
set_option maxRecDepth 65536 in
theorem w_alone : about1.alone = true := by decide +kernel
set_option maxRecDepth 65536 in
theorem w_named : about1.methodNamed? x = some theMethod := by decide +kernel
set_option maxRecDepth 65536 in
theorem w_hears : about1.hears theMethod below0 = true := by decide +kernel
set_option maxRecDepth 65536 in
theorem w_ripe : about1.ripe theMethod args0 below0 = true := by decide +kernel
theorem w_running : about1.status = .running := rfl
set_option maxRecDepth 65536 in
theorem w_room : about1.hasRoom e0.platform room_1 = true :=
  launch0.hasRoom_least _ room_1 (by decide +kernel) (by decide +kernel) (by decide +kernel) (by decide +kernel) (by decide +kernel) (by decide +kernel)
theorem allAtoms_all (ts : List Jvm.Cond) (a : Array Jvm.Value) (st : Jvm.State) : (allAtoms ts).before a st = ts.all (fun c => c.before a st) := by
  induction ts with
  | nil => rfl
  | cons c t ih =>
    show (Jvm.Cond.and c (allAtoms t)).before a st = _
    rw [Jvm.Cond.before_and, ih, List.all_cons]
def words1 : List Jvm.Cond := Jvm.Cond.code x code maxLocals ret :: tables_1
/-- a 'code' word, met by the world's own term for the bytes: nothing is compared byte by byte -/
theorem code_word {y : MethodName} {bytes : ByteArray} {mx : Nat} {rt : Option FieldType} {a : Array Value} {s : State} {m : MethodId} {meth : Method} {c : Code} (h1 : s.methodNamed? y = some m) (h2 : s.vm.method? m = some meth) (h3 : meth.code = some c) (h4 : c.code = bytes)
    (h5 : (c.maxLocals == mx && c.exceptionTable.isEmpty && decide (c.maxStack ≤ mostOperands) && decide (meth.sig.returnType = rt) && !meth.locks && decide (parseMethodDescriptor y.desc = some meth.sig)) = true) : (Jvm.Cond.code y bytes mx rt).before a s = true := by
  simp only [Bool.and_eq_true, beq_iff_eq, Bool.not_eq_true', decide_eq_true_eq] at h5
  obtain ⟨⟨⟨⟨⟨g1, g2⟩, g3⟩, g4⟩, g5⟩, g6⟩ := h5
  simp [Cond.before, Cond.holds, Cond.value, h1, h2, h3, h4, g1, g2, g3, g4, g5, g6]
def isCode : Jvm.Cond → Bool
  | .code _ _ _ _ => true
  | _ => false
theorem all_split {L : List Jvm.Cond} {P : Jvm.Cond → Bool} (h1 : L.all (fun c => isCode c || P c) = true) (h2 : ∀ c ∈ L.filter isCode, P c = true) : L.all P = true := by
  refine List.all_eq_true.mpr fun c hc => ?_
  have h := List.all_eq_true.mp h1 c hc
  rcases Bool.eq_false_or_eq_true (isCode c) with hi | hi
  · exact h2 c (List.mem_filter.mpr ⟨hc, hi⟩)
  · simpa [hi] using h
set_option maxRecDepth 65536 in
theorem w_c0 : (Jvm.Cond.code x code maxLocals ret).before args0 about1 = true := code_word (m := ⟨1, 1⟩) (meth := k1m1) (c := k1c1) (by decide +kernel) rfl rfl rfl (by decide +kernel)
set_option maxRecDepth 65536 in
theorem w_c1 : (Jvm.Cond.code ({ cls := "com/example/awardsmith/awardsmith/spill/ByteReader", name := "<init>", desc := "([BII)V" } : Jvm.MethodName) prog_99_method_1_code (4 : Nat) (Option.none : Option Jvm.ClassFile.FieldType)).before args0 about1 = true := code_word (m := ⟨2, 0⟩) (meth := k2m0) (c := k2c0) (by decide +kernel) rfl rfl rfl (by decide +kernel)
set_option maxRecDepth 65536 in
theorem w_c2 : (Jvm.Cond.code ({ cls := "java/lang/Object", name := "<init>", desc := "()V" } : Jvm.MethodName) object_method_1_code (1 : Nat) (Option.none : Option Jvm.ClassFile.FieldType)).before args0 about1 = true := code_word (m := ⟨0, 0⟩) (meth := k0m0) (c := k0c0) (by decide +kernel) rfl rfl rfl (by decide +kernel)
set_option maxRecDepth 65536 in
theorem w_c3 : (Jvm.Cond.code ({ cls := "com/example/awardsmith/awardsmith/spill/ByteReader", name := "hasMore", desc := "()Z" } : Jvm.MethodName) prog_99_method_4_code (1 : Nat) (Option.some Jvm.ClassFile.FieldType.boolean)).before args0 about1 = true := code_word (m := ⟨2, 1⟩) (meth := k2m1) (c := k2c1) (by decide +kernel) rfl rfl rfl (by decide +kernel)
set_option maxRecDepth 65536 in
theorem w_c4 : (Jvm.Cond.code ({ cls := "com/example/awardsmith/awardsmith/spill/ByteReader", name := "skip", desc := "(J)V" } : Jvm.MethodName) prog_99_method_14_code (7 : Nat) (Option.none : Option Jvm.ClassFile.FieldType)).before args0 about1 = true := code_word (m := ⟨2, 3⟩) (meth := k2m3) (c := k2c3) (by decide +kernel) rfl rfl rfl (by decide +kernel)
set_option maxRecDepth 65536 in
theorem w_c5 : (Jvm.Cond.code ({ cls := "java/lang/Math", name := "min", desc := "(JJ)J" } : Jvm.MethodName) jdk_29_method_70_code (4 : Nat) (Option.some Jvm.ClassFile.FieldType.long)).before args0 about1 = true := code_word (m := ⟨3, 1⟩) (meth := k3m1) (c := k3c1) (by decide +kernel) rfl rfl rfl (by decide +kernel)
set_option maxRecDepth 65536 in
theorem w_c6 : (Jvm.Cond.code ({ cls := "com/example/awardsmith/awardsmith/spill/ByteReader", name := "readBoolean", desc := "()Z" } : Jvm.MethodName) prog_99_method_10_code (1 : Nat) (Option.some Jvm.ClassFile.FieldType.boolean)).before args0 about1 = true := code_word (m := ⟨2, 2⟩) (meth := k2m2) (c := k2c2) (by decide +kernel) rfl rfl rfl (by decide +kernel)
set_option maxRecDepth 65536 in
theorem w_c7 : (Jvm.Cond.code ({ cls := "com/example/awardsmith/awardsmith/spill/ByteReader", name := "need", desc := "(I)V" } : Jvm.MethodName) prog_99_method_16_code (4 : Nat) (Option.none : Option Jvm.ClassFile.FieldType)).before args0 about1 = true := code_word (m := ⟨2, 4⟩) (meth := k2m4) (c := k2c4) (by decide +kernel) rfl rfl rfl (by decide +kernel)
def codes1 : List Jvm.Cond := [Jvm.Cond.code x code maxLocals ret, Jvm.Cond.code ({ cls := "com/example/awardsmith/awardsmith/spill/ByteReader", name := "<init>", desc := "([BII)V" } : Jvm.MethodName) prog_99_method_1_code (4 : Nat) (Option.none : Option Jvm.ClassFile.FieldType), Jvm.Cond.code ({ cls := "java/lang/Object", name := "<init>", desc := "()V" } : Jvm.MethodName) object_method_1_code (1 : Nat) (Option.none : Option Jvm.ClassFile.FieldType), Jvm.Cond.code ({ cls := "com/example/awardsmith/awardsmith/spill/ByteReader", name := "hasMore", desc := "()Z" } : Jvm.MethodName) prog_99_method_4_code (1 : Nat) (Option.some Jvm.ClassFile.FieldType.boolean), Jvm.Cond.code ({ cls := "com/example/awardsmith/awardsmith/spill/ByteReader", name := "skip", desc := "(J)V" } : Jvm.MethodName) prog_99_method_14_code (7 : Nat) (Option.none : Option Jvm.ClassFile.FieldType), Jvm.Cond.code ({ cls := "java/lang/Math", name := "min", desc := "(JJ)J" } : Jvm.MethodName) jdk_29_method_70_code (4 : Nat) (Option.some Jvm.ClassFile.FieldType.long), Jvm.Cond.code ({ cls := "com/example/awardsmith/awardsmith/spill/ByteReader", name := "readBoolean", desc := "()Z" } : Jvm.MethodName) prog_99_method_10_code (1 : Nat) (Option.some Jvm.ClassFile.FieldType.boolean), Jvm.Cond.code ({ cls := "com/example/awardsmith/awardsmith/spill/ByteReader", name := "need", desc := "(I)V" } : Jvm.MethodName) prog_99_method_16_code (4 : Nat) (Option.none : Option Jvm.ClassFile.FieldType)]
set_option maxRecDepth 65536 in
theorem codes_eq : words1.filter isCode = codes1 := rfl
theorem w_codes : ∀ c ∈ words1.filter isCode, c.before args0 about1 = true := by
  rw [codes_eq]
  intro c hc
  simp only [codes1, List.mem_cons, List.not_mem_nil, or_false] at hc
  rcases hc with rfl | rfl | rfl | rfl | rfl | rfl | rfl | rfl
  · exact w_c0
  · exact w_c1
  · exact w_c2
  · exact w_c3
  · exact w_c4
  · exact w_c5
  · exact w_c6
  · exact w_c7
set_option maxRecDepth 65536 in
theorem w_t1 : (words1.take 24).all (fun c => isCode c || c.before args0 about1) = true := by decide +kernel
set_option maxRecDepth 65536 in
theorem w_t2 : (words1.drop 24).all (fun c => isCode c || c.before args0 about1) = true := by decide +kernel
theorem w_tables : (allAtoms (Jvm.Cond.code x code maxLocals ret :: tables_1)).before args0 about1 = true := by
  rw [allAtoms_all]
  show words1.all (fun c => c.before args0 about1) = true
  refine all_split ?_ w_codes
  rw [← List.take_append_drop 24 words1, List.all_append, w_t1, w_t2]
  rfl
set_option maxRecDepth 65536 in
theorem w_case : (Jvm.Cond.and given_1 narrow_1).before args0 about1 = true := by decide +kernel
theorem w_applies : (headSpec (Jvm.Cond.code x code maxLocals ret :: tables_1) room_1).applies x e0.platform about1 = true :=
  (Spec.applies_iff w_frames).mpr ⟨w_running, w_runnable, w_alone, w_named, w_hears, w_ripe, w_room, w_tables⟩
theorem atStart : AtStart classFile x code maxLocals ret World_1 tables_1 room_1 Calls_1 rest_1 Pre_1 launch0 p0 e0 about1 theMethod args0 below0 :=
  ⟨lists_1, trivial, launch0.admits_env _ _ _, launch0.least_env, fairChoices_fair.cas, fairChoices_fair.clock, w_frames, w_args, w_heap, w_applies, trivial, trivial, w_case⟩
end start1
theorem witness_1 : WitnessClaimed_1 := ⟨start1.p0, start1.e0, start1.about1, start1.theMethod, start1.args0, start1.below0, start1.atStart⟩
end Jvm.Pilot.@@N@@
