import JvmDerived
import JvmDerived.Pilot.@@N@@Statement
import JvmDerived.Pilot.@@N@@Code
set_option linter.unusedVariables false
set_option linter.unusedSimpArgs false
namespace Jvm.Own
open Jvm Sem ClassFile Op Lib Jvm.Stand Jvm.Free Jvm.LawKit Jvm.RoadKit
section Kit
/-- the fixed surroundings of one body's walk -/
def Cx (own : String) (code : ByteArray) (mL : Nat) (ret : Option FieldType) (mn : String) (n0 : Nat) (Z : State) (p : Program) (l : Launch) (e : Env) (R : Room) (s : State) (m : MethodId) (args : Array Value) (below : List Frame) (meth : Method) (c : Code) : Prop :=
  p.tables.exec = Jvm.exec ∧ c.code = code ∧ c.maxLocals = mL ∧ meth.sig.returnType = ret ∧ meth.locks = false ∧ s.vm.findClass own = some m.cls ∧ Z.Warmed39 s.vm ∧ meth.name = mn
/-- where the walk stands: k cells and n slots made so far, the heap h -/
def St (n0 : Nat) (p : Program) (l : Launch) (e : Env) (R : Room) (s : State) (m : MethodId) (args : Array Value) (below : List Frame) (meth : Method) (c : Code) (k n : Nat) (h : Heap) (T : State) : Prop :=
  ∃ locs, Stand p l e R s m args below meth c T locs k n ∧ T.heap = h ∧ Fr n0 locs ∧ n0 ≤ h.size
/-- from here the body comes to its end, and Q holds there -/
def Wp (n0 : Nat) (p : Program) (e : Env) (R : Room) (s : State) (below : List Frame) (Q : Option Value → Heap → Prop) (T : State) (g : JFrame) : Prop :=
  ∃ s₂ o, Steps p.tables e below (T.setTop g) s₂ ∧ s₂.status = .running ∧ Ended s₂ below o ∧ ∃ v L, o = .returned v ∧ (Q v s₂.heap ∧ n0 ≤ s₂.heap.size ∧ Fr n0 L) ∧ FrameEnd s o s₂ L R.cells R.slots
/-- a body's contract: entered with the arguments as' at the heap h it returns, and Q holds of what it returns and of the heap -/
def Met (n0 : Nat) (l : Launch) (Z : State) (y : MethodName) (bytes : ByteArray) (mL : Nat) (ret : Option FieldType) (rm : Room) (ws : List Jvm.Cond) (as' : Array Value) (h : Heap) (Q : Option Value → Heap → Prop) : Prop :=
  MetFree l y (head1 (Jvm.Cond.code y bytes mL ret :: ws) rm) (fun a U => a = as' ∧ Z.Warmed39 U.vm ∧ U.heap = h) (fun _ _ _ _ _ => True) (fun _ U o U' => ∃ v L, o = .returned v ∧ (Q v U'.heap ∧ n0 ≤ U'.heap.size ∧ Fr n0 L) ∧ FrameEnd U o U' L rm.cells rm.slots)
def Dc (code : ByteArray) (pc : Nat) (i : Instr) (len q : Nat) : Prop := decode code pc = .ok (i, len) ∧ pc + len = q
def Bc (code : ByteArray) (pc : Nat) (i : Instr) (o : Int) (q q' : Nat) : Prop := decode code pc = .ok (i, 3) ∧ pc + 3 = q ∧ 0 ≤ (pc : Int) + o ∧ ((pc : Int) + o).toNat = q'
/-- the place i that the int j names -/
def Ix (j : Int32) (i : Nat) : Prop := ¬ j < 0 ∧ j.toNatClampNeg = i
/-- an array of the values vs -/
def VA (Z : State) (h : Heap) (a : Addr) (ty : FieldType) (vs : List Value) : Prop := ∃ cl : Cell, Arr Z h a cl ty ∧ cl.slots = vs.toArray
variable {own : String} {code : ByteArray} {mL : Nat} {ret : Option FieldType} {mn : String} {n0 : Nat} {Z : State} {p : Program} {l : Launch} {e : Env} {R : Room} {s : State} {m : MethodId} {args : Array Value} {below : List Frame} {meth : Method} {c : Code} {T : State} {k n : Nat} {h h' : Heap} {Q : Option Value → Heap → Prop} {pc q q' : Nat} {Ls l' : Array Slot} {st rest : List Value} {a0 : Array Value} {ty : FieldType} {vs : List Value} {a b : Addr} {v w : Value} {x y : Int32} {X Y : Int64}
theorem VA.ext (F : VA Z h a ty vs) (E : Ext h h') : VA Z h' a ty vs := by obtain ⟨cl, A, r⟩ := F; exact ⟨cl, A.ext E, r⟩
theorem VA.other {sl : Nat} (F : VA Z h a ty vs) (W : Wr h h' b sl v) (ne : a ≠ b) : VA Z h' a ty vs := by obtain ⟨cl, A, r⟩ := F; exact ⟨cl, A.other W ne, r⟩
theorem VA.keep {ws : List Addr} (F : VA Z h a ty vs) (K : Keep h h' ws) (ne : a ∉ ws) : VA Z h' a ty vs := by obtain ⟨cl, A, r⟩ := F; exact ⟨cl, ⟨K.2.1 a cl A.1 ne, A.2⟩, r⟩
theorem VA.lt (F : VA Z h a ty vs) : a < h.size := by obtain ⟨cl, A, r⟩ := F; exact A.lt
theorem VA.wr {i : Nat} (F : VA Z h a ty vs) (W : Wr h h' a i v) : VA Z h' a ty (vs.set i v) := by
  obtain ⟨cl, A, r⟩ := F
  refine ⟨_, Arr.same W A, ?_⟩
  show cl.slots.setIfInBounds i v = _
  rw [r]; simp
theorem wp_mono {T' : State} {g g' : JFrame} (f : ∀ t, Steps p.tables e below (T'.setTop g') t → Steps p.tables e below (T.setTop g) t) (w : Wp n0 p e R s below Q T' g') : Wp n0 p e R s below Q T g := by
  obtain ⟨s₂, o, h1, r⟩ := w; exact ⟨s₂, o, f _ h1, r⟩
theorem nmI (g : ∀ z, z = x → Wp n0 p e R s below Q T (mkF m pc Ls (.int z :: st))) : Wp n0 p e R s below Q T (mkF m pc Ls (.int x :: st)) := g x rfl
theorem nmL (g : ∀ z, z = X → Wp n0 p e R s below Q T (mkF m pc Ls (.long z :: st))) : Wp n0 p e R s below Q T (mkF m pc Ls (.long X :: st)) := g X rfl
def Pu (r : Option Value) (h : Heap) : Option Value → Heap → Prop := fun v h' => v = r ∧ h' = h
def Ef (r : Option Value) (P : Heap → Prop) : Option Value → Heap → Prop := fun v h' => v = r ∧ P h'
def Pr (P : Int32 → Prop) (h : Heap) : Option Value → Heap → Prop := fun v h' => ∃ r, v = some (.int r) ∧ P r ∧ h' = h
def PrL (P : Int64 → Prop) (h : Heap) : Option Value → Heap → Prop := fun v h' => ∃ r, v = some (.long r) ∧ P r ∧ h' = h
def Er (P : Int32 → Heap → Prop) : Option Value → Heap → Prop := fun v h' => ∃ r, v = some (.int r) ∧ P r h'
def Ea (P : Addr → Heap → Prop) : Option Value → Heap → Prop := fun v h' => ∃ r, v = some (.ref r) ∧ P r h'
theorem own_b01 {x : Int32} (h : x.toInt = 0 ∨ x.toInt = 1) : nar .boolean x = x := by
  rcases h with h | h
  · have e : x = 0 := Int32.toInt_inj.mp h
    subst e; rfl
  · have e : x = 1 := Int32.toInt_inj.mp h
    subst e; rfl
theorem own_eqz {x y : Int32} (h : x.toInt = y.toInt) : x = y := Int32.toInt_inj.mp h
theorem own_eqZ {x y : Int64} (h : x.toInt = y.toInt) : x = y := Int64.toInt_inj.mp h
theorem own_lrem (x y : Int64) (d : Int) (hy : y.toInt = d) : (0 ≤ x.toInt → (x % y).toInt = x.toInt % d) ∧ (x.toInt < 0 → (x % y).toInt = -((-x.toInt) % d)) := by rw [Int64.toInt_mod, hy]; exact tr _ _
theorem own_nz {y : Int32} (h : 0 < y.toInt) : y ≠ 0 := fun q => by rw [q] at h; exact absurd h (by decide)
theorem own_nneg {x : Int32} (h : 0 ≤ x.toInt) : ¬ x < 0 := fun q => by
  have q' := Int32.lt_iff_toInt_lt.mp q
  have z0 : (0 : Int32).toInt = 0 := rfl
  omega
theorem own_cl {x : Int32} (h : 0 ≤ x.toInt) : (x.toNatClampNeg : Int) = x.toInt := by
  have e : x.toNatClampNeg = x.toInt.toNat := rfl
  omega
theorem own_ix {x : Int32} (h : 0 ≤ x.toInt) : Ix x x.toInt.toNat := ⟨own_nneg h, rfl⟩
theorem stO {i : Nat} {o : Slot} (ho : One o) (hold : Ls[i]? = some o) (hv : v.category = 1) (he : Ls.setIfInBounds i (.val v) = l') : storeLocals Ls i v = some l' := he ▸ XS.store1 hold ho hv
theorem Sle (S : St n0 p l e R s m args below meth c k n h T) : n0 ≤ h.size := by obtain ⟨_, _, _, _, z⟩ := S; exact z
theorem more {k' n' : Nat} (S : St n0 p l e R s m args below meth c k n h T) (hk : k ≤ k') (hn : n ≤ n') : St n0 p l e R s m args below meth c k' n' h T := by
  obtain ⟨locs, S, r⟩ := S; exact ⟨locs, S.more hk hn, r⟩
theorem pu {r : Option Value} (g : ∀ T, St n0 p l e R s m args below meth c k n h T → Wp n0 p e R s below Q T (mkF m q Ls (r.toList ++ rest))) : ∀ T v h', Pu r h v h' → St n0 p l e R s m args below meth c k n h' T → Wp n0 p e R s below Q T (mkF m q Ls (v.toList ++ rest)) := by
  intro T v h' hq S; obtain ⟨rfl, rfl⟩ := hq; exact g T S
theorem ef {r : Option Value} {P : Heap → Prop} (g : ∀ T h', P h' → St n0 p l e R s m args below meth c k n h' T → Wp n0 p e R s below Q T (mkF m q Ls (r.toList ++ rest))) : ∀ T v h', Ef r P v h' → St n0 p l e R s m args below meth c k n h' T → Wp n0 p e R s below Q T (mkF m q Ls (v.toList ++ rest)) := by
  intro T v h' hq S; obtain ⟨rfl, hp⟩ := hq; exact g T h' hp S
theorem pr {P : Int32 → Prop} (g : ∀ T r, P r → St n0 p l e R s m args below meth c k n h T → Wp n0 p e R s below Q T (mkF m q Ls (.int r :: rest))) : ∀ T v h', Pr P h v h' → St n0 p l e R s m args below meth c k n h' T → Wp n0 p e R s below Q T (mkF m q Ls (v.toList ++ rest)) := by
  intro T v h' hq S; obtain ⟨r, rfl, hp, rfl⟩ := hq; exact g T r hp S
theorem prL {P : Int64 → Prop} (g : ∀ T r, P r → St n0 p l e R s m args below meth c k n h T → Wp n0 p e R s below Q T (mkF m q Ls (.long r :: rest))) : ∀ T v h', PrL P h v h' → St n0 p l e R s m args below meth c k n h' T → Wp n0 p e R s below Q T (mkF m q Ls (v.toList ++ rest)) := by
  intro T v h' hq S; obtain ⟨r, rfl, hp, rfl⟩ := hq; exact g T r hp S
theorem er {P : Int32 → Heap → Prop} (g : ∀ T r h', P r h' → St n0 p l e R s m args below meth c k n h' T → Wp n0 p e R s below Q T (mkF m q Ls (.int r :: rest))) : ∀ T v h', Er P v h' → St n0 p l e R s m args below meth c k n h' T → Wp n0 p e R s below Q T (mkF m q Ls (v.toList ++ rest)) := by
  intro T v h' hq S; obtain ⟨r, rfl, hp⟩ := hq; exact g T r h' hp S
theorem ea {P : Addr → Heap → Prop} (g : ∀ T r h', P r h' → St n0 p l e R s m args below meth c k n h' T → Wp n0 p e R s below Q T (mkF m q Ls (.ref r :: rest))) : ∀ T v h', Ea P v h' → St n0 p l e R s m args below meth c k n h' T → Wp n0 p e R s below Q T (mkF m q Ls (v.toList ++ rest)) := by
  intro T v h' hq S; obtain ⟨r, rfl, hp⟩ := hq; exact g T r h' hp S
theorem enter {y : MethodName} {bytes : ByteArray} {rm : Room} {ws : List Jvm.Cond} {as' : Array Value} (hpn : plainFor y = true) (ef : ∀ m, entryFrame m as' mL = mkF m 0 Ls []) (hn : n0 ≤ h.size)
    (body : ∀ p e s m below meth c T, Cx y.cls bytes mL ret y.name n0 Z p l e rm s m as' below meth c → St n0 p l e rm s m as' below meth c 0 0 h T → Wp n0 p e rm s below Q T (mkF m 0 Ls [])) : Met n0 l Z y bytes mL ret rm ws as' h Q := by
  refine MetFree.of_bodySF hpn hisR ?_
  intro p e s m args below meth c s₁ Bd hml0 hP hK
  obtain ⟨rfl, hZ, hh⟩ := hP
  have e0 : s₁.heap = h := by rw [← hh, Bd.state]; rfl
  have w := body p e s m below meth c s₁ ⟨Bd.exec, Bd.bytes, hml0, Bd.returns, Bd.notSynchronized, findClass_of_methodNamed Bd.named, hZ, (name_of_methodNamed Bd.named Bd.method).1⟩ ⟨[], Stand.of_body Bd, e0, Fr.nil n0, hn⟩
  obtain ⟨s₂, o, h1, r⟩ := w
  exact ⟨s₂, o, castTop (ef m) h1, r⟩
theorem iadd (K : Cx own code mL ret mn n0 Z p l e R s m args below meth c) (S : St n0 p l e R s m args below meth c k n h T) (hd : Dc code pc (.iadd) 1 q) (g : Wp n0 p e R s below Q T (mkF m q Ls (.int (x + y) :: st))) : Wp n0 p e R s below Q T (mkF m pc Ls (.int y :: .int x :: st)) := by
  obtain ⟨hx, hby, -⟩ := K; obtain ⟨locs, S, -, -⟩ := S; obtain ⟨hd, rfl⟩ := hd
  exact wp_mono (fun t hr => XS.iadd S.here hx rfl (hb hby hd) rfl hr) g
theorem isub (K : Cx own code mL ret mn n0 Z p l e R s m args below meth c) (S : St n0 p l e R s m args below meth c k n h T) (hd : Dc code pc (.isub) 1 q) (g : Wp n0 p e R s below Q T (mkF m q Ls (.int (x - y) :: st))) : Wp n0 p e R s below Q T (mkF m pc Ls (.int y :: .int x :: st)) := by
  obtain ⟨hx, hby, -⟩ := K; obtain ⟨locs, S, -, -⟩ := S; obtain ⟨hd, rfl⟩ := hd
  exact wp_mono (fun t hr => XS.isub S.here hx rfl (hb hby hd) rfl hr) g
theorem imul (K : Cx own code mL ret mn n0 Z p l e R s m args below meth c) (S : St n0 p l e R s m args below meth c k n h T) (hd : Dc code pc (.imul) 1 q) (g : Wp n0 p e R s below Q T (mkF m q Ls (.int (x * y) :: st))) : Wp n0 p e R s below Q T (mkF m pc Ls (.int y :: .int x :: st)) := by
  obtain ⟨hx, hby, -⟩ := K; obtain ⟨locs, S, -, -⟩ := S; obtain ⟨hd, rfl⟩ := hd
  exact wp_mono (fun t hr => XS.imul S.here hx rfl (hb hby hd) rfl hr) g
theorem iand (K : Cx own code mL ret mn n0 Z p l e R s m args below meth c) (S : St n0 p l e R s m args below meth c k n h T) (hd : Dc code pc (.iand) 1 q) (g : Wp n0 p e R s below Q T (mkF m q Ls (.int (x &&& y) :: st))) : Wp n0 p e R s below Q T (mkF m pc Ls (.int y :: .int x :: st)) := by
  obtain ⟨hx, hby, -⟩ := K; obtain ⟨locs, S, -, -⟩ := S; obtain ⟨hd, rfl⟩ := hd
  exact wp_mono (fun t hr => XS.iand S.here hx rfl (hb hby hd) rfl hr) g
theorem ior (K : Cx own code mL ret mn n0 Z p l e R s m args below meth c) (S : St n0 p l e R s m args below meth c k n h T) (hd : Dc code pc (.ior) 1 q) (g : Wp n0 p e R s below Q T (mkF m q Ls (.int (x ||| y) :: st))) : Wp n0 p e R s below Q T (mkF m pc Ls (.int y :: .int x :: st)) := by
  obtain ⟨hx, hby, -⟩ := K; obtain ⟨locs, S, -, -⟩ := S; obtain ⟨hd, rfl⟩ := hd
  exact wp_mono (fun t hr => XT.ior S.here hx rfl (hb hby hd) rfl hr) g
theorem ixor (K : Cx own code mL ret mn n0 Z p l e R s m args below meth c) (S : St n0 p l e R s m args below meth c k n h T) (hd : Dc code pc (.ixor) 1 q) (g : Wp n0 p e R s below Q T (mkF m q Ls (.int (x ^^^ y) :: st))) : Wp n0 p e R s below Q T (mkF m pc Ls (.int y :: .int x :: st)) := by
  obtain ⟨hx, hby, -⟩ := K; obtain ⟨locs, S, -, -⟩ := S; obtain ⟨hd, rfl⟩ := hd
  exact wp_mono (fun t hr => XT.ixor S.here hx rfl (hb hby hd) rfl hr) g
theorem ishl (K : Cx own code mL ret mn n0 Z p l e R s m args below meth c) (S : St n0 p l e R s m args below meth c k n h T) (hd : Dc code pc (.ishl) 1 q) (g : Wp n0 p e R s below Q T (mkF m q Ls (.int (x <<< (y &&& 31)) :: st))) : Wp n0 p e R s below Q T (mkF m pc Ls (.int y :: .int x :: st)) := by
  obtain ⟨hx, hby, -⟩ := K; obtain ⟨locs, S, -, -⟩ := S; obtain ⟨hd, rfl⟩ := hd
  exact wp_mono (fun t hr => XT.ishl S.here hx rfl (hb hby hd) rfl hr) g
theorem ishr (K : Cx own code mL ret mn n0 Z p l e R s m args below meth c) (S : St n0 p l e R s m args below meth c k n h T) (hd : Dc code pc (.ishr) 1 q) (g : Wp n0 p e R s below Q T (mkF m q Ls (.int (x >>> (y &&& 31)) :: st))) : Wp n0 p e R s below Q T (mkF m pc Ls (.int y :: .int x :: st)) := by
  obtain ⟨hx, hby, -⟩ := K; obtain ⟨locs, S, -, -⟩ := S; obtain ⟨hd, rfl⟩ := hd
  exact wp_mono (fun t hr => XT.ishr S.here hx rfl (hb hby hd) rfl hr) g
theorem iushr (K : Cx own code mL ret mn n0 Z p l e R s m args below meth c) (S : St n0 p l e R s m args below meth c k n h T) (hd : Dc code pc (.iushr) 1 q) (g : Wp n0 p e R s below Q T (mkF m q Ls (.int (XT.ushr x y) :: st))) : Wp n0 p e R s below Q T (mkF m pc Ls (.int y :: .int x :: st)) := by
  obtain ⟨hx, hby, -⟩ := K; obtain ⟨locs, S, -, -⟩ := S; obtain ⟨hd, rfl⟩ := hd
  exact wp_mono (fun t hr => XT.iushr S.here hx rfl (hb hby hd) rfl hr) g
theorem idiv (K : Cx own code mL ret mn n0 Z p l e R s m args below meth c) (S : St n0 p l e R s m args below meth c k n h T) (hy : y ≠ 0) (hd : Dc code pc (.idiv) 1 q) (g : Wp n0 p e R s below Q T (mkF m q Ls (.int (x / y) :: st))) : Wp n0 p e R s below Q T (mkF m pc Ls (.int y :: .int x :: st)) := by
  obtain ⟨hx, hby, -⟩ := K; obtain ⟨locs, S, -, -⟩ := S; obtain ⟨hd, rfl⟩ := hd
  exact wp_mono (fun t hr => XS.idiv S.here hx rfl (hb hby hd) rfl hy hr) g
theorem irem (K : Cx own code mL ret mn n0 Z p l e R s m args below meth c) (S : St n0 p l e R s m args below meth c k n h T) (hy : y ≠ 0) (hd : Dc code pc (.irem) 1 q) (g : Wp n0 p e R s below Q T (mkF m q Ls (.int (x % y) :: st))) : Wp n0 p e R s below Q T (mkF m pc Ls (.int y :: .int x :: st)) := by
  obtain ⟨hx, hby, -⟩ := K; obtain ⟨locs, S, -, -⟩ := S; obtain ⟨hd, rfl⟩ := hd
  exact wp_mono (fun t hr => iremM S hx rfl (hb hby hd) rfl hy hr) g
theorem ladd (K : Cx own code mL ret mn n0 Z p l e R s m args below meth c) (S : St n0 p l e R s m args below meth c k n h T) (hd : Dc code pc (.ladd) 1 q) (g : Wp n0 p e R s below Q T (mkF m q Ls (.long (X + Y) :: st))) : Wp n0 p e R s below Q T (mkF m pc Ls (.long Y :: .long X :: st)) := by
  obtain ⟨hx, hby, -⟩ := K; obtain ⟨locs, S, -, -⟩ := S; obtain ⟨hd, rfl⟩ := hd
  exact wp_mono (fun t hr => XT.ladd S.here hx rfl (hb hby hd) rfl hr) g
theorem lsub (K : Cx own code mL ret mn n0 Z p l e R s m args below meth c) (S : St n0 p l e R s m args below meth c k n h T) (hd : Dc code pc (.lsub) 1 q) (g : Wp n0 p e R s below Q T (mkF m q Ls (.long (X - Y) :: st))) : Wp n0 p e R s below Q T (mkF m pc Ls (.long Y :: .long X :: st)) := by
  obtain ⟨hx, hby, -⟩ := K; obtain ⟨locs, S, -, -⟩ := S; obtain ⟨hd, rfl⟩ := hd
  exact wp_mono (fun t hr => XT.lsub S.here hx rfl (hb hby hd) rfl hr) g
theorem lmul (K : Cx own code mL ret mn n0 Z p l e R s m args below meth c) (S : St n0 p l e R s m args below meth c k n h T) (hd : Dc code pc (.lmul) 1 q) (g : Wp n0 p e R s below Q T (mkF m q Ls (.long (X * Y) :: st))) : Wp n0 p e R s below Q T (mkF m pc Ls (.long Y :: .long X :: st)) := by
  obtain ⟨hx, hby, -⟩ := K; obtain ⟨locs, S, -, -⟩ := S; obtain ⟨hd, rfl⟩ := hd
  exact wp_mono (fun t hr => XT.lmul S.here hx rfl (hb hby hd) rfl hr) g
theorem land (K : Cx own code mL ret mn n0 Z p l e R s m args below meth c) (S : St n0 p l e R s m args below meth c k n h T) (hd : Dc code pc (.land) 1 q) (g : Wp n0 p e R s below Q T (mkF m q Ls (.long (X &&& Y) :: st))) : Wp n0 p e R s below Q T (mkF m pc Ls (.long Y :: .long X :: st)) := by
  obtain ⟨hx, hby, -⟩ := K; obtain ⟨locs, S, -, -⟩ := S; obtain ⟨hd, rfl⟩ := hd
  exact wp_mono (fun t hr => XT.land S.here hx rfl (hb hby hd) rfl hr) g
theorem ldiv (K : Cx own code mL ret mn n0 Z p l e R s m args below meth c) (S : St n0 p l e R s m args below meth c k n h T) (hy : Y ≠ 0) (hd : Dc code pc (.ldiv) 1 q) (g : Wp n0 p e R s below Q T (mkF m q Ls (.long (X / Y) :: st))) : Wp n0 p e R s below Q T (mkF m pc Ls (.long Y :: .long X :: st)) := by
  obtain ⟨hx, hby, -⟩ := K; obtain ⟨locs, S, -, -⟩ := S; obtain ⟨hd, rfl⟩ := hd
  exact wp_mono (fun t hr => XT.ldiv S.here hx rfl (hb hby hd) rfl hy hr) g
theorem lrem (K : Cx own code mL ret mn n0 Z p l e R s m args below meth c) (S : St n0 p l e R s m args below meth c k n h T) (hy : Y ≠ 0) (hd : Dc code pc (.lrem) 1 q) (g : Wp n0 p e R s below Q T (mkF m q Ls (.long (X % Y) :: st))) : Wp n0 p e R s below Q T (mkF m pc Ls (.long Y :: .long X :: st)) := by
  obtain ⟨hx, hby, -⟩ := K; obtain ⟨locs, S, -, -⟩ := S; obtain ⟨hd, rfl⟩ := hd
  exact wp_mono (fun t hr => XT.lrem S.here hx rfl (hb hby hd) rfl hy (by rw [lrem_mod]; exact hr)) g
theorem lushr (K : Cx own code mL ret mn n0 Z p l e R s m args below meth c) (S : St n0 p l e R s m args below meth c k n h T) (hd : Dc code pc (.lushr) 1 q) (g : Wp n0 p e R s below Q T (mkF m q Ls (.long (XT.ushrL X y) :: st))) : Wp n0 p e R s below Q T (mkF m pc Ls (.int y :: .long X :: st)) := by
  obtain ⟨hx, hby, -⟩ := K; obtain ⟨locs, S, -, -⟩ := S; obtain ⟨hd, rfl⟩ := hd
  exact wp_mono (fun t hr => XT.lushr S.here hx rfl (hb hby hd) rfl hr) g
theorem i2l (K : Cx own code mL ret mn n0 Z p l e R s m args below meth c) (S : St n0 p l e R s m args below meth c k n h T) (hd : Dc code pc (.i2l) 1 q) (g : Wp n0 p e R s below Q T (mkF m q Ls (.long x.toInt64 :: st))) : Wp n0 p e R s below Q T (mkF m pc Ls (.int x :: st)) := by
  obtain ⟨hx, hby, -⟩ := K; obtain ⟨locs, S, -, -⟩ := S; obtain ⟨hd, rfl⟩ := hd
  exact wp_mono (fun t hr => XT.i2l S.here hx rfl (hb hby hd) rfl hr) g
theorem l2i (K : Cx own code mL ret mn n0 Z p l e R s m args below meth c) (S : St n0 p l e R s m args below meth c k n h T) (hd : Dc code pc (.l2i) 1 q) (g : Wp n0 p e R s below Q T (mkF m q Ls (.int X.toInt32 :: st))) : Wp n0 p e R s below Q T (mkF m pc Ls (.long X :: st)) := by
  obtain ⟨hx, hby, -⟩ := K; obtain ⟨locs, S, -, -⟩ := S; obtain ⟨hd, rfl⟩ := hd
  exact wp_mono (fun t hr => XT.l2i S.here hx rfl (hb hby hd) rfl hr) g
theorem i2b (K : Cx own code mL ret mn n0 Z p l e R s m args below meth c) (S : St n0 p l e R s m args below meth c k n h T) (hd : Dc code pc (.i2b) 1 q) (g : Wp n0 p e R s below Q T (mkF m q Ls (.int x.toInt8.toInt32 :: st))) : Wp n0 p e R s below Q T (mkF m pc Ls (.int x :: st)) := by
  obtain ⟨hx, hby, -⟩ := K; obtain ⟨locs, S, -, -⟩ := S; obtain ⟨hd, rfl⟩ := hd
  exact wp_mono (fun t hr => XT.i2b S.here hx rfl (hb hby hd) rfl hr) g
theorem i2s (K : Cx own code mL ret mn n0 Z p l e R s m args below meth c) (S : St n0 p l e R s m args below meth c k n h T) (hd : Dc code pc (.i2s) 1 q) (g : Wp n0 p e R s below Q T (mkF m q Ls (.int x.toInt16.toInt32 :: st))) : Wp n0 p e R s below Q T (mkF m pc Ls (.int x :: st)) := by
  obtain ⟨hx, hby, -⟩ := K; obtain ⟨locs, S, -, -⟩ := S; obtain ⟨hd, rfl⟩ := hd
  exact wp_mono (fun t hr => XT.i2s S.here hx rfl (hb hby hd) rfl hr) g
theorem i2c (K : Cx own code mL ret mn n0 Z p l e R s m args below meth c) (S : St n0 p l e R s m args below meth c k n h T) (hd : Dc code pc (.i2c) 1 q) (g : Wp n0 p e R s below Q T (mkF m q Ls (.int x.toUInt32.toUInt16.toUInt32.toInt32 :: st))) : Wp n0 p e R s below Q T (mkF m pc Ls (.int x :: st)) := by
  obtain ⟨hx, hby, -⟩ := K; obtain ⟨locs, S, -, -⟩ := S; obtain ⟨hd, rfl⟩ := hd
  exact wp_mono (fun t hr => XT.i2c S.here hx rfl (hb hby hd) rfl hr) g
theorem iconst (K : Cx own code mL ret mn n0 Z p l e R s m args below meth c) (S : St n0 p l e R s m args below meth c k n h T) {i : Int} (hv : Int32.ofInt i = x) (hd : Dc code pc (.iconst i) 1 q) (g : Wp n0 p e R s below Q T (mkF m q Ls (.int x :: st))) : Wp n0 p e R s below Q T (mkF m pc Ls st) := by
  obtain ⟨hx, hby, -⟩ := K; obtain ⟨locs, S, -, -⟩ := S; obtain ⟨hd, rfl⟩ := hd
  exact wp_mono (fun t hr => XS.iconst S.here hx rfl (hb hby hd) (by rw [hv]; exact hr)) g
theorem bipush (K : Cx own code mL ret mn n0 Z p l e R s m args below meth c) (S : St n0 p l e R s m args below meth c k n h T) {i : Int} (hv : (Int8.ofInt i).toInt32 = x) (hd : Dc code pc (.bipush i) 2 q) (g : Wp n0 p e R s below Q T (mkF m q Ls (.int x :: st))) : Wp n0 p e R s below Q T (mkF m pc Ls st) := by
  obtain ⟨hx, hby, -⟩ := K; obtain ⟨locs, S, -, -⟩ := S; obtain ⟨hd, rfl⟩ := hd
  exact wp_mono (fun t hr => XS.bipush S.here hx rfl (hb hby hd) (by rw [hv]; exact hr)) g
theorem sipush (K : Cx own code mL ret mn n0 Z p l e R s m args below meth c) (S : St n0 p l e R s m args below meth c k n h T) {i : Int} (hv : (Int16.ofInt i).toInt32 = x) (hd : Dc code pc (.sipush i) 3 q) (g : Wp n0 p e R s below Q T (mkF m q Ls (.int x :: st))) : Wp n0 p e R s below Q T (mkF m pc Ls st) := by
  obtain ⟨hx, hby, -⟩ := K; obtain ⟨locs, S, -, -⟩ := S; obtain ⟨hd, rfl⟩ := hd
  exact wp_mono (fun t hr => XS.sipush S.here hx rfl (hb hby hd) (by rw [hv]; exact hr)) g
theorem lconst (K : Cx own code mL ret mn n0 Z p l e R s m args below meth c) (S : St n0 p l e R s m args below meth c k n h T) {i : Fin 2} (hv : Int64.ofNat i = X) (hd : Dc code pc (.lconst i) 1 q) (g : Wp n0 p e R s below Q T (mkF m q Ls (.long X :: st))) : Wp n0 p e R s below Q T (mkF m pc Ls st) := by
  obtain ⟨hx, hby, -⟩ := K; obtain ⟨locs, S, -, -⟩ := S; obtain ⟨hd, rfl⟩ := hd
  exact wp_mono (fun t hr => XT.lconst S.here hx rfl (hb hby hd) (by rw [hv]; exact hr)) g
theorem anull (K : Cx own code mL ret mn n0 Z p l e R s m args below meth c) (S : St n0 p l e R s m args below meth c k n h T) (hd : Dc code pc (.aconst_null) 1 q) (g : Wp n0 p e R s below Q T (mkF m q Ls (.null :: st))) : Wp n0 p e R s below Q T (mkF m pc Ls st) := by
  obtain ⟨hx, hby, -⟩ := K; obtain ⟨locs, S, -, -⟩ := S; obtain ⟨hd, rfl⟩ := hd
  exact wp_mono (fun t hr => XS.aconstNull S.here hx rfl (hb hby hd) hr) g
theorem dup (K : Cx own code mL ret mn n0 Z p l e R s m args below meth c) (S : St n0 p l e R s m args below meth c k n h T) (hc : v.category = 1) (hd : Dc code pc (.dup) 1 q) (g : Wp n0 p e R s below Q T (mkF m q Ls (v :: v :: st))) : Wp n0 p e R s below Q T (mkF m pc Ls (v :: st)) := by
  obtain ⟨hx, hby, -⟩ := K; obtain ⟨locs, S, -, -⟩ := S; obtain ⟨hd, rfl⟩ := hd
  exact wp_mono (fun t hr => XS.dup S.here hx rfl (hb hby hd) rfl hc hr) g
theorem pop (K : Cx own code mL ret mn n0 Z p l e R s m args below meth c) (S : St n0 p l e R s m args below meth c k n h T) (hc : v.category = 1) (hd : Dc code pc (.pop) 1 q) (g : Wp n0 p e R s below Q T (mkF m q Ls st)) : Wp n0 p e R s below Q T (mkF m pc Ls (v :: st)) := by
  obtain ⟨hx, hby, -⟩ := K; obtain ⟨locs, S, -, -⟩ := S; obtain ⟨hd, rfl⟩ := hd
  exact wp_mono (fun t hr => XT.pop S.here hx rfl (hb hby hd) rfl hc hr) g
theorem dup_x1 (K : Cx own code mL ret mn n0 Z p l e R s m args below meth c) (S : St n0 p l e R s m args below meth c k n h T) (hc : v.category = 1) (hc' : w.category = 1) (hd : Dc code pc (.dup_x1) 1 q) (g : Wp n0 p e R s below Q T (mkF m q Ls (v :: w :: v :: st))) : Wp n0 p e R s below Q T (mkF m pc Ls (v :: w :: st)) := by
  obtain ⟨hx, hby, -⟩ := K; obtain ⟨locs, S, -, -⟩ := S; obtain ⟨hd, rfl⟩ := hd
  exact wp_mono (fun t hr => XT.dupX1 S.here hx rfl (hb hby hd) rfl hc hc' hr) g
theorem dup2 (K : Cx own code mL ret mn n0 Z p l e R s m args below meth c) (S : St n0 p l e R s m args below meth c k n h T) (hc : v.category = 1) (hc' : w.category = 1) (hd : Dc code pc (.dup2) 1 q) (g : Wp n0 p e R s below Q T (mkF m q Ls (v :: w :: v :: w :: st))) : Wp n0 p e R s below Q T (mkF m pc Ls (v :: w :: st)) := by
  obtain ⟨hx, hby, -⟩ := K; obtain ⟨locs, S, -, -⟩ := S; obtain ⟨hd, rfl⟩ := hd
  exact wp_mono (fun t hr => XT.dup2 S.here hx rfl (hb hby hd) rfl hc hc' hr) g
theorem iload (K : Cx own code mL ret mn n0 Z p l e R s m args below meth c) (S : St n0 p l e R s m args below meth c k n h T) {i : Nat} (hl : Ls[i]? = some (.val (.int x))) (hd : Dc code pc (.iload i) 2 q) (g : Wp n0 p e R s below Q T (mkF m q Ls (.int x :: st))) : Wp n0 p e R s below Q T (mkF m pc Ls st) := by
  obtain ⟨hx, hby, -⟩ := K; obtain ⟨locs, S, -, -⟩ := S; obtain ⟨hd, rfl⟩ := hd
  exact wp_mono (fun t hr => XS.iload S.here hx rfl (hb hby hd) hl hr) g
theorem iload_n (K : Cx own code mL ret mn n0 Z p l e R s m args below meth c) (S : St n0 p l e R s m args below meth c k n h T) {i : Fin 4} (hl : Ls[i.val]? = some (.val (.int x))) (hd : Dc code pc (.iload_n i) 1 q) (g : Wp n0 p e R s below Q T (mkF m q Ls (.int x :: st))) : Wp n0 p e R s below Q T (mkF m pc Ls st) := by
  obtain ⟨hx, hby, -⟩ := K; obtain ⟨locs, S, -, -⟩ := S; obtain ⟨hd, rfl⟩ := hd
  exact wp_mono (fun t hr => XS.iloadN S.here hx rfl (hb hby hd) hl hr) g
theorem aload (K : Cx own code mL ret mn n0 Z p l e R s m args below meth c) (S : St n0 p l e R s m args below meth c k n h T) {i : Nat} (hl : Ls[i]? = some (.val (v))) (hv : v.isRef = true) (hd : Dc code pc (.aload i) 2 q) (g : Wp n0 p e R s below Q T (mkF m q Ls (v :: st))) : Wp n0 p e R s below Q T (mkF m pc Ls st) := by
  obtain ⟨hx, hby, -⟩ := K; obtain ⟨locs, S, -, -⟩ := S; obtain ⟨hd, rfl⟩ := hd
  exact wp_mono (fun t hr => XS.aload S.here hx rfl (hb hby hd) hl hv hr) g
theorem aload_n (K : Cx own code mL ret mn n0 Z p l e R s m args below meth c) (S : St n0 p l e R s m args below meth c k n h T) {i : Fin 4} (hl : Ls[i.val]? = some (.val (v))) (hv : v.isRef = true) (hd : Dc code pc (.aload_n i) 1 q) (g : Wp n0 p e R s below Q T (mkF m q Ls (v :: st))) : Wp n0 p e R s below Q T (mkF m pc Ls st) := by
  obtain ⟨hx, hby, -⟩ := K; obtain ⟨locs, S, -, -⟩ := S; obtain ⟨hd, rfl⟩ := hd
  exact wp_mono (fun t hr => XS.aloadN S.here hx rfl (hb hby hd) hl hv hr) g
theorem lload (K : Cx own code mL ret mn n0 Z p l e R s m args below meth c) (S : St n0 p l e R s m args below meth c k n h T) {i : Nat} (hl : Ls[i]? = some (.val (.long X))) (hd : Dc code pc (.lload i) 2 q) (g : Wp n0 p e R s below Q T (mkF m q Ls (.long X :: st))) : Wp n0 p e R s below Q T (mkF m pc Ls st) := by
  obtain ⟨hx, hby, -⟩ := K; obtain ⟨locs, S, -, -⟩ := S; obtain ⟨hd, rfl⟩ := hd
  exact wp_mono (fun t hr => XT.lload S.here hx rfl (hb hby hd) hl hr) g
theorem lload_n (K : Cx own code mL ret mn n0 Z p l e R s m args below meth c) (S : St n0 p l e R s m args below meth c k n h T) {i : Fin 4} (hl : Ls[i.val]? = some (.val (.long X))) (hd : Dc code pc (.lload_n i) 1 q) (g : Wp n0 p e R s below Q T (mkF m q Ls (.long X :: st))) : Wp n0 p e R s below Q T (mkF m pc Ls st) := by
  obtain ⟨hx, hby, -⟩ := K; obtain ⟨locs, S, -, -⟩ := S; obtain ⟨hd, rfl⟩ := hd
  exact wp_mono (fun t hr => XT.lloadN S.here hx rfl (hb hby hd) hl hr) g
theorem istore (K : Cx own code mL ret mn n0 Z p l e R s m args below meth c) (S : St n0 p l e R s m args below meth c k n h T) {i : Nat} (hl : storeLocals Ls i (.int x) = some l') (hd : Dc code pc (.istore i) 2 q) (g : Wp n0 p e R s below Q T (mkF m q l' st)) : Wp n0 p e R s below Q T (mkF m pc Ls (.int x :: st)) := by
  obtain ⟨hx, hby, -⟩ := K; obtain ⟨locs, S, -, -⟩ := S; obtain ⟨hd, rfl⟩ := hd
  exact wp_mono (fun t hr => XS.istore S.here hx rfl (hb hby hd) rfl hl hr) g
theorem istore_n (K : Cx own code mL ret mn n0 Z p l e R s m args below meth c) (S : St n0 p l e R s m args below meth c k n h T) {i : Fin 4} (hl : storeLocals Ls i.val (.int x) = some l') (hd : Dc code pc (.istore_n i) 1 q) (g : Wp n0 p e R s below Q T (mkF m q l' st)) : Wp n0 p e R s below Q T (mkF m pc Ls (.int x :: st)) := by
  obtain ⟨hx, hby, -⟩ := K; obtain ⟨locs, S, -, -⟩ := S; obtain ⟨hd, rfl⟩ := hd
  exact wp_mono (fun t hr => XS.istoreN S.here hx rfl (hb hby hd) rfl hl hr) g
theorem astore (K : Cx own code mL ret mn n0 Z p l e R s m args below meth c) (S : St n0 p l e R s m args below meth c k n h T) {i : Nat} (hv : v.isRef = true) (hl : storeLocals Ls i (v) = some l') (hd : Dc code pc (.astore i) 2 q) (g : Wp n0 p e R s below Q T (mkF m q l' st)) : Wp n0 p e R s below Q T (mkF m pc Ls (v :: st)) := by
  obtain ⟨hx, hby, -⟩ := K; obtain ⟨locs, S, -, -⟩ := S; obtain ⟨hd, rfl⟩ := hd
  exact wp_mono (fun t hr => XS.astore S.here hx rfl (hb hby hd) rfl hv hl hr) g
theorem astore_n (K : Cx own code mL ret mn n0 Z p l e R s m args below meth c) (S : St n0 p l e R s m args below meth c k n h T) {i : Fin 4} (hv : v.isRef = true) (hl : storeLocals Ls i.val (v) = some l') (hd : Dc code pc (.astore_n i) 1 q) (g : Wp n0 p e R s below Q T (mkF m q l' st)) : Wp n0 p e R s below Q T (mkF m pc Ls (v :: st)) := by
  obtain ⟨hx, hby, -⟩ := K; obtain ⟨locs, S, -, -⟩ := S; obtain ⟨hd, rfl⟩ := hd
  exact wp_mono (fun t hr => XS.astoreN S.here hx rfl (hb hby hd) rfl hv hl hr) g
theorem lstore (K : Cx own code mL ret mn n0 Z p l e R s m args below meth c) (S : St n0 p l e R s m args below meth c k n h T) {i : Nat} (hl : storeLocals Ls i (.long X) = some l') (hd : Dc code pc (.lstore i) 2 q) (g : Wp n0 p e R s below Q T (mkF m q l' st)) : Wp n0 p e R s below Q T (mkF m pc Ls (.long X :: st)) := by
  obtain ⟨hx, hby, -⟩ := K; obtain ⟨locs, S, -, -⟩ := S; obtain ⟨hd, rfl⟩ := hd
  exact wp_mono (fun t hr => XT.lstore S.here hx rfl (hb hby hd) rfl hl hr) g
theorem lstore_n (K : Cx own code mL ret mn n0 Z p l e R s m args below meth c) (S : St n0 p l e R s m args below meth c k n h T) {i : Fin 4} (hl : storeLocals Ls i.val (.long X) = some l') (hd : Dc code pc (.lstore_n i) 1 q) (g : Wp n0 p e R s below Q T (mkF m q l' st)) : Wp n0 p e R s below Q T (mkF m pc Ls (.long X :: st)) := by
  obtain ⟨hx, hby, -⟩ := K; obtain ⟨locs, S, -, -⟩ := S; obtain ⟨hd, rfl⟩ := hd
  exact wp_mono (fun t hr => XT.lstoreN S.here hx rfl (hb hby hd) rfl hl hr) g
theorem iinc (K : Cx own code mL ret mn n0 Z p l e R s m args below meth c) (S : St n0 p l e R s m args below meth c k n h T) {i : Nat} {cst : Int} (hv : Int32.ofInt cst = y) (hl : Ls[i]? = some (.val (.int x))) (hl' : storeLocals Ls i (.int (x + y)) = some l') (hd : Dc code pc (.iinc i cst) 3 q) (g : Wp n0 p e R s below Q T (mkF m q l' st)) : Wp n0 p e R s below Q T (mkF m pc Ls st) := by
  obtain ⟨hx, hby, -⟩ := K; obtain ⟨locs, S, -, -⟩ := S; obtain ⟨hd, rfl⟩ := hd
  exact wp_mono (fun t hr => XS.iinc S.here hx rfl (hb hby hd) hl (by rw [hv]; exact hl') hr) g
theorem goto (K : Cx own code mL ret mn n0 Z p l e R s m args below meth c) (S : St n0 p l e R s m args below meth c k n h T) {o : Int} (hd : Bc code pc (.goto o) o q q') (g : Wp n0 p e R s below Q T (mkF m q' Ls st)) : Wp n0 p e R s below Q T (mkF m pc Ls st) := by
  obtain ⟨hx, hby, -⟩ := K; obtain ⟨locs, S, -, -⟩ := S; obtain ⟨hd, -, h1, h2⟩ := hd
  exact wp_mono (fun t hr => XS.goto S.here hx rfl rfl (hb hby hd) h1 h2 hr) g
theorem icmp (K : Cx own code mL ret mn n0 Z p l e R s m args below meth c) (S : St n0 p l e R s m args below meth c k n h T) {o : Int} {cd : ClassFile.Cond} (hd : Bc code pc (.if_icmp cd o) o q q') (g1 : if_icmp.holds cd x y = true → Wp n0 p e R s below Q T (mkF m q' Ls st)) (g2 : if_icmp.holds cd x y = false → Wp n0 p e R s below Q T (mkF m q Ls st)) : Wp n0 p e R s below Q T (mkF m pc Ls (.int y :: .int x :: st)) := by
  obtain ⟨hx, hby, -⟩ := K; obtain ⟨locs, S, -, -⟩ := S; obtain ⟨hd, rfl, h1, h2⟩ := hd
  cases hc : if_icmp.holds cd x y with
  | true => exact wp_mono (fun t hr => XS.icmpYes S.here hx rfl rfl (hb hby hd) rfl hc h1 h2 hr) (g1 hc)
  | false => exact wp_mono (fun t hr => XS.icmpNo S.here hx rfl (hb hby hd) rfl hc hr) (g2 hc)
theorem ific (K : Cx own code mL ret mn n0 Z p l e R s m args below meth c) (S : St n0 p l e R s m args below meth c k n h T) {o : Int} {cd : ClassFile.Cond} (hd : Bc code pc (.ifCond cd o) o q q') (g1 : if_icmp.holds cd x 0 = true → Wp n0 p e R s below Q T (mkF m q' Ls st)) (g2 : if_icmp.holds cd x 0 = false → Wp n0 p e R s below Q T (mkF m q Ls st)) : Wp n0 p e R s below Q T (mkF m pc Ls (.int x :: st)) := by
  obtain ⟨hx, hby, -⟩ := K; obtain ⟨locs, S, -, -⟩ := S; obtain ⟨hd, rfl, h1, h2⟩ := hd
  cases hc : if_icmp.holds cd x 0 with
  | true => exact wp_mono (fun t hr => XS.ifYes S.here hx rfl rfl (hb hby hd) rfl (by rw [if0]; exact hc) h1 h2 hr) (g1 hc)
  | false => exact wp_mono (fun t hr => XS.ifNo S.here hx rfl (hb hby hd) rfl (by rw [if0]; exact hc) hr) (g2 hc)
theorem icmp_lt (K : Cx own code mL ret mn n0 Z p l e R s m args below meth c) (S : St n0 p l e R s m args below meth c k n h T) {o : Int} (hd : Bc code pc (.if_icmp .lt o) o q q') (g1 : x < y → Wp n0 p e R s below Q T (mkF m q' Ls st)) (g2 : ¬ x < y → Wp n0 p e R s below Q T (mkF m q Ls st)) : Wp n0 p e R s below Q T (mkF m pc Ls (.int y :: .int x :: st)) := by
  by_cases hc : x < y
  · exact icmp K S hd (fun _ => g1 hc) (fun q => absurd ((tlt hc).1) (by rw [q]; decide))
  · exact icmp K S hd (fun q => absurd ((flt hc).1) (by rw [q]; decide)) (fun _ => g2 hc)
theorem ific_lt (K : Cx own code mL ret mn n0 Z p l e R s m args below meth c) (S : St n0 p l e R s m args below meth c k n h T) {o : Int} (hd : Bc code pc (.ifCond .lt o) o q q') (g1 : x < 0 → Wp n0 p e R s below Q T (mkF m q' Ls st)) (g2 : ¬ x < 0 → Wp n0 p e R s below Q T (mkF m q Ls st)) : Wp n0 p e R s below Q T (mkF m pc Ls (.int x :: st)) := by
  by_cases hc : x < 0
  · exact ific K S hd (fun _ => g1 hc) (fun q => absurd ((tlt hc).1) (by rw [q]; decide))
  · exact ific K S hd (fun q => absurd ((flt hc).1) (by rw [q]; decide)) (fun _ => g2 hc)
theorem icmp_ge (K : Cx own code mL ret mn n0 Z p l e R s m args below meth c) (S : St n0 p l e R s m args below meth c k n h T) {o : Int} (hd : Bc code pc (.if_icmp .ge o) o q q') (g1 : ¬ x < y → Wp n0 p e R s below Q T (mkF m q' Ls st)) (g2 : x < y → Wp n0 p e R s below Q T (mkF m q Ls st)) : Wp n0 p e R s below Q T (mkF m pc Ls (.int y :: .int x :: st)) := by
  by_cases hc : x < y
  · exact icmp K S hd (fun q => absurd ((tlt hc).2.1) (by rw [q]; decide)) (fun _ => g2 hc)
  · exact icmp K S hd (fun _ => g1 hc) (fun q => absurd ((flt hc).2.1) (by rw [q]; decide))
theorem ific_ge (K : Cx own code mL ret mn n0 Z p l e R s m args below meth c) (S : St n0 p l e R s m args below meth c k n h T) {o : Int} (hd : Bc code pc (.ifCond .ge o) o q q') (g1 : ¬ x < 0 → Wp n0 p e R s below Q T (mkF m q' Ls st)) (g2 : x < 0 → Wp n0 p e R s below Q T (mkF m q Ls st)) : Wp n0 p e R s below Q T (mkF m pc Ls (.int x :: st)) := by
  by_cases hc : x < 0
  · exact ific K S hd (fun q => absurd ((tlt hc).2.1) (by rw [q]; decide)) (fun _ => g2 hc)
  · exact ific K S hd (fun _ => g1 hc) (fun q => absurd ((flt hc).2.1) (by rw [q]; decide))
theorem icmp_gt (K : Cx own code mL ret mn n0 Z p l e R s m args below meth c) (S : St n0 p l e R s m args below meth c k n h T) {o : Int} (hd : Bc code pc (.if_icmp .gt o) o q q') (g1 : y < x → Wp n0 p e R s below Q T (mkF m q' Ls st)) (g2 : ¬ y < x → Wp n0 p e R s below Q T (mkF m q Ls st)) : Wp n0 p e R s below Q T (mkF m pc Ls (.int y :: .int x :: st)) := by
  by_cases hc : y < x
  · exact icmp K S hd (fun _ => g1 hc) (fun q => absurd ((tlt hc).2.2.1) (by rw [q]; decide))
  · exact icmp K S hd (fun q => absurd ((flt hc).2.2.1) (by rw [q]; decide)) (fun _ => g2 hc)
theorem ific_gt (K : Cx own code mL ret mn n0 Z p l e R s m args below meth c) (S : St n0 p l e R s m args below meth c k n h T) {o : Int} (hd : Bc code pc (.ifCond .gt o) o q q') (g1 : 0 < x → Wp n0 p e R s below Q T (mkF m q' Ls st)) (g2 : ¬ 0 < x → Wp n0 p e R s below Q T (mkF m q Ls st)) : Wp n0 p e R s below Q T (mkF m pc Ls (.int x :: st)) := by
  by_cases hc : 0 < x
  · exact ific K S hd (fun _ => g1 hc) (fun q => absurd ((tlt hc).2.2.1) (by rw [q]; decide))
  · exact ific K S hd (fun q => absurd ((flt hc).2.2.1) (by rw [q]; decide)) (fun _ => g2 hc)
theorem icmp_le (K : Cx own code mL ret mn n0 Z p l e R s m args below meth c) (S : St n0 p l e R s m args below meth c k n h T) {o : Int} (hd : Bc code pc (.if_icmp .le o) o q q') (g1 : ¬ y < x → Wp n0 p e R s below Q T (mkF m q' Ls st)) (g2 : y < x → Wp n0 p e R s below Q T (mkF m q Ls st)) : Wp n0 p e R s below Q T (mkF m pc Ls (.int y :: .int x :: st)) := by
  by_cases hc : y < x
  · exact icmp K S hd (fun q => absurd ((tlt hc).2.2.2) (by rw [q]; decide)) (fun _ => g2 hc)
  · exact icmp K S hd (fun _ => g1 hc) (fun q => absurd ((flt hc).2.2.2) (by rw [q]; decide))
theorem ific_le (K : Cx own code mL ret mn n0 Z p l e R s m args below meth c) (S : St n0 p l e R s m args below meth c k n h T) {o : Int} (hd : Bc code pc (.ifCond .le o) o q q') (g1 : ¬ 0 < x → Wp n0 p e R s below Q T (mkF m q' Ls st)) (g2 : 0 < x → Wp n0 p e R s below Q T (mkF m q Ls st)) : Wp n0 p e R s below Q T (mkF m pc Ls (.int x :: st)) := by
  by_cases hc : 0 < x
  · exact ific K S hd (fun q => absurd ((tlt hc).2.2.2) (by rw [q]; decide)) (fun _ => g2 hc)
  · exact ific K S hd (fun _ => g1 hc) (fun q => absurd ((flt hc).2.2.2) (by rw [q]; decide))
theorem icmp_eq (K : Cx own code mL ret mn n0 Z p l e R s m args below meth c) (S : St n0 p l e R s m args below meth c k n h T) {o : Int} (hd : Bc code pc (.if_icmp .eq o) o q q') (g1 : x = y → Wp n0 p e R s below Q T (mkF m q' Ls st)) (g2 : ¬ x = y → Wp n0 p e R s below Q T (mkF m q Ls st)) : Wp n0 p e R s below Q T (mkF m pc Ls (.int y :: .int x :: st)) := by
  by_cases hc : x = y
  · exact icmp K S hd (fun _ => g1 hc) (fun q => absurd ((teq hc).1) (by rw [q]; decide))
  · exact icmp K S hd (fun q => absurd ((feq hc).1) (by rw [q]; decide)) (fun _ => g2 hc)
theorem ific_eq (K : Cx own code mL ret mn n0 Z p l e R s m args below meth c) (S : St n0 p l e R s m args below meth c k n h T) {o : Int} (hd : Bc code pc (.ifCond .eq o) o q q') (g1 : x = 0 → Wp n0 p e R s below Q T (mkF m q' Ls st)) (g2 : ¬ x = 0 → Wp n0 p e R s below Q T (mkF m q Ls st)) : Wp n0 p e R s below Q T (mkF m pc Ls (.int x :: st)) := by
  by_cases hc : x = 0
  · exact ific K S hd (fun _ => g1 hc) (fun q => absurd ((teq hc).1) (by rw [q]; decide))
  · exact ific K S hd (fun q => absurd ((feq hc).1) (by rw [q]; decide)) (fun _ => g2 hc)
theorem icmp_ne (K : Cx own code mL ret mn n0 Z p l e R s m args below meth c) (S : St n0 p l e R s m args below meth c k n h T) {o : Int} (hd : Bc code pc (.if_icmp .ne o) o q q') (g1 : ¬ x = y → Wp n0 p e R s below Q T (mkF m q' Ls st)) (g2 : x = y → Wp n0 p e R s below Q T (mkF m q Ls st)) : Wp n0 p e R s below Q T (mkF m pc Ls (.int y :: .int x :: st)) := by
  by_cases hc : x = y
  · exact icmp K S hd (fun q => absurd ((teq hc).2) (by rw [q]; decide)) (fun _ => g2 hc)
  · exact icmp K S hd (fun _ => g1 hc) (fun q => absurd ((feq hc).2) (by rw [q]; decide))
theorem ific_ne (K : Cx own code mL ret mn n0 Z p l e R s m args below meth c) (S : St n0 p l e R s m args below meth c k n h T) {o : Int} (hd : Bc code pc (.ifCond .ne o) o q q') (g1 : ¬ x = 0 → Wp n0 p e R s below Q T (mkF m q' Ls st)) (g2 : x = 0 → Wp n0 p e R s below Q T (mkF m q Ls st)) : Wp n0 p e R s below Q T (mkF m pc Ls (.int x :: st)) := by
  by_cases hc : x = 0
  · exact ific K S hd (fun q => absurd ((teq hc).2) (by rw [q]; decide)) (fun _ => g2 hc)
  · exact ific K S hd (fun _ => g1 hc) (fun q => absurd ((feq hc).2) (by rw [q]; decide))
theorem lcmp_lt (K : Cx own code mL ret mn n0 Z p l e R s m args below meth c) (S : St n0 p l e R s m args below meth c k n h T) {o : Int} {pc1 : Nat} (hd1 : Dc code pc .lcmp 1 pc1) (hd : Bc code pc1 (.ifCond .lt o) o q q') (g1 : X < Y → Wp n0 p e R s below Q T (mkF m q' Ls st)) (g2 : ¬ X < Y → Wp n0 p e R s below Q T (mkF m q Ls st)) : Wp n0 p e R s below Q T (mkF m pc Ls (.long Y :: .long X :: st)) := by
  obtain ⟨hx, hby, -⟩ := K; obtain ⟨locs, S, -, -⟩ := S; obtain ⟨hd, rfl, h1, h2⟩ := hd; obtain ⟨hd1, rfl⟩ := hd1
  by_cases hc : X < Y
  · exact wp_mono (fun t hr => XT.lcmp S.here hx rfl (hb hby hd1) rfl (XS.ifYes S.here hx rfl rfl (hb hby hd) rfl (XT.ll_lt_t hc) h1 h2 hr)) (g1 hc)
  · exact wp_mono (fun t hr => XT.lcmp S.here hx rfl (hb hby hd1) rfl (XS.ifNo S.here hx rfl (hb hby hd) rfl (XT.ll_lt_f hc) hr)) (g2 hc)
theorem lcmp_ge (K : Cx own code mL ret mn n0 Z p l e R s m args below meth c) (S : St n0 p l e R s m args below meth c k n h T) {o : Int} {pc1 : Nat} (hd1 : Dc code pc .lcmp 1 pc1) (hd : Bc code pc1 (.ifCond .ge o) o q q') (g1 : ¬ X < Y → Wp n0 p e R s below Q T (mkF m q' Ls st)) (g2 : X < Y → Wp n0 p e R s below Q T (mkF m q Ls st)) : Wp n0 p e R s below Q T (mkF m pc Ls (.long Y :: .long X :: st)) := by
  obtain ⟨hx, hby, -⟩ := K; obtain ⟨locs, S, -, -⟩ := S; obtain ⟨hd, rfl, h1, h2⟩ := hd; obtain ⟨hd1, rfl⟩ := hd1
  by_cases hc : X < Y
  · exact wp_mono (fun t hr => XT.lcmp S.here hx rfl (hb hby hd1) rfl (XS.ifNo S.here hx rfl (hb hby hd) rfl (XT.ll_ge_f hc) hr)) (g2 hc)
  · exact wp_mono (fun t hr => XT.lcmp S.here hx rfl (hb hby hd1) rfl (XS.ifYes S.here hx rfl rfl (hb hby hd) rfl (XT.ll_ge_t hc) h1 h2 hr)) (g1 hc)
theorem lcmp_gt (K : Cx own code mL ret mn n0 Z p l e R s m args below meth c) (S : St n0 p l e R s m args below meth c k n h T) {o : Int} {pc1 : Nat} (hd1 : Dc code pc .lcmp 1 pc1) (hd : Bc code pc1 (.ifCond .gt o) o q q') (g1 : Y < X → Wp n0 p e R s below Q T (mkF m q' Ls st)) (g2 : ¬ Y < X → Wp n0 p e R s below Q T (mkF m q Ls st)) : Wp n0 p e R s below Q T (mkF m pc Ls (.long Y :: .long X :: st)) := by
  obtain ⟨hx, hby, -⟩ := K; obtain ⟨locs, S, -, -⟩ := S; obtain ⟨hd, rfl, h1, h2⟩ := hd; obtain ⟨hd1, rfl⟩ := hd1
  by_cases hc : Y < X
  · exact wp_mono (fun t hr => XT.lcmp S.here hx rfl (hb hby hd1) rfl (XS.ifYes S.here hx rfl rfl (hb hby hd) rfl (XT.ll_gt_t hc) h1 h2 hr)) (g1 hc)
  · exact wp_mono (fun t hr => XT.lcmp S.here hx rfl (hb hby hd1) rfl (XS.ifNo S.here hx rfl (hb hby hd) rfl (XT.ll_gt_f hc) hr)) (g2 hc)
theorem lcmp_le (K : Cx own code mL ret mn n0 Z p l e R s m args below meth c) (S : St n0 p l e R s m args below meth c k n h T) {o : Int} {pc1 : Nat} (hd1 : Dc code pc .lcmp 1 pc1) (hd : Bc code pc1 (.ifCond .le o) o q q') (g1 : ¬ Y < X → Wp n0 p e R s below Q T (mkF m q' Ls st)) (g2 : Y < X → Wp n0 p e R s below Q T (mkF m q Ls st)) : Wp n0 p e R s below Q T (mkF m pc Ls (.long Y :: .long X :: st)) := by
  obtain ⟨hx, hby, -⟩ := K; obtain ⟨locs, S, -, -⟩ := S; obtain ⟨hd, rfl, h1, h2⟩ := hd; obtain ⟨hd1, rfl⟩ := hd1
  by_cases hc : Y < X
  · exact wp_mono (fun t hr => XT.lcmp S.here hx rfl (hb hby hd1) rfl (XS.ifNo S.here hx rfl (hb hby hd) rfl (XT.ll_le_f hc) hr)) (g2 hc)
  · exact wp_mono (fun t hr => XT.lcmp S.here hx rfl (hb hby hd1) rfl (XS.ifYes S.here hx rfl rfl (hb hby hd) rfl (XT.ll_le_t hc) h1 h2 hr)) (g1 hc)
theorem lcmp_eq (K : Cx own code mL ret mn n0 Z p l e R s m args below meth c) (S : St n0 p l e R s m args below meth c k n h T) {o : Int} {pc1 : Nat} (hd1 : Dc code pc .lcmp 1 pc1) (hd : Bc code pc1 (.ifCond .eq o) o q q') (g1 : X = Y → Wp n0 p e R s below Q T (mkF m q' Ls st)) (g2 : ¬ X = Y → Wp n0 p e R s below Q T (mkF m q Ls st)) : Wp n0 p e R s below Q T (mkF m pc Ls (.long Y :: .long X :: st)) := by
  obtain ⟨hx, hby, -⟩ := K; obtain ⟨locs, S, -, -⟩ := S; obtain ⟨hd, rfl, h1, h2⟩ := hd; obtain ⟨hd1, rfl⟩ := hd1
  by_cases hc : X = Y
  · exact wp_mono (fun t hr => XT.lcmp S.here hx rfl (hb hby hd1) rfl (XS.ifYes S.here hx rfl rfl (hb hby hd) rfl (XT.ll_eq_t hc) h1 h2 hr)) (g1 hc)
  · exact wp_mono (fun t hr => XT.lcmp S.here hx rfl (hb hby hd1) rfl (XS.ifNo S.here hx rfl (hb hby hd) rfl (XT.ll_eq_f hc) hr)) (g2 hc)
theorem lcmp_ne (K : Cx own code mL ret mn n0 Z p l e R s m args below meth c) (S : St n0 p l e R s m args below meth c k n h T) {o : Int} {pc1 : Nat} (hd1 : Dc code pc .lcmp 1 pc1) (hd : Bc code pc1 (.ifCond .ne o) o q q') (g1 : ¬ X = Y → Wp n0 p e R s below Q T (mkF m q' Ls st)) (g2 : X = Y → Wp n0 p e R s below Q T (mkF m q Ls st)) : Wp n0 p e R s below Q T (mkF m pc Ls (.long Y :: .long X :: st)) := by
  obtain ⟨hx, hby, -⟩ := K; obtain ⟨locs, S, -, -⟩ := S; obtain ⟨hd, rfl, h1, h2⟩ := hd; obtain ⟨hd1, rfl⟩ := hd1
  by_cases hc : X = Y
  · exact wp_mono (fun t hr => XT.lcmp S.here hx rfl (hb hby hd1) rfl (XS.ifNo S.here hx rfl (hb hby hd) rfl (XT.ll_ne_f hc) hr)) (g2 hc)
  · exact wp_mono (fun t hr => XT.lcmp S.here hx rfl (hb hby hd1) rfl (XS.ifYes S.here hx rfl rfl (hb hby hd) rfl (XT.ll_ne_t hc) h1 h2 hr)) (g1 hc)
theorem icmpz_lt (K : Cx own code mL ret mn n0 Z p l e R s m args below meth c) (S : St n0 p l e R s m args below meth c k n h T) {o : Int} (hd : Bc code pc (.if_icmp .lt o) o q q') (g1 : x.toInt < y.toInt → Wp n0 p e R s below Q T (mkF m q' Ls st)) (g2 : ¬ x.toInt < y.toInt → Wp n0 p e R s below Q T (mkF m q Ls st)) : Wp n0 p e R s below Q T (mkF m pc Ls (.int y :: .int x :: st)) :=
  icmp_lt K S hd (fun q => g1 (Int32.lt_iff_toInt_lt.mp q)) (fun q => g2 (fun r => q (Int32.lt_iff_toInt_lt.mpr r)))
theorem ificz_lt (K : Cx own code mL ret mn n0 Z p l e R s m args below meth c) (S : St n0 p l e R s m args below meth c k n h T) {o : Int} (hd : Bc code pc (.ifCond .lt o) o q q') (g1 : x.toInt < 0 → Wp n0 p e R s below Q T (mkF m q' Ls st)) (g2 : ¬ x.toInt < 0 → Wp n0 p e R s below Q T (mkF m q Ls st)) : Wp n0 p e R s below Q T (mkF m pc Ls (.int x :: st)) :=
  ific_lt K S hd (fun q => g1 (Int32.lt_iff_toInt_lt.mp q)) (fun q => g2 (fun r => q (Int32.lt_iff_toInt_lt.mpr r)))
theorem lcmpz_lt (K : Cx own code mL ret mn n0 Z p l e R s m args below meth c) (S : St n0 p l e R s m args below meth c k n h T) {o : Int} {pc1 : Nat} (hd1 : Dc code pc .lcmp 1 pc1) (hd : Bc code pc1 (.ifCond .lt o) o q q') (g1 : X.toInt < Y.toInt → Wp n0 p e R s below Q T (mkF m q' Ls st)) (g2 : ¬ X.toInt < Y.toInt → Wp n0 p e R s below Q T (mkF m q Ls st)) : Wp n0 p e R s below Q T (mkF m pc Ls (.long Y :: .long X :: st)) :=
  lcmp_lt K S hd1 hd (fun q => g1 (Int64.lt_iff_toInt_lt.mp q)) (fun q => g2 (fun r => q (Int64.lt_iff_toInt_lt.mpr r)))
theorem icmpz_ge (K : Cx own code mL ret mn n0 Z p l e R s m args below meth c) (S : St n0 p l e R s m args below meth c k n h T) {o : Int} (hd : Bc code pc (.if_icmp .ge o) o q q') (g1 : ¬ x.toInt < y.toInt → Wp n0 p e R s below Q T (mkF m q' Ls st)) (g2 : x.toInt < y.toInt → Wp n0 p e R s below Q T (mkF m q Ls st)) : Wp n0 p e R s below Q T (mkF m pc Ls (.int y :: .int x :: st)) :=
  icmp_ge K S hd (fun q => g1 (fun r => q (Int32.lt_iff_toInt_lt.mpr r))) (fun q => g2 (Int32.lt_iff_toInt_lt.mp q))
theorem ificz_ge (K : Cx own code mL ret mn n0 Z p l e R s m args below meth c) (S : St n0 p l e R s m args below meth c k n h T) {o : Int} (hd : Bc code pc (.ifCond .ge o) o q q') (g1 : ¬ x.toInt < 0 → Wp n0 p e R s below Q T (mkF m q' Ls st)) (g2 : x.toInt < 0 → Wp n0 p e R s below Q T (mkF m q Ls st)) : Wp n0 p e R s below Q T (mkF m pc Ls (.int x :: st)) :=
  ific_ge K S hd (fun q => g1 (fun r => q (Int32.lt_iff_toInt_lt.mpr r))) (fun q => g2 (Int32.lt_iff_toInt_lt.mp q))
theorem lcmpz_ge (K : Cx own code mL ret mn n0 Z p l e R s m args below meth c) (S : St n0 p l e R s m args below meth c k n h T) {o : Int} {pc1 : Nat} (hd1 : Dc code pc .lcmp 1 pc1) (hd : Bc code pc1 (.ifCond .ge o) o q q') (g1 : ¬ X.toInt < Y.toInt → Wp n0 p e R s below Q T (mkF m q' Ls st)) (g2 : X.toInt < Y.toInt → Wp n0 p e R s below Q T (mkF m q Ls st)) : Wp n0 p e R s below Q T (mkF m pc Ls (.long Y :: .long X :: st)) :=
  lcmp_ge K S hd1 hd (fun q => g1 (fun r => q (Int64.lt_iff_toInt_lt.mpr r))) (fun q => g2 (Int64.lt_iff_toInt_lt.mp q))
theorem icmpz_gt (K : Cx own code mL ret mn n0 Z p l e R s m args below meth c) (S : St n0 p l e R s m args below meth c k n h T) {o : Int} (hd : Bc code pc (.if_icmp .gt o) o q q') (g1 : y.toInt < x.toInt → Wp n0 p e R s below Q T (mkF m q' Ls st)) (g2 : ¬ y.toInt < x.toInt → Wp n0 p e R s below Q T (mkF m q Ls st)) : Wp n0 p e R s below Q T (mkF m pc Ls (.int y :: .int x :: st)) :=
  icmp_gt K S hd (fun q => g1 (Int32.lt_iff_toInt_lt.mp q)) (fun q => g2 (fun r => q (Int32.lt_iff_toInt_lt.mpr r)))
theorem ificz_gt (K : Cx own code mL ret mn n0 Z p l e R s m args below meth c) (S : St n0 p l e R s m args below meth c k n h T) {o : Int} (hd : Bc code pc (.ifCond .gt o) o q q') (g1 : 0 < x.toInt → Wp n0 p e R s below Q T (mkF m q' Ls st)) (g2 : ¬ 0 < x.toInt → Wp n0 p e R s below Q T (mkF m q Ls st)) : Wp n0 p e R s below Q T (mkF m pc Ls (.int x :: st)) :=
  ific_gt K S hd (fun q => g1 (Int32.lt_iff_toInt_lt.mp q)) (fun q => g2 (fun r => q (Int32.lt_iff_toInt_lt.mpr r)))
theorem lcmpz_gt (K : Cx own code mL ret mn n0 Z p l e R s m args below meth c) (S : St n0 p l e R s m args below meth c k n h T) {o : Int} {pc1 : Nat} (hd1 : Dc code pc .lcmp 1 pc1) (hd : Bc code pc1 (.ifCond .gt o) o q q') (g1 : Y.toInt < X.toInt → Wp n0 p e R s below Q T (mkF m q' Ls st)) (g2 : ¬ Y.toInt < X.toInt → Wp n0 p e R s below Q T (mkF m q Ls st)) : Wp n0 p e R s below Q T (mkF m pc Ls (.long Y :: .long X :: st)) :=
  lcmp_gt K S hd1 hd (fun q => g1 (Int64.lt_iff_toInt_lt.mp q)) (fun q => g2 (fun r => q (Int64.lt_iff_toInt_lt.mpr r)))
theorem icmpz_le (K : Cx own code mL ret mn n0 Z p l e R s m args below meth c) (S : St n0 p l e R s m args below meth c k n h T) {o : Int} (hd : Bc code pc (.if_icmp .le o) o q q') (g1 : ¬ y.toInt < x.toInt → Wp n0 p e R s below Q T (mkF m q' Ls st)) (g2 : y.toInt < x.toInt → Wp n0 p e R s below Q T (mkF m q Ls st)) : Wp n0 p e R s below Q T (mkF m pc Ls (.int y :: .int x :: st)) :=
  icmp_le K S hd (fun q => g1 (fun r => q (Int32.lt_iff_toInt_lt.mpr r))) (fun q => g2 (Int32.lt_iff_toInt_lt.mp q))
theorem ificz_le (K : Cx own code mL ret mn n0 Z p l e R s m args below meth c) (S : St n0 p l e R s m args below meth c k n h T) {o : Int} (hd : Bc code pc (.ifCond .le o) o q q') (g1 : ¬ 0 < x.toInt → Wp n0 p e R s below Q T (mkF m q' Ls st)) (g2 : 0 < x.toInt → Wp n0 p e R s below Q T (mkF m q Ls st)) : Wp n0 p e R s below Q T (mkF m pc Ls (.int x :: st)) :=
  ific_le K S hd (fun q => g1 (fun r => q (Int32.lt_iff_toInt_lt.mpr r))) (fun q => g2 (Int32.lt_iff_toInt_lt.mp q))
theorem lcmpz_le (K : Cx own code mL ret mn n0 Z p l e R s m args below meth c) (S : St n0 p l e R s m args below meth c k n h T) {o : Int} {pc1 : Nat} (hd1 : Dc code pc .lcmp 1 pc1) (hd : Bc code pc1 (.ifCond .le o) o q q') (g1 : ¬ Y.toInt < X.toInt → Wp n0 p e R s below Q T (mkF m q' Ls st)) (g2 : Y.toInt < X.toInt → Wp n0 p e R s below Q T (mkF m q Ls st)) : Wp n0 p e R s below Q T (mkF m pc Ls (.long Y :: .long X :: st)) :=
  lcmp_le K S hd1 hd (fun q => g1 (fun r => q (Int64.lt_iff_toInt_lt.mpr r))) (fun q => g2 (Int64.lt_iff_toInt_lt.mp q))
theorem icmpz_eq (K : Cx own code mL ret mn n0 Z p l e R s m args below meth c) (S : St n0 p l e R s m args below meth c k n h T) {o : Int} (hd : Bc code pc (.if_icmp .eq o) o q q') (g1 : x.toInt = y.toInt → Wp n0 p e R s below Q T (mkF m q' Ls st)) (g2 : ¬ x.toInt = y.toInt → Wp n0 p e R s below Q T (mkF m q Ls st)) : Wp n0 p e R s below Q T (mkF m pc Ls (.int y :: .int x :: st)) :=
  icmp_eq K S hd (fun q => g1 (congrArg Int32.toInt q)) (fun q => g2 (fun r => q (Int32.toInt_inj.mp r)))
theorem ificz_eq (K : Cx own code mL ret mn n0 Z p l e R s m args below meth c) (S : St n0 p l e R s m args below meth c k n h T) {o : Int} (hd : Bc code pc (.ifCond .eq o) o q q') (g1 : x.toInt = 0 → Wp n0 p e R s below Q T (mkF m q' Ls st)) (g2 : ¬ x.toInt = 0 → Wp n0 p e R s below Q T (mkF m q Ls st)) : Wp n0 p e R s below Q T (mkF m pc Ls (.int x :: st)) :=
  ific_eq K S hd (fun q => g1 (congrArg Int32.toInt q)) (fun q => g2 (fun r => q (Int32.toInt_inj.mp r)))
theorem lcmpz_eq (K : Cx own code mL ret mn n0 Z p l e R s m args below meth c) (S : St n0 p l e R s m args below meth c k n h T) {o : Int} {pc1 : Nat} (hd1 : Dc code pc .lcmp 1 pc1) (hd : Bc code pc1 (.ifCond .eq o) o q q') (g1 : X.toInt = Y.toInt → Wp n0 p e R s below Q T (mkF m q' Ls st)) (g2 : ¬ X.toInt = Y.toInt → Wp n0 p e R s below Q T (mkF m q Ls st)) : Wp n0 p e R s below Q T (mkF m pc Ls (.long Y :: .long X :: st)) :=
  lcmp_eq K S hd1 hd (fun q => g1 (congrArg Int64.toInt q)) (fun q => g2 (fun r => q (Int64.toInt_inj.mp r)))
theorem icmpz_ne (K : Cx own code mL ret mn n0 Z p l e R s m args below meth c) (S : St n0 p l e R s m args below meth c k n h T) {o : Int} (hd : Bc code pc (.if_icmp .ne o) o q q') (g1 : ¬ x.toInt = y.toInt → Wp n0 p e R s below Q T (mkF m q' Ls st)) (g2 : x.toInt = y.toInt → Wp n0 p e R s below Q T (mkF m q Ls st)) : Wp n0 p e R s below Q T (mkF m pc Ls (.int y :: .int x :: st)) :=
  icmp_ne K S hd (fun q => g1 (fun r => q (Int32.toInt_inj.mp r))) (fun q => g2 (congrArg Int32.toInt q))
theorem ificz_ne (K : Cx own code mL ret mn n0 Z p l e R s m args below meth c) (S : St n0 p l e R s m args below meth c k n h T) {o : Int} (hd : Bc code pc (.ifCond .ne o) o q q') (g1 : ¬ x.toInt = 0 → Wp n0 p e R s below Q T (mkF m q' Ls st)) (g2 : x.toInt = 0 → Wp n0 p e R s below Q T (mkF m q Ls st)) : Wp n0 p e R s below Q T (mkF m pc Ls (.int x :: st)) :=
  ific_ne K S hd (fun q => g1 (fun r => q (Int32.toInt_inj.mp r))) (fun q => g2 (congrArg Int32.toInt q))
theorem lcmpz_ne (K : Cx own code mL ret mn n0 Z p l e R s m args below meth c) (S : St n0 p l e R s m args below meth c k n h T) {o : Int} {pc1 : Nat} (hd1 : Dc code pc .lcmp 1 pc1) (hd : Bc code pc1 (.ifCond .ne o) o q q') (g1 : ¬ X.toInt = Y.toInt → Wp n0 p e R s below Q T (mkF m q' Ls st)) (g2 : X.toInt = Y.toInt → Wp n0 p e R s below Q T (mkF m q Ls st)) : Wp n0 p e R s below Q T (mkF m pc Ls (.long Y :: .long X :: st)) :=
  lcmp_ne K S hd1 hd (fun q => g1 (fun r => q (Int64.toInt_inj.mp r))) (fun q => g2 (congrArg Int64.toInt q))
theorem ifnull_ref (K : Cx own code mL ret mn n0 Z p l e R s m args below meth c) (S : St n0 p l e R s m args below meth c k n h T) {o : Int} (hd : Bc code pc (.ifnull o) o q q') (g : Wp n0 p e R s below Q T (mkF m q Ls st)) : Wp n0 p e R s below Q T (mkF m pc Ls (.ref a :: st)) := by
  obtain ⟨hx, hby, -⟩ := K; obtain ⟨locs, S, -, -⟩ := S; obtain ⟨hd, rfl, h1, h2⟩ := hd
  exact wp_mono (fun t hr => XS.ifnullNo S.here hx rfl (hb hby hd) rfl hr) g
theorem ldc (K : Cx own code mL ret mn n0 Z p l e R s m args below meth c) (S : St n0 p l e R s m args below meth c k n h T) {i : Nat} (w : (Jvm.Cond.constant own i x).before a0 Z = true) (hd : Dc code pc (.ldc i) 2 q) (g : Wp n0 p e R s below Q T (mkF m q Ls (.int x :: st))) : Wp n0 p e R s below Q T (mkF m pc Ls st) := by
  obtain ⟨hx, hby, -, -, -, hown, hZ, -⟩ := K; obtain ⟨locs, S, -, -⟩ := S; obtain ⟨hd, rfl⟩ := hd
  refine wp_mono (T' := T) (g' := mkF m (pc + 2) Ls (.int x :: st)) (fun t hr => ?_) g
  exact S.ldcInt hx hown (mvT hZ w) (g := mkF m pc Ls st) rfl (hb hby hd) t hr
theorem ldc2 (K : Cx own code mL ret mn n0 Z p l e R s m args below meth c) (S : St n0 p l e R s m args below meth c k n h T) {i : Nat} (w : (Jvm.Cond.constantLong own i X).before a0 Z = true) (hd : Dc code pc (.ldc2_w i) 3 q) (g : Wp n0 p e R s below Q T (mkF m q Ls (.long X :: st))) : Wp n0 p e R s below Q T (mkF m pc Ls st) := by
  obtain ⟨hx, hby, -, -, -, hown, hZ, -⟩ := K; obtain ⟨locs, S, -, -⟩ := S; obtain ⟨hd, rfl⟩ := hd
  refine wp_mono (T' := T) (g' := mkF m (pc + 3) Ls (.long X :: st)) (fun t hr => ?_) g
  exact S.ldc2Long hx hown (mvT hZ w) (g := mkF m pc Ls st) rfl (hb hby hd) t hr
theorem getf (K : Cx own code mL ret mn n0 Z p l e R s m args below meth c) (S : St n0 p l e R s m args below meth c k n h T) {i : Nat} {O fn d : String} (w : (Jvm.Cond.fieldLink own i O fn d).before a0 Z = true) (F : Fld Z h a O fn d v) (hd : Dc code pc (.getfield i) 3 q) (g : ∀ T, St n0 p l e R s m args below meth c k n h T → Wp n0 p e R s below Q T (mkF m q Ls (v :: st))) : Wp n0 p e R s below Q T (mkF m pc Ls (.ref a :: st)) := by
  obtain ⟨hx, hby, -, -, -, hown, hZ, -⟩ := K; obtain ⟨locs, S, e1, N, z⟩ := S; obtain ⟨hd, rfl⟩ := hd
  obtain ⟨T1, S1, e2, st1⟩ := getF S hx hZ hown (host := "") (Or.inl w) Via.refl e1 F (g := mkF m pc Ls (.ref a :: st)) rfl rfl (hb hby hd)
  exact wp_mono st1 (g T1 ⟨locs, S1, e2, N, z⟩)
theorem putf (K : Cx own code mL ret mn n0 Z p l e R s m args below meth c) (S : St n0 p l e R s m args below meth c k n h T) {i kk : Nat} {O fn d C : String} {old : Value} (w : (Jvm.Cond.fieldLink own i O fn d).before a0 Z = true) (F : Fld Z h a O fn d old) (E : Exa Z h a C) (L : (Jvm.Cond.lays C O fn d).before a0 Z = true ∨ ((Jvm.Cond.laysFinal C O fn d).before a0 Z = true ∧ own = O ∧ mn = "<init>")) (wi : (Jvm.Cond.instantiable C kk).before a0 Z = true) (hty : parseFieldDescriptor d = some ty) (hn : narrow ty v = v) (hf : fits ty v = true) (ha : n0 ≤ a) (hd : Dc code pc (.putfield i) 3 q) (g : ∀ T h', Wr h h' a (Jvm.RoadKit.slotOf Z O fn d) v → St n0 p l e R s m args below meth c k n h' T → Wp n0 p e R s below Q T (mkF m q Ls st)) : Wp n0 p e R s below Q T (mkF m pc Ls (v :: .ref a :: st)) := by
  obtain ⟨hx, hby, -, -, -, hown, hZ, hmn⟩ := K; obtain ⟨locs, S, e1, N, z⟩ := S; obtain ⟨hd, rfl⟩ := hd
  obtain ⟨T1, h1, S1, e2, W1, st1⟩ := putF S hx hZ hown (host := "") (Or.inl w) Via.refl e1 F E (L.imp id fun q => ⟨q.1, q.2.1, hmn.trans q.2.2⟩) wi hty hn hf (g := mkF m pc Ls (v :: .ref a :: st)) rfl rfl (hb hby hd)
  exact wp_mono st1 (g T1 h1 W1 ⟨_, S1, e2, Fr.snoc S1 N ha, by rw [W1.size]; exact z⟩)
theorem new (K : Cx own code mL ret mn n0 Z p l e R s m args below meth c) (S : St n0 p l e R s m args below meth c k n h T) {i nn : Nat} {C : String} (w : (Jvm.Cond.classLink own i C).before a0 Z = true) (wi : (Jvm.Cond.instantiable C nn).before a0 Z = true) (wz : (Jvm.Cond.initialized C).before a0 Z = true) (hc : k + 1 ≤ R.cells) (hl : n + nn ≤ R.slots) (hd : Dc code pc (.new i) 3 q) (g : ∀ T h' a, a = h.size → n0 ≤ a → Ext h h' → Exa Z h' a C → (∀ {O nm d : String} {ty : FieldType}, Laid Z a0 C O nm d → parseFieldDescriptor d = some ty → Fld Z h' a O nm d (defaultValue ty)) → St n0 p l e R s m args below meth c (k + 1) (n + nn) h' T → Wp n0 p e R s below Q T (mkF m q Ls (.ref a :: st))) : Wp n0 p e R s below Q T (mkF m pc Ls st) := by
  obtain ⟨hx, hby, -, -, -, hown, hZ, hmn⟩ := K; obtain ⟨locs, S, e1, N, z⟩ := S; obtain ⟨hd, rfl⟩ := hd
  obtain ⟨T1, h1, S1, e2, E1, A1, D1, -, st1⟩ := newO S hx hZ hown w wi wz e1 (g := mkF m pc Ls st) rfl (hb hby hd) hc hl
  exact wp_mono st1 (g T1 h1 h.size rfl z E1 A1 D1 ⟨_, S1, e2, N, Nat.le_trans z E1.1⟩)
theorem newarr (K : Cx own code mL ret mn n0 Z p l e R s m args below meth c) (S : St n0 p l e R s m args below meth c k n h T) {aty : ArrayType} {cap : Nat} (w : (Jvm.Cond.arrayClass (newarray.typeOf aty)).before a0 Z = true) (hn : ¬ x < 0) (hcap : x.toNatClampNeg ≤ cap) (hb' : cap * 8 ≤ 536870912) (hc : k + 1 ≤ R.cells) (hl : n + cap ≤ R.slots) (hd : Dc code pc (.newarray aty) 2 q) (g : ∀ T h' a, a = h.size → n0 ≤ a → Ext h h' → VA Z h' a (newarray.typeOf aty) (List.replicate x.toNatClampNeg (defaultValue (newarray.typeOf aty))) → St n0 p l e R s m args below meth c (k + 1) (n + cap) h' T → Wp n0 p e R s below Q T (mkF m q Ls (.ref a :: st))) : Wp n0 p e R s below Q T (mkF m pc Ls (.int x :: st)) := by
  obtain ⟨hx, hby, -, -, -, hown, hZ, hmn⟩ := K; obtain ⟨locs, S, e1, N, z⟩ := S; obtain ⟨hd, rfl⟩ := hd
  obtain ⟨T1, h1, cA, S1, e2, E1, A1, st1⟩ := newP S hx hZ w e1 (g := mkF m pc Ls (.int x :: st)) rfl (hb hby hd) rfl hn hcap hb' hc hl
  exact wp_mono st1 (g T1 h1 h.size rfl z E1 ⟨_, A1, by simp [newA]⟩ ⟨_, S1, e2, N, Nat.le_trans z E1.1⟩)
theorem inito (K : Cx own code mL ret mn n0 Z p l e R s m args below meth c) (S : St n0 p l e R s m args below meth c k n h T) {i W : Nat} (w1 : (Jvm.Cond.methodLink own i Lib.objectInit).before a0 Z = true) (w2 : (Jvm.Cond.instanceMethod Lib.objectInit).before a0 Z = true) (w3 : (Jvm.Cond.code Lib.objectInit ⟨#[0xb1]⟩ 1 none).before a0 Z = true) (hsz : Ls.size = mL) (hf : 1 ≤ R.frames) (hW : (st.map fun v => v.category).sum ≤ W) (hl : W + 12 ≤ R.locals) (hd : Dc code pc (.invokespecial i) 3 q) (g : ∀ T, St n0 p l e R s m args below meth c k n h T → Wp n0 p e R s below Q T (mkF m q Ls st)) : Wp n0 p e R s below Q T (mkF m pc Ls (.ref a :: st)) := by
  obtain ⟨hx, hby, hml, -, -, hown, hZ, hmn⟩ := K; obtain ⟨locs, S, e1, N, z⟩ := S; obtain ⟨hd, rfl⟩ := hd
  obtain ⟨T1, S1, e2, st1⟩ := initO S hx hZ hown w1 w2 w3 e1 (g := mkF m pc Ls (.ref a :: st)) rfl (by rw [hml]; exact hsz) rfl (hb hby hd) hf (W := W) (by show 2 * 0 + _ ≤ _; omega) hl
  exact wp_mono st1 (g T1 ⟨_, S1, e2, N, z⟩)
theorem iaload (K : Cx own code mL ret mn n0 Z p l e R s m args below meth c) (S : St n0 p l e R s m args below meth c k n h T) {i : Nat} (A : VA Z h a .int vs) (hi : Ix x i) (hv : vs[i]? = some v) (hd : Dc code pc .iaload 1 q) (g : Wp n0 p e R s below Q T (mkF m q Ls (v :: st))) : Wp n0 p e R s below Q T (mkF m pc Ls (.int x :: .ref a :: st)) := by
  obtain ⟨hx, hby, -, -, -, hown, hZ, -⟩ := K; obtain ⟨locs, S, e1, N, z⟩ := S; obtain ⟨hd, rfl⟩ := hd; obtain ⟨cl, A, hs⟩ := A; obtain ⟨hi0, rfl⟩ := hi
  have hlt : x.toNatClampNeg < vs.length := (List.getElem?_eq_some_iff.mp hv).1
  exact wp_mono (fun t hr => S.iaload hx (by rw [e1]; exact A.1) (State.isArrayOf_alike hZ.alike A.2.1) A.2.2 (by rw [hs]; simp; exact ⟨Int32.not_lt.mp hi0, hlt⟩) (by rw [hs]; simpa using hv) (g := mkF m pc Ls (.int x :: .ref a :: st)) rfl rfl (hb hby hd) t hr) g
theorem laload (K : Cx own code mL ret mn n0 Z p l e R s m args below meth c) (S : St n0 p l e R s m args below meth c k n h T) {i : Nat} (A : VA Z h a .long vs) (hi : Ix x i) (hv : vs[i]? = some v) (hd : Dc code pc .laload 1 q) (g : Wp n0 p e R s below Q T (mkF m q Ls (v :: st))) : Wp n0 p e R s below Q T (mkF m pc Ls (.int x :: .ref a :: st)) := by
  obtain ⟨hx, hby, -, -, -, hown, hZ, -⟩ := K; obtain ⟨locs, S, e1, N, z⟩ := S; obtain ⟨hd, rfl⟩ := hd; obtain ⟨cl, A, hs⟩ := A; obtain ⟨hi0, rfl⟩ := hi
  have hlt : x.toNatClampNeg < vs.length := (List.getElem?_eq_some_iff.mp hv).1
  exact wp_mono (fun t hr => S.laload hx (by rw [e1]; exact A.1) (State.isArrayOf_alike hZ.alike A.2.1) A.2.2 (by rw [hs]; simp; exact ⟨Int32.not_lt.mp hi0, hlt⟩) (by rw [hs]; simpa using hv) (g := mkF m pc Ls (.int x :: .ref a :: st)) rfl rfl (hb hby hd) t hr) g
theorem caload (K : Cx own code mL ret mn n0 Z p l e R s m args below meth c) (S : St n0 p l e R s m args below meth c k n h T) {i : Nat} (A : VA Z h a .char vs) (hi : Ix x i) (hv : vs[i]? = some v) (hd : Dc code pc .caload 1 q) (g : Wp n0 p e R s below Q T (mkF m q Ls (v :: st))) : Wp n0 p e R s below Q T (mkF m pc Ls (.int x :: .ref a :: st)) := by
  obtain ⟨hx, hby, -, -, -, hown, hZ, -⟩ := K; obtain ⟨locs, S, e1, N, z⟩ := S; obtain ⟨hd, rfl⟩ := hd; obtain ⟨cl, A, hs⟩ := A; obtain ⟨hi0, rfl⟩ := hi
  have hlt : x.toNatClampNeg < vs.length := (List.getElem?_eq_some_iff.mp hv).1
  exact wp_mono (fun t hr => S.caload hx (by rw [e1]; exact A.1) (State.isArrayOf_alike hZ.alike A.2.1) A.2.2 (by rw [hs]; simp; exact ⟨Int32.not_lt.mp hi0, hlt⟩) (by rw [hs]; simpa using hv) (g := mkF m pc Ls (.int x :: .ref a :: st)) rfl rfl (hb hby hd) t hr) g
theorem baload (K : Cx own code mL ret mn n0 Z p l e R s m args below meth c) (S : St n0 p l e R s m args below meth c k n h T) {i : Nat} (A : VA Z h a .byte vs) (hi : Ix x i) (hv : vs[i]? = some v) (hd : Dc code pc .baload 1 q) (g : Wp n0 p e R s below Q T (mkF m q Ls (v :: st))) : Wp n0 p e R s below Q T (mkF m pc Ls (.int x :: .ref a :: st)) := by
  obtain ⟨hx, hby, -, -, -, hown, hZ, -⟩ := K; obtain ⟨locs, S, e1, N, z⟩ := S; obtain ⟨hd, rfl⟩ := hd; obtain ⟨cl, A, hs⟩ := A; obtain ⟨hi0, rfl⟩ := hi
  have hlt : x.toNatClampNeg < vs.length := (List.getElem?_eq_some_iff.mp hv).1
  exact wp_mono (fun t hr => S.baloadBytes hx (by rw [e1]; exact A.1) (State.isArrayOf_alike hZ.alike A.2.1) A.2.2 (by rw [hs]; simp; exact ⟨Int32.not_lt.mp hi0, hlt⟩) (by rw [hs]; simpa using hv) (g := mkF m pc Ls (.int x :: .ref a :: st)) rfl rfl (hb hby hd) t hr) g
theorem iastore (K : Cx own code mL ret mn n0 Z p l e R s m args below meth c) (S : St n0 p l e R s m args below meth c k n h T) {i : Nat} (A : VA Z h a .int vs) (hi : Ix x i) (hlt : i < vs.length) (ha : n0 ≤ a) (hd : Dc code pc .iastore 1 q) (g : ∀ T h', Wr h h' a i (.int y) → VA Z h' a .int (vs.set i (.int y)) → St n0 p l e R s m args below meth c k n h' T → Wp n0 p e R s below Q T (mkF m q Ls st)) : Wp n0 p e R s below Q T (mkF m pc Ls (.int y :: .int x :: .ref a :: st)) := by
  obtain ⟨hx, hby, -, -, -, hown, hZ, -⟩ := K; obtain ⟨locs, S, e1, N, z⟩ := S; obtain ⟨hd, rfl⟩ := hd; have A0 := A; obtain ⟨cl, A, hs⟩ := A; obtain ⟨hi0, rfl⟩ := hi
  obtain ⟨T1, h1, S1, e2, W1, st1⟩ := stI S hx hZ e1 A (by rw [hs]; simp; exact ⟨Int32.not_lt.mp hi0, hlt⟩) (g := mkF m pc Ls (.int y :: .int x :: .ref a :: st)) rfl rfl (hb hby hd)
  exact wp_mono st1 (g T1 h1 W1 (A0.wr W1) ⟨_, S1, e2, Fr.snoc S1 N ha, by rw [W1.size]; exact z⟩)
theorem lastore (K : Cx own code mL ret mn n0 Z p l e R s m args below meth c) (S : St n0 p l e R s m args below meth c k n h T) {i : Nat} (A : VA Z h a .long vs) (hi : Ix x i) (hlt : i < vs.length) (ha : n0 ≤ a) (hd : Dc code pc .lastore 1 q) (g : ∀ T h', Wr h h' a i (.long X) → VA Z h' a .long (vs.set i (.long X)) → St n0 p l e R s m args below meth c k n h' T → Wp n0 p e R s below Q T (mkF m q Ls st)) : Wp n0 p e R s below Q T (mkF m pc Ls (.long X :: .int x :: .ref a :: st)) := by
  obtain ⟨hx, hby, -, -, -, hown, hZ, -⟩ := K; obtain ⟨locs, S, e1, N, z⟩ := S; obtain ⟨hd, rfl⟩ := hd; have A0 := A; obtain ⟨cl, A, hs⟩ := A; obtain ⟨hi0, rfl⟩ := hi
  obtain ⟨T1, h1, S1, e2, W1, st1⟩ := stJ S hx hZ e1 A (by rw [hs]; simp; exact ⟨Int32.not_lt.mp hi0, hlt⟩) (g := mkF m pc Ls (.long X :: .int x :: .ref a :: st)) rfl rfl (hb hby hd)
  exact wp_mono st1 (g T1 h1 W1 (A0.wr W1) ⟨_, S1, e2, Fr.snoc S1 N ha, by rw [W1.size]; exact z⟩)
theorem castore (K : Cx own code mL ret mn n0 Z p l e R s m args below meth c) (S : St n0 p l e R s m args below meth c k n h T) {i : Nat} (A : VA Z h a .char vs) (hi : Ix x i) (hlt : i < vs.length) (ha : n0 ≤ a) (hd : Dc code pc .castore 1 q) (g : ∀ T h', Wr h h' a i (.int (nar .char y)) → VA Z h' a .char (vs.set i (.int (nar .char y))) → St n0 p l e R s m args below meth c k n h' T → Wp n0 p e R s below Q T (mkF m q Ls st)) : Wp n0 p e R s below Q T (mkF m pc Ls (.int y :: .int x :: .ref a :: st)) := by
  obtain ⟨hx, hby, -, -, -, hown, hZ, -⟩ := K; obtain ⟨locs, S, e1, N, z⟩ := S; obtain ⟨hd, rfl⟩ := hd; have A0 := A; obtain ⟨cl, A, hs⟩ := A; obtain ⟨hi0, rfl⟩ := hi
  obtain ⟨T1, h1, S1, e2, W1, st1⟩ := stC S hx hZ e1 A (by rw [hs]; simp; exact ⟨Int32.not_lt.mp hi0, hlt⟩) (g := mkF m pc Ls (.int y :: .int x :: .ref a :: st)) rfl rfl (hb hby hd)
  exact wp_mono st1 (g T1 h1 W1 (A0.wr W1) ⟨_, S1, e2, Fr.snoc S1 N ha, by rw [W1.size]; exact z⟩)
theorem bastore (K : Cx own code mL ret mn n0 Z p l e R s m args below meth c) (S : St n0 p l e R s m args below meth c k n h T) {i : Nat} (A : VA Z h a .byte vs) (hi : Ix x i) (hlt : i < vs.length) (ha : n0 ≤ a) (hd : Dc code pc .bastore 1 q) (g : ∀ T h', Wr h h' a i (.int (nar .byte y)) → VA Z h' a .byte (vs.set i (.int (nar .byte y))) → St n0 p l e R s m args below meth c k n h' T → Wp n0 p e R s below Q T (mkF m q Ls st)) : Wp n0 p e R s below Q T (mkF m pc Ls (.int y :: .int x :: .ref a :: st)) := by
  obtain ⟨hx, hby, -, -, -, hown, hZ, -⟩ := K; obtain ⟨locs, S, e1, N, z⟩ := S; obtain ⟨hd, rfl⟩ := hd; have A0 := A; obtain ⟨cl, A, hs⟩ := A; obtain ⟨hi0, rfl⟩ := hi
  obtain ⟨T1, h1, S1, e2, W1, st1⟩ := stB S hx hZ e1 A (by rw [hs]; simp; exact ⟨Int32.not_lt.mp hi0, hlt⟩) (g := mkF m pc Ls (.int y :: .int x :: .ref a :: st)) rfl rfl (hb hby hd)
  exact wp_mono st1 (g T1 h1 W1 (A0.wr W1) ⟨_, S1, e2, Fr.snoc S1 N ha, by rw [W1.size]; exact z⟩)
theorem alen (K : Cx own code mL ret mn n0 Z p l e R s m args below meth c) (S : St n0 p l e R s m args below meth c k n h T) (A : VA Z h a ty vs) (hx' : vs.length.toInt32 = x) (hd : Dc code pc .arraylength 1 q) (g : Wp n0 p e R s below Q T (mkF m q Ls (.int x :: st))) : Wp n0 p e R s below Q T (mkF m pc Ls (.ref a :: st)) := by
  obtain ⟨hx, hby, -, -, -, hown, hZ, -⟩ := K; obtain ⟨locs, S, e1, N, z⟩ := S; obtain ⟨hd, rfl⟩ := hd; obtain ⟨cl, A, hs⟩ := A
  refine wp_mono (fun t hr => S.arraylength hx (by rw [e1]; exact A.1) (State.isArrayOf_alike hZ.alike A.2.1) (g := mkF m pc Ls (.ref a :: st)) rfl rfl (hb hby hd) t hr) (T' := T) (g' := mkF m (pc + 1) Ls (.int cl.slots.size.toInt32 :: st)) ?_
  rw [hs]; simpa [hx'] using g
theorem retn (K : Cx own code mL (some ty) mn n0 Z p l e R s m args below meth c) (S : St n0 p l e R s m args below meth c k n h T) (ht : ty = .boolean ∨ ty = .byte ∨ ty = .char ∨ ty = .short) (hz : nar ty x = y) (hk : k ≤ R.cells) (hn : n ≤ R.slots) (hd : Dc code pc .ireturn 1 q) (hQ : Q (some (.int y)) h) : Wp n0 p e R s below Q T (mkF m pc Ls (.int x :: st)) := by
  obtain ⟨hx, hby, -, hret, hlk, -⟩ := K; obtain ⟨locs, S, e1, N, z⟩ := S; obtain ⟨hd, -⟩ := hd
  obtain ⟨fs, hr, hrun, hended, hW, hsame⟩ := S.leave (v := some (.int y)) (fun h => by rw [hret] at h; cases h) hlk
  refine ⟨_, _, retN S hx hret ht (hb hby hd) (by rw [hz]; exact hr), hrun, hended, _, _, rfl, ⟨?_, ?_, N⟩, ⟨_, rfl⟩, hW, hsame.mono hk hn⟩
  · show Q _ T.heap; rw [e1]; exact hQ
  · show n0 ≤ T.heap.size; rw [e1]; exact z
theorem reti (K : Cx own code mL (some .int) mn n0 Z p l e R s m args below meth c) (S : St n0 p l e R s m args below meth c k n h T) (hk : k ≤ R.cells) (hn : n ≤ R.slots) (hd : Dc code pc .ireturn 1 q) (hQ : Q (some (.int x)) h) : Wp n0 p e R s below Q T (mkF m pc Ls (.int x :: st)) := by
  obtain ⟨hx, hby, -, hret, hlk, -⟩ := K; obtain ⟨locs, S, e1, N, z⟩ := S; obtain ⟨hd, -⟩ := hd
  obtain ⟨fs, hr, hrun, hended, hW, hsame⟩ := S.leave (v := some (.int x)) (fun h => by rw [hret] at h; cases h) hlk
  refine ⟨_, _, retOut S hx hret rfl (Or.inl ⟨rfl, Or.inl rfl, _, rfl⟩) (hb hby hd) hr, hrun, hended, _, _, rfl, ⟨?_, ?_, N⟩, ⟨_, rfl⟩, hW, hsame.mono hk hn⟩
  · show Q _ T.heap; rw [e1]; exact hQ
  · show n0 ≤ T.heap.size; rw [e1]; exact z
theorem retl (K : Cx own code mL (some .long) mn n0 Z p l e R s m args below meth c) (S : St n0 p l e R s m args below meth c k n h T) (hk : k ≤ R.cells) (hn : n ≤ R.slots) (hd : Dc code pc .lreturn 1 q) (hQ : Q (some (.long X)) h) : Wp n0 p e R s below Q T (mkF m pc Ls (.long X :: st)) := by
  obtain ⟨hx, hby, -, hret, hlk, -⟩ := K; obtain ⟨locs, S, e1, N, z⟩ := S; obtain ⟨hd, -⟩ := hd
  obtain ⟨fs, hr, hrun, hended, hW, hsame⟩ := S.leave (v := some (.long X)) (fun h => by rw [hret] at h; cases h) hlk
  refine ⟨_, _, retOut S hx hret rfl (Or.inr (Or.inl ⟨rfl, rfl, _, rfl⟩)) (hb hby hd) hr, hrun, hended, _, _, rfl, ⟨?_, ?_, N⟩, ⟨_, rfl⟩, hW, hsame.mono hk hn⟩
  · show Q _ T.heap; rw [e1]; exact hQ
  · show n0 ≤ T.heap.size; rw [e1]; exact z
theorem reta (K : Cx own code mL (some ty) mn n0 Z p l e R s m args below meth c) (S : St n0 p l e R s m args below meth c k n h T) (hrf : ty.isReference = true) (hnr : narrow ty (.ref a) = .ref a) (hk : k ≤ R.cells) (hn : n ≤ R.slots) (hd : Dc code pc .areturn 1 q) (hQ : Q (some (.ref a)) h) : Wp n0 p e R s below Q T (mkF m pc Ls (.ref a :: st)) := by
  obtain ⟨hx, hby, -, hret, hlk, -⟩ := K; obtain ⟨locs, S, e1, N, z⟩ := S; obtain ⟨hd, -⟩ := hd
  obtain ⟨fs, hr, hrun, hended, hW, hsame⟩ := S.leave (v := some (.ref a)) (fun h => by rw [hret] at h; cases h) hlk
  refine ⟨_, _, retOut S hx hret hnr (Or.inr (Or.inr (Or.inr (Or.inr ⟨rfl, hrf, rfl⟩)))) (hb hby hd) hr, hrun, hended, _, _, rfl, ⟨?_, ?_, N⟩, ⟨_, rfl⟩, hW, hsame.mono hk hn⟩
  · show Q _ T.heap; rw [e1]; exact hQ
  · show n0 ≤ T.heap.size; rw [e1]; exact z
theorem retv (K : Cx own code mL (none) mn n0 Z p l e R s m args below meth c) (S : St n0 p l e R s m args below meth c k n h T) (hk : k ≤ R.cells) (hn : n ≤ R.slots) (hd : Dc code pc .return_ 1 q) (hQ : Q (none) h) : Wp n0 p e R s below Q T (mkF m pc Ls ([])) := by
  obtain ⟨hx, hby, -, hret, hlk, -⟩ := K; obtain ⟨locs, S, e1, N, z⟩ := S; obtain ⟨hd, -⟩ := hd
  obtain ⟨fs, hr, hrun, hended, hW, hsame⟩ := S.leave (v := none) (fun _ => rfl) hlk
  refine ⟨_, _, S.returnOut hx hret (hb hby hd) hr, hrun, hended, _, _, rfl, ⟨?_, ?_, N⟩, ⟨_, rfl⟩, hW, hsame.mono hk hn⟩
  · show Q _ T.heap; rw [e1]; exact hQ
  · show n0 ≤ T.heap.size; rw [e1]; exact z
theorem callS (K : Cx own code mL ret mn n0 Z p l e R s m args below meth c) (S : St n0 p l e R s m args below meth c k n h T) {i mL' W : Nat} {y : MethodName} {bytes : ByteArray} {ret' : Option FieldType} {rm : Room} {as' : Array Value} {Q' : Option Value → Heap → Prop} {argsL : List Value} (M : Met n0 l Z y bytes mL' ret' rm [] as' h Q') (w1 : (Jvm.Cond.methodLink own i y).before a0 Z = true) (w2 : (Jvm.Cond.static y).before a0 Z = true) (w4 : (Jvm.Cond.code y bytes mL' ret').before a0 Z = true) (w5 : (Jvm.Cond.initialized y.cls).before a0 Z = true) (hy : y.cls ≠ "java/lang/invoke/MethodHandle" ∧ y.cls ≠ "java/lang/invoke/VarHandle") (hfr : rm.frames + 1 ≤ R.frames) (hlo : W + (mL' + 11) + rm.locals ≤ R.locals) (hce : k + rm.cells ≤ R.cells) (hsl : n + rm.slots ≤ R.slots) (hsz : Ls.size = mL) (has : (argsL).toArray = as') (hlen : ∀ sig, parseMethodDescriptor y.desc = some sig → argsL.length = sig.parameters.length) (hst : st = argsL.reverse ++ rest) (hW : (rest.map fun v => v.category).sum ≤ W) (hd : Dc code pc (.invokestatic i) 3 q) (g : ∀ T v h', Q' v h' → St n0 p l e R s m args below meth c (k + rm.cells) (n + rm.slots) h' T → Wp n0 p e R s below Q T (mkF m q Ls (v.toList ++ rest))) : Wp n0 p e R s below Q T (mkF m pc Ls st) := by
  obtain ⟨hx, hby, hml, -, -, hown, hZ, hmn⟩ := K; obtain ⟨locs, S, e1, N, z⟩ := S; obtain ⟨hd, rfl⟩ := hd; subst hst has
  obtain ⟨v1, _, ⟨T1, L1, k1, n1⟩, -, S1, ⟨Lc1, hQ1, l1, y1, z1⟩, st1⟩ := Jvm.LawKit.callS S hx (y := y) hown (mvT hZ w1) (mvT hZ w2) (mvT hZ w5) (mvT hZ w4) hy (backOf (W := W) (Q := fun v h L => Q' v h ∧ n0 ≤ h.size ∧ Fr n0 L) M hZ w4 w5 hfr hlo) (g := mkF m pc Ls (argsL.reverse ++ rest)) rfl (by rw [hml]; exact hsz) (argsL := argsL) (rest := rest) hlen rfl (by show 2 * 0 + _ ≤ _; omega) (hb hby hd) (fun _ _ => ⟨rfl, e1, hce, hsl⟩)
  dsimp only [Pt.U, Pt.locs, Pt.cells, Pt.slots] at S1 l1 y1 z1 st1 hQ1
  subst l1 y1 z1
  exact wp_mono st1 (g T1 v1 T1.heap hQ1.1 ⟨_, S1, rfl, Fr.app N hQ1.2.2, hQ1.2.1⟩)
theorem callC (K : Cx own code mL ret mn n0 Z p l e R s m args below meth c) (S : St n0 p l e R s m args below meth c k n h T) {i mL' W : Nat} {y : MethodName} {bytes : ByteArray} {ret' : Option FieldType} {rm : Room} {as' : Array Value} {Q' : Option Value → Heap → Prop} {argsL : List Value} (M : Met n0 l Z y bytes mL' ret' rm [] as' h Q') (hin : y.name = "<init>") (hr0 : ret' = none) (w1 : (Jvm.Cond.methodLink own i y).before a0 Z = true) (w2 : (Jvm.Cond.instanceMethod y).before a0 Z = true) (w4 : (Jvm.Cond.code y bytes mL' ret').before a0 Z = true) (w5 : (Jvm.Cond.initialized y.cls).before a0 Z = true) (hy : y.cls ≠ "java/lang/invoke/MethodHandle" ∧ y.cls ≠ "java/lang/invoke/VarHandle") (hfr : rm.frames + 1 ≤ R.frames) (hlo : W + (mL' + 11) + rm.locals ≤ R.locals) (hce : k + rm.cells ≤ R.cells) (hsl : n + rm.slots ≤ R.slots) (hsz : Ls.size = mL) (has : (.ref a :: argsL).toArray = as') (hlen : ∀ sig, parseMethodDescriptor y.desc = some sig → argsL.length = sig.parameters.length) (hst : st = argsL.reverse ++ .ref a :: rest) (hW : (rest.map fun v => v.category).sum ≤ W) (hd : Dc code pc (.invokespecial i) 3 q) (g : ∀ T v h', Q' v h' → St n0 p l e R s m args below meth c (k + rm.cells) (n + rm.slots) h' T → Wp n0 p e R s below Q T (mkF m q Ls (v.toList ++ rest))) : Wp n0 p e R s below Q T (mkF m pc Ls st) := by
  obtain ⟨hx, hby, hml, -, -, hown, hZ, hmn⟩ := K; obtain ⟨locs, S, e1, N, z⟩ := S; obtain ⟨hd, rfl⟩ := hd; subst hst has
  subst hr0
  obtain ⟨v1, _, ⟨T1, L1, k1, n1⟩, -, S1, ⟨Lc1, hQ1, l1, y1, z1⟩, st1⟩ := S.specialBack hx (y := y) hin hown (mvT hZ w1) (mvT hZ w2) (mvT hZ w4) hy (backOf (W := W) (Q := fun v h L => Q' v h ∧ n0 ≤ h.size ∧ Fr n0 L) M hZ w4 w5 hfr hlo) (g := mkF m pc Ls (argsL.reverse ++ .ref a :: rest)) rfl (by rw [hml]; exact hsz) (Steps.refl _) (a := a) (argsL := argsL) (rest := rest) hlen rfl (by show 2 * 0 + _ ≤ _; omega) (hb hby hd) (fun _ _ => ⟨rfl, e1, hce, hsl⟩)
  dsimp only [Pt.U, Pt.locs, Pt.cells, Pt.slots] at S1 l1 y1 z1 st1 hQ1
  subst l1 y1 z1
  exact wp_mono (fun t hr => st1.trans hr) (g T1 v1 T1.heap hQ1.1 ⟨_, S1, rfl, Fr.app N hQ1.2.2, hQ1.2.1⟩)
theorem callV (K : Cx own code mL ret mn n0 Z p l e R s m args below meth c) (S : St n0 p l e R s m args below meth c k n h T) {i mL' W : Nat} {y : MethodName} {bytes : ByteArray} {ret' : Option FieldType} {rm : Room} {as' : Array Value} {Q' : Option Value → Heap → Prop} {argsL : List Value} (M : Met n0 l Z y bytes mL' ret' rm [] as' h Q') (E : Exa Z h a y.cls) (w1 : (Jvm.Cond.methodLink own i y).before a0 Z = true) (w2 : (Jvm.Cond.declares y).before a0 Z = true) (w3 : (Jvm.Cond.selects y.cls y y).before a0 Z = true) (w6 : (Jvm.Cond.instanceMethod y).before a0 Z = true) (w4 : (Jvm.Cond.code y bytes mL' ret').before a0 Z = true) (w5 : (Jvm.Cond.initialized y.cls).before a0 Z = true) (hy : y.cls ≠ "java/lang/invoke/MethodHandle" ∧ y.cls ≠ "java/lang/invoke/VarHandle") (hfr : rm.frames + 1 ≤ R.frames) (hlo : W + (mL' + 11) + rm.locals ≤ R.locals) (hce : k + rm.cells ≤ R.cells) (hsl : n + rm.slots ≤ R.slots) (hsz : Ls.size = mL) (has : (.ref a :: argsL).toArray = as') (hlen : ∀ sig, parseMethodDescriptor y.desc = some sig → argsL.length = sig.parameters.length) (hst : st = argsL.reverse ++ .ref a :: rest) (hW : (rest.map fun v => v.category).sum ≤ W) (hd : Dc code pc (.invokevirtual i) 3 q) (g : ∀ T v h', Q' v h' → St n0 p l e R s m args below meth c (k + rm.cells) (n + rm.slots) h' T → Wp n0 p e R s below Q T (mkF m q Ls (v.toList ++ rest))) : Wp n0 p e R s below Q T (mkF m pc Ls st) := by
  obtain ⟨hx, hby, hml, -, -, hown, hZ, hmn⟩ := K; obtain ⟨locs, S, e1, N, z⟩ := S; obtain ⟨hd, rfl⟩ := hd; subst hst has
  obtain ⟨cq, kq, qa, qb, qc⟩ := isOf hZ e1 E
  obtain ⟨v1, _, ⟨T1, L1, k1, n1⟩, -, S1, ⟨Lc1, hQ1, l1, y1, z1⟩, st1⟩ := S.virtualBack hx (y := y) (z := y) hown (mvT hZ w1) (mvT hZ w2) (notFace_of_selects (args := #[]) (mvT hZ w3)) (mvT hZ w3) (mvT hZ w6) hy (backOf (W := W) (Q := fun v h L => Q' v h ∧ n0 ≤ h.size ∧ Fr n0 L) M hZ w4 w5 hfr hlo) qa qc (g := mkF m pc Ls (argsL.reverse ++ .ref a :: rest)) rfl (by rw [hml]; exact hsz) (Steps.refl _) (argsL := argsL) (rest := rest) hlen rfl (by show 2 * 0 + _ ≤ _; omega) (hb hby hd) (fun _ _ => ⟨rfl, e1, hce, hsl⟩)
  dsimp only [Pt.U, Pt.locs, Pt.cells, Pt.slots] at S1 l1 y1 z1 st1 hQ1
  subst l1 y1 z1
  exact wp_mono (fun t hr => st1.trans hr) (g T1 v1 T1.heap hQ1.1 ⟨_, S1, rfl, Fr.app N hQ1.2.2, hQ1.2.1⟩)
theorem callP (K : Cx own code mL ret mn n0 Z p l e R s m args below meth c) (S : St n0 p l e R s m args below meth c k n h T) {i mL' W : Nat} {y : MethodName} {bytes : ByteArray} {ret' : Option FieldType} {rm : Room} {as' : Array Value} {Q' : Option Value → Heap → Prop} {argsL : List Value} (M : Met n0 l Z y bytes mL' ret' rm [] as' h Q') (E : Exa Z h a y.cls) {y2 : MethodName} (hy2 : y2.cls = y.cls) (w1 : (Jvm.Cond.methodLink own i y).before a0 Z = true) (w2 : (Jvm.Cond.privateMethod y).before a0 Z = true) (w3 : (Jvm.Cond.selects y.cls y2 y2).before a0 Z = true) (w6 : (Jvm.Cond.instanceMethod y).before a0 Z = true) (w4 : (Jvm.Cond.code y bytes mL' ret').before a0 Z = true) (w5 : (Jvm.Cond.initialized y.cls).before a0 Z = true) (hy : y.cls ≠ "java/lang/invoke/MethodHandle" ∧ y.cls ≠ "java/lang/invoke/VarHandle") (hfr : rm.frames + 1 ≤ R.frames) (hlo : W + (mL' + 11) + rm.locals ≤ R.locals) (hce : k + rm.cells ≤ R.cells) (hsl : n + rm.slots ≤ R.slots) (hsz : Ls.size = mL) (has : (.ref a :: argsL).toArray = as') (hlen : ∀ sig, parseMethodDescriptor y.desc = some sig → argsL.length = sig.parameters.length) (hst : st = argsL.reverse ++ .ref a :: rest) (hW : (rest.map fun v => v.category).sum ≤ W) (hd : Dc code pc (.invokevirtual i) 3 q) (g : ∀ T v h', Q' v h' → St n0 p l e R s m args below meth c (k + rm.cells) (n + rm.slots) h' T → Wp n0 p e R s below Q T (mkF m q Ls (v.toList ++ rest))) : Wp n0 p e R s below Q T (mkF m pc Ls st) := by
  obtain ⟨hx, hby, hml, -, -, hown, hZ, hmn⟩ := K; obtain ⟨locs, S, e1, N, z⟩ := S; obtain ⟨hd, rfl⟩ := hd; subst hst has
  obtain ⟨cq, q1, q2⟩ := E.cell
  have w3' : (Jvm.Cond.selects y.cls y2 y2).before (args := #[]) s = true := mvT hZ w3
  have wp' := Cond.privateMethod_at (mvP hZ w2 (args := #[]))
  have w6' : (Jvm.Cond.instanceMethod y).before args s = true := mvT hZ w6
  obtain ⟨c1, r1, m1, f1, f2, f3, f4, k2, f5, f6⟩ := Cond.selects_spec w3'
  have f7 : s.vm.findClass y.cls = some m1.cls := by rw [← hy2]; exact findClass_of_methodNamed f3
  have hsel : (Jvm.Cond.selects y.cls y y).before args s = true := Stand.selects_self_of_private f7 f5 f6 wp' w6' hy
  obtain ⟨v1, _, ⟨T1, L1, k1, n1⟩, -, S1, ⟨Lc1, hQ1, l1, y1, z1⟩, st1⟩ := S.privateBack hx (y := y) hown (mvT hZ w1) w6' hsel wp' (mvT hZ w4) hy (backOf (W := W) (Q := fun v h L => Q' v h ∧ n0 ≤ h.size ∧ Fr n0 L) M hZ w4 w5 hfr hlo) (g := mkF m pc Ls (argsL.reverse ++ .ref a :: rest)) rfl (by rw [hml]; exact hsz) (Steps.refl _) (a := a) (by rw [e1]; exact q1) q2 (argsL := argsL) (rest := rest) hlen rfl (by show 2 * 0 + _ ≤ _; omega) (hb hby hd) (fun _ _ => ⟨rfl, e1, hce, hsl⟩)
  dsimp only [Pt.U, Pt.locs, Pt.cells, Pt.slots] at S1 l1 y1 z1 st1 hQ1
  subst l1 y1 z1
  exact wp_mono (fun t hr => st1.trans hr) (g T1 v1 T1.heap hQ1.1 ⟨_, S1, rfl, Fr.app N hQ1.2.2, hQ1.2.1⟩)
end Kit
end Jvm.Own
namespace Jvm.Pilot.@@N@@
open Jvm Jvm.ClassFile Sem Op Lib Jvm.Free Jvm.Stand Jvm.LawKit Jvm.RoadKit Bundle Jvm.Pilot.@@N@@.Jvm.D Jvm.Own
theorem hwi {a0 : Array Value} {Z : State} (hw : ∀ d ∈ tables_1, d.before a0 Z = true) (i : Nat) {d : Jvm.Cond} (h : tables_1[i]? = some d) : d.before a0 Z = true := hw _ (List.mem_of_getElem? h)
theorem bvm (i : Nat) : (65535 : Int32).toBitVec.getLsbD i = decide (i < 16) := by
  rw [show (65535 : Int32).toBitVec = BitVec.ofNat 32 (2^16 - 1) from rfl, BitVec.getLsbD_ofNat, Nat.testBit_two_pow_sub_one]
  by_cases h : i < 16 <;> simp [h]; omega
theorem bvn (i : Nat) : (-1 : Int32).toBitVec.getLsbD i = decide (i < 32) := by
  rw [show (-1 : Int32).toBitVec = BitVec.ofNat 32 (2^32 - 1) from rfl, BitVec.getLsbD_ofNat, Nat.testBit_two_pow_sub_one]
  by_cases h : i < 32 <;> simp [h]
theorem bvz (i : Nat) : (0 : Int32).toBitVec.getLsbD i = false := by
  rw [show (0 : Int32).toBitVec = 0#32 from rfl]; simp
def sh (x : Int32) : Int32 := x.toInt16.toInt32
theorem shb (x : Int32) (i : Nat) : (sh x).toBitVec.getLsbD i = (decide (i < 32) && x.toBitVec.getLsbD (if i < 16 then i else 15)) := by
  have e : (sh x).toBitVec = (x.toBitVec.signExtend 16).signExtend 32 := by simp [sh]
  rw [e]
  simp only [BitVec.getLsbD_signExtend, BitVec.msb_eq_getLsbD_last]
  by_cases h : i < 16
  · simp [h, show i < 32 by omega]
  · simp [h]
theorem pen {w m r : Int32} (h : r = sh (sh w ||| m)) : (r &&& 65535) &&& (m &&& 65535) = m &&& 65535 ∧ (r &&& 65535) &&& (((m &&& 65535) ^^^ -1) &&& 65535) = (sh w &&& 65535) &&& (((m &&& 65535) ^^^ -1) &&& 65535) ∧ sh (r ||| m) = r := by
  subst h
  have t1 : (15 < 16) = True := by simp
  have t2 : (15 < 32) = True := by simp
  refine ⟨?_, ?_, ?_⟩ <;>
  · rw [← Int32.toBitVec_inj]
    apply BitVec.eq_of_getLsbD_eq
    intro i hi
    simp only [Int32.toBitVec_and, Int32.toBitVec_or, Int32.toBitVec_xor, BitVec.getLsbD_and, BitVec.getLsbD_or, BitVec.getLsbD_xor, shb, bvm, bvn, bvz]
    by_cases h : i < 16
    · simp only [h, hi, if_true, decide_true]; cases w.toBitVec.getLsbD i <;> cases m.toBitVec.getLsbD i <;> rfl
    · simp only [h, hi, t1, t2, if_false, if_true, decide_true, decide_false]; cases w.toBitVec.getLsbD 15 <;> cases m.toBitVec.getLsbD 15 <;> cases m.toBitVec.getLsbD i <;> rfl
theorem pen0 {w m r : Int32} (h : r = sh (sh w &&& (m ^^^ -1))) : (r &&& 65535) &&& (m &&& 65535) = 0 ∧ (r &&& 65535) &&& (((m &&& 65535) ^^^ -1) &&& 65535) = (sh w &&& 65535) &&& (((m &&& 65535) ^^^ -1) &&& 65535) ∧ sh (r &&& (m ^^^ -1)) = r := by
  subst h
  have t1 : (15 < 16) = True := by simp
  have t2 : (15 < 32) = True := by simp
  refine ⟨?_, ?_, ?_⟩ <;>
  · rw [← Int32.toBitVec_inj]
    apply BitVec.eq_of_getLsbD_eq
    intro i hi
    simp only [Int32.toBitVec_and, Int32.toBitVec_or, Int32.toBitVec_xor, BitVec.getLsbD_and, BitVec.getLsbD_or, BitVec.getLsbD_xor, shb, bvm, bvn, bvz]
    by_cases h : i < 16
    · simp only [h, hi, if_true, decide_true]; cases w.toBitVec.getLsbD i <;> cases m.toBitVec.getLsbD i <;> rfl
    · simp only [h, hi, t1, t2, if_false, if_true, decide_true, decide_false]; cases w.toBitVec.getLsbD 15 <;> cases m.toBitVec.getLsbD 15 <;> cases m.toBitVec.getLsbD i <;> rfl
theorem d1_0 : Dc prog_24_method_1_code 0 (.aload_n 0) 1 1 := ⟨by decide +kernel, rfl⟩
theorem d1_1 : Dc prog_24_method_1_code 1 (.invokespecial 1) 3 4 := ⟨by decide +kernel, rfl⟩
theorem d1_4 : Dc prog_24_method_1_code 4 (.aload_n 0) 1 5 := ⟨by decide +kernel, rfl⟩
theorem d1_5 : Dc prog_24_method_1_code 5 (.iconst 1) 1 6 := ⟨by decide +kernel, rfl⟩
theorem d1_6 : Dc prog_24_method_1_code 6 (.putfield 7) 3 9 := ⟨by decide +kernel, rfl⟩
theorem d1_9 : Dc prog_24_method_1_code 9 (.return_) 1 10 := ⟨by decide +kernel, rfl⟩
theorem ef_ini (m : MethodId) (a : Addr) : entryFrame m #[.ref a] 1 = mkF m 0 #[.val (.ref a)] [] := by first | (simp [entryFrame, mkF, argsToLocals, Value.category]; done) | rfl
set_option maxRecDepth 65536 in
set_option maxHeartbeats 40000000 in
theorem m_ini (l : Launch) (Z : State) (a0 : Array Value) (hw : ∀ d ∈ tables_1, d.before a0 Z = true) (n0 : Nat) (a : Addr) (h : Heap) (hn : n0 ≤ h.size) (g_a : n0 ≤ a) (E_a : Exa Z h a "com/example/cairn/cairn/Pen") (F_black_a : Fld Z h a "com/example/cairn/cairn/Pen" "black" "Z" (.int 0)) : Met n0 l Z (⟨"com/example/cairn/cairn/Pen", "<init>", "()V"⟩ : MethodName) prog_24_method_1_code 1 none ({ frames := 1, cells := 0, slots := 0, locals := 12 } : Room) [] #[.ref a] h (Ef none (fun h' => Exa Z h' a "com/example/cairn/cairn/Pen" ∧ Fld Z h' a "com/example/cairn/cairn/Pen" "black" "Z" (.int 1))) := by
  refine enter (plainFor_of_name (by first | (simp [plainName, overriddenIn]; done) | decide +kernel)) (fun m => ef_ini m a) hn ?_
  intro p e s m below meth c T K S
  refine aload_n K S rfl rfl d1_0 ?_
  refine inito K S (W := 0) (hwi hw 6 rfl) (hwi hw 7 rfl) (hwi hw 8 rfl) rfl (by decide) (by decide) (by decide) d1_1 fun T S => ?_
  refine aload_n K S rfl rfl d1_4 ?_
  refine iconst K S (x := (1 : Int32)) rfl d1_5 ?_
  refine putf K S (hwi hw 9 rfl) F_black_a E_a (Or.inl (hwi hw 10 rfl)) (hwi hw 1 rfl) (ty := .boolean) (by decide) rfl rfl g_a d1_6 fun T h6_1 W S => ?_
  replace E_a := E_a.wr W
  replace F_black_a := F_black_a.same W
  clear W
  refine retv K S (by decide) (by decide) d1_9 ?_
  exact ⟨rfl, E_a, F_black_a⟩

theorem d3_0 : Dc prog_24_method_2_code 0 (.aload_n 0) 1 1 := ⟨by decide +kernel, rfl⟩
theorem d3_1 : Dc prog_24_method_2_code 1 (.iload_n 1) 1 2 := ⟨by decide +kernel, rfl⟩
theorem d3_2 : Dc prog_24_method_2_code 2 (.putfield 7) 3 5 := ⟨by decide +kernel, rfl⟩
theorem d3_5 : Dc prog_24_method_2_code 5 (.return_) 1 6 := ⟨by decide +kernel, rfl⟩
theorem ef_setb (m : MethodId) (a : Addr) (b : Int32) (o : Int32) : entryFrame m #[.ref a, .int b] 2 = mkF m 0 #[.val (.ref a), .val (.int b)] [] := by first | (simp [entryFrame, mkF, argsToLocals, Value.category]; done) | rfl
set_option maxRecDepth 65536 in
set_option maxHeartbeats 40000000 in
theorem m_setb (l : Launch) (Z : State) (a0 : Array Value) (hw : ∀ d ∈ tables_1, d.before a0 Z = true) (n0 : Nat) (a : Addr) (b : Int32) (o : Int32) (h : Heap) (hn : n0 ≤ h.size) (g_a : n0 ≤ a) (E_a : Exa Z h a "com/example/cairn/cairn/Pen") (F_black_a : Fld Z h a "com/example/cairn/cairn/Pen" "black" "Z" (.int o)) (nb : narrow .boolean (.int b) = .int b) (fb : fits .boolean (.int b) = true) : Met n0 l Z (⟨"com/example/cairn/cairn/Pen", "setBlack", "(Z)V"⟩ : MethodName) prog_24_method_2_code 2 none ({ frames := 0, cells := 0, slots := 0, locals := 0 } : Room) [] #[.ref a, .int b] h (Ef none (fun h' => Exa Z h' a "com/example/cairn/cairn/Pen" ∧ Fld Z h' a "com/example/cairn/cairn/Pen" "black" "Z" (.int b))) := by
  refine enter (plainFor_of_name (by first | (simp [plainName, overriddenIn]; done) | decide +kernel)) (fun m => ef_setb m a b o) hn ?_
  intro p e s m below meth c T K S
  refine aload_n K S rfl rfl d3_0 ?_
  refine iload_n K S rfl d3_1 ?_
  refine putf K S (hwi hw 9 rfl) F_black_a E_a (Or.inl (hwi hw 10 rfl)) (hwi hw 1 rfl) (ty := .boolean) (by decide) nb fb g_a d3_2 fun T h2_1 W S => ?_
  replace E_a := E_a.wr W
  replace F_black_a := F_black_a.same W
  clear W
  refine retv K S (by decide) (by decide) d3_5 ?_
  exact ⟨rfl, E_a, F_black_a⟩

theorem d4_0 : Dc prog_24_method_3_code 0 (.aload_n 0) 1 1 := ⟨by decide +kernel, rfl⟩
theorem d4_1 : Dc prog_24_method_3_code 1 (.getfield 7) 3 4 := ⟨by decide +kernel, rfl⟩
theorem d4_4 : Bc prog_24_method_3_code 4 (.ifCond .eq 9) (9) 7 13 := ⟨by decide +kernel, rfl, by decide, by decide⟩
theorem d4_7 : Dc prog_24_method_3_code 7 (.iload_n 1) 1 8 := ⟨by decide +kernel, rfl⟩
theorem d4_8 : Dc prog_24_method_3_code 8 (.iload_n 2) 1 9 := ⟨by decide +kernel, rfl⟩
theorem d4_9 : Dc prog_24_method_3_code 9 (.ior) 1 10 := ⟨by decide +kernel, rfl⟩
theorem d4_10 : Bc prog_24_method_3_code 10 (.goto 8) (8) 13 18 := ⟨by decide +kernel, rfl, by decide, by decide⟩
theorem d4_13 : Dc prog_24_method_3_code 13 (.iload_n 1) 1 14 := ⟨by decide +kernel, rfl⟩
theorem d4_14 : Dc prog_24_method_3_code 14 (.iload_n 2) 1 15 := ⟨by decide +kernel, rfl⟩
theorem d4_15 : Dc prog_24_method_3_code 15 (.iconst (-1)) 1 16 := ⟨by decide +kernel, rfl⟩
theorem d4_16 : Dc prog_24_method_3_code 16 (.ixor) 1 17 := ⟨by decide +kernel, rfl⟩
theorem d4_17 : Dc prog_24_method_3_code 17 (.iand) 1 18 := ⟨by decide +kernel, rfl⟩
theorem d4_18 : Dc prog_24_method_3_code 18 (.i2s) 1 19 := ⟨by decide +kernel, rfl⟩
theorem d4_19 : Dc prog_24_method_3_code 19 (.ireturn) 1 20 := ⟨by decide +kernel, rfl⟩
theorem ef_paint1 (m : MethodId) (a : Addr) (w : Int32) (k : Int32) : entryFrame m #[.ref a, .int w, .int k] 3 = mkF m 0 #[.val (.ref a), .val (.int w), .val (.int k)] [] := by first | (simp [entryFrame, mkF, argsToLocals, Value.category]; done) | rfl
set_option maxRecDepth 65536 in
set_option maxHeartbeats 40000000 in
theorem m_paint1 (l : Launch) (Z : State) (a0 : Array Value) (hw : ∀ d ∈ tables_1, d.before a0 Z = true) (n0 : Nat) (a : Addr) (w : Int32) (k : Int32) (h : Heap) (hn : n0 ≤ h.size) (F_black_a : Fld Z h a "com/example/cairn/cairn/Pen" "black" "Z" (.int 1)) : Met n0 l Z (⟨"com/example/cairn/cairn/Pen", "paint", "(SI)S"⟩ : MethodName) prog_24_method_3_code 3 (some .short) ({ frames := 0, cells := 0, slots := 0, locals := 0 } : Room) [] #[.ref a, .int w, .int k] h (Pu (some (.int (w ||| k).toInt16.toInt32)) h) := by
  refine enter (plainFor_of_name (by first | (simp [plainName, overriddenIn]; done) | decide +kernel)) (fun m => ef_paint1 m a w k) hn ?_
  intro p e s m below meth c T K S
  refine aload_n K S rfl rfl d4_0 ?_
  refine getf K S (hwi hw 9 rfl) F_black_a d4_1 fun T S => ?_
  refine ific_eq K S d4_4 (fun c4 => ?_) (fun c4 => ?_)
  · exact absurd c4 (by decide)
  refine iload_n K S rfl d4_7 ?_
  refine iload_n K S rfl d4_8 ?_
  refine ior K S d4_9 ?_
  refine goto K S d4_10 ?_
  refine i2s K S d4_18 ?_
  refine retn K S (by simp) (y := (w ||| k).toInt16.toInt32) (by simp [nar]) (by decide) (by decide) d4_19 ?_
  exact ⟨rfl, rfl⟩

theorem ef_paint0 (m : MethodId) (a : Addr) (w : Int32) (k : Int32) : entryFrame m #[.ref a, .int w, .int k] 3 = mkF m 0 #[.val (.ref a), .val (.int w), .val (.int k)] [] := by first | (simp [entryFrame, mkF, argsToLocals, Value.category]; done) | rfl
set_option maxRecDepth 65536 in
set_option maxHeartbeats 40000000 in
theorem m_paint0 (l : Launch) (Z : State) (a0 : Array Value) (hw : ∀ d ∈ tables_1, d.before a0 Z = true) (n0 : Nat) (a : Addr) (w : Int32) (k : Int32) (h : Heap) (hn : n0 ≤ h.size) (F_black_a : Fld Z h a "com/example/cairn/cairn/Pen" "black" "Z" (.int 0)) : Met n0 l Z (⟨"com/example/cairn/cairn/Pen", "paint", "(SI)S"⟩ : MethodName) prog_24_method_3_code 3 (some .short) ({ frames := 0, cells := 0, slots := 0, locals := 0 } : Room) [] #[.ref a, .int w, .int k] h (Pu (some (.int (w &&& (k ^^^ (-1 : Int32))).toInt16.toInt32)) h) := by
  refine enter (plainFor_of_name (by first | (simp [plainName, overriddenIn]; done) | decide +kernel)) (fun m => ef_paint0 m a w k) hn ?_
  intro p e s m below meth c T K S
  refine aload_n K S rfl rfl d4_0 ?_
  refine getf K S (hwi hw 9 rfl) F_black_a d4_1 fun T S => ?_
  refine ific_eq K S d4_4 (fun c4 => ?_) (fun c4 => ?_)
  rotate_left
  · exact absurd c4 (by decide)
  refine iload_n K S rfl d4_13 ?_
  refine iload_n K S rfl d4_14 ?_
  refine iconst K S (x := (-1 : Int32)) rfl d4_15 ?_
  refine ixor K S d4_16 ?_
  refine iand K S d4_17 ?_
  refine i2s K S d4_18 ?_
  refine retn K S (by simp) (y := (w &&& (k ^^^ (-1 : Int32))).toInt16.toInt32) (by simp [nar]) (by decide) (by decide) d4_19 ?_
  exact ⟨rfl, rfl⟩

theorem d0_0 : Dc code 0 (.iload_n 0) 1 1 := ⟨at_0, rfl⟩
theorem d0_1 : Dc code 1 (.i2s) 1 2 := ⟨at_1, rfl⟩
theorem d0_2 : Dc code 2 (.istore_n 3) 1 3 := ⟨at_2, rfl⟩
theorem d0_3 : Dc code 3 (.new 7) 3 6 := ⟨at_3, rfl⟩
theorem d0_6 : Dc code 6 (.dup) 1 7 := ⟨at_6, rfl⟩
theorem d0_7 : Dc code 7 (.invokespecial 9) 3 10 := ⟨at_7, rfl⟩
theorem d0_10 : Dc code 10 (.astore 4) 2 12 := ⟨at_10, rfl⟩
theorem d0_12 : Dc code 12 (.iload_n 2) 1 13 := ⟨at_12, rfl⟩
theorem d0_13 : Dc code 13 (.iconst 3) 1 14 := ⟨at_13, rfl⟩
theorem d0_14 : Dc code 14 (.iand) 1 15 := ⟨at_14, rfl⟩
theorem d0_15 : Dc code 15 (.istore 5) 2 17 := ⟨at_15, rfl⟩
theorem d0_17 : Dc code 17 (.iload 5) 2 19 := ⟨at_17, rfl⟩
theorem d0_19 : Bc code 19 (.ifCond .ne 9) (9) 22 28 := ⟨at_19, rfl, by decide, by decide⟩
theorem d0_22 : Dc code 22 (.iconst 1) 1 23 := ⟨at_22, rfl⟩
theorem d0_23 : Dc code 23 (.istore 6) 2 25 := ⟨at_23, rfl⟩
theorem d0_25 : Bc code 25 (.goto 54) (54) 28 79 := ⟨at_25, rfl, by decide, by decide⟩
theorem d0_28 : Dc code 28 (.iload 5) 2 30 := ⟨at_28, rfl⟩
theorem d0_30 : Dc code 30 (.iconst 1) 1 31 := ⟨at_30, rfl⟩
theorem d0_31 : Bc code 31 (.if_icmp .ne 15) (15) 34 46 := ⟨at_31, rfl, by decide, by decide⟩
theorem d0_34 : Dc code 34 (.aload 4) 2 36 := ⟨at_34, rfl⟩
theorem d0_36 : Dc code 36 (.iconst 1) 1 37 := ⟨at_36, rfl⟩
theorem d0_37 : Dc code 37 (.invokevirtual 10) 3 40 := ⟨at_37, rfl⟩
theorem d0_40 : Dc code 40 (.iconst 1) 1 41 := ⟨at_40, rfl⟩
theorem d0_41 : Dc code 41 (.istore 6) 2 43 := ⟨at_41, rfl⟩
theorem d0_43 : Bc code 43 (.goto 36) (36) 46 79 := ⟨at_43, rfl, by decide, by decide⟩
theorem d0_46 : Dc code 46 (.iload 5) 2 48 := ⟨at_46, rfl⟩
theorem d0_48 : Dc code 48 (.iconst 2) 1 49 := ⟨at_48, rfl⟩
theorem d0_49 : Bc code 49 (.if_icmp .ne 15) (15) 52 64 := ⟨at_49, rfl, by decide, by decide⟩
theorem d0_52 : Dc code 52 (.aload 4) 2 54 := ⟨at_52, rfl⟩
theorem d0_54 : Dc code 54 (.iconst 0) 1 55 := ⟨at_54, rfl⟩
theorem d0_55 : Dc code 55 (.invokevirtual 10) 3 58 := ⟨at_55, rfl⟩
theorem d0_58 : Dc code 58 (.iconst 0) 1 59 := ⟨at_58, rfl⟩
theorem d0_59 : Dc code 59 (.istore 6) 2 61 := ⟨at_59, rfl⟩
theorem d0_61 : Bc code 61 (.goto 18) (18) 64 79 := ⟨at_61, rfl, by decide, by decide⟩
theorem d0_64 : Dc code 64 (.aload 4) 2 66 := ⟨at_64, rfl⟩
theorem d0_66 : Dc code 66 (.iconst 1) 1 67 := ⟨at_66, rfl⟩
theorem d0_67 : Dc code 67 (.invokevirtual 10) 3 70 := ⟨at_67, rfl⟩
theorem d0_70 : Dc code 70 (.aload 4) 2 72 := ⟨at_70, rfl⟩
theorem d0_72 : Dc code 72 (.iconst 0) 1 73 := ⟨at_72, rfl⟩
theorem d0_73 : Dc code 73 (.invokevirtual 10) 3 76 := ⟨at_73, rfl⟩
theorem d0_76 : Dc code 76 (.iconst 0) 1 77 := ⟨at_76, rfl⟩
theorem d0_77 : Dc code 77 (.istore 6) 2 79 := ⟨at_77, rfl⟩
theorem d0_79 : Dc code 79 (.aload 4) 2 81 := ⟨at_79, rfl⟩
theorem d0_81 : Dc code 81 (.iload_n 3) 1 82 := ⟨at_81, rfl⟩
theorem d0_82 : Dc code 82 (.iload_n 1) 1 83 := ⟨at_82, rfl⟩
theorem d0_83 : Dc code 83 (.invokevirtual 14) 3 86 := ⟨at_83, rfl⟩
theorem d0_86 : Dc code 86 (.istore 7) 2 88 := ⟨at_86, rfl⟩
theorem d0_88 : Dc code 88 (.iload 7) 2 90 := ⟨at_88, rfl⟩
theorem d0_90 : Dc code 90 (.ldc 18) 2 92 := ⟨at_90, rfl⟩
theorem d0_92 : Dc code 92 (.iand) 1 93 := ⟨at_92, rfl⟩
theorem d0_93 : Dc code 93 (.istore 8) 2 95 := ⟨at_93, rfl⟩
theorem d0_95 : Dc code 95 (.iload_n 3) 1 96 := ⟨at_95, rfl⟩
theorem d0_96 : Dc code 96 (.ldc 18) 2 98 := ⟨at_96, rfl⟩
theorem d0_98 : Dc code 98 (.iand) 1 99 := ⟨at_98, rfl⟩
theorem d0_99 : Dc code 99 (.istore 9) 2 101 := ⟨at_99, rfl⟩
theorem d0_101 : Dc code 101 (.iload_n 1) 1 102 := ⟨at_101, rfl⟩
theorem d0_102 : Dc code 102 (.ldc 18) 2 104 := ⟨at_102, rfl⟩
theorem d0_104 : Dc code 104 (.iand) 1 105 := ⟨at_104, rfl⟩
theorem d0_105 : Dc code 105 (.istore 10) 2 107 := ⟨at_105, rfl⟩
theorem d0_107 : Dc code 107 (.iload 10) 2 109 := ⟨at_107, rfl⟩
theorem d0_109 : Dc code 109 (.iconst (-1)) 1 110 := ⟨at_109, rfl⟩
theorem d0_110 : Dc code 110 (.ixor) 1 111 := ⟨at_110, rfl⟩
theorem d0_111 : Dc code 111 (.ldc 18) 2 113 := ⟨at_111, rfl⟩
theorem d0_113 : Dc code 113 (.iand) 1 114 := ⟨at_113, rfl⟩
theorem d0_114 : Dc code 114 (.istore 11) 2 116 := ⟨at_114, rfl⟩
theorem d0_116 : Dc code 116 (.iload 8) 2 118 := ⟨at_116, rfl⟩
theorem d0_118 : Dc code 118 (.iload 10) 2 120 := ⟨at_118, rfl⟩
theorem d0_120 : Dc code 120 (.iand) 1 121 := ⟨at_120, rfl⟩
theorem d0_121 : Dc code 121 (.iload 6) 2 123 := ⟨at_121, rfl⟩
theorem d0_123 : Bc code 123 (.ifCond .eq 8) (8) 126 131 := ⟨at_123, rfl, by decide, by decide⟩
theorem d0_126 : Dc code 126 (.iload 10) 2 128 := ⟨at_126, rfl⟩
theorem d0_128 : Bc code 128 (.goto 4) (4) 131 132 := ⟨at_128, rfl, by decide, by decide⟩
theorem d0_131 : Dc code 131 (.iconst 0) 1 132 := ⟨at_131, rfl⟩
theorem d0_132 : Bc code 132 (.if_icmp .ne 7) (7) 135 139 := ⟨at_132, rfl, by decide, by decide⟩
theorem d0_135 : Dc code 135 (.iconst 1) 1 136 := ⟨at_135, rfl⟩
theorem d0_136 : Bc code 136 (.goto 4) (4) 139 140 := ⟨at_136, rfl, by decide, by decide⟩
theorem d0_139 : Dc code 139 (.iconst 0) 1 140 := ⟨at_139, rfl⟩
theorem d0_140 : Dc code 140 (.istore 12) 2 142 := ⟨at_140, rfl⟩
theorem d0_142 : Dc code 142 (.iload 8) 2 144 := ⟨at_142, rfl⟩
theorem d0_144 : Dc code 144 (.iload 11) 2 146 := ⟨at_144, rfl⟩
theorem d0_146 : Dc code 146 (.iand) 1 147 := ⟨at_146, rfl⟩
theorem d0_147 : Dc code 147 (.iload 9) 2 149 := ⟨at_147, rfl⟩
theorem d0_149 : Dc code 149 (.iload 11) 2 151 := ⟨at_149, rfl⟩
theorem d0_151 : Dc code 151 (.iand) 1 152 := ⟨at_151, rfl⟩
theorem d0_152 : Bc code 152 (.if_icmp .ne 7) (7) 155 159 := ⟨at_152, rfl, by decide, by decide⟩
theorem d0_155 : Dc code 155 (.iconst 1) 1 156 := ⟨at_155, rfl⟩
theorem d0_156 : Bc code 156 (.goto 4) (4) 159 160 := ⟨at_156, rfl, by decide, by decide⟩
theorem d0_159 : Dc code 159 (.iconst 0) 1 160 := ⟨at_159, rfl⟩
theorem d0_160 : Dc code 160 (.istore 13) 2 162 := ⟨at_160, rfl⟩
theorem d0_162 : Dc code 162 (.aload 4) 2 164 := ⟨at_162, rfl⟩
theorem d0_164 : Dc code 164 (.iload 7) 2 166 := ⟨at_164, rfl⟩
theorem d0_166 : Dc code 166 (.iload_n 1) 1 167 := ⟨at_166, rfl⟩
theorem d0_167 : Dc code 167 (.invokevirtual 14) 3 170 := ⟨at_167, rfl⟩
theorem d0_170 : Dc code 170 (.istore 14) 2 172 := ⟨at_170, rfl⟩
theorem d0_172 : Dc code 172 (.iload 14) 2 174 := ⟨at_172, rfl⟩
theorem d0_174 : Dc code 174 (.iload 7) 2 176 := ⟨at_174, rfl⟩
theorem d0_176 : Bc code 176 (.if_icmp .ne 7) (7) 179 183 := ⟨at_176, rfl, by decide, by decide⟩
theorem d0_179 : Dc code 179 (.iconst 1) 1 180 := ⟨at_179, rfl⟩
theorem d0_180 : Bc code 180 (.goto 4) (4) 183 184 := ⟨at_180, rfl, by decide, by decide⟩
theorem d0_183 : Dc code 183 (.iconst 0) 1 184 := ⟨at_183, rfl⟩
theorem d0_184 : Dc code 184 (.istore 15) 2 186 := ⟨at_184, rfl⟩
theorem d0_186 : Dc code 186 (.iload 12) 2 188 := ⟨at_186, rfl⟩
theorem d0_188 : Bc code 188 (.ifCond .eq 17) (17) 191 205 := ⟨at_188, rfl, by decide, by decide⟩
theorem d0_191 : Dc code 191 (.iload 13) 2 193 := ⟨at_191, rfl⟩
theorem d0_193 : Bc code 193 (.ifCond .eq 12) (12) 196 205 := ⟨at_193, rfl, by decide, by decide⟩
theorem d0_196 : Dc code 196 (.iload 15) 2 198 := ⟨at_196, rfl⟩
theorem d0_198 : Bc code 198 (.ifCond .eq 7) (7) 201 205 := ⟨at_198, rfl, by decide, by decide⟩
theorem d0_201 : Dc code 201 (.iconst 1) 1 202 := ⟨at_201, rfl⟩
theorem d0_202 : Bc code 202 (.goto 4) (4) 205 206 := ⟨at_202, rfl, by decide, by decide⟩
theorem d0_205 : Dc code 205 (.iconst 0) 1 206 := ⟨at_205, rfl⟩
theorem d0_206 : Dc code 206 (.ireturn) 1 207 := ⟨at_206, rfl⟩
theorem pd_1 : parseMethodDescriptor "()V" = some ⟨[], none⟩ := by decide +kernel
theorem pd_3 : parseMethodDescriptor "(Z)V" = some ⟨[.boolean], none⟩ := by decide +kernel
theorem pd_4 : parseMethodDescriptor "(SI)S" = some ⟨[.short, .int], (some .short)⟩ := by decide +kernel
theorem ef_law (m : MethodId) (x0 : Int32) (x1 : Int32) (x2 : Int32) : entryFrame m #[.int x0, .int x1, .int x2] maxLocals = mkF m 0 #[.val (.int x0), .val (.int x1), .val (.int x2), .unset, .unset, .unset, .unset, .unset, .unset, .unset, .unset, .unset, .unset, .unset, .unset, .unset] [] := by first | (simp [entryFrame, mkF, argsToLocals, Value.category, maxLocals]; done) | rfl
set_option maxRecDepth 65536 in
set_option maxHeartbeats 40000000 in
theorem m_law (l : Launch) (Z : State) (a0 : Array Value) (hw : ∀ d ∈ tables_1, d.before a0 Z = true) (n0 : Nat) (x0 : Int32) (x1 : Int32) (x2 : Int32) (h : Heap) (hn : n0 ≤ h.size) : Met n0 l Z x code maxLocals ret room_1 tables_1 #[.int x0, .int x1, .int x2] h (fun v _ => v = some (.int 1)) := by
  refine enter (plainFor_of_name (by first | (simp [plainName, overriddenIn, x]; done) | decide +kernel)) (fun m => ef_law m x0 x1 x2) hn ?_
  intro p e s m below meth c T K S
  refine iload_n K S rfl d0_0 ?_
  refine i2s K S d0_1 ?_
  refine nmI fun v hv => ?_
  refine istore_n K S (l' := #[.val (.int x0), .val (.int x1), .val (.int x2), .val (.int v), .unset, .unset, .unset, .unset, .unset, .unset, .unset, .unset, .unset, .unset, .unset, .unset]) rfl d0_2 ?_
  refine new K S (hwi hw 0 rfl) (hwi hw 1 rfl) (hwi hw 2 rfl) (by decide) (by decide) d0_3 fun T h3_1 o3 z_o3 g_o3 X E_o3 D S => ?_
  have F_black_o3 : Fld Z h3_1 o3 "com/example/cairn/cairn/Pen" "black" "Z" (.int (0 : Int32)) := D (Or.inl (hwi hw 10 rfl)) (ty := .boolean) (by decide)
  clear D X
  refine dup K S rfl d0_6 ?_
  refine callC K S (W := 1) (m_ini l Z a0 hw n0 o3 h3_1 (Sle S) g_o3 E_o3 F_black_o3) rfl rfl (hwi hw 3 rfl) (hwi hw 4 rfl) (hwi hw 5 rfl) (hwi hw 2 rfl) (by decide) (by decide) (by decide) (by decide) (by decide) rfl (argsL := []) rfl (lenOf pd_1 rfl) (rest := [.ref o3]) rfl (Nat.le_of_eq rfl) d0_7 (ef fun T h7_2 hP S => ?_)
  obtain ⟨E_o3, F_black_o3⟩ := hP
  show Wp n0 p e _ s below _ T (mkF m 10 #[.val (.int x0), .val (.int x1), .val (.int x2), .val (.int v), .unset, .unset, .unset, .unset, .unset, .unset, .unset, .unset, .unset, .unset, .unset, .unset] [.ref o3])
  refine astore K S (l' := #[.val (.int x0), .val (.int x1), .val (.int x2), .val (.int v), .val (.ref o3), .unset, .unset, .unset, .unset, .unset, .unset, .unset, .unset, .unset, .unset, .unset]) rfl rfl d0_10 ?_
  refine iload_n K S rfl d0_12 ?_
  refine iconst K S (x := (3 : Int32)) rfl d0_13 ?_
  refine iand K S d0_14 ?_
  refine nmI fun md hmd => ?_
  refine istore K S (l' := #[.val (.int x0), .val (.int x1), .val (.int x2), .val (.int v), .val (.ref o3), .val (.int md), .unset, .unset, .unset, .unset, .unset, .unset, .unset, .unset, .unset, .unset]) rfl d0_15 ?_
  refine iload K S rfl d0_17 ?_
  refine ific_ne K S d0_19 (fun c19 => ?_) (fun c19 => ?_)
  · refine iload K S rfl d0_28 ?_
    refine iconst K S (x := (1 : Int32)) rfl d0_30 ?_
    refine icmp_ne K S d0_31 (fun c31 => ?_) (fun c31 => ?_)
    · refine iload K S rfl d0_46 ?_
      refine iconst K S (x := (2 : Int32)) rfl d0_48 ?_
      refine icmp_ne K S d0_49 (fun c49 => ?_) (fun c49 => ?_)
      · refine aload K S rfl rfl d0_64 ?_
        refine iconst K S (x := (1 : Int32)) rfl d0_66 ?_
        refine callV K S (W := 0) (m_setb l Z a0 hw n0 o3 (1 : Int32) (1 : Int32) h7_2 (Sle S) g_o3 E_o3 F_black_o3 rfl rfl) E_o3 (hwi hw 11 rfl) (hwi hw 12 rfl) (hwi hw 14 rfl) (hwi hw 13 rfl) (hwi hw 15 rfl) (hwi hw 2 rfl) (by decide) (by decide) (by decide) (by decide) (by decide) rfl (argsL := [.int (1 : Int32)]) rfl (lenOf pd_3 rfl) (rest := []) rfl (Nat.le_of_eq rfl) d0_67 (ef fun T h67_3 hP S => ?_)
        obtain ⟨E_o3, F_black_o3⟩ := hP
        show Wp n0 p e _ s below _ T (mkF m 70 #[.val (.int x0), .val (.int x1), .val (.int x2), .val (.int v), .val (.ref o3), .val (.int md), .unset, .unset, .unset, .unset, .unset, .unset, .unset, .unset, .unset, .unset] [])
        refine aload K S rfl rfl d0_70 ?_
        refine iconst K S (x := (0 : Int32)) rfl d0_72 ?_
        refine callV K S (W := 0) (m_setb l Z a0 hw n0 o3 (0 : Int32) (1 : Int32) h67_3 (Sle S) g_o3 E_o3 F_black_o3 rfl rfl) E_o3 (hwi hw 11 rfl) (hwi hw 12 rfl) (hwi hw 14 rfl) (hwi hw 13 rfl) (hwi hw 15 rfl) (hwi hw 2 rfl) (by decide) (by decide) (by decide) (by decide) (by decide) rfl (argsL := [.int (0 : Int32)]) rfl (lenOf pd_3 rfl) (rest := []) rfl (Nat.le_of_eq rfl) d0_73 (ef fun T h73_4 hP S => ?_)
        obtain ⟨E_o3, F_black_o3⟩ := hP
        show Wp n0 p e _ s below _ T (mkF m 76 #[.val (.int x0), .val (.int x1), .val (.int x2), .val (.int v), .val (.ref o3), .val (.int md), .unset, .unset, .unset, .unset, .unset, .unset, .unset, .unset, .unset, .unset] [])
        refine iconst K S (x := (0 : Int32)) rfl d0_76 ?_
        refine istore K S (l' := #[.val (.int x0), .val (.int x1), .val (.int x2), .val (.int v), .val (.ref o3), .val (.int md), .val (.int (0 : Int32)), .unset, .unset, .unset, .unset, .unset, .unset, .unset, .unset, .unset]) rfl d0_77 ?_
        refine aload K S rfl rfl d0_79 ?_
        refine iload_n K S rfl d0_81 ?_
        refine iload_n K S rfl d0_82 ?_
        refine callV K S (W := 0) (m_paint0 l Z a0 hw n0 o3 v x1 h73_4 (Sle S) F_black_o3) E_o3 (hwi hw 16 rfl) (hwi hw 17 rfl) (hwi hw 19 rfl) (hwi hw 18 rfl) (hwi hw 20 rfl) (hwi hw 2 rfl) (by decide) (by decide) (by decide) (by decide) (by decide) rfl (argsL := [.int v, .int x1]) rfl (lenOf pd_4 rfl) (rest := []) rfl (Nat.le_of_eq rfl) d0_83 (pu fun T S => ?_)
        show Wp n0 p e _ s below _ T (mkF m 86 #[.val (.int x0), .val (.int x1), .val (.int x2), .val (.int v), .val (.ref o3), .val (.int md), .val (.int (0 : Int32)), .unset, .unset, .unset, .unset, .unset, .unset, .unset, .unset, .unset] [.int ((v &&& (x1 ^^^ (-1 : Int32))).toInt16.toInt32)])
        refine nmI fun r hr => ?_
        refine istore K S (l' := #[.val (.int x0), .val (.int x1), .val (.int x2), .val (.int v), .val (.ref o3), .val (.int md), .val (.int (0 : Int32)), .val (.int r), .unset, .unset, .unset, .unset, .unset, .unset, .unset, .unset]) rfl d0_86 ?_
        refine iload K S rfl d0_88 ?_
        refine ldc K S (x := (65535 : Int32)) (hwi hw 21 rfl) d0_90 ?_
        refine iand K S d0_92 ?_
        refine nmI fun ru hru => ?_
        refine istore K S (l' := #[.val (.int x0), .val (.int x1), .val (.int x2), .val (.int v), .val (.ref o3), .val (.int md), .val (.int (0 : Int32)), .val (.int r), .val (.int ru), .unset, .unset, .unset, .unset, .unset, .unset, .unset]) rfl d0_93 ?_
        refine iload_n K S rfl d0_95 ?_
        refine ldc K S (x := (65535 : Int32)) (hwi hw 21 rfl) d0_96 ?_
        refine iand K S d0_98 ?_
        refine nmI fun wu hwu => ?_
        refine istore K S (l' := #[.val (.int x0), .val (.int x1), .val (.int x2), .val (.int v), .val (.ref o3), .val (.int md), .val (.int (0 : Int32)), .val (.int r), .val (.int ru), .val (.int wu), .unset, .unset, .unset, .unset, .unset, .unset]) rfl d0_99 ?_
        refine iload_n K S rfl d0_101 ?_
        refine ldc K S (x := (65535 : Int32)) (hwi hw 21 rfl) d0_102 ?_
        refine iand K S d0_104 ?_
        refine nmI fun mu hmu => ?_
        refine istore K S (l' := #[.val (.int x0), .val (.int x1), .val (.int x2), .val (.int v), .val (.ref o3), .val (.int md), .val (.int (0 : Int32)), .val (.int r), .val (.int ru), .val (.int wu), .val (.int mu), .unset, .unset, .unset, .unset, .unset]) rfl d0_105 ?_
        refine iload K S rfl d0_107 ?_
        refine iconst K S (x := (-1 : Int32)) rfl d0_109 ?_
        refine ixor K S d0_110 ?_
        refine ldc K S (x := (65535 : Int32)) (hwi hw 21 rfl) d0_111 ?_
        refine iand K S d0_113 ?_
        refine nmI fun kp hkp => ?_
        refine istore K S (l' := #[.val (.int x0), .val (.int x1), .val (.int x2), .val (.int v), .val (.ref o3), .val (.int md), .val (.int (0 : Int32)), .val (.int r), .val (.int ru), .val (.int wu), .val (.int mu), .val (.int kp), .unset, .unset, .unset, .unset]) rfl d0_114 ?_
        refine iload K S rfl d0_116 ?_
        refine iload K S rfl d0_118 ?_
        refine iand K S d0_120 ?_
        refine iload K S rfl d0_121 ?_
        refine ific_eq K S d0_123 (fun c123 => ?_) (fun c123 => ?_)
        rotate_left
        · exact absurd c123 (by decide)
        refine iconst K S (x := (0 : Int32)) rfl d0_131 ?_
        refine icmp_ne K S d0_132 (fun c132 => ?_) (fun c132 => ?_)
        · exact absurd (show ru &&& mu = (0 : Int32) by simp only [hru, hmu]; exact (pen0 (w := x0) (m := x1) (r := r) (by rw [hr, hv]; rfl)).1) c132
        refine iconst K S (x := (1 : Int32)) rfl d0_135 ?_
        refine goto K S d0_136 ?_
        refine istore K S (l' := #[.val (.int x0), .val (.int x1), .val (.int x2), .val (.int v), .val (.ref o3), .val (.int md), .val (.int (0 : Int32)), .val (.int r), .val (.int ru), .val (.int wu), .val (.int mu), .val (.int kp), .val (.int (1 : Int32)), .unset, .unset, .unset]) rfl d0_140 ?_
        refine iload K S rfl d0_142 ?_
        refine iload K S rfl d0_144 ?_
        refine iand K S d0_146 ?_
        refine iload K S rfl d0_147 ?_
        refine iload K S rfl d0_149 ?_
        refine iand K S d0_151 ?_
        refine icmp_ne K S d0_152 (fun c152 => ?_) (fun c152 => ?_)
        · exact absurd (show ru &&& kp = wu &&& kp by simp only [hru, hkp, hwu, hmu, hv]; exact (pen0 (w := x0) (m := x1) (r := r) (by rw [hr, hv]; rfl)).2.1) c152
        refine iconst K S (x := (1 : Int32)) rfl d0_155 ?_
        refine goto K S d0_156 ?_
        refine istore K S (l' := #[.val (.int x0), .val (.int x1), .val (.int x2), .val (.int v), .val (.ref o3), .val (.int md), .val (.int (0 : Int32)), .val (.int r), .val (.int ru), .val (.int wu), .val (.int mu), .val (.int kp), .val (.int (1 : Int32)), .val (.int (1 : Int32)), .unset, .unset]) rfl d0_160 ?_
        refine aload K S rfl rfl d0_162 ?_
        refine iload K S rfl d0_164 ?_
        refine iload_n K S rfl d0_166 ?_
        refine callV K S (W := 0) (m_paint0 l Z a0 hw n0 o3 r x1 h73_4 (Sle S) F_black_o3) E_o3 (hwi hw 16 rfl) (hwi hw 17 rfl) (hwi hw 19 rfl) (hwi hw 18 rfl) (hwi hw 20 rfl) (hwi hw 2 rfl) (by decide) (by decide) (by decide) (by decide) (by decide) rfl (argsL := [.int r, .int x1]) rfl (lenOf pd_4 rfl) (rest := []) rfl (Nat.le_of_eq rfl) d0_167 (pu fun T S => ?_)
        show Wp n0 p e _ s below _ T (mkF m 170 #[.val (.int x0), .val (.int x1), .val (.int x2), .val (.int v), .val (.ref o3), .val (.int md), .val (.int (0 : Int32)), .val (.int r), .val (.int ru), .val (.int wu), .val (.int mu), .val (.int kp), .val (.int (1 : Int32)), .val (.int (1 : Int32)), .unset, .unset] [.int ((r &&& (x1 ^^^ (-1 : Int32))).toInt16.toInt32)])
        refine nmI fun r2 hr2 => ?_
        refine istore K S (l' := #[.val (.int x0), .val (.int x1), .val (.int x2), .val (.int v), .val (.ref o3), .val (.int md), .val (.int (0 : Int32)), .val (.int r), .val (.int ru), .val (.int wu), .val (.int mu), .val (.int kp), .val (.int (1 : Int32)), .val (.int (1 : Int32)), .val (.int r2), .unset]) rfl d0_170 ?_
        refine iload K S rfl d0_172 ?_
        refine iload K S rfl d0_174 ?_
        refine icmp_ne K S d0_176 (fun c176 => ?_) (fun c176 => ?_)
        · exact absurd (hr2.trans (pen0 (w := x0) (m := x1) (r := r) (by rw [hr, hv]; rfl)).2.2) c176
        refine iconst K S (x := (1 : Int32)) rfl d0_179 ?_
        refine goto K S d0_180 ?_
        refine istore K S (l' := #[.val (.int x0), .val (.int x1), .val (.int x2), .val (.int v), .val (.ref o3), .val (.int md), .val (.int (0 : Int32)), .val (.int r), .val (.int ru), .val (.int wu), .val (.int mu), .val (.int kp), .val (.int (1 : Int32)), .val (.int (1 : Int32)), .val (.int r2), .val (.int (1 : Int32))]) rfl d0_184 ?_
        refine iload K S rfl d0_186 ?_
        refine ific_eq K S d0_188 (fun c188 => ?_) (fun c188 => ?_)
        · exact absurd c188 (by decide)
        refine iload K S rfl d0_191 ?_
        refine ific_eq K S d0_193 (fun c193 => ?_) (fun c193 => ?_)
        · exact absurd c193 (by decide)
        refine iload K S rfl d0_196 ?_
        refine ific_eq K S d0_198 (fun c198 => ?_) (fun c198 => ?_)
        · exact absurd c198 (by decide)
        refine iconst K S (x := (1 : Int32)) rfl d0_201 ?_
        refine goto K S d0_202 ?_
        refine retn K S (by simp) (y := (1 : Int32)) rfl (by decide) (by decide) d0_206 ?_
        rfl
      refine aload K S rfl rfl d0_52 ?_
      refine iconst K S (x := (0 : Int32)) rfl d0_54 ?_
      refine callV K S (W := 0) (m_setb l Z a0 hw n0 o3 (0 : Int32) (1 : Int32) h7_2 (Sle S) g_o3 E_o3 F_black_o3 rfl rfl) E_o3 (hwi hw 11 rfl) (hwi hw 12 rfl) (hwi hw 14 rfl) (hwi hw 13 rfl) (hwi hw 15 rfl) (hwi hw 2 rfl) (by decide) (by decide) (by decide) (by decide) (by decide) rfl (argsL := [.int (0 : Int32)]) rfl (lenOf pd_3 rfl) (rest := []) rfl (Nat.le_of_eq rfl) d0_55 (ef fun T h55_5 hP S => ?_)
      obtain ⟨E_o3, F_black_o3⟩ := hP
      show Wp n0 p e _ s below _ T (mkF m 58 #[.val (.int x0), .val (.int x1), .val (.int x2), .val (.int v), .val (.ref o3), .val (.int md), .unset, .unset, .unset, .unset, .unset, .unset, .unset, .unset, .unset, .unset] [])
      refine iconst K S (x := (0 : Int32)) rfl d0_58 ?_
      refine istore K S (l' := #[.val (.int x0), .val (.int x1), .val (.int x2), .val (.int v), .val (.ref o3), .val (.int md), .val (.int (0 : Int32)), .unset, .unset, .unset, .unset, .unset, .unset, .unset, .unset, .unset]) rfl d0_59 ?_
      refine goto K S d0_61 ?_
      refine aload K S rfl rfl d0_79 ?_
      refine iload_n K S rfl d0_81 ?_
      refine iload_n K S rfl d0_82 ?_
      refine callV K S (W := 0) (m_paint0 l Z a0 hw n0 o3 v x1 h55_5 (Sle S) F_black_o3) E_o3 (hwi hw 16 rfl) (hwi hw 17 rfl) (hwi hw 19 rfl) (hwi hw 18 rfl) (hwi hw 20 rfl) (hwi hw 2 rfl) (by decide) (by decide) (by decide) (by decide) (by decide) rfl (argsL := [.int v, .int x1]) rfl (lenOf pd_4 rfl) (rest := []) rfl (Nat.le_of_eq rfl) d0_83 (pu fun T S => ?_)
      show Wp n0 p e _ s below _ T (mkF m 86 #[.val (.int x0), .val (.int x1), .val (.int x2), .val (.int v), .val (.ref o3), .val (.int md), .val (.int (0 : Int32)), .unset, .unset, .unset, .unset, .unset, .unset, .unset, .unset, .unset] [.int ((v &&& (x1 ^^^ (-1 : Int32))).toInt16.toInt32)])
      refine nmI fun r hr => ?_
      refine istore K S (l' := #[.val (.int x0), .val (.int x1), .val (.int x2), .val (.int v), .val (.ref o3), .val (.int md), .val (.int (0 : Int32)), .val (.int r), .unset, .unset, .unset, .unset, .unset, .unset, .unset, .unset]) rfl d0_86 ?_
      refine iload K S rfl d0_88 ?_
      refine ldc K S (x := (65535 : Int32)) (hwi hw 21 rfl) d0_90 ?_
      refine iand K S d0_92 ?_
      refine nmI fun ru hru => ?_
      refine istore K S (l' := #[.val (.int x0), .val (.int x1), .val (.int x2), .val (.int v), .val (.ref o3), .val (.int md), .val (.int (0 : Int32)), .val (.int r), .val (.int ru), .unset, .unset, .unset, .unset, .unset, .unset, .unset]) rfl d0_93 ?_
      refine iload_n K S rfl d0_95 ?_
      refine ldc K S (x := (65535 : Int32)) (hwi hw 21 rfl) d0_96 ?_
      refine iand K S d0_98 ?_
      refine nmI fun wu hwu => ?_
      refine istore K S (l' := #[.val (.int x0), .val (.int x1), .val (.int x2), .val (.int v), .val (.ref o3), .val (.int md), .val (.int (0 : Int32)), .val (.int r), .val (.int ru), .val (.int wu), .unset, .unset, .unset, .unset, .unset, .unset]) rfl d0_99 ?_
      refine iload_n K S rfl d0_101 ?_
      refine ldc K S (x := (65535 : Int32)) (hwi hw 21 rfl) d0_102 ?_
      refine iand K S d0_104 ?_
      refine nmI fun mu hmu => ?_
      refine istore K S (l' := #[.val (.int x0), .val (.int x1), .val (.int x2), .val (.int v), .val (.ref o3), .val (.int md), .val (.int (0 : Int32)), .val (.int r), .val (.int ru), .val (.int wu), .val (.int mu), .unset, .unset, .unset, .unset, .unset]) rfl d0_105 ?_
      refine iload K S rfl d0_107 ?_
      refine iconst K S (x := (-1 : Int32)) rfl d0_109 ?_
      refine ixor K S d0_110 ?_
      refine ldc K S (x := (65535 : Int32)) (hwi hw 21 rfl) d0_111 ?_
      refine iand K S d0_113 ?_
      refine nmI fun kp hkp => ?_
      refine istore K S (l' := #[.val (.int x0), .val (.int x1), .val (.int x2), .val (.int v), .val (.ref o3), .val (.int md), .val (.int (0 : Int32)), .val (.int r), .val (.int ru), .val (.int wu), .val (.int mu), .val (.int kp), .unset, .unset, .unset, .unset]) rfl d0_114 ?_
      refine iload K S rfl d0_116 ?_
      refine iload K S rfl d0_118 ?_
      refine iand K S d0_120 ?_
      refine iload K S rfl d0_121 ?_
      refine ific_eq K S d0_123 (fun c123 => ?_) (fun c123 => ?_)
      rotate_left
      · exact absurd c123 (by decide)
      refine iconst K S (x := (0 : Int32)) rfl d0_131 ?_
      refine icmp_ne K S d0_132 (fun c132 => ?_) (fun c132 => ?_)
      · exact absurd (show ru &&& mu = (0 : Int32) by simp only [hru, hmu]; exact (pen0 (w := x0) (m := x1) (r := r) (by rw [hr, hv]; rfl)).1) c132
      refine iconst K S (x := (1 : Int32)) rfl d0_135 ?_
      refine goto K S d0_136 ?_
      refine istore K S (l' := #[.val (.int x0), .val (.int x1), .val (.int x2), .val (.int v), .val (.ref o3), .val (.int md), .val (.int (0 : Int32)), .val (.int r), .val (.int ru), .val (.int wu), .val (.int mu), .val (.int kp), .val (.int (1 : Int32)), .unset, .unset, .unset]) rfl d0_140 ?_
      refine iload K S rfl d0_142 ?_
      refine iload K S rfl d0_144 ?_
      refine iand K S d0_146 ?_
      refine iload K S rfl d0_147 ?_
      refine iload K S rfl d0_149 ?_
      refine iand K S d0_151 ?_
      refine icmp_ne K S d0_152 (fun c152 => ?_) (fun c152 => ?_)
      · exact absurd (show ru &&& kp = wu &&& kp by simp only [hru, hkp, hwu, hmu, hv]; exact (pen0 (w := x0) (m := x1) (r := r) (by rw [hr, hv]; rfl)).2.1) c152
      refine iconst K S (x := (1 : Int32)) rfl d0_155 ?_
      refine goto K S d0_156 ?_
      refine istore K S (l' := #[.val (.int x0), .val (.int x1), .val (.int x2), .val (.int v), .val (.ref o3), .val (.int md), .val (.int (0 : Int32)), .val (.int r), .val (.int ru), .val (.int wu), .val (.int mu), .val (.int kp), .val (.int (1 : Int32)), .val (.int (1 : Int32)), .unset, .unset]) rfl d0_160 ?_
      refine aload K S rfl rfl d0_162 ?_
      refine iload K S rfl d0_164 ?_
      refine iload_n K S rfl d0_166 ?_
      refine callV K S (W := 0) (m_paint0 l Z a0 hw n0 o3 r x1 h55_5 (Sle S) F_black_o3) E_o3 (hwi hw 16 rfl) (hwi hw 17 rfl) (hwi hw 19 rfl) (hwi hw 18 rfl) (hwi hw 20 rfl) (hwi hw 2 rfl) (by decide) (by decide) (by decide) (by decide) (by decide) rfl (argsL := [.int r, .int x1]) rfl (lenOf pd_4 rfl) (rest := []) rfl (Nat.le_of_eq rfl) d0_167 (pu fun T S => ?_)
      show Wp n0 p e _ s below _ T (mkF m 170 #[.val (.int x0), .val (.int x1), .val (.int x2), .val (.int v), .val (.ref o3), .val (.int md), .val (.int (0 : Int32)), .val (.int r), .val (.int ru), .val (.int wu), .val (.int mu), .val (.int kp), .val (.int (1 : Int32)), .val (.int (1 : Int32)), .unset, .unset] [.int ((r &&& (x1 ^^^ (-1 : Int32))).toInt16.toInt32)])
      refine nmI fun r2 hr2 => ?_
      refine istore K S (l' := #[.val (.int x0), .val (.int x1), .val (.int x2), .val (.int v), .val (.ref o3), .val (.int md), .val (.int (0 : Int32)), .val (.int r), .val (.int ru), .val (.int wu), .val (.int mu), .val (.int kp), .val (.int (1 : Int32)), .val (.int (1 : Int32)), .val (.int r2), .unset]) rfl d0_170 ?_
      refine iload K S rfl d0_172 ?_
      refine iload K S rfl d0_174 ?_
      refine icmp_ne K S d0_176 (fun c176 => ?_) (fun c176 => ?_)
      · exact absurd (hr2.trans (pen0 (w := x0) (m := x1) (r := r) (by rw [hr, hv]; rfl)).2.2) c176
      refine iconst K S (x := (1 : Int32)) rfl d0_179 ?_
      refine goto K S d0_180 ?_
      refine istore K S (l' := #[.val (.int x0), .val (.int x1), .val (.int x2), .val (.int v), .val (.ref o3), .val (.int md), .val (.int (0 : Int32)), .val (.int r), .val (.int ru), .val (.int wu), .val (.int mu), .val (.int kp), .val (.int (1 : Int32)), .val (.int (1 : Int32)), .val (.int r2), .val (.int (1 : Int32))]) rfl d0_184 ?_
      refine iload K S rfl d0_186 ?_
      refine ific_eq K S d0_188 (fun c188 => ?_) (fun c188 => ?_)
      · exact absurd c188 (by decide)
      refine iload K S rfl d0_191 ?_
      refine ific_eq K S d0_193 (fun c193 => ?_) (fun c193 => ?_)
      · exact absurd c193 (by decide)
      refine iload K S rfl d0_196 ?_
      refine ific_eq K S d0_198 (fun c198 => ?_) (fun c198 => ?_)
      · exact absurd c198 (by decide)
      refine iconst K S (x := (1 : Int32)) rfl d0_201 ?_
      refine goto K S d0_202 ?_
      refine retn K S (by simp) (y := (1 : Int32)) rfl (by decide) (by decide) d0_206 ?_
      rfl
    refine aload K S rfl rfl d0_34 ?_
    refine iconst K S (x := (1 : Int32)) rfl d0_36 ?_
    refine callV K S (W := 0) (m_setb l Z a0 hw n0 o3 (1 : Int32) (1 : Int32) h7_2 (Sle S) g_o3 E_o3 F_black_o3 rfl rfl) E_o3 (hwi hw 11 rfl) (hwi hw 12 rfl) (hwi hw 14 rfl) (hwi hw 13 rfl) (hwi hw 15 rfl) (hwi hw 2 rfl) (by decide) (by decide) (by decide) (by decide) (by decide) rfl (argsL := [.int (1 : Int32)]) rfl (lenOf pd_3 rfl) (rest := []) rfl (Nat.le_of_eq rfl) d0_37 (ef fun T h37_6 hP S => ?_)
    obtain ⟨E_o3, F_black_o3⟩ := hP
    show Wp n0 p e _ s below _ T (mkF m 40 #[.val (.int x0), .val (.int x1), .val (.int x2), .val (.int v), .val (.ref o3), .val (.int md), .unset, .unset, .unset, .unset, .unset, .unset, .unset, .unset, .unset, .unset] [])
    refine iconst K S (x := (1 : Int32)) rfl d0_40 ?_
    refine istore K S (l' := #[.val (.int x0), .val (.int x1), .val (.int x2), .val (.int v), .val (.ref o3), .val (.int md), .val (.int (1 : Int32)), .unset, .unset, .unset, .unset, .unset, .unset, .unset, .unset, .unset]) rfl d0_41 ?_
    refine goto K S d0_43 ?_
    refine aload K S rfl rfl d0_79 ?_
    refine iload_n K S rfl d0_81 ?_
    refine iload_n K S rfl d0_82 ?_
    refine callV K S (W := 0) (m_paint1 l Z a0 hw n0 o3 v x1 h37_6 (Sle S) F_black_o3) E_o3 (hwi hw 16 rfl) (hwi hw 17 rfl) (hwi hw 19 rfl) (hwi hw 18 rfl) (hwi hw 20 rfl) (hwi hw 2 rfl) (by decide) (by decide) (by decide) (by decide) (by decide) rfl (argsL := [.int v, .int x1]) rfl (lenOf pd_4 rfl) (rest := []) rfl (Nat.le_of_eq rfl) d0_83 (pu fun T S => ?_)
    show Wp n0 p e _ s below _ T (mkF m 86 #[.val (.int x0), .val (.int x1), .val (.int x2), .val (.int v), .val (.ref o3), .val (.int md), .val (.int (1 : Int32)), .unset, .unset, .unset, .unset, .unset, .unset, .unset, .unset, .unset] [.int ((v ||| x1).toInt16.toInt32)])
    refine nmI fun r hr => ?_
    refine istore K S (l' := #[.val (.int x0), .val (.int x1), .val (.int x2), .val (.int v), .val (.ref o3), .val (.int md), .val (.int (1 : Int32)), .val (.int r), .unset, .unset, .unset, .unset, .unset, .unset, .unset, .unset]) rfl d0_86 ?_
    refine iload K S rfl d0_88 ?_
    refine ldc K S (x := (65535 : Int32)) (hwi hw 21 rfl) d0_90 ?_
    refine iand K S d0_92 ?_
    refine nmI fun ru hru => ?_
    refine istore K S (l' := #[.val (.int x0), .val (.int x1), .val (.int x2), .val (.int v), .val (.ref o3), .val (.int md), .val (.int (1 : Int32)), .val (.int r), .val (.int ru), .unset, .unset, .unset, .unset, .unset, .unset, .unset]) rfl d0_93 ?_
    refine iload_n K S rfl d0_95 ?_
    refine ldc K S (x := (65535 : Int32)) (hwi hw 21 rfl) d0_96 ?_
    refine iand K S d0_98 ?_
    refine nmI fun wu hwu => ?_
    refine istore K S (l' := #[.val (.int x0), .val (.int x1), .val (.int x2), .val (.int v), .val (.ref o3), .val (.int md), .val (.int (1 : Int32)), .val (.int r), .val (.int ru), .val (.int wu), .unset, .unset, .unset, .unset, .unset, .unset]) rfl d0_99 ?_
    refine iload_n K S rfl d0_101 ?_
    refine ldc K S (x := (65535 : Int32)) (hwi hw 21 rfl) d0_102 ?_
    refine iand K S d0_104 ?_
    refine nmI fun mu hmu => ?_
    refine istore K S (l' := #[.val (.int x0), .val (.int x1), .val (.int x2), .val (.int v), .val (.ref o3), .val (.int md), .val (.int (1 : Int32)), .val (.int r), .val (.int ru), .val (.int wu), .val (.int mu), .unset, .unset, .unset, .unset, .unset]) rfl d0_105 ?_
    refine iload K S rfl d0_107 ?_
    refine iconst K S (x := (-1 : Int32)) rfl d0_109 ?_
    refine ixor K S d0_110 ?_
    refine ldc K S (x := (65535 : Int32)) (hwi hw 21 rfl) d0_111 ?_
    refine iand K S d0_113 ?_
    refine nmI fun kp hkp => ?_
    refine istore K S (l' := #[.val (.int x0), .val (.int x1), .val (.int x2), .val (.int v), .val (.ref o3), .val (.int md), .val (.int (1 : Int32)), .val (.int r), .val (.int ru), .val (.int wu), .val (.int mu), .val (.int kp), .unset, .unset, .unset, .unset]) rfl d0_114 ?_
    refine iload K S rfl d0_116 ?_
    refine iload K S rfl d0_118 ?_
    refine iand K S d0_120 ?_
    refine iload K S rfl d0_121 ?_
    refine ific_eq K S d0_123 (fun c123 => ?_) (fun c123 => ?_)
    · exact absurd c123 (by decide)
    refine iload K S rfl d0_126 ?_
    refine goto K S d0_128 ?_
    refine icmp_ne K S d0_132 (fun c132 => ?_) (fun c132 => ?_)
    · exact absurd (show ru &&& mu = mu by simp only [hru, hmu]; exact (pen (w := x0) (m := x1) (r := r) (by rw [hr, hv]; rfl)).1) c132
    refine iconst K S (x := (1 : Int32)) rfl d0_135 ?_
    refine goto K S d0_136 ?_
    refine istore K S (l' := #[.val (.int x0), .val (.int x1), .val (.int x2), .val (.int v), .val (.ref o3), .val (.int md), .val (.int (1 : Int32)), .val (.int r), .val (.int ru), .val (.int wu), .val (.int mu), .val (.int kp), .val (.int (1 : Int32)), .unset, .unset, .unset]) rfl d0_140 ?_
    refine iload K S rfl d0_142 ?_
    refine iload K S rfl d0_144 ?_
    refine iand K S d0_146 ?_
    refine iload K S rfl d0_147 ?_
    refine iload K S rfl d0_149 ?_
    refine iand K S d0_151 ?_
    refine icmp_ne K S d0_152 (fun c152 => ?_) (fun c152 => ?_)
    · exact absurd (show ru &&& kp = wu &&& kp by simp only [hru, hkp, hwu, hmu, hv]; exact (pen (w := x0) (m := x1) (r := r) (by rw [hr, hv]; rfl)).2.1) c152
    refine iconst K S (x := (1 : Int32)) rfl d0_155 ?_
    refine goto K S d0_156 ?_
    refine istore K S (l' := #[.val (.int x0), .val (.int x1), .val (.int x2), .val (.int v), .val (.ref o3), .val (.int md), .val (.int (1 : Int32)), .val (.int r), .val (.int ru), .val (.int wu), .val (.int mu), .val (.int kp), .val (.int (1 : Int32)), .val (.int (1 : Int32)), .unset, .unset]) rfl d0_160 ?_
    refine aload K S rfl rfl d0_162 ?_
    refine iload K S rfl d0_164 ?_
    refine iload_n K S rfl d0_166 ?_
    refine callV K S (W := 0) (m_paint1 l Z a0 hw n0 o3 r x1 h37_6 (Sle S) F_black_o3) E_o3 (hwi hw 16 rfl) (hwi hw 17 rfl) (hwi hw 19 rfl) (hwi hw 18 rfl) (hwi hw 20 rfl) (hwi hw 2 rfl) (by decide) (by decide) (by decide) (by decide) (by decide) rfl (argsL := [.int r, .int x1]) rfl (lenOf pd_4 rfl) (rest := []) rfl (Nat.le_of_eq rfl) d0_167 (pu fun T S => ?_)
    show Wp n0 p e _ s below _ T (mkF m 170 #[.val (.int x0), .val (.int x1), .val (.int x2), .val (.int v), .val (.ref o3), .val (.int md), .val (.int (1 : Int32)), .val (.int r), .val (.int ru), .val (.int wu), .val (.int mu), .val (.int kp), .val (.int (1 : Int32)), .val (.int (1 : Int32)), .unset, .unset] [.int ((r ||| x1).toInt16.toInt32)])
    refine nmI fun r2 hr2 => ?_
    refine istore K S (l' := #[.val (.int x0), .val (.int x1), .val (.int x2), .val (.int v), .val (.ref o3), .val (.int md), .val (.int (1 : Int32)), .val (.int r), .val (.int ru), .val (.int wu), .val (.int mu), .val (.int kp), .val (.int (1 : Int32)), .val (.int (1 : Int32)), .val (.int r2), .unset]) rfl d0_170 ?_
    refine iload K S rfl d0_172 ?_
    refine iload K S rfl d0_174 ?_
    refine icmp_ne K S d0_176 (fun c176 => ?_) (fun c176 => ?_)
    · exact absurd (hr2.trans (pen (w := x0) (m := x1) (r := r) (by rw [hr, hv]; rfl)).2.2) c176
    refine iconst K S (x := (1 : Int32)) rfl d0_179 ?_
    refine goto K S d0_180 ?_
    refine istore K S (l' := #[.val (.int x0), .val (.int x1), .val (.int x2), .val (.int v), .val (.ref o3), .val (.int md), .val (.int (1 : Int32)), .val (.int r), .val (.int ru), .val (.int wu), .val (.int mu), .val (.int kp), .val (.int (1 : Int32)), .val (.int (1 : Int32)), .val (.int r2), .val (.int (1 : Int32))]) rfl d0_184 ?_
    refine iload K S rfl d0_186 ?_
    refine ific_eq K S d0_188 (fun c188 => ?_) (fun c188 => ?_)
    · exact absurd c188 (by decide)
    refine iload K S rfl d0_191 ?_
    refine ific_eq K S d0_193 (fun c193 => ?_) (fun c193 => ?_)
    · exact absurd c193 (by decide)
    refine iload K S rfl d0_196 ?_
    refine ific_eq K S d0_198 (fun c198 => ?_) (fun c198 => ?_)
    · exact absurd c198 (by decide)
    refine iconst K S (x := (1 : Int32)) rfl d0_201 ?_
    refine goto K S d0_202 ?_
    refine retn K S (by simp) (y := (1 : Int32)) rfl (by decide) (by decide) d0_206 ?_
    rfl
  refine iconst K S (x := (1 : Int32)) rfl d0_22 ?_
  refine istore K S (l' := #[.val (.int x0), .val (.int x1), .val (.int x2), .val (.int v), .val (.ref o3), .val (.int md), .val (.int (1 : Int32)), .unset, .unset, .unset, .unset, .unset, .unset, .unset, .unset, .unset]) rfl d0_23 ?_
  refine goto K S d0_25 ?_
  refine aload K S rfl rfl d0_79 ?_
  refine iload_n K S rfl d0_81 ?_
  refine iload_n K S rfl d0_82 ?_
  refine callV K S (W := 0) (m_paint1 l Z a0 hw n0 o3 v x1 h7_2 (Sle S) F_black_o3) E_o3 (hwi hw 16 rfl) (hwi hw 17 rfl) (hwi hw 19 rfl) (hwi hw 18 rfl) (hwi hw 20 rfl) (hwi hw 2 rfl) (by decide) (by decide) (by decide) (by decide) (by decide) rfl (argsL := [.int v, .int x1]) rfl (lenOf pd_4 rfl) (rest := []) rfl (Nat.le_of_eq rfl) d0_83 (pu fun T S => ?_)
  show Wp n0 p e _ s below _ T (mkF m 86 #[.val (.int x0), .val (.int x1), .val (.int x2), .val (.int v), .val (.ref o3), .val (.int md), .val (.int (1 : Int32)), .unset, .unset, .unset, .unset, .unset, .unset, .unset, .unset, .unset] [.int ((v ||| x1).toInt16.toInt32)])
  refine nmI fun r hr => ?_
  refine istore K S (l' := #[.val (.int x0), .val (.int x1), .val (.int x2), .val (.int v), .val (.ref o3), .val (.int md), .val (.int (1 : Int32)), .val (.int r), .unset, .unset, .unset, .unset, .unset, .unset, .unset, .unset]) rfl d0_86 ?_
  refine iload K S rfl d0_88 ?_
  refine ldc K S (x := (65535 : Int32)) (hwi hw 21 rfl) d0_90 ?_
  refine iand K S d0_92 ?_
  refine nmI fun ru hru => ?_
  refine istore K S (l' := #[.val (.int x0), .val (.int x1), .val (.int x2), .val (.int v), .val (.ref o3), .val (.int md), .val (.int (1 : Int32)), .val (.int r), .val (.int ru), .unset, .unset, .unset, .unset, .unset, .unset, .unset]) rfl d0_93 ?_
  refine iload_n K S rfl d0_95 ?_
  refine ldc K S (x := (65535 : Int32)) (hwi hw 21 rfl) d0_96 ?_
  refine iand K S d0_98 ?_
  refine nmI fun wu hwu => ?_
  refine istore K S (l' := #[.val (.int x0), .val (.int x1), .val (.int x2), .val (.int v), .val (.ref o3), .val (.int md), .val (.int (1 : Int32)), .val (.int r), .val (.int ru), .val (.int wu), .unset, .unset, .unset, .unset, .unset, .unset]) rfl d0_99 ?_
  refine iload_n K S rfl d0_101 ?_
  refine ldc K S (x := (65535 : Int32)) (hwi hw 21 rfl) d0_102 ?_
  refine iand K S d0_104 ?_
  refine nmI fun mu hmu => ?_
  refine istore K S (l' := #[.val (.int x0), .val (.int x1), .val (.int x2), .val (.int v), .val (.ref o3), .val (.int md), .val (.int (1 : Int32)), .val (.int r), .val (.int ru), .val (.int wu), .val (.int mu), .unset, .unset, .unset, .unset, .unset]) rfl d0_105 ?_
  refine iload K S rfl d0_107 ?_
  refine iconst K S (x := (-1 : Int32)) rfl d0_109 ?_
  refine ixor K S d0_110 ?_
  refine ldc K S (x := (65535 : Int32)) (hwi hw 21 rfl) d0_111 ?_
  refine iand K S d0_113 ?_
  refine nmI fun kp hkp => ?_
  refine istore K S (l' := #[.val (.int x0), .val (.int x1), .val (.int x2), .val (.int v), .val (.ref o3), .val (.int md), .val (.int (1 : Int32)), .val (.int r), .val (.int ru), .val (.int wu), .val (.int mu), .val (.int kp), .unset, .unset, .unset, .unset]) rfl d0_114 ?_
  refine iload K S rfl d0_116 ?_
  refine iload K S rfl d0_118 ?_
  refine iand K S d0_120 ?_
  refine iload K S rfl d0_121 ?_
  refine ific_eq K S d0_123 (fun c123 => ?_) (fun c123 => ?_)
  · exact absurd c123 (by decide)
  refine iload K S rfl d0_126 ?_
  refine goto K S d0_128 ?_
  refine icmp_ne K S d0_132 (fun c132 => ?_) (fun c132 => ?_)
  · exact absurd (show ru &&& mu = mu by simp only [hru, hmu]; exact (pen (w := x0) (m := x1) (r := r) (by rw [hr, hv]; rfl)).1) c132
  refine iconst K S (x := (1 : Int32)) rfl d0_135 ?_
  refine goto K S d0_136 ?_
  refine istore K S (l' := #[.val (.int x0), .val (.int x1), .val (.int x2), .val (.int v), .val (.ref o3), .val (.int md), .val (.int (1 : Int32)), .val (.int r), .val (.int ru), .val (.int wu), .val (.int mu), .val (.int kp), .val (.int (1 : Int32)), .unset, .unset, .unset]) rfl d0_140 ?_
  refine iload K S rfl d0_142 ?_
  refine iload K S rfl d0_144 ?_
  refine iand K S d0_146 ?_
  refine iload K S rfl d0_147 ?_
  refine iload K S rfl d0_149 ?_
  refine iand K S d0_151 ?_
  refine icmp_ne K S d0_152 (fun c152 => ?_) (fun c152 => ?_)
  · exact absurd (show ru &&& kp = wu &&& kp by simp only [hru, hkp, hwu, hmu, hv]; exact (pen (w := x0) (m := x1) (r := r) (by rw [hr, hv]; rfl)).2.1) c152
  refine iconst K S (x := (1 : Int32)) rfl d0_155 ?_
  refine goto K S d0_156 ?_
  refine istore K S (l' := #[.val (.int x0), .val (.int x1), .val (.int x2), .val (.int v), .val (.ref o3), .val (.int md), .val (.int (1 : Int32)), .val (.int r), .val (.int ru), .val (.int wu), .val (.int mu), .val (.int kp), .val (.int (1 : Int32)), .val (.int (1 : Int32)), .unset, .unset]) rfl d0_160 ?_
  refine aload K S rfl rfl d0_162 ?_
  refine iload K S rfl d0_164 ?_
  refine iload_n K S rfl d0_166 ?_
  refine callV K S (W := 0) (m_paint1 l Z a0 hw n0 o3 r x1 h7_2 (Sle S) F_black_o3) E_o3 (hwi hw 16 rfl) (hwi hw 17 rfl) (hwi hw 19 rfl) (hwi hw 18 rfl) (hwi hw 20 rfl) (hwi hw 2 rfl) (by decide) (by decide) (by decide) (by decide) (by decide) rfl (argsL := [.int r, .int x1]) rfl (lenOf pd_4 rfl) (rest := []) rfl (Nat.le_of_eq rfl) d0_167 (pu fun T S => ?_)
  show Wp n0 p e _ s below _ T (mkF m 170 #[.val (.int x0), .val (.int x1), .val (.int x2), .val (.int v), .val (.ref o3), .val (.int md), .val (.int (1 : Int32)), .val (.int r), .val (.int ru), .val (.int wu), .val (.int mu), .val (.int kp), .val (.int (1 : Int32)), .val (.int (1 : Int32)), .unset, .unset] [.int ((r ||| x1).toInt16.toInt32)])
  refine nmI fun r2 hr2 => ?_
  refine istore K S (l' := #[.val (.int x0), .val (.int x1), .val (.int x2), .val (.int v), .val (.ref o3), .val (.int md), .val (.int (1 : Int32)), .val (.int r), .val (.int ru), .val (.int wu), .val (.int mu), .val (.int kp), .val (.int (1 : Int32)), .val (.int (1 : Int32)), .val (.int r2), .unset]) rfl d0_170 ?_
  refine iload K S rfl d0_172 ?_
  refine iload K S rfl d0_174 ?_
  refine icmp_ne K S d0_176 (fun c176 => ?_) (fun c176 => ?_)
  · exact absurd (hr2.trans (pen (w := x0) (m := x1) (r := r) (by rw [hr, hv]; rfl)).2.2) c176
  refine iconst K S (x := (1 : Int32)) rfl d0_179 ?_
  refine goto K S d0_180 ?_
  refine istore K S (l' := #[.val (.int x0), .val (.int x1), .val (.int x2), .val (.int v), .val (.ref o3), .val (.int md), .val (.int (1 : Int32)), .val (.int r), .val (.int ru), .val (.int wu), .val (.int mu), .val (.int kp), .val (.int (1 : Int32)), .val (.int (1 : Int32)), .val (.int r2), .val (.int (1 : Int32))]) rfl d0_184 ?_
  refine iload K S rfl d0_186 ?_
  refine ific_eq K S d0_188 (fun c188 => ?_) (fun c188 => ?_)
  · exact absurd c188 (by decide)
  refine iload K S rfl d0_191 ?_
  refine ific_eq K S d0_193 (fun c193 => ?_) (fun c193 => ?_)
  · exact absurd c193 (by decide)
  refine iload K S rfl d0_196 ?_
  refine ific_eq K S d0_198 (fun c198 => ?_) (fun c198 => ?_)
  · exact absurd c198 (by decide)
  refine iconst K S (x := (1 : Int32)) rfl d0_201 ?_
  refine goto K S d0_202 ?_
  refine retn K S (by simp) (y := (1 : Int32)) rfl (by decide) (by decide) d0_206 ?_
  rfl

set_option maxRecDepth 65536 in
set_option maxHeartbeats 40000000 in
theorem comes_1 {Post : Tables → Env → Array Value → State → Outcome → State → Prop} (hpost : ∀ tb e args s v u, (limb_1_1.after args s (.returned v) u = true ∧ limb_1_2.after args s (.returned v) u = true ∧ True) → FrameEnd s (.returned v) u (Jvm.fieldLocs frame_1_writes args s ++ Jvm.arrayLocs frame_1_arrays args s ++ Jvm.staticLocs frame_1_statics s) 16 128 → Post tb e args s (.returned v) u) :
    ArmFor flags0 classFile x code maxLocals ret World_1 tables_1 room_1 Calls_1 rest_1 Pre_1 Post := by
  intro l hfl _ _ p e ha hc hk s m args below hf hA hF happ hP
  obtain ⟨hcalls, hrest, hpre⟩ := hP
  obtain ⟨-, -, -, hnamed, -, -, -, hat⟩ := (Spec.applies_iff hf).mp happ
  obtain ⟨hg, hn⟩ := and_e (Cond.before_iff.mp (show (Jvm.Cond.and given_1 narrow_1).before args s = true from hpre))
  obtain ⟨gc, r0⟩ := and_e hg
  obtain ⟨g0, r1⟩ := and_e r0
  obtain ⟨g1, r2⟩ := and_e r1
  obtain ⟨w0, w1, w2, rfl⟩ : ∃ w0 w1 w2 : Value, args = #[w0, w1, w2] := by
    have hs : args.size = 3 := by simpa [Cond.value, given_1] using gc
    obtain ⟨L⟩ := args
    match L, hs with
    | [w0, w1, w2], _ => exact ⟨w0, w1, w2, rfl⟩
  have hw := fun d (hd : d ∈ tables_1) => atoms_spec (ws := Jvm.Cond.code x code maxLocals ret :: tables_1) hat d (List.mem_cons_of_mem _ hd)
  obtain ⟨i0, ei0⟩ := is_v g0
  obtain rfl : w0 = (.int i0) := Option.some.inj ei0
  obtain ⟨i1, ei1⟩ := is_v g1
  obtain rfl : w1 = (.int i1) := Option.some.inj ei1
  obtain ⟨i2, ei2⟩ := is_v r2
  obtain rfl : w2 = (.int i2) := Option.some.inj ei2
  obtain ⟨n, o, h1, h2, h3, _, L, rfl, ⟨rfl, -, N⟩, hq⟩ := m_law l s _ hw s.heap.size i0 i1 i2 s.heap (Nat.le_refl _) p e ha hc hk s m _ below hf ((Spec.applies_iff_loose hf).mp happ).1 ⟨rfl, State.Warmed39.refl s, rfl⟩ trivial
  refine ⟨n, _, h1, h2, h3, hpost _ _ _ _ _ _ ⟨Cond.after_iff.mpr rfl, Cond.after_iff.mpr (eq_i res_at (Term.int_eval (1)) rfl), trivial⟩ ⟨hq.1, hq.2.1, (hq.2.2.sift fun y hy => Or.inr (N y hy)).mono (by decide) (by decide)⟩⟩
theorem main_1_1 : Claimed_1_1 := comes_1 fun _ _ _ _ _ _ h hF => ⟨h.1, hF⟩
theorem main_1_2 : Claimed_1_2 := comes_1 fun _ _ _ _ _ _ h hF => ⟨h.2.1, hF⟩
end Jvm.Pilot.@@N@@
namespace Jvm.Pilot.@@N@@
open Jvm Jvm.ClassFile Sem Op Lib Jvm.Free Jvm.Stand Jvm.Pilot.@@N@@.Jvm.D
/-! MADE BY PROGRAM (witnessworld.py) out of the Statement's table words and the real class files: 9 classes; the members and pool entries that the words name. The judged class is class 1, her method 1. -/
namespace start1
open Jvm.ClassFile
def u (s : String) : CpInfo := .utf8 (stringToUtf16 s)
/-- a pool by its gaps: so many unusable entries, then the entry; so many at the end -/
def gap : Nat → List CpInfo → List CpInfo
  | 0, r => r
  | n + 1, r => .unusable :: gap n r
def poolList (es : List (Nat × CpInfo)) (last : Nat) : List CpInfo := es.foldr (fun e r => gap e.1 (e.2 :: r)) (gap last [])
def pool (es : List (Nat × CpInfo)) (last : Nat) : Array CpInfo := ⟨poolList es last⟩
def fileOf (pool : Array CpInfo) (this : Nat) (attrs : Array Attribute := #[]) (ms : Array MethodInfo := #[]) (fl : Nat := 33) (sup : Nat := 0) (ifs : Array Nat := #[]) (fds : Array FieldInfo := #[]) : ClassFile where
  minorVersion := 0
  majorVersion := 65
  constantPool := pool
  accessFlags := fl
  thisClass := this
  superClass := sup
  interfaces := ifs
  fields := fds
  methods := ms
  attributes := attrs
def plain (name : String) (sup : Option ClassId) : Class where
  name := name
  kind := .ordinary
  loader := none
  accessFlags := 33
  super := sup
  interfaces := #[]
  cf := none
  fields := #[]
  methods := #[]
  instanceTypes := #[]
  staticTypes := #[]
  resolved := #[]
  callSites := []
  init := .initialized
  statics := none
  mirror := none

def pool0 : Array CpInfo := pool [(5, u "<init>"), (0, u "()V"), (1, .class_ 10), (1, u "java/lang/Object")] 113

def k0c0 : Code := { maxStack := 0, maxLocals := 1, code := object_method_1_code, exceptionTable := #[], attributes := #[] }
def k0m0 : Method := { name := "<init>", desc := "()V", sig := { parameters := [], returnType := none }, accessFlags := 1, code := some k0c0 }
/-- java/lang/Object -/
def k0 : Class := { plain "java/lang/Object" none with
  accessFlags := 33
  interfaces := #[]
  cf := some (fileOf pool0 8 #[] #[{ accessFlags := 1, nameIndex := 5, descriptorIndex := 6, attributes := #[] }] 33 0 #[] #[])
  fields := #[]
  methods := #[k0m0]
  instanceTypes := #[]
  staticTypes := #[]
  resolved := Array.replicate 124 none
  statics := none }

def pool1 : Array CpInfo := pool [(2, .class_ 4), (0, .nameAndType 5 6), (0, u "java/lang/Object"), (0, u "<init>"), (0, u "()V"), (0, .class_ 8), (0, u "com/example/cairn/cairn/Pen"), (0, .methodref 7 3), (0, .methodref 7 11), (0, .nameAndType 12 13), (0, u "setBlack"), (0, u "(Z)V"), (0, .methodref 7 15), (0, .nameAndType 16 17), (0, u "paint"), (0, u "(SI)S"), (0, .integer 65535), (0, .class_ 20), (0, u "com/example/cairn/cairn/PenPaintPinLaw"), (2, u "law"), (0, u "(III)Z")] 3

def k1m0 : Method := { name := "<init>", desc := "()V", sig := { parameters := [], returnType := none }, accessFlags := 1, code := none }
def k1c1 : Code := { maxStack := 3, maxLocals := 16, code := code, exceptionTable := #[], attributes := #[] }
def k1m1 : Method := { name := "law", desc := "(III)Z", sig := { parameters := [.int, .int, .int], returnType := some .boolean }, accessFlags := 9, code := some k1c1 }
/-- com/example/cairn/cairn/PenPaintPinLaw -/
def k1 : Class := { plain "com/example/cairn/cairn/PenPaintPinLaw" (some 0) with
  accessFlags := 49
  interfaces := #[]
  cf := some (fileOf pool1 19 #[] #[{ accessFlags := 1, nameIndex := 5, descriptorIndex := 6, attributes := #[] }, { accessFlags := 9, nameIndex := 23, descriptorIndex := 24, attributes := #[] }] 49 2 #[] #[])
  fields := #[]
  methods := #[k1m0, k1m1]
  instanceTypes := #[]
  staticTypes := #[]
  resolved := Array.replicate 28 none
  statics := none }

def pool2 : Array CpInfo := pool [(1, .methodref 2 3), (0, .class_ 4), (0, .nameAndType 5 6), (0, u "java/lang/Object"), (0, u "<init>"), (0, u "()V"), (0, .fieldref 8 9), (0, .class_ 10), (0, .nameAndType 11 12), (0, u "com/example/cairn/cairn/Pen"), (0, u "black"), (0, u "Z"), (2, u "setBlack"), (0, u "(Z)V"), (0, u "paint"), (0, u "(SI)S")] 3

def k2c0 : Code := { maxStack := 2, maxLocals := 1, code := prog_24_method_1_code, exceptionTable := #[], attributes := #[] }
def k2m0 : Method := { name := "<init>", desc := "()V", sig := { parameters := [], returnType := none }, accessFlags := 0, code := some k2c0 }
def k2c1 : Code := { maxStack := 2, maxLocals := 2, code := prog_24_method_2_code, exceptionTable := #[], attributes := #[] }
def k2m1 : Method := { name := "setBlack", desc := "(Z)V", sig := { parameters := [.boolean], returnType := none }, accessFlags := 0, code := some k2c1 }
def k2c2 : Code := { maxStack := 3, maxLocals := 3, code := prog_24_method_3_code, exceptionTable := #[], attributes := #[] }
def k2m2 : Method := { name := "paint", desc := "(SI)S", sig := { parameters := [.short, .int], returnType := some .short }, accessFlags := 0, code := some k2c2 }
/-- com/example/cairn/cairn/Pen -/
def k2 : Class := { plain "com/example/cairn/cairn/Pen" (some 0) with
  accessFlags := 48
  interfaces := #[]
  cf := some (fileOf pool2 8 #[] #[{ accessFlags := 0, nameIndex := 5, descriptorIndex := 6, attributes := #[] }, { accessFlags := 0, nameIndex := 15, descriptorIndex := 16, attributes := #[] }, { accessFlags := 0, nameIndex := 17, descriptorIndex := 18, attributes := #[] }] 48 2 #[] #[{ accessFlags := 2, nameIndex := 11, descriptorIndex := 12, attributes := #[] }])
  fields := #[{ name := "black", type := .boolean, accessFlags := 2, slot := 0, constantValue := 0 }]
  methods := #[k2m0, k2m1, k2m2]
  instanceTypes := #[.boolean]
  staticTypes := #[]
  resolved := Array.replicate 22 none
  statics := none }

def pool3 : Array CpInfo := pool [(1, u "java/lang/Cloneable"), (0, .class_ 1), (0, u "java/lang/Object"), (0, .class_ 3)] 3

/-- java/lang/Cloneable -/
def k3 : Class := { plain "java/lang/Cloneable" (some 0) with
  accessFlags := 1537
  interfaces := #[]
  cf := some (fileOf pool3 2 #[] #[] 1537 4 #[] #[])
  fields := #[]
  methods := #[]
  instanceTypes := #[]
  staticTypes := #[]
  resolved := Array.replicate 8 none
  statics := none }

def pool4 : Array CpInfo := pool [(1, u "java/io/Serializable"), (0, .class_ 1), (0, u "java/lang/Object"), (0, .class_ 3)] 3

/-- java/io/Serializable -/
def k4 : Class := { plain "java/io/Serializable" (some 0) with
  accessFlags := 1537
  interfaces := #[]
  cf := some (fileOf pool4 2 #[] #[] 1537 4 #[] #[])
  fields := #[]
  methods := #[]
  instanceTypes := #[]
  staticTypes := #[]
  resolved := Array.replicate 8 none
  statics := none }

/-- the primitive byte -/
def k5 : Class := { plain "byte" none with kind := .primitive 'B', accessFlags := 0x411 }
/-- [B -/
def k6 : Class := { plain "[B" (some 0) with kind := .array 5 .byte, interfaces := #[3, 4], accessFlags := 1041 }

/-- the primitive int -/
def k7 : Class := { plain "int" none with kind := .primitive 'I', accessFlags := 0x411 }
/-- [I -/
def k8 : Class := { plain "[I" (some 0) with kind := .array 7 .int, interfaces := #[3, 4], accessFlags := 1041 }

def heap : Heap := #[]
def classes : Array Class := #[k0, k1, k2, k3, k4, k5, k6, k7, k8]
def interned : List (Array UInt16 × Addr) := []
def slotsUsed : Nat := 0
def theMethod : MethodId := ⟨1, 1⟩
def args0 : Array Value := #[.int 5, .int 300, .int 7]
def aboutOver (below : List Frame) : State where
  vm := { classes := classes, interned := interned.toArray }
  heap := heap
  slotsUsed := slotsUsed
  threads := #[{ frames := .invoking theMethod args0 :: below }]
def below0 : List Frame := [.native { method := ⟨0, 0⟩, args := #[] }]
def about1 : State := aboutOver below0
def p0 : Program := .bare "" "" ""
def e0 : Env := launch0.env 0 0 0
theorem w_frames : about1.frames = Frame.invoking theMethod args0 :: below0 := rfl
set_option maxRecDepth 65536 in
theorem w_args : argsFit about1.vm theMethod args0 = true := by decide +kernel
set_option maxRecDepth 65536 in
theorem w_heap : heapFits about1 = true := by decide +kernel
set_option maxRecDepth 65536 in
theorem w_runnable : about1.curStatus? = some .runnable := by decide +kernel
set_option maxRecDepth 65536 in
theorem w_alone : about1.alone = true := by decide +kernel
set_option maxRecDepth 65536 in
theorem w_named : about1.methodNamed? x = some theMethod := by decide +kernel
set_option maxRecDepth 65536 in
theorem w_hears : about1.hears theMethod below0 = true := by decide +kernel
set_option maxRecDepth 65536 in
theorem w_ripe : about1.ripe theMethod args0 below0 = true := by decide +kernel
theorem w_running : about1.status = .running := rfl
set_option maxRecDepth 65536 in
theorem w_room : about1.hasRoom e0.platform room_1 = true :=
  launch0.hasRoom_least _ room_1 (by decide +kernel) (by decide +kernel) (by decide +kernel) (by decide +kernel) (by decide +kernel) (by decide +kernel)
theorem allAtoms_all (ts : List Jvm.Cond) (a : Array Jvm.Value) (st : Jvm.State) : (allAtoms ts).before a st = ts.all (fun c => c.before a st) := by
  induction ts with
  | nil => rfl
  | cons c t ih =>
    show (Jvm.Cond.and c (allAtoms t)).before a st = _
    rw [Jvm.Cond.before_and, ih, List.all_cons]
def words1 : List Jvm.Cond := Jvm.Cond.code x code maxLocals ret :: tables_1
/-- a 'code' word, met by the world's own term for the bytes: nothing is compared byte by byte -/
theorem code_word {y : MethodName} {bytes : ByteArray} {mx : Nat} {rt : Option FieldType} {a : Array Value} {s : State} {m : MethodId} {meth : Method} {c : Code} (h1 : s.methodNamed? y = some m) (h2 : s.vm.method? m = some meth) (h3 : meth.code = some c) (h4 : c.code = bytes)
    (h5 : (c.maxLocals == mx && c.exceptionTable.isEmpty && decide (c.maxStack ≤ mostOperands) && decide (meth.sig.returnType = rt) && !meth.locks && decide (parseMethodDescriptor y.desc = some meth.sig)) = true) : (Jvm.Cond.code y bytes mx rt).before a s = true := by
  simp only [Bool.and_eq_true, beq_iff_eq, Bool.not_eq_true', decide_eq_true_eq] at h5
  obtain ⟨⟨⟨⟨⟨g1, g2⟩, g3⟩, g4⟩, g5⟩, g6⟩ := h5
  simp [Cond.before, Cond.holds, Cond.value, h1, h2, h3, h4, g1, g2, g3, g4, g5, g6]
def isCode : Jvm.Cond → Bool
  | .code _ _ _ _ => true
  | _ => false
theorem all_split {L : List Jvm.Cond} {P : Jvm.Cond → Bool} (h1 : L.all (fun c => isCode c || P c) = true) (h2 : ∀ c ∈ L.filter isCode, P c = true) : L.all P = true := by
  refine List.all_eq_true.mpr fun c hc => ?_
  have h := List.all_eq_true.mp h1 c hc
  rcases Bool.eq_false_or_eq_true (isCode c) with hi | hi
  · exact h2 c (List.mem_filter.mpr ⟨hc, hi⟩)
  · simpa [hi] using h
set_option maxRecDepth 65536 in
theorem w_c0 : (Jvm.Cond.code x code maxLocals ret).before args0 about1 = true := code_word (m := ⟨1, 1⟩) (meth := k1m1) (c := k1c1) (by decide +kernel) rfl rfl rfl (by decide +kernel)
set_option maxRecDepth 65536 in
theorem w_c1 : (Jvm.Cond.code ({ cls := "com/example/cairn/cairn/Pen", name := "<init>", desc := "()V" } : Jvm.MethodName) prog_24_method_1_code (1 : Nat) (Option.none : Option Jvm.ClassFile.FieldType)).before args0 about1 = true := code_word (m := ⟨2, 0⟩) (meth := k2m0) (c := k2c0) (by decide +kernel) rfl rfl rfl (by decide +kernel)
set_option maxRecDepth 65536 in
theorem w_c2 : (Jvm.Cond.code ({ cls := "java/lang/Object", name := "<init>", desc := "()V" } : Jvm.MethodName) object_method_1_code (1 : Nat) (Option.none : Option Jvm.ClassFile.FieldType)).before args0 about1 = true := code_word (m := ⟨0, 0⟩) (meth := k0m0) (c := k0c0) (by decide +kernel) rfl rfl rfl (by decide +kernel)
set_option maxRecDepth 65536 in
theorem w_c3 : (Jvm.Cond.code ({ cls := "com/example/cairn/cairn/Pen", name := "setBlack", desc := "(Z)V" } : Jvm.MethodName) prog_24_method_2_code (2 : Nat) (Option.none : Option Jvm.ClassFile.FieldType)).before args0 about1 = true := code_word (m := ⟨2, 1⟩) (meth := k2m1) (c := k2c1) (by decide +kernel) rfl rfl rfl (by decide +kernel)
set_option maxRecDepth 65536 in
theorem w_c4 : (Jvm.Cond.code ({ cls := "com/example/cairn/cairn/Pen", name := "paint", desc := "(SI)S" } : Jvm.MethodName) prog_24_method_3_code (3 : Nat) (Option.some Jvm.ClassFile.FieldType.short)).before args0 about1 = true := code_word (m := ⟨2, 2⟩) (meth := k2m2) (c := k2c2) (by decide +kernel) rfl rfl rfl (by decide +kernel)
def codes1 : List Jvm.Cond := [Jvm.Cond.code x code maxLocals ret, Jvm.Cond.code ({ cls := "com/example/cairn/cairn/Pen", name := "<init>", desc := "()V" } : Jvm.MethodName) prog_24_method_1_code (1 : Nat) (Option.none : Option Jvm.ClassFile.FieldType), Jvm.Cond.code ({ cls := "java/lang/Object", name := "<init>", desc := "()V" } : Jvm.MethodName) object_method_1_code (1 : Nat) (Option.none : Option Jvm.ClassFile.FieldType), Jvm.Cond.code ({ cls := "com/example/cairn/cairn/Pen", name := "setBlack", desc := "(Z)V" } : Jvm.MethodName) prog_24_method_2_code (2 : Nat) (Option.none : Option Jvm.ClassFile.FieldType), Jvm.Cond.code ({ cls := "com/example/cairn/cairn/Pen", name := "paint", desc := "(SI)S" } : Jvm.MethodName) prog_24_method_3_code (3 : Nat) (Option.some Jvm.ClassFile.FieldType.short)]
set_option maxRecDepth 65536 in
theorem codes_eq : words1.filter isCode = codes1 := rfl
theorem w_codes : ∀ c ∈ words1.filter isCode, c.before args0 about1 = true := by
  rw [codes_eq]
  intro c hc
  simp only [codes1, List.mem_cons, List.not_mem_nil, or_false] at hc
  rcases hc with rfl | rfl | rfl | rfl | rfl
  · exact w_c0
  · exact w_c1
  · exact w_c2
  · exact w_c3
  · exact w_c4
set_option maxRecDepth 65536 in
theorem w_t1 : words1.all (fun c => isCode c || c.before args0 about1) = true := by decide +kernel
theorem w_tables : (allAtoms (Jvm.Cond.code x code maxLocals ret :: tables_1)).before args0 about1 = true := by
  rw [allAtoms_all]
  show words1.all (fun c => c.before args0 about1) = true
  refine all_split ?_ w_codes
  rw [w_t1]
set_option maxRecDepth 65536 in
theorem w_case : (Jvm.Cond.and given_1 narrow_1).before args0 about1 = true := by decide +kernel
theorem w_applies : (headSpec (Jvm.Cond.code x code maxLocals ret :: tables_1) room_1).applies x e0.platform about1 = true :=
  (Spec.applies_iff w_frames).mpr ⟨w_running, w_runnable, w_alone, w_named, w_hears, w_ripe, w_room, w_tables⟩
theorem atStart : AtStart classFile x code maxLocals ret World_1 tables_1 room_1 Calls_1 rest_1 Pre_1 launch0 p0 e0 about1 theMethod args0 below0 :=
  ⟨lists_1, trivial, launch0.admits_env _ _ _, launch0.least_env, fairChoices_fair.cas, fairChoices_fair.clock, w_frames, w_args, w_heap, w_applies, trivial, trivial, w_case⟩
end start1
theorem witness_1 : WitnessClaimed_1 := ⟨start1.p0, start1.e0, start1.about1, start1.theMethod, start1.args0, start1.below0, start1.atStart⟩
end Jvm.Pilot.@@N@@
