import JvmDerived
import JvmDerived.Pilot.@@N@@Statement
import JvmDerived.Pilot.@@N@@Code
set_option linter.unusedVariables false
set_option linter.unusedSimpArgs false
namespace Jvm.Own
open Jvm Sem ClassFile Op Lib Jvm.Stand Jvm.Free Jvm.LawKit Jvm.RoadKit
section Kit
/-- the fixed surroundings of one body's walk -/
def Cx (own : String) (code : ByteArray) (mL : Nat) (ret : Option FieldType) (mn : String) (n0 : Nat) (Z : State) (p : Program) (l : Launch) (e : Env) (R : Room) (s : State) (m : MethodId) (args : Array Value) (below : List Frame) (meth : Method) (c : Code) : Prop :=
  p.tables.exec = Jvm.exec ∧ c.code = code ∧ c.maxLocals = mL ∧ meth.sig.returnType = ret ∧ meth.locks = false ∧ s.vm.findClass own = some m.cls ∧ Z.Warmed39 s.vm ∧ meth.name = mn
/-- where the walk stands: k cells and n slots made so far, the heap h -/
def St (n0 : Nat) (p : Program) (l : Launch) (e : Env) (R : Room) (s : State) (m : MethodId) (args : Array Value) (below : List Frame) (meth : Method) (c : Code) (k n : Nat) (h : Heap) (T : State) : Prop :=
  ∃ locs, Stand p l e R s m args below meth c T locs k n ∧ T.heap = h ∧ Fr n0 locs ∧ n0 ≤ h.size
/-- from here the body comes to its end, and Q holds there -/
def Wp (n0 : Nat) (p : Program) (e : Env) (R : Room) (s : State) (below : List Frame) (Q : Option Value → Heap → Prop) (T : State) (g : JFrame) : Prop :=
  ∃ s₂ o, Steps p.tables e below (T.setTop g) s₂ ∧ s₂.status = .running ∧ Ended s₂ below o ∧ ∃ v L, o = .returned v ∧ (Q v s₂.heap ∧ n0 ≤ s₂.heap.size ∧ Fr n0 L) ∧ FrameEnd s o s₂ L R.cells R.slots
/-- a body's contract: entered with the arguments as' at the heap h it returns, and Q holds of what it returns and of the heap -/
def Met (n0 : Nat) (l : Launch) (Z : State) (y : MethodName) (bytes : ByteArray) (mL : Nat) (ret : Option FieldType) (rm : Room) (ws : List Jvm.Cond) (as' : Array Value) (h : Heap) (Q : Option Value → Heap → Prop) : Prop :=
  MetFree l y (head1 (Jvm.Cond.code y bytes mL ret :: ws) rm) (fun a U => a = as' ∧ Z.Warmed39 U.vm ∧ U.heap = h) (fun _ _ _ _ _ => True) (fun _ U o U' => ∃ v L, o = .returned v ∧ (Q v U'.heap ∧ n0 ≤ U'.heap.size ∧ Fr n0 L) ∧ FrameEnd U o U' L rm.cells rm.slots)
def Dc (code : ByteArray) (pc : Nat) (i : Instr) (len q : Nat) : Prop := decode code pc = .ok (i, len) ∧ pc + len = q
def Bc (code : ByteArray) (pc : Nat) (i : Instr) (o : Int) (q q' : Nat) : Prop := decode code pc = .ok (i, 3) ∧ pc + 3 = q ∧ 0 ≤ (pc : Int) + o ∧ ((pc : Int) + o).toNat = q'
/-- the place i that the int j names -/
def Ix (j : Int32) (i : Nat) : Prop := ¬ j < 0 ∧ j.toNatClampNeg = i
/-- an array of the values vs -/
def VA (Z : State) (h : Heap) (a : Addr) (ty : FieldType) (vs : List Value) : Prop := ∃ cl : Cell, Arr Z h a cl ty ∧ cl.slots = vs.toArray
variable {own : String} {code : ByteArray} {mL : Nat} {ret : Option FieldType} {mn : String} {n0 : Nat} {Z : State} {p : Program} {l : Launch} {e : Env} {R : Room} {s : State} {m : MethodId} {args : Array Value} {below : List Frame} {meth : Method} {c : Code} {T : State} {k n : Nat} {h h' : Heap} {Q : Option Value → Heap → Prop} {pc q q' : Nat} {Ls l' : Array Slot} {st rest : List Value} {a0 : Array Value} {ty : FieldType} {vs : List Value} {a b : Addr} {v w : Value} {x y : Int32} {X Y : Int64}
theorem VA.ext (F : VA Z h a ty vs) (E : Ext h h') : VA Z h' a ty vs := by obtain ⟨cl, A, r⟩ := F; exact ⟨cl, A.ext E, r⟩
theorem VA.other {sl : Nat} (F : VA Z h a ty vs) (W : Wr h h' b sl v) (ne : a ≠ b) : VA Z h' a ty vs := by obtain ⟨cl, A, r⟩ := F; exact ⟨cl, A.other W ne, r⟩
theorem VA.keep {ws : List Addr} (F : VA Z h a ty vs) (K : Keep h h' ws) (ne : a ∉ ws) : VA Z h' a ty vs := by obtain ⟨cl, A, r⟩ := F; exact ⟨cl, ⟨K.2.1 a cl A.1 ne, A.2⟩, r⟩
theorem VA.lt (F : VA Z h a ty vs) : a < h.size := by obtain ⟨cl, A, r⟩ := F; exact A.lt
theorem VA.wr {i : Nat} (F : VA Z h a ty vs) (W : Wr h h' a i v) : VA Z h' a ty (vs.set i v) := by
  obtain ⟨cl, A, r⟩ := F
  refine ⟨_, Arr.same W A, ?_⟩
  show cl.slots.setIfInBounds i v = _
  rw [r]; simp
theorem wp_mono {T' : State} {g g' : JFrame} (f : ∀ t, Steps p.tables e below (T'.setTop g') t → Steps p.tables e below (T.setTop g) t) (w : Wp n0 p e R s below Q T' g') : Wp n0 p e R s below Q T g := by
  obtain ⟨s₂, o, h1, r⟩ := w; exact ⟨s₂, o, f _ h1, r⟩
theorem nmI (g : ∀ z, z = x → Wp n0 p e R s below Q T (mkF m pc Ls (.int z :: st))) : Wp n0 p e R s below Q T (mkF m pc Ls (.int x :: st)) := g x rfl
theorem nmL (g : ∀ z, z = X → Wp n0 p e R s below Q T (mkF m pc Ls (.long z :: st))) : Wp n0 p e R s below Q T (mkF m pc Ls (.long X :: st)) := g X rfl
def Pu (r : Option Value) (h : Heap) : Option Value → Heap → Prop := fun v h' => v = r ∧ h' = h
def Ef (r : Option Value) (P : Heap → Prop) : Option Value → Heap → Prop := fun v h' => v = r ∧ P h'
def Pr (P : Int32 → Prop) (h : Heap) : Option Value → Heap → Prop := fun v h' => ∃ r, v = some (.int r) ∧ P r ∧ h' = h
def PrL (P : Int64 → Prop) (h : Heap) : Option Value → Heap → Prop := fun v h' => ∃ r, v = some (.long r) ∧ P r ∧ h' = h
def Er (P : Int32 → Heap → Prop) : Option Value → Heap → Prop := fun v h' => ∃ r, v = some (.int r) ∧ P r h'
def Ea (P : Addr → Heap → Prop) : Option Value → Heap → Prop := fun v h' => ∃ r, v = some (.ref r) ∧ P r h'
theorem own_b01 {x : Int32} (h : x.toInt = 0 ∨ x.toInt = 1) : nar .boolean x = x := by
  rcases h with h | h
  · have e : x = 0 := Int32.toInt_inj.mp h
    subst e; rfl
  · have e : x = 1 := Int32.toInt_inj.mp h
    subst e; rfl
theorem own_eqz {x y : Int32} (h : x.toInt = y.toInt) : x = y := Int32.toInt_inj.mp h
theorem own_eqZ {x y : Int64} (h : x.toInt = y.toInt) : x = y := Int64.toInt_inj.mp h
theorem own_lrem (x y : Int64) (d : Int) (hy : y.toInt = d) : (0 ≤ x.toInt → (x % y).toInt = x.toInt % d) ∧ (x.toInt < 0 → (x % y).toInt = -((-x.toInt) % d)) := by rw [Int64.toInt_mod, hy]; exact tr _ _
theorem own_nz {y : Int32} (h : 0 < y.toInt) : y ≠ 0 := fun q => by rw [q] at h; exact absurd h (by decide)
theorem own_nneg {x : Int32} (h : 0 ≤ x.toInt) : ¬ x < 0 := fun q => by
  have q' := Int32.lt_iff_toInt_lt.mp q
  have z0 : (0 : Int32).toInt = 0 := rfl
  omega
theorem own_cl {x : Int32} (h : 0 ≤ x.toInt) : (x.toNatClampNeg : Int) = x.toInt := by
  have e : x.toNatClampNeg = x.toInt.toNat := rfl
  omega
theorem own_ix {x : Int32} (h : 0 ≤ x.toInt) : Ix x x.toInt.toNat := ⟨own_nneg h, rfl⟩
theorem stO {i : Nat} {o : Slot} (ho : One o) (hold : Ls[i]? = some o) (hv : v.category = 1) (he : Ls.setIfInBounds i (.val v) = l') : storeLocals Ls i v = some l' := he ▸ XS.store1 hold ho hv
theorem Sle (S : St n0 p l e R s m args below meth c k n h T) : n0 ≤ h.size := by obtain ⟨_, _, _, _, z⟩ := S; exact z
theorem more {k' n' : Nat} (S : St n0 p l e R s m args below meth c k n h T) (hk : k ≤ k') (hn : n ≤ n') : St n0 p l e R s m args below meth c k' n' h T := by
  obtain ⟨locs, S, r⟩ := S; exact ⟨locs, S.more hk hn, r⟩
theorem pu {r : Option Value} (g : ∀ T, St n0 p l e R s m args below meth c k n h T → Wp n0 p e R s below Q T (mkF m q Ls (r.toList ++ rest))) : ∀ T v h', Pu r h v h' → St n0 p l e R s m args below meth c k n h' T → Wp n0 p e R s below Q T (mkF m q Ls (v.toList ++ rest)) := by
  intro T v h' hq S; obtain ⟨rfl, rfl⟩ := hq; exact g T S
theorem ef {r : Option Value} {P : Heap → Prop} (g : ∀ T h', P h' → St n0 p l e R s m args below meth c k n h' T → Wp n0 p e R s below Q T (mkF m q Ls (r.toList ++ rest))) : ∀ T v h', Ef r P v h' → St n0 p l e R s m args below meth c k n h' T → Wp n0 p e R s below Q T (mkF m q Ls (v.toList ++ rest)) := by
  intro T v h' hq S; obtain ⟨rfl, hp⟩ := hq; exact g T h' hp S
theorem pr {P : Int32 → Prop} (g : ∀ T r, P r → St n0 p l e R s m args below meth c k n h T → Wp n0 p e R s below Q T (mkF m q Ls (.int r :: rest))) : ∀ T v h', Pr P h v h' → St n0 p l e R s m args below meth c k n h' T → Wp n0 p e R s below Q T (mkF m q Ls (v.toList ++ rest)) := by
  intro T v h' hq S; obtain ⟨r, rfl, hp, rfl⟩ := hq; exact g T r hp S
theorem prL {P : Int64 → Prop} (g : ∀ T r, P r → St n0 p l e R s m args below meth c k n h T → Wp n0 p e R s below Q T (mkF m q Ls (.long r :: rest))) : ∀ T v h', PrL P h v h' → St n0 p l e R s m args below meth c k n h' T → Wp n0 p e R s below Q T (mkF m q Ls (v.toList ++ rest)) := by
  intro T v h' hq S; obtain ⟨r, rfl, hp, rfl⟩ := hq; exact g T r hp S
theorem er {P : Int32 → Heap → Prop} (g : ∀ T r h', P r h' → St n0 p l e R s m args below meth c k n h' T → Wp n0 p e R s below Q T (mkF m q Ls (.int r :: rest))) : ∀ T v h', Er P v h' → St n0 p l e R s m args below meth c k n h' T → Wp n0 p e R s below Q T (mkF m q Ls (v.toList ++ rest)) := by
  intro T v h' hq S; obtain ⟨r, rfl, hp⟩ := hq; exact g T r h' hp S
theorem ea {P : Addr → Heap → Prop} (g : ∀ T r h', P r h' → St n0 p l e R s m args below meth c k n h' T → Wp n0 p e R s below Q T (mkF m q Ls (.ref r :: rest))) : ∀ T v h', Ea P v h' → St n0 p l e R s m args below meth c k n h' T → Wp n0 p e R s below Q T (mkF m q Ls (v.toList ++ rest)) := by
  intro T v h' hq S; obtain ⟨r, rfl, hp⟩ := hq; exact g T r h' hp S
theorem enter {y : MethodName} {bytes : ByteArray} {rm : Room} {ws : List Jvm.Cond} {as' : Array Value} (hpn : plainFor y = true) (ef : ∀ m, entryFrame m as' mL = mkF m 0 Ls []) (hn : n0 ≤ h.size)
    (body : ∀ p e s m below meth c T, Cx y.cls bytes mL ret y.name n0 Z p l e rm s m as' below meth c → St n0 p l e rm s m as' below meth c 0 0 h T → Wp n0 p e rm s below Q T (mkF m 0 Ls [])) : Met n0 l Z y bytes mL ret rm ws as' h Q := by
  refine MetFree.of_bodySF hpn hisR ?_
  intro p e s m args below meth c s₁ Bd hml0 hP hK
  obtain ⟨rfl, hZ, hh⟩ := hP
  have e0 : s₁.heap = h := by rw [← hh, Bd.state]; rfl
  have w := body p e s m below meth c s₁ ⟨Bd.exec, Bd.bytes, hml0, Bd.returns, Bd.notSynchronized, findClass_of_methodNamed Bd.named, hZ, (name_of_methodNamed Bd.named Bd.method).1⟩ ⟨[], Stand.of_body Bd, e0, Fr.nil n0, hn⟩
  obtain ⟨s₂, o, h1, r⟩ := w
  exact ⟨s₂, o, castTop (ef m) h1, r⟩
theorem iadd (K : Cx own code mL ret mn n0 Z p l e R s m args below meth c) (S : St n0 p l e R s m args below meth c k n h T) (hd : Dc code pc (.iadd) 1 q) (g : Wp n0 p e R s below Q T (mkF m q Ls (.int (x + y) :: st))) : Wp n0 p e R s below Q T (mkF m pc Ls (.int y :: .int x :: st)) := by
  obtain ⟨hx, hby, -⟩ := K; obtain ⟨locs, S, -, -⟩ := S; obtain ⟨hd, rfl⟩ := hd
  exact wp_mono (fun t hr => XS.iadd S.here hx rfl (hb hby hd) rfl hr) g
theorem isub (K : Cx own code mL ret mn n0 Z p l e R s m args below meth c) (S : St n0 p l e R s m args below meth c k n h T) (hd : Dc code pc (.isub) 1 q) (g : Wp n0 p e R s below Q T (mkF m q Ls (.int (x - y) :: st))) : Wp n0 p e R s below Q T (mkF m pc Ls (.int y :: .int x :: st)) := by
  obtain ⟨hx, hby, -⟩ := K; obtain ⟨locs, S, -, -⟩ := S; obtain ⟨hd, rfl⟩ := hd
  exact wp_mono (fun t hr => XS.isub S.here hx rfl (hb hby hd) rfl hr) g
theorem imul (K : Cx own code mL ret mn n0 Z p l e R s m args below meth c) (S : St n0 p l e R s m args below meth c k n h T) (hd : Dc code pc (.imul) 1 q) (g : Wp n0 p e R s below Q T (mkF m q Ls (.int (x * y) :: st))) : Wp n0 p e R s below Q T (mkF m pc Ls (.int y :: .int x :: st)) := by
  obtain ⟨hx, hby, -⟩ := K; obtain ⟨locs, S, -, -⟩ := S; obtain ⟨hd, rfl⟩ := hd
  exact wp_mono (fun t hr => XS.imul S.here hx rfl (hb hby hd) rfl hr) g
theorem iand (K : Cx own code mL ret mn n0 Z p l e R s m args below meth c) (S : St n0 p l e R s m args below meth c k n h T) (hd : Dc code pc (.iand) 1 q) (g : Wp n0 p e R s below Q T (mkF m q Ls (.int (x &&& y) :: st))) : Wp n0 p e R s below Q T (mkF m pc Ls (.int y :: .int x :: st)) := by
  obtain ⟨hx, hby, -⟩ := K; obtain ⟨locs, S, -, -⟩ := S; obtain ⟨hd, rfl⟩ := hd
  exact wp_mono (fun t hr => XS.iand S.here hx rfl (hb hby hd) rfl hr) g
theorem ior (K : Cx own code mL ret mn n0 Z p l e R s m args below meth c) (S : St n0 p l e R s m args below meth c k n h T) (hd : Dc code pc (.ior) 1 q) (g : Wp n0 p e R s below Q T (mkF m q Ls (.int (x ||| y) :: st))) : Wp n0 p e R s below Q T (mkF m pc Ls (.int y :: .int x :: st)) := by
  obtain ⟨hx, hby, -⟩ := K; obtain ⟨locs, S, -, -⟩ := S; obtain ⟨hd, rfl⟩ := hd
  exact wp_mono (fun t hr => XT.ior S.here hx rfl (hb hby hd) rfl hr) g
theorem ixor (K : Cx own code mL ret mn n0 Z p l e R s m args below meth c) (S : St n0 p l e R s m args below meth c k n h T) (hd : Dc code pc (.ixor) 1 q) (g : Wp n0 p e R s below Q T (mkF m q Ls (.int (x ^^^ y) :: st))) : Wp n0 p e R s below Q T (mkF m pc Ls (.int y :: .int x :: st)) := by
  obtain ⟨hx, hby, -⟩ := K; obtain ⟨locs, S, -, -⟩ := S; obtain ⟨hd, rfl⟩ := hd
  exact wp_mono (fun t hr => XT.ixor S.here hx rfl (hb hby hd) rfl hr) g
theorem ishl (K : Cx own code mL ret mn n0 Z p l e R s m args below meth c) (S : St n0 p l e R s m args below meth c k n h T) (hd : Dc code pc (.ishl) 1 q) (g : Wp n0 p e R s below Q T (mkF m q Ls (.int (x <<< (y &&& 31)) :: st))) : Wp n0 p e R s below Q T (mkF m pc Ls (.int y :: .int x :: st)) := by
  obtain ⟨hx, hby, -⟩ := K; obtain ⟨locs, S, -, -⟩ := S; obtain ⟨hd, rfl⟩ := hd
  exact wp_mono (fun t hr => XT.ishl S.here hx rfl (hb hby hd) rfl hr) g
theorem ishr (K : Cx own code mL ret mn n0 Z p l e R s m args below meth c) (S : St n0 p l e R s m args below meth c k n h T) (hd : Dc code pc (.ishr) 1 q) (g : Wp n0 p e R s below Q T (mkF m q Ls (.int (x >>> (y &&& 31)) :: st))) : Wp n0 p e R s below Q T (mkF m pc Ls (.int y :: .int x :: st)) := by
  obtain ⟨hx, hby, -⟩ := K; obtain ⟨locs, S, -, -⟩ := S; obtain ⟨hd, rfl⟩ := hd
  exact wp_mono (fun t hr => XT.ishr S.here hx rfl (hb hby hd) rfl hr) g
theorem iushr (K : Cx own code mL ret mn n0 Z p l e R s m args below meth c) (S : St n0 p l e R s m args below meth c k n h T) (hd : Dc code pc (.iushr) 1 q) (g : Wp n0 p e R s below Q T (mkF m q Ls (.int (XT.ushr x y) :: st))) : Wp n0 p e R s below Q T (mkF m pc Ls (.int y :: .int x :: st)) := by
  obtain ⟨hx, hby, -⟩ := K; obtain ⟨locs, S, -, -⟩ := S; obtain ⟨hd, rfl⟩ := hd
  exact wp_mono (fun t hr => XT.iushr S.here hx rfl (hb hby hd) rfl hr) g
theorem idiv (K : Cx own code mL ret mn n0 Z p l e R s m args below meth c) (S : St n0 p l e R s m args below meth c k n h T) (hy : y ≠ 0) (hd : Dc code pc (.idiv) 1 q) (g : Wp n0 p e R s below Q T (mkF m q Ls (.int (x / y) :: st))) : Wp n0 p e R s below Q T (mkF m pc Ls (.int y :: .int x :: st)) := by
  obtain ⟨hx, hby, -⟩ := K; obtain ⟨locs, S, -, -⟩ := S; obtain ⟨hd, rfl⟩ := hd
  exact wp_mono (fun t hr => XS.idiv S.here hx rfl (hb hby hd) rfl hy hr) g
theorem irem (K : Cx own code mL ret mn n0 Z p l e R s m args below meth c) (S : St n0 p l e R s m args below meth c k n h T) (hy : y ≠ 0) (hd : Dc code pc (.irem) 1 q) (g : Wp n0 p e R s below Q T (mkF m q Ls (.int (x % y) :: st))) : Wp n0 p e R s below Q T (mkF m pc Ls (.int y :: .int x :: st)) := by
  obtain ⟨hx, hby, -⟩ := K; obtain ⟨locs, S, -, -⟩ := S; obtain ⟨hd, rfl⟩ := hd
  exact wp_mono (fun t hr => iremM S hx rfl (hb hby hd) rfl hy hr) g
theorem ladd (K : Cx own code mL ret mn n0 Z p l e R s m args below meth c) (S : St n0 p l e R s m args below meth c k n h T) (hd : Dc code pc (.ladd) 1 q) (g : Wp n0 p e R s below Q T (mkF m q Ls (.long (X + Y) :: st))) : Wp n0 p e R s below Q T (mkF m pc Ls (.long Y :: .long X :: st)) := by
  obtain ⟨hx, hby, -⟩ := K; obtain ⟨locs, S, -, -⟩ := S; obtain ⟨hd, rfl⟩ := hd
  exact wp_mono (fun t hr => XT.ladd S.here hx rfl (hb hby hd) rfl hr) g
theorem lsub (K : Cx own code mL ret mn n0 Z p l e R s m args below meth c) (S : St n0 p l e R s m args below meth c k n h T) (hd : Dc code pc (.lsub) 1 q) (g : Wp n0 p e R s below Q T (mkF m q Ls (.long (X - Y) :: st))) : Wp n0 p e R s below Q T (mkF m pc Ls (.long Y :: .long X :: st)) := by
  obtain ⟨hx, hby, -⟩ := K; obtain ⟨locs, S, -, -⟩ := S; obtain ⟨hd, rfl⟩ := hd
  exact wp_mono (fun t hr => XT.lsub S.here hx rfl (hb hby hd) rfl hr) g
theorem lmul (K : Cx own code mL ret mn n0 Z p l e R s m args below meth c) (S : St n0 p l e R s m args below meth c k n h T) (hd : Dc code pc (.lmul) 1 q) (g : Wp n0 p e R s below Q T (mkF m q Ls (.long (X * Y) :: st))) : Wp n0 p e R s below Q T (mkF m pc Ls (.long Y :: .long X :: st)) := by
  obtain ⟨hx, hby, -⟩ := K; obtain ⟨locs, S, -, -⟩ := S; obtain ⟨hd, rfl⟩ := hd
  exact wp_mono (fun t hr => XT.lmul S.here hx rfl (hb hby hd) rfl hr) g
theorem land (K : Cx own code mL ret mn n0 Z p l e R s m args below meth c) (S : St n0 p l e R s m args below meth c k n h T) (hd : Dc code pc (.land) 1 q) (g : Wp n0 p e R s below Q T (mkF m q Ls (.long (X &&& Y) :: st))) : Wp n0 p e R s below Q T (mkF m pc Ls (.long Y :: .long X :: st)) := by
  obtain ⟨hx, hby, -⟩ := K; obtain ⟨locs, S, -, -⟩ := S; obtain ⟨hd, rfl⟩ := hd
  exact wp_mono (fun t hr => XT.land S.here hx rfl (hb hby hd) rfl hr) g
theorem ldiv (K : Cx own code mL ret mn n0 Z p l e R s m args below meth c) (S : St n0 p l e R s m args below meth c k n h T) (hy : Y ≠ 0) (hd : Dc code pc (.ldiv) 1 q) (g : Wp n0 p e R s below Q T (mkF m q Ls (.long (X / Y) :: st))) : Wp n0 p e R s below Q T (mkF m pc Ls (.long Y :: .long X :: st)) := by
  obtain ⟨hx, hby, -⟩ := K; obtain ⟨locs, S, -, -⟩ := S; obtain ⟨hd, rfl⟩ := hd
  exact wp_mono (fun t hr => XT.ldiv S.here hx rfl (hb hby hd) rfl hy hr) g
theorem lrem (K : Cx own code mL ret mn n0 Z p l e R s m args below meth c) (S : St n0 p l e R s m args below meth c k n h T) (hy : Y ≠ 0) (hd : Dc code pc (.lrem) 1 q) (g : Wp n0 p e R s below Q T (mkF m q Ls (.long (X % Y) :: st))) : Wp n0 p e R s below Q T (mkF m pc Ls (.long Y :: .long X :: st)) := by
  obtain ⟨hx, hby, -⟩ := K; obtain ⟨locs, S, -, -⟩ := S; obtain ⟨hd, rfl⟩ := hd
  exact wp_mono (fun t hr => XT.lrem S.here hx rfl (hb hby hd) rfl hy (by rw [lrem_mod]; exact hr)) g
theorem lushr (K : Cx own code mL ret mn n0 Z p l e R s m args below meth c) (S : St n0 p l e R s m args below meth c k n h T) (hd : Dc code pc (.lushr) 1 q) (g : Wp n0 p e R s below Q T (mkF m q Ls (.long (XT.ushrL X y) :: st))) : Wp n0 p e R s below Q T (mkF m pc Ls (.int y :: .long X :: st)) := by
  obtain ⟨hx, hby, -⟩ := K; obtain ⟨locs, S, -, -⟩ := S; obtain ⟨hd, rfl⟩ := hd
  exact wp_mono (fun t hr => XT.lushr S.here hx rfl (hb hby hd) rfl hr) g
theorem i2l (K : Cx own code mL ret mn n0 Z p l e R s m args below meth c) (S : St n0 p l e R s m args below meth c k n h T) (hd : Dc code pc (.i2l) 1 q) (g : Wp n0 p e R s below Q T (mkF m q Ls (.long x.toInt64 :: st))) : Wp n0 p e R s below Q T (mkF m pc Ls (.int x :: st)) := by
  obtain ⟨hx, hby, -⟩ := K; obtain ⟨locs, S, -, -⟩ := S; obtain ⟨hd, rfl⟩ := hd
  exact wp_mono (fun t hr => XT.i2l S.here hx rfl (hb hby hd) rfl hr) g
theorem l2i (K : Cx own code mL ret mn n0 Z p l e R s m args below meth c) (S : St n0 p l e R s m args below meth c k n h T) (hd : Dc code pc (.l2i) 1 q) (g : Wp n0 p e R s below Q T (mkF m q Ls (.int X.toInt32 :: st))) : Wp n0 p e R s below Q T (mkF m pc Ls (.long X :: st)) := by
  obtain ⟨hx, hby, -⟩ := K; obtain ⟨locs, S, -, -⟩ := S; obtain ⟨hd, rfl⟩ := hd
  exact wp_mono (fun t hr => XT.l2i S.here hx rfl (hb hby hd) rfl hr) g
theorem i2b (K : Cx own code mL ret mn n0 Z p l e R s m args below meth c) (S : St n0 p l e R s m args below meth c k n h T) (hd : Dc code pc (.i2b) 1 q) (g : Wp n0 p e R s below Q T (mkF m q Ls (.int x.toInt8.toInt32 :: st))) : Wp n0 p e R s below Q T (mkF m pc Ls (.int x :: st)) := by
  obtain ⟨hx, hby, -⟩ := K; obtain ⟨locs, S, -, -⟩ := S; obtain ⟨hd, rfl⟩ := hd
  exact wp_mono (fun t hr => XT.i2b S.here hx rfl (hb hby hd) rfl hr) g
theorem i2s (K : Cx own code mL ret mn n0 Z p l e R s m args below meth c) (S : St n0 p l e R s m args below meth c k n h T) (hd : Dc code pc (.i2s) 1 q) (g : Wp n0 p e R s below Q T (mkF m q Ls (.int x.toInt16.toInt32 :: st))) : Wp n0 p e R s below Q T (mkF m pc Ls (.int x :: st)) := by
  obtain ⟨hx, hby, -⟩ := K; obtain ⟨locs, S, -, -⟩ := S; obtain ⟨hd, rfl⟩ := hd
  exact wp_mono (fun t hr => XT.i2s S.here hx rfl (hb hby hd) rfl hr) g
theorem i2c (K : Cx own code mL ret mn n0 Z p l e R s m args below meth c) (S : St n0 p l e R s m args below meth c k n h T) (hd : Dc code pc (.i2c) 1 q) (g : Wp n0 p e R s below Q T (mkF m q Ls (.int x.toUInt32.toUInt16.toUInt32.toInt32 :: st))) : Wp n0 p e R s below Q T (mkF m pc Ls (.int x :: st)) := by
  obtain ⟨hx, hby, -⟩ := K; obtain ⟨locs, S, -, -⟩ := S; obtain ⟨hd, rfl⟩ := hd
  exact wp_mono (fun t hr => XT.i2c S.here hx rfl (hb hby hd) rfl hr) g
theorem iconst (K : Cx own code mL ret mn n0 Z p l e R s m args below meth c) (S : St n0 p l e R s m args below meth c k n h T) {i : Int} (hv : Int32.ofInt i = x) (hd : Dc code pc (.iconst i) 1 q) (g : Wp n0 p e R s below Q T (mkF m q Ls (.int x :: st))) : Wp n0 p e R s below Q T (mkF m pc Ls st) := by
  obtain ⟨hx, hby, -⟩ := K; obtain ⟨locs, S, -, -⟩ := S; obtain ⟨hd, rfl⟩ := hd
  exact wp_mono (fun t hr => XS.iconst S.here hx rfl (hb hby hd) (by rw [hv]; exact hr)) g
theorem bipush (K : Cx own code mL ret mn n0 Z p l e R s m args below meth c) (S : St n0 p l e R s m args below meth c k n h T) {i : Int} (hv : (Int8.ofInt i).toInt32 = x) (hd : Dc code pc (.bipush i) 2 q) (g : Wp n0 p e R s below Q T (mkF m q Ls (.int x :: st))) : Wp n0 p e R s below Q T (mkF m pc Ls st) := by
  obtain ⟨hx, hby, -⟩ := K; obtain ⟨locs, S, -, -⟩ := S; obtain ⟨hd, rfl⟩ := hd
  exact wp_mono (fun t hr => XS.bipush S.here hx rfl (hb hby hd) (by rw [hv]; exact hr)) g
theorem sipush (K : Cx own code mL ret mn n0 Z p l e R s m args below meth c) (S : St n0 p l e R s m args below meth c k n h T) {i : Int} (hv : (Int16.ofInt i).toInt32 = x) (hd : Dc code pc (.sipush i) 3 q) (g : Wp n0 p e R s below Q T (mkF m q Ls (.int x :: st))) : Wp n0 p e R s below Q T (mkF m pc Ls st) := by
  obtain ⟨hx, hby, -⟩ := K; obtain ⟨locs, S, -, -⟩ := S; obtain ⟨hd, rfl⟩ := hd
  exact wp_mono (fun t hr => XS.sipush S.here hx rfl (hb hby hd) (by rw [hv]; exact hr)) g
theorem lconst (K : Cx own code mL ret mn n0 Z p l e R s m args below meth c) (S : St n0 p l e R s m args below meth c k n h T) {i : Fin 2} (hv : Int64.ofNat i = X) (hd : Dc code pc (.lconst i) 1 q) (g : Wp n0 p e R s below Q T (mkF m q Ls (.long X :: st))) : Wp n0 p e R s below Q T (mkF m pc Ls st) := by
  obtain ⟨hx, hby, -⟩ := K; obtain ⟨locs, S, -, -⟩ := S; obtain ⟨hd, rfl⟩ := hd
  exact wp_mono (fun t hr => XT.lconst S.here hx rfl (hb hby hd) (by rw [hv]; exact hr)) g
theorem anull (K : Cx own code mL ret mn n0 Z p l e R s m args below meth c) (S : St n0 p l e R s m args below meth c k n h T) (hd : Dc code pc (.aconst_null) 1 q) (g : Wp n0 p e R s below Q T (mkF m q Ls (.null :: st))) : Wp n0 p e R s below Q T (mkF m pc Ls st) := by
  obtain ⟨hx, hby, -⟩ := K; obtain ⟨locs, S, -, -⟩ := S; obtain ⟨hd, rfl⟩ := hd
  exact wp_mono (fun t hr => XS.aconstNull S.here hx rfl (hb hby hd) hr) g
theorem dup (K : Cx own code mL ret mn n0 Z p l e R s m args below meth c) (S : St n0 p l e R s m args below meth c k n h T) (hc : v.category = 1) (hd : Dc code pc (.dup) 1 q) (g : Wp n0 p e R s below Q T (mkF m q Ls (v :: v :: st))) : Wp n0 p e R s below Q T (mkF m pc Ls (v :: st)) := by
  obtain ⟨hx, hby, -⟩ := K; obtain ⟨locs, S, -, -⟩ := S; obtain ⟨hd, rfl⟩ := hd
  exact wp_mono (fun t hr => XS.dup S.here hx rfl (hb hby hd) rfl hc hr) g
theorem pop (K : Cx own code mL ret mn n0 Z p l e R s m args below meth c) (S : St n0 p l e R s m args below meth c k n h T) (hc : v.category = 1) (hd : Dc code pc (.pop) 1 q) (g : Wp n0 p e R s below Q T (mkF m q Ls st)) : Wp n0 p e R s below Q T (mkF m pc Ls (v :: st)) := by
  obtain ⟨hx, hby, -⟩ := K; obtain ⟨locs, S, -, -⟩ := S; obtain ⟨hd, rfl⟩ := hd
  exact wp_mono (fun t hr => XT.pop S.here hx rfl (hb hby hd) rfl hc hr) g
theorem dup_x1 (K : Cx own code mL ret mn n0 Z p l e R s m args below meth c) (S : St n0 p l e R s m args below meth c k n h T) (hc : v.category = 1) (hc' : w.category = 1) (hd : Dc code pc (.dup_x1) 1 q) (g : Wp n0 p e R s below Q T (mkF m q Ls (v :: w :: v :: st))) : Wp n0 p e R s below Q T (mkF m pc Ls (v :: w :: st)) := by
  obtain ⟨hx, hby, -⟩ := K; obtain ⟨locs, S, -, -⟩ := S; obtain ⟨hd, rfl⟩ := hd
  exact wp_mono (fun t hr => XT.dupX1 S.here hx rfl (hb hby hd) rfl hc hc' hr) g
theorem dup2 (K : Cx own code mL ret mn n0 Z p l e R s m args below meth c) (S : St n0 p l e R s m args below meth c k n h T) (hc : v.category = 1) (hc' : w.category = 1) (hd : Dc code pc (.dup2) 1 q) (g : Wp n0 p e R s below Q T (mkF m q Ls (v :: w :: v :: w :: st))) : Wp n0 p e R s below Q T (mkF m pc Ls (v :: w :: st)) := by
  obtain ⟨hx, hby, -⟩ := K; obtain ⟨locs, S, -, -⟩ := S; obtain ⟨hd, rfl⟩ := hd
  exact wp_mono (fun t hr => XT.dup2 S.here hx rfl (hb hby hd) rfl hc hc' hr) g
theorem iload (K : Cx own code mL ret mn n0 Z p l e R s m args below meth c) (S : St n0 p l e R s m args below meth c k n h T) {i : Nat} (hl : Ls[i]? = some (.val (.int x))) (hd : Dc code pc (.iload i) 2 q) (g : Wp n0 p e R s below Q T (mkF m q Ls (.int x :: st))) : Wp n0 p e R s below Q T (mkF m pc Ls st) := by
  obtain ⟨hx, hby, -⟩ := K; obtain ⟨locs, S, -, -⟩ := S; obtain ⟨hd, rfl⟩ := hd
  exact wp_mono (fun t hr => XS.iload S.here hx rfl (hb hby hd) hl hr) g
theorem iload_n (K : Cx own code mL ret mn n0 Z p l e R s m args below meth c) (S : St n0 p l e R s m args below meth c k n h T) {i : Fin 4} (hl : Ls[i.val]? = some (.val (.int x))) (hd : Dc code pc (.iload_n i) 1 q) (g : Wp n0 p e R s below Q T (mkF m q Ls (.int x :: st))) : Wp n0 p e R s below Q T (mkF m pc Ls st) := by
  obtain ⟨hx, hby, -⟩ := K; obtain ⟨locs, S, -, -⟩ := S; obtain ⟨hd, rfl⟩ := hd
  exact wp_mono (fun t hr => XS.iloadN S.here hx rfl (hb hby hd) hl hr) g
theorem aload (K : Cx own code mL ret mn n0 Z p l e R s m args below meth c) (S : St n0 p l e R s m args below meth c k n h T) {i : Nat} (hl : Ls[i]? = some (.val (v))) (hv : v.isRef = true) (hd : Dc code pc (.aload i) 2 q) (g : Wp n0 p e R s below Q T (mkF m q Ls (v :: st))) : Wp n0 p e R s below Q T (mkF m pc Ls st) := by
  obtain ⟨hx, hby, -⟩ := K; obtain ⟨locs, S, -, -⟩ := S; obtain ⟨hd, rfl⟩ := hd
  exact wp_mono (fun t hr => XS.aload S.here hx rfl (hb hby hd) hl hv hr) g
theorem aload_n (K : Cx own code mL ret mn n0 Z p l e R s m args below meth c) (S : St n0 p l e R s m args below meth c k n h T) {i : Fin 4} (hl : Ls[i.val]? = some (.val (v))) (hv : v.isRef = true) (hd : Dc code pc (.aload_n i) 1 q) (g : Wp n0 p e R s below Q T (mkF m q Ls (v :: st))) : Wp n0 p e R s below Q T (mkF m pc Ls st) := by
  obtain ⟨hx, hby, -⟩ := K; obtain ⟨locs, S, -, -⟩ := S; obtain ⟨hd, rfl⟩ := hd
  exact wp_mono (fun t hr => XS.aloadN S.here hx rfl (hb hby hd) hl hv hr) g
theorem lload (K : Cx own code mL ret mn n0 Z p l e R s m args below meth c) (S : St n0 p l e R s m args below meth c k n h T) {i : Nat} (hl : Ls[i]? = some (.val (.long X))) (hd : Dc code pc (.lload i) 2 q) (g : Wp n0 p e R s below Q T (mkF m q Ls (.long X :: st))) : Wp n0 p e R s below Q T (mkF m pc Ls st) := by
  obtain ⟨hx, hby, -⟩ := K; obtain ⟨locs, S, -, -⟩ := S; obtain ⟨hd, rfl⟩ := hd
  exact wp_mono (fun t hr => XT.lload S.here hx rfl (hb hby hd) hl hr) g
theorem lload_n (K : Cx own code mL ret mn n0 Z p l e R s m args below meth c) (S : St n0 p l e R s m args below meth c k n h T) {i : Fin 4} (hl : Ls[i.val]? = some (.val (.long X))) (hd : Dc code pc (.lload_n i) 1 q) (g : Wp n0 p e R s below Q T (mkF m q Ls (.long X :: st))) : Wp n0 p e R s below Q T (mkF m pc Ls st) := by
  obtain ⟨hx, hby, -⟩ := K; obtain ⟨locs, S, -, -⟩ := S; obtain ⟨hd, rfl⟩ := hd
  exact wp_mono (fun t hr => XT.lloadN S.here hx rfl (hb hby hd) hl hr) g
theorem istore (K : Cx own code mL ret mn n0 Z p l e R s m args below meth c) (S : St n0 p l e R s m args below meth c k n h T) {i : Nat} (hl : storeLocals Ls i (.int x) = some l') (hd : Dc code pc (.istore i) 2 q) (g : Wp n0 p e R s below Q T (mkF m q l' st)) : Wp n0 p e R s below Q T (mkF m pc Ls (.int x :: st)) := by
  obtain ⟨hx, hby, -⟩ := K; obtain ⟨locs, S, -, -⟩ := S; obtain ⟨hd, rfl⟩ := hd
  exact wp_mono (fun t hr => XS.istore S.here hx rfl (hb hby hd) rfl hl hr) g
theorem istore_n (K : Cx own code mL ret mn n0 Z p l e R s m args below meth c) (S : St n0 p l e R s m args below meth c k n h T) {i : Fin 4} (hl : storeLocals Ls i.val (.int x) = some l') (hd : Dc code pc (.istore_n i) 1 q) (g : Wp n0 p e R s below Q T (mkF m q l' st)) : Wp n0 p e R s below Q T (mkF m pc Ls (.int x :: st)) := by
  obtain ⟨hx, hby, -⟩ := K; obtain ⟨locs, S, -, -⟩ := S; obtain ⟨hd, rfl⟩ := hd
  exact wp_mono (fun t hr => XS.istoreN S.here hx rfl (hb hby hd) rfl hl hr) g
theorem astore (K : Cx own code mL ret mn n0 Z p l e R s m args below meth c) (S : St n0 p l e R s m args below meth c k n h T) {i : Nat} (hv : v.isRef = true) (hl : storeLocals Ls i (v) = some l') (hd : Dc code pc (.astore i) 2 q) (g : Wp n0 p e R s below Q T (mkF m q l' st)) : Wp n0 p e R s below Q T (mkF m pc Ls (v :: st)) := by
  obtain ⟨hx, hby, -⟩ := K; obtain ⟨locs, S, -, -⟩ := S; obtain ⟨hd, rfl⟩ := hd
  exact wp_mono (fun t hr => XS.astore S.here hx rfl (hb hby hd) rfl hv hl hr) g
theorem astore_n (K : Cx own code mL ret mn n0 Z p l e R s m args below meth c) (S : St n0 p l e R s m args below meth c k n h T) {i : Fin 4} (hv : v.isRef = true) (hl : storeLocals Ls i.val (v) = some l') (hd : Dc code pc (.astore_n i) 1 q) (g : Wp n0 p e R s below Q T (mkF m q l' st)) : Wp n0 p e R s below Q T (mkF m pc Ls (v :: st)) := by
  obtain ⟨hx, hby, -⟩ := K; obtain ⟨locs, S, -, -⟩ := S; obtain ⟨hd, rfl⟩ := hd
  exact wp_mono (fun t hr => XS.astoreN S.here hx rfl (hb hby hd) rfl hv hl hr) g
theorem lstore (K : Cx own code mL ret mn n0 Z p l e R s m args below meth c) (S : St n0 p l e R s m args below meth c k n h T) {i : Nat} (hl : storeLocals Ls i (.long X) = some l') (hd : Dc code pc (.lstore i) 2 q) (g : Wp n0 p e R s below Q T (mkF m q l' st)) : Wp n0 p e R s below Q T (mkF m pc Ls (.long X :: st)) := by
  obtain ⟨hx, hby, -⟩ := K; obtain ⟨locs, S, -, -⟩ := S; obtain ⟨hd, rfl⟩ := hd
  exact wp_mono (fun t hr => XT.lstore S.here hx rfl (hb hby hd) rfl hl hr) g
theorem lstore_n (K : Cx own code mL ret mn n0 Z p l e R s m args below meth c) (S : St n0 p l e R s m args below meth c k n h T) {i : Fin 4} (hl : storeLocals Ls i.val (.long X) = some l') (hd : Dc code pc (.lstore_n i) 1 q) (g : Wp n0 p e R s below Q T (mkF m q l' st)) : Wp n0 p e R s below Q T (mkF m pc Ls (.long X :: st)) := by
  obtain ⟨hx, hby, -⟩ := K; obtain ⟨locs, S, -, -⟩ := S; obtain ⟨hd, rfl⟩ := hd
  exact wp_mono (fun t hr => XT.lstoreN S.here hx rfl (hb hby hd) rfl hl hr) g
theorem iinc (K : Cx own code mL ret mn n0 Z p l e R s m args below meth c) (S : St n0 p l e R s m args below meth c k n h T) {i : Nat} {cst : Int} (hv : Int32.ofInt cst = y) (hl : Ls[i]? = some (.val (.int x))) (hl' : storeLocals Ls i (.int (x + y)) = some l') (hd : Dc code pc (.iinc i cst) 3 q) (g : Wp n0 p e R s below Q T (mkF m q l' st)) : Wp n0 p e R s below Q T (mkF m pc Ls st) := by
  obtain ⟨hx, hby, -⟩ := K; obtain ⟨locs, S, -, -⟩ := S; obtain ⟨hd, rfl⟩ := hd
  exact wp_mono (fun t hr => XS.iinc S.here hx rfl (hb hby hd) hl (by rw [hv]; exact hl') hr) g
theorem goto (K : Cx own code mL ret mn n0 Z p l e R s m args below meth c) (S : St n0 p l e R s m args below meth c k n h T) {o : Int} (hd : Bc code pc (.goto o) o q q') (g : Wp n0 p e R s below Q T (mkF m q' Ls st)) : Wp n0 p e R s below Q T (mkF m pc Ls st) := by
  obtain ⟨hx, hby, -⟩ := K; obtain ⟨locs, S, -, -⟩ := S; obtain ⟨hd, -, h1, h2⟩ := hd
  exact wp_mono (fun t hr => XS.goto S.here hx rfl rfl (hb hby hd) h1 h2 hr) g
theorem icmp (K : Cx own code mL ret mn n0 Z p l e R s m args below meth c) (S : St n0 p l e R s m args below meth c k n h T) {o : Int} {cd : ClassFile.Cond} (hd : Bc code pc (.if_icmp cd o) o q q') (g1 : if_icmp.holds cd x y = true → Wp n0 p e R s below Q T (mkF m q' Ls st)) (g2 : if_icmp.holds cd x y = false → Wp n0 p e R s below Q T (mkF m q Ls st)) : Wp n0 p e R s below Q T (mkF m pc Ls (.int y :: .int x :: st)) := by
  obtain ⟨hx, hby, -⟩ := K; obtain ⟨locs, S, -, -⟩ := S; obtain ⟨hd, rfl, h1, h2⟩ := hd
  cases hc : if_icmp.holds cd x y with
  | true => exact wp_mono (fun t hr => XS.icmpYes S.here hx rfl rfl (hb hby hd) rfl hc h1 h2 hr) (g1 hc)
  | false => exact wp_mono (fun t hr => XS.icmpNo S.here hx rfl (hb hby hd) rfl hc hr) (g2 hc)
theorem ific (K : Cx own code mL ret mn n0 Z p l e R s m args below meth c) (S : St n0 p l e R s m args below meth c k n h T) {o : Int} {cd : ClassFile.Cond} (hd : Bc code pc (.ifCond cd o) o q q') (g1 : if_icmp.holds cd x 0 = true → Wp n0 p e R s below Q T (mkF m q' Ls st)) (g2 : if_icmp.holds cd x 0 = false → Wp n0 p e R s below Q T (mkF m q Ls st)) : Wp n0 p e R s below Q T (mkF m pc Ls (.int x :: st)) := by
  obtain ⟨hx, hby, -⟩ := K; obtain ⟨locs, S, -, -⟩ := S; obtain ⟨hd, rfl, h1, h2⟩ := hd
  cases hc : if_icmp.holds cd x 0 with
  | true => exact wp_mono (fun t hr => XS.ifYes S.here hx rfl rfl (hb hby hd) rfl (by rw [if0]; exact hc) h1 h2 hr) (g1 hc)
  | false => exact wp_mono (fun t hr => XS.ifNo S.here hx rfl (hb hby hd) rfl (by rw [if0]; exact hc) hr) (g2 hc)
theorem icmp_lt (K : Cx own code mL ret mn n0 Z p l e R s m args below meth c) (S : St n0 p l e R s m args below meth c k n h T) {o : Int} (hd : Bc code pc (.if_icmp .lt o) o q q') (g1 : x < y → Wp n0 p e R s below Q T (mkF m q' Ls st)) (g2 : ¬ x < y → Wp n0 p e R s below Q T (mkF m q Ls st)) : Wp n0 p e R s below Q T (mkF m pc Ls (.int y :: .int x :: st)) := by
  by_cases hc : x < y
  · exact icmp K S hd (fun _ => g1 hc) (fun q => absurd ((tlt hc).1) (by rw [q]; decide))
  · exact icmp K S hd (fun q => absurd ((flt hc).1) (by rw [q]; decide)) (fun _ => g2 hc)
theorem ific_lt (K : Cx own code mL ret mn n0 Z p l e R s m args below meth c) (S : St n0 p l e R s m args below meth c k n h T) {o : Int} (hd : Bc code pc (.ifCond .lt o) o q q') (g1 : x < 0 → Wp n0 p e R s below Q T (mkF m q' Ls st)) (g2 : ¬ x < 0 → Wp n0 p e R s below Q T (mkF m q Ls st)) : Wp n0 p e R s below Q T (mkF m pc Ls (.int x :: st)) := by
  by_cases hc : x < 0
  · exact ific K S hd (fun _ => g1 hc) (fun q => absurd ((tlt hc).1) (by rw [q]; decide))
  · exact ific K S hd (fun q => absurd ((flt hc).1) (by rw [q]; decide)) (fun _ => g2 hc)
theorem icmp_ge (K : Cx own code mL ret mn n0 Z p l e R s m args below meth c) (S : St n0 p l e R s m args below meth c k n h T) {o : Int} (hd : Bc code pc (.if_icmp .ge o) o q q') (g1 : ¬ x < y → Wp n0 p e R s below Q T (mkF m q' Ls st)) (g2 : x < y → Wp n0 p e R s below Q T (mkF m q Ls st)) : Wp n0 p e R s below Q T (mkF m pc Ls (.int y :: .int x :: st)) := by
  by_cases hc : x < y
  · exact icmp K S hd (fun q => absurd ((tlt hc).2.1) (by rw [q]; decide)) (fun _ => g2 hc)
  · exact icmp K S hd (fun _ => g1 hc) (fun q => absurd ((flt hc).2.1) (by rw [q]; decide))
theorem ific_ge (K : Cx own code mL ret mn n0 Z p l e R s m args below meth c) (S : St n0 p l e R s m args below meth c k n h T) {o : Int} (hd : Bc code pc (.ifCond .ge o) o q q') (g1 : ¬ x < 0 → Wp n0 p e R s below Q T (mkF m q' Ls st)) (g2 : x < 0 → Wp n0 p e R s below Q T (mkF m q Ls st)) : Wp n0 p e R s below Q T (mkF m pc Ls (.int x :: st)) := by
  by_cases hc : x < 0
  · exact ific K S hd (fun q => absurd ((tlt hc).2.1) (by rw [q]; decide)) (fun _ => g2 hc)
  · exact ific K S hd (fun _ => g1 hc) (fun q => absurd ((flt hc).2.1) (by rw [q]; decide))
theorem icmp_gt (K : Cx own code mL ret mn n0 Z p l e R s m args below meth c) (S : St n0 p l e R s m args below meth c k n h T) {o : Int} (hd : Bc code pc (.if_icmp .gt o) o q q') (g1 : y < x → Wp n0 p e R s below Q T (mkF m q' Ls st)) (g2 : ¬ y < x → Wp n0 p e R s below Q T (mkF m q Ls st)) : Wp n0 p e R s below Q T (mkF m pc Ls (.int y :: .int x :: st)) := by
  by_cases hc : y < x
  · exact icmp K S hd (fun _ => g1 hc) (fun q => absurd ((tlt hc).2.2.1) (by rw [q]; decide))
  · exact icmp K S hd (fun q => absurd ((flt hc).2.2.1) (by rw [q]; decide)) (fun _ => g2 hc)
theorem ific_gt (K : Cx own code mL ret mn n0 Z p l e R s m args below meth c) (S : St n0 p l e R s m args below meth c k n h T) {o : Int} (hd : Bc code pc (.ifCond .gt o) o q q') (g1 : 0 < x → Wp n0 p e R s below Q T (mkF m q' Ls st)) (g2 : ¬ 0 < x → Wp n0 p e R s below Q T (mkF m q Ls st)) : Wp n0 p e R s below Q T (mkF m pc Ls (.int x :: st)) := by
  by_cases hc : 0 < x
  · exact ific K S hd (fun _ => g1 hc) (fun q => absurd ((tlt hc).2.2.1) (by rw [q]; decide))
  · exact ific K S hd (fun q => absurd ((flt hc).2.2.1) (by rw [q]; decide)) (fun _ => g2 hc)
theorem icmp_le (K : Cx own code mL ret mn n0 Z p l e R s m args below meth c) (S : St n0 p l e R s m args below meth c k n h T) {o : Int} (hd : Bc code pc (.if_icmp .le o) o q q') (g1 : ¬ y < x → Wp n0 p e R s below Q T (mkF m q' Ls st)) (g2 : y < x → Wp n0 p e R s below Q T (mkF m q Ls st)) : Wp n0 p e R s below Q T (mkF m pc Ls (.int y :: .int x :: st)) := by
  by_cases hc : y < x
  · exact icmp K S hd (fun q => absurd ((tlt hc).2.2.2) (by rw [q]; decide)) (fun _ => g2 hc)
  · exact icmp K S hd (fun _ => g1 hc) (fun q => absurd ((flt hc).2.2.2) (by rw [q]; decide))
theorem ific_le (K : Cx own code mL ret mn n0 Z p l e R s m args below meth c) (S : St n0 p l e R s m args below meth c k n h T) {o : Int} (hd : Bc code pc (.ifCond .le o) o q q') (g1 : ¬ 0 < x → Wp n0 p e R s below Q T (mkF m q' Ls st)) (g2 : 0 < x → Wp n0 p e R s below Q T (mkF m q Ls st)) : Wp n0 p e R s below Q T (mkF m pc Ls (.int x :: st)) := by
  by_cases hc : 0 < x
  · exact ific K S hd (fun q => absurd ((tlt hc).2.2.2) (by rw [q]; decide)) (fun _ => g2 hc)
  · exact ific K S hd (fun _ => g1 hc) (fun q => absurd ((flt hc).2.2.2) (by rw [q]; decide))
theorem icmp_eq (K : Cx own code mL ret mn n0 Z p l e R s m args below meth c) (S : St n0 p l e R s m args below meth c k n h T) {o : Int} (hd : Bc code pc (.if_icmp .eq o) o q q') (g1 : x = y → Wp n0 p e R s below Q T (mkF m q' Ls st)) (g2 : ¬ x = y → Wp n0 p e R s below Q T (mkF m q Ls st)) : Wp n0 p e R s below Q T (mkF m pc Ls (.int y :: .int x :: st)) := by
  by_cases hc : x = y
  · exact icmp K S hd (fun _ => g1 hc) (fun q => absurd ((teq hc).1) (by rw [q]; decide))
  · exact icmp K S hd (fun q => absurd ((feq hc).1) (by rw [q]; decide)) (fun _ => g2 hc)
theorem ific_eq (K : Cx own code mL ret mn n0 Z p l e R s m args below meth c) (S : St n0 p l e R s m args below meth c k n h T) {o : Int} (hd : Bc code pc (.ifCond .eq o) o q q') (g1 : x = 0 → Wp n0 p e R s below Q T (mkF m q' Ls st)) (g2 : ¬ x = 0 → Wp n0 p e R s below Q T (mkF m q Ls st)) : Wp n0 p e R s below Q T (mkF m pc Ls (.int x :: st)) := by
  by_cases hc : x = 0
  · exact ific K S hd (fun _ => g1 hc) (fun q => absurd ((teq hc).1) (by rw [q]; decide))
  · exact ific K S hd (fun q => absurd ((feq hc).1) (by rw [q]; decide)) (fun _ => g2 hc)
theorem icmp_ne (K : Cx own code mL ret mn n0 Z p l e R s m args below meth c) (S : St n0 p l e R s m args below meth c k n h T) {o : Int} (hd : Bc code pc (.if_icmp .ne o) o q q') (g1 : ¬ x = y → Wp n0 p e R s below Q T (mkF m q' Ls st)) (g2 : x = y → Wp n0 p e R s below Q T (mkF m q Ls st)) : Wp n0 p e R s below Q T (mkF m pc Ls (.int y :: .int x :: st)) := by
  by_cases hc : x = y
  · exact icmp K S hd (fun q => absurd ((teq hc).2) (by rw [q]; decide)) (fun _ => g2 hc)
  · exact icmp K S hd (fun _ => g1 hc) (fun q => absurd ((feq hc).2) (by rw [q]; decide))
theorem ific_ne (K : Cx own code mL ret mn n0 Z p l e R s m args below meth c) (S : St n0 p l e R s m args below meth c k n h T) {o : Int} (hd : Bc code pc (.ifCond .ne o) o q q') (g1 : ¬ x = 0 → Wp n0 p e R s below Q T (mkF m q' Ls st)) (g2 : x = 0 → Wp n0 p e R s below Q T (mkF m q Ls st)) : Wp n0 p e R s below Q T (mkF m pc Ls (.int x :: st)) := by
  by_cases hc : x = 0
  · exact ific K S hd (fun q => absurd ((teq hc).2) (by rw [q]; decide)) (fun _ => g2 hc)
  · exact ific K S hd (fun _ => g1 hc) (fun q => absurd ((feq hc).2) (by rw [q]; decide))
theorem lcmp_lt (K : Cx own code mL ret mn n0 Z p l e R s m args below meth c) (S : St n0 p l e R s m args below meth c k n h T) {o : Int} {pc1 : Nat} (hd1 : Dc code pc .lcmp 1 pc1) (hd : Bc code pc1 (.ifCond .lt o) o q q') (g1 : X < Y → Wp n0 p e R s below Q T (mkF m q' Ls st)) (g2 : ¬ X < Y → Wp n0 p e R s below Q T (mkF m q Ls st)) : Wp n0 p e R s below Q T (mkF m pc Ls (.long Y :: .long X :: st)) := by
  obtain ⟨hx, hby, -⟩ := K; obtain ⟨locs, S, -, -⟩ := S; obtain ⟨hd, rfl, h1, h2⟩ := hd; obtain ⟨hd1, rfl⟩ := hd1
  by_cases hc : X < Y
  · exact wp_mono (fun t hr => XT.lcmp S.here hx rfl (hb hby hd1) rfl (XS.ifYes S.here hx rfl rfl (hb hby hd) rfl (XT.ll_lt_t hc) h1 h2 hr)) (g1 hc)
  · exact wp_mono (fun t hr => XT.lcmp S.here hx rfl (hb hby hd1) rfl (XS.ifNo S.here hx rfl (hb hby hd) rfl (XT.ll_lt_f hc) hr)) (g2 hc)
theorem lcmp_ge (K : Cx own code mL ret mn n0 Z p l e R s m args below meth c) (S : St n0 p l e R s m args below meth c k n h T) {o : Int} {pc1 : Nat} (hd1 : Dc code pc .lcmp 1 pc1) (hd : Bc code pc1 (.ifCond .ge o) o q q') (g1 : ¬ X < Y → Wp n0 p e R s below Q T (mkF m q' Ls st)) (g2 : X < Y → Wp n0 p e R s below Q T (mkF m q Ls st)) : Wp n0 p e R s below Q T (mkF m pc Ls (.long Y :: .long X :: st)) := by
  obtain ⟨hx, hby, -⟩ := K; obtain ⟨locs, S, -, -⟩ := S; obtain ⟨hd, rfl, h1, h2⟩ := hd; obtain ⟨hd1, rfl⟩ := hd1
  by_cases hc : X < Y
  · exact wp_mono (fun t hr => XT.lcmp S.here hx rfl (hb hby hd1) rfl (XS.ifNo S.here hx rfl (hb hby hd) rfl (XT.ll_ge_f hc) hr)) (g2 hc)
  · exact wp_mono (fun t hr => XT.lcmp S.here hx rfl (hb hby hd1) rfl (XS.ifYes S.here hx rfl rfl (hb hby hd) rfl (XT.ll_ge_t hc) h1 h2 hr)) (g1 hc)
theorem lcmp_gt (K : Cx own code mL ret mn n0 Z p l e R s m args below meth c) (S : St n0 p l e R s m args below meth c k n h T) {o : Int} {pc1 : Nat} (hd1 : Dc code pc .lcmp 1 pc1) (hd : Bc code pc1 (.ifCond .gt o) o q q') (g1 : Y < X → Wp n0 p e R s below Q T (mkF m q' Ls st)) (g2 : ¬ Y < X → Wp n0 p e R s below Q T (mkF m q Ls st)) : Wp n0 p e R s below Q T (mkF m pc Ls (.long Y :: .long X :: st)) := by
  obtain ⟨hx, hby, -⟩ := K; obtain ⟨locs, S, -, -⟩ := S; obtain ⟨hd, rfl, h1, h2⟩ := hd; obtain ⟨hd1, rfl⟩ := hd1
  by_cases hc : Y < X
  · exact wp_mono (fun t hr => XT.lcmp S.here hx rfl (hb hby hd1) rfl (XS.ifYes S.here hx rfl rfl (hb hby hd) rfl (XT.ll_gt_t hc) h1 h2 hr)) (g1 hc)
  · exact wp_mono (fun t hr => XT.lcmp S.here hx rfl (hb hby hd1) rfl (XS.ifNo S.here hx rfl (hb hby hd) rfl (XT.ll_gt_f hc) hr)) (g2 hc)
theorem lcmp_le (K : Cx own code mL ret mn n0 Z p l e R s m args below meth c) (S : St n0 p l e R s m args below meth c k n h T) {o : Int} {pc1 : Nat} (hd1 : Dc code pc .lcmp 1 pc1) (hd : Bc code pc1 (.ifCond .le o) o q q') (g1 : ¬ Y < X → Wp n0 p e R s below Q T (mkF m q' Ls st)) (g2 : Y < X → Wp n0 p e R s below Q T (mkF m q Ls st)) : Wp n0 p e R s below Q T (mkF m pc Ls (.long Y :: .long X :: st)) := by
  obtain ⟨hx, hby, -⟩ := K; obtain ⟨locs, S, -, -⟩ := S; obtain ⟨hd, rfl, h1, h2⟩ := hd; obtain ⟨hd1, rfl⟩ := hd1
  by_cases hc : Y < X
  · exact wp_mono (fun t hr => XT.lcmp S.here hx rfl (hb hby hd1) rfl (XS.ifNo S.here hx rfl (hb hby hd) rfl (XT.ll_le_f hc) hr)) (g2 hc)
  · exact wp_mono (fun t hr => XT.lcmp S.here hx rfl (hb hby hd1) rfl (XS.ifYes S.here hx rfl rfl (hb hby hd) rfl (XT.ll_le_t hc) h1 h2 hr)) (g1 hc)
theorem lcmp_eq (K : Cx own code mL ret mn n0 Z p l e R s m args below meth c) (S : St n0 p l e R s m args below meth c k n h T) {o : Int} {pc1 : Nat} (hd1 : Dc code pc .lcmp 1 pc1) (hd : Bc code pc1 (.ifCond .eq o) o q q') (g1 : X = Y → Wp n0 p e R s below Q T (mkF m q' Ls st)) (g2 : ¬ X = Y → Wp n0 p e R s below Q T (mkF m q Ls st)) : Wp n0 p e R s below Q T (mkF m pc Ls (.long Y :: .long X :: st)) := by
  obtain ⟨hx, hby, -⟩ := K; obtain ⟨locs, S, -, -⟩ := S; obtain ⟨hd, rfl, h1, h2⟩ := hd; obtain ⟨hd1, rfl⟩ := hd1
  by_cases hc : X = Y
  · exact wp_mono (fun t hr => XT.lcmp S.here hx rfl (hb hby hd1) rfl (XS.ifYes S.here hx rfl rfl (hb hby hd) rfl (XT.ll_eq_t hc) h1 h2 hr)) (g1 hc)
  · exact wp_mono (fun t hr => XT.lcmp S.here hx rfl (hb hby hd1) rfl (XS.ifNo S.here hx rfl (hb hby hd) rfl (XT.ll_eq_f hc) hr)) (g2 hc)
theorem lcmp_ne (K : Cx own code mL ret mn n0 Z p l e R s m args below meth c) (S : St n0 p l e R s m args below meth c k n h T) {o : Int} {pc1 : Nat} (hd1 : Dc code pc .lcmp 1 pc1) (hd : Bc code pc1 (.ifCond .ne o) o q q') (g1 : ¬ X = Y → Wp n0 p e R s below Q T (mkF m q' Ls st)) (g2 : X = Y → Wp n0 p e R s below Q T (mkF m q Ls st)) : Wp n0 p e R s below Q T (mkF m pc Ls (.long Y :: .long X :: st)) := by
  obtain ⟨hx, hby, -⟩ := K; obtain ⟨locs, S, -, -⟩ := S; obtain ⟨hd, rfl, h1, h2⟩ := hd; obtain ⟨hd1, rfl⟩ := hd1
  by_cases hc : X = Y
  · exact wp_mono (fun t hr => XT.lcmp S.here hx rfl (hb hby hd1) rfl (XS.ifNo S.here hx rfl (hb hby hd) rfl (XT.ll_ne_f hc) hr)) (g2 hc)
  · exact wp_mono (fun t hr => XT.lcmp S.here hx rfl (hb hby hd1) rfl (XS.ifYes S.here hx rfl rfl (hb hby hd) rfl (XT.ll_ne_t hc) h1 h2 hr)) (g1 hc)
theorem icmpz_lt (K : Cx own code mL ret mn n0 Z p l e R s m args below meth c) (S : St n0 p l e R s m args below meth c k n h T) {o : Int} (hd : Bc code pc (.if_icmp .lt o) o q q') (g1 : x.toInt < y.toInt → Wp n0 p e R s below Q T (mkF m q' Ls st)) (g2 : ¬ x.toInt < y.toInt → Wp n0 p e R s below Q T (mkF m q Ls st)) : Wp n0 p e R s below Q T (mkF m pc Ls (.int y :: .int x :: st)) :=
  icmp_lt K S hd (fun q => g1 (Int32.lt_iff_toInt_lt.mp q)) (fun q => g2 (fun r => q (Int32.lt_iff_toInt_lt.mpr r)))
theorem ificz_lt (K : Cx own code mL ret mn n0 Z p l e R s m args below meth c) (S : St n0 p l e R s m args below meth c k n h T) {o : Int} (hd : Bc code pc (.ifCond .lt o) o q q') (g1 : x.toInt < 0 → Wp n0 p e R s below Q T (mkF m q' Ls st)) (g2 : ¬ x.toInt < 0 → Wp n0 p e R s below Q T (mkF m q Ls st)) : Wp n0 p e R s below Q T (mkF m pc Ls (.int x :: st)) :=
  ific_lt K S hd (fun q => g1 (Int32.lt_iff_toInt_lt.mp q)) (fun q => g2 (fun r => q (Int32.lt_iff_toInt_lt.mpr r)))
theorem lcmpz_lt (K : Cx own code mL ret mn n0 Z p l e R s m args below meth c) (S : St n0 p l e R s m args below meth c k n h T) {o : Int} {pc1 : Nat} (hd1 : Dc code pc .lcmp 1 pc1) (hd : Bc code pc1 (.ifCond .lt o) o q q') (g1 : X.toInt < Y.toInt → Wp n0 p e R s below Q T (mkF m q' Ls st)) (g2 : ¬ X.toInt < Y.toInt → Wp n0 p e R s below Q T (mkF m q Ls st)) : Wp n0 p e R s below Q T (mkF m pc Ls (.long Y :: .long X :: st)) :=
  lcmp_lt K S hd1 hd (fun q => g1 (Int64.lt_iff_toInt_lt.mp q)) (fun q => g2 (fun r => q (Int64.lt_iff_toInt_lt.mpr r)))
theorem icmpz_ge (K : Cx own code mL ret mn n0 Z p l e R s m args below meth c) (S : St n0 p l e R s m args below meth c k n h T) {o : Int} (hd : Bc code pc (.if_icmp .ge o) o q q') (g1 : ¬ x.toInt < y.toInt → Wp n0 p e R s below Q T (mkF m q' Ls st)) (g2 : x.toInt < y.toInt → Wp n0 p e R s below Q T (mkF m q Ls st)) : Wp n0 p e R s below Q T (mkF m pc Ls (.int y :: .int x :: st)) :=
  icmp_ge K S hd (fun q => g1 (fun r => q (Int32.lt_iff_toInt_lt.mpr r))) (fun q => g2 (Int32.lt_iff_toInt_lt.mp q))
theorem ificz_ge (K : Cx own code mL ret mn n0 Z p l e R s m args below meth c) (S : St n0 p l e R s m args below meth c k n h T) {o : Int} (hd : Bc code pc (.ifCond .ge o) o q q') (g1 : ¬ x.toInt < 0 → Wp n0 p e R s below Q T (mkF m q' Ls st)) (g2 : x.toInt < 0 → Wp n0 p e R s below Q T (mkF m q Ls st)) : Wp n0 p e R s below Q T (mkF m pc Ls (.int x :: st)) :=
  ific_ge K S hd (fun q => g1 (fun r => q (Int32.lt_iff_toInt_lt.mpr r))) (fun q => g2 (Int32.lt_iff_toInt_lt.mp q))
theorem lcmpz_ge (K : Cx own code mL ret mn n0 Z p l e R s m args below meth c) (S : St n0 p l e R s m args below meth c k n h T) {o : Int} {pc1 : Nat} (hd1 : Dc code pc .lcmp 1 pc1) (hd : Bc code pc1 (.ifCond .ge o) o q q') (g1 : ¬ X.toInt < Y.toInt → Wp n0 p e R s below Q T (mkF m q' Ls st)) (g2 : X.toInt < Y.toInt → Wp n0 p e R s below Q T (mkF m q Ls st)) : Wp n0 p e R s below Q T (mkF m pc Ls (.long Y :: .long X :: st)) :=
  lcmp_ge K S hd1 hd (fun q => g1 (fun r => q (Int64.lt_iff_toInt_lt.mpr r))) (fun q => g2 (Int64.lt_iff_toInt_lt.mp q))
theorem icmpz_gt (K : Cx own code mL ret mn n0 Z p l e R s m args below meth c) (S : St n0 p l e R s m args below meth c k n h T) {o : Int} (hd : Bc code pc (.if_icmp .gt o) o q q') (g1 : y.toInt < x.toInt → Wp n0 p e R s below Q T (mkF m q' Ls st)) (g2 : ¬ y.toInt < x.toInt → Wp n0 p e R s below Q T (mkF m q Ls st)) : Wp n0 p e R s below Q T (mkF m pc Ls (.int y :: .int x :: st)) :=
  icmp_gt K S hd (fun q => g1 (Int32.lt_iff_toInt_lt.mp q)) (fun q => g2 (fun r => q (Int32.lt_iff_toInt_lt.mpr r)))
theorem ificz_gt (K : Cx own code mL ret mn n0 Z p l e R s m args below meth c) (S : St n0 p l e R s m args below meth c k n h T) {o : Int} (hd : Bc code pc (.ifCond .gt o) o q q') (g1 : 0 < x.toInt → Wp n0 p e R s below Q T (mkF m q' Ls st)) (g2 : ¬ 0 < x.toInt → Wp n0 p e R s below Q T (mkF m q Ls st)) : Wp n0 p e R s below Q T (mkF m pc Ls (.int x :: st)) :=
  ific_gt K S hd (fun q => g1 (Int32.lt_iff_toInt_lt.mp q)) (fun q => g2 (fun r => q (Int32.lt_iff_toInt_lt.mpr r)))
theorem lcmpz_gt (K : Cx own code mL ret mn n0 Z p l e R s m args below meth c) (S : St n0 p l e R s m args below meth c k n h T) {o : Int} {pc1 : Nat} (hd1 : Dc code pc .lcmp 1 pc1) (hd : Bc code pc1 (.ifCond .gt o) o q q') (g1 : Y.toInt < X.toInt → Wp n0 p e R s below Q T (mkF m q' Ls st)) (g2 : ¬ Y.toInt < X.toInt → Wp n0 p e R s below Q T (mkF m q Ls st)) : Wp n0 p e R s below Q T (mkF m pc Ls (.long Y :: .long X :: st)) :=
  lcmp_gt K S hd1 hd (fun q => g1 (Int64.lt_iff_toInt_lt.mp q)) (fun q => g2 (fun r => q (Int64.lt_iff_toInt_lt.mpr r)))
theorem icmpz_le (K : Cx own code mL ret mn n0 Z p l e R s m args below meth c) (S : St n0 p l e R s m args below meth c k n h T) {o : Int} (hd : Bc code pc (.if_icmp .le o) o q q') (g1 : ¬ y.toInt < x.toInt → Wp n0 p e R s below Q T (mkF m q' Ls st)) (g2 : y.toInt < x.toInt → Wp n0 p e R s below Q T (mkF m q Ls st)) : Wp n0 p e R s below Q T (mkF m pc Ls (.int y :: .int x :: st)) :=
  icmp_le K S hd (fun q => g1 (fun r => q (Int32.lt_iff_toInt_lt.mpr r))) (fun q => g2 (Int32.lt_iff_toInt_lt.mp q))
theorem ificz_le (K : Cx own code mL ret mn n0 Z p l e R s m args below meth c) (S : St n0 p l e R s m args below meth c k n h T) {o : Int} (hd : Bc code pc (.ifCond .le o) o q q') (g1 : ¬ 0 < x.toInt → Wp n0 p e R s below Q T (mkF m q' Ls st)) (g2 : 0 < x.toInt → Wp n0 p e R s below Q T (mkF m q Ls st)) : Wp n0 p e R s below Q T (mkF m pc Ls (.int x :: st)) :=
  ific_le K S hd (fun q => g1 (fun r => q (Int32.lt_iff_toInt_lt.mpr r))) (fun q => g2 (Int32.lt_iff_toInt_lt.mp q))
theorem lcmpz_le (K : Cx own code mL ret mn n0 Z p l e R s m args below meth c) (S : St n0 p l e R s m args below meth c k n h T) {o : Int} {pc1 : Nat} (hd1 : Dc code pc .lcmp 1 pc1) (hd : Bc code pc1 (.ifCond .le o) o q q') (g1 : ¬ Y.toInt < X.toInt → Wp n0 p e R s below Q T (mkF m q' Ls st)) (g2 : Y.toInt < X.toInt → Wp n0 p e R s below Q T (mkF m q Ls st)) : Wp n0 p e R s below Q T (mkF m pc Ls (.long Y :: .long X :: st)) :=
  lcmp_le K S hd1 hd (fun q => g1 (fun r => q (Int64.lt_iff_toInt_lt.mpr r))) (fun q => g2 (Int64.lt_iff_toInt_lt.mp q))
theorem icmpz_eq (K : Cx own code mL ret mn n0 Z p l e R s m args below meth c) (S : St n0 p l e R s m args below meth c k n h T) {o : Int} (hd : Bc code pc (.if_icmp .eq o) o q q') (g1 : x.toInt = y.toInt → Wp n0 p e R s below Q T (mkF m q' Ls st)) (g2 : ¬ x.toInt = y.toInt → Wp n0 p e R s below Q T (mkF m q Ls st)) : Wp n0 p e R s below Q T (mkF m pc Ls (.int y :: .int x :: st)) :=
  icmp_eq K S hd (fun q => g1 (congrArg Int32.toInt q)) (fun q => g2 (fun r => q (Int32.toInt_inj.mp r)))
theorem ificz_eq (K : Cx own code mL ret mn n0 Z p l e R s m args below meth c) (S : St n0 p l e R s m args below meth c k n h T) {o : Int} (hd : Bc code pc (.ifCond .eq o) o q q') (g1 : x.toInt = 0 → Wp n0 p e R s below Q T (mkF m q' Ls st)) (g2 : ¬ x.toInt = 0 → Wp n0 p e R s below Q T (mkF m q Ls st)) : Wp n0 p e R s below Q T (mkF m pc Ls (.int x :: st)) :=
  ific_eq K S hd (fun q => g1 (congrArg Int32.toInt q)) (fun q => g2 (fun r => q (Int32.toInt_inj.mp r)))
theorem lcmpz_eq (K : Cx own code mL ret mn n0 Z p l e R s m args below meth c) (S : St n0 p l e R s m args below meth c k n h T) {o : Int} {pc1 : Nat} (hd1 : Dc code pc .lcmp 1 pc1) (hd : Bc code pc1 (.ifCond .eq o) o q q') (g1 : X.toInt = Y.toInt → Wp n0 p e R s below Q T (mkF m q' Ls st)) (g2 : ¬ X.toInt = Y.toInt → Wp n0 p e R s below Q T (mkF m q Ls st)) : Wp n0 p e R s below Q T (mkF m pc Ls (.long Y :: .long X :: st)) :=
  lcmp_eq K S hd1 hd (fun q => g1 (congrArg Int64.toInt q)) (fun q => g2 (fun r => q (Int64.toInt_inj.mp r)))
theorem icmpz_ne (K : Cx own code mL ret mn n0 Z p l e R s m args below meth c) (S : St n0 p l e R s m args below meth c k n h T) {o : Int} (hd : Bc code pc (.if_icmp .ne o) o q q') (g1 : ¬ x.toInt = y.toInt → Wp n0 p e R s below Q T (mkF m q' Ls st)) (g2 : x.toInt = y.toInt → Wp n0 p e R s below Q T (mkF m q Ls st)) : Wp n0 p e R s below Q T (mkF m pc Ls (.int y :: .int x :: st)) :=
  icmp_ne K S hd (fun q => g1 (fun r => q (Int32.toInt_inj.mp r))) (fun q => g2 (congrArg Int32.toInt q))
theorem ificz_ne (K : Cx own code mL ret mn n0 Z p l e R s m args below meth c) (S : St n0 p l e R s m args below meth c k n h T) {o : Int} (hd : Bc code pc (.ifCond .ne o) o q q') (g1 : ¬ x.toInt = 0 → Wp n0 p e R s below Q T (mkF m q' Ls st)) (g2 : x.toInt = 0 → Wp n0 p e R s below Q T (mkF m q Ls st)) : Wp n0 p e R s below Q T (mkF m pc Ls (.int x :: st)) :=
  ific_ne K S hd (fun q => g1 (fun r => q (Int32.toInt_inj.mp r))) (fun q => g2 (congrArg Int32.toInt q))
theorem lcmpz_ne (K : Cx own code mL ret mn n0 Z p l e R s m args below meth c) (S : St n0 p l e R s m args below meth c k n h T) {o : Int} {pc1 : Nat} (hd1 : Dc code pc .lcmp 1 pc1) (hd : Bc code pc1 (.ifCond .ne o) o q q') (g1 : ¬ X.toInt = Y.toInt → Wp n0 p e R s below Q T (mkF m q' Ls st)) (g2 : X.toInt = Y.toInt → Wp n0 p e R s below Q T (mkF m q Ls st)) : Wp n0 p e R s below Q T (mkF m pc Ls (.long Y :: .long X :: st)) :=
  lcmp_ne K S hd1 hd (fun q => g1 (fun r => q (Int64.toInt_inj.mp r))) (fun q => g2 (congrArg Int64.toInt q))
theorem ifnull_ref (K : Cx own code mL ret mn n0 Z p l e R s m args below meth c) (S : St n0 p l e R s m args below meth c k n h T) {o : Int} (hd : Bc code pc (.ifnull o) o q q') (g : Wp n0 p e R s below Q T (mkF m q Ls st)) : Wp n0 p e R s below Q T (mkF m pc Ls (.ref a :: st)) := by
  obtain ⟨hx, hby, -⟩ := K; obtain ⟨locs, S, -, -⟩ := S; obtain ⟨hd, rfl, h1, h2⟩ := hd
  exact wp_mono (fun t hr => XS.ifnullNo S.here hx rfl (hb hby hd) rfl hr) g
theorem ldc (K : Cx own code mL ret mn n0 Z p l e R s m args below meth c) (S : St n0 p l e R s m args below meth c k n h T) {i : Nat} (w : (Jvm.Cond.constant own i x).before a0 Z = true) (hd : Dc code pc (.ldc i) 2 q) (g : Wp n0 p e R s below Q T (mkF m q Ls (.int x :: st))) : Wp n0 p e R s below Q T (mkF m pc Ls st) := by
  obtain ⟨hx, hby, -, -, -, hown, hZ, -⟩ := K; obtain ⟨locs, S, -, -⟩ := S; obtain ⟨hd, rfl⟩ := hd
  refine wp_mono (T' := T) (g' := mkF m (pc + 2) Ls (.int x :: st)) (fun t hr => ?_) g
  exact S.ldcInt hx hown (mvT hZ w) (g := mkF m pc Ls st) rfl (hb hby hd) t hr
theorem ldc2 (K : Cx own code mL ret mn n0 Z p l e R s m args below meth c) (S : St n0 p l e R s m args below meth c k n h T) {i : Nat} (w : (Jvm.Cond.constantLong own i X).before a0 Z = true) (hd : Dc code pc (.ldc2_w i) 3 q) (g : Wp n0 p e R s below Q T (mkF m q Ls (.long X :: st))) : Wp n0 p e R s below Q T (mkF m pc Ls st) := by
  obtain ⟨hx, hby, -, -, -, hown, hZ, -⟩ := K; obtain ⟨locs, S, -, -⟩ := S; obtain ⟨hd, rfl⟩ := hd
  refine wp_mono (T' := T) (g' := mkF m (pc + 3) Ls (.long X :: st)) (fun t hr => ?_) g
  exact S.ldc2Long hx hown (mvT hZ w) (g := mkF m pc Ls st) rfl (hb hby hd) t hr
theorem getf (K : Cx own code mL ret mn n0 Z p l e R s m args below meth c) (S : St n0 p l e R s m args below meth c k n h T) {i : Nat} {O fn d : String} (w : (Jvm.Cond.fieldLink own i O fn d).before a0 Z = true) (F : Fld Z h a O fn d v) (hd : Dc code pc (.getfield i) 3 q) (g : ∀ T, St n0 p l e R s m args below meth c k n h T → Wp n0 p e R s below Q T (mkF m q Ls (v :: st))) : Wp n0 p e R s below Q T (mkF m pc Ls (.ref a :: st)) := by
  obtain ⟨hx, hby, -, -, -, hown, hZ, -⟩ := K; obtain ⟨locs, S, e1, N, z⟩ := S; obtain ⟨hd, rfl⟩ := hd
  obtain ⟨T1, S1, e2, st1⟩ := getF S hx hZ hown (host := "") (Or.inl w) Via.refl e1 F (g := mkF m pc Ls (.ref a :: st)) rfl rfl (hb hby hd)
  exact wp_mono st1 (g T1 ⟨locs, S1, e2, N, z⟩)
theorem putf (K : Cx own code mL ret mn n0 Z p l e R s m args below meth c) (S : St n0 p l e R s m args below meth c k n h T) {i kk : Nat} {O fn d C : String} {old : Value} (w : (Jvm.Cond.fieldLink own i O fn d).before a0 Z = true) (F : Fld Z h a O fn d old) (E : Exa Z h a C) (L : (Jvm.Cond.lays C O fn d).before a0 Z = true ∨ ((Jvm.Cond.laysFinal C O fn d).before a0 Z = true ∧ own = O ∧ mn = "<init>")) (wi : (Jvm.Cond.instantiable C kk).before a0 Z = true) (hty : parseFieldDescriptor d = some ty) (hn : narrow ty v = v) (hf : fits ty v = true) (ha : n0 ≤ a) (hd : Dc code pc (.putfield i) 3 q) (g : ∀ T h', Wr h h' a (Jvm.RoadKit.slotOf Z O fn d) v → St n0 p l e R s m args below meth c k n h' T → Wp n0 p e R s below Q T (mkF m q Ls st)) : Wp n0 p e R s below Q T (mkF m pc Ls (v :: .ref a :: st)) := by
  obtain ⟨hx, hby, -, -, -, hown, hZ, hmn⟩ := K; obtain ⟨locs, S, e1, N, z⟩ := S; obtain ⟨hd, rfl⟩ := hd
  obtain ⟨T1, h1, S1, e2, W1, st1⟩ := putF S hx hZ hown (host := "") (Or.inl w) Via.refl e1 F E (L.imp id fun q => ⟨q.1, q.2.1, hmn.trans q.2.2⟩) wi hty hn hf (g := mkF m pc Ls (v :: .ref a :: st)) rfl rfl (hb hby hd)
  exact wp_mono st1 (g T1 h1 W1 ⟨_, S1, e2, Fr.snoc S1 N ha, by rw [W1.size]; exact z⟩)
theorem new (K : Cx own code mL ret mn n0 Z p l e R s m args below meth c) (S : St n0 p l e R s m args below meth c k n h T) {i nn : Nat} {C : String} (w : (Jvm.Cond.classLink own i C).before a0 Z = true) (wi : (Jvm.Cond.instantiable C nn).before a0 Z = true) (wz : (Jvm.Cond.initialized C).before a0 Z = true) (hc : k + 1 ≤ R.cells) (hl : n + nn ≤ R.slots) (hd : Dc code pc (.new i) 3 q) (g : ∀ T h' a, a = h.size → n0 ≤ a → Ext h h' → Exa Z h' a C → (∀ {O nm d : String} {ty : FieldType}, Laid Z a0 C O nm d → parseFieldDescriptor d = some ty → Fld Z h' a O nm d (defaultValue ty)) → St n0 p l e R s m args below meth c (k + 1) (n + nn) h' T → Wp n0 p e R s below Q T (mkF m q Ls (.ref a :: st))) : Wp n0 p e R s below Q T (mkF m pc Ls st) := by
  obtain ⟨hx, hby, -, -, -, hown, hZ, hmn⟩ := K; obtain ⟨locs, S, e1, N, z⟩ := S; obtain ⟨hd, rfl⟩ := hd
  obtain ⟨T1, h1, S1, e2, E1, A1, D1, -, st1⟩ := newO S hx hZ hown w wi wz e1 (g := mkF m pc Ls st) rfl (hb hby hd) hc hl
  exact wp_mono st1 (g T1 h1 h.size rfl z E1 A1 D1 ⟨_, S1, e2, N, Nat.le_trans z E1.1⟩)
theorem newarr (K : Cx own code mL ret mn n0 Z p l e R s m args below meth c) (S : St n0 p l e R s m args below meth c k n h T) {aty : ArrayType} {cap : Nat} (w : (Jvm.Cond.arrayClass (newarray.typeOf aty)).before a0 Z = true) (hn : ¬ x < 0) (hcap : x.toNatClampNeg ≤ cap) (hb' : cap * 8 ≤ 536870912) (hc : k + 1 ≤ R.cells) (hl : n + cap ≤ R.slots) (hd : Dc code pc (.newarray aty) 2 q) (g : ∀ T h' a, a = h.size → n0 ≤ a → Ext h h' → VA Z h' a (newarray.typeOf aty) (List.replicate x.toNatClampNeg (defaultValue (newarray.typeOf aty))) → St n0 p l e R s m args below meth c (k + 1) (n + cap) h' T → Wp n0 p e R s below Q T (mkF m q Ls (.ref a :: st))) : Wp n0 p e R s below Q T (mkF m pc Ls (.int x :: st)) := by
  obtain ⟨hx, hby, -, -, -, hown, hZ, hmn⟩ := K; obtain ⟨locs, S, e1, N, z⟩ := S; obtain ⟨hd, rfl⟩ := hd
  obtain ⟨T1, h1, cA, S1, e2, E1, A1, st1⟩ := newP S hx hZ w e1 (g := mkF m pc Ls (.int x :: st)) rfl (hb hby hd) rfl hn hcap hb' hc hl
  exact wp_mono st1 (g T1 h1 h.size rfl z E1 ⟨_, A1, by simp [newA]⟩ ⟨_, S1, e2, N, Nat.le_trans z E1.1⟩)
theorem inito (K : Cx own code mL ret mn n0 Z p l e R s m args below meth c) (S : St n0 p l e R s m args below meth c k n h T) {i W : Nat} (w1 : (Jvm.Cond.methodLink own i Lib.objectInit).before a0 Z = true) (w2 : (Jvm.Cond.instanceMethod Lib.objectInit).before a0 Z = true) (w3 : (Jvm.Cond.code Lib.objectInit ⟨#[0xb1]⟩ 1 none).before a0 Z = true) (hsz : Ls.size = mL) (hf : 1 ≤ R.frames) (hW : (st.map fun v => v.category).sum ≤ W) (hl : W + 12 ≤ R.locals) (hd : Dc code pc (.invokespecial i) 3 q) (g : ∀ T, St n0 p l e R s m args below meth c k n h T → Wp n0 p e R s below Q T (mkF m q Ls st)) : Wp n0 p e R s below Q T (mkF m pc Ls (.ref a :: st)) := by
  obtain ⟨hx, hby, hml, -, -, hown, hZ, hmn⟩ := K; obtain ⟨locs, S, e1, N, z⟩ := S; obtain ⟨hd, rfl⟩ := hd
  obtain ⟨T1, S1, e2, st1⟩ := initO S hx hZ hown w1 w2 w3 e1 (g := mkF m pc Ls (.ref a :: st)) rfl (by rw [hml]; exact hsz) rfl (hb hby hd) hf (W := W) (by show 2 * 0 + _ ≤ _; omega) hl
  exact wp_mono st1 (g T1 ⟨_, S1, e2, N, z⟩)
theorem iaload (K : Cx own code mL ret mn n0 Z p l e R s m args below meth c) (S : St n0 p l e R s m args below meth c k n h T) {i : Nat} (A : VA Z h a .int vs) (hi : Ix x i) (hv : vs[i]? = some v) (hd : Dc code pc .iaload 1 q) (g : Wp n0 p e R s below Q T (mkF m q Ls (v :: st))) : Wp n0 p e R s below Q T (mkF m pc Ls (.int x :: .ref a :: st)) := by
  obtain ⟨hx, hby, -, -, -, hown, hZ, -⟩ := K; obtain ⟨locs, S, e1, N, z⟩ := S; obtain ⟨hd, rfl⟩ := hd; obtain ⟨cl, A, hs⟩ := A; obtain ⟨hi0, rfl⟩ := hi
  have hlt : x.toNatClampNeg < vs.length := (List.getElem?_eq_some_iff.mp hv).1
  exact wp_mono (fun t hr => S.iaload hx (by rw [e1]; exact A.1) (State.isArrayOf_alike hZ.alike A.2.1) A.2.2 (by rw [hs]; simp; exact ⟨Int32.not_lt.mp hi0, hlt⟩) (by rw [hs]; simpa using hv) (g := mkF m pc Ls (.int x :: .ref a :: st)) rfl rfl (hb hby hd) t hr) g
theorem laload (K : Cx own code mL ret mn n0 Z p l e R s m args below meth c) (S : St n0 p l e R s m args below meth c k n h T) {i : Nat} (A : VA Z h a .long vs) (hi : Ix x i) (hv : vs[i]? = some v) (hd : Dc code pc .laload 1 q) (g : Wp n0 p e R s below Q T (mkF m q Ls (v :: st))) : Wp n0 p e R s below Q T (mkF m pc Ls (.int x :: .ref a :: st)) := by
  obtain ⟨hx, hby, -, -, -, hown, hZ, -⟩ := K; obtain ⟨locs, S, e1, N, z⟩ := S; obtain ⟨hd, rfl⟩ := hd; obtain ⟨cl, A, hs⟩ := A; obtain ⟨hi0, rfl⟩ := hi
  have hlt : x.toNatClampNeg < vs.length := (List.getElem?_eq_some_iff.mp hv).1
  exact wp_mono (fun t hr => S.laload hx (by rw [e1]; exact A.1) (State.isArrayOf_alike hZ.alike A.2.1) A.2.2 (by rw [hs]; simp; exact ⟨Int32.not_lt.mp hi0, hlt⟩) (by rw [hs]; simpa using hv) (g := mkF m pc Ls (.int x :: .ref a :: st)) rfl rfl (hb hby hd) t hr) g
theorem caload (K : Cx own code mL ret mn n0 Z p l e R s m args below meth c) (S : St n0 p l e R s m args below meth c k n h T) {i : Nat} (A : VA Z h a .char vs) (hi : Ix x i) (hv : vs[i]? = some v) (hd : Dc code pc .caload 1 q) (g : Wp n0 p e R s below Q T (mkF m q Ls (v :: st))) : Wp n0 p e R s below Q T (mkF m pc Ls (.int x :: .ref a :: st)) := by
  obtain ⟨hx, hby, -, -, -, hown, hZ, -⟩ := K; obtain ⟨locs, S, e1, N, z⟩ := S; obtain ⟨hd, rfl⟩ := hd; obtain ⟨cl, A, hs⟩ := A; obtain ⟨hi0, rfl⟩ := hi
  have hlt : x.toNatClampNeg < vs.length := (List.getElem?_eq_some_iff.mp hv).1
  exact wp_mono (fun t hr => S.caload hx (by rw [e1]; exact A.1) (State.isArrayOf_alike hZ.alike A.2.1) A.2.2 (by rw [hs]; simp; exact ⟨Int32.not_lt.mp hi0, hlt⟩) (by rw [hs]; simpa using hv) (g := mkF m pc Ls (.int x :: .ref a :: st)) rfl rfl (hb hby hd) t hr) g
theorem baload (K : Cx own code mL ret mn n0 Z p l e R s m args below meth c) (S : St n0 p l e R s m args below meth c k n h T) {i : Nat} (A : VA Z h a .byte vs) (hi : Ix x i) (hv : vs[i]? = some v) (hd : Dc code pc .baload 1 q) (g : Wp n0 p e R s below Q T (mkF m q Ls (v :: st))) : Wp n0 p e R s below Q T (mkF m pc Ls (.int x :: .ref a :: st)) := by
  obtain ⟨hx, hby, -, -, -, hown, hZ, -⟩ := K; obtain ⟨locs, S, e1, N, z⟩ := S; obtain ⟨hd, rfl⟩ := hd; obtain ⟨cl, A, hs⟩ := A; obtain ⟨hi0, rfl⟩ := hi
  have hlt : x.toNatClampNeg < vs.length := (List.getElem?_eq_some_iff.mp hv).1
  exact wp_mono (fun t hr => S.baloadBytes hx (by rw [e1]; exact A.1) (State.isArrayOf_alike hZ.alike A.2.1) A.2.2 (by rw [hs]; simp; exact ⟨Int32.not_lt.mp hi0, hlt⟩) (by rw [hs]; simpa using hv) (g := mkF m pc Ls (.int x :: .ref a :: st)) rfl rfl (hb hby hd) t hr) g
theorem iastore (K : Cx own code mL ret mn n0 Z p l e R s m args below meth c) (S : St n0 p l e R s m args below meth c k n h T) {i : Nat} (A : VA Z h a .int vs) (hi : Ix x i) (hlt : i < vs.length) (ha : n0 ≤ a) (hd : Dc code pc .iastore 1 q) (g : ∀ T h', Wr h h' a i (.int y) → VA Z h' a .int (vs.set i (.int y)) → St n0 p l e R s m args below meth c k n h' T → Wp n0 p e R s below Q T (mkF m q Ls st)) : Wp n0 p e R s below Q T (mkF m pc Ls (.int y :: .int x :: .ref a :: st)) := by
  obtain ⟨hx, hby, -, -, -, hown, hZ, -⟩ := K; obtain ⟨locs, S, e1, N, z⟩ := S; obtain ⟨hd, rfl⟩ := hd; have A0 := A; obtain ⟨cl, A, hs⟩ := A; obtain ⟨hi0, rfl⟩ := hi
  obtain ⟨T1, h1, S1, e2, W1, st1⟩ := stI S hx hZ e1 A (by rw [hs]; simp; exact ⟨Int32.not_lt.mp hi0, hlt⟩) (g := mkF m pc Ls (.int y :: .int x :: .ref a :: st)) rfl rfl (hb hby hd)
  exact wp_mono st1 (g T1 h1 W1 (A0.wr W1) ⟨_, S1, e2, Fr.snoc S1 N ha, by rw [W1.size]; exact z⟩)
theorem lastore (K : Cx own code mL ret mn n0 Z p l e R s m args below meth c) (S : St n0 p l e R s m args below meth c k n h T) {i : Nat} (A : VA Z h a .long vs) (hi : Ix x i) (hlt : i < vs.length) (ha : n0 ≤ a) (hd : Dc code pc .lastore 1 q) (g : ∀ T h', Wr h h' a i (.long X) → VA Z h' a .long (vs.set i (.long X)) → St n0 p l e R s m args below meth c k n h' T → Wp n0 p e R s below Q T (mkF m q Ls st)) : Wp n0 p e R s below Q T (mkF m pc Ls (.long X :: .int x :: .ref a :: st)) := by
  obtain ⟨hx, hby, -, -, -, hown, hZ, -⟩ := K; obtain ⟨locs, S, e1, N, z⟩ := S; obtain ⟨hd, rfl⟩ := hd; have A0 := A; obtain ⟨cl, A, hs⟩ := A; obtain ⟨hi0, rfl⟩ := hi
  obtain ⟨T1, h1, S1, e2, W1, st1⟩ := stJ S hx hZ e1 A (by rw [hs]; simp; exact ⟨Int32.not_lt.mp hi0, hlt⟩) (g := mkF m pc Ls (.long X :: .int x :: .ref a :: st)) rfl rfl (hb hby hd)
  exact wp_mono st1 (g T1 h1 W1 (A0.wr W1) ⟨_, S1, e2, Fr.snoc S1 N ha, by rw [W1.size]; exact z⟩)
theorem castore (K : Cx own code mL ret mn n0 Z p l e R s m args below meth c) (S : St n0 p l e R s m args below meth c k n h T) {i : Nat} (A : VA Z h a .char vs) (hi : Ix x i) (hlt : i < vs.length) (ha : n0 ≤ a) (hd : Dc code pc .castore 1 q) (g : ∀ T h', Wr h h' a i (.int (nar .char y)) → VA Z h' a .char (vs.set i (.int (nar .char y))) → St n0 p l e R s m args below meth c k n h' T → Wp n0 p e R s below Q T (mkF m q Ls st)) : Wp n0 p e R s below Q T (mkF m pc Ls (.int y :: .int x :: .ref a :: st)) := by
  obtain ⟨hx, hby, -, -, -, hown, hZ, -⟩ := K; obtain ⟨locs, S, e1, N, z⟩ := S; obtain ⟨hd, rfl⟩ := hd; have A0 := A; obtain ⟨cl, A, hs⟩ := A; obtain ⟨hi0, rfl⟩ := hi
  obtain ⟨T1, h1, S1, e2, W1, st1⟩ := stC S hx hZ e1 A (by rw [hs]; simp; exact ⟨Int32.not_lt.mp hi0, hlt⟩) (g := mkF m pc Ls (.int y :: .int x :: .ref a :: st)) rfl rfl (hb hby hd)
  exact wp_mono st1 (g T1 h1 W1 (A0.wr W1) ⟨_, S1, e2, Fr.snoc S1 N ha, by rw [W1.size]; exact z⟩)
theorem bastore (K : Cx own code mL ret mn n0 Z p l e R s m args below meth c) (S : St n0 p l e R s m args below meth c k n h T) {i : Nat} (A : VA Z h a .byte vs) (hi : Ix x i) (hlt : i < vs.length) (ha : n0 ≤ a) (hd : Dc code pc .bastore 1 q) (g : ∀ T h', Wr h h' a i (.int (nar .byte y)) → VA Z h' a .byte (vs.set i (.int (nar .byte y))) → St n0 p l e R s m args below meth c k n h' T → Wp n0 p e R s below Q T (mkF m q Ls st)) : Wp n0 p e R s below Q T (mkF m pc Ls (.int y :: .int x :: .ref a :: st)) := by
  obtain ⟨hx, hby, -, -, -, hown, hZ, -⟩ := K; obtain ⟨locs, S, e1, N, z⟩ := S; obtain ⟨hd, rfl⟩ := hd; have A0 := A; obtain ⟨cl, A, hs⟩ := A; obtain ⟨hi0, rfl⟩ := hi
  obtain ⟨T1, h1, S1, e2, W1, st1⟩ := stB S hx hZ e1 A (by rw [hs]; simp; exact ⟨Int32.not_lt.mp hi0, hlt⟩) (g := mkF m pc Ls (.int y :: .int x :: .ref a :: st)) rfl rfl (hb hby hd)
  exact wp_mono st1 (g T1 h1 W1 (A0.wr W1) ⟨_, S1, e2, Fr.snoc S1 N ha, by rw [W1.size]; exact z⟩)
theorem alen (K : Cx own code mL ret mn n0 Z p l e R s m args below meth c) (S : St n0 p l e R s m args below meth c k n h T) (A : VA Z h a ty vs) (hx' : vs.length.toInt32 = x) (hd : Dc code pc .arraylength 1 q) (g : Wp n0 p e R s below Q T (mkF m q Ls (.int x :: st))) : Wp n0 p e R s below Q T (mkF m pc Ls (.ref a :: st)) := by
  obtain ⟨hx, hby, -, -, -, hown, hZ, -⟩ := K; obtain ⟨locs, S, e1, N, z⟩ := S; obtain ⟨hd, rfl⟩ := hd; obtain ⟨cl, A, hs⟩ := A
  refine wp_mono (fun t hr => S.arraylength hx (by rw [e1]; exact A.1) (State.isArrayOf_alike hZ.alike A.2.1) (g := mkF m pc Ls (.ref a :: st)) rfl rfl (hb hby hd) t hr) (T' := T) (g' := mkF m (pc + 1) Ls (.int cl.slots.size.toInt32 :: st)) ?_
  rw [hs]; simpa [hx'] using g
theorem retn (K : Cx own code mL (some ty) mn n0 Z p l e R s m args below meth c) (S : St n0 p l e R s m args below meth c k n h T) (ht : ty = .boolean ∨ ty = .byte ∨ ty = .char ∨ ty = .short) (hz : nar ty x = y) (hk : k ≤ R.cells) (hn : n ≤ R.slots) (hd : Dc code pc .ireturn 1 q) (hQ : Q (some (.int y)) h) : Wp n0 p e R s below Q T (mkF m pc Ls (.int x :: st)) := by
  obtain ⟨hx, hby, -, hret, hlk, -⟩ := K; obtain ⟨locs, S, e1, N, z⟩ := S; obtain ⟨hd, -⟩ := hd
  obtain ⟨fs, hr, hrun, hended, hW, hsame⟩ := S.leave (v := some (.int y)) (fun h => by rw [hret] at h; cases h) hlk
  refine ⟨_, _, retN S hx hret ht (hb hby hd) (by rw [hz]; exact hr), hrun, hended, _, _, rfl, ⟨?_, ?_, N⟩, ⟨_, rfl⟩, hW, hsame.mono hk hn⟩
  · show Q _ T.heap; rw [e1]; exact hQ
  · show n0 ≤ T.heap.size; rw [e1]; exact z
theorem reti (K : Cx own code mL (some .int) mn n0 Z p l e R s m args below meth c) (S : St n0 p l e R s m args below meth c k n h T) (hk : k ≤ R.cells) (hn : n ≤ R.slots) (hd : Dc code pc .ireturn 1 q) (hQ : Q (some (.int x)) h) : Wp n0 p e R s below Q T (mkF m pc Ls (.int x :: st)) := by
  obtain ⟨hx, hby, -, hret, hlk, -⟩ := K; obtain ⟨locs, S, e1, N, z⟩ := S; obtain ⟨hd, -⟩ := hd
  obtain ⟨fs, hr, hrun, hended, hW, hsame⟩ := S.leave (v := some (.int x)) (fun h => by rw [hret] at h; cases h) hlk
  refine ⟨_, _, retOut S hx hret rfl (Or.inl ⟨rfl, Or.inl rfl, _, rfl⟩) (hb hby hd) hr, hrun, hended, _, _, rfl, ⟨?_, ?_, N⟩, ⟨_, rfl⟩, hW, hsame.mono hk hn⟩
  · show Q _ T.heap; rw [e1]; exact hQ
  · show n0 ≤ T.heap.size; rw [e1]; exact z
theorem retl (K : Cx own code mL (some .long) mn n0 Z p l e R s m args below meth c) (S : St n0 p l e R s m args below meth c k n h T) (hk : k ≤ R.cells) (hn : n ≤ R.slots) (hd : Dc code pc .lreturn 1 q) (hQ : Q (some (.long X)) h) : Wp n0 p e R s below Q T (mkF m pc Ls (.long X :: st)) := by
  obtain ⟨hx, hby, -, hret, hlk, -⟩ := K; obtain ⟨locs, S, e1, N, z⟩ := S; obtain ⟨hd, -⟩ := hd
  obtain ⟨fs, hr, hrun, hended, hW, hsame⟩ := S.leave (v := some (.long X)) (fun h => by rw [hret] at h; cases h) hlk
  refine ⟨_, _, retOut S hx hret rfl (Or.inr (Or.inl ⟨rfl, rfl, _, rfl⟩)) (hb hby hd) hr, hrun, hended, _, _, rfl, ⟨?_, ?_, N⟩, ⟨_, rfl⟩, hW, hsame.mono hk hn⟩
  · show Q _ T.heap; rw [e1]; exact hQ
  · show n0 ≤ T.heap.size; rw [e1]; exact z
theorem reta (K : Cx own code mL (some ty) mn n0 Z p l e R s m args below meth c) (S : St n0 p l e R s m args below meth c k n h T) (hrf : ty.isReference = true) (hnr : narrow ty (.ref a) = .ref a) (hk : k ≤ R.cells) (hn : n ≤ R.slots) (hd : Dc code pc .areturn 1 q) (hQ : Q (some (.ref a)) h) : Wp n0 p e R s below Q T (mkF m pc Ls (.ref a :: st)) := by
  obtain ⟨hx, hby, -, hret, hlk, -⟩ := K; obtain ⟨locs, S, e1, N, z⟩ := S; obtain ⟨hd, -⟩ := hd
  obtain ⟨fs, hr, hrun, hended, hW, hsame⟩ := S.leave (v := some (.ref a)) (fun h => by rw [hret] at h; cases h) hlk
  refine ⟨_, _, retOut S hx hret hnr (Or.inr (Or.inr (Or.inr (Or.inr ⟨rfl, hrf, rfl⟩)))) (hb hby hd) hr, hrun, hended, _, _, rfl, ⟨?_, ?_, N⟩, ⟨_, rfl⟩, hW, hsame.mono hk hn⟩
  · show Q _ T.heap; rw [e1]; exact hQ
  · show n0 ≤ T.heap.size; rw [e1]; exact z
theorem retv (K : Cx own code mL (none) mn n0 Z p l e R s m args below meth c) (S : St n0 p l e R s m args below meth c k n h T) (hk : k ≤ R.cells) (hn : n ≤ R.slots) (hd : Dc code pc .return_ 1 q) (hQ : Q (none) h) : Wp n0 p e R s below Q T (mkF m pc Ls ([])) := by
  obtain ⟨hx, hby, -, hret, hlk, -⟩ := K; obtain ⟨locs, S, e1, N, z⟩ := S; obtain ⟨hd, -⟩ := hd
  obtain ⟨fs, hr, hrun, hended, hW, hsame⟩ := S.leave (v := none) (fun _ => rfl) hlk
  refine ⟨_, _, S.returnOut hx hret (hb hby hd) hr, hrun, hended, _, _, rfl, ⟨?_, ?_, N⟩, ⟨_, rfl⟩, hW, hsame.mono hk hn⟩
  · show Q _ T.heap; rw [e1]; exact hQ
  · show n0 ≤ T.heap.size; rw [e1]; exact z
theorem callS (K : Cx own code mL ret mn n0 Z p l e R s m args below meth c) (S : St n0 p l e R s m args below meth c k n h T) {i mL' W : Nat} {y : MethodName} {bytes : ByteArray} {ret' : Option FieldType} {rm : Room} {as' : Array Value} {Q' : Option Value → Heap → Prop} {argsL : List Value} (M : Met n0 l Z y bytes mL' ret' rm [] as' h Q') (w1 : (Jvm.Cond.methodLink own i y).before a0 Z = true) (w2 : (Jvm.Cond.static y).before a0 Z = true) (w4 : (Jvm.Cond.code y bytes mL' ret').before a0 Z = true) (w5 : (Jvm.Cond.initialized y.cls).before a0 Z = true) (hy : y.cls ≠ "java/lang/invoke/MethodHandle" ∧ y.cls ≠ "java/lang/invoke/VarHandle") (hfr : rm.frames + 1 ≤ R.frames) (hlo : W + (mL' + 11) + rm.locals ≤ R.locals) (hce : k + rm.cells ≤ R.cells) (hsl : n + rm.slots ≤ R.slots) (hsz : Ls.size = mL) (has : (argsL).toArray = as') (hlen : ∀ sig, parseMethodDescriptor y.desc = some sig → argsL.length = sig.parameters.length) (hst : st = argsL.reverse ++ rest) (hW : (rest.map fun v => v.category).sum ≤ W) (hd : Dc code pc (.invokestatic i) 3 q) (g : ∀ T v h', Q' v h' → St n0 p l e R s m args below meth c (k + rm.cells) (n + rm.slots) h' T → Wp n0 p e R s below Q T (mkF m q Ls (v.toList ++ rest))) : Wp n0 p e R s below Q T (mkF m pc Ls st) := by
  obtain ⟨hx, hby, hml, -, -, hown, hZ, hmn⟩ := K; obtain ⟨locs, S, e1, N, z⟩ := S; obtain ⟨hd, rfl⟩ := hd; subst hst has
  obtain ⟨v1, _, ⟨T1, L1, k1, n1⟩, -, S1, ⟨Lc1, hQ1, l1, y1, z1⟩, st1⟩ := Jvm.LawKit.callS S hx (y := y) hown (mvT hZ w1) (mvT hZ w2) (mvT hZ w5) (mvT hZ w4) hy (backOf (W := W) (Q := fun v h L => Q' v h ∧ n0 ≤ h.size ∧ Fr n0 L) M hZ w4 w5 hfr hlo) (g := mkF m pc Ls (argsL.reverse ++ rest)) rfl (by rw [hml]; exact hsz) (argsL := argsL) (rest := rest) hlen rfl (by show 2 * 0 + _ ≤ _; omega) (hb hby hd) (fun _ _ => ⟨rfl, e1, hce, hsl⟩)
  dsimp only [Pt.U, Pt.locs, Pt.cells, Pt.slots] at S1 l1 y1 z1 st1 hQ1
  subst l1 y1 z1
  exact wp_mono st1 (g T1 v1 T1.heap hQ1.1 ⟨_, S1, rfl, Fr.app N hQ1.2.2, hQ1.2.1⟩)
theorem callC (K : Cx own code mL ret mn n0 Z p l e R s m args below meth c) (S : St n0 p l e R s m args below meth c k n h T) {i mL' W : Nat} {y : MethodName} {bytes : ByteArray} {ret' : Option FieldType} {rm : Room} {as' : Array Value} {Q' : Option Value → Heap → Prop} {argsL : List Value} (M : Met n0 l Z y bytes mL' ret' rm [] as' h Q') (hin : y.name = "<init>") (hr0 : ret' = none) (w1 : (Jvm.Cond.methodLink own i y).before a0 Z = true) (w2 : (Jvm.Cond.instanceMethod y).before a0 Z = true) (w4 : (Jvm.Cond.code y bytes mL' ret').before a0 Z = true) (w5 : (Jvm.Cond.initialized y.cls).before a0 Z = true) (hy : y.cls ≠ "java/lang/invoke/MethodHandle" ∧ y.cls ≠ "java/lang/invoke/VarHandle") (hfr : rm.frames + 1 ≤ R.frames) (hlo : W + (mL' + 11) + rm.locals ≤ R.locals) (hce : k + rm.cells ≤ R.cells) (hsl : n + rm.slots ≤ R.slots) (hsz : Ls.size = mL) (has : (.ref a :: argsL).toArray = as') (hlen : ∀ sig, parseMethodDescriptor y.desc = some sig → argsL.length = sig.parameters.length) (hst : st = argsL.reverse ++ .ref a :: rest) (hW : (rest.map fun v => v.category).sum ≤ W) (hd : Dc code pc (.invokespecial i) 3 q) (g : ∀ T v h', Q' v h' → St n0 p l e R s m args below meth c (k + rm.cells) (n + rm.slots) h' T → Wp n0 p e R s below Q T (mkF m q Ls (v.toList ++ rest))) : Wp n0 p e R s below Q T (mkF m pc Ls st) := by
  obtain ⟨hx, hby, hml, -, -, hown, hZ, hmn⟩ := K; obtain ⟨locs, S, e1, N, z⟩ := S; obtain ⟨hd, rfl⟩ := hd; subst hst has
  subst hr0
  obtain ⟨v1, _, ⟨T1, L1, k1, n1⟩, -, S1, ⟨Lc1, hQ1, l1, y1, z1⟩, st1⟩ := S.specialBack hx (y := y) hin hown (mvT hZ w1) (mvT hZ w2) (mvT hZ w4) hy (backOf (W := W) (Q := fun v h L => Q' v h ∧ n0 ≤ h.size ∧ Fr n0 L) M hZ w4 w5 hfr hlo) (g := mkF m pc Ls (argsL.reverse ++ .ref a :: rest)) rfl (by rw [hml]; exact hsz) (Steps.refl _) (a := a) (argsL := argsL) (rest := rest) hlen rfl (by show 2 * 0 + _ ≤ _; omega) (hb hby hd) (fun _ _ => ⟨rfl, e1, hce, hsl⟩)
  dsimp only [Pt.U, Pt.locs, Pt.cells, Pt.slots] at S1 l1 y1 z1 st1 hQ1
  subst l1 y1 z1
  exact wp_mono (fun t hr => st1.trans hr) (g T1 v1 T1.heap hQ1.1 ⟨_, S1, rfl, Fr.app N hQ1.2.2, hQ1.2.1⟩)
theorem callV (K : Cx own code mL ret mn n0 Z p l e R s m args below meth c) (S : St n0 p l e R s m args below meth c k n h T) {i mL' W : Nat} {y : MethodName} {bytes : ByteArray} {ret' : Option FieldType} {rm : Room} {as' : Array Value} {Q' : Option Value → Heap → Prop} {argsL : List Value} (M : Met n0 l Z y bytes mL' ret' rm [] as' h Q') (E : Exa Z h a y.cls) (w1 : (Jvm.Cond.methodLink own i y).before a0 Z = true) (w2 : (Jvm.Cond.declares y).before a0 Z = true) (w3 : (Jvm.Cond.selects y.cls y y).before a0 Z = true) (w6 : (Jvm.Cond.instanceMethod y).before a0 Z = true) (w4 : (Jvm.Cond.code y bytes mL' ret').before a0 Z = true) (w5 : (Jvm.Cond.initialized y.cls).before a0 Z = true) (hy : y.cls ≠ "java/lang/invoke/MethodHandle" ∧ y.cls ≠ "java/lang/invoke/VarHandle") (hfr : rm.frames + 1 ≤ R.frames) (hlo : W + (mL' + 11) + rm.locals ≤ R.locals) (hce : k + rm.cells ≤ R.cells) (hsl : n + rm.slots ≤ R.slots) (hsz : Ls.size = mL) (has : (.ref a :: argsL).toArray = as') (hlen : ∀ sig, parseMethodDescriptor y.desc = some sig → argsL.length = sig.parameters.length) (hst : st = argsL.reverse ++ .ref a :: rest) (hW : (rest.map fun v => v.category).sum ≤ W) (hd : Dc code pc (.invokevirtual i) 3 q) (g : ∀ T v h', Q' v h' → St n0 p l e R s m args below meth c (k + rm.cells) (n + rm.slots) h' T → Wp n0 p e R s below Q T (mkF m q Ls (v.toList ++ rest))) : Wp n0 p e R s below Q T (mkF m pc Ls st) := by
  obtain ⟨hx, hby, hml, -, -, hown, hZ, hmn⟩ := K; obtain ⟨locs, S, e1, N, z⟩ := S; obtain ⟨hd, rfl⟩ := hd; subst hst has
  obtain ⟨cq, kq, qa, qb, qc⟩ := isOf hZ e1 E
  obtain ⟨v1, _, ⟨T1, L1, k1, n1⟩, -, S1, ⟨Lc1, hQ1, l1, y1, z1⟩, st1⟩ := S.virtualBack hx (y := y) (z := y) hown (mvT hZ w1) (mvT hZ w2) (notFace_of_selects (args := #[]) (mvT hZ w3)) (mvT hZ w3) (mvT hZ w6) hy (backOf (W := W) (Q := fun v h L => Q' v h ∧ n0 ≤ h.size ∧ Fr n0 L) M hZ w4 w5 hfr hlo) qa qc (g := mkF m pc Ls (argsL.reverse ++ .ref a :: rest)) rfl (by rw [hml]; exact hsz) (Steps.refl _) (argsL := argsL) (rest := rest) hlen rfl (by show 2 * 0 + _ ≤ _; omega) (hb hby hd) (fun _ _ => ⟨rfl, e1, hce, hsl⟩)
  dsimp only [Pt.U, Pt.locs, Pt.cells, Pt.slots] at S1 l1 y1 z1 st1 hQ1
  subst l1 y1 z1
  exact wp_mono (fun t hr => st1.trans hr) (g T1 v1 T1.heap hQ1.1 ⟨_, S1, rfl, Fr.app N hQ1.2.2, hQ1.2.1⟩)
theorem callP (K : Cx own code mL ret mn n0 Z p l e R s m args below meth c) (S : St n0 p l e R s m args below meth c k n h T) {i mL' W : Nat} {y : MethodName} {bytes : ByteArray} {ret' : Option FieldType} {rm : Room} {as' : Array Value} {Q' : Option Value → Heap → Prop} {argsL : List Value} (M : Met n0 l Z y bytes mL' ret' rm [] as' h Q') (E : Exa Z h a y.cls) {y2 : MethodName} (hy2 : y2.cls = y.cls) (w1 : (Jvm.Cond.methodLink own i y).before a0 Z = true) (w2 : (Jvm.Cond.privateMethod y).before a0 Z = true) (w3 : (Jvm.Cond.selects y.cls y2 y2).before a0 Z = true) (w6 : (Jvm.Cond.instanceMethod y).before a0 Z = true) (w4 : (Jvm.Cond.code y bytes mL' ret').before a0 Z = true) (w5 : (Jvm.Cond.initialized y.cls).before a0 Z = true) (hy : y.cls ≠ "java/lang/invoke/MethodHandle" ∧ y.cls ≠ "java/lang/invoke/VarHandle") (hfr : rm.frames + 1 ≤ R.frames) (hlo : W + (mL' + 11) + rm.locals ≤ R.locals) (hce : k + rm.cells ≤ R.cells) (hsl : n + rm.slots ≤ R.slots) (hsz : Ls.size = mL) (has : (.ref a :: argsL).toArray = as') (hlen : ∀ sig, parseMethodDescriptor y.desc = some sig → argsL.length = sig.parameters.length) (hst : st = argsL.reverse ++ .ref a :: rest) (hW : (rest.map fun v => v.category).sum ≤ W) (hd : Dc code pc (.invokevirtual i) 3 q) (g : ∀ T v h', Q' v h' → St n0 p l e R s m args below meth c (k + rm.cells) (n + rm.slots) h' T → Wp n0 p e R s below Q T (mkF m q Ls (v.toList ++ rest))) : Wp n0 p e R s below Q T (mkF m pc Ls st) := by
  obtain ⟨hx, hby, hml, -, -, hown, hZ, hmn⟩ := K; obtain ⟨locs, S, e1, N, z⟩ := S; obtain ⟨hd, rfl⟩ := hd; subst hst has
  obtain ⟨cq, q1, q2⟩ := E.cell
  have w3' : (Jvm.Cond.selects y.cls y2 y2).before (args := #[]) s = true := mvT hZ w3
  have wp' := Cond.privateMethod_at (mvP hZ w2 (args := #[]))
  have w6' : (Jvm.Cond.instanceMethod y).before args s = true := mvT hZ w6
  obtain ⟨c1, r1, m1, f1, f2, f3, f4, k2, f5, f6⟩ := Cond.selects_spec w3'
  have f7 : s.vm.findClass y.cls = some m1.cls := by rw [← hy2]; exact findClass_of_methodNamed f3
  have hsel : (Jvm.Cond.selects y.cls y y).before args s = true := Stand.selects_self_of_private f7 f5 f6 wp' w6' hy
  obtain ⟨v1, _, ⟨T1, L1, k1, n1⟩, -, S1, ⟨Lc1, hQ1, l1, y1, z1⟩, st1⟩ := S.privateBack hx (y := y) hown (mvT hZ w1) w6' hsel wp' (mvT hZ w4) hy (backOf (W := W) (Q := fun v h L => Q' v h ∧ n0 ≤ h.size ∧ Fr n0 L) M hZ w4 w5 hfr hlo) (g := mkF m pc Ls (argsL.reverse ++ .ref a :: rest)) rfl (by rw [hml]; exact hsz) (Steps.refl _) (a := a) (by rw [e1]; exact q1) q2 (argsL := argsL) (rest := rest) hlen rfl (by show 2 * 0 + _ ≤ _; omega) (hb hby hd) (fun _ _ => ⟨rfl, e1, hce, hsl⟩)
  dsimp only [Pt.U, Pt.locs, Pt.cells, Pt.slots] at S1 l1 y1 z1 st1 hQ1
  subst l1 y1 z1
  exact wp_mono (fun t hr => st1.trans hr) (g T1 v1 T1.heap hQ1.1 ⟨_, S1, rfl, Fr.app N hQ1.2.2, hQ1.2.1⟩)
end Kit
end Jvm.Own
namespace Jvm.Pilot.@@N@@
open Jvm Jvm.ClassFile Sem Op Lib Jvm.Free Jvm.Stand Jvm.LawKit Jvm.RoadKit Bundle Jvm.Pilot.@@N@@.Jvm.D Jvm.Own
theorem hwi {a0 : Array Value} {Z : State} (hw : ∀ d ∈ tables_1, d.before a0 Z = true) (i : Nat) {d : Jvm.Cond} (h : tables_1[i]? = some d) : d.before a0 Z = true := hw _ (List.mem_of_getElem? h)
theorem own_getD {xs : List Int32} {k : Nat} (h : k < xs.length) : (xs.map Value.int)[k]? = some (.int (xs.getD k 0)) := by
  simp [List.getElem?_map, h]
theorem own_nb (x : Int32) : nar .byte (nar .byte x) = nar .byte x := by simp [nar]
theorem own_five {x : Int32} (h0 : 0 ≤ x.toInt) (h1 : x.toInt < 5) : x = 0 ∨ x = 1 ∨ x = 2 ∨ x = 3 ∨ x = 4 := by
  have : x.toInt = 0 ∨ x.toInt = 1 ∨ x.toInt = 2 ∨ x.toInt = 3 ∨ x.toInt = 4 := by omega
  rcases this with q | q | q | q | q
  · exact Or.inl (own_eqz q)
  · exact Or.inr (Or.inl (own_eqz q))
  · exact Or.inr (Or.inr (Or.inl (own_eqz q)))
  · exact Or.inr (Or.inr (Or.inr (Or.inl (own_eqz q))))
  · exact Or.inr (Or.inr (Or.inr (Or.inr (own_eqz q))))
theorem d1_0 : Dc method_2_code 0 (.iload_n 3) 1 1 := ⟨by decide +kernel, rfl⟩
theorem d1_1 : Dc method_2_code 1 (.bipush 8) 2 3 := ⟨by decide +kernel, rfl⟩
theorem d1_3 : Dc method_2_code 3 (.iload_n 2) 1 4 := ⟨by decide +kernel, rfl⟩
theorem d1_4 : Dc method_2_code 4 (.iadd) 1 5 := ⟨by decide +kernel, rfl⟩
theorem d1_5 : Dc method_2_code 5 (.iushr) 1 6 := ⟨by decide +kernel, rfl⟩
theorem d1_6 : Dc method_2_code 6 (.iconst 1) 1 7 := ⟨by decide +kernel, rfl⟩
theorem d1_7 : Dc method_2_code 7 (.iand) 1 8 := ⟨by decide +kernel, rfl⟩
theorem d1_8 : Bc method_2_code 8 (.ifCond .eq 17) (17) 11 25 := ⟨by decide +kernel, rfl, by decide, by decide⟩
theorem d1_11 : Dc method_2_code 11 (.iload_n 1) 1 12 := ⟨by decide +kernel, rfl⟩
theorem d1_12 : Dc method_2_code 12 (.iload_n 2) 1 13 := ⟨by decide +kernel, rfl⟩
theorem d1_13 : Dc method_2_code 13 (.iadd) 1 14 := ⟨by decide +kernel, rfl⟩
theorem d1_14 : Dc method_2_code 14 (.aload_n 0) 1 15 := ⟨by decide +kernel, rfl⟩
theorem d1_15 : Dc method_2_code 15 (.arraylength) 1 16 := ⟨by decide +kernel, rfl⟩
theorem d1_16 : Bc method_2_code 16 (.if_icmp .ge 9) (9) 19 25 := ⟨by decide +kernel, rfl, by decide, by decide⟩
theorem d1_19 : Dc method_2_code 19 (.aload_n 0) 1 20 := ⟨by decide +kernel, rfl⟩
theorem d1_20 : Dc method_2_code 20 (.iload_n 1) 1 21 := ⟨by decide +kernel, rfl⟩
theorem d1_21 : Dc method_2_code 21 (.iload_n 2) 1 22 := ⟨by decide +kernel, rfl⟩
theorem d1_22 : Dc method_2_code 22 (.iadd) 1 23 := ⟨by decide +kernel, rfl⟩
theorem d1_23 : Dc method_2_code 23 (.baload) 1 24 := ⟨by decide +kernel, rfl⟩
theorem d1_24 : Dc method_2_code 24 (.ireturn) 1 25 := ⟨by decide +kernel, rfl⟩
theorem d1_25 : Dc method_2_code 25 (.lload 4) 2 27 := ⟨by decide +kernel, rfl⟩
theorem d1_27 : Dc method_2_code 27 (.bipush 8) 2 29 := ⟨by decide +kernel, rfl⟩
theorem d1_29 : Dc method_2_code 29 (.iload_n 2) 1 30 := ⟨by decide +kernel, rfl⟩
theorem d1_30 : Dc method_2_code 30 (.imul) 1 31 := ⟨by decide +kernel, rfl⟩
theorem d1_31 : Dc method_2_code 31 (.lushr) 1 32 := ⟨by decide +kernel, rfl⟩
theorem d1_32 : Dc method_2_code 32 (.l2i) 1 33 := ⟨by decide +kernel, rfl⟩
theorem d1_33 : Dc method_2_code 33 (.i2b) 1 34 := ⟨by decide +kernel, rfl⟩
theorem d1_34 : Dc method_2_code 34 (.ireturn) 1 35 := ⟨by decide +kernel, rfl⟩
theorem ef_pre (m : MethodId) (v : Addr) (fr : Int32) (i : Int32) (sx : Int32) (pL : Int64) (xs : List Int32) : entryFrame m #[.ref v, .int fr, .int i, .int sx, .long pL] 6 = mkF m 0 #[.val (.ref v), .val (.int fr), .val (.int i), .val (.int sx), .val (.long pL), .second] [] := by first | (simp [entryFrame, mkF, argsToLocals, Value.category]; done) | rfl
set_option maxRecDepth 65536 in
set_option maxHeartbeats 40000000 in
theorem m_pre (l : Launch) (Z : State) (a0 : Array Value) (hw : ∀ d ∈ tables_1, d.before a0 Z = true) (n0 : Nat) (v : Addr) (fr : Int32) (i : Int32) (sx : Int32) (pL : Int64) (xs : List Int32) (h : Heap) (hn : n0 ≤ h.size) (A_v : VA Z h v .byte (xs.map Value.int)) (hl : xs.length = 5) (p0 : 0 ≤ fr.toInt) (p1 : fr.toInt ≤ 5) (p2 : 0 ≤ i.toInt) (p3 : i.toInt ≤ 4) : Met n0 l Z (⟨"com/example/vilkarsbok/vilkarsbok/TextLinesStartsWithPinLaw", "pre", "([BIIIJ)B"⟩ : MethodName) method_2_code 6 (some .byte) ({ frames := 0, cells := 0, slots := 0, locals := 0 } : Room) [] #[.ref v, .int fr, .int i, .int sx, .long pL] h (Pr (fun r => nar .byte r = r) h) := by
  refine enter (plainFor_of_name (by first | (simp [plainName, overriddenIn]; done) | decide +kernel)) (fun m => ef_pre m v fr i sx pL xs) hn ?_
  intro p e s m below meth c T K S
  refine iload_n K S rfl d1_0 ?_
  refine bipush K S (x := (8 : Int32)) rfl d1_1 ?_
  refine iload_n K S rfl d1_3 ?_
  refine iadd K S d1_4 ?_
  refine nmI fun t4 ht4 => ?_
  have ft4 : (t4.toInt - (8 + i.toInt)) % 4294967296 = 0 := by rw [ht4]; exact c_iadd (8 : Int32) i
  have rt4 := rng32 t4
  refine iushr K S d1_5 ?_
  refine nmI fun t5 ht5 => ?_
  have rt5 := rng32 t5
  refine iconst K S (x := (1 : Int32)) rfl d1_6 ?_
  refine iand K S d1_7 ?_
  refine nmI fun t7 ht7 => ?_
  have ft7 : t7.toInt = t5.toInt % 2 := by rw [ht7]; exact c_mask t5 (1 : Int32) 1 (by decide) (by decide)
  have rt7 := rng32 t7
  refine ificz_eq K S d1_8 (fun (c8 : t7.toInt = 0) => ?_) (fun (c8 : ¬ t7.toInt = 0) => ?_)
  · refine lload K S rfl d1_25 ?_
    refine bipush K S (x := (8 : Int32)) rfl d1_27 ?_
    refine iload_n K S rfl d1_29 ?_
    refine imul K S d1_30 ?_
    refine nmI fun t30 ht30 => ?_
    have ft30 : (t30.toInt - (8 * i.toInt)) % 4294967296 = 0 := by rw [ht30]; exact c_imul (8 : Int32) i
    have rt30 := rng32 t30
    refine lushr K S d1_31 ?_
    refine nmL fun t31 ht31 => ?_
    have rt31 := rng64 t31
    refine l2i K S d1_32 ?_
    refine nmI fun t32 ht32 => ?_
    have ft32 : (t32.toInt - t31.toInt) % 4294967296 = 0 := by rw [ht32]; exact c_l2i t31
    have rt32 := rng32 t32
    refine i2b K S d1_33 ?_
    refine nmI fun t33 ht33 => ?_
    have ft33 : (t33.toInt - t32.toInt) % 256 = 0 ∧ -128 ≤ t33.toInt ∧ t33.toInt < 128 := by rw [ht33]; exact c_i2b t32
    have rt33 := rng32 t33
    refine retn K S (by simp) (y := nar .byte t33) rfl (by decide) (by decide) d1_34 ?_
    exact ⟨_, rfl, own_nb _, rfl⟩
  refine iload_n K S rfl d1_11 ?_
  refine iload_n K S rfl d1_12 ?_
  refine iadd K S d1_13 ?_
  refine nmI fun t13 ht13 => ?_
  have ft13 : (t13.toInt - (fr.toInt + i.toInt)) % 4294967296 = 0 := by rw [ht13]; exact c_iadd fr i
  have rt13 := rng32 t13
  refine aload_n K S rfl rfl d1_14 ?_
  refine alen K S A_v (x := (5 : Int32)) (by rw [List.length_map, hl]; rfl) d1_15 ?_
  refine icmpz_ge K S d1_16 (fun (c16 : ¬ t13.toInt < 5) => ?_) (fun (c16 : t13.toInt < 5) => ?_)
  · refine lload K S rfl d1_25 ?_
    refine bipush K S (x := (8 : Int32)) rfl d1_27 ?_
    refine iload_n K S rfl d1_29 ?_
    refine imul K S d1_30 ?_
    refine nmI fun t30 ht30 => ?_
    have ft30 : (t30.toInt - (8 * i.toInt)) % 4294967296 = 0 := by rw [ht30]; exact c_imul (8 : Int32) i
    have rt30 := rng32 t30
    refine lushr K S d1_31 ?_
    refine nmL fun t31 ht31 => ?_
    have rt31 := rng64 t31
    refine l2i K S d1_32 ?_
    refine nmI fun t32 ht32 => ?_
    have ft32 : (t32.toInt - t31.toInt) % 4294967296 = 0 := by rw [ht32]; exact c_l2i t31
    have rt32 := rng32 t32
    refine i2b K S d1_33 ?_
    refine nmI fun t33 ht33 => ?_
    have ft33 : (t33.toInt - t32.toInt) % 256 = 0 ∧ -128 ≤ t33.toInt ∧ t33.toInt < 128 := by rw [ht33]; exact c_i2b t32
    have rt33 := rng32 t33
    refine retn K S (by simp) (y := nar .byte t33) rfl (by decide) (by decide) d1_34 ?_
    exact ⟨_, rfl, own_nb _, rfl⟩
  refine aload_n K S rfl rfl d1_19 ?_
  refine iload_n K S rfl d1_20 ?_
  refine iload_n K S rfl d1_21 ?_
  refine iadd K S d1_22 ?_
  refine nmI fun t22 ht22 => ?_
  have ft22 : (t22.toInt - (fr.toInt + i.toInt)) % 4294967296 = 0 := by rw [ht22]; exact c_iadd fr i
  have rt22 := rng32 t22
  refine baload K S (i := t22.toInt.toNat) A_v (own_ix (by omega)) (own_getD (by omega)) d1_23 ?_
  refine retn K S (by simp) (y := nar .byte (xs.getD t22.toInt.toNat 0)) rfl (by decide) (by decide) d1_24 ?_
  exact ⟨_, rfl, own_nb _, rfl⟩

theorem d2_0 : Dc prog_67_method_5_code 0 (.iload_n 2) 1 1 := ⟨by decide +kernel, rfl⟩
theorem d2_1 : Dc prog_67_method_5_code 1 (.iload_n 1) 1 2 := ⟨by decide +kernel, rfl⟩
theorem d2_2 : Dc prog_67_method_5_code 2 (.isub) 1 3 := ⟨by decide +kernel, rfl⟩
theorem d2_3 : Dc prog_67_method_5_code 3 (.aload_n 3) 1 4 := ⟨by decide +kernel, rfl⟩
theorem d2_4 : Dc prog_67_method_5_code 4 (.arraylength) 1 5 := ⟨by decide +kernel, rfl⟩
theorem d2_5 : Bc prog_67_method_5_code 5 (.if_icmp .ge 5) (5) 8 10 := ⟨by decide +kernel, rfl, by decide, by decide⟩
theorem d2_8 : Dc prog_67_method_5_code 8 (.iconst 0) 1 9 := ⟨by decide +kernel, rfl⟩
theorem d2_9 : Dc prog_67_method_5_code 9 (.ireturn) 1 10 := ⟨by decide +kernel, rfl⟩
theorem d2_10 : Dc prog_67_method_5_code 10 (.iconst 0) 1 11 := ⟨by decide +kernel, rfl⟩
theorem d2_11 : Dc prog_67_method_5_code 11 (.istore 4) 2 13 := ⟨by decide +kernel, rfl⟩
theorem d2_13 : Dc prog_67_method_5_code 13 (.iload 4) 2 15 := ⟨by decide +kernel, rfl⟩
theorem d2_15 : Dc prog_67_method_5_code 15 (.aload_n 3) 1 16 := ⟨by decide +kernel, rfl⟩
theorem d2_16 : Dc prog_67_method_5_code 16 (.arraylength) 1 17 := ⟨by decide +kernel, rfl⟩
theorem d2_17 : Bc prog_67_method_5_code 17 (.if_icmp .ge 24) (24) 20 41 := ⟨by decide +kernel, rfl, by decide, by decide⟩
theorem d2_20 : Dc prog_67_method_5_code 20 (.aload_n 0) 1 21 := ⟨by decide +kernel, rfl⟩
theorem d2_21 : Dc prog_67_method_5_code 21 (.iload_n 1) 1 22 := ⟨by decide +kernel, rfl⟩
theorem d2_22 : Dc prog_67_method_5_code 22 (.iload 4) 2 24 := ⟨by decide +kernel, rfl⟩
theorem d2_24 : Dc prog_67_method_5_code 24 (.iadd) 1 25 := ⟨by decide +kernel, rfl⟩
theorem d2_25 : Dc prog_67_method_5_code 25 (.baload) 1 26 := ⟨by decide +kernel, rfl⟩
theorem d2_26 : Dc prog_67_method_5_code 26 (.aload_n 3) 1 27 := ⟨by decide +kernel, rfl⟩
theorem d2_27 : Dc prog_67_method_5_code 27 (.iload 4) 2 29 := ⟨by decide +kernel, rfl⟩
theorem d2_29 : Dc prog_67_method_5_code 29 (.baload) 1 30 := ⟨by decide +kernel, rfl⟩
theorem d2_30 : Bc prog_67_method_5_code 30 (.if_icmp .eq 5) (5) 33 35 := ⟨by decide +kernel, rfl, by decide, by decide⟩
theorem d2_33 : Dc prog_67_method_5_code 33 (.iconst 0) 1 34 := ⟨by decide +kernel, rfl⟩
theorem d2_34 : Dc prog_67_method_5_code 34 (.ireturn) 1 35 := ⟨by decide +kernel, rfl⟩
theorem d2_35 : Dc prog_67_method_5_code 35 (.iinc 4 1) 3 38 := ⟨by decide +kernel, rfl⟩
theorem d2_38 : Bc prog_67_method_5_code 38 (.goto (-25)) (-25) 41 13 := ⟨by decide +kernel, rfl, by decide, by decide⟩
theorem d2_41 : Dc prog_67_method_5_code 41 (.iconst 1) 1 42 := ⟨by decide +kernel, rfl⟩
theorem d2_42 : Dc prog_67_method_5_code 42 (.ireturn) 1 43 := ⟨by decide +kernel, rfl⟩
theorem ef_sw (m : MethodId) (v : Addr) (fr : Int32) (tt : Int32) (u : Addr) (xs : List Int32) (ys : List Int32) (ny : Int32) : entryFrame m #[.ref v, .int fr, .int tt, .ref u] 5 = mkF m 0 #[.val (.ref v), .val (.int fr), .val (.int tt), .val (.ref u), .unset] [] := by first | (simp [entryFrame, mkF, argsToLocals, Value.category]; done) | rfl
set_option maxRecDepth 65536 in
set_option maxHeartbeats 40000000 in
theorem m_sw (l : Launch) (Z : State) (a0 : Array Value) (hw : ∀ d ∈ tables_1, d.before a0 Z = true) (n0 : Nat) (v : Addr) (fr : Int32) (tt : Int32) (u : Addr) (xs : List Int32) (ys : List Int32) (ny : Int32) (h : Heap) (hn : n0 ≤ h.size) (A_v : VA Z h v .byte (xs.map Value.int)) (A_u : VA Z h u .byte (ys.map Value.int)) (hn1 : ys.length.toInt32 = ny) (hn2 : ny.toInt = (ys.length : Int)) (p0 : 0 ≤ fr.toInt) (p1 : fr.toInt ≤ tt.toInt) (p2 : tt.toInt ≤ (xs.length : Int)) : Met n0 l Z (⟨"com/example/vilkarsbok/vilkarsbok/TextLines", "startsWith", "([BII[B)Z"⟩ : MethodName) prog_67_method_5_code 5 (some .boolean) ({ frames := 0, cells := 0, slots := 0, locals := 0 } : Room) [] #[.ref v, .int fr, .int tt, .ref u] h (Pr (fun r => (r.toInt = 1 ∧ (ys.length : Int) ≤ tt.toInt - fr.toInt ∧ ∀ j : Nat, j < ys.length → xs.getD (fr.toInt.toNat + j) 0 = ys.getD j 0) ∨ (r.toInt = 0 ∧ (tt.toInt - fr.toInt < (ys.length : Int) ∨ ∃ j : Nat, j < ys.length ∧ ¬ xs.getD (fr.toInt.toNat + j) 0 = ys.getD j 0))) h) := by
  refine enter (plainFor_of_name (by first | (simp [plainName, overriddenIn]; done) | decide +kernel)) (fun m => ef_sw m v fr tt u xs ys ny) hn ?_
  intro p e s m below meth c T K S
  have rt := rng32 tt
  have rf := rng32 fr
  have loop : ∀ (d : Nat) (i : Int32) (T : State), St n0 p l e ({ frames := 0, cells := 0, slots := 0, locals := 0 } : Room) s m #[.ref v, .int fr, .int tt, .ref u] below meth c 0 0 h T → d = (ny.toInt - i.toInt).toNat → 0 ≤ i.toInt → ny.toInt ≤ tt.toInt - fr.toInt → (∀ j : Nat, (j : Int) < i.toInt → xs.getD (fr.toInt.toNat + j) 0 = ys.getD j 0) → Wp n0 p e ({ frames := 0, cells := 0, slots := 0, locals := 0 } : Room) s below (Pr (fun r => (r.toInt = 1 ∧ (ys.length : Int) ≤ tt.toInt - fr.toInt ∧ ∀ j : Nat, j < ys.length → xs.getD (fr.toInt.toNat + j) 0 = ys.getD j 0) ∨ (r.toInt = 0 ∧ (tt.toInt - fr.toInt < (ys.length : Int) ∨ ∃ j : Nat, j < ys.length ∧ ¬ xs.getD (fr.toInt.toNat + j) 0 = ys.getD j 0))) h) T (mkF m 13 #[.val (.ref v), .val (.int fr), .val (.int tt), .val (.ref u), .val (.int i)] []) := by
    intro d
    induction d using Nat.strongRecOn with
    | ind d ih =>
      intro i T S hd hi hle hj
      have ri := rng32 i
      refine iload K S rfl d2_13 ?_
      refine aload_n K S rfl rfl d2_15 ?_
      refine alen K S A_u (x := ny) (by rw [List.length_map]; exact hn1) d2_16 ?_
      refine icmpz_ge K S d2_17 (fun (c17 : ¬ i.toInt < ny.toInt) => ?_) (fun (c17 : i.toInt < ny.toInt) => ?_)
      · refine iconst K S (x := (1 : Int32)) rfl d2_41 ?_
        refine retn K S (by simp) (y := (1 : Int32)) rfl (by decide) (by decide) d2_42 ?_
        exact ⟨_, rfl, Or.inl ⟨rfl, by omega, fun j a => hj j (by omega)⟩, rfl⟩
      refine aload_n K S rfl rfl d2_20 ?_
      refine iload_n K S rfl d2_21 ?_
      refine iload K S rfl d2_22 ?_
      refine iadd K S d2_24 ?_
      refine nmI fun t24 ht24 => ?_
      have ft24 : (t24.toInt - (fr.toInt + i.toInt)) % 4294967296 = 0 := by rw [ht24]; exact c_iadd fr i
      have rt24 := rng32 t24
      refine baload K S (i := fr.toInt.toNat + i.toInt.toNat) A_v ⟨own_nneg (by omega), by show t24.toInt.toNat = _; omega⟩ (own_getD (by omega)) d2_25 ?_
      refine nmI fun u25 hu25 => ?_
      refine aload_n K S rfl rfl d2_26 ?_
      refine iload K S rfl d2_27 ?_
      refine baload K S (i := i.toInt.toNat) A_u (own_ix (by omega)) (own_getD (by omega)) d2_29 ?_
      refine nmI fun u29 hu29 => ?_
      refine icmpz_eq K S d2_30 (fun (c30 : u25.toInt = u29.toInt) => ?_) (fun (c30 : ¬ u25.toInt = u29.toInt) => ?_)
      · refine iinc K S (y := (1 : Int32)) (x := i) (l' := #[.val (.ref v), .val (.int fr), .val (.int tt), .val (.ref u), .val (.int (i + (1 : Int32)))]) rfl rfl rfl d2_35 ?_
        obtain ⟨v35, hv35⟩ : ∃ z, z = i + (1 : Int32) := ⟨_, rfl⟩
        rw [← hv35]
        have fv35 : (v35.toInt - (i.toInt + 1)) % 4294967296 = 0 := by rw [hv35]; exact c_iadd i (1 : Int32)
        have rv35 := rng32 v35
        refine goto K S d2_38 ?_
        refine ih (ny.toInt - v35.toInt).toNat (by omega) v35 T S rfl (by omega) hle (fun j a => ?_)
        rcases Int.lt_or_le (j : Int) i.toInt with q | q
        · exact hj j q
        have e : j = i.toInt.toNat := by omega
        rw [e, ← hu25, ← hu29]; exact own_eqz c30
      refine iconst K S (x := (0 : Int32)) rfl d2_33 ?_
      refine retn K S (by simp) (y := (0 : Int32)) rfl (by decide) (by decide) d2_34 ?_
      exact ⟨_, rfl, Or.inr ⟨rfl, Or.inr ⟨i.toInt.toNat, by omega, by rw [← hu25, ← hu29]; exact fun q => c30 (congrArg Int32.toInt q)⟩⟩, rfl⟩
  refine iload_n K S rfl d2_0 ?_
  refine iload_n K S rfl d2_1 ?_
  refine isub K S d2_2 ?_
  refine nmI fun t2 ht2 => ?_
  have ft2 : (t2.toInt - (tt.toInt - fr.toInt)) % 4294967296 = 0 := by rw [ht2]; exact c_isub tt fr
  have rt2 := rng32 t2
  refine aload_n K S rfl rfl d2_3 ?_
  refine alen K S A_u (x := ny) (by rw [List.length_map]; exact hn1) d2_4 ?_
  refine icmpz_ge K S d2_5 (fun (c5 : ¬ t2.toInt < ny.toInt) => ?_) (fun (c5 : t2.toInt < ny.toInt) => ?_)
  · refine iconst K S (x := (0 : Int32)) rfl d2_10 ?_
    refine istore K S (l' := #[.val (.ref v), .val (.int fr), .val (.int tt), .val (.ref u), .val (.int (0 : Int32))]) rfl d2_11 ?_
    exact loop _ _ T S rfl (by decide) (by omega) (fun j a => absurd a (by have z0 : (0 : Int32).toInt = 0 := rfl; omega))
  refine iconst K S (x := (0 : Int32)) rfl d2_8 ?_
  refine retn K S (by simp) (y := (0 : Int32)) rfl (by decide) (by decide) d2_9 ?_
  exact ⟨_, rfl, Or.inr ⟨rfl, Or.inl (by omega)⟩, rfl⟩

theorem d0_0 : Dc code 0 (.iconst 5) 1 1 := ⟨at_0, rfl⟩
theorem d0_1 : Dc code 1 (.newarray .byte) 2 3 := ⟨at_1, rfl⟩
theorem d0_3 : Dc code 3 (.astore 6) 2 5 := ⟨at_3, rfl⟩
theorem d0_5 : Dc code 5 (.aload 6) 2 7 := ⟨at_5, rfl⟩
theorem d0_7 : Dc code 7 (.iconst 0) 1 8 := ⟨at_7, rfl⟩
theorem d0_8 : Dc code 8 (.lload_n 0) 1 9 := ⟨at_8, rfl⟩
theorem d0_9 : Dc code 9 (.l2i) 1 10 := ⟨at_9, rfl⟩
theorem d0_10 : Dc code 10 (.i2b) 1 11 := ⟨at_10, rfl⟩
theorem d0_11 : Dc code 11 (.bastore) 1 12 := ⟨at_11, rfl⟩
theorem d0_12 : Dc code 12 (.aload 6) 2 14 := ⟨at_12, rfl⟩
theorem d0_14 : Dc code 14 (.iconst 1) 1 15 := ⟨at_14, rfl⟩
theorem d0_15 : Dc code 15 (.lload_n 0) 1 16 := ⟨at_15, rfl⟩
theorem d0_16 : Dc code 16 (.bipush 8) 2 18 := ⟨at_16, rfl⟩
theorem d0_18 : Dc code 18 (.lushr) 1 19 := ⟨at_18, rfl⟩
theorem d0_19 : Dc code 19 (.l2i) 1 20 := ⟨at_19, rfl⟩
theorem d0_20 : Dc code 20 (.i2b) 1 21 := ⟨at_20, rfl⟩
theorem d0_21 : Dc code 21 (.bastore) 1 22 := ⟨at_21, rfl⟩
theorem d0_22 : Dc code 22 (.aload 6) 2 24 := ⟨at_22, rfl⟩
theorem d0_24 : Dc code 24 (.iconst 2) 1 25 := ⟨at_24, rfl⟩
theorem d0_25 : Dc code 25 (.lload_n 0) 1 26 := ⟨at_25, rfl⟩
theorem d0_26 : Dc code 26 (.bipush 16) 2 28 := ⟨at_26, rfl⟩
theorem d0_28 : Dc code 28 (.lushr) 1 29 := ⟨at_28, rfl⟩
theorem d0_29 : Dc code 29 (.l2i) 1 30 := ⟨at_29, rfl⟩
theorem d0_30 : Dc code 30 (.i2b) 1 31 := ⟨at_30, rfl⟩
theorem d0_31 : Dc code 31 (.bastore) 1 32 := ⟨at_31, rfl⟩
theorem d0_32 : Dc code 32 (.aload 6) 2 34 := ⟨at_32, rfl⟩
theorem d0_34 : Dc code 34 (.iconst 3) 1 35 := ⟨at_34, rfl⟩
theorem d0_35 : Dc code 35 (.lload_n 0) 1 36 := ⟨at_35, rfl⟩
theorem d0_36 : Dc code 36 (.bipush 24) 2 38 := ⟨at_36, rfl⟩
theorem d0_38 : Dc code 38 (.lushr) 1 39 := ⟨at_38, rfl⟩
theorem d0_39 : Dc code 39 (.l2i) 1 40 := ⟨at_39, rfl⟩
theorem d0_40 : Dc code 40 (.i2b) 1 41 := ⟨at_40, rfl⟩
theorem d0_41 : Dc code 41 (.bastore) 1 42 := ⟨at_41, rfl⟩
theorem d0_42 : Dc code 42 (.aload 6) 2 44 := ⟨at_42, rfl⟩
theorem d0_44 : Dc code 44 (.iconst 4) 1 45 := ⟨at_44, rfl⟩
theorem d0_45 : Dc code 45 (.lload_n 0) 1 46 := ⟨at_45, rfl⟩
theorem d0_46 : Dc code 46 (.bipush 32) 2 48 := ⟨at_46, rfl⟩
theorem d0_48 : Dc code 48 (.lushr) 1 49 := ⟨at_48, rfl⟩
theorem d0_49 : Dc code 49 (.l2i) 1 50 := ⟨at_49, rfl⟩
theorem d0_50 : Dc code 50 (.i2b) 1 51 := ⟨at_50, rfl⟩
theorem d0_51 : Dc code 51 (.bastore) 1 52 := ⟨at_51, rfl⟩
theorem d0_52 : Dc code 52 (.iload 4) 2 54 := ⟨at_52, rfl⟩
theorem d0_54 : Dc code 54 (.ldc 7) 2 56 := ⟨at_54, rfl⟩
theorem d0_56 : Dc code 56 (.iand) 1 57 := ⟨at_56, rfl⟩
theorem d0_57 : Dc code 57 (.bipush 6) 2 59 := ⟨at_57, rfl⟩
theorem d0_59 : Dc code 59 (.irem) 1 60 := ⟨at_59, rfl⟩
theorem d0_60 : Dc code 60 (.istore 7) 2 62 := ⟨at_60, rfl⟩
theorem d0_62 : Dc code 62 (.iload 7) 2 64 := ⟨at_62, rfl⟩
theorem d0_64 : Dc code 64 (.iload 4) 2 66 := ⟨at_64, rfl⟩
theorem d0_66 : Dc code 66 (.bipush 8) 2 68 := ⟨at_66, rfl⟩
theorem d0_68 : Dc code 68 (.iushr) 1 69 := ⟨at_68, rfl⟩
theorem d0_69 : Dc code 69 (.bipush 6) 2 71 := ⟨at_69, rfl⟩
theorem d0_71 : Dc code 71 (.iload 7) 2 73 := ⟨at_71, rfl⟩
theorem d0_73 : Dc code 73 (.isub) 1 74 := ⟨at_73, rfl⟩
theorem d0_74 : Dc code 74 (.irem) 1 75 := ⟨at_74, rfl⟩
theorem d0_75 : Dc code 75 (.iadd) 1 76 := ⟨at_75, rfl⟩
theorem d0_76 : Dc code 76 (.istore 8) 2 78 := ⟨at_76, rfl⟩
theorem d0_78 : Dc code 78 (.iload 5) 2 80 := ⟨at_78, rfl⟩
theorem d0_80 : Dc code 80 (.ldc 7) 2 82 := ⟨at_80, rfl⟩
theorem d0_82 : Dc code 82 (.iand) 1 83 := ⟨at_82, rfl⟩
theorem d0_83 : Dc code 83 (.iconst 5) 1 84 := ⟨at_83, rfl⟩
theorem d0_84 : Dc code 84 (.irem) 1 85 := ⟨at_84, rfl⟩
theorem d0_85 : Dc code 85 (.istore 9) 2 87 := ⟨at_85, rfl⟩
theorem d0_87 : Dc code 87 (.iload 9) 2 89 := ⟨at_87, rfl⟩
theorem d0_89 : Dc code 89 (.newarray .byte) 2 91 := ⟨at_89, rfl⟩
theorem d0_91 : Dc code 91 (.astore 10) 2 93 := ⟨at_91, rfl⟩
theorem d0_93 : Dc code 93 (.iload 9) 2 95 := ⟨at_93, rfl⟩
theorem d0_95 : Bc code 95 (.ifCond .le 18) (18) 98 113 := ⟨at_95, rfl, by decide, by decide⟩
theorem d0_98 : Dc code 98 (.aload 10) 2 100 := ⟨at_98, rfl⟩
theorem d0_100 : Dc code 100 (.iconst 0) 1 101 := ⟨at_100, rfl⟩
theorem d0_101 : Dc code 101 (.aload 6) 2 103 := ⟨at_101, rfl⟩
theorem d0_103 : Dc code 103 (.iload 7) 2 105 := ⟨at_103, rfl⟩
theorem d0_105 : Dc code 105 (.iconst 0) 1 106 := ⟨at_105, rfl⟩
theorem d0_106 : Dc code 106 (.iload 5) 2 108 := ⟨at_106, rfl⟩
theorem d0_108 : Dc code 108 (.lload_n 2) 1 109 := ⟨at_108, rfl⟩
theorem d0_109 : Dc code 109 (.invokestatic 8) 3 112 := ⟨at_109, rfl⟩
theorem d0_112 : Dc code 112 (.bastore) 1 113 := ⟨at_112, rfl⟩
theorem d0_113 : Dc code 113 (.iload 9) 2 115 := ⟨at_113, rfl⟩
theorem d0_115 : Dc code 115 (.iconst 1) 1 116 := ⟨at_115, rfl⟩
theorem d0_116 : Bc code 116 (.if_icmp .le 18) (18) 119 134 := ⟨at_116, rfl, by decide, by decide⟩
theorem d0_119 : Dc code 119 (.aload 10) 2 121 := ⟨at_119, rfl⟩
theorem d0_121 : Dc code 121 (.iconst 1) 1 122 := ⟨at_121, rfl⟩
theorem d0_122 : Dc code 122 (.aload 6) 2 124 := ⟨at_122, rfl⟩
theorem d0_124 : Dc code 124 (.iload 7) 2 126 := ⟨at_124, rfl⟩
theorem d0_126 : Dc code 126 (.iconst 1) 1 127 := ⟨at_126, rfl⟩
theorem d0_127 : Dc code 127 (.iload 5) 2 129 := ⟨at_127, rfl⟩
theorem d0_129 : Dc code 129 (.lload_n 2) 1 130 := ⟨at_129, rfl⟩
theorem d0_130 : Dc code 130 (.invokestatic 8) 3 133 := ⟨at_130, rfl⟩
theorem d0_133 : Dc code 133 (.bastore) 1 134 := ⟨at_133, rfl⟩
theorem d0_134 : Dc code 134 (.iload 9) 2 136 := ⟨at_134, rfl⟩
theorem d0_136 : Dc code 136 (.iconst 2) 1 137 := ⟨at_136, rfl⟩
theorem d0_137 : Bc code 137 (.if_icmp .le 18) (18) 140 155 := ⟨at_137, rfl, by decide, by decide⟩
theorem d0_140 : Dc code 140 (.aload 10) 2 142 := ⟨at_140, rfl⟩
theorem d0_142 : Dc code 142 (.iconst 2) 1 143 := ⟨at_142, rfl⟩
theorem d0_143 : Dc code 143 (.aload 6) 2 145 := ⟨at_143, rfl⟩
theorem d0_145 : Dc code 145 (.iload 7) 2 147 := ⟨at_145, rfl⟩
theorem d0_147 : Dc code 147 (.iconst 2) 1 148 := ⟨at_147, rfl⟩
theorem d0_148 : Dc code 148 (.iload 5) 2 150 := ⟨at_148, rfl⟩
theorem d0_150 : Dc code 150 (.lload_n 2) 1 151 := ⟨at_150, rfl⟩
theorem d0_151 : Dc code 151 (.invokestatic 8) 3 154 := ⟨at_151, rfl⟩
theorem d0_154 : Dc code 154 (.bastore) 1 155 := ⟨at_154, rfl⟩
theorem d0_155 : Dc code 155 (.iload 9) 2 157 := ⟨at_155, rfl⟩
theorem d0_157 : Dc code 157 (.iconst 3) 1 158 := ⟨at_157, rfl⟩
theorem d0_158 : Bc code 158 (.if_icmp .le 18) (18) 161 176 := ⟨at_158, rfl, by decide, by decide⟩
theorem d0_161 : Dc code 161 (.aload 10) 2 163 := ⟨at_161, rfl⟩
theorem d0_163 : Dc code 163 (.iconst 3) 1 164 := ⟨at_163, rfl⟩
theorem d0_164 : Dc code 164 (.aload 6) 2 166 := ⟨at_164, rfl⟩
theorem d0_166 : Dc code 166 (.iload 7) 2 168 := ⟨at_166, rfl⟩
theorem d0_168 : Dc code 168 (.iconst 3) 1 169 := ⟨at_168, rfl⟩
theorem d0_169 : Dc code 169 (.iload 5) 2 171 := ⟨at_169, rfl⟩
theorem d0_171 : Dc code 171 (.lload_n 2) 1 172 := ⟨at_171, rfl⟩
theorem d0_172 : Dc code 172 (.invokestatic 8) 3 175 := ⟨at_172, rfl⟩
theorem d0_175 : Dc code 175 (.bastore) 1 176 := ⟨at_175, rfl⟩
theorem d0_176 : Dc code 176 (.iload 8) 2 178 := ⟨at_176, rfl⟩
theorem d0_178 : Dc code 178 (.iload 7) 2 180 := ⟨at_178, rfl⟩
theorem d0_180 : Dc code 180 (.isub) 1 181 := ⟨at_180, rfl⟩
theorem d0_181 : Dc code 181 (.iload 9) 2 183 := ⟨at_181, rfl⟩
theorem d0_183 : Bc code 183 (.if_icmp .lt 85) (85) 186 268 := ⟨at_183, rfl, by decide, by decide⟩
theorem d0_186 : Dc code 186 (.iload 9) 2 188 := ⟨at_186, rfl⟩
theorem d0_188 : Dc code 188 (.iconst 1) 1 189 := ⟨at_188, rfl⟩
theorem d0_189 : Bc code 189 (.if_icmp .lt 15) (15) 192 204 := ⟨at_189, rfl, by decide, by decide⟩
theorem d0_192 : Dc code 192 (.aload 6) 2 194 := ⟨at_192, rfl⟩
theorem d0_194 : Dc code 194 (.iload 7) 2 196 := ⟨at_194, rfl⟩
theorem d0_196 : Dc code 196 (.baload) 1 197 := ⟨at_196, rfl⟩
theorem d0_197 : Dc code 197 (.aload 10) 2 199 := ⟨at_197, rfl⟩
theorem d0_199 : Dc code 199 (.iconst 0) 1 200 := ⟨at_199, rfl⟩
theorem d0_200 : Dc code 200 (.baload) 1 201 := ⟨at_200, rfl⟩
theorem d0_201 : Bc code 201 (.if_icmp .ne 67) (67) 204 268 := ⟨at_201, rfl, by decide, by decide⟩
theorem d0_204 : Dc code 204 (.iload 9) 2 206 := ⟨at_204, rfl⟩
theorem d0_206 : Dc code 206 (.iconst 2) 1 207 := ⟨at_206, rfl⟩
theorem d0_207 : Bc code 207 (.if_icmp .lt 17) (17) 210 224 := ⟨at_207, rfl, by decide, by decide⟩
theorem d0_210 : Dc code 210 (.aload 6) 2 212 := ⟨at_210, rfl⟩
theorem d0_212 : Dc code 212 (.iload 7) 2 214 := ⟨at_212, rfl⟩
theorem d0_214 : Dc code 214 (.iconst 1) 1 215 := ⟨at_214, rfl⟩
theorem d0_215 : Dc code 215 (.iadd) 1 216 := ⟨at_215, rfl⟩
theorem d0_216 : Dc code 216 (.baload) 1 217 := ⟨at_216, rfl⟩
theorem d0_217 : Dc code 217 (.aload 10) 2 219 := ⟨at_217, rfl⟩
theorem d0_219 : Dc code 219 (.iconst 1) 1 220 := ⟨at_219, rfl⟩
theorem d0_220 : Dc code 220 (.baload) 1 221 := ⟨at_220, rfl⟩
theorem d0_221 : Bc code 221 (.if_icmp .ne 47) (47) 224 268 := ⟨at_221, rfl, by decide, by decide⟩
theorem d0_224 : Dc code 224 (.iload 9) 2 226 := ⟨at_224, rfl⟩
theorem d0_226 : Dc code 226 (.iconst 3) 1 227 := ⟨at_226, rfl⟩
theorem d0_227 : Bc code 227 (.if_icmp .lt 17) (17) 230 244 := ⟨at_227, rfl, by decide, by decide⟩
theorem d0_230 : Dc code 230 (.aload 6) 2 232 := ⟨at_230, rfl⟩
theorem d0_232 : Dc code 232 (.iload 7) 2 234 := ⟨at_232, rfl⟩
theorem d0_234 : Dc code 234 (.iconst 2) 1 235 := ⟨at_234, rfl⟩
theorem d0_235 : Dc code 235 (.iadd) 1 236 := ⟨at_235, rfl⟩
theorem d0_236 : Dc code 236 (.baload) 1 237 := ⟨at_236, rfl⟩
theorem d0_237 : Dc code 237 (.aload 10) 2 239 := ⟨at_237, rfl⟩
theorem d0_239 : Dc code 239 (.iconst 2) 1 240 := ⟨at_239, rfl⟩
theorem d0_240 : Dc code 240 (.baload) 1 241 := ⟨at_240, rfl⟩
theorem d0_241 : Bc code 241 (.if_icmp .ne 27) (27) 244 268 := ⟨at_241, rfl, by decide, by decide⟩
theorem d0_244 : Dc code 244 (.iload 9) 2 246 := ⟨at_244, rfl⟩
theorem d0_246 : Dc code 246 (.iconst 4) 1 247 := ⟨at_246, rfl⟩
theorem d0_247 : Bc code 247 (.if_icmp .lt 17) (17) 250 264 := ⟨at_247, rfl, by decide, by decide⟩
theorem d0_250 : Dc code 250 (.aload 6) 2 252 := ⟨at_250, rfl⟩
theorem d0_252 : Dc code 252 (.iload 7) 2 254 := ⟨at_252, rfl⟩
theorem d0_254 : Dc code 254 (.iconst 3) 1 255 := ⟨at_254, rfl⟩
theorem d0_255 : Dc code 255 (.iadd) 1 256 := ⟨at_255, rfl⟩
theorem d0_256 : Dc code 256 (.baload) 1 257 := ⟨at_256, rfl⟩
theorem d0_257 : Dc code 257 (.aload 10) 2 259 := ⟨at_257, rfl⟩
theorem d0_259 : Dc code 259 (.iconst 3) 1 260 := ⟨at_259, rfl⟩
theorem d0_260 : Dc code 260 (.baload) 1 261 := ⟨at_260, rfl⟩
theorem d0_261 : Bc code 261 (.if_icmp .ne 7) (7) 264 268 := ⟨at_261, rfl, by decide, by decide⟩
theorem d0_264 : Dc code 264 (.iconst 1) 1 265 := ⟨at_264, rfl⟩
theorem d0_265 : Bc code 265 (.goto 4) (4) 268 269 := ⟨at_265, rfl, by decide, by decide⟩
theorem d0_268 : Dc code 268 (.iconst 0) 1 269 := ⟨at_268, rfl⟩
theorem d0_269 : Dc code 269 (.istore 11) 2 271 := ⟨at_269, rfl⟩
theorem d0_271 : Dc code 271 (.aload 6) 2 273 := ⟨at_271, rfl⟩
theorem d0_273 : Dc code 273 (.iload 7) 2 275 := ⟨at_273, rfl⟩
theorem d0_275 : Dc code 275 (.iload 8) 2 277 := ⟨at_275, rfl⟩
theorem d0_277 : Dc code 277 (.aload 10) 2 279 := ⟨at_277, rfl⟩
theorem d0_279 : Dc code 279 (.invokestatic 14) 3 282 := ⟨at_279, rfl⟩
theorem d0_282 : Dc code 282 (.iload 11) 2 284 := ⟨at_282, rfl⟩
theorem d0_284 : Bc code 284 (.if_icmp .ne 7) (7) 287 291 := ⟨at_284, rfl, by decide, by decide⟩
theorem d0_287 : Dc code 287 (.iconst 1) 1 288 := ⟨at_287, rfl⟩
theorem d0_288 : Bc code 288 (.goto 4) (4) 291 292 := ⟨at_288, rfl, by decide, by decide⟩
theorem d0_291 : Dc code 291 (.iconst 0) 1 292 := ⟨at_291, rfl⟩
theorem d0_292 : Dc code 292 (.ireturn) 1 293 := ⟨at_292, rfl⟩
theorem pd_2 : parseMethodDescriptor "([BII[B)Z" = some ⟨[.array .byte, .int, .int, .array .byte], (some .boolean)⟩ := by decide +kernel
theorem pd_1 : parseMethodDescriptor "([BIIIJ)B" = some ⟨[.array .byte, .int, .int, .int, .long], (some .byte)⟩ := by decide +kernel
theorem ef_law (m : MethodId) (x0 : Int64) (x1 : Int64) (x2 : Int32) (x3 : Int32) : entryFrame m #[.long x0, .long x1, .int x2, .int x3] maxLocals = mkF m 0 #[.val (.long x0), .second, .val (.long x1), .second, .val (.int x2), .val (.int x3), .unset, .unset, .unset, .unset, .unset, .unset] [] := by first | (simp [entryFrame, mkF, argsToLocals, Value.category, maxLocals]; done) | rfl
set_option maxRecDepth 65536 in
set_option maxHeartbeats 40000000 in
theorem m_law (l : Launch) (Z : State) (a0 : Array Value) (hw : ∀ d ∈ tables_1, d.before a0 Z = true) (n0 : Nat) (x0 : Int64) (x1 : Int64) (x2 : Int32) (x3 : Int32) (h : Heap) (hn : n0 ≤ h.size) : Met n0 l Z x code maxLocals ret room_1 tables_1 #[.long x0, .long x1, .int x2, .int x3] h (fun v _ => v = some (.int 1)) := by
  refine enter (plainFor_of_name (by first | (simp [plainName, overriddenIn, x]; done) | decide +kernel)) (fun m => ef_law m x0 x1 x2 x3) hn ?_
  intro p e s m below meth c T K S
  refine iconst K S (x := (5 : Int32)) rfl d0_0 ?_
  refine newarr K S (cap := 5) (hwi hw 0 rfl) (by decide) (by decide) (by decide) (by decide) (by decide) d0_1 fun T h1_1 o1 z_o1 g_o1 X A_o1 S => ?_
  replace A_o1 : VA Z h1_1 o1 .byte ([.int (0 : Int32), .int (0 : Int32), .int (0 : Int32), .int (0 : Int32), .int (0 : Int32)]) := A_o1
  clear X
  refine astore K S (l' := #[.val (.long x0), .second, .val (.long x1), .second, .val (.int x2), .val (.int x3), .val (.ref o1), .unset, .unset, .unset, .unset, .unset]) rfl rfl d0_3 ?_
  refine aload K S rfl rfl d0_5 ?_
  refine iconst K S (x := (0 : Int32)) rfl d0_7 ?_
  refine lload_n K S rfl d0_8 ?_
  refine l2i K S d0_9 ?_
  refine nmI fun t9 ht9 => ?_
  have rt9 := rng32 t9
  refine i2b K S d0_10 ?_
  refine nmI fun t10 ht10 => ?_
  have rt10 := rng32 t10
  refine bastore K S (i := 0) A_o1 ⟨by decide, rfl⟩ (show (0 : Nat) < 5 by decide) g_o1 d0_11 fun T h11_2 W B S => ?_
  clear W
  replace A_o1 : VA Z h11_2 o1 .byte ([.int t10, .int (0 : Int32), .int (0 : Int32), .int (0 : Int32), .int (0 : Int32)]) := (by rw [show nar .byte t10 = t10  by rw [ht10]; simp [nar]] at B; exact B)
  refine aload K S rfl rfl d0_12 ?_
  refine iconst K S (x := (1 : Int32)) rfl d0_14 ?_
  refine lload_n K S rfl d0_15 ?_
  refine bipush K S (x := (8 : Int32)) rfl d0_16 ?_
  refine lushr K S d0_18 ?_
  refine nmL fun t18 ht18 => ?_
  have rt18 := rng64 t18
  refine l2i K S d0_19 ?_
  refine nmI fun t19 ht19 => ?_
  have rt19 := rng32 t19
  refine i2b K S d0_20 ?_
  refine nmI fun t20 ht20 => ?_
  have rt20 := rng32 t20
  refine bastore K S (i := 1) A_o1 ⟨by decide, rfl⟩ (show (1 : Nat) < 5 by decide) g_o1 d0_21 fun T h21_3 W B S => ?_
  clear W
  replace A_o1 : VA Z h21_3 o1 .byte ([.int t10, .int t20, .int (0 : Int32), .int (0 : Int32), .int (0 : Int32)]) := (by rw [show nar .byte t20 = t20  by rw [ht20]; simp [nar]] at B; exact B)
  refine aload K S rfl rfl d0_22 ?_
  refine iconst K S (x := (2 : Int32)) rfl d0_24 ?_
  refine lload_n K S rfl d0_25 ?_
  refine bipush K S (x := (16 : Int32)) rfl d0_26 ?_
  refine lushr K S d0_28 ?_
  refine nmL fun t28 ht28 => ?_
  have rt28 := rng64 t28
  refine l2i K S d0_29 ?_
  refine nmI fun t29 ht29 => ?_
  have rt29 := rng32 t29
  refine i2b K S d0_30 ?_
  refine nmI fun t30 ht30 => ?_
  have rt30 := rng32 t30
  refine bastore K S (i := 2) A_o1 ⟨by decide, rfl⟩ (show (2 : Nat) < 5 by decide) g_o1 d0_31 fun T h31_4 W B S => ?_
  clear W
  replace A_o1 : VA Z h31_4 o1 .byte ([.int t10, .int t20, .int t30, .int (0 : Int32), .int (0 : Int32)]) := (by rw [show nar .byte t30 = t30  by rw [ht30]; simp [nar]] at B; exact B)
  refine aload K S rfl rfl d0_32 ?_
  refine iconst K S (x := (3 : Int32)) rfl d0_34 ?_
  refine lload_n K S rfl d0_35 ?_
  refine bipush K S (x := (24 : Int32)) rfl d0_36 ?_
  refine lushr K S d0_38 ?_
  refine nmL fun t38 ht38 => ?_
  have rt38 := rng64 t38
  refine l2i K S d0_39 ?_
  refine nmI fun t39 ht39 => ?_
  have rt39 := rng32 t39
  refine i2b K S d0_40 ?_
  refine nmI fun t40 ht40 => ?_
  have rt40 := rng32 t40
  refine bastore K S (i := 3) A_o1 ⟨by decide, rfl⟩ (show (3 : Nat) < 5 by decide) g_o1 d0_41 fun T h41_5 W B S => ?_
  clear W
  replace A_o1 : VA Z h41_5 o1 .byte ([.int t10, .int t20, .int t30, .int t40, .int (0 : Int32)]) := (by rw [show nar .byte t40 = t40  by rw [ht40]; simp [nar]] at B; exact B)
  refine aload K S rfl rfl d0_42 ?_
  refine iconst K S (x := (4 : Int32)) rfl d0_44 ?_
  refine lload_n K S rfl d0_45 ?_
  refine bipush K S (x := (32 : Int32)) rfl d0_46 ?_
  refine lushr K S d0_48 ?_
  refine nmL fun t48 ht48 => ?_
  have rt48 := rng64 t48
  refine l2i K S d0_49 ?_
  refine nmI fun t49 ht49 => ?_
  have rt49 := rng32 t49
  refine i2b K S d0_50 ?_
  refine nmI fun t50 ht50 => ?_
  have rt50 := rng32 t50
  refine bastore K S (i := 4) A_o1 ⟨by decide, rfl⟩ (show (4 : Nat) < 5 by decide) g_o1 d0_51 fun T h51_6 W B S => ?_
  clear W
  replace A_o1 : VA Z h51_6 o1 .byte ([.int t10, .int t20, .int t30, .int t40, .int t50]) := (by rw [show nar .byte t50 = t50  by rw [ht50]; simp [nar]] at B; exact B)
  refine iload K S rfl d0_52 ?_
  refine ldc K S (x := (2147483647 : Int32)) (hwi hw 1 rfl) d0_54 ?_
  refine iand K S d0_56 ?_
  refine nmI fun t56 ht56 => ?_
  have ft56 : t56.toInt = x2.toInt % 2147483648 := by rw [ht56]; exact c_mask x2 (2147483647 : Int32) 31 (by decide) (by decide)
  have rt56 := rng32 t56
  refine bipush K S (x := (6 : Int32)) rfl d0_57 ?_
  refine irem K S (by decide) d0_59 ?_
  refine nmI fun t59 ht59 => ?_
  have ft59 : t59.toInt = t56.toInt % 6 := by rw [ht59]; exact (c_irem t56 (6 : Int32) 6 rfl).1 (by omega)
  have rt59 := rng32 t59
  refine istore K S (l' := #[.val (.long x0), .second, .val (.long x1), .second, .val (.int x2), .val (.int x3), .val (.ref o1), .val (.int t59), .unset, .unset, .unset, .unset]) rfl d0_60 ?_
  refine iload K S rfl d0_62 ?_
  refine iload K S rfl d0_64 ?_
  refine bipush K S (x := (8 : Int32)) rfl d0_66 ?_
  refine iushr K S d0_68 ?_
  refine nmI fun t68 ht68 => ?_
  have ft68 : t68.toInt = (x2.toInt % 4294967296) / 256 := by rw [ht68]; exact c_iushr x2 (8 : Int32) 8 (by decide) (by decide)
  have rt68 := rng32 t68
  refine bipush K S (x := (6 : Int32)) rfl d0_69 ?_
  refine iload K S rfl d0_71 ?_
  refine isub K S d0_73 ?_
  refine nmI fun t73 ht73 => ?_
  have ft73 : (t73.toInt - (6 - t59.toInt)) % 4294967296 = 0 := by rw [ht73]; exact c_isub (6 : Int32) t59
  have rt73 := rng32 t73
  refine irem K S (own_nz (by omega)) d0_74 ?_
  refine nmI fun t74 ht74 => ?_
  have ft74 : 0 ≤ t74.toInt ∧ t74.toInt < t73.toInt := by rw [ht74]; exact ⟨((c_iremV t68 t73).1 (by omega) (by omega)).1, ((c_iremV t68 t73).1 (by omega) (by omega)).2.1⟩
  have rt74 := rng32 t74
  refine iadd K S d0_75 ?_
  refine nmI fun t75 ht75 => ?_
  have ft75 : (t75.toInt - (t59.toInt + t74.toInt)) % 4294967296 = 0 := by rw [ht75]; exact c_iadd t59 t74
  have rt75 := rng32 t75
  refine istore K S (l' := #[.val (.long x0), .second, .val (.long x1), .second, .val (.int x2), .val (.int x3), .val (.ref o1), .val (.int t59), .val (.int t75), .unset, .unset, .unset]) rfl d0_76 ?_
  refine iload K S rfl d0_78 ?_
  refine ldc K S (x := (2147483647 : Int32)) (hwi hw 1 rfl) d0_80 ?_
  refine iand K S d0_82 ?_
  refine nmI fun t82 ht82 => ?_
  have ft82 : t82.toInt = x3.toInt % 2147483648 := by rw [ht82]; exact c_mask x3 (2147483647 : Int32) 31 (by decide) (by decide)
  have rt82 := rng32 t82
  refine iconst K S (x := (5 : Int32)) rfl d0_83 ?_
  refine irem K S (by decide) d0_84 ?_
  refine nmI fun t84 ht84 => ?_
  have ft84 : t84.toInt = t82.toInt % 5 := by rw [ht84]; exact (c_irem t82 (5 : Int32) 5 rfl).1 (by omega)
  have rt84 := rng32 t84
  refine istore K S (l' := #[.val (.long x0), .second, .val (.long x1), .second, .val (.int x2), .val (.int x3), .val (.ref o1), .val (.int t59), .val (.int t75), .val (.int t84), .unset, .unset]) rfl d0_85 ?_
  rcases own_five (x := t84) (by omega) (by omega) with e | e | e | e | e
  · subst e
    refine iload K S rfl d0_87 ?_
    refine newarr K S (cap := 0) (hwi hw 0 rfl) (by decide) (by decide) (by decide) (by decide) (by decide) d0_89 fun T h89_7 o89 z_o89 g_o89 X A_o89 S => ?_
    have n_o1_o89 : o1 ≠ o89 := by rw [z_o89]; exact Nat.ne_of_lt A_o1.lt
    replace A_o1 := A_o1.ext X
    replace A_o89 : VA Z h89_7 o89 .byte ([]) := A_o89
    clear X
    refine astore K S (l' := #[.val (.long x0), .second, .val (.long x1), .second, .val (.int x2), .val (.int x3), .val (.ref o1), .val (.int t59), .val (.int t75), .val (.int (0 : Int32)), .val (.ref o89), .unset]) rfl rfl d0_91 ?_
    refine iload K S rfl d0_93 ?_
    refine ificz_le K S d0_95 (fun (c95 : ¬ 0 < 0) => ?_) (fun (c95 : 0 < 0) => ?_)
    rotate_left
    · exact absurd c95 (by decide)
    refine iload K S rfl d0_113 ?_
    refine iconst K S (x := (1 : Int32)) rfl d0_115 ?_
    refine icmpz_le K S d0_116 (fun (c116 : ¬ 1 < 0) => ?_) (fun (c116 : 1 < 0) => ?_)
    rotate_left
    · exact absurd c116 (by decide)
    refine iload K S rfl d0_134 ?_
    refine iconst K S (x := (2 : Int32)) rfl d0_136 ?_
    refine icmpz_le K S d0_137 (fun (c137 : ¬ 2 < 0) => ?_) (fun (c137 : 2 < 0) => ?_)
    rotate_left
    · exact absurd c137 (by decide)
    refine iload K S rfl d0_155 ?_
    refine iconst K S (x := (3 : Int32)) rfl d0_157 ?_
    refine icmpz_le K S d0_158 (fun (c158 : ¬ 3 < 0) => ?_) (fun (c158 : 3 < 0) => ?_)
    rotate_left
    · exact absurd c158 (by decide)
    refine iload K S rfl d0_176 ?_
    refine iload K S rfl d0_178 ?_
    refine isub K S d0_180 ?_
    refine nmI fun t180 ht180 => ?_
    have ft180 : (t180.toInt - (t75.toInt - t59.toInt)) % 4294967296 = 0 := by rw [ht180]; exact c_isub t75 t59
    have rt180 := rng32 t180
    refine iload K S rfl d0_181 ?_
    refine icmpz_lt K S d0_183 (fun (c183 : t180.toInt < 0) => ?_) (fun (c183 : ¬ t180.toInt < 0) => ?_)
    · refine iconst K S (x := (0 : Int32)) rfl d0_268 ?_
      refine istore K S (l' := #[.val (.long x0), .second, .val (.long x1), .second, .val (.int x2), .val (.int x3), .val (.ref o1), .val (.int t59), .val (.int t75), .val (.int (0 : Int32)), .val (.ref o89), .val (.int (0 : Int32))]) rfl d0_269 ?_
      refine aload K S rfl rfl d0_271 ?_
      refine iload K S rfl d0_273 ?_
      refine iload K S rfl d0_275 ?_
      refine aload K S rfl rfl d0_277 ?_
      refine callS K S (W := 0) (m_sw l Z a0 hw n0 o1 t59 t75 o89 [t10, t20, t30, t40, t50] ([] : List Int32) (0 : Int32) h89_7 (Sle S) (show VA Z h89_7 o1 .byte (List.map Value.int [t10, t20, t30, t40, t50]) from A_o1) (show VA Z h89_7 o89 .byte (List.map Value.int ([] : List Int32)) from A_o89) rfl rfl (by omega) (by omega) (by show _ ≤ (5 : Int); omega)) (hwi hw 6 rfl) (hwi hw 7 rfl) (hwi hw 9 rfl) (hwi hw 8 rfl) (by decide) (by decide) (by decide) (by decide) (by decide) rfl (argsL := [.ref o1, .int t59, .int t75, .ref o89]) rfl (lenOf pd_2 rfl) (rest := []) rfl (Nat.le_of_eq rfl) d0_279 (pr fun T r279 pr279 S => ?_)
      show Wp n0 p e _ s below _ T (mkF m 282 #[.val (.long x0), .second, .val (.long x1), .second, .val (.int x2), .val (.int x3), .val (.ref o1), .val (.int t59), .val (.int t75), .val (.int (0 : Int32)), .val (.ref o89), .val (.int (0 : Int32))] [.int r279])
      refine iload K S rfl d0_282 ?_
      refine icmpz_ne K S d0_284 (fun (c284 : ¬ r279.toInt = 0) => ?_) (fun (c284 : r279.toInt = 0) => ?_)
      · exfalso
        have zn : (([] : List Int32).length : Int) = 0 := rfl
        rcases pr279 with ⟨e, q, -⟩ | ⟨e, -⟩ <;> omega
      refine iconst K S (x := (1 : Int32)) rfl d0_287 ?_
      refine goto K S d0_288 ?_
      refine retn K S (by simp) (y := (1 : Int32)) rfl (by decide) (by decide) d0_292 ?_
      rfl
    refine iload K S rfl d0_186 ?_
    refine iconst K S (x := (1 : Int32)) rfl d0_188 ?_
    refine icmpz_lt K S d0_189 (fun (c189 : 0 < 1) => ?_) (fun (c189 : ¬ 0 < 1) => ?_)
    rotate_left
    · exact absurd c189 (by decide)
    refine iload K S rfl d0_204 ?_
    refine iconst K S (x := (2 : Int32)) rfl d0_206 ?_
    refine icmpz_lt K S d0_207 (fun (c207 : 0 < 2) => ?_) (fun (c207 : ¬ 0 < 2) => ?_)
    rotate_left
    · exact absurd c207 (by decide)
    refine iload K S rfl d0_224 ?_
    refine iconst K S (x := (3 : Int32)) rfl d0_226 ?_
    refine icmpz_lt K S d0_227 (fun (c227 : 0 < 3) => ?_) (fun (c227 : ¬ 0 < 3) => ?_)
    rotate_left
    · exact absurd c227 (by decide)
    refine iload K S rfl d0_244 ?_
    refine iconst K S (x := (4 : Int32)) rfl d0_246 ?_
    refine icmpz_lt K S d0_247 (fun (c247 : 0 < 4) => ?_) (fun (c247 : ¬ 0 < 4) => ?_)
    rotate_left
    · exact absurd c247 (by decide)
    refine iconst K S (x := (1 : Int32)) rfl d0_264 ?_
    refine goto K S d0_265 ?_
    refine istore K S (l' := #[.val (.long x0), .second, .val (.long x1), .second, .val (.int x2), .val (.int x3), .val (.ref o1), .val (.int t59), .val (.int t75), .val (.int (0 : Int32)), .val (.ref o89), .val (.int (1 : Int32))]) rfl d0_269 ?_
    refine aload K S rfl rfl d0_271 ?_
    refine iload K S rfl d0_273 ?_
    refine iload K S rfl d0_275 ?_
    refine aload K S rfl rfl d0_277 ?_
    refine callS K S (W := 0) (m_sw l Z a0 hw n0 o1 t59 t75 o89 [t10, t20, t30, t40, t50] ([] : List Int32) (0 : Int32) h89_7 (Sle S) (show VA Z h89_7 o1 .byte (List.map Value.int [t10, t20, t30, t40, t50]) from A_o1) (show VA Z h89_7 o89 .byte (List.map Value.int ([] : List Int32)) from A_o89) rfl rfl (by omega) (by omega) (by show _ ≤ (5 : Int); omega)) (hwi hw 6 rfl) (hwi hw 7 rfl) (hwi hw 9 rfl) (hwi hw 8 rfl) (by decide) (by decide) (by decide) (by decide) (by decide) rfl (argsL := [.ref o1, .int t59, .int t75, .ref o89]) rfl (lenOf pd_2 rfl) (rest := []) rfl (Nat.le_of_eq rfl) d0_279 (pr fun T r279 pr279 S => ?_)
    show Wp n0 p e _ s below _ T (mkF m 282 #[.val (.long x0), .second, .val (.long x1), .second, .val (.int x2), .val (.int x3), .val (.ref o1), .val (.int t59), .val (.int t75), .val (.int (0 : Int32)), .val (.ref o89), .val (.int (1 : Int32))] [.int r279])
    refine iload K S rfl d0_282 ?_
    refine icmpz_ne K S d0_284 (fun (c284 : ¬ r279.toInt = 1) => ?_) (fun (c284 : r279.toInt = 1) => ?_)
    · exfalso
      have zn : (([] : List Int32).length : Int) = 0 := rfl
      rcases pr279 with ⟨e, -⟩ | ⟨e, q | ⟨j, hj, hne⟩⟩
      · omega
      · omega
      · exact absurd hj (Nat.not_lt_zero _)
    refine iconst K S (x := (1 : Int32)) rfl d0_287 ?_
    refine goto K S d0_288 ?_
    refine retn K S (by simp) (y := (1 : Int32)) rfl (by decide) (by decide) d0_292 ?_
    rfl
  · subst e
    refine iload K S rfl d0_87 ?_
    refine newarr K S (cap := 1) (hwi hw 0 rfl) (by decide) (by decide) (by decide) (by decide) (by decide) d0_89 fun T h89_8 o89 z_o89 g_o89 X A_o89 S => ?_
    have n_o1_o89 : o1 ≠ o89 := by rw [z_o89]; exact Nat.ne_of_lt A_o1.lt
    replace A_o1 := A_o1.ext X
    replace A_o89 : VA Z h89_8 o89 .byte ([.int (0 : Int32)]) := A_o89
    clear X
    refine astore K S (l' := #[.val (.long x0), .second, .val (.long x1), .second, .val (.int x2), .val (.int x3), .val (.ref o1), .val (.int t59), .val (.int t75), .val (.int (1 : Int32)), .val (.ref o89), .unset]) rfl rfl d0_91 ?_
    refine iload K S rfl d0_93 ?_
    refine ificz_le K S d0_95 (fun (c95 : ¬ 0 < 1) => ?_) (fun (c95 : 0 < 1) => ?_)
    · exact absurd c95 (by decide)
    refine aload K S rfl rfl d0_98 ?_
    refine iconst K S (x := (0 : Int32)) rfl d0_100 ?_
    refine aload K S rfl rfl d0_101 ?_
    refine iload K S rfl d0_103 ?_
    refine iconst K S (x := (0 : Int32)) rfl d0_105 ?_
    refine iload K S rfl d0_106 ?_
    refine lload_n K S rfl d0_108 ?_
    refine callS K S (W := 2) (m_pre l Z a0 hw n0 o1 t59 (0 : Int32) x3 x1 [t10, t20, t30, t40, t50] h89_8 (Sle S) (show VA Z h89_8 o1 .byte (List.map Value.int [t10, t20, t30, t40, t50]) from A_o1) rfl (by omega) (by omega) (by decide) (by decide)) (hwi hw 2 rfl) (hwi hw 3 rfl) (hwi hw 5 rfl) (hwi hw 4 rfl) (by decide) (by decide) (by decide) (by decide) (by decide) rfl (argsL := [.ref o1, .int t59, .int (0 : Int32), .int x3, .long x1]) rfl (lenOf pd_1 rfl) (rest := [.int (0 : Int32), .ref o89]) rfl (Nat.le_of_eq rfl) d0_109 (pr fun T r109 pr109 S => ?_)
    show Wp n0 p e _ s below _ T (mkF m 112 #[.val (.long x0), .second, .val (.long x1), .second, .val (.int x2), .val (.int x3), .val (.ref o1), .val (.int t59), .val (.int t75), .val (.int (1 : Int32)), .val (.ref o89), .unset] [.int r109, .int (0 : Int32), .ref o89])
    refine bastore K S (i := 0) A_o89 ⟨by decide, rfl⟩ (show (0 : Nat) < 1 by decide) g_o89 d0_112 fun T h112_9 W B S => ?_
    replace A_o1 := A_o1.other W (by first | exact n_o1_o89 | exact Ne.symm n_o89_o1 | omega)
    clear W
    replace A_o89 : VA Z h112_9 o89 .byte ([.int r109]) := (by rw [show nar .byte r109 = r109 from pr109] at B; exact B)
    refine iload K S rfl d0_113 ?_
    refine iconst K S (x := (1 : Int32)) rfl d0_115 ?_
    refine icmpz_le K S d0_116 (fun (c116 : ¬ 1 < 1) => ?_) (fun (c116 : 1 < 1) => ?_)
    rotate_left
    · exact absurd c116 (by decide)
    refine iload K S rfl d0_134 ?_
    refine iconst K S (x := (2 : Int32)) rfl d0_136 ?_
    refine icmpz_le K S d0_137 (fun (c137 : ¬ 2 < 1) => ?_) (fun (c137 : 2 < 1) => ?_)
    rotate_left
    · exact absurd c137 (by decide)
    refine iload K S rfl d0_155 ?_
    refine iconst K S (x := (3 : Int32)) rfl d0_157 ?_
    refine icmpz_le K S d0_158 (fun (c158 : ¬ 3 < 1) => ?_) (fun (c158 : 3 < 1) => ?_)
    rotate_left
    · exact absurd c158 (by decide)
    refine iload K S rfl d0_176 ?_
    refine iload K S rfl d0_178 ?_
    refine isub K S d0_180 ?_
    refine nmI fun t180 ht180 => ?_
    have ft180 : (t180.toInt - (t75.toInt - t59.toInt)) % 4294967296 = 0 := by rw [ht180]; exact c_isub t75 t59
    have rt180 := rng32 t180
    refine iload K S rfl d0_181 ?_
    refine icmpz_lt K S d0_183 (fun (c183 : t180.toInt < 1) => ?_) (fun (c183 : ¬ t180.toInt < 1) => ?_)
    · refine iconst K S (x := (0 : Int32)) rfl d0_268 ?_
      refine istore K S (l' := #[.val (.long x0), .second, .val (.long x1), .second, .val (.int x2), .val (.int x3), .val (.ref o1), .val (.int t59), .val (.int t75), .val (.int (1 : Int32)), .val (.ref o89), .val (.int (0 : Int32))]) rfl d0_269 ?_
      refine aload K S rfl rfl d0_271 ?_
      refine iload K S rfl d0_273 ?_
      refine iload K S rfl d0_275 ?_
      refine aload K S rfl rfl d0_277 ?_
      refine callS K S (W := 0) (m_sw l Z a0 hw n0 o1 t59 t75 o89 [t10, t20, t30, t40, t50] [r109] (1 : Int32) h112_9 (Sle S) (show VA Z h112_9 o1 .byte (List.map Value.int [t10, t20, t30, t40, t50]) from A_o1) (show VA Z h112_9 o89 .byte (List.map Value.int [r109]) from A_o89) rfl rfl (by omega) (by omega) (by show _ ≤ (5 : Int); omega)) (hwi hw 6 rfl) (hwi hw 7 rfl) (hwi hw 9 rfl) (hwi hw 8 rfl) (by decide) (by decide) (by decide) (by decide) (by decide) rfl (argsL := [.ref o1, .int t59, .int t75, .ref o89]) rfl (lenOf pd_2 rfl) (rest := []) rfl (Nat.le_of_eq rfl) d0_279 (pr fun T r279 pr279 S => ?_)
      show Wp n0 p e _ s below _ T (mkF m 282 #[.val (.long x0), .second, .val (.long x1), .second, .val (.int x2), .val (.int x3), .val (.ref o1), .val (.int t59), .val (.int t75), .val (.int (1 : Int32)), .val (.ref o89), .val (.int (0 : Int32))] [.int r279])
      refine iload K S rfl d0_282 ?_
      refine icmpz_ne K S d0_284 (fun (c284 : ¬ r279.toInt = 0) => ?_) (fun (c284 : r279.toInt = 0) => ?_)
      · exfalso
        have zn : (([r109] : List Int32).length : Int) = 1 := rfl
        rcases pr279 with ⟨e, q, -⟩ | ⟨e, -⟩ <;> omega
      refine iconst K S (x := (1 : Int32)) rfl d0_287 ?_
      refine goto K S d0_288 ?_
      refine retn K S (by simp) (y := (1 : Int32)) rfl (by decide) (by decide) d0_292 ?_
      rfl
    refine iload K S rfl d0_186 ?_
    refine iconst K S (x := (1 : Int32)) rfl d0_188 ?_
    refine icmpz_lt K S d0_189 (fun (c189 : 1 < 1) => ?_) (fun (c189 : ¬ 1 < 1) => ?_)
    · exact absurd c189 (by decide)
    refine aload K S rfl rfl d0_192 ?_
    refine iload K S rfl d0_194 ?_
    refine baload K S (i := t59.toInt.toNat + 0) (show VA Z h112_9 o1 .byte (List.map Value.int [t10, t20, t30, t40, t50]) from A_o1) ⟨own_nneg (by omega), by show t59.toInt.toNat = _; omega⟩ (own_getD (show _ < 5 by omega)) d0_196 ?_
    refine nmI fun u196 hu196 => ?_
    refine aload K S rfl rfl d0_197 ?_
    refine iconst K S (x := (0 : Int32)) rfl d0_199 ?_
    refine baload K S (i := 0) A_o89 ⟨by decide, rfl⟩ rfl d0_200 ?_
    refine icmpz_ne K S d0_201 (fun (c201 : ¬ u196.toInt = r109.toInt) => ?_) (fun (c201 : u196.toInt = r109.toInt) => ?_)
    · refine iconst K S (x := (0 : Int32)) rfl d0_268 ?_
      refine istore K S (l' := #[.val (.long x0), .second, .val (.long x1), .second, .val (.int x2), .val (.int x3), .val (.ref o1), .val (.int t59), .val (.int t75), .val (.int (1 : Int32)), .val (.ref o89), .val (.int (0 : Int32))]) rfl d0_269 ?_
      refine aload K S rfl rfl d0_271 ?_
      refine iload K S rfl d0_273 ?_
      refine iload K S rfl d0_275 ?_
      refine aload K S rfl rfl d0_277 ?_
      refine callS K S (W := 0) (m_sw l Z a0 hw n0 o1 t59 t75 o89 [t10, t20, t30, t40, t50] [r109] (1 : Int32) h112_9 (Sle S) (show VA Z h112_9 o1 .byte (List.map Value.int [t10, t20, t30, t40, t50]) from A_o1) (show VA Z h112_9 o89 .byte (List.map Value.int [r109]) from A_o89) rfl rfl (by omega) (by omega) (by show _ ≤ (5 : Int); omega)) (hwi hw 6 rfl) (hwi hw 7 rfl) (hwi hw 9 rfl) (hwi hw 8 rfl) (by decide) (by decide) (by decide) (by decide) (by decide) rfl (argsL := [.ref o1, .int t59, .int t75, .ref o89]) rfl (lenOf pd_2 rfl) (rest := []) rfl (Nat.le_of_eq rfl) d0_279 (pr fun T r279 pr279 S => ?_)
      show Wp n0 p e _ s below _ T (mkF m 282 #[.val (.long x0), .second, .val (.long x1), .second, .val (.int x2), .val (.int x3), .val (.ref o1), .val (.int t59), .val (.int t75), .val (.int (1 : Int32)), .val (.ref o89), .val (.int (0 : Int32))] [.int r279])
      refine iload K S rfl d0_282 ?_
      refine icmpz_ne K S d0_284 (fun (c284 : ¬ r279.toInt = 0) => ?_) (fun (c284 : r279.toInt = 0) => ?_)
      · exfalso
        rcases pr279 with ⟨e, -, al⟩ | ⟨e, -⟩
        · exact c201 (congrArg Int32.toInt (hu196.trans (al 0 (show 0 < 1 by decide))))
        · omega
      refine iconst K S (x := (1 : Int32)) rfl d0_287 ?_
      refine goto K S d0_288 ?_
      refine retn K S (by simp) (y := (1 : Int32)) rfl (by decide) (by decide) d0_292 ?_
      rfl
    refine iload K S rfl d0_204 ?_
    refine iconst K S (x := (2 : Int32)) rfl d0_206 ?_
    refine icmpz_lt K S d0_207 (fun (c207 : 1 < 2) => ?_) (fun (c207 : ¬ 1 < 2) => ?_)
    rotate_left
    · exact absurd c207 (by decide)
    refine iload K S rfl d0_224 ?_
    refine iconst K S (x := (3 : Int32)) rfl d0_226 ?_
    refine icmpz_lt K S d0_227 (fun (c227 : 1 < 3) => ?_) (fun (c227 : ¬ 1 < 3) => ?_)
    rotate_left
    · exact absurd c227 (by decide)
    refine iload K S rfl d0_244 ?_
    refine iconst K S (x := (4 : Int32)) rfl d0_246 ?_
    refine icmpz_lt K S d0_247 (fun (c247 : 1 < 4) => ?_) (fun (c247 : ¬ 1 < 4) => ?_)
    rotate_left
    · exact absurd c247 (by decide)
    refine iconst K S (x := (1 : Int32)) rfl d0_264 ?_
    refine goto K S d0_265 ?_
    refine istore K S (l' := #[.val (.long x0), .second, .val (.long x1), .second, .val (.int x2), .val (.int x3), .val (.ref o1), .val (.int t59), .val (.int t75), .val (.int (1 : Int32)), .val (.ref o89), .val (.int (1 : Int32))]) rfl d0_269 ?_
    refine aload K S rfl rfl d0_271 ?_
    refine iload K S rfl d0_273 ?_
    refine iload K S rfl d0_275 ?_
    refine aload K S rfl rfl d0_277 ?_
    refine callS K S (W := 0) (m_sw l Z a0 hw n0 o1 t59 t75 o89 [t10, t20, t30, t40, t50] [r109] (1 : Int32) h112_9 (Sle S) (show VA Z h112_9 o1 .byte (List.map Value.int [t10, t20, t30, t40, t50]) from A_o1) (show VA Z h112_9 o89 .byte (List.map Value.int [r109]) from A_o89) rfl rfl (by omega) (by omega) (by show _ ≤ (5 : Int); omega)) (hwi hw 6 rfl) (hwi hw 7 rfl) (hwi hw 9 rfl) (hwi hw 8 rfl) (by decide) (by decide) (by decide) (by decide) (by decide) rfl (argsL := [.ref o1, .int t59, .int t75, .ref o89]) rfl (lenOf pd_2 rfl) (rest := []) rfl (Nat.le_of_eq rfl) d0_279 (pr fun T r279 pr279 S => ?_)
    show Wp n0 p e _ s below _ T (mkF m 282 #[.val (.long x0), .second, .val (.long x1), .second, .val (.int x2), .val (.int x3), .val (.ref o1), .val (.int t59), .val (.int t75), .val (.int (1 : Int32)), .val (.ref o89), .val (.int (1 : Int32))] [.int r279])
    refine iload K S rfl d0_282 ?_
    refine icmpz_ne K S d0_284 (fun (c284 : ¬ r279.toInt = 1) => ?_) (fun (c284 : r279.toInt = 1) => ?_)
    · exfalso
      have zn : (([r109] : List Int32).length : Int) = 1 := rfl
      rcases pr279 with ⟨e, -⟩ | ⟨e, q | ⟨j, hj, hne⟩⟩
      · omega
      · omega
      · have hj' : j = 0 := by have : j < 1 := hj; omega
        rcases hj' with rfl
        · exact hne (hu196.symm.trans (own_eqz c201))
    refine iconst K S (x := (1 : Int32)) rfl d0_287 ?_
    refine goto K S d0_288 ?_
    refine retn K S (by simp) (y := (1 : Int32)) rfl (by decide) (by decide) d0_292 ?_
    rfl
  · subst e
    refine iload K S rfl d0_87 ?_
    refine newarr K S (cap := 2) (hwi hw 0 rfl) (by decide) (by decide) (by decide) (by decide) (by decide) d0_89 fun T h89_10 o89 z_o89 g_o89 X A_o89 S => ?_
    have n_o1_o89 : o1 ≠ o89 := by rw [z_o89]; exact Nat.ne_of_lt A_o1.lt
    replace A_o1 := A_o1.ext X
    replace A_o89 : VA Z h89_10 o89 .byte ([.int (0 : Int32), .int (0 : Int32)]) := A_o89
    clear X
    refine astore K S (l' := #[.val (.long x0), .second, .val (.long x1), .second, .val (.int x2), .val (.int x3), .val (.ref o1), .val (.int t59), .val (.int t75), .val (.int (2 : Int32)), .val (.ref o89), .unset]) rfl rfl d0_91 ?_
    refine iload K S rfl d0_93 ?_
    refine ificz_le K S d0_95 (fun (c95 : ¬ 0 < 2) => ?_) (fun (c95 : 0 < 2) => ?_)
    · exact absurd c95 (by decide)
    refine aload K S rfl rfl d0_98 ?_
    refine iconst K S (x := (0 : Int32)) rfl d0_100 ?_
    refine aload K S rfl rfl d0_101 ?_
    refine iload K S rfl d0_103 ?_
    refine iconst K S (x := (0 : Int32)) rfl d0_105 ?_
    refine iload K S rfl d0_106 ?_
    refine lload_n K S rfl d0_108 ?_
    refine callS K S (W := 2) (m_pre l Z a0 hw n0 o1 t59 (0 : Int32) x3 x1 [t10, t20, t30, t40, t50] h89_10 (Sle S) (show VA Z h89_10 o1 .byte (List.map Value.int [t10, t20, t30, t40, t50]) from A_o1) rfl (by omega) (by omega) (by decide) (by decide)) (hwi hw 2 rfl) (hwi hw 3 rfl) (hwi hw 5 rfl) (hwi hw 4 rfl) (by decide) (by decide) (by decide) (by decide) (by decide) rfl (argsL := [.ref o1, .int t59, .int (0 : Int32), .int x3, .long x1]) rfl (lenOf pd_1 rfl) (rest := [.int (0 : Int32), .ref o89]) rfl (Nat.le_of_eq rfl) d0_109 (pr fun T r109 pr109 S => ?_)
    show Wp n0 p e _ s below _ T (mkF m 112 #[.val (.long x0), .second, .val (.long x1), .second, .val (.int x2), .val (.int x3), .val (.ref o1), .val (.int t59), .val (.int t75), .val (.int (2 : Int32)), .val (.ref o89), .unset] [.int r109, .int (0 : Int32), .ref o89])
    refine bastore K S (i := 0) A_o89 ⟨by decide, rfl⟩ (show (0 : Nat) < 2 by decide) g_o89 d0_112 fun T h112_11 W B S => ?_
    replace A_o1 := A_o1.other W (by first | exact n_o1_o89 | exact Ne.symm n_o89_o1 | omega)
    clear W
    replace A_o89 : VA Z h112_11 o89 .byte ([.int r109, .int (0 : Int32)]) := (by rw [show nar .byte r109 = r109 from pr109] at B; exact B)
    refine iload K S rfl d0_113 ?_
    refine iconst K S (x := (1 : Int32)) rfl d0_115 ?_
    refine icmpz_le K S d0_116 (fun (c116 : ¬ 1 < 2) => ?_) (fun (c116 : 1 < 2) => ?_)
    · exact absurd c116 (by decide)
    refine aload K S rfl rfl d0_119 ?_
    refine iconst K S (x := (1 : Int32)) rfl d0_121 ?_
    refine aload K S rfl rfl d0_122 ?_
    refine iload K S rfl d0_124 ?_
    refine iconst K S (x := (1 : Int32)) rfl d0_126 ?_
    refine iload K S rfl d0_127 ?_
    refine lload_n K S rfl d0_129 ?_
    refine callS K S (W := 2) (m_pre l Z a0 hw n0 o1 t59 (1 : Int32) x3 x1 [t10, t20, t30, t40, t50] h112_11 (Sle S) (show VA Z h112_11 o1 .byte (List.map Value.int [t10, t20, t30, t40, t50]) from A_o1) rfl (by omega) (by omega) (by decide) (by decide)) (hwi hw 2 rfl) (hwi hw 3 rfl) (hwi hw 5 rfl) (hwi hw 4 rfl) (by decide) (by decide) (by decide) (by decide) (by decide) rfl (argsL := [.ref o1, .int t59, .int (1 : Int32), .int x3, .long x1]) rfl (lenOf pd_1 rfl) (rest := [.int (1 : Int32), .ref o89]) rfl (Nat.le_of_eq rfl) d0_130 (pr fun T r130 pr130 S => ?_)
    show Wp n0 p e _ s below _ T (mkF m 133 #[.val (.long x0), .second, .val (.long x1), .second, .val (.int x2), .val (.int x3), .val (.ref o1), .val (.int t59), .val (.int t75), .val (.int (2 : Int32)), .val (.ref o89), .unset] [.int r130, .int (1 : Int32), .ref o89])
    refine bastore K S (i := 1) A_o89 ⟨by decide, rfl⟩ (show (1 : Nat) < 2 by decide) g_o89 d0_133 fun T h133_12 W B S => ?_
    replace A_o1 := A_o1.other W (by first | exact n_o1_o89 | exact Ne.symm n_o89_o1 | omega)
    clear W
    replace A_o89 : VA Z h133_12 o89 .byte ([.int r109, .int r130]) := (by rw [show nar .byte r130 = r130 from pr130] at B; exact B)
    refine iload K S rfl d0_134 ?_
    refine iconst K S (x := (2 : Int32)) rfl d0_136 ?_
    refine icmpz_le K S d0_137 (fun (c137 : ¬ 2 < 2) => ?_) (fun (c137 : 2 < 2) => ?_)
    rotate_left
    · exact absurd c137 (by decide)
    refine iload K S rfl d0_155 ?_
    refine iconst K S (x := (3 : Int32)) rfl d0_157 ?_
    refine icmpz_le K S d0_158 (fun (c158 : ¬ 3 < 2) => ?_) (fun (c158 : 3 < 2) => ?_)
    rotate_left
    · exact absurd c158 (by decide)
    refine iload K S rfl d0_176 ?_
    refine iload K S rfl d0_178 ?_
    refine isub K S d0_180 ?_
    refine nmI fun t180 ht180 => ?_
    have ft180 : (t180.toInt - (t75.toInt - t59.toInt)) % 4294967296 = 0 := by rw [ht180]; exact c_isub t75 t59
    have rt180 := rng32 t180
    refine iload K S rfl d0_181 ?_
    refine icmpz_lt K S d0_183 (fun (c183 : t180.toInt < 2) => ?_) (fun (c183 : ¬ t180.toInt < 2) => ?_)
    · refine iconst K S (x := (0 : Int32)) rfl d0_268 ?_
      refine istore K S (l' := #[.val (.long x0), .second, .val (.long x1), .second, .val (.int x2), .val (.int x3), .val (.ref o1), .val (.int t59), .val (.int t75), .val (.int (2 : Int32)), .val (.ref o89), .val (.int (0 : Int32))]) rfl d0_269 ?_
      refine aload K S rfl rfl d0_271 ?_
      refine iload K S rfl d0_273 ?_
      refine iload K S rfl d0_275 ?_
      refine aload K S rfl rfl d0_277 ?_
      refine callS K S (W := 0) (m_sw l Z a0 hw n0 o1 t59 t75 o89 [t10, t20, t30, t40, t50] [r109, r130] (2 : Int32) h133_12 (Sle S) (show VA Z h133_12 o1 .byte (List.map Value.int [t10, t20, t30, t40, t50]) from A_o1) (show VA Z h133_12 o89 .byte (List.map Value.int [r109, r130]) from A_o89) rfl rfl (by omega) (by omega) (by show _ ≤ (5 : Int); omega)) (hwi hw 6 rfl) (hwi hw 7 rfl) (hwi hw 9 rfl) (hwi hw 8 rfl) (by decide) (by decide) (by decide) (by decide) (by decide) rfl (argsL := [.ref o1, .int t59, .int t75, .ref o89]) rfl (lenOf pd_2 rfl) (rest := []) rfl (Nat.le_of_eq rfl) d0_279 (pr fun T r279 pr279 S => ?_)
      show Wp n0 p e _ s below _ T (mkF m 282 #[.val (.long x0), .second, .val (.long x1), .second, .val (.int x2), .val (.int x3), .val (.ref o1), .val (.int t59), .val (.int t75), .val (.int (2 : Int32)), .val (.ref o89), .val (.int (0 : Int32))] [.int r279])
      refine iload K S rfl d0_282 ?_
      refine icmpz_ne K S d0_284 (fun (c284 : ¬ r279.toInt = 0) => ?_) (fun (c284 : r279.toInt = 0) => ?_)
      · exfalso
        have zn : (([r109, r130] : List Int32).length : Int) = 2 := rfl
        rcases pr279 with ⟨e, q, -⟩ | ⟨e, -⟩ <;> omega
      refine iconst K S (x := (1 : Int32)) rfl d0_287 ?_
      refine goto K S d0_288 ?_
      refine retn K S (by simp) (y := (1 : Int32)) rfl (by decide) (by decide) d0_292 ?_
      rfl
    refine iload K S rfl d0_186 ?_
    refine iconst K S (x := (1 : Int32)) rfl d0_188 ?_
    refine icmpz_lt K S d0_189 (fun (c189 : 2 < 1) => ?_) (fun (c189 : ¬ 2 < 1) => ?_)
    · exact absurd c189 (by decide)
    refine aload K S rfl rfl d0_192 ?_
    refine iload K S rfl d0_194 ?_
    refine baload K S (i := t59.toInt.toNat + 0) (show VA Z h133_12 o1 .byte (List.map Value.int [t10, t20, t30, t40, t50]) from A_o1) ⟨own_nneg (by omega), by show t59.toInt.toNat = _; omega⟩ (own_getD (show _ < 5 by omega)) d0_196 ?_
    refine nmI fun u196 hu196 => ?_
    refine aload K S rfl rfl d0_197 ?_
    refine iconst K S (x := (0 : Int32)) rfl d0_199 ?_
    refine baload K S (i := 0) A_o89 ⟨by decide, rfl⟩ rfl d0_200 ?_
    refine icmpz_ne K S d0_201 (fun (c201 : ¬ u196.toInt = r109.toInt) => ?_) (fun (c201 : u196.toInt = r109.toInt) => ?_)
    · refine iconst K S (x := (0 : Int32)) rfl d0_268 ?_
      refine istore K S (l' := #[.val (.long x0), .second, .val (.long x1), .second, .val (.int x2), .val (.int x3), .val (.ref o1), .val (.int t59), .val (.int t75), .val (.int (2 : Int32)), .val (.ref o89), .val (.int (0 : Int32))]) rfl d0_269 ?_
      refine aload K S rfl rfl d0_271 ?_
      refine iload K S rfl d0_273 ?_
      refine iload K S rfl d0_275 ?_
      refine aload K S rfl rfl d0_277 ?_
      refine callS K S (W := 0) (m_sw l Z a0 hw n0 o1 t59 t75 o89 [t10, t20, t30, t40, t50] [r109, r130] (2 : Int32) h133_12 (Sle S) (show VA Z h133_12 o1 .byte (List.map Value.int [t10, t20, t30, t40, t50]) from A_o1) (show VA Z h133_12 o89 .byte (List.map Value.int [r109, r130]) from A_o89) rfl rfl (by omega) (by omega) (by show _ ≤ (5 : Int); omega)) (hwi hw 6 rfl) (hwi hw 7 rfl) (hwi hw 9 rfl) (hwi hw 8 rfl) (by decide) (by decide) (by decide) (by decide) (by decide) rfl (argsL := [.ref o1, .int t59, .int t75, .ref o89]) rfl (lenOf pd_2 rfl) (rest := []) rfl (Nat.le_of_eq rfl) d0_279 (pr fun T r279 pr279 S => ?_)
      show Wp n0 p e _ s below _ T (mkF m 282 #[.val (.long x0), .second, .val (.long x1), .second, .val (.int x2), .val (.int x3), .val (.ref o1), .val (.int t59), .val (.int t75), .val (.int (2 : Int32)), .val (.ref o89), .val (.int (0 : Int32))] [.int r279])
      refine iload K S rfl d0_282 ?_
      refine icmpz_ne K S d0_284 (fun (c284 : ¬ r279.toInt = 0) => ?_) (fun (c284 : r279.toInt = 0) => ?_)
      · exfalso
        rcases pr279 with ⟨e, -, al⟩ | ⟨e, -⟩
        · exact c201 (congrArg Int32.toInt (hu196.trans (al 0 (show 0 < 2 by decide))))
        · omega
      refine iconst K S (x := (1 : Int32)) rfl d0_287 ?_
      refine goto K S d0_288 ?_
      refine retn K S (by simp) (y := (1 : Int32)) rfl (by decide) (by decide) d0_292 ?_
      rfl
    refine iload K S rfl d0_204 ?_
    refine iconst K S (x := (2 : Int32)) rfl d0_206 ?_
    refine icmpz_lt K S d0_207 (fun (c207 : 2 < 2) => ?_) (fun (c207 : ¬ 2 < 2) => ?_)
    · exact absurd c207 (by decide)
    refine aload K S rfl rfl d0_210 ?_
    refine iload K S rfl d0_212 ?_
    refine iconst K S (x := (1 : Int32)) rfl d0_214 ?_
    refine iadd K S d0_215 ?_
    refine nmI fun t215 ht215 => ?_
    have ft215 : (t215.toInt - (t59.toInt + 1)) % 4294967296 = 0 := by rw [ht215]; exact c_iadd t59 (1 : Int32)
    have rt215 := rng32 t215
    refine baload K S (i := t59.toInt.toNat + 1) (show VA Z h133_12 o1 .byte (List.map Value.int [t10, t20, t30, t40, t50]) from A_o1) ⟨own_nneg (by omega), by show t215.toInt.toNat = _; omega⟩ (own_getD (show _ < 5 by omega)) d0_216 ?_
    refine nmI fun u216 hu216 => ?_
    refine aload K S rfl rfl d0_217 ?_
    refine iconst K S (x := (1 : Int32)) rfl d0_219 ?_
    refine baload K S (i := 1) A_o89 ⟨by decide, rfl⟩ rfl d0_220 ?_
    refine icmpz_ne K S d0_221 (fun (c221 : ¬ u216.toInt = r130.toInt) => ?_) (fun (c221 : u216.toInt = r130.toInt) => ?_)
    · refine iconst K S (x := (0 : Int32)) rfl d0_268 ?_
      refine istore K S (l' := #[.val (.long x0), .second, .val (.long x1), .second, .val (.int x2), .val (.int x3), .val (.ref o1), .val (.int t59), .val (.int t75), .val (.int (2 : Int32)), .val (.ref o89), .val (.int (0 : Int32))]) rfl d0_269 ?_
      refine aload K S rfl rfl d0_271 ?_
      refine iload K S rfl d0_273 ?_
      refine iload K S rfl d0_275 ?_
      refine aload K S rfl rfl d0_277 ?_
      refine callS K S (W := 0) (m_sw l Z a0 hw n0 o1 t59 t75 o89 [t10, t20, t30, t40, t50] [r109, r130] (2 : Int32) h133_12 (Sle S) (show VA Z h133_12 o1 .byte (List.map Value.int [t10, t20, t30, t40, t50]) from A_o1) (show VA Z h133_12 o89 .byte (List.map Value.int [r109, r130]) from A_o89) rfl rfl (by omega) (by omega) (by show _ ≤ (5 : Int); omega)) (hwi hw 6 rfl) (hwi hw 7 rfl) (hwi hw 9 rfl) (hwi hw 8 rfl) (by decide) (by decide) (by decide) (by decide) (by decide) rfl (argsL := [.ref o1, .int t59, .int t75, .ref o89]) rfl (lenOf pd_2 rfl) (rest := []) rfl (Nat.le_of_eq rfl) d0_279 (pr fun T r279 pr279 S => ?_)
      show Wp n0 p e _ s below _ T (mkF m 282 #[.val (.long x0), .second, .val (.long x1), .second, .val (.int x2), .val (.int x3), .val (.ref o1), .val (.int t59), .val (.int t75), .val (.int (2 : Int32)), .val (.ref o89), .val (.int (0 : Int32))] [.int r279])
      refine iload K S rfl d0_282 ?_
      refine icmpz_ne K S d0_284 (fun (c284 : ¬ r279.toInt = 0) => ?_) (fun (c284 : r279.toInt = 0) => ?_)
      · exfalso
        rcases pr279 with ⟨e, -, al⟩ | ⟨e, -⟩
        · exact c221 (congrArg Int32.toInt (hu216.trans (al 1 (show 1 < 2 by decide))))
        · omega
      refine iconst K S (x := (1 : Int32)) rfl d0_287 ?_
      refine goto K S d0_288 ?_
      refine retn K S (by simp) (y := (1 : Int32)) rfl (by decide) (by decide) d0_292 ?_
      rfl
    refine iload K S rfl d0_224 ?_
    refine iconst K S (x := (3 : Int32)) rfl d0_226 ?_
    refine icmpz_lt K S d0_227 (fun (c227 : 2 < 3) => ?_) (fun (c227 : ¬ 2 < 3) => ?_)
    rotate_left
    · exact absurd c227 (by decide)
    refine iload K S rfl d0_244 ?_
    refine iconst K S (x := (4 : Int32)) rfl d0_246 ?_
    refine icmpz_lt K S d0_247 (fun (c247 : 2 < 4) => ?_) (fun (c247 : ¬ 2 < 4) => ?_)
    rotate_left
    · exact absurd c247 (by decide)
    refine iconst K S (x := (1 : Int32)) rfl d0_264 ?_
    refine goto K S d0_265 ?_
    refine istore K S (l' := #[.val (.long x0), .second, .val (.long x1), .second, .val (.int x2), .val (.int x3), .val (.ref o1), .val (.int t59), .val (.int t75), .val (.int (2 : Int32)), .val (.ref o89), .val (.int (1 : Int32))]) rfl d0_269 ?_
    refine aload K S rfl rfl d0_271 ?_
    refine iload K S rfl d0_273 ?_
    refine iload K S rfl d0_275 ?_
    refine aload K S rfl rfl d0_277 ?_
    refine callS K S (W := 0) (m_sw l Z a0 hw n0 o1 t59 t75 o89 [t10, t20, t30, t40, t50] [r109, r130] (2 : Int32) h133_12 (Sle S) (show VA Z h133_12 o1 .byte (List.map Value.int [t10, t20, t30, t40, t50]) from A_o1) (show VA Z h133_12 o89 .byte (List.map Value.int [r109, r130]) from A_o89) rfl rfl (by omega) (by omega) (by show _ ≤ (5 : Int); omega)) (hwi hw 6 rfl) (hwi hw 7 rfl) (hwi hw 9 rfl) (hwi hw 8 rfl) (by decide) (by decide) (by decide) (by decide) (by decide) rfl (argsL := [.ref o1, .int t59, .int t75, .ref o89]) rfl (lenOf pd_2 rfl) (rest := []) rfl (Nat.le_of_eq rfl) d0_279 (pr fun T r279 pr279 S => ?_)
    show Wp n0 p e _ s below _ T (mkF m 282 #[.val (.long x0), .second, .val (.long x1), .second, .val (.int x2), .val (.int x3), .val (.ref o1), .val (.int t59), .val (.int t75), .val (.int (2 : Int32)), .val (.ref o89), .val (.int (1 : Int32))] [.int r279])
    refine iload K S rfl d0_282 ?_
    refine icmpz_ne K S d0_284 (fun (c284 : ¬ r279.toInt = 1) => ?_) (fun (c284 : r279.toInt = 1) => ?_)
    · exfalso
      have zn : (([r109, r130] : List Int32).length : Int) = 2 := rfl
      rcases pr279 with ⟨e, -⟩ | ⟨e, q | ⟨j, hj, hne⟩⟩
      · omega
      · omega
      · have hj' : j = 0 ∨ j = 1 := by have : j < 2 := hj; omega
        rcases hj' with rfl | rfl
        · exact hne (hu196.symm.trans (own_eqz c201))
        · exact hne (hu216.symm.trans (own_eqz c221))
    refine iconst K S (x := (1 : Int32)) rfl d0_287 ?_
    refine goto K S d0_288 ?_
    refine retn K S (by simp) (y := (1 : Int32)) rfl (by decide) (by decide) d0_292 ?_
    rfl
  · subst e
    refine iload K S rfl d0_87 ?_
    refine newarr K S (cap := 3) (hwi hw 0 rfl) (by decide) (by decide) (by decide) (by decide) (by decide) d0_89 fun T h89_13 o89 z_o89 g_o89 X A_o89 S => ?_
    have n_o1_o89 : o1 ≠ o89 := by rw [z_o89]; exact Nat.ne_of_lt A_o1.lt
    replace A_o1 := A_o1.ext X
    replace A_o89 : VA Z h89_13 o89 .byte ([.int (0 : Int32), .int (0 : Int32), .int (0 : Int32)]) := A_o89
    clear X
    refine astore K S (l' := #[.val (.long x0), .second, .val (.long x1), .second, .val (.int x2), .val (.int x3), .val (.ref o1), .val (.int t59), .val (.int t75), .val (.int (3 : Int32)), .val (.ref o89), .unset]) rfl rfl d0_91 ?_
    refine iload K S rfl d0_93 ?_
    refine ificz_le K S d0_95 (fun (c95 : ¬ 0 < 3) => ?_) (fun (c95 : 0 < 3) => ?_)
    · exact absurd c95 (by decide)
    refine aload K S rfl rfl d0_98 ?_
    refine iconst K S (x := (0 : Int32)) rfl d0_100 ?_
    refine aload K S rfl rfl d0_101 ?_
    refine iload K S rfl d0_103 ?_
    refine iconst K S (x := (0 : Int32)) rfl d0_105 ?_
    refine iload K S rfl d0_106 ?_
    refine lload_n K S rfl d0_108 ?_
    refine callS K S (W := 2) (m_pre l Z a0 hw n0 o1 t59 (0 : Int32) x3 x1 [t10, t20, t30, t40, t50] h89_13 (Sle S) (show VA Z h89_13 o1 .byte (List.map Value.int [t10, t20, t30, t40, t50]) from A_o1) rfl (by omega) (by omega) (by decide) (by decide)) (hwi hw 2 rfl) (hwi hw 3 rfl) (hwi hw 5 rfl) (hwi hw 4 rfl) (by decide) (by decide) (by decide) (by decide) (by decide) rfl (argsL := [.ref o1, .int t59, .int (0 : Int32), .int x3, .long x1]) rfl (lenOf pd_1 rfl) (rest := [.int (0 : Int32), .ref o89]) rfl (Nat.le_of_eq rfl) d0_109 (pr fun T r109 pr109 S => ?_)
    show Wp n0 p e _ s below _ T (mkF m 112 #[.val (.long x0), .second, .val (.long x1), .second, .val (.int x2), .val (.int x3), .val (.ref o1), .val (.int t59), .val (.int t75), .val (.int (3 : Int32)), .val (.ref o89), .unset] [.int r109, .int (0 : Int32), .ref o89])
    refine bastore K S (i := 0) A_o89 ⟨by decide, rfl⟩ (show (0 : Nat) < 3 by decide) g_o89 d0_112 fun T h112_14 W B S => ?_
    replace A_o1 := A_o1.other W (by first | exact n_o1_o89 | exact Ne.symm n_o89_o1 | omega)
    clear W
    replace A_o89 : VA Z h112_14 o89 .byte ([.int r109, .int (0 : Int32), .int (0 : Int32)]) := (by rw [show nar .byte r109 = r109 from pr109] at B; exact B)
    refine iload K S rfl d0_113 ?_
    refine iconst K S (x := (1 : Int32)) rfl d0_115 ?_
    refine icmpz_le K S d0_116 (fun (c116 : ¬ 1 < 3) => ?_) (fun (c116 : 1 < 3) => ?_)
    · exact absurd c116 (by decide)
    refine aload K S rfl rfl d0_119 ?_
    refine iconst K S (x := (1 : Int32)) rfl d0_121 ?_
    refine aload K S rfl rfl d0_122 ?_
    refine iload K S rfl d0_124 ?_
    refine iconst K S (x := (1 : Int32)) rfl d0_126 ?_
    refine iload K S rfl d0_127 ?_
    refine lload_n K S rfl d0_129 ?_
    refine callS K S (W := 2) (m_pre l Z a0 hw n0 o1 t59 (1 : Int32) x3 x1 [t10, t20, t30, t40, t50] h112_14 (Sle S) (show VA Z h112_14 o1 .byte (List.map Value.int [t10, t20, t30, t40, t50]) from A_o1) rfl (by omega) (by omega) (by decide) (by decide)) (hwi hw 2 rfl) (hwi hw 3 rfl) (hwi hw 5 rfl) (hwi hw 4 rfl) (by decide) (by decide) (by decide) (by decide) (by decide) rfl (argsL := [.ref o1, .int t59, .int (1 : Int32), .int x3, .long x1]) rfl (lenOf pd_1 rfl) (rest := [.int (1 : Int32), .ref o89]) rfl (Nat.le_of_eq rfl) d0_130 (pr fun T r130 pr130 S => ?_)
    show Wp n0 p e _ s below _ T (mkF m 133 #[.val (.long x0), .second, .val (.long x1), .second, .val (.int x2), .val (.int x3), .val (.ref o1), .val (.int t59), .val (.int t75), .val (.int (3 : Int32)), .val (.ref o89), .unset] [.int r130, .int (1 : Int32), .ref o89])
    refine bastore K S (i := 1) A_o89 ⟨by decide, rfl⟩ (show (1 : Nat) < 3 by decide) g_o89 d0_133 fun T h133_15 W B S => ?_
    replace A_o1 := A_o1.other W (by first | exact n_o1_o89 | exact Ne.symm n_o89_o1 | omega)
    clear W
    replace A_o89 : VA Z h133_15 o89 .byte ([.int r109, .int r130, .int (0 : Int32)]) := (by rw [show nar .byte r130 = r130 from pr130] at B; exact B)
    refine iload K S rfl d0_134 ?_
    refine iconst K S (x := (2 : Int32)) rfl d0_136 ?_
    refine icmpz_le K S d0_137 (fun (c137 : ¬ 2 < 3) => ?_) (fun (c137 : 2 < 3) => ?_)
    · exact absurd c137 (by decide)
    refine aload K S rfl rfl d0_140 ?_
    refine iconst K S (x := (2 : Int32)) rfl d0_142 ?_
    refine aload K S rfl rfl d0_143 ?_
    refine iload K S rfl d0_145 ?_
    refine iconst K S (x := (2 : Int32)) rfl d0_147 ?_
    refine iload K S rfl d0_148 ?_
    refine lload_n K S rfl d0_150 ?_
    refine callS K S (W := 2) (m_pre l Z a0 hw n0 o1 t59 (2 : Int32) x3 x1 [t10, t20, t30, t40, t50] h133_15 (Sle S) (show VA Z h133_15 o1 .byte (List.map Value.int [t10, t20, t30, t40, t50]) from A_o1) rfl (by omega) (by omega) (by decide) (by decide)) (hwi hw 2 rfl) (hwi hw 3 rfl) (hwi hw 5 rfl) (hwi hw 4 rfl) (by decide) (by decide) (by decide) (by decide) (by decide) rfl (argsL := [.ref o1, .int t59, .int (2 : Int32), .int x3, .long x1]) rfl (lenOf pd_1 rfl) (rest := [.int (2 : Int32), .ref o89]) rfl (Nat.le_of_eq rfl) d0_151 (pr fun T r151 pr151 S => ?_)
    show Wp n0 p e _ s below _ T (mkF m 154 #[.val (.long x0), .second, .val (.long x1), .second, .val (.int x2), .val (.int x3), .val (.ref o1), .val (.int t59), .val (.int t75), .val (.int (3 : Int32)), .val (.ref o89), .unset] [.int r151, .int (2 : Int32), .ref o89])
    refine bastore K S (i := 2) A_o89 ⟨by decide, rfl⟩ (show (2 : Nat) < 3 by decide) g_o89 d0_154 fun T h154_16 W B S => ?_
    replace A_o1 := A_o1.other W (by first | exact n_o1_o89 | exact Ne.symm n_o89_o1 | omega)
    clear W
    replace A_o89 : VA Z h154_16 o89 .byte ([.int r109, .int r130, .int r151]) := (by rw [show nar .byte r151 = r151 from pr151] at B; exact B)
    refine iload K S rfl d0_155 ?_
    refine iconst K S (x := (3 : Int32)) rfl d0_157 ?_
    refine icmpz_le K S d0_158 (fun (c158 : ¬ 3 < 3) => ?_) (fun (c158 : 3 < 3) => ?_)
    rotate_left
    · exact absurd c158 (by decide)
    refine iload K S rfl d0_176 ?_
    refine iload K S rfl d0_178 ?_
    refine isub K S d0_180 ?_
    refine nmI fun t180 ht180 => ?_
    have ft180 : (t180.toInt - (t75.toInt - t59.toInt)) % 4294967296 = 0 := by rw [ht180]; exact c_isub t75 t59
    have rt180 := rng32 t180
    refine iload K S rfl d0_181 ?_
    refine icmpz_lt K S d0_183 (fun (c183 : t180.toInt < 3) => ?_) (fun (c183 : ¬ t180.toInt < 3) => ?_)
    · refine iconst K S (x := (0 : Int32)) rfl d0_268 ?_
      refine istore K S (l' := #[.val (.long x0), .second, .val (.long x1), .second, .val (.int x2), .val (.int x3), .val (.ref o1), .val (.int t59), .val (.int t75), .val (.int (3 : Int32)), .val (.ref o89), .val (.int (0 : Int32))]) rfl d0_269 ?_
      refine aload K S rfl rfl d0_271 ?_
      refine iload K S rfl d0_273 ?_
      refine iload K S rfl d0_275 ?_
      refine aload K S rfl rfl d0_277 ?_
      refine callS K S (W := 0) (m_sw l Z a0 hw n0 o1 t59 t75 o89 [t10, t20, t30, t40, t50] [r109, r130, r151] (3 : Int32) h154_16 (Sle S) (show VA Z h154_16 o1 .byte (List.map Value.int [t10, t20, t30, t40, t50]) from A_o1) (show VA Z h154_16 o89 .byte (List.map Value.int [r109, r130, r151]) from A_o89) rfl rfl (by omega) (by omega) (by show _ ≤ (5 : Int); omega)) (hwi hw 6 rfl) (hwi hw 7 rfl) (hwi hw 9 rfl) (hwi hw 8 rfl) (by decide) (by decide) (by decide) (by decide) (by decide) rfl (argsL := [.ref o1, .int t59, .int t75, .ref o89]) rfl (lenOf pd_2 rfl) (rest := []) rfl (Nat.le_of_eq rfl) d0_279 (pr fun T r279 pr279 S => ?_)
      show Wp n0 p e _ s below _ T (mkF m 282 #[.val (.long x0), .second, .val (.long x1), .second, .val (.int x2), .val (.int x3), .val (.ref o1), .val (.int t59), .val (.int t75), .val (.int (3 : Int32)), .val (.ref o89), .val (.int (0 : Int32))] [.int r279])
      refine iload K S rfl d0_282 ?_
      refine icmpz_ne K S d0_284 (fun (c284 : ¬ r279.toInt = 0) => ?_) (fun (c284 : r279.toInt = 0) => ?_)
      · exfalso
        have zn : (([r109, r130, r151] : List Int32).length : Int) = 3 := rfl
        rcases pr279 with ⟨e, q, -⟩ | ⟨e, -⟩ <;> omega
      refine iconst K S (x := (1 : Int32)) rfl d0_287 ?_
      refine goto K S d0_288 ?_
      refine retn K S (by simp) (y := (1 : Int32)) rfl (by decide) (by decide) d0_292 ?_
      rfl
    refine iload K S rfl d0_186 ?_
    refine iconst K S (x := (1 : Int32)) rfl d0_188 ?_
    refine icmpz_lt K S d0_189 (fun (c189 : 3 < 1) => ?_) (fun (c189 : ¬ 3 < 1) => ?_)
    · exact absurd c189 (by decide)
    refine aload K S rfl rfl d0_192 ?_
    refine iload K S rfl d0_194 ?_
    refine baload K S (i := t59.toInt.toNat + 0) (show VA Z h154_16 o1 .byte (List.map Value.int [t10, t20, t30, t40, t50]) from A_o1) ⟨own_nneg (by omega), by show t59.toInt.toNat = _; omega⟩ (own_getD (show _ < 5 by omega)) d0_196 ?_
    refine nmI fun u196 hu196 => ?_
    refine aload K S rfl rfl d0_197 ?_
    refine iconst K S (x := (0 : Int32)) rfl d0_199 ?_
    refine baload K S (i := 0) A_o89 ⟨by decide, rfl⟩ rfl d0_200 ?_
    refine icmpz_ne K S d0_201 (fun (c201 : ¬ u196.toInt = r109.toInt) => ?_) (fun (c201 : u196.toInt = r109.toInt) => ?_)
    · refine iconst K S (x := (0 : Int32)) rfl d0_268 ?_
      refine istore K S (l' := #[.val (.long x0), .second, .val (.long x1), .second, .val (.int x2), .val (.int x3), .val (.ref o1), .val (.int t59), .val (.int t75), .val (.int (3 : Int32)), .val (.ref o89), .val (.int (0 : Int32))]) rfl d0_269 ?_
      refine aload K S rfl rfl d0_271 ?_
      refine iload K S rfl d0_273 ?_
      refine iload K S rfl d0_275 ?_
      refine aload K S rfl rfl d0_277 ?_
      refine callS K S (W := 0) (m_sw l Z a0 hw n0 o1 t59 t75 o89 [t10, t20, t30, t40, t50] [r109, r130, r151] (3 : Int32) h154_16 (Sle S) (show VA Z h154_16 o1 .byte (List.map Value.int [t10, t20, t30, t40, t50]) from A_o1) (show VA Z h154_16 o89 .byte (List.map Value.int [r109, r130, r151]) from A_o89) rfl rfl (by omega) (by omega) (by show _ ≤ (5 : Int); omega)) (hwi hw 6 rfl) (hwi hw 7 rfl) (hwi hw 9 rfl) (hwi hw 8 rfl) (by decide) (by decide) (by decide) (by decide) (by decide) rfl (argsL := [.ref o1, .int t59, .int t75, .ref o89]) rfl (lenOf pd_2 rfl) (rest := []) rfl (Nat.le_of_eq rfl) d0_279 (pr fun T r279 pr279 S => ?_)
      show Wp n0 p e _ s below _ T (mkF m 282 #[.val (.long x0), .second, .val (.long x1), .second, .val (.int x2), .val (.int x3), .val (.ref o1), .val (.int t59), .val (.int t75), .val (.int (3 : Int32)), .val (.ref o89), .val (.int (0 : Int32))] [.int r279])
      refine iload K S rfl d0_282 ?_
      refine icmpz_ne K S d0_284 (fun (c284 : ¬ r279.toInt = 0) => ?_) (fun (c284 : r279.toInt = 0) => ?_)
      · exfalso
        rcases pr279 with ⟨e, -, al⟩ | ⟨e, -⟩
        · exact c201 (congrArg Int32.toInt (hu196.trans (al 0 (show 0 < 3 by decide))))
        · omega
      refine iconst K S (x := (1 : Int32)) rfl d0_287 ?_
      refine goto K S d0_288 ?_
      refine retn K S (by simp) (y := (1 : Int32)) rfl (by decide) (by decide) d0_292 ?_
      rfl
    refine iload K S rfl d0_204 ?_
    refine iconst K S (x := (2 : Int32)) rfl d0_206 ?_
    refine icmpz_lt K S d0_207 (fun (c207 : 3 < 2) => ?_) (fun (c207 : ¬ 3 < 2) => ?_)
    · exact absurd c207 (by decide)
    refine aload K S rfl rfl d0_210 ?_
    refine iload K S rfl d0_212 ?_
    refine iconst K S (x := (1 : Int32)) rfl d0_214 ?_
    refine iadd K S d0_215 ?_
    refine nmI fun t215 ht215 => ?_
    have ft215 : (t215.toInt - (t59.toInt + 1)) % 4294967296 = 0 := by rw [ht215]; exact c_iadd t59 (1 : Int32)
    have rt215 := rng32 t215
    refine baload K S (i := t59.toInt.toNat + 1) (show VA Z h154_16 o1 .byte (List.map Value.int [t10, t20, t30, t40, t50]) from A_o1) ⟨own_nneg (by omega), by show t215.toInt.toNat = _; omega⟩ (own_getD (show _ < 5 by omega)) d0_216 ?_
    refine nmI fun u216 hu216 => ?_
    refine aload K S rfl rfl d0_217 ?_
    refine iconst K S (x := (1 : Int32)) rfl d0_219 ?_
    refine baload K S (i := 1) A_o89 ⟨by decide, rfl⟩ rfl d0_220 ?_
    refine icmpz_ne K S d0_221 (fun (c221 : ¬ u216.toInt = r130.toInt) => ?_) (fun (c221 : u216.toInt = r130.toInt) => ?_)
    · refine iconst K S (x := (0 : Int32)) rfl d0_268 ?_
      refine istore K S (l' := #[.val (.long x0), .second, .val (.long x1), .second, .val (.int x2), .val (.int x3), .val (.ref o1), .val (.int t59), .val (.int t75), .val (.int (3 : Int32)), .val (.ref o89), .val (.int (0 : Int32))]) rfl d0_269 ?_
      refine aload K S rfl rfl d0_271 ?_
      refine iload K S rfl d0_273 ?_
      refine iload K S rfl d0_275 ?_
      refine aload K S rfl rfl d0_277 ?_
      refine callS K S (W := 0) (m_sw l Z a0 hw n0 o1 t59 t75 o89 [t10, t20, t30, t40, t50] [r109, r130, r151] (3 : Int32) h154_16 (Sle S) (show VA Z h154_16 o1 .byte (List.map Value.int [t10, t20, t30, t40, t50]) from A_o1) (show VA Z h154_16 o89 .byte (List.map Value.int [r109, r130, r151]) from A_o89) rfl rfl (by omega) (by omega) (by show _ ≤ (5 : Int); omega)) (hwi hw 6 rfl) (hwi hw 7 rfl) (hwi hw 9 rfl) (hwi hw 8 rfl) (by decide) (by decide) (by decide) (by decide) (by decide) rfl (argsL := [.ref o1, .int t59, .int t75, .ref o89]) rfl (lenOf pd_2 rfl) (rest := []) rfl (Nat.le_of_eq rfl) d0_279 (pr fun T r279 pr279 S => ?_)
      show Wp n0 p e _ s below _ T (mkF m 282 #[.val (.long x0), .second, .val (.long x1), .second, .val (.int x2), .val (.int x3), .val (.ref o1), .val (.int t59), .val (.int t75), .val (.int (3 : Int32)), .val (.ref o89), .val (.int (0 : Int32))] [.int r279])
      refine iload K S rfl d0_282 ?_
      refine icmpz_ne K S d0_284 (fun (c284 : ¬ r279.toInt = 0) => ?_) (fun (c284 : r279.toInt = 0) => ?_)
      · exfalso
        rcases pr279 with ⟨e, -, al⟩ | ⟨e, -⟩
        · exact c221 (congrArg Int32.toInt (hu216.trans (al 1 (show 1 < 3 by decide))))
        · omega
      refine iconst K S (x := (1 : Int32)) rfl d0_287 ?_
      refine goto K S d0_288 ?_
      refine retn K S (by simp) (y := (1 : Int32)) rfl (by decide) (by decide) d0_292 ?_
      rfl
    refine iload K S rfl d0_224 ?_
    refine iconst K S (x := (3 : Int32)) rfl d0_226 ?_
    refine icmpz_lt K S d0_227 (fun (c227 : 3 < 3) => ?_) (fun (c227 : ¬ 3 < 3) => ?_)
    · exact absurd c227 (by decide)
    refine aload K S rfl rfl d0_230 ?_
    refine iload K S rfl d0_232 ?_
    refine iconst K S (x := (2 : Int32)) rfl d0_234 ?_
    refine iadd K S d0_235 ?_
    refine nmI fun t235 ht235 => ?_
    have ft235 : (t235.toInt - (t59.toInt + 2)) % 4294967296 = 0 := by rw [ht235]; exact c_iadd t59 (2 : Int32)
    have rt235 := rng32 t235
    refine baload K S (i := t59.toInt.toNat + 2) (show VA Z h154_16 o1 .byte (List.map Value.int [t10, t20, t30, t40, t50]) from A_o1) ⟨own_nneg (by omega), by show t235.toInt.toNat = _; omega⟩ (own_getD (show _ < 5 by omega)) d0_236 ?_
    refine nmI fun u236 hu236 => ?_
    refine aload K S rfl rfl d0_237 ?_
    refine iconst K S (x := (2 : Int32)) rfl d0_239 ?_
    refine baload K S (i := 2) A_o89 ⟨by decide, rfl⟩ rfl d0_240 ?_
    refine icmpz_ne K S d0_241 (fun (c241 : ¬ u236.toInt = r151.toInt) => ?_) (fun (c241 : u236.toInt = r151.toInt) => ?_)
    · refine iconst K S (x := (0 : Int32)) rfl d0_268 ?_
      refine istore K S (l' := #[.val (.long x0), .second, .val (.long x1), .second, .val (.int x2), .val (.int x3), .val (.ref o1), .val (.int t59), .val (.int t75), .val (.int (3 : Int32)), .val (.ref o89), .val (.int (0 : Int32))]) rfl d0_269 ?_
      refine aload K S rfl rfl d0_271 ?_
      refine iload K S rfl d0_273 ?_
      refine iload K S rfl d0_275 ?_
      refine aload K S rfl rfl d0_277 ?_
      refine callS K S (W := 0) (m_sw l Z a0 hw n0 o1 t59 t75 o89 [t10, t20, t30, t40, t50] [r109, r130, r151] (3 : Int32) h154_16 (Sle S) (show VA Z h154_16 o1 .byte (List.map Value.int [t10, t20, t30, t40, t50]) from A_o1) (show VA Z h154_16 o89 .byte (List.map Value.int [r109, r130, r151]) from A_o89) rfl rfl (by omega) (by omega) (by show _ ≤ (5 : Int); omega)) (hwi hw 6 rfl) (hwi hw 7 rfl) (hwi hw 9 rfl) (hwi hw 8 rfl) (by decide) (by decide) (by decide) (by decide) (by decide) rfl (argsL := [.ref o1, .int t59, .int t75, .ref o89]) rfl (lenOf pd_2 rfl) (rest := []) rfl (Nat.le_of_eq rfl) d0_279 (pr fun T r279 pr279 S => ?_)
      show Wp n0 p e _ s below _ T (mkF m 282 #[.val (.long x0), .second, .val (.long x1), .second, .val (.int x2), .val (.int x3), .val (.ref o1), .val (.int t59), .val (.int t75), .val (.int (3 : Int32)), .val (.ref o89), .val (.int (0 : Int32))] [.int r279])
      refine iload K S rfl d0_282 ?_
      refine icmpz_ne K S d0_284 (fun (c284 : ¬ r279.toInt = 0) => ?_) (fun (c284 : r279.toInt = 0) => ?_)
      · exfalso
        rcases pr279 with ⟨e, -, al⟩ | ⟨e, -⟩
        · exact c241 (congrArg Int32.toInt (hu236.trans (al 2 (show 2 < 3 by decide))))
        · omega
      refine iconst K S (x := (1 : Int32)) rfl d0_287 ?_
      refine goto K S d0_288 ?_
      refine retn K S (by simp) (y := (1 : Int32)) rfl (by decide) (by decide) d0_292 ?_
      rfl
    refine iload K S rfl d0_244 ?_
    refine iconst K S (x := (4 : Int32)) rfl d0_246 ?_
    refine icmpz_lt K S d0_247 (fun (c247 : 3 < 4) => ?_) (fun (c247 : ¬ 3 < 4) => ?_)
    rotate_left
    · exact absurd c247 (by decide)
    refine iconst K S (x := (1 : Int32)) rfl d0_264 ?_
    refine goto K S d0_265 ?_
    refine istore K S (l' := #[.val (.long x0), .second, .val (.long x1), .second, .val (.int x2), .val (.int x3), .val (.ref o1), .val (.int t59), .val (.int t75), .val (.int (3 : Int32)), .val (.ref o89), .val (.int (1 : Int32))]) rfl d0_269 ?_
    refine aload K S rfl rfl d0_271 ?_
    refine iload K S rfl d0_273 ?_
    refine iload K S rfl d0_275 ?_
    refine aload K S rfl rfl d0_277 ?_
    refine callS K S (W := 0) (m_sw l Z a0 hw n0 o1 t59 t75 o89 [t10, t20, t30, t40, t50] [r109, r130, r151] (3 : Int32) h154_16 (Sle S) (show VA Z h154_16 o1 .byte (List.map Value.int [t10, t20, t30, t40, t50]) from A_o1) (show VA Z h154_16 o89 .byte (List.map Value.int [r109, r130, r151]) from A_o89) rfl rfl (by omega) (by omega) (by show _ ≤ (5 : Int); omega)) (hwi hw 6 rfl) (hwi hw 7 rfl) (hwi hw 9 rfl) (hwi hw 8 rfl) (by decide) (by decide) (by decide) (by decide) (by decide) rfl (argsL := [.ref o1, .int t59, .int t75, .ref o89]) rfl (lenOf pd_2 rfl) (rest := []) rfl (Nat.le_of_eq rfl) d0_279 (pr fun T r279 pr279 S => ?_)
    show Wp n0 p e _ s below _ T (mkF m 282 #[.val (.long x0), .second, .val (.long x1), .second, .val (.int x2), .val (.int x3), .val (.ref o1), .val (.int t59), .val (.int t75), .val (.int (3 : Int32)), .val (.ref o89), .val (.int (1 : Int32))] [.int r279])
    refine iload K S rfl d0_282 ?_
    refine icmpz_ne K S d0_284 (fun (c284 : ¬ r279.toInt = 1) => ?_) (fun (c284 : r279.toInt = 1) => ?_)
    · exfalso
      have zn : (([r109, r130, r151] : List Int32).length : Int) = 3 := rfl
      rcases pr279 with ⟨e, -⟩ | ⟨e, q | ⟨j, hj, hne⟩⟩
      · omega
      · omega
      · have hj' : j = 0 ∨ j = 1 ∨ j = 2 := by have : j < 3 := hj; omega
        rcases hj' with rfl | rfl | rfl
        · exact hne (hu196.symm.trans (own_eqz c201))
        · exact hne (hu216.symm.trans (own_eqz c221))
        · exact hne (hu236.symm.trans (own_eqz c241))
    refine iconst K S (x := (1 : Int32)) rfl d0_287 ?_
    refine goto K S d0_288 ?_
    refine retn K S (by simp) (y := (1 : Int32)) rfl (by decide) (by decide) d0_292 ?_
    rfl
  · subst e
    refine iload K S rfl d0_87 ?_
    refine newarr K S (cap := 4) (hwi hw 0 rfl) (by decide) (by decide) (by decide) (by decide) (by decide) d0_89 fun T h89_17 o89 z_o89 g_o89 X A_o89 S => ?_
    have n_o1_o89 : o1 ≠ o89 := by rw [z_o89]; exact Nat.ne_of_lt A_o1.lt
    replace A_o1 := A_o1.ext X
    replace A_o89 : VA Z h89_17 o89 .byte ([.int (0 : Int32), .int (0 : Int32), .int (0 : Int32), .int (0 : Int32)]) := A_o89
    clear X
    refine astore K S (l' := #[.val (.long x0), .second, .val (.long x1), .second, .val (.int x2), .val (.int x3), .val (.ref o1), .val (.int t59), .val (.int t75), .val (.int (4 : Int32)), .val (.ref o89), .unset]) rfl rfl d0_91 ?_
    refine iload K S rfl d0_93 ?_
    refine ificz_le K S d0_95 (fun (c95 : ¬ 0 < 4) => ?_) (fun (c95 : 0 < 4) => ?_)
    · exact absurd c95 (by decide)
    refine aload K S rfl rfl d0_98 ?_
    refine iconst K S (x := (0 : Int32)) rfl d0_100 ?_
    refine aload K S rfl rfl d0_101 ?_
    refine iload K S rfl d0_103 ?_
    refine iconst K S (x := (0 : Int32)) rfl d0_105 ?_
    refine iload K S rfl d0_106 ?_
    refine lload_n K S rfl d0_108 ?_
    refine callS K S (W := 2) (m_pre l Z a0 hw n0 o1 t59 (0 : Int32) x3 x1 [t10, t20, t30, t40, t50] h89_17 (Sle S) (show VA Z h89_17 o1 .byte (List.map Value.int [t10, t20, t30, t40, t50]) from A_o1) rfl (by omega) (by omega) (by decide) (by decide)) (hwi hw 2 rfl) (hwi hw 3 rfl) (hwi hw 5 rfl) (hwi hw 4 rfl) (by decide) (by decide) (by decide) (by decide) (by decide) rfl (argsL := [.ref o1, .int t59, .int (0 : Int32), .int x3, .long x1]) rfl (lenOf pd_1 rfl) (rest := [.int (0 : Int32), .ref o89]) rfl (Nat.le_of_eq rfl) d0_109 (pr fun T r109 pr109 S => ?_)
    show Wp n0 p e _ s below _ T (mkF m 112 #[.val (.long x0), .second, .val (.long x1), .second, .val (.int x2), .val (.int x3), .val (.ref o1), .val (.int t59), .val (.int t75), .val (.int (4 : Int32)), .val (.ref o89), .unset] [.int r109, .int (0 : Int32), .ref o89])
    refine bastore K S (i := 0) A_o89 ⟨by decide, rfl⟩ (show (0 : Nat) < 4 by decide) g_o89 d0_112 fun T h112_18 W B S => ?_
    replace A_o1 := A_o1.other W (by first | exact n_o1_o89 | exact Ne.symm n_o89_o1 | omega)
    clear W
    replace A_o89 : VA Z h112_18 o89 .byte ([.int r109, .int (0 : Int32), .int (0 : Int32), .int (0 : Int32)]) := (by rw [show nar .byte r109 = r109 from pr109] at B; exact B)
    refine iload K S rfl d0_113 ?_
    refine iconst K S (x := (1 : Int32)) rfl d0_115 ?_
    refine icmpz_le K S d0_116 (fun (c116 : ¬ 1 < 4) => ?_) (fun (c116 : 1 < 4) => ?_)
    · exact absurd c116 (by decide)
    refine aload K S rfl rfl d0_119 ?_
    refine iconst K S (x := (1 : Int32)) rfl d0_121 ?_
    refine aload K S rfl rfl d0_122 ?_
    refine iload K S rfl d0_124 ?_
    refine iconst K S (x := (1 : Int32)) rfl d0_126 ?_
    refine iload K S rfl d0_127 ?_
    refine lload_n K S rfl d0_129 ?_
    refine callS K S (W := 2) (m_pre l Z a0 hw n0 o1 t59 (1 : Int32) x3 x1 [t10, t20, t30, t40, t50] h112_18 (Sle S) (show VA Z h112_18 o1 .byte (List.map Value.int [t10, t20, t30, t40, t50]) from A_o1) rfl (by omega) (by omega) (by decide) (by decide)) (hwi hw 2 rfl) (hwi hw 3 rfl) (hwi hw 5 rfl) (hwi hw 4 rfl) (by decide) (by decide) (by decide) (by decide) (by decide) rfl (argsL := [.ref o1, .int t59, .int (1 : Int32), .int x3, .long x1]) rfl (lenOf pd_1 rfl) (rest := [.int (1 : Int32), .ref o89]) rfl (Nat.le_of_eq rfl) d0_130 (pr fun T r130 pr130 S => ?_)
    show Wp n0 p e _ s below _ T (mkF m 133 #[.val (.long x0), .second, .val (.long x1), .second, .val (.int x2), .val (.int x3), .val (.ref o1), .val (.int t59), .val (.int t75), .val (.int (4 : Int32)), .val (.ref o89), .unset] [.int r130, .int (1 : Int32), .ref o89])
    refine bastore K S (i := 1) A_o89 ⟨by decide, rfl⟩ (show (1 : Nat) < 4 by decide) g_o89 d0_133 fun T h133_19 W B S => ?_
    replace A_o1 := A_o1.other W (by first | exact n_o1_o89 | exact Ne.symm n_o89_o1 | omega)
    clear W
    replace A_o89 : VA Z h133_19 o89 .byte ([.int r109, .int r130, .int (0 : Int32), .int (0 : Int32)]) := (by rw [show nar .byte r130 = r130 from pr130] at B; exact B)
    refine iload K S rfl d0_134 ?_
    refine iconst K S (x := (2 : Int32)) rfl d0_136 ?_
    refine icmpz_le K S d0_137 (fun (c137 : ¬ 2 < 4) => ?_) (fun (c137 : 2 < 4) => ?_)
    · exact absurd c137 (by decide)
    refine aload K S rfl rfl d0_140 ?_
    refine iconst K S (x := (2 : Int32)) rfl d0_142 ?_
    refine aload K S rfl rfl d0_143 ?_
    refine iload K S rfl d0_145 ?_
    refine iconst K S (x := (2 : Int32)) rfl d0_147 ?_
    refine iload K S rfl d0_148 ?_
    refine lload_n K S rfl d0_150 ?_
    refine callS K S (W := 2) (m_pre l Z a0 hw n0 o1 t59 (2 : Int32) x3 x1 [t10, t20, t30, t40, t50] h133_19 (Sle S) (show VA Z h133_19 o1 .byte (List.map Value.int [t10, t20, t30, t40, t50]) from A_o1) rfl (by omega) (by omega) (by decide) (by decide)) (hwi hw 2 rfl) (hwi hw 3 rfl) (hwi hw 5 rfl) (hwi hw 4 rfl) (by decide) (by decide) (by decide) (by decide) (by decide) rfl (argsL := [.ref o1, .int t59, .int (2 : Int32), .int x3, .long x1]) rfl (lenOf pd_1 rfl) (rest := [.int (2 : Int32), .ref o89]) rfl (Nat.le_of_eq rfl) d0_151 (pr fun T r151 pr151 S => ?_)
    show Wp n0 p e _ s below _ T (mkF m 154 #[.val (.long x0), .second, .val (.long x1), .second, .val (.int x2), .val (.int x3), .val (.ref o1), .val (.int t59), .val (.int t75), .val (.int (4 : Int32)), .val (.ref o89), .unset] [.int r151, .int (2 : Int32), .ref o89])
    refine bastore K S (i := 2) A_o89 ⟨by decide, rfl⟩ (show (2 : Nat) < 4 by decide) g_o89 d0_154 fun T h154_20 W B S => ?_
    replace A_o1 := A_o1.other W (by first | exact n_o1_o89 | exact Ne.symm n_o89_o1 | omega)
    clear W
    replace A_o89 : VA Z h154_20 o89 .byte ([.int r109, .int r130, .int r151, .int (0 : Int32)]) := (by rw [show nar .byte r151 = r151 from pr151] at B; exact B)
    refine iload K S rfl d0_155 ?_
    refine iconst K S (x := (3 : Int32)) rfl d0_157 ?_
    refine icmpz_le K S d0_158 (fun (c158 : ¬ 3 < 4) => ?_) (fun (c158 : 3 < 4) => ?_)
    · exact absurd c158 (by decide)
    refine aload K S rfl rfl d0_161 ?_
    refine iconst K S (x := (3 : Int32)) rfl d0_163 ?_
    refine aload K S rfl rfl d0_164 ?_
    refine iload K S rfl d0_166 ?_
    refine iconst K S (x := (3 : Int32)) rfl d0_168 ?_
    refine iload K S rfl d0_169 ?_
    refine lload_n K S rfl d0_171 ?_
    refine callS K S (W := 2) (m_pre l Z a0 hw n0 o1 t59 (3 : Int32) x3 x1 [t10, t20, t30, t40, t50] h154_20 (Sle S) (show VA Z h154_20 o1 .byte (List.map Value.int [t10, t20, t30, t40, t50]) from A_o1) rfl (by omega) (by omega) (by decide) (by decide)) (hwi hw 2 rfl) (hwi hw 3 rfl) (hwi hw 5 rfl) (hwi hw 4 rfl) (by decide) (by decide) (by decide) (by decide) (by decide) rfl (argsL := [.ref o1, .int t59, .int (3 : Int32), .int x3, .long x1]) rfl (lenOf pd_1 rfl) (rest := [.int (3 : Int32), .ref o89]) rfl (Nat.le_of_eq rfl) d0_172 (pr fun T r172 pr172 S => ?_)
    show Wp n0 p e _ s below _ T (mkF m 175 #[.val (.long x0), .second, .val (.long x1), .second, .val (.int x2), .val (.int x3), .val (.ref o1), .val (.int t59), .val (.int t75), .val (.int (4 : Int32)), .val (.ref o89), .unset] [.int r172, .int (3 : Int32), .ref o89])
    refine bastore K S (i := 3) A_o89 ⟨by decide, rfl⟩ (show (3 : Nat) < 4 by decide) g_o89 d0_175 fun T h175_21 W B S => ?_
    replace A_o1 := A_o1.other W (by first | exact n_o1_o89 | exact Ne.symm n_o89_o1 | omega)
    clear W
    replace A_o89 : VA Z h175_21 o89 .byte ([.int r109, .int r130, .int r151, .int r172]) := (by rw [show nar .byte r172 = r172 from pr172] at B; exact B)
    refine iload K S rfl d0_176 ?_
    refine iload K S rfl d0_178 ?_
    refine isub K S d0_180 ?_
    refine nmI fun t180 ht180 => ?_
    have ft180 : (t180.toInt - (t75.toInt - t59.toInt)) % 4294967296 = 0 := by rw [ht180]; exact c_isub t75 t59
    have rt180 := rng32 t180
    refine iload K S rfl d0_181 ?_
    refine icmpz_lt K S d0_183 (fun (c183 : t180.toInt < 4) => ?_) (fun (c183 : ¬ t180.toInt < 4) => ?_)
    · refine iconst K S (x := (0 : Int32)) rfl d0_268 ?_
      refine istore K S (l' := #[.val (.long x0), .second, .val (.long x1), .second, .val (.int x2), .val (.int x3), .val (.ref o1), .val (.int t59), .val (.int t75), .val (.int (4 : Int32)), .val (.ref o89), .val (.int (0 : Int32))]) rfl d0_269 ?_
      refine aload K S rfl rfl d0_271 ?_
      refine iload K S rfl d0_273 ?_
      refine iload K S rfl d0_275 ?_
      refine aload K S rfl rfl d0_277 ?_
      refine callS K S (W := 0) (m_sw l Z a0 hw n0 o1 t59 t75 o89 [t10, t20, t30, t40, t50] [r109, r130, r151, r172] (4 : Int32) h175_21 (Sle S) (show VA Z h175_21 o1 .byte (List.map Value.int [t10, t20, t30, t40, t50]) from A_o1) (show VA Z h175_21 o89 .byte (List.map Value.int [r109, r130, r151, r172]) from A_o89) rfl rfl (by omega) (by omega) (by show _ ≤ (5 : Int); omega)) (hwi hw 6 rfl) (hwi hw 7 rfl) (hwi hw 9 rfl) (hwi hw 8 rfl) (by decide) (by decide) (by decide) (by decide) (by decide) rfl (argsL := [.ref o1, .int t59, .int t75, .ref o89]) rfl (lenOf pd_2 rfl) (rest := []) rfl (Nat.le_of_eq rfl) d0_279 (pr fun T r279 pr279 S => ?_)
      show Wp n0 p e _ s below _ T (mkF m 282 #[.val (.long x0), .second, .val (.long x1), .second, .val (.int x2), .val (.int x3), .val (.ref o1), .val (.int t59), .val (.int t75), .val (.int (4 : Int32)), .val (.ref o89), .val (.int (0 : Int32))] [.int r279])
      refine iload K S rfl d0_282 ?_
      refine icmpz_ne K S d0_284 (fun (c284 : ¬ r279.toInt = 0) => ?_) (fun (c284 : r279.toInt = 0) => ?_)
      · exfalso
        have zn : (([r109, r130, r151, r172] : List Int32).length : Int) = 4 := rfl
        rcases pr279 with ⟨e, q, -⟩ | ⟨e, -⟩ <;> omega
      refine iconst K S (x := (1 : Int32)) rfl d0_287 ?_
      refine goto K S d0_288 ?_
      refine retn K S (by simp) (y := (1 : Int32)) rfl (by decide) (by decide) d0_292 ?_
      rfl
    refine iload K S rfl d0_186 ?_
    refine iconst K S (x := (1 : Int32)) rfl d0_188 ?_
    refine icmpz_lt K S d0_189 (fun (c189 : 4 < 1) => ?_) (fun (c189 : ¬ 4 < 1) => ?_)
    · exact absurd c189 (by decide)
    refine aload K S rfl rfl d0_192 ?_
    refine iload K S rfl d0_194 ?_
    refine baload K S (i := t59.toInt.toNat + 0) (show VA Z h175_21 o1 .byte (List.map Value.int [t10, t20, t30, t40, t50]) from A_o1) ⟨own_nneg (by omega), by show t59.toInt.toNat = _; omega⟩ (own_getD (show _ < 5 by omega)) d0_196 ?_
    refine nmI fun u196 hu196 => ?_
    refine aload K S rfl rfl d0_197 ?_
    refine iconst K S (x := (0 : Int32)) rfl d0_199 ?_
    refine baload K S (i := 0) A_o89 ⟨by decide, rfl⟩ rfl d0_200 ?_
    refine icmpz_ne K S d0_201 (fun (c201 : ¬ u196.toInt = r109.toInt) => ?_) (fun (c201 : u196.toInt = r109.toInt) => ?_)
    · refine iconst K S (x := (0 : Int32)) rfl d0_268 ?_
      refine istore K S (l' := #[.val (.long x0), .second, .val (.long x1), .second, .val (.int x2), .val (.int x3), .val (.ref o1), .val (.int t59), .val (.int t75), .val (.int (4 : Int32)), .val (.ref o89), .val (.int (0 : Int32))]) rfl d0_269 ?_
      refine aload K S rfl rfl d0_271 ?_
      refine iload K S rfl d0_273 ?_
      refine iload K S rfl d0_275 ?_
      refine aload K S rfl rfl d0_277 ?_
      refine callS K S (W := 0) (m_sw l Z a0 hw n0 o1 t59 t75 o89 [t10, t20, t30, t40, t50] [r109, r130, r151, r172] (4 : Int32) h175_21 (Sle S) (show VA Z h175_21 o1 .byte (List.map Value.int [t10, t20, t30, t40, t50]) from A_o1) (show VA Z h175_21 o89 .byte (List.map Value.int [r109, r130, r151, r172]) from A_o89) rfl rfl (by omega) (by omega) (by show _ ≤ (5 : Int); omega)) (hwi hw 6 rfl) (hwi hw 7 rfl) (hwi hw 9 rfl) (hwi hw 8 rfl) (by decide) (by decide) (by decide) (by decide) (by decide) rfl (argsL := [.ref o1, .int t59, .int t75, .ref o89]) rfl (lenOf pd_2 rfl) (rest := []) rfl (Nat.le_of_eq rfl) d0_279 (pr fun T r279 pr279 S => ?_)
      show Wp n0 p e _ s below _ T (mkF m 282 #[.val (.long x0), .second, .val (.long x1), .second, .val (.int x2), .val (.int x3), .val (.ref o1), .val (.int t59), .val (.int t75), .val (.int (4 : Int32)), .val (.ref o89), .val (.int (0 : Int32))] [.int r279])
      refine iload K S rfl d0_282 ?_
      refine icmpz_ne K S d0_284 (fun (c284 : ¬ r279.toInt = 0) => ?_) (fun (c284 : r279.toInt = 0) => ?_)
      · exfalso
        rcases pr279 with ⟨e, -, al⟩ | ⟨e, -⟩
        · exact c201 (congrArg Int32.toInt (hu196.trans (al 0 (show 0 < 4 by decide))))
        · omega
      refine iconst K S (x := (1 : Int32)) rfl d0_287 ?_
      refine goto K S d0_288 ?_
      refine retn K S (by simp) (y := (1 : Int32)) rfl (by decide) (by decide) d0_292 ?_
      rfl
    refine iload K S rfl d0_204 ?_
    refine iconst K S (x := (2 : Int32)) rfl d0_206 ?_
    refine icmpz_lt K S d0_207 (fun (c207 : 4 < 2) => ?_) (fun (c207 : ¬ 4 < 2) => ?_)
    · exact absurd c207 (by decide)
    refine aload K S rfl rfl d0_210 ?_
    refine iload K S rfl d0_212 ?_
    refine iconst K S (x := (1 : Int32)) rfl d0_214 ?_
    refine iadd K S d0_215 ?_
    refine nmI fun t215 ht215 => ?_
    have ft215 : (t215.toInt - (t59.toInt + 1)) % 4294967296 = 0 := by rw [ht215]; exact c_iadd t59 (1 : Int32)
    have rt215 := rng32 t215
    refine baload K S (i := t59.toInt.toNat + 1) (show VA Z h175_21 o1 .byte (List.map Value.int [t10, t20, t30, t40, t50]) from A_o1) ⟨own_nneg (by omega), by show t215.toInt.toNat = _; omega⟩ (own_getD (show _ < 5 by omega)) d0_216 ?_
    refine nmI fun u216 hu216 => ?_
    refine aload K S rfl rfl d0_217 ?_
    refine iconst K S (x := (1 : Int32)) rfl d0_219 ?_
    refine baload K S (i := 1) A_o89 ⟨by decide, rfl⟩ rfl d0_220 ?_
    refine icmpz_ne K S d0_221 (fun (c221 : ¬ u216.toInt = r130.toInt) => ?_) (fun (c221 : u216.toInt = r130.toInt) => ?_)
    · refine iconst K S (x := (0 : Int32)) rfl d0_268 ?_
      refine istore K S (l' := #[.val (.long x0), .second, .val (.long x1), .second, .val (.int x2), .val (.int x3), .val (.ref o1), .val (.int t59), .val (.int t75), .val (.int (4 : Int32)), .val (.ref o89), .val (.int (0 : Int32))]) rfl d0_269 ?_
      refine aload K S rfl rfl d0_271 ?_
      refine iload K S rfl d0_273 ?_
      refine iload K S rfl d0_275 ?_
      refine aload K S rfl rfl d0_277 ?_
      refine callS K S (W := 0) (m_sw l Z a0 hw n0 o1 t59 t75 o89 [t10, t20, t30, t40, t50] [r109, r130, r151, r172] (4 : Int32) h175_21 (Sle S) (show VA Z h175_21 o1 .byte (List.map Value.int [t10, t20, t30, t40, t50]) from A_o1) (show VA Z h175_21 o89 .byte (List.map Value.int [r109, r130, r151, r172]) from A_o89) rfl rfl (by omega) (by omega) (by show _ ≤ (5 : Int); omega)) (hwi hw 6 rfl) (hwi hw 7 rfl) (hwi hw 9 rfl) (hwi hw 8 rfl) (by decide) (by decide) (by decide) (by decide) (by decide) rfl (argsL := [.ref o1, .int t59, .int t75, .ref o89]) rfl (lenOf pd_2 rfl) (rest := []) rfl (Nat.le_of_eq rfl) d0_279 (pr fun T r279 pr279 S => ?_)
      show Wp n0 p e _ s below _ T (mkF m 282 #[.val (.long x0), .second, .val (.long x1), .second, .val (.int x2), .val (.int x3), .val (.ref o1), .val (.int t59), .val (.int t75), .val (.int (4 : Int32)), .val (.ref o89), .val (.int (0 : Int32))] [.int r279])
      refine iload K S rfl d0_282 ?_
      refine icmpz_ne K S d0_284 (fun (c284 : ¬ r279.toInt = 0) => ?_) (fun (c284 : r279.toInt = 0) => ?_)
      · exfalso
        rcases pr279 with ⟨e, -, al⟩ | ⟨e, -⟩
        · exact c221 (congrArg Int32.toInt (hu216.trans (al 1 (show 1 < 4 by decide))))
        · omega
      refine iconst K S (x := (1 : Int32)) rfl d0_287 ?_
      refine goto K S d0_288 ?_
      refine retn K S (by simp) (y := (1 : Int32)) rfl (by decide) (by decide) d0_292 ?_
      rfl
    refine iload K S rfl d0_224 ?_
    refine iconst K S (x := (3 : Int32)) rfl d0_226 ?_
    refine icmpz_lt K S d0_227 (fun (c227 : 4 < 3) => ?_) (fun (c227 : ¬ 4 < 3) => ?_)
    · exact absurd c227 (by decide)
    refine aload K S rfl rfl d0_230 ?_
    refine iload K S rfl d0_232 ?_
    refine iconst K S (x := (2 : Int32)) rfl d0_234 ?_
    refine iadd K S d0_235 ?_
    refine nmI fun t235 ht235 => ?_
    have ft235 : (t235.toInt - (t59.toInt + 2)) % 4294967296 = 0 := by rw [ht235]; exact c_iadd t59 (2 : Int32)
    have rt235 := rng32 t235
    refine baload K S (i := t59.toInt.toNat + 2) (show VA Z h175_21 o1 .byte (List.map Value.int [t10, t20, t30, t40, t50]) from A_o1) ⟨own_nneg (by omega), by show t235.toInt.toNat = _; omega⟩ (own_getD (show _ < 5 by omega)) d0_236 ?_
    refine nmI fun u236 hu236 => ?_
    refine aload K S rfl rfl d0_237 ?_
    refine iconst K S (x := (2 : Int32)) rfl d0_239 ?_
    refine baload K S (i := 2) A_o89 ⟨by decide, rfl⟩ rfl d0_240 ?_
    refine icmpz_ne K S d0_241 (fun (c241 : ¬ u236.toInt = r151.toInt) => ?_) (fun (c241 : u236.toInt = r151.toInt) => ?_)
    · refine iconst K S (x := (0 : Int32)) rfl d0_268 ?_
      refine istore K S (l' := #[.val (.long x0), .second, .val (.long x1), .second, .val (.int x2), .val (.int x3), .val (.ref o1), .val (.int t59), .val (.int t75), .val (.int (4 : Int32)), .val (.ref o89), .val (.int (0 : Int32))]) rfl d0_269 ?_
      refine aload K S rfl rfl d0_271 ?_
      refine iload K S rfl d0_273 ?_
      refine iload K S rfl d0_275 ?_
      refine aload K S rfl rfl d0_277 ?_
      refine callS K S (W := 0) (m_sw l Z a0 hw n0 o1 t59 t75 o89 [t10, t20, t30, t40, t50] [r109, r130, r151, r172] (4 : Int32) h175_21 (Sle S) (show VA Z h175_21 o1 .byte (List.map Value.int [t10, t20, t30, t40, t50]) from A_o1) (show VA Z h175_21 o89 .byte (List.map Value.int [r109, r130, r151, r172]) from A_o89) rfl rfl (by omega) (by omega) (by show _ ≤ (5 : Int); omega)) (hwi hw 6 rfl) (hwi hw 7 rfl) (hwi hw 9 rfl) (hwi hw 8 rfl) (by decide) (by decide) (by decide) (by decide) (by decide) rfl (argsL := [.ref o1, .int t59, .int t75, .ref o89]) rfl (lenOf pd_2 rfl) (rest := []) rfl (Nat.le_of_eq rfl) d0_279 (pr fun T r279 pr279 S => ?_)
      show Wp n0 p e _ s below _ T (mkF m 282 #[.val (.long x0), .second, .val (.long x1), .second, .val (.int x2), .val (.int x3), .val (.ref o1), .val (.int t59), .val (.int t75), .val (.int (4 : Int32)), .val (.ref o89), .val (.int (0 : Int32))] [.int r279])
      refine iload K S rfl d0_282 ?_
      refine icmpz_ne K S d0_284 (fun (c284 : ¬ r279.toInt = 0) => ?_) (fun (c284 : r279.toInt = 0) => ?_)
      · exfalso
        rcases pr279 with ⟨e, -, al⟩ | ⟨e, -⟩
        · exact c241 (congrArg Int32.toInt (hu236.trans (al 2 (show 2 < 4 by decide))))
        · omega
      refine iconst K S (x := (1 : Int32)) rfl d0_287 ?_
      refine goto K S d0_288 ?_
      refine retn K S (by simp) (y := (1 : Int32)) rfl (by decide) (by decide) d0_292 ?_
      rfl
    refine iload K S rfl d0_244 ?_
    refine iconst K S (x := (4 : Int32)) rfl d0_246 ?_
    refine icmpz_lt K S d0_247 (fun (c247 : 4 < 4) => ?_) (fun (c247 : ¬ 4 < 4) => ?_)
    · exact absurd c247 (by decide)
    refine aload K S rfl rfl d0_250 ?_
    refine iload K S rfl d0_252 ?_
    refine iconst K S (x := (3 : Int32)) rfl d0_254 ?_
    refine iadd K S d0_255 ?_
    refine nmI fun t255 ht255 => ?_
    have ft255 : (t255.toInt - (t59.toInt + 3)) % 4294967296 = 0 := by rw [ht255]; exact c_iadd t59 (3 : Int32)
    have rt255 := rng32 t255
    refine baload K S (i := t59.toInt.toNat + 3) (show VA Z h175_21 o1 .byte (List.map Value.int [t10, t20, t30, t40, t50]) from A_o1) ⟨own_nneg (by omega), by show t255.toInt.toNat = _; omega⟩ (own_getD (show _ < 5 by omega)) d0_256 ?_
    refine nmI fun u256 hu256 => ?_
    refine aload K S rfl rfl d0_257 ?_
    refine iconst K S (x := (3 : Int32)) rfl d0_259 ?_
    refine baload K S (i := 3) A_o89 ⟨by decide, rfl⟩ rfl d0_260 ?_
    refine icmpz_ne K S d0_261 (fun (c261 : ¬ u256.toInt = r172.toInt) => ?_) (fun (c261 : u256.toInt = r172.toInt) => ?_)
    · refine iconst K S (x := (0 : Int32)) rfl d0_268 ?_
      refine istore K S (l' := #[.val (.long x0), .second, .val (.long x1), .second, .val (.int x2), .val (.int x3), .val (.ref o1), .val (.int t59), .val (.int t75), .val (.int (4 : Int32)), .val (.ref o89), .val (.int (0 : Int32))]) rfl d0_269 ?_
      refine aload K S rfl rfl d0_271 ?_
      refine iload K S rfl d0_273 ?_
      refine iload K S rfl d0_275 ?_
      refine aload K S rfl rfl d0_277 ?_
      refine callS K S (W := 0) (m_sw l Z a0 hw n0 o1 t59 t75 o89 [t10, t20, t30, t40, t50] [r109, r130, r151, r172] (4 : Int32) h175_21 (Sle S) (show VA Z h175_21 o1 .byte (List.map Value.int [t10, t20, t30, t40, t50]) from A_o1) (show VA Z h175_21 o89 .byte (List.map Value.int [r109, r130, r151, r172]) from A_o89) rfl rfl (by omega) (by omega) (by show _ ≤ (5 : Int); omega)) (hwi hw 6 rfl) (hwi hw 7 rfl) (hwi hw 9 rfl) (hwi hw 8 rfl) (by decide) (by decide) (by decide) (by decide) (by decide) rfl (argsL := [.ref o1, .int t59, .int t75, .ref o89]) rfl (lenOf pd_2 rfl) (rest := []) rfl (Nat.le_of_eq rfl) d0_279 (pr fun T r279 pr279 S => ?_)
      show Wp n0 p e _ s below _ T (mkF m 282 #[.val (.long x0), .second, .val (.long x1), .second, .val (.int x2), .val (.int x3), .val (.ref o1), .val (.int t59), .val (.int t75), .val (.int (4 : Int32)), .val (.ref o89), .val (.int (0 : Int32))] [.int r279])
      refine iload K S rfl d0_282 ?_
      refine icmpz_ne K S d0_284 (fun (c284 : ¬ r279.toInt = 0) => ?_) (fun (c284 : r279.toInt = 0) => ?_)
      · exfalso
        rcases pr279 with ⟨e, -, al⟩ | ⟨e, -⟩
        · exact c261 (congrArg Int32.toInt (hu256.trans (al 3 (show 3 < 4 by decide))))
        · omega
      refine iconst K S (x := (1 : Int32)) rfl d0_287 ?_
      refine goto K S d0_288 ?_
      refine retn K S (by simp) (y := (1 : Int32)) rfl (by decide) (by decide) d0_292 ?_
      rfl
    refine iconst K S (x := (1 : Int32)) rfl d0_264 ?_
    refine goto K S d0_265 ?_
    refine istore K S (l' := #[.val (.long x0), .second, .val (.long x1), .second, .val (.int x2), .val (.int x3), .val (.ref o1), .val (.int t59), .val (.int t75), .val (.int (4 : Int32)), .val (.ref o89), .val (.int (1 : Int32))]) rfl d0_269 ?_
    refine aload K S rfl rfl d0_271 ?_
    refine iload K S rfl d0_273 ?_
    refine iload K S rfl d0_275 ?_
    refine aload K S rfl rfl d0_277 ?_
    refine callS K S (W := 0) (m_sw l Z a0 hw n0 o1 t59 t75 o89 [t10, t20, t30, t40, t50] [r109, r130, r151, r172] (4 : Int32) h175_21 (Sle S) (show VA Z h175_21 o1 .byte (List.map Value.int [t10, t20, t30, t40, t50]) from A_o1) (show VA Z h175_21 o89 .byte (List.map Value.int [r109, r130, r151, r172]) from A_o89) rfl rfl (by omega) (by omega) (by show _ ≤ (5 : Int); omega)) (hwi hw 6 rfl) (hwi hw 7 rfl) (hwi hw 9 rfl) (hwi hw 8 rfl) (by decide) (by decide) (by decide) (by decide) (by decide) rfl (argsL := [.ref o1, .int t59, .int t75, .ref o89]) rfl (lenOf pd_2 rfl) (rest := []) rfl (Nat.le_of_eq rfl) d0_279 (pr fun T r279 pr279 S => ?_)
    show Wp n0 p e _ s below _ T (mkF m 282 #[.val (.long x0), .second, .val (.long x1), .second, .val (.int x2), .val (.int x3), .val (.ref o1), .val (.int t59), .val (.int t75), .val (.int (4 : Int32)), .val (.ref o89), .val (.int (1 : Int32))] [.int r279])
    refine iload K S rfl d0_282 ?_
    refine icmpz_ne K S d0_284 (fun (c284 : ¬ r279.toInt = 1) => ?_) (fun (c284 : r279.toInt = 1) => ?_)
    · exfalso
      have zn : (([r109, r130, r151, r172] : List Int32).length : Int) = 4 := rfl
      rcases pr279 with ⟨e, -⟩ | ⟨e, q | ⟨j, hj, hne⟩⟩
      · omega
      · omega
      · have hj' : j = 0 ∨ j = 1 ∨ j = 2 ∨ j = 3 := by have : j < 4 := hj; omega
        rcases hj' with rfl | rfl | rfl | rfl
        · exact hne (hu196.symm.trans (own_eqz c201))
        · exact hne (hu216.symm.trans (own_eqz c221))
        · exact hne (hu236.symm.trans (own_eqz c241))
        · exact hne (hu256.symm.trans (own_eqz c261))
    refine iconst K S (x := (1 : Int32)) rfl d0_287 ?_
    refine goto K S d0_288 ?_
    refine retn K S (by simp) (y := (1 : Int32)) rfl (by decide) (by decide) d0_292 ?_
    rfl

set_option maxRecDepth 65536 in
set_option maxHeartbeats 40000000 in
theorem comes_1 {Post : Tables → Env → Array Value → State → Outcome → State → Prop} (hpost : ∀ tb e args s v u, (limb_1_1.after args s (.returned v) u = true ∧ limb_1_2.after args s (.returned v) u = true ∧ True) → FrameEnd s (.returned v) u (Jvm.fieldLocs frame_1_writes args s ++ Jvm.arrayLocs frame_1_arrays args s ++ Jvm.staticLocs frame_1_statics s) 16 128 → Post tb e args s (.returned v) u) :
    ArmFor flags0 classFile x code maxLocals ret World_1 tables_1 room_1 Calls_1 rest_1 Pre_1 Post := by
  intro l hfl _ _ p e ha hc hk s m args below hf hA hF happ hP
  obtain ⟨hcalls, hrest, hpre⟩ := hP
  obtain ⟨-, -, -, hnamed, -, -, -, hat⟩ := (Spec.applies_iff hf).mp happ
  obtain ⟨hg, hn⟩ := and_e (Cond.before_iff.mp (show (Jvm.Cond.and given_1 narrow_1).before args s = true from hpre))
  obtain ⟨gc, r0⟩ := and_e hg
  obtain ⟨g0, r1⟩ := and_e r0
  obtain ⟨g1, r2⟩ := and_e r1
  obtain ⟨g2, r3⟩ := and_e r2
  obtain ⟨w0, w1, w2, w3, rfl⟩ : ∃ w0 w1 w2 w3 : Value, args = #[w0, w1, w2, w3] := by
    have hs : args.size = 4 := by simpa [Cond.value, given_1] using gc
    obtain ⟨L⟩ := args
    match L, hs with
    | [w0, w1, w2, w3], _ => exact ⟨w0, w1, w2, w3, rfl⟩
  have hw := fun d (hd : d ∈ tables_1) => atoms_spec (ws := Jvm.Cond.code x code maxLocals ret :: tables_1) hat d (List.mem_cons_of_mem _ hd)
  obtain ⟨i0, ei0⟩ := isL_v g0
  obtain rfl : w0 = (.long i0) := Option.some.inj ei0
  obtain ⟨i1, ei1⟩ := isL_v g1
  obtain rfl : w1 = (.long i1) := Option.some.inj ei1
  obtain ⟨i2, ei2⟩ := is_v g2
  obtain rfl : w2 = (.int i2) := Option.some.inj ei2
  obtain ⟨i3, ei3⟩ := is_v r3
  obtain rfl : w3 = (.int i3) := Option.some.inj ei3
  obtain ⟨n, o, h1, h2, h3, _, L, rfl, ⟨rfl, -, N⟩, hq⟩ := m_law l s _ hw s.heap.size i0 i1 i2 i3 s.heap (Nat.le_refl _) p e ha hc hk s m _ below hf ((Spec.applies_iff_loose hf).mp happ).1 ⟨rfl, State.Warmed39.refl s, rfl⟩ trivial
  refine ⟨n, _, h1, h2, h3, hpost _ _ _ _ _ _ ⟨Cond.after_iff.mpr rfl, Cond.after_iff.mpr (eq_i res_at (Term.int_eval (1)) rfl), trivial⟩ ⟨hq.1, hq.2.1, (hq.2.2.sift fun y hy => Or.inr (N y hy)).mono (by decide) (by decide)⟩⟩
theorem main_1_1 : Claimed_1_1 := comes_1 fun _ _ _ _ _ _ h hF => ⟨h.1, hF⟩
theorem main_1_2 : Claimed_1_2 := comes_1 fun _ _ _ _ _ _ h hF => ⟨h.2.1, hF⟩
end Jvm.Pilot.@@N@@
namespace Jvm.Pilot.@@N@@
open Jvm Jvm.ClassFile Sem Op Lib Jvm.Free Jvm.Stand Jvm.Pilot.@@N@@.Jvm.D
/-! MADE BY PROGRAM (witnessworld.py) out of the Statement's table words and the real class files: 9 classes; the members and pool entries that the words name. The judged class is class 1, her method 2. -/
namespace start1
open Jvm.ClassFile
def u (s : String) : CpInfo := .utf8 (stringToUtf16 s)
/-- a pool by its gaps: so many unusable entries, then the entry; so many at the end -/
def gap : Nat → List CpInfo → List CpInfo
  | 0, r => r
  | n + 1, r => .unusable :: gap n r
def poolList (es : List (Nat × CpInfo)) (last : Nat) : List CpInfo := es.foldr (fun e r => gap e.1 (e.2 :: r)) (gap last [])
def pool (es : List (Nat × CpInfo)) (last : Nat) : Array CpInfo := ⟨poolList es last⟩
def fileOf (pool : Array CpInfo) (this : Nat) (attrs : Array Attribute := #[]) (ms : Array MethodInfo := #[]) (fl : Nat := 33) (sup : Nat := 0) (ifs : Array Nat := #[]) (fds : Array FieldInfo := #[]) : ClassFile where
  minorVersion := 0
  majorVersion := 65
  constantPool := pool
  accessFlags := fl
  thisClass := this
  superClass := sup
  interfaces := ifs
  fields := fds
  methods := ms
  attributes := attrs
def plain (name : String) (sup : Option ClassId) : Class where
  name := name
  kind := .ordinary
  loader := none
  accessFlags := 33
  super := sup
  interfaces := #[]
  cf := none
  fields := #[]
  methods := #[]
  instanceTypes := #[]
  staticTypes := #[]
  resolved := #[]
  callSites := []
  init := .initialized
  statics := none
  mirror := none

def pool0 : Array CpInfo := pool [(5, u "<init>"), (0, u "()V"), (1, .class_ 10), (1, u "java/lang/Object")] 113

def k0m0 : Method := { name := "<init>", desc := "()V", sig := { parameters := [], returnType := none }, accessFlags := 1, code := none }
/-- java/lang/Object -/
def k0 : Class := { plain "java/lang/Object" none with
  accessFlags := 33
  interfaces := #[]
  cf := some (fileOf pool0 8 #[] #[{ accessFlags := 1, nameIndex := 5, descriptorIndex := 6, attributes := #[] }] 33 0 #[] #[])
  fields := #[]
  methods := #[k0m0]
  instanceTypes := #[]
  staticTypes := #[]
  resolved := Array.replicate 124 none
  statics := none }

def pool1 : Array CpInfo := pool [(2, .class_ 4), (1, u "java/lang/Object"), (0, u "<init>"), (0, u "()V"), (0, .integer 2147483647), (0, .methodref 9 10), (0, .class_ 11), (0, .nameAndType 12 13), (0, u "com/example/vilkarsbok/vilkarsbok/TextLinesStartsWithPinLaw"), (0, u "pre"), (0, u "([BIIIJ)B"), (0, .methodref 15 16), (0, .class_ 17), (0, .nameAndType 18 19), (0, u "com/example/vilkarsbok/vilkarsbok/TextLines"), (0, u "startsWith"), (0, u "([BII[B)Z"), (3, u "law"), (0, u "(JJII)Z")] 4

def k1m0 : Method := { name := "<init>", desc := "()V", sig := { parameters := [], returnType := none }, accessFlags := 2, code := none }
def k1c1 : Code := { maxStack := 4, maxLocals := 6, code := method_2_code, exceptionTable := #[], attributes := #[] }
def k1m1 : Method := { name := "pre", desc := "([BIIIJ)B", sig := { parameters := [(.array .byte), .int, .int, .int, .long], returnType := some .byte }, accessFlags := 10, code := some k1c1 }
def k1c2 : Code := { maxStack := 8, maxLocals := 12, code := code, exceptionTable := #[], attributes := #[] }
def k1m2 : Method := { name := "law", desc := "(JJII)Z", sig := { parameters := [.long, .long, .int, .int], returnType := some .boolean }, accessFlags := 9, code := some k1c2 }
/-- com/example/vilkarsbok/vilkarsbok/TextLinesStartsWithPinLaw -/
def k1 : Class := { plain "com/example/vilkarsbok/vilkarsbok/TextLinesStartsWithPinLaw" (some 0) with
  accessFlags := 49
  interfaces := #[]
  cf := some (fileOf pool1 9 #[] #[{ accessFlags := 2, nameIndex := 5, descriptorIndex := 6, attributes := #[] }, { accessFlags := 10, nameIndex := 12, descriptorIndex := 13, attributes := #[] }, { accessFlags := 9, nameIndex := 23, descriptorIndex := 24, attributes := #[] }] 49 2 #[] #[])
  fields := #[]
  methods := #[k1m0, k1m1, k1m2]
  instanceTypes := #[]
  staticTypes := #[]
  resolved := Array.replicate 29 none
  statics := none }

def pool2 : Array CpInfo := pool [(1, .class_ 2), (0, u "com/example/vilkarsbok/vilkarsbok/TextLines"), (1, .class_ 6), (1, u "java/lang/Object"), (0, u "<init>"), (0, u "()V"), (78, .class_ 89), (1, u "com/example/vilkarsbok/vilkarsbok/TextLines$Blanks"), (2, .class_ 93), (0, u "com/example/vilkarsbok/vilkarsbok/TextLines$Walk"), (5, u "BYTE_ORDER_MARK"), (0, u "[B"), (0, u "NOT_UTF_8"), (0, u "Ljava/lang/String;"), (3, u "NO_LINE_END"), (2, u "MAX_MARKS_IN_A_ROW"), (0, u "I"), (1, u "TOO_MANY_MARKS"), (9, u "startsWith"), (0, u "([BII[B)Z"), (17, .class_ 142), (0, u "com/example/vilkarsbok/vilkarsbok/TextLines$Line"), (0, .class_ 144), (0, u "com/example/vilkarsbok/vilkarsbok/TextLines$Undecoded"), (0, .class_ 146), (0, u "com/example/vilkarsbok/vilkarsbok/TextLines$PassOver"), (0, .class_ 148), (0, u "com/example/vilkarsbok/vilkarsbok/TextLines$LastLine")] 37

def k2m0 : Method := { name := "<init>", desc := "()V", sig := { parameters := [], returnType := none }, accessFlags := 2, code := none }
def k2c1 : Code := { maxStack := 3, maxLocals := 5, code := prog_67_method_5_code, exceptionTable := #[], attributes := #[] }
def k2m1 : Method := { name := "startsWith", desc := "([BII[B)Z", sig := { parameters := [(.array .byte), .int, .int, (.array .byte)], returnType := some .boolean }, accessFlags := 8, code := some k2c1 }
/-- com/example/vilkarsbok/vilkarsbok/TextLines -/
def k2 : Class := { plain "com/example/vilkarsbok/vilkarsbok/TextLines" (some 0) with
  accessFlags := 48
  interfaces := #[]
  cf := some (fileOf pool2 1 #[.nestMembers #[141, 143, 92, 145, 147, 87]] #[{ accessFlags := 2, nameIndex := 7, descriptorIndex := 8, attributes := #[] }, { accessFlags := 8, nameIndex := 122, descriptorIndex := 123, attributes := #[] }] 48 4 #[] #[{ accessFlags := 26, nameIndex := 101, descriptorIndex := 102, attributes := #[] }, { accessFlags := 24, nameIndex := 106, descriptorIndex := 102, attributes := #[] }, { accessFlags := 26, nameIndex := 109, descriptorIndex := 110, attributes := #[] }, { accessFlags := 26, nameIndex := 112, descriptorIndex := 102, attributes := #[] }, { accessFlags := 26, nameIndex := 99, descriptorIndex := 100, attributes := #[] }])
  fields := #[{ name := "NOT_UTF_8", type := (.object "java/lang/String"), accessFlags := 26, slot := 0, constantValue := 0 }, { name := "NO_LINE_END", type := (.object "java/lang/String"), accessFlags := 24, slot := 1, constantValue := 0 }, { name := "MAX_MARKS_IN_A_ROW", type := .int, accessFlags := 26, slot := 2, constantValue := 0 }, { name := "TOO_MANY_MARKS", type := (.object "java/lang/String"), accessFlags := 26, slot := 3, constantValue := 0 }, { name := "BYTE_ORDER_MARK", type := (.array .byte), accessFlags := 26, slot := 4, constantValue := 0 }]
  methods := #[k2m0, k2m1]
  instanceTypes := #[]
  staticTypes := #[(.object "java/lang/String"), (.object "java/lang/String"), .int, (.object "java/lang/String"), (.array .byte)]
  resolved := Array.replicate 186 none
  statics := none }

def pool3 : Array CpInfo := pool [(1, u "java/lang/Cloneable"), (0, .class_ 1), (0, u "java/lang/Object"), (0, .class_ 3)] 3

/-- java/lang/Cloneable -/
def k3 : Class := { plain "java/lang/Cloneable" (some 0) with
  accessFlags := 1537
  interfaces := #[]
  cf := some (fileOf pool3 2 #[] #[] 1537 4 #[] #[])
  fields := #[]
  methods := #[]
  instanceTypes := #[]
  staticTypes := #[]
  resolved := Array.replicate 8 none
  statics := none }

def pool4 : Array CpInfo := pool [(1, u "java/io/Serializable"), (0, .class_ 1), (0, u "java/lang/Object"), (0, .class_ 3)] 3

/-- java/io/Serializable -/
def k4 : Class := { plain "java/io/Serializable" (some 0) with
  accessFlags := 1537
  interfaces := #[]
  cf := some (fileOf pool4 2 #[] #[] 1537 4 #[] #[])
  fields := #[]
  methods := #[]
  instanceTypes := #[]
  staticTypes := #[]
  resolved := Array.replicate 8 none
  statics := none }

/-- the primitive byte -/
def k5 : Class := { plain "byte" none with kind := .primitive 'B', accessFlags := 0x411 }
/-- [B -/
def k6 : Class := { plain "[B" (some 0) with kind := .array 5 .byte, interfaces := #[3, 4], accessFlags := 1041 }

/-- the primitive int -/
def k7 : Class := { plain "int" none with kind := .primitive 'I', accessFlags := 0x411 }
/-- [I -/
def k8 : Class := { plain "[I" (some 0) with kind := .array 7 .int, interfaces := #[3, 4], accessFlags := 1041 }

def heap : Heap := #[]
def classes : Array Class := #[k0, k1, k2, k3, k4, k5, k6, k7, k8]
def interned : List (Array UInt16 × Addr) := []
def slotsUsed : Nat := 0
def theMethod : MethodId := ⟨1, 2⟩
def args0 : Array Value := #[.long 5, .long 7, .int 300, .int 513]
def aboutOver (below : List Frame) : State where
  vm := { classes := classes, interned := interned.toArray }
  heap := heap
  slotsUsed := slotsUsed
  threads := #[{ frames := .invoking theMethod args0 :: below }]
def below0 : List Frame := [.native { method := ⟨0, 0⟩, args := #[] }]
def about1 : State := aboutOver below0
def p0 : Program := .bare "" "" ""
def e0 : Env := launch0.env 0 0 0
theorem w_frames : about1.frames = Frame.invoking theMethod args0 :: below0 := rfl
set_option maxRecDepth 65536 in
theorem w_args : argsFit about1.vm theMethod args0 = true := by decide +kernel
set_option maxRecDepth 65536 in
theorem w_heap : heapFits about1 = true := by decide +kernel
set_option maxRecDepth 65536 in
theorem w_runnable : about1.curStatus? = some .runnable := by decide +kernel
set_option maxRecDepth 65536 in
theorem w_alone : about1.alone = true := by decide +kernel
set_option maxRecDepth 65536 in
theorem w_named : about1.methodNamed? x = some theMethod := by decide +kernel
set_option maxRecDepth 65536 in
theorem w_hears : about1.hears theMethod below0 = true := by decide +kernel
set_option maxRecDepth 65536 in
theorem w_ripe : about1.ripe theMethod args0 below0 = true := by decide +kernel
theorem w_running : about1.status = .running := rfl
set_option maxRecDepth 65536 in
theorem w_room : about1.hasRoom e0.platform room_1 = true :=
  launch0.hasRoom_least _ room_1 (by decide +kernel) (by decide +kernel) (by decide +kernel) (by decide +kernel) (by decide +kernel) (by decide +kernel)
theorem allAtoms_all (ts : List Jvm.Cond) (a : Array Jvm.Value) (st : Jvm.State) : (allAtoms ts).before a st = ts.all (fun c => c.before a st) := by
  induction ts with
  | nil => rfl
  | cons c t ih =>
    show (Jvm.Cond.and c (allAtoms t)).before a st = _
    rw [Jvm.Cond.before_and, ih, List.all_cons]
def words1 : List Jvm.Cond := Jvm.Cond.code x code maxLocals ret :: tables_1
/-- a 'code' word, met by the world's own term for the bytes: nothing is compared byte by byte -/
theorem code_word {y : MethodName} {bytes : ByteArray} {mx : Nat} {rt : Option FieldType} {a : Array Value} {s : State} {m : MethodId} {meth : Method} {c : Code} (h1 : s.methodNamed? y = some m) (h2 : s.vm.method? m = some meth) (h3 : meth.code = some c) (h4 : c.code = bytes)
    (h5 : (c.maxLocals == mx && c.exceptionTable.isEmpty && decide (c.maxStack ≤ mostOperands) && decide (meth.sig.returnType = rt) && !meth.locks && decide (parseMethodDescriptor y.desc = some meth.sig)) = true) : (Jvm.Cond.code y bytes mx rt).before a s = true := by
  simp only [Bool.and_eq_true, beq_iff_eq, Bool.not_eq_true', decide_eq_true_eq] at h5
  obtain ⟨⟨⟨⟨⟨g1, g2⟩, g3⟩, g4⟩, g5⟩, g6⟩ := h5
  simp [Cond.before, Cond.holds, Cond.value, h1, h2, h3, h4, g1, g2, g3, g4, g5, g6]
def isCode : Jvm.Cond → Bool
  | .code _ _ _ _ => true
  | _ => false
theorem all_split {L : List Jvm.Cond} {P : Jvm.Cond → Bool} (h1 : L.all (fun c => isCode c || P c) = true) (h2 : ∀ c ∈ L.filter isCode, P c = true) : L.all P = true := by
  refine List.all_eq_true.mpr fun c hc => ?_
  have h := List.all_eq_true.mp h1 c hc
  rcases Bool.eq_false_or_eq_true (isCode c) with hi | hi
  · exact h2 c (List.mem_filter.mpr ⟨hc, hi⟩)
  · simpa [hi] using h
set_option maxRecDepth 65536 in
theorem w_c0 : (Jvm.Cond.code x code maxLocals ret).before args0 about1 = true := code_word (m := ⟨1, 2⟩) (meth := k1m2) (c := k1c2) (by decide +kernel) rfl rfl rfl (by decide +kernel)
set_option maxRecDepth 65536 in
theorem w_c1 : (Jvm.Cond.code ({ cls := "com/example/vilkarsbok/vilkarsbok/TextLinesStartsWithPinLaw", name := "pre", desc := "([BIIIJ)B" } : Jvm.MethodName) method_2_code (6 : Nat) (Option.some Jvm.ClassFile.FieldType.byte)).before args0 about1 = true := code_word (m := ⟨1, 1⟩) (meth := k1m1) (c := k1c1) (by decide +kernel) rfl rfl rfl (by decide +kernel)
set_option maxRecDepth 65536 in
theorem w_c2 : (Jvm.Cond.code ({ cls := "com/example/vilkarsbok/vilkarsbok/TextLines", name := "startsWith", desc := "([BII[B)Z" } : Jvm.MethodName) prog_67_method_5_code (5 : Nat) (Option.some Jvm.ClassFile.FieldType.boolean)).before args0 about1 = true := code_word (m := ⟨2, 1⟩) (meth := k2m1) (c := k2c1) (by decide +kernel) rfl rfl rfl (by decide +kernel)
def codes1 : List Jvm.Cond := [Jvm.Cond.code x code maxLocals ret, Jvm.Cond.code ({ cls := "com/example/vilkarsbok/vilkarsbok/TextLinesStartsWithPinLaw", name := "pre", desc := "([BIIIJ)B" } : Jvm.MethodName) method_2_code (6 : Nat) (Option.some Jvm.ClassFile.FieldType.byte), Jvm.Cond.code ({ cls := "com/example/vilkarsbok/vilkarsbok/TextLines", name := "startsWith", desc := "([BII[B)Z" } : Jvm.MethodName) prog_67_method_5_code (5 : Nat) (Option.some Jvm.ClassFile.FieldType.boolean)]
set_option maxRecDepth 65536 in
theorem codes_eq : words1.filter isCode = codes1 := rfl
theorem w_codes : ∀ c ∈ words1.filter isCode, c.before args0 about1 = true := by
  rw [codes_eq]
  intro c hc
  simp only [codes1, List.mem_cons, List.not_mem_nil, or_false] at hc
  rcases hc with rfl | rfl | rfl
  · exact w_c0
  · exact w_c1
  · exact w_c2
set_option maxRecDepth 65536 in
theorem w_t1 : words1.all (fun c => isCode c || c.before args0 about1) = true := by decide +kernel
theorem w_tables : (allAtoms (Jvm.Cond.code x code maxLocals ret :: tables_1)).before args0 about1 = true := by
  rw [allAtoms_all]
  show words1.all (fun c => c.before args0 about1) = true
  refine all_split ?_ w_codes
  rw [w_t1]
set_option maxRecDepth 65536 in
theorem w_case : (Jvm.Cond.and given_1 narrow_1).before args0 about1 = true := by decide +kernel
theorem w_applies : (headSpec (Jvm.Cond.code x code maxLocals ret :: tables_1) room_1).applies x e0.platform about1 = true :=
  (Spec.applies_iff w_frames).mpr ⟨w_running, w_runnable, w_alone, w_named, w_hears, w_ripe, w_room, w_tables⟩
theorem atStart : AtStart classFile x code maxLocals ret World_1 tables_1 room_1 Calls_1 rest_1 Pre_1 launch0 p0 e0 about1 theMethod args0 below0 :=
  ⟨lists_1, trivial, launch0.admits_env _ _ _, launch0.least_env, fairChoices_fair.cas, fairChoices_fair.clock, w_frames, w_args, w_heap, w_applies, trivial, trivial, w_case⟩
end start1
theorem witness_1 : WitnessClaimed_1 := ⟨start1.p0, start1.e0, start1.about1, start1.theMethod, start1.args0, start1.below0, start1.atStart⟩
end Jvm.Pilot.@@N@@
