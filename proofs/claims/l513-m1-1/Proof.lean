import JvmDerived
import JvmDerived.Pilot.@@N@@Statement
import JvmDerived.Pilot.@@N@@Code
set_option linter.unusedVariables false
set_option linter.unusedSimpArgs false
@@BLOCK:NumsL.lean.txt@@
namespace Jvm.OwnW
open Sem ClassFile Op Lib Jvm.Stand Jvm.Free Jvm.LawKit Jvm.RoadKit
theorem retI' {p : Program} {l : Launch} {e : Env} {R : Room} {s : State} {m : MethodId} {args : Array Value} {below : List Frame} {meth : Method} {c : Code} {T : State} {locs : List Loc} {cells slots : Nat} (X : Stand p l e R s m args below meth c T locs cells slots) (hx : p.tables.exec = Jvm.exec) {pc : Nat} {Ls : Array Slot} {z : Int32} {rest : List Value} (hret : meth.sig.returnType = some .int) (hd : decode c.code pc = .ok (.ireturn, 1)) {fs : List Frame}
    (hl : ∀ (f : JFrame) (acts : List Action), f.method = m → f.locked = none → f.entered = [] → (doReturn e (T.setTop f) acts (some (.int z))).1 = T.setFrames fs) : Steps p.tables e below (T.setTop (mkF m pc Ls (.int z :: rest))) (T.setFrames fs) :=
  retOut X hx hret rfl (Or.inl ⟨rfl, Or.inl rfl, z, rfl⟩) hd hl
end Jvm.OwnW
namespace Jvm.OwnW
open Sem ClassFile Op Lib Jvm.Stand Jvm.Free Jvm.LawKit Jvm.RoadKit
def ushrI (x y : Int32) : Int32 := (x.toUInt32 >>> (y &&& 31).toUInt32).toInt32
def shlI (x y : Int32) : Int32 := x <<< (y &&& 31)
def shrI (x y : Int32) : Int32 := x >>> (y &&& 31)
def shlJ (x : Int64) (y : Int32) : Int64 := x <<< (y &&& 0x3f).toInt64
def shrJ (x : Int64) (y : Int32) : Int64 := x >>> (y &&& 0x3f).toInt64
def ushrJ (x : Int64) (y : Int32) : Int64 := (x.toUInt64 >>> (y &&& 0x3f).toInt64.toUInt64).toInt64
def cmpJ (x y : Int64) : Int32 := if x > y then 1 else if x = y then 0 else -1
def i8 (x : Int32) : Int32 := x.toInt8.toInt32
def i16c (x : Int32) : Int32 := x.toUInt32.toUInt16.toUInt32.toInt32
/-- from T with g on top the run comes to its end, and P says of what it returns and of the heap -/
def Goes (p : Program) (e : Env) (below : List Frame) (s : State) (n0 : Nat) (P : Option Value → Heap → Prop) (k n : Nat) (T : State) (g : JFrame) : Prop :=
  ∃ s₂ o, Steps p.tables e below (T.setTop g) s₂ ∧ s₂.status = .running ∧ Ended s₂ below o ∧ ∃ v L, o = .returned v ∧ (Fr n0 L ∧ P v s₂.heap) ∧ FrameEnd s o s₂ L k n
/-- where a walk stands: nothing old is written, the heap is h -/
def Hr (p : Program) (l : Launch) (e : Env) (R : Room) (s : State) (m : MethodId) (args : Array Value) (below : List Frame) (meth : Method) (c : Code) (n0 : Nat) (h : Heap) (cells slots : Nat) (T : State) : Prop :=
  ∃ locs, Stand p l e R s m args below meth c T locs cells slots ∧ T.heap = h ∧ Fr n0 locs ∧ n0 ≤ s.heap.size
/-- what stays through a body -/
def Cx (p : Program) (s : State) (m : MethodId) (meth : Method) (c : Code) (code : ByteArray) (ml : Nat) (ret : Option FieldType) (own nm : String) (Z : State) (a0 : Array Value) (tabs : List Jvm.Cond) : Prop :=
  p.tables.exec = Jvm.exec ∧ c.code = code ∧ c.maxLocals = ml ∧ meth.sig.returnType = ret ∧ meth.locks = false ∧ s.vm.findClass own = some m.cls ∧ meth.name = nm ∧ Z.Warmed39 s.vm ∧ ∀ d ∈ tabs, d.before a0 Z = true
/-- a body's contract: called with these arguments at this heap it returns, nothing old is written, and P says the rest -/
def Ct (l : Launch) (y : MethodName) (bytes : ByteArray) (maxL : Nat) (ret : Option FieldType) (rm : Room) (Z : State) (as' : Array Value) (h : Heap) (n0 : Nat) (P : Option Value → Heap → Prop) : Prop :=
  ∀ ws, MetFree l y (head1 (Jvm.Cond.code y bytes maxL ret :: ws) rm) (fun a U => a = as' ∧ Z.Warmed39 U.vm ∧ U.heap = h) (fun _ _ _ _ _ => True) (fun _ U o U' => ∃ v L, o = .returned v ∧ (Fr n0 L ∧ P v U'.heap) ∧ FrameEnd U o U' L rm.cells rm.slots)
def up {α : Type} (g : Nat → α) (j : Nat) (v : α) : Nat → α := fun i => if i = j then v else g i
/-- an array of N places: place i holds f i -/
def ArV (Z : State) (h : Heap) (a : Addr) (ty : FieldType) (N : Nat) (f : Nat → Value) : Prop := ∃ cl : Cell, Arr Z h a cl ty ∧ cl.slots.size = N ∧ ∀ i, i < N → cl.slots[i]? = some (f i)
abbrev ArI (Z : State) (h : Heap) (a : Addr) (ty : FieldType) (N : Nat) (g : Nat → Int32) : Prop := ArV Z h a ty N (fun i => .int (g i))
abbrev ArJ (Z : State) (h : Heap) (a : Addr) (N : Nat) (g : Nat → Int64) : Prop := ArV Z h a .long N (fun i => .long (g i))
/-- an index as a natural number -/
def nt (j : Int32) : Nat := j.toInt.toNat
theorem nt_eq {j : Int32} (h : 0 ≤ j.toInt) : j.toInt = (nt j : Int) := by unfold nt; omega
theorem nt_lt {j : Int32} {N : Nat} (h : j.toInt < N) (h0 : 0 < N) : nt j < N := by unfold nt; omega
theorem add1 {x : Int32} (y : Int32) (d : Int) (hd : y.toInt = d) (h1 : -2147483648 ≤ x.toInt + d) (h2 : x.toInt + d < 2147483648) : (x + y).toInt = x.toInt + d := by
  have h := c_iadd x y
  have r := rng32 (x + y)
  omega
theorem sub1 {x : Int32} (y : Int32) (d : Int) (hd : y.toInt = d) (h1 : -2147483648 ≤ x.toInt - d) (h2 : x.toInt - d < 2147483648) : (x - y).toInt = x.toInt - d := by
  have h := c_isub x y
  have r := rng32 (x - y)
  omega
section W
variable {p : Program} {l : Launch} {e : Env} {R : Room} {s : State} {m : MethodId} {args : Array Value} {below : List Frame} {meth : Method} {c : Code} {T : State} {h h' : Heap} {cells slots : Nat} {n0 : Nat} {P : Option Value → Heap → Prop} {k n : Nat} {code : ByteArray} {ml : Nat} {ret : Option FieldType} {own nm : String} {Z : State} {a0 : Array Value} {tabs : List Jvm.Cond}
theorem Goes.of {g g' : JFrame} {T' : State} (st : ∀ target, Steps p.tables e below (T'.setTop g') target → Steps p.tables e below (T.setTop g) target) (K : Goes p e below s n0 P k n T' g') : Goes p e below s n0 P k n T g := by
  obtain ⟨s₂, o, h1, r⟩ := K
  exact ⟨s₂, o, st _ h1, r⟩
theorem Goes.imp {P' : Option Value → Heap → Prop} {g : JFrame} (hp : ∀ v h, P v h → P' v h) (K : Goes p e below s n0 P k n T g) : Goes p e below s n0 P' k n T g := by
  obtain ⟨s₂, o, h1, h2, h3, v, L, h4, h5, h6⟩ := K
  exact ⟨s₂, o, h1, h2, h3, v, L, h4, ⟨h5.1, hp _ _ h5.2⟩, h6⟩
theorem Ct.imp {y : MethodName} {bytes : ByteArray} {maxL : Nat} {rm : Room} {as' : Array Value} {P' : Option Value → Heap → Prop} (hp : ∀ v h, P v h → P' v h) (K : Ct l y bytes maxL ret rm Z as' h n0 P) : Ct l y bytes maxL ret rm Z as' h n0 P' := by
  intro ws p e ha hc hk s m args below hf happ hP hK
  obtain ⟨n, o, h1, h2, h3, v, L, h4, h5, h6⟩ := K ws p e ha hc hk s m args below hf happ hP hK
  exact ⟨n, o, h1, h2, h3, v, L, h4, ⟨h5.1, hp _ _ h5.2⟩, h6⟩
theorem Hr.size (X : Hr p l e R s m args below meth c n0 h cells slots T) : n0 ≤ h.size := by
  obtain ⟨locs, S, eT, N, q⟩ := X
  have q2 : s.heap.size ≤ T.heap.size := S.same.2.1
  rw [eT] at q2
  exact Nat.le_trans q q2
theorem Ct.of {y : MethodName} {bytes : ByteArray} {maxL : Nat} {rm : Room} {as' : Array Value} (hpl : plainFor y = true) (Ls : Array Slot) (hef : ∀ m, entryFrame m as' maxL = mkF m 0 Ls []) (hw : ∀ d ∈ tabs, d.before a0 Z = true) (hn0 : n0 ≤ h.size)
    (K : ∀ p e s m below meth c T, Cx p s m meth c bytes maxL ret y.cls y.name Z a0 tabs → Hr p l e rm s m as' below meth c n0 h 0 0 T → Goes p e below s n0 P rm.cells rm.slots T (mkF m 0 Ls [])) :
    Ct l y bytes maxL ret rm Z as' h n0 P := by
  intro ws
  refine MetFree.of_bodySF hpl hisR ?_
  intro p e s m args below meth c s₁ Bd hml0 hP hK
  obtain ⟨rfl, hZ, hh⟩ := hP
  obtain ⟨s₂, o, h1, r⟩ := K p e s m below meth c s₁ ⟨Bd.exec, Bd.bytes, hml0, Bd.returns, BodyLoose.notSynchronized Bd, findClass_of_methodNamed Bd.named, (name_of_methodNamed Bd.named Bd.method).1, hZ, hw⟩ ⟨[], Stand.of_body Bd, by rw [← hh, Bd.state]; rfl, Fr.nil n0, by rw [hh]; exact hn0⟩
  exact ⟨s₂, o, castTop (hef m) h1, r⟩

theorem w_iadd (X : Hr p l e R s m args below meth c n0 h cells slots T) (C : Cx p s m meth c code ml ret own nm Z a0 tabs) {pc : Nat} {Ls : Array Slot} {x y : Int32} {rest : List Value} (hd : decode code pc = .ok (.iadd, 1)) (K : Goes p e below s n0 P k n T (mkF m (pc + 1) Ls (.int (x + y) :: rest))) : Goes p e below s n0 P k n T (mkF m pc Ls (.int y :: .int x :: rest)) := by
  obtain ⟨locs, S, -, -, -⟩ := X
  exact Goes.of (fun _ kk => XS.iadd S.here C.1 rfl (hb C.2.1 hd) rfl kk) K
theorem w_isub (X : Hr p l e R s m args below meth c n0 h cells slots T) (C : Cx p s m meth c code ml ret own nm Z a0 tabs) {pc : Nat} {Ls : Array Slot} {x y : Int32} {rest : List Value} (hd : decode code pc = .ok (.isub, 1)) (K : Goes p e below s n0 P k n T (mkF m (pc + 1) Ls (.int (x - y) :: rest))) : Goes p e below s n0 P k n T (mkF m pc Ls (.int y :: .int x :: rest)) := by
  obtain ⟨locs, S, -, -, -⟩ := X
  exact Goes.of (fun _ kk => XS.isub S.here C.1 rfl (hb C.2.1 hd) rfl kk) K
theorem w_imul (X : Hr p l e R s m args below meth c n0 h cells slots T) (C : Cx p s m meth c code ml ret own nm Z a0 tabs) {pc : Nat} {Ls : Array Slot} {x y : Int32} {rest : List Value} (hd : decode code pc = .ok (.imul, 1)) (K : Goes p e below s n0 P k n T (mkF m (pc + 1) Ls (.int (x * y) :: rest))) : Goes p e below s n0 P k n T (mkF m pc Ls (.int y :: .int x :: rest)) := by
  obtain ⟨locs, S, -, -, -⟩ := X
  exact Goes.of (fun _ kk => XS.imul S.here C.1 rfl (hb C.2.1 hd) rfl kk) K
theorem w_iand (X : Hr p l e R s m args below meth c n0 h cells slots T) (C : Cx p s m meth c code ml ret own nm Z a0 tabs) {pc : Nat} {Ls : Array Slot} {x y : Int32} {rest : List Value} (hd : decode code pc = .ok (.iand, 1)) (K : Goes p e below s n0 P k n T (mkF m (pc + 1) Ls (.int (x &&& y) :: rest))) : Goes p e below s n0 P k n T (mkF m pc Ls (.int y :: .int x :: rest)) := by
  obtain ⟨locs, S, -, -, -⟩ := X
  exact Goes.of (fun _ kk => XS.iand S.here C.1 rfl (hb C.2.1 hd) rfl kk) K
theorem w_ior (X : Hr p l e R s m args below meth c n0 h cells slots T) (C : Cx p s m meth c code ml ret own nm Z a0 tabs) {pc : Nat} {Ls : Array Slot} {x y : Int32} {rest : List Value} (hd : decode code pc = .ok (.ior, 1)) (K : Goes p e below s n0 P k n T (mkF m (pc + 1) Ls (.int (x ||| y) :: rest))) : Goes p e below s n0 P k n T (mkF m pc Ls (.int y :: .int x :: rest)) := by
  obtain ⟨locs, S, -, -, -⟩ := X
  exact Goes.of (fun _ kk => XS.ior S.here C.1 rfl (hb C.2.1 hd) rfl kk) K
theorem w_ixor (X : Hr p l e R s m args below meth c n0 h cells slots T) (C : Cx p s m meth c code ml ret own nm Z a0 tabs) {pc : Nat} {Ls : Array Slot} {x y : Int32} {rest : List Value} (hd : decode code pc = .ok (.ixor, 1)) (K : Goes p e below s n0 P k n T (mkF m (pc + 1) Ls (.int (x ^^^ y) :: rest))) : Goes p e below s n0 P k n T (mkF m pc Ls (.int y :: .int x :: rest)) := by
  obtain ⟨locs, S, -, -, -⟩ := X
  exact Goes.of (fun _ kk => XS.ixor S.here C.1 rfl (hb C.2.1 hd) rfl kk) K
theorem w_ishl (X : Hr p l e R s m args below meth c n0 h cells slots T) (C : Cx p s m meth c code ml ret own nm Z a0 tabs) {pc : Nat} {Ls : Array Slot} {x y : Int32} {rest : List Value} (hd : decode code pc = .ok (.ishl, 1)) (K : Goes p e below s n0 P k n T (mkF m (pc + 1) Ls (.int (shlI x y) :: rest))) : Goes p e below s n0 P k n T (mkF m pc Ls (.int y :: .int x :: rest)) := by
  obtain ⟨locs, S, -, -, -⟩ := X
  exact Goes.of (fun _ kk => XS.ishl S.here C.1 rfl (hb C.2.1 hd) rfl kk) K
theorem w_ishr (X : Hr p l e R s m args below meth c n0 h cells slots T) (C : Cx p s m meth c code ml ret own nm Z a0 tabs) {pc : Nat} {Ls : Array Slot} {x y : Int32} {rest : List Value} (hd : decode code pc = .ok (.ishr, 1)) (K : Goes p e below s n0 P k n T (mkF m (pc + 1) Ls (.int (shrI x y) :: rest))) : Goes p e below s n0 P k n T (mkF m pc Ls (.int y :: .int x :: rest)) := by
  obtain ⟨locs, S, -, -, -⟩ := X
  exact Goes.of (fun _ kk => XS.ishr S.here C.1 rfl (hb C.2.1 hd) rfl kk) K
theorem w_iushr (X : Hr p l e R s m args below meth c n0 h cells slots T) (C : Cx p s m meth c code ml ret own nm Z a0 tabs) {pc : Nat} {Ls : Array Slot} {x y : Int32} {rest : List Value} (hd : decode code pc = .ok (.iushr, 1)) (K : Goes p e below s n0 P k n T (mkF m (pc + 1) Ls (.int (ushrI x y) :: rest))) : Goes p e below s n0 P k n T (mkF m pc Ls (.int y :: .int x :: rest)) := by
  obtain ⟨locs, S, -, -, -⟩ := X
  exact Goes.of (fun _ kk => XS.iushr S.here C.1 rfl (hb C.2.1 hd) rfl kk) K
theorem w_ladd (X : Hr p l e R s m args below meth c n0 h cells slots T) (C : Cx p s m meth c code ml ret own nm Z a0 tabs) {pc : Nat} {Ls : Array Slot} {x y : Int64} {rest : List Value} (hd : decode code pc = .ok (.ladd, 1)) (K : Goes p e below s n0 P k n T (mkF m (pc + 1) Ls (.long (x + y) :: rest))) : Goes p e below s n0 P k n T (mkF m pc Ls (.long y :: .long x :: rest)) := by
  obtain ⟨locs, S, -, -, -⟩ := X
  exact Goes.of (fun _ kk => XS.ladd S.here C.1 rfl (hb C.2.1 hd) rfl kk) K
theorem w_lsub (X : Hr p l e R s m args below meth c n0 h cells slots T) (C : Cx p s m meth c code ml ret own nm Z a0 tabs) {pc : Nat} {Ls : Array Slot} {x y : Int64} {rest : List Value} (hd : decode code pc = .ok (.lsub, 1)) (K : Goes p e below s n0 P k n T (mkF m (pc + 1) Ls (.long (x - y) :: rest))) : Goes p e below s n0 P k n T (mkF m pc Ls (.long y :: .long x :: rest)) := by
  obtain ⟨locs, S, -, -, -⟩ := X
  exact Goes.of (fun _ kk => XS.lsub S.here C.1 rfl (hb C.2.1 hd) rfl kk) K
theorem w_lmul (X : Hr p l e R s m args below meth c n0 h cells slots T) (C : Cx p s m meth c code ml ret own nm Z a0 tabs) {pc : Nat} {Ls : Array Slot} {x y : Int64} {rest : List Value} (hd : decode code pc = .ok (.lmul, 1)) (K : Goes p e below s n0 P k n T (mkF m (pc + 1) Ls (.long (x * y) :: rest))) : Goes p e below s n0 P k n T (mkF m pc Ls (.long y :: .long x :: rest)) := by
  obtain ⟨locs, S, -, -, -⟩ := X
  exact Goes.of (fun _ kk => XS.lmul S.here C.1 rfl (hb C.2.1 hd) rfl kk) K
theorem w_land (X : Hr p l e R s m args below meth c n0 h cells slots T) (C : Cx p s m meth c code ml ret own nm Z a0 tabs) {pc : Nat} {Ls : Array Slot} {x y : Int64} {rest : List Value} (hd : decode code pc = .ok (.land, 1)) (K : Goes p e below s n0 P k n T (mkF m (pc + 1) Ls (.long (x &&& y) :: rest))) : Goes p e below s n0 P k n T (mkF m pc Ls (.long y :: .long x :: rest)) := by
  obtain ⟨locs, S, -, -, -⟩ := X
  exact Goes.of (fun _ kk => XS.land S.here C.1 rfl (hb C.2.1 hd) rfl kk) K
theorem w_lor (X : Hr p l e R s m args below meth c n0 h cells slots T) (C : Cx p s m meth c code ml ret own nm Z a0 tabs) {pc : Nat} {Ls : Array Slot} {x y : Int64} {rest : List Value} (hd : decode code pc = .ok (.lor, 1)) (K : Goes p e below s n0 P k n T (mkF m (pc + 1) Ls (.long (x ||| y) :: rest))) : Goes p e below s n0 P k n T (mkF m pc Ls (.long y :: .long x :: rest)) := by
  obtain ⟨locs, S, -, -, -⟩ := X
  exact Goes.of (fun _ kk => XS.lor S.here C.1 rfl (hb C.2.1 hd) rfl kk) K
theorem w_lxor (X : Hr p l e R s m args below meth c n0 h cells slots T) (C : Cx p s m meth c code ml ret own nm Z a0 tabs) {pc : Nat} {Ls : Array Slot} {x y : Int64} {rest : List Value} (hd : decode code pc = .ok (.lxor, 1)) (K : Goes p e below s n0 P k n T (mkF m (pc + 1) Ls (.long (x ^^^ y) :: rest))) : Goes p e below s n0 P k n T (mkF m pc Ls (.long y :: .long x :: rest)) := by
  obtain ⟨locs, S, -, -, -⟩ := X
  exact Goes.of (fun _ kk => XS.lxor S.here C.1 rfl (hb C.2.1 hd) rfl kk) K
theorem w_lshl (X : Hr p l e R s m args below meth c n0 h cells slots T) (C : Cx p s m meth c code ml ret own nm Z a0 tabs) {pc : Nat} {Ls : Array Slot} {x : Int64} {y : Int32} {rest : List Value} (hd : decode code pc = .ok (.lshl, 1)) (K : Goes p e below s n0 P k n T (mkF m (pc + 1) Ls (.long (shlJ x y) :: rest))) : Goes p e below s n0 P k n T (mkF m pc Ls (.int y :: .long x :: rest)) := by
  obtain ⟨locs, S, -, -, -⟩ := X
  exact Goes.of (fun _ kk => XS.lshl S.here C.1 rfl (hb C.2.1 hd) rfl kk) K
theorem w_lshr (X : Hr p l e R s m args below meth c n0 h cells slots T) (C : Cx p s m meth c code ml ret own nm Z a0 tabs) {pc : Nat} {Ls : Array Slot} {x : Int64} {y : Int32} {rest : List Value} (hd : decode code pc = .ok (.lshr, 1)) (K : Goes p e below s n0 P k n T (mkF m (pc + 1) Ls (.long (shrJ x y) :: rest))) : Goes p e below s n0 P k n T (mkF m pc Ls (.int y :: .long x :: rest)) := by
  obtain ⟨locs, S, -, -, -⟩ := X
  exact Goes.of (fun _ kk => XS.lshr S.here C.1 rfl (hb C.2.1 hd) rfl kk) K
theorem w_lushr (X : Hr p l e R s m args below meth c n0 h cells slots T) (C : Cx p s m meth c code ml ret own nm Z a0 tabs) {pc : Nat} {Ls : Array Slot} {x : Int64} {y : Int32} {rest : List Value} (hd : decode code pc = .ok (.lushr, 1)) (K : Goes p e below s n0 P k n T (mkF m (pc + 1) Ls (.long (ushrJ x y) :: rest))) : Goes p e below s n0 P k n T (mkF m pc Ls (.int y :: .long x :: rest)) := by
  obtain ⟨locs, S, -, -, -⟩ := X
  exact Goes.of (fun _ kk => XS.lushr S.here C.1 rfl (hb C.2.1 hd) rfl kk) K
theorem w_lcmp (X : Hr p l e R s m args below meth c n0 h cells slots T) (C : Cx p s m meth c code ml ret own nm Z a0 tabs) {pc : Nat} {Ls : Array Slot} {x y : Int64} {rest : List Value} (hd : decode code pc = .ok (.lcmp, 1)) (K : Goes p e below s n0 P k n T (mkF m (pc + 1) Ls (.int (cmpJ x y) :: rest))) : Goes p e below s n0 P k n T (mkF m pc Ls (.long y :: .long x :: rest)) := by
  obtain ⟨locs, S, -, -, -⟩ := X
  exact Goes.of (fun _ kk => XS.lcmp S.here C.1 rfl (hb C.2.1 hd) rfl kk) K
theorem w_i2b (X : Hr p l e R s m args below meth c n0 h cells slots T) (C : Cx p s m meth c code ml ret own nm Z a0 tabs) {pc : Nat} {Ls : Array Slot} {x : Int32} {rest : List Value} (hd : decode code pc = .ok (.i2b, 1)) (K : Goes p e below s n0 P k n T (mkF m (pc + 1) Ls (.int (i8 x) :: rest))) : Goes p e below s n0 P k n T (mkF m pc Ls (.int x :: rest)) := by
  obtain ⟨locs, S, -, -, -⟩ := X
  exact Goes.of (fun _ kk => XS.i2b S.here C.1 rfl (hb C.2.1 hd) rfl kk) K
theorem w_i2c (X : Hr p l e R s m args below meth c n0 h cells slots T) (C : Cx p s m meth c code ml ret own nm Z a0 tabs) {pc : Nat} {Ls : Array Slot} {x : Int32} {rest : List Value} (hd : decode code pc = .ok (.i2c, 1)) (K : Goes p e below s n0 P k n T (mkF m (pc + 1) Ls (.int (i16c x) :: rest))) : Goes p e below s n0 P k n T (mkF m pc Ls (.int x :: rest)) := by
  obtain ⟨locs, S, -, -, -⟩ := X
  exact Goes.of (fun _ kk => XS.i2c S.here C.1 rfl (hb C.2.1 hd) rfl kk) K
theorem w_i2s (X : Hr p l e R s m args below meth c n0 h cells slots T) (C : Cx p s m meth c code ml ret own nm Z a0 tabs) {pc : Nat} {Ls : Array Slot} {x : Int32} {rest : List Value} (hd : decode code pc = .ok (.i2s, 1)) (K : Goes p e below s n0 P k n T (mkF m (pc + 1) Ls (.int (x.toInt16.toInt32) :: rest))) : Goes p e below s n0 P k n T (mkF m pc Ls (.int x :: rest)) := by
  obtain ⟨locs, S, -, -, -⟩ := X
  exact Goes.of (fun _ kk => XS.i2s S.here C.1 rfl (hb C.2.1 hd) rfl kk) K
theorem w_ineg (X : Hr p l e R s m args below meth c n0 h cells slots T) (C : Cx p s m meth c code ml ret own nm Z a0 tabs) {pc : Nat} {Ls : Array Slot} {x : Int32} {rest : List Value} (hd : decode code pc = .ok (.ineg, 1)) (K : Goes p e below s n0 P k n T (mkF m (pc + 1) Ls (.int (-x) :: rest))) : Goes p e below s n0 P k n T (mkF m pc Ls (.int x :: rest)) := by
  obtain ⟨locs, S, -, -, -⟩ := X
  exact Goes.of (fun _ kk => XS.ineg S.here C.1 rfl (hb C.2.1 hd) rfl kk) K
theorem w_i2l (X : Hr p l e R s m args below meth c n0 h cells slots T) (C : Cx p s m meth c code ml ret own nm Z a0 tabs) {pc : Nat} {Ls : Array Slot} {x : Int32} {rest : List Value} (hd : decode code pc = .ok (.i2l, 1)) (K : Goes p e below s n0 P k n T (mkF m (pc + 1) Ls (.long (x.toInt64) :: rest))) : Goes p e below s n0 P k n T (mkF m pc Ls (.int x :: rest)) := by
  obtain ⟨locs, S, -, -, -⟩ := X
  exact Goes.of (fun _ kk => XS.i2l S.here C.1 rfl (hb C.2.1 hd) rfl kk) K
theorem w_l2i (X : Hr p l e R s m args below meth c n0 h cells slots T) (C : Cx p s m meth c code ml ret own nm Z a0 tabs) {pc : Nat} {Ls : Array Slot} {x : Int64} {rest : List Value} (hd : decode code pc = .ok (.l2i, 1)) (K : Goes p e below s n0 P k n T (mkF m (pc + 1) Ls (.int (x.toInt32) :: rest))) : Goes p e below s n0 P k n T (mkF m pc Ls (.long x :: rest)) := by
  obtain ⟨locs, S, -, -, -⟩ := X
  exact Goes.of (fun _ kk => XS.l2i S.here C.1 rfl (hb C.2.1 hd) rfl kk) K
theorem w_lneg (X : Hr p l e R s m args below meth c n0 h cells slots T) (C : Cx p s m meth c code ml ret own nm Z a0 tabs) {pc : Nat} {Ls : Array Slot} {x : Int64} {rest : List Value} (hd : decode code pc = .ok (.lneg, 1)) (K : Goes p e below s n0 P k n T (mkF m (pc + 1) Ls (.long (-x) :: rest))) : Goes p e below s n0 P k n T (mkF m pc Ls (.long x :: rest)) := by
  obtain ⟨locs, S, -, -, -⟩ := X
  exact Goes.of (fun _ kk => XS.lneg S.here C.1 rfl (hb C.2.1 hd) rfl kk) K
theorem w_idiv (X : Hr p l e R s m args below meth c n0 h cells slots T) (C : Cx p s m meth c code ml ret own nm Z a0 tabs) {pc : Nat} {Ls : Array Slot} {x y : Int32} {rest : List Value} (hd : decode code pc = .ok (.idiv, 1)) (hy : y ≠ 0) (K : Goes p e below s n0 P k n T (mkF m (pc + 1) Ls (.int (x / y) :: rest))) : Goes p e below s n0 P k n T (mkF m pc Ls (.int y :: .int x :: rest)) := by
  obtain ⟨locs, S, -, -, -⟩ := X
  exact Goes.of (fun _ kk => XS.idiv S.here C.1 rfl (hb C.2.1 hd) rfl hy kk) K
theorem w_ldiv (X : Hr p l e R s m args below meth c n0 h cells slots T) (C : Cx p s m meth c code ml ret own nm Z a0 tabs) {pc : Nat} {Ls : Array Slot} {x y : Int64} {rest : List Value} (hd : decode code pc = .ok (.ldiv, 1)) (hy : y ≠ 0) (K : Goes p e below s n0 P k n T (mkF m (pc + 1) Ls (.long (x / y) :: rest))) : Goes p e below s n0 P k n T (mkF m pc Ls (.long y :: .long x :: rest)) := by
  obtain ⟨locs, S, -, -, -⟩ := X
  exact Goes.of (fun _ kk => XS.ldiv S.here C.1 rfl (hb C.2.1 hd) rfl hy kk) K
theorem w_irem (X : Hr p l e R s m args below meth c n0 h cells slots T) (C : Cx p s m meth c code ml ret own nm Z a0 tabs) {pc : Nat} {Ls : Array Slot} {x y : Int32} {rest : List Value} (hd : decode code pc = .ok (.irem, 1)) (hy : y ≠ 0) (K : Goes p e below s n0 P k n T (mkF m (pc + 1) Ls (.int (x % y) :: rest))) : Goes p e below s n0 P k n T (mkF m pc Ls (.int y :: .int x :: rest)) := by
  obtain ⟨locs, S, -, -, -⟩ := X
  rw [← irem_eq_mod x y] at K
  exact Goes.of (fun _ kk => XS.irem S.here C.1 rfl (hb C.2.1 hd) rfl hy kk) K
theorem w_lrem (X : Hr p l e R s m args below meth c n0 h cells slots T) (C : Cx p s m meth c code ml ret own nm Z a0 tabs) {pc : Nat} {Ls : Array Slot} {x y : Int64} {rest : List Value} (hd : decode code pc = .ok (.lrem, 1)) (hy : y ≠ 0) (K : Goes p e below s n0 P k n T (mkF m (pc + 1) Ls (.long (x % y) :: rest))) : Goes p e below s n0 P k n T (mkF m pc Ls (.long y :: .long x :: rest)) := by
  obtain ⟨locs, S, -, -, -⟩ := X
  rw [← lrem_mod x y] at K
  exact Goes.of (fun _ kk => XS.lrem S.here C.1 rfl (hb C.2.1 hd) rfl hy kk) K
theorem w_dup (X : Hr p l e R s m args below meth c n0 h cells slots T) (C : Cx p s m meth c code ml ret own nm Z a0 tabs) {pc : Nat} {Ls : Array Slot} {x : Value} {rest : List Value} (hd : decode code pc = .ok (.dup, 1)) (hc : x.category = 1) (K : Goes p e below s n0 P k n T (mkF m (pc + 1) Ls (x :: x :: rest))) : Goes p e below s n0 P k n T (mkF m pc Ls (x :: rest)) := by
  obtain ⟨locs, S, -, -, -⟩ := X
  exact Goes.of (fun _ kk => XS.dup S.here C.1 rfl (hb C.2.1 hd) rfl hc kk) K
theorem w_pop (X : Hr p l e R s m args below meth c n0 h cells slots T) (C : Cx p s m meth c code ml ret own nm Z a0 tabs) {pc : Nat} {Ls : Array Slot} {x : Value} {rest : List Value} (hd : decode code pc = .ok (.pop, 1)) (hc : x.category = 1) (K : Goes p e below s n0 P k n T (mkF m (pc + 1) Ls (rest))) : Goes p e below s n0 P k n T (mkF m pc Ls (x :: rest)) := by
  obtain ⟨locs, S, -, -, -⟩ := X
  exact Goes.of (fun _ kk => XS.pop S.here C.1 rfl (hb C.2.1 hd) rfl hc kk) K
theorem w_dup_x1 (X : Hr p l e R s m args below meth c n0 h cells slots T) (C : Cx p s m meth c code ml ret own nm Z a0 tabs) {pc : Nat} {Ls : Array Slot} {x y : Value} {rest : List Value} (hd : decode code pc = .ok (.dup_x1, 1)) (hc : x.category = 1) (hc' : y.category = 1) (K : Goes p e below s n0 P k n T (mkF m (pc + 1) Ls (x :: y :: x :: rest))) : Goes p e below s n0 P k n T (mkF m pc Ls (x :: y :: rest)) := by
  obtain ⟨locs, S, -, -, -⟩ := X
  exact Goes.of (fun _ kk => XS.dupX1 S.here C.1 rfl (hb C.2.1 hd) rfl hc hc' kk) K
theorem w_dup2 (X : Hr p l e R s m args below meth c n0 h cells slots T) (C : Cx p s m meth c code ml ret own nm Z a0 tabs) {pc : Nat} {Ls : Array Slot} {x y : Value} {rest : List Value} (hd : decode code pc = .ok (.dup2, 1)) (hc : x.category = 1) (hc' : y.category = 1) (K : Goes p e below s n0 P k n T (mkF m (pc + 1) Ls (x :: y :: x :: y :: rest))) : Goes p e below s n0 P k n T (mkF m pc Ls (x :: y :: rest)) := by
  obtain ⟨locs, S, -, -, -⟩ := X
  exact Goes.of (fun _ kk => XT.dup2 S.here C.1 rfl (hb C.2.1 hd) rfl hc hc' kk) K
theorem w_iload (X : Hr p l e R s m args below meth c n0 h cells slots T) (C : Cx p s m meth c code ml ret own nm Z a0 tabs) {pc : Nat} {Ls : Array Slot} {k0 : Nat} {x : Int32} {rest : List Value} (hd : decode code pc = .ok (.iload k0, 2)) (hl : Ls[k0]? = some (.val (.int x))) (K : Goes p e below s n0 P k n T (mkF m (pc + 2) Ls (.int x :: rest))) : Goes p e below s n0 P k n T (mkF m pc Ls rest) := by
  obtain ⟨locs, S, -, -, -⟩ := X
  exact Goes.of (fun _ kk => XS.iload S.here C.1 rfl (hb C.2.1 hd) hl kk) K
theorem w_istore (X : Hr p l e R s m args below meth c n0 h cells slots T) (C : Cx p s m meth c code ml ret own nm Z a0 tabs) {pc : Nat} {Ls : Array Slot} {k0 : Nat} {x : Int32} {rest : List Value} (hd : decode code pc = .ok (.istore k0, 2)) (Ls' : Array Slot) (hl : storeLocals Ls k0 (.int x) = some Ls') (K : Goes p e below s n0 P k n T (mkF m (pc + 2) Ls' rest)) : Goes p e below s n0 P k n T (mkF m pc Ls (.int x :: rest)) := by
  obtain ⟨locs, S, -, -, -⟩ := X
  exact Goes.of (fun _ kk => XS.istore S.here C.1 rfl (hb C.2.1 hd) rfl hl kk) K
theorem w_iloadN (X : Hr p l e R s m args below meth c n0 h cells slots T) (C : Cx p s m meth c code ml ret own nm Z a0 tabs) {pc : Nat} {Ls : Array Slot} {k0 : Fin 4} {x : Int32} {rest : List Value} (hd : decode code pc = .ok (.iload_n k0, 1)) (hl : Ls[k0.val]? = some (.val (.int x))) (K : Goes p e below s n0 P k n T (mkF m (pc + 1) Ls (.int x :: rest))) : Goes p e below s n0 P k n T (mkF m pc Ls rest) := by
  obtain ⟨locs, S, -, -, -⟩ := X
  exact Goes.of (fun _ kk => XS.iloadN S.here C.1 rfl (hb C.2.1 hd) hl kk) K
theorem w_istoreN (X : Hr p l e R s m args below meth c n0 h cells slots T) (C : Cx p s m meth c code ml ret own nm Z a0 tabs) {pc : Nat} {Ls : Array Slot} {k0 : Fin 4} {x : Int32} {rest : List Value} (hd : decode code pc = .ok (.istore_n k0, 1)) (Ls' : Array Slot) (hl : storeLocals Ls k0.val (.int x) = some Ls') (K : Goes p e below s n0 P k n T (mkF m (pc + 1) Ls' rest)) : Goes p e below s n0 P k n T (mkF m pc Ls (.int x :: rest)) := by
  obtain ⟨locs, S, -, -, -⟩ := X
  exact Goes.of (fun _ kk => XS.istoreN S.here C.1 rfl (hb C.2.1 hd) rfl hl kk) K
theorem w_lload (X : Hr p l e R s m args below meth c n0 h cells slots T) (C : Cx p s m meth c code ml ret own nm Z a0 tabs) {pc : Nat} {Ls : Array Slot} {k0 : Nat} {x : Int64} {rest : List Value} (hd : decode code pc = .ok (.lload k0, 2)) (hl : Ls[k0]? = some (.val (.long x))) (K : Goes p e below s n0 P k n T (mkF m (pc + 2) Ls (.long x :: rest))) : Goes p e below s n0 P k n T (mkF m pc Ls rest) := by
  obtain ⟨locs, S, -, -, -⟩ := X
  exact Goes.of (fun _ kk => XS.lload S.here C.1 rfl (hb C.2.1 hd) hl kk) K
theorem w_lstore (X : Hr p l e R s m args below meth c n0 h cells slots T) (C : Cx p s m meth c code ml ret own nm Z a0 tabs) {pc : Nat} {Ls : Array Slot} {k0 : Nat} {x : Int64} {rest : List Value} (hd : decode code pc = .ok (.lstore k0, 2)) (Ls' : Array Slot) (hl : storeLocals Ls k0 (.long x) = some Ls') (K : Goes p e below s n0 P k n T (mkF m (pc + 2) Ls' rest)) : Goes p e below s n0 P k n T (mkF m pc Ls (.long x :: rest)) := by
  obtain ⟨locs, S, -, -, -⟩ := X
  exact Goes.of (fun _ kk => XS.lstore S.here C.1 rfl (hb C.2.1 hd) rfl hl kk) K
theorem w_lloadN (X : Hr p l e R s m args below meth c n0 h cells slots T) (C : Cx p s m meth c code ml ret own nm Z a0 tabs) {pc : Nat} {Ls : Array Slot} {k0 : Fin 4} {x : Int64} {rest : List Value} (hd : decode code pc = .ok (.lload_n k0, 1)) (hl : Ls[k0.val]? = some (.val (.long x))) (K : Goes p e below s n0 P k n T (mkF m (pc + 1) Ls (.long x :: rest))) : Goes p e below s n0 P k n T (mkF m pc Ls rest) := by
  obtain ⟨locs, S, -, -, -⟩ := X
  exact Goes.of (fun _ kk => XS.lloadN S.here C.1 rfl (hb C.2.1 hd) hl kk) K
theorem w_lstoreN (X : Hr p l e R s m args below meth c n0 h cells slots T) (C : Cx p s m meth c code ml ret own nm Z a0 tabs) {pc : Nat} {Ls : Array Slot} {k0 : Fin 4} {x : Int64} {rest : List Value} (hd : decode code pc = .ok (.lstore_n k0, 1)) (Ls' : Array Slot) (hl : storeLocals Ls k0.val (.long x) = some Ls') (K : Goes p e below s n0 P k n T (mkF m (pc + 1) Ls' rest)) : Goes p e below s n0 P k n T (mkF m pc Ls (.long x :: rest)) := by
  obtain ⟨locs, S, -, -, -⟩ := X
  exact Goes.of (fun _ kk => XS.lstoreN S.here C.1 rfl (hb C.2.1 hd) rfl hl kk) K
theorem w_aload (X : Hr p l e R s m args below meth c n0 h cells slots T) (C : Cx p s m meth c code ml ret own nm Z a0 tabs) {pc : Nat} {Ls : Array Slot} {k0 : Nat} {x : Value} {rest : List Value} (hd : decode code pc = .ok (.aload k0, 2)) (hl : Ls[k0]? = some (.val x)) (hv : x.isRef = true) (K : Goes p e below s n0 P k n T (mkF m (pc + 2) Ls (x :: rest))) : Goes p e below s n0 P k n T (mkF m pc Ls rest) := by
  obtain ⟨locs, S, -, -, -⟩ := X
  exact Goes.of (fun _ kk => XS.aload S.here C.1 rfl (hb C.2.1 hd) hl hv kk) K
theorem w_astore (X : Hr p l e R s m args below meth c n0 h cells slots T) (C : Cx p s m meth c code ml ret own nm Z a0 tabs) {pc : Nat} {Ls : Array Slot} {k0 : Nat} {x : Value} {rest : List Value} (hd : decode code pc = .ok (.astore k0, 2)) (Ls' : Array Slot) (hl : storeLocals Ls k0 x = some Ls') (hv : x.isRef = true) (K : Goes p e below s n0 P k n T (mkF m (pc + 2) Ls' rest)) : Goes p e below s n0 P k n T (mkF m pc Ls (x :: rest)) := by
  obtain ⟨locs, S, -, -, -⟩ := X
  exact Goes.of (fun _ kk => XS.astore S.here C.1 rfl (hb C.2.1 hd) rfl hv hl kk) K
theorem w_aloadN (X : Hr p l e R s m args below meth c n0 h cells slots T) (C : Cx p s m meth c code ml ret own nm Z a0 tabs) {pc : Nat} {Ls : Array Slot} {k0 : Fin 4} {x : Value} {rest : List Value} (hd : decode code pc = .ok (.aload_n k0, 1)) (hl : Ls[k0.val]? = some (.val x)) (hv : x.isRef = true) (K : Goes p e below s n0 P k n T (mkF m (pc + 1) Ls (x :: rest))) : Goes p e below s n0 P k n T (mkF m pc Ls rest) := by
  obtain ⟨locs, S, -, -, -⟩ := X
  exact Goes.of (fun _ kk => XS.aloadN S.here C.1 rfl (hb C.2.1 hd) hl hv kk) K
theorem w_astoreN (X : Hr p l e R s m args below meth c n0 h cells slots T) (C : Cx p s m meth c code ml ret own nm Z a0 tabs) {pc : Nat} {Ls : Array Slot} {k0 : Fin 4} {x : Value} {rest : List Value} (hd : decode code pc = .ok (.astore_n k0, 1)) (Ls' : Array Slot) (hl : storeLocals Ls k0.val x = some Ls') (hv : x.isRef = true) (K : Goes p e below s n0 P k n T (mkF m (pc + 1) Ls' rest)) : Goes p e below s n0 P k n T (mkF m pc Ls (x :: rest)) := by
  obtain ⟨locs, S, -, -, -⟩ := X
  exact Goes.of (fun _ kk => XS.astoreN S.here C.1 rfl (hb C.2.1 hd) rfl hv hl kk) K
theorem w_iinc (X : Hr p l e R s m args below meth c n0 h cells slots T) (C : Cx p s m meth c code ml ret own nm Z a0 tabs) {pc : Nat} {Ls : Array Slot} {k0 : Nat} {cst : Int} {x : Int32} {rest : List Value} (hd : decode code pc = .ok (.iinc k0 cst, 3)) (v : Int32) (hv : Int32.ofInt cst = v) (hl : Ls[k0]? = some (.val (.int x))) (Ls' : Array Slot) (hl' : storeLocals Ls k0 (.int (x + v)) = some Ls') (K : Goes p e below s n0 P k n T (mkF m (pc + 3) Ls' rest)) : Goes p e below s n0 P k n T (mkF m pc Ls rest) := by
  obtain ⟨locs, S, -, -, -⟩ := X
  subst hv
  exact Goes.of (fun _ kk => XS.iinc S.here C.1 rfl (hb C.2.1 hd) hl hl' kk) K
theorem w_iconst (X : Hr p l e R s m args below meth c n0 h cells slots T) (C : Cx p s m meth c code ml ret own nm Z a0 tabs) {pc : Nat} {Ls : Array Slot} {i : Int} {rest : List Value} (hd : decode code pc = .ok (.iconst i, 1)) (v : Int32) (hv : Int32.ofInt i = v) (K : Goes p e below s n0 P k n T (mkF m (pc + 1) Ls (.int v :: rest))) : Goes p e below s n0 P k n T (mkF m pc Ls rest) := by
  obtain ⟨locs, S, -, -, -⟩ := X
  subst hv
  exact Goes.of (fun _ kk => XS.iconst S.here C.1 rfl (hb C.2.1 hd) kk) K
theorem w_bipush (X : Hr p l e R s m args below meth c n0 h cells slots T) (C : Cx p s m meth c code ml ret own nm Z a0 tabs) {pc : Nat} {Ls : Array Slot} {i : Int} {rest : List Value} (hd : decode code pc = .ok (.bipush i, 2)) (v : Int32) (hv : (Int8.ofInt i).toInt32 = v) (K : Goes p e below s n0 P k n T (mkF m (pc + 2) Ls (.int v :: rest))) : Goes p e below s n0 P k n T (mkF m pc Ls rest) := by
  obtain ⟨locs, S, -, -, -⟩ := X
  subst hv
  exact Goes.of (fun _ kk => XS.bipush S.here C.1 rfl (hb C.2.1 hd) kk) K
theorem w_sipush (X : Hr p l e R s m args below meth c n0 h cells slots T) (C : Cx p s m meth c code ml ret own nm Z a0 tabs) {pc : Nat} {Ls : Array Slot} {i : Int} {rest : List Value} (hd : decode code pc = .ok (.sipush i, 3)) (v : Int32) (hv : (Int16.ofInt i).toInt32 = v) (K : Goes p e below s n0 P k n T (mkF m (pc + 3) Ls (.int v :: rest))) : Goes p e below s n0 P k n T (mkF m pc Ls rest) := by
  obtain ⟨locs, S, -, -, -⟩ := X
  subst hv
  exact Goes.of (fun _ kk => XS.sipush S.here C.1 rfl (hb C.2.1 hd) kk) K
theorem w_lconst (X : Hr p l e R s m args below meth c n0 h cells slots T) (C : Cx p s m meth c code ml ret own nm Z a0 tabs) {pc : Nat} {Ls : Array Slot} {i : Fin 2} {rest : List Value} (hd : decode code pc = .ok (.lconst i, 1)) (v : Int64) (hv : Int64.ofNat i = v) (K : Goes p e below s n0 P k n T (mkF m (pc + 1) Ls (.long v :: rest))) : Goes p e below s n0 P k n T (mkF m pc Ls rest) := by
  obtain ⟨locs, S, -, -, -⟩ := X
  subst hv
  exact Goes.of (fun _ kk => XS.lconst S.here C.1 rfl (hb C.2.1 hd) kk) K
theorem w_aconst_null (X : Hr p l e R s m args below meth c n0 h cells slots T) (C : Cx p s m meth c code ml ret own nm Z a0 tabs) {pc : Nat} {Ls : Array Slot} {rest : List Value} (hd : decode code pc = .ok (.aconst_null, 1)) (K : Goes p e below s n0 P k n T (mkF m (pc + 1) Ls (.null :: rest))) : Goes p e below s n0 P k n T (mkF m pc Ls rest) := by
  obtain ⟨locs, S, -, -, -⟩ := X
  exact Goes.of (fun _ kk => XS.aconstNull S.here C.1 rfl (hb C.2.1 hd) kk) K
theorem w_ldcI (X : Hr p l e R s m args below meth c n0 h cells slots T) (C : Cx p s m meth c code ml ret own nm Z a0 tabs) {pc index : Nat} {Ls : Array Slot} {v : Int32} {rest : List Value} (hd : decode code pc = .ok (.ldc index, 2)) (i1 : Jvm.Cond.constant own index v ∈ tabs) (K : Goes p e below s n0 P k n T (mkF m (pc + 2) Ls (.int v :: rest))) : Goes p e below s n0 P k n T (mkF m pc Ls rest) := by
  obtain ⟨locs, S, -, -, -⟩ := X
  exact Goes.of (fun _ kk => S.ldcInt C.1 C.2.2.2.2.2.1 (mvT C.2.2.2.2.2.2.2.1 (C.2.2.2.2.2.2.2.2 _ i1)) (g := mkF m pc Ls rest) rfl (hb C.2.1 hd) _ kk) K
theorem w_ldcW (X : Hr p l e R s m args below meth c n0 h cells slots T) (C : Cx p s m meth c code ml ret own nm Z a0 tabs) {pc index : Nat} {Ls : Array Slot} {v : Int32} {rest : List Value} (hd : decode code pc = .ok (.ldc_w index, 3)) (i1 : Jvm.Cond.constant own index v ∈ tabs) (K : Goes p e below s n0 P k n T (mkF m (pc + 3) Ls (.int v :: rest))) : Goes p e below s n0 P k n T (mkF m pc Ls rest) := by
  obtain ⟨locs, S, -, -, -⟩ := X
  exact Goes.of (fun _ kk => S.ldcwInt C.1 C.2.2.2.2.2.1 (mvT C.2.2.2.2.2.2.2.1 (C.2.2.2.2.2.2.2.2 _ i1)) (g := mkF m pc Ls rest) rfl (hb C.2.1 hd) _ kk) K
theorem w_ldcJ (X : Hr p l e R s m args below meth c n0 h cells slots T) (C : Cx p s m meth c code ml ret own nm Z a0 tabs) {pc index : Nat} {Ls : Array Slot} {v : Int64} {rest : List Value} (hd : decode code pc = .ok (.ldc2_w index, 3)) (i1 : Jvm.Cond.constantLong own index v ∈ tabs) (K : Goes p e below s n0 P k n T (mkF m (pc + 3) Ls (.long v :: rest))) : Goes p e below s n0 P k n T (mkF m pc Ls rest) := by
  obtain ⟨locs, S, -, -, -⟩ := X
  exact Goes.of (fun _ kk => S.ldc2Long C.1 C.2.2.2.2.2.1 (mvT C.2.2.2.2.2.2.2.1 (C.2.2.2.2.2.2.2.2 _ i1)) (g := mkF m pc Ls rest) rfl (hb C.2.1 hd) _ kk) K
theorem w_goto (X : Hr p l e R s m args below meth c n0 h cells slots T) (C : Cx p s m meth c code ml ret own nm Z a0 tabs) {pc : Nat} {Ls : Array Slot} {st : List Value} {o : Int} (hd : decode code pc = .ok (.goto o, 3)) (pc' : Nat) (ho : 0 ≤ (pc : Int) + o ∧ ((pc : Int) + o).toNat = pc') (K : Goes p e below s n0 P k n T (mkF m pc' Ls st)) : Goes p e below s n0 P k n T (mkF m pc Ls st) := by
  obtain ⟨locs, S, -, -, -⟩ := X
  exact Goes.of (fun _ kk => XS.goto S.here C.1 rfl (pc0 := pc) (pc' := pc') rfl (hb C.2.1 hd) ho.1 ho.2 kk) K
theorem w_icmp_lt (X : Hr p l e R s m args below meth c n0 h cells slots T) (C : Cx p s m meth c code ml ret own nm Z a0 tabs) {pc : Nat} {Ls : Array Slot} {x y : Int32} {rest : List Value} {o : Int} (hd : decode code pc = .ok (.if_icmp .lt o, 3)) (pc' : Nat) (ho : 0 ≤ (pc : Int) + o ∧ ((pc : Int) + o).toNat = pc') (Ky : x < y → Goes p e below s n0 P k n T (mkF m pc' Ls rest)) (Kn : ¬ (x < y) → Goes p e below s n0 P k n T (mkF m (pc + 3) Ls rest)) : Goes p e below s n0 P k n T (mkF m pc Ls (.int y :: .int x :: rest)) := by
  obtain ⟨locs, S, -, -, -⟩ := X
  by_cases q : x < y
  · exact Goes.of (fun _ kk => XS.icmpYes S.here C.1 rfl (pc0 := pc) (pc' := pc') rfl (hb C.2.1 hd) rfl (tlt q).1 ho.1 ho.2 kk) (Ky q)
  · exact Goes.of (fun _ kk => XS.icmpNo S.here C.1 rfl (hb C.2.1 hd) rfl (flt q).1 kk) (Kn q)
theorem w_if_lt (X : Hr p l e R s m args below meth c n0 h cells slots T) (C : Cx p s m meth c code ml ret own nm Z a0 tabs) {pc : Nat} {Ls : Array Slot} {x : Int32} {rest : List Value} {o : Int} (hd : decode code pc = .ok (.ifCond .lt o, 3)) (pc' : Nat) (ho : 0 ≤ (pc : Int) + o ∧ ((pc : Int) + o).toNat = pc') (Ky : x < 0 → Goes p e below s n0 P k n T (mkF m pc' Ls rest)) (Kn : ¬ (x < 0) → Goes p e below s n0 P k n T (mkF m (pc + 3) Ls rest)) : Goes p e below s n0 P k n T (mkF m pc Ls (.int x :: rest)) := by
  obtain ⟨locs, S, -, -, -⟩ := X
  by_cases q : x < 0
  · exact Goes.of (fun _ kk => XS.ifYes S.here C.1 rfl (pc0 := pc) (pc' := pc') rfl (hb C.2.1 hd) rfl ((if0 _ _).trans (tlt q).1) ho.1 ho.2 kk) (Ky q)
  · exact Goes.of (fun _ kk => XS.ifNo S.here C.1 rfl (hb C.2.1 hd) rfl ((if0 _ _).trans (flt q).1) kk) (Kn q)
theorem w_icmp_ge (X : Hr p l e R s m args below meth c n0 h cells slots T) (C : Cx p s m meth c code ml ret own nm Z a0 tabs) {pc : Nat} {Ls : Array Slot} {x y : Int32} {rest : List Value} {o : Int} (hd : decode code pc = .ok (.if_icmp .ge o, 3)) (pc' : Nat) (ho : 0 ≤ (pc : Int) + o ∧ ((pc : Int) + o).toNat = pc') (Ky : ¬ (x < y) → Goes p e below s n0 P k n T (mkF m pc' Ls rest)) (Kn : x < y → Goes p e below s n0 P k n T (mkF m (pc + 3) Ls rest)) : Goes p e below s n0 P k n T (mkF m pc Ls (.int y :: .int x :: rest)) := by
  obtain ⟨locs, S, -, -, -⟩ := X
  by_cases q : x < y
  · exact Goes.of (fun _ kk => XS.icmpNo S.here C.1 rfl (hb C.2.1 hd) rfl (tlt q).2.1 kk) (Kn q)
  · exact Goes.of (fun _ kk => XS.icmpYes S.here C.1 rfl (pc0 := pc) (pc' := pc') rfl (hb C.2.1 hd) rfl (flt q).2.1 ho.1 ho.2 kk) (Ky q)
theorem w_if_ge (X : Hr p l e R s m args below meth c n0 h cells slots T) (C : Cx p s m meth c code ml ret own nm Z a0 tabs) {pc : Nat} {Ls : Array Slot} {x : Int32} {rest : List Value} {o : Int} (hd : decode code pc = .ok (.ifCond .ge o, 3)) (pc' : Nat) (ho : 0 ≤ (pc : Int) + o ∧ ((pc : Int) + o).toNat = pc') (Ky : ¬ (x < 0) → Goes p e below s n0 P k n T (mkF m pc' Ls rest)) (Kn : x < 0 → Goes p e below s n0 P k n T (mkF m (pc + 3) Ls rest)) : Goes p e below s n0 P k n T (mkF m pc Ls (.int x :: rest)) := by
  obtain ⟨locs, S, -, -, -⟩ := X
  by_cases q : x < 0
  · exact Goes.of (fun _ kk => XS.ifNo S.here C.1 rfl (hb C.2.1 hd) rfl ((if0 _ _).trans (tlt q).2.1) kk) (Kn q)
  · exact Goes.of (fun _ kk => XS.ifYes S.here C.1 rfl (pc0 := pc) (pc' := pc') rfl (hb C.2.1 hd) rfl ((if0 _ _).trans (flt q).2.1) ho.1 ho.2 kk) (Ky q)
theorem w_icmp_gt (X : Hr p l e R s m args below meth c n0 h cells slots T) (C : Cx p s m meth c code ml ret own nm Z a0 tabs) {pc : Nat} {Ls : Array Slot} {x y : Int32} {rest : List Value} {o : Int} (hd : decode code pc = .ok (.if_icmp .gt o, 3)) (pc' : Nat) (ho : 0 ≤ (pc : Int) + o ∧ ((pc : Int) + o).toNat = pc') (Ky : y < x → Goes p e below s n0 P k n T (mkF m pc' Ls rest)) (Kn : ¬ (y < x) → Goes p e below s n0 P k n T (mkF m (pc + 3) Ls rest)) : Goes p e below s n0 P k n T (mkF m pc Ls (.int y :: .int x :: rest)) := by
  obtain ⟨locs, S, -, -, -⟩ := X
  by_cases q : y < x
  · exact Goes.of (fun _ kk => XS.icmpYes S.here C.1 rfl (pc0 := pc) (pc' := pc') rfl (hb C.2.1 hd) rfl (tlt q).2.2.1 ho.1 ho.2 kk) (Ky q)
  · exact Goes.of (fun _ kk => XS.icmpNo S.here C.1 rfl (hb C.2.1 hd) rfl (flt q).2.2.1 kk) (Kn q)
theorem w_if_gt (X : Hr p l e R s m args below meth c n0 h cells slots T) (C : Cx p s m meth c code ml ret own nm Z a0 tabs) {pc : Nat} {Ls : Array Slot} {x : Int32} {rest : List Value} {o : Int} (hd : decode code pc = .ok (.ifCond .gt o, 3)) (pc' : Nat) (ho : 0 ≤ (pc : Int) + o ∧ ((pc : Int) + o).toNat = pc') (Ky : 0 < x → Goes p e below s n0 P k n T (mkF m pc' Ls rest)) (Kn : ¬ (0 < x) → Goes p e below s n0 P k n T (mkF m (pc + 3) Ls rest)) : Goes p e below s n0 P k n T (mkF m pc Ls (.int x :: rest)) := by
  obtain ⟨locs, S, -, -, -⟩ := X
  by_cases q : 0 < x
  · exact Goes.of (fun _ kk => XS.ifYes S.here C.1 rfl (pc0 := pc) (pc' := pc') rfl (hb C.2.1 hd) rfl ((if0 _ _).trans (tlt q).2.2.1) ho.1 ho.2 kk) (Ky q)
  · exact Goes.of (fun _ kk => XS.ifNo S.here C.1 rfl (hb C.2.1 hd) rfl ((if0 _ _).trans (flt q).2.2.1) kk) (Kn q)
theorem w_icmp_le (X : Hr p l e R s m args below meth c n0 h cells slots T) (C : Cx p s m meth c code ml ret own nm Z a0 tabs) {pc : Nat} {Ls : Array Slot} {x y : Int32} {rest : List Value} {o : Int} (hd : decode code pc = .ok (.if_icmp .le o, 3)) (pc' : Nat) (ho : 0 ≤ (pc : Int) + o ∧ ((pc : Int) + o).toNat = pc') (Ky : ¬ (y < x) → Goes p e below s n0 P k n T (mkF m pc' Ls rest)) (Kn : y < x → Goes p e below s n0 P k n T (mkF m (pc + 3) Ls rest)) : Goes p e below s n0 P k n T (mkF m pc Ls (.int y :: .int x :: rest)) := by
  obtain ⟨locs, S, -, -, -⟩ := X
  by_cases q : y < x
  · exact Goes.of (fun _ kk => XS.icmpNo S.here C.1 rfl (hb C.2.1 hd) rfl (tlt q).2.2.2 kk) (Kn q)
  · exact Goes.of (fun _ kk => XS.icmpYes S.here C.1 rfl (pc0 := pc) (pc' := pc') rfl (hb C.2.1 hd) rfl (flt q).2.2.2 ho.1 ho.2 kk) (Ky q)
theorem w_if_le (X : Hr p l e R s m args below meth c n0 h cells slots T) (C : Cx p s m meth c code ml ret own nm Z a0 tabs) {pc : Nat} {Ls : Array Slot} {x : Int32} {rest : List Value} {o : Int} (hd : decode code pc = .ok (.ifCond .le o, 3)) (pc' : Nat) (ho : 0 ≤ (pc : Int) + o ∧ ((pc : Int) + o).toNat = pc') (Ky : ¬ (0 < x) → Goes p e below s n0 P k n T (mkF m pc' Ls rest)) (Kn : 0 < x → Goes p e below s n0 P k n T (mkF m (pc + 3) Ls rest)) : Goes p e below s n0 P k n T (mkF m pc Ls (.int x :: rest)) := by
  obtain ⟨locs, S, -, -, -⟩ := X
  by_cases q : 0 < x
  · exact Goes.of (fun _ kk => XS.ifNo S.here C.1 rfl (hb C.2.1 hd) rfl ((if0 _ _).trans (tlt q).2.2.2) kk) (Kn q)
  · exact Goes.of (fun _ kk => XS.ifYes S.here C.1 rfl (pc0 := pc) (pc' := pc') rfl (hb C.2.1 hd) rfl ((if0 _ _).trans (flt q).2.2.2) ho.1 ho.2 kk) (Ky q)
theorem w_icmp_eq (X : Hr p l e R s m args below meth c n0 h cells slots T) (C : Cx p s m meth c code ml ret own nm Z a0 tabs) {pc : Nat} {Ls : Array Slot} {x y : Int32} {rest : List Value} {o : Int} (hd : decode code pc = .ok (.if_icmp .eq o, 3)) (pc' : Nat) (ho : 0 ≤ (pc : Int) + o ∧ ((pc : Int) + o).toNat = pc') (Ky : x = y → Goes p e below s n0 P k n T (mkF m pc' Ls rest)) (Kn : ¬ (x = y) → Goes p e below s n0 P k n T (mkF m (pc + 3) Ls rest)) : Goes p e below s n0 P k n T (mkF m pc Ls (.int y :: .int x :: rest)) := by
  obtain ⟨locs, S, -, -, -⟩ := X
  by_cases q : x = y
  · exact Goes.of (fun _ kk => XS.icmpYes S.here C.1 rfl (pc0 := pc) (pc' := pc') rfl (hb C.2.1 hd) rfl (teq q).1 ho.1 ho.2 kk) (Ky q)
  · exact Goes.of (fun _ kk => XS.icmpNo S.here C.1 rfl (hb C.2.1 hd) rfl (feq q).1 kk) (Kn q)
theorem w_if_eq (X : Hr p l e R s m args below meth c n0 h cells slots T) (C : Cx p s m meth c code ml ret own nm Z a0 tabs) {pc : Nat} {Ls : Array Slot} {x : Int32} {rest : List Value} {o : Int} (hd : decode code pc = .ok (.ifCond .eq o, 3)) (pc' : Nat) (ho : 0 ≤ (pc : Int) + o ∧ ((pc : Int) + o).toNat = pc') (Ky : x = 0 → Goes p e below s n0 P k n T (mkF m pc' Ls rest)) (Kn : ¬ (x = 0) → Goes p e below s n0 P k n T (mkF m (pc + 3) Ls rest)) : Goes p e below s n0 P k n T (mkF m pc Ls (.int x :: rest)) := by
  obtain ⟨locs, S, -, -, -⟩ := X
  by_cases q : x = 0
  · exact Goes.of (fun _ kk => XS.ifYes S.here C.1 rfl (pc0 := pc) (pc' := pc') rfl (hb C.2.1 hd) rfl ((if0 _ _).trans (teq q).1) ho.1 ho.2 kk) (Ky q)
  · exact Goes.of (fun _ kk => XS.ifNo S.here C.1 rfl (hb C.2.1 hd) rfl ((if0 _ _).trans (feq q).1) kk) (Kn q)
theorem w_icmp_ne (X : Hr p l e R s m args below meth c n0 h cells slots T) (C : Cx p s m meth c code ml ret own nm Z a0 tabs) {pc : Nat} {Ls : Array Slot} {x y : Int32} {rest : List Value} {o : Int} (hd : decode code pc = .ok (.if_icmp .ne o, 3)) (pc' : Nat) (ho : 0 ≤ (pc : Int) + o ∧ ((pc : Int) + o).toNat = pc') (Ky : ¬ (x = y) → Goes p e below s n0 P k n T (mkF m pc' Ls rest)) (Kn : x = y → Goes p e below s n0 P k n T (mkF m (pc + 3) Ls rest)) : Goes p e below s n0 P k n T (mkF m pc Ls (.int y :: .int x :: rest)) := by
  obtain ⟨locs, S, -, -, -⟩ := X
  by_cases q : x = y
  · exact Goes.of (fun _ kk => XS.icmpNo S.here C.1 rfl (hb C.2.1 hd) rfl (teq q).2 kk) (Kn q)
  · exact Goes.of (fun _ kk => XS.icmpYes S.here C.1 rfl (pc0 := pc) (pc' := pc') rfl (hb C.2.1 hd) rfl (feq q).2 ho.1 ho.2 kk) (Ky q)
theorem w_if_ne (X : Hr p l e R s m args below meth c n0 h cells slots T) (C : Cx p s m meth c code ml ret own nm Z a0 tabs) {pc : Nat} {Ls : Array Slot} {x : Int32} {rest : List Value} {o : Int} (hd : decode code pc = .ok (.ifCond .ne o, 3)) (pc' : Nat) (ho : 0 ≤ (pc : Int) + o ∧ ((pc : Int) + o).toNat = pc') (Ky : ¬ (x = 0) → Goes p e below s n0 P k n T (mkF m pc' Ls rest)) (Kn : x = 0 → Goes p e below s n0 P k n T (mkF m (pc + 3) Ls rest)) : Goes p e below s n0 P k n T (mkF m pc Ls (.int x :: rest)) := by
  obtain ⟨locs, S, -, -, -⟩ := X
  by_cases q : x = 0
  · exact Goes.of (fun _ kk => XS.ifNo S.here C.1 rfl (hb C.2.1 hd) rfl ((if0 _ _).trans (teq q).2) kk) (Kn q)
  · exact Goes.of (fun _ kk => XS.ifYes S.here C.1 rfl (pc0 := pc) (pc' := pc') rfl (hb C.2.1 hd) rfl ((if0 _ _).trans (feq q).2) ho.1 ho.2 kk) (Ky q)
theorem cj_lt (x y : Int64) : cmpJ x y < 0 ↔ x < y := lw_lt x y
theorem cj_gt (x y : Int64) : 0 < cmpJ x y ↔ y < x := lw_gt x y
theorem cj_eq (x y : Int64) : cmpJ x y = 0 ↔ x = y := lw_eq x y
theorem w_ifJ_lt (X : Hr p l e R s m args below meth c n0 h cells slots T) (C : Cx p s m meth c code ml ret own nm Z a0 tabs) {pc : Nat} {Ls : Array Slot} {x y : Int64} {rest : List Value} {o : Int} (hd : decode code pc = .ok (.ifCond .lt o, 3)) (pc' : Nat) (ho : 0 ≤ (pc : Int) + o ∧ ((pc : Int) + o).toNat = pc') (Ky : x < y → Goes p e below s n0 P k n T (mkF m pc' Ls rest)) (Kn : ¬ (x < y) → Goes p e below s n0 P k n T (mkF m (pc + 3) Ls rest)) : Goes p e below s n0 P k n T (mkF m pc Ls (.int (cmpJ x y) :: rest)) :=
  w_if_lt X C hd pc' ho (fun q => Ky ((cj_lt _ _).mp q)) (fun q => Kn (fun r => q ((cj_lt _ _).mpr r)))
theorem w_ifJ_ge (X : Hr p l e R s m args below meth c n0 h cells slots T) (C : Cx p s m meth c code ml ret own nm Z a0 tabs) {pc : Nat} {Ls : Array Slot} {x y : Int64} {rest : List Value} {o : Int} (hd : decode code pc = .ok (.ifCond .ge o, 3)) (pc' : Nat) (ho : 0 ≤ (pc : Int) + o ∧ ((pc : Int) + o).toNat = pc') (Ky : ¬ (x < y) → Goes p e below s n0 P k n T (mkF m pc' Ls rest)) (Kn : x < y → Goes p e below s n0 P k n T (mkF m (pc + 3) Ls rest)) : Goes p e below s n0 P k n T (mkF m pc Ls (.int (cmpJ x y) :: rest)) :=
  w_if_ge X C hd pc' ho (fun q => Ky (fun r => q ((cj_lt _ _).mpr r))) (fun q => Kn ((cj_lt _ _).mp q))
theorem w_ifJ_gt (X : Hr p l e R s m args below meth c n0 h cells slots T) (C : Cx p s m meth c code ml ret own nm Z a0 tabs) {pc : Nat} {Ls : Array Slot} {x y : Int64} {rest : List Value} {o : Int} (hd : decode code pc = .ok (.ifCond .gt o, 3)) (pc' : Nat) (ho : 0 ≤ (pc : Int) + o ∧ ((pc : Int) + o).toNat = pc') (Ky : y < x → Goes p e below s n0 P k n T (mkF m pc' Ls rest)) (Kn : ¬ (y < x) → Goes p e below s n0 P k n T (mkF m (pc + 3) Ls rest)) : Goes p e below s n0 P k n T (mkF m pc Ls (.int (cmpJ x y) :: rest)) :=
  w_if_gt X C hd pc' ho (fun q => Ky ((cj_gt _ _).mp q)) (fun q => Kn (fun r => q ((cj_gt _ _).mpr r)))
theorem w_ifJ_le (X : Hr p l e R s m args below meth c n0 h cells slots T) (C : Cx p s m meth c code ml ret own nm Z a0 tabs) {pc : Nat} {Ls : Array Slot} {x y : Int64} {rest : List Value} {o : Int} (hd : decode code pc = .ok (.ifCond .le o, 3)) (pc' : Nat) (ho : 0 ≤ (pc : Int) + o ∧ ((pc : Int) + o).toNat = pc') (Ky : ¬ (y < x) → Goes p e below s n0 P k n T (mkF m pc' Ls rest)) (Kn : y < x → Goes p e below s n0 P k n T (mkF m (pc + 3) Ls rest)) : Goes p e below s n0 P k n T (mkF m pc Ls (.int (cmpJ x y) :: rest)) :=
  w_if_le X C hd pc' ho (fun q => Ky (fun r => q ((cj_gt _ _).mpr r))) (fun q => Kn ((cj_gt _ _).mp q))
theorem w_ifJ_eq (X : Hr p l e R s m args below meth c n0 h cells slots T) (C : Cx p s m meth c code ml ret own nm Z a0 tabs) {pc : Nat} {Ls : Array Slot} {x y : Int64} {rest : List Value} {o : Int} (hd : decode code pc = .ok (.ifCond .eq o, 3)) (pc' : Nat) (ho : 0 ≤ (pc : Int) + o ∧ ((pc : Int) + o).toNat = pc') (Ky : x = y → Goes p e below s n0 P k n T (mkF m pc' Ls rest)) (Kn : ¬ (x = y) → Goes p e below s n0 P k n T (mkF m (pc + 3) Ls rest)) : Goes p e below s n0 P k n T (mkF m pc Ls (.int (cmpJ x y) :: rest)) :=
  w_if_eq X C hd pc' ho (fun q => Ky ((cj_eq _ _).mp q)) (fun q => Kn (fun r => q ((cj_eq _ _).mpr r)))
theorem w_ifJ_ne (X : Hr p l e R s m args below meth c n0 h cells slots T) (C : Cx p s m meth c code ml ret own nm Z a0 tabs) {pc : Nat} {Ls : Array Slot} {x y : Int64} {rest : List Value} {o : Int} (hd : decode code pc = .ok (.ifCond .ne o, 3)) (pc' : Nat) (ho : 0 ≤ (pc : Int) + o ∧ ((pc : Int) + o).toNat = pc') (Ky : ¬ (x = y) → Goes p e below s n0 P k n T (mkF m pc' Ls rest)) (Kn : x = y → Goes p e below s n0 P k n T (mkF m (pc + 3) Ls rest)) : Goes p e below s n0 P k n T (mkF m pc Ls (.int (cmpJ x y) :: rest)) :=
  w_if_ne X C hd pc' ho (fun q => Ky (fun r => q ((cj_eq _ _).mpr r))) (fun q => Kn ((cj_eq _ _).mp q))
theorem w_ifnull_no (X : Hr p l e R s m args below meth c n0 h cells slots T) (C : Cx p s m meth c code ml ret own nm Z a0 tabs) {pc : Nat} {Ls : Array Slot} {a : Addr} {rest : List Value} {o : Int} (hd : decode code pc = .ok (.ifnull o, 3)) (K : Goes p e below s n0 P k n T (mkF m (pc + 3) Ls rest)) : Goes p e below s n0 P k n T (mkF m pc Ls (.ref a :: rest)) := by
  obtain ⟨locs, S, -, -, -⟩ := X
  exact Goes.of (fun _ kk => XS.ifnullNo S.here C.1 rfl (hb C.2.1 hd) rfl kk) K
theorem w_retI (X : Hr p l e R s m args below meth c n0 h cells slots T) (C : Cx p s m meth c code ml (some .int) own nm Z a0 tabs) {pc : Nat} {Ls : Array Slot} {z : Int32} {rest : List Value} (hd : decode code pc = .ok (.ireturn, 1)) (hP : P (some (.int z)) h) (hk : cells ≤ k := by decide) (hn : slots ≤ n := by decide) : Goes p e below s n0 P k n T (mkF m pc Ls (.int z :: rest)) := by
  obtain ⟨locs, S, eT, N, -⟩ := X
  obtain ⟨fs, hr, hrun, hended, hW, hsame⟩ := S.leave (v := some (.int z)) (fun h => by rw [C.2.2.2.1] at h; cases h) C.2.2.2.2.1
  refine ⟨_, _, retI' S C.1 C.2.2.2.1 (hb C.2.1 hd) hr, hrun, hended, _, _, rfl, ⟨N, ?_⟩, ⟨_, rfl⟩, hW, hsame.mono hk hn⟩
  show P _ T.heap
  rw [eT]
  exact hP
theorem w_ret_boolean (X : Hr p l e R s m args below meth c n0 h cells slots T) (C : Cx p s m meth c code ml (some .boolean) own nm Z a0 tabs) {pc : Nat} {Ls : Array Slot} {z : Int32} {rest : List Value} (hd : decode code pc = .ok (.ireturn, 1)) (hP : P (some (.int (z &&& 1))) h) (hk : cells ≤ k := by decide) (hn : slots ≤ n := by decide) : Goes p e below s n0 P k n T (mkF m pc Ls (.int z :: rest)) := by
  obtain ⟨locs, S, eT, N, -⟩ := X
  obtain ⟨fs, hr, hrun, hended, hW, hsame⟩ := S.leave (v := some (.int (z &&& 1))) (fun h => by rw [C.2.2.2.1] at h; cases h) C.2.2.2.2.1
  refine ⟨_, _, retN S C.1 (t := .boolean) C.2.2.2.1 (by simp) (hb C.2.1 hd) hr, hrun, hended, _, _, rfl, ⟨N, ?_⟩, ⟨_, rfl⟩, hW, hsame.mono hk hn⟩
  show P _ T.heap
  rw [eT]
  exact hP
theorem w_ret_byte (X : Hr p l e R s m args below meth c n0 h cells slots T) (C : Cx p s m meth c code ml (some .byte) own nm Z a0 tabs) {pc : Nat} {Ls : Array Slot} {z : Int32} {rest : List Value} (hd : decode code pc = .ok (.ireturn, 1)) (hP : P (some (.int (i8 z))) h) (hk : cells ≤ k := by decide) (hn : slots ≤ n := by decide) : Goes p e below s n0 P k n T (mkF m pc Ls (.int z :: rest)) := by
  obtain ⟨locs, S, eT, N, -⟩ := X
  obtain ⟨fs, hr, hrun, hended, hW, hsame⟩ := S.leave (v := some (.int (i8 z))) (fun h => by rw [C.2.2.2.1] at h; cases h) C.2.2.2.2.1
  refine ⟨_, _, retN S C.1 (t := .byte) C.2.2.2.1 (by simp) (hb C.2.1 hd) hr, hrun, hended, _, _, rfl, ⟨N, ?_⟩, ⟨_, rfl⟩, hW, hsame.mono hk hn⟩
  show P _ T.heap
  rw [eT]
  exact hP
theorem w_ret_char (X : Hr p l e R s m args below meth c n0 h cells slots T) (C : Cx p s m meth c code ml (some .char) own nm Z a0 tabs) {pc : Nat} {Ls : Array Slot} {z : Int32} {rest : List Value} (hd : decode code pc = .ok (.ireturn, 1)) (hP : P (some (.int (i16c z))) h) (hk : cells ≤ k := by decide) (hn : slots ≤ n := by decide) : Goes p e below s n0 P k n T (mkF m pc Ls (.int z :: rest)) := by
  obtain ⟨locs, S, eT, N, -⟩ := X
  obtain ⟨fs, hr, hrun, hended, hW, hsame⟩ := S.leave (v := some (.int (i16c z))) (fun h => by rw [C.2.2.2.1] at h; cases h) C.2.2.2.2.1
  refine ⟨_, _, retN S C.1 (t := .char) C.2.2.2.1 (by simp) (hb C.2.1 hd) hr, hrun, hended, _, _, rfl, ⟨N, ?_⟩, ⟨_, rfl⟩, hW, hsame.mono hk hn⟩
  show P _ T.heap
  rw [eT]
  exact hP
theorem w_retJ (X : Hr p l e R s m args below meth c n0 h cells slots T) (C : Cx p s m meth c code ml (some .long) own nm Z a0 tabs) {pc : Nat} {Ls : Array Slot} {z : Int64} (hd : decode code pc = .ok (.lreturn, 1)) (hP : P (some (.long z)) h) (hk : cells ≤ k := by decide) (hn : slots ≤ n := by decide) : Goes p e below s n0 P k n T (mkF m pc Ls [.long z]) := by
  obtain ⟨locs, S, eT, N, -⟩ := X
  obtain ⟨fs, hr, hrun, hended, hW, hsame⟩ := S.leave (v := some (.long z)) (fun h => by rw [C.2.2.2.1] at h; cases h) C.2.2.2.2.1
  refine ⟨_, _, S.lreturnOut C.1 C.2.2.2.1 (hb C.2.1 hd) hr, hrun, hended, _, _, rfl, ⟨N, ?_⟩, ⟨_, rfl⟩, hW, hsame.mono hk hn⟩
  show P _ T.heap
  rw [eT]
  exact hP
theorem w_retR (X : Hr p l e R s m args below meth c n0 h cells slots T) (C : Cx p s m meth c code ml ret own nm Z a0 tabs) {pc : Nat} {Ls : Array Slot} {t : FieldType} {a : Addr} {rest : List Value} (ht : t.isReference = true) (hret : ret = some t) (hd : decode code pc = .ok (.areturn, 1)) (hP : P (some (.ref a)) h) (hk : cells ≤ k := by decide) (hn : slots ≤ n := by decide) : Goes p e below s n0 P k n T (mkF m pc Ls (.ref a :: rest)) := by
  subst hret
  obtain ⟨locs, S, eT, N, -⟩ := X
  obtain ⟨fs, hr, hrun, hended, hW, hsame⟩ := S.leave (v := some (.ref a)) (fun h => by rw [C.2.2.2.1] at h; cases h) C.2.2.2.2.1
  refine ⟨_, _, retOut S C.1 C.2.2.2.1 (by cases t <;> rfl) (Or.inr (Or.inr (Or.inr (Or.inr ⟨rfl, ht, rfl⟩)))) (hb C.2.1 hd) hr, hrun, hended, _, _, rfl, ⟨N, ?_⟩, ⟨_, rfl⟩, hW, hsame.mono hk hn⟩
  show P _ T.heap
  rw [eT]
  exact hP
theorem w_retV (X : Hr p l e R s m args below meth c n0 h cells slots T) (C : Cx p s m meth c code ml none own nm Z a0 tabs) {pc : Nat} {Ls : Array Slot} (hd : decode code pc = .ok (.return_, 1)) (hP : P none h) (hk : cells ≤ k := by decide) (hn : slots ≤ n := by decide) : Goes p e below s n0 P k n T (mkF m pc Ls []) := by
  obtain ⟨locs, S, eT, N, -⟩ := X
  obtain ⟨fs, hr, hrun, hended, hW, hsame⟩ := S.leave (v := none) (fun _ => rfl) C.2.2.2.2.1
  refine ⟨_, _, S.returnOut C.1 C.2.2.2.1 (hb C.2.1 hd) hr, hrun, hended, _, _, rfl, ⟨N, ?_⟩, ⟨_, rfl⟩, hW, hsame.mono hk hn⟩
  show P _ T.heap
  rw [eT]
  exact hP
theorem w_callS (X : Hr p l e R s m args below meth c n0 h cells slots T) (C : Cx p s m meth c code ml ret own nm Z a0 tabs) {pc index : Nat} {Ls : Array Slot} {y : MethodName} {bytes : ByteArray} {maxL : Nat} {rt : Option FieldType} {rm : Room} {P' : Option Value → Heap → Prop} {argsL rest st : List Value} (hd : decode code pc = .ok (.invokestatic index, 3)) (i1 : Jvm.Cond.methodLink own index y ∈ tabs) (i2 : Jvm.Cond.static y ∈ tabs) (i3 : Jvm.Cond.initialized y.cls ∈ tabs) (i4 : Jvm.Cond.code y bytes maxL rt ∈ tabs) (hy : y.cls ≠ "java/lang/invoke/MethodHandle" ∧ y.cls ≠ "java/lang/invoke/VarHandle") {W : Nat} (hM : Ct l y bytes maxL rt rm Z argsL.toArray h n0 P') (hls : Ls.size = ml) (hlen : ∃ ps r, parseMethodDescriptor y.desc = some ⟨ps, r⟩ ∧ argsL.length = ps.length) (hst : st = argsL.reverse ++ rest) (hW : (rest.map fun v => v.category).sum ≤ W) (hf : rm.frames + 1 ≤ R.frames) (hl : W + (maxL + 11) + rm.locals ≤ R.locals) (hc : cells + rm.cells ≤ R.cells) (hs : slots + rm.slots ≤ R.slots)
    (K : ∀ v T', P' v T'.heap → Hr p l e R s m args below meth c n0 T'.heap (cells + rm.cells) (slots + rm.slots) T' → Goes p e below s n0 P k n T' (mkF m (pc + 3) Ls (v.toList ++ rest))) : Goes p e below s n0 P k n T (mkF m pc Ls st) := by
  obtain ⟨locs, S, eT, N, q0⟩ := X
  obtain ⟨ps, r, hp1, hp2⟩ := hlen
  have hZ := C.2.2.2.2.2.2.2.1
  have hw := C.2.2.2.2.2.2.2.2
  obtain ⟨v, _, ⟨T', L', k', n'⟩, -, X', ⟨Lc, hQ, l1, l2, l3⟩, stp⟩ := Jvm.LawKit.callS S C.1 (y := y) C.2.2.2.2.2.1 (mvT hZ (hw _ i1)) (mvT hZ (hw _ i2)) (mvT hZ (hw _ i3)) (mvT hZ (hw _ i4)) hy (backOf (W := W) (Q := fun v hp L => Fr n0 L ∧ P' v hp) (hM []) C.2.2.2.2.2.2.2.1 (C.2.2.2.2.2.2.2.2 _ i4) (C.2.2.2.2.2.2.2.2 _ i3) hf hl) (g := mkF m pc Ls st) rfl (by rw [C.2.2.1]; exact hls) (argsL := argsL) (rest := rest) (lenOf hp1 hp2) hst (by show 2 * 0 + _ ≤ _; rw [Nat.mul_zero, Nat.zero_add]; exact hW) (hb C.2.1 hd) (fun _ _ => ⟨rfl, eT, hc, hs⟩)
  dsimp only [Pt.U, Pt.locs, Pt.cells, Pt.slots] at X' l1 l2 l3 stp hQ
  subst l1 l2 l3
  exact Goes.of stp (K v T' hQ.2 ⟨_, X', rfl, Fr.app N hQ.1, q0⟩)
theorem w_callI (X : Hr p l e R s m args below meth c n0 h cells slots T) (C : Cx p s m meth c code ml ret own nm Z a0 tabs) {pc index : Nat} {Ls : Array Slot} {y : MethodName} {bytes : ByteArray} {maxL : Nat} {rm : Room} {P' : Option Value → Heap → Prop} {a : Addr} {argsL rest st : List Value} (hd : decode code pc = .ok (.invokespecial index, 3)) (i1 : Jvm.Cond.methodLink own index y ∈ tabs) (i2 : Jvm.Cond.instanceMethod y ∈ tabs) (i3 : Jvm.Cond.initialized y.cls ∈ tabs) (i4 : Jvm.Cond.code y bytes maxL none ∈ tabs) (hn1 : y.name = "<init>") (hy : y.cls ≠ "java/lang/invoke/MethodHandle" ∧ y.cls ≠ "java/lang/invoke/VarHandle") {W : Nat} (hM : Ct l y bytes maxL none rm Z (.ref a :: argsL).toArray h n0 P') (hls : Ls.size = ml) (hlen : ∃ ps r, parseMethodDescriptor y.desc = some ⟨ps, r⟩ ∧ argsL.length = ps.length) (hst : st = argsL.reverse ++ .ref a :: rest) (hW : (rest.map fun v => v.category).sum ≤ W) (hf : rm.frames + 1 ≤ R.frames) (hl : W + (maxL + 11) + rm.locals ≤ R.locals) (hc : cells + rm.cells ≤ R.cells) (hs : slots + rm.slots ≤ R.slots)
    (K : ∀ v T', P' v T'.heap → Hr p l e R s m args below meth c n0 T'.heap (cells + rm.cells) (slots + rm.slots) T' → Goes p e below s n0 P k n T' (mkF m (pc + 3) Ls (v.toList ++ rest))) : Goes p e below s n0 P k n T (mkF m pc Ls st) := by
  obtain ⟨locs, S, eT, N, q0⟩ := X
  obtain ⟨ps, r, hp1, hp2⟩ := hlen
  have hZ := C.2.2.2.2.2.2.2.1
  have hw := C.2.2.2.2.2.2.2.2
  obtain ⟨v, _, ⟨T', L', k', n'⟩, -, X', ⟨Lc, hQ, l1, l2, l3⟩, stp⟩ := S.specialBack C.1 (y := y) hn1 C.2.2.2.2.2.1 (mvT hZ (hw _ i1)) (mvT hZ (hw _ i2)) (mvT hZ (hw _ i4)) hy (backOf (W := W) (Q := fun v hp L => Fr n0 L ∧ P' v hp) (hM []) C.2.2.2.2.2.2.2.1 (C.2.2.2.2.2.2.2.2 _ i4) (C.2.2.2.2.2.2.2.2 _ i3) hf hl) (g := mkF m pc Ls st) rfl (by rw [C.2.2.1]; exact hls) (Steps.refl _) (a := a) (argsL := argsL) (rest := rest) (lenOf hp1 hp2) hst (by show 2 * 0 + _ ≤ _; rw [Nat.mul_zero, Nat.zero_add]; exact hW) (hb C.2.1 hd) (fun _ _ => ⟨rfl, eT, hc, hs⟩)
  dsimp only [Pt.U, Pt.locs, Pt.cells, Pt.slots] at X' l1 l2 l3 stp hQ
  subst l1 l2 l3
  exact Goes.of (fun _ kk => stp.trans kk) (K v T' hQ.2 ⟨_, X', rfl, Fr.app N hQ.1, q0⟩)
theorem w_callV (X : Hr p l e R s m args below meth c n0 h cells slots T) (C : Cx p s m meth c code ml ret own nm Z a0 tabs) {pc index : Nat} {Ls : Array Slot} {y : MethodName} {bytes : ByteArray} {maxL : Nat} {rt : Option FieldType} {rm : Room} {P' : Option Value → Heap → Prop} {a : Addr} {argsL rest st : List Value} (hd : decode code pc = .ok (.invokevirtual index, 3)) (i1 : Jvm.Cond.methodLink own index y ∈ tabs) (i2 : Jvm.Cond.instanceMethod y ∈ tabs) (i3 : Jvm.Cond.initialized y.cls ∈ tabs) (i4 : Jvm.Cond.code y bytes maxL rt ∈ tabs) (i5 : Jvm.Cond.declares y ∈ tabs) (i6 : Jvm.Cond.selects y.cls y y ∈ tabs) (E : Exa Z h a y.cls) (hy : y.cls ≠ "java/lang/invoke/MethodHandle" ∧ y.cls ≠ "java/lang/invoke/VarHandle") {W : Nat} (hM : Ct l y bytes maxL rt rm Z (.ref a :: argsL).toArray h n0 P') (hls : Ls.size = ml) (hlen : ∃ ps r, parseMethodDescriptor y.desc = some ⟨ps, r⟩ ∧ argsL.length = ps.length) (hst : st = argsL.reverse ++ .ref a :: rest) (hW : (rest.map fun v => v.category).sum ≤ W) (hf : rm.frames + 1 ≤ R.frames) (hl : W + (maxL + 11) + rm.locals ≤ R.locals) (hc : cells + rm.cells ≤ R.cells) (hs : slots + rm.slots ≤ R.slots)
    (K : ∀ v T', P' v T'.heap → Hr p l e R s m args below meth c n0 T'.heap (cells + rm.cells) (slots + rm.slots) T' → Goes p e below s n0 P k n T' (mkF m (pc + 3) Ls (v.toList ++ rest))) : Goes p e below s n0 P k n T (mkF m pc Ls st) := by
  obtain ⟨locs, S, eT, N, q0⟩ := X
  obtain ⟨ps, r, hp1, hp2⟩ := hlen
  have hZ := C.2.2.2.2.2.2.2.1
  have hw := C.2.2.2.2.2.2.2.2
  obtain ⟨cB, kB, qa, qb, qc⟩ := isOf hZ eT E
  obtain ⟨v, _, ⟨T', L', k', n'⟩, -, X', ⟨Lc, hQ, l1, l2, l3⟩, stp⟩ := S.virtualBack C.1 (y := y) (z := y) C.2.2.2.2.2.1 (mvT hZ (hw _ i1)) (mvT hZ (hw _ i5)) (notFace_of_selects (args := #[]) (mvT hZ (hw _ i6))) (mvT hZ (hw _ i6)) (mvT hZ (hw _ i2)) hy (backOf (W := W) (Q := fun v hp L => Fr n0 L ∧ P' v hp) (hM []) C.2.2.2.2.2.2.2.1 (C.2.2.2.2.2.2.2.2 _ i4) (C.2.2.2.2.2.2.2.2 _ i3) hf hl) qa qc (g := mkF m pc Ls st) rfl (by rw [C.2.2.1]; exact hls) (Steps.refl _) (argsL := argsL) (rest := rest) (lenOf hp1 hp2) hst (by show 2 * 0 + _ ≤ _; rw [Nat.mul_zero, Nat.zero_add]; exact hW) (hb C.2.1 hd) (fun _ _ => ⟨rfl, eT, hc, hs⟩)
  dsimp only [Pt.U, Pt.locs, Pt.cells, Pt.slots] at X' l1 l2 l3 stp hQ
  subst l1 l2 l3
  exact Goes.of (fun _ kk => stp.trans kk) (K v T' hQ.2 ⟨_, X', rfl, Fr.app N hQ.1, q0⟩)
theorem w_callP (X : Hr p l e R s m args below meth c n0 h cells slots T) (C : Cx p s m meth c code ml ret own nm Z a0 tabs) {pc index : Nat} {Ls : Array Slot} {y : MethodName} {bytes : ByteArray} {maxL : Nat} {rt : Option FieldType} {rm : Room} {w : Value} {argsL rest st : List Value} {W : Nat} (hd : decode code pc = .ok (.invokestatic index, 3)) (i1 : Jvm.Cond.methodLink own index y ∈ tabs) (i2 : Jvm.Cond.static y ∈ tabs) (i3 : Jvm.Cond.initialized y.cls ∈ tabs) (i4 : Jvm.Cond.code y bytes maxL rt ∈ tabs) (hy : y.cls ≠ "java/lang/invoke/MethodHandle" ∧ y.cls ≠ "java/lang/invoke/VarHandle") (hM : Ct l y bytes maxL rt rm Z argsL.toArray h n0 (fun v hp => v = some w ∧ hp = h)) (hr0 : rm.cells = 0) (hr1 : rm.slots = 0) (hls : Ls.size = ml) (hlen : ∃ ps r, parseMethodDescriptor y.desc = some ⟨ps, r⟩ ∧ argsL.length = ps.length) (hst : st = argsL.reverse ++ rest) (hW : (rest.map fun v => v.category).sum ≤ W) (hf : rm.frames + 1 ≤ R.frames) (hl : W + (maxL + 11) + rm.locals ≤ R.locals) (hc : cells ≤ R.cells) (hs : slots ≤ R.slots)
    (K : ∀ T', Hr p l e R s m args below meth c n0 h cells slots T' → Goes p e below s n0 P k n T' (mkF m (pc + 3) Ls (w :: rest))) : Goes p e below s n0 P k n T (mkF m pc Ls st) := by
  refine w_callS X C hd i1 i2 i3 i4 hy hM hls hlen hst hW hf hl (by rw [hr0]; exact hc) (by rw [hr1]; exact hs) ?_
  rintro v T' ⟨rfl, e1⟩ X'
  rw [e1, hr0, hr1] at X'
  exact K T' X'
theorem w_initO (X : Hr p l e R s m args below meth c n0 h cells slots T) (C : Cx p s m meth c code ml ret own nm Z a0 tabs) {pc index : Nat} {Ls : Array Slot} {a : Addr} {rest : List Value} (hd : decode code pc = .ok (.invokespecial index, 3)) (i1 : Jvm.Cond.methodLink own index Lib.objectInit ∈ tabs) (i2 : Jvm.Cond.instanceMethod Lib.objectInit ∈ tabs) (i3 : Jvm.Cond.code Lib.objectInit ⟨#[0xb1]⟩ 1 none ∈ tabs) (hls : Ls.size = ml) {W : Nat} (hW : (rest.map fun v => v.category).sum ≤ W) (hf : 1 ≤ R.frames) (hl : W + 12 ≤ R.locals)
    (K : ∀ T', Hr p l e R s m args below meth c n0 h cells slots T' → Goes p e below s n0 P k n T' (mkF m (pc + 3) Ls rest)) : Goes p e below s n0 P k n T (mkF m pc Ls (.ref a :: rest)) := by
  obtain ⟨locs, S, eT, N, q0⟩ := X
  have hZ := C.2.2.2.2.2.2.2.1
  have hw := C.2.2.2.2.2.2.2.2
  obtain ⟨T', X', e', st⟩ := initO S C.1 hZ C.2.2.2.2.2.1 (hw _ i1) (hw _ i2) (hw _ i3) eT (g := mkF m pc Ls (.ref a :: rest)) rfl (by rw [C.2.2.1]; exact hls) rfl (hb C.2.1 hd) hf (W := W) (by show 2 * 0 + _ ≤ _; rw [Nat.mul_zero, Nat.zero_add]; exact hW) hl
  exact Goes.of st (K T' ⟨_, X', e', N, q0⟩)
theorem w_getfield (X : Hr p l e R s m args below meth c n0 h cells slots T) (C : Cx p s m meth c code ml ret own nm Z a0 tabs) {pc index : Nat} {Ls : Array Slot} {O nf d : String} {a : Addr} {v : Value} {rest : List Value} (hd : decode code pc = .ok (.getfield index, 3)) (i1 : Jvm.Cond.fieldLink own index O nf d ∈ tabs) (F : Fld Z h a O nf d v)
    (K : ∀ T', Hr p l e R s m args below meth c n0 h cells slots T' → Goes p e below s n0 P k n T' (mkF m (pc + 3) Ls (v :: rest))) : Goes p e below s n0 P k n T (mkF m pc Ls (.ref a :: rest)) := by
  obtain ⟨locs, S, eT, N, q0⟩ := X
  obtain ⟨T', X', e', st⟩ := getF S C.1 C.2.2.2.2.2.2.2.1 C.2.2.2.2.2.1 (host := "") (Or.inl (C.2.2.2.2.2.2.2.2 _ i1)) Via.refl eT F (g := mkF m pc Ls (.ref a :: rest)) rfl rfl (hb C.2.1 hd)
  exact Goes.of st (K T' ⟨_, X', e', N, q0⟩)
theorem w_putfield (X : Hr p l e R s m args below meth c n0 h cells slots T) (C : Cx p s m meth c code ml ret own nm Z a0 tabs) {pc index kk0 : Nat} {Ls : Array Slot} {O nf d Cc : String} {ty : FieldType} {a : Addr} {v old : Value} {rest : List Value} (hd : decode code pc = .ok (.putfield index, 3)) (i1 : Jvm.Cond.fieldLink own index O nf d ∈ tabs) (F : Fld Z h a O nf d old) (E : Exa Z h a Cc) (i2 : Jvm.Cond.lays Cc O nf d ∈ tabs ∨ (Jvm.Cond.laysFinal Cc O nf d ∈ tabs ∧ own = O ∧ nm = "<init>")) (i3 : Jvm.Cond.instantiable Cc kk0 ∈ tabs) (hty : parseFieldDescriptor d = some ty) (hnw : narrow ty v = v) (hft : fits ty v = true) (ha : n0 ≤ a)
    (K : ∀ T' h', Hr p l e R s m args below meth c n0 h' cells slots T' → Wr h h' a (Jvm.RoadKit.slotOf Z O nf d) v → Fld Z h' a O nf d v → Exa Z h' a Cc → Goes p e below s n0 P k n T' (mkF m (pc + 3) Ls rest)) : Goes p e below s n0 P k n T (mkF m pc Ls (v :: .ref a :: rest)) := by
  obtain ⟨locs, S, eT, N, q0⟩ := X
  have hw := C.2.2.2.2.2.2.2.2
  obtain ⟨T', h', X', e', W', st⟩ := putF S C.1 C.2.2.2.2.2.2.2.1 C.2.2.2.2.2.1 (host := "") (Or.inl (hw _ i1)) Via.refl eT F E (i2.imp (fun q => hw _ q) (fun q => ⟨hw _ q.1, q.2.1, by rw [C.2.2.2.2.2.2.1]; exact q.2.2⟩)) (hw _ i3) hty hnw hft (g := mkF m pc Ls (v :: .ref a :: rest)) rfl rfl (hb C.2.1 hd)
  exact Goes.of st (K T' h' ⟨_, X', e', Fr.snoc X' N ha, q0⟩ W' (F.same W') (E.wr W'))
theorem w_new (X : Hr p l e R s m args below meth c n0 h cells slots T) (C : Cx p s m meth c code ml ret own nm Z a0 tabs) {pc index nn : Nat} {Ls : Array Slot} {Cc : String} {rest : List Value} (hd : decode code pc = .ok (.new index, 3)) (i1 : Jvm.Cond.classLink own index Cc ∈ tabs) (i2 : Jvm.Cond.instantiable Cc nn ∈ tabs) (i3 : Jvm.Cond.initialized Cc ∈ tabs) (hc : cells + 1 ≤ R.cells) (hl : slots + nn ≤ R.slots)
    (K : ∀ T' h' a, a = h.size → n0 ≤ a → Hr p l e R s m args below meth c n0 h' (cells + 1) (slots + nn) T' → Ext h h' → Exa Z h' a Cc → (∀ {O nf d : String} {ty : FieldType}, (Jvm.Cond.lays Cc O nf d ∈ tabs ∨ Jvm.Cond.laysFinal Cc O nf d ∈ tabs) → parseFieldDescriptor d = some ty → Fld Z h' a O nf d (defaultValue ty)) → Goes p e below s n0 P k n T' (mkF m (pc + 3) Ls (.ref a :: rest))) : Goes p e below s n0 P k n T (mkF m pc Ls rest) := by
  have hsz := X.size
  obtain ⟨locs, S, eT, N, q0⟩ := X
  have hw := C.2.2.2.2.2.2.2.2
  obtain ⟨T', h', X', e', E', A', D', -, st⟩ := newO S C.1 C.2.2.2.2.2.2.2.1 C.2.2.2.2.2.1 (hw _ i1) (hw _ i2) (hw _ i3) eT (g := mkF m pc Ls rest) rfl (hb C.2.1 hd) hc hl
  exact Goes.of st (K T' h' h.size rfl hsz ⟨_, X', e', N, q0⟩ E' A' (fun q ht => D' (q.imp (fun z => hw _ z) (fun z => hw _ z)) ht))
theorem ArV.lt {a : Addr} {ty : FieldType} {N : Nat} {f : Nat → Value} (A : ArV Z h a ty N f) : a < h.size := by obtain ⟨cl, A, -⟩ := A; exact A.lt
theorem ArV.ext {a : Addr} {ty : FieldType} {N : Nat} {f : Nat → Value} (A : ArV Z h a ty N f) (E : Ext h h') : ArV Z h' a ty N f := by obtain ⟨cl, A, r⟩ := A; exact ⟨cl, A.ext E, r⟩
theorem ArV.other {a b : Addr} {ty : FieldType} {N sl : Nat} {v : Value} {f : Nat → Value} (A : ArV Z h b ty N f) (W : Wr h h' a sl v) (q : b ≠ a) : ArV Z h' b ty N f := by obtain ⟨cl, A, r⟩ := A; exact ⟨cl, A.other W q, r⟩
theorem ArV.keep {a : Addr} {ty : FieldType} {N : Nat} {f : Nat → Value} {ws : List Addr} (A : ArV Z h a ty N f) (K : Keep h h' ws) (q : a ∉ ws) : ArV Z h' a ty N f := by obtain ⟨c, A, r⟩ := A; exact ⟨c, ⟨K.2.1 a c A.1 q, A.2⟩, r⟩
theorem ArV.congr {a : Addr} {ty : FieldType} {N : Nat} {f f' : Nat → Value} (A : ArV Z h a ty N f) (q : ∀ i, i < N → f' i = f i) : ArV Z h a ty N f' := by obtain ⟨c, A, r1, r2⟩ := A; exact ⟨c, A, r1, fun i hi => by rw [q i hi]; exact r2 i hi⟩
theorem ArV.same {a : Addr} {ty : FieldType} {N j : Nat} {v : Value} {f : Nat → Value} (A : ArV Z h a ty N f) (W : Wr h h' a j v) : ArV Z h' a ty N (up f j v) := by
  obtain ⟨c, A, r1, r2⟩ := A
  refine ⟨_, A.same W, by rw [sz_set]; exact r1, fun i hi => ?_⟩
  unfold up
  by_cases q : i = j
  · subst q; simp [Cell.setSlot, r1, hi]
  · simp only [q, if_false, Cell.setSlot]
    rw [Array.getElem?_setIfInBounds_ne (fun z => q z.symm)]
    exact r2 i hi
theorem up_int (g : Nat → Int32) (j : Nat) (x : Int32) : (fun i => Value.int (up g j x i)) = up (fun i => Value.int (g i)) j (.int x) := by
  funext i; unfold up; split <;> rfl
theorem up_long (g : Nat → Int64) (j : Nat) (x : Int64) : (fun i => Value.long (up g j x i)) = up (fun i => Value.long (g i)) j (.long x) := by
  funext i; unfold up; split <;> rfl
theorem in_of {a : Addr} {ty : FieldType} {N i : Nat} {j : Int32} {cl : Cell} (hi : j.toInt = i) (hN : i < N) (r1 : cl.slots.size = N) : ¬ (j < 0 ∨ cl.slots.size ≤ j.toNatClampNeg) ∧ j.toNatClampNeg = i := by
  have e0 : (0 : Int32).toInt = 0 := rfl
  have e1 : j.toNatClampNeg = i := by simp only [Int32.toNatClampNeg, hi]; omega
  refine ⟨?_, e1⟩
  rw [e1, r1, Int32.lt_iff_toInt_lt, e0]; omega
theorem w_baload (X : Hr p l e R s m args below meth c n0 h cells slots T) (C : Cx p s m meth c code ml ret own nm Z a0 tabs) {pc N : Nat} {Ls : Array Slot} {a : Addr} {g : Nat → Int32} {j : Int32} {rest : List Value} (hd : decode code pc = .ok (.baload, 1)) (A : ArI Z h a .byte N g) (i : Nat) (hi : j.toInt = i) (hN : i < N) (K : Goes p e below s n0 P k n T (mkF m (pc + 1) Ls (.int (g i) :: rest))) : Goes p e below s n0 P k n T (mkF m pc Ls (.int j :: .ref a :: rest)) := by
  obtain ⟨locs, S, eT, N0, q0⟩ := X
  obtain ⟨cl, Ar, r1, r2⟩ := A
  obtain ⟨hin, e1⟩ := in_of (a := a) (ty := .byte) hi hN r1
  exact Goes.of (fun _ kk => S.baloadBytes C.1 (j := j) (v := .int (g i)) (by rw [eT]; exact Ar.1) (State.isArrayOf_alike C.2.2.2.2.2.2.2.1.alike Ar.2.1) Ar.2.2 hin (by rw [e1]; exact r2 i hN) (g := mkF m pc Ls (.int j :: .ref a :: rest)) rfl rfl (hb C.2.1 hd) _ kk) K
theorem w_iaload (X : Hr p l e R s m args below meth c n0 h cells slots T) (C : Cx p s m meth c code ml ret own nm Z a0 tabs) {pc N : Nat} {Ls : Array Slot} {a : Addr} {g : Nat → Int32} {j : Int32} {rest : List Value} (hd : decode code pc = .ok (.iaload, 1)) (A : ArI Z h a .int N g) (i : Nat) (hi : j.toInt = i) (hN : i < N) (K : Goes p e below s n0 P k n T (mkF m (pc + 1) Ls (.int (g i) :: rest))) : Goes p e below s n0 P k n T (mkF m pc Ls (.int j :: .ref a :: rest)) := by
  obtain ⟨locs, S, eT, N0, q0⟩ := X
  obtain ⟨cl, Ar, r1, r2⟩ := A
  obtain ⟨hin, e1⟩ := in_of (a := a) (ty := .int) hi hN r1
  exact Goes.of (fun _ kk => S.iaload C.1 (j := j) (v := .int (g i)) (by rw [eT]; exact Ar.1) (State.isArrayOf_alike C.2.2.2.2.2.2.2.1.alike Ar.2.1) Ar.2.2 hin (by rw [e1]; exact r2 i hN) (g := mkF m pc Ls (.int j :: .ref a :: rest)) rfl rfl (hb C.2.1 hd) _ kk) K
theorem w_laload (X : Hr p l e R s m args below meth c n0 h cells slots T) (C : Cx p s m meth c code ml ret own nm Z a0 tabs) {pc N : Nat} {Ls : Array Slot} {a : Addr} {g : Nat → Int64} {j : Int32} {rest : List Value} (hd : decode code pc = .ok (.laload, 1)) (A : ArJ Z h a N g) (i : Nat) (hi : j.toInt = i) (hN : i < N) (K : Goes p e below s n0 P k n T (mkF m (pc + 1) Ls (.long (g i) :: rest))) : Goes p e below s n0 P k n T (mkF m pc Ls (.int j :: .ref a :: rest)) := by
  obtain ⟨locs, S, eT, N0, q0⟩ := X
  obtain ⟨cl, Ar, r1, r2⟩ := A
  obtain ⟨hin, e1⟩ := in_of (a := a) (ty := .long) hi hN r1
  exact Goes.of (fun _ kk => S.laload C.1 (j := j) (v := .long (g i)) (by rw [eT]; exact Ar.1) (State.isArrayOf_alike C.2.2.2.2.2.2.2.1.alike Ar.2.1) Ar.2.2 hin (by rw [e1]; exact r2 i hN) (g := mkF m pc Ls (.int j :: .ref a :: rest)) rfl rfl (hb C.2.1 hd) _ kk) K
theorem w_bastore (X : Hr p l e R s m args below meth c n0 h cells slots T) (C : Cx p s m meth c code ml ret own nm Z a0 tabs) {pc N : Nat} {Ls : Array Slot} {a : Addr} {g : Nat → Int32} {j : Int32} {x : Int32} {rest : List Value} (hd : decode code pc = .ok (.bastore, 1)) (A : ArI Z h a .byte N g) (i : Nat) (hi : j.toInt = i) (hN : i < N) (ha : n0 ≤ a)
    (K : ∀ T' h', Hr p l e R s m args below meth c n0 h' cells slots T' → Wr h h' a i (.int (i8 x)) → ArI Z h' a .byte N (up g i (i8 x)) → Goes p e below s n0 P k n T' (mkF m (pc + 1) Ls rest)) : Goes p e below s n0 P k n T (mkF m pc Ls (.int x :: .int j :: .ref a :: rest)) := by
  obtain ⟨locs, S, eT, N0, q0⟩ := X
  obtain ⟨cl, Ar, r1, r2⟩ := A
  obtain ⟨hin, e1⟩ := in_of (a := a) (ty := .byte) hi hN r1
  obtain ⟨T', h', X', e', W', st⟩ := stB S C.1 C.2.2.2.2.2.2.2.1 eT Ar (j := j) hin (g := mkF m pc Ls (.int x :: .int j :: .ref a :: rest)) rfl rfl (hb C.2.1 hd)
  rw [e1] at W'
  refine Goes.of st (K T' h' ⟨_, X', e', Fr.snoc X' N0 ha, q0⟩ W' ?_)
  have q := ArV.same ⟨cl, Ar, r1, r2⟩ W'
  rw [← (show (fun i_1 => Value.int (up g i (i8 x) i_1)) = up (fun i => Value.int (g i)) i (.int (nar .byte x)) from up_int g i (i8 x))] at q
  exact q
theorem w_iastore (X : Hr p l e R s m args below meth c n0 h cells slots T) (C : Cx p s m meth c code ml ret own nm Z a0 tabs) {pc N : Nat} {Ls : Array Slot} {a : Addr} {g : Nat → Int32} {j : Int32} {x : Int32} {rest : List Value} (hd : decode code pc = .ok (.iastore, 1)) (A : ArI Z h a .int N g) (i : Nat) (hi : j.toInt = i) (hN : i < N) (ha : n0 ≤ a)
    (K : ∀ T' h', Hr p l e R s m args below meth c n0 h' cells slots T' → Wr h h' a i (.int (x)) → ArI Z h' a .int N (up g i (x)) → Goes p e below s n0 P k n T' (mkF m (pc + 1) Ls rest)) : Goes p e below s n0 P k n T (mkF m pc Ls (.int x :: .int j :: .ref a :: rest)) := by
  obtain ⟨locs, S, eT, N0, q0⟩ := X
  obtain ⟨cl, Ar, r1, r2⟩ := A
  obtain ⟨hin, e1⟩ := in_of (a := a) (ty := .int) hi hN r1
  obtain ⟨T', h', X', e', W', st⟩ := stI S C.1 C.2.2.2.2.2.2.2.1 eT Ar (j := j) hin (g := mkF m pc Ls (.int x :: .int j :: .ref a :: rest)) rfl rfl (hb C.2.1 hd)
  rw [e1] at W'
  refine Goes.of st (K T' h' ⟨_, X', e', Fr.snoc X' N0 ha, q0⟩ W' ?_)
  have q := ArV.same ⟨cl, Ar, r1, r2⟩ W'
  rw [← up_int] at q
  exact q
theorem w_lastore (X : Hr p l e R s m args below meth c n0 h cells slots T) (C : Cx p s m meth c code ml ret own nm Z a0 tabs) {pc N : Nat} {Ls : Array Slot} {a : Addr} {g : Nat → Int64} {j : Int32} {x : Int64} {rest : List Value} (hd : decode code pc = .ok (.lastore, 1)) (A : ArJ Z h a N g) (i : Nat) (hi : j.toInt = i) (hN : i < N) (ha : n0 ≤ a)
    (K : ∀ T' h', Hr p l e R s m args below meth c n0 h' cells slots T' → Wr h h' a i (.long (x)) → ArJ Z h' a N (up g i (x)) → Goes p e below s n0 P k n T' (mkF m (pc + 1) Ls rest)) : Goes p e below s n0 P k n T (mkF m pc Ls (.long x :: .int j :: .ref a :: rest)) := by
  obtain ⟨locs, S, eT, N0, q0⟩ := X
  obtain ⟨cl, Ar, r1, r2⟩ := A
  obtain ⟨hin, e1⟩ := in_of (a := a) (ty := .long) hi hN r1
  obtain ⟨T', h', X', e', W', st⟩ := stJ S C.1 C.2.2.2.2.2.2.2.1 eT Ar (j := j) hin (g := mkF m pc Ls (.long x :: .int j :: .ref a :: rest)) rfl rfl (hb C.2.1 hd)
  rw [e1] at W'
  refine Goes.of st (K T' h' ⟨_, X', e', Fr.snoc X' N0 ha, q0⟩ W' ?_)
  have q := ArV.same ⟨cl, Ar, r1, r2⟩ W'
  rw [← up_long] at q
  exact q
theorem w_arraylength (X : Hr p l e R s m args below meth c n0 h cells slots T) (C : Cx p s m meth c code ml ret own nm Z a0 tabs) {pc N : Nat} {Ls : Array Slot} {a : Addr} {ty : FieldType} {f : Nat → Value} {rest : List Value} (hd : decode code pc = .ok (.arraylength, 1)) (A : ArV Z h a ty N f) (K : Goes p e below s n0 P k n T (mkF m (pc + 1) Ls (.int N.toInt32 :: rest))) : Goes p e below s n0 P k n T (mkF m pc Ls (.ref a :: rest)) := by
  obtain ⟨locs, S, eT, N0, q0⟩ := X
  obtain ⟨cl, Ar, r1, r2⟩ := A
  subst r1
  exact Goes.of (fun _ kk => S.arraylength C.1 (by rw [eT]; exact Ar.1) (State.isArrayOf_alike C.2.2.2.2.2.2.2.1.alike Ar.2.1) (g := mkF m pc Ls (.ref a :: rest)) rfl rfl (hb C.2.1 hd) _ kk) K
theorem w_new_byte (X : Hr p l e R s m args below meth c n0 h cells slots T) (C : Cx p s m meth c code ml ret own nm Z a0 tabs) {pc : Nat} {Ls : Array Slot} {sz : Int32} {rest : List Value} (hd : decode code pc = .ok (.newarray .byte, 2)) (i1 : Jvm.Cond.arrayClass .byte ∈ tabs) (N : Nat) (hN : sz.toInt = N) (cap : Nat) (hcap : N ≤ cap) (hbig : cap * 8 ≤ 536870912) (hc : cells + 1 ≤ R.cells) (hl : slots + cap ≤ R.slots)
    (K : ∀ T' h' a, a = h.size → n0 ≤ a → Hr p l e R s m args below meth c n0 h' (cells + 1) (slots + cap) T' → Ext h h' → ArI Z h' a .byte N (fun _ => 0) → Goes p e below s n0 P k n T' (mkF m (pc + 2) Ls (.ref a :: rest))) : Goes p e below s n0 P k n T (mkF m pc Ls (.int sz :: rest)) := by
  have hsz := X.size
  obtain ⟨locs, S, eT, N0, q0⟩ := X
  have hw := C.2.2.2.2.2.2.2.2
  have e1 : sz.toNatClampNeg = N := by simp only [Int32.toNatClampNeg, hN]; omega
  have e2 : ¬ sz < 0 := by
    have e0 : (0 : Int32).toInt = 0 := rfl
    rw [Int32.lt_iff_toInt_lt, e0]; omega
  obtain ⟨T', h', kk', X', e', E', A', st⟩ := newP S C.1 C.2.2.2.2.2.2.2.1 (aty := .byte) (hw _ i1) eT (g := mkF m pc Ls (.int sz :: rest)) rfl (hb C.2.1 hd) rfl e2 (cap := cap) (by rw [e1]; exact hcap) hbig hc hl
  refine Goes.of st (K T' h' h.size rfl hsz ⟨_, X', e', N0, q0⟩ E' ⟨_, A', by rw [sz_new]; exact e1, fun i hi => ?_⟩)
  simp [newA, e1, hi, newarray.typeOf, defaultValue]
theorem w_new_int (X : Hr p l e R s m args below meth c n0 h cells slots T) (C : Cx p s m meth c code ml ret own nm Z a0 tabs) {pc : Nat} {Ls : Array Slot} {sz : Int32} {rest : List Value} (hd : decode code pc = .ok (.newarray .int, 2)) (i1 : Jvm.Cond.arrayClass .int ∈ tabs) (N : Nat) (hN : sz.toInt = N) (cap : Nat) (hcap : N ≤ cap) (hbig : cap * 8 ≤ 536870912) (hc : cells + 1 ≤ R.cells) (hl : slots + cap ≤ R.slots)
    (K : ∀ T' h' a, a = h.size → n0 ≤ a → Hr p l e R s m args below meth c n0 h' (cells + 1) (slots + cap) T' → Ext h h' → ArI Z h' a .int N (fun _ => 0) → Goes p e below s n0 P k n T' (mkF m (pc + 2) Ls (.ref a :: rest))) : Goes p e below s n0 P k n T (mkF m pc Ls (.int sz :: rest)) := by
  have hsz := X.size
  obtain ⟨locs, S, eT, N0, q0⟩ := X
  have hw := C.2.2.2.2.2.2.2.2
  have e1 : sz.toNatClampNeg = N := by simp only [Int32.toNatClampNeg, hN]; omega
  have e2 : ¬ sz < 0 := by
    have e0 : (0 : Int32).toInt = 0 := rfl
    rw [Int32.lt_iff_toInt_lt, e0]; omega
  obtain ⟨T', h', kk', X', e', E', A', st⟩ := newP S C.1 C.2.2.2.2.2.2.2.1 (aty := .int) (hw _ i1) eT (g := mkF m pc Ls (.int sz :: rest)) rfl (hb C.2.1 hd) rfl e2 (cap := cap) (by rw [e1]; exact hcap) hbig hc hl
  refine Goes.of st (K T' h' h.size rfl hsz ⟨_, X', e', N0, q0⟩ E' ⟨_, A', by rw [sz_new]; exact e1, fun i hi => ?_⟩)
  simp [newA, e1, hi, newarray.typeOf, defaultValue]
theorem w_new_long (X : Hr p l e R s m args below meth c n0 h cells slots T) (C : Cx p s m meth c code ml ret own nm Z a0 tabs) {pc : Nat} {Ls : Array Slot} {sz : Int32} {rest : List Value} (hd : decode code pc = .ok (.newarray .long, 2)) (i1 : Jvm.Cond.arrayClass .long ∈ tabs) (N : Nat) (hN : sz.toInt = N) (cap : Nat) (hcap : N ≤ cap) (hbig : cap * 8 ≤ 536870912) (hc : cells + 1 ≤ R.cells) (hl : slots + cap ≤ R.slots)
    (K : ∀ T' h' a, a = h.size → n0 ≤ a → Hr p l e R s m args below meth c n0 h' (cells + 1) (slots + cap) T' → Ext h h' → ArJ Z h' a N (fun _ => 0) → Goes p e below s n0 P k n T' (mkF m (pc + 2) Ls (.ref a :: rest))) : Goes p e below s n0 P k n T (mkF m pc Ls (.int sz :: rest)) := by
  have hsz := X.size
  obtain ⟨locs, S, eT, N0, q0⟩ := X
  have hw := C.2.2.2.2.2.2.2.2
  have e1 : sz.toNatClampNeg = N := by simp only [Int32.toNatClampNeg, hN]; omega
  have e2 : ¬ sz < 0 := by
    have e0 : (0 : Int32).toInt = 0 := rfl
    rw [Int32.lt_iff_toInt_lt, e0]; omega
  obtain ⟨T', h', kk', X', e', E', A', st⟩ := newP S C.1 C.2.2.2.2.2.2.2.1 (aty := .long) (hw _ i1) eT (g := mkF m pc Ls (.int sz :: rest)) rfl (hb C.2.1 hd) rfl e2 (cap := cap) (by rw [e1]; exact hcap) hbig hc hl
  refine Goes.of st (K T' h' h.size rfl hsz ⟨_, X', e', N0, q0⟩ E' ⟨_, A', by rw [sz_new]; exact e1, fun i hi => ?_⟩)
  simp [newA, e1, hi, newarray.typeOf, defaultValue]
end W
end Jvm.OwnW
namespace Jvm.Pilot.@@N@@
open Jvm Jvm.ClassFile Sem Op Lib Jvm.Free Jvm.Stand Jvm.LawKit Jvm.RoadKit Bundle Jvm.OwnW Jvm.Pilot.@@N@@.Jvm.D
theorem pn_0 : plainName "termwright/index/FieldReader" = true := by first | (simp [plainName, overriddenIn]; done) | decide +kernel
theorem pn_1 : plainName "termwright/index/FieldReaderSortKeyPinLaw" = true := by first | (simp [plainName, overriddenIn]; done) | decide +kernel
theorem pd_0 : parseMethodDescriptor "(I)I" = some ⟨[.int], some .int⟩ := by decide +kernel
theorem pd_1 : parseMethodDescriptor "(I)Z" = some ⟨[.int], some .boolean⟩ := by decide +kernel
theorem pd_2 : parseMethodDescriptor "([II[B)I" = some ⟨[(.array .int), .int, (.array .byte)], some .int⟩ := by decide +kernel
theorem pd_3 : parseMethodDescriptor "([BII)Z" = some ⟨[(.array .byte), .int, .int], some .boolean⟩ := by decide +kernel
def f2 (x0 : Int32) : Int32 := (if x0 < (128 : Int32) then (1 : Int32) else (if x0 < (2048 : Int32) then (2 : Int32) else (if x0 < (65536 : Int32) then (3 : Int32) else (4 : Int32))))
theorem d2_0 : decode method_3_code 0 = .ok (.iload_n 0, 1) := by decide +kernel
theorem d2_1 : decode method_3_code 1 = .ok (.sipush 128, 3) := by decide +kernel
theorem d2_4 : decode method_3_code 4 = .ok (.if_icmp .ge 5, 3) := by decide +kernel
theorem d2_7 : decode method_3_code 7 = .ok (.iconst 1, 1) := by decide +kernel
theorem d2_8 : decode method_3_code 8 = .ok (.ireturn, 1) := by decide +kernel
theorem d2_9 : decode method_3_code 9 = .ok (.iload_n 0, 1) := by decide +kernel
theorem d2_10 : decode method_3_code 10 = .ok (.sipush 2048, 3) := by decide +kernel
theorem d2_13 : decode method_3_code 13 = .ok (.if_icmp .ge 5, 3) := by decide +kernel
theorem d2_16 : decode method_3_code 16 = .ok (.iconst 2, 1) := by decide +kernel
theorem d2_17 : decode method_3_code 17 = .ok (.ireturn, 1) := by decide +kernel
theorem d2_18 : decode method_3_code 18 = .ok (.iload_n 0, 1) := by decide +kernel
theorem d2_19 : decode method_3_code 19 = .ok (.ldc 25, 2) := by decide +kernel
theorem d2_21 : decode method_3_code 21 = .ok (.if_icmp .ge 5, 3) := by decide +kernel
theorem d2_24 : decode method_3_code 24 = .ok (.iconst 3, 1) := by decide +kernel
theorem d2_25 : decode method_3_code 25 = .ok (.ireturn, 1) := by decide +kernel
theorem d2_26 : decode method_3_code 26 = .ok (.iconst 4, 1) := by decide +kernel
theorem d2_27 : decode method_3_code 27 = .ok (.ireturn, 1) := by decide +kernel
set_option maxRecDepth 65536 in
set_option maxHeartbeats 4000000 in
theorem b2_0 {p : Program} {l : Launch} {e : Env} {s : State} {m : MethodId} {args : Array Value} {below : List Frame} {meth : Method} {c : Code} {T : State} {h : Heap} {n0 : Nat} {P : Option Value → Heap → Prop} {Z : State} {a0 : Array Value} (X : Hr p l e ({ frames := 0, cells := 0, slots := 0, locals := 0 } : Room) s m args below meth c n0 h 0 0 T) (C : Cx p s m meth c method_3_code 1 (some .int) "termwright/index/FieldReaderSortKeyPinLaw" "utf8Length" Z a0 tables_1) (x0 : Int32) (hP : P (some (.int (f2 x0))) h) : Goes p e below s n0 P 0 0 T (mkF m 0 #[.val (.int x0)] []) := by
  refine w_iloadN (pc := 0) X C d2_0 rfl ?_
  refine w_sipush (pc := 1) X C d2_1 (128 : Int32) rfl ?_
  refine w_icmp_ge (pc := 4) X C d2_4 9 (by decide) (fun q1 => ?_) (fun q1 => ?_)
  · -- yes
    refine w_iloadN (pc := 9) X C d2_9 rfl ?_
    refine w_sipush (pc := 10) X C d2_10 (2048 : Int32) rfl ?_
    refine w_icmp_ge (pc := 13) X C d2_13 18 (by decide) (fun q2 => ?_) (fun q2 => ?_)
    · -- yes
      refine w_iloadN (pc := 18) X C d2_18 rfl ?_
      refine w_ldcI (pc := 19) X C d2_19 (v := (65536 : Int32)) (List.mem_of_getElem? (i := 19) rfl) ?_
      refine w_icmp_ge (pc := 21) X C d2_21 26 (by decide) (fun q3 => ?_) (fun q3 => ?_)
      · -- yes
        refine w_iconst (pc := 26) X C d2_26 (4 : Int32) rfl ?_
        exact w_retI (pc := 27) X C d2_27 (by unfold f2 at hP; rw [if_neg q1, if_neg q2, if_neg q3] at hP; exact hP)
      · -- no
        refine w_iconst (pc := 24) X C d2_24 (3 : Int32) rfl ?_
        exact w_retI (pc := 25) X C d2_25 (by unfold f2 at hP; rw [if_neg q1, if_neg q2, if_pos q3] at hP; exact hP)
    · -- no
      refine w_iconst (pc := 16) X C d2_16 (2 : Int32) rfl ?_
      exact w_retI (pc := 17) X C d2_17 (by unfold f2 at hP; rw [if_neg q1, if_pos q2] at hP; exact hP)
  · -- no
    refine w_iconst (pc := 7) X C d2_7 (1 : Int32) rfl ?_
    exact w_retI (pc := 8) X C d2_8 (by unfold f2 at hP; rw [if_pos q1] at hP; exact hP)
theorem ct2 (l : Launch) {Z : State} {a0 : Array Value} (hw : ∀ d ∈ tables_1, d.before a0 Z = true) (h : Heap) {n0 : Nat} (hn : n0 ≤ h.size) (x0 : Int32) : Ct l (⟨"termwright/index/FieldReaderSortKeyPinLaw", "utf8Length", "(I)I"⟩ : MethodName) method_3_code 1 (some .int) ({ frames := 0, cells := 0, slots := 0, locals := 0 } : Room) Z #[(.int x0)] h n0 (fun v h' => v = some (.int (f2 x0)) ∧ h' = h) :=
  Ct.of (plainFor_of_name pn_1) #[.val (.int x0)] (fun m => by first | (simp [entryFrame, mkF, argsToLocals, Value.category]; done) | rfl) hw hn (fun p e s m below meth c T C X => b2_0 X C x0 ⟨rfl, rfl⟩)
def f4 (x0 : Int32) : Int32 := (if (x0 &&& (192 : Int32)) = (128 : Int32) then (1 : Int32) else (0 : Int32))
theorem d4_0 : decode method_4_code 0 = .ok (.iload_n 0, 1) := by decide +kernel
theorem d4_1 : decode method_4_code 1 = .ok (.sipush 192, 3) := by decide +kernel
theorem d4_4 : decode method_4_code 4 = .ok (.iand, 1) := by decide +kernel
theorem d4_5 : decode method_4_code 5 = .ok (.sipush 128, 3) := by decide +kernel
theorem d4_8 : decode method_4_code 8 = .ok (.if_icmp .ne 7, 3) := by decide +kernel
theorem d4_11 : decode method_4_code 11 = .ok (.iconst 1, 1) := by decide +kernel
theorem d4_12 : decode method_4_code 12 = .ok (.goto 4, 3) := by decide +kernel
theorem d4_15 : decode method_4_code 15 = .ok (.iconst 0, 1) := by decide +kernel
theorem d4_16 : decode method_4_code 16 = .ok (.ireturn, 1) := by decide +kernel
set_option maxRecDepth 65536 in
set_option maxHeartbeats 4000000 in
theorem b4_0 {p : Program} {l : Launch} {e : Env} {s : State} {m : MethodId} {args : Array Value} {below : List Frame} {meth : Method} {c : Code} {T : State} {h : Heap} {n0 : Nat} {P : Option Value → Heap → Prop} {Z : State} {a0 : Array Value} (X : Hr p l e ({ frames := 0, cells := 0, slots := 0, locals := 0 } : Room) s m args below meth c n0 h 0 0 T) (C : Cx p s m meth c method_4_code 1 (some .boolean) "termwright/index/FieldReaderSortKeyPinLaw" "isCont" Z a0 tables_1) (x0 : Int32) (hP : P (some (.int (f4 x0))) h) : Goes p e below s n0 P 0 0 T (mkF m 0 #[.val (.int x0)] []) := by
  refine w_iloadN (pc := 0) X C d4_0 rfl ?_
  refine w_sipush (pc := 1) X C d4_1 (192 : Int32) rfl ?_
  refine w_iand (pc := 4) X C d4_4 ?_
  refine w_sipush (pc := 5) X C d4_5 (128 : Int32) rfl ?_
  refine w_icmp_ne (pc := 8) X C d4_8 15 (by decide) (fun q1 => ?_) (fun q1 => ?_)
  · -- yes
    refine w_iconst (pc := 15) X C d4_15 (0 : Int32) rfl ?_
    exact w_ret_boolean (pc := 16) X C d4_16 (by unfold f4 at hP; rw [if_neg q1] at hP; exact hP)
  · -- no
    refine w_iconst (pc := 11) X C d4_11 (1 : Int32) rfl ?_
    refine w_goto (pc := 12) X C d4_12 16 (by decide) ?_
    exact w_ret_boolean (pc := 16) X C d4_16 (by unfold f4 at hP; rw [if_pos q1] at hP; exact hP)
theorem ct4 (l : Launch) {Z : State} {a0 : Array Value} (hw : ∀ d ∈ tables_1, d.before a0 Z = true) (h : Heap) {n0 : Nat} (hn : n0 ≤ h.size) (x0 : Int32) : Ct l (⟨"termwright/index/FieldReaderSortKeyPinLaw", "isCont", "(I)Z"⟩ : MethodName) method_4_code 1 (some .boolean) ({ frames := 0, cells := 0, slots := 0, locals := 0 } : Room) Z #[(.int x0)] h n0 (fun v h' => v = some (.int (f4 x0)) ∧ h' = h) :=
  Ct.of (plainFor_of_name pn_1) #[.val (.int x0)] (fun m => by first | (simp [entryFrame, mkF, argsToLocals, Value.category]; done) | rfl) hw hn (fun p e s m below meth c T C X => b4_0 X C x0 ⟨rfl, rfl⟩)
def f3_255 (x1 : Int32) (x2 : Int32) (x3 : Int32) (x4 : Int32) (x5 : Int32) (x6 : Int32) (x7 : Int32) (g_x0 : Nat → Int32) : Int32 := (0 : Int32)
def f3_166 (x1 : Int32) (x2 : Int32) (x3 : Int32) (x4 : Int32) (x5 : Int32) (x6 : Int32) (g_x0 : Nat → Int32) : Int32 := (0 : Int32)
def f3_89 (x1 : Int32) (x2 : Int32) (x3 : Int32) (x4 : Int32) (x5 : Int32) (g_x0 : Nat → Int32) : Int32 := (0 : Int32)
def f3 (x1 : Int32) (x2 : Int32) (g_x0 : Nat → Int32) : Int32 := (if (f2 x2) = (1 : Int32) then (if ((g_x0 (nt x1)) &&& (255 : Int32)) = x2 then (1 : Int32) else (0 : Int32)) else (if (f2 x2) = (2 : Int32) then (if (((g_x0 (nt x1)) &&& (255 : Int32)) &&& (224 : Int32)) = (192 : Int32) then (if (f4 ((g_x0 (nt (x1 + (1 : Int32)))) &&& (255 : Int32))) = 0 then (f3_89 x1 x2 (f2 x2) ((g_x0 (nt x1)) &&& (255 : Int32)) ((g_x0 (nt (x1 + (1 : Int32)))) &&& (255 : Int32)) g_x0) else (if ((shlI (((g_x0 (nt x1)) &&& (255 : Int32)) &&& (31 : Int32)) (6 : Int32)) ||| (((g_x0 (nt (x1 + (1 : Int32)))) &&& (255 : Int32)) &&& (63 : Int32))) = x2 then (1 : Int32) else (f3_89 x1 x2 (f2 x2) ((g_x0 (nt x1)) &&& (255 : Int32)) ((g_x0 (nt (x1 + (1 : Int32)))) &&& (255 : Int32)) g_x0))) else (f3_89 x1 x2 (f2 x2) ((g_x0 (nt x1)) &&& (255 : Int32)) ((g_x0 (nt (x1 + (1 : Int32)))) &&& (255 : Int32)) g_x0)) else (if (f2 x2) = (3 : Int32) then (if (((g_x0 (nt x1)) &&& (255 : Int32)) &&& (240 : Int32)) = (224 : Int32) then (if (f4 ((g_x0 (nt (x1 + (1 : Int32)))) &&& (255 : Int32))) = 0 then (f3_166 x1 x2 (f2 x2) ((g_x0 (nt x1)) &&& (255 : Int32)) ((g_x0 (nt (x1 + (1 : Int32)))) &&& (255 : Int32)) ((g_x0 (nt (x1 + (2 : Int32)))) &&& (255 : Int32)) g_x0) else (if (f4 ((g_x0 (nt (x1 + (2 : Int32)))) &&& (255 : Int32))) = 0 then (f3_166 x1 x2 (f2 x2) ((g_x0 (nt x1)) &&& (255 : Int32)) ((g_x0 (nt (x1 + (1 : Int32)))) &&& (255 : Int32)) ((g_x0 (nt (x1 + (2 : Int32)))) &&& (255 : Int32)) g_x0) else (if (((shlI (((g_x0 (nt x1)) &&& (255 : Int32)) &&& (15 : Int32)) (12 : Int32)) ||| (shlI (((g_x0 (nt (x1 + (1 : Int32)))) &&& (255 : Int32)) &&& (63 : Int32)) (6 : Int32))) ||| (((g_x0 (nt (x1 + (2 : Int32)))) &&& (255 : Int32)) &&& (63 : Int32))) = x2 then (1 : Int32) else (f3_166 x1 x2 (f2 x2) ((g_x0 (nt x1)) &&& (255 : Int32)) ((g_x0 (nt (x1 + (1 : Int32)))) &&& (255 : Int32)) ((g_x0 (nt (x1 + (2 : Int32)))) &&& (255 : Int32)) g_x0)))) else (f3_166 x1 x2 (f2 x2) ((g_x0 (nt x1)) &&& (255 : Int32)) ((g_x0 (nt (x1 + (1 : Int32)))) &&& (255 : Int32)) ((g_x0 (nt (x1 + (2 : Int32)))) &&& (255 : Int32)) g_x0)) else (if (((g_x0 (nt x1)) &&& (255 : Int32)) &&& (248 : Int32)) = (240 : Int32) then (if (f4 ((g_x0 (nt (x1 + (1 : Int32)))) &&& (255 : Int32))) = 0 then (f3_255 x1 x2 (f2 x2) ((g_x0 (nt x1)) &&& (255 : Int32)) ((g_x0 (nt (x1 + (1 : Int32)))) &&& (255 : Int32)) ((g_x0 (nt (x1 + (2 : Int32)))) &&& (255 : Int32)) ((g_x0 (nt (x1 + (3 : Int32)))) &&& (255 : Int32)) g_x0) else (if (f4 ((g_x0 (nt (x1 + (2 : Int32)))) &&& (255 : Int32))) = 0 then (f3_255 x1 x2 (f2 x2) ((g_x0 (nt x1)) &&& (255 : Int32)) ((g_x0 (nt (x1 + (1 : Int32)))) &&& (255 : Int32)) ((g_x0 (nt (x1 + (2 : Int32)))) &&& (255 : Int32)) ((g_x0 (nt (x1 + (3 : Int32)))) &&& (255 : Int32)) g_x0) else (if (f4 ((g_x0 (nt (x1 + (3 : Int32)))) &&& (255 : Int32))) = 0 then (f3_255 x1 x2 (f2 x2) ((g_x0 (nt x1)) &&& (255 : Int32)) ((g_x0 (nt (x1 + (1 : Int32)))) &&& (255 : Int32)) ((g_x0 (nt (x1 + (2 : Int32)))) &&& (255 : Int32)) ((g_x0 (nt (x1 + (3 : Int32)))) &&& (255 : Int32)) g_x0) else (if ((((shlI (((g_x0 (nt x1)) &&& (255 : Int32)) &&& (7 : Int32)) (18 : Int32)) ||| (shlI (((g_x0 (nt (x1 + (1 : Int32)))) &&& (255 : Int32)) &&& (63 : Int32)) (12 : Int32))) ||| (shlI (((g_x0 (nt (x1 + (2 : Int32)))) &&& (255 : Int32)) &&& (63 : Int32)) (6 : Int32))) ||| (((g_x0 (nt (x1 + (3 : Int32)))) &&& (255 : Int32)) &&& (63 : Int32))) = x2 then (1 : Int32) else (f3_255 x1 x2 (f2 x2) ((g_x0 (nt x1)) &&& (255 : Int32)) ((g_x0 (nt (x1 + (1 : Int32)))) &&& (255 : Int32)) ((g_x0 (nt (x1 + (2 : Int32)))) &&& (255 : Int32)) ((g_x0 (nt (x1 + (3 : Int32)))) &&& (255 : Int32)) g_x0))))) else (f3_255 x1 x2 (f2 x2) ((g_x0 (nt x1)) &&& (255 : Int32)) ((g_x0 (nt (x1 + (1 : Int32)))) &&& (255 : Int32)) ((g_x0 (nt (x1 + (2 : Int32)))) &&& (255 : Int32)) ((g_x0 (nt (x1 + (3 : Int32)))) &&& (255 : Int32)) g_x0)))))
theorem d3_0 : decode method_5_code 0 = .ok (.iload_n 2, 1) := by decide +kernel
theorem d3_1 : decode method_5_code 1 = .ok (.invokestatic 15, 3) := by decide +kernel
theorem d3_4 : decode method_5_code 4 = .ok (.istore_n 3, 1) := by decide +kernel
theorem d3_5 : decode method_5_code 5 = .ok (.aload_n 0, 1) := by decide +kernel
theorem d3_6 : decode method_5_code 6 = .ok (.iload_n 1, 1) := by decide +kernel
theorem d3_7 : decode method_5_code 7 = .ok (.baload, 1) := by decide +kernel
theorem d3_8 : decode method_5_code 8 = .ok (.sipush 255, 3) := by decide +kernel
theorem d3_11 : decode method_5_code 11 = .ok (.iand, 1) := by decide +kernel
theorem d3_12 : decode method_5_code 12 = .ok (.istore 4, 2) := by decide +kernel
theorem d3_14 : decode method_5_code 14 = .ok (.iload_n 3, 1) := by decide +kernel
theorem d3_15 : decode method_5_code 15 = .ok (.iconst 1, 1) := by decide +kernel
theorem d3_16 : decode method_5_code 16 = .ok (.if_icmp .ne 15, 3) := by decide +kernel
theorem d3_19 : decode method_5_code 19 = .ok (.iload 4, 2) := by decide +kernel
theorem d3_21 : decode method_5_code 21 = .ok (.iload_n 2, 1) := by decide +kernel
theorem d3_22 : decode method_5_code 22 = .ok (.if_icmp .ne 7, 3) := by decide +kernel
theorem d3_25 : decode method_5_code 25 = .ok (.iconst 1, 1) := by decide +kernel
theorem d3_26 : decode method_5_code 26 = .ok (.goto 4, 3) := by decide +kernel
theorem d3_29 : decode method_5_code 29 = .ok (.iconst 0, 1) := by decide +kernel
theorem d3_30 : decode method_5_code 30 = .ok (.ireturn, 1) := by decide +kernel
theorem d3_31 : decode method_5_code 31 = .ok (.aload_n 0, 1) := by decide +kernel
theorem d3_32 : decode method_5_code 32 = .ok (.iload_n 1, 1) := by decide +kernel
theorem d3_33 : decode method_5_code 33 = .ok (.iconst 1, 1) := by decide +kernel
theorem d3_34 : decode method_5_code 34 = .ok (.iadd, 1) := by decide +kernel
theorem d3_35 : decode method_5_code 35 = .ok (.baload, 1) := by decide +kernel
theorem d3_36 : decode method_5_code 36 = .ok (.sipush 255, 3) := by decide +kernel
theorem d3_39 : decode method_5_code 39 = .ok (.iand, 1) := by decide +kernel
theorem d3_40 : decode method_5_code 40 = .ok (.istore 5, 2) := by decide +kernel
theorem d3_42 : decode method_5_code 42 = .ok (.iload_n 3, 1) := by decide +kernel
theorem d3_43 : decode method_5_code 43 = .ok (.iconst 2, 1) := by decide +kernel
theorem d3_44 : decode method_5_code 44 = .ok (.if_icmp .ne 47, 3) := by decide +kernel
theorem d3_47 : decode method_5_code 47 = .ok (.iload 4, 2) := by decide +kernel
theorem d3_49 : decode method_5_code 49 = .ok (.sipush 224, 3) := by decide +kernel
theorem d3_52 : decode method_5_code 52 = .ok (.iand, 1) := by decide +kernel
theorem d3_53 : decode method_5_code 53 = .ok (.sipush 192, 3) := by decide +kernel
theorem d3_56 : decode method_5_code 56 = .ok (.if_icmp .ne 33, 3) := by decide +kernel
theorem d3_59 : decode method_5_code 59 = .ok (.iload 5, 2) := by decide +kernel
theorem d3_61 : decode method_5_code 61 = .ok (.invokestatic 26, 3) := by decide +kernel
theorem d3_64 : decode method_5_code 64 = .ok (.ifCond .eq 25, 3) := by decide +kernel
theorem d3_67 : decode method_5_code 67 = .ok (.iload 4, 2) := by decide +kernel
theorem d3_69 : decode method_5_code 69 = .ok (.bipush 31, 2) := by decide +kernel
theorem d3_71 : decode method_5_code 71 = .ok (.iand, 1) := by decide +kernel
theorem d3_72 : decode method_5_code 72 = .ok (.bipush 6, 2) := by decide +kernel
theorem d3_74 : decode method_5_code 74 = .ok (.ishl, 1) := by decide +kernel
theorem d3_75 : decode method_5_code 75 = .ok (.iload 5, 2) := by decide +kernel
theorem d3_77 : decode method_5_code 77 = .ok (.bipush 63, 2) := by decide +kernel
theorem d3_79 : decode method_5_code 79 = .ok (.iand, 1) := by decide +kernel
theorem d3_80 : decode method_5_code 80 = .ok (.ior, 1) := by decide +kernel
theorem d3_81 : decode method_5_code 81 = .ok (.iload_n 2, 1) := by decide +kernel
theorem d3_82 : decode method_5_code 82 = .ok (.if_icmp .ne 7, 3) := by decide +kernel
theorem d3_85 : decode method_5_code 85 = .ok (.iconst 1, 1) := by decide +kernel
theorem d3_86 : decode method_5_code 86 = .ok (.goto 4, 3) := by decide +kernel
theorem d3_89 : decode method_5_code 89 = .ok (.iconst 0, 1) := by decide +kernel
theorem d3_90 : decode method_5_code 90 = .ok (.ireturn, 1) := by decide +kernel
theorem d3_91 : decode method_5_code 91 = .ok (.aload_n 0, 1) := by decide +kernel
theorem d3_92 : decode method_5_code 92 = .ok (.iload_n 1, 1) := by decide +kernel
theorem d3_93 : decode method_5_code 93 = .ok (.iconst 2, 1) := by decide +kernel
theorem d3_94 : decode method_5_code 94 = .ok (.iadd, 1) := by decide +kernel
theorem d3_95 : decode method_5_code 95 = .ok (.baload, 1) := by decide +kernel
theorem d3_96 : decode method_5_code 96 = .ok (.sipush 255, 3) := by decide +kernel
theorem d3_99 : decode method_5_code 99 = .ok (.iand, 1) := by decide +kernel
theorem d3_100 : decode method_5_code 100 = .ok (.istore 6, 2) := by decide +kernel
theorem d3_102 : decode method_5_code 102 = .ok (.iload_n 3, 1) := by decide +kernel
theorem d3_103 : decode method_5_code 103 = .ok (.iconst 3, 1) := by decide +kernel
theorem d3_104 : decode method_5_code 104 = .ok (.if_icmp .ne 64, 3) := by decide +kernel
theorem d3_107 : decode method_5_code 107 = .ok (.iload 4, 2) := by decide +kernel
theorem d3_109 : decode method_5_code 109 = .ok (.sipush 240, 3) := by decide +kernel
theorem d3_112 : decode method_5_code 112 = .ok (.iand, 1) := by decide +kernel
theorem d3_113 : decode method_5_code 113 = .ok (.sipush 224, 3) := by decide +kernel
theorem d3_116 : decode method_5_code 116 = .ok (.if_icmp .ne 50, 3) := by decide +kernel
theorem d3_119 : decode method_5_code 119 = .ok (.iload 5, 2) := by decide +kernel
theorem d3_121 : decode method_5_code 121 = .ok (.invokestatic 26, 3) := by decide +kernel
theorem d3_124 : decode method_5_code 124 = .ok (.ifCond .eq 42, 3) := by decide +kernel
theorem d3_127 : decode method_5_code 127 = .ok (.iload 6, 2) := by decide +kernel
theorem d3_129 : decode method_5_code 129 = .ok (.invokestatic 26, 3) := by decide +kernel
theorem d3_132 : decode method_5_code 132 = .ok (.ifCond .eq 34, 3) := by decide +kernel
theorem d3_135 : decode method_5_code 135 = .ok (.iload 4, 2) := by decide +kernel
theorem d3_137 : decode method_5_code 137 = .ok (.bipush 15, 2) := by decide +kernel
theorem d3_139 : decode method_5_code 139 = .ok (.iand, 1) := by decide +kernel
theorem d3_140 : decode method_5_code 140 = .ok (.bipush 12, 2) := by decide +kernel
theorem d3_142 : decode method_5_code 142 = .ok (.ishl, 1) := by decide +kernel
theorem d3_143 : decode method_5_code 143 = .ok (.iload 5, 2) := by decide +kernel
theorem d3_145 : decode method_5_code 145 = .ok (.bipush 63, 2) := by decide +kernel
theorem d3_147 : decode method_5_code 147 = .ok (.iand, 1) := by decide +kernel
theorem d3_148 : decode method_5_code 148 = .ok (.bipush 6, 2) := by decide +kernel
theorem d3_150 : decode method_5_code 150 = .ok (.ishl, 1) := by decide +kernel
theorem d3_151 : decode method_5_code 151 = .ok (.ior, 1) := by decide +kernel
theorem d3_152 : decode method_5_code 152 = .ok (.iload 6, 2) := by decide +kernel
theorem d3_154 : decode method_5_code 154 = .ok (.bipush 63, 2) := by decide +kernel
theorem d3_156 : decode method_5_code 156 = .ok (.iand, 1) := by decide +kernel
theorem d3_157 : decode method_5_code 157 = .ok (.ior, 1) := by decide +kernel
theorem d3_158 : decode method_5_code 158 = .ok (.iload_n 2, 1) := by decide +kernel
theorem d3_159 : decode method_5_code 159 = .ok (.if_icmp .ne 7, 3) := by decide +kernel
theorem d3_162 : decode method_5_code 162 = .ok (.iconst 1, 1) := by decide +kernel
theorem d3_163 : decode method_5_code 163 = .ok (.goto 4, 3) := by decide +kernel
theorem d3_166 : decode method_5_code 166 = .ok (.iconst 0, 1) := by decide +kernel
theorem d3_167 : decode method_5_code 167 = .ok (.ireturn, 1) := by decide +kernel
theorem d3_168 : decode method_5_code 168 = .ok (.aload_n 0, 1) := by decide +kernel
theorem d3_169 : decode method_5_code 169 = .ok (.iload_n 1, 1) := by decide +kernel
theorem d3_170 : decode method_5_code 170 = .ok (.iconst 3, 1) := by decide +kernel
theorem d3_171 : decode method_5_code 171 = .ok (.iadd, 1) := by decide +kernel
theorem d3_172 : decode method_5_code 172 = .ok (.baload, 1) := by decide +kernel
theorem d3_173 : decode method_5_code 173 = .ok (.sipush 255, 3) := by decide +kernel
theorem d3_176 : decode method_5_code 176 = .ok (.iand, 1) := by decide +kernel
theorem d3_177 : decode method_5_code 177 = .ok (.istore 7, 2) := by decide +kernel
theorem d3_179 : decode method_5_code 179 = .ok (.iload 4, 2) := by decide +kernel
theorem d3_181 : decode method_5_code 181 = .ok (.sipush 248, 3) := by decide +kernel
theorem d3_184 : decode method_5_code 184 = .ok (.iand, 1) := by decide +kernel
theorem d3_185 : decode method_5_code 185 = .ok (.sipush 240, 3) := by decide +kernel
theorem d3_188 : decode method_5_code 188 = .ok (.if_icmp .ne 67, 3) := by decide +kernel
theorem d3_191 : decode method_5_code 191 = .ok (.iload 5, 2) := by decide +kernel
theorem d3_193 : decode method_5_code 193 = .ok (.invokestatic 26, 3) := by decide +kernel
theorem d3_196 : decode method_5_code 196 = .ok (.ifCond .eq 59, 3) := by decide +kernel
theorem d3_199 : decode method_5_code 199 = .ok (.iload 6, 2) := by decide +kernel
theorem d3_201 : decode method_5_code 201 = .ok (.invokestatic 26, 3) := by decide +kernel
theorem d3_204 : decode method_5_code 204 = .ok (.ifCond .eq 51, 3) := by decide +kernel
theorem d3_207 : decode method_5_code 207 = .ok (.iload 7, 2) := by decide +kernel
theorem d3_209 : decode method_5_code 209 = .ok (.invokestatic 26, 3) := by decide +kernel
theorem d3_212 : decode method_5_code 212 = .ok (.ifCond .eq 43, 3) := by decide +kernel
theorem d3_215 : decode method_5_code 215 = .ok (.iload 4, 2) := by decide +kernel
theorem d3_217 : decode method_5_code 217 = .ok (.bipush 7, 2) := by decide +kernel
theorem d3_219 : decode method_5_code 219 = .ok (.iand, 1) := by decide +kernel
theorem d3_220 : decode method_5_code 220 = .ok (.bipush 18, 2) := by decide +kernel
theorem d3_222 : decode method_5_code 222 = .ok (.ishl, 1) := by decide +kernel
theorem d3_223 : decode method_5_code 223 = .ok (.iload 5, 2) := by decide +kernel
theorem d3_225 : decode method_5_code 225 = .ok (.bipush 63, 2) := by decide +kernel
theorem d3_227 : decode method_5_code 227 = .ok (.iand, 1) := by decide +kernel
theorem d3_228 : decode method_5_code 228 = .ok (.bipush 12, 2) := by decide +kernel
theorem d3_230 : decode method_5_code 230 = .ok (.ishl, 1) := by decide +kernel
theorem d3_231 : decode method_5_code 231 = .ok (.ior, 1) := by decide +kernel
theorem d3_232 : decode method_5_code 232 = .ok (.iload 6, 2) := by decide +kernel
theorem d3_234 : decode method_5_code 234 = .ok (.bipush 63, 2) := by decide +kernel
theorem d3_236 : decode method_5_code 236 = .ok (.iand, 1) := by decide +kernel
theorem d3_237 : decode method_5_code 237 = .ok (.bipush 6, 2) := by decide +kernel
theorem d3_239 : decode method_5_code 239 = .ok (.ishl, 1) := by decide +kernel
theorem d3_240 : decode method_5_code 240 = .ok (.ior, 1) := by decide +kernel
theorem d3_241 : decode method_5_code 241 = .ok (.iload 7, 2) := by decide +kernel
theorem d3_243 : decode method_5_code 243 = .ok (.bipush 63, 2) := by decide +kernel
theorem d3_245 : decode method_5_code 245 = .ok (.iand, 1) := by decide +kernel
theorem d3_246 : decode method_5_code 246 = .ok (.ior, 1) := by decide +kernel
theorem d3_247 : decode method_5_code 247 = .ok (.iload_n 2, 1) := by decide +kernel
theorem d3_248 : decode method_5_code 248 = .ok (.if_icmp .ne 7, 3) := by decide +kernel
theorem d3_251 : decode method_5_code 251 = .ok (.iconst 1, 1) := by decide +kernel
theorem d3_252 : decode method_5_code 252 = .ok (.goto 4, 3) := by decide +kernel
theorem d3_255 : decode method_5_code 255 = .ok (.iconst 0, 1) := by decide +kernel
theorem d3_256 : decode method_5_code 256 = .ok (.ireturn, 1) := by decide +kernel
set_option maxRecDepth 65536 in
set_option maxHeartbeats 4000000 in
theorem b3_255 {p : Program} {l : Launch} {e : Env} {s : State} {m : MethodId} {args : Array Value} {below : List Frame} {meth : Method} {c : Code} {T : State} {h : Heap} {n0 : Nat} {P : Option Value → Heap → Prop} {Z : State} {a0 : Array Value} (X : Hr p l e ({ frames := 1, cells := 0, slots := 0, locals := 12 } : Room) s m args below meth c n0 h 0 0 T) (C : Cx p s m meth c method_5_code 8 (some .boolean) "termwright/index/FieldReaderSortKeyPinLaw" "encodedAt" Z a0 tables_1) (x0 : Addr) (x1 : Int32) (x2 : Int32) (x3 : Int32) (x4 : Int32) (x5 : Int32) (x6 : Int32) (x7 : Int32) (g_x0 : Nat → Int32) (A_x0 : ArI Z h x0 .byte 12 g_x0) (hp : 0 ≤ x1.toInt ∧ x1.toInt ≤ 8) (hP : P (some (.int (f3_255 x1 x2 x3 x4 x5 x6 x7 g_x0))) h) : Goes p e below s n0 P 0 0 T (mkF m 255 #[.val (.ref x0), .val (.int x1), .val (.int x2), .val (.int x3), .val (.int x4), .val (.int x5), .val (.int x6), .val (.int x7)] []) := by
  refine w_iconst (pc := 255) X C d3_255 (0 : Int32) rfl ?_
  exact w_ret_boolean (pc := 256) X C d3_256 (by unfold f3_255 at hP; exact hP)
set_option maxRecDepth 65536 in
set_option maxHeartbeats 4000000 in
theorem b3_166 {p : Program} {l : Launch} {e : Env} {s : State} {m : MethodId} {args : Array Value} {below : List Frame} {meth : Method} {c : Code} {T : State} {h : Heap} {n0 : Nat} {P : Option Value → Heap → Prop} {Z : State} {a0 : Array Value} (X : Hr p l e ({ frames := 1, cells := 0, slots := 0, locals := 12 } : Room) s m args below meth c n0 h 0 0 T) (C : Cx p s m meth c method_5_code 8 (some .boolean) "termwright/index/FieldReaderSortKeyPinLaw" "encodedAt" Z a0 tables_1) (x0 : Addr) (x1 : Int32) (x2 : Int32) (x3 : Int32) (x4 : Int32) (x5 : Int32) (x6 : Int32) (g_x0 : Nat → Int32) (A_x0 : ArI Z h x0 .byte 12 g_x0) (hp : 0 ≤ x1.toInt ∧ x1.toInt ≤ 8) (hP : P (some (.int (f3_166 x1 x2 x3 x4 x5 x6 g_x0))) h) : Goes p e below s n0 P 0 0 T (mkF m 166 #[.val (.ref x0), .val (.int x1), .val (.int x2), .val (.int x3), .val (.int x4), .val (.int x5), .val (.int x6), .unset] []) := by
  refine w_iconst (pc := 166) X C d3_166 (0 : Int32) rfl ?_
  exact w_ret_boolean (pc := 167) X C d3_167 (by unfold f3_166 at hP; exact hP)
set_option maxRecDepth 65536 in
set_option maxHeartbeats 4000000 in
theorem b3_89 {p : Program} {l : Launch} {e : Env} {s : State} {m : MethodId} {args : Array Value} {below : List Frame} {meth : Method} {c : Code} {T : State} {h : Heap} {n0 : Nat} {P : Option Value → Heap → Prop} {Z : State} {a0 : Array Value} (X : Hr p l e ({ frames := 1, cells := 0, slots := 0, locals := 12 } : Room) s m args below meth c n0 h 0 0 T) (C : Cx p s m meth c method_5_code 8 (some .boolean) "termwright/index/FieldReaderSortKeyPinLaw" "encodedAt" Z a0 tables_1) (x0 : Addr) (x1 : Int32) (x2 : Int32) (x3 : Int32) (x4 : Int32) (x5 : Int32) (g_x0 : Nat → Int32) (A_x0 : ArI Z h x0 .byte 12 g_x0) (hp : 0 ≤ x1.toInt ∧ x1.toInt ≤ 8) (hP : P (some (.int (f3_89 x1 x2 x3 x4 x5 g_x0))) h) : Goes p e below s n0 P 0 0 T (mkF m 89 #[.val (.ref x0), .val (.int x1), .val (.int x2), .val (.int x3), .val (.int x4), .val (.int x5), .unset, .unset] []) := by
  refine w_iconst (pc := 89) X C d3_89 (0 : Int32) rfl ?_
  exact w_ret_boolean (pc := 90) X C d3_90 (by unfold f3_89 at hP; exact hP)
set_option maxRecDepth 65536 in
set_option maxHeartbeats 4000000 in
theorem b3_0 {p : Program} {l : Launch} {e : Env} {s : State} {m : MethodId} {args : Array Value} {below : List Frame} {meth : Method} {c : Code} {T : State} {h : Heap} {n0 : Nat} {P : Option Value → Heap → Prop} {Z : State} {a0 : Array Value} (X : Hr p l e ({ frames := 1, cells := 0, slots := 0, locals := 12 } : Room) s m args below meth c n0 h 0 0 T) (C : Cx p s m meth c method_5_code 8 (some .boolean) "termwright/index/FieldReaderSortKeyPinLaw" "encodedAt" Z a0 tables_1) (x0 : Addr) (x1 : Int32) (x2 : Int32) (g_x0 : Nat → Int32) (A_x0 : ArI Z h x0 .byte 12 g_x0) (hp : 0 ≤ x1.toInt ∧ x1.toInt ≤ 8) (hP : P (some (.int (f3 x1 x2 g_x0))) h) : Goes p e below s n0 P 0 0 T (mkF m 0 #[.val (.ref x0), .val (.int x1), .val (.int x2), .unset, .unset, .unset, .unset, .unset] []) := by
  refine w_iloadN (pc := 0) X C d3_0 rfl ?_
  refine w_callP (pc := 1) X C (y := (⟨"termwright/index/FieldReaderSortKeyPinLaw", "utf8Length", "(I)I"⟩ : MethodName)) (bytes := method_3_code) (maxL := 1) (rt := some .int) (argsL := [(.int x2)]) (rest := []) (w := .int (f2 x2)) (W := 0) d3_1 (List.mem_of_getElem? (i := 8) rfl) (List.mem_of_getElem? (i := 9) rfl) (List.mem_of_getElem? (i := 10) rfl) (List.mem_of_getElem? (i := 11) rfl) (by decide) (ct2 l C.2.2.2.2.2.2.2.2 _ X.size (x2)) rfl rfl rfl ⟨_, _, pd_0, rfl⟩ rfl (Nat.le_of_eq rfl) (by decide) (by decide) (by decide) (by decide) (fun T2 X1 => ?_)
  refine w_istoreN (pc := 4) X1 C d3_4 #[.val (.ref x0), .val (.int x1), .val (.int x2), .val (.int (f2 x2)), .unset, .unset, .unset, .unset] rfl ?_
  refine w_aloadN (pc := 5) X1 C d3_5 rfl rfl ?_
  refine w_iloadN (pc := 6) X1 C d3_6 rfl ?_
  have b_3 : 0 ≤ (x1).toInt ∧ (x1).toInt < 12 := by omega
  refine w_baload (pc := 7) X1 C d3_7 A_x0 (nt x1) (nt_eq b_3.1) (nt_lt b_3.2 (by omega)) ?_
  refine w_sipush (pc := 8) X1 C d3_8 (255 : Int32) rfl ?_
  refine w_iand (pc := 11) X1 C d3_11 ?_
  refine w_istore (pc := 12) X1 C d3_12 #[.val (.ref x0), .val (.int x1), .val (.int x2), .val (.int (f2 x2)), .val (.int ((g_x0 (nt x1)) &&& (255 : Int32))), .unset, .unset, .unset] rfl ?_
  refine w_iloadN (pc := 14) X1 C d3_14 rfl ?_
  refine w_iconst (pc := 15) X1 C d3_15 (1 : Int32) rfl ?_
  refine w_icmp_ne (pc := 16) X1 C d3_16 31 (by decide) (fun q4 => ?_) (fun q4 => ?_)
  · -- yes
    refine w_aloadN (pc := 31) X1 C d3_31 rfl rfl ?_
    refine w_iloadN (pc := 32) X1 C d3_32 rfl ?_
    refine w_iconst (pc := 33) X1 C d3_33 (1 : Int32) rfl ?_
    refine w_iadd (pc := 34) X1 C d3_34 ?_
    have e_5 := add1 (x := x1) (1 : Int32) 1 rfl (by omega) (by omega)
    have b_6 : 0 ≤ ((x1 + (1 : Int32))).toInt ∧ ((x1 + (1 : Int32))).toInt < 12 := by omega
    refine w_baload (pc := 35) X1 C d3_35 A_x0 (nt (x1 + (1 : Int32))) (nt_eq b_6.1) (nt_lt b_6.2 (by omega)) ?_
    refine w_sipush (pc := 36) X1 C d3_36 (255 : Int32) rfl ?_
    refine w_iand (pc := 39) X1 C d3_39 ?_
    refine w_istore (pc := 40) X1 C d3_40 #[.val (.ref x0), .val (.int x1), .val (.int x2), .val (.int (f2 x2)), .val (.int ((g_x0 (nt x1)) &&& (255 : Int32))), .val (.int ((g_x0 (nt (x1 + (1 : Int32)))) &&& (255 : Int32))), .unset, .unset] rfl ?_
    refine w_iloadN (pc := 42) X1 C d3_42 rfl ?_
    refine w_iconst (pc := 43) X1 C d3_43 (2 : Int32) rfl ?_
    refine w_icmp_ne (pc := 44) X1 C d3_44 91 (by decide) (fun q7 => ?_) (fun q7 => ?_)
    · -- yes
      refine w_aloadN (pc := 91) X1 C d3_91 rfl rfl ?_
      refine w_iloadN (pc := 92) X1 C d3_92 rfl ?_
      refine w_iconst (pc := 93) X1 C d3_93 (2 : Int32) rfl ?_
      refine w_iadd (pc := 94) X1 C d3_94 ?_
      have e_8 := add1 (x := x1) (2 : Int32) 2 rfl (by omega) (by omega)
      have b_9 : 0 ≤ ((x1 + (2 : Int32))).toInt ∧ ((x1 + (2 : Int32))).toInt < 12 := by omega
      refine w_baload (pc := 95) X1 C d3_95 A_x0 (nt (x1 + (2 : Int32))) (nt_eq b_9.1) (nt_lt b_9.2 (by omega)) ?_
      refine w_sipush (pc := 96) X1 C d3_96 (255 : Int32) rfl ?_
      refine w_iand (pc := 99) X1 C d3_99 ?_
      refine w_istore (pc := 100) X1 C d3_100 #[.val (.ref x0), .val (.int x1), .val (.int x2), .val (.int (f2 x2)), .val (.int ((g_x0 (nt x1)) &&& (255 : Int32))), .val (.int ((g_x0 (nt (x1 + (1 : Int32)))) &&& (255 : Int32))), .val (.int ((g_x0 (nt (x1 + (2 : Int32)))) &&& (255 : Int32))), .unset] rfl ?_
      refine w_iloadN (pc := 102) X1 C d3_102 rfl ?_
      refine w_iconst (pc := 103) X1 C d3_103 (3 : Int32) rfl ?_
      refine w_icmp_ne (pc := 104) X1 C d3_104 168 (by decide) (fun q10 => ?_) (fun q10 => ?_)
      · -- yes
        refine w_aloadN (pc := 168) X1 C d3_168 rfl rfl ?_
        refine w_iloadN (pc := 169) X1 C d3_169 rfl ?_
        refine w_iconst (pc := 170) X1 C d3_170 (3 : Int32) rfl ?_
        refine w_iadd (pc := 171) X1 C d3_171 ?_
        have e_11 := add1 (x := x1) (3 : Int32) 3 rfl (by omega) (by omega)
        have b_12 : 0 ≤ ((x1 + (3 : Int32))).toInt ∧ ((x1 + (3 : Int32))).toInt < 12 := by omega
        refine w_baload (pc := 172) X1 C d3_172 A_x0 (nt (x1 + (3 : Int32))) (nt_eq b_12.1) (nt_lt b_12.2 (by omega)) ?_
        refine w_sipush (pc := 173) X1 C d3_173 (255 : Int32) rfl ?_
        refine w_iand (pc := 176) X1 C d3_176 ?_
        refine w_istore (pc := 177) X1 C d3_177 #[.val (.ref x0), .val (.int x1), .val (.int x2), .val (.int (f2 x2)), .val (.int ((g_x0 (nt x1)) &&& (255 : Int32))), .val (.int ((g_x0 (nt (x1 + (1 : Int32)))) &&& (255 : Int32))), .val (.int ((g_x0 (nt (x1 + (2 : Int32)))) &&& (255 : Int32))), .val (.int ((g_x0 (nt (x1 + (3 : Int32)))) &&& (255 : Int32)))] rfl ?_
        refine w_iload (pc := 179) X1 C d3_179 rfl ?_
        refine w_sipush (pc := 181) X1 C d3_181 (248 : Int32) rfl ?_
        refine w_iand (pc := 184) X1 C d3_184 ?_
        refine w_sipush (pc := 185) X1 C d3_185 (240 : Int32) rfl ?_
        refine w_icmp_ne (pc := 188) X1 C d3_188 255 (by decide) (fun q13 => ?_) (fun q13 => ?_)
        · -- yes
          exact b3_255 X1 C (x0) (x1) (x2) ((f2 x2)) (((g_x0 (nt x1)) &&& (255 : Int32))) (((g_x0 (nt (x1 + (1 : Int32)))) &&& (255 : Int32))) (((g_x0 (nt (x1 + (2 : Int32)))) &&& (255 : Int32))) (((g_x0 (nt (x1 + (3 : Int32)))) &&& (255 : Int32))) g_x0 A_x0 hp (by unfold f3 at hP; rw [if_neg q4, if_neg q7, if_neg q10, if_neg q13] at hP; exact hP)
        · -- no
          refine w_iload (pc := 191) X1 C d3_191 rfl ?_
          refine w_callP (pc := 193) X1 C (y := (⟨"termwright/index/FieldReaderSortKeyPinLaw", "isCont", "(I)Z"⟩ : MethodName)) (bytes := method_4_code) (maxL := 1) (rt := some .boolean) (argsL := [(.int ((g_x0 (nt (x1 + (1 : Int32)))) &&& (255 : Int32)))]) (rest := []) (w := .int (f4 ((g_x0 (nt (x1 + (1 : Int32)))) &&& (255 : Int32)))) (W := 0) d3_193 (List.mem_of_getElem? (i := 15) rfl) (List.mem_of_getElem? (i := 16) rfl) (List.mem_of_getElem? (i := 10) rfl) (List.mem_of_getElem? (i := 17) rfl) (by decide) (ct4 l C.2.2.2.2.2.2.2.2 _ X1.size (((g_x0 (nt (x1 + (1 : Int32)))) &&& (255 : Int32)))) rfl rfl rfl ⟨_, _, pd_1, rfl⟩ rfl (Nat.le_of_eq rfl) (by decide) (by decide) (by decide) (by decide) (fun T15 X14 => ?_)
          refine w_if_eq (pc := 196) X14 C d3_196 255 (by decide) (fun q16 => ?_) (fun q16 => ?_)
          · -- yes
            exact b3_255 X14 C (x0) (x1) (x2) ((f2 x2)) (((g_x0 (nt x1)) &&& (255 : Int32))) (((g_x0 (nt (x1 + (1 : Int32)))) &&& (255 : Int32))) (((g_x0 (nt (x1 + (2 : Int32)))) &&& (255 : Int32))) (((g_x0 (nt (x1 + (3 : Int32)))) &&& (255 : Int32))) g_x0 A_x0 hp (by unfold f3 at hP; rw [if_neg q4, if_neg q7, if_neg q10, if_pos q13, if_pos q16] at hP; exact hP)
          · -- no
            refine w_iload (pc := 199) X14 C d3_199 rfl ?_
            refine w_callP (pc := 201) X14 C (y := (⟨"termwright/index/FieldReaderSortKeyPinLaw", "isCont", "(I)Z"⟩ : MethodName)) (bytes := method_4_code) (maxL := 1) (rt := some .boolean) (argsL := [(.int ((g_x0 (nt (x1 + (2 : Int32)))) &&& (255 : Int32)))]) (rest := []) (w := .int (f4 ((g_x0 (nt (x1 + (2 : Int32)))) &&& (255 : Int32)))) (W := 0) d3_201 (List.mem_of_getElem? (i := 15) rfl) (List.mem_of_getElem? (i := 16) rfl) (List.mem_of_getElem? (i := 10) rfl) (List.mem_of_getElem? (i := 17) rfl) (by decide) (ct4 l C.2.2.2.2.2.2.2.2 _ X14.size (((g_x0 (nt (x1 + (2 : Int32)))) &&& (255 : Int32)))) rfl rfl rfl ⟨_, _, pd_1, rfl⟩ rfl (Nat.le_of_eq rfl) (by decide) (by decide) (by decide) (by decide) (fun T18 X17 => ?_)
            refine w_if_eq (pc := 204) X17 C d3_204 255 (by decide) (fun q19 => ?_) (fun q19 => ?_)
            · -- yes
              exact b3_255 X17 C (x0) (x1) (x2) ((f2 x2)) (((g_x0 (nt x1)) &&& (255 : Int32))) (((g_x0 (nt (x1 + (1 : Int32)))) &&& (255 : Int32))) (((g_x0 (nt (x1 + (2 : Int32)))) &&& (255 : Int32))) (((g_x0 (nt (x1 + (3 : Int32)))) &&& (255 : Int32))) g_x0 A_x0 hp (by unfold f3 at hP; rw [if_neg q4, if_neg q7, if_neg q10, if_pos q13, if_neg q16, if_pos q19] at hP; exact hP)
            · -- no
              refine w_iload (pc := 207) X17 C d3_207 rfl ?_
              refine w_callP (pc := 209) X17 C (y := (⟨"termwright/index/FieldReaderSortKeyPinLaw", "isCont", "(I)Z"⟩ : MethodName)) (bytes := method_4_code) (maxL := 1) (rt := some .boolean) (argsL := [(.int ((g_x0 (nt (x1 + (3 : Int32)))) &&& (255 : Int32)))]) (rest := []) (w := .int (f4 ((g_x0 (nt (x1 + (3 : Int32)))) &&& (255 : Int32)))) (W := 0) d3_209 (List.mem_of_getElem? (i := 15) rfl) (List.mem_of_getElem? (i := 16) rfl) (List.mem_of_getElem? (i := 10) rfl) (List.mem_of_getElem? (i := 17) rfl) (by decide) (ct4 l C.2.2.2.2.2.2.2.2 _ X17.size (((g_x0 (nt (x1 + (3 : Int32)))) &&& (255 : Int32)))) rfl rfl rfl ⟨_, _, pd_1, rfl⟩ rfl (Nat.le_of_eq rfl) (by decide) (by decide) (by decide) (by decide) (fun T21 X20 => ?_)
              refine w_if_eq (pc := 212) X20 C d3_212 255 (by decide) (fun q22 => ?_) (fun q22 => ?_)
              · -- yes
                exact b3_255 X20 C (x0) (x1) (x2) ((f2 x2)) (((g_x0 (nt x1)) &&& (255 : Int32))) (((g_x0 (nt (x1 + (1 : Int32)))) &&& (255 : Int32))) (((g_x0 (nt (x1 + (2 : Int32)))) &&& (255 : Int32))) (((g_x0 (nt (x1 + (3 : Int32)))) &&& (255 : Int32))) g_x0 A_x0 hp (by unfold f3 at hP; rw [if_neg q4, if_neg q7, if_neg q10, if_pos q13, if_neg q16, if_neg q19, if_pos q22] at hP; exact hP)
              · -- no
                refine w_iload (pc := 215) X20 C d3_215 rfl ?_
                refine w_bipush (pc := 217) X20 C d3_217 (7 : Int32) rfl ?_
                refine w_iand (pc := 219) X20 C d3_219 ?_
                refine w_bipush (pc := 220) X20 C d3_220 (18 : Int32) rfl ?_
                refine w_ishl (pc := 222) X20 C d3_222 ?_
                refine w_iload (pc := 223) X20 C d3_223 rfl ?_
                refine w_bipush (pc := 225) X20 C d3_225 (63 : Int32) rfl ?_
                refine w_iand (pc := 227) X20 C d3_227 ?_
                refine w_bipush (pc := 228) X20 C d3_228 (12 : Int32) rfl ?_
                refine w_ishl (pc := 230) X20 C d3_230 ?_
                refine w_ior (pc := 231) X20 C d3_231 ?_
                refine w_iload (pc := 232) X20 C d3_232 rfl ?_
                refine w_bipush (pc := 234) X20 C d3_234 (63 : Int32) rfl ?_
                refine w_iand (pc := 236) X20 C d3_236 ?_
                refine w_bipush (pc := 237) X20 C d3_237 (6 : Int32) rfl ?_
                refine w_ishl (pc := 239) X20 C d3_239 ?_
                refine w_ior (pc := 240) X20 C d3_240 ?_
                refine w_iload (pc := 241) X20 C d3_241 rfl ?_
                refine w_bipush (pc := 243) X20 C d3_243 (63 : Int32) rfl ?_
                refine w_iand (pc := 245) X20 C d3_245 ?_
                refine w_ior (pc := 246) X20 C d3_246 ?_
                refine w_iloadN (pc := 247) X20 C d3_247 rfl ?_
                refine w_icmp_ne (pc := 248) X20 C d3_248 255 (by decide) (fun q23 => ?_) (fun q23 => ?_)
                · -- yes
                  exact b3_255 X20 C (x0) (x1) (x2) ((f2 x2)) (((g_x0 (nt x1)) &&& (255 : Int32))) (((g_x0 (nt (x1 + (1 : Int32)))) &&& (255 : Int32))) (((g_x0 (nt (x1 + (2 : Int32)))) &&& (255 : Int32))) (((g_x0 (nt (x1 + (3 : Int32)))) &&& (255 : Int32))) g_x0 A_x0 hp (by unfold f3 at hP; rw [if_neg q4, if_neg q7, if_neg q10, if_pos q13, if_neg q16, if_neg q19, if_neg q22, if_neg q23] at hP; exact hP)
                · -- no
                  refine w_iconst (pc := 251) X20 C d3_251 (1 : Int32) rfl ?_
                  refine w_goto (pc := 252) X20 C d3_252 256 (by decide) ?_
                  exact w_ret_boolean (pc := 256) X20 C d3_256 (by unfold f3 at hP; rw [if_neg q4, if_neg q7, if_neg q10, if_pos q13, if_neg q16, if_neg q19, if_neg q22, if_pos q23] at hP; exact hP)
      · -- no
        refine w_iload (pc := 107) X1 C d3_107 rfl ?_
        refine w_sipush (pc := 109) X1 C d3_109 (240 : Int32) rfl ?_
        refine w_iand (pc := 112) X1 C d3_112 ?_
        refine w_sipush (pc := 113) X1 C d3_113 (224 : Int32) rfl ?_
        refine w_icmp_ne (pc := 116) X1 C d3_116 166 (by decide) (fun q24 => ?_) (fun q24 => ?_)
        · -- yes
          exact b3_166 X1 C (x0) (x1) (x2) ((f2 x2)) (((g_x0 (nt x1)) &&& (255 : Int32))) (((g_x0 (nt (x1 + (1 : Int32)))) &&& (255 : Int32))) (((g_x0 (nt (x1 + (2 : Int32)))) &&& (255 : Int32))) g_x0 A_x0 hp (by unfold f3 at hP; rw [if_neg q4, if_neg q7, if_pos q10, if_neg q24] at hP; exact hP)
        · -- no
          refine w_iload (pc := 119) X1 C d3_119 rfl ?_
          refine w_callP (pc := 121) X1 C (y := (⟨"termwright/index/FieldReaderSortKeyPinLaw", "isCont", "(I)Z"⟩ : MethodName)) (bytes := method_4_code) (maxL := 1) (rt := some .boolean) (argsL := [(.int ((g_x0 (nt (x1 + (1 : Int32)))) &&& (255 : Int32)))]) (rest := []) (w := .int (f4 ((g_x0 (nt (x1 + (1 : Int32)))) &&& (255 : Int32)))) (W := 0) d3_121 (List.mem_of_getElem? (i := 15) rfl) (List.mem_of_getElem? (i := 16) rfl) (List.mem_of_getElem? (i := 10) rfl) (List.mem_of_getElem? (i := 17) rfl) (by decide) (ct4 l C.2.2.2.2.2.2.2.2 _ X1.size (((g_x0 (nt (x1 + (1 : Int32)))) &&& (255 : Int32)))) rfl rfl rfl ⟨_, _, pd_1, rfl⟩ rfl (Nat.le_of_eq rfl) (by decide) (by decide) (by decide) (by decide) (fun T26 X25 => ?_)
          refine w_if_eq (pc := 124) X25 C d3_124 166 (by decide) (fun q27 => ?_) (fun q27 => ?_)
          · -- yes
            exact b3_166 X25 C (x0) (x1) (x2) ((f2 x2)) (((g_x0 (nt x1)) &&& (255 : Int32))) (((g_x0 (nt (x1 + (1 : Int32)))) &&& (255 : Int32))) (((g_x0 (nt (x1 + (2 : Int32)))) &&& (255 : Int32))) g_x0 A_x0 hp (by unfold f3 at hP; rw [if_neg q4, if_neg q7, if_pos q10, if_pos q24, if_pos q27] at hP; exact hP)
          · -- no
            refine w_iload (pc := 127) X25 C d3_127 rfl ?_
            refine w_callP (pc := 129) X25 C (y := (⟨"termwright/index/FieldReaderSortKeyPinLaw", "isCont", "(I)Z"⟩ : MethodName)) (bytes := method_4_code) (maxL := 1) (rt := some .boolean) (argsL := [(.int ((g_x0 (nt (x1 + (2 : Int32)))) &&& (255 : Int32)))]) (rest := []) (w := .int (f4 ((g_x0 (nt (x1 + (2 : Int32)))) &&& (255 : Int32)))) (W := 0) d3_129 (List.mem_of_getElem? (i := 15) rfl) (List.mem_of_getElem? (i := 16) rfl) (List.mem_of_getElem? (i := 10) rfl) (List.mem_of_getElem? (i := 17) rfl) (by decide) (ct4 l C.2.2.2.2.2.2.2.2 _ X25.size (((g_x0 (nt (x1 + (2 : Int32)))) &&& (255 : Int32)))) rfl rfl rfl ⟨_, _, pd_1, rfl⟩ rfl (Nat.le_of_eq rfl) (by decide) (by decide) (by decide) (by decide) (fun T29 X28 => ?_)
            refine w_if_eq (pc := 132) X28 C d3_132 166 (by decide) (fun q30 => ?_) (fun q30 => ?_)
            · -- yes
              exact b3_166 X28 C (x0) (x1) (x2) ((f2 x2)) (((g_x0 (nt x1)) &&& (255 : Int32))) (((g_x0 (nt (x1 + (1 : Int32)))) &&& (255 : Int32))) (((g_x0 (nt (x1 + (2 : Int32)))) &&& (255 : Int32))) g_x0 A_x0 hp (by unfold f3 at hP; rw [if_neg q4, if_neg q7, if_pos q10, if_pos q24, if_neg q27, if_pos q30] at hP; exact hP)
            · -- no
              refine w_iload (pc := 135) X28 C d3_135 rfl ?_
              refine w_bipush (pc := 137) X28 C d3_137 (15 : Int32) rfl ?_
              refine w_iand (pc := 139) X28 C d3_139 ?_
              refine w_bipush (pc := 140) X28 C d3_140 (12 : Int32) rfl ?_
              refine w_ishl (pc := 142) X28 C d3_142 ?_
              refine w_iload (pc := 143) X28 C d3_143 rfl ?_
              refine w_bipush (pc := 145) X28 C d3_145 (63 : Int32) rfl ?_
              refine w_iand (pc := 147) X28 C d3_147 ?_
              refine w_bipush (pc := 148) X28 C d3_148 (6 : Int32) rfl ?_
              refine w_ishl (pc := 150) X28 C d3_150 ?_
              refine w_ior (pc := 151) X28 C d3_151 ?_
              refine w_iload (pc := 152) X28 C d3_152 rfl ?_
              refine w_bipush (pc := 154) X28 C d3_154 (63 : Int32) rfl ?_
              refine w_iand (pc := 156) X28 C d3_156 ?_
              refine w_ior (pc := 157) X28 C d3_157 ?_
              refine w_iloadN (pc := 158) X28 C d3_158 rfl ?_
              refine w_icmp_ne (pc := 159) X28 C d3_159 166 (by decide) (fun q31 => ?_) (fun q31 => ?_)
              · -- yes
                exact b3_166 X28 C (x0) (x1) (x2) ((f2 x2)) (((g_x0 (nt x1)) &&& (255 : Int32))) (((g_x0 (nt (x1 + (1 : Int32)))) &&& (255 : Int32))) (((g_x0 (nt (x1 + (2 : Int32)))) &&& (255 : Int32))) g_x0 A_x0 hp (by unfold f3 at hP; rw [if_neg q4, if_neg q7, if_pos q10, if_pos q24, if_neg q27, if_neg q30, if_neg q31] at hP; exact hP)
              · -- no
                refine w_iconst (pc := 162) X28 C d3_162 (1 : Int32) rfl ?_
                refine w_goto (pc := 163) X28 C d3_163 167 (by decide) ?_
                exact w_ret_boolean (pc := 167) X28 C d3_167 (by unfold f3 at hP; rw [if_neg q4, if_neg q7, if_pos q10, if_pos q24, if_neg q27, if_neg q30, if_pos q31] at hP; exact hP)
    · -- no
      refine w_iload (pc := 47) X1 C d3_47 rfl ?_
      refine w_sipush (pc := 49) X1 C d3_49 (224 : Int32) rfl ?_
      refine w_iand (pc := 52) X1 C d3_52 ?_
      refine w_sipush (pc := 53) X1 C d3_53 (192 : Int32) rfl ?_
      refine w_icmp_ne (pc := 56) X1 C d3_56 89 (by decide) (fun q32 => ?_) (fun q32 => ?_)
      · -- yes
        exact b3_89 X1 C (x0) (x1) (x2) ((f2 x2)) (((g_x0 (nt x1)) &&& (255 : Int32))) (((g_x0 (nt (x1 + (1 : Int32)))) &&& (255 : Int32))) g_x0 A_x0 hp (by unfold f3 at hP; rw [if_neg q4, if_pos q7, if_neg q32] at hP; exact hP)
      · -- no
        refine w_iload (pc := 59) X1 C d3_59 rfl ?_
        refine w_callP (pc := 61) X1 C (y := (⟨"termwright/index/FieldReaderSortKeyPinLaw", "isCont", "(I)Z"⟩ : MethodName)) (bytes := method_4_code) (maxL := 1) (rt := some .boolean) (argsL := [(.int ((g_x0 (nt (x1 + (1 : Int32)))) &&& (255 : Int32)))]) (rest := []) (w := .int (f4 ((g_x0 (nt (x1 + (1 : Int32)))) &&& (255 : Int32)))) (W := 0) d3_61 (List.mem_of_getElem? (i := 15) rfl) (List.mem_of_getElem? (i := 16) rfl) (List.mem_of_getElem? (i := 10) rfl) (List.mem_of_getElem? (i := 17) rfl) (by decide) (ct4 l C.2.2.2.2.2.2.2.2 _ X1.size (((g_x0 (nt (x1 + (1 : Int32)))) &&& (255 : Int32)))) rfl rfl rfl ⟨_, _, pd_1, rfl⟩ rfl (Nat.le_of_eq rfl) (by decide) (by decide) (by decide) (by decide) (fun T34 X33 => ?_)
        refine w_if_eq (pc := 64) X33 C d3_64 89 (by decide) (fun q35 => ?_) (fun q35 => ?_)
        · -- yes
          exact b3_89 X33 C (x0) (x1) (x2) ((f2 x2)) (((g_x0 (nt x1)) &&& (255 : Int32))) (((g_x0 (nt (x1 + (1 : Int32)))) &&& (255 : Int32))) g_x0 A_x0 hp (by unfold f3 at hP; rw [if_neg q4, if_pos q7, if_pos q32, if_pos q35] at hP; exact hP)
        · -- no
          refine w_iload (pc := 67) X33 C d3_67 rfl ?_
          refine w_bipush (pc := 69) X33 C d3_69 (31 : Int32) rfl ?_
          refine w_iand (pc := 71) X33 C d3_71 ?_
          refine w_bipush (pc := 72) X33 C d3_72 (6 : Int32) rfl ?_
          refine w_ishl (pc := 74) X33 C d3_74 ?_
          refine w_iload (pc := 75) X33 C d3_75 rfl ?_
          refine w_bipush (pc := 77) X33 C d3_77 (63 : Int32) rfl ?_
          refine w_iand (pc := 79) X33 C d3_79 ?_
          refine w_ior (pc := 80) X33 C d3_80 ?_
          refine w_iloadN (pc := 81) X33 C d3_81 rfl ?_
          refine w_icmp_ne (pc := 82) X33 C d3_82 89 (by decide) (fun q36 => ?_) (fun q36 => ?_)
          · -- yes
            exact b3_89 X33 C (x0) (x1) (x2) ((f2 x2)) (((g_x0 (nt x1)) &&& (255 : Int32))) (((g_x0 (nt (x1 + (1 : Int32)))) &&& (255 : Int32))) g_x0 A_x0 hp (by unfold f3 at hP; rw [if_neg q4, if_pos q7, if_pos q32, if_neg q35, if_neg q36] at hP; exact hP)
          · -- no
            refine w_iconst (pc := 85) X33 C d3_85 (1 : Int32) rfl ?_
            refine w_goto (pc := 86) X33 C d3_86 90 (by decide) ?_
            exact w_ret_boolean (pc := 90) X33 C d3_90 (by unfold f3 at hP; rw [if_neg q4, if_pos q7, if_pos q32, if_neg q35, if_pos q36] at hP; exact hP)
  · -- no
    refine w_iload (pc := 19) X1 C d3_19 rfl ?_
    refine w_iloadN (pc := 21) X1 C d3_21 rfl ?_
    refine w_icmp_ne (pc := 22) X1 C d3_22 29 (by decide) (fun q37 => ?_) (fun q37 => ?_)
    · -- yes
      refine w_iconst (pc := 29) X1 C d3_29 (0 : Int32) rfl ?_
      exact w_ret_boolean (pc := 30) X1 C d3_30 (by unfold f3 at hP; rw [if_pos q4, if_neg q37] at hP; exact hP)
    · -- no
      refine w_iconst (pc := 25) X1 C d3_25 (1 : Int32) rfl ?_
      refine w_goto (pc := 26) X1 C d3_26 30 (by decide) ?_
      exact w_ret_boolean (pc := 30) X1 C d3_30 (by unfold f3 at hP; rw [if_pos q4, if_pos q37] at hP; exact hP)
theorem ct3 (l : Launch) {Z : State} {a0 : Array Value} (hw : ∀ d ∈ tables_1, d.before a0 Z = true) (h : Heap) {n0 : Nat} (hn : n0 ≤ h.size) (x0 : Addr) (x1 : Int32) (x2 : Int32) (g_x0 : Nat → Int32) (A_x0 : ArI Z h x0 .byte 12 g_x0) (hp : 0 ≤ x1.toInt ∧ x1.toInt ≤ 8) : Ct l (⟨"termwright/index/FieldReaderSortKeyPinLaw", "encodedAt", "([BII)Z"⟩ : MethodName) method_5_code 8 (some .boolean) ({ frames := 1, cells := 0, slots := 0, locals := 12 } : Room) Z #[(.ref x0), (.int x1), (.int x2)] h n0 (fun v h' => v = some (.int (f3 x1 x2 g_x0)) ∧ h' = h) :=
  Ct.of (plainFor_of_name pn_1) #[.val (.ref x0), .val (.int x1), .val (.int x2), .unset, .unset, .unset, .unset, .unset] (fun m => by first | (simp [entryFrame, mkF, argsToLocals, Value.category]; done) | rfl) hw hn (fun p e s m below meth c T C X => b3_0 X C x0 x1 x2 g_x0 A_x0 hp ⟨rfl, rfl⟩)
def own_enc (g : Nat → Int32) (p c : Int32) : Nat → Int32 := (if c < (128 : Int32) then (up g (nt p) (i8 (i8 c))) else (if c < (2048 : Int32) then (up (up g (nt p) (i8 (i8 ((192 : Int32) ||| (shrI c (6 : Int32)))))) (nt (p + (1 : Int32))) (i8 (i8 ((128 : Int32) ||| (c &&& (63 : Int32)))))) else (if c < (65536 : Int32) then (up (up (up g (nt p) (i8 (i8 ((224 : Int32) ||| (shrI c (12 : Int32)))))) (nt (p + (1 : Int32))) (i8 (i8 ((128 : Int32) ||| ((shrI c (6 : Int32)) &&& (63 : Int32)))))) (nt ((p + (1 : Int32)) + (1 : Int32))) (i8 (i8 ((128 : Int32) ||| (c &&& (63 : Int32)))))) else (up (up (up (up g (nt p) (i8 (i8 ((240 : Int32) ||| (shrI c (18 : Int32)))))) (nt (p + (1 : Int32))) (i8 (i8 ((128 : Int32) ||| ((shrI c (12 : Int32)) &&& (63 : Int32)))))) (nt ((p + (1 : Int32)) + (1 : Int32))) (i8 (i8 ((128 : Int32) ||| ((shrI c (6 : Int32)) &&& (63 : Int32)))))) (nt (((p + (1 : Int32)) + (1 : Int32)) + (1 : Int32))) (i8 (i8 ((128 : Int32) ||| (c &&& (63 : Int32)))))))))
theorem own_ul (c : Int32) : 1 ≤ (f2 c).toInt ∧ (f2 c).toInt ≤ 4 := by
  unfold f2; repeat' split
  all_goals decide
theorem own_len1 (p c : Int32) (h : c < (128 : Int32)) : p + (1 : Int32) = p + f2 c := by unfold f2; rw [if_pos h]
theorem own_len2 (p c : Int32) (h : ¬ (c < (128 : Int32))) (h2 : c < (2048 : Int32)) : (p + (1 : Int32)) + (1 : Int32) = p + f2 c := by unfold f2; rw [if_neg h, if_pos h2, Int32.add_assoc]; rfl
theorem own_len3 (p c : Int32) (h : ¬ (c < (128 : Int32))) (h2 : ¬ (c < (2048 : Int32))) (h3 : c < (65536 : Int32)) : ((p + (1 : Int32)) + (1 : Int32)) + (1 : Int32) = p + f2 c := by unfold f2; rw [if_neg h, if_neg h2, if_pos h3, Int32.add_assoc, Int32.add_assoc]; rfl
theorem own_len4 (p c : Int32) (h : ¬ (c < (128 : Int32))) (h2 : ¬ (c < (2048 : Int32))) (h3 : ¬ (c < (65536 : Int32))) : (((p + (1 : Int32)) + (1 : Int32)) + (1 : Int32)) + (1 : Int32) = p + f2 c := by unfold f2; rw [if_neg h, if_neg h2, if_neg h3, Int32.add_assoc, Int32.add_assoc, Int32.add_assoc]; rfl
theorem d1_0 : decode prog_46_method_41_code 0 = .ok (.iconst 0, 1) := by decide +kernel
theorem d1_1 : decode prog_46_method_41_code 1 = .ok (.istore_n 3, 1) := by decide +kernel
theorem d1_2 : decode prog_46_method_41_code 2 = .ok (.iconst 0, 1) := by decide +kernel
theorem d1_3 : decode prog_46_method_41_code 3 = .ok (.istore 4, 2) := by decide +kernel
theorem d1_5 : decode prog_46_method_41_code 5 = .ok (.iload 4, 2) := by decide +kernel
theorem d1_7 : decode prog_46_method_41_code 7 = .ok (.iload_n 1, 1) := by decide +kernel
theorem d1_8 : decode prog_46_method_41_code 8 = .ok (.if_icmp .ge 210, 3) := by decide +kernel
theorem d1_11 : decode prog_46_method_41_code 11 = .ok (.aload_n 0, 1) := by decide +kernel
theorem d1_12 : decode prog_46_method_41_code 12 = .ok (.iload 4, 2) := by decide +kernel
theorem d1_14 : decode prog_46_method_41_code 14 = .ok (.iaload, 1) := by decide +kernel
theorem d1_15 : decode prog_46_method_41_code 15 = .ok (.istore 5, 2) := by decide +kernel
theorem d1_17 : decode prog_46_method_41_code 17 = .ok (.iload 5, 2) := by decide +kernel
theorem d1_19 : decode prog_46_method_41_code 19 = .ok (.sipush 128, 3) := by decide +kernel
theorem d1_22 : decode prog_46_method_41_code 22 = .ok (.if_icmp .ge 15, 3) := by decide +kernel
theorem d1_25 : decode prog_46_method_41_code 25 = .ok (.aload_n 2, 1) := by decide +kernel
theorem d1_26 : decode prog_46_method_41_code 26 = .ok (.iload_n 3, 1) := by decide +kernel
theorem d1_27 : decode prog_46_method_41_code 27 = .ok (.iinc 3 1, 3) := by decide +kernel
theorem d1_30 : decode prog_46_method_41_code 30 = .ok (.iload 5, 2) := by decide +kernel
theorem d1_32 : decode prog_46_method_41_code 32 = .ok (.i2b, 1) := by decide +kernel
theorem d1_33 : decode prog_46_method_41_code 33 = .ok (.bastore, 1) := by decide +kernel
theorem d1_34 : decode prog_46_method_41_code 34 = .ok (.goto 178, 3) := by decide +kernel
theorem d1_37 : decode prog_46_method_41_code 37 = .ok (.iload 5, 2) := by decide +kernel
theorem d1_39 : decode prog_46_method_41_code 39 = .ok (.sipush 2048, 3) := by decide +kernel
theorem d1_42 : decode prog_46_method_41_code 42 = .ok (.if_icmp .ge 38, 3) := by decide +kernel
theorem d1_45 : decode prog_46_method_41_code 45 = .ok (.aload_n 2, 1) := by decide +kernel
theorem d1_46 : decode prog_46_method_41_code 46 = .ok (.iload_n 3, 1) := by decide +kernel
theorem d1_47 : decode prog_46_method_41_code 47 = .ok (.iinc 3 1, 3) := by decide +kernel
theorem d1_50 : decode prog_46_method_41_code 50 = .ok (.sipush 192, 3) := by decide +kernel
theorem d1_53 : decode prog_46_method_41_code 53 = .ok (.iload 5, 2) := by decide +kernel
theorem d1_55 : decode prog_46_method_41_code 55 = .ok (.bipush 6, 2) := by decide +kernel
theorem d1_57 : decode prog_46_method_41_code 57 = .ok (.ishr, 1) := by decide +kernel
theorem d1_58 : decode prog_46_method_41_code 58 = .ok (.ior, 1) := by decide +kernel
theorem d1_59 : decode prog_46_method_41_code 59 = .ok (.i2b, 1) := by decide +kernel
theorem d1_60 : decode prog_46_method_41_code 60 = .ok (.bastore, 1) := by decide +kernel
theorem d1_61 : decode prog_46_method_41_code 61 = .ok (.aload_n 2, 1) := by decide +kernel
theorem d1_62 : decode prog_46_method_41_code 62 = .ok (.iload_n 3, 1) := by decide +kernel
theorem d1_63 : decode prog_46_method_41_code 63 = .ok (.iinc 3 1, 3) := by decide +kernel
theorem d1_66 : decode prog_46_method_41_code 66 = .ok (.sipush 128, 3) := by decide +kernel
theorem d1_69 : decode prog_46_method_41_code 69 = .ok (.iload 5, 2) := by decide +kernel
theorem d1_71 : decode prog_46_method_41_code 71 = .ok (.bipush 63, 2) := by decide +kernel
theorem d1_73 : decode prog_46_method_41_code 73 = .ok (.iand, 1) := by decide +kernel
theorem d1_74 : decode prog_46_method_41_code 74 = .ok (.ior, 1) := by decide +kernel
theorem d1_75 : decode prog_46_method_41_code 75 = .ok (.i2b, 1) := by decide +kernel
theorem d1_76 : decode prog_46_method_41_code 76 = .ok (.bastore, 1) := by decide +kernel
theorem d1_77 : decode prog_46_method_41_code 77 = .ok (.goto 135, 3) := by decide +kernel
theorem d1_80 : decode prog_46_method_41_code 80 = .ok (.iload 5, 2) := by decide +kernel
theorem d1_82 : decode prog_46_method_41_code 82 = .ok (.ldc_w 462, 3) := by decide +kernel
theorem d1_85 : decode prog_46_method_41_code 85 = .ok (.if_icmp .ge 57, 3) := by decide +kernel
theorem d1_88 : decode prog_46_method_41_code 88 = .ok (.aload_n 2, 1) := by decide +kernel
theorem d1_89 : decode prog_46_method_41_code 89 = .ok (.iload_n 3, 1) := by decide +kernel
theorem d1_90 : decode prog_46_method_41_code 90 = .ok (.iinc 3 1, 3) := by decide +kernel
theorem d1_93 : decode prog_46_method_41_code 93 = .ok (.sipush 224, 3) := by decide +kernel
theorem d1_96 : decode prog_46_method_41_code 96 = .ok (.iload 5, 2) := by decide +kernel
theorem d1_98 : decode prog_46_method_41_code 98 = .ok (.bipush 12, 2) := by decide +kernel
theorem d1_100 : decode prog_46_method_41_code 100 = .ok (.ishr, 1) := by decide +kernel
theorem d1_101 : decode prog_46_method_41_code 101 = .ok (.ior, 1) := by decide +kernel
theorem d1_102 : decode prog_46_method_41_code 102 = .ok (.i2b, 1) := by decide +kernel
theorem d1_103 : decode prog_46_method_41_code 103 = .ok (.bastore, 1) := by decide +kernel
theorem d1_104 : decode prog_46_method_41_code 104 = .ok (.aload_n 2, 1) := by decide +kernel
theorem d1_105 : decode prog_46_method_41_code 105 = .ok (.iload_n 3, 1) := by decide +kernel
theorem d1_106 : decode prog_46_method_41_code 106 = .ok (.iinc 3 1, 3) := by decide +kernel
theorem d1_109 : decode prog_46_method_41_code 109 = .ok (.sipush 128, 3) := by decide +kernel
theorem d1_112 : decode prog_46_method_41_code 112 = .ok (.iload 5, 2) := by decide +kernel
theorem d1_114 : decode prog_46_method_41_code 114 = .ok (.bipush 6, 2) := by decide +kernel
theorem d1_116 : decode prog_46_method_41_code 116 = .ok (.ishr, 1) := by decide +kernel
theorem d1_117 : decode prog_46_method_41_code 117 = .ok (.bipush 63, 2) := by decide +kernel
theorem d1_119 : decode prog_46_method_41_code 119 = .ok (.iand, 1) := by decide +kernel
theorem d1_120 : decode prog_46_method_41_code 120 = .ok (.ior, 1) := by decide +kernel
theorem d1_121 : decode prog_46_method_41_code 121 = .ok (.i2b, 1) := by decide +kernel
theorem d1_122 : decode prog_46_method_41_code 122 = .ok (.bastore, 1) := by decide +kernel
theorem d1_123 : decode prog_46_method_41_code 123 = .ok (.aload_n 2, 1) := by decide +kernel
theorem d1_124 : decode prog_46_method_41_code 124 = .ok (.iload_n 3, 1) := by decide +kernel
theorem d1_125 : decode prog_46_method_41_code 125 = .ok (.iinc 3 1, 3) := by decide +kernel
theorem d1_128 : decode prog_46_method_41_code 128 = .ok (.sipush 128, 3) := by decide +kernel
theorem d1_131 : decode prog_46_method_41_code 131 = .ok (.iload 5, 2) := by decide +kernel
theorem d1_133 : decode prog_46_method_41_code 133 = .ok (.bipush 63, 2) := by decide +kernel
theorem d1_135 : decode prog_46_method_41_code 135 = .ok (.iand, 1) := by decide +kernel
theorem d1_136 : decode prog_46_method_41_code 136 = .ok (.ior, 1) := by decide +kernel
theorem d1_137 : decode prog_46_method_41_code 137 = .ok (.i2b, 1) := by decide +kernel
theorem d1_138 : decode prog_46_method_41_code 138 = .ok (.bastore, 1) := by decide +kernel
theorem d1_139 : decode prog_46_method_41_code 139 = .ok (.goto 73, 3) := by decide +kernel
theorem d1_142 : decode prog_46_method_41_code 142 = .ok (.aload_n 2, 1) := by decide +kernel
theorem d1_143 : decode prog_46_method_41_code 143 = .ok (.iload_n 3, 1) := by decide +kernel
theorem d1_144 : decode prog_46_method_41_code 144 = .ok (.iinc 3 1, 3) := by decide +kernel
theorem d1_147 : decode prog_46_method_41_code 147 = .ok (.sipush 240, 3) := by decide +kernel
theorem d1_150 : decode prog_46_method_41_code 150 = .ok (.iload 5, 2) := by decide +kernel
theorem d1_152 : decode prog_46_method_41_code 152 = .ok (.bipush 18, 2) := by decide +kernel
theorem d1_154 : decode prog_46_method_41_code 154 = .ok (.ishr, 1) := by decide +kernel
theorem d1_155 : decode prog_46_method_41_code 155 = .ok (.ior, 1) := by decide +kernel
theorem d1_156 : decode prog_46_method_41_code 156 = .ok (.i2b, 1) := by decide +kernel
theorem d1_157 : decode prog_46_method_41_code 157 = .ok (.bastore, 1) := by decide +kernel
theorem d1_158 : decode prog_46_method_41_code 158 = .ok (.aload_n 2, 1) := by decide +kernel
theorem d1_159 : decode prog_46_method_41_code 159 = .ok (.iload_n 3, 1) := by decide +kernel
theorem d1_160 : decode prog_46_method_41_code 160 = .ok (.iinc 3 1, 3) := by decide +kernel
theorem d1_163 : decode prog_46_method_41_code 163 = .ok (.sipush 128, 3) := by decide +kernel
theorem d1_166 : decode prog_46_method_41_code 166 = .ok (.iload 5, 2) := by decide +kernel
theorem d1_168 : decode prog_46_method_41_code 168 = .ok (.bipush 12, 2) := by decide +kernel
theorem d1_170 : decode prog_46_method_41_code 170 = .ok (.ishr, 1) := by decide +kernel
theorem d1_171 : decode prog_46_method_41_code 171 = .ok (.bipush 63, 2) := by decide +kernel
theorem d1_173 : decode prog_46_method_41_code 173 = .ok (.iand, 1) := by decide +kernel
theorem d1_174 : decode prog_46_method_41_code 174 = .ok (.ior, 1) := by decide +kernel
theorem d1_175 : decode prog_46_method_41_code 175 = .ok (.i2b, 1) := by decide +kernel
theorem d1_176 : decode prog_46_method_41_code 176 = .ok (.bastore, 1) := by decide +kernel
theorem d1_177 : decode prog_46_method_41_code 177 = .ok (.aload_n 2, 1) := by decide +kernel
theorem d1_178 : decode prog_46_method_41_code 178 = .ok (.iload_n 3, 1) := by decide +kernel
theorem d1_179 : decode prog_46_method_41_code 179 = .ok (.iinc 3 1, 3) := by decide +kernel
theorem d1_182 : decode prog_46_method_41_code 182 = .ok (.sipush 128, 3) := by decide +kernel
theorem d1_185 : decode prog_46_method_41_code 185 = .ok (.iload 5, 2) := by decide +kernel
theorem d1_187 : decode prog_46_method_41_code 187 = .ok (.bipush 6, 2) := by decide +kernel
theorem d1_189 : decode prog_46_method_41_code 189 = .ok (.ishr, 1) := by decide +kernel
theorem d1_190 : decode prog_46_method_41_code 190 = .ok (.bipush 63, 2) := by decide +kernel
theorem d1_192 : decode prog_46_method_41_code 192 = .ok (.iand, 1) := by decide +kernel
theorem d1_193 : decode prog_46_method_41_code 193 = .ok (.ior, 1) := by decide +kernel
theorem d1_194 : decode prog_46_method_41_code 194 = .ok (.i2b, 1) := by decide +kernel
theorem d1_195 : decode prog_46_method_41_code 195 = .ok (.bastore, 1) := by decide +kernel
theorem d1_196 : decode prog_46_method_41_code 196 = .ok (.aload_n 2, 1) := by decide +kernel
theorem d1_197 : decode prog_46_method_41_code 197 = .ok (.iload_n 3, 1) := by decide +kernel
theorem d1_198 : decode prog_46_method_41_code 198 = .ok (.iinc 3 1, 3) := by decide +kernel
theorem d1_201 : decode prog_46_method_41_code 201 = .ok (.sipush 128, 3) := by decide +kernel
theorem d1_204 : decode prog_46_method_41_code 204 = .ok (.iload 5, 2) := by decide +kernel
theorem d1_206 : decode prog_46_method_41_code 206 = .ok (.bipush 63, 2) := by decide +kernel
theorem d1_208 : decode prog_46_method_41_code 208 = .ok (.iand, 1) := by decide +kernel
theorem d1_209 : decode prog_46_method_41_code 209 = .ok (.ior, 1) := by decide +kernel
theorem d1_210 : decode prog_46_method_41_code 210 = .ok (.i2b, 1) := by decide +kernel
theorem d1_211 : decode prog_46_method_41_code 211 = .ok (.bastore, 1) := by decide +kernel
theorem d1_212 : decode prog_46_method_41_code 212 = .ok (.iinc 4 1, 3) := by decide +kernel
theorem d1_215 : decode prog_46_method_41_code 215 = .ok (.goto (-210), 3) := by decide +kernel
theorem d1_218 : decode prog_46_method_41_code 218 = .ok (.iload_n 3, 1) := by decide +kernel
theorem d1_219 : decode prog_46_method_41_code 219 = .ok (.ireturn, 1) := by decide +kernel
theorem os1_15 {z0 : Value} {z1 : Value} {z2 : Value} {z3 : Value} {z4 : Value} {x5 : Slot} {v : Int32} (h : One x5) : storeLocals #[.val z0, .val z1, .val z2, .val z3, .val z4, x5] 5 (.int v) = some #[.val z0, .val z1, .val z2, .val z3, .val z4, .val (.int v)] := by
  rcases h with rfl | ⟨w, rfl, hw⟩
  · rfl
  · cases w <;> first | rfl | (simp [Value.category] at hw)
set_option maxRecDepth 65536 in
set_option maxHeartbeats 40000000 in
theorem sk_turn {p : Program} {l : Launch} {e : Env} {s : State} {m : MethodId} {args : Array Value} {below : List Frame} {meth : Method} {c : Code} {T : State} {h : Heap} {n0 : Nat} {P : Option Value → Heap → Prop} {Z : State} {a0 : Array Value} (X : Hr p l e ({ frames := 0, cells := 0, slots := 0, locals := 0 } : Room) s m args below meth c n0 h 0 0 T) (C : Cx p s m meth c prog_46_method_41_code 6 (some .int) "termwright/index/FieldReader" "sortKey" Z a0 tables_1) (x0 : Addr) (x1 : Int32) (x2 : Addr) (x3 x4 : Int32) (x5 : Slot) (o_x5 : One x5) (g gc : Nat → Int32) (cv : Int32) (Ac : ArI Z h x0 .int 3 gc) (Ab : ArI Z h x2 .byte 12 g) (hne : x0 ≠ x2) (ge : n0 ≤ x2) (hi : 0 ≤ x4.toInt ∧ x4.toInt < 3) (hlt : x4 < x1) (hcv : gc (nt x4) = cv) (hp : 0 ≤ x3.toInt ∧ x3.toInt ≤ 8)
    (K : ∀ T' h', Hr p l e ({ frames := 0, cells := 0, slots := 0, locals := 0 } : Room) s m args below meth c n0 h' 0 0 T' → Keep h h' [x2] → ArI Z h' x0 .int 3 gc → ArI Z h' x2 .byte 12 (own_enc g x3 cv) → Goes p e below s n0 P 0 0 T' (mkF m 5 #[.val (.ref x0), .val (.int x1), .val (.ref x2), .val (.int (x3 + f2 cv)), .val (.int (x4 + (1 : Int32))), .val (.int cv)] [])) : Goes p e below s n0 P 0 0 T (mkF m 5 #[.val (.ref x0), .val (.int x1), .val (.ref x2), .val (.int x3), .val (.int x4), x5] []) := by
  refine w_iload (pc := 5) X C d1_5 rfl ?_
  refine w_iloadN (pc := 7) X C d1_7 rfl ?_
  refine w_icmp_ge (pc := 8) X C d1_8 218 (by decide) (fun q1 => absurd (hlt) q1) (fun q1 => ?_)
  refine w_aloadN (pc := 11) X C d1_11 rfl rfl ?_
  refine w_iload (pc := 12) X C d1_12 rfl ?_
  refine w_iaload (pc := 14) X C d1_14 Ac (nt x4) (nt_eq hi.1) (nt_lt hi.2 (by omega)) ?_
  rw [hcv]
  refine w_istore (pc := 15) X C d1_15 #[.val (.ref x0), .val (.int x1), .val (.ref x2), .val (.int x3), .val (.int x4), .val (.int cv)] (os1_15 o_x5) ?_
  refine w_iload (pc := 17) X C d1_17 rfl ?_
  refine w_sipush (pc := 19) X C d1_19 (128 : Int32) rfl ?_
  refine w_icmp_ge (pc := 22) X C d1_22 37 (by decide) (fun q2 => ?_) (fun q2 => ?_)
  · -- yes
    refine w_iload (pc := 37) X C d1_37 rfl ?_
    refine w_sipush (pc := 39) X C d1_39 (2048 : Int32) rfl ?_
    refine w_icmp_ge (pc := 42) X C d1_42 80 (by decide) (fun q3 => ?_) (fun q3 => ?_)
    · -- yes
      refine w_iload (pc := 80) X C d1_80 rfl ?_
      refine w_ldcW (pc := 82) X C d1_82 (v := (65536 : Int32)) (List.mem_of_getElem? (i := 18) rfl) ?_
      refine w_icmp_ge (pc := 85) X C d1_85 142 (by decide) (fun q4 => ?_) (fun q4 => ?_)
      · -- yes
        refine w_aloadN (pc := 142) X C d1_142 rfl rfl ?_
        refine w_iloadN (pc := 143) X C d1_143 rfl ?_
        refine w_iinc (pc := 144) X C d1_144 (1 : Int32) rfl rfl #[.val (.ref x0), .val (.int x1), .val (.ref x2), .val (.int (x3 + (1 : Int32))), .val (.int x4), .val (.int cv)] rfl ?_
        refine w_sipush (pc := 147) X C d1_147 (240 : Int32) rfl ?_
        refine w_iload (pc := 150) X C d1_150 rfl ?_
        refine w_bipush (pc := 152) X C d1_152 (18 : Int32) rfl ?_
        refine w_ishr (pc := 154) X C d1_154 ?_
        refine w_ior (pc := 155) X C d1_155 ?_
        refine w_i2b (pc := 156) X C d1_156 ?_
        have b_5 : 0 ≤ (x3).toInt ∧ (x3).toInt < 12 := by omega
        refine w_bastore (pc := 157) X C d1_157 Ab (nt x3) (nt_eq b_5.1) (nt_lt b_5.2 (by omega)) ge (fun T6 h6 X6 W6 A6 => ?_)
        obtain ⟨g6, hg6⟩ : ∃ z, z = up g (nt x3) (i8 (i8 ((240 : Int32) ||| (shrI cv (18 : Int32))))) := ⟨_, rfl⟩
        rw [← hg6] at A6
        have Ak7 := Ac.other W6 hne
        have K8 : Keep h h6 [x2] := (Keep.refl h [x2]).wr W6 (Or.inl (List.mem_of_getElem? (i := 0) rfl))
        refine w_aloadN (pc := 158) X6 C d1_158 rfl rfl ?_
        refine w_iloadN (pc := 159) X6 C d1_159 rfl ?_
        refine w_iinc (pc := 160) X6 C d1_160 (1 : Int32) rfl rfl #[.val (.ref x0), .val (.int x1), .val (.ref x2), .val (.int ((x3 + (1 : Int32)) + (1 : Int32))), .val (.int x4), .val (.int cv)] rfl ?_
        refine w_sipush (pc := 163) X6 C d1_163 (128 : Int32) rfl ?_
        refine w_iload (pc := 166) X6 C d1_166 rfl ?_
        refine w_bipush (pc := 168) X6 C d1_168 (12 : Int32) rfl ?_
        refine w_ishr (pc := 170) X6 C d1_170 ?_
        refine w_bipush (pc := 171) X6 C d1_171 (63 : Int32) rfl ?_
        refine w_iand (pc := 173) X6 C d1_173 ?_
        refine w_ior (pc := 174) X6 C d1_174 ?_
        refine w_i2b (pc := 175) X6 C d1_175 ?_
        have e_9 := add1 (x := x3) (1 : Int32) 1 rfl (by omega) (by omega)
        have b_10 : 0 ≤ ((x3 + (1 : Int32))).toInt ∧ ((x3 + (1 : Int32))).toInt < 12 := by omega
        refine w_bastore (pc := 176) X6 C d1_176 A6 (nt (x3 + (1 : Int32))) (nt_eq b_10.1) (nt_lt b_10.2 (by omega)) ge (fun T11 h11 X11 W11 A11 => ?_)
        obtain ⟨g11, hg11⟩ : ∃ z, z = up g6 (nt (x3 + (1 : Int32))) (i8 (i8 ((128 : Int32) ||| ((shrI cv (12 : Int32)) &&& (63 : Int32))))) := ⟨_, rfl⟩
        rw [← hg11] at A11
        have Ak12 := Ak7.other W11 hne
        have K13 : Keep h h11 [x2] := K8.wr W11 (Or.inl (List.mem_of_getElem? (i := 0) rfl))
        refine w_aloadN (pc := 177) X11 C d1_177 rfl rfl ?_
        refine w_iloadN (pc := 178) X11 C d1_178 rfl ?_
        refine w_iinc (pc := 179) X11 C d1_179 (1 : Int32) rfl rfl #[.val (.ref x0), .val (.int x1), .val (.ref x2), .val (.int (((x3 + (1 : Int32)) + (1 : Int32)) + (1 : Int32))), .val (.int x4), .val (.int cv)] rfl ?_
        refine w_sipush (pc := 182) X11 C d1_182 (128 : Int32) rfl ?_
        refine w_iload (pc := 185) X11 C d1_185 rfl ?_
        refine w_bipush (pc := 187) X11 C d1_187 (6 : Int32) rfl ?_
        refine w_ishr (pc := 189) X11 C d1_189 ?_
        refine w_bipush (pc := 190) X11 C d1_190 (63 : Int32) rfl ?_
        refine w_iand (pc := 192) X11 C d1_192 ?_
        refine w_ior (pc := 193) X11 C d1_193 ?_
        refine w_i2b (pc := 194) X11 C d1_194 ?_
        have e_14 := add1 (x := x3) (1 : Int32) 1 rfl (by omega) (by omega)
        have e_15 := add1 (x := (x3 + (1 : Int32))) (1 : Int32) 1 rfl (by omega) (by omega)
        have b_16 : 0 ≤ (((x3 + (1 : Int32)) + (1 : Int32))).toInt ∧ (((x3 + (1 : Int32)) + (1 : Int32))).toInt < 12 := by omega
        refine w_bastore (pc := 195) X11 C d1_195 A11 (nt ((x3 + (1 : Int32)) + (1 : Int32))) (nt_eq b_16.1) (nt_lt b_16.2 (by omega)) ge (fun T17 h17 X17 W17 A17 => ?_)
        obtain ⟨g17, hg17⟩ : ∃ z, z = up g11 (nt ((x3 + (1 : Int32)) + (1 : Int32))) (i8 (i8 ((128 : Int32) ||| ((shrI cv (6 : Int32)) &&& (63 : Int32))))) := ⟨_, rfl⟩
        rw [← hg17] at A17
        have Ak18 := Ak12.other W17 hne
        have K19 : Keep h h17 [x2] := K13.wr W17 (Or.inl (List.mem_of_getElem? (i := 0) rfl))
        refine w_aloadN (pc := 196) X17 C d1_196 rfl rfl ?_
        refine w_iloadN (pc := 197) X17 C d1_197 rfl ?_
        refine w_iinc (pc := 198) X17 C d1_198 (1 : Int32) rfl rfl #[.val (.ref x0), .val (.int x1), .val (.ref x2), .val (.int ((((x3 + (1 : Int32)) + (1 : Int32)) + (1 : Int32)) + (1 : Int32))), .val (.int x4), .val (.int cv)] rfl ?_
        refine w_sipush (pc := 201) X17 C d1_201 (128 : Int32) rfl ?_
        refine w_iload (pc := 204) X17 C d1_204 rfl ?_
        refine w_bipush (pc := 206) X17 C d1_206 (63 : Int32) rfl ?_
        refine w_iand (pc := 208) X17 C d1_208 ?_
        refine w_ior (pc := 209) X17 C d1_209 ?_
        refine w_i2b (pc := 210) X17 C d1_210 ?_
        have e_20 := add1 (x := x3) (1 : Int32) 1 rfl (by omega) (by omega)
        have e_21 := add1 (x := (x3 + (1 : Int32))) (1 : Int32) 1 rfl (by omega) (by omega)
        have e_22 := add1 (x := ((x3 + (1 : Int32)) + (1 : Int32))) (1 : Int32) 1 rfl (by omega) (by omega)
        have b_23 : 0 ≤ ((((x3 + (1 : Int32)) + (1 : Int32)) + (1 : Int32))).toInt ∧ ((((x3 + (1 : Int32)) + (1 : Int32)) + (1 : Int32))).toInt < 12 := by omega
        refine w_bastore (pc := 211) X17 C d1_211 A17 (nt (((x3 + (1 : Int32)) + (1 : Int32)) + (1 : Int32))) (nt_eq b_23.1) (nt_lt b_23.2 (by omega)) ge (fun T24 h24 X24 W24 A24 => ?_)
        obtain ⟨g24, hg24⟩ : ∃ z, z = up g17 (nt (((x3 + (1 : Int32)) + (1 : Int32)) + (1 : Int32))) (i8 (i8 ((128 : Int32) ||| (cv &&& (63 : Int32))))) := ⟨_, rfl⟩
        rw [← hg24] at A24
        have Ak25 := Ak18.other W24 hne
        have K26 : Keep h h24 [x2] := K19.wr W24 (Or.inl (List.mem_of_getElem? (i := 0) rfl))
        refine w_iinc (pc := 212) X24 C d1_212 (1 : Int32) rfl rfl #[.val (.ref x0), .val (.int x1), .val (.ref x2), .val (.int ((((x3 + (1 : Int32)) + (1 : Int32)) + (1 : Int32)) + (1 : Int32))), .val (.int (x4 + (1 : Int32))), .val (.int cv)] rfl ?_
        refine w_goto (pc := 215) X24 C d1_215 5 (by decide) ?_
        have ep : ((((x3 + (1 : Int32)) + (1 : Int32)) + (1 : Int32)) + (1 : Int32)) = x3 + f2 cv := own_len4 x3 cv q2 q3 q4
        rw [ep]
        have eg : own_enc g x3 cv = g24 := by
          unfold own_enc
          rw [if_neg q2, if_neg q3, if_neg q4, hg24, hg17, hg11, hg6]
        exact K _ _ X24 K26 Ak25 (by rw [eg]; exact A24)
      · -- no
        refine w_aloadN (pc := 88) X C d1_88 rfl rfl ?_
        refine w_iloadN (pc := 89) X C d1_89 rfl ?_
        refine w_iinc (pc := 90) X C d1_90 (1 : Int32) rfl rfl #[.val (.ref x0), .val (.int x1), .val (.ref x2), .val (.int (x3 + (1 : Int32))), .val (.int x4), .val (.int cv)] rfl ?_
        refine w_sipush (pc := 93) X C d1_93 (224 : Int32) rfl ?_
        refine w_iload (pc := 96) X C d1_96 rfl ?_
        refine w_bipush (pc := 98) X C d1_98 (12 : Int32) rfl ?_
        refine w_ishr (pc := 100) X C d1_100 ?_
        refine w_ior (pc := 101) X C d1_101 ?_
        refine w_i2b (pc := 102) X C d1_102 ?_
        have lq4_103 := Int32.lt_iff_toInt_lt.mp q4
        have b_27 : 0 ≤ (x3).toInt ∧ (x3).toInt < 12 := by omega
        refine w_bastore (pc := 103) X C d1_103 Ab (nt x3) (nt_eq b_27.1) (nt_lt b_27.2 (by omega)) ge (fun T28 h28 X28 W28 A28 => ?_)
        obtain ⟨g28, hg28⟩ : ∃ z, z = up g (nt x3) (i8 (i8 ((224 : Int32) ||| (shrI cv (12 : Int32))))) := ⟨_, rfl⟩
        rw [← hg28] at A28
        have Ak29 := Ac.other W28 hne
        have K30 : Keep h h28 [x2] := (Keep.refl h [x2]).wr W28 (Or.inl (List.mem_of_getElem? (i := 0) rfl))
        refine w_aloadN (pc := 104) X28 C d1_104 rfl rfl ?_
        refine w_iloadN (pc := 105) X28 C d1_105 rfl ?_
        refine w_iinc (pc := 106) X28 C d1_106 (1 : Int32) rfl rfl #[.val (.ref x0), .val (.int x1), .val (.ref x2), .val (.int ((x3 + (1 : Int32)) + (1 : Int32))), .val (.int x4), .val (.int cv)] rfl ?_
        refine w_sipush (pc := 109) X28 C d1_109 (128 : Int32) rfl ?_
        refine w_iload (pc := 112) X28 C d1_112 rfl ?_
        refine w_bipush (pc := 114) X28 C d1_114 (6 : Int32) rfl ?_
        refine w_ishr (pc := 116) X28 C d1_116 ?_
        refine w_bipush (pc := 117) X28 C d1_117 (63 : Int32) rfl ?_
        refine w_iand (pc := 119) X28 C d1_119 ?_
        refine w_ior (pc := 120) X28 C d1_120 ?_
        refine w_i2b (pc := 121) X28 C d1_121 ?_
        have lq4_122 := Int32.lt_iff_toInt_lt.mp q4
        have e_31 := add1 (x := x3) (1 : Int32) 1 rfl (by omega) (by omega)
        have b_32 : 0 ≤ ((x3 + (1 : Int32))).toInt ∧ ((x3 + (1 : Int32))).toInt < 12 := by omega
        refine w_bastore (pc := 122) X28 C d1_122 A28 (nt (x3 + (1 : Int32))) (nt_eq b_32.1) (nt_lt b_32.2 (by omega)) ge (fun T33 h33 X33 W33 A33 => ?_)
        obtain ⟨g33, hg33⟩ : ∃ z, z = up g28 (nt (x3 + (1 : Int32))) (i8 (i8 ((128 : Int32) ||| ((shrI cv (6 : Int32)) &&& (63 : Int32))))) := ⟨_, rfl⟩
        rw [← hg33] at A33
        have Ak34 := Ak29.other W33 hne
        have K35 : Keep h h33 [x2] := K30.wr W33 (Or.inl (List.mem_of_getElem? (i := 0) rfl))
        refine w_aloadN (pc := 123) X33 C d1_123 rfl rfl ?_
        refine w_iloadN (pc := 124) X33 C d1_124 rfl ?_
        refine w_iinc (pc := 125) X33 C d1_125 (1 : Int32) rfl rfl #[.val (.ref x0), .val (.int x1), .val (.ref x2), .val (.int (((x3 + (1 : Int32)) + (1 : Int32)) + (1 : Int32))), .val (.int x4), .val (.int cv)] rfl ?_
        refine w_sipush (pc := 128) X33 C d1_128 (128 : Int32) rfl ?_
        refine w_iload (pc := 131) X33 C d1_131 rfl ?_
        refine w_bipush (pc := 133) X33 C d1_133 (63 : Int32) rfl ?_
        refine w_iand (pc := 135) X33 C d1_135 ?_
        refine w_ior (pc := 136) X33 C d1_136 ?_
        refine w_i2b (pc := 137) X33 C d1_137 ?_
        have lq4_138 := Int32.lt_iff_toInt_lt.mp q4
        have e_36 := add1 (x := x3) (1 : Int32) 1 rfl (by omega) (by omega)
        have e_37 := add1 (x := (x3 + (1 : Int32))) (1 : Int32) 1 rfl (by omega) (by omega)
        have b_38 : 0 ≤ (((x3 + (1 : Int32)) + (1 : Int32))).toInt ∧ (((x3 + (1 : Int32)) + (1 : Int32))).toInt < 12 := by omega
        refine w_bastore (pc := 138) X33 C d1_138 A33 (nt ((x3 + (1 : Int32)) + (1 : Int32))) (nt_eq b_38.1) (nt_lt b_38.2 (by omega)) ge (fun T39 h39 X39 W39 A39 => ?_)
        obtain ⟨g39, hg39⟩ : ∃ z, z = up g33 (nt ((x3 + (1 : Int32)) + (1 : Int32))) (i8 (i8 ((128 : Int32) ||| (cv &&& (63 : Int32))))) := ⟨_, rfl⟩
        rw [← hg39] at A39
        have Ak40 := Ak34.other W39 hne
        have K41 : Keep h h39 [x2] := K35.wr W39 (Or.inl (List.mem_of_getElem? (i := 0) rfl))
        refine w_goto (pc := 139) X39 C d1_139 212 (by decide) ?_
        refine w_iinc (pc := 212) X39 C d1_212 (1 : Int32) rfl rfl #[.val (.ref x0), .val (.int x1), .val (.ref x2), .val (.int (((x3 + (1 : Int32)) + (1 : Int32)) + (1 : Int32))), .val (.int (x4 + (1 : Int32))), .val (.int cv)] rfl ?_
        refine w_goto (pc := 215) X39 C d1_215 5 (by decide) ?_
        have ep : (((x3 + (1 : Int32)) + (1 : Int32)) + (1 : Int32)) = x3 + f2 cv := own_len3 x3 cv q2 q3 q4
        rw [ep]
        have eg : own_enc g x3 cv = g39 := by
          unfold own_enc
          rw [if_neg q2, if_neg q3, if_pos q4, hg39, hg33, hg28]
        exact K _ _ X39 K41 Ak40 (by rw [eg]; exact A39)
    · -- no
      refine w_aloadN (pc := 45) X C d1_45 rfl rfl ?_
      refine w_iloadN (pc := 46) X C d1_46 rfl ?_
      refine w_iinc (pc := 47) X C d1_47 (1 : Int32) rfl rfl #[.val (.ref x0), .val (.int x1), .val (.ref x2), .val (.int (x3 + (1 : Int32))), .val (.int x4), .val (.int cv)] rfl ?_
      refine w_sipush (pc := 50) X C d1_50 (192 : Int32) rfl ?_
      refine w_iload (pc := 53) X C d1_53 rfl ?_
      refine w_bipush (pc := 55) X C d1_55 (6 : Int32) rfl ?_
      refine w_ishr (pc := 57) X C d1_57 ?_
      refine w_ior (pc := 58) X C d1_58 ?_
      refine w_i2b (pc := 59) X C d1_59 ?_
      have lq3_60 := Int32.lt_iff_toInt_lt.mp q3
      have b_42 : 0 ≤ (x3).toInt ∧ (x3).toInt < 12 := by omega
      refine w_bastore (pc := 60) X C d1_60 Ab (nt x3) (nt_eq b_42.1) (nt_lt b_42.2 (by omega)) ge (fun T43 h43 X43 W43 A43 => ?_)
      obtain ⟨g43, hg43⟩ : ∃ z, z = up g (nt x3) (i8 (i8 ((192 : Int32) ||| (shrI cv (6 : Int32))))) := ⟨_, rfl⟩
      rw [← hg43] at A43
      have Ak44 := Ac.other W43 hne
      have K45 : Keep h h43 [x2] := (Keep.refl h [x2]).wr W43 (Or.inl (List.mem_of_getElem? (i := 0) rfl))
      refine w_aloadN (pc := 61) X43 C d1_61 rfl rfl ?_
      refine w_iloadN (pc := 62) X43 C d1_62 rfl ?_
      refine w_iinc (pc := 63) X43 C d1_63 (1 : Int32) rfl rfl #[.val (.ref x0), .val (.int x1), .val (.ref x2), .val (.int ((x3 + (1 : Int32)) + (1 : Int32))), .val (.int x4), .val (.int cv)] rfl ?_
      refine w_sipush (pc := 66) X43 C d1_66 (128 : Int32) rfl ?_
      refine w_iload (pc := 69) X43 C d1_69 rfl ?_
      refine w_bipush (pc := 71) X43 C d1_71 (63 : Int32) rfl ?_
      refine w_iand (pc := 73) X43 C d1_73 ?_
      refine w_ior (pc := 74) X43 C d1_74 ?_
      refine w_i2b (pc := 75) X43 C d1_75 ?_
      have lq3_76 := Int32.lt_iff_toInt_lt.mp q3
      have e_46 := add1 (x := x3) (1 : Int32) 1 rfl (by omega) (by omega)
      have b_47 : 0 ≤ ((x3 + (1 : Int32))).toInt ∧ ((x3 + (1 : Int32))).toInt < 12 := by omega
      refine w_bastore (pc := 76) X43 C d1_76 A43 (nt (x3 + (1 : Int32))) (nt_eq b_47.1) (nt_lt b_47.2 (by omega)) ge (fun T48 h48 X48 W48 A48 => ?_)
      obtain ⟨g48, hg48⟩ : ∃ z, z = up g43 (nt (x3 + (1 : Int32))) (i8 (i8 ((128 : Int32) ||| (cv &&& (63 : Int32))))) := ⟨_, rfl⟩
      rw [← hg48] at A48
      have Ak49 := Ak44.other W48 hne
      have K50 : Keep h h48 [x2] := K45.wr W48 (Or.inl (List.mem_of_getElem? (i := 0) rfl))
      refine w_goto (pc := 77) X48 C d1_77 212 (by decide) ?_
      refine w_iinc (pc := 212) X48 C d1_212 (1 : Int32) rfl rfl #[.val (.ref x0), .val (.int x1), .val (.ref x2), .val (.int ((x3 + (1 : Int32)) + (1 : Int32))), .val (.int (x4 + (1 : Int32))), .val (.int cv)] rfl ?_
      refine w_goto (pc := 215) X48 C d1_215 5 (by decide) ?_
      have ep : ((x3 + (1 : Int32)) + (1 : Int32)) = x3 + f2 cv := own_len2 x3 cv q2 q3
      rw [ep]
      have eg : own_enc g x3 cv = g48 := by
        unfold own_enc
        rw [if_neg q2, if_pos q3, hg48, hg43]
      exact K _ _ X48 K50 Ak49 (by rw [eg]; exact A48)
  · -- no
    refine w_aloadN (pc := 25) X C d1_25 rfl rfl ?_
    refine w_iloadN (pc := 26) X C d1_26 rfl ?_
    refine w_iinc (pc := 27) X C d1_27 (1 : Int32) rfl rfl #[.val (.ref x0), .val (.int x1), .val (.ref x2), .val (.int (x3 + (1 : Int32))), .val (.int x4), .val (.int cv)] rfl ?_
    refine w_iload (pc := 30) X C d1_30 rfl ?_
    refine w_i2b (pc := 32) X C d1_32 ?_
    have lq2_33 := Int32.lt_iff_toInt_lt.mp q2
    have b_51 : 0 ≤ (x3).toInt ∧ (x3).toInt < 12 := by omega
    refine w_bastore (pc := 33) X C d1_33 Ab (nt x3) (nt_eq b_51.1) (nt_lt b_51.2 (by omega)) ge (fun T52 h52 X52 W52 A52 => ?_)
    obtain ⟨g52, hg52⟩ : ∃ z, z = up g (nt x3) (i8 (i8 cv)) := ⟨_, rfl⟩
    rw [← hg52] at A52
    have Ak53 := Ac.other W52 hne
    have K54 : Keep h h52 [x2] := (Keep.refl h [x2]).wr W52 (Or.inl (List.mem_of_getElem? (i := 0) rfl))
    refine w_goto (pc := 34) X52 C d1_34 212 (by decide) ?_
    refine w_iinc (pc := 212) X52 C d1_212 (1 : Int32) rfl rfl #[.val (.ref x0), .val (.int x1), .val (.ref x2), .val (.int (x3 + (1 : Int32))), .val (.int (x4 + (1 : Int32))), .val (.int cv)] rfl ?_
    refine w_goto (pc := 215) X52 C d1_215 5 (by decide) ?_
    have ep : (x3 + (1 : Int32)) = x3 + f2 cv := own_len1 x3 cv q2
    rw [ep]
    have eg : own_enc g x3 cv = g52 := by
      unfold own_enc
      rw [if_pos q2, hg52]
    exact K _ _ X52 K54 Ak53 (by rw [eg]; exact A52)
set_option maxRecDepth 65536 in
set_option maxHeartbeats 40000000 in
theorem bw1_n0 {p : Program} {l : Launch} {e : Env} {s : State} {m : MethodId} {args : Array Value} {below : List Frame} {meth : Method} {c : Code} {T : State} {h : Heap} {n0 : Nat} {Z : State} {a0 : Array Value} (X : Hr p l e ({ frames := 0, cells := 0, slots := 0, locals := 0 } : Room) s m args below meth c n0 h 0 0 T) (C : Cx p s m meth c prog_46_method_41_code 6 (some .int) "termwright/index/FieldReader" "sortKey" Z a0 tables_1) (x0 : Addr) (x2 : Addr) (g gc : Nat → Int32) (Ac : ArI Z h x0 .int 3 gc) (Ab : ArI Z h x2 .byte 12 g) (hne : x0 ≠ x2) (ge : n0 ≤ x2) : Goes p e below s n0 (fun v h' => v = some (.int (0 : Int32)) ∧ Keep h h' [x2] ∧ ArI Z h' x2 .byte 12 g) 0 0 T (mkF m 0 #[.val (.ref x0), .val (.int (0 : Int32)), .val (.ref x2), .unset, .unset, .unset] []) := by
  refine w_iconst (pc := 0) X C d1_0 (0 : Int32) rfl ?_
  refine w_istoreN (pc := 1) X C d1_1 #[.val (.ref x0), .val (.int (0 : Int32)), .val (.ref x2), .val (.int (0 : Int32)), .unset, .unset] rfl ?_
  refine w_iconst (pc := 2) X C d1_2 (0 : Int32) rfl ?_
  refine w_istore (pc := 3) X C d1_3 #[.val (.ref x0), .val (.int (0 : Int32)), .val (.ref x2), .val (.int (0 : Int32)), .val (.int (0 : Int32)), .unset] rfl ?_
  refine w_iload (pc := 5) X C d1_5 rfl ?_
  refine w_iloadN (pc := 7) X C d1_7 rfl ?_
  refine w_icmp_ge (pc := 8) X C d1_8 218 (by decide) (fun q1 => ?_) (fun q1 => absurd q1 (by decide))
  refine w_iloadN (pc := 218) X C d1_218 rfl ?_
  exact w_retI (pc := 219) X C d1_219 ⟨rfl, Keep.refl h [x2], Ab⟩
theorem ct1_n0 (l : Launch) {Z : State} {a0 : Array Value} (hw : ∀ d ∈ tables_1, d.before a0 Z = true) (h : Heap) {n0 : Nat} (hn : n0 ≤ h.size) (x0 : Addr) (x2 : Addr) (g gc : Nat → Int32) (Ac : ArI Z h x0 .int 3 gc) (Ab : ArI Z h x2 .byte 12 g) (hne : x0 ≠ x2) (ge : n0 ≤ x2) : Ct l (⟨"termwright/index/FieldReader", "sortKey", "([II[B)I"⟩ : MethodName) prog_46_method_41_code 6 (some .int) ({ frames := 0, cells := 0, slots := 0, locals := 0 } : Room) Z #[(.ref x0), (.int (0 : Int32)), (.ref x2)] h n0 (fun v h' => v = some (.int (0 : Int32)) ∧ Keep h h' [x2] ∧ ArI Z h' x2 .byte 12 g) :=
  Ct.of (plainFor_of_name pn_0) #[.val (.ref x0), .val (.int (0 : Int32)), .val (.ref x2), .unset, .unset, .unset] (fun m => by first | (simp [entryFrame, mkF, argsToLocals, Value.category]; done) | rfl) hw hn (fun p e s m below meth c T C X => bw1_n0 X C x0 x2 g gc  Ac Ab hne ge)
set_option maxRecDepth 65536 in
set_option maxHeartbeats 40000000 in
theorem bw1_n1 {p : Program} {l : Launch} {e : Env} {s : State} {m : MethodId} {args : Array Value} {below : List Frame} {meth : Method} {c : Code} {T : State} {h : Heap} {n0 : Nat} {Z : State} {a0 : Array Value} (X : Hr p l e ({ frames := 0, cells := 0, slots := 0, locals := 0 } : Room) s m args below meth c n0 h 0 0 T) (C : Cx p s m meth c prog_46_method_41_code 6 (some .int) "termwright/index/FieldReader" "sortKey" Z a0 tables_1) (x0 : Addr) (x2 : Addr) (g gc : Nat → Int32) (c0 : Int32) (Ac : ArI Z h x0 .int 3 gc) (Ab : ArI Z h x2 .byte 12 g) (hne : x0 ≠ x2) (ge : n0 ≤ x2) (hc0 : gc 0 = c0) (hp0 : 0 ≤ ((0 : Int32)).toInt ∧ ((0 : Int32)).toInt ≤ 8) : Goes p e below s n0 (fun v h' => v = some (.int ((0 : Int32) + f2 c0)) ∧ Keep h h' [x2] ∧ ArI Z h' x2 .byte 12 (own_enc g (0 : Int32) c0)) 0 0 T (mkF m 0 #[.val (.ref x0), .val (.int (1 : Int32)), .val (.ref x2), .unset, .unset, .unset] []) := by
  refine w_iconst (pc := 0) X C d1_0 (0 : Int32) rfl ?_
  refine w_istoreN (pc := 1) X C d1_1 #[.val (.ref x0), .val (.int (1 : Int32)), .val (.ref x2), .val (.int (0 : Int32)), .unset, .unset] rfl ?_
  refine w_iconst (pc := 2) X C d1_2 (0 : Int32) rfl ?_
  refine w_istore (pc := 3) X C d1_3 #[.val (.ref x0), .val (.int (1 : Int32)), .val (.ref x2), .val (.int (0 : Int32)), .val (.int (0 : Int32)), .unset] rfl ?_
  refine sk_turn X C x0 (1 : Int32) x2 (0 : Int32) (0 : Int32) (.unset) One.u g gc c0 Ac Ab hne ge (by decide) (by decide) hc0 hp0 (fun T1 h1 X1 K1 Ac1 Ab1 => ?_)
  refine w_iload (pc := 5) X1 C d1_5 rfl ?_
  refine w_iloadN (pc := 7) X1 C d1_7 rfl ?_
  refine w_icmp_ge (pc := 8) X1 C d1_8 218 (by decide) (fun q2 => ?_) (fun q2 => absurd q2 (by decide))
  refine w_iloadN (pc := 218) X1 C d1_218 rfl ?_
  exact w_retI (pc := 219) X1 C d1_219 ⟨rfl, K1, Ab1⟩
theorem ct1_n1 (l : Launch) {Z : State} {a0 : Array Value} (hw : ∀ d ∈ tables_1, d.before a0 Z = true) (h : Heap) {n0 : Nat} (hn : n0 ≤ h.size) (x0 : Addr) (x2 : Addr) (g gc : Nat → Int32) (c0 : Int32) (Ac : ArI Z h x0 .int 3 gc) (Ab : ArI Z h x2 .byte 12 g) (hne : x0 ≠ x2) (ge : n0 ≤ x2) (hc0 : gc 0 = c0) (hp0 : 0 ≤ ((0 : Int32)).toInt ∧ ((0 : Int32)).toInt ≤ 8) : Ct l (⟨"termwright/index/FieldReader", "sortKey", "([II[B)I"⟩ : MethodName) prog_46_method_41_code 6 (some .int) ({ frames := 0, cells := 0, slots := 0, locals := 0 } : Room) Z #[(.ref x0), (.int (1 : Int32)), (.ref x2)] h n0 (fun v h' => v = some (.int ((0 : Int32) + f2 c0)) ∧ Keep h h' [x2] ∧ ArI Z h' x2 .byte 12 (own_enc g (0 : Int32) c0)) :=
  Ct.of (plainFor_of_name pn_0) #[.val (.ref x0), .val (.int (1 : Int32)), .val (.ref x2), .unset, .unset, .unset] (fun m => by first | (simp [entryFrame, mkF, argsToLocals, Value.category]; done) | rfl) hw hn (fun p e s m below meth c T C X => bw1_n1 X C x0 x2 g gc c0 Ac Ab hne ge hc0 hp0)
set_option maxRecDepth 65536 in
set_option maxHeartbeats 40000000 in
theorem bw1_n2 {p : Program} {l : Launch} {e : Env} {s : State} {m : MethodId} {args : Array Value} {below : List Frame} {meth : Method} {c : Code} {T : State} {h : Heap} {n0 : Nat} {Z : State} {a0 : Array Value} (X : Hr p l e ({ frames := 0, cells := 0, slots := 0, locals := 0 } : Room) s m args below meth c n0 h 0 0 T) (C : Cx p s m meth c prog_46_method_41_code 6 (some .int) "termwright/index/FieldReader" "sortKey" Z a0 tables_1) (x0 : Addr) (x2 : Addr) (g gc : Nat → Int32) (c0 c1 : Int32) (Ac : ArI Z h x0 .int 3 gc) (Ab : ArI Z h x2 .byte 12 g) (hne : x0 ≠ x2) (ge : n0 ≤ x2) (hc0 : gc 0 = c0) (hc1 : gc 1 = c1) (hp0 : 0 ≤ ((0 : Int32)).toInt ∧ ((0 : Int32)).toInt ≤ 8) (hp1 : 0 ≤ (((0 : Int32) + f2 c0)).toInt ∧ (((0 : Int32) + f2 c0)).toInt ≤ 8) : Goes p e below s n0 (fun v h' => v = some (.int (((0 : Int32) + f2 c0) + f2 c1)) ∧ Keep h h' [x2] ∧ ArI Z h' x2 .byte 12 (own_enc (own_enc g (0 : Int32) c0) ((0 : Int32) + f2 c0) c1)) 0 0 T (mkF m 0 #[.val (.ref x0), .val (.int (2 : Int32)), .val (.ref x2), .unset, .unset, .unset] []) := by
  refine w_iconst (pc := 0) X C d1_0 (0 : Int32) rfl ?_
  refine w_istoreN (pc := 1) X C d1_1 #[.val (.ref x0), .val (.int (2 : Int32)), .val (.ref x2), .val (.int (0 : Int32)), .unset, .unset] rfl ?_
  refine w_iconst (pc := 2) X C d1_2 (0 : Int32) rfl ?_
  refine w_istore (pc := 3) X C d1_3 #[.val (.ref x0), .val (.int (2 : Int32)), .val (.ref x2), .val (.int (0 : Int32)), .val (.int (0 : Int32)), .unset] rfl ?_
  refine sk_turn X C x0 (2 : Int32) x2 (0 : Int32) (0 : Int32) (.unset) One.u g gc c0 Ac Ab hne ge (by decide) (by decide) hc0 hp0 (fun T1 h1 X1 K1 Ac1 Ab1 => ?_)
  refine sk_turn X1 C x0 (2 : Int32) x2 ((0 : Int32) + f2 c0) ((0 : Int32) + (1 : Int32)) (.val (.int c0)) (One.val rfl) (own_enc g (0 : Int32) c0) gc c1 Ac1 Ab1 hne ge (by decide) (by decide) hc1 hp1 (fun T2 h2 X2 K2 Ac2 Ab2 => ?_)
  have Kk2 : Keep h h2 [x2] := K1.trans K2 (fun _ hx => Or.inl hx)
  refine w_iload (pc := 5) X2 C d1_5 rfl ?_
  refine w_iloadN (pc := 7) X2 C d1_7 rfl ?_
  refine w_icmp_ge (pc := 8) X2 C d1_8 218 (by decide) (fun q3 => ?_) (fun q3 => absurd q3 (by decide))
  refine w_iloadN (pc := 218) X2 C d1_218 rfl ?_
  exact w_retI (pc := 219) X2 C d1_219 ⟨rfl, Kk2, Ab2⟩
theorem ct1_n2 (l : Launch) {Z : State} {a0 : Array Value} (hw : ∀ d ∈ tables_1, d.before a0 Z = true) (h : Heap) {n0 : Nat} (hn : n0 ≤ h.size) (x0 : Addr) (x2 : Addr) (g gc : Nat → Int32) (c0 c1 : Int32) (Ac : ArI Z h x0 .int 3 gc) (Ab : ArI Z h x2 .byte 12 g) (hne : x0 ≠ x2) (ge : n0 ≤ x2) (hc0 : gc 0 = c0) (hc1 : gc 1 = c1) (hp0 : 0 ≤ ((0 : Int32)).toInt ∧ ((0 : Int32)).toInt ≤ 8) (hp1 : 0 ≤ (((0 : Int32) + f2 c0)).toInt ∧ (((0 : Int32) + f2 c0)).toInt ≤ 8) : Ct l (⟨"termwright/index/FieldReader", "sortKey", "([II[B)I"⟩ : MethodName) prog_46_method_41_code 6 (some .int) ({ frames := 0, cells := 0, slots := 0, locals := 0 } : Room) Z #[(.ref x0), (.int (2 : Int32)), (.ref x2)] h n0 (fun v h' => v = some (.int (((0 : Int32) + f2 c0) + f2 c1)) ∧ Keep h h' [x2] ∧ ArI Z h' x2 .byte 12 (own_enc (own_enc g (0 : Int32) c0) ((0 : Int32) + f2 c0) c1)) :=
  Ct.of (plainFor_of_name pn_0) #[.val (.ref x0), .val (.int (2 : Int32)), .val (.ref x2), .unset, .unset, .unset] (fun m => by first | (simp [entryFrame, mkF, argsToLocals, Value.category]; done) | rfl) hw hn (fun p e s m below meth c T C X => bw1_n2 X C x0 x2 g gc c0 c1 Ac Ab hne ge hc0 hc1 hp0 hp1)
set_option maxRecDepth 65536 in
set_option maxHeartbeats 40000000 in
theorem bw1_n3 {p : Program} {l : Launch} {e : Env} {s : State} {m : MethodId} {args : Array Value} {below : List Frame} {meth : Method} {c : Code} {T : State} {h : Heap} {n0 : Nat} {Z : State} {a0 : Array Value} (X : Hr p l e ({ frames := 0, cells := 0, slots := 0, locals := 0 } : Room) s m args below meth c n0 h 0 0 T) (C : Cx p s m meth c prog_46_method_41_code 6 (some .int) "termwright/index/FieldReader" "sortKey" Z a0 tables_1) (x0 : Addr) (x2 : Addr) (g gc : Nat → Int32) (c0 c1 c2 : Int32) (Ac : ArI Z h x0 .int 3 gc) (Ab : ArI Z h x2 .byte 12 g) (hne : x0 ≠ x2) (ge : n0 ≤ x2) (hc0 : gc 0 = c0) (hc1 : gc 1 = c1) (hc2 : gc 2 = c2) (hp0 : 0 ≤ ((0 : Int32)).toInt ∧ ((0 : Int32)).toInt ≤ 8) (hp1 : 0 ≤ (((0 : Int32) + f2 c0)).toInt ∧ (((0 : Int32) + f2 c0)).toInt ≤ 8) (hp2 : 0 ≤ ((((0 : Int32) + f2 c0) + f2 c1)).toInt ∧ ((((0 : Int32) + f2 c0) + f2 c1)).toInt ≤ 8) : Goes p e below s n0 (fun v h' => v = some (.int ((((0 : Int32) + f2 c0) + f2 c1) + f2 c2)) ∧ Keep h h' [x2] ∧ ArI Z h' x2 .byte 12 (own_enc (own_enc (own_enc g (0 : Int32) c0) ((0 : Int32) + f2 c0) c1) (((0 : Int32) + f2 c0) + f2 c1) c2)) 0 0 T (mkF m 0 #[.val (.ref x0), .val (.int (3 : Int32)), .val (.ref x2), .unset, .unset, .unset] []) := by
  refine w_iconst (pc := 0) X C d1_0 (0 : Int32) rfl ?_
  refine w_istoreN (pc := 1) X C d1_1 #[.val (.ref x0), .val (.int (3 : Int32)), .val (.ref x2), .val (.int (0 : Int32)), .unset, .unset] rfl ?_
  refine w_iconst (pc := 2) X C d1_2 (0 : Int32) rfl ?_
  refine w_istore (pc := 3) X C d1_3 #[.val (.ref x0), .val (.int (3 : Int32)), .val (.ref x2), .val (.int (0 : Int32)), .val (.int (0 : Int32)), .unset] rfl ?_
  refine sk_turn X C x0 (3 : Int32) x2 (0 : Int32) (0 : Int32) (.unset) One.u g gc c0 Ac Ab hne ge (by decide) (by decide) hc0 hp0 (fun T1 h1 X1 K1 Ac1 Ab1 => ?_)
  refine sk_turn X1 C x0 (3 : Int32) x2 ((0 : Int32) + f2 c0) ((0 : Int32) + (1 : Int32)) (.val (.int c0)) (One.val rfl) (own_enc g (0 : Int32) c0) gc c1 Ac1 Ab1 hne ge (by decide) (by decide) hc1 hp1 (fun T2 h2 X2 K2 Ac2 Ab2 => ?_)
  have Kk2 : Keep h h2 [x2] := K1.trans K2 (fun _ hx => Or.inl hx)
  refine sk_turn X2 C x0 (3 : Int32) x2 (((0 : Int32) + f2 c0) + f2 c1) (((0 : Int32) + (1 : Int32)) + (1 : Int32)) (.val (.int c1)) (One.val rfl) (own_enc (own_enc g (0 : Int32) c0) ((0 : Int32) + f2 c0) c1) gc c2 Ac2 Ab2 hne ge (by decide) (by decide) hc2 hp2 (fun T3 h3 X3 K3 Ac3 Ab3 => ?_)
  have Kk3 : Keep h h3 [x2] := Kk2.trans K3 (fun _ hx => Or.inl hx)
  refine w_iload (pc := 5) X3 C d1_5 rfl ?_
  refine w_iloadN (pc := 7) X3 C d1_7 rfl ?_
  refine w_icmp_ge (pc := 8) X3 C d1_8 218 (by decide) (fun q4 => ?_) (fun q4 => absurd q4 (by decide))
  refine w_iloadN (pc := 218) X3 C d1_218 rfl ?_
  exact w_retI (pc := 219) X3 C d1_219 ⟨rfl, Kk3, Ab3⟩
theorem ct1_n3 (l : Launch) {Z : State} {a0 : Array Value} (hw : ∀ d ∈ tables_1, d.before a0 Z = true) (h : Heap) {n0 : Nat} (hn : n0 ≤ h.size) (x0 : Addr) (x2 : Addr) (g gc : Nat → Int32) (c0 c1 c2 : Int32) (Ac : ArI Z h x0 .int 3 gc) (Ab : ArI Z h x2 .byte 12 g) (hne : x0 ≠ x2) (ge : n0 ≤ x2) (hc0 : gc 0 = c0) (hc1 : gc 1 = c1) (hc2 : gc 2 = c2) (hp0 : 0 ≤ ((0 : Int32)).toInt ∧ ((0 : Int32)).toInt ≤ 8) (hp1 : 0 ≤ (((0 : Int32) + f2 c0)).toInt ∧ (((0 : Int32) + f2 c0)).toInt ≤ 8) (hp2 : 0 ≤ ((((0 : Int32) + f2 c0) + f2 c1)).toInt ∧ ((((0 : Int32) + f2 c0) + f2 c1)).toInt ≤ 8) : Ct l (⟨"termwright/index/FieldReader", "sortKey", "([II[B)I"⟩ : MethodName) prog_46_method_41_code 6 (some .int) ({ frames := 0, cells := 0, slots := 0, locals := 0 } : Room) Z #[(.ref x0), (.int (3 : Int32)), (.ref x2)] h n0 (fun v h' => v = some (.int ((((0 : Int32) + f2 c0) + f2 c1) + f2 c2)) ∧ Keep h h' [x2] ∧ ArI Z h' x2 .byte 12 (own_enc (own_enc (own_enc g (0 : Int32) c0) ((0 : Int32) + f2 c0) c1) (((0 : Int32) + f2 c0) + f2 c1) c2)) :=
  Ct.of (plainFor_of_name pn_0) #[.val (.ref x0), .val (.int (3 : Int32)), .val (.ref x2), .unset, .unset, .unset] (fun m => by first | (simp [entryFrame, mkF, argsToLocals, Value.category]; done) | rfl) hw hn (fun p e s m below meth c T C X => bw1_n3 X C x0 x2 g gc c0 c1 c2 Ac Ab hne ge hc0 hc1 hc2 hp0 hp1 hp2)
theorem own_cp (x : Int32) : 0 ≤ ((x &&& (2147483647 : Int32)) % (1114112 : Int32)).toInt ∧ ((x &&& (2147483647 : Int32)) % (1114112 : Int32)).toInt < 1114112 := by
  have h0 := c_and x (2147483647 : Int32) (by decide)
  have h1 := (c_irem (x &&& (2147483647 : Int32)) (1114112 : Int32) 1114112 rfl).1 h0.1
  omega
theorem own_n4 (x : Int32) : (x &&& (3 : Int32)) = 0 ∨ (x &&& (3 : Int32)) = 1 ∨ (x &&& (3 : Int32)) = 2 ∨ (x &&& (3 : Int32)) = 3 := by
  have h := c_and x (3 : Int32) (by decide)
  have e0 : (0 : Int32).toInt = 0 := rfl
  have e1 : (1 : Int32).toInt = 1 := rfl
  have e2 : (2 : Int32).toInt = 2 := rfl
  have e3 : (3 : Int32).toInt = 3 := rfl
  simp only [← Int32.toInt_inj, e0, e1, e2, e3] at *
  omega
theorem own_pb0 : 0 ≤ ((0 : Int32)).toInt ∧ ((0 : Int32)).toInt ≤ 8 := by decide
theorem own_pb1 (c0 : Int32) : 0 ≤ (((0 : Int32) + f2 c0)).toInt ∧ (((0 : Int32) + f2 c0)).toInt ≤ 8 := by
  rw [Int32.zero_add]; have := own_ul c0; omega
theorem own_uu (c0 c1 : Int32) : (f2 c0 + f2 c1).toInt = (f2 c0).toInt + (f2 c1).toInt := by
  have h0 := own_ul c0
  have h1 := own_ul c1
  exact add1 (f2 c1) _ rfl (by omega) (by omega)
theorem own_pb2 (c0 c1 : Int32) : 0 ≤ (((0 : Int32) + f2 c0 + f2 c1)).toInt ∧ (((0 : Int32) + f2 c0 + f2 c1)).toInt ≤ 8 := by
  rw [Int32.zero_add, own_uu]; have := own_ul c0; have := own_ul c1; omega
theorem own_pc0 : 0 ≤ ((0 : Int32)).toInt ∧ ((0 : Int32)).toInt ≤ 8 := by decide
theorem own_pc1 (c0 : Int32) : 0 ≤ (f2 c0).toInt ∧ (f2 c0).toInt ≤ 8 := by have := own_ul c0; omega
theorem own_pc2 (c0 c1 : Int32) : 0 ≤ (f2 c0 + f2 c1).toInt ∧ (f2 c0 + f2 c1).toInt ≤ 8 := by
  rw [own_uu]; have := own_ul c0; have := own_ul c1; omega
theorem own_low (g : Nat → Int32) (p c : Int32) (hp : 0 ≤ p.toInt ∧ p.toInt ≤ 8) (j : Nat) (h : j < nt p) : own_enc g p c j = g j := by
  have a1 := add1 (x := p) (1 : Int32) 1 rfl (by omega) (by omega)
  have a2 := add1 (x := p + (1 : Int32)) (1 : Int32) 1 rfl (by omega) (by omega)
  have a3 := add1 (x := p + (1 : Int32) + (1 : Int32)) (1 : Int32) 1 rfl (by omega) (by omega)
  unfold nt at h
  have n0 : ¬ (j = nt p) := by unfold nt; omega
  have n1 : ¬ (j = nt (p + (1 : Int32))) := by unfold nt; omega
  have n2 : ¬ (j = nt (p + (1 : Int32) + (1 : Int32))) := by unfold nt; omega
  have n3 : ¬ (j = nt (p + (1 : Int32) + (1 : Int32) + (1 : Int32))) := by unfold nt; omega
  unfold own_enc
  repeat' split
  all_goals simp only [up, n0, n1, n2, n3, if_false]
theorem own_four (c : Int32) : f2 c = 1 ∨ f2 c = 2 ∨ f2 c = 3 ∨ f2 c = 4 := by
  unfold f2; repeat' split
  · exact Or.inl rfl
  · exact Or.inr (Or.inl rfl)
  · exact Or.inr (Or.inr (Or.inl rfl))
  · exact Or.inr (Or.inr (Or.inr rfl))
theorem own_S (g : Nat → Int32) (p c p' c' : Int32) (hp : 0 ≤ p.toInt ∧ p.toInt ≤ 8) (hp' : 0 ≤ p'.toInt ∧ p'.toInt ≤ 8) (h : p.toInt + (f2 c).toInt ≤ p'.toInt) : f3 p c (own_enc g p' c') = f3 p c g := by
  have a1 := add1 (x := p) (1 : Int32) 1 rfl (by omega) (by omega)
  have a2 := add1 (x := p) (2 : Int32) 2 rfl (by omega) (by omega)
  have a3 := add1 (x := p) (3 : Int32) 3 rfl (by omega) (by omega)
  have l1 : (1 : Int32).toInt = 1 := rfl
  have l2 : (2 : Int32).toInt = 2 := rfl
  have l3 : (3 : Int32).toInt = 3 := rfl
  have l4 : (4 : Int32).toInt = 4 := rfl
  have k0 : own_enc g p' c' (nt p) = g (nt p) := own_low _ _ _ hp' _ (by have := own_ul c; unfold nt; omega)
  rcases own_four c with hl | hl | hl | hl
  · rw [hl] at h
    simp +decide only [f3, f3_89, f3_166, f3_255, hl, k0, if_true, if_false]
  · rw [hl] at h
    have k1 : own_enc g p' c' (nt (p + (1 : Int32))) = g (nt (p + (1 : Int32))) := own_low _ _ _ hp' _ (by unfold nt; omega)
    simp +decide only [f3, f3_89, f3_166, f3_255, hl, k0, k1, if_true, if_false]
  · rw [hl] at h
    have k1 : own_enc g p' c' (nt (p + (1 : Int32))) = g (nt (p + (1 : Int32))) := own_low _ _ _ hp' _ (by unfold nt; omega)
    have k2 : own_enc g p' c' (nt (p + (2 : Int32))) = g (nt (p + (2 : Int32))) := own_low _ _ _ hp' _ (by unfold nt; omega)
    simp +decide only [f3, f3_89, f3_166, f3_255, hl, k0, k1, k2, if_true, if_false]
  · rw [hl] at h
    have k1 : own_enc g p' c' (nt (p + (1 : Int32))) = g (nt (p + (1 : Int32))) := own_low _ _ _ hp' _ (by unfold nt; omega)
    have k2 : own_enc g p' c' (nt (p + (2 : Int32))) = g (nt (p + (2 : Int32))) := own_low _ _ _ hp' _ (by unfold nt; omega)
    have k3 : own_enc g p' c' (nt (p + (3 : Int32))) = g (nt (p + (3 : Int32))) := own_low _ _ _ hp' _ (by unfold nt; omega)
    simp +decide only [f3, f3_89, f3_166, f3_255, hl, k0, k1, k2, k3, if_true, if_false]
theorem own_byte (v : Int32) (h : 0 ≤ v.toInt ∧ v.toInt ≤ 255) : (i8 (i8 v) &&& (255 : Int32)) = v := by
  have e8 : i8 (i8 v) = i8 v := by unfold i8; simp
  rw [e8]
  apply Int32.toInt_inj.mp
  rw [Jvm.Kit.i32_mask (i8 v) 255 (k := 8) (by decide) (by decide)]
  have e : (i8 v).toInt = v.toInt.bmod (2 ^ 8) := by
    unfold i8
    rw [Int8.toInt_toInt32, Int32.toInt_toInt8]
  rw [e]
  have := Int.bmod_emod (x := v.toInt) (m := 2 ^ 8)
  omega
theorem own_256 {Q : Int32 → Prop} (h : ∀ k : Fin 256, Q (Int32.ofNat k.1)) (x : Int32) (hx : 0 ≤ x.toInt ∧ x.toInt ≤ 255) : Q x := by
  have e : Int32.ofNat x.toInt.toNat = x := by
    apply Int32.toInt_inj.mp
    rw [Int32.toInt_ofNat_small (by omega)]; omega
  have q := h ⟨x.toInt.toNat, by omega⟩
  rw [e] at q
  exact q
theorem own_t2 : ∀ k : Fin 256, (192 ≤ (Int32.ofNat k.1).toInt ∧ (Int32.ofNat k.1).toInt < 224) → (Int32.ofNat k.1 &&& (224 : Int32)) = (192 : Int32) := by decide +kernel
theorem own_t3 : ∀ k : Fin 256, (224 ≤ (Int32.ofNat k.1).toInt ∧ (Int32.ofNat k.1).toInt < 240) → (Int32.ofNat k.1 &&& (240 : Int32)) = (224 : Int32) := by decide +kernel
theorem own_t4 : ∀ k : Fin 256, (240 ≤ (Int32.ofNat k.1).toInt ∧ (Int32.ofNat k.1).toInt < 248) → (Int32.ofNat k.1 &&& (248 : Int32)) = (240 : Int32) := by decide +kernel
theorem own_tc : ∀ k : Fin 256, (128 ≤ (Int32.ofNat k.1).toInt ∧ (Int32.ofNat k.1).toInt < 192) → (Int32.ofNat k.1 &&& (192 : Int32)) = (128 : Int32) := by decide +kernel
theorem own_ct (x : Int32) (h : 128 ≤ x.toInt ∧ x.toInt < 192) : f4 x = 1 := by
  have q := own_256 (Q := fun y => (128 ≤ y.toInt ∧ y.toInt < 192) → (y &&& (192 : Int32)) = (128 : Int32)) own_tc x (by omega) h
  unfold f4; rw [if_pos q]
theorem own_cb (y : Int32) (h : 0 ≤ y.toInt) : ((128 : Int32) ||| (y &&& (63 : Int32))).toInt = 128 + y.toInt % 64 := by
  have m := Jvm.Kit.i32_mask y 63 (k := 6) (by decide) (by decide)
  have o := c_or (128 : Int32) (y &&& (63 : Int32)) 6 (by decide) 64 rfl (by decide) (by omega) (by omega)
  have e : (128 : Int32).toInt = 128 := rfl
  have r := rng32 ((128 : Int32) ||| (y &&& (63 : Int32)))
  omega
theorem own_hb (a y : Int32) (A : Int) (k : Nat) (P : Int) (hk : k ≤ 31) (hP : P = (2 ^ k : Nat)) (ha : a.toInt = A) (h0 : A % P = 0) (h1 : 0 ≤ A ∧ A + P < 2147483648) (hy : 0 ≤ y.toInt) (hy2 : y.toInt < P) : (a ||| y).toInt = A + y.toInt := by
  have o := c_or a y k hk P hP (by rw [ha]; exact h0) hy hy2
  have r := rng32 (a ||| y)
  omega
theorem own_m63 (y : Int32) : (y &&& (63 : Int32)).toInt = y.toInt % 64 := Jvm.Kit.i32_mask y 63 (k := 6) (by decide) (by decide)
theorem own_sl (x : Int32) (n : Int32) (k : Nat) (hk : n.toBitVec.toNat % 32 = k) (h : 0 ≤ x.toInt ∧ x.toInt * (2 ^ k : Nat) < 2147483648) : (shlI x n).toInt = x.toInt * (2 ^ k : Nat) := by
  have h1 : ((shlI x n).toInt - x.toInt * (2 ^ k : Nat)) % 4294967296 = 0 := c_ishl x n k hk
  have r := rng32 (shlI x n)
  have h2 : 0 ≤ x.toInt * (2 ^ k : Nat) := Int.mul_nonneg h.1 (Int.natCast_nonneg _)
  omega
theorem own_E (g : Nat → Int32) (p c : Int32) (hp : 0 ≤ p.toInt ∧ p.toInt ≤ 8) (hc : 0 ≤ c.toInt ∧ c.toInt < 1114112) : f3 p c (own_enc g p c) = 1 := by
  have a1 := add1 (x := p) (1 : Int32) 1 rfl (by omega) (by omega)
  have a2 := add1 (x := p) (2 : Int32) 2 rfl (by omega) (by omega)
  have a3 := add1 (x := p) (3 : Int32) 3 rfl (by omega) (by omega)
  have b2 : p + (1 : Int32) + (1 : Int32) = p + (2 : Int32) := by rw [Int32.add_assoc]; rfl
  have b3 : p + (2 : Int32) + (1 : Int32) = p + (3 : Int32) := by rw [Int32.add_assoc]; rfl
  have d01 : ¬ (nt p = nt (p + (1 : Int32))) := by unfold nt; omega
  have d02 : ¬ (nt p = nt (p + (2 : Int32))) := by unfold nt; omega
  have d03 : ¬ (nt p = nt (p + (3 : Int32))) := by unfold nt; omega
  have d12 : ¬ (nt (p + (1 : Int32)) = nt (p + (2 : Int32))) := by unfold nt; omega
  have d13 : ¬ (nt (p + (1 : Int32)) = nt (p + (3 : Int32))) := by unfold nt; omega
  have d23 : ¬ (nt (p + (2 : Int32)) = nt (p + (3 : Int32))) := by unfold nt; omega
  have L1 : (128 : Int32).toInt = 128 := rfl
  have L2 : (2048 : Int32).toInt = 2048 := rfl
  have L3 : (65536 : Int32).toInt = 65536 := rfl
  have s6 : (shrI c (6 : Int32)).toInt = c.toInt / (2 ^ 6 : Nat) := c_ishr c (6 : Int32) 6 rfl
  have s12 : (shrI c (12 : Int32)).toInt = c.toInt / (2 ^ 12 : Nat) := c_ishr c (12 : Int32) 12 rfl
  have s18 : (shrI c (18 : Int32)).toInt = c.toInt / (2 ^ 18 : Nat) := c_ishr c (18 : Int32) 18 rfl
  have m0 := own_cb c hc.1
  have m6 := own_cb (shrI c (6 : Int32)) (by omega)
  have m12 := own_cb (shrI c (12 : Int32)) (by omega)
  by_cases q1 : c < (128 : Int32)
  · have hl : f2 c = 1 := by unfold f2; rw [if_pos q1]
    rw [Int32.lt_iff_toInt_lt] at q1
    have k0 : own_enc g p c (nt p) = i8 (i8 c) := by
      unfold own_enc; rw [if_pos (Int32.lt_iff_toInt_lt.mpr q1)]; simp only [up, if_true]
    simp +decide only [f3, f3_89, f3_166, f3_255, hl, k0, own_byte c (by omega), if_true, if_false]
  by_cases q2 : c < (2048 : Int32)
  · have hl : f2 c = 2 := by unfold f2; rw [if_neg q1, if_pos q2]
    have eg : own_enc g p c = up (up g (nt p) (i8 (i8 ((192 : Int32) ||| (shrI c (6 : Int32)))))) (nt (p + (1 : Int32))) (i8 (i8 ((128 : Int32) ||| (c &&& (63 : Int32))))) := by
      unfold own_enc; rw [if_neg q1, if_pos q2]
    have t1 := Int32.le_iff_toInt_le.mp (Int32.not_lt.mp q1)
    have t2 := Int32.lt_iff_toInt_lt.mp q2
    have v0 := own_hb (192 : Int32) (shrI c (6 : Int32)) 192 6 64 (by decide) rfl rfl (by decide) (by decide) (by omega) (by omega)
    have k0 : (own_enc g p c (nt p) &&& (255 : Int32)) = ((192 : Int32) ||| (shrI c (6 : Int32))) := by
      rw [eg]; simp only [up, d01, if_true, if_false]; exact own_byte _ (by omega)
    have k1 : (own_enc g p c (nt (p + (1 : Int32))) &&& (255 : Int32)) = ((128 : Int32) ||| (c &&& (63 : Int32))) := by
      rw [eg]; simp only [up, if_true]; exact own_byte _ (by omega)
    generalize ((192 : Int32) ||| (shrI c (6 : Int32))) = B0 at *
    generalize ((128 : Int32) ||| (c &&& (63 : Int32))) = B1 at *
    have c1 := own_ct B1 (by omega)
    have w0 := own_256 (Q := fun y => (192 ≤ y.toInt ∧ y.toInt < 224) → (y &&& (224 : Int32)) = (192 : Int32)) own_t2 B0 (by omega) (by omega)
    have f0 : (B0 &&& (31 : Int32)).toInt = B0.toInt % 32 := Jvm.Kit.i32_mask B0 31 (k := 5) (by decide) (by decide)
    have f1 := own_m63 B1
    have g0 := own_sl (B0 &&& (31 : Int32)) (6 : Int32) 6 rfl (by omega)
    have fin : ((shlI (B0 &&& (31 : Int32)) (6 : Int32)) ||| (B1 &&& (63 : Int32))) = c := by
      have o := c_or (shlI (B0 &&& (31 : Int32)) (6 : Int32)) (B1 &&& (63 : Int32)) 6 (by decide) 64 rfl (by omega) (by omega) (by omega)
      have r := rng32 ((shlI (B0 &&& (31 : Int32)) (6 : Int32)) ||| (B1 &&& (63 : Int32)))
      apply Int32.toInt_inj.mp; omega
    simp +decide only [f3, f3_89, f3_166, f3_255, hl, k0, k1, c1, w0, fin, if_true, if_false]
  by_cases q3 : c < (65536 : Int32)
  · have hl : f2 c = 3 := by unfold f2; rw [if_neg q1, if_neg q2, if_pos q3]
    have eg : own_enc g p c = up (up (up g (nt p) (i8 (i8 ((224 : Int32) ||| (shrI c (12 : Int32)))))) (nt (p + (1 : Int32))) (i8 (i8 ((128 : Int32) ||| ((shrI c (6 : Int32)) &&& (63 : Int32)))))) (nt (p + (2 : Int32))) (i8 (i8 ((128 : Int32) ||| (c &&& (63 : Int32))))) := by
      unfold own_enc; rw [if_neg q1, if_neg q2, if_pos q3, b2]
    have t2 := Int32.le_iff_toInt_le.mp (Int32.not_lt.mp q2)
    have t3 := Int32.lt_iff_toInt_lt.mp q3
    have v0 := own_hb (224 : Int32) (shrI c (12 : Int32)) 224 5 32 (by decide) rfl rfl (by decide) (by decide) (by omega) (by omega)
    have k0 : (own_enc g p c (nt p) &&& (255 : Int32)) = ((224 : Int32) ||| (shrI c (12 : Int32))) := by
      rw [eg]; simp only [up, d01, d02, if_true, if_false]; exact own_byte _ (by omega)
    have k1 : (own_enc g p c (nt (p + (1 : Int32))) &&& (255 : Int32)) = ((128 : Int32) ||| ((shrI c (6 : Int32)) &&& (63 : Int32))) := by
      rw [eg]; simp only [up, d12, if_true, if_false]; exact own_byte _ (by omega)
    have k2 : (own_enc g p c (nt (p + (2 : Int32))) &&& (255 : Int32)) = ((128 : Int32) ||| (c &&& (63 : Int32))) := by
      rw [eg]; simp only [up, if_true]; exact own_byte _ (by omega)
    generalize ((224 : Int32) ||| (shrI c (12 : Int32))) = B0 at *
    generalize ((128 : Int32) ||| ((shrI c (6 : Int32)) &&& (63 : Int32))) = B1 at *
    generalize ((128 : Int32) ||| (c &&& (63 : Int32))) = B2 at *
    have c1 := own_ct B1 (by omega)
    have c2 := own_ct B2 (by omega)
    have w0 := own_256 (Q := fun y => (224 ≤ y.toInt ∧ y.toInt < 240) → (y &&& (240 : Int32)) = (224 : Int32)) own_t3 B0 (by omega) (by omega)
    have f0 : (B0 &&& (15 : Int32)).toInt = B0.toInt % 16 := Jvm.Kit.i32_mask B0 15 (k := 4) (by decide) (by decide)
    have f1 := own_m63 B1
    have f2' := own_m63 B2
    have g0 := own_sl (B0 &&& (15 : Int32)) (12 : Int32) 12 rfl (by omega)
    have g1 := own_sl (B1 &&& (63 : Int32)) (6 : Int32) 6 rfl (by omega)
    have fin : (((shlI (B0 &&& (15 : Int32)) (12 : Int32)) ||| (shlI (B1 &&& (63 : Int32)) (6 : Int32))) ||| (B2 &&& (63 : Int32))) = c := by
      have o := c_or (shlI (B0 &&& (15 : Int32)) (12 : Int32)) (shlI (B1 &&& (63 : Int32)) (6 : Int32)) 12 (by decide) 4096 rfl (by omega) (by omega) (by omega)
      have r := rng32 ((shlI (B0 &&& (15 : Int32)) (12 : Int32)) ||| (shlI (B1 &&& (63 : Int32)) (6 : Int32)))
      generalize ((shlI (B0 &&& (15 : Int32)) (12 : Int32)) ||| (shlI (B1 &&& (63 : Int32)) (6 : Int32))) = D at *
      have o2 := c_or D (B2 &&& (63 : Int32)) 6 (by decide) 64 rfl (by omega) (by omega) (by omega)
      have r2 := rng32 (D ||| (B2 &&& (63 : Int32)))
      apply Int32.toInt_inj.mp; omega
    simp +decide only [f3, f3_89, f3_166, f3_255, hl, k0, k1, k2, c1, c2, w0, fin, if_true, if_false]
  · have hl : f2 c = 4 := by unfold f2; rw [if_neg q1, if_neg q2, if_neg q3]
    have eg : own_enc g p c = up (up (up (up g (nt p) (i8 (i8 ((240 : Int32) ||| (shrI c (18 : Int32)))))) (nt (p + (1 : Int32))) (i8 (i8 ((128 : Int32) ||| ((shrI c (12 : Int32)) &&& (63 : Int32)))))) (nt (p + (2 : Int32))) (i8 (i8 ((128 : Int32) ||| ((shrI c (6 : Int32)) &&& (63 : Int32)))))) (nt (p + (3 : Int32))) (i8 (i8 ((128 : Int32) ||| (c &&& (63 : Int32))))) := by
      unfold own_enc; rw [if_neg q1, if_neg q2, if_neg q3, b2, b3]
    have t3 := Int32.le_iff_toInt_le.mp (Int32.not_lt.mp q3)
    have v0 := own_hb (240 : Int32) (shrI c (18 : Int32)) 240 4 16 (by decide) rfl rfl (by decide) (by decide) (by omega) (by omega)
    have k0 : (own_enc g p c (nt p) &&& (255 : Int32)) = ((240 : Int32) ||| (shrI c (18 : Int32))) := by
      rw [eg]; simp only [up, d01, d02, d03, if_true, if_false]; exact own_byte _ (by omega)
    have k1 : (own_enc g p c (nt (p + (1 : Int32))) &&& (255 : Int32)) = ((128 : Int32) ||| ((shrI c (12 : Int32)) &&& (63 : Int32))) := by
      rw [eg]; simp only [up, d12, d13, if_true, if_false]; exact own_byte _ (by omega)
    have k2 : (own_enc g p c (nt (p + (2 : Int32))) &&& (255 : Int32)) = ((128 : Int32) ||| ((shrI c (6 : Int32)) &&& (63 : Int32))) := by
      rw [eg]; simp only [up, d23, if_true, if_false]; exact own_byte _ (by omega)
    have k3 : (own_enc g p c (nt (p + (3 : Int32))) &&& (255 : Int32)) = ((128 : Int32) ||| (c &&& (63 : Int32))) := by
      rw [eg]; simp only [up, if_true]; exact own_byte _ (by omega)
    generalize ((240 : Int32) ||| (shrI c (18 : Int32))) = B0 at *
    generalize ((128 : Int32) ||| ((shrI c (12 : Int32)) &&& (63 : Int32))) = B1 at *
    generalize ((128 : Int32) ||| ((shrI c (6 : Int32)) &&& (63 : Int32))) = B2 at *
    generalize ((128 : Int32) ||| (c &&& (63 : Int32))) = B3 at *
    have c1 := own_ct B1 (by omega)
    have c2 := own_ct B2 (by omega)
    have c3 := own_ct B3 (by omega)
    have w0 := own_256 (Q := fun y => (240 ≤ y.toInt ∧ y.toInt < 248) → (y &&& (248 : Int32)) = (240 : Int32)) own_t4 B0 (by omega) (by omega)
    have f0 : (B0 &&& (7 : Int32)).toInt = B0.toInt % 8 := Jvm.Kit.i32_mask B0 7 (k := 3) (by decide) (by decide)
    have f1 := own_m63 B1
    have f2' := own_m63 B2
    have f3' := own_m63 B3
    have g0 := own_sl (B0 &&& (7 : Int32)) (18 : Int32) 18 rfl (by omega)
    have g1 := own_sl (B1 &&& (63 : Int32)) (12 : Int32) 12 rfl (by omega)
    have g2 := own_sl (B2 &&& (63 : Int32)) (6 : Int32) 6 rfl (by omega)
    have fin : ((((shlI (B0 &&& (7 : Int32)) (18 : Int32)) ||| (shlI (B1 &&& (63 : Int32)) (12 : Int32))) ||| (shlI (B2 &&& (63 : Int32)) (6 : Int32))) ||| (B3 &&& (63 : Int32))) = c := by
      have o := c_or (shlI (B0 &&& (7 : Int32)) (18 : Int32)) (shlI (B1 &&& (63 : Int32)) (12 : Int32)) 18 (by decide) 262144 rfl (by omega) (by omega) (by omega)
      have r := rng32 ((shlI (B0 &&& (7 : Int32)) (18 : Int32)) ||| (shlI (B1 &&& (63 : Int32)) (12 : Int32)))
      generalize ((shlI (B0 &&& (7 : Int32)) (18 : Int32)) ||| (shlI (B1 &&& (63 : Int32)) (12 : Int32))) = D at *
      have o2 := c_or D (shlI (B2 &&& (63 : Int32)) (6 : Int32)) 12 (by decide) 4096 rfl (by omega) (by omega) (by omega)
      have r2 := rng32 (D ||| (shlI (B2 &&& (63 : Int32)) (6 : Int32)))
      generalize (D ||| (shlI (B2 &&& (63 : Int32)) (6 : Int32))) = F at *
      have o3 := c_or F (B3 &&& (63 : Int32)) 6 (by decide) 64 rfl (by omega) (by omega) (by omega)
      have r3 := rng32 (F ||| (B3 &&& (63 : Int32)))
      apply Int32.toInt_inj.mp; omega
    simp +decide only [f3, f3_89, f3_166, f3_255, hl, k0, k1, k2, k3, c1, c2, c3, w0, fin, if_true, if_false]
theorem own_f1_0 (g : Nat → Int32) (c0 : Int32) (hc0 : 0 ≤ c0.toInt ∧ c0.toInt < 1114112) : f3 (0 : Int32) c0 (own_enc g (0 : Int32) c0) = 1 := by
  try simp only [Int32.zero_add]
  have u0 := own_ul c0
  have z0 : (0 : Int32).toInt = 0 := rfl
  exact own_E _ _ _ (by omega) hc0
theorem own_f2_0 (g : Nat → Int32) (c0 c1 : Int32) (hc0 : 0 ≤ c0.toInt ∧ c0.toInt < 1114112) (hc1 : 0 ≤ c1.toInt ∧ c1.toInt < 1114112) : f3 (0 : Int32) c0 (own_enc (own_enc g (0 : Int32) c0) ((0 : Int32) + f2 c0) c1) = 1 := by
  try simp only [Int32.zero_add]
  have u0 := own_ul c0
  have u1 := own_ul c1
  have uu := own_uu c0 c1
  have z0 : (0 : Int32).toInt = 0 := rfl
  rw [own_S _ _ _ _ _ (by omega) (by omega) (by omega)]
  exact own_E _ _ _ (by omega) hc0
theorem own_f2_1 (g : Nat → Int32) (c0 c1 : Int32) (hc0 : 0 ≤ c0.toInt ∧ c0.toInt < 1114112) (hc1 : 0 ≤ c1.toInt ∧ c1.toInt < 1114112) : f3 (f2 c0) c1 (own_enc (own_enc g (0 : Int32) c0) ((0 : Int32) + f2 c0) c1) = 1 := by
  try simp only [Int32.zero_add]
  have u0 := own_ul c0
  have u1 := own_ul c1
  have uu := own_uu c0 c1
  have z0 : (0 : Int32).toInt = 0 := rfl
  exact own_E _ _ _ (by omega) hc1
theorem own_f3_0 (g : Nat → Int32) (c0 c1 c2 : Int32) (hc0 : 0 ≤ c0.toInt ∧ c0.toInt < 1114112) (hc1 : 0 ≤ c1.toInt ∧ c1.toInt < 1114112) (hc2 : 0 ≤ c2.toInt ∧ c2.toInt < 1114112) : f3 (0 : Int32) c0 (own_enc (own_enc (own_enc g (0 : Int32) c0) ((0 : Int32) + f2 c0) c1) (((0 : Int32) + f2 c0) + f2 c1) c2) = 1 := by
  try simp only [Int32.zero_add]
  have u0 := own_ul c0
  have u1 := own_ul c1
  have uu := own_uu c0 c1
  have u2 := own_ul c2
  have z0 : (0 : Int32).toInt = 0 := rfl
  rw [own_S _ _ _ _ _ (by omega) (by omega) (by omega)]
  rw [own_S _ _ _ _ _ (by omega) (by omega) (by omega)]
  exact own_E _ _ _ (by omega) hc0
theorem own_f3_1 (g : Nat → Int32) (c0 c1 c2 : Int32) (hc0 : 0 ≤ c0.toInt ∧ c0.toInt < 1114112) (hc1 : 0 ≤ c1.toInt ∧ c1.toInt < 1114112) (hc2 : 0 ≤ c2.toInt ∧ c2.toInt < 1114112) : f3 (f2 c0) c1 (own_enc (own_enc (own_enc g (0 : Int32) c0) ((0 : Int32) + f2 c0) c1) (((0 : Int32) + f2 c0) + f2 c1) c2) = 1 := by
  try simp only [Int32.zero_add]
  have u0 := own_ul c0
  have u1 := own_ul c1
  have uu := own_uu c0 c1
  have u2 := own_ul c2
  have z0 : (0 : Int32).toInt = 0 := rfl
  rw [own_S _ _ _ _ _ (by omega) (by omega) (by omega)]
  exact own_E _ _ _ (by omega) hc1
theorem own_f3_2 (g : Nat → Int32) (c0 c1 c2 : Int32) (hc0 : 0 ≤ c0.toInt ∧ c0.toInt < 1114112) (hc1 : 0 ≤ c1.toInt ∧ c1.toInt < 1114112) (hc2 : 0 ≤ c2.toInt ∧ c2.toInt < 1114112) : f3 (f2 c0 + f2 c1) c2 (own_enc (own_enc (own_enc g (0 : Int32) c0) ((0 : Int32) + f2 c0) c1) (((0 : Int32) + f2 c0) + f2 c1) c2) = 1 := by
  try simp only [Int32.zero_add]
  have u0 := own_ul c0
  have u1 := own_ul c1
  have uu := own_uu c0 c1
  have u2 := own_ul c2
  have z0 : (0 : Int32).toInt = 0 := rfl
  exact own_E _ _ _ (by omega) hc2
set_option maxRecDepth 65536 in
set_option maxHeartbeats 40000000 in
theorem law_walk {p : Program} {l : Launch} {e : Env} {s : State} {m : MethodId} {args : Array Value} {below : List Frame} {meth : Method} {c : Code} {T : State} {h : Heap} {n0 : Nat} {Z : State} {a0 : Array Value} (X : Hr p l e room_1 s m args below meth c n0 h 0 0 T) (C : Cx p s m meth c code maxLocals ret "termwright/index/FieldReaderSortKeyPinLaw" "law" Z a0 tables_1) (x0 : Int32) (x1 : Int32) (x2 : Int32) (x3 : Int32) : Goes p e below s n0 (fun v _ => v = some (.int 1)) room_1.cells room_1.slots T (mkF m 0 #[.val (.int x0), .val (.int x1), .val (.int x2), .val (.int x3), .unset, .unset, .unset, .unset, .unset, .unset, .unset, .unset, .unset, .unset, .unset] []) := by
  refine w_iloadN (pc := 0) X C at_0 rfl ?_
  refine w_ldcI (pc := 1) X C at_1 (v := (2147483647 : Int32)) (List.mem_of_getElem? (i := 0) rfl) ?_
  refine w_iand (pc := 3) X C at_3 ?_
  refine w_ldcI (pc := 4) X C at_4 (v := (1114112 : Int32)) (List.mem_of_getElem? (i := 1) rfl) ?_
  refine w_irem (pc := 6) X C at_6 (by decide) ?_
  obtain ⟨c0, e_c0⟩ : ∃ z, z = ((x0 &&& (2147483647 : Int32)) % (1114112 : Int32)) := ⟨_, rfl⟩
  rw [← e_c0]
  have hc0 : 0 ≤ c0.toInt ∧ c0.toInt < 1114112 := by rw [e_c0]; exact own_cp _
  refine w_istore (pc := 7) X C at_7 #[.val (.int x0), .val (.int x1), .val (.int x2), .val (.int x3), .val (.int c0), .unset, .unset, .unset, .unset, .unset, .unset, .unset, .unset, .unset, .unset] rfl ?_
  refine w_iloadN (pc := 9) X C at_9 rfl ?_
  refine w_ldcI (pc := 10) X C at_10 (v := (2147483647 : Int32)) (List.mem_of_getElem? (i := 0) rfl) ?_
  refine w_iand (pc := 12) X C at_12 ?_
  refine w_ldcI (pc := 13) X C at_13 (v := (1114112 : Int32)) (List.mem_of_getElem? (i := 1) rfl) ?_
  refine w_irem (pc := 15) X C at_15 (by decide) ?_
  obtain ⟨c1, e_c1⟩ : ∃ z, z = ((x1 &&& (2147483647 : Int32)) % (1114112 : Int32)) := ⟨_, rfl⟩
  rw [← e_c1]
  have hc1 : 0 ≤ c1.toInt ∧ c1.toInt < 1114112 := by rw [e_c1]; exact own_cp _
  refine w_istore (pc := 16) X C at_16 #[.val (.int x0), .val (.int x1), .val (.int x2), .val (.int x3), .val (.int c0), .val (.int c1), .unset, .unset, .unset, .unset, .unset, .unset, .unset, .unset, .unset] rfl ?_
  refine w_iloadN (pc := 18) X C at_18 rfl ?_
  refine w_ldcI (pc := 19) X C at_19 (v := (2147483647 : Int32)) (List.mem_of_getElem? (i := 0) rfl) ?_
  refine w_iand (pc := 21) X C at_21 ?_
  refine w_ldcI (pc := 22) X C at_22 (v := (1114112 : Int32)) (List.mem_of_getElem? (i := 1) rfl) ?_
  refine w_irem (pc := 24) X C at_24 (by decide) ?_
  obtain ⟨c2, e_c2⟩ : ∃ z, z = ((x2 &&& (2147483647 : Int32)) % (1114112 : Int32)) := ⟨_, rfl⟩
  rw [← e_c2]
  have hc2 : 0 ≤ c2.toInt ∧ c2.toInt < 1114112 := by rw [e_c2]; exact own_cp _
  refine w_istore (pc := 25) X C at_25 #[.val (.int x0), .val (.int x1), .val (.int x2), .val (.int x3), .val (.int c0), .val (.int c1), .val (.int c2), .unset, .unset, .unset, .unset, .unset, .unset, .unset, .unset] rfl ?_
  refine w_iloadN (pc := 27) X C at_27 rfl ?_
  refine w_iconst (pc := 28) X C at_28 (3 : Int32) rfl ?_
  refine w_iand (pc := 29) X C at_29 ?_
  rcases own_n4 x3 with ec | ec | ec | ec
  · rw [ec]
    refine w_istore (pc := 30) X C at_30 #[.val (.int x0), .val (.int x1), .val (.int x2), .val (.int x3), .val (.int c0), .val (.int c1), .val (.int c2), .val (.int (0 : Int32)), .unset, .unset, .unset, .unset, .unset, .unset, .unset] rfl ?_
    refine w_iconst (pc := 32) X C at_32 (3 : Int32) rfl ?_
    refine w_new_int (pc := 33) X C at_33 (List.mem_of_getElem? (i := 2) rfl) 3 rfl 3 (by decide) (by decide) (by decide) (by decide) (fun T1 h1 a1 ha1 hb1 X1 E1 A1 => ?_)
    refine w_dup (pc := 35) X1 C at_35 rfl ?_
    refine w_iconst (pc := 36) X1 C at_36 (0 : Int32) rfl ?_
    refine w_iload (pc := 37) X1 C at_37 rfl ?_
    refine w_iastore (pc := 39) X1 C at_39 A1 0 rfl (by decide) hb1 (fun T2 h2 X2 W2 A2 => ?_)
    obtain ⟨g2, hg2⟩ : ∃ z, z = up (fun _ => 0) 0 c0 := ⟨_, rfl⟩
    rw [← hg2] at A2
    refine w_dup (pc := 40) X2 C at_40 rfl ?_
    refine w_iconst (pc := 41) X2 C at_41 (1 : Int32) rfl ?_
    refine w_iload (pc := 42) X2 C at_42 rfl ?_
    refine w_iastore (pc := 44) X2 C at_44 A2 1 rfl (by decide) hb1 (fun T3 h3 X3 W3 A3 => ?_)
    obtain ⟨g3, hg3⟩ : ∃ z, z = up g2 1 c1 := ⟨_, rfl⟩
    rw [← hg3] at A3
    refine w_dup (pc := 45) X3 C at_45 rfl ?_
    refine w_iconst (pc := 46) X3 C at_46 (2 : Int32) rfl ?_
    refine w_iload (pc := 47) X3 C at_47 rfl ?_
    refine w_iastore (pc := 49) X3 C at_49 A3 2 rfl (by decide) hb1 (fun T4 h4 X4 W4 A4 => ?_)
    obtain ⟨g4, hg4⟩ : ∃ z, z = up g3 2 c2 := ⟨_, rfl⟩
    rw [← hg4] at A4
    refine w_astore (pc := 50) X4 C at_50 #[.val (.int x0), .val (.int x1), .val (.int x2), .val (.int x3), .val (.int c0), .val (.int c1), .val (.int c2), .val (.int (0 : Int32)), .val (.ref a1), .unset, .unset, .unset, .unset, .unset, .unset] rfl rfl ?_
    refine w_bipush (pc := 52) X4 C at_52 (12 : Int32) rfl ?_
    refine w_new_byte (pc := 54) X4 C at_54 (List.mem_of_getElem? (i := 3) rfl) 12 rfl 12 (by decide) (by decide) (by decide) (by decide) (fun T5 h5 a5 ha5 hb5 X5 E5 A5 => ?_)
    have ne_a1_a5 : a1 ≠ a5 := Nat.ne_of_lt (by rw [ha5]; exact A4.lt)
    have Ak6 := A4.ext E5
    refine w_astore (pc := 56) X5 C at_56 #[.val (.int x0), .val (.int x1), .val (.int x2), .val (.int x3), .val (.int c0), .val (.int c1), .val (.int c2), .val (.int (0 : Int32)), .val (.ref a1), .val (.ref a5), .unset, .unset, .unset, .unset, .unset] rfl rfl ?_
    refine w_aload (pc := 58) X5 C at_58 rfl rfl ?_
    refine w_iload (pc := 60) X5 C at_60 rfl ?_
    refine w_aload (pc := 62) X5 C at_62 rfl rfl ?_
    refine w_callS (pc := 64) X5 C (y := (⟨"termwright/index/FieldReader", "sortKey", "([II[B)I"⟩ : MethodName)) (bytes := prog_46_method_41_code) (maxL := 6) (rt := (some .int)) (argsL := [(.ref a1), (.int (0 : Int32)), (.ref a5)]) (rest := []) (W := 0) at_64 (List.mem_of_getElem? (i := 4) rfl) (List.mem_of_getElem? (i := 5) rfl) (List.mem_of_getElem? (i := 6) rfl) (List.mem_of_getElem? (i := 7) rfl) (by decide) (ct1_n0 l C.2.2.2.2.2.2.2.2 _ X5.size (a1) (a5) (fun _ => 0) g4 Ak6 A5 ne_a1_a5 hb5) rfl ⟨_, _, pd_2, rfl⟩ rfl (Nat.le_of_eq rfl) (by decide) (by decide) (by decide) (by decide) (fun v_7 T7 P7 X7 => ?_)
    obtain ⟨rfl, K7, A7⟩ := P7
    obtain ⟨gg, hgg⟩ : ∃ z : Nat → Int32, z = (fun _ => 0) := ⟨_, rfl⟩
    rw [← hgg] at A7
    refine w_istore (pc := 67) X7 C at_67 #[.val (.int x0), .val (.int x1), .val (.int x2), .val (.int x3), .val (.int c0), .val (.int c1), .val (.int c2), .val (.int (0 : Int32)), .val (.ref a1), .val (.ref a5), .val (.int (0 : Int32)), .unset, .unset, .unset, .unset] rfl ?_
    refine w_iload (pc := 69) X7 C at_69 rfl ?_
    refine w_if_le (pc := 71) X7 C at_71 82 (by decide) (fun q8 => ?_) (fun q8 => absurd q8 (by decide))
    refine w_iconst (pc := 82) X7 C at_82 (0 : Int32) rfl ?_
    refine w_istore (pc := 83) X7 C at_83 #[.val (.int x0), .val (.int x1), .val (.int x2), .val (.int x3), .val (.int c0), .val (.int c1), .val (.int c2), .val (.int (0 : Int32)), .val (.ref a1), .val (.ref a5), .val (.int (0 : Int32)), .val (.int (0 : Int32)), .unset, .unset, .unset] rfl ?_
    refine w_iload (pc := 85) X7 C at_85 rfl ?_
    refine w_iconst (pc := 87) X7 C at_87 (1 : Int32) rfl ?_
    refine w_icmp_le (pc := 88) X7 C at_88 99 (by decide) (fun q9 => ?_) (fun q9 => absurd q9 (by decide))
    refine w_iconst (pc := 99) X7 C at_99 (0 : Int32) rfl ?_
    refine w_istore (pc := 100) X7 C at_100 #[.val (.int x0), .val (.int x1), .val (.int x2), .val (.int x3), .val (.int c0), .val (.int c1), .val (.int c2), .val (.int (0 : Int32)), .val (.ref a1), .val (.ref a5), .val (.int (0 : Int32)), .val (.int (0 : Int32)), .val (.int (0 : Int32)), .unset, .unset] rfl ?_
    refine w_iload (pc := 102) X7 C at_102 rfl ?_
    refine w_iconst (pc := 104) X7 C at_104 (2 : Int32) rfl ?_
    refine w_icmp_le (pc := 105) X7 C at_105 116 (by decide) (fun q10 => ?_) (fun q10 => absurd q10 (by decide))
    refine w_iconst (pc := 116) X7 C at_116 (0 : Int32) rfl ?_
    refine w_istore (pc := 117) X7 C at_117 #[.val (.int x0), .val (.int x1), .val (.int x2), .val (.int x3), .val (.int c0), .val (.int c1), .val (.int c2), .val (.int (0 : Int32)), .val (.ref a1), .val (.ref a5), .val (.int (0 : Int32)), .val (.int (0 : Int32)), .val (.int (0 : Int32)), .val (.int (0 : Int32)), .unset] rfl ?_
    refine w_iload (pc := 119) X7 C at_119 rfl ?_
    refine w_iload (pc := 121) X7 C at_121 rfl ?_
    refine w_iload (pc := 123) X7 C at_123 rfl ?_
    refine w_iadd (pc := 125) X7 C at_125 ?_
    refine w_iload (pc := 126) X7 C at_126 rfl ?_
    refine w_iadd (pc := 128) X7 C at_128 ?_
    refine w_icmp_eq (pc := 129) X7 C at_129 134 (by decide) (fun q11 => ?_) (fun q11 => absurd (by decide) q11)
    refine w_iconst (pc := 134) X7 C at_134 (1 : Int32) rfl ?_
    refine w_istore (pc := 135) X7 C at_135 #[.val (.int x0), .val (.int x1), .val (.int x2), .val (.int x3), .val (.int c0), .val (.int c1), .val (.int c2), .val (.int (0 : Int32)), .val (.ref a1), .val (.ref a5), .val (.int (0 : Int32)), .val (.int (0 : Int32)), .val (.int (0 : Int32)), .val (.int (0 : Int32)), .val (.int (1 : Int32))] rfl ?_
    refine w_iload (pc := 137) X7 C at_137 rfl ?_
    refine w_if_le (pc := 139) X7 C at_139 165 (by decide) (fun q12 => ?_) (fun q12 => absurd q12 (by decide))
    refine w_iload (pc := 165) X7 C at_165 rfl ?_
    refine w_iconst (pc := 167) X7 C at_167 (1 : Int32) rfl ?_
    refine w_icmp_le (pc := 168) X7 C at_168 195 (by decide) (fun q13 => ?_) (fun q13 => absurd q13 (by decide))
    refine w_iload (pc := 195) X7 C at_195 rfl ?_
    refine w_iconst (pc := 197) X7 C at_197 (2 : Int32) rfl ?_
    refine w_icmp_le (pc := 198) X7 C at_198 228 (by decide) (fun q14 => ?_) (fun q14 => absurd q14 (by decide))
    refine w_iload (pc := 228) X7 C at_228 rfl ?_
    exact w_ret_boolean (pc := 230) X7 C at_230 rfl
  · rw [ec]
    refine w_istore (pc := 30) X C at_30 #[.val (.int x0), .val (.int x1), .val (.int x2), .val (.int x3), .val (.int c0), .val (.int c1), .val (.int c2), .val (.int (1 : Int32)), .unset, .unset, .unset, .unset, .unset, .unset, .unset] rfl ?_
    refine w_iconst (pc := 32) X C at_32 (3 : Int32) rfl ?_
    refine w_new_int (pc := 33) X C at_33 (List.mem_of_getElem? (i := 2) rfl) 3 rfl 3 (by decide) (by decide) (by decide) (by decide) (fun T15 h15 a15 ha15 hb15 X15 E15 A15 => ?_)
    refine w_dup (pc := 35) X15 C at_35 rfl ?_
    refine w_iconst (pc := 36) X15 C at_36 (0 : Int32) rfl ?_
    refine w_iload (pc := 37) X15 C at_37 rfl ?_
    refine w_iastore (pc := 39) X15 C at_39 A15 0 rfl (by decide) hb15 (fun T16 h16 X16 W16 A16 => ?_)
    obtain ⟨g16, hg16⟩ : ∃ z, z = up (fun _ => 0) 0 c0 := ⟨_, rfl⟩
    rw [← hg16] at A16
    refine w_dup (pc := 40) X16 C at_40 rfl ?_
    refine w_iconst (pc := 41) X16 C at_41 (1 : Int32) rfl ?_
    refine w_iload (pc := 42) X16 C at_42 rfl ?_
    refine w_iastore (pc := 44) X16 C at_44 A16 1 rfl (by decide) hb15 (fun T17 h17 X17 W17 A17 => ?_)
    obtain ⟨g17, hg17⟩ : ∃ z, z = up g16 1 c1 := ⟨_, rfl⟩
    rw [← hg17] at A17
    refine w_dup (pc := 45) X17 C at_45 rfl ?_
    refine w_iconst (pc := 46) X17 C at_46 (2 : Int32) rfl ?_
    refine w_iload (pc := 47) X17 C at_47 rfl ?_
    refine w_iastore (pc := 49) X17 C at_49 A17 2 rfl (by decide) hb15 (fun T18 h18 X18 W18 A18 => ?_)
    obtain ⟨g18, hg18⟩ : ∃ z, z = up g17 2 c2 := ⟨_, rfl⟩
    rw [← hg18] at A18
    refine w_astore (pc := 50) X18 C at_50 #[.val (.int x0), .val (.int x1), .val (.int x2), .val (.int x3), .val (.int c0), .val (.int c1), .val (.int c2), .val (.int (1 : Int32)), .val (.ref a15), .unset, .unset, .unset, .unset, .unset, .unset] rfl rfl ?_
    refine w_bipush (pc := 52) X18 C at_52 (12 : Int32) rfl ?_
    refine w_new_byte (pc := 54) X18 C at_54 (List.mem_of_getElem? (i := 3) rfl) 12 rfl 12 (by decide) (by decide) (by decide) (by decide) (fun T19 h19 a19 ha19 hb19 X19 E19 A19 => ?_)
    have ne_a15_a19 : a15 ≠ a19 := Nat.ne_of_lt (by rw [ha19]; exact A18.lt)
    have Ak20 := A18.ext E19
    refine w_astore (pc := 56) X19 C at_56 #[.val (.int x0), .val (.int x1), .val (.int x2), .val (.int x3), .val (.int c0), .val (.int c1), .val (.int c2), .val (.int (1 : Int32)), .val (.ref a15), .val (.ref a19), .unset, .unset, .unset, .unset, .unset] rfl rfl ?_
    refine w_aload (pc := 58) X19 C at_58 rfl rfl ?_
    refine w_iload (pc := 60) X19 C at_60 rfl ?_
    refine w_aload (pc := 62) X19 C at_62 rfl rfl ?_
    have gg0 : g18 0 = c0 := by simp [hg18, hg17, hg16, up]
    refine w_callS (pc := 64) X19 C (y := (⟨"termwright/index/FieldReader", "sortKey", "([II[B)I"⟩ : MethodName)) (bytes := prog_46_method_41_code) (maxL := 6) (rt := (some .int)) (argsL := [(.ref a15), (.int (1 : Int32)), (.ref a19)]) (rest := []) (W := 0) at_64 (List.mem_of_getElem? (i := 4) rfl) (List.mem_of_getElem? (i := 5) rfl) (List.mem_of_getElem? (i := 6) rfl) (List.mem_of_getElem? (i := 7) rfl) (by decide) (ct1_n1 l C.2.2.2.2.2.2.2.2 _ X19.size (a15) (a19) (fun _ => 0) g18 c0 Ak20 A19 ne_a15_a19 hb19 gg0 (own_pb0 )) rfl ⟨_, _, pd_2, rfl⟩ rfl (Nat.le_of_eq rfl) (by decide) (by decide) (by decide) (by decide) (fun v_21 T21 P21 X21 => ?_)
    obtain ⟨rfl, K21, A21⟩ := P21
    obtain ⟨gg, hgg⟩ : ∃ z : Nat → Int32, z = (fun _ => 0) := ⟨_, rfl⟩
    rw [← hgg] at A21
    refine w_istore (pc := 67) X21 C at_67 #[.val (.int x0), .val (.int x1), .val (.int x2), .val (.int x3), .val (.int c0), .val (.int c1), .val (.int c2), .val (.int (1 : Int32)), .val (.ref a15), .val (.ref a19), .val (.int ((0 : Int32) + f2 c0)), .unset, .unset, .unset, .unset] rfl ?_
    refine w_iload (pc := 69) X21 C at_69 rfl ?_
    refine w_if_le (pc := 71) X21 C at_71 82 (by decide) (fun q22 => absurd (by decide) q22) (fun q22 => ?_)
    refine w_iload (pc := 74) X21 C at_74 rfl ?_
    refine w_callP (pc := 76) X21 C (y := (⟨"termwright/index/FieldReaderSortKeyPinLaw", "utf8Length", "(I)I"⟩ : MethodName)) (bytes := method_3_code) (maxL := 1) (rt := some .int) (argsL := [(.int c0)]) (rest := []) (w := .int (f2 c0)) (W := 0) at_76 (List.mem_of_getElem? (i := 8) rfl) (List.mem_of_getElem? (i := 9) rfl) (List.mem_of_getElem? (i := 10) rfl) (List.mem_of_getElem? (i := 11) rfl) (by decide) (ct2 l C.2.2.2.2.2.2.2.2 _ X21.size (c0)) rfl rfl rfl ⟨_, _, pd_0, rfl⟩ rfl (Nat.le_of_eq rfl) (by decide) (by decide) (by decide) (by decide) (fun T24 X23 => ?_)
    refine w_goto (pc := 79) X23 C at_79 83 (by decide) ?_
    refine w_istore (pc := 83) X23 C at_83 #[.val (.int x0), .val (.int x1), .val (.int x2), .val (.int x3), .val (.int c0), .val (.int c1), .val (.int c2), .val (.int (1 : Int32)), .val (.ref a15), .val (.ref a19), .val (.int ((0 : Int32) + f2 c0)), .val (.int (f2 c0)), .unset, .unset, .unset] rfl ?_
    refine w_iload (pc := 85) X23 C at_85 rfl ?_
    refine w_iconst (pc := 87) X23 C at_87 (1 : Int32) rfl ?_
    refine w_icmp_le (pc := 88) X23 C at_88 99 (by decide) (fun q25 => ?_) (fun q25 => absurd q25 (by decide))
    refine w_iconst (pc := 99) X23 C at_99 (0 : Int32) rfl ?_
    refine w_istore (pc := 100) X23 C at_100 #[.val (.int x0), .val (.int x1), .val (.int x2), .val (.int x3), .val (.int c0), .val (.int c1), .val (.int c2), .val (.int (1 : Int32)), .val (.ref a15), .val (.ref a19), .val (.int ((0 : Int32) + f2 c0)), .val (.int (f2 c0)), .val (.int (0 : Int32)), .unset, .unset] rfl ?_
    refine w_iload (pc := 102) X23 C at_102 rfl ?_
    refine w_iconst (pc := 104) X23 C at_104 (2 : Int32) rfl ?_
    refine w_icmp_le (pc := 105) X23 C at_105 116 (by decide) (fun q26 => ?_) (fun q26 => absurd q26 (by decide))
    refine w_iconst (pc := 116) X23 C at_116 (0 : Int32) rfl ?_
    refine w_istore (pc := 117) X23 C at_117 #[.val (.int x0), .val (.int x1), .val (.int x2), .val (.int x3), .val (.int c0), .val (.int c1), .val (.int c2), .val (.int (1 : Int32)), .val (.ref a15), .val (.ref a19), .val (.int ((0 : Int32) + f2 c0)), .val (.int (f2 c0)), .val (.int (0 : Int32)), .val (.int (0 : Int32)), .unset] rfl ?_
    refine w_iload (pc := 119) X23 C at_119 rfl ?_
    refine w_iload (pc := 121) X23 C at_121 rfl ?_
    refine w_iload (pc := 123) X23 C at_123 rfl ?_
    refine w_iadd (pc := 125) X23 C at_125 ?_
    refine w_iload (pc := 126) X23 C at_126 rfl ?_
    refine w_iadd (pc := 128) X23 C at_128 ?_
    refine w_icmp_eq (pc := 129) X23 C at_129 134 (by decide) (fun q27 => ?_) (fun q27 => absurd (by simp only [Int32.zero_add, Int32.add_zero]) q27)
    refine w_iconst (pc := 134) X23 C at_134 (1 : Int32) rfl ?_
    refine w_istore (pc := 135) X23 C at_135 #[.val (.int x0), .val (.int x1), .val (.int x2), .val (.int x3), .val (.int c0), .val (.int c1), .val (.int c2), .val (.int (1 : Int32)), .val (.ref a15), .val (.ref a19), .val (.int ((0 : Int32) + f2 c0)), .val (.int (f2 c0)), .val (.int (0 : Int32)), .val (.int (0 : Int32)), .val (.int (1 : Int32))] rfl ?_
    refine w_iload (pc := 137) X23 C at_137 rfl ?_
    refine w_if_le (pc := 139) X23 C at_139 165 (by decide) (fun q28 => absurd (by decide) q28) (fun q28 => ?_)
    refine w_iload (pc := 142) X23 C at_142 rfl ?_
    refine w_if_eq (pc := 144) X23 C at_144 162 (by decide) (fun q29 => absurd q29 (by decide)) (fun q29 => ?_)
    refine w_aload (pc := 147) X23 C at_147 rfl rfl ?_
    refine w_iconst (pc := 149) X23 C at_149 (0 : Int32) rfl ?_
    refine w_iload (pc := 150) X23 C at_150 rfl ?_
    refine w_callP (pc := 152) X23 C (y := (⟨"termwright/index/FieldReaderSortKeyPinLaw", "encodedAt", "([BII)Z"⟩ : MethodName)) (bytes := method_5_code) (maxL := 8) (rt := some .boolean) (argsL := [(.ref a19), (.int (0 : Int32)), (.int c0)]) (rest := []) (w := .int (f3 (0 : Int32) c0 (own_enc gg (0 : Int32) c0))) (W := 0) at_152 (List.mem_of_getElem? (i := 12) rfl) (List.mem_of_getElem? (i := 13) rfl) (List.mem_of_getElem? (i := 10) rfl) (List.mem_of_getElem? (i := 14) rfl) (by decide) (ct3 l C.2.2.2.2.2.2.2.2 _ X23.size (a19) ((0 : Int32)) (c0) (own_enc gg (0 : Int32) c0) A21 (own_pc0 )) rfl rfl rfl ⟨_, _, pd_3, rfl⟩ rfl (Nat.le_of_eq rfl) (by decide) (by decide) (by decide) (by decide) (fun T32 X31 => ?_)
    refine w_if_eq (pc := 155) X31 C at_155 162 (by decide) (fun q33 => absurd q33 (fun z => absurd ((own_f1_0 gg c0 hc0).symm.trans z) (by decide))) (fun q33 => ?_)
    refine w_iconst (pc := 158) X31 C at_158 (1 : Int32) rfl ?_
    refine w_goto (pc := 159) X31 C at_159 163 (by decide) ?_
    refine w_istore (pc := 163) X31 C at_163 #[.val (.int x0), .val (.int x1), .val (.int x2), .val (.int x3), .val (.int c0), .val (.int c1), .val (.int c2), .val (.int (1 : Int32)), .val (.ref a15), .val (.ref a19), .val (.int ((0 : Int32) + f2 c0)), .val (.int (f2 c0)), .val (.int (0 : Int32)), .val (.int (0 : Int32)), .val (.int (1 : Int32))] rfl ?_
    refine w_iload (pc := 165) X31 C at_165 rfl ?_
    refine w_iconst (pc := 167) X31 C at_167 (1 : Int32) rfl ?_
    refine w_icmp_le (pc := 168) X31 C at_168 195 (by decide) (fun q34 => ?_) (fun q34 => absurd q34 (by decide))
    refine w_iload (pc := 195) X31 C at_195 rfl ?_
    refine w_iconst (pc := 197) X31 C at_197 (2 : Int32) rfl ?_
    refine w_icmp_le (pc := 198) X31 C at_198 228 (by decide) (fun q35 => ?_) (fun q35 => absurd q35 (by decide))
    refine w_iload (pc := 228) X31 C at_228 rfl ?_
    exact w_ret_boolean (pc := 230) X31 C at_230 rfl
  · rw [ec]
    refine w_istore (pc := 30) X C at_30 #[.val (.int x0), .val (.int x1), .val (.int x2), .val (.int x3), .val (.int c0), .val (.int c1), .val (.int c2), .val (.int (2 : Int32)), .unset, .unset, .unset, .unset, .unset, .unset, .unset] rfl ?_
    refine w_iconst (pc := 32) X C at_32 (3 : Int32) rfl ?_
    refine w_new_int (pc := 33) X C at_33 (List.mem_of_getElem? (i := 2) rfl) 3 rfl 3 (by decide) (by decide) (by decide) (by decide) (fun T36 h36 a36 ha36 hb36 X36 E36 A36 => ?_)
    refine w_dup (pc := 35) X36 C at_35 rfl ?_
    refine w_iconst (pc := 36) X36 C at_36 (0 : Int32) rfl ?_
    refine w_iload (pc := 37) X36 C at_37 rfl ?_
    refine w_iastore (pc := 39) X36 C at_39 A36 0 rfl (by decide) hb36 (fun T37 h37 X37 W37 A37 => ?_)
    obtain ⟨g37, hg37⟩ : ∃ z, z = up (fun _ => 0) 0 c0 := ⟨_, rfl⟩
    rw [← hg37] at A37
    refine w_dup (pc := 40) X37 C at_40 rfl ?_
    refine w_iconst (pc := 41) X37 C at_41 (1 : Int32) rfl ?_
    refine w_iload (pc := 42) X37 C at_42 rfl ?_
    refine w_iastore (pc := 44) X37 C at_44 A37 1 rfl (by decide) hb36 (fun T38 h38 X38 W38 A38 => ?_)
    obtain ⟨g38, hg38⟩ : ∃ z, z = up g37 1 c1 := ⟨_, rfl⟩
    rw [← hg38] at A38
    refine w_dup (pc := 45) X38 C at_45 rfl ?_
    refine w_iconst (pc := 46) X38 C at_46 (2 : Int32) rfl ?_
    refine w_iload (pc := 47) X38 C at_47 rfl ?_
    refine w_iastore (pc := 49) X38 C at_49 A38 2 rfl (by decide) hb36 (fun T39 h39 X39 W39 A39 => ?_)
    obtain ⟨g39, hg39⟩ : ∃ z, z = up g38 2 c2 := ⟨_, rfl⟩
    rw [← hg39] at A39
    refine w_astore (pc := 50) X39 C at_50 #[.val (.int x0), .val (.int x1), .val (.int x2), .val (.int x3), .val (.int c0), .val (.int c1), .val (.int c2), .val (.int (2 : Int32)), .val (.ref a36), .unset, .unset, .unset, .unset, .unset, .unset] rfl rfl ?_
    refine w_bipush (pc := 52) X39 C at_52 (12 : Int32) rfl ?_
    refine w_new_byte (pc := 54) X39 C at_54 (List.mem_of_getElem? (i := 3) rfl) 12 rfl 12 (by decide) (by decide) (by decide) (by decide) (fun T40 h40 a40 ha40 hb40 X40 E40 A40 => ?_)
    have ne_a36_a40 : a36 ≠ a40 := Nat.ne_of_lt (by rw [ha40]; exact A39.lt)
    have Ak41 := A39.ext E40
    refine w_astore (pc := 56) X40 C at_56 #[.val (.int x0), .val (.int x1), .val (.int x2), .val (.int x3), .val (.int c0), .val (.int c1), .val (.int c2), .val (.int (2 : Int32)), .val (.ref a36), .val (.ref a40), .unset, .unset, .unset, .unset, .unset] rfl rfl ?_
    refine w_aload (pc := 58) X40 C at_58 rfl rfl ?_
    refine w_iload (pc := 60) X40 C at_60 rfl ?_
    refine w_aload (pc := 62) X40 C at_62 rfl rfl ?_
    have gg0 : g39 0 = c0 := by simp [hg39, hg38, hg37, up]
    have gg1 : g39 1 = c1 := by simp [hg39, hg38, hg37, up]
    refine w_callS (pc := 64) X40 C (y := (⟨"termwright/index/FieldReader", "sortKey", "([II[B)I"⟩ : MethodName)) (bytes := prog_46_method_41_code) (maxL := 6) (rt := (some .int)) (argsL := [(.ref a36), (.int (2 : Int32)), (.ref a40)]) (rest := []) (W := 0) at_64 (List.mem_of_getElem? (i := 4) rfl) (List.mem_of_getElem? (i := 5) rfl) (List.mem_of_getElem? (i := 6) rfl) (List.mem_of_getElem? (i := 7) rfl) (by decide) (ct1_n2 l C.2.2.2.2.2.2.2.2 _ X40.size (a36) (a40) (fun _ => 0) g39 c0 c1 Ak41 A40 ne_a36_a40 hb40 gg0 gg1 (own_pb0 ) (own_pb1 c0)) rfl ⟨_, _, pd_2, rfl⟩ rfl (Nat.le_of_eq rfl) (by decide) (by decide) (by decide) (by decide) (fun v_42 T42 P42 X42 => ?_)
    obtain ⟨rfl, K42, A42⟩ := P42
    obtain ⟨gg, hgg⟩ : ∃ z : Nat → Int32, z = (fun _ => 0) := ⟨_, rfl⟩
    rw [← hgg] at A42
    refine w_istore (pc := 67) X42 C at_67 #[.val (.int x0), .val (.int x1), .val (.int x2), .val (.int x3), .val (.int c0), .val (.int c1), .val (.int c2), .val (.int (2 : Int32)), .val (.ref a36), .val (.ref a40), .val (.int (((0 : Int32) + f2 c0) + f2 c1)), .unset, .unset, .unset, .unset] rfl ?_
    refine w_iload (pc := 69) X42 C at_69 rfl ?_
    refine w_if_le (pc := 71) X42 C at_71 82 (by decide) (fun q43 => absurd (by decide) q43) (fun q43 => ?_)
    refine w_iload (pc := 74) X42 C at_74 rfl ?_
    refine w_callP (pc := 76) X42 C (y := (⟨"termwright/index/FieldReaderSortKeyPinLaw", "utf8Length", "(I)I"⟩ : MethodName)) (bytes := method_3_code) (maxL := 1) (rt := some .int) (argsL := [(.int c0)]) (rest := []) (w := .int (f2 c0)) (W := 0) at_76 (List.mem_of_getElem? (i := 8) rfl) (List.mem_of_getElem? (i := 9) rfl) (List.mem_of_getElem? (i := 10) rfl) (List.mem_of_getElem? (i := 11) rfl) (by decide) (ct2 l C.2.2.2.2.2.2.2.2 _ X42.size (c0)) rfl rfl rfl ⟨_, _, pd_0, rfl⟩ rfl (Nat.le_of_eq rfl) (by decide) (by decide) (by decide) (by decide) (fun T45 X44 => ?_)
    refine w_goto (pc := 79) X44 C at_79 83 (by decide) ?_
    refine w_istore (pc := 83) X44 C at_83 #[.val (.int x0), .val (.int x1), .val (.int x2), .val (.int x3), .val (.int c0), .val (.int c1), .val (.int c2), .val (.int (2 : Int32)), .val (.ref a36), .val (.ref a40), .val (.int (((0 : Int32) + f2 c0) + f2 c1)), .val (.int (f2 c0)), .unset, .unset, .unset] rfl ?_
    refine w_iload (pc := 85) X44 C at_85 rfl ?_
    refine w_iconst (pc := 87) X44 C at_87 (1 : Int32) rfl ?_
    refine w_icmp_le (pc := 88) X44 C at_88 99 (by decide) (fun q46 => absurd (by decide) q46) (fun q46 => ?_)
    refine w_iload (pc := 91) X44 C at_91 rfl ?_
    refine w_callP (pc := 93) X44 C (y := (⟨"termwright/index/FieldReaderSortKeyPinLaw", "utf8Length", "(I)I"⟩ : MethodName)) (bytes := method_3_code) (maxL := 1) (rt := some .int) (argsL := [(.int c1)]) (rest := []) (w := .int (f2 c1)) (W := 0) at_93 (List.mem_of_getElem? (i := 8) rfl) (List.mem_of_getElem? (i := 9) rfl) (List.mem_of_getElem? (i := 10) rfl) (List.mem_of_getElem? (i := 11) rfl) (by decide) (ct2 l C.2.2.2.2.2.2.2.2 _ X44.size (c1)) rfl rfl rfl ⟨_, _, pd_0, rfl⟩ rfl (Nat.le_of_eq rfl) (by decide) (by decide) (by decide) (by decide) (fun T48 X47 => ?_)
    refine w_goto (pc := 96) X47 C at_96 100 (by decide) ?_
    refine w_istore (pc := 100) X47 C at_100 #[.val (.int x0), .val (.int x1), .val (.int x2), .val (.int x3), .val (.int c0), .val (.int c1), .val (.int c2), .val (.int (2 : Int32)), .val (.ref a36), .val (.ref a40), .val (.int (((0 : Int32) + f2 c0) + f2 c1)), .val (.int (f2 c0)), .val (.int (f2 c1)), .unset, .unset] rfl ?_
    refine w_iload (pc := 102) X47 C at_102 rfl ?_
    refine w_iconst (pc := 104) X47 C at_104 (2 : Int32) rfl ?_
    refine w_icmp_le (pc := 105) X47 C at_105 116 (by decide) (fun q49 => ?_) (fun q49 => absurd q49 (by decide))
    refine w_iconst (pc := 116) X47 C at_116 (0 : Int32) rfl ?_
    refine w_istore (pc := 117) X47 C at_117 #[.val (.int x0), .val (.int x1), .val (.int x2), .val (.int x3), .val (.int c0), .val (.int c1), .val (.int c2), .val (.int (2 : Int32)), .val (.ref a36), .val (.ref a40), .val (.int (((0 : Int32) + f2 c0) + f2 c1)), .val (.int (f2 c0)), .val (.int (f2 c1)), .val (.int (0 : Int32)), .unset] rfl ?_
    refine w_iload (pc := 119) X47 C at_119 rfl ?_
    refine w_iload (pc := 121) X47 C at_121 rfl ?_
    refine w_iload (pc := 123) X47 C at_123 rfl ?_
    refine w_iadd (pc := 125) X47 C at_125 ?_
    refine w_iload (pc := 126) X47 C at_126 rfl ?_
    refine w_iadd (pc := 128) X47 C at_128 ?_
    refine w_icmp_eq (pc := 129) X47 C at_129 134 (by decide) (fun q50 => ?_) (fun q50 => absurd (by simp only [Int32.zero_add, Int32.add_zero]) q50)
    refine w_iconst (pc := 134) X47 C at_134 (1 : Int32) rfl ?_
    refine w_istore (pc := 135) X47 C at_135 #[.val (.int x0), .val (.int x1), .val (.int x2), .val (.int x3), .val (.int c0), .val (.int c1), .val (.int c2), .val (.int (2 : Int32)), .val (.ref a36), .val (.ref a40), .val (.int (((0 : Int32) + f2 c0) + f2 c1)), .val (.int (f2 c0)), .val (.int (f2 c1)), .val (.int (0 : Int32)), .val (.int (1 : Int32))] rfl ?_
    refine w_iload (pc := 137) X47 C at_137 rfl ?_
    refine w_if_le (pc := 139) X47 C at_139 165 (by decide) (fun q51 => absurd (by decide) q51) (fun q51 => ?_)
    refine w_iload (pc := 142) X47 C at_142 rfl ?_
    refine w_if_eq (pc := 144) X47 C at_144 162 (by decide) (fun q52 => absurd q52 (by decide)) (fun q52 => ?_)
    refine w_aload (pc := 147) X47 C at_147 rfl rfl ?_
    refine w_iconst (pc := 149) X47 C at_149 (0 : Int32) rfl ?_
    refine w_iload (pc := 150) X47 C at_150 rfl ?_
    refine w_callP (pc := 152) X47 C (y := (⟨"termwright/index/FieldReaderSortKeyPinLaw", "encodedAt", "([BII)Z"⟩ : MethodName)) (bytes := method_5_code) (maxL := 8) (rt := some .boolean) (argsL := [(.ref a40), (.int (0 : Int32)), (.int c0)]) (rest := []) (w := .int (f3 (0 : Int32) c0 (own_enc (own_enc gg (0 : Int32) c0) ((0 : Int32) + f2 c0) c1))) (W := 0) at_152 (List.mem_of_getElem? (i := 12) rfl) (List.mem_of_getElem? (i := 13) rfl) (List.mem_of_getElem? (i := 10) rfl) (List.mem_of_getElem? (i := 14) rfl) (by decide) (ct3 l C.2.2.2.2.2.2.2.2 _ X47.size (a40) ((0 : Int32)) (c0) (own_enc (own_enc gg (0 : Int32) c0) ((0 : Int32) + f2 c0) c1) A42 (own_pc0 )) rfl rfl rfl ⟨_, _, pd_3, rfl⟩ rfl (Nat.le_of_eq rfl) (by decide) (by decide) (by decide) (by decide) (fun T55 X54 => ?_)
    refine w_if_eq (pc := 155) X54 C at_155 162 (by decide) (fun q56 => absurd q56 (fun z => absurd ((own_f2_0 gg c0 c1 hc0 hc1).symm.trans z) (by decide))) (fun q56 => ?_)
    refine w_iconst (pc := 158) X54 C at_158 (1 : Int32) rfl ?_
    refine w_goto (pc := 159) X54 C at_159 163 (by decide) ?_
    refine w_istore (pc := 163) X54 C at_163 #[.val (.int x0), .val (.int x1), .val (.int x2), .val (.int x3), .val (.int c0), .val (.int c1), .val (.int c2), .val (.int (2 : Int32)), .val (.ref a36), .val (.ref a40), .val (.int (((0 : Int32) + f2 c0) + f2 c1)), .val (.int (f2 c0)), .val (.int (f2 c1)), .val (.int (0 : Int32)), .val (.int (1 : Int32))] rfl ?_
    refine w_iload (pc := 165) X54 C at_165 rfl ?_
    refine w_iconst (pc := 167) X54 C at_167 (1 : Int32) rfl ?_
    refine w_icmp_le (pc := 168) X54 C at_168 195 (by decide) (fun q57 => absurd (by decide) q57) (fun q57 => ?_)
    refine w_iload (pc := 171) X54 C at_171 rfl ?_
    refine w_if_eq (pc := 173) X54 C at_173 192 (by decide) (fun q58 => absurd q58 (by decide)) (fun q58 => ?_)
    refine w_aload (pc := 176) X54 C at_176 rfl rfl ?_
    refine w_iload (pc := 178) X54 C at_178 rfl ?_
    refine w_iload (pc := 180) X54 C at_180 rfl ?_
    refine w_callP (pc := 182) X54 C (y := (⟨"termwright/index/FieldReaderSortKeyPinLaw", "encodedAt", "([BII)Z"⟩ : MethodName)) (bytes := method_5_code) (maxL := 8) (rt := some .boolean) (argsL := [(.ref a40), (.int (f2 c0)), (.int c1)]) (rest := []) (w := .int (f3 (f2 c0) c1 (own_enc (own_enc gg (0 : Int32) c0) ((0 : Int32) + f2 c0) c1))) (W := 0) at_182 (List.mem_of_getElem? (i := 12) rfl) (List.mem_of_getElem? (i := 13) rfl) (List.mem_of_getElem? (i := 10) rfl) (List.mem_of_getElem? (i := 14) rfl) (by decide) (ct3 l C.2.2.2.2.2.2.2.2 _ X54.size (a40) ((f2 c0)) (c1) (own_enc (own_enc gg (0 : Int32) c0) ((0 : Int32) + f2 c0) c1) A42 (own_pc1 c0)) rfl rfl rfl ⟨_, _, pd_3, rfl⟩ rfl (Nat.le_of_eq rfl) (by decide) (by decide) (by decide) (by decide) (fun T61 X60 => ?_)
    refine w_if_eq (pc := 185) X60 C at_185 192 (by decide) (fun q62 => absurd q62 (fun z => absurd ((own_f2_1 gg c0 c1 hc0 hc1).symm.trans z) (by decide))) (fun q62 => ?_)
    refine w_iconst (pc := 188) X60 C at_188 (1 : Int32) rfl ?_
    refine w_goto (pc := 189) X60 C at_189 193 (by decide) ?_
    refine w_istore (pc := 193) X60 C at_193 #[.val (.int x0), .val (.int x1), .val (.int x2), .val (.int x3), .val (.int c0), .val (.int c1), .val (.int c2), .val (.int (2 : Int32)), .val (.ref a36), .val (.ref a40), .val (.int (((0 : Int32) + f2 c0) + f2 c1)), .val (.int (f2 c0)), .val (.int (f2 c1)), .val (.int (0 : Int32)), .val (.int (1 : Int32))] rfl ?_
    refine w_iload (pc := 195) X60 C at_195 rfl ?_
    refine w_iconst (pc := 197) X60 C at_197 (2 : Int32) rfl ?_
    refine w_icmp_le (pc := 198) X60 C at_198 228 (by decide) (fun q63 => ?_) (fun q63 => absurd q63 (by decide))
    refine w_iload (pc := 228) X60 C at_228 rfl ?_
    exact w_ret_boolean (pc := 230) X60 C at_230 rfl
  · rw [ec]
    refine w_istore (pc := 30) X C at_30 #[.val (.int x0), .val (.int x1), .val (.int x2), .val (.int x3), .val (.int c0), .val (.int c1), .val (.int c2), .val (.int (3 : Int32)), .unset, .unset, .unset, .unset, .unset, .unset, .unset] rfl ?_
    refine w_iconst (pc := 32) X C at_32 (3 : Int32) rfl ?_
    refine w_new_int (pc := 33) X C at_33 (List.mem_of_getElem? (i := 2) rfl) 3 rfl 3 (by decide) (by decide) (by decide) (by decide) (fun T64 h64 a64 ha64 hb64 X64 E64 A64 => ?_)
    refine w_dup (pc := 35) X64 C at_35 rfl ?_
    refine w_iconst (pc := 36) X64 C at_36 (0 : Int32) rfl ?_
    refine w_iload (pc := 37) X64 C at_37 rfl ?_
    refine w_iastore (pc := 39) X64 C at_39 A64 0 rfl (by decide) hb64 (fun T65 h65 X65 W65 A65 => ?_)
    obtain ⟨g65, hg65⟩ : ∃ z, z = up (fun _ => 0) 0 c0 := ⟨_, rfl⟩
    rw [← hg65] at A65
    refine w_dup (pc := 40) X65 C at_40 rfl ?_
    refine w_iconst (pc := 41) X65 C at_41 (1 : Int32) rfl ?_
    refine w_iload (pc := 42) X65 C at_42 rfl ?_
    refine w_iastore (pc := 44) X65 C at_44 A65 1 rfl (by decide) hb64 (fun T66 h66 X66 W66 A66 => ?_)
    obtain ⟨g66, hg66⟩ : ∃ z, z = up g65 1 c1 := ⟨_, rfl⟩
    rw [← hg66] at A66
    refine w_dup (pc := 45) X66 C at_45 rfl ?_
    refine w_iconst (pc := 46) X66 C at_46 (2 : Int32) rfl ?_
    refine w_iload (pc := 47) X66 C at_47 rfl ?_
    refine w_iastore (pc := 49) X66 C at_49 A66 2 rfl (by decide) hb64 (fun T67 h67 X67 W67 A67 => ?_)
    obtain ⟨g67, hg67⟩ : ∃ z, z = up g66 2 c2 := ⟨_, rfl⟩
    rw [← hg67] at A67
    refine w_astore (pc := 50) X67 C at_50 #[.val (.int x0), .val (.int x1), .val (.int x2), .val (.int x3), .val (.int c0), .val (.int c1), .val (.int c2), .val (.int (3 : Int32)), .val (.ref a64), .unset, .unset, .unset, .unset, .unset, .unset] rfl rfl ?_
    refine w_bipush (pc := 52) X67 C at_52 (12 : Int32) rfl ?_
    refine w_new_byte (pc := 54) X67 C at_54 (List.mem_of_getElem? (i := 3) rfl) 12 rfl 12 (by decide) (by decide) (by decide) (by decide) (fun T68 h68 a68 ha68 hb68 X68 E68 A68 => ?_)
    have ne_a64_a68 : a64 ≠ a68 := Nat.ne_of_lt (by rw [ha68]; exact A67.lt)
    have Ak69 := A67.ext E68
    refine w_astore (pc := 56) X68 C at_56 #[.val (.int x0), .val (.int x1), .val (.int x2), .val (.int x3), .val (.int c0), .val (.int c1), .val (.int c2), .val (.int (3 : Int32)), .val (.ref a64), .val (.ref a68), .unset, .unset, .unset, .unset, .unset] rfl rfl ?_
    refine w_aload (pc := 58) X68 C at_58 rfl rfl ?_
    refine w_iload (pc := 60) X68 C at_60 rfl ?_
    refine w_aload (pc := 62) X68 C at_62 rfl rfl ?_
    have gg0 : g67 0 = c0 := by simp [hg67, hg66, hg65, up]
    have gg1 : g67 1 = c1 := by simp [hg67, hg66, hg65, up]
    have gg2 : g67 2 = c2 := by simp [hg67, hg66, hg65, up]
    refine w_callS (pc := 64) X68 C (y := (⟨"termwright/index/FieldReader", "sortKey", "([II[B)I"⟩ : MethodName)) (bytes := prog_46_method_41_code) (maxL := 6) (rt := (some .int)) (argsL := [(.ref a64), (.int (3 : Int32)), (.ref a68)]) (rest := []) (W := 0) at_64 (List.mem_of_getElem? (i := 4) rfl) (List.mem_of_getElem? (i := 5) rfl) (List.mem_of_getElem? (i := 6) rfl) (List.mem_of_getElem? (i := 7) rfl) (by decide) (ct1_n3 l C.2.2.2.2.2.2.2.2 _ X68.size (a64) (a68) (fun _ => 0) g67 c0 c1 c2 Ak69 A68 ne_a64_a68 hb68 gg0 gg1 gg2 (own_pb0 ) (own_pb1 c0) (own_pb2 c0 c1)) rfl ⟨_, _, pd_2, rfl⟩ rfl (Nat.le_of_eq rfl) (by decide) (by decide) (by decide) (by decide) (fun v_70 T70 P70 X70 => ?_)
    obtain ⟨rfl, K70, A70⟩ := P70
    obtain ⟨gg, hgg⟩ : ∃ z : Nat → Int32, z = (fun _ => 0) := ⟨_, rfl⟩
    rw [← hgg] at A70
    refine w_istore (pc := 67) X70 C at_67 #[.val (.int x0), .val (.int x1), .val (.int x2), .val (.int x3), .val (.int c0), .val (.int c1), .val (.int c2), .val (.int (3 : Int32)), .val (.ref a64), .val (.ref a68), .val (.int ((((0 : Int32) + f2 c0) + f2 c1) + f2 c2)), .unset, .unset, .unset, .unset] rfl ?_
    refine w_iload (pc := 69) X70 C at_69 rfl ?_
    refine w_if_le (pc := 71) X70 C at_71 82 (by decide) (fun q71 => absurd (by decide) q71) (fun q71 => ?_)
    refine w_iload (pc := 74) X70 C at_74 rfl ?_
    refine w_callP (pc := 76) X70 C (y := (⟨"termwright/index/FieldReaderSortKeyPinLaw", "utf8Length", "(I)I"⟩ : MethodName)) (bytes := method_3_code) (maxL := 1) (rt := some .int) (argsL := [(.int c0)]) (rest := []) (w := .int (f2 c0)) (W := 0) at_76 (List.mem_of_getElem? (i := 8) rfl) (List.mem_of_getElem? (i := 9) rfl) (List.mem_of_getElem? (i := 10) rfl) (List.mem_of_getElem? (i := 11) rfl) (by decide) (ct2 l C.2.2.2.2.2.2.2.2 _ X70.size (c0)) rfl rfl rfl ⟨_, _, pd_0, rfl⟩ rfl (Nat.le_of_eq rfl) (by decide) (by decide) (by decide) (by decide) (fun T73 X72 => ?_)
    refine w_goto (pc := 79) X72 C at_79 83 (by decide) ?_
    refine w_istore (pc := 83) X72 C at_83 #[.val (.int x0), .val (.int x1), .val (.int x2), .val (.int x3), .val (.int c0), .val (.int c1), .val (.int c2), .val (.int (3 : Int32)), .val (.ref a64), .val (.ref a68), .val (.int ((((0 : Int32) + f2 c0) + f2 c1) + f2 c2)), .val (.int (f2 c0)), .unset, .unset, .unset] rfl ?_
    refine w_iload (pc := 85) X72 C at_85 rfl ?_
    refine w_iconst (pc := 87) X72 C at_87 (1 : Int32) rfl ?_
    refine w_icmp_le (pc := 88) X72 C at_88 99 (by decide) (fun q74 => absurd (by decide) q74) (fun q74 => ?_)
    refine w_iload (pc := 91) X72 C at_91 rfl ?_
    refine w_callP (pc := 93) X72 C (y := (⟨"termwright/index/FieldReaderSortKeyPinLaw", "utf8Length", "(I)I"⟩ : MethodName)) (bytes := method_3_code) (maxL := 1) (rt := some .int) (argsL := [(.int c1)]) (rest := []) (w := .int (f2 c1)) (W := 0) at_93 (List.mem_of_getElem? (i := 8) rfl) (List.mem_of_getElem? (i := 9) rfl) (List.mem_of_getElem? (i := 10) rfl) (List.mem_of_getElem? (i := 11) rfl) (by decide) (ct2 l C.2.2.2.2.2.2.2.2 _ X72.size (c1)) rfl rfl rfl ⟨_, _, pd_0, rfl⟩ rfl (Nat.le_of_eq rfl) (by decide) (by decide) (by decide) (by decide) (fun T76 X75 => ?_)
    refine w_goto (pc := 96) X75 C at_96 100 (by decide) ?_
    refine w_istore (pc := 100) X75 C at_100 #[.val (.int x0), .val (.int x1), .val (.int x2), .val (.int x3), .val (.int c0), .val (.int c1), .val (.int c2), .val (.int (3 : Int32)), .val (.ref a64), .val (.ref a68), .val (.int ((((0 : Int32) + f2 c0) + f2 c1) + f2 c2)), .val (.int (f2 c0)), .val (.int (f2 c1)), .unset, .unset] rfl ?_
    refine w_iload (pc := 102) X75 C at_102 rfl ?_
    refine w_iconst (pc := 104) X75 C at_104 (2 : Int32) rfl ?_
    refine w_icmp_le (pc := 105) X75 C at_105 116 (by decide) (fun q77 => absurd (by decide) q77) (fun q77 => ?_)
    refine w_iload (pc := 108) X75 C at_108 rfl ?_
    refine w_callP (pc := 110) X75 C (y := (⟨"termwright/index/FieldReaderSortKeyPinLaw", "utf8Length", "(I)I"⟩ : MethodName)) (bytes := method_3_code) (maxL := 1) (rt := some .int) (argsL := [(.int c2)]) (rest := []) (w := .int (f2 c2)) (W := 0) at_110 (List.mem_of_getElem? (i := 8) rfl) (List.mem_of_getElem? (i := 9) rfl) (List.mem_of_getElem? (i := 10) rfl) (List.mem_of_getElem? (i := 11) rfl) (by decide) (ct2 l C.2.2.2.2.2.2.2.2 _ X75.size (c2)) rfl rfl rfl ⟨_, _, pd_0, rfl⟩ rfl (Nat.le_of_eq rfl) (by decide) (by decide) (by decide) (by decide) (fun T79 X78 => ?_)
    refine w_goto (pc := 113) X78 C at_113 117 (by decide) ?_
    refine w_istore (pc := 117) X78 C at_117 #[.val (.int x0), .val (.int x1), .val (.int x2), .val (.int x3), .val (.int c0), .val (.int c1), .val (.int c2), .val (.int (3 : Int32)), .val (.ref a64), .val (.ref a68), .val (.int ((((0 : Int32) + f2 c0) + f2 c1) + f2 c2)), .val (.int (f2 c0)), .val (.int (f2 c1)), .val (.int (f2 c2)), .unset] rfl ?_
    refine w_iload (pc := 119) X78 C at_119 rfl ?_
    refine w_iload (pc := 121) X78 C at_121 rfl ?_
    refine w_iload (pc := 123) X78 C at_123 rfl ?_
    refine w_iadd (pc := 125) X78 C at_125 ?_
    refine w_iload (pc := 126) X78 C at_126 rfl ?_
    refine w_iadd (pc := 128) X78 C at_128 ?_
    refine w_icmp_eq (pc := 129) X78 C at_129 134 (by decide) (fun q80 => ?_) (fun q80 => absurd (by simp only [Int32.zero_add, Int32.add_zero]) q80)
    refine w_iconst (pc := 134) X78 C at_134 (1 : Int32) rfl ?_
    refine w_istore (pc := 135) X78 C at_135 #[.val (.int x0), .val (.int x1), .val (.int x2), .val (.int x3), .val (.int c0), .val (.int c1), .val (.int c2), .val (.int (3 : Int32)), .val (.ref a64), .val (.ref a68), .val (.int ((((0 : Int32) + f2 c0) + f2 c1) + f2 c2)), .val (.int (f2 c0)), .val (.int (f2 c1)), .val (.int (f2 c2)), .val (.int (1 : Int32))] rfl ?_
    refine w_iload (pc := 137) X78 C at_137 rfl ?_
    refine w_if_le (pc := 139) X78 C at_139 165 (by decide) (fun q81 => absurd (by decide) q81) (fun q81 => ?_)
    refine w_iload (pc := 142) X78 C at_142 rfl ?_
    refine w_if_eq (pc := 144) X78 C at_144 162 (by decide) (fun q82 => absurd q82 (by decide)) (fun q82 => ?_)
    refine w_aload (pc := 147) X78 C at_147 rfl rfl ?_
    refine w_iconst (pc := 149) X78 C at_149 (0 : Int32) rfl ?_
    refine w_iload (pc := 150) X78 C at_150 rfl ?_
    refine w_callP (pc := 152) X78 C (y := (⟨"termwright/index/FieldReaderSortKeyPinLaw", "encodedAt", "([BII)Z"⟩ : MethodName)) (bytes := method_5_code) (maxL := 8) (rt := some .boolean) (argsL := [(.ref a68), (.int (0 : Int32)), (.int c0)]) (rest := []) (w := .int (f3 (0 : Int32) c0 (own_enc (own_enc (own_enc gg (0 : Int32) c0) ((0 : Int32) + f2 c0) c1) (((0 : Int32) + f2 c0) + f2 c1) c2))) (W := 0) at_152 (List.mem_of_getElem? (i := 12) rfl) (List.mem_of_getElem? (i := 13) rfl) (List.mem_of_getElem? (i := 10) rfl) (List.mem_of_getElem? (i := 14) rfl) (by decide) (ct3 l C.2.2.2.2.2.2.2.2 _ X78.size (a68) ((0 : Int32)) (c0) (own_enc (own_enc (own_enc gg (0 : Int32) c0) ((0 : Int32) + f2 c0) c1) (((0 : Int32) + f2 c0) + f2 c1) c2) A70 (own_pc0 )) rfl rfl rfl ⟨_, _, pd_3, rfl⟩ rfl (Nat.le_of_eq rfl) (by decide) (by decide) (by decide) (by decide) (fun T85 X84 => ?_)
    refine w_if_eq (pc := 155) X84 C at_155 162 (by decide) (fun q86 => absurd q86 (fun z => absurd ((own_f3_0 gg c0 c1 c2 hc0 hc1 hc2).symm.trans z) (by decide))) (fun q86 => ?_)
    refine w_iconst (pc := 158) X84 C at_158 (1 : Int32) rfl ?_
    refine w_goto (pc := 159) X84 C at_159 163 (by decide) ?_
    refine w_istore (pc := 163) X84 C at_163 #[.val (.int x0), .val (.int x1), .val (.int x2), .val (.int x3), .val (.int c0), .val (.int c1), .val (.int c2), .val (.int (3 : Int32)), .val (.ref a64), .val (.ref a68), .val (.int ((((0 : Int32) + f2 c0) + f2 c1) + f2 c2)), .val (.int (f2 c0)), .val (.int (f2 c1)), .val (.int (f2 c2)), .val (.int (1 : Int32))] rfl ?_
    refine w_iload (pc := 165) X84 C at_165 rfl ?_
    refine w_iconst (pc := 167) X84 C at_167 (1 : Int32) rfl ?_
    refine w_icmp_le (pc := 168) X84 C at_168 195 (by decide) (fun q87 => absurd (by decide) q87) (fun q87 => ?_)
    refine w_iload (pc := 171) X84 C at_171 rfl ?_
    refine w_if_eq (pc := 173) X84 C at_173 192 (by decide) (fun q88 => absurd q88 (by decide)) (fun q88 => ?_)
    refine w_aload (pc := 176) X84 C at_176 rfl rfl ?_
    refine w_iload (pc := 178) X84 C at_178 rfl ?_
    refine w_iload (pc := 180) X84 C at_180 rfl ?_
    refine w_callP (pc := 182) X84 C (y := (⟨"termwright/index/FieldReaderSortKeyPinLaw", "encodedAt", "([BII)Z"⟩ : MethodName)) (bytes := method_5_code) (maxL := 8) (rt := some .boolean) (argsL := [(.ref a68), (.int (f2 c0)), (.int c1)]) (rest := []) (w := .int (f3 (f2 c0) c1 (own_enc (own_enc (own_enc gg (0 : Int32) c0) ((0 : Int32) + f2 c0) c1) (((0 : Int32) + f2 c0) + f2 c1) c2))) (W := 0) at_182 (List.mem_of_getElem? (i := 12) rfl) (List.mem_of_getElem? (i := 13) rfl) (List.mem_of_getElem? (i := 10) rfl) (List.mem_of_getElem? (i := 14) rfl) (by decide) (ct3 l C.2.2.2.2.2.2.2.2 _ X84.size (a68) ((f2 c0)) (c1) (own_enc (own_enc (own_enc gg (0 : Int32) c0) ((0 : Int32) + f2 c0) c1) (((0 : Int32) + f2 c0) + f2 c1) c2) A70 (own_pc1 c0)) rfl rfl rfl ⟨_, _, pd_3, rfl⟩ rfl (Nat.le_of_eq rfl) (by decide) (by decide) (by decide) (by decide) (fun T91 X90 => ?_)
    refine w_if_eq (pc := 185) X90 C at_185 192 (by decide) (fun q92 => absurd q92 (fun z => absurd ((own_f3_1 gg c0 c1 c2 hc0 hc1 hc2).symm.trans z) (by decide))) (fun q92 => ?_)
    refine w_iconst (pc := 188) X90 C at_188 (1 : Int32) rfl ?_
    refine w_goto (pc := 189) X90 C at_189 193 (by decide) ?_
    refine w_istore (pc := 193) X90 C at_193 #[.val (.int x0), .val (.int x1), .val (.int x2), .val (.int x3), .val (.int c0), .val (.int c1), .val (.int c2), .val (.int (3 : Int32)), .val (.ref a64), .val (.ref a68), .val (.int ((((0 : Int32) + f2 c0) + f2 c1) + f2 c2)), .val (.int (f2 c0)), .val (.int (f2 c1)), .val (.int (f2 c2)), .val (.int (1 : Int32))] rfl ?_
    refine w_iload (pc := 195) X90 C at_195 rfl ?_
    refine w_iconst (pc := 197) X90 C at_197 (2 : Int32) rfl ?_
    refine w_icmp_le (pc := 198) X90 C at_198 228 (by decide) (fun q93 => absurd (by decide) q93) (fun q93 => ?_)
    refine w_iload (pc := 201) X90 C at_201 rfl ?_
    refine w_if_eq (pc := 203) X90 C at_203 225 (by decide) (fun q94 => absurd q94 (by decide)) (fun q94 => ?_)
    refine w_aload (pc := 206) X90 C at_206 rfl rfl ?_
    refine w_iload (pc := 208) X90 C at_208 rfl ?_
    refine w_iload (pc := 210) X90 C at_210 rfl ?_
    refine w_iadd (pc := 212) X90 C at_212 ?_
    refine w_iload (pc := 213) X90 C at_213 rfl ?_
    refine w_callP (pc := 215) X90 C (y := (⟨"termwright/index/FieldReaderSortKeyPinLaw", "encodedAt", "([BII)Z"⟩ : MethodName)) (bytes := method_5_code) (maxL := 8) (rt := some .boolean) (argsL := [(.ref a68), (.int ((f2 c0) + (f2 c1))), (.int c2)]) (rest := []) (w := .int (f3 ((f2 c0) + (f2 c1)) c2 (own_enc (own_enc (own_enc gg (0 : Int32) c0) ((0 : Int32) + f2 c0) c1) (((0 : Int32) + f2 c0) + f2 c1) c2))) (W := 0) at_215 (List.mem_of_getElem? (i := 12) rfl) (List.mem_of_getElem? (i := 13) rfl) (List.mem_of_getElem? (i := 10) rfl) (List.mem_of_getElem? (i := 14) rfl) (by decide) (ct3 l C.2.2.2.2.2.2.2.2 _ X90.size (a68) (((f2 c0) + (f2 c1))) (c2) (own_enc (own_enc (own_enc gg (0 : Int32) c0) ((0 : Int32) + f2 c0) c1) (((0 : Int32) + f2 c0) + f2 c1) c2) A70 (own_pc2 c0 c1)) rfl rfl rfl ⟨_, _, pd_3, rfl⟩ rfl (Nat.le_of_eq rfl) (by decide) (by decide) (by decide) (by decide) (fun T97 X96 => ?_)
    refine w_if_eq (pc := 218) X96 C at_218 225 (by decide) (fun q98 => absurd q98 (fun z => absurd ((own_f3_2 gg c0 c1 c2 hc0 hc1 hc2).symm.trans z) (by decide))) (fun q98 => ?_)
    refine w_iconst (pc := 221) X96 C at_221 (1 : Int32) rfl ?_
    refine w_goto (pc := 222) X96 C at_222 226 (by decide) ?_
    refine w_istore (pc := 226) X96 C at_226 #[.val (.int x0), .val (.int x1), .val (.int x2), .val (.int x3), .val (.int c0), .val (.int c1), .val (.int c2), .val (.int (3 : Int32)), .val (.ref a64), .val (.ref a68), .val (.int ((((0 : Int32) + f2 c0) + f2 c1) + f2 c2)), .val (.int (f2 c0)), .val (.int (f2 c1)), .val (.int (f2 c2)), .val (.int (1 : Int32))] rfl ?_
    refine w_iload (pc := 228) X96 C at_228 rfl ?_
    exact w_ret_boolean (pc := 230) X96 C at_230 rfl
set_option maxRecDepth 65536 in
theorem law_ct (l : Launch) {Z : State} {a0 : Array Value} (hw : ∀ d ∈ tables_1, d.before a0 Z = true) (h : Heap) {n0 : Nat} (hn : n0 ≤ h.size) (x0 : Int32) (x1 : Int32) (x2 : Int32) (x3 : Int32) : Ct l x code maxLocals ret room_1 Z #[(.int x0), (.int x1), (.int x2), (.int x3)] h n0 (fun v _ => v = some (.int 1)) :=
  Ct.of (plainFor_of_name pn_1) #[.val (.int x0), .val (.int x1), .val (.int x2), .val (.int x3), .unset, .unset, .unset, .unset, .unset, .unset, .unset, .unset, .unset, .unset, .unset] (fun m => by first | (simp [entryFrame, mkF, argsToLocals, Value.category, maxLocals]; done) | rfl) hw hn (fun p e s m below meth c T C X => law_walk X C x0 x1 x2 x3)
set_option maxRecDepth 65536 in
set_option maxHeartbeats 40000000 in
theorem comes_1 {Post : Tables → Env → Array Value → State → Outcome → State → Prop} (hpost : ∀ tb e args s v u, (limb_1_1.after args s (.returned v) u = true ∧ limb_1_2.after args s (.returned v) u = true ∧ True) → FrameEnd s (.returned v) u (Jvm.fieldLocs frame_1_writes args s ++ Jvm.arrayLocs frame_1_arrays args s ++ Jvm.staticLocs frame_1_statics s) 16 128 → Post tb e args s (.returned v) u) :
    ArmFor flags0 classFile x code maxLocals ret World_1 tables_1 room_1 Calls_1 rest_1 Pre_1 Post := by
  intro l hfl _ _ p e ha hc hk s m args below hf hA hF happ hP
  obtain ⟨hcalls, hrest, hpre⟩ := hP
  obtain ⟨-, -, -, hnamed, -, -, -, hat⟩ := (Spec.applies_iff hf).mp happ
  obtain ⟨hg, hn⟩ := and_e (Cond.before_iff.mp (show (Jvm.Cond.and given_1 narrow_1).before args s = true from hpre))
  obtain ⟨g1, g2⟩ := and_e hg
  obtain ⟨g3, g4⟩ := and_e g2
  obtain ⟨g5, g6⟩ := and_e g4
  obtain ⟨g7, g8⟩ := and_e g6
  obtain ⟨w0, w1, w2, w3, rfl⟩ : ∃ w0 w1 w2 w3 : Value, args = #[w0, w1, w2, w3] := by
    have hs : args.size = 4 := by simpa [Cond.value, given_1] using g1
    obtain ⟨L⟩ := args
    match L, hs with
    | [w0, w1, w2, w3], _ => exact ⟨w0, w1, w2, w3, rfl⟩
  have hw := fun d (hd : d ∈ tables_1) => atoms_spec (ws := Jvm.Cond.code x code maxLocals ret :: tables_1) hat d (List.mem_cons_of_mem _ hd)
  obtain ⟨i0, ei0⟩ := is_v g3
  obtain rfl : w0 = (.int i0) := Option.some.inj ei0
  obtain ⟨i1, ei1⟩ := is_v g5
  obtain rfl : w1 = (.int i1) := Option.some.inj ei1
  obtain ⟨i2, ei2⟩ := is_v g7
  obtain rfl : w2 = (.int i2) := Option.some.inj ei2
  obtain ⟨i3, ei3⟩ := is_v g8
  obtain rfl : w3 = (.int i3) := Option.some.inj ei3
  obtain ⟨n, o, h1, h2, h3, _, L, rfl, ⟨N, rfl⟩, hq⟩ := law_ct l hw s.heap (Nat.le_refl _) i0 i1 i2 i3 tables_1 p e ha hc hk s m _ below hf ((Spec.applies_iff_loose hf).mp happ).1 ⟨rfl, State.Warmed39.refl s, rfl⟩ trivial
  refine ⟨n, _, h1, h2, h3, hpost _ _ _ _ _ _ ⟨Cond.after_iff.mpr rfl, Cond.after_iff.mpr (eq_i res_at (Term.int_eval (1)) rfl), trivial⟩ ⟨hq.1, hq.2.1, (hq.2.2.sift fun y hy => Or.inr (N y hy)).mono (by decide) (by decide)⟩⟩
theorem main_1_1 : Claimed_1_1 := comes_1 fun _ _ _ _ _ _ h hF => ⟨h.1, hF⟩
theorem main_1_2 : Claimed_1_2 := comes_1 fun _ _ _ _ _ _ h hF => ⟨h.2.1, hF⟩
end Jvm.Pilot.@@N@@
namespace Jvm.Pilot.@@N@@
open Jvm Jvm.ClassFile Sem Op Lib Jvm.Free Jvm.Stand Jvm.Pilot.@@N@@.Jvm.D
/-! MADE BY PROGRAM (witnessworld.py) out of the Statement's table words and the real class files: 9 classes; the members and pool entries that the words name. The judged class is class 1, her method 1. -/
namespace start1
open Jvm.ClassFile
def u (s : String) : CpInfo := .utf8 (stringToUtf16 s)
/-- a pool by its gaps: so many unusable entries, then the entry; so many at the end -/
def gap : Nat → List CpInfo → List CpInfo
  | 0, r => r
  | n + 1, r => .unusable :: gap n r
def poolList (es : List (Nat × CpInfo)) (last : Nat) : List CpInfo := es.foldr (fun e r => gap e.1 (e.2 :: r)) (gap last [])
def pool (es : List (Nat × CpInfo)) (last : Nat) : Array CpInfo := ⟨poolList es last⟩
def fileOf (pool : Array CpInfo) (this : Nat) (attrs : Array Attribute := #[]) (ms : Array MethodInfo := #[]) (fl : Nat := 33) (sup : Nat := 0) (ifs : Array Nat := #[]) (fds : Array FieldInfo := #[]) : ClassFile where
  minorVersion := 0
  majorVersion := 65
  constantPool := pool
  accessFlags := fl
  thisClass := this
  superClass := sup
  interfaces := ifs
  fields := fds
  methods := ms
  attributes := attrs
def plain (name : String) (sup : Option ClassId) : Class where
  name := name
  kind := .ordinary
  loader := none
  accessFlags := 33
  super := sup
  interfaces := #[]
  cf := none
  fields := #[]
  methods := #[]
  instanceTypes := #[]
  staticTypes := #[]
  resolved := #[]
  callSites := []
  init := .initialized
  statics := none
  mirror := none

def pool0 : Array CpInfo := pool [(5, u "<init>"), (0, u "()V"), (1, .class_ 10), (1, u "java/lang/Object")] 113

def k0m0 : Method := { name := "<init>", desc := "()V", sig := { parameters := [], returnType := none }, accessFlags := 1, code := none }
/-- java/lang/Object -/
def k0 : Class := { plain "java/lang/Object" none with
  accessFlags := 33
  interfaces := #[]
  cf := some (fileOf pool0 8 #[] #[{ accessFlags := 1, nameIndex := 5, descriptorIndex := 6, attributes := #[] }] 33 0 #[] #[])
  fields := #[]
  methods := #[k0m0]
  instanceTypes := #[]
  staticTypes := #[]
  resolved := Array.replicate 124 none
  statics := none }

def pool1 : Array CpInfo := pool [(2, .class_ 4), (1, u "java/lang/Object"), (0, u "<init>"), (0, u "()V"), (0, .integer 2147483647), (0, .integer 1114112), (0, .methodref 10 11), (0, .class_ 12), (0, .nameAndType 13 14), (0, u "termwright/index/FieldReader"), (0, u "sortKey"), (0, u "([II[B)I"), (0, .methodref 16 17), (0, .class_ 18), (0, .nameAndType 19 20), (0, u "termwright/index/FieldReaderSortKeyPinLaw"), (0, u "utf8Length"), (0, u "(I)I"), (0, .methodref 16 22), (0, .nameAndType 23 24), (0, u "encodedAt"), (0, u "([BII)Z"), (0, .integer 65536), (0, .methodref 16 27), (0, .nameAndType 28 29), (0, u "isCont"), (0, u "(I)Z"), (2, u "law"), (0, u "(IIII)Z")] 7

def k1m0 : Method := { name := "<init>", desc := "()V", sig := { parameters := [], returnType := none }, accessFlags := 1, code := none }
def k1c1 : Code := { maxStack := 4, maxLocals := 15, code := code, exceptionTable := #[], attributes := #[] }
def k1m1 : Method := { name := "law", desc := "(IIII)Z", sig := { parameters := [.int, .int, .int, .int], returnType := some .boolean }, accessFlags := 9, code := some k1c1 }
def k1c2 : Code := { maxStack := 2, maxLocals := 1, code := method_3_code, exceptionTable := #[], attributes := #[] }
def k1m2 : Method := { name := "utf8Length", desc := "(I)I", sig := { parameters := [.int], returnType := some .int }, accessFlags := 10, code := some k1c2 }
def k1c3 : Code := { maxStack := 2, maxLocals := 1, code := method_4_code, exceptionTable := #[], attributes := #[] }
def k1m3 : Method := { name := "isCont", desc := "(I)Z", sig := { parameters := [.int], returnType := some .boolean }, accessFlags := 10, code := some k1c3 }
def k1c4 : Code := { maxStack := 3, maxLocals := 8, code := method_5_code, exceptionTable := #[], attributes := #[] }
def k1m4 : Method := { name := "encodedAt", desc := "([BII)Z", sig := { parameters := [(.array .byte), .int, .int], returnType := some .boolean }, accessFlags := 10, code := some k1c4 }
/-- termwright/index/FieldReaderSortKeyPinLaw -/
def k1 : Class := { plain "termwright/index/FieldReaderSortKeyPinLaw" (some 0) with
  accessFlags := 49
  interfaces := #[]
  cf := some (fileOf pool1 16 #[] #[{ accessFlags := 1, nameIndex := 5, descriptorIndex := 6, attributes := #[] }, { accessFlags := 9, nameIndex := 32, descriptorIndex := 33, attributes := #[] }, { accessFlags := 10, nameIndex := 19, descriptorIndex := 20, attributes := #[] }, { accessFlags := 10, nameIndex := 28, descriptorIndex := 29, attributes := #[] }, { accessFlags := 10, nameIndex := 23, descriptorIndex := 24, attributes := #[] }] 49 2 #[] #[])
  fields := #[]
  methods := #[k1m0, k1m1, k1m2, k1m3, k1m4]
  instanceTypes := #[]
  staticTypes := #[]
  resolved := Array.replicate 41 none
  statics := none }

def pool2 : Array CpInfo := pool [(2, .class_ 4), (1, u "java/lang/Object"), (3, .class_ 10), (1, u "termwright/index/FieldReader"), (0, u "name"), (0, u "Ljava/nio/file/Path;"), (2, u "fieldName"), (0, u "Ljava/lang/String;"), (2, u "file"), (0, u "Ljava/nio/ByteBuffer;"), (7, u "fileInput"), (0, u "Ltermwright/index/BufferInput;"), (2, u "segmentDocs"), (0, u "I"), (6, u "docCount"), (6, u "wordCount"), (0, u "J"), (2, u "distinctWords"), (10, u "lengths"), (0, u "Ltermwright/index/Lengths;"), (2, u "postingsStart"), (2, u "wordIndex"), (2, u "filterStart"), (2, u "filterSize"), (5, u "firstWords"), (0, u "Ljava/util/concurrent/atomic/AtomicReference;"), (2, u "initials"), (107, u "sortKey"), (82, .class_ 277), (0, u "termwright/index/FieldReader$CheckedBounds"), (112, .class_ 391), (0, u "termwright/index/FieldReader$FirstWords"), (63, u "([II[B)I"), (6, .integer 65536), (83, .class_ 547), (0, u "termwright/index/FieldReader$FirstWords$Page")] 48

def k2c0 : Code := { maxStack := 5, maxLocals := 6, code := prog_46_method_41_code, exceptionTable := #[], attributes := #[] }
def k2m0 : Method := { name := "sortKey", desc := "([II[B)I", sig := { parameters := [(.array .int), .int, (.array .byte)], returnType := some .int }, accessFlags := 8, code := some k2c0 }
/-- termwright/index/FieldReader -/
def k2 : Class := { plain "termwright/index/FieldReader" (some 0) with
  accessFlags := 49
  interfaces := #[]
  cf := some (fileOf pool2 8 #[.nestMembers #[390, 546, 276]] #[{ accessFlags := 8, nameIndex := 193, descriptorIndex := 455, attributes := #[] }] 49 2 #[] #[{ accessFlags := 18, nameIndex := 11, descriptorIndex := 12, attributes := #[] }, { accessFlags := 18, nameIndex := 15, descriptorIndex := 16, attributes := #[] }, { accessFlags := 18, nameIndex := 19, descriptorIndex := 20, attributes := #[] }, { accessFlags := 18, nameIndex := 28, descriptorIndex := 29, attributes := #[] }, { accessFlags := 18, nameIndex := 32, descriptorIndex := 33, attributes := #[] }, { accessFlags := 2, nameIndex := 40, descriptorIndex := 33, attributes := #[] }, { accessFlags := 2, nameIndex := 47, descriptorIndex := 48, attributes := #[] }, { accessFlags := 18, nameIndex := 51, descriptorIndex := 33, attributes := #[] }, { accessFlags := 18, nameIndex := 62, descriptorIndex := 63, attributes := #[] }, { accessFlags := 18, nameIndex := 66, descriptorIndex := 33, attributes := #[] }, { accessFlags := 18, nameIndex := 69, descriptorIndex := 33, attributes := #[] }, { accessFlags := 18, nameIndex := 72, descriptorIndex := 33, attributes := #[] }, { accessFlags := 18, nameIndex := 75, descriptorIndex := 33, attributes := #[] }, { accessFlags := 18, nameIndex := 81, descriptorIndex := 82, attributes := #[] }, { accessFlags := 18, nameIndex := 85, descriptorIndex := 82, attributes := #[] }])
  fields := #[{ name := "name", type := (.object "java/nio/file/Path"), accessFlags := 18, slot := 0, constantValue := 0 }, { name := "fieldName", type := (.object "java/lang/String"), accessFlags := 18, slot := 1, constantValue := 0 }, { name := "file", type := (.object "java/nio/ByteBuffer"), accessFlags := 18, slot := 2, constantValue := 0 }, { name := "fileInput", type := (.object "termwright/index/BufferInput"), accessFlags := 18, slot := 3, constantValue := 0 }, { name := "segmentDocs", type := .int, accessFlags := 18, slot := 4, constantValue := 0 }, { name := "docCount", type := .int, accessFlags := 2, slot := 5, constantValue := 0 }, { name := "wordCount", type := .long, accessFlags := 2, slot := 6, constantValue := 0 }, { name := "distinctWords", type := .int, accessFlags := 18, slot := 7, constantValue := 0 }, { name := "lengths", type := (.object "termwright/index/Lengths"), accessFlags := 18, slot := 8, constantValue := 0 }, { name := "postingsStart", type := .int, accessFlags := 18, slot := 9, constantValue := 0 }, { name := "wordIndex", type := .int, accessFlags := 18, slot := 10, constantValue := 0 }, { name := "filterStart", type := .int, accessFlags := 18, slot := 11, constantValue := 0 }, { name := "filterSize", type := .int, accessFlags := 18, slot := 12, constantValue := 0 }, { name := "firstWords", type := (.object "java/util/concurrent/atomic/AtomicReference"), accessFlags := 18, slot := 13, constantValue := 0 }, { name := "initials", type := (.object "java/util/concurrent/atomic/AtomicReference"), accessFlags := 18, slot := 14, constantValue := 0 }]
  methods := #[k2m0]
  instanceTypes := #[(.object "java/nio/file/Path"), (.object "java/lang/String"), (.object "java/nio/ByteBuffer"), (.object "termwright/index/BufferInput"), .int, .int, .long, .int, (.object "termwright/index/Lengths"), .int, .int, .int, .int, (.object "java/util/concurrent/atomic/AtomicReference"), (.object "java/util/concurrent/atomic/AtomicReference")]
  staticTypes := #[]
  resolved := Array.replicate 596 none
  statics := none }

def pool3 : Array CpInfo := pool [(1, u "java/lang/Cloneable"), (0, .class_ 1), (0, u "java/lang/Object"), (0, .class_ 3)] 3

/-- java/lang/Cloneable -/
def k3 : Class := { plain "java/lang/Cloneable" (some 0) with
  accessFlags := 1537
  interfaces := #[]
  cf := some (fileOf pool3 2 #[] #[] 1537 4 #[] #[])
  fields := #[]
  methods := #[]
  instanceTypes := #[]
  staticTypes := #[]
  resolved := Array.replicate 8 none
  statics := none }

def pool4 : Array CpInfo := pool [(1, u "java/io/Serializable"), (0, .class_ 1), (0, u "java/lang/Object"), (0, .class_ 3)] 3

/-- java/io/Serializable -/
def k4 : Class := { plain "java/io/Serializable" (some 0) with
  accessFlags := 1537
  interfaces := #[]
  cf := some (fileOf pool4 2 #[] #[] 1537 4 #[] #[])
  fields := #[]
  methods := #[]
  instanceTypes := #[]
  staticTypes := #[]
  resolved := Array.replicate 8 none
  statics := none }

/-- the primitive byte -/
def k5 : Class := { plain "byte" none with kind := .primitive 'B', accessFlags := 0x411 }
/-- [B -/
def k6 : Class := { plain "[B" (some 0) with kind := .array 5 .byte, interfaces := #[3, 4], accessFlags := 1041 }

/-- the primitive int -/
def k7 : Class := { plain "int" none with kind := .primitive 'I', accessFlags := 0x411 }
/-- [I -/
def k8 : Class := { plain "[I" (some 0) with kind := .array 7 .int, interfaces := #[3, 4], accessFlags := 1041 }

def heap : Heap := #[]
def classes : Array Class := #[k0, k1, k2, k3, k4, k5, k6, k7, k8]
def interned : List (Array UInt16 × Addr) := []
def slotsUsed : Nat := 0
def theMethod : MethodId := ⟨1, 1⟩
def args0 : Array Value := #[.int 5, .int 3, .int 2, .int 4]
def aboutOver (below : List Frame) : State where
  vm := { classes := classes, interned := interned.toArray }
  heap := heap
  slotsUsed := slotsUsed
  threads := #[{ frames := .invoking theMethod args0 :: below }]
def below0 : List Frame := [.native { method := ⟨0, 0⟩, args := #[] }]
def about1 : State := aboutOver below0
def p0 : Program := .bare "" "" ""
def e0 : Env := launch0.env 0 0 0
theorem w_frames : about1.frames = Frame.invoking theMethod args0 :: below0 := rfl
set_option maxRecDepth 65536 in
theorem w_args : argsFit about1.vm theMethod args0 = true := by decide +kernel
set_option maxRecDepth 65536 in
theorem w_heap : heapFits about1 = true := by decide +kernel
set_option maxRecDepth 65536 in
theorem w_runnable : about1.curStatus? = some .runnable := by decide +kernel
set_option maxRecDepth 65536 in
theorem w_alone : about1.alone = true := by decide +kernel
set_option maxRecDepth 65536 in
theorem w_named : about1.methodNamed? x = some theMethod := by decide +kernel
set_option maxRecDepth 65536 in
theorem w_hears : about1.hears theMethod below0 = true := by decide +kernel
set_option maxRecDepth 65536 in
theorem w_ripe : about1.ripe theMethod args0 below0 = true := by decide +kernel
theorem w_running : about1.status = .running := rfl
set_option maxRecDepth 65536 in
theorem w_room : about1.hasRoom e0.platform room_1 = true :=
  launch0.hasRoom_least _ room_1 (by decide +kernel) (by decide +kernel) (by decide +kernel) (by decide +kernel) (by decide +kernel) (by decide +kernel)
theorem allAtoms_all (ts : List Jvm.Cond) (a : Array Jvm.Value) (st : Jvm.State) : (allAtoms ts).before a st = ts.all (fun c => c.before a st) := by
  induction ts with
  | nil => rfl
  | cons c t ih =>
    show (Jvm.Cond.and c (allAtoms t)).before a st = _
    rw [Jvm.Cond.before_and, ih, List.all_cons]
def words1 : List Jvm.Cond := Jvm.Cond.code x code maxLocals ret :: tables_1
/-- a 'code' word, met by the world's own term for the bytes: nothing is compared byte by byte -/
theorem code_word {y : MethodName} {bytes : ByteArray} {mx : Nat} {rt : Option FieldType} {a : Array Value} {s : State} {m : MethodId} {meth : Method} {c : Code} (h1 : s.methodNamed? y = some m) (h2 : s.vm.method? m = some meth) (h3 : meth.code = some c) (h4 : c.code = bytes)
    (h5 : (c.maxLocals == mx && c.exceptionTable.isEmpty && decide (c.maxStack ≤ mostOperands) && decide (meth.sig.returnType = rt) && !meth.locks && decide (parseMethodDescriptor y.desc = some meth.sig)) = true) : (Jvm.Cond.code y bytes mx rt).before a s = true := by
  simp only [Bool.and_eq_true, beq_iff_eq, Bool.not_eq_true', decide_eq_true_eq] at h5
  obtain ⟨⟨⟨⟨⟨g1, g2⟩, g3⟩, g4⟩, g5⟩, g6⟩ := h5
  simp [Cond.before, Cond.holds, Cond.value, h1, h2, h3, h4, g1, g2, g3, g4, g5, g6]
def isCode : Jvm.Cond → Bool
  | .code _ _ _ _ => true
  | _ => false
theorem all_split {L : List Jvm.Cond} {P : Jvm.Cond → Bool} (h1 : L.all (fun c => isCode c || P c) = true) (h2 : ∀ c ∈ L.filter isCode, P c = true) : L.all P = true := by
  refine List.all_eq_true.mpr fun c hc => ?_
  have h := List.all_eq_true.mp h1 c hc
  rcases Bool.eq_false_or_eq_true (isCode c) with hi | hi
  · exact h2 c (List.mem_filter.mpr ⟨hc, hi⟩)
  · simpa [hi] using h
set_option maxRecDepth 65536 in
theorem w_c0 : (Jvm.Cond.code x code maxLocals ret).before args0 about1 = true := code_word (m := ⟨1, 1⟩) (meth := k1m1) (c := k1c1) (by decide +kernel) rfl rfl rfl (by decide +kernel)
set_option maxRecDepth 65536 in
theorem w_c1 : (Jvm.Cond.code ({ cls := "termwright/index/FieldReader", name := "sortKey", desc := "([II[B)I" } : Jvm.MethodName) prog_46_method_41_code (6 : Nat) (Option.some Jvm.ClassFile.FieldType.int)).before args0 about1 = true := code_word (m := ⟨2, 0⟩) (meth := k2m0) (c := k2c0) (by decide +kernel) rfl rfl rfl (by decide +kernel)
set_option maxRecDepth 65536 in
theorem w_c2 : (Jvm.Cond.code ({ cls := "termwright/index/FieldReaderSortKeyPinLaw", name := "utf8Length", desc := "(I)I" } : Jvm.MethodName) method_3_code (1 : Nat) (Option.some Jvm.ClassFile.FieldType.int)).before args0 about1 = true := code_word (m := ⟨1, 2⟩) (meth := k1m2) (c := k1c2) (by decide +kernel) rfl rfl rfl (by decide +kernel)
set_option maxRecDepth 65536 in
theorem w_c3 : (Jvm.Cond.code ({ cls := "termwright/index/FieldReaderSortKeyPinLaw", name := "encodedAt", desc := "([BII)Z" } : Jvm.MethodName) method_5_code (8 : Nat) (Option.some Jvm.ClassFile.FieldType.boolean)).before args0 about1 = true := code_word (m := ⟨1, 4⟩) (meth := k1m4) (c := k1c4) (by decide +kernel) rfl rfl rfl (by decide +kernel)
set_option maxRecDepth 65536 in
theorem w_c4 : (Jvm.Cond.code ({ cls := "termwright/index/FieldReaderSortKeyPinLaw", name := "isCont", desc := "(I)Z" } : Jvm.MethodName) method_4_code (1 : Nat) (Option.some Jvm.ClassFile.FieldType.boolean)).before args0 about1 = true := code_word (m := ⟨1, 3⟩) (meth := k1m3) (c := k1c3) (by decide +kernel) rfl rfl rfl (by decide +kernel)
def codes1 : List Jvm.Cond := [Jvm.Cond.code x code maxLocals ret, Jvm.Cond.code ({ cls := "termwright/index/FieldReader", name := "sortKey", desc := "([II[B)I" } : Jvm.MethodName) prog_46_method_41_code (6 : Nat) (Option.some Jvm.ClassFile.FieldType.int), Jvm.Cond.code ({ cls := "termwright/index/FieldReaderSortKeyPinLaw", name := "utf8Length", desc := "(I)I" } : Jvm.MethodName) method_3_code (1 : Nat) (Option.some Jvm.ClassFile.FieldType.int), Jvm.Cond.code ({ cls := "termwright/index/FieldReaderSortKeyPinLaw", name := "encodedAt", desc := "([BII)Z" } : Jvm.MethodName) method_5_code (8 : Nat) (Option.some Jvm.ClassFile.FieldType.boolean), Jvm.Cond.code ({ cls := "termwright/index/FieldReaderSortKeyPinLaw", name := "isCont", desc := "(I)Z" } : Jvm.MethodName) method_4_code (1 : Nat) (Option.some Jvm.ClassFile.FieldType.boolean)]
set_option maxRecDepth 65536 in
theorem codes_eq : words1.filter isCode = codes1 := rfl
theorem w_codes : ∀ c ∈ words1.filter isCode, c.before args0 about1 = true := by
  rw [codes_eq]
  intro c hc
  simp only [codes1, List.mem_cons, List.not_mem_nil, or_false] at hc
  rcases hc with rfl | rfl | rfl | rfl | rfl
  · exact w_c0
  · exact w_c1
  · exact w_c2
  · exact w_c3
  · exact w_c4
set_option maxRecDepth 65536 in
theorem w_t1 : words1.all (fun c => isCode c || c.before args0 about1) = true := by decide +kernel
theorem w_tables : (allAtoms (Jvm.Cond.code x code maxLocals ret :: tables_1)).before args0 about1 = true := by
  rw [allAtoms_all]
  show words1.all (fun c => c.before args0 about1) = true
  refine all_split ?_ w_codes
  rw [w_t1]
set_option maxRecDepth 65536 in
theorem w_case : (Jvm.Cond.and given_1 narrow_1).before args0 about1 = true := by decide +kernel
theorem w_applies : (headSpec (Jvm.Cond.code x code maxLocals ret :: tables_1) room_1).applies x e0.platform about1 = true :=
  (Spec.applies_iff w_frames).mpr ⟨w_running, w_runnable, w_alone, w_named, w_hears, w_ripe, w_room, w_tables⟩
theorem atStart : AtStart classFile x code maxLocals ret World_1 tables_1 room_1 Calls_1 rest_1 Pre_1 launch0 p0 e0 about1 theMethod args0 below0 :=
  ⟨lists_1, trivial, launch0.admits_env _ _ _, launch0.least_env, fairChoices_fair.cas, fairChoices_fair.clock, w_frames, w_args, w_heap, w_applies, trivial, trivial, w_case⟩
end start1
theorem witness_1 : WitnessClaimed_1 := ⟨start1.p0, start1.e0, start1.about1, start1.theMethod, start1.args0, start1.below0, start1.atStart⟩
end Jvm.Pilot.@@N@@
