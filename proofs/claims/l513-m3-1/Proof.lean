import JvmDerived
import JvmDerived.Pilot.@@N@@Statement
import JvmDerived.Pilot.@@N@@Code
set_option linter.unusedVariables false
set_option linter.unusedSimpArgs false
@@BLOCK:NumsL.lean.txt@@
namespace Jvm.OwnW
open Sem ClassFile Op Lib Jvm.Stand Jvm.Free Jvm.LawKit Jvm.RoadKit
theorem retI' {p : Program} {l : Launch} {e : Env} {R : Room} {s : State} {m : MethodId} {args : Array Value} {below : List Frame} {meth : Method} {c : Code} {T : State} {locs : List Loc} {cells slots : Nat} (X : Stand p l e R s m args below meth c T locs cells slots) (hx : p.tables.exec = Jvm.exec) {pc : Nat} {Ls : Array Slot} {z : Int32} {rest : List Value} (hret : meth.sig.returnType = some .int) (hd : decode c.code pc = .ok (.ireturn, 1)) {fs : List Frame}
    (hl : ∀ (f : JFrame) (acts : List Action), f.method = m → f.locked = none → f.entered = [] → (doReturn e (T.setTop f) acts (some (.int z))).1 = T.setFrames fs) : Steps p.tables e below (T.setTop (mkF m pc Ls (.int z :: rest))) (T.setFrames fs) :=
  retOut X hx hret rfl (Or.inl ⟨rfl, Or.inl rfl, z, rfl⟩) hd hl
end Jvm.OwnW
namespace Jvm.OwnW
open Sem ClassFile Op Lib Jvm.Stand Jvm.Free Jvm.LawKit Jvm.RoadKit
def ushrI (x y : Int32) : Int32 := (x.toUInt32 >>> (y &&& 31).toUInt32).toInt32
def shlI (x y : Int32) : Int32 := x <<< (y &&& 31)
def shrI (x y : Int32) : Int32 := x >>> (y &&& 31)
def shlJ (x : Int64) (y : Int32) : Int64 := x <<< (y &&& 0x3f).toInt64
def shrJ (x : Int64) (y : Int32) : Int64 := x >>> (y &&& 0x3f).toInt64
def ushrJ (x : Int64) (y : Int32) : Int64 := (x.toUInt64 >>> (y &&& 0x3f).toInt64.toUInt64).toInt64
def cmpJ (x y : Int64) : Int32 := if x > y then 1 else if x = y then 0 else -1
def i8 (x : Int32) : Int32 := x.toInt8.toInt32
def i16c (x : Int32) : Int32 := x.toUInt32.toUInt16.toUInt32.toInt32
/-- from T with g on top the run comes to its end, and P says of what it returns and of the heap -/
def Goes (p : Program) (e : Env) (below : List Frame) (s : State) (n0 : Nat) (P : Option Value → Heap → Prop) (k n : Nat) (T : State) (g : JFrame) : Prop :=
  ∃ s₂ o, Steps p.tables e below (T.setTop g) s₂ ∧ s₂.status = .running ∧ Ended s₂ below o ∧ ∃ v L, o = .returned v ∧ (Fr n0 L ∧ P v s₂.heap) ∧ FrameEnd s o s₂ L k n
/-- where a walk stands: nothing old is written, the heap is h -/
def Hr (p : Program) (l : Launch) (e : Env) (R : Room) (s : State) (m : MethodId) (args : Array Value) (below : List Frame) (meth : Method) (c : Code) (n0 : Nat) (h : Heap) (cells slots : Nat) (T : State) : Prop :=
  ∃ locs, Stand p l e R s m args below meth c T locs cells slots ∧ T.heap = h ∧ Fr n0 locs ∧ n0 ≤ s.heap.size
/-- what stays through a body -/
def Cx (p : Program) (s : State) (m : MethodId) (meth : Method) (c : Code) (code : ByteArray) (ml : Nat) (ret : Option FieldType) (own nm : String) (Z : State) (a0 : Array Value) (tabs : List Jvm.Cond) : Prop :=
  p.tables.exec = Jvm.exec ∧ c.code = code ∧ c.maxLocals = ml ∧ meth.sig.returnType = ret ∧ meth.locks = false ∧ s.vm.findClass own = some m.cls ∧ meth.name = nm ∧ Z.Warmed39 s.vm ∧ ∀ d ∈ tabs, d.before a0 Z = true
/-- a body's contract: called with these arguments at this heap it returns, nothing old is written, and P says the rest -/
def Ct (l : Launch) (y : MethodName) (bytes : ByteArray) (maxL : Nat) (ret : Option FieldType) (rm : Room) (Z : State) (as' : Array Value) (h : Heap) (n0 : Nat) (P : Option Value → Heap → Prop) : Prop :=
  ∀ ws, MetFree l y (head1 (Jvm.Cond.code y bytes maxL ret :: ws) rm) (fun a U => a = as' ∧ Z.Warmed39 U.vm ∧ U.heap = h) (fun _ _ _ _ _ => True) (fun _ U o U' => ∃ v L, o = .returned v ∧ (Fr n0 L ∧ P v U'.heap) ∧ FrameEnd U o U' L rm.cells rm.slots)
def up {α : Type} (g : Nat → α) (j : Nat) (v : α) : Nat → α := fun i => if i = j then v else g i
/-- an array of N places: place i holds f i -/
def ArV (Z : State) (h : Heap) (a : Addr) (ty : FieldType) (N : Nat) (f : Nat → Value) : Prop := ∃ cl : Cell, Arr Z h a cl ty ∧ cl.slots.size = N ∧ ∀ i, i < N → cl.slots[i]? = some (f i)
abbrev ArI (Z : State) (h : Heap) (a : Addr) (ty : FieldType) (N : Nat) (g : Nat → Int32) : Prop := ArV Z h a ty N (fun i => .int (g i))
abbrev ArJ (Z : State) (h : Heap) (a : Addr) (N : Nat) (g : Nat → Int64) : Prop := ArV Z h a .long N (fun i => .long (g i))
/-- an index as a natural number -/
def nt (j : Int32) : Nat := j.toInt.toNat
theorem nt_eq {j : Int32} (h : 0 ≤ j.toInt) : j.toInt = (nt j : Int) := by unfold nt; omega
theorem nt_lt {j : Int32} {N : Nat} (h : j.toInt < N) (h0 : 0 < N) : nt j < N := by unfold nt; omega
theorem add1 {x : Int32} (y : Int32) (d : Int) (hd : y.toInt = d) (h1 : -2147483648 ≤ x.toInt + d) (h2 : x.toInt + d < 2147483648) : (x + y).toInt = x.toInt + d := by
  have h := c_iadd x y
  have r := rng32 (x + y)
  omega
theorem sub1 {x : Int32} (y : Int32) (d : Int) (hd : y.toInt = d) (h1 : -2147483648 ≤ x.toInt - d) (h2 : x.toInt - d < 2147483648) : (x - y).toInt = x.toInt - d := by
  have h := c_isub x y
  have r := rng32 (x - y)
  omega
section W
variable {p : Program} {l : Launch} {e : Env} {R : Room} {s : State} {m : MethodId} {args : Array Value} {below : List Frame} {meth : Method} {c : Code} {T : State} {h h' : Heap} {cells slots : Nat} {n0 : Nat} {P : Option Value → Heap → Prop} {k n : Nat} {code : ByteArray} {ml : Nat} {ret : Option FieldType} {own nm : String} {Z : State} {a0 : Array Value} {tabs : List Jvm.Cond}
theorem Goes.of {g g' : JFrame} {T' : State} (st : ∀ target, Steps p.tables e below (T'.setTop g') target → Steps p.tables e below (T.setTop g) target) (K : Goes p e below s n0 P k n T' g') : Goes p e below s n0 P k n T g := by
  obtain ⟨s₂, o, h1, r⟩ := K
  exact ⟨s₂, o, st _ h1, r⟩
theorem Goes.imp {P' : Option Value → Heap → Prop} {g : JFrame} (hp : ∀ v h, P v h → P' v h) (K : Goes p e below s n0 P k n T g) : Goes p e below s n0 P' k n T g := by
  obtain ⟨s₂, o, h1, h2, h3, v, L, h4, h5, h6⟩ := K
  exact ⟨s₂, o, h1, h2, h3, v, L, h4, ⟨h5.1, hp _ _ h5.2⟩, h6⟩
theorem Ct.imp {y : MethodName} {bytes : ByteArray} {maxL : Nat} {rm : Room} {as' : Array Value} {P' : Option Value → Heap → Prop} (hp : ∀ v h, P v h → P' v h) (K : Ct l y bytes maxL ret rm Z as' h n0 P) : Ct l y bytes maxL ret rm Z as' h n0 P' := by
  intro ws p e ha hc hk s m args below hf happ hP hK
  obtain ⟨n, o, h1, h2, h3, v, L, h4, h5, h6⟩ := K ws p e ha hc hk s m args below hf happ hP hK
  exact ⟨n, o, h1, h2, h3, v, L, h4, ⟨h5.1, hp _ _ h5.2⟩, h6⟩
theorem Hr.size (X : Hr p l e R s m args below meth c n0 h cells slots T) : n0 ≤ h.size := by
  obtain ⟨locs, S, eT, N, q⟩ := X
  have q2 : s.heap.size ≤ T.heap.size := S.same.2.1
  rw [eT] at q2
  exact Nat.le_trans q q2
theorem Ct.of {y : MethodName} {bytes : ByteArray} {maxL : Nat} {rm : Room} {as' : Array Value} (hpl : plainFor y = true) (Ls : Array Slot) (hef : ∀ m, entryFrame m as' maxL = mkF m 0 Ls []) (hw : ∀ d ∈ tabs, d.before a0 Z = true) (hn0 : n0 ≤ h.size)
    (K : ∀ p e s m below meth c T, Cx p s m meth c bytes maxL ret y.cls y.name Z a0 tabs → Hr p l e rm s m as' below meth c n0 h 0 0 T → Goes p e below s n0 P rm.cells rm.slots T (mkF m 0 Ls [])) :
    Ct l y bytes maxL ret rm Z as' h n0 P := by
  intro ws
  refine MetFree.of_bodySF hpl hisR ?_
  intro p e s m args below meth c s₁ Bd hml0 hP hK
  obtain ⟨rfl, hZ, hh⟩ := hP
  obtain ⟨s₂, o, h1, r⟩ := K p e s m below meth c s₁ ⟨Bd.exec, Bd.bytes, hml0, Bd.returns, BodyLoose.notSynchronized Bd, findClass_of_methodNamed Bd.named, (name_of_methodNamed Bd.named Bd.method).1, hZ, hw⟩ ⟨[], Stand.of_body Bd, by rw [← hh, Bd.state]; rfl, Fr.nil n0, by rw [hh]; exact hn0⟩
  exact ⟨s₂, o, castTop (hef m) h1, r⟩

theorem w_iadd (X : Hr p l e R s m args below meth c n0 h cells slots T) (C : Cx p s m meth c code ml ret own nm Z a0 tabs) {pc : Nat} {Ls : Array Slot} {x y : Int32} {rest : List Value} (hd : decode code pc = .ok (.iadd, 1)) (K : Goes p e below s n0 P k n T (mkF m (pc + 1) Ls (.int (x + y) :: rest))) : Goes p e below s n0 P k n T (mkF m pc Ls (.int y :: .int x :: rest)) := by
  obtain ⟨locs, S, -, -, -⟩ := X
  exact Goes.of (fun _ kk => XS.iadd S.here C.1 rfl (hb C.2.1 hd) rfl kk) K
theorem w_isub (X : Hr p l e R s m args below meth c n0 h cells slots T) (C : Cx p s m meth c code ml ret own nm Z a0 tabs) {pc : Nat} {Ls : Array Slot} {x y : Int32} {rest : List Value} (hd : decode code pc = .ok (.isub, 1)) (K : Goes p e below s n0 P k n T (mkF m (pc + 1) Ls (.int (x - y) :: rest))) : Goes p e below s n0 P k n T (mkF m pc Ls (.int y :: .int x :: rest)) := by
  obtain ⟨locs, S, -, -, -⟩ := X
  exact Goes.of (fun _ kk => XS.isub S.here C.1 rfl (hb C.2.1 hd) rfl kk) K
theorem w_imul (X : Hr p l e R s m args below meth c n0 h cells slots T) (C : Cx p s m meth c code ml ret own nm Z a0 tabs) {pc : Nat} {Ls : Array Slot} {x y : Int32} {rest : List Value} (hd : decode code pc = .ok (.imul, 1)) (K : Goes p e below s n0 P k n T (mkF m (pc + 1) Ls (.int (x * y) :: rest))) : Goes p e below s n0 P k n T (mkF m pc Ls (.int y :: .int x :: rest)) := by
  obtain ⟨locs, S, -, -, -⟩ := X
  exact Goes.of (fun _ kk => XS.imul S.here C.1 rfl (hb C.2.1 hd) rfl kk) K
theorem w_iand (X : Hr p l e R s m args below meth c n0 h cells slots T) (C : Cx p s m meth c code ml ret own nm Z a0 tabs) {pc : Nat} {Ls : Array Slot} {x y : Int32} {rest : List Value} (hd : decode code pc = .ok (.iand, 1)) (K : Goes p e below s n0 P k n T (mkF m (pc + 1) Ls (.int (x &&& y) :: rest))) : Goes p e below s n0 P k n T (mkF m pc Ls (.int y :: .int x :: rest)) := by
  obtain ⟨locs, S, -, -, -⟩ := X
  exact Goes.of (fun _ kk => XS.iand S.here C.1 rfl (hb C.2.1 hd) rfl kk) K
theorem w_ior (X : Hr p l e R s m args below meth c n0 h cells slots T) (C : Cx p s m meth c code ml ret own nm Z a0 tabs) {pc : Nat} {Ls : Array Slot} {x y : Int32} {rest : List Value} (hd : decode code pc = .ok (.ior, 1)) (K : Goes p e below s n0 P k n T (mkF m (pc + 1) Ls (.int (x ||| y) :: rest))) : Goes p e below s n0 P k n T (mkF m pc Ls (.int y :: .int x :: rest)) := by
  obtain ⟨locs, S, -, -, -⟩ := X
  exact Goes.of (fun _ kk => XS.ior S.here C.1 rfl (hb C.2.1 hd) rfl kk) K
theorem w_ixor (X : Hr p l e R s m args below meth c n0 h cells slots T) (C : Cx p s m meth c code ml ret own nm Z a0 tabs) {pc : Nat} {Ls : Array Slot} {x y : Int32} {rest : List Value} (hd : decode code pc = .ok (.ixor, 1)) (K : Goes p e below s n0 P k n T (mkF m (pc + 1) Ls (.int (x ^^^ y) :: rest))) : Goes p e below s n0 P k n T (mkF m pc Ls (.int y :: .int x :: rest)) := by
  obtain ⟨locs, S, -, -, -⟩ := X
  exact Goes.of (fun _ kk => XS.ixor S.here C.1 rfl (hb C.2.1 hd) rfl kk) K
theorem w_ishl (X : Hr p l e R s m args below meth c n0 h cells slots T) (C : Cx p s m meth c code ml ret own nm Z a0 tabs) {pc : Nat} {Ls : Array Slot} {x y : Int32} {rest : List Value} (hd : decode code pc = .ok (.ishl, 1)) (K : Goes p e below s n0 P k n T (mkF m (pc + 1) Ls (.int (shlI x y) :: rest))) : Goes p e below s n0 P k n T (mkF m pc Ls (.int y :: .int x :: rest)) := by
  obtain ⟨locs, S, -, -, -⟩ := X
  exact Goes.of (fun _ kk => XS.ishl S.here C.1 rfl (hb C.2.1 hd) rfl kk) K
theorem w_ishr (X : Hr p l e R s m args below meth c n0 h cells slots T) (C : Cx p s m meth c code ml ret own nm Z a0 tabs) {pc : Nat} {Ls : Array Slot} {x y : Int32} {rest : List Value} (hd : decode code pc = .ok (.ishr, 1)) (K : Goes p e below s n0 P k n T (mkF m (pc + 1) Ls (.int (shrI x y) :: rest))) : Goes p e below s n0 P k n T (mkF m pc Ls (.int y :: .int x :: rest)) := by
  obtain ⟨locs, S, -, -, -⟩ := X
  exact Goes.of (fun _ kk => XS.ishr S.here C.1 rfl (hb C.2.1 hd) rfl kk) K
theorem w_iushr (X : Hr p l e R s m args below meth c n0 h cells slots T) (C : Cx p s m meth c code ml ret own nm Z a0 tabs) {pc : Nat} {Ls : Array Slot} {x y : Int32} {rest : List Value} (hd : decode code pc = .ok (.iushr, 1)) (K : Goes p e below s n0 P k n T (mkF m (pc + 1) Ls (.int (ushrI x y) :: rest))) : Goes p e below s n0 P k n T (mkF m pc Ls (.int y :: .int x :: rest)) := by
  obtain ⟨locs, S, -, -, -⟩ := X
  exact Goes.of (fun _ kk => XS.iushr S.here C.1 rfl (hb C.2.1 hd) rfl kk) K
theorem w_ladd (X : Hr p l e R s m args below meth c n0 h cells slots T) (C : Cx p s m meth c code ml ret own nm Z a0 tabs) {pc : Nat} {Ls : Array Slot} {x y : Int64} {rest : List Value} (hd : decode code pc = .ok (.ladd, 1)) (K : Goes p e below s n0 P k n T (mkF m (pc + 1) Ls (.long (x + y) :: rest))) : Goes p e below s n0 P k n T (mkF m pc Ls (.long y :: .long x :: rest)) := by
  obtain ⟨locs, S, -, -, -⟩ := X
  exact Goes.of (fun _ kk => XS.ladd S.here C.1 rfl (hb C.2.1 hd) rfl kk) K
theorem w_lsub (X : Hr p l e R s m args below meth c n0 h cells slots T) (C : Cx p s m meth c code ml ret own nm Z a0 tabs) {pc : Nat} {Ls : Array Slot} {x y : Int64} {rest : List Value} (hd : decode code pc = .ok (.lsub, 1)) (K : Goes p e below s n0 P k n T (mkF m (pc + 1) Ls (.long (x - y) :: rest))) : Goes p e below s n0 P k n T (mkF m pc Ls (.long y :: .long x :: rest)) := by
  obtain ⟨locs, S, -, -, -⟩ := X
  exact Goes.of (fun _ kk => XS.lsub S.here C.1 rfl (hb C.2.1 hd) rfl kk) K
theorem w_lmul (X : Hr p l e R s m args below meth c n0 h cells slots T) (C : Cx p s m meth c code ml ret own nm Z a0 tabs) {pc : Nat} {Ls : Array Slot} {x y : Int64} {rest : List Value} (hd : decode code pc = .ok (.lmul, 1)) (K : Goes p e below s n0 P k n T (mkF m (pc + 1) Ls (.long (x * y) :: rest))) : Goes p e below s n0 P k n T (mkF m pc Ls (.long y :: .long x :: rest)) := by
  obtain ⟨locs, S, -, -, -⟩ := X
  exact Goes.of (fun _ kk => XS.lmul S.here C.1 rfl (hb C.2.1 hd) rfl kk) K
theorem w_land (X : Hr p l e R s m args below meth c n0 h cells slots T) (C : Cx p s m meth c code ml ret own nm Z a0 tabs) {pc : Nat} {Ls : Array Slot} {x y : Int64} {rest : List Value} (hd : decode code pc = .ok (.land, 1)) (K : Goes p e below s n0 P k n T (mkF m (pc + 1) Ls (.long (x &&& y) :: rest))) : Goes p e below s n0 P k n T (mkF m pc Ls (.long y :: .long x :: rest)) := by
  obtain ⟨locs, S, -, -, -⟩ := X
  exact Goes.of (fun _ kk => XS.land S.here C.1 rfl (hb C.2.1 hd) rfl kk) K
theorem w_lor (X : Hr p l e R s m args below meth c n0 h cells slots T) (C : Cx p s m meth c code ml ret own nm Z a0 tabs) {pc : Nat} {Ls : Array Slot} {x y : Int64} {rest : List Value} (hd : decode code pc = .ok (.lor, 1)) (K : Goes p e below s n0 P k n T (mkF m (pc + 1) Ls (.long (x ||| y) :: rest))) : Goes p e below s n0 P k n T (mkF m pc Ls (.long y :: .long x :: rest)) := by
  obtain ⟨locs, S, -, -, -⟩ := X
  exact Goes.of (fun _ kk => XS.lor S.here C.1 rfl (hb C.2.1 hd) rfl kk) K
theorem w_lxor (X : Hr p l e R s m args below meth c n0 h cells slots T) (C : Cx p s m meth c code ml ret own nm Z a0 tabs) {pc : Nat} {Ls : Array Slot} {x y : Int64} {rest : List Value} (hd : decode code pc = .ok (.lxor, 1)) (K : Goes p e below s n0 P k n T (mkF m (pc + 1) Ls (.long (x ^^^ y) :: rest))) : Goes p e below s n0 P k n T (mkF m pc Ls (.long y :: .long x :: rest)) := by
  obtain ⟨locs, S, -, -, -⟩ := X
  exact Goes.of (fun _ kk => XS.lxor S.here C.1 rfl (hb C.2.1 hd) rfl kk) K
theorem w_lshl (X : Hr p l e R s m args below meth c n0 h cells slots T) (C : Cx p s m meth c code ml ret own nm Z a0 tabs) {pc : Nat} {Ls : Array Slot} {x : Int64} {y : Int32} {rest : List Value} (hd : decode code pc = .ok (.lshl, 1)) (K : Goes p e below s n0 P k n T (mkF m (pc + 1) Ls (.long (shlJ x y) :: rest))) : Goes p e below s n0 P k n T (mkF m pc Ls (.int y :: .long x :: rest)) := by
  obtain ⟨locs, S, -, -, -⟩ := X
  exact Goes.of (fun _ kk => XS.lshl S.here C.1 rfl (hb C.2.1 hd) rfl kk) K
theorem w_lshr (X : Hr p l e R s m args below meth c n0 h cells slots T) (C : Cx p s m meth c code ml ret own nm Z a0 tabs) {pc : Nat} {Ls : Array Slot} {x : Int64} {y : Int32} {rest : List Value} (hd : decode code pc = .ok (.lshr, 1)) (K : Goes p e below s n0 P k n T (mkF m (pc + 1) Ls (.long (shrJ x y) :: rest))) : Goes p e below s n0 P k n T (mkF m pc Ls (.int y :: .long x :: rest)) := by
  obtain ⟨locs, S, -, -, -⟩ := X
  exact Goes.of (fun _ kk => XS.lshr S.here C.1 rfl (hb C.2.1 hd) rfl kk) K
theorem w_lushr (X : Hr p l e R s m args below meth c n0 h cells slots T) (C : Cx p s m meth c code ml ret own nm Z a0 tabs) {pc : Nat} {Ls : Array Slot} {x : Int64} {y : Int32} {rest : List Value} (hd : decode code pc = .ok (.lushr, 1)) (K : Goes p e below s n0 P k n T (mkF m (pc + 1) Ls (.long (ushrJ x y) :: rest))) : Goes p e below s n0 P k n T (mkF m pc Ls (.int y :: .long x :: rest)) := by
  obtain ⟨locs, S, -, -, -⟩ := X
  exact Goes.of (fun _ kk => XS.lushr S.here C.1 rfl (hb C.2.1 hd) rfl kk) K
theorem w_lcmp (X : Hr p l e R s m args below meth c n0 h cells slots T) (C : Cx p s m meth c code ml ret own nm Z a0 tabs) {pc : Nat} {Ls : Array Slot} {x y : Int64} {rest : List Value} (hd : decode code pc = .ok (.lcmp, 1)) (K : Goes p e below s n0 P k n T (mkF m (pc + 1) Ls (.int (cmpJ x y) :: rest))) : Goes p e below s n0 P k n T (mkF m pc Ls (.long y :: .long x :: rest)) := by
  obtain ⟨locs, S, -, -, -⟩ := X
  exact Goes.of (fun _ kk => XS.lcmp S.here C.1 rfl (hb C.2.1 hd) rfl kk) K
theorem w_i2b (X : Hr p l e R s m args below meth c n0 h cells slots T) (C : Cx p s m meth c code ml ret own nm Z a0 tabs) {pc : Nat} {Ls : Array Slot} {x : Int32} {rest : List Value} (hd : decode code pc = .ok (.i2b, 1)) (K : Goes p e below s n0 P k n T (mkF m (pc + 1) Ls (.int (i8 x) :: rest))) : Goes p e below s n0 P k n T (mkF m pc Ls (.int x :: rest)) := by
  obtain ⟨locs, S, -, -, -⟩ := X
  exact Goes.of (fun _ kk => XS.i2b S.here C.1 rfl (hb C.2.1 hd) rfl kk) K
theorem w_i2c (X : Hr p l e R s m args below meth c n0 h cells slots T) (C : Cx p s m meth c code ml ret own nm Z a0 tabs) {pc : Nat} {Ls : Array Slot} {x : Int32} {rest : List Value} (hd : decode code pc = .ok (.i2c, 1)) (K : Goes p e below s n0 P k n T (mkF m (pc + 1) Ls (.int (i16c x) :: rest))) : Goes p e below s n0 P k n T (mkF m pc Ls (.int x :: rest)) := by
  obtain ⟨locs, S, -, -, -⟩ := X
  exact Goes.of (fun _ kk => XS.i2c S.here C.1 rfl (hb C.2.1 hd) rfl kk) K
theorem w_i2s (X : Hr p l e R s m args below meth c n0 h cells slots T) (C : Cx p s m meth c code ml ret own nm Z a0 tabs) {pc : Nat} {Ls : Array Slot} {x : Int32} {rest : List Value} (hd : decode code pc = .ok (.i2s, 1)) (K : Goes p e below s n0 P k n T (mkF m (pc + 1) Ls (.int (x.toInt16.toInt32) :: rest))) : Goes p e below s n0 P k n T (mkF m pc Ls (.int x :: rest)) := by
  obtain ⟨locs, S, -, -, -⟩ := X
  exact Goes.of (fun _ kk => XS.i2s S.here C.1 rfl (hb C.2.1 hd) rfl kk) K
theorem w_ineg (X : Hr p l e R s m args below meth c n0 h cells slots T) (C : Cx p s m meth c code ml ret own nm Z a0 tabs) {pc : Nat} {Ls : Array Slot} {x : Int32} {rest : List Value} (hd : decode code pc = .ok (.ineg, 1)) (K : Goes p e below s n0 P k n T (mkF m (pc + 1) Ls (.int (-x) :: rest))) : Goes p e below s n0 P k n T (mkF m pc Ls (.int x :: rest)) := by
  obtain ⟨locs, S, -, -, -⟩ := X
  exact Goes.of (fun _ kk => XS.ineg S.here C.1 rfl (hb C.2.1 hd) rfl kk) K
theorem w_i2l (X : Hr p l e R s m args below meth c n0 h cells slots T) (C : Cx p s m meth c code ml ret own nm Z a0 tabs) {pc : Nat} {Ls : Array Slot} {x : Int32} {rest : List Value} (hd : decode code pc = .ok (.i2l, 1)) (K : Goes p e below s n0 P k n T (mkF m (pc + 1) Ls (.long (x.toInt64) :: rest))) : Goes p e below s n0 P k n T (mkF m pc Ls (.int x :: rest)) := by
  obtain ⟨locs, S, -, -, -⟩ := X
  exact Goes.of (fun _ kk => XS.i2l S.here C.1 rfl (hb C.2.1 hd) rfl kk) K
theorem w_l2i (X : Hr p l e R s m args below meth c n0 h cells slots T) (C : Cx p s m meth c code ml ret own nm Z a0 tabs) {pc : Nat} {Ls : Array Slot} {x : Int64} {rest : List Value} (hd : decode code pc = .ok (.l2i, 1)) (K : Goes p e below s n0 P k n T (mkF m (pc + 1) Ls (.int (x.toInt32) :: rest))) : Goes p e below s n0 P k n T (mkF m pc Ls (.long x :: rest)) := by
  obtain ⟨locs, S, -, -, -⟩ := X
  exact Goes.of (fun _ kk => XS.l2i S.here C.1 rfl (hb C.2.1 hd) rfl kk) K
theorem w_lneg (X : Hr p l e R s m args below meth c n0 h cells slots T) (C : Cx p s m meth c code ml ret own nm Z a0 tabs) {pc : Nat} {Ls : Array Slot} {x : Int64} {rest : List Value} (hd : decode code pc = .ok (.lneg, 1)) (K : Goes p e below s n0 P k n T (mkF m (pc + 1) Ls (.long (-x) :: rest))) : Goes p e below s n0 P k n T (mkF m pc Ls (.long x :: rest)) := by
  obtain ⟨locs, S, -, -, -⟩ := X
  exact Goes.of (fun _ kk => XS.lneg S.here C.1 rfl (hb C.2.1 hd) rfl kk) K
theorem w_idiv (X : Hr p l e R s m args below meth c n0 h cells slots T) (C : Cx p s m meth c code ml ret own nm Z a0 tabs) {pc : Nat} {Ls : Array Slot} {x y : Int32} {rest : List Value} (hd : decode code pc = .ok (.idiv, 1)) (hy : y ≠ 0) (K : Goes p e below s n0 P k n T (mkF m (pc + 1) Ls (.int (x / y) :: rest))) : Goes p e below s n0 P k n T (mkF m pc Ls (.int y :: .int x :: rest)) := by
  obtain ⟨locs, S, -, -, -⟩ := X
  exact Goes.of (fun _ kk => XS.idiv S.here C.1 rfl (hb C.2.1 hd) rfl hy kk) K
theorem w_ldiv (X : Hr p l e R s m args below meth c n0 h cells slots T) (C : Cx p s m meth c code ml ret own nm Z a0 tabs) {pc : Nat} {Ls : Array Slot} {x y : Int64} {rest : List Value} (hd : decode code pc = .ok (.ldiv, 1)) (hy : y ≠ 0) (K : Goes p e below s n0 P k n T (mkF m (pc + 1) Ls (.long (x / y) :: rest))) : Goes p e below s n0 P k n T (mkF m pc Ls (.long y :: .long x :: rest)) := by
  obtain ⟨locs, S, -, -, -⟩ := X
  exact Goes.of (fun _ kk => XS.ldiv S.here C.1 rfl (hb C.2.1 hd) rfl hy kk) K
theorem w_irem (X : Hr p l e R s m args below meth c n0 h cells slots T) (C : Cx p s m meth c code ml ret own nm Z a0 tabs) {pc : Nat} {Ls : Array Slot} {x y : Int32} {rest : List Value} (hd : decode code pc = .ok (.irem, 1)) (hy : y ≠ 0) (K : Goes p e below s n0 P k n T (mkF m (pc + 1) Ls (.int (x % y) :: rest))) : Goes p e below s n0 P k n T (mkF m pc Ls (.int y :: .int x :: rest)) := by
  obtain ⟨locs, S, -, -, -⟩ := X
  rw [← irem_eq_mod x y] at K
  exact Goes.of (fun _ kk => XS.irem S.here C.1 rfl (hb C.2.1 hd) rfl hy kk) K
theorem w_lrem (X : Hr p l e R s m args below meth c n0 h cells slots T) (C : Cx p s m meth c code ml ret own nm Z a0 tabs) {pc : Nat} {Ls : Array Slot} {x y : Int64} {rest : List Value} (hd : decode code pc = .ok (.lrem, 1)) (hy : y ≠ 0) (K : Goes p e below s n0 P k n T (mkF m (pc + 1) Ls (.long (x % y) :: rest))) : Goes p e below s n0 P k n T (mkF m pc Ls (.long y :: .long x :: rest)) := by
  obtain ⟨locs, S, -, -, -⟩ := X
  rw [← lrem_mod x y] at K
  exact Goes.of (fun _ kk => XS.lrem S.here C.1 rfl (hb C.2.1 hd) rfl hy kk) K
theorem w_dup (X : Hr p l e R s m args below meth c n0 h cells slots T) (C : Cx p s m meth c code ml ret own nm Z a0 tabs) {pc : Nat} {Ls : Array Slot} {x : Value} {rest : List Value} (hd : decode code pc = .ok (.dup, 1)) (hc : x.category = 1) (K : Goes p e below s n0 P k n T (mkF m (pc + 1) Ls (x :: x :: rest))) : Goes p e below s n0 P k n T (mkF m pc Ls (x :: rest)) := by
  obtain ⟨locs, S, -, -, -⟩ := X
  exact Goes.of (fun _ kk => XS.dup S.here C.1 rfl (hb C.2.1 hd) rfl hc kk) K
theorem w_pop (X : Hr p l e R s m args below meth c n0 h cells slots T) (C : Cx p s m meth c code ml ret own nm Z a0 tabs) {pc : Nat} {Ls : Array Slot} {x : Value} {rest : List Value} (hd : decode code pc = .ok (.pop, 1)) (hc : x.category = 1) (K : Goes p e below s n0 P k n T (mkF m (pc + 1) Ls (rest))) : Goes p e below s n0 P k n T (mkF m pc Ls (x :: rest)) := by
  obtain ⟨locs, S, -, -, -⟩ := X
  exact Goes.of (fun _ kk => XS.pop S.here C.1 rfl (hb C.2.1 hd) rfl hc kk) K
theorem w_dup_x1 (X : Hr p l e R s m args below meth c n0 h cells slots T) (C : Cx p s m meth c code ml ret own nm Z a0 tabs) {pc : Nat} {Ls : Array Slot} {x y : Value} {rest : List Value} (hd : decode code pc = .ok (.dup_x1, 1)) (hc : x.category = 1) (hc' : y.category = 1) (K : Goes p e below s n0 P k n T (mkF m (pc + 1) Ls (x :: y :: x :: rest))) : Goes p e below s n0 P k n T (mkF m pc Ls (x :: y :: rest)) := by
  obtain ⟨locs, S, -, -, -⟩ := X
  exact Goes.of (fun _ kk => XS.dupX1 S.here C.1 rfl (hb C.2.1 hd) rfl hc hc' kk) K
theorem w_dup2 (X : Hr p l e R s m args below meth c n0 h cells slots T) (C : Cx p s m meth c code ml ret own nm Z a0 tabs) {pc : Nat} {Ls : Array Slot} {x y : Value} {rest : List Value} (hd : decode code pc = .ok (.dup2, 1)) (hc : x.category = 1) (hc' : y.category = 1) (K : Goes p e below s n0 P k n T (mkF m (pc + 1) Ls (x :: y :: x :: y :: rest))) : Goes p e below s n0 P k n T (mkF m pc Ls (x :: y :: rest)) := by
  obtain ⟨locs, S, -, -, -⟩ := X
  exact Goes.of (fun _ kk => XT.dup2 S.here C.1 rfl (hb C.2.1 hd) rfl hc hc' kk) K
theorem w_iload (X : Hr p l e R s m args below meth c n0 h cells slots T) (C : Cx p s m meth c code ml ret own nm Z a0 tabs) {pc : Nat} {Ls : Array Slot} {k0 : Nat} {x : Int32} {rest : List Value} (hd : decode code pc = .ok (.iload k0, 2)) (hl : Ls[k0]? = some (.val (.int x))) (K : Goes p e below s n0 P k n T (mkF m (pc + 2) Ls (.int x :: rest))) : Goes p e below s n0 P k n T (mkF m pc Ls rest) := by
  obtain ⟨locs, S, -, -, -⟩ := X
  exact Goes.of (fun _ kk => XS.iload S.here C.1 rfl (hb C.2.1 hd) hl kk) K
theorem w_istore (X : Hr p l e R s m args below meth c n0 h cells slots T) (C : Cx p s m meth c code ml ret own nm Z a0 tabs) {pc : Nat} {Ls : Array Slot} {k0 : Nat} {x : Int32} {rest : List Value} (hd : decode code pc = .ok (.istore k0, 2)) (Ls' : Array Slot) (hl : storeLocals Ls k0 (.int x) = some Ls') (K : Goes p e below s n0 P k n T (mkF m (pc + 2) Ls' rest)) : Goes p e below s n0 P k n T (mkF m pc Ls (.int x :: rest)) := by
  obtain ⟨locs, S, -, -, -⟩ := X
  exact Goes.of (fun _ kk => XS.istore S.here C.1 rfl (hb C.2.1 hd) rfl hl kk) K
theorem w_iloadN (X : Hr p l e R s m args below meth c n0 h cells slots T) (C : Cx p s m meth c code ml ret own nm Z a0 tabs) {pc : Nat} {Ls : Array Slot} {k0 : Fin 4} {x : Int32} {rest : List Value} (hd : decode code pc = .ok (.iload_n k0, 1)) (hl : Ls[k0.val]? = some (.val (.int x))) (K : Goes p e below s n0 P k n T (mkF m (pc + 1) Ls (.int x :: rest))) : Goes p e below s n0 P k n T (mkF m pc Ls rest) := by
  obtain ⟨locs, S, -, -, -⟩ := X
  exact Goes.of (fun _ kk => XS.iloadN S.here C.1 rfl (hb C.2.1 hd) hl kk) K
theorem w_istoreN (X : Hr p l e R s m args below meth c n0 h cells slots T) (C : Cx p s m meth c code ml ret own nm Z a0 tabs) {pc : Nat} {Ls : Array Slot} {k0 : Fin 4} {x : Int32} {rest : List Value} (hd : decode code pc = .ok (.istore_n k0, 1)) (Ls' : Array Slot) (hl : storeLocals Ls k0.val (.int x) = some Ls') (K : Goes p e below s n0 P k n T (mkF m (pc + 1) Ls' rest)) : Goes p e below s n0 P k n T (mkF m pc Ls (.int x :: rest)) := by
  obtain ⟨locs, S, -, -, -⟩ := X
  exact Goes.of (fun _ kk => XS.istoreN S.here C.1 rfl (hb C.2.1 hd) rfl hl kk) K
theorem w_lload (X : Hr p l e R s m args below meth c n0 h cells slots T) (C : Cx p s m meth c code ml ret own nm Z a0 tabs) {pc : Nat} {Ls : Array Slot} {k0 : Nat} {x : Int64} {rest : List Value} (hd : decode code pc = .ok (.lload k0, 2)) (hl : Ls[k0]? = some (.val (.long x))) (K : Goes p e below s n0 P k n T (mkF m (pc + 2) Ls (.long x :: rest))) : Goes p e below s n0 P k n T (mkF m pc Ls rest) := by
  obtain ⟨locs, S, -, -, -⟩ := X
  exact Goes.of (fun _ kk => XS.lload S.here C.1 rfl (hb C.2.1 hd) hl kk) K
theorem w_lstore (X : Hr p l e R s m args below meth c n0 h cells slots T) (C : Cx p s m meth c code ml ret own nm Z a0 tabs) {pc : Nat} {Ls : Array Slot} {k0 : Nat} {x : Int64} {rest : List Value} (hd : decode code pc = .ok (.lstore k0, 2)) (Ls' : Array Slot) (hl : storeLocals Ls k0 (.long x) = some Ls') (K : Goes p e below s n0 P k n T (mkF m (pc + 2) Ls' rest)) : Goes p e below s n0 P k n T (mkF m pc Ls (.long x :: rest)) := by
  obtain ⟨locs, S, -, -, -⟩ := X
  exact Goes.of (fun _ kk => XS.lstore S.here C.1 rfl (hb C.2.1 hd) rfl hl kk) K
theorem w_lloadN (X : Hr p l e R s m args below meth c n0 h cells slots T) (C : Cx p s m meth c code ml ret own nm Z a0 tabs) {pc : Nat} {Ls : Array Slot} {k0 : Fin 4} {x : Int64} {rest : List Value} (hd : decode code pc = .ok (.lload_n k0, 1)) (hl : Ls[k0.val]? = some (.val (.long x))) (K : Goes p e below s n0 P k n T (mkF m (pc + 1) Ls (.long x :: rest))) : Goes p e below s n0 P k n T (mkF m pc Ls rest) := by
  obtain ⟨locs, S, -, -, -⟩ := X
  exact Goes.of (fun _ kk => XS.lloadN S.here C.1 rfl (hb C.2.1 hd) hl kk) K
theorem w_lstoreN (X : Hr p l e R s m args below meth c n0 h cells slots T) (C : Cx p s m meth c code ml ret own nm Z a0 tabs) {pc : Nat} {Ls : Array Slot} {k0 : Fin 4} {x : Int64} {rest : List Value} (hd : decode code pc = .ok (.lstore_n k0, 1)) (Ls' : Array Slot) (hl : storeLocals Ls k0.val (.long x) = some Ls') (K : Goes p e below s n0 P k n T (mkF m (pc + 1) Ls' rest)) : Goes p e below s n0 P k n T (mkF m pc Ls (.long x :: rest)) := by
  obtain ⟨locs, S, -, -, -⟩ := X
  exact Goes.of (fun _ kk => XS.lstoreN S.here C.1 rfl (hb C.2.1 hd) rfl hl kk) K
theorem w_aload (X : Hr p l e R s m args below meth c n0 h cells slots T) (C : Cx p s m meth c code ml ret own nm Z a0 tabs) {pc : Nat} {Ls : Array Slot} {k0 : Nat} {x : Value} {rest : List Value} (hd : decode code pc = .ok (.aload k0, 2)) (hl : Ls[k0]? = some (.val x)) (hv : x.isRef = true) (K : Goes p e below s n0 P k n T (mkF m (pc + 2) Ls (x :: rest))) : Goes p e below s n0 P k n T (mkF m pc Ls rest) := by
  obtain ⟨locs, S, -, -, -⟩ := X
  exact Goes.of (fun _ kk => XS.aload S.here C.1 rfl (hb C.2.1 hd) hl hv kk) K
theorem w_astore (X : Hr p l e R s m args below meth c n0 h cells slots T) (C : Cx p s m meth c code ml ret own nm Z a0 tabs) {pc : Nat} {Ls : Array Slot} {k0 : Nat} {x : Value} {rest : List Value} (hd : decode code pc = .ok (.astore k0, 2)) (Ls' : Array Slot) (hl : storeLocals Ls k0 x = some Ls') (hv : x.isRef = true) (K : Goes p e below s n0 P k n T (mkF m (pc + 2) Ls' rest)) : Goes p e below s n0 P k n T (mkF m pc Ls (x :: rest)) := by
  obtain ⟨locs, S, -, -, -⟩ := X
  exact Goes.of (fun _ kk => XS.astore S.here C.1 rfl (hb C.2.1 hd) rfl hv hl kk) K
theorem w_aloadN (X : Hr p l e R s m args below meth c n0 h cells slots T) (C : Cx p s m meth c code ml ret own nm Z a0 tabs) {pc : Nat} {Ls : Array Slot} {k0 : Fin 4} {x : Value} {rest : List Value} (hd : decode code pc = .ok (.aload_n k0, 1)) (hl : Ls[k0.val]? = some (.val x)) (hv : x.isRef = true) (K : Goes p e below s n0 P k n T (mkF m (pc + 1) Ls (x :: rest))) : Goes p e below s n0 P k n T (mkF m pc Ls rest) := by
  obtain ⟨locs, S, -, -, -⟩ := X
  exact Goes.of (fun _ kk => XS.aloadN S.here C.1 rfl (hb C.2.1 hd) hl hv kk) K
theorem w_astoreN (X : Hr p l e R s m args below meth c n0 h cells slots T) (C : Cx p s m meth c code ml ret own nm Z a0 tabs) {pc : Nat} {Ls : Array Slot} {k0 : Fin 4} {x : Value} {rest : List Value} (hd : decode code pc = .ok (.astore_n k0, 1)) (Ls' : Array Slot) (hl : storeLocals Ls k0.val x = some Ls') (hv : x.isRef = true) (K : Goes p e below s n0 P k n T (mkF m (pc + 1) Ls' rest)) : Goes p e below s n0 P k n T (mkF m pc Ls (x :: rest)) := by
  obtain ⟨locs, S, -, -, -⟩ := X
  exact Goes.of (fun _ kk => XS.astoreN S.here C.1 rfl (hb C.2.1 hd) rfl hv hl kk) K
theorem w_iinc (X : Hr p l e R s m args below meth c n0 h cells slots T) (C : Cx p s m meth c code ml ret own nm Z a0 tabs) {pc : Nat} {Ls : Array Slot} {k0 : Nat} {cst : Int} {x : Int32} {rest : List Value} (hd : decode code pc = .ok (.iinc k0 cst, 3)) (v : Int32) (hv : Int32.ofInt cst = v) (hl : Ls[k0]? = some (.val (.int x))) (Ls' : Array Slot) (hl' : storeLocals Ls k0 (.int (x + v)) = some Ls') (K : Goes p e below s n0 P k n T (mkF m (pc + 3) Ls' rest)) : Goes p e below s n0 P k n T (mkF m pc Ls rest) := by
  obtain ⟨locs, S, -, -, -⟩ := X
  subst hv
  exact Goes.of (fun _ kk => XS.iinc S.here C.1 rfl (hb C.2.1 hd) hl hl' kk) K
theorem w_iconst (X : Hr p l e R s m args below meth c n0 h cells slots T) (C : Cx p s m meth c code ml ret own nm Z a0 tabs) {pc : Nat} {Ls : Array Slot} {i : Int} {rest : List Value} (hd : decode code pc = .ok (.iconst i, 1)) (v : Int32) (hv : Int32.ofInt i = v) (K : Goes p e below s n0 P k n T (mkF m (pc + 1) Ls (.int v :: rest))) : Goes p e below s n0 P k n T (mkF m pc Ls rest) := by
  obtain ⟨locs, S, -, -, -⟩ := X
  subst hv
  exact Goes.of (fun _ kk => XS.iconst S.here C.1 rfl (hb C.2.1 hd) kk) K
theorem w_bipush (X : Hr p l e R s m args below meth c n0 h cells slots T) (C : Cx p s m meth c code ml ret own nm Z a0 tabs) {pc : Nat} {Ls : Array Slot} {i : Int} {rest : List Value} (hd : decode code pc = .ok (.bipush i, 2)) (v : Int32) (hv : (Int8.ofInt i).toInt32 = v) (K : Goes p e below s n0 P k n T (mkF m (pc + 2) Ls (.int v :: rest))) : Goes p e below s n0 P k n T (mkF m pc Ls rest) := by
  obtain ⟨locs, S, -, -, -⟩ := X
  subst hv
  exact Goes.of (fun _ kk => XS.bipush S.here C.1 rfl (hb C.2.1 hd) kk) K
theorem w_sipush (X : Hr p l e R s m args below meth c n0 h cells slots T) (C : Cx p s m meth c code ml ret own nm Z a0 tabs) {pc : Nat} {Ls : Array Slot} {i : Int} {rest : List Value} (hd : decode code pc = .ok (.sipush i, 3)) (v : Int32) (hv : (Int16.ofInt i).toInt32 = v) (K : Goes p e below s n0 P k n T (mkF m (pc + 3) Ls (.int v :: rest))) : Goes p e below s n0 P k n T (mkF m pc Ls rest) := by
  obtain ⟨locs, S, -, -, -⟩ := X
  subst hv
  exact Goes.of (fun _ kk => XS.sipush S.here C.1 rfl (hb C.2.1 hd) kk) K
theorem w_lconst (X : Hr p l e R s m args below meth c n0 h cells slots T) (C : Cx p s m meth c code ml ret own nm Z a0 tabs) {pc : Nat} {Ls : Array Slot} {i : Fin 2} {rest : List Value} (hd : decode code pc = .ok (.lconst i, 1)) (v : Int64) (hv : Int64.ofNat i = v) (K : Goes p e below s n0 P k n T (mkF m (pc + 1) Ls (.long v :: rest))) : Goes p e below s n0 P k n T (mkF m pc Ls rest) := by
  obtain ⟨locs, S, -, -, -⟩ := X
  subst hv
  exact Goes.of (fun _ kk => XS.lconst S.here C.1 rfl (hb C.2.1 hd) kk) K
theorem w_aconst_null (X : Hr p l e R s m args below meth c n0 h cells slots T) (C : Cx p s m meth c code ml ret own nm Z a0 tabs) {pc : Nat} {Ls : Array Slot} {rest : List Value} (hd : decode code pc = .ok (.aconst_null, 1)) (K : Goes p e below s n0 P k n T (mkF m (pc + 1) Ls (.null :: rest))) : Goes p e below s n0 P k n T (mkF m pc Ls rest) := by
  obtain ⟨locs, S, -, -, -⟩ := X
  exact Goes.of (fun _ kk => XS.aconstNull S.here C.1 rfl (hb C.2.1 hd) kk) K
theorem w_ldcI (X : Hr p l e R s m args below meth c n0 h cells slots T) (C : Cx p s m meth c code ml ret own nm Z a0 tabs) {pc index : Nat} {Ls : Array Slot} {v : Int32} {rest : List Value} (hd : decode code pc = .ok (.ldc index, 2)) (i1 : Jvm.Cond.constant own index v ∈ tabs) (K : Goes p e below s n0 P k n T (mkF m (pc + 2) Ls (.int v :: rest))) : Goes p e below s n0 P k n T (mkF m pc Ls rest) := by
  obtain ⟨locs, S, -, -, -⟩ := X
  exact Goes.of (fun _ kk => S.ldcInt C.1 C.2.2.2.2.2.1 (mvT C.2.2.2.2.2.2.2.1 (C.2.2.2.2.2.2.2.2 _ i1)) (g := mkF m pc Ls rest) rfl (hb C.2.1 hd) _ kk) K
theorem w_ldcJ (X : Hr p l e R s m args below meth c n0 h cells slots T) (C : Cx p s m meth c code ml ret own nm Z a0 tabs) {pc index : Nat} {Ls : Array Slot} {v : Int64} {rest : List Value} (hd : decode code pc = .ok (.ldc2_w index, 3)) (i1 : Jvm.Cond.constantLong own index v ∈ tabs) (K : Goes p e below s n0 P k n T (mkF m (pc + 3) Ls (.long v :: rest))) : Goes p e below s n0 P k n T (mkF m pc Ls rest) := by
  obtain ⟨locs, S, -, -, -⟩ := X
  exact Goes.of (fun _ kk => S.ldc2Long C.1 C.2.2.2.2.2.1 (mvT C.2.2.2.2.2.2.2.1 (C.2.2.2.2.2.2.2.2 _ i1)) (g := mkF m pc Ls rest) rfl (hb C.2.1 hd) _ kk) K
theorem w_goto (X : Hr p l e R s m args below meth c n0 h cells slots T) (C : Cx p s m meth c code ml ret own nm Z a0 tabs) {pc : Nat} {Ls : Array Slot} {st : List Value} {o : Int} (hd : decode code pc = .ok (.goto o, 3)) (pc' : Nat) (ho : 0 ≤ (pc : Int) + o ∧ ((pc : Int) + o).toNat = pc') (K : Goes p e below s n0 P k n T (mkF m pc' Ls st)) : Goes p e below s n0 P k n T (mkF m pc Ls st) := by
  obtain ⟨locs, S, -, -, -⟩ := X
  exact Goes.of (fun _ kk => XS.goto S.here C.1 rfl (pc0 := pc) (pc' := pc') rfl (hb C.2.1 hd) ho.1 ho.2 kk) K
theorem w_icmp_lt (X : Hr p l e R s m args below meth c n0 h cells slots T) (C : Cx p s m meth c code ml ret own nm Z a0 tabs) {pc : Nat} {Ls : Array Slot} {x y : Int32} {rest : List Value} {o : Int} (hd : decode code pc = .ok (.if_icmp .lt o, 3)) (pc' : Nat) (ho : 0 ≤ (pc : Int) + o ∧ ((pc : Int) + o).toNat = pc') (Ky : x < y → Goes p e below s n0 P k n T (mkF m pc' Ls rest)) (Kn : ¬ (x < y) → Goes p e below s n0 P k n T (mkF m (pc + 3) Ls rest)) : Goes p e below s n0 P k n T (mkF m pc Ls (.int y :: .int x :: rest)) := by
  obtain ⟨locs, S, -, -, -⟩ := X
  by_cases q : x < y
  · exact Goes.of (fun _ kk => XS.icmpYes S.here C.1 rfl (pc0 := pc) (pc' := pc') rfl (hb C.2.1 hd) rfl (tlt q).1 ho.1 ho.2 kk) (Ky q)
  · exact Goes.of (fun _ kk => XS.icmpNo S.here C.1 rfl (hb C.2.1 hd) rfl (flt q).1 kk) (Kn q)
theorem w_if_lt (X : Hr p l e R s m args below meth c n0 h cells slots T) (C : Cx p s m meth c code ml ret own nm Z a0 tabs) {pc : Nat} {Ls : Array Slot} {x : Int32} {rest : List Value} {o : Int} (hd : decode code pc = .ok (.ifCond .lt o, 3)) (pc' : Nat) (ho : 0 ≤ (pc : Int) + o ∧ ((pc : Int) + o).toNat = pc') (Ky : x < 0 → Goes p e below s n0 P k n T (mkF m pc' Ls rest)) (Kn : ¬ (x < 0) → Goes p e below s n0 P k n T (mkF m (pc + 3) Ls rest)) : Goes p e below s n0 P k n T (mkF m pc Ls (.int x :: rest)) := by
  obtain ⟨locs, S, -, -, -⟩ := X
  by_cases q : x < 0
  · exact Goes.of (fun _ kk => XS.ifYes S.here C.1 rfl (pc0 := pc) (pc' := pc') rfl (hb C.2.1 hd) rfl ((if0 _ _).trans (tlt q).1) ho.1 ho.2 kk) (Ky q)
  · exact Goes.of (fun _ kk => XS.ifNo S.here C.1 rfl (hb C.2.1 hd) rfl ((if0 _ _).trans (flt q).1) kk) (Kn q)
theorem w_icmp_ge (X : Hr p l e R s m args below meth c n0 h cells slots T) (C : Cx p s m meth c code ml ret own nm Z a0 tabs) {pc : Nat} {Ls : Array Slot} {x y : Int32} {rest : List Value} {o : Int} (hd : decode code pc = .ok (.if_icmp .ge o, 3)) (pc' : Nat) (ho : 0 ≤ (pc : Int) + o ∧ ((pc : Int) + o).toNat = pc') (Ky : ¬ (x < y) → Goes p e below s n0 P k n T (mkF m pc' Ls rest)) (Kn : x < y → Goes p e below s n0 P k n T (mkF m (pc + 3) Ls rest)) : Goes p e below s n0 P k n T (mkF m pc Ls (.int y :: .int x :: rest)) := by
  obtain ⟨locs, S, -, -, -⟩ := X
  by_cases q : x < y
  · exact Goes.of (fun _ kk => XS.icmpNo S.here C.1 rfl (hb C.2.1 hd) rfl (tlt q).2.1 kk) (Kn q)
  · exact Goes.of (fun _ kk => XS.icmpYes S.here C.1 rfl (pc0 := pc) (pc' := pc') rfl (hb C.2.1 hd) rfl (flt q).2.1 ho.1 ho.2 kk) (Ky q)
theorem w_if_ge (X : Hr p l e R s m args below meth c n0 h cells slots T) (C : Cx p s m meth c code ml ret own nm Z a0 tabs) {pc : Nat} {Ls : Array Slot} {x : Int32} {rest : List Value} {o : Int} (hd : decode code pc = .ok (.ifCond .ge o, 3)) (pc' : Nat) (ho : 0 ≤ (pc : Int) + o ∧ ((pc : Int) + o).toNat = pc') (Ky : ¬ (x < 0) → Goes p e below s n0 P k n T (mkF m pc' Ls rest)) (Kn : x < 0 → Goes p e below s n0 P k n T (mkF m (pc + 3) Ls rest)) : Goes p e below s n0 P k n T (mkF m pc Ls (.int x :: rest)) := by
  obtain ⟨locs, S, -, -, -⟩ := X
  by_cases q : x < 0
  · exact Goes.of (fun _ kk => XS.ifNo S.here C.1 rfl (hb C.2.1 hd) rfl ((if0 _ _).trans (tlt q).2.1) kk) (Kn q)
  · exact Goes.of (fun _ kk => XS.ifYes S.here C.1 rfl (pc0 := pc) (pc' := pc') rfl (hb C.2.1 hd) rfl ((if0 _ _).trans (flt q).2.1) ho.1 ho.2 kk) (Ky q)
theorem w_icmp_gt (X : Hr p l e R s m args below meth c n0 h cells slots T) (C : Cx p s m meth c code ml ret own nm Z a0 tabs) {pc : Nat} {Ls : Array Slot} {x y : Int32} {rest : List Value} {o : Int} (hd : decode code pc = .ok (.if_icmp .gt o, 3)) (pc' : Nat) (ho : 0 ≤ (pc : Int) + o ∧ ((pc : Int) + o).toNat = pc') (Ky : y < x → Goes p e below s n0 P k n T (mkF m pc' Ls rest)) (Kn : ¬ (y < x) → Goes p e below s n0 P k n T (mkF m (pc + 3) Ls rest)) : Goes p e below s n0 P k n T (mkF m pc Ls (.int y :: .int x :: rest)) := by
  obtain ⟨locs, S, -, -, -⟩ := X
  by_cases q : y < x
  · exact Goes.of (fun _ kk => XS.icmpYes S.here C.1 rfl (pc0 := pc) (pc' := pc') rfl (hb C.2.1 hd) rfl (tlt q).2.2.1 ho.1 ho.2 kk) (Ky q)
  · exact Goes.of (fun _ kk => XS.icmpNo S.here C.1 rfl (hb C.2.1 hd) rfl (flt q).2.2.1 kk) (Kn q)
theorem w_if_gt (X : Hr p l e R s m args below meth c n0 h cells slots T) (C : Cx p s m meth c code ml ret own nm Z a0 tabs) {pc : Nat} {Ls : Array Slot} {x : Int32} {rest : List Value} {o : Int} (hd : decode code pc = .ok (.ifCond .gt o, 3)) (pc' : Nat) (ho : 0 ≤ (pc : Int) + o ∧ ((pc : Int) + o).toNat = pc') (Ky : 0 < x → Goes p e below s n0 P k n T (mkF m pc' Ls rest)) (Kn : ¬ (0 < x) → Goes p e below s n0 P k n T (mkF m (pc + 3) Ls rest)) : Goes p e below s n0 P k n T (mkF m pc Ls (.int x :: rest)) := by
  obtain ⟨locs, S, -, -, -⟩ := X
  by_cases q : 0 < x
  · exact Goes.of (fun _ kk => XS.ifYes S.here C.1 rfl (pc0 := pc) (pc' := pc') rfl (hb C.2.1 hd) rfl ((if0 _ _).trans (tlt q).2.2.1) ho.1 ho.2 kk) (Ky q)
  · exact Goes.of (fun _ kk => XS.ifNo S.here C.1 rfl (hb C.2.1 hd) rfl ((if0 _ _).trans (flt q).2.2.1) kk) (Kn q)
theorem w_icmp_le (X : Hr p l e R s m args below meth c n0 h cells slots T) (C : Cx p s m meth c code ml ret own nm Z a0 tabs) {pc : Nat} {Ls : Array Slot} {x y : Int32} {rest : List Value} {o : Int} (hd : decode code pc = .ok (.if_icmp .le o, 3)) (pc' : Nat) (ho : 0 ≤ (pc : Int) + o ∧ ((pc : Int) + o).toNat = pc') (Ky : ¬ (y < x) → Goes p e below s n0 P k n T (mkF m pc' Ls rest)) (Kn : y < x → Goes p e below s n0 P k n T (mkF m (pc + 3) Ls rest)) : Goes p e below s n0 P k n T (mkF m pc Ls (.int y :: .int x :: rest)) := by
  obtain ⟨locs, S, -, -, -⟩ := X
  by_cases q : y < x
  · exact Goes.of (fun _ kk => XS.icmpNo S.here C.1 rfl (hb C.2.1 hd) rfl (tlt q).2.2.2 kk) (Kn q)
  · exact Goes.of (fun _ kk => XS.icmpYes S.here C.1 rfl (pc0 := pc) (pc' := pc') rfl (hb C.2.1 hd) rfl (flt q).2.2.2 ho.1 ho.2 kk) (Ky q)
theorem w_if_le (X : Hr p l e R s m args below meth c n0 h cells slots T) (C : Cx p s m meth c code ml ret own nm Z a0 tabs) {pc : Nat} {Ls : Array Slot} {x : Int32} {rest : List Value} {o : Int} (hd : decode code pc = .ok (.ifCond .le o, 3)) (pc' : Nat) (ho : 0 ≤ (pc : Int) + o ∧ ((pc : Int) + o).toNat = pc') (Ky : ¬ (0 < x) → Goes p e below s n0 P k n T (mkF m pc' Ls rest)) (Kn : 0 < x → Goes p e below s n0 P k n T (mkF m (pc + 3) Ls rest)) : Goes p e below s n0 P k n T (mkF m pc Ls (.int x :: rest)) := by
  obtain ⟨locs, S, -, -, -⟩ := X
  by_cases q : 0 < x
  · exact Goes.of (fun _ kk => XS.ifNo S.here C.1 rfl (hb C.2.1 hd) rfl ((if0 _ _).trans (tlt q).2.2.2) kk) (Kn q)
  · exact Goes.of (fun _ kk => XS.ifYes S.here C.1 rfl (pc0 := pc) (pc' := pc') rfl (hb C.2.1 hd) rfl ((if0 _ _).trans (flt q).2.2.2) ho.1 ho.2 kk) (Ky q)
theorem w_icmp_eq (X : Hr p l e R s m args below meth c n0 h cells slots T) (C : Cx p s m meth c code ml ret own nm Z a0 tabs) {pc : Nat} {Ls : Array Slot} {x y : Int32} {rest : List Value} {o : Int} (hd : decode code pc = .ok (.if_icmp .eq o, 3)) (pc' : Nat) (ho : 0 ≤ (pc : Int) + o ∧ ((pc : Int) + o).toNat = pc') (Ky : x = y → Goes p e below s n0 P k n T (mkF m pc' Ls rest)) (Kn : ¬ (x = y) → Goes p e below s n0 P k n T (mkF m (pc + 3) Ls rest)) : Goes p e below s n0 P k n T (mkF m pc Ls (.int y :: .int x :: rest)) := by
  obtain ⟨locs, S, -, -, -⟩ := X
  by_cases q : x = y
  · exact Goes.of (fun _ kk => XS.icmpYes S.here C.1 rfl (pc0 := pc) (pc' := pc') rfl (hb C.2.1 hd) rfl (teq q).1 ho.1 ho.2 kk) (Ky q)
  · exact Goes.of (fun _ kk => XS.icmpNo S.here C.1 rfl (hb C.2.1 hd) rfl (feq q).1 kk) (Kn q)
theorem w_if_eq (X : Hr p l e R s m args below meth c n0 h cells slots T) (C : Cx p s m meth c code ml ret own nm Z a0 tabs) {pc : Nat} {Ls : Array Slot} {x : Int32} {rest : List Value} {o : Int} (hd : decode code pc = .ok (.ifCond .eq o, 3)) (pc' : Nat) (ho : 0 ≤ (pc : Int) + o ∧ ((pc : Int) + o).toNat = pc') (Ky : x = 0 → Goes p e below s n0 P k n T (mkF m pc' Ls rest)) (Kn : ¬ (x = 0) → Goes p e below s n0 P k n T (mkF m (pc + 3) Ls rest)) : Goes p e below s n0 P k n T (mkF m pc Ls (.int x :: rest)) := by
  obtain ⟨locs, S, -, -, -⟩ := X
  by_cases q : x = 0
  · exact Goes.of (fun _ kk => XS.ifYes S.here C.1 rfl (pc0 := pc) (pc' := pc') rfl (hb C.2.1 hd) rfl ((if0 _ _).trans (teq q).1) ho.1 ho.2 kk) (Ky q)
  · exact Goes.of (fun _ kk => XS.ifNo S.here C.1 rfl (hb C.2.1 hd) rfl ((if0 _ _).trans (feq q).1) kk) (Kn q)
theorem w_icmp_ne (X : Hr p l e R s m args below meth c n0 h cells slots T) (C : Cx p s m meth c code ml ret own nm Z a0 tabs) {pc : Nat} {Ls : Array Slot} {x y : Int32} {rest : List Value} {o : Int} (hd : decode code pc = .ok (.if_icmp .ne o, 3)) (pc' : Nat) (ho : 0 ≤ (pc : Int) + o ∧ ((pc : Int) + o).toNat = pc') (Ky : ¬ (x = y) → Goes p e below s n0 P k n T (mkF m pc' Ls rest)) (Kn : x = y → Goes p e below s n0 P k n T (mkF m (pc + 3) Ls rest)) : Goes p e below s n0 P k n T (mkF m pc Ls (.int y :: .int x :: rest)) := by
  obtain ⟨locs, S, -, -, -⟩ := X
  by_cases q : x = y
  · exact Goes.of (fun _ kk => XS.icmpNo S.here C.1 rfl (hb C.2.1 hd) rfl (teq q).2 kk) (Kn q)
  · exact Goes.of (fun _ kk => XS.icmpYes S.here C.1 rfl (pc0 := pc) (pc' := pc') rfl (hb C.2.1 hd) rfl (feq q).2 ho.1 ho.2 kk) (Ky q)
theorem w_if_ne (X : Hr p l e R s m args below meth c n0 h cells slots T) (C : Cx p s m meth c code ml ret own nm Z a0 tabs) {pc : Nat} {Ls : Array Slot} {x : Int32} {rest : List Value} {o : Int} (hd : decode code pc = .ok (.ifCond .ne o, 3)) (pc' : Nat) (ho : 0 ≤ (pc : Int) + o ∧ ((pc : Int) + o).toNat = pc') (Ky : ¬ (x = 0) → Goes p e below s n0 P k n T (mkF m pc' Ls rest)) (Kn : x = 0 → Goes p e below s n0 P k n T (mkF m (pc + 3) Ls rest)) : Goes p e below s n0 P k n T (mkF m pc Ls (.int x :: rest)) := by
  obtain ⟨locs, S, -, -, -⟩ := X
  by_cases q : x = 0
  · exact Goes.of (fun _ kk => XS.ifNo S.here C.1 rfl (hb C.2.1 hd) rfl ((if0 _ _).trans (teq q).2) kk) (Kn q)
  · exact Goes.of (fun _ kk => XS.ifYes S.here C.1 rfl (pc0 := pc) (pc' := pc') rfl (hb C.2.1 hd) rfl ((if0 _ _).trans (feq q).2) ho.1 ho.2 kk) (Ky q)
theorem cj_lt (x y : Int64) : cmpJ x y < 0 ↔ x < y := lw_lt x y
theorem cj_gt (x y : Int64) : 0 < cmpJ x y ↔ y < x := lw_gt x y
theorem cj_eq (x y : Int64) : cmpJ x y = 0 ↔ x = y := lw_eq x y
theorem w_ifJ_lt (X : Hr p l e R s m args below meth c n0 h cells slots T) (C : Cx p s m meth c code ml ret own nm Z a0 tabs) {pc : Nat} {Ls : Array Slot} {x y : Int64} {rest : List Value} {o : Int} (hd : decode code pc = .ok (.ifCond .lt o, 3)) (pc' : Nat) (ho : 0 ≤ (pc : Int) + o ∧ ((pc : Int) + o).toNat = pc') (Ky : x < y → Goes p e below s n0 P k n T (mkF m pc' Ls rest)) (Kn : ¬ (x < y) → Goes p e below s n0 P k n T (mkF m (pc + 3) Ls rest)) : Goes p e below s n0 P k n T (mkF m pc Ls (.int (cmpJ x y) :: rest)) :=
  w_if_lt X C hd pc' ho (fun q => Ky ((cj_lt _ _).mp q)) (fun q => Kn (fun r => q ((cj_lt _ _).mpr r)))
theorem w_ifJ_ge (X : Hr p l e R s m args below meth c n0 h cells slots T) (C : Cx p s m meth c code ml ret own nm Z a0 tabs) {pc : Nat} {Ls : Array Slot} {x y : Int64} {rest : List Value} {o : Int} (hd : decode code pc = .ok (.ifCond .ge o, 3)) (pc' : Nat) (ho : 0 ≤ (pc : Int) + o ∧ ((pc : Int) + o).toNat = pc') (Ky : ¬ (x < y) → Goes p e below s n0 P k n T (mkF m pc' Ls rest)) (Kn : x < y → Goes p e below s n0 P k n T (mkF m (pc + 3) Ls rest)) : Goes p e below s n0 P k n T (mkF m pc Ls (.int (cmpJ x y) :: rest)) :=
  w_if_ge X C hd pc' ho (fun q => Ky (fun r => q ((cj_lt _ _).mpr r))) (fun q => Kn ((cj_lt _ _).mp q))
theorem w_ifJ_gt (X : Hr p l e R s m args below meth c n0 h cells slots T) (C : Cx p s m meth c code ml ret own nm Z a0 tabs) {pc : Nat} {Ls : Array Slot} {x y : Int64} {rest : List Value} {o : Int} (hd : decode code pc = .ok (.ifCond .gt o, 3)) (pc' : Nat) (ho : 0 ≤ (pc : Int) + o ∧ ((pc : Int) + o).toNat = pc') (Ky : y < x → Goes p e below s n0 P k n T (mkF m pc' Ls rest)) (Kn : ¬ (y < x) → Goes p e below s n0 P k n T (mkF m (pc + 3) Ls rest)) : Goes p e below s n0 P k n T (mkF m pc Ls (.int (cmpJ x y) :: rest)) :=
  w_if_gt X C hd pc' ho (fun q => Ky ((cj_gt _ _).mp q)) (fun q => Kn (fun r => q ((cj_gt _ _).mpr r)))
theorem w_ifJ_le (X : Hr p l e R s m args below meth c n0 h cells slots T) (C : Cx p s m meth c code ml ret own nm Z a0 tabs) {pc : Nat} {Ls : Array Slot} {x y : Int64} {rest : List Value} {o : Int} (hd : decode code pc = .ok (.ifCond .le o, 3)) (pc' : Nat) (ho : 0 ≤ (pc : Int) + o ∧ ((pc : Int) + o).toNat = pc') (Ky : ¬ (y < x) → Goes p e below s n0 P k n T (mkF m pc' Ls rest)) (Kn : y < x → Goes p e below s n0 P k n T (mkF m (pc + 3) Ls rest)) : Goes p e below s n0 P k n T (mkF m pc Ls (.int (cmpJ x y) :: rest)) :=
  w_if_le X C hd pc' ho (fun q => Ky (fun r => q ((cj_gt _ _).mpr r))) (fun q => Kn ((cj_gt _ _).mp q))
theorem w_ifJ_eq (X : Hr p l e R s m args below meth c n0 h cells slots T) (C : Cx p s m meth c code ml ret own nm Z a0 tabs) {pc : Nat} {Ls : Array Slot} {x y : Int64} {rest : List Value} {o : Int} (hd : decode code pc = .ok (.ifCond .eq o, 3)) (pc' : Nat) (ho : 0 ≤ (pc : Int) + o ∧ ((pc : Int) + o).toNat = pc') (Ky : x = y → Goes p e below s n0 P k n T (mkF m pc' Ls rest)) (Kn : ¬ (x = y) → Goes p e below s n0 P k n T (mkF m (pc + 3) Ls rest)) : Goes p e below s n0 P k n T (mkF m pc Ls (.int (cmpJ x y) :: rest)) :=
  w_if_eq X C hd pc' ho (fun q => Ky ((cj_eq _ _).mp q)) (fun q => Kn (fun r => q ((cj_eq _ _).mpr r)))
theorem w_ifJ_ne (X : Hr p l e R s m args below meth c n0 h cells slots T) (C : Cx p s m meth c code ml ret own nm Z a0 tabs) {pc : Nat} {Ls : Array Slot} {x y : Int64} {rest : List Value} {o : Int} (hd : decode code pc = .ok (.ifCond .ne o, 3)) (pc' : Nat) (ho : 0 ≤ (pc : Int) + o ∧ ((pc : Int) + o).toNat = pc') (Ky : ¬ (x = y) → Goes p e below s n0 P k n T (mkF m pc' Ls rest)) (Kn : x = y → Goes p e below s n0 P k n T (mkF m (pc + 3) Ls rest)) : Goes p e below s n0 P k n T (mkF m pc Ls (.int (cmpJ x y) :: rest)) :=
  w_if_ne X C hd pc' ho (fun q => Ky (fun r => q ((cj_eq _ _).mpr r))) (fun q => Kn ((cj_eq _ _).mp q))
theorem w_ifnull_no (X : Hr p l e R s m args below meth c n0 h cells slots T) (C : Cx p s m meth c code ml ret own nm Z a0 tabs) {pc : Nat} {Ls : Array Slot} {a : Addr} {rest : List Value} {o : Int} (hd : decode code pc = .ok (.ifnull o, 3)) (K : Goes p e below s n0 P k n T (mkF m (pc + 3) Ls rest)) : Goes p e below s n0 P k n T (mkF m pc Ls (.ref a :: rest)) := by
  obtain ⟨locs, S, -, -, -⟩ := X
  exact Goes.of (fun _ kk => XS.ifnullNo S.here C.1 rfl (hb C.2.1 hd) rfl kk) K
theorem w_retI (X : Hr p l e R s m args below meth c n0 h cells slots T) (C : Cx p s m meth c code ml (some .int) own nm Z a0 tabs) {pc : Nat} {Ls : Array Slot} {z : Int32} {rest : List Value} (hd : decode code pc = .ok (.ireturn, 1)) (hP : P (some (.int z)) h) (hk : cells ≤ k := by decide) (hn : slots ≤ n := by decide) : Goes p e below s n0 P k n T (mkF m pc Ls (.int z :: rest)) := by
  obtain ⟨locs, S, eT, N, -⟩ := X
  obtain ⟨fs, hr, hrun, hended, hW, hsame⟩ := S.leave (v := some (.int z)) (fun h => by rw [C.2.2.2.1] at h; cases h) C.2.2.2.2.1
  refine ⟨_, _, retI' S C.1 C.2.2.2.1 (hb C.2.1 hd) hr, hrun, hended, _, _, rfl, ⟨N, ?_⟩, ⟨_, rfl⟩, hW, hsame.mono hk hn⟩
  show P _ T.heap
  rw [eT]
  exact hP
theorem w_ret_boolean (X : Hr p l e R s m args below meth c n0 h cells slots T) (C : Cx p s m meth c code ml (some .boolean) own nm Z a0 tabs) {pc : Nat} {Ls : Array Slot} {z : Int32} {rest : List Value} (hd : decode code pc = .ok (.ireturn, 1)) (hP : P (some (.int (z &&& 1))) h) (hk : cells ≤ k := by decide) (hn : slots ≤ n := by decide) : Goes p e below s n0 P k n T (mkF m pc Ls (.int z :: rest)) := by
  obtain ⟨locs, S, eT, N, -⟩ := X
  obtain ⟨fs, hr, hrun, hended, hW, hsame⟩ := S.leave (v := some (.int (z &&& 1))) (fun h => by rw [C.2.2.2.1] at h; cases h) C.2.2.2.2.1
  refine ⟨_, _, retN S C.1 (t := .boolean) C.2.2.2.1 (by simp) (hb C.2.1 hd) hr, hrun, hended, _, _, rfl, ⟨N, ?_⟩, ⟨_, rfl⟩, hW, hsame.mono hk hn⟩
  show P _ T.heap
  rw [eT]
  exact hP
theorem w_ret_byte (X : Hr p l e R s m args below meth c n0 h cells slots T) (C : Cx p s m meth c code ml (some .byte) own nm Z a0 tabs) {pc : Nat} {Ls : Array Slot} {z : Int32} {rest : List Value} (hd : decode code pc = .ok (.ireturn, 1)) (hP : P (some (.int (i8 z))) h) (hk : cells ≤ k := by decide) (hn : slots ≤ n := by decide) : Goes p e below s n0 P k n T (mkF m pc Ls (.int z :: rest)) := by
  obtain ⟨locs, S, eT, N, -⟩ := X
  obtain ⟨fs, hr, hrun, hended, hW, hsame⟩ := S.leave (v := some (.int (i8 z))) (fun h => by rw [C.2.2.2.1] at h; cases h) C.2.2.2.2.1
  refine ⟨_, _, retN S C.1 (t := .byte) C.2.2.2.1 (by simp) (hb C.2.1 hd) hr, hrun, hended, _, _, rfl, ⟨N, ?_⟩, ⟨_, rfl⟩, hW, hsame.mono hk hn⟩
  show P _ T.heap
  rw [eT]
  exact hP
theorem w_ret_char (X : Hr p l e R s m args below meth c n0 h cells slots T) (C : Cx p s m meth c code ml (some .char) own nm Z a0 tabs) {pc : Nat} {Ls : Array Slot} {z : Int32} {rest : List Value} (hd : decode code pc = .ok (.ireturn, 1)) (hP : P (some (.int (i16c z))) h) (hk : cells ≤ k := by decide) (hn : slots ≤ n := by decide) : Goes p e below s n0 P k n T (mkF m pc Ls (.int z :: rest)) := by
  obtain ⟨locs, S, eT, N, -⟩ := X
  obtain ⟨fs, hr, hrun, hended, hW, hsame⟩ := S.leave (v := some (.int (i16c z))) (fun h => by rw [C.2.2.2.1] at h; cases h) C.2.2.2.2.1
  refine ⟨_, _, retN S C.1 (t := .char) C.2.2.2.1 (by simp) (hb C.2.1 hd) hr, hrun, hended, _, _, rfl, ⟨N, ?_⟩, ⟨_, rfl⟩, hW, hsame.mono hk hn⟩
  show P _ T.heap
  rw [eT]
  exact hP
theorem w_retJ (X : Hr p l e R s m args below meth c n0 h cells slots T) (C : Cx p s m meth c code ml (some .long) own nm Z a0 tabs) {pc : Nat} {Ls : Array Slot} {z : Int64} (hd : decode code pc = .ok (.lreturn, 1)) (hP : P (some (.long z)) h) (hk : cells ≤ k := by decide) (hn : slots ≤ n := by decide) : Goes p e below s n0 P k n T (mkF m pc Ls [.long z]) := by
  obtain ⟨locs, S, eT, N, -⟩ := X
  obtain ⟨fs, hr, hrun, hended, hW, hsame⟩ := S.leave (v := some (.long z)) (fun h => by rw [C.2.2.2.1] at h; cases h) C.2.2.2.2.1
  refine ⟨_, _, S.lreturnOut C.1 C.2.2.2.1 (hb C.2.1 hd) hr, hrun, hended, _, _, rfl, ⟨N, ?_⟩, ⟨_, rfl⟩, hW, hsame.mono hk hn⟩
  show P _ T.heap
  rw [eT]
  exact hP
theorem w_retR (X : Hr p l e R s m args below meth c n0 h cells slots T) (C : Cx p s m meth c code ml ret own nm Z a0 tabs) {pc : Nat} {Ls : Array Slot} {t : FieldType} {a : Addr} {rest : List Value} (ht : t.isReference = true) (hret : ret = some t) (hd : decode code pc = .ok (.areturn, 1)) (hP : P (some (.ref a)) h) (hk : cells ≤ k := by decide) (hn : slots ≤ n := by decide) : Goes p e below s n0 P k n T (mkF m pc Ls (.ref a :: rest)) := by
  subst hret
  obtain ⟨locs, S, eT, N, -⟩ := X
  obtain ⟨fs, hr, hrun, hended, hW, hsame⟩ := S.leave (v := some (.ref a)) (fun h => by rw [C.2.2.2.1] at h; cases h) C.2.2.2.2.1
  refine ⟨_, _, retOut S C.1 C.2.2.2.1 (by cases t <;> rfl) (Or.inr (Or.inr (Or.inr (Or.inr ⟨rfl, ht, rfl⟩)))) (hb C.2.1 hd) hr, hrun, hended, _, _, rfl, ⟨N, ?_⟩, ⟨_, rfl⟩, hW, hsame.mono hk hn⟩
  show P _ T.heap
  rw [eT]
  exact hP
theorem w_retV (X : Hr p l e R s m args below meth c n0 h cells slots T) (C : Cx p s m meth c code ml none own nm Z a0 tabs) {pc : Nat} {Ls : Array Slot} (hd : decode code pc = .ok (.return_, 1)) (hP : P none h) (hk : cells ≤ k := by decide) (hn : slots ≤ n := by decide) : Goes p e below s n0 P k n T (mkF m pc Ls []) := by
  obtain ⟨locs, S, eT, N, -⟩ := X
  obtain ⟨fs, hr, hrun, hended, hW, hsame⟩ := S.leave (v := none) (fun _ => rfl) C.2.2.2.2.1
  refine ⟨_, _, S.returnOut C.1 C.2.2.2.1 (hb C.2.1 hd) hr, hrun, hended, _, _, rfl, ⟨N, ?_⟩, ⟨_, rfl⟩, hW, hsame.mono hk hn⟩
  show P _ T.heap
  rw [eT]
  exact hP
theorem w_callS (X : Hr p l e R s m args below meth c n0 h cells slots T) (C : Cx p s m meth c code ml ret own nm Z a0 tabs) {pc index : Nat} {Ls : Array Slot} {y : MethodName} {bytes : ByteArray} {maxL : Nat} {rt : Option FieldType} {rm : Room} {P' : Option Value → Heap → Prop} {argsL rest st : List Value} (hd : decode code pc = .ok (.invokestatic index, 3)) (i1 : Jvm.Cond.methodLink own index y ∈ tabs) (i2 : Jvm.Cond.static y ∈ tabs) (i3 : Jvm.Cond.initialized y.cls ∈ tabs) (i4 : Jvm.Cond.code y bytes maxL rt ∈ tabs) (hy : y.cls ≠ "java/lang/invoke/MethodHandle" ∧ y.cls ≠ "java/lang/invoke/VarHandle") {W : Nat} (hM : Ct l y bytes maxL rt rm Z argsL.toArray h n0 P') (hls : Ls.size = ml) (hlen : ∃ ps r, parseMethodDescriptor y.desc = some ⟨ps, r⟩ ∧ argsL.length = ps.length) (hst : st = argsL.reverse ++ rest) (hW : (rest.map fun v => v.category).sum ≤ W) (hf : rm.frames + 1 ≤ R.frames) (hl : W + (maxL + 11) + rm.locals ≤ R.locals) (hc : cells + rm.cells ≤ R.cells) (hs : slots + rm.slots ≤ R.slots)
    (K : ∀ v T', P' v T'.heap → Hr p l e R s m args below meth c n0 T'.heap (cells + rm.cells) (slots + rm.slots) T' → Goes p e below s n0 P k n T' (mkF m (pc + 3) Ls (v.toList ++ rest))) : Goes p e below s n0 P k n T (mkF m pc Ls st) := by
  obtain ⟨locs, S, eT, N, q0⟩ := X
  obtain ⟨ps, r, hp1, hp2⟩ := hlen
  have hZ := C.2.2.2.2.2.2.2.1
  have hw := C.2.2.2.2.2.2.2.2
  obtain ⟨v, _, ⟨T', L', k', n'⟩, -, X', ⟨Lc, hQ, l1, l2, l3⟩, stp⟩ := Jvm.LawKit.callS S C.1 (y := y) C.2.2.2.2.2.1 (mvT hZ (hw _ i1)) (mvT hZ (hw _ i2)) (mvT hZ (hw _ i3)) (mvT hZ (hw _ i4)) hy (backOf (W := W) (Q := fun v hp L => Fr n0 L ∧ P' v hp) (hM []) C.2.2.2.2.2.2.2.1 (C.2.2.2.2.2.2.2.2 _ i4) (C.2.2.2.2.2.2.2.2 _ i3) hf hl) (g := mkF m pc Ls st) rfl (by rw [C.2.2.1]; exact hls) (argsL := argsL) (rest := rest) (lenOf hp1 hp2) hst (by show 2 * 0 + _ ≤ _; rw [Nat.mul_zero, Nat.zero_add]; exact hW) (hb C.2.1 hd) (fun _ _ => ⟨rfl, eT, hc, hs⟩)
  dsimp only [Pt.U, Pt.locs, Pt.cells, Pt.slots] at X' l1 l2 l3 stp hQ
  subst l1 l2 l3
  exact Goes.of stp (K v T' hQ.2 ⟨_, X', rfl, Fr.app N hQ.1, q0⟩)
theorem w_callI (X : Hr p l e R s m args below meth c n0 h cells slots T) (C : Cx p s m meth c code ml ret own nm Z a0 tabs) {pc index : Nat} {Ls : Array Slot} {y : MethodName} {bytes : ByteArray} {maxL : Nat} {rm : Room} {P' : Option Value → Heap → Prop} {a : Addr} {argsL rest st : List Value} (hd : decode code pc = .ok (.invokespecial index, 3)) (i1 : Jvm.Cond.methodLink own index y ∈ tabs) (i2 : Jvm.Cond.instanceMethod y ∈ tabs) (i3 : Jvm.Cond.initialized y.cls ∈ tabs) (i4 : Jvm.Cond.code y bytes maxL none ∈ tabs) (hn1 : y.name = "<init>") (hy : y.cls ≠ "java/lang/invoke/MethodHandle" ∧ y.cls ≠ "java/lang/invoke/VarHandle") {W : Nat} (hM : Ct l y bytes maxL none rm Z (.ref a :: argsL).toArray h n0 P') (hls : Ls.size = ml) (hlen : ∃ ps r, parseMethodDescriptor y.desc = some ⟨ps, r⟩ ∧ argsL.length = ps.length) (hst : st = argsL.reverse ++ .ref a :: rest) (hW : (rest.map fun v => v.category).sum ≤ W) (hf : rm.frames + 1 ≤ R.frames) (hl : W + (maxL + 11) + rm.locals ≤ R.locals) (hc : cells + rm.cells ≤ R.cells) (hs : slots + rm.slots ≤ R.slots)
    (K : ∀ v T', P' v T'.heap → Hr p l e R s m args below meth c n0 T'.heap (cells + rm.cells) (slots + rm.slots) T' → Goes p e below s n0 P k n T' (mkF m (pc + 3) Ls (v.toList ++ rest))) : Goes p e below s n0 P k n T (mkF m pc Ls st) := by
  obtain ⟨locs, S, eT, N, q0⟩ := X
  obtain ⟨ps, r, hp1, hp2⟩ := hlen
  have hZ := C.2.2.2.2.2.2.2.1
  have hw := C.2.2.2.2.2.2.2.2
  obtain ⟨v, _, ⟨T', L', k', n'⟩, -, X', ⟨Lc, hQ, l1, l2, l3⟩, stp⟩ := S.specialBack C.1 (y := y) hn1 C.2.2.2.2.2.1 (mvT hZ (hw _ i1)) (mvT hZ (hw _ i2)) (mvT hZ (hw _ i4)) hy (backOf (W := W) (Q := fun v hp L => Fr n0 L ∧ P' v hp) (hM []) C.2.2.2.2.2.2.2.1 (C.2.2.2.2.2.2.2.2 _ i4) (C.2.2.2.2.2.2.2.2 _ i3) hf hl) (g := mkF m pc Ls st) rfl (by rw [C.2.2.1]; exact hls) (Steps.refl _) (a := a) (argsL := argsL) (rest := rest) (lenOf hp1 hp2) hst (by show 2 * 0 + _ ≤ _; rw [Nat.mul_zero, Nat.zero_add]; exact hW) (hb C.2.1 hd) (fun _ _ => ⟨rfl, eT, hc, hs⟩)
  dsimp only [Pt.U, Pt.locs, Pt.cells, Pt.slots] at X' l1 l2 l3 stp hQ
  subst l1 l2 l3
  exact Goes.of (fun _ kk => stp.trans kk) (K v T' hQ.2 ⟨_, X', rfl, Fr.app N hQ.1, q0⟩)
theorem w_callV (X : Hr p l e R s m args below meth c n0 h cells slots T) (C : Cx p s m meth c code ml ret own nm Z a0 tabs) {pc index : Nat} {Ls : Array Slot} {y : MethodName} {bytes : ByteArray} {maxL : Nat} {rt : Option FieldType} {rm : Room} {P' : Option Value → Heap → Prop} {a : Addr} {argsL rest st : List Value} (hd : decode code pc = .ok (.invokevirtual index, 3)) (i1 : Jvm.Cond.methodLink own index y ∈ tabs) (i2 : Jvm.Cond.instanceMethod y ∈ tabs) (i3 : Jvm.Cond.initialized y.cls ∈ tabs) (i4 : Jvm.Cond.code y bytes maxL rt ∈ tabs) (i5 : Jvm.Cond.declares y ∈ tabs) (i6 : Jvm.Cond.selects y.cls y y ∈ tabs) (E : Exa Z h a y.cls) (hy : y.cls ≠ "java/lang/invoke/MethodHandle" ∧ y.cls ≠ "java/lang/invoke/VarHandle") {W : Nat} (hM : Ct l y bytes maxL rt rm Z (.ref a :: argsL).toArray h n0 P') (hls : Ls.size = ml) (hlen : ∃ ps r, parseMethodDescriptor y.desc = some ⟨ps, r⟩ ∧ argsL.length = ps.length) (hst : st = argsL.reverse ++ .ref a :: rest) (hW : (rest.map fun v => v.category).sum ≤ W) (hf : rm.frames + 1 ≤ R.frames) (hl : W + (maxL + 11) + rm.locals ≤ R.locals) (hc : cells + rm.cells ≤ R.cells) (hs : slots + rm.slots ≤ R.slots)
    (K : ∀ v T', P' v T'.heap → Hr p l e R s m args below meth c n0 T'.heap (cells + rm.cells) (slots + rm.slots) T' → Goes p e below s n0 P k n T' (mkF m (pc + 3) Ls (v.toList ++ rest))) : Goes p e below s n0 P k n T (mkF m pc Ls st) := by
  obtain ⟨locs, S, eT, N, q0⟩ := X
  obtain ⟨ps, r, hp1, hp2⟩ := hlen
  have hZ := C.2.2.2.2.2.2.2.1
  have hw := C.2.2.2.2.2.2.2.2
  obtain ⟨cB, kB, qa, qb, qc⟩ := isOf hZ eT E
  obtain ⟨v, _, ⟨T', L', k', n'⟩, -, X', ⟨Lc, hQ, l1, l2, l3⟩, stp⟩ := S.virtualBack C.1 (y := y) (z := y) C.2.2.2.2.2.1 (mvT hZ (hw _ i1)) (mvT hZ (hw _ i5)) (notFace_of_selects (args := #[]) (mvT hZ (hw _ i6))) (mvT hZ (hw _ i6)) (mvT hZ (hw _ i2)) hy (backOf (W := W) (Q := fun v hp L => Fr n0 L ∧ P' v hp) (hM []) C.2.2.2.2.2.2.2.1 (C.2.2.2.2.2.2.2.2 _ i4) (C.2.2.2.2.2.2.2.2 _ i3) hf hl) qa qc (g := mkF m pc Ls st) rfl (by rw [C.2.2.1]; exact hls) (Steps.refl _) (argsL := argsL) (rest := rest) (lenOf hp1 hp2) hst (by show 2 * 0 + _ ≤ _; rw [Nat.mul_zero, Nat.zero_add]; exact hW) (hb C.2.1 hd) (fun _ _ => ⟨rfl, eT, hc, hs⟩)
  dsimp only [Pt.U, Pt.locs, Pt.cells, Pt.slots] at X' l1 l2 l3 stp hQ
  subst l1 l2 l3
  exact Goes.of (fun _ kk => stp.trans kk) (K v T' hQ.2 ⟨_, X', rfl, Fr.app N hQ.1, q0⟩)
theorem w_callP (X : Hr p l e R s m args below meth c n0 h cells slots T) (C : Cx p s m meth c code ml ret own nm Z a0 tabs) {pc index : Nat} {Ls : Array Slot} {y : MethodName} {bytes : ByteArray} {maxL : Nat} {rt : Option FieldType} {rm : Room} {w : Value} {argsL rest st : List Value} {W : Nat} (hd : decode code pc = .ok (.invokestatic index, 3)) (i1 : Jvm.Cond.methodLink own index y ∈ tabs) (i2 : Jvm.Cond.static y ∈ tabs) (i3 : Jvm.Cond.initialized y.cls ∈ tabs) (i4 : Jvm.Cond.code y bytes maxL rt ∈ tabs) (hy : y.cls ≠ "java/lang/invoke/MethodHandle" ∧ y.cls ≠ "java/lang/invoke/VarHandle") (hM : Ct l y bytes maxL rt rm Z argsL.toArray h n0 (fun v hp => v = some w ∧ hp = h)) (hr0 : rm.cells = 0) (hr1 : rm.slots = 0) (hls : Ls.size = ml) (hlen : ∃ ps r, parseMethodDescriptor y.desc = some ⟨ps, r⟩ ∧ argsL.length = ps.length) (hst : st = argsL.reverse ++ rest) (hW : (rest.map fun v => v.category).sum ≤ W) (hf : rm.frames + 1 ≤ R.frames) (hl : W + (maxL + 11) + rm.locals ≤ R.locals) (hc : cells ≤ R.cells) (hs : slots ≤ R.slots)
    (K : ∀ T', Hr p l e R s m args below meth c n0 h cells slots T' → Goes p e below s n0 P k n T' (mkF m (pc + 3) Ls (w :: rest))) : Goes p e below s n0 P k n T (mkF m pc Ls st) := by
  refine w_callS X C hd i1 i2 i3 i4 hy hM hls hlen hst hW hf hl (by rw [hr0]; exact hc) (by rw [hr1]; exact hs) ?_
  rintro v T' ⟨rfl, e1⟩ X'
  rw [e1, hr0, hr1] at X'
  exact K T' X'
theorem w_initO (X : Hr p l e R s m args below meth c n0 h cells slots T) (C : Cx p s m meth c code ml ret own nm Z a0 tabs) {pc index : Nat} {Ls : Array Slot} {a : Addr} {rest : List Value} (hd : decode code pc = .ok (.invokespecial index, 3)) (i1 : Jvm.Cond.methodLink own index Lib.objectInit ∈ tabs) (i2 : Jvm.Cond.instanceMethod Lib.objectInit ∈ tabs) (i3 : Jvm.Cond.code Lib.objectInit ⟨#[0xb1]⟩ 1 none ∈ tabs) (hls : Ls.size = ml) {W : Nat} (hW : (rest.map fun v => v.category).sum ≤ W) (hf : 1 ≤ R.frames) (hl : W + 12 ≤ R.locals)
    (K : ∀ T', Hr p l e R s m args below meth c n0 h cells slots T' → Goes p e below s n0 P k n T' (mkF m (pc + 3) Ls rest)) : Goes p e below s n0 P k n T (mkF m pc Ls (.ref a :: rest)) := by
  obtain ⟨locs, S, eT, N, q0⟩ := X
  have hZ := C.2.2.2.2.2.2.2.1
  have hw := C.2.2.2.2.2.2.2.2
  obtain ⟨T', X', e', st⟩ := initO S C.1 hZ C.2.2.2.2.2.1 (hw _ i1) (hw _ i2) (hw _ i3) eT (g := mkF m pc Ls (.ref a :: rest)) rfl (by rw [C.2.2.1]; exact hls) rfl (hb C.2.1 hd) hf (W := W) (by show 2 * 0 + _ ≤ _; rw [Nat.mul_zero, Nat.zero_add]; exact hW) hl
  exact Goes.of st (K T' ⟨_, X', e', N, q0⟩)
theorem w_getfield (X : Hr p l e R s m args below meth c n0 h cells slots T) (C : Cx p s m meth c code ml ret own nm Z a0 tabs) {pc index : Nat} {Ls : Array Slot} {O nf d : String} {a : Addr} {v : Value} {rest : List Value} (hd : decode code pc = .ok (.getfield index, 3)) (i1 : Jvm.Cond.fieldLink own index O nf d ∈ tabs) (F : Fld Z h a O nf d v)
    (K : ∀ T', Hr p l e R s m args below meth c n0 h cells slots T' → Goes p e below s n0 P k n T' (mkF m (pc + 3) Ls (v :: rest))) : Goes p e below s n0 P k n T (mkF m pc Ls (.ref a :: rest)) := by
  obtain ⟨locs, S, eT, N, q0⟩ := X
  obtain ⟨T', X', e', st⟩ := getF S C.1 C.2.2.2.2.2.2.2.1 C.2.2.2.2.2.1 (host := "") (Or.inl (C.2.2.2.2.2.2.2.2 _ i1)) Via.refl eT F (g := mkF m pc Ls (.ref a :: rest)) rfl rfl (hb C.2.1 hd)
  exact Goes.of st (K T' ⟨_, X', e', N, q0⟩)
theorem w_putfield (X : Hr p l e R s m args below meth c n0 h cells slots T) (C : Cx p s m meth c code ml ret own nm Z a0 tabs) {pc index kk0 : Nat} {Ls : Array Slot} {O nf d Cc : String} {ty : FieldType} {a : Addr} {v old : Value} {rest : List Value} (hd : decode code pc = .ok (.putfield index, 3)) (i1 : Jvm.Cond.fieldLink own index O nf d ∈ tabs) (F : Fld Z h a O nf d old) (E : Exa Z h a Cc) (i2 : Jvm.Cond.lays Cc O nf d ∈ tabs ∨ (Jvm.Cond.laysFinal Cc O nf d ∈ tabs ∧ own = O ∧ nm = "<init>")) (i3 : Jvm.Cond.instantiable Cc kk0 ∈ tabs) (hty : parseFieldDescriptor d = some ty) (hnw : narrow ty v = v) (hft : fits ty v = true) (ha : n0 ≤ a)
    (K : ∀ T' h', Hr p l e R s m args below meth c n0 h' cells slots T' → Wr h h' a (Jvm.RoadKit.slotOf Z O nf d) v → Fld Z h' a O nf d v → Exa Z h' a Cc → Goes p e below s n0 P k n T' (mkF m (pc + 3) Ls rest)) : Goes p e below s n0 P k n T (mkF m pc Ls (v :: .ref a :: rest)) := by
  obtain ⟨locs, S, eT, N, q0⟩ := X
  have hw := C.2.2.2.2.2.2.2.2
  obtain ⟨T', h', X', e', W', st⟩ := putF S C.1 C.2.2.2.2.2.2.2.1 C.2.2.2.2.2.1 (host := "") (Or.inl (hw _ i1)) Via.refl eT F E (i2.imp (fun q => hw _ q) (fun q => ⟨hw _ q.1, q.2.1, by rw [C.2.2.2.2.2.2.1]; exact q.2.2⟩)) (hw _ i3) hty hnw hft (g := mkF m pc Ls (v :: .ref a :: rest)) rfl rfl (hb C.2.1 hd)
  exact Goes.of st (K T' h' ⟨_, X', e', Fr.snoc X' N ha, q0⟩ W' (F.same W') (E.wr W'))
theorem w_new (X : Hr p l e R s m args below meth c n0 h cells slots T) (C : Cx p s m meth c code ml ret own nm Z a0 tabs) {pc index nn : Nat} {Ls : Array Slot} {Cc : String} {rest : List Value} (hd : decode code pc = .ok (.new index, 3)) (i1 : Jvm.Cond.classLink own index Cc ∈ tabs) (i2 : Jvm.Cond.instantiable Cc nn ∈ tabs) (i3 : Jvm.Cond.initialized Cc ∈ tabs) (hc : cells + 1 ≤ R.cells) (hl : slots + nn ≤ R.slots)
    (K : ∀ T' h' a, a = h.size → n0 ≤ a → Hr p l e R s m args below meth c n0 h' (cells + 1) (slots + nn) T' → Ext h h' → Exa Z h' a Cc → (∀ {O nf d : String} {ty : FieldType}, (Jvm.Cond.lays Cc O nf d ∈ tabs ∨ Jvm.Cond.laysFinal Cc O nf d ∈ tabs) → parseFieldDescriptor d = some ty → Fld Z h' a O nf d (defaultValue ty)) → Goes p e below s n0 P k n T' (mkF m (pc + 3) Ls (.ref a :: rest))) : Goes p e below s n0 P k n T (mkF m pc Ls rest) := by
  have hsz := X.size
  obtain ⟨locs, S, eT, N, q0⟩ := X
  have hw := C.2.2.2.2.2.2.2.2
  obtain ⟨T', h', X', e', E', A', D', -, st⟩ := newO S C.1 C.2.2.2.2.2.2.2.1 C.2.2.2.2.2.1 (hw _ i1) (hw _ i2) (hw _ i3) eT (g := mkF m pc Ls rest) rfl (hb C.2.1 hd) hc hl
  exact Goes.of st (K T' h' h.size rfl hsz ⟨_, X', e', N, q0⟩ E' A' (fun q ht => D' (q.imp (fun z => hw _ z) (fun z => hw _ z)) ht))
theorem ArV.lt {a : Addr} {ty : FieldType} {N : Nat} {f : Nat → Value} (A : ArV Z h a ty N f) : a < h.size := by obtain ⟨cl, A, -⟩ := A; exact A.lt
theorem ArV.ext {a : Addr} {ty : FieldType} {N : Nat} {f : Nat → Value} (A : ArV Z h a ty N f) (E : Ext h h') : ArV Z h' a ty N f := by obtain ⟨cl, A, r⟩ := A; exact ⟨cl, A.ext E, r⟩
theorem ArV.other {a b : Addr} {ty : FieldType} {N sl : Nat} {v : Value} {f : Nat → Value} (A : ArV Z h b ty N f) (W : Wr h h' a sl v) (q : b ≠ a) : ArV Z h' b ty N f := by obtain ⟨cl, A, r⟩ := A; exact ⟨cl, A.other W q, r⟩
theorem ArV.keep {a : Addr} {ty : FieldType} {N : Nat} {f : Nat → Value} {ws : List Addr} (A : ArV Z h a ty N f) (K : Keep h h' ws) (q : a ∉ ws) : ArV Z h' a ty N f := by obtain ⟨c, A, r⟩ := A; exact ⟨c, ⟨K.2.1 a c A.1 q, A.2⟩, r⟩
theorem ArV.congr {a : Addr} {ty : FieldType} {N : Nat} {f f' : Nat → Value} (A : ArV Z h a ty N f) (q : ∀ i, i < N → f' i = f i) : ArV Z h a ty N f' := by obtain ⟨c, A, r1, r2⟩ := A; exact ⟨c, A, r1, fun i hi => by rw [q i hi]; exact r2 i hi⟩
theorem ArV.same {a : Addr} {ty : FieldType} {N j : Nat} {v : Value} {f : Nat → Value} (A : ArV Z h a ty N f) (W : Wr h h' a j v) : ArV Z h' a ty N (up f j v) := by
  obtain ⟨c, A, r1, r2⟩ := A
  refine ⟨_, A.same W, by rw [sz_set]; exact r1, fun i hi => ?_⟩
  unfold up
  by_cases q : i = j
  · subst q; simp [Cell.setSlot, r1, hi]
  · simp only [q, if_false, Cell.setSlot]
    rw [Array.getElem?_setIfInBounds_ne (fun z => q z.symm)]
    exact r2 i hi
theorem up_int (g : Nat → Int32) (j : Nat) (x : Int32) : (fun i => Value.int (up g j x i)) = up (fun i => Value.int (g i)) j (.int x) := by
  funext i; unfold up; split <;> rfl
theorem up_long (g : Nat → Int64) (j : Nat) (x : Int64) : (fun i => Value.long (up g j x i)) = up (fun i => Value.long (g i)) j (.long x) := by
  funext i; unfold up; split <;> rfl
theorem in_of {a : Addr} {ty : FieldType} {N i : Nat} {j : Int32} {cl : Cell} (hi : j.toInt = i) (hN : i < N) (r1 : cl.slots.size = N) : ¬ (j < 0 ∨ cl.slots.size ≤ j.toNatClampNeg) ∧ j.toNatClampNeg = i := by
  have e0 : (0 : Int32).toInt = 0 := rfl
  have e1 : j.toNatClampNeg = i := by simp only [Int32.toNatClampNeg, hi]; omega
  refine ⟨?_, e1⟩
  rw [e1, r1, Int32.lt_iff_toInt_lt, e0]; omega
theorem w_baload (X : Hr p l e R s m args below meth c n0 h cells slots T) (C : Cx p s m meth c code ml ret own nm Z a0 tabs) {pc N : Nat} {Ls : Array Slot} {a : Addr} {g : Nat → Int32} {j : Int32} {rest : List Value} (hd : decode code pc = .ok (.baload, 1)) (A : ArI Z h a .byte N g) (i : Nat) (hi : j.toInt = i) (hN : i < N) (K : Goes p e below s n0 P k n T (mkF m (pc + 1) Ls (.int (g i) :: rest))) : Goes p e below s n0 P k n T (mkF m pc Ls (.int j :: .ref a :: rest)) := by
  obtain ⟨locs, S, eT, N0, q0⟩ := X
  obtain ⟨cl, Ar, r1, r2⟩ := A
  obtain ⟨hin, e1⟩ := in_of (a := a) (ty := .byte) hi hN r1
  exact Goes.of (fun _ kk => S.baloadBytes C.1 (j := j) (v := .int (g i)) (by rw [eT]; exact Ar.1) (State.isArrayOf_alike C.2.2.2.2.2.2.2.1.alike Ar.2.1) Ar.2.2 hin (by rw [e1]; exact r2 i hN) (g := mkF m pc Ls (.int j :: .ref a :: rest)) rfl rfl (hb C.2.1 hd) _ kk) K
theorem w_iaload (X : Hr p l e R s m args below meth c n0 h cells slots T) (C : Cx p s m meth c code ml ret own nm Z a0 tabs) {pc N : Nat} {Ls : Array Slot} {a : Addr} {g : Nat → Int32} {j : Int32} {rest : List Value} (hd : decode code pc = .ok (.iaload, 1)) (A : ArI Z h a .int N g) (i : Nat) (hi : j.toInt = i) (hN : i < N) (K : Goes p e below s n0 P k n T (mkF m (pc + 1) Ls (.int (g i) :: rest))) : Goes p e below s n0 P k n T (mkF m pc Ls (.int j :: .ref a :: rest)) := by
  obtain ⟨locs, S, eT, N0, q0⟩ := X
  obtain ⟨cl, Ar, r1, r2⟩ := A
  obtain ⟨hin, e1⟩ := in_of (a := a) (ty := .int) hi hN r1
  exact Goes.of (fun _ kk => S.iaload C.1 (j := j) (v := .int (g i)) (by rw [eT]; exact Ar.1) (State.isArrayOf_alike C.2.2.2.2.2.2.2.1.alike Ar.2.1) Ar.2.2 hin (by rw [e1]; exact r2 i hN) (g := mkF m pc Ls (.int j :: .ref a :: rest)) rfl rfl (hb C.2.1 hd) _ kk) K
theorem w_laload (X : Hr p l e R s m args below meth c n0 h cells slots T) (C : Cx p s m meth c code ml ret own nm Z a0 tabs) {pc N : Nat} {Ls : Array Slot} {a : Addr} {g : Nat → Int64} {j : Int32} {rest : List Value} (hd : decode code pc = .ok (.laload, 1)) (A : ArJ Z h a N g) (i : Nat) (hi : j.toInt = i) (hN : i < N) (K : Goes p e below s n0 P k n T (mkF m (pc + 1) Ls (.long (g i) :: rest))) : Goes p e below s n0 P k n T (mkF m pc Ls (.int j :: .ref a :: rest)) := by
  obtain ⟨locs, S, eT, N0, q0⟩ := X
  obtain ⟨cl, Ar, r1, r2⟩ := A
  obtain ⟨hin, e1⟩ := in_of (a := a) (ty := .long) hi hN r1
  exact Goes.of (fun _ kk => S.laload C.1 (j := j) (v := .long (g i)) (by rw [eT]; exact Ar.1) (State.isArrayOf_alike C.2.2.2.2.2.2.2.1.alike Ar.2.1) Ar.2.2 hin (by rw [e1]; exact r2 i hN) (g := mkF m pc Ls (.int j :: .ref a :: rest)) rfl rfl (hb C.2.1 hd) _ kk) K
theorem w_bastore (X : Hr p l e R s m args below meth c n0 h cells slots T) (C : Cx p s m meth c code ml ret own nm Z a0 tabs) {pc N : Nat} {Ls : Array Slot} {a : Addr} {g : Nat → Int32} {j : Int32} {x : Int32} {rest : List Value} (hd : decode code pc = .ok (.bastore, 1)) (A : ArI Z h a .byte N g) (i : Nat) (hi : j.toInt = i) (hN : i < N) (ha : n0 ≤ a)
    (K : ∀ T' h', Hr p l e R s m args below meth c n0 h' cells slots T' → Wr h h' a i (.int (i8 x)) → ArI Z h' a .byte N (up g i (i8 x)) → Goes p e below s n0 P k n T' (mkF m (pc + 1) Ls rest)) : Goes p e below s n0 P k n T (mkF m pc Ls (.int x :: .int j :: .ref a :: rest)) := by
  obtain ⟨locs, S, eT, N0, q0⟩ := X
  obtain ⟨cl, Ar, r1, r2⟩ := A
  obtain ⟨hin, e1⟩ := in_of (a := a) (ty := .byte) hi hN r1
  obtain ⟨T', h', X', e', W', st⟩ := stB S C.1 C.2.2.2.2.2.2.2.1 eT Ar (j := j) hin (g := mkF m pc Ls (.int x :: .int j :: .ref a :: rest)) rfl rfl (hb C.2.1 hd)
  rw [e1] at W'
  refine Goes.of st (K T' h' ⟨_, X', e', Fr.snoc X' N0 ha, q0⟩ W' ?_)
  have q := ArV.same ⟨cl, Ar, r1, r2⟩ W'
  rw [← (show (fun i_1 => Value.int (up g i (i8 x) i_1)) = up (fun i => Value.int (g i)) i (.int (nar .byte x)) from up_int g i (i8 x))] at q
  exact q
theorem w_iastore (X : Hr p l e R s m args below meth c n0 h cells slots T) (C : Cx p s m meth c code ml ret own nm Z a0 tabs) {pc N : Nat} {Ls : Array Slot} {a : Addr} {g : Nat → Int32} {j : Int32} {x : Int32} {rest : List Value} (hd : decode code pc = .ok (.iastore, 1)) (A : ArI Z h a .int N g) (i : Nat) (hi : j.toInt = i) (hN : i < N) (ha : n0 ≤ a)
    (K : ∀ T' h', Hr p l e R s m args below meth c n0 h' cells slots T' → Wr h h' a i (.int (x)) → ArI Z h' a .int N (up g i (x)) → Goes p e below s n0 P k n T' (mkF m (pc + 1) Ls rest)) : Goes p e below s n0 P k n T (mkF m pc Ls (.int x :: .int j :: .ref a :: rest)) := by
  obtain ⟨locs, S, eT, N0, q0⟩ := X
  obtain ⟨cl, Ar, r1, r2⟩ := A
  obtain ⟨hin, e1⟩ := in_of (a := a) (ty := .int) hi hN r1
  obtain ⟨T', h', X', e', W', st⟩ := stI S C.1 C.2.2.2.2.2.2.2.1 eT Ar (j := j) hin (g := mkF m pc Ls (.int x :: .int j :: .ref a :: rest)) rfl rfl (hb C.2.1 hd)
  rw [e1] at W'
  refine Goes.of st (K T' h' ⟨_, X', e', Fr.snoc X' N0 ha, q0⟩ W' ?_)
  have q := ArV.same ⟨cl, Ar, r1, r2⟩ W'
  rw [← up_int] at q
  exact q
theorem w_lastore (X : Hr p l e R s m args below meth c n0 h cells slots T) (C : Cx p s m meth c code ml ret own nm Z a0 tabs) {pc N : Nat} {Ls : Array Slot} {a : Addr} {g : Nat → Int64} {j : Int32} {x : Int64} {rest : List Value} (hd : decode code pc = .ok (.lastore, 1)) (A : ArJ Z h a N g) (i : Nat) (hi : j.toInt = i) (hN : i < N) (ha : n0 ≤ a)
    (K : ∀ T' h', Hr p l e R s m args below meth c n0 h' cells slots T' → Wr h h' a i (.long (x)) → ArJ Z h' a N (up g i (x)) → Goes p e below s n0 P k n T' (mkF m (pc + 1) Ls rest)) : Goes p e below s n0 P k n T (mkF m pc Ls (.long x :: .int j :: .ref a :: rest)) := by
  obtain ⟨locs, S, eT, N0, q0⟩ := X
  obtain ⟨cl, Ar, r1, r2⟩ := A
  obtain ⟨hin, e1⟩ := in_of (a := a) (ty := .long) hi hN r1
  obtain ⟨T', h', X', e', W', st⟩ := stJ S C.1 C.2.2.2.2.2.2.2.1 eT Ar (j := j) hin (g := mkF m pc Ls (.long x :: .int j :: .ref a :: rest)) rfl rfl (hb C.2.1 hd)
  rw [e1] at W'
  refine Goes.of st (K T' h' ⟨_, X', e', Fr.snoc X' N0 ha, q0⟩ W' ?_)
  have q := ArV.same ⟨cl, Ar, r1, r2⟩ W'
  rw [← up_long] at q
  exact q
theorem w_arraylength (X : Hr p l e R s m args below meth c n0 h cells slots T) (C : Cx p s m meth c code ml ret own nm Z a0 tabs) {pc N : Nat} {Ls : Array Slot} {a : Addr} {ty : FieldType} {f : Nat → Value} {rest : List Value} (hd : decode code pc = .ok (.arraylength, 1)) (A : ArV Z h a ty N f) (K : Goes p e below s n0 P k n T (mkF m (pc + 1) Ls (.int N.toInt32 :: rest))) : Goes p e below s n0 P k n T (mkF m pc Ls (.ref a :: rest)) := by
  obtain ⟨locs, S, eT, N0, q0⟩ := X
  obtain ⟨cl, Ar, r1, r2⟩ := A
  subst r1
  exact Goes.of (fun _ kk => S.arraylength C.1 (by rw [eT]; exact Ar.1) (State.isArrayOf_alike C.2.2.2.2.2.2.2.1.alike Ar.2.1) (g := mkF m pc Ls (.ref a :: rest)) rfl rfl (hb C.2.1 hd) _ kk) K
theorem w_new_byte (X : Hr p l e R s m args below meth c n0 h cells slots T) (C : Cx p s m meth c code ml ret own nm Z a0 tabs) {pc : Nat} {Ls : Array Slot} {sz : Int32} {rest : List Value} (hd : decode code pc = .ok (.newarray .byte, 2)) (i1 : Jvm.Cond.arrayClass .byte ∈ tabs) (N : Nat) (hN : sz.toInt = N) (cap : Nat) (hcap : N ≤ cap) (hbig : cap * 8 ≤ 536870912) (hc : cells + 1 ≤ R.cells) (hl : slots + cap ≤ R.slots)
    (K : ∀ T' h' a, a = h.size → n0 ≤ a → Hr p l e R s m args below meth c n0 h' (cells + 1) (slots + cap) T' → Ext h h' → ArI Z h' a .byte N (fun _ => 0) → Goes p e below s n0 P k n T' (mkF m (pc + 2) Ls (.ref a :: rest))) : Goes p e below s n0 P k n T (mkF m pc Ls (.int sz :: rest)) := by
  have hsz := X.size
  obtain ⟨locs, S, eT, N0, q0⟩ := X
  have hw := C.2.2.2.2.2.2.2.2
  have e1 : sz.toNatClampNeg = N := by simp only [Int32.toNatClampNeg, hN]; omega
  have e2 : ¬ sz < 0 := by
    have e0 : (0 : Int32).toInt = 0 := rfl
    rw [Int32.lt_iff_toInt_lt, e0]; omega
  obtain ⟨T', h', kk', X', e', E', A', st⟩ := newP S C.1 C.2.2.2.2.2.2.2.1 (aty := .byte) (hw _ i1) eT (g := mkF m pc Ls (.int sz :: rest)) rfl (hb C.2.1 hd) rfl e2 (cap := cap) (by rw [e1]; exact hcap) hbig hc hl
  refine Goes.of st (K T' h' h.size rfl hsz ⟨_, X', e', N0, q0⟩ E' ⟨_, A', by rw [sz_new]; exact e1, fun i hi => ?_⟩)
  simp [newA, e1, hi, newarray.typeOf, defaultValue]
theorem w_new_int (X : Hr p l e R s m args below meth c n0 h cells slots T) (C : Cx p s m meth c code ml ret own nm Z a0 tabs) {pc : Nat} {Ls : Array Slot} {sz : Int32} {rest : List Value} (hd : decode code pc = .ok (.newarray .int, 2)) (i1 : Jvm.Cond.arrayClass .int ∈ tabs) (N : Nat) (hN : sz.toInt = N) (cap : Nat) (hcap : N ≤ cap) (hbig : cap * 8 ≤ 536870912) (hc : cells + 1 ≤ R.cells) (hl : slots + cap ≤ R.slots)
    (K : ∀ T' h' a, a = h.size → n0 ≤ a → Hr p l e R s m args below meth c n0 h' (cells + 1) (slots + cap) T' → Ext h h' → ArI Z h' a .int N (fun _ => 0) → Goes p e below s n0 P k n T' (mkF m (pc + 2) Ls (.ref a :: rest))) : Goes p e below s n0 P k n T (mkF m pc Ls (.int sz :: rest)) := by
  have hsz := X.size
  obtain ⟨locs, S, eT, N0, q0⟩ := X
  have hw := C.2.2.2.2.2.2.2.2
  have e1 : sz.toNatClampNeg = N := by simp only [Int32.toNatClampNeg, hN]; omega
  have e2 : ¬ sz < 0 := by
    have e0 : (0 : Int32).toInt = 0 := rfl
    rw [Int32.lt_iff_toInt_lt, e0]; omega
  obtain ⟨T', h', kk', X', e', E', A', st⟩ := newP S C.1 C.2.2.2.2.2.2.2.1 (aty := .int) (hw _ i1) eT (g := mkF m pc Ls (.int sz :: rest)) rfl (hb C.2.1 hd) rfl e2 (cap := cap) (by rw [e1]; exact hcap) hbig hc hl
  refine Goes.of st (K T' h' h.size rfl hsz ⟨_, X', e', N0, q0⟩ E' ⟨_, A', by rw [sz_new]; exact e1, fun i hi => ?_⟩)
  simp [newA, e1, hi, newarray.typeOf, defaultValue]
theorem w_new_long (X : Hr p l e R s m args below meth c n0 h cells slots T) (C : Cx p s m meth c code ml ret own nm Z a0 tabs) {pc : Nat} {Ls : Array Slot} {sz : Int32} {rest : List Value} (hd : decode code pc = .ok (.newarray .long, 2)) (i1 : Jvm.Cond.arrayClass .long ∈ tabs) (N : Nat) (hN : sz.toInt = N) (cap : Nat) (hcap : N ≤ cap) (hbig : cap * 8 ≤ 536870912) (hc : cells + 1 ≤ R.cells) (hl : slots + cap ≤ R.slots)
    (K : ∀ T' h' a, a = h.size → n0 ≤ a → Hr p l e R s m args below meth c n0 h' (cells + 1) (slots + cap) T' → Ext h h' → ArJ Z h' a N (fun _ => 0) → Goes p e below s n0 P k n T' (mkF m (pc + 2) Ls (.ref a :: rest))) : Goes p e below s n0 P k n T (mkF m pc Ls (.int sz :: rest)) := by
  have hsz := X.size
  obtain ⟨locs, S, eT, N0, q0⟩ := X
  have hw := C.2.2.2.2.2.2.2.2
  have e1 : sz.toNatClampNeg = N := by simp only [Int32.toNatClampNeg, hN]; omega
  have e2 : ¬ sz < 0 := by
    have e0 : (0 : Int32).toInt = 0 := rfl
    rw [Int32.lt_iff_toInt_lt, e0]; omega
  obtain ⟨T', h', kk', X', e', E', A', st⟩ := newP S C.1 C.2.2.2.2.2.2.2.1 (aty := .long) (hw _ i1) eT (g := mkF m pc Ls (.int sz :: rest)) rfl (hb C.2.1 hd) rfl e2 (cap := cap) (by rw [e1]; exact hcap) hbig hc hl
  refine Goes.of st (K T' h' h.size rfl hsz ⟨_, X', e', N0, q0⟩ E' ⟨_, A', by rw [sz_new]; exact e1, fun i hi => ?_⟩)
  simp [newA, e1, hi, newarray.typeOf, defaultValue]
end W
end Jvm.OwnW
namespace Jvm.Pilot.@@N@@
open Jvm Jvm.ClassFile Sem Op Lib Jvm.Free Jvm.Stand Jvm.LawKit Jvm.RoadKit Bundle Jvm.OwnW Jvm.Pilot.@@N@@.Jvm.D
theorem pn_0 : plainName "termwright/index/WordFilterHashPinLaw" = true := by first | (simp [plainName, overriddenIn]; done) | decide +kernel
theorem pn_1 : plainName "termwright/index/WordFilter" = true := by first | (simp [plainName, overriddenIn]; done) | decide +kernel
theorem pd_0 : parseMethodDescriptor "([BII)J" = some ⟨[(.array .byte), .int, .int], some .long⟩ := by decide +kernel
theorem pd_1 : parseMethodDescriptor "(J)J" = some ⟨[.long], some .long⟩ := by decide +kernel
theorem pd_2 : parseMethodDescriptor "(JI)J" = some ⟨[.long, .int], some .long⟩ := by decide +kernel
def f1 (x0 : Int64) (x2 : Int32) : Int64 := ((x0 ^^^ (x2).toInt64) * (1099511628211 : Int64))
theorem d1_0 : decode method_2_code 0 = .ok (.lload_n 0, 1) := by decide +kernel
theorem d1_1 : decode method_2_code 1 = .ok (.iload_n 2, 1) := by decide +kernel
theorem d1_2 : decode method_2_code 2 = .ok (.i2l, 1) := by decide +kernel
theorem d1_3 : decode method_2_code 3 = .ok (.lxor, 1) := by decide +kernel
theorem d1_4 : decode method_2_code 4 = .ok (.ldc2_w 7, 3) := by decide +kernel
theorem d1_7 : decode method_2_code 7 = .ok (.lmul, 1) := by decide +kernel
theorem d1_8 : decode method_2_code 8 = .ok (.lreturn, 1) := by decide +kernel
set_option maxRecDepth 65536 in
set_option maxHeartbeats 4000000 in
theorem b1_0 {p : Program} {l : Launch} {e : Env} {s : State} {m : MethodId} {args : Array Value} {below : List Frame} {meth : Method} {c : Code} {T : State} {h : Heap} {n0 : Nat} {P : Option Value → Heap → Prop} {Z : State} {a0 : Array Value} (X : Hr p l e ({ frames := 0, cells := 0, slots := 0, locals := 0 } : Room) s m args below meth c n0 h 0 0 T) (C : Cx p s m meth c method_2_code 3 (some .long) "termwright/index/WordFilterHashPinLaw" "fnvStep" Z a0 tables_1) (x0 : Int64) (x2 : Int32) (hP : P (some (.long (f1 x0 x2))) h) : Goes p e below s n0 P 0 0 T (mkF m 0 #[.val (.long x0), .second, .val (.int x2)] []) := by
  refine w_lloadN (pc := 0) X C d1_0 rfl ?_
  refine w_iloadN (pc := 1) X C d1_1 rfl ?_
  refine w_i2l (pc := 2) X C d1_2 ?_
  refine w_lxor (pc := 3) X C d1_3 ?_
  refine w_ldcJ (pc := 4) X C d1_4 (v := (1099511628211 : Int64)) (List.mem_of_getElem? (i := 6) rfl) ?_
  refine w_lmul (pc := 7) X C d1_7 ?_
  exact w_retJ (pc := 8) X C d1_8 (by unfold f1 at hP; exact hP)
theorem ct1 (l : Launch) {Z : State} {a0 : Array Value} (hw : ∀ d ∈ tables_1, d.before a0 Z = true) (h : Heap) {n0 : Nat} (hn : n0 ≤ h.size) (x0 : Int64) (x2 : Int32) : Ct l (⟨"termwright/index/WordFilterHashPinLaw", "fnvStep", "(JI)J"⟩ : MethodName) method_2_code 3 (some .long) ({ frames := 0, cells := 0, slots := 0, locals := 0 } : Room) Z #[(.long x0), (.int x2)] h n0 (fun v h' => v = some (.long (f1 x0 x2)) ∧ h' = h) :=
  Ct.of (plainFor_of_name pn_0) #[.val (.long x0), .second, .val (.int x2)] (fun m => by first | (simp [entryFrame, mkF, argsToLocals, Value.category]; done) | rfl) hw hn (fun p e s m below meth c T C X => b1_0 X C x0 x2 ⟨rfl, rfl⟩)
def f3 (x0 : Int64) : Int64 := (((((x0 ^^^ (ushrJ x0 (33 : Int32))) * (-49064778989728563 : Int64)) ^^^ (ushrJ ((x0 ^^^ (ushrJ x0 (33 : Int32))) * (-49064778989728563 : Int64)) (33 : Int32))) * (-4265267296055464877 : Int64)) ^^^ (ushrJ ((((x0 ^^^ (ushrJ x0 (33 : Int32))) * (-49064778989728563 : Int64)) ^^^ (ushrJ ((x0 ^^^ (ushrJ x0 (33 : Int32))) * (-49064778989728563 : Int64)) (33 : Int32))) * (-4265267296055464877 : Int64)) (33 : Int32)))
theorem d3_0 : decode method_3_code 0 = .ok (.lload_n 0, 1) := by decide +kernel
theorem d3_1 : decode method_3_code 1 = .ok (.lstore_n 2, 1) := by decide +kernel
theorem d3_2 : decode method_3_code 2 = .ok (.lload_n 2, 1) := by decide +kernel
theorem d3_3 : decode method_3_code 3 = .ok (.lload_n 2, 1) := by decide +kernel
theorem d3_4 : decode method_3_code 4 = .ok (.bipush 33, 2) := by decide +kernel
theorem d3_6 : decode method_3_code 6 = .ok (.lushr, 1) := by decide +kernel
theorem d3_7 : decode method_3_code 7 = .ok (.lxor, 1) := by decide +kernel
theorem d3_8 : decode method_3_code 8 = .ok (.lstore_n 2, 1) := by decide +kernel
theorem d3_9 : decode method_3_code 9 = .ok (.lload_n 2, 1) := by decide +kernel
theorem d3_10 : decode method_3_code 10 = .ok (.ldc2_w 9, 3) := by decide +kernel
theorem d3_13 : decode method_3_code 13 = .ok (.lmul, 1) := by decide +kernel
theorem d3_14 : decode method_3_code 14 = .ok (.lstore_n 2, 1) := by decide +kernel
theorem d3_15 : decode method_3_code 15 = .ok (.lload_n 2, 1) := by decide +kernel
theorem d3_16 : decode method_3_code 16 = .ok (.lload_n 2, 1) := by decide +kernel
theorem d3_17 : decode method_3_code 17 = .ok (.bipush 33, 2) := by decide +kernel
theorem d3_19 : decode method_3_code 19 = .ok (.lushr, 1) := by decide +kernel
theorem d3_20 : decode method_3_code 20 = .ok (.lxor, 1) := by decide +kernel
theorem d3_21 : decode method_3_code 21 = .ok (.lstore_n 2, 1) := by decide +kernel
theorem d3_22 : decode method_3_code 22 = .ok (.lload_n 2, 1) := by decide +kernel
theorem d3_23 : decode method_3_code 23 = .ok (.ldc2_w 11, 3) := by decide +kernel
theorem d3_26 : decode method_3_code 26 = .ok (.lmul, 1) := by decide +kernel
theorem d3_27 : decode method_3_code 27 = .ok (.lstore_n 2, 1) := by decide +kernel
theorem d3_28 : decode method_3_code 28 = .ok (.lload_n 2, 1) := by decide +kernel
theorem d3_29 : decode method_3_code 29 = .ok (.lload_n 2, 1) := by decide +kernel
theorem d3_30 : decode method_3_code 30 = .ok (.bipush 33, 2) := by decide +kernel
theorem d3_32 : decode method_3_code 32 = .ok (.lushr, 1) := by decide +kernel
theorem d3_33 : decode method_3_code 33 = .ok (.lxor, 1) := by decide +kernel
theorem d3_34 : decode method_3_code 34 = .ok (.lstore_n 2, 1) := by decide +kernel
theorem d3_35 : decode method_3_code 35 = .ok (.lload_n 2, 1) := by decide +kernel
theorem d3_36 : decode method_3_code 36 = .ok (.lreturn, 1) := by decide +kernel
set_option maxRecDepth 65536 in
set_option maxHeartbeats 4000000 in
theorem b3_0 {p : Program} {l : Launch} {e : Env} {s : State} {m : MethodId} {args : Array Value} {below : List Frame} {meth : Method} {c : Code} {T : State} {h : Heap} {n0 : Nat} {P : Option Value → Heap → Prop} {Z : State} {a0 : Array Value} (X : Hr p l e ({ frames := 0, cells := 0, slots := 0, locals := 0 } : Room) s m args below meth c n0 h 0 0 T) (C : Cx p s m meth c method_3_code 4 (some .long) "termwright/index/WordFilterHashPinLaw" "mix" Z a0 tables_1) (x0 : Int64) (hP : P (some (.long (f3 x0))) h) : Goes p e below s n0 P 0 0 T (mkF m 0 #[.val (.long x0), .second, .unset, .unset] []) := by
  refine w_lloadN (pc := 0) X C d3_0 rfl ?_
  refine w_lstoreN (pc := 1) X C d3_1 #[.val (.long x0), .second, .val (.long x0), .second] rfl ?_
  refine w_lloadN (pc := 2) X C d3_2 rfl ?_
  refine w_lloadN (pc := 3) X C d3_3 rfl ?_
  refine w_bipush (pc := 4) X C d3_4 (33 : Int32) rfl ?_
  refine w_lushr (pc := 6) X C d3_6 ?_
  refine w_lxor (pc := 7) X C d3_7 ?_
  refine w_lstoreN (pc := 8) X C d3_8 #[.val (.long x0), .second, .val (.long (x0 ^^^ (ushrJ x0 (33 : Int32)))), .second] rfl ?_
  refine w_lloadN (pc := 9) X C d3_9 rfl ?_
  refine w_ldcJ (pc := 10) X C d3_10 (v := (-49064778989728563 : Int64)) (List.mem_of_getElem? (i := 18) rfl) ?_
  refine w_lmul (pc := 13) X C d3_13 ?_
  refine w_lstoreN (pc := 14) X C d3_14 #[.val (.long x0), .second, .val (.long ((x0 ^^^ (ushrJ x0 (33 : Int32))) * (-49064778989728563 : Int64))), .second] rfl ?_
  refine w_lloadN (pc := 15) X C d3_15 rfl ?_
  refine w_lloadN (pc := 16) X C d3_16 rfl ?_
  refine w_bipush (pc := 17) X C d3_17 (33 : Int32) rfl ?_
  refine w_lushr (pc := 19) X C d3_19 ?_
  refine w_lxor (pc := 20) X C d3_20 ?_
  refine w_lstoreN (pc := 21) X C d3_21 #[.val (.long x0), .second, .val (.long (((x0 ^^^ (ushrJ x0 (33 : Int32))) * (-49064778989728563 : Int64)) ^^^ (ushrJ ((x0 ^^^ (ushrJ x0 (33 : Int32))) * (-49064778989728563 : Int64)) (33 : Int32)))), .second] rfl ?_
  refine w_lloadN (pc := 22) X C d3_22 rfl ?_
  refine w_ldcJ (pc := 23) X C d3_23 (v := (-4265267296055464877 : Int64)) (List.mem_of_getElem? (i := 19) rfl) ?_
  refine w_lmul (pc := 26) X C d3_26 ?_
  refine w_lstoreN (pc := 27) X C d3_27 #[.val (.long x0), .second, .val (.long ((((x0 ^^^ (ushrJ x0 (33 : Int32))) * (-49064778989728563 : Int64)) ^^^ (ushrJ ((x0 ^^^ (ushrJ x0 (33 : Int32))) * (-49064778989728563 : Int64)) (33 : Int32))) * (-4265267296055464877 : Int64))), .second] rfl ?_
  refine w_lloadN (pc := 28) X C d3_28 rfl ?_
  refine w_lloadN (pc := 29) X C d3_29 rfl ?_
  refine w_bipush (pc := 30) X C d3_30 (33 : Int32) rfl ?_
  refine w_lushr (pc := 32) X C d3_32 ?_
  refine w_lxor (pc := 33) X C d3_33 ?_
  refine w_lstoreN (pc := 34) X C d3_34 #[.val (.long x0), .second, .val (.long (((((x0 ^^^ (ushrJ x0 (33 : Int32))) * (-49064778989728563 : Int64)) ^^^ (ushrJ ((x0 ^^^ (ushrJ x0 (33 : Int32))) * (-49064778989728563 : Int64)) (33 : Int32))) * (-4265267296055464877 : Int64)) ^^^ (ushrJ ((((x0 ^^^ (ushrJ x0 (33 : Int32))) * (-49064778989728563 : Int64)) ^^^ (ushrJ ((x0 ^^^ (ushrJ x0 (33 : Int32))) * (-49064778989728563 : Int64)) (33 : Int32))) * (-4265267296055464877 : Int64)) (33 : Int32)))), .second] rfl ?_
  refine w_lloadN (pc := 35) X C d3_35 rfl ?_
  exact w_retJ (pc := 36) X C d3_36 (by unfold f3 at hP; exact hP)
theorem ct3 (l : Launch) {Z : State} {a0 : Array Value} (hw : ∀ d ∈ tables_1, d.before a0 Z = true) (h : Heap) {n0 : Nat} (hn : n0 ≤ h.size) (x0 : Int64) : Ct l (⟨"termwright/index/WordFilterHashPinLaw", "mix", "(J)J"⟩ : MethodName) method_3_code 4 (some .long) ({ frames := 0, cells := 0, slots := 0, locals := 0 } : Room) Z #[(.long x0)] h n0 (fun v h' => v = some (.long (f3 x0)) ∧ h' = h) :=
  Ct.of (plainFor_of_name pn_0) #[.val (.long x0), .second, .unset, .unset] (fun m => by first | (simp [entryFrame, mkF, argsToLocals, Value.category]; done) | rfl) hw hn (fun p e s m below meth c T C X => b3_0 X C x0 ⟨rfl, rfl⟩)
def F2_7 (x1 : Int32) (x2 : Int32) (g_x0 : Nat → Int32) : Nat → Int64 → Int32 → Int64
  | 0, x3, x5 => (((((x3 ^^^ (ushrJ x3 (33 : Int32))) * (-49064778989728563 : Int64)) ^^^ (ushrJ ((x3 ^^^ (ushrJ x3 (33 : Int32))) * (-49064778989728563 : Int64)) (33 : Int32))) * (-4265267296055464877 : Int64)) ^^^ (ushrJ ((((x3 ^^^ (ushrJ x3 (33 : Int32))) * (-49064778989728563 : Int64)) ^^^ (ushrJ ((x3 ^^^ (ushrJ x3 (33 : Int32))) * (-49064778989728563 : Int64)) (33 : Int32))) * (-4265267296055464877 : Int64)) (33 : Int32)))
  | k + 1, x3, x5 => (if x5 < x2 then (F2_7 x1 x2 g_x0 k ((x3 ^^^ (((g_x0 (nt x5)) &&& (255 : Int32))).toInt64) * (1099511628211 : Int64)) (x5 + (1 : Int32))) else (((((x3 ^^^ (ushrJ x3 (33 : Int32))) * (-49064778989728563 : Int64)) ^^^ (ushrJ ((x3 ^^^ (ushrJ x3 (33 : Int32))) * (-49064778989728563 : Int64)) (33 : Int32))) * (-4265267296055464877 : Int64)) ^^^ (ushrJ ((((x3 ^^^ (ushrJ x3 (33 : Int32))) * (-49064778989728563 : Int64)) ^^^ (ushrJ ((x3 ^^^ (ushrJ x3 (33 : Int32))) * (-49064778989728563 : Int64)) (33 : Int32))) * (-4265267296055464877 : Int64)) (33 : Int32))))
theorem F2_7_z (x1 : Int32) (x2 : Int32) (g_x0 : Nat → Int32) (x3 : Int64) (x5 : Int32) : F2_7 x1 x2 g_x0 0 x3 x5 = (((((x3 ^^^ (ushrJ x3 (33 : Int32))) * (-49064778989728563 : Int64)) ^^^ (ushrJ ((x3 ^^^ (ushrJ x3 (33 : Int32))) * (-49064778989728563 : Int64)) (33 : Int32))) * (-4265267296055464877 : Int64)) ^^^ (ushrJ ((((x3 ^^^ (ushrJ x3 (33 : Int32))) * (-49064778989728563 : Int64)) ^^^ (ushrJ ((x3 ^^^ (ushrJ x3 (33 : Int32))) * (-49064778989728563 : Int64)) (33 : Int32))) * (-4265267296055464877 : Int64)) (33 : Int32))) := rfl
theorem F2_7_s (x1 : Int32) (x2 : Int32) (g_x0 : Nat → Int32) (k : Nat) (x3 : Int64) (x5 : Int32) : F2_7 x1 x2 g_x0 (k + 1) x3 x5 = (if x5 < x2 then (F2_7 x1 x2 g_x0 k ((x3 ^^^ (((g_x0 (nt x5)) &&& (255 : Int32))).toInt64) * (1099511628211 : Int64)) (x5 + (1 : Int32))) else (((((x3 ^^^ (ushrJ x3 (33 : Int32))) * (-49064778989728563 : Int64)) ^^^ (ushrJ ((x3 ^^^ (ushrJ x3 (33 : Int32))) * (-49064778989728563 : Int64)) (33 : Int32))) * (-4265267296055464877 : Int64)) ^^^ (ushrJ ((((x3 ^^^ (ushrJ x3 (33 : Int32))) * (-49064778989728563 : Int64)) ^^^ (ushrJ ((x3 ^^^ (ushrJ x3 (33 : Int32))) * (-49064778989728563 : Int64)) (33 : Int32))) * (-4265267296055464877 : Int64)) (33 : Int32)))) := rfl
def f2 (x1 : Int32) (x2 : Int32) (g_x0 : Nat → Int32) : Int64 := (F2_7 x1 x2 g_x0 8 (-3750763034362895579 : Int64) x1)
theorem d2_0 : decode prog_94_method_8_code 0 = .ok (.ldc2_w 63, 3) := by decide +kernel
theorem d2_3 : decode prog_94_method_8_code 3 = .ok (.lstore_n 3, 1) := by decide +kernel
theorem d2_4 : decode prog_94_method_8_code 4 = .ok (.iload_n 1, 1) := by decide +kernel
theorem d2_5 : decode prog_94_method_8_code 5 = .ok (.istore 5, 2) := by decide +kernel
theorem d2_7 : decode prog_94_method_8_code 7 = .ok (.iload 5, 2) := by decide +kernel
theorem d2_9 : decode prog_94_method_8_code 9 = .ok (.iload_n 2, 1) := by decide +kernel
theorem d2_10 : decode prog_94_method_8_code 10 = .ok (.if_icmp .ge 25, 3) := by decide +kernel
theorem d2_13 : decode prog_94_method_8_code 13 = .ok (.lload_n 3, 1) := by decide +kernel
theorem d2_14 : decode prog_94_method_8_code 14 = .ok (.aload_n 0, 1) := by decide +kernel
theorem d2_15 : decode prog_94_method_8_code 15 = .ok (.iload 5, 2) := by decide +kernel
theorem d2_17 : decode prog_94_method_8_code 17 = .ok (.baload, 1) := by decide +kernel
theorem d2_18 : decode prog_94_method_8_code 18 = .ok (.sipush 255, 3) := by decide +kernel
theorem d2_21 : decode prog_94_method_8_code 21 = .ok (.iand, 1) := by decide +kernel
theorem d2_22 : decode prog_94_method_8_code 22 = .ok (.i2l, 1) := by decide +kernel
theorem d2_23 : decode prog_94_method_8_code 23 = .ok (.lxor, 1) := by decide +kernel
theorem d2_24 : decode prog_94_method_8_code 24 = .ok (.ldc2_w 65, 3) := by decide +kernel
theorem d2_27 : decode prog_94_method_8_code 27 = .ok (.lmul, 1) := by decide +kernel
theorem d2_28 : decode prog_94_method_8_code 28 = .ok (.lstore_n 3, 1) := by decide +kernel
theorem d2_29 : decode prog_94_method_8_code 29 = .ok (.iinc 5 1, 3) := by decide +kernel
theorem d2_32 : decode prog_94_method_8_code 32 = .ok (.goto (-25), 3) := by decide +kernel
theorem d2_35 : decode prog_94_method_8_code 35 = .ok (.lload_n 3, 1) := by decide +kernel
theorem d2_36 : decode prog_94_method_8_code 36 = .ok (.lload_n 3, 1) := by decide +kernel
theorem d2_37 : decode prog_94_method_8_code 37 = .ok (.bipush 33, 2) := by decide +kernel
theorem d2_39 : decode prog_94_method_8_code 39 = .ok (.lushr, 1) := by decide +kernel
theorem d2_40 : decode prog_94_method_8_code 40 = .ok (.lxor, 1) := by decide +kernel
theorem d2_41 : decode prog_94_method_8_code 41 = .ok (.lstore_n 3, 1) := by decide +kernel
theorem d2_42 : decode prog_94_method_8_code 42 = .ok (.lload_n 3, 1) := by decide +kernel
theorem d2_43 : decode prog_94_method_8_code 43 = .ok (.ldc2_w 67, 3) := by decide +kernel
theorem d2_46 : decode prog_94_method_8_code 46 = .ok (.lmul, 1) := by decide +kernel
theorem d2_47 : decode prog_94_method_8_code 47 = .ok (.lstore_n 3, 1) := by decide +kernel
theorem d2_48 : decode prog_94_method_8_code 48 = .ok (.lload_n 3, 1) := by decide +kernel
theorem d2_49 : decode prog_94_method_8_code 49 = .ok (.lload_n 3, 1) := by decide +kernel
theorem d2_50 : decode prog_94_method_8_code 50 = .ok (.bipush 33, 2) := by decide +kernel
theorem d2_52 : decode prog_94_method_8_code 52 = .ok (.lushr, 1) := by decide +kernel
theorem d2_53 : decode prog_94_method_8_code 53 = .ok (.lxor, 1) := by decide +kernel
theorem d2_54 : decode prog_94_method_8_code 54 = .ok (.lstore_n 3, 1) := by decide +kernel
theorem d2_55 : decode prog_94_method_8_code 55 = .ok (.lload_n 3, 1) := by decide +kernel
theorem d2_56 : decode prog_94_method_8_code 56 = .ok (.ldc2_w 69, 3) := by decide +kernel
theorem d2_59 : decode prog_94_method_8_code 59 = .ok (.lmul, 1) := by decide +kernel
theorem d2_60 : decode prog_94_method_8_code 60 = .ok (.lstore_n 3, 1) := by decide +kernel
theorem d2_61 : decode prog_94_method_8_code 61 = .ok (.lload_n 3, 1) := by decide +kernel
theorem d2_62 : decode prog_94_method_8_code 62 = .ok (.lload_n 3, 1) := by decide +kernel
theorem d2_63 : decode prog_94_method_8_code 63 = .ok (.bipush 33, 2) := by decide +kernel
theorem d2_65 : decode prog_94_method_8_code 65 = .ok (.lushr, 1) := by decide +kernel
theorem d2_66 : decode prog_94_method_8_code 66 = .ok (.lxor, 1) := by decide +kernel
theorem d2_67 : decode prog_94_method_8_code 67 = .ok (.lstore_n 3, 1) := by decide +kernel
theorem d2_68 : decode prog_94_method_8_code 68 = .ok (.lload_n 3, 1) := by decide +kernel
theorem d2_69 : decode prog_94_method_8_code 69 = .ok (.lreturn, 1) := by decide +kernel
set_option maxRecDepth 65536 in
set_option maxHeartbeats 40000000 in
theorem lp2_7 {p : Program} {l : Launch} {e : Env} {s : State} {m : MethodId} {args : Array Value} {below : List Frame} {meth : Method} {c : Code} {h : Heap} {n0 : Nat} {P : Option Value → Heap → Prop} {Z : State} {a0 : Array Value} (C : Cx p s m meth c prog_94_method_8_code 6 (some .long) "termwright/index/WordFilter" "hash" Z a0 tables_1) (x0 : Addr) (x1 : Int32) (x2 : Int32) (g_x0 : Nat → Int32) (A_x0 : ArI Z h x0 .byte 8 g_x0) (ha : 0 ≤ x1.toInt) (hb : x2.toInt ≤ 8) : ∀ (k : Nat) (x3 : Int64) (x5 : Int32), 0 ≤ x5.toInt → x2.toInt - x5.toInt ≤ k → ∀ T, Hr p l e ({ frames := 0, cells := 0, slots := 0, locals := 0 } : Room) s m args below meth c n0 h 0 0 T → P (some (.long (F2_7 x1 x2 g_x0 k x3 x5))) h → Goes p e below s n0 P 0 0 T (mkF m 7 #[.val (.ref x0), .val (.int x1), .val (.int x2), .val (.long x3), .second, .val (.int x5)] []) := by
  intro k
  induction k with
  | zero =>
    intro x3 x5 h0 hk T X hP
    refine w_iload (pc := 7) X C d2_7 rfl ?_
    refine w_iloadN (pc := 9) X C d2_9 rfl ?_
    refine w_icmp_ge (pc := 10) X C d2_10 35 (by decide) (fun q1 => ?_) (fun q1 => absurd q1 (fun z => absurd (Int32.lt_iff_toInt_lt.mp z) (by omega)))
    refine w_lloadN (pc := 35) X C d2_35 rfl ?_
    refine w_lloadN (pc := 36) X C d2_36 rfl ?_
    refine w_bipush (pc := 37) X C d2_37 (33 : Int32) rfl ?_
    refine w_lushr (pc := 39) X C d2_39 ?_
    refine w_lxor (pc := 40) X C d2_40 ?_
    refine w_lstoreN (pc := 41) X C d2_41 #[.val (.ref x0), .val (.int x1), .val (.int x2), .val (.long (x3 ^^^ (ushrJ x3 (33 : Int32)))), .second, .val (.int x5)] rfl ?_
    refine w_lloadN (pc := 42) X C d2_42 rfl ?_
    refine w_ldcJ (pc := 43) X C d2_43 (v := (-49064778989728563 : Int64)) (List.mem_of_getElem? (i := 13) rfl) ?_
    refine w_lmul (pc := 46) X C d2_46 ?_
    refine w_lstoreN (pc := 47) X C d2_47 #[.val (.ref x0), .val (.int x1), .val (.int x2), .val (.long ((x3 ^^^ (ushrJ x3 (33 : Int32))) * (-49064778989728563 : Int64))), .second, .val (.int x5)] rfl ?_
    refine w_lloadN (pc := 48) X C d2_48 rfl ?_
    refine w_lloadN (pc := 49) X C d2_49 rfl ?_
    refine w_bipush (pc := 50) X C d2_50 (33 : Int32) rfl ?_
    refine w_lushr (pc := 52) X C d2_52 ?_
    refine w_lxor (pc := 53) X C d2_53 ?_
    refine w_lstoreN (pc := 54) X C d2_54 #[.val (.ref x0), .val (.int x1), .val (.int x2), .val (.long (((x3 ^^^ (ushrJ x3 (33 : Int32))) * (-49064778989728563 : Int64)) ^^^ (ushrJ ((x3 ^^^ (ushrJ x3 (33 : Int32))) * (-49064778989728563 : Int64)) (33 : Int32)))), .second, .val (.int x5)] rfl ?_
    refine w_lloadN (pc := 55) X C d2_55 rfl ?_
    refine w_ldcJ (pc := 56) X C d2_56 (v := (-4265267296055464877 : Int64)) (List.mem_of_getElem? (i := 14) rfl) ?_
    refine w_lmul (pc := 59) X C d2_59 ?_
    refine w_lstoreN (pc := 60) X C d2_60 #[.val (.ref x0), .val (.int x1), .val (.int x2), .val (.long ((((x3 ^^^ (ushrJ x3 (33 : Int32))) * (-49064778989728563 : Int64)) ^^^ (ushrJ ((x3 ^^^ (ushrJ x3 (33 : Int32))) * (-49064778989728563 : Int64)) (33 : Int32))) * (-4265267296055464877 : Int64))), .second, .val (.int x5)] rfl ?_
    refine w_lloadN (pc := 61) X C d2_61 rfl ?_
    refine w_lloadN (pc := 62) X C d2_62 rfl ?_
    refine w_bipush (pc := 63) X C d2_63 (33 : Int32) rfl ?_
    refine w_lushr (pc := 65) X C d2_65 ?_
    refine w_lxor (pc := 66) X C d2_66 ?_
    refine w_lstoreN (pc := 67) X C d2_67 #[.val (.ref x0), .val (.int x1), .val (.int x2), .val (.long (((((x3 ^^^ (ushrJ x3 (33 : Int32))) * (-49064778989728563 : Int64)) ^^^ (ushrJ ((x3 ^^^ (ushrJ x3 (33 : Int32))) * (-49064778989728563 : Int64)) (33 : Int32))) * (-4265267296055464877 : Int64)) ^^^ (ushrJ ((((x3 ^^^ (ushrJ x3 (33 : Int32))) * (-49064778989728563 : Int64)) ^^^ (ushrJ ((x3 ^^^ (ushrJ x3 (33 : Int32))) * (-49064778989728563 : Int64)) (33 : Int32))) * (-4265267296055464877 : Int64)) (33 : Int32)))), .second, .val (.int x5)] rfl ?_
    refine w_lloadN (pc := 68) X C d2_68 rfl ?_
    exact w_retJ (pc := 69) X C d2_69 (by rw [F2_7_z] at hP; exact hP)
  | succ k ih =>
    intro x3 x5 h0 hk T X hP
    refine w_iload (pc := 7) X C d2_7 rfl ?_
    refine w_iloadN (pc := 9) X C d2_9 rfl ?_
    refine w_icmp_ge (pc := 10) X C d2_10 35 (by decide) (fun q2 => ?_) (fun q2 => ?_)
    · -- yes
      refine w_lloadN (pc := 35) X C d2_35 rfl ?_
      refine w_lloadN (pc := 36) X C d2_36 rfl ?_
      refine w_bipush (pc := 37) X C d2_37 (33 : Int32) rfl ?_
      refine w_lushr (pc := 39) X C d2_39 ?_
      refine w_lxor (pc := 40) X C d2_40 ?_
      refine w_lstoreN (pc := 41) X C d2_41 #[.val (.ref x0), .val (.int x1), .val (.int x2), .val (.long (x3 ^^^ (ushrJ x3 (33 : Int32)))), .second, .val (.int x5)] rfl ?_
      refine w_lloadN (pc := 42) X C d2_42 rfl ?_
      refine w_ldcJ (pc := 43) X C d2_43 (v := (-49064778989728563 : Int64)) (List.mem_of_getElem? (i := 13) rfl) ?_
      refine w_lmul (pc := 46) X C d2_46 ?_
      refine w_lstoreN (pc := 47) X C d2_47 #[.val (.ref x0), .val (.int x1), .val (.int x2), .val (.long ((x3 ^^^ (ushrJ x3 (33 : Int32))) * (-49064778989728563 : Int64))), .second, .val (.int x5)] rfl ?_
      refine w_lloadN (pc := 48) X C d2_48 rfl ?_
      refine w_lloadN (pc := 49) X C d2_49 rfl ?_
      refine w_bipush (pc := 50) X C d2_50 (33 : Int32) rfl ?_
      refine w_lushr (pc := 52) X C d2_52 ?_
      refine w_lxor (pc := 53) X C d2_53 ?_
      refine w_lstoreN (pc := 54) X C d2_54 #[.val (.ref x0), .val (.int x1), .val (.int x2), .val (.long (((x3 ^^^ (ushrJ x3 (33 : Int32))) * (-49064778989728563 : Int64)) ^^^ (ushrJ ((x3 ^^^ (ushrJ x3 (33 : Int32))) * (-49064778989728563 : Int64)) (33 : Int32)))), .second, .val (.int x5)] rfl ?_
      refine w_lloadN (pc := 55) X C d2_55 rfl ?_
      refine w_ldcJ (pc := 56) X C d2_56 (v := (-4265267296055464877 : Int64)) (List.mem_of_getElem? (i := 14) rfl) ?_
      refine w_lmul (pc := 59) X C d2_59 ?_
      refine w_lstoreN (pc := 60) X C d2_60 #[.val (.ref x0), .val (.int x1), .val (.int x2), .val (.long ((((x3 ^^^ (ushrJ x3 (33 : Int32))) * (-49064778989728563 : Int64)) ^^^ (ushrJ ((x3 ^^^ (ushrJ x3 (33 : Int32))) * (-49064778989728563 : Int64)) (33 : Int32))) * (-4265267296055464877 : Int64))), .second, .val (.int x5)] rfl ?_
      refine w_lloadN (pc := 61) X C d2_61 rfl ?_
      refine w_lloadN (pc := 62) X C d2_62 rfl ?_
      refine w_bipush (pc := 63) X C d2_63 (33 : Int32) rfl ?_
      refine w_lushr (pc := 65) X C d2_65 ?_
      refine w_lxor (pc := 66) X C d2_66 ?_
      refine w_lstoreN (pc := 67) X C d2_67 #[.val (.ref x0), .val (.int x1), .val (.int x2), .val (.long (((((x3 ^^^ (ushrJ x3 (33 : Int32))) * (-49064778989728563 : Int64)) ^^^ (ushrJ ((x3 ^^^ (ushrJ x3 (33 : Int32))) * (-49064778989728563 : Int64)) (33 : Int32))) * (-4265267296055464877 : Int64)) ^^^ (ushrJ ((((x3 ^^^ (ushrJ x3 (33 : Int32))) * (-49064778989728563 : Int64)) ^^^ (ushrJ ((x3 ^^^ (ushrJ x3 (33 : Int32))) * (-49064778989728563 : Int64)) (33 : Int32))) * (-4265267296055464877 : Int64)) (33 : Int32)))), .second, .val (.int x5)] rfl ?_
      refine w_lloadN (pc := 68) X C d2_68 rfl ?_
      exact w_retJ (pc := 69) X C d2_69 (by rw [F2_7_s, if_neg q2] at hP; exact hP)
    · -- no
      refine w_lloadN (pc := 13) X C d2_13 rfl ?_
      refine w_aloadN (pc := 14) X C d2_14 rfl rfl ?_
      refine w_iload (pc := 15) X C d2_15 rfl ?_
      have lq2_17 := Int32.lt_iff_toInt_lt.mp q2
      have b_3 : 0 ≤ (x5).toInt ∧ (x5).toInt < 8 := by omega
      refine w_baload (pc := 17) X C d2_17 A_x0 (nt x5) (nt_eq b_3.1) (nt_lt b_3.2 (by omega)) ?_
      refine w_sipush (pc := 18) X C d2_18 (255 : Int32) rfl ?_
      refine w_iand (pc := 21) X C d2_21 ?_
      refine w_i2l (pc := 22) X C d2_22 ?_
      refine w_lxor (pc := 23) X C d2_23 ?_
      refine w_ldcJ (pc := 24) X C d2_24 (v := (1099511628211 : Int64)) (List.mem_of_getElem? (i := 12) rfl) ?_
      refine w_lmul (pc := 27) X C d2_27 ?_
      refine w_lstoreN (pc := 28) X C d2_28 #[.val (.ref x0), .val (.int x1), .val (.int x2), .val (.long ((x3 ^^^ (((g_x0 (nt x5)) &&& (255 : Int32))).toInt64) * (1099511628211 : Int64))), .second, .val (.int x5)] rfl ?_
      refine w_iinc (pc := 29) X C d2_29 (1 : Int32) rfl rfl #[.val (.ref x0), .val (.int x1), .val (.int x2), .val (.long ((x3 ^^^ (((g_x0 (nt x5)) &&& (255 : Int32))).toInt64) * (1099511628211 : Int64))), .second, .val (.int (x5 + (1 : Int32)))] rfl ?_
      refine w_goto (pc := 32) X C d2_32 7 (by decide) ?_
      have lq_n := Int32.lt_iff_toInt_lt.mp q2
      have e1 : (x5 + (1 : Int32)).toInt = x5.toInt + 1 := add1 _ 1 rfl (by omega) (by omega)
      exact ih (((x3 ^^^ (((g_x0 (nt x5)) &&& (255 : Int32))).toInt64) * (1099511628211 : Int64))) ((x5 + (1 : Int32))) (by omega) (by omega) _ X (by rw [F2_7_s, if_pos q2] at hP; exact hP)
set_option maxRecDepth 65536 in
set_option maxHeartbeats 4000000 in
theorem b2_0 {p : Program} {l : Launch} {e : Env} {s : State} {m : MethodId} {args : Array Value} {below : List Frame} {meth : Method} {c : Code} {T : State} {h : Heap} {n0 : Nat} {P : Option Value → Heap → Prop} {Z : State} {a0 : Array Value} (X : Hr p l e ({ frames := 0, cells := 0, slots := 0, locals := 0 } : Room) s m args below meth c n0 h 0 0 T) (C : Cx p s m meth c prog_94_method_8_code 6 (some .long) "termwright/index/WordFilter" "hash" Z a0 tables_1) (x0 : Addr) (x1 : Int32) (x2 : Int32) (g_x0 : Nat → Int32) (A_x0 : ArI Z h x0 .byte 8 g_x0) (ha : 0 ≤ x1.toInt) (hb : x2.toInt ≤ 8) (hP : P (some (.long (f2 x1 x2 g_x0))) h) : Goes p e below s n0 P 0 0 T (mkF m 0 #[.val (.ref x0), .val (.int x1), .val (.int x2), .unset, .unset, .unset] []) := by
  refine w_ldcJ (pc := 0) X C d2_0 (v := (-3750763034362895579 : Int64)) (List.mem_of_getElem? (i := 11) rfl) ?_
  refine w_lstoreN (pc := 3) X C d2_3 #[.val (.ref x0), .val (.int x1), .val (.int x2), .val (.long (-3750763034362895579 : Int64)), .second, .unset] rfl ?_
  refine w_iloadN (pc := 4) X C d2_4 rfl ?_
  refine w_istore (pc := 5) X C d2_5 #[.val (.ref x0), .val (.int x1), .val (.int x2), .val (.long (-3750763034362895579 : Int64)), .second, .val (.int x1)] rfl ?_
  exact lp2_7 C (x0) (x1) (x2) g_x0 A_x0 ha hb 8 ((-3750763034362895579 : Int64)) (x1) ha (by omega) _ X (by unfold f2 at hP; exact hP)
theorem ct2 (l : Launch) {Z : State} {a0 : Array Value} (hw : ∀ d ∈ tables_1, d.before a0 Z = true) (h : Heap) {n0 : Nat} (hn : n0 ≤ h.size) (x0 : Addr) (x1 : Int32) (x2 : Int32) (g_x0 : Nat → Int32) (A_x0 : ArI Z h x0 .byte 8 g_x0) (ha : 0 ≤ x1.toInt) (hb : x2.toInt ≤ 8) : Ct l (⟨"termwright/index/WordFilter", "hash", "([BII)J"⟩ : MethodName) prog_94_method_8_code 6 (some .long) ({ frames := 0, cells := 0, slots := 0, locals := 0 } : Room) Z #[(.ref x0), (.int x1), (.int x2)] h n0 (fun v h' => v = some (.long (f2 x1 x2 g_x0)) ∧ h' = h) :=
  Ct.of (plainFor_of_name pn_1) #[.val (.ref x0), .val (.int x1), .val (.int x2), .unset, .unset, .unset] (fun m => by first | (simp [entryFrame, mkF, argsToLocals, Value.category]; done) | rfl) hw hn (fun p e s m below meth c T C X => b2_0 X C x0 x1 x2 g_x0 A_x0 ha hb ⟨rfl, rfl⟩)
theorem own_m5 (x : Int32) : 0 ≤ ((x &&& (7 : Int32)) % (5 : Int32)).toInt ∧ ((x &&& (7 : Int32)) % (5 : Int32)).toInt ≤ 4 := by
  have h0 := c_and x (7 : Int32) (by decide)
  have h1 := (c_irem (x &&& (7 : Int32)) (5 : Int32) 5 rfl).1 h0.1
  omega
theorem own_m3 (x : Int32) : 0 ≤ (x &&& (3 : Int32)).toInt ∧ (x &&& (3 : Int32)).toInt ≤ 3 := c_and x (3 : Int32) (by decide)
theorem own_m255 (x : Int32) : 0 ≤ (x &&& (255 : Int32)).toInt ∧ (x &&& (255 : Int32)).toInt ≤ 255 := c_and x (255 : Int32) (by decide)
theorem own_add (o n : Int32) (h1 : 0 ≤ o.toInt) (h2 : o.toInt ≤ 3) (h3 : 0 ≤ n.toInt) (h4 : n.toInt ≤ 4) : (o + n).toInt = o.toInt + n.toInt := add1 n n.toInt rfl (by omega) (by omega)
theorem own_tr0_1 {n : Int32} (h : (1 : Int32) < n) : (0 : Int32) < n := by
  rw [Int32.lt_iff_toInt_lt] at *
  have e1 : (0 : Int32).toInt = 0 := rfl
  have e2 : (1 : Int32).toInt = 1 := rfl
  omega
theorem own_tr0_2 {n : Int32} (h : (2 : Int32) < n) : (0 : Int32) < n := by
  rw [Int32.lt_iff_toInt_lt] at *
  have e1 : (0 : Int32).toInt = 0 := rfl
  have e2 : (2 : Int32).toInt = 2 := rfl
  omega
theorem own_tr0_3 {n : Int32} (h : (3 : Int32) < n) : (0 : Int32) < n := by
  rw [Int32.lt_iff_toInt_lt] at *
  have e1 : (0 : Int32).toInt = 0 := rfl
  have e2 : (3 : Int32).toInt = 3 := rfl
  omega
theorem own_tr1_2 {n : Int32} (h : (2 : Int32) < n) : (1 : Int32) < n := by
  rw [Int32.lt_iff_toInt_lt] at *
  have e1 : (1 : Int32).toInt = 1 := rfl
  have e2 : (2 : Int32).toInt = 2 := rfl
  omega
theorem own_tr1_3 {n : Int32} (h : (3 : Int32) < n) : (1 : Int32) < n := by
  rw [Int32.lt_iff_toInt_lt] at *
  have e1 : (1 : Int32).toInt = 1 := rfl
  have e2 : (3 : Int32).toInt = 3 := rfl
  omega
theorem own_tr2_3 {n : Int32} (h : (3 : Int32) < n) : (2 : Int32) < n := by
  rw [Int32.lt_iff_toInt_lt] at *
  have e1 : (2 : Int32).toInt = 2 := rfl
  have e2 : (3 : Int32).toInt = 3 := rfl
  omega
theorem own_byte (v : Int32) (h : 0 ≤ v.toInt ∧ v.toInt ≤ 255) : (i8 v &&& (255 : Int32)) = v := by
  apply Int32.toInt_inj.mp
  rw [Jvm.Kit.i32_mask (i8 v) 255 (k := 8) (by decide) (by decide)]
  have e : (i8 v).toInt = v.toInt.bmod (2 ^ 8) := by
    unfold i8
    rw [Int8.toInt_toInt32, Int32.toInt_toInt8]
  rw [e]
  have := Int.bmod_emod (x := v.toInt) (m := 2 ^ 8)
  omega
theorem own_end (fr to : Int32) (g : Nat → Int32) (k : Nat) (H : Int64) (i : Int32) (h : ¬ (i < to)) : F2_7 fr to g k H i = f3 H := by
  cases k with
  | zero => rw [F2_7_z]; rfl
  | succ k => rw [F2_7_s, if_neg h]; rfl
theorem own_step (fr to : Int32) (g : Nat → Int32) (k : Nat) (H : Int64) (i v : Int32) (h : i < to) (hv : 0 ≤ v.toInt ∧ v.toInt ≤ 255) (hg : g (nt i) = i8 v) : F2_7 fr to g (k + 1) H i = F2_7 fr to g k (f1 H v) (i + 1) := by
  rw [F2_7_s, if_pos h, hg, own_byte v hv]
  rfl
theorem own_i8 (v : Int32) : i8 (i8 v) = i8 v := by
  unfold i8; simp
theorem own_assoc (o a b c : Int32) (h : a + b = c) : o + a + b = o + c := by rw [Int32.add_assoc, h]
theorem own_fin0 (o n : Int32)  {g0 : Nat → Int32} (ho0 : 0 ≤ o.toInt) (ho3 : o.toInt ≤ 3) (hn0 : 0 ≤ n.toInt) (hn4 : n.toInt ≤ 4)    (q0 : ¬ ((0 : Int32) < n)) : f2 o (o + n) g0 = f3 (-3750763034362895579 : Int64) := by
  have en : n.toInt = 0 := by
    have e0 : (0 : Int32).toInt = 0 := rfl
    have e1 : (1 : Int32).toInt = 1 := rfl
    have e2 : (2 : Int32).toInt = 2 := rfl
    have e3 : (3 : Int32).toInt = 3 := rfl
    have e4 : (4 : Int32).toInt = 4 := rfl
    simp only [Int32.lt_iff_toInt_lt] at *
    omega
  have ea := own_add o n ho0 ho3 hn0 hn4
  unfold f2
  rw [own_end _ _ _ _ _ _ (by rw [Int32.lt_iff_toInt_lt]; omega)]
theorem own_fin1 (o n : Int32) (v0 : Int32) {g0 g1 : Nat → Int32} (ho0 : 0 ≤ o.toInt) (ho3 : o.toInt ≤ 3) (hn0 : 0 ≤ n.toInt) (hn4 : n.toInt ≤ 4) (hv0 : 0 ≤ v0.toInt ∧ v0.toInt ≤ 255) (hg0 : g1 = up g0 (nt o) (i8 (i8 v0))) (q0 : (0 : Int32) < n) (q1 : ¬ ((1 : Int32) < n)) : f2 o (o + n) g1 = f3 (f1 (-3750763034362895579 : Int64) v0) := by
  have en : n.toInt = 1 := by
    have e0 : (0 : Int32).toInt = 0 := rfl
    have e1 : (1 : Int32).toInt = 1 := rfl
    have e2 : (2 : Int32).toInt = 2 := rfl
    have e3 : (3 : Int32).toInt = 3 := rfl
    have e4 : (4 : Int32).toInt = 4 := rfl
    simp only [Int32.lt_iff_toInt_lt] at *
    omega
  have ea := own_add o n ho0 ho3 hn0 hn4
  have a1 : (o + (1 : Int32)).toInt = o.toInt + 1 := add1 (1 : Int32) 1 rfl (by omega) (by omega)
  have k0 : g1 (nt o) = i8 v0 := by
    simp only [hg0, up, nt, if_true]
    try simp only [a1, if_true]
    repeat' split
    all_goals first | exact own_i8 _ | (exfalso; omega) | (exfalso; simp_all; done)
  unfold f2
  rw [own_step _ _ _ _ _ o v0 (by rw [Int32.lt_iff_toInt_lt]; omega) hv0 k0]
  rw [own_end _ _ _ _ _ _ (by rw [Int32.lt_iff_toInt_lt]; omega)]
theorem own_fin2 (o n : Int32) (v0 v1 : Int32) {g0 g1 g2 : Nat → Int32} (ho0 : 0 ≤ o.toInt) (ho3 : o.toInt ≤ 3) (hn0 : 0 ≤ n.toInt) (hn4 : n.toInt ≤ 4) (hv0 : 0 ≤ v0.toInt ∧ v0.toInt ≤ 255) (hv1 : 0 ≤ v1.toInt ∧ v1.toInt ≤ 255) (hg0 : g1 = up g0 (nt o) (i8 (i8 v0))) (hg1 : g2 = up g1 (nt (o + (1 : Int32))) (i8 (i8 v1))) (q0 : (0 : Int32) < n) (q1 : (1 : Int32) < n) (q2 : ¬ ((2 : Int32) < n)) : f2 o (o + n) g2 = f3 (f1 (f1 (-3750763034362895579 : Int64) v0) v1) := by
  have en : n.toInt = 2 := by
    have e0 : (0 : Int32).toInt = 0 := rfl
    have e1 : (1 : Int32).toInt = 1 := rfl
    have e2 : (2 : Int32).toInt = 2 := rfl
    have e3 : (3 : Int32).toInt = 3 := rfl
    have e4 : (4 : Int32).toInt = 4 := rfl
    simp only [Int32.lt_iff_toInt_lt] at *
    omega
  have ea := own_add o n ho0 ho3 hn0 hn4
  have a1 : (o + (1 : Int32)).toInt = o.toInt + 1 := add1 (1 : Int32) 1 rfl (by omega) (by omega)
  have a2 : (o + (2 : Int32)).toInt = o.toInt + 2 := add1 (2 : Int32) 2 rfl (by omega) (by omega)
  have k0 : g2 (nt o) = i8 v0 := by
    simp only [hg1, hg0, up, nt, if_true]
    try simp only [a1, a2, if_true]
    repeat' split
    all_goals first | exact own_i8 _ | (exfalso; omega) | (exfalso; simp_all; done)
  have k1 : g2 (nt (o + (1 : Int32))) = i8 v1 := by
    simp only [hg1, hg0, up, nt, if_true]
    try simp only [a1, a2, if_true]
    repeat' split
    all_goals first | exact own_i8 _ | (exfalso; omega) | (exfalso; simp_all; done)
  unfold f2
  rw [own_step _ _ _ _ _ o v0 (by rw [Int32.lt_iff_toInt_lt]; omega) hv0 k0]
  rw [own_step _ _ _ _ _ (o + (1 : Int32)) v1 (by rw [Int32.lt_iff_toInt_lt]; omega) hv1 k1]
  rw [show (o + (1 : Int32)) + 1 = o + (2 : Int32) from own_assoc o 1 1 2 rfl]
  rw [own_end _ _ _ _ _ _ (by rw [Int32.lt_iff_toInt_lt]; omega)]
theorem own_fin3 (o n : Int32) (v0 v1 v2 : Int32) {g0 g1 g2 g3 : Nat → Int32} (ho0 : 0 ≤ o.toInt) (ho3 : o.toInt ≤ 3) (hn0 : 0 ≤ n.toInt) (hn4 : n.toInt ≤ 4) (hv0 : 0 ≤ v0.toInt ∧ v0.toInt ≤ 255) (hv1 : 0 ≤ v1.toInt ∧ v1.toInt ≤ 255) (hv2 : 0 ≤ v2.toInt ∧ v2.toInt ≤ 255) (hg0 : g1 = up g0 (nt o) (i8 (i8 v0))) (hg1 : g2 = up g1 (nt (o + (1 : Int32))) (i8 (i8 v1))) (hg2 : g3 = up g2 (nt (o + (2 : Int32))) (i8 (i8 v2))) (q0 : (0 : Int32) < n) (q1 : (1 : Int32) < n) (q2 : (2 : Int32) < n) (q3 : ¬ ((3 : Int32) < n)) : f2 o (o + n) g3 = f3 (f1 (f1 (f1 (-3750763034362895579 : Int64) v0) v1) v2) := by
  have en : n.toInt = 3 := by
    have e0 : (0 : Int32).toInt = 0 := rfl
    have e1 : (1 : Int32).toInt = 1 := rfl
    have e2 : (2 : Int32).toInt = 2 := rfl
    have e3 : (3 : Int32).toInt = 3 := rfl
    have e4 : (4 : Int32).toInt = 4 := rfl
    simp only [Int32.lt_iff_toInt_lt] at *
    omega
  have ea := own_add o n ho0 ho3 hn0 hn4
  have a1 : (o + (1 : Int32)).toInt = o.toInt + 1 := add1 (1 : Int32) 1 rfl (by omega) (by omega)
  have a2 : (o + (2 : Int32)).toInt = o.toInt + 2 := add1 (2 : Int32) 2 rfl (by omega) (by omega)
  have a3 : (o + (3 : Int32)).toInt = o.toInt + 3 := add1 (3 : Int32) 3 rfl (by omega) (by omega)
  have k0 : g3 (nt o) = i8 v0 := by
    simp only [hg2, hg1, hg0, up, nt, if_true]
    try simp only [a1, a2, a3, if_true]
    repeat' split
    all_goals first | exact own_i8 _ | (exfalso; omega) | (exfalso; simp_all; done)
  have k1 : g3 (nt (o + (1 : Int32))) = i8 v1 := by
    simp only [hg2, hg1, hg0, up, nt, if_true]
    try simp only [a1, a2, a3, if_true]
    repeat' split
    all_goals first | exact own_i8 _ | (exfalso; omega) | (exfalso; simp_all; done)
  have k2 : g3 (nt (o + (2 : Int32))) = i8 v2 := by
    simp only [hg2, hg1, hg0, up, nt, if_true]
    try simp only [a1, a2, a3, if_true]
    repeat' split
    all_goals first | exact own_i8 _ | (exfalso; omega) | (exfalso; simp_all; done)
  unfold f2
  rw [own_step _ _ _ _ _ o v0 (by rw [Int32.lt_iff_toInt_lt]; omega) hv0 k0]
  rw [own_step _ _ _ _ _ (o + (1 : Int32)) v1 (by rw [Int32.lt_iff_toInt_lt]; omega) hv1 k1]
  rw [show (o + (1 : Int32)) + 1 = o + (2 : Int32) from own_assoc o 1 1 2 rfl]
  rw [own_step _ _ _ _ _ (o + (2 : Int32)) v2 (by rw [Int32.lt_iff_toInt_lt]; omega) hv2 k2]
  rw [show (o + (2 : Int32)) + 1 = o + (3 : Int32) from own_assoc o 2 1 3 rfl]
  rw [own_end _ _ _ _ _ _ (by rw [Int32.lt_iff_toInt_lt]; omega)]
theorem own_fin4 (o n : Int32) (v0 v1 v2 v3 : Int32) {g0 g1 g2 g3 g4 : Nat → Int32} (ho0 : 0 ≤ o.toInt) (ho3 : o.toInt ≤ 3) (hn0 : 0 ≤ n.toInt) (hn4 : n.toInt ≤ 4) (hv0 : 0 ≤ v0.toInt ∧ v0.toInt ≤ 255) (hv1 : 0 ≤ v1.toInt ∧ v1.toInt ≤ 255) (hv2 : 0 ≤ v2.toInt ∧ v2.toInt ≤ 255) (hv3 : 0 ≤ v3.toInt ∧ v3.toInt ≤ 255) (hg0 : g1 = up g0 (nt o) (i8 (i8 v0))) (hg1 : g2 = up g1 (nt (o + (1 : Int32))) (i8 (i8 v1))) (hg2 : g3 = up g2 (nt (o + (2 : Int32))) (i8 (i8 v2))) (hg3 : g4 = up g3 (nt (o + (3 : Int32))) (i8 (i8 v3))) (q0 : (0 : Int32) < n) (q1 : (1 : Int32) < n) (q2 : (2 : Int32) < n) (q3 : (3 : Int32) < n) : f2 o (o + n) g4 = f3 (f1 (f1 (f1 (f1 (-3750763034362895579 : Int64) v0) v1) v2) v3) := by
  have en : n.toInt = 4 := by
    have e0 : (0 : Int32).toInt = 0 := rfl
    have e1 : (1 : Int32).toInt = 1 := rfl
    have e2 : (2 : Int32).toInt = 2 := rfl
    have e3 : (3 : Int32).toInt = 3 := rfl
    have e4 : (4 : Int32).toInt = 4 := rfl
    simp only [Int32.lt_iff_toInt_lt] at *
    omega
  have ea := own_add o n ho0 ho3 hn0 hn4
  have a1 : (o + (1 : Int32)).toInt = o.toInt + 1 := add1 (1 : Int32) 1 rfl (by omega) (by omega)
  have a2 : (o + (2 : Int32)).toInt = o.toInt + 2 := add1 (2 : Int32) 2 rfl (by omega) (by omega)
  have a3 : (o + (3 : Int32)).toInt = o.toInt + 3 := add1 (3 : Int32) 3 rfl (by omega) (by omega)
  have a4 : (o + (4 : Int32)).toInt = o.toInt + 4 := add1 (4 : Int32) 4 rfl (by omega) (by omega)
  have k0 : g4 (nt o) = i8 v0 := by
    simp only [hg3, hg2, hg1, hg0, up, nt, if_true]
    try simp only [a1, a2, a3, a4, if_true]
    repeat' split
    all_goals first | exact own_i8 _ | (exfalso; omega) | (exfalso; simp_all; done)
  have k1 : g4 (nt (o + (1 : Int32))) = i8 v1 := by
    simp only [hg3, hg2, hg1, hg0, up, nt, if_true]
    try simp only [a1, a2, a3, a4, if_true]
    repeat' split
    all_goals first | exact own_i8 _ | (exfalso; omega) | (exfalso; simp_all; done)
  have k2 : g4 (nt (o + (2 : Int32))) = i8 v2 := by
    simp only [hg3, hg2, hg1, hg0, up, nt, if_true]
    try simp only [a1, a2, a3, a4, if_true]
    repeat' split
    all_goals first | exact own_i8 _ | (exfalso; omega) | (exfalso; simp_all; done)
  have k3 : g4 (nt (o + (3 : Int32))) = i8 v3 := by
    simp only [hg3, hg2, hg1, hg0, up, nt, if_true]
    try simp only [a1, a2, a3, a4, if_true]
    repeat' split
    all_goals first | exact own_i8 _ | (exfalso; omega) | (exfalso; simp_all; done)
  unfold f2
  rw [own_step _ _ _ _ _ o v0 (by rw [Int32.lt_iff_toInt_lt]; omega) hv0 k0]
  rw [own_step _ _ _ _ _ (o + (1 : Int32)) v1 (by rw [Int32.lt_iff_toInt_lt]; omega) hv1 k1]
  rw [show (o + (1 : Int32)) + 1 = o + (2 : Int32) from own_assoc o 1 1 2 rfl]
  rw [own_step _ _ _ _ _ (o + (2 : Int32)) v2 (by rw [Int32.lt_iff_toInt_lt]; omega) hv2 k2]
  rw [show (o + (2 : Int32)) + 1 = o + (3 : Int32) from own_assoc o 2 1 3 rfl]
  rw [own_step _ _ _ _ _ (o + (3 : Int32)) v3 (by rw [Int32.lt_iff_toInt_lt]; omega) hv3 k3]
  rw [show (o + (3 : Int32)) + 1 = o + (4 : Int32) from own_assoc o 3 1 4 rfl]
  rw [own_end _ _ _ _ _ _ (by rw [Int32.lt_iff_toInt_lt]; omega)]
set_option maxRecDepth 65536 in
set_option maxHeartbeats 40000000 in
theorem law_walk {p : Program} {l : Launch} {e : Env} {s : State} {m : MethodId} {args : Array Value} {below : List Frame} {meth : Method} {c : Code} {T : State} {h : Heap} {n0 : Nat} {Z : State} {a0 : Array Value} (X : Hr p l e room_1 s m args below meth c n0 h 0 0 T) (C : Cx p s m meth c code maxLocals ret "termwright/index/WordFilterHashPinLaw" "law" Z a0 tables_1) (x0 : Int32) (x1 : Int64) (x2 : Int32) : Goes p e below s n0 (fun v _ => v = some (.int 1)) room_1.cells room_1.slots T (mkF m 0 #[.val (.int x0), .val (.long x1), .second, .val (.int x2), .unset, .unset, .unset, .unset, .unset, .unset, .unset, .unset, .unset] []) := by
  refine w_iloadN (pc := 0) X C at_0 rfl ?_
  refine w_bipush (pc := 1) X C at_1 (7 : Int32) rfl ?_
  refine w_iand (pc := 3) X C at_3 ?_
  refine w_iconst (pc := 4) X C at_4 (5 : Int32) rfl ?_
  refine w_irem (pc := 5) X C at_5 (by decide) ?_
  obtain ⟨n, e_n⟩ : ∃ z, z = ((x2 &&& (7 : Int32)) % (5 : Int32)) := ⟨_, rfl⟩
  rw [← e_n]
  have hn0 : 0 ≤ n.toInt := by rw [e_n]; exact (own_m5 x2).1
  have hn4 : n.toInt ≤ 4 := by rw [e_n]; exact (own_m5 x2).2
  refine w_istore (pc := 6) X C at_6 #[.val (.int x0), .val (.long x1), .second, .val (.int x2), .val (.int n), .unset, .unset, .unset, .unset, .unset, .unset, .unset, .unset] rfl ?_
  refine w_iloadN (pc := 8) X C at_8 rfl ?_
  refine w_iconst (pc := 9) X C at_9 (3 : Int32) rfl ?_
  refine w_iushr (pc := 10) X C at_10 ?_
  refine w_iconst (pc := 11) X C at_11 (3 : Int32) rfl ?_
  refine w_iand (pc := 12) X C at_12 ?_
  obtain ⟨o, e_o⟩ : ∃ z, z = ((ushrI x2 (3 : Int32)) &&& (3 : Int32)) := ⟨_, rfl⟩
  rw [← e_o]
  have ho0 : 0 ≤ o.toInt := by rw [e_o]; exact (own_m3 _).1
  have ho3 : o.toInt ≤ 3 := by rw [e_o]; exact (own_m3 _).2
  refine w_istore (pc := 13) X C at_13 #[.val (.int x0), .val (.long x1), .second, .val (.int x2), .val (.int n), .val (.int o), .unset, .unset, .unset, .unset, .unset, .unset, .unset] rfl ?_
  refine w_bipush (pc := 15) X C at_15 (8 : Int32) rfl ?_
  refine w_new_byte (pc := 17) X C at_17 (List.mem_of_getElem? (i := 0) rfl) 8 rfl 8 (by decide) (by decide) (by decide) (by decide) (fun T1 h1 a1 ha1 hb1 X1 E1 A1 => ?_)
  refine w_astore (pc := 19) X1 C at_19 #[.val (.int x0), .val (.long x1), .second, .val (.int x2), .val (.int n), .val (.int o), .val (.ref a1), .unset, .unset, .unset, .unset, .unset, .unset] rfl rfl ?_
  refine w_aload (pc := 21) X1 C at_21 rfl rfl ?_
  refine w_iconst (pc := 23) X1 C at_23 (0 : Int32) rfl ?_
  refine w_lloadN (pc := 24) X1 C at_24 rfl ?_
  refine w_l2i (pc := 25) X1 C at_25 ?_
  refine w_i2b (pc := 26) X1 C at_26 ?_
  refine w_bastore (pc := 27) X1 C at_27 A1 0 rfl (by decide) hb1 (fun T2 h2 X2 W2 A2 => ?_)
  obtain ⟨g2, hg2⟩ : ∃ z, z = up (fun _ => 0) 0 (i8 (i8 (x1).toInt32)) := ⟨_, rfl⟩
  rw [← hg2] at A2
  refine w_aload (pc := 28) X2 C at_28 rfl rfl ?_
  refine w_iconst (pc := 30) X2 C at_30 (1 : Int32) rfl ?_
  refine w_lloadN (pc := 31) X2 C at_31 rfl ?_
  refine w_bipush (pc := 32) X2 C at_32 (8 : Int32) rfl ?_
  refine w_lushr (pc := 34) X2 C at_34 ?_
  refine w_l2i (pc := 35) X2 C at_35 ?_
  refine w_i2b (pc := 36) X2 C at_36 ?_
  refine w_bastore (pc := 37) X2 C at_37 A2 1 rfl (by decide) hb1 (fun T3 h3 X3 W3 A3 => ?_)
  obtain ⟨g3, hg3⟩ : ∃ z, z = up g2 1 (i8 (i8 ((ushrJ x1 (8 : Int32))).toInt32)) := ⟨_, rfl⟩
  rw [← hg3] at A3
  refine w_aload (pc := 38) X3 C at_38 rfl rfl ?_
  refine w_iconst (pc := 40) X3 C at_40 (2 : Int32) rfl ?_
  refine w_lloadN (pc := 41) X3 C at_41 rfl ?_
  refine w_bipush (pc := 42) X3 C at_42 (16 : Int32) rfl ?_
  refine w_lushr (pc := 44) X3 C at_44 ?_
  refine w_l2i (pc := 45) X3 C at_45 ?_
  refine w_i2b (pc := 46) X3 C at_46 ?_
  refine w_bastore (pc := 47) X3 C at_47 A3 2 rfl (by decide) hb1 (fun T4 h4 X4 W4 A4 => ?_)
  obtain ⟨g4, hg4⟩ : ∃ z, z = up g3 2 (i8 (i8 ((ushrJ x1 (16 : Int32))).toInt32)) := ⟨_, rfl⟩
  rw [← hg4] at A4
  refine w_aload (pc := 48) X4 C at_48 rfl rfl ?_
  refine w_iconst (pc := 50) X4 C at_50 (3 : Int32) rfl ?_
  refine w_lloadN (pc := 51) X4 C at_51 rfl ?_
  refine w_bipush (pc := 52) X4 C at_52 (24 : Int32) rfl ?_
  refine w_lushr (pc := 54) X4 C at_54 ?_
  refine w_l2i (pc := 55) X4 C at_55 ?_
  refine w_i2b (pc := 56) X4 C at_56 ?_
  refine w_bastore (pc := 57) X4 C at_57 A4 3 rfl (by decide) hb1 (fun T5 h5 X5 W5 A5 => ?_)
  obtain ⟨g5, hg5⟩ : ∃ z, z = up g4 3 (i8 (i8 ((ushrJ x1 (24 : Int32))).toInt32)) := ⟨_, rfl⟩
  rw [← hg5] at A5
  refine w_aload (pc := 58) X5 C at_58 rfl rfl ?_
  refine w_iconst (pc := 60) X5 C at_60 (4 : Int32) rfl ?_
  refine w_lloadN (pc := 61) X5 C at_61 rfl ?_
  refine w_bipush (pc := 62) X5 C at_62 (32 : Int32) rfl ?_
  refine w_lushr (pc := 64) X5 C at_64 ?_
  refine w_l2i (pc := 65) X5 C at_65 ?_
  refine w_i2b (pc := 66) X5 C at_66 ?_
  refine w_bastore (pc := 67) X5 C at_67 A5 4 rfl (by decide) hb1 (fun T6 h6 X6 W6 A6 => ?_)
  obtain ⟨g6, hg6⟩ : ∃ z, z = up g5 4 (i8 (i8 ((ushrJ x1 (32 : Int32))).toInt32)) := ⟨_, rfl⟩
  rw [← hg6] at A6
  refine w_aload (pc := 68) X6 C at_68 rfl rfl ?_
  refine w_iconst (pc := 70) X6 C at_70 (5 : Int32) rfl ?_
  refine w_lloadN (pc := 71) X6 C at_71 rfl ?_
  refine w_bipush (pc := 72) X6 C at_72 (40 : Int32) rfl ?_
  refine w_lushr (pc := 74) X6 C at_74 ?_
  refine w_l2i (pc := 75) X6 C at_75 ?_
  refine w_i2b (pc := 76) X6 C at_76 ?_
  refine w_bastore (pc := 77) X6 C at_77 A6 5 rfl (by decide) hb1 (fun T7 h7 X7 W7 A7 => ?_)
  obtain ⟨g7, hg7⟩ : ∃ z, z = up g6 5 (i8 (i8 ((ushrJ x1 (40 : Int32))).toInt32)) := ⟨_, rfl⟩
  rw [← hg7] at A7
  refine w_aload (pc := 78) X7 C at_78 rfl rfl ?_
  refine w_bipush (pc := 80) X7 C at_80 (6 : Int32) rfl ?_
  refine w_lloadN (pc := 82) X7 C at_82 rfl ?_
  refine w_bipush (pc := 83) X7 C at_83 (48 : Int32) rfl ?_
  refine w_lushr (pc := 85) X7 C at_85 ?_
  refine w_l2i (pc := 86) X7 C at_86 ?_
  refine w_i2b (pc := 87) X7 C at_87 ?_
  refine w_bastore (pc := 88) X7 C at_88 A7 6 rfl (by decide) hb1 (fun T8 h8 X8 W8 A8 => ?_)
  obtain ⟨g8, hg8⟩ : ∃ z, z = up g7 6 (i8 (i8 ((ushrJ x1 (48 : Int32))).toInt32)) := ⟨_, rfl⟩
  rw [← hg8] at A8
  refine w_aload (pc := 89) X8 C at_89 rfl rfl ?_
  refine w_bipush (pc := 91) X8 C at_91 (7 : Int32) rfl ?_
  refine w_lloadN (pc := 93) X8 C at_93 rfl ?_
  refine w_bipush (pc := 94) X8 C at_94 (56 : Int32) rfl ?_
  refine w_lushr (pc := 96) X8 C at_96 ?_
  refine w_l2i (pc := 97) X8 C at_97 ?_
  refine w_i2b (pc := 98) X8 C at_98 ?_
  refine w_bastore (pc := 99) X8 C at_99 A8 7 rfl (by decide) hb1 (fun T9 h9 X9 W9 A9 => ?_)
  obtain ⟨g9, hg9⟩ : ∃ z, z = up g8 7 (i8 (i8 ((ushrJ x1 (56 : Int32))).toInt32)) := ⟨_, rfl⟩
  rw [← hg9] at A9
  refine w_iloadN (pc := 100) X9 C at_100 rfl ?_
  refine w_sipush (pc := 101) X9 C at_101 (255 : Int32) rfl ?_
  refine w_iand (pc := 104) X9 C at_104 ?_
  obtain ⟨v0, e_v0⟩ : ∃ z, z = (x0 &&& (255 : Int32)) := ⟨_, rfl⟩
  rw [← e_v0]
  have hv0 : 0 ≤ v0.toInt ∧ v0.toInt ≤ 255 := by rw [e_v0]; exact own_m255 _
  refine w_istore (pc := 105) X9 C at_105 #[.val (.int x0), .val (.long x1), .second, .val (.int x2), .val (.int n), .val (.int o), .val (.ref a1), .val (.int v0), .unset, .unset, .unset, .unset, .unset] rfl ?_
  refine w_iloadN (pc := 107) X9 C at_107 rfl ?_
  refine w_bipush (pc := 108) X9 C at_108 (8 : Int32) rfl ?_
  refine w_iushr (pc := 110) X9 C at_110 ?_
  refine w_sipush (pc := 111) X9 C at_111 (255 : Int32) rfl ?_
  refine w_iand (pc := 114) X9 C at_114 ?_
  obtain ⟨v1, e_v1⟩ : ∃ z, z = ((ushrI x0 (8 : Int32)) &&& (255 : Int32)) := ⟨_, rfl⟩
  rw [← e_v1]
  have hv1 : 0 ≤ v1.toInt ∧ v1.toInt ≤ 255 := by rw [e_v1]; exact own_m255 _
  refine w_istore (pc := 115) X9 C at_115 #[.val (.int x0), .val (.long x1), .second, .val (.int x2), .val (.int n), .val (.int o), .val (.ref a1), .val (.int v0), .val (.int v1), .unset, .unset, .unset, .unset] rfl ?_
  refine w_iloadN (pc := 117) X9 C at_117 rfl ?_
  refine w_bipush (pc := 118) X9 C at_118 (16 : Int32) rfl ?_
  refine w_iushr (pc := 120) X9 C at_120 ?_
  refine w_sipush (pc := 121) X9 C at_121 (255 : Int32) rfl ?_
  refine w_iand (pc := 124) X9 C at_124 ?_
  obtain ⟨v2, e_v2⟩ : ∃ z, z = ((ushrI x0 (16 : Int32)) &&& (255 : Int32)) := ⟨_, rfl⟩
  rw [← e_v2]
  have hv2 : 0 ≤ v2.toInt ∧ v2.toInt ≤ 255 := by rw [e_v2]; exact own_m255 _
  refine w_istore (pc := 125) X9 C at_125 #[.val (.int x0), .val (.long x1), .second, .val (.int x2), .val (.int n), .val (.int o), .val (.ref a1), .val (.int v0), .val (.int v1), .val (.int v2), .unset, .unset, .unset] rfl ?_
  refine w_iloadN (pc := 127) X9 C at_127 rfl ?_
  refine w_bipush (pc := 128) X9 C at_128 (24 : Int32) rfl ?_
  refine w_iushr (pc := 130) X9 C at_130 ?_
  refine w_sipush (pc := 131) X9 C at_131 (255 : Int32) rfl ?_
  refine w_iand (pc := 134) X9 C at_134 ?_
  obtain ⟨v3, e_v3⟩ : ∃ z, z = ((ushrI x0 (24 : Int32)) &&& (255 : Int32)) := ⟨_, rfl⟩
  rw [← e_v3]
  have hv3 : 0 ≤ v3.toInt ∧ v3.toInt ≤ 255 := by rw [e_v3]; exact own_m255 _
  refine w_istore (pc := 135) X9 C at_135 #[.val (.int x0), .val (.long x1), .second, .val (.int x2), .val (.int n), .val (.int o), .val (.ref a1), .val (.int v0), .val (.int v1), .val (.int v2), .val (.int v3), .unset, .unset] rfl ?_
  refine w_iload (pc := 137) X9 C at_137 rfl ?_
  refine w_if_le (pc := 139) X9 C at_139 150 (by decide) (fun q10 => ?_) (fun q10 => ?_)
  · -- yes
    refine w_iload (pc := 150) X9 C at_150 rfl ?_
    refine w_iconst (pc := 152) X9 C at_152 (1 : Int32) rfl ?_
    refine w_icmp_le (pc := 153) X9 C at_153 166 (by decide) (fun q11 => ?_) (fun q11 => absurd q11 (fun z => q10 (own_tr0_1 z)))
    refine w_iload (pc := 166) X9 C at_166 rfl ?_
    refine w_iconst (pc := 168) X9 C at_168 (2 : Int32) rfl ?_
    refine w_icmp_le (pc := 169) X9 C at_169 182 (by decide) (fun q12 => ?_) (fun q12 => absurd q12 (fun z => q10 (own_tr0_2 z)))
    refine w_iload (pc := 182) X9 C at_182 rfl ?_
    refine w_iconst (pc := 184) X9 C at_184 (3 : Int32) rfl ?_
    refine w_icmp_le (pc := 185) X9 C at_185 198 (by decide) (fun q13 => ?_) (fun q13 => absurd q13 (fun z => q10 (own_tr0_3 z)))
    refine w_ldcJ (pc := 198) X9 C at_198 (v := (-3750763034362895579 : Int64)) (List.mem_of_getElem? (i := 1) rfl) ?_
    refine w_lstore (pc := 201) X9 C at_201 #[.val (.int x0), .val (.long x1), .second, .val (.int x2), .val (.int n), .val (.int o), .val (.ref a1), .val (.int v0), .val (.int v1), .val (.int v2), .val (.int v3), .val (.long (-3750763034362895579 : Int64)), .second] rfl ?_
    refine w_iload (pc := 203) X9 C at_203 rfl ?_
    refine w_if_le (pc := 205) X9 C at_205 217 (by decide) (fun q14 => ?_) (fun q14 => absurd q14 (q10))
    refine w_iload (pc := 217) X9 C at_217 rfl ?_
    refine w_iconst (pc := 219) X9 C at_219 (1 : Int32) rfl ?_
    refine w_icmp_le (pc := 220) X9 C at_220 232 (by decide) (fun q15 => ?_) (fun q15 => absurd q15 (fun z => q10 (own_tr0_1 z)))
    refine w_iload (pc := 232) X9 C at_232 rfl ?_
    refine w_iconst (pc := 234) X9 C at_234 (2 : Int32) rfl ?_
    refine w_icmp_le (pc := 235) X9 C at_235 247 (by decide) (fun q16 => ?_) (fun q16 => absurd q16 (fun z => q10 (own_tr0_2 z)))
    refine w_iload (pc := 247) X9 C at_247 rfl ?_
    refine w_iconst (pc := 249) X9 C at_249 (3 : Int32) rfl ?_
    refine w_icmp_le (pc := 250) X9 C at_250 262 (by decide) (fun q17 => ?_) (fun q17 => absurd q17 (fun z => q10 (own_tr0_3 z)))
    refine w_aload (pc := 262) X9 C at_262 rfl rfl ?_
    refine w_iload (pc := 264) X9 C at_264 rfl ?_
    refine w_iload (pc := 266) X9 C at_266 rfl ?_
    refine w_iload (pc := 268) X9 C at_268 rfl ?_
    refine w_iadd (pc := 270) X9 C at_270 ?_
    have hend := own_add o n ho0 ho3 hn0 hn4
    refine w_callP (pc := 271) X9 C (y := (⟨"termwright/index/WordFilter", "hash", "([BII)J"⟩ : MethodName)) (bytes := prog_94_method_8_code) (maxL := 6) (rt := some .long) (argsL := [(.ref a1), (.int o), (.int (o + n))]) (rest := []) (w := .long (f2 o (o + n) g9)) (W := 0) at_271 (List.mem_of_getElem? (i := 7) rfl) (List.mem_of_getElem? (i := 8) rfl) (List.mem_of_getElem? (i := 9) rfl) (List.mem_of_getElem? (i := 10) rfl) (by decide) (ct2 l C.2.2.2.2.2.2.2.2 _ X9.size (a1) (o) ((o + n)) g9 A9 ho0 (by omega)) rfl rfl rfl ⟨_, _, pd_0, rfl⟩ rfl (Nat.le_of_eq rfl) (by decide) (by decide) (by decide) (by decide) (fun T19 X18 => ?_)
    refine w_lload (pc := 274) X18 C at_274 rfl ?_
    refine w_callP (pc := 276) X18 C (y := (⟨"termwright/index/WordFilterHashPinLaw", "mix", "(J)J"⟩ : MethodName)) (bytes := method_3_code) (maxL := 4) (rt := some .long) (argsL := [(.long (-3750763034362895579 : Int64))]) (rest := [(.long (f2 o (o + n) g9))]) (w := .long (f3 (-3750763034362895579 : Int64))) (W := 2) at_276 (List.mem_of_getElem? (i := 15) rfl) (List.mem_of_getElem? (i := 16) rfl) (List.mem_of_getElem? (i := 4) rfl) (List.mem_of_getElem? (i := 17) rfl) (by decide) (ct3 l C.2.2.2.2.2.2.2.2 _ X18.size ((-3750763034362895579 : Int64))) rfl rfl rfl ⟨_, _, pd_1, rfl⟩ rfl (Nat.le_of_eq rfl) (by decide) (by decide) (by decide) (by decide) (fun T21 X20 => ?_)
    refine w_lcmp (pc := 279) X20 C at_279 ?_
    refine w_ifJ_ne (pc := 280) X20 C at_280 287 (by decide) (fun q22 => absurd (own_fin0 o n  ho0 ho3 hn0 hn4   q10) q22) (fun q22 => ?_)
    refine w_iconst (pc := 283) X20 C at_283 (1 : Int32) rfl ?_
    refine w_goto (pc := 284) X20 C at_284 288 (by decide) ?_
    exact w_ret_boolean (pc := 288) X20 C at_288 rfl
  · -- no
    refine w_aload (pc := 142) X9 C at_142 rfl rfl ?_
    refine w_iload (pc := 144) X9 C at_144 rfl ?_
    refine w_iload (pc := 146) X9 C at_146 rfl ?_
    refine w_i2b (pc := 148) X9 C at_148 ?_
    have lq10_149 := Int32.lt_iff_toInt_lt.mp q10
    have b_23 : 0 ≤ (o).toInt ∧ (o).toInt < 8 := by omega
    refine w_bastore (pc := 149) X9 C at_149 A9 (nt o) (nt_eq b_23.1) (nt_lt b_23.2 (by omega)) hb1 (fun T24 h24 X24 W24 A24 => ?_)
    obtain ⟨g24, hg24⟩ : ∃ z, z = up g9 (nt o) (i8 (i8 v0)) := ⟨_, rfl⟩
    rw [← hg24] at A24
    refine w_iload (pc := 150) X24 C at_150 rfl ?_
    refine w_iconst (pc := 152) X24 C at_152 (1 : Int32) rfl ?_
    refine w_icmp_le (pc := 153) X24 C at_153 166 (by decide) (fun q25 => ?_) (fun q25 => ?_)
    · -- yes
      refine w_iload (pc := 166) X24 C at_166 rfl ?_
      refine w_iconst (pc := 168) X24 C at_168 (2 : Int32) rfl ?_
      refine w_icmp_le (pc := 169) X24 C at_169 182 (by decide) (fun q26 => ?_) (fun q26 => absurd q26 (fun z => q25 (own_tr1_2 z)))
      refine w_iload (pc := 182) X24 C at_182 rfl ?_
      refine w_iconst (pc := 184) X24 C at_184 (3 : Int32) rfl ?_
      refine w_icmp_le (pc := 185) X24 C at_185 198 (by decide) (fun q27 => ?_) (fun q27 => absurd q27 (fun z => q25 (own_tr1_3 z)))
      refine w_ldcJ (pc := 198) X24 C at_198 (v := (-3750763034362895579 : Int64)) (List.mem_of_getElem? (i := 1) rfl) ?_
      refine w_lstore (pc := 201) X24 C at_201 #[.val (.int x0), .val (.long x1), .second, .val (.int x2), .val (.int n), .val (.int o), .val (.ref a1), .val (.int v0), .val (.int v1), .val (.int v2), .val (.int v3), .val (.long (-3750763034362895579 : Int64)), .second] rfl ?_
      refine w_iload (pc := 203) X24 C at_203 rfl ?_
      refine w_if_le (pc := 205) X24 C at_205 217 (by decide) (fun q28 => absurd (q10) q28) (fun q28 => ?_)
      refine w_lload (pc := 208) X24 C at_208 rfl ?_
      refine w_iload (pc := 210) X24 C at_210 rfl ?_
      refine w_callP (pc := 212) X24 C (y := (⟨"termwright/index/WordFilterHashPinLaw", "fnvStep", "(JI)J"⟩ : MethodName)) (bytes := method_2_code) (maxL := 3) (rt := some .long) (argsL := [(.long (-3750763034362895579 : Int64)), (.int v0)]) (rest := []) (w := .long (f1 (-3750763034362895579 : Int64) v0)) (W := 0) at_212 (List.mem_of_getElem? (i := 2) rfl) (List.mem_of_getElem? (i := 3) rfl) (List.mem_of_getElem? (i := 4) rfl) (List.mem_of_getElem? (i := 5) rfl) (by decide) (ct1 l C.2.2.2.2.2.2.2.2 _ X24.size ((-3750763034362895579 : Int64)) (v0)) rfl rfl rfl ⟨_, _, pd_2, rfl⟩ rfl (Nat.le_of_eq rfl) (by decide) (by decide) (by decide) (by decide) (fun T30 X29 => ?_)
      refine w_lstore (pc := 215) X29 C at_215 #[.val (.int x0), .val (.long x1), .second, .val (.int x2), .val (.int n), .val (.int o), .val (.ref a1), .val (.int v0), .val (.int v1), .val (.int v2), .val (.int v3), .val (.long (f1 (-3750763034362895579 : Int64) v0)), .second] rfl ?_
      refine w_iload (pc := 217) X29 C at_217 rfl ?_
      refine w_iconst (pc := 219) X29 C at_219 (1 : Int32) rfl ?_
      refine w_icmp_le (pc := 220) X29 C at_220 232 (by decide) (fun q31 => ?_) (fun q31 => absurd q31 (q25))
      refine w_iload (pc := 232) X29 C at_232 rfl ?_
      refine w_iconst (pc := 234) X29 C at_234 (2 : Int32) rfl ?_
      refine w_icmp_le (pc := 235) X29 C at_235 247 (by decide) (fun q32 => ?_) (fun q32 => absurd q32 (fun z => q25 (own_tr1_2 z)))
      refine w_iload (pc := 247) X29 C at_247 rfl ?_
      refine w_iconst (pc := 249) X29 C at_249 (3 : Int32) rfl ?_
      refine w_icmp_le (pc := 250) X29 C at_250 262 (by decide) (fun q33 => ?_) (fun q33 => absurd q33 (fun z => q25 (own_tr1_3 z)))
      refine w_aload (pc := 262) X29 C at_262 rfl rfl ?_
      refine w_iload (pc := 264) X29 C at_264 rfl ?_
      refine w_iload (pc := 266) X29 C at_266 rfl ?_
      refine w_iload (pc := 268) X29 C at_268 rfl ?_
      refine w_iadd (pc := 270) X29 C at_270 ?_
      have hend := own_add o n ho0 ho3 hn0 hn4
      refine w_callP (pc := 271) X29 C (y := (⟨"termwright/index/WordFilter", "hash", "([BII)J"⟩ : MethodName)) (bytes := prog_94_method_8_code) (maxL := 6) (rt := some .long) (argsL := [(.ref a1), (.int o), (.int (o + n))]) (rest := []) (w := .long (f2 o (o + n) g24)) (W := 0) at_271 (List.mem_of_getElem? (i := 7) rfl) (List.mem_of_getElem? (i := 8) rfl) (List.mem_of_getElem? (i := 9) rfl) (List.mem_of_getElem? (i := 10) rfl) (by decide) (ct2 l C.2.2.2.2.2.2.2.2 _ X29.size (a1) (o) ((o + n)) g24 A24 ho0 (by omega)) rfl rfl rfl ⟨_, _, pd_0, rfl⟩ rfl (Nat.le_of_eq rfl) (by decide) (by decide) (by decide) (by decide) (fun T35 X34 => ?_)
      refine w_lload (pc := 274) X34 C at_274 rfl ?_
      refine w_callP (pc := 276) X34 C (y := (⟨"termwright/index/WordFilterHashPinLaw", "mix", "(J)J"⟩ : MethodName)) (bytes := method_3_code) (maxL := 4) (rt := some .long) (argsL := [(.long (f1 (-3750763034362895579 : Int64) v0))]) (rest := [(.long (f2 o (o + n) g24))]) (w := .long (f3 (f1 (-3750763034362895579 : Int64) v0))) (W := 2) at_276 (List.mem_of_getElem? (i := 15) rfl) (List.mem_of_getElem? (i := 16) rfl) (List.mem_of_getElem? (i := 4) rfl) (List.mem_of_getElem? (i := 17) rfl) (by decide) (ct3 l C.2.2.2.2.2.2.2.2 _ X34.size ((f1 (-3750763034362895579 : Int64) v0))) rfl rfl rfl ⟨_, _, pd_1, rfl⟩ rfl (Nat.le_of_eq rfl) (by decide) (by decide) (by decide) (by decide) (fun T37 X36 => ?_)
      refine w_lcmp (pc := 279) X36 C at_279 ?_
      refine w_ifJ_ne (pc := 280) X36 C at_280 287 (by decide) (fun q38 => absurd (own_fin1 o n v0 ho0 ho3 hn0 hn4 hv0 hg24 q10 q25) q38) (fun q38 => ?_)
      refine w_iconst (pc := 283) X36 C at_283 (1 : Int32) rfl ?_
      refine w_goto (pc := 284) X36 C at_284 288 (by decide) ?_
      exact w_ret_boolean (pc := 288) X36 C at_288 rfl
    · -- no
      refine w_aload (pc := 156) X24 C at_156 rfl rfl ?_
      refine w_iload (pc := 158) X24 C at_158 rfl ?_
      refine w_iconst (pc := 160) X24 C at_160 (1 : Int32) rfl ?_
      refine w_iadd (pc := 161) X24 C at_161 ?_
      refine w_iload (pc := 162) X24 C at_162 rfl ?_
      refine w_i2b (pc := 164) X24 C at_164 ?_
      have lq10_165 := Int32.lt_iff_toInt_lt.mp q10
      have lq25_165 := Int32.lt_iff_toInt_lt.mp q25
      have e_39 := add1 (x := o) (1 : Int32) 1 rfl (by omega) (by omega)
      have b_40 : 0 ≤ ((o + (1 : Int32))).toInt ∧ ((o + (1 : Int32))).toInt < 8 := by omega
      refine w_bastore (pc := 165) X24 C at_165 A24 (nt (o + (1 : Int32))) (nt_eq b_40.1) (nt_lt b_40.2 (by omega)) hb1 (fun T41 h41 X41 W41 A41 => ?_)
      obtain ⟨g41, hg41⟩ : ∃ z, z = up g24 (nt (o + (1 : Int32))) (i8 (i8 v1)) := ⟨_, rfl⟩
      rw [← hg41] at A41
      refine w_iload (pc := 166) X41 C at_166 rfl ?_
      refine w_iconst (pc := 168) X41 C at_168 (2 : Int32) rfl ?_
      refine w_icmp_le (pc := 169) X41 C at_169 182 (by decide) (fun q42 => ?_) (fun q42 => ?_)
      · -- yes
        refine w_iload (pc := 182) X41 C at_182 rfl ?_
        refine w_iconst (pc := 184) X41 C at_184 (3 : Int32) rfl ?_
        refine w_icmp_le (pc := 185) X41 C at_185 198 (by decide) (fun q43 => ?_) (fun q43 => absurd q43 (fun z => q42 (own_tr2_3 z)))
        refine w_ldcJ (pc := 198) X41 C at_198 (v := (-3750763034362895579 : Int64)) (List.mem_of_getElem? (i := 1) rfl) ?_
        refine w_lstore (pc := 201) X41 C at_201 #[.val (.int x0), .val (.long x1), .second, .val (.int x2), .val (.int n), .val (.int o), .val (.ref a1), .val (.int v0), .val (.int v1), .val (.int v2), .val (.int v3), .val (.long (-3750763034362895579 : Int64)), .second] rfl ?_
        refine w_iload (pc := 203) X41 C at_203 rfl ?_
        refine w_if_le (pc := 205) X41 C at_205 217 (by decide) (fun q44 => absurd (q10) q44) (fun q44 => ?_)
        refine w_lload (pc := 208) X41 C at_208 rfl ?_
        refine w_iload (pc := 210) X41 C at_210 rfl ?_
        refine w_callP (pc := 212) X41 C (y := (⟨"termwright/index/WordFilterHashPinLaw", "fnvStep", "(JI)J"⟩ : MethodName)) (bytes := method_2_code) (maxL := 3) (rt := some .long) (argsL := [(.long (-3750763034362895579 : Int64)), (.int v0)]) (rest := []) (w := .long (f1 (-3750763034362895579 : Int64) v0)) (W := 0) at_212 (List.mem_of_getElem? (i := 2) rfl) (List.mem_of_getElem? (i := 3) rfl) (List.mem_of_getElem? (i := 4) rfl) (List.mem_of_getElem? (i := 5) rfl) (by decide) (ct1 l C.2.2.2.2.2.2.2.2 _ X41.size ((-3750763034362895579 : Int64)) (v0)) rfl rfl rfl ⟨_, _, pd_2, rfl⟩ rfl (Nat.le_of_eq rfl) (by decide) (by decide) (by decide) (by decide) (fun T46 X45 => ?_)
        refine w_lstore (pc := 215) X45 C at_215 #[.val (.int x0), .val (.long x1), .second, .val (.int x2), .val (.int n), .val (.int o), .val (.ref a1), .val (.int v0), .val (.int v1), .val (.int v2), .val (.int v3), .val (.long (f1 (-3750763034362895579 : Int64) v0)), .second] rfl ?_
        refine w_iload (pc := 217) X45 C at_217 rfl ?_
        refine w_iconst (pc := 219) X45 C at_219 (1 : Int32) rfl ?_
        refine w_icmp_le (pc := 220) X45 C at_220 232 (by decide) (fun q47 => absurd (q25) q47) (fun q47 => ?_)
        refine w_lload (pc := 223) X45 C at_223 rfl ?_
        refine w_iload (pc := 225) X45 C at_225 rfl ?_
        refine w_callP (pc := 227) X45 C (y := (⟨"termwright/index/WordFilterHashPinLaw", "fnvStep", "(JI)J"⟩ : MethodName)) (bytes := method_2_code) (maxL := 3) (rt := some .long) (argsL := [(.long (f1 (-3750763034362895579 : Int64) v0)), (.int v1)]) (rest := []) (w := .long (f1 (f1 (-3750763034362895579 : Int64) v0) v1)) (W := 0) at_227 (List.mem_of_getElem? (i := 2) rfl) (List.mem_of_getElem? (i := 3) rfl) (List.mem_of_getElem? (i := 4) rfl) (List.mem_of_getElem? (i := 5) rfl) (by decide) (ct1 l C.2.2.2.2.2.2.2.2 _ X45.size ((f1 (-3750763034362895579 : Int64) v0)) (v1)) rfl rfl rfl ⟨_, _, pd_2, rfl⟩ rfl (Nat.le_of_eq rfl) (by decide) (by decide) (by decide) (by decide) (fun T49 X48 => ?_)
        refine w_lstore (pc := 230) X48 C at_230 #[.val (.int x0), .val (.long x1), .second, .val (.int x2), .val (.int n), .val (.int o), .val (.ref a1), .val (.int v0), .val (.int v1), .val (.int v2), .val (.int v3), .val (.long (f1 (f1 (-3750763034362895579 : Int64) v0) v1)), .second] rfl ?_
        refine w_iload (pc := 232) X48 C at_232 rfl ?_
        refine w_iconst (pc := 234) X48 C at_234 (2 : Int32) rfl ?_
        refine w_icmp_le (pc := 235) X48 C at_235 247 (by decide) (fun q50 => ?_) (fun q50 => absurd q50 (q42))
        refine w_iload (pc := 247) X48 C at_247 rfl ?_
        refine w_iconst (pc := 249) X48 C at_249 (3 : Int32) rfl ?_
        refine w_icmp_le (pc := 250) X48 C at_250 262 (by decide) (fun q51 => ?_) (fun q51 => absurd q51 (fun z => q42 (own_tr2_3 z)))
        refine w_aload (pc := 262) X48 C at_262 rfl rfl ?_
        refine w_iload (pc := 264) X48 C at_264 rfl ?_
        refine w_iload (pc := 266) X48 C at_266 rfl ?_
        refine w_iload (pc := 268) X48 C at_268 rfl ?_
        refine w_iadd (pc := 270) X48 C at_270 ?_
        have hend := own_add o n ho0 ho3 hn0 hn4
        refine w_callP (pc := 271) X48 C (y := (⟨"termwright/index/WordFilter", "hash", "([BII)J"⟩ : MethodName)) (bytes := prog_94_method_8_code) (maxL := 6) (rt := some .long) (argsL := [(.ref a1), (.int o), (.int (o + n))]) (rest := []) (w := .long (f2 o (o + n) g41)) (W := 0) at_271 (List.mem_of_getElem? (i := 7) rfl) (List.mem_of_getElem? (i := 8) rfl) (List.mem_of_getElem? (i := 9) rfl) (List.mem_of_getElem? (i := 10) rfl) (by decide) (ct2 l C.2.2.2.2.2.2.2.2 _ X48.size (a1) (o) ((o + n)) g41 A41 ho0 (by omega)) rfl rfl rfl ⟨_, _, pd_0, rfl⟩ rfl (Nat.le_of_eq rfl) (by decide) (by decide) (by decide) (by decide) (fun T53 X52 => ?_)
        refine w_lload (pc := 274) X52 C at_274 rfl ?_
        refine w_callP (pc := 276) X52 C (y := (⟨"termwright/index/WordFilterHashPinLaw", "mix", "(J)J"⟩ : MethodName)) (bytes := method_3_code) (maxL := 4) (rt := some .long) (argsL := [(.long (f1 (f1 (-3750763034362895579 : Int64) v0) v1))]) (rest := [(.long (f2 o (o + n) g41))]) (w := .long (f3 (f1 (f1 (-3750763034362895579 : Int64) v0) v1))) (W := 2) at_276 (List.mem_of_getElem? (i := 15) rfl) (List.mem_of_getElem? (i := 16) rfl) (List.mem_of_getElem? (i := 4) rfl) (List.mem_of_getElem? (i := 17) rfl) (by decide) (ct3 l C.2.2.2.2.2.2.2.2 _ X52.size ((f1 (f1 (-3750763034362895579 : Int64) v0) v1))) rfl rfl rfl ⟨_, _, pd_1, rfl⟩ rfl (Nat.le_of_eq rfl) (by decide) (by decide) (by decide) (by decide) (fun T55 X54 => ?_)
        refine w_lcmp (pc := 279) X54 C at_279 ?_
        refine w_ifJ_ne (pc := 280) X54 C at_280 287 (by decide) (fun q56 => absurd (own_fin2 o n v0 v1 ho0 ho3 hn0 hn4 hv0 hv1 hg24 hg41 q10 q25 q42) q56) (fun q56 => ?_)
        refine w_iconst (pc := 283) X54 C at_283 (1 : Int32) rfl ?_
        refine w_goto (pc := 284) X54 C at_284 288 (by decide) ?_
        exact w_ret_boolean (pc := 288) X54 C at_288 rfl
      · -- no
        refine w_aload (pc := 172) X41 C at_172 rfl rfl ?_
        refine w_iload (pc := 174) X41 C at_174 rfl ?_
        refine w_iconst (pc := 176) X41 C at_176 (2 : Int32) rfl ?_
        refine w_iadd (pc := 177) X41 C at_177 ?_
        refine w_iload (pc := 178) X41 C at_178 rfl ?_
        refine w_i2b (pc := 180) X41 C at_180 ?_
        have lq10_181 := Int32.lt_iff_toInt_lt.mp q10
        have lq25_181 := Int32.lt_iff_toInt_lt.mp q25
        have lq42_181 := Int32.lt_iff_toInt_lt.mp q42
        have e_57 := add1 (x := o) (2 : Int32) 2 rfl (by omega) (by omega)
        have b_58 : 0 ≤ ((o + (2 : Int32))).toInt ∧ ((o + (2 : Int32))).toInt < 8 := by omega
        refine w_bastore (pc := 181) X41 C at_181 A41 (nt (o + (2 : Int32))) (nt_eq b_58.1) (nt_lt b_58.2 (by omega)) hb1 (fun T59 h59 X59 W59 A59 => ?_)
        obtain ⟨g59, hg59⟩ : ∃ z, z = up g41 (nt (o + (2 : Int32))) (i8 (i8 v2)) := ⟨_, rfl⟩
        rw [← hg59] at A59
        refine w_iload (pc := 182) X59 C at_182 rfl ?_
        refine w_iconst (pc := 184) X59 C at_184 (3 : Int32) rfl ?_
        refine w_icmp_le (pc := 185) X59 C at_185 198 (by decide) (fun q60 => ?_) (fun q60 => ?_)
        · -- yes
          refine w_ldcJ (pc := 198) X59 C at_198 (v := (-3750763034362895579 : Int64)) (List.mem_of_getElem? (i := 1) rfl) ?_
          refine w_lstore (pc := 201) X59 C at_201 #[.val (.int x0), .val (.long x1), .second, .val (.int x2), .val (.int n), .val (.int o), .val (.ref a1), .val (.int v0), .val (.int v1), .val (.int v2), .val (.int v3), .val (.long (-3750763034362895579 : Int64)), .second] rfl ?_
          refine w_iload (pc := 203) X59 C at_203 rfl ?_
          refine w_if_le (pc := 205) X59 C at_205 217 (by decide) (fun q61 => absurd (q10) q61) (fun q61 => ?_)
          refine w_lload (pc := 208) X59 C at_208 rfl ?_
          refine w_iload (pc := 210) X59 C at_210 rfl ?_
          refine w_callP (pc := 212) X59 C (y := (⟨"termwright/index/WordFilterHashPinLaw", "fnvStep", "(JI)J"⟩ : MethodName)) (bytes := method_2_code) (maxL := 3) (rt := some .long) (argsL := [(.long (-3750763034362895579 : Int64)), (.int v0)]) (rest := []) (w := .long (f1 (-3750763034362895579 : Int64) v0)) (W := 0) at_212 (List.mem_of_getElem? (i := 2) rfl) (List.mem_of_getElem? (i := 3) rfl) (List.mem_of_getElem? (i := 4) rfl) (List.mem_of_getElem? (i := 5) rfl) (by decide) (ct1 l C.2.2.2.2.2.2.2.2 _ X59.size ((-3750763034362895579 : Int64)) (v0)) rfl rfl rfl ⟨_, _, pd_2, rfl⟩ rfl (Nat.le_of_eq rfl) (by decide) (by decide) (by decide) (by decide) (fun T63 X62 => ?_)
          refine w_lstore (pc := 215) X62 C at_215 #[.val (.int x0), .val (.long x1), .second, .val (.int x2), .val (.int n), .val (.int o), .val (.ref a1), .val (.int v0), .val (.int v1), .val (.int v2), .val (.int v3), .val (.long (f1 (-3750763034362895579 : Int64) v0)), .second] rfl ?_
          refine w_iload (pc := 217) X62 C at_217 rfl ?_
          refine w_iconst (pc := 219) X62 C at_219 (1 : Int32) rfl ?_
          refine w_icmp_le (pc := 220) X62 C at_220 232 (by decide) (fun q64 => absurd (q25) q64) (fun q64 => ?_)
          refine w_lload (pc := 223) X62 C at_223 rfl ?_
          refine w_iload (pc := 225) X62 C at_225 rfl ?_
          refine w_callP (pc := 227) X62 C (y := (⟨"termwright/index/WordFilterHashPinLaw", "fnvStep", "(JI)J"⟩ : MethodName)) (bytes := method_2_code) (maxL := 3) (rt := some .long) (argsL := [(.long (f1 (-3750763034362895579 : Int64) v0)), (.int v1)]) (rest := []) (w := .long (f1 (f1 (-3750763034362895579 : Int64) v0) v1)) (W := 0) at_227 (List.mem_of_getElem? (i := 2) rfl) (List.mem_of_getElem? (i := 3) rfl) (List.mem_of_getElem? (i := 4) rfl) (List.mem_of_getElem? (i := 5) rfl) (by decide) (ct1 l C.2.2.2.2.2.2.2.2 _ X62.size ((f1 (-3750763034362895579 : Int64) v0)) (v1)) rfl rfl rfl ⟨_, _, pd_2, rfl⟩ rfl (Nat.le_of_eq rfl) (by decide) (by decide) (by decide) (by decide) (fun T66 X65 => ?_)
          refine w_lstore (pc := 230) X65 C at_230 #[.val (.int x0), .val (.long x1), .second, .val (.int x2), .val (.int n), .val (.int o), .val (.ref a1), .val (.int v0), .val (.int v1), .val (.int v2), .val (.int v3), .val (.long (f1 (f1 (-3750763034362895579 : Int64) v0) v1)), .second] rfl ?_
          refine w_iload (pc := 232) X65 C at_232 rfl ?_
          refine w_iconst (pc := 234) X65 C at_234 (2 : Int32) rfl ?_
          refine w_icmp_le (pc := 235) X65 C at_235 247 (by decide) (fun q67 => absurd (q42) q67) (fun q67 => ?_)
          refine w_lload (pc := 238) X65 C at_238 rfl ?_
          refine w_iload (pc := 240) X65 C at_240 rfl ?_
          refine w_callP (pc := 242) X65 C (y := (⟨"termwright/index/WordFilterHashPinLaw", "fnvStep", "(JI)J"⟩ : MethodName)) (bytes := method_2_code) (maxL := 3) (rt := some .long) (argsL := [(.long (f1 (f1 (-3750763034362895579 : Int64) v0) v1)), (.int v2)]) (rest := []) (w := .long (f1 (f1 (f1 (-3750763034362895579 : Int64) v0) v1) v2)) (W := 0) at_242 (List.mem_of_getElem? (i := 2) rfl) (List.mem_of_getElem? (i := 3) rfl) (List.mem_of_getElem? (i := 4) rfl) (List.mem_of_getElem? (i := 5) rfl) (by decide) (ct1 l C.2.2.2.2.2.2.2.2 _ X65.size ((f1 (f1 (-3750763034362895579 : Int64) v0) v1)) (v2)) rfl rfl rfl ⟨_, _, pd_2, rfl⟩ rfl (Nat.le_of_eq rfl) (by decide) (by decide) (by decide) (by decide) (fun T69 X68 => ?_)
          refine w_lstore (pc := 245) X68 C at_245 #[.val (.int x0), .val (.long x1), .second, .val (.int x2), .val (.int n), .val (.int o), .val (.ref a1), .val (.int v0), .val (.int v1), .val (.int v2), .val (.int v3), .val (.long (f1 (f1 (f1 (-3750763034362895579 : Int64) v0) v1) v2)), .second] rfl ?_
          refine w_iload (pc := 247) X68 C at_247 rfl ?_
          refine w_iconst (pc := 249) X68 C at_249 (3 : Int32) rfl ?_
          refine w_icmp_le (pc := 250) X68 C at_250 262 (by decide) (fun q70 => ?_) (fun q70 => absurd q70 (q60))
          refine w_aload (pc := 262) X68 C at_262 rfl rfl ?_
          refine w_iload (pc := 264) X68 C at_264 rfl ?_
          refine w_iload (pc := 266) X68 C at_266 rfl ?_
          refine w_iload (pc := 268) X68 C at_268 rfl ?_
          refine w_iadd (pc := 270) X68 C at_270 ?_
          have hend := own_add o n ho0 ho3 hn0 hn4
          refine w_callP (pc := 271) X68 C (y := (⟨"termwright/index/WordFilter", "hash", "([BII)J"⟩ : MethodName)) (bytes := prog_94_method_8_code) (maxL := 6) (rt := some .long) (argsL := [(.ref a1), (.int o), (.int (o + n))]) (rest := []) (w := .long (f2 o (o + n) g59)) (W := 0) at_271 (List.mem_of_getElem? (i := 7) rfl) (List.mem_of_getElem? (i := 8) rfl) (List.mem_of_getElem? (i := 9) rfl) (List.mem_of_getElem? (i := 10) rfl) (by decide) (ct2 l C.2.2.2.2.2.2.2.2 _ X68.size (a1) (o) ((o + n)) g59 A59 ho0 (by omega)) rfl rfl rfl ⟨_, _, pd_0, rfl⟩ rfl (Nat.le_of_eq rfl) (by decide) (by decide) (by decide) (by decide) (fun T72 X71 => ?_)
          refine w_lload (pc := 274) X71 C at_274 rfl ?_
          refine w_callP (pc := 276) X71 C (y := (⟨"termwright/index/WordFilterHashPinLaw", "mix", "(J)J"⟩ : MethodName)) (bytes := method_3_code) (maxL := 4) (rt := some .long) (argsL := [(.long (f1 (f1 (f1 (-3750763034362895579 : Int64) v0) v1) v2))]) (rest := [(.long (f2 o (o + n) g59))]) (w := .long (f3 (f1 (f1 (f1 (-3750763034362895579 : Int64) v0) v1) v2))) (W := 2) at_276 (List.mem_of_getElem? (i := 15) rfl) (List.mem_of_getElem? (i := 16) rfl) (List.mem_of_getElem? (i := 4) rfl) (List.mem_of_getElem? (i := 17) rfl) (by decide) (ct3 l C.2.2.2.2.2.2.2.2 _ X71.size ((f1 (f1 (f1 (-3750763034362895579 : Int64) v0) v1) v2))) rfl rfl rfl ⟨_, _, pd_1, rfl⟩ rfl (Nat.le_of_eq rfl) (by decide) (by decide) (by decide) (by decide) (fun T74 X73 => ?_)
          refine w_lcmp (pc := 279) X73 C at_279 ?_
          refine w_ifJ_ne (pc := 280) X73 C at_280 287 (by decide) (fun q75 => absurd (own_fin3 o n v0 v1 v2 ho0 ho3 hn0 hn4 hv0 hv1 hv2 hg24 hg41 hg59 q10 q25 q42 q60) q75) (fun q75 => ?_)
          refine w_iconst (pc := 283) X73 C at_283 (1 : Int32) rfl ?_
          refine w_goto (pc := 284) X73 C at_284 288 (by decide) ?_
          exact w_ret_boolean (pc := 288) X73 C at_288 rfl
        · -- no
          refine w_aload (pc := 188) X59 C at_188 rfl rfl ?_
          refine w_iload (pc := 190) X59 C at_190 rfl ?_
          refine w_iconst (pc := 192) X59 C at_192 (3 : Int32) rfl ?_
          refine w_iadd (pc := 193) X59 C at_193 ?_
          refine w_iload (pc := 194) X59 C at_194 rfl ?_
          refine w_i2b (pc := 196) X59 C at_196 ?_
          have lq10_197 := Int32.lt_iff_toInt_lt.mp q10
          have lq25_197 := Int32.lt_iff_toInt_lt.mp q25
          have lq42_197 := Int32.lt_iff_toInt_lt.mp q42
          have lq60_197 := Int32.lt_iff_toInt_lt.mp q60
          have e_76 := add1 (x := o) (3 : Int32) 3 rfl (by omega) (by omega)
          have b_77 : 0 ≤ ((o + (3 : Int32))).toInt ∧ ((o + (3 : Int32))).toInt < 8 := by omega
          refine w_bastore (pc := 197) X59 C at_197 A59 (nt (o + (3 : Int32))) (nt_eq b_77.1) (nt_lt b_77.2 (by omega)) hb1 (fun T78 h78 X78 W78 A78 => ?_)
          obtain ⟨g78, hg78⟩ : ∃ z, z = up g59 (nt (o + (3 : Int32))) (i8 (i8 v3)) := ⟨_, rfl⟩
          rw [← hg78] at A78
          refine w_ldcJ (pc := 198) X78 C at_198 (v := (-3750763034362895579 : Int64)) (List.mem_of_getElem? (i := 1) rfl) ?_
          refine w_lstore (pc := 201) X78 C at_201 #[.val (.int x0), .val (.long x1), .second, .val (.int x2), .val (.int n), .val (.int o), .val (.ref a1), .val (.int v0), .val (.int v1), .val (.int v2), .val (.int v3), .val (.long (-3750763034362895579 : Int64)), .second] rfl ?_
          refine w_iload (pc := 203) X78 C at_203 rfl ?_
          refine w_if_le (pc := 205) X78 C at_205 217 (by decide) (fun q79 => absurd (q10) q79) (fun q79 => ?_)
          refine w_lload (pc := 208) X78 C at_208 rfl ?_
          refine w_iload (pc := 210) X78 C at_210 rfl ?_
          refine w_callP (pc := 212) X78 C (y := (⟨"termwright/index/WordFilterHashPinLaw", "fnvStep", "(JI)J"⟩ : MethodName)) (bytes := method_2_code) (maxL := 3) (rt := some .long) (argsL := [(.long (-3750763034362895579 : Int64)), (.int v0)]) (rest := []) (w := .long (f1 (-3750763034362895579 : Int64) v0)) (W := 0) at_212 (List.mem_of_getElem? (i := 2) rfl) (List.mem_of_getElem? (i := 3) rfl) (List.mem_of_getElem? (i := 4) rfl) (List.mem_of_getElem? (i := 5) rfl) (by decide) (ct1 l C.2.2.2.2.2.2.2.2 _ X78.size ((-3750763034362895579 : Int64)) (v0)) rfl rfl rfl ⟨_, _, pd_2, rfl⟩ rfl (Nat.le_of_eq rfl) (by decide) (by decide) (by decide) (by decide) (fun T81 X80 => ?_)
          refine w_lstore (pc := 215) X80 C at_215 #[.val (.int x0), .val (.long x1), .second, .val (.int x2), .val (.int n), .val (.int o), .val (.ref a1), .val (.int v0), .val (.int v1), .val (.int v2), .val (.int v3), .val (.long (f1 (-3750763034362895579 : Int64) v0)), .second] rfl ?_
          refine w_iload (pc := 217) X80 C at_217 rfl ?_
          refine w_iconst (pc := 219) X80 C at_219 (1 : Int32) rfl ?_
          refine w_icmp_le (pc := 220) X80 C at_220 232 (by decide) (fun q82 => absurd (q25) q82) (fun q82 => ?_)
          refine w_lload (pc := 223) X80 C at_223 rfl ?_
          refine w_iload (pc := 225) X80 C at_225 rfl ?_
          refine w_callP (pc := 227) X80 C (y := (⟨"termwright/index/WordFilterHashPinLaw", "fnvStep", "(JI)J"⟩ : MethodName)) (bytes := method_2_code) (maxL := 3) (rt := some .long) (argsL := [(.long (f1 (-3750763034362895579 : Int64) v0)), (.int v1)]) (rest := []) (w := .long (f1 (f1 (-3750763034362895579 : Int64) v0) v1)) (W := 0) at_227 (List.mem_of_getElem? (i := 2) rfl) (List.mem_of_getElem? (i := 3) rfl) (List.mem_of_getElem? (i := 4) rfl) (List.mem_of_getElem? (i := 5) rfl) (by decide) (ct1 l C.2.2.2.2.2.2.2.2 _ X80.size ((f1 (-3750763034362895579 : Int64) v0)) (v1)) rfl rfl rfl ⟨_, _, pd_2, rfl⟩ rfl (Nat.le_of_eq rfl) (by decide) (by decide) (by decide) (by decide) (fun T84 X83 => ?_)
          refine w_lstore (pc := 230) X83 C at_230 #[.val (.int x0), .val (.long x1), .second, .val (.int x2), .val (.int n), .val (.int o), .val (.ref a1), .val (.int v0), .val (.int v1), .val (.int v2), .val (.int v3), .val (.long (f1 (f1 (-3750763034362895579 : Int64) v0) v1)), .second] rfl ?_
          refine w_iload (pc := 232) X83 C at_232 rfl ?_
          refine w_iconst (pc := 234) X83 C at_234 (2 : Int32) rfl ?_
          refine w_icmp_le (pc := 235) X83 C at_235 247 (by decide) (fun q85 => absurd (q42) q85) (fun q85 => ?_)
          refine w_lload (pc := 238) X83 C at_238 rfl ?_
          refine w_iload (pc := 240) X83 C at_240 rfl ?_
          refine w_callP (pc := 242) X83 C (y := (⟨"termwright/index/WordFilterHashPinLaw", "fnvStep", "(JI)J"⟩ : MethodName)) (bytes := method_2_code) (maxL := 3) (rt := some .long) (argsL := [(.long (f1 (f1 (-3750763034362895579 : Int64) v0) v1)), (.int v2)]) (rest := []) (w := .long (f1 (f1 (f1 (-3750763034362895579 : Int64) v0) v1) v2)) (W := 0) at_242 (List.mem_of_getElem? (i := 2) rfl) (List.mem_of_getElem? (i := 3) rfl) (List.mem_of_getElem? (i := 4) rfl) (List.mem_of_getElem? (i := 5) rfl) (by decide) (ct1 l C.2.2.2.2.2.2.2.2 _ X83.size ((f1 (f1 (-3750763034362895579 : Int64) v0) v1)) (v2)) rfl rfl rfl ⟨_, _, pd_2, rfl⟩ rfl (Nat.le_of_eq rfl) (by decide) (by decide) (by decide) (by decide) (fun T87 X86 => ?_)
          refine w_lstore (pc := 245) X86 C at_245 #[.val (.int x0), .val (.long x1), .second, .val (.int x2), .val (.int n), .val (.int o), .val (.ref a1), .val (.int v0), .val (.int v1), .val (.int v2), .val (.int v3), .val (.long (f1 (f1 (f1 (-3750763034362895579 : Int64) v0) v1) v2)), .second] rfl ?_
          refine w_iload (pc := 247) X86 C at_247 rfl ?_
          refine w_iconst (pc := 249) X86 C at_249 (3 : Int32) rfl ?_
          refine w_icmp_le (pc := 250) X86 C at_250 262 (by decide) (fun q88 => absurd (q60) q88) (fun q88 => ?_)
          refine w_lload (pc := 253) X86 C at_253 rfl ?_
          refine w_iload (pc := 255) X86 C at_255 rfl ?_
          refine w_callP (pc := 257) X86 C (y := (⟨"termwright/index/WordFilterHashPinLaw", "fnvStep", "(JI)J"⟩ : MethodName)) (bytes := method_2_code) (maxL := 3) (rt := some .long) (argsL := [(.long (f1 (f1 (f1 (-3750763034362895579 : Int64) v0) v1) v2)), (.int v3)]) (rest := []) (w := .long (f1 (f1 (f1 (f1 (-3750763034362895579 : Int64) v0) v1) v2) v3)) (W := 0) at_257 (List.mem_of_getElem? (i := 2) rfl) (List.mem_of_getElem? (i := 3) rfl) (List.mem_of_getElem? (i := 4) rfl) (List.mem_of_getElem? (i := 5) rfl) (by decide) (ct1 l C.2.2.2.2.2.2.2.2 _ X86.size ((f1 (f1 (f1 (-3750763034362895579 : Int64) v0) v1) v2)) (v3)) rfl rfl rfl ⟨_, _, pd_2, rfl⟩ rfl (Nat.le_of_eq rfl) (by decide) (by decide) (by decide) (by decide) (fun T90 X89 => ?_)
          refine w_lstore (pc := 260) X89 C at_260 #[.val (.int x0), .val (.long x1), .second, .val (.int x2), .val (.int n), .val (.int o), .val (.ref a1), .val (.int v0), .val (.int v1), .val (.int v2), .val (.int v3), .val (.long (f1 (f1 (f1 (f1 (-3750763034362895579 : Int64) v0) v1) v2) v3)), .second] rfl ?_
          refine w_aload (pc := 262) X89 C at_262 rfl rfl ?_
          refine w_iload (pc := 264) X89 C at_264 rfl ?_
          refine w_iload (pc := 266) X89 C at_266 rfl ?_
          refine w_iload (pc := 268) X89 C at_268 rfl ?_
          refine w_iadd (pc := 270) X89 C at_270 ?_
          have hend := own_add o n ho0 ho3 hn0 hn4
          refine w_callP (pc := 271) X89 C (y := (⟨"termwright/index/WordFilter", "hash", "([BII)J"⟩ : MethodName)) (bytes := prog_94_method_8_code) (maxL := 6) (rt := some .long) (argsL := [(.ref a1), (.int o), (.int (o + n))]) (rest := []) (w := .long (f2 o (o + n) g78)) (W := 0) at_271 (List.mem_of_getElem? (i := 7) rfl) (List.mem_of_getElem? (i := 8) rfl) (List.mem_of_getElem? (i := 9) rfl) (List.mem_of_getElem? (i := 10) rfl) (by decide) (ct2 l C.2.2.2.2.2.2.2.2 _ X89.size (a1) (o) ((o + n)) g78 A78 ho0 (by omega)) rfl rfl rfl ⟨_, _, pd_0, rfl⟩ rfl (Nat.le_of_eq rfl) (by decide) (by decide) (by decide) (by decide) (fun T92 X91 => ?_)
          refine w_lload (pc := 274) X91 C at_274 rfl ?_
          refine w_callP (pc := 276) X91 C (y := (⟨"termwright/index/WordFilterHashPinLaw", "mix", "(J)J"⟩ : MethodName)) (bytes := method_3_code) (maxL := 4) (rt := some .long) (argsL := [(.long (f1 (f1 (f1 (f1 (-3750763034362895579 : Int64) v0) v1) v2) v3))]) (rest := [(.long (f2 o (o + n) g78))]) (w := .long (f3 (f1 (f1 (f1 (f1 (-3750763034362895579 : Int64) v0) v1) v2) v3))) (W := 2) at_276 (List.mem_of_getElem? (i := 15) rfl) (List.mem_of_getElem? (i := 16) rfl) (List.mem_of_getElem? (i := 4) rfl) (List.mem_of_getElem? (i := 17) rfl) (by decide) (ct3 l C.2.2.2.2.2.2.2.2 _ X91.size ((f1 (f1 (f1 (f1 (-3750763034362895579 : Int64) v0) v1) v2) v3))) rfl rfl rfl ⟨_, _, pd_1, rfl⟩ rfl (Nat.le_of_eq rfl) (by decide) (by decide) (by decide) (by decide) (fun T94 X93 => ?_)
          refine w_lcmp (pc := 279) X93 C at_279 ?_
          refine w_ifJ_ne (pc := 280) X93 C at_280 287 (by decide) (fun q95 => absurd (own_fin4 o n v0 v1 v2 v3 ho0 ho3 hn0 hn4 hv0 hv1 hv2 hv3 hg24 hg41 hg59 hg78 q10 q25 q42 q60) q95) (fun q95 => ?_)
          refine w_iconst (pc := 283) X93 C at_283 (1 : Int32) rfl ?_
          refine w_goto (pc := 284) X93 C at_284 288 (by decide) ?_
          exact w_ret_boolean (pc := 288) X93 C at_288 rfl
set_option maxRecDepth 65536 in
theorem law_ct (l : Launch) {Z : State} {a0 : Array Value} (hw : ∀ d ∈ tables_1, d.before a0 Z = true) (h : Heap) {n0 : Nat} (hn : n0 ≤ h.size) (x0 : Int32) (x1 : Int64) (x2 : Int32) : Ct l x code maxLocals ret room_1 Z #[(.int x0), (.long x1), (.int x2)] h n0 (fun v _ => v = some (.int 1)) :=
  Ct.of (plainFor_of_name pn_0) #[.val (.int x0), .val (.long x1), .second, .val (.int x2), .unset, .unset, .unset, .unset, .unset, .unset, .unset, .unset, .unset] (fun m => by first | (simp [entryFrame, mkF, argsToLocals, Value.category, maxLocals]; done) | rfl) hw hn (fun p e s m below meth c T C X => law_walk X C x0 x1 x2)
set_option maxRecDepth 65536 in
set_option maxHeartbeats 40000000 in
theorem comes_1 {Post : Tables → Env → Array Value → State → Outcome → State → Prop} (hpost : ∀ tb e args s v u, (limb_1_1.after args s (.returned v) u = true ∧ limb_1_2.after args s (.returned v) u = true ∧ True) → FrameEnd s (.returned v) u (Jvm.fieldLocs frame_1_writes args s ++ Jvm.arrayLocs frame_1_arrays args s ++ Jvm.staticLocs frame_1_statics s) 16 128 → Post tb e args s (.returned v) u) :
    ArmFor flags0 classFile x code maxLocals ret World_1 tables_1 room_1 Calls_1 rest_1 Pre_1 Post := by
  intro l hfl _ _ p e ha hc hk s m args below hf hA hF happ hP
  obtain ⟨hcalls, hrest, hpre⟩ := hP
  obtain ⟨-, -, -, hnamed, -, -, -, hat⟩ := (Spec.applies_iff hf).mp happ
  obtain ⟨hg, hn⟩ := and_e (Cond.before_iff.mp (show (Jvm.Cond.and given_1 narrow_1).before args s = true from hpre))
  obtain ⟨g1, g2⟩ := and_e hg
  obtain ⟨g3, g4⟩ := and_e g2
  obtain ⟨g5, g6⟩ := and_e g4
  obtain ⟨w0, w1, w2, rfl⟩ : ∃ w0 w1 w2 : Value, args = #[w0, w1, w2] := by
    have hs : args.size = 3 := by simpa [Cond.value, given_1] using g1
    obtain ⟨L⟩ := args
    match L, hs with
    | [w0, w1, w2], _ => exact ⟨w0, w1, w2, rfl⟩
  have hw := fun d (hd : d ∈ tables_1) => atoms_spec (ws := Jvm.Cond.code x code maxLocals ret :: tables_1) hat d (List.mem_cons_of_mem _ hd)
  obtain ⟨i0, ei0⟩ := is_v g3
  obtain rfl : w0 = (.int i0) := Option.some.inj ei0
  obtain ⟨i1, ei1⟩ := isL_v g5
  obtain rfl : w1 = (.long i1) := Option.some.inj ei1
  obtain ⟨i2, ei2⟩ := is_v g6
  obtain rfl : w2 = (.int i2) := Option.some.inj ei2
  obtain ⟨n, o, h1, h2, h3, _, L, rfl, ⟨N, rfl⟩, hq⟩ := law_ct l hw s.heap (Nat.le_refl _) i0 i1 i2 tables_1 p e ha hc hk s m _ below hf ((Spec.applies_iff_loose hf).mp happ).1 ⟨rfl, State.Warmed39.refl s, rfl⟩ trivial
  refine ⟨n, _, h1, h2, h3, hpost _ _ _ _ _ _ ⟨Cond.after_iff.mpr rfl, Cond.after_iff.mpr (eq_i res_at (Term.int_eval (1)) rfl), trivial⟩ ⟨hq.1, hq.2.1, (hq.2.2.sift fun y hy => Or.inr (N y hy)).mono (by decide) (by decide)⟩⟩
theorem main_1_1 : Claimed_1_1 := comes_1 fun _ _ _ _ _ _ h hF => ⟨h.1, hF⟩
theorem main_1_2 : Claimed_1_2 := comes_1 fun _ _ _ _ _ _ h hF => ⟨h.2.1, hF⟩
end Jvm.Pilot.@@N@@
namespace Jvm.Pilot.@@N@@
open Jvm Jvm.ClassFile Sem Op Lib Jvm.Free Jvm.Stand Jvm.Pilot.@@N@@.Jvm.D
/-! MADE BY PROGRAM (witnessworld.py) out of the Statement's table words and the real class files: 9 classes; the members and pool entries that the words name. The judged class is class 1, her method 3. -/
namespace start1
open Jvm.ClassFile
def u (s : String) : CpInfo := .utf8 (stringToUtf16 s)
/-- a pool by its gaps: so many unusable entries, then the entry; so many at the end -/
def gap : Nat → List CpInfo → List CpInfo
  | 0, r => r
  | n + 1, r => .unusable :: gap n r
def poolList (es : List (Nat × CpInfo)) (last : Nat) : List CpInfo := es.foldr (fun e r => gap e.1 (e.2 :: r)) (gap last [])
def pool (es : List (Nat × CpInfo)) (last : Nat) : Array CpInfo := ⟨poolList es last⟩
def fileOf (pool : Array CpInfo) (this : Nat) (attrs : Array Attribute := #[]) (ms : Array MethodInfo := #[]) (fl : Nat := 33) (sup : Nat := 0) (ifs : Array Nat := #[]) (fds : Array FieldInfo := #[]) : ClassFile where
  minorVersion := 0
  majorVersion := 65
  constantPool := pool
  accessFlags := fl
  thisClass := this
  superClass := sup
  interfaces := ifs
  fields := fds
  methods := ms
  attributes := attrs
def plain (name : String) (sup : Option ClassId) : Class where
  name := name
  kind := .ordinary
  loader := none
  accessFlags := 33
  super := sup
  interfaces := #[]
  cf := none
  fields := #[]
  methods := #[]
  instanceTypes := #[]
  staticTypes := #[]
  resolved := #[]
  callSites := []
  init := .initialized
  statics := none
  mirror := none

def pool0 : Array CpInfo := pool [(5, u "<init>"), (0, u "()V"), (1, .class_ 10), (1, u "java/lang/Object")] 113

def k0m0 : Method := { name := "<init>", desc := "()V", sig := { parameters := [], returnType := none }, accessFlags := 1, code := none }
/-- java/lang/Object -/
def k0 : Class := { plain "java/lang/Object" none with
  accessFlags := 33
  interfaces := #[]
  cf := some (fileOf pool0 8 #[] #[{ accessFlags := 1, nameIndex := 5, descriptorIndex := 6, attributes := #[] }] 33 0 #[] #[])
  fields := #[]
  methods := #[k0m0]
  instanceTypes := #[]
  staticTypes := #[]
  resolved := Array.replicate 124 none
  statics := none }

def pool1 : Array CpInfo := pool [(2, .class_ 4), (1, u "java/lang/Object"), (0, u "<init>"), (0, u "()V"), (0, .long 1099511628211), (1, .long 18397679294719823053), (1, .long 14181476777654086739), (1, .long 14695981039346656037), (1, .methodref 16 17), (0, .class_ 18), (0, .nameAndType 19 20), (0, u "termwright/index/WordFilterHashPinLaw"), (0, u "fnvStep"), (0, u "(JI)J"), (0, .methodref 22 23), (0, .class_ 24), (0, .nameAndType 25 26), (0, u "termwright/index/WordFilter"), (0, u "hash"), (0, u "([BII)J"), (0, .methodref 16 28), (0, .nameAndType 29 30), (0, u "mix"), (0, u "(J)J"), (2, u "law"), (0, u "(IJI)Z")] 5

def k1m0 : Method := { name := "<init>", desc := "()V", sig := { parameters := [], returnType := none }, accessFlags := 1, code := none }
def k1c1 : Code := { maxStack := 4, maxLocals := 3, code := method_2_code, exceptionTable := #[], attributes := #[] }
def k1m1 : Method := { name := "fnvStep", desc := "(JI)J", sig := { parameters := [.long, .int], returnType := some .long }, accessFlags := 10, code := some k1c1 }
def k1c2 : Code := { maxStack := 5, maxLocals := 4, code := method_3_code, exceptionTable := #[], attributes := #[] }
def k1m2 : Method := { name := "mix", desc := "(J)J", sig := { parameters := [.long], returnType := some .long }, accessFlags := 10, code := some k1c2 }
def k1c3 : Code := { maxStack := 5, maxLocals := 13, code := code, exceptionTable := #[], attributes := #[] }
def k1m3 : Method := { name := "law", desc := "(IJI)Z", sig := { parameters := [.int, .long, .int], returnType := some .boolean }, accessFlags := 9, code := some k1c3 }
/-- termwright/index/WordFilterHashPinLaw -/
def k1 : Class := { plain "termwright/index/WordFilterHashPinLaw" (some 0) with
  accessFlags := 49
  interfaces := #[]
  cf := some (fileOf pool1 16 #[] #[{ accessFlags := 1, nameIndex := 5, descriptorIndex := 6, attributes := #[] }, { accessFlags := 10, nameIndex := 19, descriptorIndex := 20, attributes := #[] }, { accessFlags := 10, nameIndex := 29, descriptorIndex := 30, attributes := #[] }, { accessFlags := 9, nameIndex := 33, descriptorIndex := 34, attributes := #[] }] 49 2 #[] #[])
  fields := #[]
  methods := #[k1m0, k1m1, k1m2, k1m3]
  instanceTypes := #[]
  staticTypes := #[]
  resolved := Array.replicate 40 none
  statics := none }

def pool2 : Array CpInfo := pool [(2, .class_ 4), (1, u "java/lang/Object"), (3, .class_ 10), (1, u "termwright/index/WordFilter"), (0, u "size"), (3, u "I"), (2, u "bits"), (0, u "[J"), (4, u "hash"), (0, u "([BII)J"), (37, .long 14695981039346656037), (1, .long 1099511628211), (1, .long 18397679294719823053), (1, .long 14181476777654086739), (5, u "BITS_PER_WORD"), (2, u "PROBES"), (1, u "LEAST_SIZE"), (0, u "MOST_SIZE"), (1, u "FNV_OFFSET_BASIS"), (0, u "J"), (0, u "FNV_PRIME")] 20

def k2c0 : Code := { maxStack := 5, maxLocals := 6, code := prog_94_method_8_code, exceptionTable := #[], attributes := #[] }
def k2m0 : Method := { name := "hash", desc := "([BII)J", sig := { parameters := [(.array .byte), .int, .int], returnType := some .long }, accessFlags := 8, code := some k2c0 }
/-- termwright/index/WordFilter -/
def k2 : Class := { plain "termwright/index/WordFilter" (some 0) with
  accessFlags := 48
  interfaces := #[]
  cf := some (fileOf pool2 8 #[] #[{ accessFlags := 8, nameIndex := 24, descriptorIndex := 25, attributes := #[] }] 48 2 #[] #[{ accessFlags := 24, nameIndex := 75, descriptorIndex := 15, attributes := #[] }, { accessFlags := 24, nameIndex := 78, descriptorIndex := 15, attributes := #[] }, { accessFlags := 24, nameIndex := 80, descriptorIndex := 15, attributes := #[] }, { accessFlags := 24, nameIndex := 81, descriptorIndex := 15, attributes := #[] }, { accessFlags := 26, nameIndex := 83, descriptorIndex := 84, attributes := #[] }, { accessFlags := 26, nameIndex := 85, descriptorIndex := 84, attributes := #[] }, { accessFlags := 18, nameIndex := 18, descriptorIndex := 19, attributes := #[] }, { accessFlags := 18, nameIndex := 11, descriptorIndex := 15, attributes := #[] }])
  fields := #[{ name := "BITS_PER_WORD", type := .int, accessFlags := 24, slot := 0, constantValue := 0 }, { name := "PROBES", type := .int, accessFlags := 24, slot := 1, constantValue := 0 }, { name := "LEAST_SIZE", type := .int, accessFlags := 24, slot := 2, constantValue := 0 }, { name := "MOST_SIZE", type := .int, accessFlags := 24, slot := 3, constantValue := 0 }, { name := "FNV_OFFSET_BASIS", type := .long, accessFlags := 26, slot := 4, constantValue := 0 }, { name := "FNV_PRIME", type := .long, accessFlags := 26, slot := 5, constantValue := 0 }, { name := "bits", type := (.array .long), accessFlags := 18, slot := 0, constantValue := 0 }, { name := "size", type := .int, accessFlags := 18, slot := 1, constantValue := 0 }]
  methods := #[k2m0]
  instanceTypes := #[(.array .long), .int]
  staticTypes := #[.int, .int, .int, .int, .long, .long]
  resolved := Array.replicate 106 none
  statics := none }

def pool3 : Array CpInfo := pool [(1, u "java/lang/Cloneable"), (0, .class_ 1), (0, u "java/lang/Object"), (0, .class_ 3)] 3

/-- java/lang/Cloneable -/
def k3 : Class := { plain "java/lang/Cloneable" (some 0) with
  accessFlags := 1537
  interfaces := #[]
  cf := some (fileOf pool3 2 #[] #[] 1537 4 #[] #[])
  fields := #[]
  methods := #[]
  instanceTypes := #[]
  staticTypes := #[]
  resolved := Array.replicate 8 none
  statics := none }

def pool4 : Array CpInfo := pool [(1, u "java/io/Serializable"), (0, .class_ 1), (0, u "java/lang/Object"), (0, .class_ 3)] 3

/-- java/io/Serializable -/
def k4 : Class := { plain "java/io/Serializable" (some 0) with
  accessFlags := 1537
  interfaces := #[]
  cf := some (fileOf pool4 2 #[] #[] 1537 4 #[] #[])
  fields := #[]
  methods := #[]
  instanceTypes := #[]
  staticTypes := #[]
  resolved := Array.replicate 8 none
  statics := none }

/-- the primitive byte -/
def k5 : Class := { plain "byte" none with kind := .primitive 'B', accessFlags := 0x411 }
/-- [B -/
def k6 : Class := { plain "[B" (some 0) with kind := .array 5 .byte, interfaces := #[3, 4], accessFlags := 1041 }

/-- the primitive int -/
def k7 : Class := { plain "int" none with kind := .primitive 'I', accessFlags := 0x411 }
/-- [I -/
def k8 : Class := { plain "[I" (some 0) with kind := .array 7 .int, interfaces := #[3, 4], accessFlags := 1041 }

def heap : Heap := #[]
def classes : Array Class := #[k0, k1, k2, k3, k4, k5, k6, k7, k8]
def interned : List (Array UInt16 × Addr) := []
def slotsUsed : Nat := 0
def theMethod : MethodId := ⟨1, 3⟩
def args0 : Array Value := #[.int 5, .long 3, .int 2]
def aboutOver (below : List Frame) : State where
  vm := { classes := classes, interned := interned.toArray }
  heap := heap
  slotsUsed := slotsUsed
  threads := #[{ frames := .invoking theMethod args0 :: below }]
def below0 : List Frame := [.native { method := ⟨0, 0⟩, args := #[] }]
def about1 : State := aboutOver below0
def p0 : Program := .bare "" "" ""
def e0 : Env := launch0.env 0 0 0
theorem w_frames : about1.frames = Frame.invoking theMethod args0 :: below0 := rfl
set_option maxRecDepth 65536 in
theorem w_args : argsFit about1.vm theMethod args0 = true := by decide +kernel
set_option maxRecDepth 65536 in
theorem w_heap : heapFits about1 = true := by decide +kernel
set_option maxRecDepth 65536 in
theorem w_runnable : about1.curStatus? = some .runnable := by decide +kernel
set_option maxRecDepth 65536 in
theorem w_alone : about1.alone = true := by decide +kernel
set_option maxRecDepth 65536 in
theorem w_named : about1.methodNamed? x = some theMethod := by decide +kernel
set_option maxRecDepth 65536 in
theorem w_hears : about1.hears theMethod below0 = true := by decide +kernel
set_option maxRecDepth 65536 in
theorem w_ripe : about1.ripe theMethod args0 below0 = true := by decide +kernel
theorem w_running : about1.status = .running := rfl
set_option maxRecDepth 65536 in
theorem w_room : about1.hasRoom e0.platform room_1 = true :=
  launch0.hasRoom_least _ room_1 (by decide +kernel) (by decide +kernel) (by decide +kernel) (by decide +kernel) (by decide +kernel) (by decide +kernel)
theorem allAtoms_all (ts : List Jvm.Cond) (a : Array Jvm.Value) (st : Jvm.State) : (allAtoms ts).before a st = ts.all (fun c => c.before a st) := by
  induction ts with
  | nil => rfl
  | cons c t ih =>
    show (Jvm.Cond.and c (allAtoms t)).before a st = _
    rw [Jvm.Cond.before_and, ih, List.all_cons]
def words1 : List Jvm.Cond := Jvm.Cond.code x code maxLocals ret :: tables_1
/-- a 'code' word, met by the world's own term for the bytes: nothing is compared byte by byte -/
theorem code_word {y : MethodName} {bytes : ByteArray} {mx : Nat} {rt : Option FieldType} {a : Array Value} {s : State} {m : MethodId} {meth : Method} {c : Code} (h1 : s.methodNamed? y = some m) (h2 : s.vm.method? m = some meth) (h3 : meth.code = some c) (h4 : c.code = bytes)
    (h5 : (c.maxLocals == mx && c.exceptionTable.isEmpty && decide (c.maxStack ≤ mostOperands) && decide (meth.sig.returnType = rt) && !meth.locks && decide (parseMethodDescriptor y.desc = some meth.sig)) = true) : (Jvm.Cond.code y bytes mx rt).before a s = true := by
  simp only [Bool.and_eq_true, beq_iff_eq, Bool.not_eq_true', decide_eq_true_eq] at h5
  obtain ⟨⟨⟨⟨⟨g1, g2⟩, g3⟩, g4⟩, g5⟩, g6⟩ := h5
  simp [Cond.before, Cond.holds, Cond.value, h1, h2, h3, h4, g1, g2, g3, g4, g5, g6]
def isCode : Jvm.Cond → Bool
  | .code _ _ _ _ => true
  | _ => false
theorem all_split {L : List Jvm.Cond} {P : Jvm.Cond → Bool} (h1 : L.all (fun c => isCode c || P c) = true) (h2 : ∀ c ∈ L.filter isCode, P c = true) : L.all P = true := by
  refine List.all_eq_true.mpr fun c hc => ?_
  have h := List.all_eq_true.mp h1 c hc
  rcases Bool.eq_false_or_eq_true (isCode c) with hi | hi
  · exact h2 c (List.mem_filter.mpr ⟨hc, hi⟩)
  · simpa [hi] using h
set_option maxRecDepth 65536 in
theorem w_c0 : (Jvm.Cond.code x code maxLocals ret).before args0 about1 = true := code_word (m := ⟨1, 3⟩) (meth := k1m3) (c := k1c3) (by decide +kernel) rfl rfl rfl (by decide +kernel)
set_option maxRecDepth 65536 in
theorem w_c1 : (Jvm.Cond.code ({ cls := "termwright/index/WordFilterHashPinLaw", name := "fnvStep", desc := "(JI)J" } : Jvm.MethodName) method_2_code (3 : Nat) (Option.some Jvm.ClassFile.FieldType.long)).before args0 about1 = true := code_word (m := ⟨1, 1⟩) (meth := k1m1) (c := k1c1) (by decide +kernel) rfl rfl rfl (by decide +kernel)
set_option maxRecDepth 65536 in
theorem w_c2 : (Jvm.Cond.code ({ cls := "termwright/index/WordFilter", name := "hash", desc := "([BII)J" } : Jvm.MethodName) prog_94_method_8_code (6 : Nat) (Option.some Jvm.ClassFile.FieldType.long)).before args0 about1 = true := code_word (m := ⟨2, 0⟩) (meth := k2m0) (c := k2c0) (by decide +kernel) rfl rfl rfl (by decide +kernel)
set_option maxRecDepth 65536 in
theorem w_c3 : (Jvm.Cond.code ({ cls := "termwright/index/WordFilterHashPinLaw", name := "mix", desc := "(J)J" } : Jvm.MethodName) method_3_code (4 : Nat) (Option.some Jvm.ClassFile.FieldType.long)).before args0 about1 = true := code_word (m := ⟨1, 2⟩) (meth := k1m2) (c := k1c2) (by decide +kernel) rfl rfl rfl (by decide +kernel)
def codes1 : List Jvm.Cond := [Jvm.Cond.code x code maxLocals ret, Jvm.Cond.code ({ cls := "termwright/index/WordFilterHashPinLaw", name := "fnvStep", desc := "(JI)J" } : Jvm.MethodName) method_2_code (3 : Nat) (Option.some Jvm.ClassFile.FieldType.long), Jvm.Cond.code ({ cls := "termwright/index/WordFilter", name := "hash", desc := "([BII)J" } : Jvm.MethodName) prog_94_method_8_code (6 : Nat) (Option.some Jvm.ClassFile.FieldType.long), Jvm.Cond.code ({ cls := "termwright/index/WordFilterHashPinLaw", name := "mix", desc := "(J)J" } : Jvm.MethodName) method_3_code (4 : Nat) (Option.some Jvm.ClassFile.FieldType.long)]
set_option maxRecDepth 65536 in
theorem codes_eq : words1.filter isCode = codes1 := rfl
theorem w_codes : ∀ c ∈ words1.filter isCode, c.before args0 about1 = true := by
  rw [codes_eq]
  intro c hc
  simp only [codes1, List.mem_cons, List.not_mem_nil, or_false] at hc
  rcases hc with rfl | rfl | rfl | rfl
  · exact w_c0
  · exact w_c1
  · exact w_c2
  · exact w_c3
set_option maxRecDepth 65536 in
theorem w_t1 : words1.all (fun c => isCode c || c.before args0 about1) = true := by decide +kernel
theorem w_tables : (allAtoms (Jvm.Cond.code x code maxLocals ret :: tables_1)).before args0 about1 = true := by
  rw [allAtoms_all]
  show words1.all (fun c => c.before args0 about1) = true
  refine all_split ?_ w_codes
  rw [w_t1]
set_option maxRecDepth 65536 in
theorem w_case : (Jvm.Cond.and given_1 narrow_1).before args0 about1 = true := by decide +kernel
theorem w_applies : (headSpec (Jvm.Cond.code x code maxLocals ret :: tables_1) room_1).applies x e0.platform about1 = true :=
  (Spec.applies_iff w_frames).mpr ⟨w_running, w_runnable, w_alone, w_named, w_hears, w_ripe, w_room, w_tables⟩
theorem atStart : AtStart classFile x code maxLocals ret World_1 tables_1 room_1 Calls_1 rest_1 Pre_1 launch0 p0 e0 about1 theMethod args0 below0 :=
  ⟨lists_1, trivial, launch0.admits_env _ _ _, launch0.least_env, fairChoices_fair.cas, fairChoices_fair.clock, w_frames, w_args, w_heap, w_applies, trivial, trivial, w_case⟩
end start1
theorem witness_1 : WitnessClaimed_1 := ⟨start1.p0, start1.e0, start1.about1, start1.theMethod, start1.args0, start1.below0, start1.atStart⟩
end Jvm.Pilot.@@N@@
