import JvmDerived
import JvmDerived.Pilot.@@N@@Statement
import JvmDerived.Pilot.@@N@@Code
set_option linter.unusedVariables false
set_option linter.unusedSimpArgs false
@@BLOCK:NumsL.lean.txt@@
namespace Jvm.OwnW
open Sem ClassFile Op Lib Jvm.Stand Jvm.Free Jvm.LawKit Jvm.RoadKit
theorem retI' {p : Program} {l : Launch} {e : Env} {R : Room} {s : State} {m : MethodId} {args : Array Value} {below : List Frame} {meth : Method} {c : Code} {T : State} {locs : List Loc} {cells slots : Nat} (X : Stand p l e R s m args below meth c T locs cells slots) (hx : p.tables.exec = Jvm.exec) {pc : Nat} {Ls : Array Slot} {z : Int32} {rest : List Value} (hret : meth.sig.returnType = some .int) (hd : decode c.code pc = .ok (.ireturn, 1)) {fs : List Frame}
    (hl : ∀ (f : JFrame) (acts : List Action), f.method = m → f.locked = none → f.entered = [] → (doReturn e (T.setTop f) acts (some (.int z))).1 = T.setFrames fs) : Steps p.tables e below (T.setTop (mkF m pc Ls (.int z :: rest))) (T.setFrames fs) :=
  retOut X hx hret rfl (Or.inl ⟨rfl, Or.inl rfl, z, rfl⟩) hd hl
end Jvm.OwnW
namespace Jvm.OwnW
open Sem ClassFile Op Lib Jvm.Stand Jvm.Free Jvm.LawKit Jvm.RoadKit
def ushrI (x y : Int32) : Int32 := (x.toUInt32 >>> (y &&& 31).toUInt32).toInt32
def shlI (x y : Int32) : Int32 := x <<< (y &&& 31)
def shrI (x y : Int32) : Int32 := x >>> (y &&& 31)
def shlJ (x : Int64) (y : Int32) : Int64 := x <<< (y &&& 0x3f).toInt64
def shrJ (x : Int64) (y : Int32) : Int64 := x >>> (y &&& 0x3f).toInt64
def ushrJ (x : Int64) (y : Int32) : Int64 := (x.toUInt64 >>> (y &&& 0x3f).toInt64.toUInt64).toInt64
def cmpJ (x y : Int64) : Int32 := if x > y then 1 else if x = y then 0 else -1
def i8 (x : Int32) : Int32 := x.toInt8.toInt32
def i16c (x : Int32) : Int32 := x.toUInt32.toUInt16.toUInt32.toInt32
/-- from T with g on top the run comes to its end, and P says of what it returns and of the heap -/
def Goes (p : Program) (e : Env) (below : List Frame) (s : State) (n0 : Nat) (P : Option Value → Heap → Prop) (k n : Nat) (T : State) (g : JFrame) : Prop :=
  ∃ s₂ o, Steps p.tables e below (T.setTop g) s₂ ∧ s₂.status = .running ∧ Ended s₂ below o ∧ ∃ v L, o = .returned v ∧ (Fr n0 L ∧ P v s₂.heap) ∧ FrameEnd s o s₂ L k n
/-- where a walk stands: nothing old is written, the heap is h -/
def Hr (p : Program) (l : Launch) (e : Env) (R : Room) (s : State) (m : MethodId) (args : Array Value) (below : List Frame) (meth : Method) (c : Code) (n0 : Nat) (h : Heap) (cells slots : Nat) (T : State) : Prop :=
  ∃ locs, Stand p l e R s m args below meth c T locs cells slots ∧ T.heap = h ∧ Fr n0 locs ∧ n0 ≤ s.heap.size
/-- what stays through a body -/
def Cx (p : Program) (s : State) (m : MethodId) (meth : Method) (c : Code) (code : ByteArray) (ml : Nat) (ret : Option FieldType) (own nm : String) (Z : State) (a0 : Array Value) (tabs : List Jvm.Cond) : Prop :=
  p.tables.exec = Jvm.exec ∧ c.code = code ∧ c.maxLocals = ml ∧ meth.sig.returnType = ret ∧ meth.locks = false ∧ s.vm.findClass own = some m.cls ∧ meth.name = nm ∧ Z.Warmed39 s.vm ∧ ∀ d ∈ tabs, d.before a0 Z = true
/-- a body's contract: called with these arguments at this heap it returns, nothing old is written, and P says the rest -/
def Ct (l : Launch) (y : MethodName) (bytes : ByteArray) (maxL : Nat) (ret : Option FieldType) (rm : Room) (Z : State) (as' : Array Value) (h : Heap) (n0 : Nat) (P : Option Value → Heap → Prop) : Prop :=
  ∀ ws, MetFree l y (head1 (Jvm.Cond.code y bytes maxL ret :: ws) rm) (fun a U => a = as' ∧ Z.Warmed39 U.vm ∧ U.heap = h) (fun _ _ _ _ _ => True) (fun _ U o U' => ∃ v L, o = .returned v ∧ (Fr n0 L ∧ P v U'.heap) ∧ FrameEnd U o U' L rm.cells rm.slots)
def up {α : Type} (g : Nat → α) (j : Nat) (v : α) : Nat → α := fun i => if i = j then v else g i
/-- an array of N places: place i holds f i -/
def ArV (Z : State) (h : Heap) (a : Addr) (ty : FieldType) (N : Nat) (f : Nat → Value) : Prop := ∃ cl : Cell, Arr Z h a cl ty ∧ cl.slots.size = N ∧ ∀ i, i < N → cl.slots[i]? = some (f i)
abbrev ArI (Z : State) (h : Heap) (a : Addr) (ty : FieldType) (N : Nat) (g : Nat → Int32) : Prop := ArV Z h a ty N (fun i => .int (g i))
abbrev ArJ (Z : State) (h : Heap) (a : Addr) (N : Nat) (g : Nat → Int64) : Prop := ArV Z h a .long N (fun i => .long (g i))
/-- an index as a natural number -/
def nt (j : Int32) : Nat := j.toInt.toNat
theorem nt_eq {j : Int32} (h : 0 ≤ j.toInt) : j.toInt = (nt j : Int) := by unfold nt; omega
theorem nt_lt {j : Int32} {N : Nat} (h : j.toInt < N) (h0 : 0 < N) : nt j < N := by unfold nt; omega
theorem add1 {x : Int32} (y : Int32) (d : Int) (hd : y.toInt = d) (h1 : -2147483648 ≤ x.toInt + d) (h2 : x.toInt + d < 2147483648) : (x + y).toInt = x.toInt + d := by
  have h := c_iadd x y
  have r := rng32 (x + y)
  omega
theorem sub1 {x : Int32} (y : Int32) (d : Int) (hd : y.toInt = d) (h1 : -2147483648 ≤ x.toInt - d) (h2 : x.toInt - d < 2147483648) : (x - y).toInt = x.toInt - d := by
  have h := c_isub x y
  have r := rng32 (x - y)
  omega
section W
variable {p : Program} {l : Launch} {e : Env} {R : Room} {s : State} {m : MethodId} {args : Array Value} {below : List Frame} {meth : Method} {c : Code} {T : State} {h h' : Heap} {cells slots : Nat} {n0 : Nat} {P : Option Value → Heap → Prop} {k n : Nat} {code : ByteArray} {ml : Nat} {ret : Option FieldType} {own nm : String} {Z : State} {a0 : Array Value} {tabs : List Jvm.Cond}
theorem Goes.of {g g' : JFrame} {T' : State} (st : ∀ target, Steps p.tables e below (T'.setTop g') target → Steps p.tables e below (T.setTop g) target) (K : Goes p e below s n0 P k n T' g') : Goes p e below s n0 P k n T g := by
  obtain ⟨s₂, o, h1, r⟩ := K
  exact ⟨s₂, o, st _ h1, r⟩
theorem Goes.imp {P' : Option Value → Heap → Prop} {g : JFrame} (hp : ∀ v h, P v h → P' v h) (K : Goes p e below s n0 P k n T g) : Goes p e below s n0 P' k n T g := by
  obtain ⟨s₂, o, h1, h2, h3, v, L, h4, h5, h6⟩ := K
  exact ⟨s₂, o, h1, h2, h3, v, L, h4, ⟨h5.1, hp _ _ h5.2⟩, h6⟩
theorem Ct.imp {y : MethodName} {bytes : ByteArray} {maxL : Nat} {rm : Room} {as' : Array Value} {P' : Option Value → Heap → Prop} (hp : ∀ v h, P v h → P' v h) (K : Ct l y bytes maxL ret rm Z as' h n0 P) : Ct l y bytes maxL ret rm Z as' h n0 P' := by
  intro ws p e ha hc hk s m args below hf happ hP hK
  obtain ⟨n, o, h1, h2, h3, v, L, h4, h5, h6⟩ := K ws p e ha hc hk s m args below hf happ hP hK
  exact ⟨n, o, h1, h2, h3, v, L, h4, ⟨h5.1, hp _ _ h5.2⟩, h6⟩
theorem Hr.size (X : Hr p l e R s m args below meth c n0 h cells slots T) : n0 ≤ h.size := by
  obtain ⟨locs, S, eT, N, q⟩ := X
  have q2 : s.heap.size ≤ T.heap.size := S.same.2.1
  rw [eT] at q2
  exact Nat.le_trans q q2
theorem Ct.of {y : MethodName} {bytes : ByteArray} {maxL : Nat} {rm : Room} {as' : Array Value} (hpl : plainFor y = true) (Ls : Array Slot) (hef : ∀ m, entryFrame m as' maxL = mkF m 0 Ls []) (hw : ∀ d ∈ tabs, d.before a0 Z = true) (hn0 : n0 ≤ h.size)
    (K : ∀ p e s m below meth c T, Cx p s m meth c bytes maxL ret y.cls y.name Z a0 tabs → Hr p l e rm s m as' below meth c n0 h 0 0 T → Goes p e below s n0 P rm.cells rm.slots T (mkF m 0 Ls [])) :
    Ct l y bytes maxL ret rm Z as' h n0 P := by
  intro ws
  refine MetFree.of_bodySF hpl hisR ?_
  intro p e s m args below meth c s₁ Bd hml0 hP hK
  obtain ⟨rfl, hZ, hh⟩ := hP
  obtain ⟨s₂, o, h1, r⟩ := K p e s m below meth c s₁ ⟨Bd.exec, Bd.bytes, hml0, Bd.returns, BodyLoose.notSynchronized Bd, findClass_of_methodNamed Bd.named, (name_of_methodNamed Bd.named Bd.method).1, hZ, hw⟩ ⟨[], Stand.of_body Bd, by rw [← hh, Bd.state]; rfl, Fr.nil n0, by rw [hh]; exact hn0⟩
  exact ⟨s₂, o, castTop (hef m) h1, r⟩

theorem w_iadd (X : Hr p l e R s m args below meth c n0 h cells slots T) (C : Cx p s m meth c code ml ret own nm Z a0 tabs) {pc : Nat} {Ls : Array Slot} {x y : Int32} {rest : List Value} (hd : decode code pc = .ok (.iadd, 1)) (K : Goes p e below s n0 P k n T (mkF m (pc + 1) Ls (.int (x + y) :: rest))) : Goes p e below s n0 P k n T (mkF m pc Ls (.int y :: .int x :: rest)) := by
  obtain ⟨locs, S, -, -, -⟩ := X
  exact Goes.of (fun _ kk => XS.iadd S.here C.1 rfl (hb C.2.1 hd) rfl kk) K
theorem w_isub (X : Hr p l e R s m args below meth c n0 h cells slots T) (C : Cx p s m meth c code ml ret own nm Z a0 tabs) {pc : Nat} {Ls : Array Slot} {x y : Int32} {rest : List Value} (hd : decode code pc = .ok (.isub, 1)) (K : Goes p e below s n0 P k n T (mkF m (pc + 1) Ls (.int (x - y) :: rest))) : Goes p e below s n0 P k n T (mkF m pc Ls (.int y :: .int x :: rest)) := by
  obtain ⟨locs, S, -, -, -⟩ := X
  exact Goes.of (fun _ kk => XS.isub S.here C.1 rfl (hb C.2.1 hd) rfl kk) K
theorem w_imul (X : Hr p l e R s m args below meth c n0 h cells slots T) (C : Cx p s m meth c code ml ret own nm Z a0 tabs) {pc : Nat} {Ls : Array Slot} {x y : Int32} {rest : List Value} (hd : decode code pc = .ok (.imul, 1)) (K : Goes p e below s n0 P k n T (mkF m (pc + 1) Ls (.int (x * y) :: rest))) : Goes p e below s n0 P k n T (mkF m pc Ls (.int y :: .int x :: rest)) := by
  obtain ⟨locs, S, -, -, -⟩ := X
  exact Goes.of (fun _ kk => XS.imul S.here C.1 rfl (hb C.2.1 hd) rfl kk) K
theorem w_iand (X : Hr p l e R s m args below meth c n0 h cells slots T) (C : Cx p s m meth c code ml ret own nm Z a0 tabs) {pc : Nat} {Ls : Array Slot} {x y : Int32} {rest : List Value} (hd : decode code pc = .ok (.iand, 1)) (K : Goes p e below s n0 P k n T (mkF m (pc + 1) Ls (.int (x &&& y) :: rest))) : Goes p e below s n0 P k n T (mkF m pc Ls (.int y :: .int x :: rest)) := by
  obtain ⟨locs, S, -, -, -⟩ := X
  exact Goes.of (fun _ kk => XS.iand S.here C.1 rfl (hb C.2.1 hd) rfl kk) K
theorem w_ior (X : Hr p l e R s m args below meth c n0 h cells slots T) (C : Cx p s m meth c code ml ret own nm Z a0 tabs) {pc : Nat} {Ls : Array Slot} {x y : Int32} {rest : List Value} (hd : decode code pc = .ok (.ior, 1)) (K : Goes p e below s n0 P k n T (mkF m (pc + 1) Ls (.int (x ||| y) :: rest))) : Goes p e below s n0 P k n T (mkF m pc Ls (.int y :: .int x :: rest)) := by
  obtain ⟨locs, S, -, -, -⟩ := X
  exact Goes.of (fun _ kk => XS.ior S.here C.1 rfl (hb C.2.1 hd) rfl kk) K
theorem w_ixor (X : Hr p l e R s m args below meth c n0 h cells slots T) (C : Cx p s m meth c code ml ret own nm Z a0 tabs) {pc : Nat} {Ls : Array Slot} {x y : Int32} {rest : List Value} (hd : decode code pc = .ok (.ixor, 1)) (K : Goes p e below s n0 P k n T (mkF m (pc + 1) Ls (.int (x ^^^ y) :: rest))) : Goes p e below s n0 P k n T (mkF m pc Ls (.int y :: .int x :: rest)) := by
  obtain ⟨locs, S, -, -, -⟩ := X
  exact Goes.of (fun _ kk => XS.ixor S.here C.1 rfl (hb C.2.1 hd) rfl kk) K
theorem w_ishl (X : Hr p l e R s m args below meth c n0 h cells slots T) (C : Cx p s m meth c code ml ret own nm Z a0 tabs) {pc : Nat} {Ls : Array Slot} {x y : Int32} {rest : List Value} (hd : decode code pc = .ok (.ishl, 1)) (K : Goes p e below s n0 P k n T (mkF m (pc + 1) Ls (.int (shlI x y) :: rest))) : Goes p e below s n0 P k n T (mkF m pc Ls (.int y :: .int x :: rest)) := by
  obtain ⟨locs, S, -, -, -⟩ := X
  exact Goes.of (fun _ kk => XS.ishl S.here C.1 rfl (hb C.2.1 hd) rfl kk) K
theorem w_ishr (X : Hr p l e R s m args below meth c n0 h cells slots T) (C : Cx p s m meth c code ml ret own nm Z a0 tabs) {pc : Nat} {Ls : Array Slot} {x y : Int32} {rest : List Value} (hd : decode code pc = .ok (.ishr, 1)) (K : Goes p e below s n0 P k n T (mkF m (pc + 1) Ls (.int (shrI x y) :: rest))) : Goes p e below s n0 P k n T (mkF m pc Ls (.int y :: .int x :: rest)) := by
  obtain ⟨locs, S, -, -, -⟩ := X
  exact Goes.of (fun _ kk => XS.ishr S.here C.1 rfl (hb C.2.1 hd) rfl kk) K
theorem w_iushr (X : Hr p l e R s m args below meth c n0 h cells slots T) (C : Cx p s m meth c code ml ret own nm Z a0 tabs) {pc : Nat} {Ls : Array Slot} {x y : Int32} {rest : List Value} (hd : decode code pc = .ok (.iushr, 1)) (K : Goes p e below s n0 P k n T (mkF m (pc + 1) Ls (.int (ushrI x y) :: rest))) : Goes p e below s n0 P k n T (mkF m pc Ls (.int y :: .int x :: rest)) := by
  obtain ⟨locs, S, -, -, -⟩ := X
  exact Goes.of (fun _ kk => XS.iushr S.here C.1 rfl (hb C.2.1 hd) rfl kk) K
theorem w_ladd (X : Hr p l e R s m args below meth c n0 h cells slots T) (C : Cx p s m meth c code ml ret own nm Z a0 tabs) {pc : Nat} {Ls : Array Slot} {x y : Int64} {rest : List Value} (hd : decode code pc = .ok (.ladd, 1)) (K : Goes p e below s n0 P k n T (mkF m (pc + 1) Ls (.long (x + y) :: rest))) : Goes p e below s n0 P k n T (mkF m pc Ls (.long y :: .long x :: rest)) := by
  obtain ⟨locs, S, -, -, -⟩ := X
  exact Goes.of (fun _ kk => XS.ladd S.here C.1 rfl (hb C.2.1 hd) rfl kk) K
theorem w_lsub (X : Hr p l e R s m args below meth c n0 h cells slots T) (C : Cx p s m meth c code ml ret own nm Z a0 tabs) {pc : Nat} {Ls : Array Slot} {x y : Int64} {rest : List Value} (hd : decode code pc = .ok (.lsub, 1)) (K : Goes p e below s n0 P k n T (mkF m (pc + 1) Ls (.long (x - y) :: rest))) : Goes p e below s n0 P k n T (mkF m pc Ls (.long y :: .long x :: rest)) := by
  obtain ⟨locs, S, -, -, -⟩ := X
  exact Goes.of (fun _ kk => XS.lsub S.here C.1 rfl (hb C.2.1 hd) rfl kk) K
theorem w_lmul (X : Hr p l e R s m args below meth c n0 h cells slots T) (C : Cx p s m meth c code ml ret own nm Z a0 tabs) {pc : Nat} {Ls : Array Slot} {x y : Int64} {rest : List Value} (hd : decode code pc = .ok (.lmul, 1)) (K : Goes p e below s n0 P k n T (mkF m (pc + 1) Ls (.long (x * y) :: rest))) : Goes p e below s n0 P k n T (mkF m pc Ls (.long y :: .long x :: rest)) := by
  obtain ⟨locs, S, -, -, -⟩ := X
  exact Goes.of (fun _ kk => XS.lmul S.here C.1 rfl (hb C.2.1 hd) rfl kk) K
theorem w_land (X : Hr p l e R s m args below meth c n0 h cells slots T) (C : Cx p s m meth c code ml ret own nm Z a0 tabs) {pc : Nat} {Ls : Array Slot} {x y : Int64} {rest : List Value} (hd : decode code pc = .ok (.land, 1)) (K : Goes p e below s n0 P k n T (mkF m (pc + 1) Ls (.long (x &&& y) :: rest))) : Goes p e below s n0 P k n T (mkF m pc Ls (.long y :: .long x :: rest)) := by
  obtain ⟨locs, S, -, -, -⟩ := X
  exact Goes.of (fun _ kk => XS.land S.here C.1 rfl (hb C.2.1 hd) rfl kk) K
theorem w_lor (X : Hr p l e R s m args below meth c n0 h cells slots T) (C : Cx p s m meth c code ml ret own nm Z a0 tabs) {pc : Nat} {Ls : Array Slot} {x y : Int64} {rest : List Value} (hd : decode code pc = .ok (.lor, 1)) (K : Goes p e below s n0 P k n T (mkF m (pc + 1) Ls (.long (x ||| y) :: rest))) : Goes p e below s n0 P k n T (mkF m pc Ls (.long y :: .long x :: rest)) := by
  obtain ⟨locs, S, -, -, -⟩ := X
  exact Goes.of (fun _ kk => XS.lor S.here C.1 rfl (hb C.2.1 hd) rfl kk) K
theorem w_lxor (X : Hr p l e R s m args below meth c n0 h cells slots T) (C : Cx p s m meth c code ml ret own nm Z a0 tabs) {pc : Nat} {Ls : Array Slot} {x y : Int64} {rest : List Value} (hd : decode code pc = .ok (.lxor, 1)) (K : Goes p e below s n0 P k n T (mkF m (pc + 1) Ls (.long (x ^^^ y) :: rest))) : Goes p e below s n0 P k n T (mkF m pc Ls (.long y :: .long x :: rest)) := by
  obtain ⟨locs, S, -, -, -⟩ := X
  exact Goes.of (fun _ kk => XS.lxor S.here C.1 rfl (hb C.2.1 hd) rfl kk) K
theorem w_lshl (X : Hr p l e R s m args below meth c n0 h cells slots T) (C : Cx p s m meth c code ml ret own nm Z a0 tabs) {pc : Nat} {Ls : Array Slot} {x : Int64} {y : Int32} {rest : List Value} (hd : decode code pc = .ok (.lshl, 1)) (K : Goes p e below s n0 P k n T (mkF m (pc + 1) Ls (.long (shlJ x y) :: rest))) : Goes p e below s n0 P k n T (mkF m pc Ls (.int y :: .long x :: rest)) := by
  obtain ⟨locs, S, -, -, -⟩ := X
  exact Goes.of (fun _ kk => XS.lshl S.here C.1 rfl (hb C.2.1 hd) rfl kk) K
theorem w_lshr (X : Hr p l e R s m args below meth c n0 h cells slots T) (C : Cx p s m meth c code ml ret own nm Z a0 tabs) {pc : Nat} {Ls : Array Slot} {x : Int64} {y : Int32} {rest : List Value} (hd : decode code pc = .ok (.lshr, 1)) (K : Goes p e below s n0 P k n T (mkF m (pc + 1) Ls (.long (shrJ x y) :: rest))) : Goes p e below s n0 P k n T (mkF m pc Ls (.int y :: .long x :: rest)) := by
  obtain ⟨locs, S, -, -, -⟩ := X
  exact Goes.of (fun _ kk => XS.lshr S.here C.1 rfl (hb C.2.1 hd) rfl kk) K
theorem w_lushr (X : Hr p l e R s m args below meth c n0 h cells slots T) (C : Cx p s m meth c code ml ret own nm Z a0 tabs) {pc : Nat} {Ls : Array Slot} {x : Int64} {y : Int32} {rest : List Value} (hd : decode code pc = .ok (.lushr, 1)) (K : Goes p e below s n0 P k n T (mkF m (pc + 1) Ls (.long (ushrJ x y) :: rest))) : Goes p e below s n0 P k n T (mkF m pc Ls (.int y :: .long x :: rest)) := by
  obtain ⟨locs, S, -, -, -⟩ := X
  exact Goes.of (fun _ kk => XS.lushr S.here C.1 rfl (hb C.2.1 hd) rfl kk) K
theorem w_lcmp (X : Hr p l e R s m args below meth c n0 h cells slots T) (C : Cx p s m meth c code ml ret own nm Z a0 tabs) {pc : Nat} {Ls : Array Slot} {x y : Int64} {rest : List Value} (hd : decode code pc = .ok (.lcmp, 1)) (K : Goes p e below s n0 P k n T (mkF m (pc + 1) Ls (.int (cmpJ x y) :: rest))) : Goes p e below s n0 P k n T (mkF m pc Ls (.long y :: .long x :: rest)) := by
  obtain ⟨locs, S, -, -, -⟩ := X
  exact Goes.of (fun _ kk => XS.lcmp S.here C.1 rfl (hb C.2.1 hd) rfl kk) K
theorem w_i2b (X : Hr p l e R s m args below meth c n0 h cells slots T) (C : Cx p s m meth c code ml ret own nm Z a0 tabs) {pc : Nat} {Ls : Array Slot} {x : Int32} {rest : List Value} (hd : decode code pc = .ok (.i2b, 1)) (K : Goes p e below s n0 P k n T (mkF m (pc + 1) Ls (.int (i8 x) :: rest))) : Goes p e below s n0 P k n T (mkF m pc Ls (.int x :: rest)) := by
  obtain ⟨locs, S, -, -, -⟩ := X
  exact Goes.of (fun _ kk => XS.i2b S.here C.1 rfl (hb C.2.1 hd) rfl kk) K
theorem w_i2c (X : Hr p l e R s m args below meth c n0 h cells slots T) (C : Cx p s m meth c code ml ret own nm Z a0 tabs) {pc : Nat} {Ls : Array Slot} {x : Int32} {rest : List Value} (hd : decode code pc = .ok (.i2c, 1)) (K : Goes p e below s n0 P k n T (mkF m (pc + 1) Ls (.int (i16c x) :: rest))) : Goes p e below s n0 P k n T (mkF m pc Ls (.int x :: rest)) := by
  obtain ⟨locs, S, -, -, -⟩ := X
  exact Goes.of (fun _ kk => XS.i2c S.here C.1 rfl (hb C.2.1 hd) rfl kk) K
theorem w_i2s (X : Hr p l e R s m args below meth c n0 h cells slots T) (C : Cx p s m meth c code ml ret own nm Z a0 tabs) {pc : Nat} {Ls : Array Slot} {x : Int32} {rest : List Value} (hd : decode code pc = .ok (.i2s, 1)) (K : Goes p e below s n0 P k n T (mkF m (pc + 1) Ls (.int (x.toInt16.toInt32) :: rest))) : Goes p e below s n0 P k n T (mkF m pc Ls (.int x :: rest)) := by
  obtain ⟨locs, S, -, -, -⟩ := X
  exact Goes.of (fun _ kk => XS.i2s S.here C.1 rfl (hb C.2.1 hd) rfl kk) K
theorem w_ineg (X : Hr p l e R s m args below meth c n0 h cells slots T) (C : Cx p s m meth c code ml ret own nm Z a0 tabs) {pc : Nat} {Ls : Array Slot} {x : Int32} {rest : List Value} (hd : decode code pc = .ok (.ineg, 1)) (K : Goes p e below s n0 P k n T (mkF m (pc + 1) Ls (.int (-x) :: rest))) : Goes p e below s n0 P k n T (mkF m pc Ls (.int x :: rest)) := by
  obtain ⟨locs, S, -, -, -⟩ := X
  exact Goes.of (fun _ kk => XS.ineg S.here C.1 rfl (hb C.2.1 hd) rfl kk) K
theorem w_i2l (X : Hr p l e R s m args below meth c n0 h cells slots T) (C : Cx p s m meth c code ml ret own nm Z a0 tabs) {pc : Nat} {Ls : Array Slot} {x : Int32} {rest : List Value} (hd : decode code pc = .ok (.i2l, 1)) (K : Goes p e below s n0 P k n T (mkF m (pc + 1) Ls (.long (x.toInt64) :: rest))) : Goes p e below s n0 P k n T (mkF m pc Ls (.int x :: rest)) := by
  obtain ⟨locs, S, -, -, -⟩ := X
  exact Goes.of (fun _ kk => XS.i2l S.here C.1 rfl (hb C.2.1 hd) rfl kk) K
theorem w_l2i (X : Hr p l e R s m args below meth c n0 h cells slots T) (C : Cx p s m meth c code ml ret own nm Z a0 tabs) {pc : Nat} {Ls : Array Slot} {x : Int64} {rest : List Value} (hd : decode code pc = .ok (.l2i, 1)) (K : Goes p e below s n0 P k n T (mkF m (pc + 1) Ls (.int (x.toInt32) :: rest))) : Goes p e below s n0 P k n T (mkF m pc Ls (.long x :: rest)) := by
  obtain ⟨locs, S, -, -, -⟩ := X
  exact Goes.of (fun _ kk => XS.l2i S.here C.1 rfl (hb C.2.1 hd) rfl kk) K
theorem w_lneg (X : Hr p l e R s m args below meth c n0 h cells slots T) (C : Cx p s m meth c code ml ret own nm Z a0 tabs) {pc : Nat} {Ls : Array Slot} {x : Int64} {rest : List Value} (hd : decode code pc = .ok (.lneg, 1)) (K : Goes p e below s n0 P k n T (mkF m (pc + 1) Ls (.long (-x) :: rest))) : Goes p e below s n0 P k n T (mkF m pc Ls (.long x :: rest)) := by
  obtain ⟨locs, S, -, -, -⟩ := X
  exact Goes.of (fun _ kk => XS.lneg S.here C.1 rfl (hb C.2.1 hd) rfl kk) K
theorem w_idiv (X : Hr p l e R s m args below meth c n0 h cells slots T) (C : Cx p s m meth c code ml ret own nm Z a0 tabs) {pc : Nat} {Ls : Array Slot} {x y : Int32} {rest : List Value} (hd : decode code pc = .ok (.idiv, 1)) (hy : y ≠ 0) (K : Goes p e below s n0 P k n T (mkF m (pc + 1) Ls (.int (x / y) :: rest))) : Goes p e below s n0 P k n T (mkF m pc Ls (.int y :: .int x :: rest)) := by
  obtain ⟨locs, S, -, -, -⟩ := X
  exact Goes.of (fun _ kk => XS.idiv S.here C.1 rfl (hb C.2.1 hd) rfl hy kk) K
theorem w_ldiv (X : Hr p l e R s m args below meth c n0 h cells slots T) (C : Cx p s m meth c code ml ret own nm Z a0 tabs) {pc : Nat} {Ls : Array Slot} {x y : Int64} {rest : List Value} (hd : decode code pc = .ok (.ldiv, 1)) (hy : y ≠ 0) (K : Goes p e below s n0 P k n T (mkF m (pc + 1) Ls (.long (x / y) :: rest))) : Goes p e below s n0 P k n T (mkF m pc Ls (.long y :: .long x :: rest)) := by
  obtain ⟨locs, S, -, -, -⟩ := X
  exact Goes.of (fun _ kk => XS.ldiv S.here C.1 rfl (hb C.2.1 hd) rfl hy kk) K
theorem w_irem (X : Hr p l e R s m args below meth c n0 h cells slots T) (C : Cx p s m meth c code ml ret own nm Z a0 tabs) {pc : Nat} {Ls : Array Slot} {x y : Int32} {rest : List Value} (hd : decode code pc = .ok (.irem, 1)) (hy : y ≠ 0) (K : Goes p e below s n0 P k n T (mkF m (pc + 1) Ls (.int (x % y) :: rest))) : Goes p e below s n0 P k n T (mkF m pc Ls (.int y :: .int x :: rest)) := by
  obtain ⟨locs, S, -, -, -⟩ := X
  rw [← irem_eq_mod x y] at K
  exact Goes.of (fun _ kk => XS.irem S.here C.1 rfl (hb C.2.1 hd) rfl hy kk) K
theorem w_lrem (X : Hr p l e R s m args below meth c n0 h cells slots T) (C : Cx p s m meth c code ml ret own nm Z a0 tabs) {pc : Nat} {Ls : Array Slot} {x y : Int64} {rest : List Value} (hd : decode code pc = .ok (.lrem, 1)) (hy : y ≠ 0) (K : Goes p e below s n0 P k n T (mkF m (pc + 1) Ls (.long (x % y) :: rest))) : Goes p e below s n0 P k n T (mkF m pc Ls (.long y :: .long x :: rest)) := by
  obtain ⟨locs, S, -, -, -⟩ := X
  rw [← lrem_mod x y] at K
  exact Goes.of (fun _ kk => XS.lrem S.here C.1 rfl (hb C.2.1 hd) rfl hy kk) K
theorem w_dup (X : Hr p l e R s m args below meth c n0 h cells slots T) (C : Cx p s m meth c code ml ret own nm Z a0 tabs) {pc : Nat} {Ls : Array Slot} {x : Value} {rest : List Value} (hd : decode code pc = .ok (.dup, 1)) (hc : x.category = 1) (K : Goes p e below s n0 P k n T (mkF m (pc + 1) Ls (x :: x :: rest))) : Goes p e below s n0 P k n T (mkF m pc Ls (x :: rest)) := by
  obtain ⟨locs, S, -, -, -⟩ := X
  exact Goes.of (fun _ kk => XS.dup S.here C.1 rfl (hb C.2.1 hd) rfl hc kk) K
theorem w_pop (X : Hr p l e R s m args below meth c n0 h cells slots T) (C : Cx p s m meth c code ml ret own nm Z a0 tabs) {pc : Nat} {Ls : Array Slot} {x : Value} {rest : List Value} (hd : decode code pc = .ok (.pop, 1)) (hc : x.category = 1) (K : Goes p e below s n0 P k n T (mkF m (pc + 1) Ls (rest))) : Goes p e below s n0 P k n T (mkF m pc Ls (x :: rest)) := by
  obtain ⟨locs, S, -, -, -⟩ := X
  exact Goes.of (fun _ kk => XS.pop S.here C.1 rfl (hb C.2.1 hd) rfl hc kk) K
theorem w_dup_x1 (X : Hr p l e R s m args below meth c n0 h cells slots T) (C : Cx p s m meth c code ml ret own nm Z a0 tabs) {pc : Nat} {Ls : Array Slot} {x y : Value} {rest : List Value} (hd : decode code pc = .ok (.dup_x1, 1)) (hc : x.category = 1) (hc' : y.category = 1) (K : Goes p e below s n0 P k n T (mkF m (pc + 1) Ls (x :: y :: x :: rest))) : Goes p e below s n0 P k n T (mkF m pc Ls (x :: y :: rest)) := by
  obtain ⟨locs, S, -, -, -⟩ := X
  exact Goes.of (fun _ kk => XS.dupX1 S.here C.1 rfl (hb C.2.1 hd) rfl hc hc' kk) K
theorem w_dup2 (X : Hr p l e R s m args below meth c n0 h cells slots T) (C : Cx p s m meth c code ml ret own nm Z a0 tabs) {pc : Nat} {Ls : Array Slot} {x y : Value} {rest : List Value} (hd : decode code pc = .ok (.dup2, 1)) (hc : x.category = 1) (hc' : y.category = 1) (K : Goes p e below s n0 P k n T (mkF m (pc + 1) Ls (x :: y :: x :: y :: rest))) : Goes p e below s n0 P k n T (mkF m pc Ls (x :: y :: rest)) := by
  obtain ⟨locs, S, -, -, -⟩ := X
  exact Goes.of (fun _ kk => XT.dup2 S.here C.1 rfl (hb C.2.1 hd) rfl hc hc' kk) K
theorem w_iload (X : Hr p l e R s m args below meth c n0 h cells slots T) (C : Cx p s m meth c code ml ret own nm Z a0 tabs) {pc : Nat} {Ls : Array Slot} {k0 : Nat} {x : Int32} {rest : List Value} (hd : decode code pc = .ok (.iload k0, 2)) (hl : Ls[k0]? = some (.val (.int x))) (K : Goes p e below s n0 P k n T (mkF m (pc + 2) Ls (.int x :: rest))) : Goes p e below s n0 P k n T (mkF m pc Ls rest) := by
  obtain ⟨locs, S, -, -, -⟩ := X
  exact Goes.of (fun _ kk => XS.iload S.here C.1 rfl (hb C.2.1 hd) hl kk) K
theorem w_istore (X : Hr p l e R s m args below meth c n0 h cells slots T) (C : Cx p s m meth c code ml ret own nm Z a0 tabs) {pc : Nat} {Ls : Array Slot} {k0 : Nat} {x : Int32} {rest : List Value} (hd : decode code pc = .ok (.istore k0, 2)) (Ls' : Array Slot) (hl : storeLocals Ls k0 (.int x) = some Ls') (K : Goes p e below s n0 P k n T (mkF m (pc + 2) Ls' rest)) : Goes p e below s n0 P k n T (mkF m pc Ls (.int x :: rest)) := by
  obtain ⟨locs, S, -, -, -⟩ := X
  exact Goes.of (fun _ kk => XS.istore S.here C.1 rfl (hb C.2.1 hd) rfl hl kk) K
theorem w_iloadN (X : Hr p l e R s m args below meth c n0 h cells slots T) (C : Cx p s m meth c code ml ret own nm Z a0 tabs) {pc : Nat} {Ls : Array Slot} {k0 : Fin 4} {x : Int32} {rest : List Value} (hd : decode code pc = .ok (.iload_n k0, 1)) (hl : Ls[k0.val]? = some (.val (.int x))) (K : Goes p e below s n0 P k n T (mkF m (pc + 1) Ls (.int x :: rest))) : Goes p e below s n0 P k n T (mkF m pc Ls rest) := by
  obtain ⟨locs, S, -, -, -⟩ := X
  exact Goes.of (fun _ kk => XS.iloadN S.here C.1 rfl (hb C.2.1 hd) hl kk) K
theorem w_istoreN (X : Hr p l e R s m args below meth c n0 h cells slots T) (C : Cx p s m meth c code ml ret own nm Z a0 tabs) {pc : Nat} {Ls : Array Slot} {k0 : Fin 4} {x : Int32} {rest : List Value} (hd : decode code pc = .ok (.istore_n k0, 1)) (Ls' : Array Slot) (hl : storeLocals Ls k0.val (.int x) = some Ls') (K : Goes p e below s n0 P k n T (mkF m (pc + 1) Ls' rest)) : Goes p e below s n0 P k n T (mkF m pc Ls (.int x :: rest)) := by
  obtain ⟨locs, S, -, -, -⟩ := X
  exact Goes.of (fun _ kk => XS.istoreN S.here C.1 rfl (hb C.2.1 hd) rfl hl kk) K
theorem w_lload (X : Hr p l e R s m args below meth c n0 h cells slots T) (C : Cx p s m meth c code ml ret own nm Z a0 tabs) {pc : Nat} {Ls : Array Slot} {k0 : Nat} {x : Int64} {rest : List Value} (hd : decode code pc = .ok (.lload k0, 2)) (hl : Ls[k0]? = some (.val (.long x))) (K : Goes p e below s n0 P k n T (mkF m (pc + 2) Ls (.long x :: rest))) : Goes p e below s n0 P k n T (mkF m pc Ls rest) := by
  obtain ⟨locs, S, -, -, -⟩ := X
  exact Goes.of (fun _ kk => XS.lload S.here C.1 rfl (hb C.2.1 hd) hl kk) K
theorem w_lstore (X : Hr p l e R s m args below meth c n0 h cells slots T) (C : Cx p s m meth c code ml ret own nm Z a0 tabs) {pc : Nat} {Ls : Array Slot} {k0 : Nat} {x : Int64} {rest : List Value} (hd : decode code pc = .ok (.lstore k0, 2)) (Ls' : Array Slot) (hl : storeLocals Ls k0 (.long x) = some Ls') (K : Goes p e below s n0 P k n T (mkF m (pc + 2) Ls' rest)) : Goes p e below s n0 P k n T (mkF m pc Ls (.long x :: rest)) := by
  obtain ⟨locs, S, -, -, -⟩ := X
  exact Goes.of (fun _ kk => XS.lstore S.here C.1 rfl (hb C.2.1 hd) rfl hl kk) K
theorem w_lloadN (X : Hr p l e R s m args below meth c n0 h cells slots T) (C : Cx p s m meth c code ml ret own nm Z a0 tabs) {pc : Nat} {Ls : Array Slot} {k0 : Fin 4} {x : Int64} {rest : List Value} (hd : decode code pc = .ok (.lload_n k0, 1)) (hl : Ls[k0.val]? = some (.val (.long x))) (K : Goes p e below s n0 P k n T (mkF m (pc + 1) Ls (.long x :: rest))) : Goes p e below s n0 P k n T (mkF m pc Ls rest) := by
  obtain ⟨locs, S, -, -, -⟩ := X
  exact Goes.of (fun _ kk => XS.lloadN S.here C.1 rfl (hb C.2.1 hd) hl kk) K
theorem w_lstoreN (X : Hr p l e R s m args below meth c n0 h cells slots T) (C : Cx p s m meth c code ml ret own nm Z a0 tabs) {pc : Nat} {Ls : Array Slot} {k0 : Fin 4} {x : Int64} {rest : List Value} (hd : decode code pc = .ok (.lstore_n k0, 1)) (Ls' : Array Slot) (hl : storeLocals Ls k0.val (.long x) = some Ls') (K : Goes p e below s n0 P k n T (mkF m (pc + 1) Ls' rest)) : Goes p e below s n0 P k n T (mkF m pc Ls (.long x :: rest)) := by
  obtain ⟨locs, S, -, -, -⟩ := X
  exact Goes.of (fun _ kk => XS.lstoreN S.here C.1 rfl (hb C.2.1 hd) rfl hl kk) K
theorem w_aload (X : Hr p l e R s m args below meth c n0 h cells slots T) (C : Cx p s m meth c code ml ret own nm Z a0 tabs) {pc : Nat} {Ls : Array Slot} {k0 : Nat} {x : Value} {rest : List Value} (hd : decode code pc = .ok (.aload k0, 2)) (hl : Ls[k0]? = some (.val x)) (hv : x.isRef = true) (K : Goes p e below s n0 P k n T (mkF m (pc + 2) Ls (x :: rest))) : Goes p e below s n0 P k n T (mkF m pc Ls rest) := by
  obtain ⟨locs, S, -, -, -⟩ := X
  exact Goes.of (fun _ kk => XS.aload S.here C.1 rfl (hb C.2.1 hd) hl hv kk) K
theorem w_astore (X : Hr p l e R s m args below meth c n0 h cells slots T) (C : Cx p s m meth c code ml ret own nm Z a0 tabs) {pc : Nat} {Ls : Array Slot} {k0 : Nat} {x : Value} {rest : List Value} (hd : decode code pc = .ok (.astore k0, 2)) (Ls' : Array Slot) (hl : storeLocals Ls k0 x = some Ls') (hv : x.isRef = true) (K : Goes p e below s n0 P k n T (mkF m (pc + 2) Ls' rest)) : Goes p e below s n0 P k n T (mkF m pc Ls (x :: rest)) := by
  obtain ⟨locs, S, -, -, -⟩ := X
  exact Goes.of (fun _ kk => XS.astore S.here C.1 rfl (hb C.2.1 hd) rfl hv hl kk) K
theorem w_aloadN (X : Hr p l e R s m args below meth c n0 h cells slots T) (C : Cx p s m meth c code ml ret own nm Z a0 tabs) {pc : Nat} {Ls : Array Slot} {k0 : Fin 4} {x : Value} {rest : List Value} (hd : decode code pc = .ok (.aload_n k0, 1)) (hl : Ls[k0.val]? = some (.val x)) (hv : x.isRef = true) (K : Goes p e below s n0 P k n T (mkF m (pc + 1) Ls (x :: rest))) : Goes p e below s n0 P k n T (mkF m pc Ls rest) := by
  obtain ⟨locs, S, -, -, -⟩ := X
  exact Goes.of (fun _ kk => XS.aloadN S.here C.1 rfl (hb C.2.1 hd) hl hv kk) K
theorem w_astoreN (X : Hr p l e R s m args below meth c n0 h cells slots T) (C : Cx p s m meth c code ml ret own nm Z a0 tabs) {pc : Nat} {Ls : Array Slot} {k0 : Fin 4} {x : Value} {rest : List Value} (hd : decode code pc = .ok (.astore_n k0, 1)) (Ls' : Array Slot) (hl : storeLocals Ls k0.val x = some Ls') (hv : x.isRef = true) (K : Goes p e below s n0 P k n T (mkF m (pc + 1) Ls' rest)) : Goes p e below s n0 P k n T (mkF m pc Ls (x :: rest)) := by
  obtain ⟨locs, S, -, -, -⟩ := X
  exact Goes.of (fun _ kk => XS.astoreN S.here C.1 rfl (hb C.2.1 hd) rfl hv hl kk) K
theorem w_iinc (X : Hr p l e R s m args below meth c n0 h cells slots T) (C : Cx p s m meth c code ml ret own nm Z a0 tabs) {pc : Nat} {Ls : Array Slot} {k0 : Nat} {cst : Int} {x : Int32} {rest : List Value} (hd : decode code pc = .ok (.iinc k0 cst, 3)) (v : Int32) (hv : Int32.ofInt cst = v) (hl : Ls[k0]? = some (.val (.int x))) (Ls' : Array Slot) (hl' : storeLocals Ls k0 (.int (x + v)) = some Ls') (K : Goes p e below s n0 P k n T (mkF m (pc + 3) Ls' rest)) : Goes p e below s n0 P k n T (mkF m pc Ls rest) := by
  obtain ⟨locs, S, -, -, -⟩ := X
  subst hv
  exact Goes.of (fun _ kk => XS.iinc S.here C.1 rfl (hb C.2.1 hd) hl hl' kk) K
theorem w_iconst (X : Hr p l e R s m args below meth c n0 h cells slots T) (C : Cx p s m meth c code ml ret own nm Z a0 tabs) {pc : Nat} {Ls : Array Slot} {i : Int} {rest : List Value} (hd : decode code pc = .ok (.iconst i, 1)) (v : Int32) (hv : Int32.ofInt i = v) (K : Goes p e below s n0 P k n T (mkF m (pc + 1) Ls (.int v :: rest))) : Goes p e below s n0 P k n T (mkF m pc Ls rest) := by
  obtain ⟨locs, S, -, -, -⟩ := X
  subst hv
  exact Goes.of (fun _ kk => XS.iconst S.here C.1 rfl (hb C.2.1 hd) kk) K
theorem w_bipush (X : Hr p l e R s m args below meth c n0 h cells slots T) (C : Cx p s m meth c code ml ret own nm Z a0 tabs) {pc : Nat} {Ls : Array Slot} {i : Int} {rest : List Value} (hd : decode code pc = .ok (.bipush i, 2)) (v : Int32) (hv : (Int8.ofInt i).toInt32 = v) (K : Goes p e below s n0 P k n T (mkF m (pc + 2) Ls (.int v :: rest))) : Goes p e below s n0 P k n T (mkF m pc Ls rest) := by
  obtain ⟨locs, S, -, -, -⟩ := X
  subst hv
  exact Goes.of (fun _ kk => XS.bipush S.here C.1 rfl (hb C.2.1 hd) kk) K
theorem w_sipush (X : Hr p l e R s m args below meth c n0 h cells slots T) (C : Cx p s m meth c code ml ret own nm Z a0 tabs) {pc : Nat} {Ls : Array Slot} {i : Int} {rest : List Value} (hd : decode code pc = .ok (.sipush i, 3)) (v : Int32) (hv : (Int16.ofInt i).toInt32 = v) (K : Goes p e below s n0 P k n T (mkF m (pc + 3) Ls (.int v :: rest))) : Goes p e below s n0 P k n T (mkF m pc Ls rest) := by
  obtain ⟨locs, S, -, -, -⟩ := X
  subst hv
  exact Goes.of (fun _ kk => XS.sipush S.here C.1 rfl (hb C.2.1 hd) kk) K
theorem w_lconst (X : Hr p l e R s m args below meth c n0 h cells slots T) (C : Cx p s m meth c code ml ret own nm Z a0 tabs) {pc : Nat} {Ls : Array Slot} {i : Fin 2} {rest : List Value} (hd : decode code pc = .ok (.lconst i, 1)) (v : Int64) (hv : Int64.ofNat i = v) (K : Goes p e below s n0 P k n T (mkF m (pc + 1) Ls (.long v :: rest))) : Goes p e below s n0 P k n T (mkF m pc Ls rest) := by
  obtain ⟨locs, S, -, -, -⟩ := X
  subst hv
  exact Goes.of (fun _ kk => XS.lconst S.here C.1 rfl (hb C.2.1 hd) kk) K
theorem w_aconst_null (X : Hr p l e R s m args below meth c n0 h cells slots T) (C : Cx p s m meth c code ml ret own nm Z a0 tabs) {pc : Nat} {Ls : Array Slot} {rest : List Value} (hd : decode code pc = .ok (.aconst_null, 1)) (K : Goes p e below s n0 P k n T (mkF m (pc + 1) Ls (.null :: rest))) : Goes p e below s n0 P k n T (mkF m pc Ls rest) := by
  obtain ⟨locs, S, -, -, -⟩ := X
  exact Goes.of (fun _ kk => XS.aconstNull S.here C.1 rfl (hb C.2.1 hd) kk) K
theorem w_ldcI (X : Hr p l e R s m args below meth c n0 h cells slots T) (C : Cx p s m meth c code ml ret own nm Z a0 tabs) {pc index : Nat} {Ls : Array Slot} {v : Int32} {rest : List Value} (hd : decode code pc = .ok (.ldc index, 2)) (i1 : Jvm.Cond.constant own index v ∈ tabs) (K : Goes p e below s n0 P k n T (mkF m (pc + 2) Ls (.int v :: rest))) : Goes p e below s n0 P k n T (mkF m pc Ls rest) := by
  obtain ⟨locs, S, -, -, -⟩ := X
  exact Goes.of (fun _ kk => S.ldcInt C.1 C.2.2.2.2.2.1 (mvT C.2.2.2.2.2.2.2.1 (C.2.2.2.2.2.2.2.2 _ i1)) (g := mkF m pc Ls rest) rfl (hb C.2.1 hd) _ kk) K
theorem w_ldcJ (X : Hr p l e R s m args below meth c n0 h cells slots T) (C : Cx p s m meth c code ml ret own nm Z a0 tabs) {pc index : Nat} {Ls : Array Slot} {v : Int64} {rest : List Value} (hd : decode code pc = .ok (.ldc2_w index, 3)) (i1 : Jvm.Cond.constantLong own index v ∈ tabs) (K : Goes p e below s n0 P k n T (mkF m (pc + 3) Ls (.long v :: rest))) : Goes p e below s n0 P k n T (mkF m pc Ls rest) := by
  obtain ⟨locs, S, -, -, -⟩ := X
  exact Goes.of (fun _ kk => S.ldc2Long C.1 C.2.2.2.2.2.1 (mvT C.2.2.2.2.2.2.2.1 (C.2.2.2.2.2.2.2.2 _ i1)) (g := mkF m pc Ls rest) rfl (hb C.2.1 hd) _ kk) K
theorem w_goto (X : Hr p l e R s m args below meth c n0 h cells slots T) (C : Cx p s m meth c code ml ret own nm Z a0 tabs) {pc : Nat} {Ls : Array Slot} {st : List Value} {o : Int} (hd : decode code pc = .ok (.goto o, 3)) (pc' : Nat) (ho : 0 ≤ (pc : Int) + o ∧ ((pc : Int) + o).toNat = pc') (K : Goes p e below s n0 P k n T (mkF m pc' Ls st)) : Goes p e below s n0 P k n T (mkF m pc Ls st) := by
  obtain ⟨locs, S, -, -, -⟩ := X
  exact Goes.of (fun _ kk => XS.goto S.here C.1 rfl (pc0 := pc) (pc' := pc') rfl (hb C.2.1 hd) ho.1 ho.2 kk) K
theorem w_icmp_lt (X : Hr p l e R s m args below meth c n0 h cells slots T) (C : Cx p s m meth c code ml ret own nm Z a0 tabs) {pc : Nat} {Ls : Array Slot} {x y : Int32} {rest : List Value} {o : Int} (hd : decode code pc = .ok (.if_icmp .lt o, 3)) (pc' : Nat) (ho : 0 ≤ (pc : Int) + o ∧ ((pc : Int) + o).toNat = pc') (Ky : x < y → Goes p e below s n0 P k n T (mkF m pc' Ls rest)) (Kn : ¬ (x < y) → Goes p e below s n0 P k n T (mkF m (pc + 3) Ls rest)) : Goes p e below s n0 P k n T (mkF m pc Ls (.int y :: .int x :: rest)) := by
  obtain ⟨locs, S, -, -, -⟩ := X
  by_cases q : x < y
  · exact Goes.of (fun _ kk => XS.icmpYes S.here C.1 rfl (pc0 := pc) (pc' := pc') rfl (hb C.2.1 hd) rfl (tlt q).1 ho.1 ho.2 kk) (Ky q)
  · exact Goes.of (fun _ kk => XS.icmpNo S.here C.1 rfl (hb C.2.1 hd) rfl (flt q).1 kk) (Kn q)
theorem w_if_lt (X : Hr p l e R s m args below meth c n0 h cells slots T) (C : Cx p s m meth c code ml ret own nm Z a0 tabs) {pc : Nat} {Ls : Array Slot} {x : Int32} {rest : List Value} {o : Int} (hd : decode code pc = .ok (.ifCond .lt o, 3)) (pc' : Nat) (ho : 0 ≤ (pc : Int) + o ∧ ((pc : Int) + o).toNat = pc') (Ky : x < 0 → Goes p e below s n0 P k n T (mkF m pc' Ls rest)) (Kn : ¬ (x < 0) → Goes p e below s n0 P k n T (mkF m (pc + 3) Ls rest)) : Goes p e below s n0 P k n T (mkF m pc Ls (.int x :: rest)) := by
  obtain ⟨locs, S, -, -, -⟩ := X
  by_cases q : x < 0
  · exact Goes.of (fun _ kk => XS.ifYes S.here C.1 rfl (pc0 := pc) (pc' := pc') rfl (hb C.2.1 hd) rfl ((if0 _ _).trans (tlt q).1) ho.1 ho.2 kk) (Ky q)
  · exact Goes.of (fun _ kk => XS.ifNo S.here C.1 rfl (hb C.2.1 hd) rfl ((if0 _ _).trans (flt q).1) kk) (Kn q)
theorem w_icmp_ge (X : Hr p l e R s m args below meth c n0 h cells slots T) (C : Cx p s m meth c code ml ret own nm Z a0 tabs) {pc : Nat} {Ls : Array Slot} {x y : Int32} {rest : List Value} {o : Int} (hd : decode code pc = .ok (.if_icmp .ge o, 3)) (pc' : Nat) (ho : 0 ≤ (pc : Int) + o ∧ ((pc : Int) + o).toNat = pc') (Ky : ¬ (x < y) → Goes p e below s n0 P k n T (mkF m pc' Ls rest)) (Kn : x < y → Goes p e below s n0 P k n T (mkF m (pc + 3) Ls rest)) : Goes p e below s n0 P k n T (mkF m pc Ls (.int y :: .int x :: rest)) := by
  obtain ⟨locs, S, -, -, -⟩ := X
  by_cases q : x < y
  · exact Goes.of (fun _ kk => XS.icmpNo S.here C.1 rfl (hb C.2.1 hd) rfl (tlt q).2.1 kk) (Kn q)
  · exact Goes.of (fun _ kk => XS.icmpYes S.here C.1 rfl (pc0 := pc) (pc' := pc') rfl (hb C.2.1 hd) rfl (flt q).2.1 ho.1 ho.2 kk) (Ky q)
theorem w_if_ge (X : Hr p l e R s m args below meth c n0 h cells slots T) (C : Cx p s m meth c code ml ret own nm Z a0 tabs) {pc : Nat} {Ls : Array Slot} {x : Int32} {rest : List Value} {o : Int} (hd : decode code pc = .ok (.ifCond .ge o, 3)) (pc' : Nat) (ho : 0 ≤ (pc : Int) + o ∧ ((pc : Int) + o).toNat = pc') (Ky : ¬ (x < 0) → Goes p e below s n0 P k n T (mkF m pc' Ls rest)) (Kn : x < 0 → Goes p e below s n0 P k n T (mkF m (pc + 3) Ls rest)) : Goes p e below s n0 P k n T (mkF m pc Ls (.int x :: rest)) := by
  obtain ⟨locs, S, -, -, -⟩ := X
  by_cases q : x < 0
  · exact Goes.of (fun _ kk => XS.ifNo S.here C.1 rfl (hb C.2.1 hd) rfl ((if0 _ _).trans (tlt q).2.1) kk) (Kn q)
  · exact Goes.of (fun _ kk => XS.ifYes S.here C.1 rfl (pc0 := pc) (pc' := pc') rfl (hb C.2.1 hd) rfl ((if0 _ _).trans (flt q).2.1) ho.1 ho.2 kk) (Ky q)
theorem w_icmp_gt (X : Hr p l e R s m args below meth c n0 h cells slots T) (C : Cx p s m meth c code ml ret own nm Z a0 tabs) {pc : Nat} {Ls : Array Slot} {x y : Int32} {rest : List Value} {o : Int} (hd : decode code pc = .ok (.if_icmp .gt o, 3)) (pc' : Nat) (ho : 0 ≤ (pc : Int) + o ∧ ((pc : Int) + o).toNat = pc') (Ky : y < x → Goes p e below s n0 P k n T (mkF m pc' Ls rest)) (Kn : ¬ (y < x) → Goes p e below s n0 P k n T (mkF m (pc + 3) Ls rest)) : Goes p e below s n0 P k n T (mkF m pc Ls (.int y :: .int x :: rest)) := by
  obtain ⟨locs, S, -, -, -⟩ := X
  by_cases q : y < x
  · exact Goes.of (fun _ kk => XS.icmpYes S.here C.1 rfl (pc0 := pc) (pc' := pc') rfl (hb C.2.1 hd) rfl (tlt q).2.2.1 ho.1 ho.2 kk) (Ky q)
  · exact Goes.of (fun _ kk => XS.icmpNo S.here C.1 rfl (hb C.2.1 hd) rfl (flt q).2.2.1 kk) (Kn q)
theorem w_if_gt (X : Hr p l e R s m args below meth c n0 h cells slots T) (C : Cx p s m meth c code ml ret own nm Z a0 tabs) {pc : Nat} {Ls : Array Slot} {x : Int32} {rest : List Value} {o : Int} (hd : decode code pc = .ok (.ifCond .gt o, 3)) (pc' : Nat) (ho : 0 ≤ (pc : Int) + o ∧ ((pc : Int) + o).toNat = pc') (Ky : 0 < x → Goes p e below s n0 P k n T (mkF m pc' Ls rest)) (Kn : ¬ (0 < x) → Goes p e below s n0 P k n T (mkF m (pc + 3) Ls rest)) : Goes p e below s n0 P k n T (mkF m pc Ls (.int x :: rest)) := by
  obtain ⟨locs, S, -, -, -⟩ := X
  by_cases q : 0 < x
  · exact Goes.of (fun _ kk => XS.ifYes S.here C.1 rfl (pc0 := pc) (pc' := pc') rfl (hb C.2.1 hd) rfl ((if0 _ _).trans (tlt q).2.2.1) ho.1 ho.2 kk) (Ky q)
  · exact Goes.of (fun _ kk => XS.ifNo S.here C.1 rfl (hb C.2.1 hd) rfl ((if0 _ _).trans (flt q).2.2.1) kk) (Kn q)
theorem w_icmp_le (X : Hr p l e R s m args below meth c n0 h cells slots T) (C : Cx p s m meth c code ml ret own nm Z a0 tabs) {pc : Nat} {Ls : Array Slot} {x y : Int32} {rest : List Value} {o : Int} (hd : decode code pc = .ok (.if_icmp .le o, 3)) (pc' : Nat) (ho : 0 ≤ (pc : Int) + o ∧ ((pc : Int) + o).toNat = pc') (Ky : ¬ (y < x) → Goes p e below s n0 P k n T (mkF m pc' Ls rest)) (Kn : y < x → Goes p e below s n0 P k n T (mkF m (pc + 3) Ls rest)) : Goes p e below s n0 P k n T (mkF m pc Ls (.int y :: .int x :: rest)) := by
  obtain ⟨locs, S, -, -, -⟩ := X
  by_cases q : y < x
  · exact Goes.of (fun _ kk => XS.icmpNo S.here C.1 rfl (hb C.2.1 hd) rfl (tlt q).2.2.2 kk) (Kn q)
  · exact Goes.of (fun _ kk => XS.icmpYes S.here C.1 rfl (pc0 := pc) (pc' := pc') rfl (hb C.2.1 hd) rfl (flt q).2.2.2 ho.1 ho.2 kk) (Ky q)
theorem w_if_le (X : Hr p l e R s m args below meth c n0 h cells slots T) (C : Cx p s m meth c code ml ret own nm Z a0 tabs) {pc : Nat} {Ls : Array Slot} {x : Int32} {rest : List Value} {o : Int} (hd : decode code pc = .ok (.ifCond .le o, 3)) (pc' : Nat) (ho : 0 ≤ (pc : Int) + o ∧ ((pc : Int) + o).toNat = pc') (Ky : ¬ (0 < x) → Goes p e below s n0 P k n T (mkF m pc' Ls rest)) (Kn : 0 < x → Goes p e below s n0 P k n T (mkF m (pc + 3) Ls rest)) : Goes p e below s n0 P k n T (mkF m pc Ls (.int x :: rest)) := by
  obtain ⟨locs, S, -, -, -⟩ := X
  by_cases q : 0 < x
  · exact Goes.of (fun _ kk => XS.ifNo S.here C.1 rfl (hb C.2.1 hd) rfl ((if0 _ _).trans (tlt q).2.2.2) kk) (Kn q)
  · exact Goes.of (fun _ kk => XS.ifYes S.here C.1 rfl (pc0 := pc) (pc' := pc') rfl (hb C.2.1 hd) rfl ((if0 _ _).trans (flt q).2.2.2) ho.1 ho.2 kk) (Ky q)
theorem w_icmp_eq (X : Hr p l e R s m args below meth c n0 h cells slots T) (C : Cx p s m meth c code ml ret own nm Z a0 tabs) {pc : Nat} {Ls : Array Slot} {x y : Int32} {rest : List Value} {o : Int} (hd : decode code pc = .ok (.if_icmp .eq o, 3)) (pc' : Nat) (ho : 0 ≤ (pc : Int) + o ∧ ((pc : Int) + o).toNat = pc') (Ky : x = y → Goes p e below s n0 P k n T (mkF m pc' Ls rest)) (Kn : ¬ (x = y) → Goes p e below s n0 P k n T (mkF m (pc + 3) Ls rest)) : Goes p e below s n0 P k n T (mkF m pc Ls (.int y :: .int x :: rest)) := by
  obtain ⟨locs, S, -, -, -⟩ := X
  by_cases q : x = y
  · exact Goes.of (fun _ kk => XS.icmpYes S.here C.1 rfl (pc0 := pc) (pc' := pc') rfl (hb C.2.1 hd) rfl (teq q).1 ho.1 ho.2 kk) (Ky q)
  · exact Goes.of (fun _ kk => XS.icmpNo S.here C.1 rfl (hb C.2.1 hd) rfl (feq q).1 kk) (Kn q)
theorem w_if_eq (X : Hr p l e R s m args below meth c n0 h cells slots T) (C : Cx p s m meth c code ml ret own nm Z a0 tabs) {pc : Nat} {Ls : Array Slot} {x : Int32} {rest : List Value} {o : Int} (hd : decode code pc = .ok (.ifCond .eq o, 3)) (pc' : Nat) (ho : 0 ≤ (pc : Int) + o ∧ ((pc : Int) + o).toNat = pc') (Ky : x = 0 → Goes p e below s n0 P k n T (mkF m pc' Ls rest)) (Kn : ¬ (x = 0) → Goes p e below s n0 P k n T (mkF m (pc + 3) Ls rest)) : Goes p e below s n0 P k n T (mkF m pc Ls (.int x :: rest)) := by
  obtain ⟨locs, S, -, -, -⟩ := X
  by_cases q : x = 0
  · exact Goes.of (fun _ kk => XS.ifYes S.here C.1 rfl (pc0 := pc) (pc' := pc') rfl (hb C.2.1 hd) rfl ((if0 _ _).trans (teq q).1) ho.1 ho.2 kk) (Ky q)
  · exact Goes.of (fun _ kk => XS.ifNo S.here C.1 rfl (hb C.2.1 hd) rfl ((if0 _ _).trans (feq q).1) kk) (Kn q)
theorem w_icmp_ne (X : Hr p l e R s m args below meth c n0 h cells slots T) (C : Cx p s m meth c code ml ret own nm Z a0 tabs) {pc : Nat} {Ls : Array Slot} {x y : Int32} {rest : List Value} {o : Int} (hd : decode code pc = .ok (.if_icmp .ne o, 3)) (pc' : Nat) (ho : 0 ≤ (pc : Int) + o ∧ ((pc : Int) + o).toNat = pc') (Ky : ¬ (x = y) → Goes p e below s n0 P k n T (mkF m pc' Ls rest)) (Kn : x = y → Goes p e below s n0 P k n T (mkF m (pc + 3) Ls rest)) : Goes p e below s n0 P k n T (mkF m pc Ls (.int y :: .int x :: rest)) := by
  obtain ⟨locs, S, -, -, -⟩ := X
  by_cases q : x = y
  · exact Goes.of (fun _ kk => XS.icmpNo S.here C.1 rfl (hb C.2.1 hd) rfl (teq q).2 kk) (Kn q)
  · exact Goes.of (fun _ kk => XS.icmpYes S.here C.1 rfl (pc0 := pc) (pc' := pc') rfl (hb C.2.1 hd) rfl (feq q).2 ho.1 ho.2 kk) (Ky q)
theorem w_if_ne (X : Hr p l e R s m args below meth c n0 h cells slots T) (C : Cx p s m meth c code ml ret own nm Z a0 tabs) {pc : Nat} {Ls : Array Slot} {x : Int32} {rest : List Value} {o : Int} (hd : decode code pc = .ok (.ifCond .ne o, 3)) (pc' : Nat) (ho : 0 ≤ (pc : Int) + o ∧ ((pc : Int) + o).toNat = pc') (Ky : ¬ (x = 0) → Goes p e below s n0 P k n T (mkF m pc' Ls rest)) (Kn : x = 0 → Goes p e below s n0 P k n T (mkF m (pc + 3) Ls rest)) : Goes p e below s n0 P k n T (mkF m pc Ls (.int x :: rest)) := by
  obtain ⟨locs, S, -, -, -⟩ := X
  by_cases q : x = 0
  · exact Goes.of (fun _ kk => XS.ifNo S.here C.1 rfl (hb C.2.1 hd) rfl ((if0 _ _).trans (teq q).2) kk) (Kn q)
  · exact Goes.of (fun _ kk => XS.ifYes S.here C.1 rfl (pc0 := pc) (pc' := pc') rfl (hb C.2.1 hd) rfl ((if0 _ _).trans (feq q).2) ho.1 ho.2 kk) (Ky q)
theorem cj_lt (x y : Int64) : cmpJ x y < 0 ↔ x < y := lw_lt x y
theorem cj_gt (x y : Int64) : 0 < cmpJ x y ↔ y < x := lw_gt x y
theorem cj_eq (x y : Int64) : cmpJ x y = 0 ↔ x = y := lw_eq x y
theorem w_ifJ_lt (X : Hr p l e R s m args below meth c n0 h cells slots T) (C : Cx p s m meth c code ml ret own nm Z a0 tabs) {pc : Nat} {Ls : Array Slot} {x y : Int64} {rest : List Value} {o : Int} (hd : decode code pc = .ok (.ifCond .lt o, 3)) (pc' : Nat) (ho : 0 ≤ (pc : Int) + o ∧ ((pc : Int) + o).toNat = pc') (Ky : x < y → Goes p e below s n0 P k n T (mkF m pc' Ls rest)) (Kn : ¬ (x < y) → Goes p e below s n0 P k n T (mkF m (pc + 3) Ls rest)) : Goes p e below s n0 P k n T (mkF m pc Ls (.int (cmpJ x y) :: rest)) :=
  w_if_lt X C hd pc' ho (fun q => Ky ((cj_lt _ _).mp q)) (fun q => Kn (fun r => q ((cj_lt _ _).mpr r)))
theorem w_ifJ_ge (X : Hr p l e R s m args below meth c n0 h cells slots T) (C : Cx p s m meth c code ml ret own nm Z a0 tabs) {pc : Nat} {Ls : Array Slot} {x y : Int64} {rest : List Value} {o : Int} (hd : decode code pc = .ok (.ifCond .ge o, 3)) (pc' : Nat) (ho : 0 ≤ (pc : Int) + o ∧ ((pc : Int) + o).toNat = pc') (Ky : ¬ (x < y) → Goes p e below s n0 P k n T (mkF m pc' Ls rest)) (Kn : x < y → Goes p e below s n0 P k n T (mkF m (pc + 3) Ls rest)) : Goes p e below s n0 P k n T (mkF m pc Ls (.int (cmpJ x y) :: rest)) :=
  w_if_ge X C hd pc' ho (fun q => Ky (fun r => q ((cj_lt _ _).mpr r))) (fun q => Kn ((cj_lt _ _).mp q))
theorem w_ifJ_gt (X : Hr p l e R s m args below meth c n0 h cells slots T) (C : Cx p s m meth c code ml ret own nm Z a0 tabs) {pc : Nat} {Ls : Array Slot} {x y : Int64} {rest : List Value} {o : Int} (hd : decode code pc = .ok (.ifCond .gt o, 3)) (pc' : Nat) (ho : 0 ≤ (pc : Int) + o ∧ ((pc : Int) + o).toNat = pc') (Ky : y < x → Goes p e below s n0 P k n T (mkF m pc' Ls rest)) (Kn : ¬ (y < x) → Goes p e below s n0 P k n T (mkF m (pc + 3) Ls rest)) : Goes p e below s n0 P k n T (mkF m pc Ls (.int (cmpJ x y) :: rest)) :=
  w_if_gt X C hd pc' ho (fun q => Ky ((cj_gt _ _).mp q)) (fun q => Kn (fun r => q ((cj_gt _ _).mpr r)))
theorem w_ifJ_le (X : Hr p l e R s m args below meth c n0 h cells slots T) (C : Cx p s m meth c code ml ret own nm Z a0 tabs) {pc : Nat} {Ls : Array Slot} {x y : Int64} {rest : List Value} {o : Int} (hd : decode code pc = .ok (.ifCond .le o, 3)) (pc' : Nat) (ho : 0 ≤ (pc : Int) + o ∧ ((pc : Int) + o).toNat = pc') (Ky : ¬ (y < x) → Goes p e below s n0 P k n T (mkF m pc' Ls rest)) (Kn : y < x → Goes p e below s n0 P k n T (mkF m (pc + 3) Ls rest)) : Goes p e below s n0 P k n T (mkF m pc Ls (.int (cmpJ x y) :: rest)) :=
  w_if_le X C hd pc' ho (fun q => Ky (fun r => q ((cj_gt _ _).mpr r))) (fun q => Kn ((cj_gt _ _).mp q))
theorem w_ifJ_eq (X : Hr p l e R s m args below meth c n0 h cells slots T) (C : Cx p s m meth c code ml ret own nm Z a0 tabs) {pc : Nat} {Ls : Array Slot} {x y : Int64} {rest : List Value} {o : Int} (hd : decode code pc = .ok (.ifCond .eq o, 3)) (pc' : Nat) (ho : 0 ≤ (pc : Int) + o ∧ ((pc : Int) + o).toNat = pc') (Ky : x = y → Goes p e below s n0 P k n T (mkF m pc' Ls rest)) (Kn : ¬ (x = y) → Goes p e below s n0 P k n T (mkF m (pc + 3) Ls rest)) : Goes p e below s n0 P k n T (mkF m pc Ls (.int (cmpJ x y) :: rest)) :=
  w_if_eq X C hd pc' ho (fun q => Ky ((cj_eq _ _).mp q)) (fun q => Kn (fun r => q ((cj_eq _ _).mpr r)))
theorem w_ifJ_ne (X : Hr p l e R s m args below meth c n0 h cells slots T) (C : Cx p s m meth c code ml ret own nm Z a0 tabs) {pc : Nat} {Ls : Array Slot} {x y : Int64} {rest : List Value} {o : Int} (hd : decode code pc = .ok (.ifCond .ne o, 3)) (pc' : Nat) (ho : 0 ≤ (pc : Int) + o ∧ ((pc : Int) + o).toNat = pc') (Ky : ¬ (x = y) → Goes p e below s n0 P k n T (mkF m pc' Ls rest)) (Kn : x = y → Goes p e below s n0 P k n T (mkF m (pc + 3) Ls rest)) : Goes p e below s n0 P k n T (mkF m pc Ls (.int (cmpJ x y) :: rest)) :=
  w_if_ne X C hd pc' ho (fun q => Ky (fun r => q ((cj_eq _ _).mpr r))) (fun q => Kn ((cj_eq _ _).mp q))
theorem w_ifnull_no (X : Hr p l e R s m args below meth c n0 h cells slots T) (C : Cx p s m meth c code ml ret own nm Z a0 tabs) {pc : Nat} {Ls : Array Slot} {a : Addr} {rest : List Value} {o : Int} (hd : decode code pc = .ok (.ifnull o, 3)) (K : Goes p e below s n0 P k n T (mkF m (pc + 3) Ls rest)) : Goes p e below s n0 P k n T (mkF m pc Ls (.ref a :: rest)) := by
  obtain ⟨locs, S, -, -, -⟩ := X
  exact Goes.of (fun _ kk => XS.ifnullNo S.here C.1 rfl (hb C.2.1 hd) rfl kk) K
theorem w_retI (X : Hr p l e R s m args below meth c n0 h cells slots T) (C : Cx p s m meth c code ml (some .int) own nm Z a0 tabs) {pc : Nat} {Ls : Array Slot} {z : Int32} {rest : List Value} (hd : decode code pc = .ok (.ireturn, 1)) (hP : P (some (.int z)) h) (hk : cells ≤ k := by decide) (hn : slots ≤ n := by decide) : Goes p e below s n0 P k n T (mkF m pc Ls (.int z :: rest)) := by
  obtain ⟨locs, S, eT, N, -⟩ := X
  obtain ⟨fs, hr, hrun, hended, hW, hsame⟩ := S.leave (v := some (.int z)) (fun h => by rw [C.2.2.2.1] at h; cases h) C.2.2.2.2.1
  refine ⟨_, _, retI' S C.1 C.2.2.2.1 (hb C.2.1 hd) hr, hrun, hended, _, _, rfl, ⟨N, ?_⟩, ⟨_, rfl⟩, hW, hsame.mono hk hn⟩
  show P _ T.heap
  rw [eT]
  exact hP
theorem w_ret_boolean (X : Hr p l e R s m args below meth c n0 h cells slots T) (C : Cx p s m meth c code ml (some .boolean) own nm Z a0 tabs) {pc : Nat} {Ls : Array Slot} {z : Int32} {rest : List Value} (hd : decode code pc = .ok (.ireturn, 1)) (hP : P (some (.int (z &&& 1))) h) (hk : cells ≤ k := by decide) (hn : slots ≤ n := by decide) : Goes p e below s n0 P k n T (mkF m pc Ls (.int z :: rest)) := by
  obtain ⟨locs, S, eT, N, -⟩ := X
  obtain ⟨fs, hr, hrun, hended, hW, hsame⟩ := S.leave (v := some (.int (z &&& 1))) (fun h => by rw [C.2.2.2.1] at h; cases h) C.2.2.2.2.1
  refine ⟨_, _, retN S C.1 (t := .boolean) C.2.2.2.1 (by simp) (hb C.2.1 hd) hr, hrun, hended, _, _, rfl, ⟨N, ?_⟩, ⟨_, rfl⟩, hW, hsame.mono hk hn⟩
  show P _ T.heap
  rw [eT]
  exact hP
theorem w_ret_byte (X : Hr p l e R s m args below meth c n0 h cells slots T) (C : Cx p s m meth c code ml (some .byte) own nm Z a0 tabs) {pc : Nat} {Ls : Array Slot} {z : Int32} {rest : List Value} (hd : decode code pc = .ok (.ireturn, 1)) (hP : P (some (.int (i8 z))) h) (hk : cells ≤ k := by decide) (hn : slots ≤ n := by decide) : Goes p e below s n0 P k n T (mkF m pc Ls (.int z :: rest)) := by
  obtain ⟨locs, S, eT, N, -⟩ := X
  obtain ⟨fs, hr, hrun, hended, hW, hsame⟩ := S.leave (v := some (.int (i8 z))) (fun h => by rw [C.2.2.2.1] at h; cases h) C.2.2.2.2.1
  refine ⟨_, _, retN S C.1 (t := .byte) C.2.2.2.1 (by simp) (hb C.2.1 hd) hr, hrun, hended, _, _, rfl, ⟨N, ?_⟩, ⟨_, rfl⟩, hW, hsame.mono hk hn⟩
  show P _ T.heap
  rw [eT]
  exact hP
theorem w_ret_char (X : Hr p l e R s m args below meth c n0 h cells slots T) (C : Cx p s m meth c code ml (some .char) own nm Z a0 tabs) {pc : Nat} {Ls : Array Slot} {z : Int32} {rest : List Value} (hd : decode code pc = .ok (.ireturn, 1)) (hP : P (some (.int (i16c z))) h) (hk : cells ≤ k := by decide) (hn : slots ≤ n := by decide) : Goes p e below s n0 P k n T (mkF m pc Ls (.int z :: rest)) := by
  obtain ⟨locs, S, eT, N, -⟩ := X
  obtain ⟨fs, hr, hrun, hended, hW, hsame⟩ := S.leave (v := some (.int (i16c z))) (fun h => by rw [C.2.2.2.1] at h; cases h) C.2.2.2.2.1
  refine ⟨_, _, retN S C.1 (t := .char) C.2.2.2.1 (by simp) (hb C.2.1 hd) hr, hrun, hended, _, _, rfl, ⟨N, ?_⟩, ⟨_, rfl⟩, hW, hsame.mono hk hn⟩
  show P _ T.heap
  rw [eT]
  exact hP
theorem w_retJ (X : Hr p l e R s m args below meth c n0 h cells slots T) (C : Cx p s m meth c code ml (some .long) own nm Z a0 tabs) {pc : Nat} {Ls : Array Slot} {z : Int64} (hd : decode code pc = .ok (.lreturn, 1)) (hP : P (some (.long z)) h) (hk : cells ≤ k := by decide) (hn : slots ≤ n := by decide) : Goes p e below s n0 P k n T (mkF m pc Ls [.long z]) := by
  obtain ⟨locs, S, eT, N, -⟩ := X
  obtain ⟨fs, hr, hrun, hended, hW, hsame⟩ := S.leave (v := some (.long z)) (fun h => by rw [C.2.2.2.1] at h; cases h) C.2.2.2.2.1
  refine ⟨_, _, S.lreturnOut C.1 C.2.2.2.1 (hb C.2.1 hd) hr, hrun, hended, _, _, rfl, ⟨N, ?_⟩, ⟨_, rfl⟩, hW, hsame.mono hk hn⟩
  show P _ T.heap
  rw [eT]
  exact hP
theorem w_retR (X : Hr p l e R s m args below meth c n0 h cells slots T) (C : Cx p s m meth c code ml ret own nm Z a0 tabs) {pc : Nat} {Ls : Array Slot} {t : FieldType} {a : Addr} {rest : List Value} (ht : t.isReference = true) (hret : ret = some t) (hd : decode code pc = .ok (.areturn, 1)) (hP : P (some (.ref a)) h) (hk : cells ≤ k := by decide) (hn : slots ≤ n := by decide) : Goes p e below s n0 P k n T (mkF m pc Ls (.ref a :: rest)) := by
  subst hret
  obtain ⟨locs, S, eT, N, -⟩ := X
  obtain ⟨fs, hr, hrun, hended, hW, hsame⟩ := S.leave (v := some (.ref a)) (fun h => by rw [C.2.2.2.1] at h; cases h) C.2.2.2.2.1
  refine ⟨_, _, retOut S C.1 C.2.2.2.1 (by cases t <;> rfl) (Or.inr (Or.inr (Or.inr (Or.inr ⟨rfl, ht, rfl⟩)))) (hb C.2.1 hd) hr, hrun, hended, _, _, rfl, ⟨N, ?_⟩, ⟨_, rfl⟩, hW, hsame.mono hk hn⟩
  show P _ T.heap
  rw [eT]
  exact hP
theorem w_retV (X : Hr p l e R s m args below meth c n0 h cells slots T) (C : Cx p s m meth c code ml none own nm Z a0 tabs) {pc : Nat} {Ls : Array Slot} (hd : decode code pc = .ok (.return_, 1)) (hP : P none h) (hk : cells ≤ k := by decide) (hn : slots ≤ n := by decide) : Goes p e below s n0 P k n T (mkF m pc Ls []) := by
  obtain ⟨locs, S, eT, N, -⟩ := X
  obtain ⟨fs, hr, hrun, hended, hW, hsame⟩ := S.leave (v := none) (fun _ => rfl) C.2.2.2.2.1
  refine ⟨_, _, S.returnOut C.1 C.2.2.2.1 (hb C.2.1 hd) hr, hrun, hended, _, _, rfl, ⟨N, ?_⟩, ⟨_, rfl⟩, hW, hsame.mono hk hn⟩
  show P _ T.heap
  rw [eT]
  exact hP
theorem w_callS (X : Hr p l e R s m args below meth c n0 h cells slots T) (C : Cx p s m meth c code ml ret own nm Z a0 tabs) {pc index : Nat} {Ls : Array Slot} {y : MethodName} {bytes : ByteArray} {maxL : Nat} {rt : Option FieldType} {rm : Room} {P' : Option Value → Heap → Prop} {argsL rest st : List Value} (hd : decode code pc = .ok (.invokestatic index, 3)) (i1 : Jvm.Cond.methodLink own index y ∈ tabs) (i2 : Jvm.Cond.static y ∈ tabs) (i3 : Jvm.Cond.initialized y.cls ∈ tabs) (i4 : Jvm.Cond.code y bytes maxL rt ∈ tabs) (hy : y.cls ≠ "java/lang/invoke/MethodHandle" ∧ y.cls ≠ "java/lang/invoke/VarHandle") {W : Nat} (hM : Ct l y bytes maxL rt rm Z argsL.toArray h n0 P') (hls : Ls.size = ml) (hlen : ∃ ps r, parseMethodDescriptor y.desc = some ⟨ps, r⟩ ∧ argsL.length = ps.length) (hst : st = argsL.reverse ++ rest) (hW : (rest.map fun v => v.category).sum ≤ W) (hf : rm.frames + 1 ≤ R.frames) (hl : W + (maxL + 11) + rm.locals ≤ R.locals) (hc : cells + rm.cells ≤ R.cells) (hs : slots + rm.slots ≤ R.slots)
    (K : ∀ v T', P' v T'.heap → Hr p l e R s m args below meth c n0 T'.heap (cells + rm.cells) (slots + rm.slots) T' → Goes p e below s n0 P k n T' (mkF m (pc + 3) Ls (v.toList ++ rest))) : Goes p e below s n0 P k n T (mkF m pc Ls st) := by
  obtain ⟨locs, S, eT, N, q0⟩ := X
  obtain ⟨ps, r, hp1, hp2⟩ := hlen
  have hZ := C.2.2.2.2.2.2.2.1
  have hw := C.2.2.2.2.2.2.2.2
  obtain ⟨v, _, ⟨T', L', k', n'⟩, -, X', ⟨Lc, hQ, l1, l2, l3⟩, stp⟩ := Jvm.LawKit.callS S C.1 (y := y) C.2.2.2.2.2.1 (mvT hZ (hw _ i1)) (mvT hZ (hw _ i2)) (mvT hZ (hw _ i3)) (mvT hZ (hw _ i4)) hy (backOf (W := W) (Q := fun v hp L => Fr n0 L ∧ P' v hp) (hM []) C.2.2.2.2.2.2.2.1 (C.2.2.2.2.2.2.2.2 _ i4) (C.2.2.2.2.2.2.2.2 _ i3) hf hl) (g := mkF m pc Ls st) rfl (by rw [C.2.2.1]; exact hls) (argsL := argsL) (rest := rest) (lenOf hp1 hp2) hst (by show 2 * 0 + _ ≤ _; rw [Nat.mul_zero, Nat.zero_add]; exact hW) (hb C.2.1 hd) (fun _ _ => ⟨rfl, eT, hc, hs⟩)
  dsimp only [Pt.U, Pt.locs, Pt.cells, Pt.slots] at X' l1 l2 l3 stp hQ
  subst l1 l2 l3
  exact Goes.of stp (K v T' hQ.2 ⟨_, X', rfl, Fr.app N hQ.1, q0⟩)
theorem w_callI (X : Hr p l e R s m args below meth c n0 h cells slots T) (C : Cx p s m meth c code ml ret own nm Z a0 tabs) {pc index : Nat} {Ls : Array Slot} {y : MethodName} {bytes : ByteArray} {maxL : Nat} {rm : Room} {P' : Option Value → Heap → Prop} {a : Addr} {argsL rest st : List Value} (hd : decode code pc = .ok (.invokespecial index, 3)) (i1 : Jvm.Cond.methodLink own index y ∈ tabs) (i2 : Jvm.Cond.instanceMethod y ∈ tabs) (i3 : Jvm.Cond.initialized y.cls ∈ tabs) (i4 : Jvm.Cond.code y bytes maxL none ∈ tabs) (hn1 : y.name = "<init>") (hy : y.cls ≠ "java/lang/invoke/MethodHandle" ∧ y.cls ≠ "java/lang/invoke/VarHandle") {W : Nat} (hM : Ct l y bytes maxL none rm Z (.ref a :: argsL).toArray h n0 P') (hls : Ls.size = ml) (hlen : ∃ ps r, parseMethodDescriptor y.desc = some ⟨ps, r⟩ ∧ argsL.length = ps.length) (hst : st = argsL.reverse ++ .ref a :: rest) (hW : (rest.map fun v => v.category).sum ≤ W) (hf : rm.frames + 1 ≤ R.frames) (hl : W + (maxL + 11) + rm.locals ≤ R.locals) (hc : cells + rm.cells ≤ R.cells) (hs : slots + rm.slots ≤ R.slots)
    (K : ∀ v T', P' v T'.heap → Hr p l e R s m args below meth c n0 T'.heap (cells + rm.cells) (slots + rm.slots) T' → Goes p e below s n0 P k n T' (mkF m (pc + 3) Ls (v.toList ++ rest))) : Goes p e below s n0 P k n T (mkF m pc Ls st) := by
  obtain ⟨locs, S, eT, N, q0⟩ := X
  obtain ⟨ps, r, hp1, hp2⟩ := hlen
  have hZ := C.2.2.2.2.2.2.2.1
  have hw := C.2.2.2.2.2.2.2.2
  obtain ⟨v, _, ⟨T', L', k', n'⟩, -, X', ⟨Lc, hQ, l1, l2, l3⟩, stp⟩ := S.specialBack C.1 (y := y) hn1 C.2.2.2.2.2.1 (mvT hZ (hw _ i1)) (mvT hZ (hw _ i2)) (mvT hZ (hw _ i4)) hy (backOf (W := W) (Q := fun v hp L => Fr n0 L ∧ P' v hp) (hM []) C.2.2.2.2.2.2.2.1 (C.2.2.2.2.2.2.2.2 _ i4) (C.2.2.2.2.2.2.2.2 _ i3) hf hl) (g := mkF m pc Ls st) rfl (by rw [C.2.2.1]; exact hls) (Steps.refl _) (a := a) (argsL := argsL) (rest := rest) (lenOf hp1 hp2) hst (by show 2 * 0 + _ ≤ _; rw [Nat.mul_zero, Nat.zero_add]; exact hW) (hb C.2.1 hd) (fun _ _ => ⟨rfl, eT, hc, hs⟩)
  dsimp only [Pt.U, Pt.locs, Pt.cells, Pt.slots] at X' l1 l2 l3 stp hQ
  subst l1 l2 l3
  exact Goes.of (fun _ kk => stp.trans kk) (K v T' hQ.2 ⟨_, X', rfl, Fr.app N hQ.1, q0⟩)
theorem w_callV (X : Hr p l e R s m args below meth c n0 h cells slots T) (C : Cx p s m meth c code ml ret own nm Z a0 tabs) {pc index : Nat} {Ls : Array Slot} {y : MethodName} {bytes : ByteArray} {maxL : Nat} {rt : Option FieldType} {rm : Room} {P' : Option Value → Heap → Prop} {a : Addr} {argsL rest st : List Value} (hd : decode code pc = .ok (.invokevirtual index, 3)) (i1 : Jvm.Cond.methodLink own index y ∈ tabs) (i2 : Jvm.Cond.instanceMethod y ∈ tabs) (i3 : Jvm.Cond.initialized y.cls ∈ tabs) (i4 : Jvm.Cond.code y bytes maxL rt ∈ tabs) (i5 : Jvm.Cond.declares y ∈ tabs) (i6 : Jvm.Cond.selects y.cls y y ∈ tabs) (E : Exa Z h a y.cls) (hy : y.cls ≠ "java/lang/invoke/MethodHandle" ∧ y.cls ≠ "java/lang/invoke/VarHandle") {W : Nat} (hM : Ct l y bytes maxL rt rm Z (.ref a :: argsL).toArray h n0 P') (hls : Ls.size = ml) (hlen : ∃ ps r, parseMethodDescriptor y.desc = some ⟨ps, r⟩ ∧ argsL.length = ps.length) (hst : st = argsL.reverse ++ .ref a :: rest) (hW : (rest.map fun v => v.category).sum ≤ W) (hf : rm.frames + 1 ≤ R.frames) (hl : W + (maxL + 11) + rm.locals ≤ R.locals) (hc : cells + rm.cells ≤ R.cells) (hs : slots + rm.slots ≤ R.slots)
    (K : ∀ v T', P' v T'.heap → Hr p l e R s m args below meth c n0 T'.heap (cells + rm.cells) (slots + rm.slots) T' → Goes p e below s n0 P k n T' (mkF m (pc + 3) Ls (v.toList ++ rest))) : Goes p e below s n0 P k n T (mkF m pc Ls st) := by
  obtain ⟨locs, S, eT, N, q0⟩ := X
  obtain ⟨ps, r, hp1, hp2⟩ := hlen
  have hZ := C.2.2.2.2.2.2.2.1
  have hw := C.2.2.2.2.2.2.2.2
  obtain ⟨cB, kB, qa, qb, qc⟩ := isOf hZ eT E
  obtain ⟨v, _, ⟨T', L', k', n'⟩, -, X', ⟨Lc, hQ, l1, l2, l3⟩, stp⟩ := S.virtualBack C.1 (y := y) (z := y) C.2.2.2.2.2.1 (mvT hZ (hw _ i1)) (mvT hZ (hw _ i5)) (notFace_of_selects (args := #[]) (mvT hZ (hw _ i6))) (mvT hZ (hw _ i6)) (mvT hZ (hw _ i2)) hy (backOf (W := W) (Q := fun v hp L => Fr n0 L ∧ P' v hp) (hM []) C.2.2.2.2.2.2.2.1 (C.2.2.2.2.2.2.2.2 _ i4) (C.2.2.2.2.2.2.2.2 _ i3) hf hl) qa qc (g := mkF m pc Ls st) rfl (by rw [C.2.2.1]; exact hls) (Steps.refl _) (argsL := argsL) (rest := rest) (lenOf hp1 hp2) hst (by show 2 * 0 + _ ≤ _; rw [Nat.mul_zero, Nat.zero_add]; exact hW) (hb C.2.1 hd) (fun _ _ => ⟨rfl, eT, hc, hs⟩)
  dsimp only [Pt.U, Pt.locs, Pt.cells, Pt.slots] at X' l1 l2 l3 stp hQ
  subst l1 l2 l3
  exact Goes.of (fun _ kk => stp.trans kk) (K v T' hQ.2 ⟨_, X', rfl, Fr.app N hQ.1, q0⟩)
theorem w_callP (X : Hr p l e R s m args below meth c n0 h cells slots T) (C : Cx p s m meth c code ml ret own nm Z a0 tabs) {pc index : Nat} {Ls : Array Slot} {y : MethodName} {bytes : ByteArray} {maxL : Nat} {rt : Option FieldType} {rm : Room} {w : Value} {argsL rest st : List Value} {W : Nat} (hd : decode code pc = .ok (.invokestatic index, 3)) (i1 : Jvm.Cond.methodLink own index y ∈ tabs) (i2 : Jvm.Cond.static y ∈ tabs) (i3 : Jvm.Cond.initialized y.cls ∈ tabs) (i4 : Jvm.Cond.code y bytes maxL rt ∈ tabs) (hy : y.cls ≠ "java/lang/invoke/MethodHandle" ∧ y.cls ≠ "java/lang/invoke/VarHandle") (hM : Ct l y bytes maxL rt rm Z argsL.toArray h n0 (fun v hp => v = some w ∧ hp = h)) (hr0 : rm.cells = 0) (hr1 : rm.slots = 0) (hls : Ls.size = ml) (hlen : ∃ ps r, parseMethodDescriptor y.desc = some ⟨ps, r⟩ ∧ argsL.length = ps.length) (hst : st = argsL.reverse ++ rest) (hW : (rest.map fun v => v.category).sum ≤ W) (hf : rm.frames + 1 ≤ R.frames) (hl : W + (maxL + 11) + rm.locals ≤ R.locals) (hc : cells ≤ R.cells) (hs : slots ≤ R.slots)
    (K : ∀ T', Hr p l e R s m args below meth c n0 h cells slots T' → Goes p e below s n0 P k n T' (mkF m (pc + 3) Ls (w :: rest))) : Goes p e below s n0 P k n T (mkF m pc Ls st) := by
  refine w_callS X C hd i1 i2 i3 i4 hy hM hls hlen hst hW hf hl (by rw [hr0]; exact hc) (by rw [hr1]; exact hs) ?_
  rintro v T' ⟨rfl, e1⟩ X'
  rw [e1, hr0, hr1] at X'
  exact K T' X'
theorem w_initO (X : Hr p l e R s m args below meth c n0 h cells slots T) (C : Cx p s m meth c code ml ret own nm Z a0 tabs) {pc index : Nat} {Ls : Array Slot} {a : Addr} {rest : List Value} (hd : decode code pc = .ok (.invokespecial index, 3)) (i1 : Jvm.Cond.methodLink own index Lib.objectInit ∈ tabs) (i2 : Jvm.Cond.instanceMethod Lib.objectInit ∈ tabs) (i3 : Jvm.Cond.code Lib.objectInit ⟨#[0xb1]⟩ 1 none ∈ tabs) (hls : Ls.size = ml) {W : Nat} (hW : (rest.map fun v => v.category).sum ≤ W) (hf : 1 ≤ R.frames) (hl : W + 12 ≤ R.locals)
    (K : ∀ T', Hr p l e R s m args below meth c n0 h cells slots T' → Goes p e below s n0 P k n T' (mkF m (pc + 3) Ls rest)) : Goes p e below s n0 P k n T (mkF m pc Ls (.ref a :: rest)) := by
  obtain ⟨locs, S, eT, N, q0⟩ := X
  have hZ := C.2.2.2.2.2.2.2.1
  have hw := C.2.2.2.2.2.2.2.2
  obtain ⟨T', X', e', st⟩ := initO S C.1 hZ C.2.2.2.2.2.1 (hw _ i1) (hw _ i2) (hw _ i3) eT (g := mkF m pc Ls (.ref a :: rest)) rfl (by rw [C.2.2.1]; exact hls) rfl (hb C.2.1 hd) hf (W := W) (by show 2 * 0 + _ ≤ _; rw [Nat.mul_zero, Nat.zero_add]; exact hW) hl
  exact Goes.of st (K T' ⟨_, X', e', N, q0⟩)
theorem w_getfield (X : Hr p l e R s m args below meth c n0 h cells slots T) (C : Cx p s m meth c code ml ret own nm Z a0 tabs) {pc index : Nat} {Ls : Array Slot} {O nf d : String} {a : Addr} {v : Value} {rest : List Value} (hd : decode code pc = .ok (.getfield index, 3)) (i1 : Jvm.Cond.fieldLink own index O nf d ∈ tabs) (F : Fld Z h a O nf d v)
    (K : ∀ T', Hr p l e R s m args below meth c n0 h cells slots T' → Goes p e below s n0 P k n T' (mkF m (pc + 3) Ls (v :: rest))) : Goes p e below s n0 P k n T (mkF m pc Ls (.ref a :: rest)) := by
  obtain ⟨locs, S, eT, N, q0⟩ := X
  obtain ⟨T', X', e', st⟩ := getF S C.1 C.2.2.2.2.2.2.2.1 C.2.2.2.2.2.1 (host := "") (Or.inl (C.2.2.2.2.2.2.2.2 _ i1)) Via.refl eT F (g := mkF m pc Ls (.ref a :: rest)) rfl rfl (hb C.2.1 hd)
  exact Goes.of st (K T' ⟨_, X', e', N, q0⟩)
theorem w_putfield (X : Hr p l e R s m args below meth c n0 h cells slots T) (C : Cx p s m meth c code ml ret own nm Z a0 tabs) {pc index kk0 : Nat} {Ls : Array Slot} {O nf d Cc : String} {ty : FieldType} {a : Addr} {v old : Value} {rest : List Value} (hd : decode code pc = .ok (.putfield index, 3)) (i1 : Jvm.Cond.fieldLink own index O nf d ∈ tabs) (F : Fld Z h a O nf d old) (E : Exa Z h a Cc) (i2 : Jvm.Cond.lays Cc O nf d ∈ tabs ∨ (Jvm.Cond.laysFinal Cc O nf d ∈ tabs ∧ own = O ∧ nm = "<init>")) (i3 : Jvm.Cond.instantiable Cc kk0 ∈ tabs) (hty : parseFieldDescriptor d = some ty) (hnw : narrow ty v = v) (hft : fits ty v = true) (ha : n0 ≤ a)
    (K : ∀ T' h', Hr p l e R s m args below meth c n0 h' cells slots T' → Wr h h' a (Jvm.RoadKit.slotOf Z O nf d) v → Fld Z h' a O nf d v → Exa Z h' a Cc → Goes p e below s n0 P k n T' (mkF m (pc + 3) Ls rest)) : Goes p e below s n0 P k n T (mkF m pc Ls (v :: .ref a :: rest)) := by
  obtain ⟨locs, S, eT, N, q0⟩ := X
  have hw := C.2.2.2.2.2.2.2.2
  obtain ⟨T', h', X', e', W', st⟩ := putF S C.1 C.2.2.2.2.2.2.2.1 C.2.2.2.2.2.1 (host := "") (Or.inl (hw _ i1)) Via.refl eT F E (i2.imp (fun q => hw _ q) (fun q => ⟨hw _ q.1, q.2.1, by rw [C.2.2.2.2.2.2.1]; exact q.2.2⟩)) (hw _ i3) hty hnw hft (g := mkF m pc Ls (v :: .ref a :: rest)) rfl rfl (hb C.2.1 hd)
  exact Goes.of st (K T' h' ⟨_, X', e', Fr.snoc X' N ha, q0⟩ W' (F.same W') (E.wr W'))
theorem w_new (X : Hr p l e R s m args below meth c n0 h cells slots T) (C : Cx p s m meth c code ml ret own nm Z a0 tabs) {pc index nn : Nat} {Ls : Array Slot} {Cc : String} {rest : List Value} (hd : decode code pc = .ok (.new index, 3)) (i1 : Jvm.Cond.classLink own index Cc ∈ tabs) (i2 : Jvm.Cond.instantiable Cc nn ∈ tabs) (i3 : Jvm.Cond.initialized Cc ∈ tabs) (hc : cells + 1 ≤ R.cells) (hl : slots + nn ≤ R.slots)
    (K : ∀ T' h' a, a = h.size → n0 ≤ a → Hr p l e R s m args below meth c n0 h' (cells + 1) (slots + nn) T' → Ext h h' → Exa Z h' a Cc → (∀ {O nf d : String} {ty : FieldType}, (Jvm.Cond.lays Cc O nf d ∈ tabs ∨ Jvm.Cond.laysFinal Cc O nf d ∈ tabs) → parseFieldDescriptor d = some ty → Fld Z h' a O nf d (defaultValue ty)) → Goes p e below s n0 P k n T' (mkF m (pc + 3) Ls (.ref a :: rest))) : Goes p e below s n0 P k n T (mkF m pc Ls rest) := by
  have hsz := X.size
  obtain ⟨locs, S, eT, N, q0⟩ := X
  have hw := C.2.2.2.2.2.2.2.2
  obtain ⟨T', h', X', e', E', A', D', -, st⟩ := newO S C.1 C.2.2.2.2.2.2.2.1 C.2.2.2.2.2.1 (hw _ i1) (hw _ i2) (hw _ i3) eT (g := mkF m pc Ls rest) rfl (hb C.2.1 hd) hc hl
  exact Goes.of st (K T' h' h.size rfl hsz ⟨_, X', e', N, q0⟩ E' A' (fun q ht => D' (q.imp (fun z => hw _ z) (fun z => hw _ z)) ht))
theorem ArV.lt {a : Addr} {ty : FieldType} {N : Nat} {f : Nat → Value} (A : ArV Z h a ty N f) : a < h.size := by obtain ⟨cl, A, -⟩ := A; exact A.lt
theorem ArV.ext {a : Addr} {ty : FieldType} {N : Nat} {f : Nat → Value} (A : ArV Z h a ty N f) (E : Ext h h') : ArV Z h' a ty N f := by obtain ⟨cl, A, r⟩ := A; exact ⟨cl, A.ext E, r⟩
theorem ArV.other {a b : Addr} {ty : FieldType} {N sl : Nat} {v : Value} {f : Nat → Value} (A : ArV Z h b ty N f) (W : Wr h h' a sl v) (q : b ≠ a) : ArV Z h' b ty N f := by obtain ⟨cl, A, r⟩ := A; exact ⟨cl, A.other W q, r⟩
theorem ArV.keep {a : Addr} {ty : FieldType} {N : Nat} {f : Nat → Value} {ws : List Addr} (A : ArV Z h a ty N f) (K : Keep h h' ws) (q : a ∉ ws) : ArV Z h' a ty N f := by obtain ⟨c, A, r⟩ := A; exact ⟨c, ⟨K.2.1 a c A.1 q, A.2⟩, r⟩
theorem ArV.congr {a : Addr} {ty : FieldType} {N : Nat} {f f' : Nat → Value} (A : ArV Z h a ty N f) (q : ∀ i, i < N → f' i = f i) : ArV Z h a ty N f' := by obtain ⟨c, A, r1, r2⟩ := A; exact ⟨c, A, r1, fun i hi => by rw [q i hi]; exact r2 i hi⟩
theorem ArV.same {a : Addr} {ty : FieldType} {N j : Nat} {v : Value} {f : Nat → Value} (A : ArV Z h a ty N f) (W : Wr h h' a j v) : ArV Z h' a ty N (up f j v) := by
  obtain ⟨c, A, r1, r2⟩ := A
  refine ⟨_, A.same W, by rw [sz_set]; exact r1, fun i hi => ?_⟩
  unfold up
  by_cases q : i = j
  · subst q; simp [Cell.setSlot, r1, hi]
  · simp only [q, if_false, Cell.setSlot]
    rw [Array.getElem?_setIfInBounds_ne (fun z => q z.symm)]
    exact r2 i hi
theorem up_int (g : Nat → Int32) (j : Nat) (x : Int32) : (fun i => Value.int (up g j x i)) = up (fun i => Value.int (g i)) j (.int x) := by
  funext i; unfold up; split <;> rfl
theorem up_long (g : Nat → Int64) (j : Nat) (x : Int64) : (fun i => Value.long (up g j x i)) = up (fun i => Value.long (g i)) j (.long x) := by
  funext i; unfold up; split <;> rfl
theorem in_of {a : Addr} {ty : FieldType} {N i : Nat} {j : Int32} {cl : Cell} (hi : j.toInt = i) (hN : i < N) (r1 : cl.slots.size = N) : ¬ (j < 0 ∨ cl.slots.size ≤ j.toNatClampNeg) ∧ j.toNatClampNeg = i := by
  have e0 : (0 : Int32).toInt = 0 := rfl
  have e1 : j.toNatClampNeg = i := by simp only [Int32.toNatClampNeg, hi]; omega
  refine ⟨?_, e1⟩
  rw [e1, r1, Int32.lt_iff_toInt_lt, e0]; omega
theorem w_baload (X : Hr p l e R s m args below meth c n0 h cells slots T) (C : Cx p s m meth c code ml ret own nm Z a0 tabs) {pc N : Nat} {Ls : Array Slot} {a : Addr} {g : Nat → Int32} {j : Int32} {rest : List Value} (hd : decode code pc = .ok (.baload, 1)) (A : ArI Z h a .byte N g) (i : Nat) (hi : j.toInt = i) (hN : i < N) (K : Goes p e below s n0 P k n T (mkF m (pc + 1) Ls (.int (g i) :: rest))) : Goes p e below s n0 P k n T (mkF m pc Ls (.int j :: .ref a :: rest)) := by
  obtain ⟨locs, S, eT, N0, q0⟩ := X
  obtain ⟨cl, Ar, r1, r2⟩ := A
  obtain ⟨hin, e1⟩ := in_of (a := a) (ty := .byte) hi hN r1
  exact Goes.of (fun _ kk => S.baloadBytes C.1 (j := j) (v := .int (g i)) (by rw [eT]; exact Ar.1) (State.isArrayOf_alike C.2.2.2.2.2.2.2.1.alike Ar.2.1) Ar.2.2 hin (by rw [e1]; exact r2 i hN) (g := mkF m pc Ls (.int j :: .ref a :: rest)) rfl rfl (hb C.2.1 hd) _ kk) K
theorem w_iaload (X : Hr p l e R s m args below meth c n0 h cells slots T) (C : Cx p s m meth c code ml ret own nm Z a0 tabs) {pc N : Nat} {Ls : Array Slot} {a : Addr} {g : Nat → Int32} {j : Int32} {rest : List Value} (hd : decode code pc = .ok (.iaload, 1)) (A : ArI Z h a .int N g) (i : Nat) (hi : j.toInt = i) (hN : i < N) (K : Goes p e below s n0 P k n T (mkF m (pc + 1) Ls (.int (g i) :: rest))) : Goes p e below s n0 P k n T (mkF m pc Ls (.int j :: .ref a :: rest)) := by
  obtain ⟨locs, S, eT, N0, q0⟩ := X
  obtain ⟨cl, Ar, r1, r2⟩ := A
  obtain ⟨hin, e1⟩ := in_of (a := a) (ty := .int) hi hN r1
  exact Goes.of (fun _ kk => S.iaload C.1 (j := j) (v := .int (g i)) (by rw [eT]; exact Ar.1) (State.isArrayOf_alike C.2.2.2.2.2.2.2.1.alike Ar.2.1) Ar.2.2 hin (by rw [e1]; exact r2 i hN) (g := mkF m pc Ls (.int j :: .ref a :: rest)) rfl rfl (hb C.2.1 hd) _ kk) K
theorem w_laload (X : Hr p l e R s m args below meth c n0 h cells slots T) (C : Cx p s m meth c code ml ret own nm Z a0 tabs) {pc N : Nat} {Ls : Array Slot} {a : Addr} {g : Nat → Int64} {j : Int32} {rest : List Value} (hd : decode code pc = .ok (.laload, 1)) (A : ArJ Z h a N g) (i : Nat) (hi : j.toInt = i) (hN : i < N) (K : Goes p e below s n0 P k n T (mkF m (pc + 1) Ls (.long (g i) :: rest))) : Goes p e below s n0 P k n T (mkF m pc Ls (.int j :: .ref a :: rest)) := by
  obtain ⟨locs, S, eT, N0, q0⟩ := X
  obtain ⟨cl, Ar, r1, r2⟩ := A
  obtain ⟨hin, e1⟩ := in_of (a := a) (ty := .long) hi hN r1
  exact Goes.of (fun _ kk => S.laload C.1 (j := j) (v := .long (g i)) (by rw [eT]; exact Ar.1) (State.isArrayOf_alike C.2.2.2.2.2.2.2.1.alike Ar.2.1) Ar.2.2 hin (by rw [e1]; exact r2 i hN) (g := mkF m pc Ls (.int j :: .ref a :: rest)) rfl rfl (hb C.2.1 hd) _ kk) K
theorem w_bastore (X : Hr p l e R s m args below meth c n0 h cells slots T) (C : Cx p s m meth c code ml ret own nm Z a0 tabs) {pc N : Nat} {Ls : Array Slot} {a : Addr} {g : Nat → Int32} {j : Int32} {x : Int32} {rest : List Value} (hd : decode code pc = .ok (.bastore, 1)) (A : ArI Z h a .byte N g) (i : Nat) (hi : j.toInt = i) (hN : i < N) (ha : n0 ≤ a)
    (K : ∀ T' h', Hr p l e R s m args below meth c n0 h' cells slots T' → Wr h h' a i (.int (i8 x)) → ArI Z h' a .byte N (up g i (i8 x)) → Goes p e below s n0 P k n T' (mkF m (pc + 1) Ls rest)) : Goes p e below s n0 P k n T (mkF m pc Ls (.int x :: .int j :: .ref a :: rest)) := by
  obtain ⟨locs, S, eT, N0, q0⟩ := X
  obtain ⟨cl, Ar, r1, r2⟩ := A
  obtain ⟨hin, e1⟩ := in_of (a := a) (ty := .byte) hi hN r1
  obtain ⟨T', h', X', e', W', st⟩ := stB S C.1 C.2.2.2.2.2.2.2.1 eT Ar (j := j) hin (g := mkF m pc Ls (.int x :: .int j :: .ref a :: rest)) rfl rfl (hb C.2.1 hd)
  rw [e1] at W'
  refine Goes.of st (K T' h' ⟨_, X', e', Fr.snoc X' N0 ha, q0⟩ W' ?_)
  have q := ArV.same ⟨cl, Ar, r1, r2⟩ W'
  rw [← (show (fun i_1 => Value.int (up g i (i8 x) i_1)) = up (fun i => Value.int (g i)) i (.int (nar .byte x)) from up_int g i (i8 x))] at q
  exact q
theorem w_iastore (X : Hr p l e R s m args below meth c n0 h cells slots T) (C : Cx p s m meth c code ml ret own nm Z a0 tabs) {pc N : Nat} {Ls : Array Slot} {a : Addr} {g : Nat → Int32} {j : Int32} {x : Int32} {rest : List Value} (hd : decode code pc = .ok (.iastore, 1)) (A : ArI Z h a .int N g) (i : Nat) (hi : j.toInt = i) (hN : i < N) (ha : n0 ≤ a)
    (K : ∀ T' h', Hr p l e R s m args below meth c n0 h' cells slots T' → Wr h h' a i (.int (x)) → ArI Z h' a .int N (up g i (x)) → Goes p e below s n0 P k n T' (mkF m (pc + 1) Ls rest)) : Goes p e below s n0 P k n T (mkF m pc Ls (.int x :: .int j :: .ref a :: rest)) := by
  obtain ⟨locs, S, eT, N0, q0⟩ := X
  obtain ⟨cl, Ar, r1, r2⟩ := A
  obtain ⟨hin, e1⟩ := in_of (a := a) (ty := .int) hi hN r1
  obtain ⟨T', h', X', e', W', st⟩ := stI S C.1 C.2.2.2.2.2.2.2.1 eT Ar (j := j) hin (g := mkF m pc Ls (.int x :: .int j :: .ref a :: rest)) rfl rfl (hb C.2.1 hd)
  rw [e1] at W'
  refine Goes.of st (K T' h' ⟨_, X', e', Fr.snoc X' N0 ha, q0⟩ W' ?_)
  have q := ArV.same ⟨cl, Ar, r1, r2⟩ W'
  rw [← up_int] at q
  exact q
theorem w_lastore (X : Hr p l e R s m args below meth c n0 h cells slots T) (C : Cx p s m meth c code ml ret own nm Z a0 tabs) {pc N : Nat} {Ls : Array Slot} {a : Addr} {g : Nat → Int64} {j : Int32} {x : Int64} {rest : List Value} (hd : decode code pc = .ok (.lastore, 1)) (A : ArJ Z h a N g) (i : Nat) (hi : j.toInt = i) (hN : i < N) (ha : n0 ≤ a)
    (K : ∀ T' h', Hr p l e R s m args below meth c n0 h' cells slots T' → Wr h h' a i (.long (x)) → ArJ Z h' a N (up g i (x)) → Goes p e below s n0 P k n T' (mkF m (pc + 1) Ls rest)) : Goes p e below s n0 P k n T (mkF m pc Ls (.long x :: .int j :: .ref a :: rest)) := by
  obtain ⟨locs, S, eT, N0, q0⟩ := X
  obtain ⟨cl, Ar, r1, r2⟩ := A
  obtain ⟨hin, e1⟩ := in_of (a := a) (ty := .long) hi hN r1
  obtain ⟨T', h', X', e', W', st⟩ := stJ S C.1 C.2.2.2.2.2.2.2.1 eT Ar (j := j) hin (g := mkF m pc Ls (.long x :: .int j :: .ref a :: rest)) rfl rfl (hb C.2.1 hd)
  rw [e1] at W'
  refine Goes.of st (K T' h' ⟨_, X', e', Fr.snoc X' N0 ha, q0⟩ W' ?_)
  have q := ArV.same ⟨cl, Ar, r1, r2⟩ W'
  rw [← up_long] at q
  exact q
theorem w_arraylength (X : Hr p l e R s m args below meth c n0 h cells slots T) (C : Cx p s m meth c code ml ret own nm Z a0 tabs) {pc N : Nat} {Ls : Array Slot} {a : Addr} {ty : FieldType} {f : Nat → Value} {rest : List Value} (hd : decode code pc = .ok (.arraylength, 1)) (A : ArV Z h a ty N f) (K : Goes p e below s n0 P k n T (mkF m (pc + 1) Ls (.int N.toInt32 :: rest))) : Goes p e below s n0 P k n T (mkF m pc Ls (.ref a :: rest)) := by
  obtain ⟨locs, S, eT, N0, q0⟩ := X
  obtain ⟨cl, Ar, r1, r2⟩ := A
  subst r1
  exact Goes.of (fun _ kk => S.arraylength C.1 (by rw [eT]; exact Ar.1) (State.isArrayOf_alike C.2.2.2.2.2.2.2.1.alike Ar.2.1) (g := mkF m pc Ls (.ref a :: rest)) rfl rfl (hb C.2.1 hd) _ kk) K
theorem w_new_byte (X : Hr p l e R s m args below meth c n0 h cells slots T) (C : Cx p s m meth c code ml ret own nm Z a0 tabs) {pc : Nat} {Ls : Array Slot} {sz : Int32} {rest : List Value} (hd : decode code pc = .ok (.newarray .byte, 2)) (i1 : Jvm.Cond.arrayClass .byte ∈ tabs) (N : Nat) (hN : sz.toInt = N) (cap : Nat) (hcap : N ≤ cap) (hbig : cap * 8 ≤ 536870912) (hc : cells + 1 ≤ R.cells) (hl : slots + cap ≤ R.slots)
    (K : ∀ T' h' a, a = h.size → n0 ≤ a → Hr p l e R s m args below meth c n0 h' (cells + 1) (slots + cap) T' → Ext h h' → ArI Z h' a .byte N (fun _ => 0) → Goes p e below s n0 P k n T' (mkF m (pc + 2) Ls (.ref a :: rest))) : Goes p e below s n0 P k n T (mkF m pc Ls (.int sz :: rest)) := by
  have hsz := X.size
  obtain ⟨locs, S, eT, N0, q0⟩ := X
  have hw := C.2.2.2.2.2.2.2.2
  have e1 : sz.toNatClampNeg = N := by simp only [Int32.toNatClampNeg, hN]; omega
  have e2 : ¬ sz < 0 := by
    have e0 : (0 : Int32).toInt = 0 := rfl
    rw [Int32.lt_iff_toInt_lt, e0]; omega
  obtain ⟨T', h', kk', X', e', E', A', st⟩ := newP S C.1 C.2.2.2.2.2.2.2.1 (aty := .byte) (hw _ i1) eT (g := mkF m pc Ls (.int sz :: rest)) rfl (hb C.2.1 hd) rfl e2 (cap := cap) (by rw [e1]; exact hcap) hbig hc hl
  refine Goes.of st (K T' h' h.size rfl hsz ⟨_, X', e', N0, q0⟩ E' ⟨_, A', by rw [sz_new]; exact e1, fun i hi => ?_⟩)
  simp [newA, e1, hi, newarray.typeOf, defaultValue]
theorem w_new_int (X : Hr p l e R s m args below meth c n0 h cells slots T) (C : Cx p s m meth c code ml ret own nm Z a0 tabs) {pc : Nat} {Ls : Array Slot} {sz : Int32} {rest : List Value} (hd : decode code pc = .ok (.newarray .int, 2)) (i1 : Jvm.Cond.arrayClass .int ∈ tabs) (N : Nat) (hN : sz.toInt = N) (cap : Nat) (hcap : N ≤ cap) (hbig : cap * 8 ≤ 536870912) (hc : cells + 1 ≤ R.cells) (hl : slots + cap ≤ R.slots)
    (K : ∀ T' h' a, a = h.size → n0 ≤ a → Hr p l e R s m args below meth c n0 h' (cells + 1) (slots + cap) T' → Ext h h' → ArI Z h' a .int N (fun _ => 0) → Goes p e below s n0 P k n T' (mkF m (pc + 2) Ls (.ref a :: rest))) : Goes p e below s n0 P k n T (mkF m pc Ls (.int sz :: rest)) := by
  have hsz := X.size
  obtain ⟨locs, S, eT, N0, q0⟩ := X
  have hw := C.2.2.2.2.2.2.2.2
  have e1 : sz.toNatClampNeg = N := by simp only [Int32.toNatClampNeg, hN]; omega
  have e2 : ¬ sz < 0 := by
    have e0 : (0 : Int32).toInt = 0 := rfl
    rw [Int32.lt_iff_toInt_lt, e0]; omega
  obtain ⟨T', h', kk', X', e', E', A', st⟩ := newP S C.1 C.2.2.2.2.2.2.2.1 (aty := .int) (hw _ i1) eT (g := mkF m pc Ls (.int sz :: rest)) rfl (hb C.2.1 hd) rfl e2 (cap := cap) (by rw [e1]; exact hcap) hbig hc hl
  refine Goes.of st (K T' h' h.size rfl hsz ⟨_, X', e', N0, q0⟩ E' ⟨_, A', by rw [sz_new]; exact e1, fun i hi => ?_⟩)
  simp [newA, e1, hi, newarray.typeOf, defaultValue]
theorem w_new_long (X : Hr p l e R s m args below meth c n0 h cells slots T) (C : Cx p s m meth c code ml ret own nm Z a0 tabs) {pc : Nat} {Ls : Array Slot} {sz : Int32} {rest : List Value} (hd : decode code pc = .ok (.newarray .long, 2)) (i1 : Jvm.Cond.arrayClass .long ∈ tabs) (N : Nat) (hN : sz.toInt = N) (cap : Nat) (hcap : N ≤ cap) (hbig : cap * 8 ≤ 536870912) (hc : cells + 1 ≤ R.cells) (hl : slots + cap ≤ R.slots)
    (K : ∀ T' h' a, a = h.size → n0 ≤ a → Hr p l e R s m args below meth c n0 h' (cells + 1) (slots + cap) T' → Ext h h' → ArJ Z h' a N (fun _ => 0) → Goes p e below s n0 P k n T' (mkF m (pc + 2) Ls (.ref a :: rest))) : Goes p e below s n0 P k n T (mkF m pc Ls (.int sz :: rest)) := by
  have hsz := X.size
  obtain ⟨locs, S, eT, N0, q0⟩ := X
  have hw := C.2.2.2.2.2.2.2.2
  have e1 : sz.toNatClampNeg = N := by simp only [Int32.toNatClampNeg, hN]; omega
  have e2 : ¬ sz < 0 := by
    have e0 : (0 : Int32).toInt = 0 := rfl
    rw [Int32.lt_iff_toInt_lt, e0]; omega
  obtain ⟨T', h', kk', X', e', E', A', st⟩ := newP S C.1 C.2.2.2.2.2.2.2.1 (aty := .long) (hw _ i1) eT (g := mkF m pc Ls (.int sz :: rest)) rfl (hb C.2.1 hd) rfl e2 (cap := cap) (by rw [e1]; exact hcap) hbig hc hl
  refine Goes.of st (K T' h' h.size rfl hsz ⟨_, X', e', N0, q0⟩ E' ⟨_, A', by rw [sz_new]; exact e1, fun i hi => ?_⟩)
  simp [newA, e1, hi, newarray.typeOf, defaultValue]
end W
end Jvm.OwnW
namespace Jvm.Pilot.@@N@@
open Jvm Jvm.ClassFile Sem Op Lib Jvm.Free Jvm.Stand Jvm.LawKit Jvm.RoadKit Bundle Jvm.OwnW Jvm.Pilot.@@N@@.Jvm.D
theorem pn_0 : plainName "com/example/pondera/pondera/io/IndexBytes$Reader" = true := by first | (simp [plainName, overriddenIn]; done) | decide +kernel
theorem pn_1 : plainName "com/example/pondera/pondera/io/ReaderChecksumPinLaw" = true := by first | (simp [plainName, overriddenIn]; done) | decide +kernel
theorem pd_0 : parseMethodDescriptor "([BII)V" = some ⟨[(.array .byte), .int, .int], none⟩ := by decide +kernel
theorem pd_1 : parseMethodDescriptor "()I" = some ⟨[], some .int⟩ := by decide +kernel
theorem d1_0 : decode prog_103_method_2_code 0 = .ok (.aload_n 0, 1) := by decide +kernel
theorem d1_1 : decode prog_103_method_2_code 1 = .ok (.invokespecial 7, 3) := by decide +kernel
theorem d1_4 : decode prog_103_method_2_code 4 = .ok (.aload_n 0, 1) := by decide +kernel
theorem d1_5 : decode prog_103_method_2_code 5 = .ok (.aload_n 1, 1) := by decide +kernel
theorem d1_6 : decode prog_103_method_2_code 6 = .ok (.putfield 12, 3) := by decide +kernel
theorem d1_9 : decode prog_103_method_2_code 9 = .ok (.aload_n 0, 1) := by decide +kernel
theorem d1_10 : decode prog_103_method_2_code 10 = .ok (.iload_n 2, 1) := by decide +kernel
theorem d1_11 : decode prog_103_method_2_code 11 = .ok (.putfield 16, 3) := by decide +kernel
theorem d1_14 : decode prog_103_method_2_code 14 = .ok (.aload_n 0, 1) := by decide +kernel
theorem d1_15 : decode prog_103_method_2_code 15 = .ok (.iload_n 3, 1) := by decide +kernel
theorem d1_16 : decode prog_103_method_2_code 16 = .ok (.putfield 20, 3) := by decide +kernel
theorem d1_19 : decode prog_103_method_2_code 19 = .ok (.return_, 1) := by decide +kernel
set_option maxRecDepth 65536 in
set_option maxHeartbeats 40000000 in
theorem bw1 {p : Program} {l : Launch} {e : Env} {s : State} {m : MethodId} {args : Array Value} {below : List Frame} {meth : Method} {c : Code} {T : State} {h : Heap} {n0 : Nat} {Z : State} {a0 : Array Value} (X : Hr p l e ({ frames := 1, cells := 0, slots := 0, locals := 12 } : Room) s m args below meth c n0 h 0 0 T) (C : Cx p s m meth c prog_103_method_2_code 4 none "com/example/pondera/pondera/io/IndexBytes$Reader" "<init>" Z a0 tables_1) (x0 : Addr) (x1 : Addr) (x2 : Int32) (x3 : Int32)  (E0 : Exa Z h x0 "com/example/pondera/pondera/io/IndexBytes$Reader") (F1 : Fld Z h x0 "com/example/pondera/pondera/io/IndexBytes$Reader" "bytes" "[B" .null) (F2 : Fld Z h x0 "com/example/pondera/pondera/io/IndexBytes$Reader" "at" "I" (.int 0)) (F3 : Fld Z h x0 "com/example/pondera/pondera/io/IndexBytes$Reader" "end" "I" (.int 0)) (g0 : n0 ≤ x0) : Goes p e below s n0 (fun v h' => v = none ∧ Keep h h' [x0] ∧ Exa Z h' x0 "com/example/pondera/pondera/io/IndexBytes$Reader" ∧ Fld Z h' x0 "com/example/pondera/pondera/io/IndexBytes$Reader" "bytes" "[B" (.ref x1) ∧ Fld Z h' x0 "com/example/pondera/pondera/io/IndexBytes$Reader" "at" "I" (.int x2)) 0 0 T (mkF m 0 #[.val (.ref x0), .val (.ref x1), .val (.int x2), .val (.int x3)] []) := by
  refine w_aloadN (pc := 0) X C d1_0 rfl rfl ?_
  refine w_initO (pc := 1) X C d1_1 (List.mem_of_getElem? (i := 7) rfl) (List.mem_of_getElem? (i := 8) rfl) (List.mem_of_getElem? (i := 9) rfl) rfl (W := 0) (Nat.le_of_eq rfl) (by decide) (by decide) (fun T1 X1 => ?_)
  refine w_aloadN (pc := 4) X1 C d1_4 rfl rfl ?_
  refine w_aloadN (pc := 5) X1 C d1_5 rfl rfl ?_
  refine w_putfield (pc := 6) X1 C d1_6 (List.mem_of_getElem? (i := 10) rfl) F1 E0 (Or.inr ⟨(List.mem_of_getElem? (i := 11) rfl), rfl, rfl⟩) (List.mem_of_getElem? (i := 2) rfl) (ty := (.array .byte)) (by decide) rfl rfl g0 (fun T2 h2 X2 W2 Fp2 Ep2 => ?_)
  have Fk3 := F2.other W2 (Or.inr (slot_ne (Or.inl (C.2.2.2.2.2.2.2.2 _ (List.mem_of_getElem? (i := 13) rfl))) (Or.inr (C.2.2.2.2.2.2.2.2 _ (List.mem_of_getElem? (i := 11) rfl))) (by decide) (t := .int) (t' := (.array .byte)) (by decide) (by decide)))
  have Fk4 := F3.other W2 (Or.inr (slot_ne (Or.inr (C.2.2.2.2.2.2.2.2 _ (List.mem_of_getElem? (i := 15) rfl))) (Or.inr (C.2.2.2.2.2.2.2.2 _ (List.mem_of_getElem? (i := 11) rfl))) (by decide) (t := .int) (t' := (.array .byte)) (by decide) (by decide)))
  have K5 : Keep h h2 [x0] := (Keep.refl h [x0]).wr W2 (Or.inl (List.mem_of_getElem? (i := 0) rfl))
  refine w_aloadN (pc := 9) X2 C d1_9 rfl rfl ?_
  refine w_iloadN (pc := 10) X2 C d1_10 rfl ?_
  refine w_putfield (pc := 11) X2 C d1_11 (List.mem_of_getElem? (i := 12) rfl) Fk3 Ep2 (Or.inl (List.mem_of_getElem? (i := 13) rfl)) (List.mem_of_getElem? (i := 2) rfl) (ty := .int) (by decide) rfl rfl g0 (fun T6 h6 X6 W6 Fp6 Ep6 => ?_)
  have Fk7 := Fk4.other W6 (Or.inr (slot_ne (Or.inr (C.2.2.2.2.2.2.2.2 _ (List.mem_of_getElem? (i := 15) rfl))) (Or.inl (C.2.2.2.2.2.2.2.2 _ (List.mem_of_getElem? (i := 13) rfl))) (by decide) (t := .int) (t' := .int) (by decide) (by decide)))
  have Fk8 := Fp2.other W6 (Or.inr (slot_ne (Or.inr (C.2.2.2.2.2.2.2.2 _ (List.mem_of_getElem? (i := 11) rfl))) (Or.inl (C.2.2.2.2.2.2.2.2 _ (List.mem_of_getElem? (i := 13) rfl))) (by decide) (t := (.array .byte)) (t' := .int) (by decide) (by decide)))
  have K9 : Keep h h6 [x0] := K5.wr W6 (Or.inl (List.mem_of_getElem? (i := 0) rfl))
  refine w_aloadN (pc := 14) X6 C d1_14 rfl rfl ?_
  refine w_iloadN (pc := 15) X6 C d1_15 rfl ?_
  refine w_putfield (pc := 16) X6 C d1_16 (List.mem_of_getElem? (i := 14) rfl) Fk7 Ep6 (Or.inr ⟨(List.mem_of_getElem? (i := 15) rfl), rfl, rfl⟩) (List.mem_of_getElem? (i := 2) rfl) (ty := .int) (by decide) rfl rfl g0 (fun T10 h10 X10 W10 Fp10 Ep10 => ?_)
  have Fk11 := Fk8.other W10 (Or.inr (slot_ne (Or.inr (C.2.2.2.2.2.2.2.2 _ (List.mem_of_getElem? (i := 11) rfl))) (Or.inr (C.2.2.2.2.2.2.2.2 _ (List.mem_of_getElem? (i := 15) rfl))) (by decide) (t := (.array .byte)) (t' := .int) (by decide) (by decide)))
  have Fk12 := Fp6.other W10 (Or.inr (slot_ne (Or.inl (C.2.2.2.2.2.2.2.2 _ (List.mem_of_getElem? (i := 13) rfl))) (Or.inr (C.2.2.2.2.2.2.2.2 _ (List.mem_of_getElem? (i := 15) rfl))) (by decide) (t := .int) (t' := .int) (by decide) (by decide)))
  have K13 : Keep h h10 [x0] := K9.wr W10 (Or.inl (List.mem_of_getElem? (i := 0) rfl))
  exact w_retV (pc := 19) X10 C d1_19 ⟨rfl, K13, Ep10, Fk11, Fk12⟩
theorem ct1 (l : Launch) {Z : State} {a0 : Array Value} (hw : ∀ d ∈ tables_1, d.before a0 Z = true) (h : Heap) {n0 : Nat} (hn : n0 ≤ h.size) (x0 : Addr) (x1 : Addr) (x2 : Int32) (x3 : Int32)  (E0 : Exa Z h x0 "com/example/pondera/pondera/io/IndexBytes$Reader") (F1 : Fld Z h x0 "com/example/pondera/pondera/io/IndexBytes$Reader" "bytes" "[B" .null) (F2 : Fld Z h x0 "com/example/pondera/pondera/io/IndexBytes$Reader" "at" "I" (.int 0)) (F3 : Fld Z h x0 "com/example/pondera/pondera/io/IndexBytes$Reader" "end" "I" (.int 0)) (g0 : n0 ≤ x0) : Ct l (⟨"com/example/pondera/pondera/io/IndexBytes$Reader", "<init>", "([BII)V"⟩ : MethodName) prog_103_method_2_code 4 none ({ frames := 1, cells := 0, slots := 0, locals := 12 } : Room) Z #[(.ref x0), (.ref x1), (.int x2), (.int x3)] h n0 (fun v h' => v = none ∧ Keep h h' [x0] ∧ Exa Z h' x0 "com/example/pondera/pondera/io/IndexBytes$Reader" ∧ Fld Z h' x0 "com/example/pondera/pondera/io/IndexBytes$Reader" "bytes" "[B" (.ref x1) ∧ Fld Z h' x0 "com/example/pondera/pondera/io/IndexBytes$Reader" "at" "I" (.int x2)) :=
  Ct.of (plainFor_of_name pn_0) #[.val (.ref x0), .val (.ref x1), .val (.int x2), .val (.int x3)] (fun m => by first | (simp [entryFrame, mkF, argsToLocals, Value.category]; done) | rfl) hw hn (fun p e s m below meth c T C X => bw1 X C x0 x1 x2 x3 E0 F1 F2 F3 g0)
def own_cs (p0 : Int32) (g : Nat → Int32) : Int32 := ((shlI ((shlI ((shlI ((shlI (0 : Int32) (8 : Int32)) ||| ((g (nt p0)) &&& (255 : Int32))) (8 : Int32)) ||| ((g (nt (p0 + (1 : Int32)))) &&& (255 : Int32))) (8 : Int32)) ||| ((g (nt ((p0 + (1 : Int32)) + (1 : Int32)))) &&& (255 : Int32))) (8 : Int32)) ||| ((g (nt (((p0 + (1 : Int32)) + (1 : Int32)) + (1 : Int32)))) &&& (255 : Int32)))
theorem d3_0 : decode prog_103_method_9_code 0 = .ok (.iconst 0, 1) := by decide +kernel
theorem d3_1 : decode prog_103_method_9_code 1 = .ok (.istore_n 1, 1) := by decide +kernel
theorem d3_2 : decode prog_103_method_9_code 2 = .ok (.iconst 0, 1) := by decide +kernel
theorem d3_3 : decode prog_103_method_9_code 3 = .ok (.istore_n 2, 1) := by decide +kernel
theorem d3_4 : decode prog_103_method_9_code 4 = .ok (.iload_n 2, 1) := by decide +kernel
theorem d3_5 : decode prog_103_method_9_code 5 = .ok (.iconst 4, 1) := by decide +kernel
theorem d3_6 : decode prog_103_method_9_code 6 = .ok (.if_icmp .ge 35, 3) := by decide +kernel
theorem d3_9 : decode prog_103_method_9_code 9 = .ok (.iload_n 1, 1) := by decide +kernel
theorem d3_10 : decode prog_103_method_9_code 10 = .ok (.bipush 8, 2) := by decide +kernel
theorem d3_12 : decode prog_103_method_9_code 12 = .ok (.ishl, 1) := by decide +kernel
theorem d3_13 : decode prog_103_method_9_code 13 = .ok (.aload_n 0, 1) := by decide +kernel
theorem d3_14 : decode prog_103_method_9_code 14 = .ok (.getfield 12, 3) := by decide +kernel
theorem d3_17 : decode prog_103_method_9_code 17 = .ok (.aload_n 0, 1) := by decide +kernel
theorem d3_18 : decode prog_103_method_9_code 18 = .ok (.dup, 1) := by decide +kernel
theorem d3_19 : decode prog_103_method_9_code 19 = .ok (.getfield 16, 3) := by decide +kernel
theorem d3_22 : decode prog_103_method_9_code 22 = .ok (.dup_x1, 1) := by decide +kernel
theorem d3_23 : decode prog_103_method_9_code 23 = .ok (.iconst 1, 1) := by decide +kernel
theorem d3_24 : decode prog_103_method_9_code 24 = .ok (.iadd, 1) := by decide +kernel
theorem d3_25 : decode prog_103_method_9_code 25 = .ok (.putfield 16, 3) := by decide +kernel
theorem d3_28 : decode prog_103_method_9_code 28 = .ok (.baload, 1) := by decide +kernel
theorem d3_29 : decode prog_103_method_9_code 29 = .ok (.sipush 255, 3) := by decide +kernel
theorem d3_32 : decode prog_103_method_9_code 32 = .ok (.iand, 1) := by decide +kernel
theorem d3_33 : decode prog_103_method_9_code 33 = .ok (.ior, 1) := by decide +kernel
theorem d3_34 : decode prog_103_method_9_code 34 = .ok (.istore_n 1, 1) := by decide +kernel
theorem d3_35 : decode prog_103_method_9_code 35 = .ok (.iinc 2 1, 3) := by decide +kernel
theorem d3_38 : decode prog_103_method_9_code 38 = .ok (.goto (-34), 3) := by decide +kernel
theorem d3_41 : decode prog_103_method_9_code 41 = .ok (.iload_n 1, 1) := by decide +kernel
theorem d3_42 : decode prog_103_method_9_code 42 = .ok (.ireturn, 1) := by decide +kernel
set_option maxRecDepth 65536 in
set_option maxHeartbeats 40000000 in
theorem bw3 {p : Program} {l : Launch} {e : Env} {s : State} {m : MethodId} {args : Array Value} {below : List Frame} {meth : Method} {c : Code} {T : State} {h : Heap} {n0 : Nat} {Z : State} {a0 : Array Value} (X : Hr p l e ({ frames := 0, cells := 0, slots := 0, locals := 0 } : Room) s m args below meth c n0 h 0 0 T) (C : Cx p s m meth c prog_103_method_9_code 3 (some .int) "com/example/pondera/pondera/io/IndexBytes$Reader" "checksum" Z a0 tables_1) (x0 : Addr) (b : Addr) (p0 : Int32) (g : Nat → Int32) (E0 : Exa Z h x0 "com/example/pondera/pondera/io/IndexBytes$Reader") (F1 : Fld Z h x0 "com/example/pondera/pondera/io/IndexBytes$Reader" "bytes" "[B" (.ref b)) (F2 : Fld Z h x0 "com/example/pondera/pondera/io/IndexBytes$Reader" "at" "I" (.int p0)) (A0 : ArI Z h b .byte 8 g) (hne : b ≠ x0) (hp : 0 ≤ p0.toInt ∧ p0.toInt ≤ 4) (g0 : n0 ≤ x0) : Goes p e below s n0 (fun v h' => v = some (.int (own_cs p0 g)) ∧ Keep h h' [x0] ∧ Exa Z h' x0 "com/example/pondera/pondera/io/IndexBytes$Reader" ∧ Fld Z h' x0 "com/example/pondera/pondera/io/IndexBytes$Reader" "at" "I" (.int ((((p0 + (1 : Int32)) + (1 : Int32)) + (1 : Int32)) + (1 : Int32)))) 0 0 T (mkF m 0 #[.val (.ref x0), .unset, .unset] []) := by
  refine w_iconst (pc := 0) X C d3_0 (0 : Int32) rfl ?_
  refine w_istoreN (pc := 1) X C d3_1 #[.val (.ref x0), .val (.int (0 : Int32)), .unset] rfl ?_
  refine w_iconst (pc := 2) X C d3_2 (0 : Int32) rfl ?_
  refine w_istoreN (pc := 3) X C d3_3 #[.val (.ref x0), .val (.int (0 : Int32)), .val (.int (0 : Int32))] rfl ?_
  refine w_iloadN (pc := 4) X C d3_4 rfl ?_
  refine w_iconst (pc := 5) X C d3_5 (4 : Int32) rfl ?_
  refine w_icmp_ge (pc := 6) X C d3_6 41 (by decide) (fun q1 => absurd (by decide) q1) (fun q1 => ?_)
  refine w_iloadN (pc := 9) X C d3_9 rfl ?_
  refine w_bipush (pc := 10) X C d3_10 (8 : Int32) rfl ?_
  refine w_ishl (pc := 12) X C d3_12 ?_
  refine w_aloadN (pc := 13) X C d3_13 rfl rfl ?_
  refine w_getfield (pc := 14) X C d3_14 (List.mem_of_getElem? (i := 10) rfl) F1 (fun T2 X2 => ?_)
  refine w_aloadN (pc := 17) X2 C d3_17 rfl rfl ?_
  refine w_dup (pc := 18) X2 C d3_18 rfl ?_
  refine w_getfield (pc := 19) X2 C d3_19 (List.mem_of_getElem? (i := 12) rfl) F2 (fun T3 X3 => ?_)
  refine w_dup_x1 (pc := 22) X3 C d3_22 rfl rfl ?_
  refine w_iconst (pc := 23) X3 C d3_23 (1 : Int32) rfl ?_
  refine w_iadd (pc := 24) X3 C d3_24 ?_
  refine w_putfield (pc := 25) X3 C d3_25 (List.mem_of_getElem? (i := 12) rfl) F2 E0 (Or.inl (List.mem_of_getElem? (i := 13) rfl)) (List.mem_of_getElem? (i := 2) rfl) (ty := .int) (by decide) rfl rfl g0 (fun T4 h4 X4 W4 Fp4 Ep4 => ?_)
  have Ak5 := A0.other W4 hne
  have Fk6 := F1.other W4 (Or.inr (slot_ne (Or.inr (C.2.2.2.2.2.2.2.2 _ (List.mem_of_getElem? (i := 11) rfl))) (Or.inl (C.2.2.2.2.2.2.2.2 _ (List.mem_of_getElem? (i := 13) rfl))) (by decide) (t := (.array .byte)) (t' := .int) (by decide) (by decide)))
  have K7 : Keep h h4 [x0] := (Keep.refl h [x0]).wr W4 (Or.inl (List.mem_of_getElem? (i := 0) rfl))
  have b_8 : 0 ≤ (p0).toInt ∧ (p0).toInt < 8 := by omega
  refine w_baload (pc := 28) X4 C d3_28 Ak5 (nt p0) (nt_eq b_8.1) (nt_lt b_8.2 (by omega)) ?_
  refine w_sipush (pc := 29) X4 C d3_29 (255 : Int32) rfl ?_
  refine w_iand (pc := 32) X4 C d3_32 ?_
  refine w_ior (pc := 33) X4 C d3_33 ?_
  refine w_istoreN (pc := 34) X4 C d3_34 #[.val (.ref x0), .val (.int ((shlI (0 : Int32) (8 : Int32)) ||| ((g (nt p0)) &&& (255 : Int32)))), .val (.int (0 : Int32))] rfl ?_
  refine w_iinc (pc := 35) X4 C d3_35 (1 : Int32) rfl rfl #[.val (.ref x0), .val (.int ((shlI (0 : Int32) (8 : Int32)) ||| ((g (nt p0)) &&& (255 : Int32)))), .val (.int ((0 : Int32) + (1 : Int32)))] rfl ?_
  refine w_goto (pc := 38) X4 C d3_38 4 (by decide) ?_
  refine w_iloadN (pc := 4) X4 C d3_4 rfl ?_
  refine w_iconst (pc := 5) X4 C d3_5 (4 : Int32) rfl ?_
  refine w_icmp_ge (pc := 6) X4 C d3_6 41 (by decide) (fun q9 => absurd (by decide) q9) (fun q9 => ?_)
  refine w_iloadN (pc := 9) X4 C d3_9 rfl ?_
  refine w_bipush (pc := 10) X4 C d3_10 (8 : Int32) rfl ?_
  refine w_ishl (pc := 12) X4 C d3_12 ?_
  refine w_aloadN (pc := 13) X4 C d3_13 rfl rfl ?_
  refine w_getfield (pc := 14) X4 C d3_14 (List.mem_of_getElem? (i := 10) rfl) Fk6 (fun T10 X10 => ?_)
  refine w_aloadN (pc := 17) X10 C d3_17 rfl rfl ?_
  refine w_dup (pc := 18) X10 C d3_18 rfl ?_
  refine w_getfield (pc := 19) X10 C d3_19 (List.mem_of_getElem? (i := 12) rfl) Fp4 (fun T11 X11 => ?_)
  refine w_dup_x1 (pc := 22) X11 C d3_22 rfl rfl ?_
  refine w_iconst (pc := 23) X11 C d3_23 (1 : Int32) rfl ?_
  refine w_iadd (pc := 24) X11 C d3_24 ?_
  refine w_putfield (pc := 25) X11 C d3_25 (List.mem_of_getElem? (i := 12) rfl) Fp4 Ep4 (Or.inl (List.mem_of_getElem? (i := 13) rfl)) (List.mem_of_getElem? (i := 2) rfl) (ty := .int) (by decide) rfl rfl g0 (fun T12 h12 X12 W12 Fp12 Ep12 => ?_)
  have Ak13 := Ak5.other W12 hne
  have Fk14 := Fk6.other W12 (Or.inr (slot_ne (Or.inr (C.2.2.2.2.2.2.2.2 _ (List.mem_of_getElem? (i := 11) rfl))) (Or.inl (C.2.2.2.2.2.2.2.2 _ (List.mem_of_getElem? (i := 13) rfl))) (by decide) (t := (.array .byte)) (t' := .int) (by decide) (by decide)))
  have K15 : Keep h h12 [x0] := K7.wr W12 (Or.inl (List.mem_of_getElem? (i := 0) rfl))
  have e_16 := add1 (x := p0) (1 : Int32) 1 rfl (by omega) (by omega)
  have b_17 : 0 ≤ ((p0 + (1 : Int32))).toInt ∧ ((p0 + (1 : Int32))).toInt < 8 := by omega
  refine w_baload (pc := 28) X12 C d3_28 Ak13 (nt (p0 + (1 : Int32))) (nt_eq b_17.1) (nt_lt b_17.2 (by omega)) ?_
  refine w_sipush (pc := 29) X12 C d3_29 (255 : Int32) rfl ?_
  refine w_iand (pc := 32) X12 C d3_32 ?_
  refine w_ior (pc := 33) X12 C d3_33 ?_
  refine w_istoreN (pc := 34) X12 C d3_34 #[.val (.ref x0), .val (.int ((shlI ((shlI (0 : Int32) (8 : Int32)) ||| ((g (nt p0)) &&& (255 : Int32))) (8 : Int32)) ||| ((g (nt (p0 + (1 : Int32)))) &&& (255 : Int32)))), .val (.int ((0 : Int32) + (1 : Int32)))] rfl ?_
  refine w_iinc (pc := 35) X12 C d3_35 (1 : Int32) rfl rfl #[.val (.ref x0), .val (.int ((shlI ((shlI (0 : Int32) (8 : Int32)) ||| ((g (nt p0)) &&& (255 : Int32))) (8 : Int32)) ||| ((g (nt (p0 + (1 : Int32)))) &&& (255 : Int32)))), .val (.int (((0 : Int32) + (1 : Int32)) + (1 : Int32)))] rfl ?_
  refine w_goto (pc := 38) X12 C d3_38 4 (by decide) ?_
  refine w_iloadN (pc := 4) X12 C d3_4 rfl ?_
  refine w_iconst (pc := 5) X12 C d3_5 (4 : Int32) rfl ?_
  refine w_icmp_ge (pc := 6) X12 C d3_6 41 (by decide) (fun q18 => absurd (by decide) q18) (fun q18 => ?_)
  refine w_iloadN (pc := 9) X12 C d3_9 rfl ?_
  refine w_bipush (pc := 10) X12 C d3_10 (8 : Int32) rfl ?_
  refine w_ishl (pc := 12) X12 C d3_12 ?_
  refine w_aloadN (pc := 13) X12 C d3_13 rfl rfl ?_
  refine w_getfield (pc := 14) X12 C d3_14 (List.mem_of_getElem? (i := 10) rfl) Fk14 (fun T19 X19 => ?_)
  refine w_aloadN (pc := 17) X19 C d3_17 rfl rfl ?_
  refine w_dup (pc := 18) X19 C d3_18 rfl ?_
  refine w_getfield (pc := 19) X19 C d3_19 (List.mem_of_getElem? (i := 12) rfl) Fp12 (fun T20 X20 => ?_)
  refine w_dup_x1 (pc := 22) X20 C d3_22 rfl rfl ?_
  refine w_iconst (pc := 23) X20 C d3_23 (1 : Int32) rfl ?_
  refine w_iadd (pc := 24) X20 C d3_24 ?_
  refine w_putfield (pc := 25) X20 C d3_25 (List.mem_of_getElem? (i := 12) rfl) Fp12 Ep12 (Or.inl (List.mem_of_getElem? (i := 13) rfl)) (List.mem_of_getElem? (i := 2) rfl) (ty := .int) (by decide) rfl rfl g0 (fun T21 h21 X21 W21 Fp21 Ep21 => ?_)
  have Ak22 := Ak13.other W21 hne
  have Fk23 := Fk14.other W21 (Or.inr (slot_ne (Or.inr (C.2.2.2.2.2.2.2.2 _ (List.mem_of_getElem? (i := 11) rfl))) (Or.inl (C.2.2.2.2.2.2.2.2 _ (List.mem_of_getElem? (i := 13) rfl))) (by decide) (t := (.array .byte)) (t' := .int) (by decide) (by decide)))
  have K24 : Keep h h21 [x0] := K15.wr W21 (Or.inl (List.mem_of_getElem? (i := 0) rfl))
  have e_25 := add1 (x := p0) (1 : Int32) 1 rfl (by omega) (by omega)
  have e_26 := add1 (x := (p0 + (1 : Int32))) (1 : Int32) 1 rfl (by omega) (by omega)
  have b_27 : 0 ≤ (((p0 + (1 : Int32)) + (1 : Int32))).toInt ∧ (((p0 + (1 : Int32)) + (1 : Int32))).toInt < 8 := by omega
  refine w_baload (pc := 28) X21 C d3_28 Ak22 (nt ((p0 + (1 : Int32)) + (1 : Int32))) (nt_eq b_27.1) (nt_lt b_27.2 (by omega)) ?_
  refine w_sipush (pc := 29) X21 C d3_29 (255 : Int32) rfl ?_
  refine w_iand (pc := 32) X21 C d3_32 ?_
  refine w_ior (pc := 33) X21 C d3_33 ?_
  refine w_istoreN (pc := 34) X21 C d3_34 #[.val (.ref x0), .val (.int ((shlI ((shlI ((shlI (0 : Int32) (8 : Int32)) ||| ((g (nt p0)) &&& (255 : Int32))) (8 : Int32)) ||| ((g (nt (p0 + (1 : Int32)))) &&& (255 : Int32))) (8 : Int32)) ||| ((g (nt ((p0 + (1 : Int32)) + (1 : Int32)))) &&& (255 : Int32)))), .val (.int (((0 : Int32) + (1 : Int32)) + (1 : Int32)))] rfl ?_
  refine w_iinc (pc := 35) X21 C d3_35 (1 : Int32) rfl rfl #[.val (.ref x0), .val (.int ((shlI ((shlI ((shlI (0 : Int32) (8 : Int32)) ||| ((g (nt p0)) &&& (255 : Int32))) (8 : Int32)) ||| ((g (nt (p0 + (1 : Int32)))) &&& (255 : Int32))) (8 : Int32)) ||| ((g (nt ((p0 + (1 : Int32)) + (1 : Int32)))) &&& (255 : Int32)))), .val (.int ((((0 : Int32) + (1 : Int32)) + (1 : Int32)) + (1 : Int32)))] rfl ?_
  refine w_goto (pc := 38) X21 C d3_38 4 (by decide) ?_
  refine w_iloadN (pc := 4) X21 C d3_4 rfl ?_
  refine w_iconst (pc := 5) X21 C d3_5 (4 : Int32) rfl ?_
  refine w_icmp_ge (pc := 6) X21 C d3_6 41 (by decide) (fun q28 => absurd (by decide) q28) (fun q28 => ?_)
  refine w_iloadN (pc := 9) X21 C d3_9 rfl ?_
  refine w_bipush (pc := 10) X21 C d3_10 (8 : Int32) rfl ?_
  refine w_ishl (pc := 12) X21 C d3_12 ?_
  refine w_aloadN (pc := 13) X21 C d3_13 rfl rfl ?_
  refine w_getfield (pc := 14) X21 C d3_14 (List.mem_of_getElem? (i := 10) rfl) Fk23 (fun T29 X29 => ?_)
  refine w_aloadN (pc := 17) X29 C d3_17 rfl rfl ?_
  refine w_dup (pc := 18) X29 C d3_18 rfl ?_
  refine w_getfield (pc := 19) X29 C d3_19 (List.mem_of_getElem? (i := 12) rfl) Fp21 (fun T30 X30 => ?_)
  refine w_dup_x1 (pc := 22) X30 C d3_22 rfl rfl ?_
  refine w_iconst (pc := 23) X30 C d3_23 (1 : Int32) rfl ?_
  refine w_iadd (pc := 24) X30 C d3_24 ?_
  refine w_putfield (pc := 25) X30 C d3_25 (List.mem_of_getElem? (i := 12) rfl) Fp21 Ep21 (Or.inl (List.mem_of_getElem? (i := 13) rfl)) (List.mem_of_getElem? (i := 2) rfl) (ty := .int) (by decide) rfl rfl g0 (fun T31 h31 X31 W31 Fp31 Ep31 => ?_)
  have Ak32 := Ak22.other W31 hne
  have Fk33 := Fk23.other W31 (Or.inr (slot_ne (Or.inr (C.2.2.2.2.2.2.2.2 _ (List.mem_of_getElem? (i := 11) rfl))) (Or.inl (C.2.2.2.2.2.2.2.2 _ (List.mem_of_getElem? (i := 13) rfl))) (by decide) (t := (.array .byte)) (t' := .int) (by decide) (by decide)))
  have K34 : Keep h h31 [x0] := K24.wr W31 (Or.inl (List.mem_of_getElem? (i := 0) rfl))
  have e_35 := add1 (x := p0) (1 : Int32) 1 rfl (by omega) (by omega)
  have e_36 := add1 (x := (p0 + (1 : Int32))) (1 : Int32) 1 rfl (by omega) (by omega)
  have e_37 := add1 (x := ((p0 + (1 : Int32)) + (1 : Int32))) (1 : Int32) 1 rfl (by omega) (by omega)
  have b_38 : 0 ≤ ((((p0 + (1 : Int32)) + (1 : Int32)) + (1 : Int32))).toInt ∧ ((((p0 + (1 : Int32)) + (1 : Int32)) + (1 : Int32))).toInt < 8 := by omega
  refine w_baload (pc := 28) X31 C d3_28 Ak32 (nt (((p0 + (1 : Int32)) + (1 : Int32)) + (1 : Int32))) (nt_eq b_38.1) (nt_lt b_38.2 (by omega)) ?_
  refine w_sipush (pc := 29) X31 C d3_29 (255 : Int32) rfl ?_
  refine w_iand (pc := 32) X31 C d3_32 ?_
  refine w_ior (pc := 33) X31 C d3_33 ?_
  refine w_istoreN (pc := 34) X31 C d3_34 #[.val (.ref x0), .val (.int ((shlI ((shlI ((shlI ((shlI (0 : Int32) (8 : Int32)) ||| ((g (nt p0)) &&& (255 : Int32))) (8 : Int32)) ||| ((g (nt (p0 + (1 : Int32)))) &&& (255 : Int32))) (8 : Int32)) ||| ((g (nt ((p0 + (1 : Int32)) + (1 : Int32)))) &&& (255 : Int32))) (8 : Int32)) ||| ((g (nt (((p0 + (1 : Int32)) + (1 : Int32)) + (1 : Int32)))) &&& (255 : Int32)))), .val (.int ((((0 : Int32) + (1 : Int32)) + (1 : Int32)) + (1 : Int32)))] rfl ?_
  refine w_iinc (pc := 35) X31 C d3_35 (1 : Int32) rfl rfl #[.val (.ref x0), .val (.int ((shlI ((shlI ((shlI ((shlI (0 : Int32) (8 : Int32)) ||| ((g (nt p0)) &&& (255 : Int32))) (8 : Int32)) ||| ((g (nt (p0 + (1 : Int32)))) &&& (255 : Int32))) (8 : Int32)) ||| ((g (nt ((p0 + (1 : Int32)) + (1 : Int32)))) &&& (255 : Int32))) (8 : Int32)) ||| ((g (nt (((p0 + (1 : Int32)) + (1 : Int32)) + (1 : Int32)))) &&& (255 : Int32)))), .val (.int (((((0 : Int32) + (1 : Int32)) + (1 : Int32)) + (1 : Int32)) + (1 : Int32)))] rfl ?_
  refine w_goto (pc := 38) X31 C d3_38 4 (by decide) ?_
  refine w_iloadN (pc := 4) X31 C d3_4 rfl ?_
  refine w_iconst (pc := 5) X31 C d3_5 (4 : Int32) rfl ?_
  refine w_icmp_ge (pc := 6) X31 C d3_6 41 (by decide) (fun q39 => ?_) (fun q39 => absurd q39 (by decide))
  refine w_iloadN (pc := 41) X31 C d3_41 rfl ?_
  exact w_retI (pc := 42) X31 C d3_42 ⟨rfl, K34, Ep31, Fp31⟩
theorem ct3 (l : Launch) {Z : State} {a0 : Array Value} (hw : ∀ d ∈ tables_1, d.before a0 Z = true) (h : Heap) {n0 : Nat} (hn : n0 ≤ h.size) (x0 : Addr) (b : Addr) (p0 : Int32) (g : Nat → Int32) (E0 : Exa Z h x0 "com/example/pondera/pondera/io/IndexBytes$Reader") (F1 : Fld Z h x0 "com/example/pondera/pondera/io/IndexBytes$Reader" "bytes" "[B" (.ref b)) (F2 : Fld Z h x0 "com/example/pondera/pondera/io/IndexBytes$Reader" "at" "I" (.int p0)) (A0 : ArI Z h b .byte 8 g) (hne : b ≠ x0) (hp : 0 ≤ p0.toInt ∧ p0.toInt ≤ 4) (g0 : n0 ≤ x0) : Ct l (⟨"com/example/pondera/pondera/io/IndexBytes$Reader", "checksum", "()I"⟩ : MethodName) prog_103_method_9_code 3 (some .int) ({ frames := 0, cells := 0, slots := 0, locals := 0 } : Room) Z #[(.ref x0)] h n0 (fun v h' => v = some (.int (own_cs p0 g)) ∧ Keep h h' [x0] ∧ Exa Z h' x0 "com/example/pondera/pondera/io/IndexBytes$Reader" ∧ Fld Z h' x0 "com/example/pondera/pondera/io/IndexBytes$Reader" "at" "I" (.int ((((p0 + (1 : Int32)) + (1 : Int32)) + (1 : Int32)) + (1 : Int32)))) :=
  Ct.of (plainFor_of_name pn_0) #[.val (.ref x0), .unset, .unset] (fun m => by first | (simp [entryFrame, mkF, argsToLocals, Value.category]; done) | rfl) hw hn (fun p e s m below meth c T C X => bw3 X C x0 b p0 g E0 F1 F2 A0 hne hp g0)
theorem d4_0 : decode prog_103_method_3_code 0 = .ok (.aload_n 0, 1) := by decide +kernel
theorem d4_1 : decode prog_103_method_3_code 1 = .ok (.getfield 16, 3) := by decide +kernel
theorem d4_4 : decode prog_103_method_3_code 4 = .ok (.ireturn, 1) := by decide +kernel
set_option maxRecDepth 65536 in
set_option maxHeartbeats 40000000 in
theorem bw4 {p : Program} {l : Launch} {e : Env} {s : State} {m : MethodId} {args : Array Value} {below : List Frame} {meth : Method} {c : Code} {T : State} {h : Heap} {n0 : Nat} {Z : State} {a0 : Array Value} (X : Hr p l e ({ frames := 0, cells := 0, slots := 0, locals := 0 } : Room) s m args below meth c n0 h 0 0 T) (C : Cx p s m meth c prog_103_method_3_code 1 (some .int) "com/example/pondera/pondera/io/IndexBytes$Reader" "at" Z a0 tables_1) (x0 : Addr) (p0 : Int32) (F2 : Fld Z h x0 "com/example/pondera/pondera/io/IndexBytes$Reader" "at" "I" (.int p0)) : Goes p e below s n0 (fun v h' => v = some (.int p0) ∧ h' = h) 0 0 T (mkF m 0 #[.val (.ref x0)] []) := by
  refine w_aloadN (pc := 0) X C d4_0 rfl rfl ?_
  refine w_getfield (pc := 1) X C d4_1 (List.mem_of_getElem? (i := 12) rfl) F2 (fun T1 X1 => ?_)
  exact w_retI (pc := 4) X1 C d4_4 ⟨rfl, rfl⟩
theorem ct4 (l : Launch) {Z : State} {a0 : Array Value} (hw : ∀ d ∈ tables_1, d.before a0 Z = true) (h : Heap) {n0 : Nat} (hn : n0 ≤ h.size) (x0 : Addr) (p0 : Int32) (F2 : Fld Z h x0 "com/example/pondera/pondera/io/IndexBytes$Reader" "at" "I" (.int p0)) : Ct l (⟨"com/example/pondera/pondera/io/IndexBytes$Reader", "at", "()I"⟩ : MethodName) prog_103_method_3_code 1 (some .int) ({ frames := 0, cells := 0, slots := 0, locals := 0 } : Room) Z #[(.ref x0)] h n0 (fun v h' => v = some (.int p0) ∧ h' = h) :=
  Ct.of (plainFor_of_name pn_0) #[.val (.ref x0)] (fun m => by first | (simp [entryFrame, mkF, argsToLocals, Value.category]; done) | rfl) hw hn (fun p e s m below meth c T C X => bw4 X C x0 p0 F2)
theorem own_at4 (o : Int32) : ((((o + (1 : Int32)) + (1 : Int32)) + (1 : Int32)) + (1 : Int32)) = o + (4 : Int32) := by
  simp only [Int32.add_assoc]; rfl
theorem own_i8 (v : Int32) : i8 (i8 v) = i8 v := by
  unfold i8; simp
theorem own_by (v : Int32) : ((i8 v) &&& (255 : Int32)).toInt = v.toInt % 256 := by
  rw [Jvm.Kit.i32_mask (i8 v) 255 (k := 8) (by decide) (by decide)]
  have e : (i8 v).toInt = v.toInt.bmod (2 ^ 8) := by
    unfold i8
    rw [Int8.toInt_toInt32, Int32.toInt_toInt8]
  rw [e]
  have := Int.bmod_emod (x := v.toInt) (m := 2 ^ 8)
  omega
theorem own_sh (x b : Int32) (h : 0 ≤ b.toInt ∧ b.toInt < 256) : ((shlI x (8 : Int32) ||| b).toInt - (x.toInt * 256 + b.toInt)) % 4294967296 = 0 := by
  have h1 : ((shlI x (8 : Int32)).toInt - x.toInt * (2 ^ 8 : Nat)) % 4294967296 = 0 := c_ishl x (8 : Int32) 8 rfl
  have h2 := c_or (shlI x (8 : Int32)) b 8 (by decide) 256 rfl (by omega) h.1 h.2
  omega
theorem own_fin (v o : Int32) (ho : 0 ≤ o.toInt ∧ o.toInt ≤ 3) {g0 g1 g2 g3 g4 : Nat → Int32} (h1 : g1 = up g0 (nt o) (i8 (i8 (ushrI v (24 : Int32))))) (h2 : g2 = up g1 (nt (o + (1 : Int32))) (i8 (i8 (ushrI v (16 : Int32))))) (h3 : g3 = up g2 (nt (o + (2 : Int32))) (i8 (i8 (ushrI v (8 : Int32))))) (h4 : g4 = up g3 (nt (o + (3 : Int32))) (i8 (i8 v))) : own_cs o g4 = v := by
  have a1 : (o + (1 : Int32)).toInt = o.toInt + 1 := add1 (1 : Int32) 1 rfl (by omega) (by omega)
  have a2 : (o + (2 : Int32)).toInt = o.toInt + 2 := add1 (2 : Int32) 2 rfl (by omega) (by omega)
  have a3 : (o + (3 : Int32)).toInt = o.toInt + 3 := add1 (3 : Int32) 3 rfl (by omega) (by omega)
  have b2 : o + (1 : Int32) + (1 : Int32) = o + (2 : Int32) := by rw [Int32.add_assoc]; rfl
  have b3 : o + (2 : Int32) + (1 : Int32) = o + (3 : Int32) := by rw [Int32.add_assoc]; rfl
  have k0 : g4 (nt o) = i8 (ushrI v (24 : Int32)) := by
    simp only [h4, h3, h2, h1, up, nt, a1, a2, a3, if_true]
    repeat' split
    all_goals first | exact own_i8 _ | (exfalso; omega) | (exfalso; simp_all; done)
  have k1 : g4 (nt (o + (1 : Int32))) = i8 (ushrI v (16 : Int32)) := by
    simp only [h4, h3, h2, h1, up, nt, a1, a2, a3, if_true]
    repeat' split
    all_goals first | exact own_i8 _ | (exfalso; omega) | (exfalso; simp_all; done)
  have k2 : g4 (nt (o + (2 : Int32))) = i8 (ushrI v (8 : Int32)) := by
    simp only [h4, h3, h2, h1, up, nt, a1, a2, a3, if_true]
    repeat' split
    all_goals first | exact own_i8 _ | (exfalso; omega) | (exfalso; simp_all; done)
  have k3 : g4 (nt (o + (3 : Int32))) = i8 v := by
    simp only [h4, h3, h2, h1, up, nt, a1, a2, a3, if_true]
    repeat' split
    all_goals first | exact own_i8 _ | (exfalso; omega) | (exfalso; simp_all; done)
  unfold own_cs
  rw [b2, b3, k0, k1, k2, k3]
  have u24 : (ushrI v (24 : Int32)).toInt = (v.toInt % 4294967296) / (2 ^ 24 : Nat) := c_iushr v (24 : Int32) 24 rfl (by decide)
  have u16 : (ushrI v (16 : Int32)).toInt = (v.toInt % 4294967296) / (2 ^ 16 : Nat) := c_iushr v (16 : Int32) 16 rfl (by decide)
  have u8 : (ushrI v (8 : Int32)).toInt = (v.toInt % 4294967296) / (2 ^ 8 : Nat) := c_iushr v (8 : Int32) 8 rfl (by decide)
  have y0 := own_by (ushrI v (24 : Int32))
  have y1 := own_by (ushrI v (16 : Int32))
  have y2 := own_by (ushrI v (8 : Int32))
  have y3 := own_by v
  generalize (i8 (ushrI v (24 : Int32)) &&& (255 : Int32)) = w0 at *
  generalize (i8 (ushrI v (16 : Int32)) &&& (255 : Int32)) = w1 at *
  generalize (i8 (ushrI v (8 : Int32)) &&& (255 : Int32)) = w2 at *
  generalize (i8 v &&& (255 : Int32)) = w3 at *
  have s0 := own_sh (0 : Int32) w0 (by omega)
  generalize (shlI (0 : Int32) (8 : Int32) ||| w0) = t0 at *
  have s1 := own_sh t0 w1 (by omega)
  generalize (shlI t0 (8 : Int32) ||| w1) = t1 at *
  have s2 := own_sh t1 w2 (by omega)
  generalize (shlI t1 (8 : Int32) ||| w2) = t2 at *
  have s3 := own_sh t2 w3 (by omega)
  generalize (shlI t2 (8 : Int32) ||| w3) = t3 at *
  apply Int32.toInt_inj.mp
  have r1 := rng32 v
  have r2 := rng32 t3
  have e0 : (0 : Int32).toInt = 0 := rfl
  omega
set_option maxRecDepth 65536 in
set_option maxHeartbeats 40000000 in
theorem law_walk {p : Program} {l : Launch} {e : Env} {s : State} {m : MethodId} {args : Array Value} {below : List Frame} {meth : Method} {c : Code} {T : State} {h : Heap} {n0 : Nat} {Z : State} {a0 : Array Value} (X : Hr p l e room_1 s m args below meth c n0 h 0 0 T) (C : Cx p s m meth c code maxLocals ret "com/example/pondera/pondera/io/ReaderChecksumPinLaw" "law" Z a0 tables_1) (x0 : Int32) (x1 : Int64) (x2 : Int32) : Goes p e below s n0 (fun v _ => v = some (.int 1)) room_1.cells room_1.slots T (mkF m 0 #[.val (.int x0), .val (.long x1), .second, .val (.int x2), .unset, .unset, .unset, .unset] []) := by
  refine w_bipush (pc := 0) X C at_0 (8 : Int32) rfl ?_
  refine w_new_byte (pc := 2) X C at_2 (List.mem_of_getElem? (i := 0) rfl) 8 rfl 8 (by decide) (by decide) (by decide) (by decide) (fun T1 h1 a1 ha1 hb1 X1 E1 A1 => ?_)
  refine w_astore (pc := 4) X1 C at_4 #[.val (.int x0), .val (.long x1), .second, .val (.int x2), .val (.ref a1), .unset, .unset, .unset] rfl rfl ?_
  refine w_aload (pc := 6) X1 C at_6 rfl rfl ?_
  refine w_iconst (pc := 8) X1 C at_8 (0 : Int32) rfl ?_
  refine w_lloadN (pc := 9) X1 C at_9 rfl ?_
  refine w_l2i (pc := 10) X1 C at_10 ?_
  refine w_i2b (pc := 11) X1 C at_11 ?_
  refine w_bastore (pc := 12) X1 C at_12 A1 0 rfl (by decide) hb1 (fun T2 h2 X2 W2 A2 => ?_)
  obtain ⟨g2, hg2⟩ : ∃ z, z = up (fun _ => 0) 0 (i8 (i8 (x1).toInt32)) := ⟨_, rfl⟩
  rw [← hg2] at A2
  refine w_aload (pc := 13) X2 C at_13 rfl rfl ?_
  refine w_iconst (pc := 15) X2 C at_15 (1 : Int32) rfl ?_
  refine w_lloadN (pc := 16) X2 C at_16 rfl ?_
  refine w_bipush (pc := 17) X2 C at_17 (8 : Int32) rfl ?_
  refine w_lushr (pc := 19) X2 C at_19 ?_
  refine w_l2i (pc := 20) X2 C at_20 ?_
  refine w_i2b (pc := 21) X2 C at_21 ?_
  refine w_bastore (pc := 22) X2 C at_22 A2 1 rfl (by decide) hb1 (fun T3 h3 X3 W3 A3 => ?_)
  obtain ⟨g3, hg3⟩ : ∃ z, z = up g2 1 (i8 (i8 ((ushrJ x1 (8 : Int32))).toInt32)) := ⟨_, rfl⟩
  rw [← hg3] at A3
  refine w_aload (pc := 23) X3 C at_23 rfl rfl ?_
  refine w_iconst (pc := 25) X3 C at_25 (2 : Int32) rfl ?_
  refine w_lloadN (pc := 26) X3 C at_26 rfl ?_
  refine w_bipush (pc := 27) X3 C at_27 (16 : Int32) rfl ?_
  refine w_lushr (pc := 29) X3 C at_29 ?_
  refine w_l2i (pc := 30) X3 C at_30 ?_
  refine w_i2b (pc := 31) X3 C at_31 ?_
  refine w_bastore (pc := 32) X3 C at_32 A3 2 rfl (by decide) hb1 (fun T4 h4 X4 W4 A4 => ?_)
  obtain ⟨g4, hg4⟩ : ∃ z, z = up g3 2 (i8 (i8 ((ushrJ x1 (16 : Int32))).toInt32)) := ⟨_, rfl⟩
  rw [← hg4] at A4
  refine w_aload (pc := 33) X4 C at_33 rfl rfl ?_
  refine w_iconst (pc := 35) X4 C at_35 (3 : Int32) rfl ?_
  refine w_lloadN (pc := 36) X4 C at_36 rfl ?_
  refine w_bipush (pc := 37) X4 C at_37 (24 : Int32) rfl ?_
  refine w_lushr (pc := 39) X4 C at_39 ?_
  refine w_l2i (pc := 40) X4 C at_40 ?_
  refine w_i2b (pc := 41) X4 C at_41 ?_
  refine w_bastore (pc := 42) X4 C at_42 A4 3 rfl (by decide) hb1 (fun T5 h5 X5 W5 A5 => ?_)
  obtain ⟨g5, hg5⟩ : ∃ z, z = up g4 3 (i8 (i8 ((ushrJ x1 (24 : Int32))).toInt32)) := ⟨_, rfl⟩
  rw [← hg5] at A5
  refine w_aload (pc := 43) X5 C at_43 rfl rfl ?_
  refine w_iconst (pc := 45) X5 C at_45 (4 : Int32) rfl ?_
  refine w_lloadN (pc := 46) X5 C at_46 rfl ?_
  refine w_bipush (pc := 47) X5 C at_47 (32 : Int32) rfl ?_
  refine w_lushr (pc := 49) X5 C at_49 ?_
  refine w_l2i (pc := 50) X5 C at_50 ?_
  refine w_i2b (pc := 51) X5 C at_51 ?_
  refine w_bastore (pc := 52) X5 C at_52 A5 4 rfl (by decide) hb1 (fun T6 h6 X6 W6 A6 => ?_)
  obtain ⟨g6, hg6⟩ : ∃ z, z = up g5 4 (i8 (i8 ((ushrJ x1 (32 : Int32))).toInt32)) := ⟨_, rfl⟩
  rw [← hg6] at A6
  refine w_aload (pc := 53) X6 C at_53 rfl rfl ?_
  refine w_iconst (pc := 55) X6 C at_55 (5 : Int32) rfl ?_
  refine w_lloadN (pc := 56) X6 C at_56 rfl ?_
  refine w_bipush (pc := 57) X6 C at_57 (40 : Int32) rfl ?_
  refine w_lushr (pc := 59) X6 C at_59 ?_
  refine w_l2i (pc := 60) X6 C at_60 ?_
  refine w_i2b (pc := 61) X6 C at_61 ?_
  refine w_bastore (pc := 62) X6 C at_62 A6 5 rfl (by decide) hb1 (fun T7 h7 X7 W7 A7 => ?_)
  obtain ⟨g7, hg7⟩ : ∃ z, z = up g6 5 (i8 (i8 ((ushrJ x1 (40 : Int32))).toInt32)) := ⟨_, rfl⟩
  rw [← hg7] at A7
  refine w_aload (pc := 63) X7 C at_63 rfl rfl ?_
  refine w_bipush (pc := 65) X7 C at_65 (6 : Int32) rfl ?_
  refine w_lloadN (pc := 67) X7 C at_67 rfl ?_
  refine w_bipush (pc := 68) X7 C at_68 (48 : Int32) rfl ?_
  refine w_lushr (pc := 70) X7 C at_70 ?_
  refine w_l2i (pc := 71) X7 C at_71 ?_
  refine w_i2b (pc := 72) X7 C at_72 ?_
  refine w_bastore (pc := 73) X7 C at_73 A7 6 rfl (by decide) hb1 (fun T8 h8 X8 W8 A8 => ?_)
  obtain ⟨g8, hg8⟩ : ∃ z, z = up g7 6 (i8 (i8 ((ushrJ x1 (48 : Int32))).toInt32)) := ⟨_, rfl⟩
  rw [← hg8] at A8
  refine w_aload (pc := 74) X8 C at_74 rfl rfl ?_
  refine w_bipush (pc := 76) X8 C at_76 (7 : Int32) rfl ?_
  refine w_lloadN (pc := 78) X8 C at_78 rfl ?_
  refine w_bipush (pc := 79) X8 C at_79 (56 : Int32) rfl ?_
  refine w_lushr (pc := 81) X8 C at_81 ?_
  refine w_l2i (pc := 82) X8 C at_82 ?_
  refine w_i2b (pc := 83) X8 C at_83 ?_
  refine w_bastore (pc := 84) X8 C at_84 A8 7 rfl (by decide) hb1 (fun T9 h9 X9 W9 A9 => ?_)
  obtain ⟨g9, hg9⟩ : ∃ z, z = up g8 7 (i8 (i8 ((ushrJ x1 (56 : Int32))).toInt32)) := ⟨_, rfl⟩
  rw [← hg9] at A9
  refine w_iloadN (pc := 85) X9 C at_85 rfl ?_
  refine w_iconst (pc := 86) X9 C at_86 (3 : Int32) rfl ?_
  refine w_iand (pc := 87) X9 C at_87 ?_
  obtain ⟨o, e_o⟩ : ∃ z, z = (x2 &&& (3 : Int32)) := ⟨_, rfl⟩
  rw [← e_o]
  have ho : 0 ≤ o.toInt ∧ o.toInt ≤ 3 := by rw [e_o]; exact c_and _ (3 : Int32) (by decide)
  refine w_istore (pc := 88) X9 C at_88 #[.val (.int x0), .val (.long x1), .second, .val (.int x2), .val (.ref a1), .val (.int o), .unset, .unset] rfl ?_
  refine w_aload (pc := 90) X9 C at_90 rfl rfl ?_
  refine w_iload (pc := 92) X9 C at_92 rfl ?_
  refine w_iloadN (pc := 94) X9 C at_94 rfl ?_
  refine w_bipush (pc := 95) X9 C at_95 (24 : Int32) rfl ?_
  refine w_iushr (pc := 97) X9 C at_97 ?_
  refine w_i2b (pc := 98) X9 C at_98 ?_
  have b_10 : 0 ≤ (o).toInt ∧ (o).toInt < 8 := by omega
  refine w_bastore (pc := 99) X9 C at_99 A9 (nt o) (nt_eq b_10.1) (nt_lt b_10.2 (by omega)) hb1 (fun T11 h11 X11 W11 A11 => ?_)
  obtain ⟨g11, hg11⟩ : ∃ z, z = up g9 (nt o) (i8 (i8 (ushrI x0 (24 : Int32)))) := ⟨_, rfl⟩
  rw [← hg11] at A11
  refine w_aload (pc := 100) X11 C at_100 rfl rfl ?_
  refine w_iload (pc := 102) X11 C at_102 rfl ?_
  refine w_iconst (pc := 104) X11 C at_104 (1 : Int32) rfl ?_
  refine w_iadd (pc := 105) X11 C at_105 ?_
  refine w_iloadN (pc := 106) X11 C at_106 rfl ?_
  refine w_bipush (pc := 107) X11 C at_107 (16 : Int32) rfl ?_
  refine w_iushr (pc := 109) X11 C at_109 ?_
  refine w_i2b (pc := 110) X11 C at_110 ?_
  have e_12 := add1 (x := o) (1 : Int32) 1 rfl (by omega) (by omega)
  have b_13 : 0 ≤ ((o + (1 : Int32))).toInt ∧ ((o + (1 : Int32))).toInt < 8 := by omega
  refine w_bastore (pc := 111) X11 C at_111 A11 (nt (o + (1 : Int32))) (nt_eq b_13.1) (nt_lt b_13.2 (by omega)) hb1 (fun T14 h14 X14 W14 A14 => ?_)
  obtain ⟨g14, hg14⟩ : ∃ z, z = up g11 (nt (o + (1 : Int32))) (i8 (i8 (ushrI x0 (16 : Int32)))) := ⟨_, rfl⟩
  rw [← hg14] at A14
  refine w_aload (pc := 112) X14 C at_112 rfl rfl ?_
  refine w_iload (pc := 114) X14 C at_114 rfl ?_
  refine w_iconst (pc := 116) X14 C at_116 (2 : Int32) rfl ?_
  refine w_iadd (pc := 117) X14 C at_117 ?_
  refine w_iloadN (pc := 118) X14 C at_118 rfl ?_
  refine w_bipush (pc := 119) X14 C at_119 (8 : Int32) rfl ?_
  refine w_iushr (pc := 121) X14 C at_121 ?_
  refine w_i2b (pc := 122) X14 C at_122 ?_
  have e_15 := add1 (x := o) (2 : Int32) 2 rfl (by omega) (by omega)
  have b_16 : 0 ≤ ((o + (2 : Int32))).toInt ∧ ((o + (2 : Int32))).toInt < 8 := by omega
  refine w_bastore (pc := 123) X14 C at_123 A14 (nt (o + (2 : Int32))) (nt_eq b_16.1) (nt_lt b_16.2 (by omega)) hb1 (fun T17 h17 X17 W17 A17 => ?_)
  obtain ⟨g17, hg17⟩ : ∃ z, z = up g14 (nt (o + (2 : Int32))) (i8 (i8 (ushrI x0 (8 : Int32)))) := ⟨_, rfl⟩
  rw [← hg17] at A17
  refine w_aload (pc := 124) X17 C at_124 rfl rfl ?_
  refine w_iload (pc := 126) X17 C at_126 rfl ?_
  refine w_iconst (pc := 128) X17 C at_128 (3 : Int32) rfl ?_
  refine w_iadd (pc := 129) X17 C at_129 ?_
  refine w_iloadN (pc := 130) X17 C at_130 rfl ?_
  refine w_i2b (pc := 131) X17 C at_131 ?_
  have e_18 := add1 (x := o) (3 : Int32) 3 rfl (by omega) (by omega)
  have b_19 : 0 ≤ ((o + (3 : Int32))).toInt ∧ ((o + (3 : Int32))).toInt < 8 := by omega
  refine w_bastore (pc := 132) X17 C at_132 A17 (nt (o + (3 : Int32))) (nt_eq b_19.1) (nt_lt b_19.2 (by omega)) hb1 (fun T20 h20 X20 W20 A20 => ?_)
  obtain ⟨g20, hg20⟩ : ∃ z, z = up g17 (nt (o + (3 : Int32))) (i8 (i8 x0)) := ⟨_, rfl⟩
  rw [← hg20] at A20
  refine w_new (pc := 133) X20 C at_133 (List.mem_of_getElem? (i := 1) rfl) (List.mem_of_getElem? (i := 2) rfl) (List.mem_of_getElem? (i := 3) rfl) (by decide) (by decide) (fun T21 h21 a21 ha21 hb21 X21 E21 B21 D21 => ?_)
  have ne_a1_a21 : a1 ≠ a21 := Nat.ne_of_lt (by rw [ha21]; exact A20.lt)
  have Ak22 := A20.ext E21
  have F21_bytes : Fld Z h21 a21 "com/example/pondera/pondera/io/IndexBytes$Reader" "bytes" "[B" .null := D21 (Or.inr (List.mem_of_getElem? (i := 11) rfl)) (ty := (.array .byte)) (by decide)
  have F21_at : Fld Z h21 a21 "com/example/pondera/pondera/io/IndexBytes$Reader" "at" "I" (.int (0 : Int32)) := D21 (Or.inl (List.mem_of_getElem? (i := 13) rfl)) (ty := .int) (by decide)
  have F21_end : Fld Z h21 a21 "com/example/pondera/pondera/io/IndexBytes$Reader" "end" "I" (.int (0 : Int32)) := D21 (Or.inr (List.mem_of_getElem? (i := 15) rfl)) (ty := .int) (by decide)
  refine w_dup (pc := 136) X21 C at_136 rfl ?_
  refine w_aload (pc := 137) X21 C at_137 rfl rfl ?_
  refine w_iload (pc := 139) X21 C at_139 rfl ?_
  refine w_bipush (pc := 141) X21 C at_141 (8 : Int32) rfl ?_
  refine w_callI (pc := 143) X21 C (y := (⟨"com/example/pondera/pondera/io/IndexBytes$Reader", "<init>", "([BII)V"⟩ : MethodName)) (bytes := prog_103_method_2_code) (maxL := 4) (argsL := [(.ref a1), (.int o), (.int (8 : Int32))]) (rest := [(.ref a21)]) (W := 1) (a := a21) at_143 (List.mem_of_getElem? (i := 4) rfl) (List.mem_of_getElem? (i := 5) rfl) (List.mem_of_getElem? (i := 3) rfl) (List.mem_of_getElem? (i := 6) rfl) rfl (by decide) (ct1 l C.2.2.2.2.2.2.2.2 _ X21.size (a21) (a1) (o) ((8 : Int32)) B21 F21_bytes F21_at F21_end hb21) rfl ⟨_, _, pd_0, rfl⟩ rfl (Nat.le_of_eq rfl) (by decide) (by decide) (by decide) (by decide) (fun v23 T23 P23 X23 => ?_)
  obtain ⟨rfl, K23, E23, Fb23, Fa23⟩ := P23
  have A23 := Ak22.keep K23 (ninS ne_a1_a21 nin0)
  refine w_astore (pc := 146) X23 C at_146 #[.val (.int x0), .val (.long x1), .second, .val (.int x2), .val (.ref a1), .val (.int o), .val (.ref a21), .unset] rfl rfl ?_
  refine w_aload (pc := 148) X23 C at_148 rfl rfl ?_
  refine w_callV (pc := 150) X23 C (y := (⟨"com/example/pondera/pondera/io/IndexBytes$Reader", "checksum", "()I"⟩ : MethodName)) (bytes := prog_103_method_9_code) (maxL := 3) (rt := (some .int)) (argsL := []) (rest := []) (W := 0) (a := a21) at_150 (List.mem_of_getElem? (i := 16) rfl) (List.mem_of_getElem? (i := 18) rfl) (List.mem_of_getElem? (i := 3) rfl) (List.mem_of_getElem? (i := 20) rfl) (List.mem_of_getElem? (i := 17) rfl) (List.mem_of_getElem? (i := 19) rfl) E23 (by decide) (ct3 l C.2.2.2.2.2.2.2.2 _ X23.size (a21) a1 o g20 E23 Fb23 Fa23 A23 ne_a1_a21 (by omega) hb21) rfl ⟨_, _, pd_1, rfl⟩ rfl (Nat.le_of_eq rfl) (by decide) (by decide) (by decide) (by decide) (fun v24 T24 P24 X24 => ?_)
  obtain ⟨rfl, K24, E24, Fa24⟩ := P24
  refine w_istore (pc := 153) X24 C at_153 #[.val (.int x0), .val (.long x1), .second, .val (.int x2), .val (.ref a1), .val (.int o), .val (.ref a21), .val (.int (own_cs o g20))] rfl ?_
  refine w_iload (pc := 155) X24 C at_155 rfl ?_
  refine w_iloadN (pc := 157) X24 C at_157 rfl ?_
  refine w_icmp_ne (pc := 158) X24 C at_158 177 (by decide) (fun q25 => absurd (own_fin x0 o ho hg11 hg14 hg17 hg20) q25) (fun q25 => ?_)
  refine w_aload (pc := 161) X24 C at_161 rfl rfl ?_
  refine w_callV (pc := 163) X24 C (y := (⟨"com/example/pondera/pondera/io/IndexBytes$Reader", "at", "()I"⟩ : MethodName)) (bytes := prog_103_method_3_code) (maxL := 1) (rt := (some .int)) (argsL := []) (rest := []) (W := 0) (a := a21) at_163 (List.mem_of_getElem? (i := 21) rfl) (List.mem_of_getElem? (i := 23) rfl) (List.mem_of_getElem? (i := 3) rfl) (List.mem_of_getElem? (i := 25) rfl) (List.mem_of_getElem? (i := 22) rfl) (List.mem_of_getElem? (i := 24) rfl) E24 (by decide) (ct4 l C.2.2.2.2.2.2.2.2 _ X24.size (a21) ((((o + (1 : Int32)) + (1 : Int32)) + (1 : Int32)) + (1 : Int32)) Fa24) rfl ⟨_, _, pd_1, rfl⟩ rfl (Nat.le_of_eq rfl) (by decide) (by decide) (by decide) (by decide) (fun v26 T26 P26 X26 => ?_)
  obtain ⟨rfl, e26⟩ := P26
  rw [e26] at X26
  refine w_iload (pc := 166) X26 C at_166 rfl ?_
  refine w_iconst (pc := 168) X26 C at_168 (4 : Int32) rfl ?_
  refine w_iadd (pc := 169) X26 C at_169 ?_
  refine w_icmp_ne (pc := 170) X26 C at_170 177 (by decide) (fun q27 => absurd (own_at4 o) q27) (fun q27 => ?_)
  refine w_iconst (pc := 173) X26 C at_173 (1 : Int32) rfl ?_
  refine w_goto (pc := 174) X26 C at_174 178 (by decide) ?_
  exact w_ret_boolean (pc := 178) X26 C at_178 rfl
set_option maxRecDepth 65536 in
theorem law_ct (l : Launch) {Z : State} {a0 : Array Value} (hw : ∀ d ∈ tables_1, d.before a0 Z = true) (h : Heap) {n0 : Nat} (hn : n0 ≤ h.size) (x0 : Int32) (x1 : Int64) (x2 : Int32) : Ct l x code maxLocals ret room_1 Z #[(.int x0), (.long x1), (.int x2)] h n0 (fun v _ => v = some (.int 1)) :=
  Ct.of (plainFor_of_name pn_1) #[.val (.int x0), .val (.long x1), .second, .val (.int x2), .unset, .unset, .unset, .unset] (fun m => by first | (simp [entryFrame, mkF, argsToLocals, Value.category, maxLocals]; done) | rfl) hw hn (fun p e s m below meth c T C X => law_walk X C x0 x1 x2)
set_option maxRecDepth 65536 in
set_option maxHeartbeats 40000000 in
theorem comes_1 {Post : Tables → Env → Array Value → State → Outcome → State → Prop} (hpost : ∀ tb e args s v u, (limb_1_1.after args s (.returned v) u = true ∧ limb_1_2.after args s (.returned v) u = true ∧ True) → FrameEnd s (.returned v) u (Jvm.fieldLocs frame_1_writes args s ++ Jvm.arrayLocs frame_1_arrays args s ++ Jvm.staticLocs frame_1_statics s) 16 128 → Post tb e args s (.returned v) u) :
    ArmFor flags0 classFile x code maxLocals ret World_1 tables_1 room_1 Calls_1 rest_1 Pre_1 Post := by
  intro l hfl _ _ p e ha hc hk s m args below hf hA hF happ hP
  obtain ⟨hcalls, hrest, hpre⟩ := hP
  obtain ⟨-, -, -, hnamed, -, -, -, hat⟩ := (Spec.applies_iff hf).mp happ
  obtain ⟨hg, hn⟩ := and_e (Cond.before_iff.mp (show (Jvm.Cond.and given_1 narrow_1).before args s = true from hpre))
  obtain ⟨g1, g2⟩ := and_e hg
  obtain ⟨g3, g4⟩ := and_e g2
  obtain ⟨g5, g6⟩ := and_e g4
  obtain ⟨w0, w1, w2, rfl⟩ : ∃ w0 w1 w2 : Value, args = #[w0, w1, w2] := by
    have hs : args.size = 3 := by simpa [Cond.value, given_1] using g1
    obtain ⟨L⟩ := args
    match L, hs with
    | [w0, w1, w2], _ => exact ⟨w0, w1, w2, rfl⟩
  have hw := fun d (hd : d ∈ tables_1) => atoms_spec (ws := Jvm.Cond.code x code maxLocals ret :: tables_1) hat d (List.mem_cons_of_mem _ hd)
  obtain ⟨i0, ei0⟩ := is_v g3
  obtain rfl : w0 = (.int i0) := Option.some.inj ei0
  obtain ⟨i1, ei1⟩ := isL_v g5
  obtain rfl : w1 = (.long i1) := Option.some.inj ei1
  obtain ⟨i2, ei2⟩ := is_v g6
  obtain rfl : w2 = (.int i2) := Option.some.inj ei2
  obtain ⟨n, o, h1, h2, h3, _, L, rfl, ⟨N, rfl⟩, hq⟩ := law_ct l hw s.heap (Nat.le_refl _) i0 i1 i2 tables_1 p e ha hc hk s m _ below hf ((Spec.applies_iff_loose hf).mp happ).1 ⟨rfl, State.Warmed39.refl s, rfl⟩ trivial
  refine ⟨n, _, h1, h2, h3, hpost _ _ _ _ _ _ ⟨Cond.after_iff.mpr rfl, Cond.after_iff.mpr (eq_i res_at (Term.int_eval (1)) rfl), trivial⟩ ⟨hq.1, hq.2.1, (hq.2.2.sift fun y hy => Or.inr (N y hy)).mono (by decide) (by decide)⟩⟩
theorem main_1_1 : Claimed_1_1 := comes_1 fun _ _ _ _ _ _ h hF => ⟨h.1, hF⟩
theorem main_1_2 : Claimed_1_2 := comes_1 fun _ _ _ _ _ _ h hF => ⟨h.2.1, hF⟩
end Jvm.Pilot.@@N@@
namespace Jvm.Pilot.@@N@@
open Jvm Jvm.ClassFile Sem Op Lib Jvm.Free Jvm.Stand Jvm.Pilot.@@N@@.Jvm.D
/-! MADE BY PROGRAM (witnessworld.py) out of the Statement's table words and the real class files: 9 classes; the members and pool entries that the words name. The judged class is class 1, her method 1. -/
namespace start1
open Jvm.ClassFile
def u (s : String) : CpInfo := .utf8 (stringToUtf16 s)
/-- a pool by its gaps: so many unusable entries, then the entry; so many at the end -/
def gap : Nat → List CpInfo → List CpInfo
  | 0, r => r
  | n + 1, r => .unusable :: gap n r
def poolList (es : List (Nat × CpInfo)) (last : Nat) : List CpInfo := es.foldr (fun e r => gap e.1 (e.2 :: r)) (gap last [])
def pool (es : List (Nat × CpInfo)) (last : Nat) : Array CpInfo := ⟨poolList es last⟩
def fileOf (pool : Array CpInfo) (this : Nat) (attrs : Array Attribute := #[]) (ms : Array MethodInfo := #[]) (fl : Nat := 33) (sup : Nat := 0) (ifs : Array Nat := #[]) (fds : Array FieldInfo := #[]) : ClassFile where
  minorVersion := 0
  majorVersion := 65
  constantPool := pool
  accessFlags := fl
  thisClass := this
  superClass := sup
  interfaces := ifs
  fields := fds
  methods := ms
  attributes := attrs
def plain (name : String) (sup : Option ClassId) : Class where
  name := name
  kind := .ordinary
  loader := none
  accessFlags := 33
  super := sup
  interfaces := #[]
  cf := none
  fields := #[]
  methods := #[]
  instanceTypes := #[]
  staticTypes := #[]
  resolved := #[]
  callSites := []
  init := .initialized
  statics := none
  mirror := none

def pool0 : Array CpInfo := pool [(5, u "<init>"), (0, u "()V"), (1, .class_ 10), (1, u "java/lang/Object")] 113

def k0c0 : Code := { maxStack := 0, maxLocals := 1, code := object_method_1_code, exceptionTable := #[], attributes := #[] }
def k0m0 : Method := { name := "<init>", desc := "()V", sig := { parameters := [], returnType := none }, accessFlags := 1, code := some k0c0 }
/-- java/lang/Object -/
def k0 : Class := { plain "java/lang/Object" none with
  accessFlags := 33
  interfaces := #[]
  cf := some (fileOf pool0 8 #[] #[{ accessFlags := 1, nameIndex := 5, descriptorIndex := 6, attributes := #[] }] 33 0 #[] #[])
  fields := #[]
  methods := #[k0m0]
  instanceTypes := #[]
  staticTypes := #[]
  resolved := Array.replicate 124 none
  statics := none }

def pool1 : Array CpInfo := pool [(2, .class_ 4), (1, u "java/lang/Object"), (0, u "<init>"), (0, u "()V"), (0, .class_ 8), (0, u "com/example/pondera/pondera/io/IndexBytes$Reader"), (0, .methodref 7 10), (0, .nameAndType 5 11), (0, u "([BII)V"), (0, .methodref 7 13), (0, .nameAndType 14 15), (0, u "checksum"), (0, u "()I"), (0, .methodref 7 17), (0, .nameAndType 18 15), (0, u "at"), (0, .class_ 20), (0, u "com/example/pondera/pondera/io/ReaderChecksumPinLaw"), (2, u "law"), (0, u "(IJI)Z")] 9

def k1m0 : Method := { name := "<init>", desc := "()V", sig := { parameters := [], returnType := none }, accessFlags := 2, code := none }
def k1c1 : Code := { maxStack := 5, maxLocals := 8, code := code, exceptionTable := #[], attributes := #[] }
def k1m1 : Method := { name := "law", desc := "(IJI)Z", sig := { parameters := [.int, .long, .int], returnType := some .boolean }, accessFlags := 9, code := some k1c1 }
/-- com/example/pondera/pondera/io/ReaderChecksumPinLaw -/
def k1 : Class := { plain "com/example/pondera/pondera/io/ReaderChecksumPinLaw" (some 0) with
  accessFlags := 49
  interfaces := #[]
  cf := some (fileOf pool1 19 #[] #[{ accessFlags := 2, nameIndex := 5, descriptorIndex := 6, attributes := #[] }, { accessFlags := 9, nameIndex := 23, descriptorIndex := 24, attributes := #[] }] 49 2 #[] #[])
  fields := #[]
  methods := #[k1m0, k1m1]
  instanceTypes := #[]
  staticTypes := #[]
  resolved := Array.replicate 34 none
  statics := none }

def pool2 : Array CpInfo := pool [(2, .class_ 4), (1, u "com/example/pondera/pondera/io/IndexBytes$Reader"), (0, u "<init>"), (0, u "([BII)V"), (0, .methodref 8 9), (0, .class_ 10), (0, .nameAndType 5 11), (0, u "java/lang/Object"), (0, u "()V"), (0, .fieldref 2 13), (0, .nameAndType 14 15), (0, u "bytes"), (0, u "[B"), (0, .fieldref 2 17), (0, .nameAndType 18 19), (0, u "at"), (0, u "I"), (0, .fieldref 2 21), (0, .nameAndType 22 19), (0, u "end"), (56, u "()I"), (5, u "checksum"), (11, .class_ 98), (0, u "com/example/pondera/pondera/io/IndexBytes")] 2

def k2c0 : Code := { maxStack := 2, maxLocals := 4, code := prog_103_method_2_code, exceptionTable := #[], attributes := #[] }
def k2m0 : Method := { name := "<init>", desc := "([BII)V", sig := { parameters := [(.array .byte), .int, .int], returnType := none }, accessFlags := 0, code := some k2c0 }
def k2c1 : Code := { maxStack := 1, maxLocals := 1, code := prog_103_method_3_code, exceptionTable := #[], attributes := #[] }
def k2m1 : Method := { name := "at", desc := "()I", sig := { parameters := [], returnType := some .int }, accessFlags := 0, code := some k2c1 }
def k2c2 : Code := { maxStack := 6, maxLocals := 3, code := prog_103_method_9_code, exceptionTable := #[], attributes := #[] }
def k2m2 : Method := { name := "checksum", desc := "()I", sig := { parameters := [], returnType := some .int }, accessFlags := 0, code := some k2c2 }
/-- com/example/pondera/pondera/io/IndexBytes$Reader -/
def k2 : Class := { plain "com/example/pondera/pondera/io/IndexBytes$Reader" (some 0) with
  accessFlags := 48
  interfaces := #[]
  cf := some (fileOf pool2 2 #[.nestHost 97] #[{ accessFlags := 0, nameIndex := 5, descriptorIndex := 6, attributes := #[] }, { accessFlags := 0, nameIndex := 18, descriptorIndex := 79, attributes := #[] }, { accessFlags := 0, nameIndex := 85, descriptorIndex := 79, attributes := #[] }] 48 8 #[] #[{ accessFlags := 18, nameIndex := 14, descriptorIndex := 15, attributes := #[] }, { accessFlags := 18, nameIndex := 22, descriptorIndex := 19, attributes := #[] }, { accessFlags := 2, nameIndex := 18, descriptorIndex := 19, attributes := #[] }])
  fields := #[{ name := "bytes", type := (.array .byte), accessFlags := 18, slot := 0, constantValue := 0 }, { name := "end", type := .int, accessFlags := 18, slot := 1, constantValue := 0 }, { name := "at", type := .int, accessFlags := 2, slot := 2, constantValue := 0 }]
  methods := #[k2m0, k2m1, k2m2]
  instanceTypes := #[(.array .byte), .int, .int]
  staticTypes := #[]
  resolved := Array.replicate 101 none
  statics := none }

def pool3 : Array CpInfo := pool [(1, u "java/lang/Cloneable"), (0, .class_ 1), (0, u "java/lang/Object"), (0, .class_ 3)] 3

/-- java/lang/Cloneable -/
def k3 : Class := { plain "java/lang/Cloneable" (some 0) with
  accessFlags := 1537
  interfaces := #[]
  cf := some (fileOf pool3 2 #[] #[] 1537 4 #[] #[])
  fields := #[]
  methods := #[]
  instanceTypes := #[]
  staticTypes := #[]
  resolved := Array.replicate 8 none
  statics := none }

def pool4 : Array CpInfo := pool [(1, u "java/io/Serializable"), (0, .class_ 1), (0, u "java/lang/Object"), (0, .class_ 3)] 3

/-- java/io/Serializable -/
def k4 : Class := { plain "java/io/Serializable" (some 0) with
  accessFlags := 1537
  interfaces := #[]
  cf := some (fileOf pool4 2 #[] #[] 1537 4 #[] #[])
  fields := #[]
  methods := #[]
  instanceTypes := #[]
  staticTypes := #[]
  resolved := Array.replicate 8 none
  statics := none }

/-- the primitive byte -/
def k5 : Class := { plain "byte" none with kind := .primitive 'B', accessFlags := 0x411 }
/-- [B -/
def k6 : Class := { plain "[B" (some 0) with kind := .array 5 .byte, interfaces := #[3, 4], accessFlags := 1041 }

/-- the primitive int -/
def k7 : Class := { plain "int" none with kind := .primitive 'I', accessFlags := 0x411 }
/-- [I -/
def k8 : Class := { plain "[I" (some 0) with kind := .array 7 .int, interfaces := #[3, 4], accessFlags := 1041 }

def heap : Heap := #[]
def classes : Array Class := #[k0, k1, k2, k3, k4, k5, k6, k7, k8]
def interned : List (Array UInt16 × Addr) := []
def slotsUsed : Nat := 0
def theMethod : MethodId := ⟨1, 1⟩
def args0 : Array Value := #[.int 5, .long 3, .int 2]
def aboutOver (below : List Frame) : State where
  vm := { classes := classes, interned := interned.toArray }
  heap := heap
  slotsUsed := slotsUsed
  threads := #[{ frames := .invoking theMethod args0 :: below }]
def below0 : List Frame := [.native { method := ⟨0, 0⟩, args := #[] }]
def about1 : State := aboutOver below0
def p0 : Program := .bare "" "" ""
def e0 : Env := launch0.env 0 0 0
theorem w_frames : about1.frames = Frame.invoking theMethod args0 :: below0 := rfl
set_option maxRecDepth 65536 in
theorem w_args : argsFit about1.vm theMethod args0 = true := by decide +kernel
set_option maxRecDepth 65536 in
theorem w_heap : heapFits about1 = true := by decide +kernel
set_option maxRecDepth 65536 in
theorem w_runnable : about1.curStatus? = some .runnable := by decide +kernel
set_option maxRecDepth 65536 in
theorem w_alone : about1.alone = true := by decide +kernel
set_option maxRecDepth 65536 in
theorem w_named : about1.methodNamed? x = some theMethod := by decide +kernel
set_option maxRecDepth 65536 in
theorem w_hears : about1.hears theMethod below0 = true := by decide +kernel
set_option maxRecDepth 65536 in
theorem w_ripe : about1.ripe theMethod args0 below0 = true := by decide +kernel
theorem w_running : about1.status = .running := rfl
set_option maxRecDepth 65536 in
theorem w_room : about1.hasRoom e0.platform room_1 = true :=
  launch0.hasRoom_least _ room_1 (by decide +kernel) (by decide +kernel) (by decide +kernel) (by decide +kernel) (by decide +kernel) (by decide +kernel)
theorem allAtoms_all (ts : List Jvm.Cond) (a : Array Jvm.Value) (st : Jvm.State) : (allAtoms ts).before a st = ts.all (fun c => c.before a st) := by
  induction ts with
  | nil => rfl
  | cons c t ih =>
    show (Jvm.Cond.and c (allAtoms t)).before a st = _
    rw [Jvm.Cond.before_and, ih, List.all_cons]
def words1 : List Jvm.Cond := Jvm.Cond.code x code maxLocals ret :: tables_1
/-- a 'code' word, met by the world's own term for the bytes: nothing is compared byte by byte -/
theorem code_word {y : MethodName} {bytes : ByteArray} {mx : Nat} {rt : Option FieldType} {a : Array Value} {s : State} {m : MethodId} {meth : Method} {c : Code} (h1 : s.methodNamed? y = some m) (h2 : s.vm.method? m = some meth) (h3 : meth.code = some c) (h4 : c.code = bytes)
    (h5 : (c.maxLocals == mx && c.exceptionTable.isEmpty && decide (c.maxStack ≤ mostOperands) && decide (meth.sig.returnType = rt) && !meth.locks && decide (parseMethodDescriptor y.desc = some meth.sig)) = true) : (Jvm.Cond.code y bytes mx rt).before a s = true := by
  simp only [Bool.and_eq_true, beq_iff_eq, Bool.not_eq_true', decide_eq_true_eq] at h5
  obtain ⟨⟨⟨⟨⟨g1, g2⟩, g3⟩, g4⟩, g5⟩, g6⟩ := h5
  simp [Cond.before, Cond.holds, Cond.value, h1, h2, h3, h4, g1, g2, g3, g4, g5, g6]
def isCode : Jvm.Cond → Bool
  | .code _ _ _ _ => true
  | _ => false
theorem all_split {L : List Jvm.Cond} {P : Jvm.Cond → Bool} (h1 : L.all (fun c => isCode c || P c) = true) (h2 : ∀ c ∈ L.filter isCode, P c = true) : L.all P = true := by
  refine List.all_eq_true.mpr fun c hc => ?_
  have h := List.all_eq_true.mp h1 c hc
  rcases Bool.eq_false_or_eq_true (isCode c) with hi | hi
  · exact h2 c (List.mem_filter.mpr ⟨hc, hi⟩)
  · simpa [hi] using h
set_option maxRecDepth 65536 in
theorem w_c0 : (Jvm.Cond.code x code maxLocals ret).before args0 about1 = true := code_word (m := ⟨1, 1⟩) (meth := k1m1) (c := k1c1) (by decide +kernel) rfl rfl rfl (by decide +kernel)
set_option maxRecDepth 65536 in
theorem w_c1 : (Jvm.Cond.code ({ cls := "com/example/pondera/pondera/io/IndexBytes$Reader", name := "<init>", desc := "([BII)V" } : Jvm.MethodName) prog_103_method_2_code (4 : Nat) (Option.none : Option Jvm.ClassFile.FieldType)).before args0 about1 = true := code_word (m := ⟨2, 0⟩) (meth := k2m0) (c := k2c0) (by decide +kernel) rfl rfl rfl (by decide +kernel)
set_option maxRecDepth 65536 in
theorem w_c2 : (Jvm.Cond.code ({ cls := "java/lang/Object", name := "<init>", desc := "()V" } : Jvm.MethodName) object_method_1_code (1 : Nat) (Option.none : Option Jvm.ClassFile.FieldType)).before args0 about1 = true := code_word (m := ⟨0, 0⟩) (meth := k0m0) (c := k0c0) (by decide +kernel) rfl rfl rfl (by decide +kernel)
set_option maxRecDepth 65536 in
theorem w_c3 : (Jvm.Cond.code ({ cls := "com/example/pondera/pondera/io/IndexBytes$Reader", name := "checksum", desc := "()I" } : Jvm.MethodName) prog_103_method_9_code (3 : Nat) (Option.some Jvm.ClassFile.FieldType.int)).before args0 about1 = true := code_word (m := ⟨2, 2⟩) (meth := k2m2) (c := k2c2) (by decide +kernel) rfl rfl rfl (by decide +kernel)
set_option maxRecDepth 65536 in
theorem w_c4 : (Jvm.Cond.code ({ cls := "com/example/pondera/pondera/io/IndexBytes$Reader", name := "at", desc := "()I" } : Jvm.MethodName) prog_103_method_3_code (1 : Nat) (Option.some Jvm.ClassFile.FieldType.int)).before args0 about1 = true := code_word (m := ⟨2, 1⟩) (meth := k2m1) (c := k2c1) (by decide +kernel) rfl rfl rfl (by decide +kernel)
def codes1 : List Jvm.Cond := [Jvm.Cond.code x code maxLocals ret, Jvm.Cond.code ({ cls := "com/example/pondera/pondera/io/IndexBytes$Reader", name := "<init>", desc := "([BII)V" } : Jvm.MethodName) prog_103_method_2_code (4 : Nat) (Option.none : Option Jvm.ClassFile.FieldType), Jvm.Cond.code ({ cls := "java/lang/Object", name := "<init>", desc := "()V" } : Jvm.MethodName) object_method_1_code (1 : Nat) (Option.none : Option Jvm.ClassFile.FieldType), Jvm.Cond.code ({ cls := "com/example/pondera/pondera/io/IndexBytes$Reader", name := "checksum", desc := "()I" } : Jvm.MethodName) prog_103_method_9_code (3 : Nat) (Option.some Jvm.ClassFile.FieldType.int), Jvm.Cond.code ({ cls := "com/example/pondera/pondera/io/IndexBytes$Reader", name := "at", desc := "()I" } : Jvm.MethodName) prog_103_method_3_code (1 : Nat) (Option.some Jvm.ClassFile.FieldType.int)]
set_option maxRecDepth 65536 in
theorem codes_eq : words1.filter isCode = codes1 := rfl
theorem w_codes : ∀ c ∈ words1.filter isCode, c.before args0 about1 = true := by
  rw [codes_eq]
  intro c hc
  simp only [codes1, List.mem_cons, List.not_mem_nil, or_false] at hc
  rcases hc with rfl | rfl | rfl | rfl | rfl
  · exact w_c0
  · exact w_c1
  · exact w_c2
  · exact w_c3
  · exact w_c4
set_option maxRecDepth 65536 in
theorem w_t1 : (words1.take 24).all (fun c => isCode c || c.before args0 about1) = true := by decide +kernel
set_option maxRecDepth 65536 in
theorem w_t2 : (words1.drop 24).all (fun c => isCode c || c.before args0 about1) = true := by decide +kernel
theorem w_tables : (allAtoms (Jvm.Cond.code x code maxLocals ret :: tables_1)).before args0 about1 = true := by
  rw [allAtoms_all]
  show words1.all (fun c => c.before args0 about1) = true
  refine all_split ?_ w_codes
  rw [← List.take_append_drop 24 words1, List.all_append, w_t1, w_t2]
  rfl
set_option maxRecDepth 65536 in
theorem w_case : (Jvm.Cond.and given_1 narrow_1).before args0 about1 = true := by decide +kernel
theorem w_applies : (headSpec (Jvm.Cond.code x code maxLocals ret :: tables_1) room_1).applies x e0.platform about1 = true :=
  (Spec.applies_iff w_frames).mpr ⟨w_running, w_runnable, w_alone, w_named, w_hears, w_ripe, w_room, w_tables⟩
theorem atStart : AtStart classFile x code maxLocals ret World_1 tables_1 room_1 Calls_1 rest_1 Pre_1 launch0 p0 e0 about1 theMethod args0 below0 :=
  ⟨lists_1, trivial, launch0.admits_env _ _ _, launch0.least_env, fairChoices_fair.cas, fairChoices_fair.clock, w_frames, w_args, w_heap, w_applies, trivial, trivial, w_case⟩
end start1
theorem witness_1 : WitnessClaimed_1 := ⟨start1.p0, start1.e0, start1.about1, start1.theMethod, start1.args0, start1.below0, start1.atStart⟩
end Jvm.Pilot.@@N@@
