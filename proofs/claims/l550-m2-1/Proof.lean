import JvmDerived
import JvmDerived.Pilot.@@N@@Statement
import JvmDerived.Pilot.@@N@@Code
set_option linter.unusedVariables false
set_option linter.unusedSimpArgs false
@@BLOCK:NumsL.lean.txt@@
namespace Jvm.OwnW
open Sem ClassFile Op Lib Jvm.Stand Jvm.Free Jvm.LawKit Jvm.RoadKit
theorem retI' {p : Program} {l : Launch} {e : Env} {R : Room} {s : State} {m : MethodId} {args : Array Value} {below : List Frame} {meth : Method} {c : Code} {T : State} {locs : List Loc} {cells slots : Nat} (X : Stand p l e R s m args below meth c T locs cells slots) (hx : p.tables.exec = Jvm.exec) {pc : Nat} {Ls : Array Slot} {z : Int32} {rest : List Value} (hret : meth.sig.returnType = some .int) (hd : decode c.code pc = .ok (.ireturn, 1)) {fs : List Frame}
    (hl : ∀ (f : JFrame) (acts : List Action), f.method = m → f.locked = none → f.entered = [] → (doReturn e (T.setTop f) acts (some (.int z))).1 = T.setFrames fs) : Steps p.tables e below (T.setTop (mkF m pc Ls (.int z :: rest))) (T.setFrames fs) :=
  retOut X hx hret rfl (Or.inl ⟨rfl, Or.inl rfl, z, rfl⟩) hd hl
end Jvm.OwnW
namespace Jvm.OwnW
open Sem ClassFile Op Lib Jvm.Stand Jvm.Free Jvm.LawKit Jvm.RoadKit
def ushrI (x y : Int32) : Int32 := (x.toUInt32 >>> (y &&& 31).toUInt32).toInt32
def shlI (x y : Int32) : Int32 := x <<< (y &&& 31)
def shrI (x y : Int32) : Int32 := x >>> (y &&& 31)
def shlJ (x : Int64) (y : Int32) : Int64 := x <<< (y &&& 0x3f).toInt64
def shrJ (x : Int64) (y : Int32) : Int64 := x >>> (y &&& 0x3f).toInt64
def ushrJ (x : Int64) (y : Int32) : Int64 := (x.toUInt64 >>> (y &&& 0x3f).toInt64.toUInt64).toInt64
def cmpJ (x y : Int64) : Int32 := if x > y then 1 else if x = y then 0 else -1
def i8 (x : Int32) : Int32 := x.toInt8.toInt32
def i16c (x : Int32) : Int32 := x.toUInt32.toUInt16.toUInt32.toInt32
/-- from T with g on top the run comes to its end, and P says of what it returns and of the heap -/
def Goes (p : Program) (e : Env) (below : List Frame) (s : State) (n0 : Nat) (P : Option Value → Heap → Prop) (k n : Nat) (T : State) (g : JFrame) : Prop :=
  ∃ s₂ o, Steps p.tables e below (T.setTop g) s₂ ∧ s₂.status = .running ∧ Ended s₂ below o ∧ ∃ v L, o = .returned v ∧ (Fr n0 L ∧ P v s₂.heap) ∧ FrameEnd s o s₂ L k n
/-- where a walk stands: nothing old is written, the heap is h -/
def Hr (p : Program) (l : Launch) (e : Env) (R : Room) (s : State) (m : MethodId) (args : Array Value) (below : List Frame) (meth : Method) (c : Code) (n0 : Nat) (h : Heap) (cells slots : Nat) (T : State) : Prop :=
  ∃ locs, Stand p l e R s m args below meth c T locs cells slots ∧ T.heap = h ∧ Fr n0 locs ∧ n0 ≤ s.heap.size
/-- what stays through a body -/
def Cx (p : Program) (s : State) (m : MethodId) (meth : Method) (c : Code) (code : ByteArray) (ml : Nat) (ret : Option FieldType) (own nm : String) (Z : State) (a0 : Array Value) (tabs : List Jvm.Cond) : Prop :=
  p.tables.exec = Jvm.exec ∧ c.code = code ∧ c.maxLocals = ml ∧ meth.sig.returnType = ret ∧ meth.locks = false ∧ s.vm.findClass own = some m.cls ∧ meth.name = nm ∧ Z.Warmed39 s.vm ∧ ∀ d ∈ tabs, d.before a0 Z = true
/-- a body's contract: called with these arguments at this heap it returns, nothing old is written, and P says the rest -/
def Ct (l : Launch) (y : MethodName) (bytes : ByteArray) (maxL : Nat) (ret : Option FieldType) (rm : Room) (Z : State) (as' : Array Value) (h : Heap) (n0 : Nat) (P : Option Value → Heap → Prop) : Prop :=
  ∀ ws, MetFree l y (head1 (Jvm.Cond.code y bytes maxL ret :: ws) rm) (fun a U => a = as' ∧ Z.Warmed39 U.vm ∧ U.heap = h) (fun _ _ _ _ _ => True) (fun _ U o U' => ∃ v L, o = .returned v ∧ (Fr n0 L ∧ P v U'.heap) ∧ FrameEnd U o U' L rm.cells rm.slots)
def up {α : Type} (g : Nat → α) (j : Nat) (v : α) : Nat → α := fun i => if i = j then v else g i
/-- an array of N places: place i holds f i -/
def ArV (Z : State) (h : Heap) (a : Addr) (ty : FieldType) (N : Nat) (f : Nat → Value) : Prop := ∃ cl : Cell, Arr Z h a cl ty ∧ cl.slots.size = N ∧ ∀ i, i < N → cl.slots[i]? = some (f i)
abbrev ArI (Z : State) (h : Heap) (a : Addr) (ty : FieldType) (N : Nat) (g : Nat → Int32) : Prop := ArV Z h a ty N (fun i => .int (g i))
abbrev ArJ (Z : State) (h : Heap) (a : Addr) (N : Nat) (g : Nat → Int64) : Prop := ArV Z h a .long N (fun i => .long (g i))
/-- an index as a natural number -/
def nt (j : Int32) : Nat := j.toInt.toNat
theorem nt_eq {j : Int32} (h : 0 ≤ j.toInt) : j.toInt = (nt j : Int) := by unfold nt; omega
theorem nt_lt {j : Int32} {N : Nat} (h : j.toInt < N) (h0 : 0 < N) : nt j < N := by unfold nt; omega
theorem add1 {x : Int32} (y : Int32) (d : Int) (hd : y.toInt = d) (h1 : -2147483648 ≤ x.toInt + d) (h2 : x.toInt + d < 2147483648) : (x + y).toInt = x.toInt + d := by
  have h := c_iadd x y
  have r := rng32 (x + y)
  omega
theorem sub1 {x : Int32} (y : Int32) (d : Int) (hd : y.toInt = d) (h1 : -2147483648 ≤ x.toInt - d) (h2 : x.toInt - d < 2147483648) : (x - y).toInt = x.toInt - d := by
  have h := c_isub x y
  have r := rng32 (x - y)
  omega
section W
variable {p : Program} {l : Launch} {e : Env} {R : Room} {s : State} {m : MethodId} {args : Array Value} {below : List Frame} {meth : Method} {c : Code} {T : State} {h h' : Heap} {cells slots : Nat} {n0 : Nat} {P : Option Value → Heap → Prop} {k n : Nat} {code : ByteArray} {ml : Nat} {ret : Option FieldType} {own nm : String} {Z : State} {a0 : Array Value} {tabs : List Jvm.Cond}
theorem Goes.of {g g' : JFrame} {T' : State} (st : ∀ target, Steps p.tables e below (T'.setTop g') target → Steps p.tables e below (T.setTop g) target) (K : Goes p e below s n0 P k n T' g') : Goes p e below s n0 P k n T g := by
  obtain ⟨s₂, o, h1, r⟩ := K
  exact ⟨s₂, o, st _ h1, r⟩
theorem Goes.imp {P' : Option Value → Heap → Prop} {g : JFrame} (hp : ∀ v h, P v h → P' v h) (K : Goes p e below s n0 P k n T g) : Goes p e below s n0 P' k n T g := by
  obtain ⟨s₂, o, h1, h2, h3, v, L, h4, h5, h6⟩ := K
  exact ⟨s₂, o, h1, h2, h3, v, L, h4, ⟨h5.1, hp _ _ h5.2⟩, h6⟩
theorem Ct.imp {y : MethodName} {bytes : ByteArray} {maxL : Nat} {rm : Room} {as' : Array Value} {P' : Option Value → Heap → Prop} (hp : ∀ v h, P v h → P' v h) (K : Ct l y bytes maxL ret rm Z as' h n0 P) : Ct l y bytes maxL ret rm Z as' h n0 P' := by
  intro ws p e ha hc hk s m args below hf happ hP hK
  obtain ⟨n, o, h1, h2, h3, v, L, h4, h5, h6⟩ := K ws p e ha hc hk s m args below hf happ hP hK
  exact ⟨n, o, h1, h2, h3, v, L, h4, ⟨h5.1, hp _ _ h5.2⟩, h6⟩
theorem Hr.size (X : Hr p l e R s m args below meth c n0 h cells slots T) : n0 ≤ h.size := by
  obtain ⟨locs, S, eT, N, q⟩ := X
  have q2 : s.heap.size ≤ T.heap.size := S.same.2.1
  rw [eT] at q2
  exact Nat.le_trans q q2
theorem Ct.of {y : MethodName} {bytes : ByteArray} {maxL : Nat} {rm : Room} {as' : Array Value} (hpl : plainFor y = true) (Ls : Array Slot) (hef : ∀ m, entryFrame m as' maxL = mkF m 0 Ls []) (hw : ∀ d ∈ tabs, d.before a0 Z = true) (hn0 : n0 ≤ h.size)
    (K : ∀ p e s m below meth c T, Cx p s m meth c bytes maxL ret y.cls y.name Z a0 tabs → Hr p l e rm s m as' below meth c n0 h 0 0 T → Goes p e below s n0 P rm.cells rm.slots T (mkF m 0 Ls [])) :
    Ct l y bytes maxL ret rm Z as' h n0 P := by
  intro ws
  refine MetFree.of_bodySF hpl hisR ?_
  intro p e s m args below meth c s₁ Bd hml0 hP hK
  obtain ⟨rfl, hZ, hh⟩ := hP
  obtain ⟨s₂, o, h1, r⟩ := K p e s m below meth c s₁ ⟨Bd.exec, Bd.bytes, hml0, Bd.returns, BodyLoose.notSynchronized Bd, findClass_of_methodNamed Bd.named, (name_of_methodNamed Bd.named Bd.method).1, hZ, hw⟩ ⟨[], Stand.of_body Bd, by rw [← hh, Bd.state]; rfl, Fr.nil n0, by rw [hh]; exact hn0⟩
  exact ⟨s₂, o, castTop (hef m) h1, r⟩

theorem w_iadd (X : Hr p l e R s m args below meth c n0 h cells slots T) (C : Cx p s m meth c code ml ret own nm Z a0 tabs) {pc : Nat} {Ls : Array Slot} {x y : Int32} {rest : List Value} (hd : decode code pc = .ok (.iadd, 1)) (K : Goes p e below s n0 P k n T (mkF m (pc + 1) Ls (.int (x + y) :: rest))) : Goes p e below s n0 P k n T (mkF m pc Ls (.int y :: .int x :: rest)) := by
  obtain ⟨locs, S, -, -, -⟩ := X
  exact Goes.of (fun _ kk => XS.iadd S.here C.1 rfl (hb C.2.1 hd) rfl kk) K
theorem w_isub (X : Hr p l e R s m args below meth c n0 h cells slots T) (C : Cx p s m meth c code ml ret own nm Z a0 tabs) {pc : Nat} {Ls : Array Slot} {x y : Int32} {rest : List Value} (hd : decode code pc = .ok (.isub, 1)) (K : Goes p e below s n0 P k n T (mkF m (pc + 1) Ls (.int (x - y) :: rest))) : Goes p e below s n0 P k n T (mkF m pc Ls (.int y :: .int x :: rest)) := by
  obtain ⟨locs, S, -, -, -⟩ := X
  exact Goes.of (fun _ kk => XS.isub S.here C.1 rfl (hb C.2.1 hd) rfl kk) K
theorem w_imul (X : Hr p l e R s m args below meth c n0 h cells slots T) (C : Cx p s m meth c code ml ret own nm Z a0 tabs) {pc : Nat} {Ls : Array Slot} {x y : Int32} {rest : List Value} (hd : decode code pc = .ok (.imul, 1)) (K : Goes p e below s n0 P k n T (mkF m (pc + 1) Ls (.int (x * y) :: rest))) : Goes p e below s n0 P k n T (mkF m pc Ls (.int y :: .int x :: rest)) := by
  obtain ⟨locs, S, -, -, -⟩ := X
  exact Goes.of (fun _ kk => XS.imul S.here C.1 rfl (hb C.2.1 hd) rfl kk) K
theorem w_iand (X : Hr p l e R s m args below meth c n0 h cells slots T) (C : Cx p s m meth c code ml ret own nm Z a0 tabs) {pc : Nat} {Ls : Array Slot} {x y : Int32} {rest : List Value} (hd : decode code pc = .ok (.iand, 1)) (K : Goes p e below s n0 P k n T (mkF m (pc + 1) Ls (.int (x &&& y) :: rest))) : Goes p e below s n0 P k n T (mkF m pc Ls (.int y :: .int x :: rest)) := by
  obtain ⟨locs, S, -, -, -⟩ := X
  exact Goes.of (fun _ kk => XS.iand S.here C.1 rfl (hb C.2.1 hd) rfl kk) K
theorem w_ior (X : Hr p l e R s m args below meth c n0 h cells slots T) (C : Cx p s m meth c code ml ret own nm Z a0 tabs) {pc : Nat} {Ls : Array Slot} {x y : Int32} {rest : List Value} (hd : decode code pc = .ok (.ior, 1)) (K : Goes p e below s n0 P k n T (mkF m (pc + 1) Ls (.int (x ||| y) :: rest))) : Goes p e below s n0 P k n T (mkF m pc Ls (.int y :: .int x :: rest)) := by
  obtain ⟨locs, S, -, -, -⟩ := X
  exact Goes.of (fun _ kk => XS.ior S.here C.1 rfl (hb C.2.1 hd) rfl kk) K
theorem w_ixor (X : Hr p l e R s m args below meth c n0 h cells slots T) (C : Cx p s m meth c code ml ret own nm Z a0 tabs) {pc : Nat} {Ls : Array Slot} {x y : Int32} {rest : List Value} (hd : decode code pc = .ok (.ixor, 1)) (K : Goes p e below s n0 P k n T (mkF m (pc + 1) Ls (.int (x ^^^ y) :: rest))) : Goes p e below s n0 P k n T (mkF m pc Ls (.int y :: .int x :: rest)) := by
  obtain ⟨locs, S, -, -, -⟩ := X
  exact Goes.of (fun _ kk => XS.ixor S.here C.1 rfl (hb C.2.1 hd) rfl kk) K
theorem w_ishl (X : Hr p l e R s m args below meth c n0 h cells slots T) (C : Cx p s m meth c code ml ret own nm Z a0 tabs) {pc : Nat} {Ls : Array Slot} {x y : Int32} {rest : List Value} (hd : decode code pc = .ok (.ishl, 1)) (K : Goes p e below s n0 P k n T (mkF m (pc + 1) Ls (.int (shlI x y) :: rest))) : Goes p e below s n0 P k n T (mkF m pc Ls (.int y :: .int x :: rest)) := by
  obtain ⟨locs, S, -, -, -⟩ := X
  exact Goes.of (fun _ kk => XS.ishl S.here C.1 rfl (hb C.2.1 hd) rfl kk) K
theorem w_ishr (X : Hr p l e R s m args below meth c n0 h cells slots T) (C : Cx p s m meth c code ml ret own nm Z a0 tabs) {pc : Nat} {Ls : Array Slot} {x y : Int32} {rest : List Value} (hd : decode code pc = .ok (.ishr, 1)) (K : Goes p e below s n0 P k n T (mkF m (pc + 1) Ls (.int (shrI x y) :: rest))) : Goes p e below s n0 P k n T (mkF m pc Ls (.int y :: .int x :: rest)) := by
  obtain ⟨locs, S, -, -, -⟩ := X
  exact Goes.of (fun _ kk => XS.ishr S.here C.1 rfl (hb C.2.1 hd) rfl kk) K
theorem w_iushr (X : Hr p l e R s m args below meth c n0 h cells slots T) (C : Cx p s m meth c code ml ret own nm Z a0 tabs) {pc : Nat} {Ls : Array Slot} {x y : Int32} {rest : List Value} (hd : decode code pc = .ok (.iushr, 1)) (K : Goes p e below s n0 P k n T (mkF m (pc + 1) Ls (.int (ushrI x y) :: rest))) : Goes p e below s n0 P k n T (mkF m pc Ls (.int y :: .int x :: rest)) := by
  obtain ⟨locs, S, -, -, -⟩ := X
  exact Goes.of (fun _ kk => XS.iushr S.here C.1 rfl (hb C.2.1 hd) rfl kk) K
theorem w_ladd (X : Hr p l e R s m args below meth c n0 h cells slots T) (C : Cx p s m meth c code ml ret own nm Z a0 tabs) {pc : Nat} {Ls : Array Slot} {x y : Int64} {rest : List Value} (hd : decode code pc = .ok (.ladd, 1)) (K : Goes p e below s n0 P k n T (mkF m (pc + 1) Ls (.long (x + y) :: rest))) : Goes p e below s n0 P k n T (mkF m pc Ls (.long y :: .long x :: rest)) := by
  obtain ⟨locs, S, -, -, -⟩ := X
  exact Goes.of (fun _ kk => XS.ladd S.here C.1 rfl (hb C.2.1 hd) rfl kk) K
theorem w_lsub (X : Hr p l e R s m args below meth c n0 h cells slots T) (C : Cx p s m meth c code ml ret own nm Z a0 tabs) {pc : Nat} {Ls : Array Slot} {x y : Int64} {rest : List Value} (hd : decode code pc = .ok (.lsub, 1)) (K : Goes p e below s n0 P k n T (mkF m (pc + 1) Ls (.long (x - y) :: rest))) : Goes p e below s n0 P k n T (mkF m pc Ls (.long y :: .long x :: rest)) := by
  obtain ⟨locs, S, -, -, -⟩ := X
  exact Goes.of (fun _ kk => XS.lsub S.here C.1 rfl (hb C.2.1 hd) rfl kk) K
theorem w_lmul (X : Hr p l e R s m args below meth c n0 h cells slots T) (C : Cx p s m meth c code ml ret own nm Z a0 tabs) {pc : Nat} {Ls : Array Slot} {x y : Int64} {rest : List Value} (hd : decode code pc = .ok (.lmul, 1)) (K : Goes p e below s n0 P k n T (mkF m (pc + 1) Ls (.long (x * y) :: rest))) : Goes p e below s n0 P k n T (mkF m pc Ls (.long y :: .long x :: rest)) := by
  obtain ⟨locs, S, -, -, -⟩ := X
  exact Goes.of (fun _ kk => XS.lmul S.here C.1 rfl (hb C.2.1 hd) rfl kk) K
theorem w_land (X : Hr p l e R s m args below meth c n0 h cells slots T) (C : Cx p s m meth c code ml ret own nm Z a0 tabs) {pc : Nat} {Ls : Array Slot} {x y : Int64} {rest : List Value} (hd : decode code pc = .ok (.land, 1)) (K : Goes p e below s n0 P k n T (mkF m (pc + 1) Ls (.long (x &&& y) :: rest))) : Goes p e below s n0 P k n T (mkF m pc Ls (.long y :: .long x :: rest)) := by
  obtain ⟨locs, S, -, -, -⟩ := X
  exact Goes.of (fun _ kk => XS.land S.here C.1 rfl (hb C.2.1 hd) rfl kk) K
theorem w_lor (X : Hr p l e R s m args below meth c n0 h cells slots T) (C : Cx p s m meth c code ml ret own nm Z a0 tabs) {pc : Nat} {Ls : Array Slot} {x y : Int64} {rest : List Value} (hd : decode code pc = .ok (.lor, 1)) (K : Goes p e below s n0 P k n T (mkF m (pc + 1) Ls (.long (x ||| y) :: rest))) : Goes p e below s n0 P k n T (mkF m pc Ls (.long y :: .long x :: rest)) := by
  obtain ⟨locs, S, -, -, -⟩ := X
  exact Goes.of (fun _ kk => XS.lor S.here C.1 rfl (hb C.2.1 hd) rfl kk) K
theorem w_lxor (X : Hr p l e R s m args below meth c n0 h cells slots T) (C : Cx p s m meth c code ml ret own nm Z a0 tabs) {pc : Nat} {Ls : Array Slot} {x y : Int64} {rest : List Value} (hd : decode code pc = .ok (.lxor, 1)) (K : Goes p e below s n0 P k n T (mkF m (pc + 1) Ls (.long (x ^^^ y) :: rest))) : Goes p e below s n0 P k n T (mkF m pc Ls (.long y :: .long x :: rest)) := by
  obtain ⟨locs, S, -, -, -⟩ := X
  exact Goes.of (fun _ kk => XS.lxor S.here C.1 rfl (hb C.2.1 hd) rfl kk) K
theorem w_lshl (X : Hr p l e R s m args below meth c n0 h cells slots T) (C : Cx p s m meth c code ml ret own nm Z a0 tabs) {pc : Nat} {Ls : Array Slot} {x : Int64} {y : Int32} {rest : List Value} (hd : decode code pc = .ok (.lshl, 1)) (K : Goes p e below s n0 P k n T (mkF m (pc + 1) Ls (.long (shlJ x y) :: rest))) : Goes p e below s n0 P k n T (mkF m pc Ls (.int y :: .long x :: rest)) := by
  obtain ⟨locs, S, -, -, -⟩ := X
  exact Goes.of (fun _ kk => XS.lshl S.here C.1 rfl (hb C.2.1 hd) rfl kk) K
theorem w_lshr (X : Hr p l e R s m args below meth c n0 h cells slots T) (C : Cx p s m meth c code ml ret own nm Z a0 tabs) {pc : Nat} {Ls : Array Slot} {x : Int64} {y : Int32} {rest : List Value} (hd : decode code pc = .ok (.lshr, 1)) (K : Goes p e below s n0 P k n T (mkF m (pc + 1) Ls (.long (shrJ x y) :: rest))) : Goes p e below s n0 P k n T (mkF m pc Ls (.int y :: .long x :: rest)) := by
  obtain ⟨locs, S, -, -, -⟩ := X
  exact Goes.of (fun _ kk => XS.lshr S.here C.1 rfl (hb C.2.1 hd) rfl kk) K
theorem w_lushr (X : Hr p l e R s m args below meth c n0 h cells slots T) (C : Cx p s m meth c code ml ret own nm Z a0 tabs) {pc : Nat} {Ls : Array Slot} {x : Int64} {y : Int32} {rest : List Value} (hd : decode code pc = .ok (.lushr, 1)) (K : Goes p e below s n0 P k n T (mkF m (pc + 1) Ls (.long (ushrJ x y) :: rest))) : Goes p e below s n0 P k n T (mkF m pc Ls (.int y :: .long x :: rest)) := by
  obtain ⟨locs, S, -, -, -⟩ := X
  exact Goes.of (fun _ kk => XS.lushr S.here C.1 rfl (hb C.2.1 hd) rfl kk) K
theorem w_lcmp (X : Hr p l e R s m args below meth c n0 h cells slots T) (C : Cx p s m meth c code ml ret own nm Z a0 tabs) {pc : Nat} {Ls : Array Slot} {x y : Int64} {rest : List Value} (hd : decode code pc = .ok (.lcmp, 1)) (K : Goes p e below s n0 P k n T (mkF m (pc + 1) Ls (.int (cmpJ x y) :: rest))) : Goes p e below s n0 P k n T (mkF m pc Ls (.long y :: .long x :: rest)) := by
  obtain ⟨locs, S, -, -, -⟩ := X
  exact Goes.of (fun _ kk => XS.lcmp S.here C.1 rfl (hb C.2.1 hd) rfl kk) K
theorem w_i2b (X : Hr p l e R s m args below meth c n0 h cells slots T) (C : Cx p s m meth c code ml ret own nm Z a0 tabs) {pc : Nat} {Ls : Array Slot} {x : Int32} {rest : List Value} (hd : decode code pc = .ok (.i2b, 1)) (K : Goes p e below s n0 P k n T (mkF m (pc + 1) Ls (.int (i8 x) :: rest))) : Goes p e below s n0 P k n T (mkF m pc Ls (.int x :: rest)) := by
  obtain ⟨locs, S, -, -, -⟩ := X
  exact Goes.of (fun _ kk => XS.i2b S.here C.1 rfl (hb C.2.1 hd) rfl kk) K
theorem w_i2c (X : Hr p l e R s m args below meth c n0 h cells slots T) (C : Cx p s m meth c code ml ret own nm Z a0 tabs) {pc : Nat} {Ls : Array Slot} {x : Int32} {rest : List Value} (hd : decode code pc = .ok (.i2c, 1)) (K : Goes p e below s n0 P k n T (mkF m (pc + 1) Ls (.int (i16c x) :: rest))) : Goes p e below s n0 P k n T (mkF m pc Ls (.int x :: rest)) := by
  obtain ⟨locs, S, -, -, -⟩ := X
  exact Goes.of (fun _ kk => XS.i2c S.here C.1 rfl (hb C.2.1 hd) rfl kk) K
theorem w_i2s (X : Hr p l e R s m args below meth c n0 h cells slots T) (C : Cx p s m meth c code ml ret own nm Z a0 tabs) {pc : Nat} {Ls : Array Slot} {x : Int32} {rest : List Value} (hd : decode code pc = .ok (.i2s, 1)) (K : Goes p e below s n0 P k n T (mkF m (pc + 1) Ls (.int (x.toInt16.toInt32) :: rest))) : Goes p e below s n0 P k n T (mkF m pc Ls (.int x :: rest)) := by
  obtain ⟨locs, S, -, -, -⟩ := X
  exact Goes.of (fun _ kk => XS.i2s S.here C.1 rfl (hb C.2.1 hd) rfl kk) K
theorem w_ineg (X : Hr p l e R s m args below meth c n0 h cells slots T) (C : Cx p s m meth c code ml ret own nm Z a0 tabs) {pc : Nat} {Ls : Array Slot} {x : Int32} {rest : List Value} (hd : decode code pc = .ok (.ineg, 1)) (K : Goes p e below s n0 P k n T (mkF m (pc + 1) Ls (.int (-x) :: rest))) : Goes p e below s n0 P k n T (mkF m pc Ls (.int x :: rest)) := by
  obtain ⟨locs, S, -, -, -⟩ := X
  exact Goes.of (fun _ kk => XS.ineg S.here C.1 rfl (hb C.2.1 hd) rfl kk) K
theorem w_i2l (X : Hr p l e R s m args below meth c n0 h cells slots T) (C : Cx p s m meth c code ml ret own nm Z a0 tabs) {pc : Nat} {Ls : Array Slot} {x : Int32} {rest : List Value} (hd : decode code pc = .ok (.i2l, 1)) (K : Goes p e below s n0 P k n T (mkF m (pc + 1) Ls (.long (x.toInt64) :: rest))) : Goes p e below s n0 P k n T (mkF m pc Ls (.int x :: rest)) := by
  obtain ⟨locs, S, -, -, -⟩ := X
  exact Goes.of (fun _ kk => XS.i2l S.here C.1 rfl (hb C.2.1 hd) rfl kk) K
theorem w_l2i (X : Hr p l e R s m args below meth c n0 h cells slots T) (C : Cx p s m meth c code ml ret own nm Z a0 tabs) {pc : Nat} {Ls : Array Slot} {x : Int64} {rest : List Value} (hd : decode code pc = .ok (.l2i, 1)) (K : Goes p e below s n0 P k n T (mkF m (pc + 1) Ls (.int (x.toInt32) :: rest))) : Goes p e below s n0 P k n T (mkF m pc Ls (.long x :: rest)) := by
  obtain ⟨locs, S, -, -, -⟩ := X
  exact Goes.of (fun _ kk => XS.l2i S.here C.1 rfl (hb C.2.1 hd) rfl kk) K
theorem w_lneg (X : Hr p l e R s m args below meth c n0 h cells slots T) (C : Cx p s m meth c code ml ret own nm Z a0 tabs) {pc : Nat} {Ls : Array Slot} {x : Int64} {rest : List Value} (hd : decode code pc = .ok (.lneg, 1)) (K : Goes p e below s n0 P k n T (mkF m (pc + 1) Ls (.long (-x) :: rest))) : Goes p e below s n0 P k n T (mkF m pc Ls (.long x :: rest)) := by
  obtain ⟨locs, S, -, -, -⟩ := X
  exact Goes.of (fun _ kk => XS.lneg S.here C.1 rfl (hb C.2.1 hd) rfl kk) K
theorem w_idiv (X : Hr p l e R s m args below meth c n0 h cells slots T) (C : Cx p s m meth c code ml ret own nm Z a0 tabs) {pc : Nat} {Ls : Array Slot} {x y : Int32} {rest : List Value} (hd : decode code pc = .ok (.idiv, 1)) (hy : y ≠ 0) (K : Goes p e below s n0 P k n T (mkF m (pc + 1) Ls (.int (x / y) :: rest))) : Goes p e below s n0 P k n T (mkF m pc Ls (.int y :: .int x :: rest)) := by
  obtain ⟨locs, S, -, -, -⟩ := X
  exact Goes.of (fun _ kk => XS.idiv S.here C.1 rfl (hb C.2.1 hd) rfl hy kk) K
theorem w_ldiv (X : Hr p l e R s m args below meth c n0 h cells slots T) (C : Cx p s m meth c code ml ret own nm Z a0 tabs) {pc : Nat} {Ls : Array Slot} {x y : Int64} {rest : List Value} (hd : decode code pc = .ok (.ldiv, 1)) (hy : y ≠ 0) (K : Goes p e below s n0 P k n T (mkF m (pc + 1) Ls (.long (x / y) :: rest))) : Goes p e below s n0 P k n T (mkF m pc Ls (.long y :: .long x :: rest)) := by
  obtain ⟨locs, S, -, -, -⟩ := X
  exact Goes.of (fun _ kk => XS.ldiv S.here C.1 rfl (hb C.2.1 hd) rfl hy kk) K
theorem w_irem (X : Hr p l e R s m args below meth c n0 h cells slots T) (C : Cx p s m meth c code ml ret own nm Z a0 tabs) {pc : Nat} {Ls : Array Slot} {x y : Int32} {rest : List Value} (hd : decode code pc = .ok (.irem, 1)) (hy : y ≠ 0) (K : Goes p e below s n0 P k n T (mkF m (pc + 1) Ls (.int (x % y) :: rest))) : Goes p e below s n0 P k n T (mkF m pc Ls (.int y :: .int x :: rest)) := by
  obtain ⟨locs, S, -, -, -⟩ := X
  rw [← irem_eq_mod x y] at K
  exact Goes.of (fun _ kk => XS.irem S.here C.1 rfl (hb C.2.1 hd) rfl hy kk) K
theorem w_lrem (X : Hr p l e R s m args below meth c n0 h cells slots T) (C : Cx p s m meth c code ml ret own nm Z a0 tabs) {pc : Nat} {Ls : Array Slot} {x y : Int64} {rest : List Value} (hd : decode code pc = .ok (.lrem, 1)) (hy : y ≠ 0) (K : Goes p e below s n0 P k n T (mkF m (pc + 1) Ls (.long (x % y) :: rest))) : Goes p e below s n0 P k n T (mkF m pc Ls (.long y :: .long x :: rest)) := by
  obtain ⟨locs, S, -, -, -⟩ := X
  rw [← lrem_mod x y] at K
  exact Goes.of (fun _ kk => XS.lrem S.here C.1 rfl (hb C.2.1 hd) rfl hy kk) K
theorem w_dup (X : Hr p l e R s m args below meth c n0 h cells slots T) (C : Cx p s m meth c code ml ret own nm Z a0 tabs) {pc : Nat} {Ls : Array Slot} {x : Value} {rest : List Value} (hd : decode code pc = .ok (.dup, 1)) (hc : x.category = 1) (K : Goes p e below s n0 P k n T (mkF m (pc + 1) Ls (x :: x :: rest))) : Goes p e below s n0 P k n T (mkF m pc Ls (x :: rest)) := by
  obtain ⟨locs, S, -, -, -⟩ := X
  exact Goes.of (fun _ kk => XS.dup S.here C.1 rfl (hb C.2.1 hd) rfl hc kk) K
theorem w_pop (X : Hr p l e R s m args below meth c n0 h cells slots T) (C : Cx p s m meth c code ml ret own nm Z a0 tabs) {pc : Nat} {Ls : Array Slot} {x : Value} {rest : List Value} (hd : decode code pc = .ok (.pop, 1)) (hc : x.category = 1) (K : Goes p e below s n0 P k n T (mkF m (pc + 1) Ls (rest))) : Goes p e below s n0 P k n T (mkF m pc Ls (x :: rest)) := by
  obtain ⟨locs, S, -, -, -⟩ := X
  exact Goes.of (fun _ kk => XS.pop S.here C.1 rfl (hb C.2.1 hd) rfl hc kk) K
theorem w_dup_x1 (X : Hr p l e R s m args below meth c n0 h cells slots T) (C : Cx p s m meth c code ml ret own nm Z a0 tabs) {pc : Nat} {Ls : Array Slot} {x y : Value} {rest : List Value} (hd : decode code pc = .ok (.dup_x1, 1)) (hc : x.category = 1) (hc' : y.category = 1) (K : Goes p e below s n0 P k n T (mkF m (pc + 1) Ls (x :: y :: x :: rest))) : Goes p e below s n0 P k n T (mkF m pc Ls (x :: y :: rest)) := by
  obtain ⟨locs, S, -, -, -⟩ := X
  exact Goes.of (fun _ kk => XS.dupX1 S.here C.1 rfl (hb C.2.1 hd) rfl hc hc' kk) K
theorem w_dup2 (X : Hr p l e R s m args below meth c n0 h cells slots T) (C : Cx p s m meth c code ml ret own nm Z a0 tabs) {pc : Nat} {Ls : Array Slot} {x y : Value} {rest : List Value} (hd : decode code pc = .ok (.dup2, 1)) (hc : x.category = 1) (hc' : y.category = 1) (K : Goes p e below s n0 P k n T (mkF m (pc + 1) Ls (x :: y :: x :: y :: rest))) : Goes p e below s n0 P k n T (mkF m pc Ls (x :: y :: rest)) := by
  obtain ⟨locs, S, -, -, -⟩ := X
  exact Goes.of (fun _ kk => XT.dup2 S.here C.1 rfl (hb C.2.1 hd) rfl hc hc' kk) K
theorem w_iload (X : Hr p l e R s m args below meth c n0 h cells slots T) (C : Cx p s m meth c code ml ret own nm Z a0 tabs) {pc : Nat} {Ls : Array Slot} {k0 : Nat} {x : Int32} {rest : List Value} (hd : decode code pc = .ok (.iload k0, 2)) (hl : Ls[k0]? = some (.val (.int x))) (K : Goes p e below s n0 P k n T (mkF m (pc + 2) Ls (.int x :: rest))) : Goes p e below s n0 P k n T (mkF m pc Ls rest) := by
  obtain ⟨locs, S, -, -, -⟩ := X
  exact Goes.of (fun _ kk => XS.iload S.here C.1 rfl (hb C.2.1 hd) hl kk) K
theorem w_istore (X : Hr p l e R s m args below meth c n0 h cells slots T) (C : Cx p s m meth c code ml ret own nm Z a0 tabs) {pc : Nat} {Ls : Array Slot} {k0 : Nat} {x : Int32} {rest : List Value} (hd : decode code pc = .ok (.istore k0, 2)) (Ls' : Array Slot) (hl : storeLocals Ls k0 (.int x) = some Ls') (K : Goes p e below s n0 P k n T (mkF m (pc + 2) Ls' rest)) : Goes p e below s n0 P k n T (mkF m pc Ls (.int x :: rest)) := by
  obtain ⟨locs, S, -, -, -⟩ := X
  exact Goes.of (fun _ kk => XS.istore S.here C.1 rfl (hb C.2.1 hd) rfl hl kk) K
theorem w_iloadN (X : Hr p l e R s m args below meth c n0 h cells slots T) (C : Cx p s m meth c code ml ret own nm Z a0 tabs) {pc : Nat} {Ls : Array Slot} {k0 : Fin 4} {x : Int32} {rest : List Value} (hd : decode code pc = .ok (.iload_n k0, 1)) (hl : Ls[k0.val]? = some (.val (.int x))) (K : Goes p e below s n0 P k n T (mkF m (pc + 1) Ls (.int x :: rest))) : Goes p e below s n0 P k n T (mkF m pc Ls rest) := by
  obtain ⟨locs, S, -, -, -⟩ := X
  exact Goes.of (fun _ kk => XS.iloadN S.here C.1 rfl (hb C.2.1 hd) hl kk) K
theorem w_istoreN (X : Hr p l e R s m args below meth c n0 h cells slots T) (C : Cx p s m meth c code ml ret own nm Z a0 tabs) {pc : Nat} {Ls : Array Slot} {k0 : Fin 4} {x : Int32} {rest : List Value} (hd : decode code pc = .ok (.istore_n k0, 1)) (Ls' : Array Slot) (hl : storeLocals Ls k0.val (.int x) = some Ls') (K : Goes p e below s n0 P k n T (mkF m (pc + 1) Ls' rest)) : Goes p e below s n0 P k n T (mkF m pc Ls (.int x :: rest)) := by
  obtain ⟨locs, S, -, -, -⟩ := X
  exact Goes.of (fun _ kk => XS.istoreN S.here C.1 rfl (hb C.2.1 hd) rfl hl kk) K
theorem w_lload (X : Hr p l e R s m args below meth c n0 h cells slots T) (C : Cx p s m meth c code ml ret own nm Z a0 tabs) {pc : Nat} {Ls : Array Slot} {k0 : Nat} {x : Int64} {rest : List Value} (hd : decode code pc = .ok (.lload k0, 2)) (hl : Ls[k0]? = some (.val (.long x))) (K : Goes p e below s n0 P k n T (mkF m (pc + 2) Ls (.long x :: rest))) : Goes p e below s n0 P k n T (mkF m pc Ls rest) := by
  obtain ⟨locs, S, -, -, -⟩ := X
  exact Goes.of (fun _ kk => XS.lload S.here C.1 rfl (hb C.2.1 hd) hl kk) K
theorem w_lstore (X : Hr p l e R s m args below meth c n0 h cells slots T) (C : Cx p s m meth c code ml ret own nm Z a0 tabs) {pc : Nat} {Ls : Array Slot} {k0 : Nat} {x : Int64} {rest : List Value} (hd : decode code pc = .ok (.lstore k0, 2)) (Ls' : Array Slot) (hl : storeLocals Ls k0 (.long x) = some Ls') (K : Goes p e below s n0 P k n T (mkF m (pc + 2) Ls' rest)) : Goes p e below s n0 P k n T (mkF m pc Ls (.long x :: rest)) := by
  obtain ⟨locs, S, -, -, -⟩ := X
  exact Goes.of (fun _ kk => XS.lstore S.here C.1 rfl (hb C.2.1 hd) rfl hl kk) K
theorem w_lloadN (X : Hr p l e R s m args below meth c n0 h cells slots T) (C : Cx p s m meth c code ml ret own nm Z a0 tabs) {pc : Nat} {Ls : Array Slot} {k0 : Fin 4} {x : Int64} {rest : List Value} (hd : decode code pc = .ok (.lload_n k0, 1)) (hl : Ls[k0.val]? = some (.val (.long x))) (K : Goes p e below s n0 P k n T (mkF m (pc + 1) Ls (.long x :: rest))) : Goes p e below s n0 P k n T (mkF m pc Ls rest) := by
  obtain ⟨locs, S, -, -, -⟩ := X
  exact Goes.of (fun _ kk => XS.lloadN S.here C.1 rfl (hb C.2.1 hd) hl kk) K
theorem w_lstoreN (X : Hr p l e R s m args below meth c n0 h cells slots T) (C : Cx p s m meth c code ml ret own nm Z a0 tabs) {pc : Nat} {Ls : Array Slot} {k0 : Fin 4} {x : Int64} {rest : List Value} (hd : decode code pc = .ok (.lstore_n k0, 1)) (Ls' : Array Slot) (hl : storeLocals Ls k0.val (.long x) = some Ls') (K : Goes p e below s n0 P k n T (mkF m (pc + 1) Ls' rest)) : Goes p e below s n0 P k n T (mkF m pc Ls (.long x :: rest)) := by
  obtain ⟨locs, S, -, -, -⟩ := X
  exact Goes.of (fun _ kk => XS.lstoreN S.here C.1 rfl (hb C.2.1 hd) rfl hl kk) K
theorem w_aload (X : Hr p l e R s m args below meth c n0 h cells slots T) (C : Cx p s m meth c code ml ret own nm Z a0 tabs) {pc : Nat} {Ls : Array Slot} {k0 : Nat} {x : Value} {rest : List Value} (hd : decode code pc = .ok (.aload k0, 2)) (hl : Ls[k0]? = some (.val x)) (hv : x.isRef = true) (K : Goes p e below s n0 P k n T (mkF m (pc + 2) Ls (x :: rest))) : Goes p e below s n0 P k n T (mkF m pc Ls rest) := by
  obtain ⟨locs, S, -, -, -⟩ := X
  exact Goes.of (fun _ kk => XS.aload S.here C.1 rfl (hb C.2.1 hd) hl hv kk) K
theorem w_astore (X : Hr p l e R s m args below meth c n0 h cells slots T) (C : Cx p s m meth c code ml ret own nm Z a0 tabs) {pc : Nat} {Ls : Array Slot} {k0 : Nat} {x : Value} {rest : List Value} (hd : decode code pc = .ok (.astore k0, 2)) (Ls' : Array Slot) (hl : storeLocals Ls k0 x = some Ls') (hv : x.isRef = true) (K : Goes p e below s n0 P k n T (mkF m (pc + 2) Ls' rest)) : Goes p e below s n0 P k n T (mkF m pc Ls (x :: rest)) := by
  obtain ⟨locs, S, -, -, -⟩ := X
  exact Goes.of (fun _ kk => XS.astore S.here C.1 rfl (hb C.2.1 hd) rfl hv hl kk) K
theorem w_aloadN (X : Hr p l e R s m args below meth c n0 h cells slots T) (C : Cx p s m meth c code ml ret own nm Z a0 tabs) {pc : Nat} {Ls : Array Slot} {k0 : Fin 4} {x : Value} {rest : List Value} (hd : decode code pc = .ok (.aload_n k0, 1)) (hl : Ls[k0.val]? = some (.val x)) (hv : x.isRef = true) (K : Goes p e below s n0 P k n T (mkF m (pc + 1) Ls (x :: rest))) : Goes p e below s n0 P k n T (mkF m pc Ls rest) := by
  obtain ⟨locs, S, -, -, -⟩ := X
  exact Goes.of (fun _ kk => XS.aloadN S.here C.1 rfl (hb C.2.1 hd) hl hv kk) K
theorem w_astoreN (X : Hr p l e R s m args below meth c n0 h cells slots T) (C : Cx p s m meth c code ml ret own nm Z a0 tabs) {pc : Nat} {Ls : Array Slot} {k0 : Fin 4} {x : Value} {rest : List Value} (hd : decode code pc = .ok (.astore_n k0, 1)) (Ls' : Array Slot) (hl : storeLocals Ls k0.val x = some Ls') (hv : x.isRef = true) (K : Goes p e below s n0 P k n T (mkF m (pc + 1) Ls' rest)) : Goes p e below s n0 P k n T (mkF m pc Ls (x :: rest)) := by
  obtain ⟨locs, S, -, -, -⟩ := X
  exact Goes.of (fun _ kk => XS.astoreN S.here C.1 rfl (hb C.2.1 hd) rfl hv hl kk) K
theorem w_iinc (X : Hr p l e R s m args below meth c n0 h cells slots T) (C : Cx p s m meth c code ml ret own nm Z a0 tabs) {pc : Nat} {Ls : Array Slot} {k0 : Nat} {cst : Int} {x : Int32} {rest : List Value} (hd : decode code pc = .ok (.iinc k0 cst, 3)) (v : Int32) (hv : Int32.ofInt cst = v) (hl : Ls[k0]? = some (.val (.int x))) (Ls' : Array Slot) (hl' : storeLocals Ls k0 (.int (x + v)) = some Ls') (K : Goes p e below s n0 P k n T (mkF m (pc + 3) Ls' rest)) : Goes p e below s n0 P k n T (mkF m pc Ls rest) := by
  obtain ⟨locs, S, -, -, -⟩ := X
  subst hv
  exact Goes.of (fun _ kk => XS.iinc S.here C.1 rfl (hb C.2.1 hd) hl hl' kk) K
theorem w_iconst (X : Hr p l e R s m args below meth c n0 h cells slots T) (C : Cx p s m meth c code ml ret own nm Z a0 tabs) {pc : Nat} {Ls : Array Slot} {i : Int} {rest : List Value} (hd : decode code pc = .ok (.iconst i, 1)) (v : Int32) (hv : Int32.ofInt i = v) (K : Goes p e below s n0 P k n T (mkF m (pc + 1) Ls (.int v :: rest))) : Goes p e below s n0 P k n T (mkF m pc Ls rest) := by
  obtain ⟨locs, S, -, -, -⟩ := X
  subst hv
  exact Goes.of (fun _ kk => XS.iconst S.here C.1 rfl (hb C.2.1 hd) kk) K
theorem w_bipush (X : Hr p l e R s m args below meth c n0 h cells slots T) (C : Cx p s m meth c code ml ret own nm Z a0 tabs) {pc : Nat} {Ls : Array Slot} {i : Int} {rest : List Value} (hd : decode code pc = .ok (.bipush i, 2)) (v : Int32) (hv : (Int8.ofInt i).toInt32 = v) (K : Goes p e below s n0 P k n T (mkF m (pc + 2) Ls (.int v :: rest))) : Goes p e below s n0 P k n T (mkF m pc Ls rest) := by
  obtain ⟨locs, S, -, -, -⟩ := X
  subst hv
  exact Goes.of (fun _ kk => XS.bipush S.here C.1 rfl (hb C.2.1 hd) kk) K
theorem w_sipush (X : Hr p l e R s m args below meth c n0 h cells slots T) (C : Cx p s m meth c code ml ret own nm Z a0 tabs) {pc : Nat} {Ls : Array Slot} {i : Int} {rest : List Value} (hd : decode code pc = .ok (.sipush i, 3)) (v : Int32) (hv : (Int16.ofInt i).toInt32 = v) (K : Goes p e below s n0 P k n T (mkF m (pc + 3) Ls (.int v :: rest))) : Goes p e below s n0 P k n T (mkF m pc Ls rest) := by
  obtain ⟨locs, S, -, -, -⟩ := X
  subst hv
  exact Goes.of (fun _ kk => XS.sipush S.here C.1 rfl (hb C.2.1 hd) kk) K
theorem w_lconst (X : Hr p l e R s m args below meth c n0 h cells slots T) (C : Cx p s m meth c code ml ret own nm Z a0 tabs) {pc : Nat} {Ls : Array Slot} {i : Fin 2} {rest : List Value} (hd : decode code pc = .ok (.lconst i, 1)) (v : Int64) (hv : Int64.ofNat i = v) (K : Goes p e below s n0 P k n T (mkF m (pc + 1) Ls (.long v :: rest))) : Goes p e below s n0 P k n T (mkF m pc Ls rest) := by
  obtain ⟨locs, S, -, -, -⟩ := X
  subst hv
  exact Goes.of (fun _ kk => XS.lconst S.here C.1 rfl (hb C.2.1 hd) kk) K
theorem w_aconst_null (X : Hr p l e R s m args below meth c n0 h cells slots T) (C : Cx p s m meth c code ml ret own nm Z a0 tabs) {pc : Nat} {Ls : Array Slot} {rest : List Value} (hd : decode code pc = .ok (.aconst_null, 1)) (K : Goes p e below s n0 P k n T (mkF m (pc + 1) Ls (.null :: rest))) : Goes p e below s n0 P k n T (mkF m pc Ls rest) := by
  obtain ⟨locs, S, -, -, -⟩ := X
  exact Goes.of (fun _ kk => XS.aconstNull S.here C.1 rfl (hb C.2.1 hd) kk) K
theorem w_ldcI (X : Hr p l e R s m args below meth c n0 h cells slots T) (C : Cx p s m meth c code ml ret own nm Z a0 tabs) {pc index : Nat} {Ls : Array Slot} {v : Int32} {rest : List Value} (hd : decode code pc = .ok (.ldc index, 2)) (i1 : Jvm.Cond.constant own index v ∈ tabs) (K : Goes p e below s n0 P k n T (mkF m (pc + 2) Ls (.int v :: rest))) : Goes p e below s n0 P k n T (mkF m pc Ls rest) := by
  obtain ⟨locs, S, -, -, -⟩ := X
  exact Goes.of (fun _ kk => S.ldcInt C.1 C.2.2.2.2.2.1 (mvT C.2.2.2.2.2.2.2.1 (C.2.2.2.2.2.2.2.2 _ i1)) (g := mkF m pc Ls rest) rfl (hb C.2.1 hd) _ kk) K
theorem w_ldcJ (X : Hr p l e R s m args below meth c n0 h cells slots T) (C : Cx p s m meth c code ml ret own nm Z a0 tabs) {pc index : Nat} {Ls : Array Slot} {v : Int64} {rest : List Value} (hd : decode code pc = .ok (.ldc2_w index, 3)) (i1 : Jvm.Cond.constantLong own index v ∈ tabs) (K : Goes p e below s n0 P k n T (mkF m (pc + 3) Ls (.long v :: rest))) : Goes p e below s n0 P k n T (mkF m pc Ls rest) := by
  obtain ⟨locs, S, -, -, -⟩ := X
  exact Goes.of (fun _ kk => S.ldc2Long C.1 C.2.2.2.2.2.1 (mvT C.2.2.2.2.2.2.2.1 (C.2.2.2.2.2.2.2.2 _ i1)) (g := mkF m pc Ls rest) rfl (hb C.2.1 hd) _ kk) K
theorem w_goto (X : Hr p l e R s m args below meth c n0 h cells slots T) (C : Cx p s m meth c code ml ret own nm Z a0 tabs) {pc : Nat} {Ls : Array Slot} {st : List Value} {o : Int} (hd : decode code pc = .ok (.goto o, 3)) (pc' : Nat) (ho : 0 ≤ (pc : Int) + o ∧ ((pc : Int) + o).toNat = pc') (K : Goes p e below s n0 P k n T (mkF m pc' Ls st)) : Goes p e below s n0 P k n T (mkF m pc Ls st) := by
  obtain ⟨locs, S, -, -, -⟩ := X
  exact Goes.of (fun _ kk => XS.goto S.here C.1 rfl (pc0 := pc) (pc' := pc') rfl (hb C.2.1 hd) ho.1 ho.2 kk) K
theorem w_icmp_lt (X : Hr p l e R s m args below meth c n0 h cells slots T) (C : Cx p s m meth c code ml ret own nm Z a0 tabs) {pc : Nat} {Ls : Array Slot} {x y : Int32} {rest : List Value} {o : Int} (hd : decode code pc = .ok (.if_icmp .lt o, 3)) (pc' : Nat) (ho : 0 ≤ (pc : Int) + o ∧ ((pc : Int) + o).toNat = pc') (Ky : x < y → Goes p e below s n0 P k n T (mkF m pc' Ls rest)) (Kn : ¬ (x < y) → Goes p e below s n0 P k n T (mkF m (pc + 3) Ls rest)) : Goes p e below s n0 P k n T (mkF m pc Ls (.int y :: .int x :: rest)) := by
  obtain ⟨locs, S, -, -, -⟩ := X
  by_cases q : x < y
  · exact Goes.of (fun _ kk => XS.icmpYes S.here C.1 rfl (pc0 := pc) (pc' := pc') rfl (hb C.2.1 hd) rfl (tlt q).1 ho.1 ho.2 kk) (Ky q)
  · exact Goes.of (fun _ kk => XS.icmpNo S.here C.1 rfl (hb C.2.1 hd) rfl (flt q).1 kk) (Kn q)
theorem w_if_lt (X : Hr p l e R s m args below meth c n0 h cells slots T) (C : Cx p s m meth c code ml ret own nm Z a0 tabs) {pc : Nat} {Ls : Array Slot} {x : Int32} {rest : List Value} {o : Int} (hd : decode code pc = .ok (.ifCond .lt o, 3)) (pc' : Nat) (ho : 0 ≤ (pc : Int) + o ∧ ((pc : Int) + o).toNat = pc') (Ky : x < 0 → Goes p e below s n0 P k n T (mkF m pc' Ls rest)) (Kn : ¬ (x < 0) → Goes p e below s n0 P k n T (mkF m (pc + 3) Ls rest)) : Goes p e below s n0 P k n T (mkF m pc Ls (.int x :: rest)) := by
  obtain ⟨locs, S, -, -, -⟩ := X
  by_cases q : x < 0
  · exact Goes.of (fun _ kk => XS.ifYes S.here C.1 rfl (pc0 := pc) (pc' := pc') rfl (hb C.2.1 hd) rfl ((if0 _ _).trans (tlt q).1) ho.1 ho.2 kk) (Ky q)
  · exact Goes.of (fun _ kk => XS.ifNo S.here C.1 rfl (hb C.2.1 hd) rfl ((if0 _ _).trans (flt q).1) kk) (Kn q)
theorem w_icmp_ge (X : Hr p l e R s m args below meth c n0 h cells slots T) (C : Cx p s m meth c code ml ret own nm Z a0 tabs) {pc : Nat} {Ls : Array Slot} {x y : Int32} {rest : List Value} {o : Int} (hd : decode code pc = .ok (.if_icmp .ge o, 3)) (pc' : Nat) (ho : 0 ≤ (pc : Int) + o ∧ ((pc : Int) + o).toNat = pc') (Ky : ¬ (x < y) → Goes p e below s n0 P k n T (mkF m pc' Ls rest)) (Kn : x < y → Goes p e below s n0 P k n T (mkF m (pc + 3) Ls rest)) : Goes p e below s n0 P k n T (mkF m pc Ls (.int y :: .int x :: rest)) := by
  obtain ⟨locs, S, -, -, -⟩ := X
  by_cases q : x < y
  · exact Goes.of (fun _ kk => XS.icmpNo S.here C.1 rfl (hb C.2.1 hd) rfl (tlt q).2.1 kk) (Kn q)
  · exact Goes.of (fun _ kk => XS.icmpYes S.here C.1 rfl (pc0 := pc) (pc' := pc') rfl (hb C.2.1 hd) rfl (flt q).2.1 ho.1 ho.2 kk) (Ky q)
theorem w_if_ge (X : Hr p l e R s m args below meth c n0 h cells slots T) (C : Cx p s m meth c code ml ret own nm Z a0 tabs) {pc : Nat} {Ls : Array Slot} {x : Int32} {rest : List Value} {o : Int} (hd : decode code pc = .ok (.ifCond .ge o, 3)) (pc' : Nat) (ho : 0 ≤ (pc : Int) + o ∧ ((pc : Int) + o).toNat = pc') (Ky : ¬ (x < 0) → Goes p e below s n0 P k n T (mkF m pc' Ls rest)) (Kn : x < 0 → Goes p e below s n0 P k n T (mkF m (pc + 3) Ls rest)) : Goes p e below s n0 P k n T (mkF m pc Ls (.int x :: rest)) := by
  obtain ⟨locs, S, -, -, -⟩ := X
  by_cases q : x < 0
  · exact Goes.of (fun _ kk => XS.ifNo S.here C.1 rfl (hb C.2.1 hd) rfl ((if0 _ _).trans (tlt q).2.1) kk) (Kn q)
  · exact Goes.of (fun _ kk => XS.ifYes S.here C.1 rfl (pc0 := pc) (pc' := pc') rfl (hb C.2.1 hd) rfl ((if0 _ _).trans (flt q).2.1) ho.1 ho.2 kk) (Ky q)
theorem w_icmp_gt (X : Hr p l e R s m args below meth c n0 h cells slots T) (C : Cx p s m meth c code ml ret own nm Z a0 tabs) {pc : Nat} {Ls : Array Slot} {x y : Int32} {rest : List Value} {o : Int} (hd : decode code pc = .ok (.if_icmp .gt o, 3)) (pc' : Nat) (ho : 0 ≤ (pc : Int) + o ∧ ((pc : Int) + o).toNat = pc') (Ky : y < x → Goes p e below s n0 P k n T (mkF m pc' Ls rest)) (Kn : ¬ (y < x) → Goes p e below s n0 P k n T (mkF m (pc + 3) Ls rest)) : Goes p e below s n0 P k n T (mkF m pc Ls (.int y :: .int x :: rest)) := by
  obtain ⟨locs, S, -, -, -⟩ := X
  by_cases q : y < x
  · exact Goes.of (fun _ kk => XS.icmpYes S.here C.1 rfl (pc0 := pc) (pc' := pc') rfl (hb C.2.1 hd) rfl (tlt q).2.2.1 ho.1 ho.2 kk) (Ky q)
  · exact Goes.of (fun _ kk => XS.icmpNo S.here C.1 rfl (hb C.2.1 hd) rfl (flt q).2.2.1 kk) (Kn q)
theorem w_if_gt (X : Hr p l e R s m args below meth c n0 h cells slots T) (C : Cx p s m meth c code ml ret own nm Z a0 tabs) {pc : Nat} {Ls : Array Slot} {x : Int32} {rest : List Value} {o : Int} (hd : decode code pc = .ok (.ifCond .gt o, 3)) (pc' : Nat) (ho : 0 ≤ (pc : Int) + o ∧ ((pc : Int) + o).toNat = pc') (Ky : 0 < x → Goes p e below s n0 P k n T (mkF m pc' Ls rest)) (Kn : ¬ (0 < x) → Goes p e below s n0 P k n T (mkF m (pc + 3) Ls rest)) : Goes p e below s n0 P k n T (mkF m pc Ls (.int x :: rest)) := by
  obtain ⟨locs, S, -, -, -⟩ := X
  by_cases q : 0 < x
  · exact Goes.of (fun _ kk => XS.ifYes S.here C.1 rfl (pc0 := pc) (pc' := pc') rfl (hb C.2.1 hd) rfl ((if0 _ _).trans (tlt q).2.2.1) ho.1 ho.2 kk) (Ky q)
  · exact Goes.of (fun _ kk => XS.ifNo S.here C.1 rfl (hb C.2.1 hd) rfl ((if0 _ _).trans (flt q).2.2.1) kk) (Kn q)
theorem w_icmp_le (X : Hr p l e R s m args below meth c n0 h cells slots T) (C : Cx p s m meth c code ml ret own nm Z a0 tabs) {pc : Nat} {Ls : Array Slot} {x y : Int32} {rest : List Value} {o : Int} (hd : decode code pc = .ok (.if_icmp .le o, 3)) (pc' : Nat) (ho : 0 ≤ (pc : Int) + o ∧ ((pc : Int) + o).toNat = pc') (Ky : ¬ (y < x) → Goes p e below s n0 P k n T (mkF m pc' Ls rest)) (Kn : y < x → Goes p e below s n0 P k n T (mkF m (pc + 3) Ls rest)) : Goes p e below s n0 P k n T (mkF m pc Ls (.int y :: .int x :: rest)) := by
  obtain ⟨locs, S, -, -, -⟩ := X
  by_cases q : y < x
  · exact Goes.of (fun _ kk => XS.icmpNo S.here C.1 rfl (hb C.2.1 hd) rfl (tlt q).2.2.2 kk) (Kn q)
  · exact Goes.of (fun _ kk => XS.icmpYes S.here C.1 rfl (pc0 := pc) (pc' := pc') rfl (hb C.2.1 hd) rfl (flt q).2.2.2 ho.1 ho.2 kk) (Ky q)
theorem w_if_le (X : Hr p l e R s m args below meth c n0 h cells slots T) (C : Cx p s m meth c code ml ret own nm Z a0 tabs) {pc : Nat} {Ls : Array Slot} {x : Int32} {rest : List Value} {o : Int} (hd : decode code pc = .ok (.ifCond .le o, 3)) (pc' : Nat) (ho : 0 ≤ (pc : Int) + o ∧ ((pc : Int) + o).toNat = pc') (Ky : ¬ (0 < x) → Goes p e below s n0 P k n T (mkF m pc' Ls rest)) (Kn : 0 < x → Goes p e below s n0 P k n T (mkF m (pc + 3) Ls rest)) : Goes p e below s n0 P k n T (mkF m pc Ls (.int x :: rest)) := by
  obtain ⟨locs, S, -, -, -⟩ := X
  by_cases q : 0 < x
  · exact Goes.of (fun _ kk => XS.ifNo S.here C.1 rfl (hb C.2.1 hd) rfl ((if0 _ _).trans (tlt q).2.2.2) kk) (Kn q)
  · exact Goes.of (fun _ kk => XS.ifYes S.here C.1 rfl (pc0 := pc) (pc' := pc') rfl (hb C.2.1 hd) rfl ((if0 _ _).trans (flt q).2.2.2) ho.1 ho.2 kk) (Ky q)
theorem w_icmp_eq (X : Hr p l e R s m args below meth c n0 h cells slots T) (C : Cx p s m meth c code ml ret own nm Z a0 tabs) {pc : Nat} {Ls : Array Slot} {x y : Int32} {rest : List Value} {o : Int} (hd : decode code pc = .ok (.if_icmp .eq o, 3)) (pc' : Nat) (ho : 0 ≤ (pc : Int) + o ∧ ((pc : Int) + o).toNat = pc') (Ky : x = y → Goes p e below s n0 P k n T (mkF m pc' Ls rest)) (Kn : ¬ (x = y) → Goes p e below s n0 P k n T (mkF m (pc + 3) Ls rest)) : Goes p e below s n0 P k n T (mkF m pc Ls (.int y :: .int x :: rest)) := by
  obtain ⟨locs, S, -, -, -⟩ := X
  by_cases q : x = y
  · exact Goes.of (fun _ kk => XS.icmpYes S.here C.1 rfl (pc0 := pc) (pc' := pc') rfl (hb C.2.1 hd) rfl (teq q).1 ho.1 ho.2 kk) (Ky q)
  · exact Goes.of (fun _ kk => XS.icmpNo S.here C.1 rfl (hb C.2.1 hd) rfl (feq q).1 kk) (Kn q)
theorem w_if_eq (X : Hr p l e R s m args below meth c n0 h cells slots T) (C : Cx p s m meth c code ml ret own nm Z a0 tabs) {pc : Nat} {Ls : Array Slot} {x : Int32} {rest : List Value} {o : Int} (hd : decode code pc = .ok (.ifCond .eq o, 3)) (pc' : Nat) (ho : 0 ≤ (pc : Int) + o ∧ ((pc : Int) + o).toNat = pc') (Ky : x = 0 → Goes p e below s n0 P k n T (mkF m pc' Ls rest)) (Kn : ¬ (x = 0) → Goes p e below s n0 P k n T (mkF m (pc + 3) Ls rest)) : Goes p e below s n0 P k n T (mkF m pc Ls (.int x :: rest)) := by
  obtain ⟨locs, S, -, -, -⟩ := X
  by_cases q : x = 0
  · exact Goes.of (fun _ kk => XS.ifYes S.here C.1 rfl (pc0 := pc) (pc' := pc') rfl (hb C.2.1 hd) rfl ((if0 _ _).trans (teq q).1) ho.1 ho.2 kk) (Ky q)
  · exact Goes.of (fun _ kk => XS.ifNo S.here C.1 rfl (hb C.2.1 hd) rfl ((if0 _ _).trans (feq q).1) kk) (Kn q)
theorem w_icmp_ne (X : Hr p l e R s m args below meth c n0 h cells slots T) (C : Cx p s m meth c code ml ret own nm Z a0 tabs) {pc : Nat} {Ls : Array Slot} {x y : Int32} {rest : List Value} {o : Int} (hd : decode code pc = .ok (.if_icmp .ne o, 3)) (pc' : Nat) (ho : 0 ≤ (pc : Int) + o ∧ ((pc : Int) + o).toNat = pc') (Ky : ¬ (x = y) → Goes p e below s n0 P k n T (mkF m pc' Ls rest)) (Kn : x = y → Goes p e below s n0 P k n T (mkF m (pc + 3) Ls rest)) : Goes p e below s n0 P k n T (mkF m pc Ls (.int y :: .int x :: rest)) := by
  obtain ⟨locs, S, -, -, -⟩ := X
  by_cases q : x = y
  · exact Goes.of (fun _ kk => XS.icmpNo S.here C.1 rfl (hb C.2.1 hd) rfl (teq q).2 kk) (Kn q)
  · exact Goes.of (fun _ kk => XS.icmpYes S.here C.1 rfl (pc0 := pc) (pc' := pc') rfl (hb C.2.1 hd) rfl (feq q).2 ho.1 ho.2 kk) (Ky q)
theorem w_if_ne (X : Hr p l e R s m args below meth c n0 h cells slots T) (C : Cx p s m meth c code ml ret own nm Z a0 tabs) {pc : Nat} {Ls : Array Slot} {x : Int32} {rest : List Value} {o : Int} (hd : decode code pc = .ok (.ifCond .ne o, 3)) (pc' : Nat) (ho : 0 ≤ (pc : Int) + o ∧ ((pc : Int) + o).toNat = pc') (Ky : ¬ (x = 0) → Goes p e below s n0 P k n T (mkF m pc' Ls rest)) (Kn : x = 0 → Goes p e below s n0 P k n T (mkF m (pc + 3) Ls rest)) : Goes p e below s n0 P k n T (mkF m pc Ls (.int x :: rest)) := by
  obtain ⟨locs, S, -, -, -⟩ := X
  by_cases q : x = 0
  · exact Goes.of (fun _ kk => XS.ifNo S.here C.1 rfl (hb C.2.1 hd) rfl ((if0 _ _).trans (teq q).2) kk) (Kn q)
  · exact Goes.of (fun _ kk => XS.ifYes S.here C.1 rfl (pc0 := pc) (pc' := pc') rfl (hb C.2.1 hd) rfl ((if0 _ _).trans (feq q).2) ho.1 ho.2 kk) (Ky q)
theorem cj_lt (x y : Int64) : cmpJ x y < 0 ↔ x < y := lw_lt x y
theorem cj_gt (x y : Int64) : 0 < cmpJ x y ↔ y < x := lw_gt x y
theorem cj_eq (x y : Int64) : cmpJ x y = 0 ↔ x = y := lw_eq x y
theorem w_ifJ_lt (X : Hr p l e R s m args below meth c n0 h cells slots T) (C : Cx p s m meth c code ml ret own nm Z a0 tabs) {pc : Nat} {Ls : Array Slot} {x y : Int64} {rest : List Value} {o : Int} (hd : decode code pc = .ok (.ifCond .lt o, 3)) (pc' : Nat) (ho : 0 ≤ (pc : Int) + o ∧ ((pc : Int) + o).toNat = pc') (Ky : x < y → Goes p e below s n0 P k n T (mkF m pc' Ls rest)) (Kn : ¬ (x < y) → Goes p e below s n0 P k n T (mkF m (pc + 3) Ls rest)) : Goes p e below s n0 P k n T (mkF m pc Ls (.int (cmpJ x y) :: rest)) :=
  w_if_lt X C hd pc' ho (fun q => Ky ((cj_lt _ _).mp q)) (fun q => Kn (fun r => q ((cj_lt _ _).mpr r)))
theorem w_ifJ_ge (X : Hr p l e R s m args below meth c n0 h cells slots T) (C : Cx p s m meth c code ml ret own nm Z a0 tabs) {pc : Nat} {Ls : Array Slot} {x y : Int64} {rest : List Value} {o : Int} (hd : decode code pc = .ok (.ifCond .ge o, 3)) (pc' : Nat) (ho : 0 ≤ (pc : Int) + o ∧ ((pc : Int) + o).toNat = pc') (Ky : ¬ (x < y) → Goes p e below s n0 P k n T (mkF m pc' Ls rest)) (Kn : x < y → Goes p e below s n0 P k n T (mkF m (pc + 3) Ls rest)) : Goes p e below s n0 P k n T (mkF m pc Ls (.int (cmpJ x y) :: rest)) :=
  w_if_ge X C hd pc' ho (fun q => Ky (fun r => q ((cj_lt _ _).mpr r))) (fun q => Kn ((cj_lt _ _).mp q))
theorem w_ifJ_gt (X : Hr p l e R s m args below meth c n0 h cells slots T) (C : Cx p s m meth c code ml ret own nm Z a0 tabs) {pc : Nat} {Ls : Array Slot} {x y : Int64} {rest : List Value} {o : Int} (hd : decode code pc = .ok (.ifCond .gt o, 3)) (pc' : Nat) (ho : 0 ≤ (pc : Int) + o ∧ ((pc : Int) + o).toNat = pc') (Ky : y < x → Goes p e below s n0 P k n T (mkF m pc' Ls rest)) (Kn : ¬ (y < x) → Goes p e below s n0 P k n T (mkF m (pc + 3) Ls rest)) : Goes p e below s n0 P k n T (mkF m pc Ls (.int (cmpJ x y) :: rest)) :=
  w_if_gt X C hd pc' ho (fun q => Ky ((cj_gt _ _).mp q)) (fun q => Kn (fun r => q ((cj_gt _ _).mpr r)))
theorem w_ifJ_le (X : Hr p l e R s m args below meth c n0 h cells slots T) (C : Cx p s m meth c code ml ret own nm Z a0 tabs) {pc : Nat} {Ls : Array Slot} {x y : Int64} {rest : List Value} {o : Int} (hd : decode code pc = .ok (.ifCond .le o, 3)) (pc' : Nat) (ho : 0 ≤ (pc : Int) + o ∧ ((pc : Int) + o).toNat = pc') (Ky : ¬ (y < x) → Goes p e below s n0 P k n T (mkF m pc' Ls rest)) (Kn : y < x → Goes p e below s n0 P k n T (mkF m (pc + 3) Ls rest)) : Goes p e below s n0 P k n T (mkF m pc Ls (.int (cmpJ x y) :: rest)) :=
  w_if_le X C hd pc' ho (fun q => Ky (fun r => q ((cj_gt _ _).mpr r))) (fun q => Kn ((cj_gt _ _).mp q))
theorem w_ifJ_eq (X : Hr p l e R s m args below meth c n0 h cells slots T) (C : Cx p s m meth c code ml ret own nm Z a0 tabs) {pc : Nat} {Ls : Array Slot} {x y : Int64} {rest : List Value} {o : Int} (hd : decode code pc = .ok (.ifCond .eq o, 3)) (pc' : Nat) (ho : 0 ≤ (pc : Int) + o ∧ ((pc : Int) + o).toNat = pc') (Ky : x = y → Goes p e below s n0 P k n T (mkF m pc' Ls rest)) (Kn : ¬ (x = y) → Goes p e below s n0 P k n T (mkF m (pc + 3) Ls rest)) : Goes p e below s n0 P k n T (mkF m pc Ls (.int (cmpJ x y) :: rest)) :=
  w_if_eq X C hd pc' ho (fun q => Ky ((cj_eq _ _).mp q)) (fun q => Kn (fun r => q ((cj_eq _ _).mpr r)))
theorem w_ifJ_ne (X : Hr p l e R s m args below meth c n0 h cells slots T) (C : Cx p s m meth c code ml ret own nm Z a0 tabs) {pc : Nat} {Ls : Array Slot} {x y : Int64} {rest : List Value} {o : Int} (hd : decode code pc = .ok (.ifCond .ne o, 3)) (pc' : Nat) (ho : 0 ≤ (pc : Int) + o ∧ ((pc : Int) + o).toNat = pc') (Ky : ¬ (x = y) → Goes p e below s n0 P k n T (mkF m pc' Ls rest)) (Kn : x = y → Goes p e below s n0 P k n T (mkF m (pc + 3) Ls rest)) : Goes p e below s n0 P k n T (mkF m pc Ls (.int (cmpJ x y) :: rest)) :=
  w_if_ne X C hd pc' ho (fun q => Ky (fun r => q ((cj_eq _ _).mpr r))) (fun q => Kn ((cj_eq _ _).mp q))
theorem w_ifnull_no (X : Hr p l e R s m args below meth c n0 h cells slots T) (C : Cx p s m meth c code ml ret own nm Z a0 tabs) {pc : Nat} {Ls : Array Slot} {a : Addr} {rest : List Value} {o : Int} (hd : decode code pc = .ok (.ifnull o, 3)) (K : Goes p e below s n0 P k n T (mkF m (pc + 3) Ls rest)) : Goes p e below s n0 P k n T (mkF m pc Ls (.ref a :: rest)) := by
  obtain ⟨locs, S, -, -, -⟩ := X
  exact Goes.of (fun _ kk => XS.ifnullNo S.here C.1 rfl (hb C.2.1 hd) rfl kk) K
theorem w_retI (X : Hr p l e R s m args below meth c n0 h cells slots T) (C : Cx p s m meth c code ml (some .int) own nm Z a0 tabs) {pc : Nat} {Ls : Array Slot} {z : Int32} {rest : List Value} (hd : decode code pc = .ok (.ireturn, 1)) (hP : P (some (.int z)) h) (hk : cells ≤ k := by decide) (hn : slots ≤ n := by decide) : Goes p e below s n0 P k n T (mkF m pc Ls (.int z :: rest)) := by
  obtain ⟨locs, S, eT, N, -⟩ := X
  obtain ⟨fs, hr, hrun, hended, hW, hsame⟩ := S.leave (v := some (.int z)) (fun h => by rw [C.2.2.2.1] at h; cases h) C.2.2.2.2.1
  refine ⟨_, _, retI' S C.1 C.2.2.2.1 (hb C.2.1 hd) hr, hrun, hended, _, _, rfl, ⟨N, ?_⟩, ⟨_, rfl⟩, hW, hsame.mono hk hn⟩
  show P _ T.heap
  rw [eT]
  exact hP
theorem w_ret_boolean (X : Hr p l e R s m args below meth c n0 h cells slots T) (C : Cx p s m meth c code ml (some .boolean) own nm Z a0 tabs) {pc : Nat} {Ls : Array Slot} {z : Int32} {rest : List Value} (hd : decode code pc = .ok (.ireturn, 1)) (hP : P (some (.int (z &&& 1))) h) (hk : cells ≤ k := by decide) (hn : slots ≤ n := by decide) : Goes p e below s n0 P k n T (mkF m pc Ls (.int z :: rest)) := by
  obtain ⟨locs, S, eT, N, -⟩ := X
  obtain ⟨fs, hr, hrun, hended, hW, hsame⟩ := S.leave (v := some (.int (z &&& 1))) (fun h => by rw [C.2.2.2.1] at h; cases h) C.2.2.2.2.1
  refine ⟨_, _, retN S C.1 (t := .boolean) C.2.2.2.1 (by simp) (hb C.2.1 hd) hr, hrun, hended, _, _, rfl, ⟨N, ?_⟩, ⟨_, rfl⟩, hW, hsame.mono hk hn⟩
  show P _ T.heap
  rw [eT]
  exact hP
theorem w_ret_byte (X : Hr p l e R s m args below meth c n0 h cells slots T) (C : Cx p s m meth c code ml (some .byte) own nm Z a0 tabs) {pc : Nat} {Ls : Array Slot} {z : Int32} {rest : List Value} (hd : decode code pc = .ok (.ireturn, 1)) (hP : P (some (.int (i8 z))) h) (hk : cells ≤ k := by decide) (hn : slots ≤ n := by decide) : Goes p e below s n0 P k n T (mkF m pc Ls (.int z :: rest)) := by
  obtain ⟨locs, S, eT, N, -⟩ := X
  obtain ⟨fs, hr, hrun, hended, hW, hsame⟩ := S.leave (v := some (.int (i8 z))) (fun h => by rw [C.2.2.2.1] at h; cases h) C.2.2.2.2.1
  refine ⟨_, _, retN S C.1 (t := .byte) C.2.2.2.1 (by simp) (hb C.2.1 hd) hr, hrun, hended, _, _, rfl, ⟨N, ?_⟩, ⟨_, rfl⟩, hW, hsame.mono hk hn⟩
  show P _ T.heap
  rw [eT]
  exact hP
theorem w_ret_char (X : Hr p l e R s m args below meth c n0 h cells slots T) (C : Cx p s m meth c code ml (some .char) own nm Z a0 tabs) {pc : Nat} {Ls : Array Slot} {z : Int32} {rest : List Value} (hd : decode code pc = .ok (.ireturn, 1)) (hP : P (some (.int (i16c z))) h) (hk : cells ≤ k := by decide) (hn : slots ≤ n := by decide) : Goes p e below s n0 P k n T (mkF m pc Ls (.int z :: rest)) := by
  obtain ⟨locs, S, eT, N, -⟩ := X
  obtain ⟨fs, hr, hrun, hended, hW, hsame⟩ := S.leave (v := some (.int (i16c z))) (fun h => by rw [C.2.2.2.1] at h; cases h) C.2.2.2.2.1
  refine ⟨_, _, retN S C.1 (t := .char) C.2.2.2.1 (by simp) (hb C.2.1 hd) hr, hrun, hended, _, _, rfl, ⟨N, ?_⟩, ⟨_, rfl⟩, hW, hsame.mono hk hn⟩
  show P _ T.heap
  rw [eT]
  exact hP
theorem w_retJ (X : Hr p l e R s m args below meth c n0 h cells slots T) (C : Cx p s m meth c code ml (some .long) own nm Z a0 tabs) {pc : Nat} {Ls : Array Slot} {z : Int64} (hd : decode code pc = .ok (.lreturn, 1)) (hP : P (some (.long z)) h) (hk : cells ≤ k := by decide) (hn : slots ≤ n := by decide) : Goes p e below s n0 P k n T (mkF m pc Ls [.long z]) := by
  obtain ⟨locs, S, eT, N, -⟩ := X
  obtain ⟨fs, hr, hrun, hended, hW, hsame⟩ := S.leave (v := some (.long z)) (fun h => by rw [C.2.2.2.1] at h; cases h) C.2.2.2.2.1
  refine ⟨_, _, S.lreturnOut C.1 C.2.2.2.1 (hb C.2.1 hd) hr, hrun, hended, _, _, rfl, ⟨N, ?_⟩, ⟨_, rfl⟩, hW, hsame.mono hk hn⟩
  show P _ T.heap
  rw [eT]
  exact hP
theorem w_retR (X : Hr p l e R s m args below meth c n0 h cells slots T) (C : Cx p s m meth c code ml ret own nm Z a0 tabs) {pc : Nat} {Ls : Array Slot} {t : FieldType} {a : Addr} {rest : List Value} (ht : t.isReference = true) (hret : ret = some t) (hd : decode code pc = .ok (.areturn, 1)) (hP : P (some (.ref a)) h) (hk : cells ≤ k := by decide) (hn : slots ≤ n := by decide) : Goes p e below s n0 P k n T (mkF m pc Ls (.ref a :: rest)) := by
  subst hret
  obtain ⟨locs, S, eT, N, -⟩ := X
  obtain ⟨fs, hr, hrun, hended, hW, hsame⟩ := S.leave (v := some (.ref a)) (fun h => by rw [C.2.2.2.1] at h; cases h) C.2.2.2.2.1
  refine ⟨_, _, retOut S C.1 C.2.2.2.1 (by cases t <;> rfl) (Or.inr (Or.inr (Or.inr (Or.inr ⟨rfl, ht, rfl⟩)))) (hb C.2.1 hd) hr, hrun, hended, _, _, rfl, ⟨N, ?_⟩, ⟨_, rfl⟩, hW, hsame.mono hk hn⟩
  show P _ T.heap
  rw [eT]
  exact hP
theorem w_retV (X : Hr p l e R s m args below meth c n0 h cells slots T) (C : Cx p s m meth c code ml none own nm Z a0 tabs) {pc : Nat} {Ls : Array Slot} (hd : decode code pc = .ok (.return_, 1)) (hP : P none h) (hk : cells ≤ k := by decide) (hn : slots ≤ n := by decide) : Goes p e below s n0 P k n T (mkF m pc Ls []) := by
  obtain ⟨locs, S, eT, N, -⟩ := X
  obtain ⟨fs, hr, hrun, hended, hW, hsame⟩ := S.leave (v := none) (fun _ => rfl) C.2.2.2.2.1
  refine ⟨_, _, S.returnOut C.1 C.2.2.2.1 (hb C.2.1 hd) hr, hrun, hended, _, _, rfl, ⟨N, ?_⟩, ⟨_, rfl⟩, hW, hsame.mono hk hn⟩
  show P _ T.heap
  rw [eT]
  exact hP
theorem w_callS (X : Hr p l e R s m args below meth c n0 h cells slots T) (C : Cx p s m meth c code ml ret own nm Z a0 tabs) {pc index : Nat} {Ls : Array Slot} {y : MethodName} {bytes : ByteArray} {maxL : Nat} {rt : Option FieldType} {rm : Room} {P' : Option Value → Heap → Prop} {argsL rest st : List Value} (hd : decode code pc = .ok (.invokestatic index, 3)) (i1 : Jvm.Cond.methodLink own index y ∈ tabs) (i2 : Jvm.Cond.static y ∈ tabs) (i3 : Jvm.Cond.initialized y.cls ∈ tabs) (i4 : Jvm.Cond.code y bytes maxL rt ∈ tabs) (hy : y.cls ≠ "java/lang/invoke/MethodHandle" ∧ y.cls ≠ "java/lang/invoke/VarHandle") {W : Nat} (hM : Ct l y bytes maxL rt rm Z argsL.toArray h n0 P') (hls : Ls.size = ml) (hlen : ∃ ps r, parseMethodDescriptor y.desc = some ⟨ps, r⟩ ∧ argsL.length = ps.length) (hst : st = argsL.reverse ++ rest) (hW : (rest.map fun v => v.category).sum ≤ W) (hf : rm.frames + 1 ≤ R.frames) (hl : W + (maxL + 11) + rm.locals ≤ R.locals) (hc : cells + rm.cells ≤ R.cells) (hs : slots + rm.slots ≤ R.slots)
    (K : ∀ v T', P' v T'.heap → Hr p l e R s m args below meth c n0 T'.heap (cells + rm.cells) (slots + rm.slots) T' → Goes p e below s n0 P k n T' (mkF m (pc + 3) Ls (v.toList ++ rest))) : Goes p e below s n0 P k n T (mkF m pc Ls st) := by
  obtain ⟨locs, S, eT, N, q0⟩ := X
  obtain ⟨ps, r, hp1, hp2⟩ := hlen
  have hZ := C.2.2.2.2.2.2.2.1
  have hw := C.2.2.2.2.2.2.2.2
  obtain ⟨v, _, ⟨T', L', k', n'⟩, -, X', ⟨Lc, hQ, l1, l2, l3⟩, stp⟩ := Jvm.LawKit.callS S C.1 (y := y) C.2.2.2.2.2.1 (mvT hZ (hw _ i1)) (mvT hZ (hw _ i2)) (mvT hZ (hw _ i3)) (mvT hZ (hw _ i4)) hy (backOf (W := W) (Q := fun v hp L => Fr n0 L ∧ P' v hp) (hM []) C.2.2.2.2.2.2.2.1 (C.2.2.2.2.2.2.2.2 _ i4) (C.2.2.2.2.2.2.2.2 _ i3) hf hl) (g := mkF m pc Ls st) rfl (by rw [C.2.2.1]; exact hls) (argsL := argsL) (rest := rest) (lenOf hp1 hp2) hst (by show 2 * 0 + _ ≤ _; rw [Nat.mul_zero, Nat.zero_add]; exact hW) (hb C.2.1 hd) (fun _ _ => ⟨rfl, eT, hc, hs⟩)
  dsimp only [Pt.U, Pt.locs, Pt.cells, Pt.slots] at X' l1 l2 l3 stp hQ
  subst l1 l2 l3
  exact Goes.of stp (K v T' hQ.2 ⟨_, X', rfl, Fr.app N hQ.1, q0⟩)
theorem w_callI (X : Hr p l e R s m args below meth c n0 h cells slots T) (C : Cx p s m meth c code ml ret own nm Z a0 tabs) {pc index : Nat} {Ls : Array Slot} {y : MethodName} {bytes : ByteArray} {maxL : Nat} {rm : Room} {P' : Option Value → Heap → Prop} {a : Addr} {argsL rest st : List Value} (hd : decode code pc = .ok (.invokespecial index, 3)) (i1 : Jvm.Cond.methodLink own index y ∈ tabs) (i2 : Jvm.Cond.instanceMethod y ∈ tabs) (i3 : Jvm.Cond.initialized y.cls ∈ tabs) (i4 : Jvm.Cond.code y bytes maxL none ∈ tabs) (hn1 : y.name = "<init>") (hy : y.cls ≠ "java/lang/invoke/MethodHandle" ∧ y.cls ≠ "java/lang/invoke/VarHandle") {W : Nat} (hM : Ct l y bytes maxL none rm Z (.ref a :: argsL).toArray h n0 P') (hls : Ls.size = ml) (hlen : ∃ ps r, parseMethodDescriptor y.desc = some ⟨ps, r⟩ ∧ argsL.length = ps.length) (hst : st = argsL.reverse ++ .ref a :: rest) (hW : (rest.map fun v => v.category).sum ≤ W) (hf : rm.frames + 1 ≤ R.frames) (hl : W + (maxL + 11) + rm.locals ≤ R.locals) (hc : cells + rm.cells ≤ R.cells) (hs : slots + rm.slots ≤ R.slots)
    (K : ∀ v T', P' v T'.heap → Hr p l e R s m args below meth c n0 T'.heap (cells + rm.cells) (slots + rm.slots) T' → Goes p e below s n0 P k n T' (mkF m (pc + 3) Ls (v.toList ++ rest))) : Goes p e below s n0 P k n T (mkF m pc Ls st) := by
  obtain ⟨locs, S, eT, N, q0⟩ := X
  obtain ⟨ps, r, hp1, hp2⟩ := hlen
  have hZ := C.2.2.2.2.2.2.2.1
  have hw := C.2.2.2.2.2.2.2.2
  obtain ⟨v, _, ⟨T', L', k', n'⟩, -, X', ⟨Lc, hQ, l1, l2, l3⟩, stp⟩ := S.specialBack C.1 (y := y) hn1 C.2.2.2.2.2.1 (mvT hZ (hw _ i1)) (mvT hZ (hw _ i2)) (mvT hZ (hw _ i4)) hy (backOf (W := W) (Q := fun v hp L => Fr n0 L ∧ P' v hp) (hM []) C.2.2.2.2.2.2.2.1 (C.2.2.2.2.2.2.2.2 _ i4) (C.2.2.2.2.2.2.2.2 _ i3) hf hl) (g := mkF m pc Ls st) rfl (by rw [C.2.2.1]; exact hls) (Steps.refl _) (a := a) (argsL := argsL) (rest := rest) (lenOf hp1 hp2) hst (by show 2 * 0 + _ ≤ _; rw [Nat.mul_zero, Nat.zero_add]; exact hW) (hb C.2.1 hd) (fun _ _ => ⟨rfl, eT, hc, hs⟩)
  dsimp only [Pt.U, Pt.locs, Pt.cells, Pt.slots] at X' l1 l2 l3 stp hQ
  subst l1 l2 l3
  exact Goes.of (fun _ kk => stp.trans kk) (K v T' hQ.2 ⟨_, X', rfl, Fr.app N hQ.1, q0⟩)
theorem w_callV (X : Hr p l e R s m args below meth c n0 h cells slots T) (C : Cx p s m meth c code ml ret own nm Z a0 tabs) {pc index : Nat} {Ls : Array Slot} {y : MethodName} {bytes : ByteArray} {maxL : Nat} {rt : Option FieldType} {rm : Room} {P' : Option Value → Heap → Prop} {a : Addr} {argsL rest st : List Value} (hd : decode code pc = .ok (.invokevirtual index, 3)) (i1 : Jvm.Cond.methodLink own index y ∈ tabs) (i2 : Jvm.Cond.instanceMethod y ∈ tabs) (i3 : Jvm.Cond.initialized y.cls ∈ tabs) (i4 : Jvm.Cond.code y bytes maxL rt ∈ tabs) (i5 : Jvm.Cond.declares y ∈ tabs) (i6 : Jvm.Cond.selects y.cls y y ∈ tabs) (E : Exa Z h a y.cls) (hy : y.cls ≠ "java/lang/invoke/MethodHandle" ∧ y.cls ≠ "java/lang/invoke/VarHandle") {W : Nat} (hM : Ct l y bytes maxL rt rm Z (.ref a :: argsL).toArray h n0 P') (hls : Ls.size = ml) (hlen : ∃ ps r, parseMethodDescriptor y.desc = some ⟨ps, r⟩ ∧ argsL.length = ps.length) (hst : st = argsL.reverse ++ .ref a :: rest) (hW : (rest.map fun v => v.category).sum ≤ W) (hf : rm.frames + 1 ≤ R.frames) (hl : W + (maxL + 11) + rm.locals ≤ R.locals) (hc : cells + rm.cells ≤ R.cells) (hs : slots + rm.slots ≤ R.slots)
    (K : ∀ v T', P' v T'.heap → Hr p l e R s m args below meth c n0 T'.heap (cells + rm.cells) (slots + rm.slots) T' → Goes p e below s n0 P k n T' (mkF m (pc + 3) Ls (v.toList ++ rest))) : Goes p e below s n0 P k n T (mkF m pc Ls st) := by
  obtain ⟨locs, S, eT, N, q0⟩ := X
  obtain ⟨ps, r, hp1, hp2⟩ := hlen
  have hZ := C.2.2.2.2.2.2.2.1
  have hw := C.2.2.2.2.2.2.2.2
  obtain ⟨cB, kB, qa, qb, qc⟩ := isOf hZ eT E
  obtain ⟨v, _, ⟨T', L', k', n'⟩, -, X', ⟨Lc, hQ, l1, l2, l3⟩, stp⟩ := S.virtualBack C.1 (y := y) (z := y) C.2.2.2.2.2.1 (mvT hZ (hw _ i1)) (mvT hZ (hw _ i5)) (notFace_of_selects (args := #[]) (mvT hZ (hw _ i6))) (mvT hZ (hw _ i6)) (mvT hZ (hw _ i2)) hy (backOf (W := W) (Q := fun v hp L => Fr n0 L ∧ P' v hp) (hM []) C.2.2.2.2.2.2.2.1 (C.2.2.2.2.2.2.2.2 _ i4) (C.2.2.2.2.2.2.2.2 _ i3) hf hl) qa qc (g := mkF m pc Ls st) rfl (by rw [C.2.2.1]; exact hls) (Steps.refl _) (argsL := argsL) (rest := rest) (lenOf hp1 hp2) hst (by show 2 * 0 + _ ≤ _; rw [Nat.mul_zero, Nat.zero_add]; exact hW) (hb C.2.1 hd) (fun _ _ => ⟨rfl, eT, hc, hs⟩)
  dsimp only [Pt.U, Pt.locs, Pt.cells, Pt.slots] at X' l1 l2 l3 stp hQ
  subst l1 l2 l3
  exact Goes.of (fun _ kk => stp.trans kk) (K v T' hQ.2 ⟨_, X', rfl, Fr.app N hQ.1, q0⟩)
theorem w_callP (X : Hr p l e R s m args below meth c n0 h cells slots T) (C : Cx p s m meth c code ml ret own nm Z a0 tabs) {pc index : Nat} {Ls : Array Slot} {y : MethodName} {bytes : ByteArray} {maxL : Nat} {rt : Option FieldType} {rm : Room} {w : Value} {argsL rest st : List Value} {W : Nat} (hd : decode code pc = .ok (.invokestatic index, 3)) (i1 : Jvm.Cond.methodLink own index y ∈ tabs) (i2 : Jvm.Cond.static y ∈ tabs) (i3 : Jvm.Cond.initialized y.cls ∈ tabs) (i4 : Jvm.Cond.code y bytes maxL rt ∈ tabs) (hy : y.cls ≠ "java/lang/invoke/MethodHandle" ∧ y.cls ≠ "java/lang/invoke/VarHandle") (hM : Ct l y bytes maxL rt rm Z argsL.toArray h n0 (fun v hp => v = some w ∧ hp = h)) (hr0 : rm.cells = 0) (hr1 : rm.slots = 0) (hls : Ls.size = ml) (hlen : ∃ ps r, parseMethodDescriptor y.desc = some ⟨ps, r⟩ ∧ argsL.length = ps.length) (hst : st = argsL.reverse ++ rest) (hW : (rest.map fun v => v.category).sum ≤ W) (hf : rm.frames + 1 ≤ R.frames) (hl : W + (maxL + 11) + rm.locals ≤ R.locals) (hc : cells ≤ R.cells) (hs : slots ≤ R.slots)
    (K : ∀ T', Hr p l e R s m args below meth c n0 h cells slots T' → Goes p e below s n0 P k n T' (mkF m (pc + 3) Ls (w :: rest))) : Goes p e below s n0 P k n T (mkF m pc Ls st) := by
  refine w_callS X C hd i1 i2 i3 i4 hy hM hls hlen hst hW hf hl (by rw [hr0]; exact hc) (by rw [hr1]; exact hs) ?_
  rintro v T' ⟨rfl, e1⟩ X'
  rw [e1, hr0, hr1] at X'
  exact K T' X'
theorem w_initO (X : Hr p l e R s m args below meth c n0 h cells slots T) (C : Cx p s m meth c code ml ret own nm Z a0 tabs) {pc index : Nat} {Ls : Array Slot} {a : Addr} {rest : List Value} (hd : decode code pc = .ok (.invokespecial index, 3)) (i1 : Jvm.Cond.methodLink own index Lib.objectInit ∈ tabs) (i2 : Jvm.Cond.instanceMethod Lib.objectInit ∈ tabs) (i3 : Jvm.Cond.code Lib.objectInit ⟨#[0xb1]⟩ 1 none ∈ tabs) (hls : Ls.size = ml) {W : Nat} (hW : (rest.map fun v => v.category).sum ≤ W) (hf : 1 ≤ R.frames) (hl : W + 12 ≤ R.locals)
    (K : ∀ T', Hr p l e R s m args below meth c n0 h cells slots T' → Goes p e below s n0 P k n T' (mkF m (pc + 3) Ls rest)) : Goes p e below s n0 P k n T (mkF m pc Ls (.ref a :: rest)) := by
  obtain ⟨locs, S, eT, N, q0⟩ := X
  have hZ := C.2.2.2.2.2.2.2.1
  have hw := C.2.2.2.2.2.2.2.2
  obtain ⟨T', X', e', st⟩ := initO S C.1 hZ C.2.2.2.2.2.1 (hw _ i1) (hw _ i2) (hw _ i3) eT (g := mkF m pc Ls (.ref a :: rest)) rfl (by rw [C.2.2.1]; exact hls) rfl (hb C.2.1 hd) hf (W := W) (by show 2 * 0 + _ ≤ _; rw [Nat.mul_zero, Nat.zero_add]; exact hW) hl
  exact Goes.of st (K T' ⟨_, X', e', N, q0⟩)
theorem w_getfield (X : Hr p l e R s m args below meth c n0 h cells slots T) (C : Cx p s m meth c code ml ret own nm Z a0 tabs) {pc index : Nat} {Ls : Array Slot} {O nf d : String} {a : Addr} {v : Value} {rest : List Value} (hd : decode code pc = .ok (.getfield index, 3)) (i1 : Jvm.Cond.fieldLink own index O nf d ∈ tabs) (F : Fld Z h a O nf d v)
    (K : ∀ T', Hr p l e R s m args below meth c n0 h cells slots T' → Goes p e below s n0 P k n T' (mkF m (pc + 3) Ls (v :: rest))) : Goes p e below s n0 P k n T (mkF m pc Ls (.ref a :: rest)) := by
  obtain ⟨locs, S, eT, N, q0⟩ := X
  obtain ⟨T', X', e', st⟩ := getF S C.1 C.2.2.2.2.2.2.2.1 C.2.2.2.2.2.1 (host := "") (Or.inl (C.2.2.2.2.2.2.2.2 _ i1)) Via.refl eT F (g := mkF m pc Ls (.ref a :: rest)) rfl rfl (hb C.2.1 hd)
  exact Goes.of st (K T' ⟨_, X', e', N, q0⟩)
theorem w_putfield (X : Hr p l e R s m args below meth c n0 h cells slots T) (C : Cx p s m meth c code ml ret own nm Z a0 tabs) {pc index kk0 : Nat} {Ls : Array Slot} {O nf d Cc : String} {ty : FieldType} {a : Addr} {v old : Value} {rest : List Value} (hd : decode code pc = .ok (.putfield index, 3)) (i1 : Jvm.Cond.fieldLink own index O nf d ∈ tabs) (F : Fld Z h a O nf d old) (E : Exa Z h a Cc) (i2 : Jvm.Cond.lays Cc O nf d ∈ tabs ∨ (Jvm.Cond.laysFinal Cc O nf d ∈ tabs ∧ own = O ∧ nm = "<init>")) (i3 : Jvm.Cond.instantiable Cc kk0 ∈ tabs) (hty : parseFieldDescriptor d = some ty) (hnw : narrow ty v = v) (hft : fits ty v = true) (ha : n0 ≤ a)
    (K : ∀ T' h', Hr p l e R s m args below meth c n0 h' cells slots T' → Wr h h' a (Jvm.RoadKit.slotOf Z O nf d) v → Fld Z h' a O nf d v → Exa Z h' a Cc → Goes p e below s n0 P k n T' (mkF m (pc + 3) Ls rest)) : Goes p e below s n0 P k n T (mkF m pc Ls (v :: .ref a :: rest)) := by
  obtain ⟨locs, S, eT, N, q0⟩ := X
  have hw := C.2.2.2.2.2.2.2.2
  obtain ⟨T', h', X', e', W', st⟩ := putF S C.1 C.2.2.2.2.2.2.2.1 C.2.2.2.2.2.1 (host := "") (Or.inl (hw _ i1)) Via.refl eT F E (i2.imp (fun q => hw _ q) (fun q => ⟨hw _ q.1, q.2.1, by rw [C.2.2.2.2.2.2.1]; exact q.2.2⟩)) (hw _ i3) hty hnw hft (g := mkF m pc Ls (v :: .ref a :: rest)) rfl rfl (hb C.2.1 hd)
  exact Goes.of st (K T' h' ⟨_, X', e', Fr.snoc X' N ha, q0⟩ W' (F.same W') (E.wr W'))
theorem w_new (X : Hr p l e R s m args below meth c n0 h cells slots T) (C : Cx p s m meth c code ml ret own nm Z a0 tabs) {pc index nn : Nat} {Ls : Array Slot} {Cc : String} {rest : List Value} (hd : decode code pc = .ok (.new index, 3)) (i1 : Jvm.Cond.classLink own index Cc ∈ tabs) (i2 : Jvm.Cond.instantiable Cc nn ∈ tabs) (i3 : Jvm.Cond.initialized Cc ∈ tabs) (hc : cells + 1 ≤ R.cells) (hl : slots + nn ≤ R.slots)
    (K : ∀ T' h' a, a = h.size → n0 ≤ a → Hr p l e R s m args below meth c n0 h' (cells + 1) (slots + nn) T' → Ext h h' → Exa Z h' a Cc → (∀ {O nf d : String} {ty : FieldType}, (Jvm.Cond.lays Cc O nf d ∈ tabs ∨ Jvm.Cond.laysFinal Cc O nf d ∈ tabs) → parseFieldDescriptor d = some ty → Fld Z h' a O nf d (defaultValue ty)) → Goes p e below s n0 P k n T' (mkF m (pc + 3) Ls (.ref a :: rest))) : Goes p e below s n0 P k n T (mkF m pc Ls rest) := by
  have hsz := X.size
  obtain ⟨locs, S, eT, N, q0⟩ := X
  have hw := C.2.2.2.2.2.2.2.2
  obtain ⟨T', h', X', e', E', A', D', -, st⟩ := newO S C.1 C.2.2.2.2.2.2.2.1 C.2.2.2.2.2.1 (hw _ i1) (hw _ i2) (hw _ i3) eT (g := mkF m pc Ls rest) rfl (hb C.2.1 hd) hc hl
  exact Goes.of st (K T' h' h.size rfl hsz ⟨_, X', e', N, q0⟩ E' A' (fun q ht => D' (q.imp (fun z => hw _ z) (fun z => hw _ z)) ht))
theorem ArV.lt {a : Addr} {ty : FieldType} {N : Nat} {f : Nat → Value} (A : ArV Z h a ty N f) : a < h.size := by obtain ⟨cl, A, -⟩ := A; exact A.lt
theorem ArV.ext {a : Addr} {ty : FieldType} {N : Nat} {f : Nat → Value} (A : ArV Z h a ty N f) (E : Ext h h') : ArV Z h' a ty N f := by obtain ⟨cl, A, r⟩ := A; exact ⟨cl, A.ext E, r⟩
theorem ArV.other {a b : Addr} {ty : FieldType} {N sl : Nat} {v : Value} {f : Nat → Value} (A : ArV Z h b ty N f) (W : Wr h h' a sl v) (q : b ≠ a) : ArV Z h' b ty N f := by obtain ⟨cl, A, r⟩ := A; exact ⟨cl, A.other W q, r⟩
theorem ArV.keep {a : Addr} {ty : FieldType} {N : Nat} {f : Nat → Value} {ws : List Addr} (A : ArV Z h a ty N f) (K : Keep h h' ws) (q : a ∉ ws) : ArV Z h' a ty N f := by obtain ⟨c, A, r⟩ := A; exact ⟨c, ⟨K.2.1 a c A.1 q, A.2⟩, r⟩
theorem ArV.congr {a : Addr} {ty : FieldType} {N : Nat} {f f' : Nat → Value} (A : ArV Z h a ty N f) (q : ∀ i, i < N → f' i = f i) : ArV Z h a ty N f' := by obtain ⟨c, A, r1, r2⟩ := A; exact ⟨c, A, r1, fun i hi => by rw [q i hi]; exact r2 i hi⟩
theorem ArV.same {a : Addr} {ty : FieldType} {N j : Nat} {v : Value} {f : Nat → Value} (A : ArV Z h a ty N f) (W : Wr h h' a j v) : ArV Z h' a ty N (up f j v) := by
  obtain ⟨c, A, r1, r2⟩ := A
  refine ⟨_, A.same W, by rw [sz_set]; exact r1, fun i hi => ?_⟩
  unfold up
  by_cases q : i = j
  · subst q; simp [Cell.setSlot, r1, hi]
  · simp only [q, if_false, Cell.setSlot]
    rw [Array.getElem?_setIfInBounds_ne (fun z => q z.symm)]
    exact r2 i hi
theorem up_int (g : Nat → Int32) (j : Nat) (x : Int32) : (fun i => Value.int (up g j x i)) = up (fun i => Value.int (g i)) j (.int x) := by
  funext i; unfold up; split <;> rfl
theorem up_long (g : Nat → Int64) (j : Nat) (x : Int64) : (fun i => Value.long (up g j x i)) = up (fun i => Value.long (g i)) j (.long x) := by
  funext i; unfold up; split <;> rfl
theorem in_of {a : Addr} {ty : FieldType} {N i : Nat} {j : Int32} {cl : Cell} (hi : j.toInt = i) (hN : i < N) (r1 : cl.slots.size = N) : ¬ (j < 0 ∨ cl.slots.size ≤ j.toNatClampNeg) ∧ j.toNatClampNeg = i := by
  have e0 : (0 : Int32).toInt = 0 := rfl
  have e1 : j.toNatClampNeg = i := by simp only [Int32.toNatClampNeg, hi]; omega
  refine ⟨?_, e1⟩
  rw [e1, r1, Int32.lt_iff_toInt_lt, e0]; omega
theorem w_baload (X : Hr p l e R s m args below meth c n0 h cells slots T) (C : Cx p s m meth c code ml ret own nm Z a0 tabs) {pc N : Nat} {Ls : Array Slot} {a : Addr} {g : Nat → Int32} {j : Int32} {rest : List Value} (hd : decode code pc = .ok (.baload, 1)) (A : ArI Z h a .byte N g) (i : Nat) (hi : j.toInt = i) (hN : i < N) (K : Goes p e below s n0 P k n T (mkF m (pc + 1) Ls (.int (g i) :: rest))) : Goes p e below s n0 P k n T (mkF m pc Ls (.int j :: .ref a :: rest)) := by
  obtain ⟨locs, S, eT, N0, q0⟩ := X
  obtain ⟨cl, Ar, r1, r2⟩ := A
  obtain ⟨hin, e1⟩ := in_of (a := a) (ty := .byte) hi hN r1
  exact Goes.of (fun _ kk => S.baloadBytes C.1 (j := j) (v := .int (g i)) (by rw [eT]; exact Ar.1) (State.isArrayOf_alike C.2.2.2.2.2.2.2.1.alike Ar.2.1) Ar.2.2 hin (by rw [e1]; exact r2 i hN) (g := mkF m pc Ls (.int j :: .ref a :: rest)) rfl rfl (hb C.2.1 hd) _ kk) K
theorem w_iaload (X : Hr p l e R s m args below meth c n0 h cells slots T) (C : Cx p s m meth c code ml ret own nm Z a0 tabs) {pc N : Nat} {Ls : Array Slot} {a : Addr} {g : Nat → Int32} {j : Int32} {rest : List Value} (hd : decode code pc = .ok (.iaload, 1)) (A : ArI Z h a .int N g) (i : Nat) (hi : j.toInt = i) (hN : i < N) (K : Goes p e below s n0 P k n T (mkF m (pc + 1) Ls (.int (g i) :: rest))) : Goes p e below s n0 P k n T (mkF m pc Ls (.int j :: .ref a :: rest)) := by
  obtain ⟨locs, S, eT, N0, q0⟩ := X
  obtain ⟨cl, Ar, r1, r2⟩ := A
  obtain ⟨hin, e1⟩ := in_of (a := a) (ty := .int) hi hN r1
  exact Goes.of (fun _ kk => S.iaload C.1 (j := j) (v := .int (g i)) (by rw [eT]; exact Ar.1) (State.isArrayOf_alike C.2.2.2.2.2.2.2.1.alike Ar.2.1) Ar.2.2 hin (by rw [e1]; exact r2 i hN) (g := mkF m pc Ls (.int j :: .ref a :: rest)) rfl rfl (hb C.2.1 hd) _ kk) K
theorem w_laload (X : Hr p l e R s m args below meth c n0 h cells slots T) (C : Cx p s m meth c code ml ret own nm Z a0 tabs) {pc N : Nat} {Ls : Array Slot} {a : Addr} {g : Nat → Int64} {j : Int32} {rest : List Value} (hd : decode code pc = .ok (.laload, 1)) (A : ArJ Z h a N g) (i : Nat) (hi : j.toInt = i) (hN : i < N) (K : Goes p e below s n0 P k n T (mkF m (pc + 1) Ls (.long (g i) :: rest))) : Goes p e below s n0 P k n T (mkF m pc Ls (.int j :: .ref a :: rest)) := by
  obtain ⟨locs, S, eT, N0, q0⟩ := X
  obtain ⟨cl, Ar, r1, r2⟩ := A
  obtain ⟨hin, e1⟩ := in_of (a := a) (ty := .long) hi hN r1
  exact Goes.of (fun _ kk => S.laload C.1 (j := j) (v := .long (g i)) (by rw [eT]; exact Ar.1) (State.isArrayOf_alike C.2.2.2.2.2.2.2.1.alike Ar.2.1) Ar.2.2 hin (by rw [e1]; exact r2 i hN) (g := mkF m pc Ls (.int j :: .ref a :: rest)) rfl rfl (hb C.2.1 hd) _ kk) K
theorem w_bastore (X : Hr p l e R s m args below meth c n0 h cells slots T) (C : Cx p s m meth c code ml ret own nm Z a0 tabs) {pc N : Nat} {Ls : Array Slot} {a : Addr} {g : Nat → Int32} {j : Int32} {x : Int32} {rest : List Value} (hd : decode code pc = .ok (.bastore, 1)) (A : ArI Z h a .byte N g) (i : Nat) (hi : j.toInt = i) (hN : i < N) (ha : n0 ≤ a)
    (K : ∀ T' h', Hr p l e R s m args below meth c n0 h' cells slots T' → Wr h h' a i (.int (i8 x)) → ArI Z h' a .byte N (up g i (i8 x)) → Goes p e below s n0 P k n T' (mkF m (pc + 1) Ls rest)) : Goes p e below s n0 P k n T (mkF m pc Ls (.int x :: .int j :: .ref a :: rest)) := by
  obtain ⟨locs, S, eT, N0, q0⟩ := X
  obtain ⟨cl, Ar, r1, r2⟩ := A
  obtain ⟨hin, e1⟩ := in_of (a := a) (ty := .byte) hi hN r1
  obtain ⟨T', h', X', e', W', st⟩ := stB S C.1 C.2.2.2.2.2.2.2.1 eT Ar (j := j) hin (g := mkF m pc Ls (.int x :: .int j :: .ref a :: rest)) rfl rfl (hb C.2.1 hd)
  rw [e1] at W'
  refine Goes.of st (K T' h' ⟨_, X', e', Fr.snoc X' N0 ha, q0⟩ W' ?_)
  have q := ArV.same ⟨cl, Ar, r1, r2⟩ W'
  rw [← (show (fun i_1 => Value.int (up g i (i8 x) i_1)) = up (fun i => Value.int (g i)) i (.int (nar .byte x)) from up_int g i (i8 x))] at q
  exact q
theorem w_iastore (X : Hr p l e R s m args below meth c n0 h cells slots T) (C : Cx p s m meth c code ml ret own nm Z a0 tabs) {pc N : Nat} {Ls : Array Slot} {a : Addr} {g : Nat → Int32} {j : Int32} {x : Int32} {rest : List Value} (hd : decode code pc = .ok (.iastore, 1)) (A : ArI Z h a .int N g) (i : Nat) (hi : j.toInt = i) (hN : i < N) (ha : n0 ≤ a)
    (K : ∀ T' h', Hr p l e R s m args below meth c n0 h' cells slots T' → Wr h h' a i (.int (x)) → ArI Z h' a .int N (up g i (x)) → Goes p e below s n0 P k n T' (mkF m (pc + 1) Ls rest)) : Goes p e below s n0 P k n T (mkF m pc Ls (.int x :: .int j :: .ref a :: rest)) := by
  obtain ⟨locs, S, eT, N0, q0⟩ := X
  obtain ⟨cl, Ar, r1, r2⟩ := A
  obtain ⟨hin, e1⟩ := in_of (a := a) (ty := .int) hi hN r1
  obtain ⟨T', h', X', e', W', st⟩ := stI S C.1 C.2.2.2.2.2.2.2.1 eT Ar (j := j) hin (g := mkF m pc Ls (.int x :: .int j :: .ref a :: rest)) rfl rfl (hb C.2.1 hd)
  rw [e1] at W'
  refine Goes.of st (K T' h' ⟨_, X', e', Fr.snoc X' N0 ha, q0⟩ W' ?_)
  have q := ArV.same ⟨cl, Ar, r1, r2⟩ W'
  rw [← up_int] at q
  exact q
theorem w_lastore (X : Hr p l e R s m args below meth c n0 h cells slots T) (C : Cx p s m meth c code ml ret own nm Z a0 tabs) {pc N : Nat} {Ls : Array Slot} {a : Addr} {g : Nat → Int64} {j : Int32} {x : Int64} {rest : List Value} (hd : decode code pc = .ok (.lastore, 1)) (A : ArJ Z h a N g) (i : Nat) (hi : j.toInt = i) (hN : i < N) (ha : n0 ≤ a)
    (K : ∀ T' h', Hr p l e R s m args below meth c n0 h' cells slots T' → Wr h h' a i (.long (x)) → ArJ Z h' a N (up g i (x)) → Goes p e below s n0 P k n T' (mkF m (pc + 1) Ls rest)) : Goes p e below s n0 P k n T (mkF m pc Ls (.long x :: .int j :: .ref a :: rest)) := by
  obtain ⟨locs, S, eT, N0, q0⟩ := X
  obtain ⟨cl, Ar, r1, r2⟩ := A
  obtain ⟨hin, e1⟩ := in_of (a := a) (ty := .long) hi hN r1
  obtain ⟨T', h', X', e', W', st⟩ := stJ S C.1 C.2.2.2.2.2.2.2.1 eT Ar (j := j) hin (g := mkF m pc Ls (.long x :: .int j :: .ref a :: rest)) rfl rfl (hb C.2.1 hd)
  rw [e1] at W'
  refine Goes.of st (K T' h' ⟨_, X', e', Fr.snoc X' N0 ha, q0⟩ W' ?_)
  have q := ArV.same ⟨cl, Ar, r1, r2⟩ W'
  rw [← up_long] at q
  exact q
theorem w_arraylength (X : Hr p l e R s m args below meth c n0 h cells slots T) (C : Cx p s m meth c code ml ret own nm Z a0 tabs) {pc N : Nat} {Ls : Array Slot} {a : Addr} {ty : FieldType} {f : Nat → Value} {rest : List Value} (hd : decode code pc = .ok (.arraylength, 1)) (A : ArV Z h a ty N f) (K : Goes p e below s n0 P k n T (mkF m (pc + 1) Ls (.int N.toInt32 :: rest))) : Goes p e below s n0 P k n T (mkF m pc Ls (.ref a :: rest)) := by
  obtain ⟨locs, S, eT, N0, q0⟩ := X
  obtain ⟨cl, Ar, r1, r2⟩ := A
  subst r1
  exact Goes.of (fun _ kk => S.arraylength C.1 (by rw [eT]; exact Ar.1) (State.isArrayOf_alike C.2.2.2.2.2.2.2.1.alike Ar.2.1) (g := mkF m pc Ls (.ref a :: rest)) rfl rfl (hb C.2.1 hd) _ kk) K
theorem w_new_byte (X : Hr p l e R s m args below meth c n0 h cells slots T) (C : Cx p s m meth c code ml ret own nm Z a0 tabs) {pc : Nat} {Ls : Array Slot} {sz : Int32} {rest : List Value} (hd : decode code pc = .ok (.newarray .byte, 2)) (i1 : Jvm.Cond.arrayClass .byte ∈ tabs) (N : Nat) (hN : sz.toInt = N) (cap : Nat) (hcap : N ≤ cap) (hbig : cap * 8 ≤ 536870912) (hc : cells + 1 ≤ R.cells) (hl : slots + cap ≤ R.slots)
    (K : ∀ T' h' a, a = h.size → n0 ≤ a → Hr p l e R s m args below meth c n0 h' (cells + 1) (slots + cap) T' → Ext h h' → ArI Z h' a .byte N (fun _ => 0) → Goes p e below s n0 P k n T' (mkF m (pc + 2) Ls (.ref a :: rest))) : Goes p e below s n0 P k n T (mkF m pc Ls (.int sz :: rest)) := by
  have hsz := X.size
  obtain ⟨locs, S, eT, N0, q0⟩ := X
  have hw := C.2.2.2.2.2.2.2.2
  have e1 : sz.toNatClampNeg = N := by simp only [Int32.toNatClampNeg, hN]; omega
  have e2 : ¬ sz < 0 := by
    have e0 : (0 : Int32).toInt = 0 := rfl
    rw [Int32.lt_iff_toInt_lt, e0]; omega
  obtain ⟨T', h', kk', X', e', E', A', st⟩ := newP S C.1 C.2.2.2.2.2.2.2.1 (aty := .byte) (hw _ i1) eT (g := mkF m pc Ls (.int sz :: rest)) rfl (hb C.2.1 hd) rfl e2 (cap := cap) (by rw [e1]; exact hcap) hbig hc hl
  refine Goes.of st (K T' h' h.size rfl hsz ⟨_, X', e', N0, q0⟩ E' ⟨_, A', by rw [sz_new]; exact e1, fun i hi => ?_⟩)
  simp [newA, e1, hi, newarray.typeOf, defaultValue]
theorem w_new_int (X : Hr p l e R s m args below meth c n0 h cells slots T) (C : Cx p s m meth c code ml ret own nm Z a0 tabs) {pc : Nat} {Ls : Array Slot} {sz : Int32} {rest : List Value} (hd : decode code pc = .ok (.newarray .int, 2)) (i1 : Jvm.Cond.arrayClass .int ∈ tabs) (N : Nat) (hN : sz.toInt = N) (cap : Nat) (hcap : N ≤ cap) (hbig : cap * 8 ≤ 536870912) (hc : cells + 1 ≤ R.cells) (hl : slots + cap ≤ R.slots)
    (K : ∀ T' h' a, a = h.size → n0 ≤ a → Hr p l e R s m args below meth c n0 h' (cells + 1) (slots + cap) T' → Ext h h' → ArI Z h' a .int N (fun _ => 0) → Goes p e below s n0 P k n T' (mkF m (pc + 2) Ls (.ref a :: rest))) : Goes p e below s n0 P k n T (mkF m pc Ls (.int sz :: rest)) := by
  have hsz := X.size
  obtain ⟨locs, S, eT, N0, q0⟩ := X
  have hw := C.2.2.2.2.2.2.2.2
  have e1 : sz.toNatClampNeg = N := by simp only [Int32.toNatClampNeg, hN]; omega
  have e2 : ¬ sz < 0 := by
    have e0 : (0 : Int32).toInt = 0 := rfl
    rw [Int32.lt_iff_toInt_lt, e0]; omega
  obtain ⟨T', h', kk', X', e', E', A', st⟩ := newP S C.1 C.2.2.2.2.2.2.2.1 (aty := .int) (hw _ i1) eT (g := mkF m pc Ls (.int sz :: rest)) rfl (hb C.2.1 hd) rfl e2 (cap := cap) (by rw [e1]; exact hcap) hbig hc hl
  refine Goes.of st (K T' h' h.size rfl hsz ⟨_, X', e', N0, q0⟩ E' ⟨_, A', by rw [sz_new]; exact e1, fun i hi => ?_⟩)
  simp [newA, e1, hi, newarray.typeOf, defaultValue]
theorem w_new_long (X : Hr p l e R s m args below meth c n0 h cells slots T) (C : Cx p s m meth c code ml ret own nm Z a0 tabs) {pc : Nat} {Ls : Array Slot} {sz : Int32} {rest : List Value} (hd : decode code pc = .ok (.newarray .long, 2)) (i1 : Jvm.Cond.arrayClass .long ∈ tabs) (N : Nat) (hN : sz.toInt = N) (cap : Nat) (hcap : N ≤ cap) (hbig : cap * 8 ≤ 536870912) (hc : cells + 1 ≤ R.cells) (hl : slots + cap ≤ R.slots)
    (K : ∀ T' h' a, a = h.size → n0 ≤ a → Hr p l e R s m args below meth c n0 h' (cells + 1) (slots + cap) T' → Ext h h' → ArJ Z h' a N (fun _ => 0) → Goes p e below s n0 P k n T' (mkF m (pc + 2) Ls (.ref a :: rest))) : Goes p e below s n0 P k n T (mkF m pc Ls (.int sz :: rest)) := by
  have hsz := X.size
  obtain ⟨locs, S, eT, N0, q0⟩ := X
  have hw := C.2.2.2.2.2.2.2.2
  have e1 : sz.toNatClampNeg = N := by simp only [Int32.toNatClampNeg, hN]; omega
  have e2 : ¬ sz < 0 := by
    have e0 : (0 : Int32).toInt = 0 := rfl
    rw [Int32.lt_iff_toInt_lt, e0]; omega
  obtain ⟨T', h', kk', X', e', E', A', st⟩ := newP S C.1 C.2.2.2.2.2.2.2.1 (aty := .long) (hw _ i1) eT (g := mkF m pc Ls (.int sz :: rest)) rfl (hb C.2.1 hd) rfl e2 (cap := cap) (by rw [e1]; exact hcap) hbig hc hl
  refine Goes.of st (K T' h' h.size rfl hsz ⟨_, X', e', N0, q0⟩ E' ⟨_, A', by rw [sz_new]; exact e1, fun i hi => ?_⟩)
  simp [newA, e1, hi, newarray.typeOf, defaultValue]
end W
end Jvm.OwnW
namespace Jvm.Pilot.@@N@@
open Jvm Jvm.ClassFile Sem Op Lib Jvm.Free Jvm.Stand Jvm.LawKit Jvm.RoadKit Bundle Jvm.OwnW Jvm.Pilot.@@N@@.Jvm.D
theorem pn_0 : plainName "com/example/wadesmill/wadesmill/server/MemoryBudget" = true := by first | (simp [plainName, overriddenIn]; done) | decide +kernel
theorem pn_1 : plainName "com/example/wadesmill/wadesmill/server/MemoryBudgetLeftPinLaw" = true := by first | (simp [plainName, overriddenIn]; done) | decide +kernel
theorem pd_0 : parseMethodDescriptor "(JJ)J" = some ⟨[.long, .long], some .long⟩ := by decide +kernel
theorem pd_1 : parseMethodDescriptor "(J)V" = some ⟨[.long], none⟩ := by decide +kernel
theorem pd_2 : parseMethodDescriptor "()J" = some ⟨[], some .long⟩ := by decide +kernel
def f4 (x0 : Int64) (x2 : Int64) : Int64 := (if x0 < x2 then x2 else x0)
theorem d4_0 : decode jdk_29_method_66_code 0 = .ok (.lload_n 0, 1) := by decide +kernel
theorem d4_1 : decode jdk_29_method_66_code 1 = .ok (.lload_n 2, 1) := by decide +kernel
theorem d4_2 : decode jdk_29_method_66_code 2 = .ok (.lcmp, 1) := by decide +kernel
theorem d4_3 : decode jdk_29_method_66_code 3 = .ok (.ifCond .lt 7, 3) := by decide +kernel
theorem d4_6 : decode jdk_29_method_66_code 6 = .ok (.lload_n 0, 1) := by decide +kernel
theorem d4_7 : decode jdk_29_method_66_code 7 = .ok (.goto 4, 3) := by decide +kernel
theorem d4_10 : decode jdk_29_method_66_code 10 = .ok (.lload_n 2, 1) := by decide +kernel
theorem d4_11 : decode jdk_29_method_66_code 11 = .ok (.lreturn, 1) := by decide +kernel
set_option maxRecDepth 65536 in
set_option maxHeartbeats 4000000 in
theorem b4_0 {p : Program} {l : Launch} {e : Env} {s : State} {m : MethodId} {args : Array Value} {below : List Frame} {meth : Method} {c : Code} {T : State} {h : Heap} {n0 : Nat} {P : Option Value → Heap → Prop} {Z : State} {a0 : Array Value} (X : Hr p l e ({ frames := 0, cells := 0, slots := 0, locals := 0 } : Room) s m args below meth c n0 h 0 0 T) (C : Cx p s m meth c jdk_29_method_66_code 4 (some .long) "java/lang/Math" "max" Z a0 tables_1) (x0 : Int64) (x2 : Int64) (hP : P (some (.long (f4 x0 x2))) h) : Goes p e below s n0 P 0 0 T (mkF m 0 #[.val (.long x0), .second, .val (.long x2), .second] []) := by
  refine w_lloadN (pc := 0) X C d4_0 rfl ?_
  refine w_lloadN (pc := 1) X C d4_1 rfl ?_
  refine w_lcmp (pc := 2) X C d4_2 ?_
  refine w_ifJ_lt (pc := 3) X C d4_3 10 (by decide) (fun q1 => ?_) (fun q1 => ?_)
  · -- yes
    refine w_lloadN (pc := 10) X C d4_10 rfl ?_
    exact w_retJ (pc := 11) X C d4_11 (by unfold f4 at hP; rw [if_pos q1] at hP; exact hP)
  · -- no
    refine w_lloadN (pc := 6) X C d4_6 rfl ?_
    refine w_goto (pc := 7) X C d4_7 11 (by decide) ?_
    exact w_retJ (pc := 11) X C d4_11 (by unfold f4 at hP; rw [if_neg q1] at hP; exact hP)
theorem ct4 (l : Launch) {Z : State} {a0 : Array Value} (hw : ∀ d ∈ tables_1, d.before a0 Z = true) (h : Heap) {n0 : Nat} (hn : n0 ≤ h.size) (x0 : Int64) (x2 : Int64) : Ct l (⟨"java/lang/Math", "max", "(JJ)J"⟩ : MethodName) jdk_29_method_66_code 4 (some .long) ({ frames := 0, cells := 0, slots := 0, locals := 0 } : Room) Z #[(.long x0), (.long x2)] h n0 (fun v h' => v = some (.long (f4 x0 x2)) ∧ h' = h) :=
  Ct.of (Jvm.Free.JP.mathPlain rfl (by decide +kernel)) #[.val (.long x0), .second, .val (.long x2), .second] (fun m => by first | (simp [entryFrame, mkF, argsToLocals, Value.category]; done) | rfl) hw hn (fun p e s m below meth c T C X => b4_0 X C x0 x2 ⟨rfl, rfl⟩)
def f6 (x0 : Int64) (x2 : Int64) : Int64 := (if x0 < x2 then (0 : Int64) else (x0 - x2))
theorem d6_0 : decode method_2_code 0 = .ok (.lload_n 2, 1) := by decide +kernel
theorem d6_1 : decode method_2_code 1 = .ok (.lload_n 0, 1) := by decide +kernel
theorem d6_2 : decode method_2_code 2 = .ok (.lcmp, 1) := by decide +kernel
theorem d6_3 : decode method_2_code 3 = .ok (.ifCond .gt 7, 3) := by decide +kernel
theorem d6_6 : decode method_2_code 6 = .ok (.lload_n 0, 1) := by decide +kernel
theorem d6_7 : decode method_2_code 7 = .ok (.lload_n 2, 1) := by decide +kernel
theorem d6_8 : decode method_2_code 8 = .ok (.lsub, 1) := by decide +kernel
theorem d6_9 : decode method_2_code 9 = .ok (.lreturn, 1) := by decide +kernel
theorem d6_10 : decode method_2_code 10 = .ok (.lconst 0, 1) := by decide +kernel
theorem d6_11 : decode method_2_code 11 = .ok (.lreturn, 1) := by decide +kernel
set_option maxRecDepth 65536 in
set_option maxHeartbeats 4000000 in
theorem b6_0 {p : Program} {l : Launch} {e : Env} {s : State} {m : MethodId} {args : Array Value} {below : List Frame} {meth : Method} {c : Code} {T : State} {h : Heap} {n0 : Nat} {P : Option Value → Heap → Prop} {Z : State} {a0 : Array Value} (X : Hr p l e ({ frames := 0, cells := 0, slots := 0, locals := 0 } : Room) s m args below meth c n0 h 0 0 T) (C : Cx p s m meth c method_2_code 4 (some .long) "com/example/wadesmill/wadesmill/server/MemoryBudgetLeftPinLaw" "expect" Z a0 tables_1) (x0 : Int64) (x2 : Int64) (hP : P (some (.long (f6 x0 x2))) h) : Goes p e below s n0 P 0 0 T (mkF m 0 #[.val (.long x0), .second, .val (.long x2), .second] []) := by
  refine w_lloadN (pc := 0) X C d6_0 rfl ?_
  refine w_lloadN (pc := 1) X C d6_1 rfl ?_
  refine w_lcmp (pc := 2) X C d6_2 ?_
  refine w_ifJ_gt (pc := 3) X C d6_3 10 (by decide) (fun q1 => ?_) (fun q1 => ?_)
  · -- yes
    refine w_lconst (pc := 10) X C d6_10 (0 : Int64) rfl ?_
    exact w_retJ (pc := 11) X C d6_11 (by unfold f6 at hP; rw [if_pos q1] at hP; exact hP)
  · -- no
    refine w_lloadN (pc := 6) X C d6_6 rfl ?_
    refine w_lloadN (pc := 7) X C d6_7 rfl ?_
    refine w_lsub (pc := 8) X C d6_8 ?_
    exact w_retJ (pc := 9) X C d6_9 (by unfold f6 at hP; rw [if_neg q1] at hP; exact hP)
theorem ct6 (l : Launch) {Z : State} {a0 : Array Value} (hw : ∀ d ∈ tables_1, d.before a0 Z = true) (h : Heap) {n0 : Nat} (hn : n0 ≤ h.size) (x0 : Int64) (x2 : Int64) : Ct l (⟨"com/example/wadesmill/wadesmill/server/MemoryBudgetLeftPinLaw", "expect", "(JJ)J"⟩ : MethodName) method_2_code 4 (some .long) ({ frames := 0, cells := 0, slots := 0, locals := 0 } : Room) Z #[(.long x0), (.long x2)] h n0 (fun v h' => v = some (.long (f6 x0 x2)) ∧ h' = h) :=
  Ct.of (plainFor_of_name pn_1) #[.val (.long x0), .second, .val (.long x2), .second] (fun m => by first | (simp [entryFrame, mkF, argsToLocals, Value.category]; done) | rfl) hw hn (fun p e s m below meth c T C X => b6_0 X C x0 x2 ⟨rfl, rfl⟩)
theorem d1_0 : decode prog_20_method_1_code 0 = .ok (.aload_n 0, 1) := by decide +kernel
theorem d1_1 : decode prog_20_method_1_code 1 = .ok (.invokespecial 1, 3) := by decide +kernel
theorem d1_4 : decode prog_20_method_1_code 4 = .ok (.aload_n 0, 1) := by decide +kernel
theorem d1_5 : decode prog_20_method_1_code 5 = .ok (.lload_n 1, 1) := by decide +kernel
theorem d1_6 : decode prog_20_method_1_code 6 = .ok (.putfield 7, 3) := by decide +kernel
theorem d1_9 : decode prog_20_method_1_code 9 = .ok (.return_, 1) := by decide +kernel
set_option maxRecDepth 65536 in
set_option maxHeartbeats 40000000 in
theorem bw1 {p : Program} {l : Launch} {e : Env} {s : State} {m : MethodId} {args : Array Value} {below : List Frame} {meth : Method} {c : Code} {T : State} {h : Heap} {n0 : Nat} {Z : State} {a0 : Array Value} (X : Hr p l e ({ frames := 1, cells := 0, slots := 0, locals := 12 } : Room) s m args below meth c n0 h 0 0 T) (C : Cx p s m meth c prog_20_method_1_code 3 none "com/example/wadesmill/wadesmill/server/MemoryBudget" "<init>" Z a0 tables_1) (x0 : Addr) (x1 : Int64)  (E0 : Exa Z h x0 "com/example/wadesmill/wadesmill/server/MemoryBudget") (F1 : Fld Z h x0 "com/example/wadesmill/wadesmill/server/MemoryBudget" "most" "J" (.long 0)) (F2 : Fld Z h x0 "com/example/wadesmill/wadesmill/server/MemoryBudget" "drawn" "J" (.long 0)) (g0 : n0 ≤ x0) : Goes p e below s n0 (fun v h' => v = none ∧ Keep h h' [x0] ∧ Exa Z h' x0 "com/example/wadesmill/wadesmill/server/MemoryBudget" ∧ Fld Z h' x0 "com/example/wadesmill/wadesmill/server/MemoryBudget" "most" "J" (.long x1) ∧ Fld Z h' x0 "com/example/wadesmill/wadesmill/server/MemoryBudget" "drawn" "J" (.long 0)) 0 0 T (mkF m 0 #[.val (.ref x0), .val (.long x1), .second] []) := by
  refine w_aloadN (pc := 0) X C d1_0 rfl rfl ?_
  refine w_initO (pc := 1) X C d1_1 (List.mem_of_getElem? (i := 7) rfl) (List.mem_of_getElem? (i := 8) rfl) (List.mem_of_getElem? (i := 9) rfl) rfl (W := 0) (Nat.le_of_eq rfl) (by decide) (by decide) (fun T1 X1 => ?_)
  refine w_aloadN (pc := 4) X1 C d1_4 rfl rfl ?_
  refine w_lloadN (pc := 5) X1 C d1_5 rfl ?_
  refine w_putfield (pc := 6) X1 C d1_6 (List.mem_of_getElem? (i := 10) rfl) F1 E0 (Or.inr ⟨(List.mem_of_getElem? (i := 11) rfl), rfl, rfl⟩) (List.mem_of_getElem? (i := 2) rfl) (ty := .long) (by decide) rfl rfl g0 (fun T2 h2 X2 W2 Fp2 Ep2 => ?_)
  have Fk3 := F2.other W2 (Or.inr (slot_ne (Or.inl (C.2.2.2.2.2.2.2.2 _ (List.mem_of_getElem? (i := 18) rfl))) (Or.inr (C.2.2.2.2.2.2.2.2 _ (List.mem_of_getElem? (i := 11) rfl))) (by decide) (t := .long) (t' := .long) (by decide) (by decide)))
  have K4 : Keep h h2 [x0] := (Keep.refl h [x0]).wr W2 (Or.inl (List.mem_of_getElem? (i := 0) rfl))
  exact w_retV (pc := 9) X2 C d1_9 ⟨rfl, K4, Ep2, Fp2, Fk3⟩
theorem ct1 (l : Launch) {Z : State} {a0 : Array Value} (hw : ∀ d ∈ tables_1, d.before a0 Z = true) (h : Heap) {n0 : Nat} (hn : n0 ≤ h.size) (x0 : Addr) (x1 : Int64)  (E0 : Exa Z h x0 "com/example/wadesmill/wadesmill/server/MemoryBudget") (F1 : Fld Z h x0 "com/example/wadesmill/wadesmill/server/MemoryBudget" "most" "J" (.long 0)) (F2 : Fld Z h x0 "com/example/wadesmill/wadesmill/server/MemoryBudget" "drawn" "J" (.long 0)) (g0 : n0 ≤ x0) : Ct l (⟨"com/example/wadesmill/wadesmill/server/MemoryBudget", "<init>", "(J)V"⟩ : MethodName) prog_20_method_1_code 3 none ({ frames := 1, cells := 0, slots := 0, locals := 12 } : Room) Z #[(.ref x0), (.long x1)] h n0 (fun v h' => v = none ∧ Keep h h' [x0] ∧ Exa Z h' x0 "com/example/wadesmill/wadesmill/server/MemoryBudget" ∧ Fld Z h' x0 "com/example/wadesmill/wadesmill/server/MemoryBudget" "most" "J" (.long x1) ∧ Fld Z h' x0 "com/example/wadesmill/wadesmill/server/MemoryBudget" "drawn" "J" (.long 0)) :=
  Ct.of (plainFor_of_name pn_0) #[.val (.ref x0), .val (.long x1), .second] (fun m => by first | (simp [entryFrame, mkF, argsToLocals, Value.category]; done) | rfl) hw hn (fun p e s m below meth c T C X => bw1 X C x0 x1 E0 F1 F2 g0)
theorem d3_0 : decode prog_20_method_2_code 0 = .ok (.lconst 0, 1) := by decide +kernel
theorem d3_1 : decode prog_20_method_2_code 1 = .ok (.aload_n 0, 1) := by decide +kernel
theorem d3_2 : decode prog_20_method_2_code 2 = .ok (.getfield 7, 3) := by decide +kernel
theorem d3_5 : decode prog_20_method_2_code 5 = .ok (.aload_n 0, 1) := by decide +kernel
theorem d3_6 : decode prog_20_method_2_code 6 = .ok (.getfield 13, 3) := by decide +kernel
theorem d3_9 : decode prog_20_method_2_code 9 = .ok (.lsub, 1) := by decide +kernel
theorem d3_10 : decode prog_20_method_2_code 10 = .ok (.invokestatic 16, 3) := by decide +kernel
theorem d3_13 : decode prog_20_method_2_code 13 = .ok (.lreturn, 1) := by decide +kernel
set_option maxRecDepth 65536 in
set_option maxHeartbeats 40000000 in
theorem bw3 {p : Program} {l : Launch} {e : Env} {s : State} {m : MethodId} {args : Array Value} {below : List Frame} {meth : Method} {c : Code} {T : State} {h : Heap} {n0 : Nat} {Z : State} {a0 : Array Value} (X : Hr p l e ({ frames := 1, cells := 0, slots := 0, locals := 15 } : Room) s m args below meth c n0 h 0 0 T) (C : Cx p s m meth c prog_20_method_2_code 1 (some .long) "com/example/wadesmill/wadesmill/server/MemoryBudget" "left" Z a0 tables_1) (x0 : Addr) (m0 d0 : Int64) (F1 : Fld Z h x0 "com/example/wadesmill/wadesmill/server/MemoryBudget" "most" "J" (.long m0)) (F2 : Fld Z h x0 "com/example/wadesmill/wadesmill/server/MemoryBudget" "drawn" "J" (.long d0)) : Goes p e below s n0 (fun v h' => v = some (.long (f4 0 (m0 - d0))) ∧ h' = h) 0 0 T (mkF m 0 #[.val (.ref x0)] []) := by
  refine w_lconst (pc := 0) X C d3_0 (0 : Int64) rfl ?_
  refine w_aloadN (pc := 1) X C d3_1 rfl rfl ?_
  refine w_getfield (pc := 2) X C d3_2 (List.mem_of_getElem? (i := 10) rfl) F1 (fun T1 X1 => ?_)
  refine w_aloadN (pc := 5) X1 C d3_5 rfl rfl ?_
  refine w_getfield (pc := 6) X1 C d3_6 (List.mem_of_getElem? (i := 17) rfl) F2 (fun T2 X2 => ?_)
  refine w_lsub (pc := 9) X2 C d3_9 ?_
  refine w_callP (pc := 10) X2 C (y := (⟨"java/lang/Math", "max", "(JJ)J"⟩ : MethodName)) (bytes := jdk_29_method_66_code) (maxL := 4) (rt := some .long) (argsL := [(.long (0 : Int64)), (.long (m0 - d0))]) (rest := []) (w := .long (f4 (0 : Int64) (m0 - d0))) (W := 0) d3_10 (List.mem_of_getElem? (i := 19) rfl) (List.mem_of_getElem? (i := 20) rfl) (List.mem_of_getElem? (i := 21) rfl) (List.mem_of_getElem? (i := 22) rfl) (by decide) (ct4 l C.2.2.2.2.2.2.2.2 _ X2.size ((0 : Int64)) ((m0 - d0))) rfl rfl rfl ⟨_, _, pd_0, rfl⟩ rfl (Nat.le_of_eq rfl) (by decide) (by decide) (by decide) (by decide) (fun T4 X3 => ?_)
  exact w_retJ (pc := 13) X3 C d3_13 ⟨rfl, rfl⟩
theorem ct3 (l : Launch) {Z : State} {a0 : Array Value} (hw : ∀ d ∈ tables_1, d.before a0 Z = true) (h : Heap) {n0 : Nat} (hn : n0 ≤ h.size) (x0 : Addr) (m0 d0 : Int64) (F1 : Fld Z h x0 "com/example/wadesmill/wadesmill/server/MemoryBudget" "most" "J" (.long m0)) (F2 : Fld Z h x0 "com/example/wadesmill/wadesmill/server/MemoryBudget" "drawn" "J" (.long d0)) : Ct l (⟨"com/example/wadesmill/wadesmill/server/MemoryBudget", "left", "()J"⟩ : MethodName) prog_20_method_2_code 1 (some .long) ({ frames := 1, cells := 0, slots := 0, locals := 15 } : Room) Z #[(.ref x0)] h n0 (fun v h' => v = some (.long (f4 0 (m0 - d0))) ∧ h' = h) :=
  Ct.of (plainFor_of_name pn_0) #[.val (.ref x0)] (fun m => by first | (simp [entryFrame, mkF, argsToLocals, Value.category]; done) | rfl) hw hn (fun p e s m below meth c T C X => bw3 X C x0 m0 d0 F1 F2)
theorem d5_0 : decode prog_20_method_3_code 0 = .ok (.aload_n 0, 1) := by decide +kernel
theorem d5_1 : decode prog_20_method_3_code 1 = .ok (.dup, 1) := by decide +kernel
theorem d5_2 : decode prog_20_method_3_code 2 = .ok (.getfield 13, 3) := by decide +kernel
theorem d5_5 : decode prog_20_method_3_code 5 = .ok (.lload_n 1, 1) := by decide +kernel
theorem d5_6 : decode prog_20_method_3_code 6 = .ok (.ladd, 1) := by decide +kernel
theorem d5_7 : decode prog_20_method_3_code 7 = .ok (.putfield 13, 3) := by decide +kernel
theorem d5_10 : decode prog_20_method_3_code 10 = .ok (.return_, 1) := by decide +kernel
set_option maxRecDepth 65536 in
set_option maxHeartbeats 40000000 in
theorem bw5 {p : Program} {l : Launch} {e : Env} {s : State} {m : MethodId} {args : Array Value} {below : List Frame} {meth : Method} {c : Code} {T : State} {h : Heap} {n0 : Nat} {Z : State} {a0 : Array Value} (X : Hr p l e ({ frames := 0, cells := 0, slots := 0, locals := 0 } : Room) s m args below meth c n0 h 0 0 T) (C : Cx p s m meth c prog_20_method_3_code 3 none "com/example/wadesmill/wadesmill/server/MemoryBudget" "draw" Z a0 tables_1) (x0 : Addr) (x1 : Int64) (m0 d0 : Int64) (E0 : Exa Z h x0 "com/example/wadesmill/wadesmill/server/MemoryBudget") (F1 : Fld Z h x0 "com/example/wadesmill/wadesmill/server/MemoryBudget" "most" "J" (.long m0)) (F2 : Fld Z h x0 "com/example/wadesmill/wadesmill/server/MemoryBudget" "drawn" "J" (.long d0)) (g0 : n0 ≤ x0) : Goes p e below s n0 (fun v h' => v = none ∧ Keep h h' [x0] ∧ Exa Z h' x0 "com/example/wadesmill/wadesmill/server/MemoryBudget" ∧ Fld Z h' x0 "com/example/wadesmill/wadesmill/server/MemoryBudget" "most" "J" (.long m0) ∧ Fld Z h' x0 "com/example/wadesmill/wadesmill/server/MemoryBudget" "drawn" "J" (.long (d0 + x1))) 0 0 T (mkF m 0 #[.val (.ref x0), .val (.long x1), .second] []) := by
  refine w_aloadN (pc := 0) X C d5_0 rfl rfl ?_
  refine w_dup (pc := 1) X C d5_1 rfl ?_
  refine w_getfield (pc := 2) X C d5_2 (List.mem_of_getElem? (i := 17) rfl) F2 (fun T1 X1 => ?_)
  refine w_lloadN (pc := 5) X1 C d5_5 rfl ?_
  refine w_ladd (pc := 6) X1 C d5_6 ?_
  refine w_putfield (pc := 7) X1 C d5_7 (List.mem_of_getElem? (i := 17) rfl) F2 E0 (Or.inl (List.mem_of_getElem? (i := 18) rfl)) (List.mem_of_getElem? (i := 2) rfl) (ty := .long) (by decide) rfl rfl g0 (fun T2 h2 X2 W2 Fp2 Ep2 => ?_)
  have Fk3 := F1.other W2 (Or.inr (slot_ne (Or.inr (C.2.2.2.2.2.2.2.2 _ (List.mem_of_getElem? (i := 11) rfl))) (Or.inl (C.2.2.2.2.2.2.2.2 _ (List.mem_of_getElem? (i := 18) rfl))) (by decide) (t := .long) (t' := .long) (by decide) (by decide)))
  have K4 : Keep h h2 [x0] := (Keep.refl h [x0]).wr W2 (Or.inl (List.mem_of_getElem? (i := 0) rfl))
  exact w_retV (pc := 10) X2 C d5_10 ⟨rfl, K4, Ep2, Fk3, Fp2⟩
theorem ct5 (l : Launch) {Z : State} {a0 : Array Value} (hw : ∀ d ∈ tables_1, d.before a0 Z = true) (h : Heap) {n0 : Nat} (hn : n0 ≤ h.size) (x0 : Addr) (x1 : Int64) (m0 d0 : Int64) (E0 : Exa Z h x0 "com/example/wadesmill/wadesmill/server/MemoryBudget") (F1 : Fld Z h x0 "com/example/wadesmill/wadesmill/server/MemoryBudget" "most" "J" (.long m0)) (F2 : Fld Z h x0 "com/example/wadesmill/wadesmill/server/MemoryBudget" "drawn" "J" (.long d0)) (g0 : n0 ≤ x0) : Ct l (⟨"com/example/wadesmill/wadesmill/server/MemoryBudget", "draw", "(J)V"⟩ : MethodName) prog_20_method_3_code 3 none ({ frames := 0, cells := 0, slots := 0, locals := 0 } : Room) Z #[(.ref x0), (.long x1)] h n0 (fun v h' => v = none ∧ Keep h h' [x0] ∧ Exa Z h' x0 "com/example/wadesmill/wadesmill/server/MemoryBudget" ∧ Fld Z h' x0 "com/example/wadesmill/wadesmill/server/MemoryBudget" "most" "J" (.long m0) ∧ Fld Z h' x0 "com/example/wadesmill/wadesmill/server/MemoryBudget" "drawn" "J" (.long (d0 + x1))) :=
  Ct.of (plainFor_of_name pn_0) #[.val (.ref x0), .val (.long x1), .second] (fun m => by first | (simp [entryFrame, mkF, argsToLocals, Value.category]; done) | rfl) hw hn (fun p e s m below meth c T C X => bw5 X C x0 x1 m0 d0 E0 F1 F2 g0)
theorem own_sh (x : Int64) : -2305843009213693952 ≤ (shrJ x (2 : Int32)).toInt ∧ (shrJ x (2 : Int32)).toInt < 2305843009213693952 := by
  have h := c_lshr x (2 : Int32) 2 rfl
  have r := rng64 x
  have h' : (shrJ x (2 : Int32)).toInt = x.toInt / (2 ^ 2 : Nat) := h
  omega
theorem own_mk (x : Int64) : 0 ≤ (x &&& (4611686018427387903 : Int64)).toInt ∧ (x &&& (4611686018427387903 : Int64)).toInt ≤ 4611686018427387903 := by
  have h := Jvm.Kit.i64_mask x (4611686018427387903 : Int64) (k := 62) (by decide) (by decide)
  rw [h]; omega
theorem own_max (a b : Int64) : f4 a b = if a < b then b else a := by
  unfold f4; repeat' split
  all_goals first | rfl | (apply Int64.toInt_inj.mp; first | omega | (simp only [Int64.lt_iff_toInt_lt] at *; omega))
theorem own_gen (m d : Int64) (h1 : 0 ≤ m.toInt ∧ m.toInt ≤ 4611686018427387903) (h2 : -4611686018427387904 ≤ d.toInt ∧ d.toInt < 4611686018427387904) : f4 0 (m - d) = f6 m d := by
  rw [own_max]
  unfold f6
  have e0 : (0 : Int64).toInt = 0 := rfl
  have h3 := c_lsub m d
  have r := rng64 (m - d)
  simp only [Int64.lt_iff_toInt_lt, e0]
  repeat' split
  all_goals first | rfl | (apply Int64.toInt_inj.mp; first | omega | (simp only [e0] at *; omega))
theorem own_1 (x : Int64) : f4 0 ((x &&& (4611686018427387903 : Int64)) - 0) = x &&& (4611686018427387903 : Int64) := by
  rw [own_max]
  have h := own_mk x
  have e0 : (0 : Int64).toInt = 0 := rfl
  have h3 := c_lsub (x &&& (4611686018427387903 : Int64)) 0
  have r := rng64 ((x &&& (4611686018427387903 : Int64)) - 0)
  simp only [Int64.lt_iff_toInt_lt, e0] at h3 ⊢
  split
  all_goals (apply Int64.toInt_inj.mp; first | omega | (simp only [e0] at *; omega))
theorem own_2 (x y : Int64) : f4 0 ((x &&& (4611686018427387903 : Int64)) - (0 + (shrJ y (2 : Int32)))) = f6 (x &&& (4611686018427387903 : Int64)) (shrJ y (2 : Int32)) := by
  have e : (0 : Int64) + shrJ y (2 : Int32) = shrJ y (2 : Int32) := by simp
  rw [e]
  have := own_sh y
  exact own_gen _ _ (own_mk x) (by omega)
theorem own_3 (x y z : Int64) : f4 0 ((x &&& (4611686018427387903 : Int64)) - ((0 + (shrJ y (2 : Int32))) + (shrJ z (2 : Int32)))) = f6 (x &&& (4611686018427387903 : Int64)) ((shrJ y (2 : Int32)) + (shrJ z (2 : Int32))) := by
  have e : (0 : Int64) + shrJ y (2 : Int32) = shrJ y (2 : Int32) := by simp
  rw [e]
  have h1 := own_sh y
  have h2 := own_sh z
  have h3 := c_ladd (shrJ y (2 : Int32)) (shrJ z (2 : Int32))
  have r := rng64 (shrJ y (2 : Int32) + shrJ z (2 : Int32))
  exact own_gen _ _ (own_mk x) (by omega)
set_option maxRecDepth 65536 in
set_option maxHeartbeats 40000000 in
theorem law_walk {p : Program} {l : Launch} {e : Env} {s : State} {m : MethodId} {args : Array Value} {below : List Frame} {meth : Method} {c : Code} {T : State} {h : Heap} {n0 : Nat} {Z : State} {a0 : Array Value} (X : Hr p l e room_1 s m args below meth c n0 h 0 0 T) (C : Cx p s m meth c code maxLocals ret "com/example/wadesmill/wadesmill/server/MemoryBudgetLeftPinLaw" "law" Z a0 tables_1) (x0 : Int64) (x1 : Int64) (x2 : Int64) : Goes p e below s n0 (fun v _ => v = some (.int 1)) room_1.cells room_1.slots T (mkF m 0 #[.val (.long x0), .second, .val (.long x1), .second, .val (.long x2), .second, .unset, .unset, .unset, .unset, .unset, .unset, .unset, .unset] []) := by
  refine w_lloadN (pc := 0) X C at_0 rfl ?_
  refine w_ldcJ (pc := 1) X C at_1 (v := (4611686018427387903 : Int64)) (List.mem_of_getElem? (i := 0) rfl) ?_
  refine w_land (pc := 4) X C at_4 ?_
  refine w_lstore (pc := 5) X C at_5 #[.val (.long x0), .second, .val (.long x1), .second, .val (.long x2), .second, .val (.long (x0 &&& (4611686018427387903 : Int64))), .second, .unset, .unset, .unset, .unset, .unset, .unset] rfl ?_
  refine w_lloadN (pc := 7) X C at_7 rfl ?_
  refine w_iconst (pc := 8) X C at_8 (2 : Int32) rfl ?_
  refine w_lshr (pc := 9) X C at_9 ?_
  refine w_lstore (pc := 10) X C at_10 #[.val (.long x0), .second, .val (.long x1), .second, .val (.long x2), .second, .val (.long (x0 &&& (4611686018427387903 : Int64))), .second, .val (.long (shrJ x1 (2 : Int32))), .second, .unset, .unset, .unset, .unset] rfl ?_
  refine w_lload (pc := 12) X C at_12 rfl ?_
  refine w_iconst (pc := 14) X C at_14 (2 : Int32) rfl ?_
  refine w_lshr (pc := 15) X C at_15 ?_
  refine w_lstore (pc := 16) X C at_16 #[.val (.long x0), .second, .val (.long x1), .second, .val (.long x2), .second, .val (.long (x0 &&& (4611686018427387903 : Int64))), .second, .val (.long (shrJ x1 (2 : Int32))), .second, .val (.long (shrJ x2 (2 : Int32))), .second, .unset, .unset] rfl ?_
  refine w_new (pc := 18) X C at_18 (List.mem_of_getElem? (i := 1) rfl) (List.mem_of_getElem? (i := 2) rfl) (List.mem_of_getElem? (i := 3) rfl) (by decide) (by decide) (fun T1 h1 a1 ha1 hb1 X1 E1 B1 D1 => ?_)
  have F1_most : Fld Z h1 a1 "com/example/wadesmill/wadesmill/server/MemoryBudget" "most" "J" (.long (0 : Int64)) := D1 (Or.inr (List.mem_of_getElem? (i := 11) rfl)) (ty := .long) (by decide)
  have F1_drawn : Fld Z h1 a1 "com/example/wadesmill/wadesmill/server/MemoryBudget" "drawn" "J" (.long (0 : Int64)) := D1 (Or.inl (List.mem_of_getElem? (i := 18) rfl)) (ty := .long) (by decide)
  refine w_dup (pc := 21) X1 C at_21 rfl ?_
  refine w_lload (pc := 22) X1 C at_22 rfl ?_
  refine w_callI (pc := 24) X1 C (y := (⟨"com/example/wadesmill/wadesmill/server/MemoryBudget", "<init>", "(J)V"⟩ : MethodName)) (bytes := prog_20_method_1_code) (maxL := 3) (argsL := [(.long (x0 &&& (4611686018427387903 : Int64)))]) (rest := [(.ref a1)]) (W := 1) (a := a1) at_24 (List.mem_of_getElem? (i := 4) rfl) (List.mem_of_getElem? (i := 5) rfl) (List.mem_of_getElem? (i := 3) rfl) (List.mem_of_getElem? (i := 6) rfl) rfl (by decide) (ct1 l C.2.2.2.2.2.2.2.2 _ X1.size (a1) ((x0 &&& (4611686018427387903 : Int64))) B1 F1_most F1_drawn hb1) rfl ⟨_, _, pd_1, rfl⟩ rfl (Nat.le_of_eq rfl) (by decide) (by decide) (by decide) (by decide) (fun v2 T2 P2 X2 => ?_)
  obtain ⟨rfl, K2, E2, Fm2, Fd2⟩ := P2
  refine w_astore (pc := 27) X2 C at_27 #[.val (.long x0), .second, .val (.long x1), .second, .val (.long x2), .second, .val (.long (x0 &&& (4611686018427387903 : Int64))), .second, .val (.long (shrJ x1 (2 : Int32))), .second, .val (.long (shrJ x2 (2 : Int32))), .second, .val (.ref a1), .unset] rfl rfl ?_
  refine w_aload (pc := 29) X2 C at_29 rfl rfl ?_
  refine w_callV (pc := 31) X2 C (y := (⟨"com/example/wadesmill/wadesmill/server/MemoryBudget", "left", "()J"⟩ : MethodName)) (bytes := prog_20_method_2_code) (maxL := 1) (rt := (some .long)) (argsL := []) (rest := []) (W := 0) (a := a1) at_31 (List.mem_of_getElem? (i := 12) rfl) (List.mem_of_getElem? (i := 14) rfl) (List.mem_of_getElem? (i := 3) rfl) (List.mem_of_getElem? (i := 16) rfl) (List.mem_of_getElem? (i := 13) rfl) (List.mem_of_getElem? (i := 15) rfl) E2 (by decide) (ct3 l C.2.2.2.2.2.2.2.2 _ X2.size (a1) (x0 &&& (4611686018427387903 : Int64)) 0 Fm2 Fd2) rfl ⟨_, _, pd_2, rfl⟩ rfl (Nat.le_of_eq rfl) (by decide) (by decide) (by decide) (by decide) (fun v3 T3 P3 X3 => ?_)
  obtain ⟨rfl, e3⟩ := P3
  rw [e3] at X3
  refine w_lload (pc := 34) X3 C at_34 rfl ?_
  refine w_lcmp (pc := 36) X3 C at_36 ?_
  refine w_ifJ_ne (pc := 37) X3 C at_37 44 (by decide) (fun q4 => absurd (own_1 x0) q4) (fun q4 => ?_)
  refine w_iconst (pc := 40) X3 C at_40 (1 : Int32) rfl ?_
  refine w_goto (pc := 41) X3 C at_41 45 (by decide) ?_
  refine w_istore (pc := 45) X3 C at_45 #[.val (.long x0), .second, .val (.long x1), .second, .val (.long x2), .second, .val (.long (x0 &&& (4611686018427387903 : Int64))), .second, .val (.long (shrJ x1 (2 : Int32))), .second, .val (.long (shrJ x2 (2 : Int32))), .second, .val (.ref a1), .val (.int (1 : Int32))] rfl ?_
  refine w_aload (pc := 47) X3 C at_47 rfl rfl ?_
  refine w_lload (pc := 49) X3 C at_49 rfl ?_
  refine w_callV (pc := 51) X3 C (y := (⟨"com/example/wadesmill/wadesmill/server/MemoryBudget", "draw", "(J)V"⟩ : MethodName)) (bytes := prog_20_method_3_code) (maxL := 3) (rt := none) (argsL := [(.long (shrJ x1 (2 : Int32)))]) (rest := []) (W := 0) (a := a1) at_51 (List.mem_of_getElem? (i := 23) rfl) (List.mem_of_getElem? (i := 25) rfl) (List.mem_of_getElem? (i := 3) rfl) (List.mem_of_getElem? (i := 27) rfl) (List.mem_of_getElem? (i := 24) rfl) (List.mem_of_getElem? (i := 26) rfl) E2 (by decide) (ct5 l C.2.2.2.2.2.2.2.2 _ X3.size (a1) ((shrJ x1 (2 : Int32))) (x0 &&& (4611686018427387903 : Int64)) 0 E2 Fm2 Fd2 hb1) rfl ⟨_, _, pd_1, rfl⟩ rfl (Nat.le_of_eq rfl) (by decide) (by decide) (by decide) (by decide) (fun v5 T5 P5 X5 => ?_)
  obtain ⟨rfl, K5, E5, Fm5, Fd5⟩ := P5
  refine w_iload (pc := 54) X5 C at_54 rfl ?_
  refine w_if_eq (pc := 56) X5 C at_56 79 (by decide) (fun q6 => absurd q6 (by decide)) (fun q6 => ?_)
  refine w_aload (pc := 59) X5 C at_59 rfl rfl ?_
  refine w_callV (pc := 61) X5 C (y := (⟨"com/example/wadesmill/wadesmill/server/MemoryBudget", "left", "()J"⟩ : MethodName)) (bytes := prog_20_method_2_code) (maxL := 1) (rt := (some .long)) (argsL := []) (rest := []) (W := 0) (a := a1) at_61 (List.mem_of_getElem? (i := 12) rfl) (List.mem_of_getElem? (i := 14) rfl) (List.mem_of_getElem? (i := 3) rfl) (List.mem_of_getElem? (i := 16) rfl) (List.mem_of_getElem? (i := 13) rfl) (List.mem_of_getElem? (i := 15) rfl) E5 (by decide) (ct3 l C.2.2.2.2.2.2.2.2 _ X5.size (a1) (x0 &&& (4611686018427387903 : Int64)) (0 + (shrJ x1 (2 : Int32))) Fm5 Fd5) rfl ⟨_, _, pd_2, rfl⟩ rfl (Nat.le_of_eq rfl) (by decide) (by decide) (by decide) (by decide) (fun v7 T7 P7 X7 => ?_)
  obtain ⟨rfl, e7⟩ := P7
  rw [e7] at X7
  refine w_lload (pc := 64) X7 C at_64 rfl ?_
  refine w_lload (pc := 66) X7 C at_66 rfl ?_
  refine w_callP (pc := 68) X7 C (y := (⟨"com/example/wadesmill/wadesmill/server/MemoryBudgetLeftPinLaw", "expect", "(JJ)J"⟩ : MethodName)) (bytes := method_2_code) (maxL := 4) (rt := some .long) (argsL := [(.long (x0 &&& (4611686018427387903 : Int64))), (.long (shrJ x1 (2 : Int32)))]) (rest := [(.long (f4 0 ((x0 &&& (4611686018427387903 : Int64)) - (0 + (shrJ x1 (2 : Int32))))))]) (w := .long (f6 (x0 &&& (4611686018427387903 : Int64)) (shrJ x1 (2 : Int32)))) (W := 2) at_68 (List.mem_of_getElem? (i := 28) rfl) (List.mem_of_getElem? (i := 29) rfl) (List.mem_of_getElem? (i := 30) rfl) (List.mem_of_getElem? (i := 31) rfl) (by decide) (ct6 l C.2.2.2.2.2.2.2.2 _ X7.size ((x0 &&& (4611686018427387903 : Int64))) ((shrJ x1 (2 : Int32)))) rfl rfl rfl ⟨_, _, pd_0, rfl⟩ rfl (Nat.le_of_eq rfl) (by decide) (by decide) (by decide) (by decide) (fun T9 X8 => ?_)
  refine w_lcmp (pc := 71) X8 C at_71 ?_
  refine w_ifJ_ne (pc := 72) X8 C at_72 79 (by decide) (fun q10 => absurd (own_2 x0 x1) q10) (fun q10 => ?_)
  refine w_iconst (pc := 75) X8 C at_75 (1 : Int32) rfl ?_
  refine w_goto (pc := 76) X8 C at_76 80 (by decide) ?_
  refine w_istore (pc := 80) X8 C at_80 #[.val (.long x0), .second, .val (.long x1), .second, .val (.long x2), .second, .val (.long (x0 &&& (4611686018427387903 : Int64))), .second, .val (.long (shrJ x1 (2 : Int32))), .second, .val (.long (shrJ x2 (2 : Int32))), .second, .val (.ref a1), .val (.int (1 : Int32))] rfl ?_
  refine w_aload (pc := 82) X8 C at_82 rfl rfl ?_
  refine w_lload (pc := 84) X8 C at_84 rfl ?_
  refine w_callV (pc := 86) X8 C (y := (⟨"com/example/wadesmill/wadesmill/server/MemoryBudget", "draw", "(J)V"⟩ : MethodName)) (bytes := prog_20_method_3_code) (maxL := 3) (rt := none) (argsL := [(.long (shrJ x2 (2 : Int32)))]) (rest := []) (W := 0) (a := a1) at_86 (List.mem_of_getElem? (i := 23) rfl) (List.mem_of_getElem? (i := 25) rfl) (List.mem_of_getElem? (i := 3) rfl) (List.mem_of_getElem? (i := 27) rfl) (List.mem_of_getElem? (i := 24) rfl) (List.mem_of_getElem? (i := 26) rfl) E5 (by decide) (ct5 l C.2.2.2.2.2.2.2.2 _ X8.size (a1) ((shrJ x2 (2 : Int32))) (x0 &&& (4611686018427387903 : Int64)) (0 + (shrJ x1 (2 : Int32))) E5 Fm5 Fd5 hb1) rfl ⟨_, _, pd_1, rfl⟩ rfl (Nat.le_of_eq rfl) (by decide) (by decide) (by decide) (by decide) (fun v11 T11 P11 X11 => ?_)
  obtain ⟨rfl, K11, E11, Fm11, Fd11⟩ := P11
  refine w_iload (pc := 89) X11 C at_89 rfl ?_
  refine w_if_eq (pc := 91) X11 C at_91 117 (by decide) (fun q12 => absurd q12 (by decide)) (fun q12 => ?_)
  refine w_aload (pc := 94) X11 C at_94 rfl rfl ?_
  refine w_callV (pc := 96) X11 C (y := (⟨"com/example/wadesmill/wadesmill/server/MemoryBudget", "left", "()J"⟩ : MethodName)) (bytes := prog_20_method_2_code) (maxL := 1) (rt := (some .long)) (argsL := []) (rest := []) (W := 0) (a := a1) at_96 (List.mem_of_getElem? (i := 12) rfl) (List.mem_of_getElem? (i := 14) rfl) (List.mem_of_getElem? (i := 3) rfl) (List.mem_of_getElem? (i := 16) rfl) (List.mem_of_getElem? (i := 13) rfl) (List.mem_of_getElem? (i := 15) rfl) E11 (by decide) (ct3 l C.2.2.2.2.2.2.2.2 _ X11.size (a1) (x0 &&& (4611686018427387903 : Int64)) ((0 + (shrJ x1 (2 : Int32))) + (shrJ x2 (2 : Int32))) Fm11 Fd11) rfl ⟨_, _, pd_2, rfl⟩ rfl (Nat.le_of_eq rfl) (by decide) (by decide) (by decide) (by decide) (fun v13 T13 P13 X13 => ?_)
  obtain ⟨rfl, e13⟩ := P13
  rw [e13] at X13
  refine w_lload (pc := 99) X13 C at_99 rfl ?_
  refine w_lload (pc := 101) X13 C at_101 rfl ?_
  refine w_lload (pc := 103) X13 C at_103 rfl ?_
  refine w_ladd (pc := 105) X13 C at_105 ?_
  refine w_callP (pc := 106) X13 C (y := (⟨"com/example/wadesmill/wadesmill/server/MemoryBudgetLeftPinLaw", "expect", "(JJ)J"⟩ : MethodName)) (bytes := method_2_code) (maxL := 4) (rt := some .long) (argsL := [(.long (x0 &&& (4611686018427387903 : Int64))), (.long ((shrJ x1 (2 : Int32)) + (shrJ x2 (2 : Int32))))]) (rest := [(.long (f4 0 ((x0 &&& (4611686018427387903 : Int64)) - ((0 + (shrJ x1 (2 : Int32))) + (shrJ x2 (2 : Int32))))))]) (w := .long (f6 (x0 &&& (4611686018427387903 : Int64)) ((shrJ x1 (2 : Int32)) + (shrJ x2 (2 : Int32))))) (W := 2) at_106 (List.mem_of_getElem? (i := 28) rfl) (List.mem_of_getElem? (i := 29) rfl) (List.mem_of_getElem? (i := 30) rfl) (List.mem_of_getElem? (i := 31) rfl) (by decide) (ct6 l C.2.2.2.2.2.2.2.2 _ X13.size ((x0 &&& (4611686018427387903 : Int64))) (((shrJ x1 (2 : Int32)) + (shrJ x2 (2 : Int32))))) rfl rfl rfl ⟨_, _, pd_0, rfl⟩ rfl (Nat.le_of_eq rfl) (by decide) (by decide) (by decide) (by decide) (fun T15 X14 => ?_)
  refine w_lcmp (pc := 109) X14 C at_109 ?_
  refine w_ifJ_ne (pc := 110) X14 C at_110 117 (by decide) (fun q16 => absurd (own_3 x0 x1 x2) q16) (fun q16 => ?_)
  refine w_iconst (pc := 113) X14 C at_113 (1 : Int32) rfl ?_
  refine w_goto (pc := 114) X14 C at_114 118 (by decide) ?_
  refine w_istore (pc := 118) X14 C at_118 #[.val (.long x0), .second, .val (.long x1), .second, .val (.long x2), .second, .val (.long (x0 &&& (4611686018427387903 : Int64))), .second, .val (.long (shrJ x1 (2 : Int32))), .second, .val (.long (shrJ x2 (2 : Int32))), .second, .val (.ref a1), .val (.int (1 : Int32))] rfl ?_
  refine w_iload (pc := 120) X14 C at_120 rfl ?_
  exact w_ret_boolean (pc := 122) X14 C at_122 rfl
set_option maxRecDepth 65536 in
theorem law_ct (l : Launch) {Z : State} {a0 : Array Value} (hw : ∀ d ∈ tables_1, d.before a0 Z = true) (h : Heap) {n0 : Nat} (hn : n0 ≤ h.size) (x0 : Int64) (x1 : Int64) (x2 : Int64) : Ct l x code maxLocals ret room_1 Z #[(.long x0), (.long x1), (.long x2)] h n0 (fun v _ => v = some (.int 1)) :=
  Ct.of (plainFor_of_name pn_1) #[.val (.long x0), .second, .val (.long x1), .second, .val (.long x2), .second, .unset, .unset, .unset, .unset, .unset, .unset, .unset, .unset] (fun m => by first | (simp [entryFrame, mkF, argsToLocals, Value.category, maxLocals]; done) | rfl) hw hn (fun p e s m below meth c T C X => law_walk X C x0 x1 x2)
set_option maxRecDepth 65536 in
set_option maxHeartbeats 40000000 in
theorem comes_1 {Post : Tables → Env → Array Value → State → Outcome → State → Prop} (hpost : ∀ tb e args s v u, (limb_1_1.after args s (.returned v) u = true ∧ limb_1_2.after args s (.returned v) u = true ∧ True) → FrameEnd s (.returned v) u (Jvm.fieldLocs frame_1_writes args s ++ Jvm.arrayLocs frame_1_arrays args s ++ Jvm.staticLocs frame_1_statics s) 16 128 → Post tb e args s (.returned v) u) :
    ArmFor flags0 classFile x code maxLocals ret World_1 tables_1 room_1 Calls_1 rest_1 Pre_1 Post := by
  intro l hfl _ _ p e ha hc hk s m args below hf hA hF happ hP
  obtain ⟨hcalls, hrest, hpre⟩ := hP
  obtain ⟨-, -, -, hnamed, -, -, -, hat⟩ := (Spec.applies_iff hf).mp happ
  obtain ⟨hg, hn⟩ := and_e (Cond.before_iff.mp (show (Jvm.Cond.and given_1 narrow_1).before args s = true from hpre))
  obtain ⟨g1, g2⟩ := and_e hg
  obtain ⟨g3, g4⟩ := and_e g2
  obtain ⟨g5, g6⟩ := and_e g4
  obtain ⟨w0, w1, w2, rfl⟩ : ∃ w0 w1 w2 : Value, args = #[w0, w1, w2] := by
    have hs : args.size = 3 := by simpa [Cond.value, given_1] using g1
    obtain ⟨L⟩ := args
    match L, hs with
    | [w0, w1, w2], _ => exact ⟨w0, w1, w2, rfl⟩
  have hw := fun d (hd : d ∈ tables_1) => atoms_spec (ws := Jvm.Cond.code x code maxLocals ret :: tables_1) hat d (List.mem_cons_of_mem _ hd)
  obtain ⟨i0, ei0⟩ := isL_v g3
  obtain rfl : w0 = (.long i0) := Option.some.inj ei0
  obtain ⟨i1, ei1⟩ := isL_v g5
  obtain rfl : w1 = (.long i1) := Option.some.inj ei1
  obtain ⟨i2, ei2⟩ := isL_v g6
  obtain rfl : w2 = (.long i2) := Option.some.inj ei2
  obtain ⟨n, o, h1, h2, h3, _, L, rfl, ⟨N, rfl⟩, hq⟩ := law_ct l hw s.heap (Nat.le_refl _) i0 i1 i2 tables_1 p e ha hc hk s m _ below hf ((Spec.applies_iff_loose hf).mp happ).1 ⟨rfl, State.Warmed39.refl s, rfl⟩ trivial
  refine ⟨n, _, h1, h2, h3, hpost _ _ _ _ _ _ ⟨Cond.after_iff.mpr rfl, Cond.after_iff.mpr (eq_i res_at (Term.int_eval (1)) rfl), trivial⟩ ⟨hq.1, hq.2.1, (hq.2.2.sift fun y hy => Or.inr (N y hy)).mono (by decide) (by decide)⟩⟩
theorem main_1_1 : Claimed_1_1 := comes_1 fun _ _ _ _ _ _ h hF => ⟨h.1, hF⟩
theorem main_1_2 : Claimed_1_2 := comes_1 fun _ _ _ _ _ _ h hF => ⟨h.2.1, hF⟩
end Jvm.Pilot.@@N@@
namespace Jvm.Pilot.@@N@@
open Jvm Jvm.ClassFile Sem Op Lib Jvm.Free Jvm.Stand Jvm.Pilot.@@N@@.Jvm.D
/-! MADE BY PROGRAM (witnessworld.py) out of the Statement's table words and the real class files: 10 classes; the members and pool entries that the words name. The judged class is class 1, her method 2. -/
namespace start1
open Jvm.ClassFile
def u (s : String) : CpInfo := .utf8 (stringToUtf16 s)
/-- a pool by its gaps: so many unusable entries, then the entry; so many at the end -/
def gap : Nat → List CpInfo → List CpInfo
  | 0, r => r
  | n + 1, r => .unusable :: gap n r
def poolList (es : List (Nat × CpInfo)) (last : Nat) : List CpInfo := es.foldr (fun e r => gap e.1 (e.2 :: r)) (gap last [])
def pool (es : List (Nat × CpInfo)) (last : Nat) : Array CpInfo := ⟨poolList es last⟩
def fileOf (pool : Array CpInfo) (this : Nat) (attrs : Array Attribute := #[]) (ms : Array MethodInfo := #[]) (fl : Nat := 33) (sup : Nat := 0) (ifs : Array Nat := #[]) (fds : Array FieldInfo := #[]) : ClassFile where
  minorVersion := 0
  majorVersion := 65
  constantPool := pool
  accessFlags := fl
  thisClass := this
  superClass := sup
  interfaces := ifs
  fields := fds
  methods := ms
  attributes := attrs
def plain (name : String) (sup : Option ClassId) : Class where
  name := name
  kind := .ordinary
  loader := none
  accessFlags := 33
  super := sup
  interfaces := #[]
  cf := none
  fields := #[]
  methods := #[]
  instanceTypes := #[]
  staticTypes := #[]
  resolved := #[]
  callSites := []
  init := .initialized
  statics := none
  mirror := none

def pool0 : Array CpInfo := pool [(5, u "<init>"), (0, u "()V"), (1, .class_ 10), (1, u "java/lang/Object")] 113

def k0c0 : Code := { maxStack := 0, maxLocals := 1, code := object_method_1_code, exceptionTable := #[], attributes := #[] }
def k0m0 : Method := { name := "<init>", desc := "()V", sig := { parameters := [], returnType := none }, accessFlags := 1, code := some k0c0 }
/-- java/lang/Object -/
def k0 : Class := { plain "java/lang/Object" none with
  accessFlags := 33
  interfaces := #[]
  cf := some (fileOf pool0 8 #[] #[{ accessFlags := 1, nameIndex := 5, descriptorIndex := 6, attributes := #[] }] 33 0 #[] #[])
  fields := #[]
  methods := #[k0m0]
  instanceTypes := #[]
  staticTypes := #[]
  resolved := Array.replicate 124 none
  statics := none }

def pool1 : Array CpInfo := pool [(2, .class_ 4), (1, u "java/lang/Object"), (0, u "<init>"), (0, u "()V"), (0, .long 4611686018427387903), (1, .class_ 10), (0, u "com/example/wadesmill/wadesmill/server/MemoryBudget"), (0, .methodref 9 12), (0, .nameAndType 5 13), (0, u "(J)V"), (0, .methodref 9 15), (0, .nameAndType 16 17), (0, u "left"), (0, u "()J"), (0, .methodref 9 19), (0, .nameAndType 20 13), (0, u "draw"), (0, .methodref 22 23), (0, .class_ 24), (0, .nameAndType 25 26), (0, u "com/example/wadesmill/wadesmill/server/MemoryBudgetLeftPinLaw"), (0, u "expect"), (0, u "(JJ)J"), (3, u "law"), (0, u "(JJJ)Z")] 2

def k1m0 : Method := { name := "<init>", desc := "()V", sig := { parameters := [], returnType := none }, accessFlags := 2, code := none }
def k1c1 : Code := { maxStack := 4, maxLocals := 4, code := method_2_code, exceptionTable := #[], attributes := #[] }
def k1m1 : Method := { name := "expect", desc := "(JJ)J", sig := { parameters := [.long, .long], returnType := some .long }, accessFlags := 10, code := some k1c1 }
def k1c2 : Code := { maxStack := 8, maxLocals := 14, code := code, exceptionTable := #[], attributes := #[] }
def k1m2 : Method := { name := "law", desc := "(JJJ)Z", sig := { parameters := [.long, .long, .long], returnType := some .boolean }, accessFlags := 9, code := some k1c2 }
/-- com/example/wadesmill/wadesmill/server/MemoryBudgetLeftPinLaw -/
def k1 : Class := { plain "com/example/wadesmill/wadesmill/server/MemoryBudgetLeftPinLaw" (some 0) with
  accessFlags := 49
  interfaces := #[]
  cf := some (fileOf pool1 22 #[] #[{ accessFlags := 2, nameIndex := 5, descriptorIndex := 6, attributes := #[] }, { accessFlags := 10, nameIndex := 25, descriptorIndex := 26, attributes := #[] }, { accessFlags := 9, nameIndex := 30, descriptorIndex := 31, attributes := #[] }] 49 2 #[] #[])
  fields := #[]
  methods := #[k1m0, k1m1, k1m2]
  instanceTypes := #[]
  staticTypes := #[]
  resolved := Array.replicate 34 none
  statics := none }

def pool2 : Array CpInfo := pool [(1, .methodref 2 3), (0, .class_ 4), (0, .nameAndType 5 6), (0, u "java/lang/Object"), (0, u "<init>"), (0, u "()V"), (0, .fieldref 8 9), (0, .class_ 10), (0, .nameAndType 11 12), (0, u "com/example/wadesmill/wadesmill/server/MemoryBudget"), (0, u "most"), (0, u "J"), (0, .fieldref 8 14), (0, .nameAndType 15 12), (0, u "drawn"), (0, .methodref 17 18), (0, .class_ 19), (0, .nameAndType 20 21), (0, u "java/lang/Math"), (0, u "max"), (0, u "(JJ)J"), (0, u "(J)V"), (2, u "left"), (0, u "()J"), (0, u "draw")] 2

def k2c0 : Code := { maxStack := 3, maxLocals := 3, code := prog_20_method_1_code, exceptionTable := #[], attributes := #[] }
def k2m0 : Method := { name := "<init>", desc := "(J)V", sig := { parameters := [.long], returnType := none }, accessFlags := 0, code := some k2c0 }
def k2c1 : Code := { maxStack := 6, maxLocals := 1, code := prog_20_method_2_code, exceptionTable := #[], attributes := #[] }
def k2m1 : Method := { name := "left", desc := "()J", sig := { parameters := [], returnType := some .long }, accessFlags := 0, code := some k2c1 }
def k2c2 : Code := { maxStack := 5, maxLocals := 3, code := prog_20_method_3_code, exceptionTable := #[], attributes := #[] }
def k2m2 : Method := { name := "draw", desc := "(J)V", sig := { parameters := [.long], returnType := none }, accessFlags := 0, code := some k2c2 }
/-- com/example/wadesmill/wadesmill/server/MemoryBudget -/
def k2 : Class := { plain "com/example/wadesmill/wadesmill/server/MemoryBudget" (some 0) with
  accessFlags := 48
  interfaces := #[]
  cf := some (fileOf pool2 8 #[] #[{ accessFlags := 0, nameIndex := 5, descriptorIndex := 22, attributes := #[] }, { accessFlags := 0, nameIndex := 25, descriptorIndex := 26, attributes := #[] }, { accessFlags := 0, nameIndex := 27, descriptorIndex := 22, attributes := #[] }] 48 2 #[] #[{ accessFlags := 18, nameIndex := 11, descriptorIndex := 12, attributes := #[] }, { accessFlags := 2, nameIndex := 15, descriptorIndex := 12, attributes := #[] }])
  fields := #[{ name := "most", type := .long, accessFlags := 18, slot := 0, constantValue := 0 }, { name := "drawn", type := .long, accessFlags := 2, slot := 1, constantValue := 0 }]
  methods := #[k2m0, k2m1, k2m2]
  instanceTypes := #[.long, .long]
  staticTypes := #[]
  resolved := Array.replicate 30 none
  statics := none }

def pool3 : Array CpInfo := pool [(1, .class_ 2), (0, u "java/lang/Math"), (1, .class_ 6), (1, u "java/lang/Object"), (0, u "<init>"), (0, u "()V"), (89, .class_ 100), (1, u "java/lang/Math$RandomNumberGeneratorHolder"), (20, u "(JJ)J"), (50, u "negativeZeroFloatBits"), (0, u "J"), (2, u "negativeZeroDoubleBits"), (21, u "max"), (46, u "$assertionsDisabled"), (0, u "Z"), (91, u "twoToTheDoubleScaleDown"), (0, u "D"), (4, u "twoToTheDoubleScaleUp"), (9, u "E"), (3, u "PI"), (2, u "TAU"), (2, u "DEGREES_TO_RADIANS"), (0, u "RADIANS_TO_DEGREES")] 94

def k3m0 : Method := { name := "<init>", desc := "()V", sig := { parameters := [], returnType := none }, accessFlags := 2, code := none }
def k3c1 : Code := { maxStack := 4, maxLocals := 4, code := jdk_29_method_66_code, exceptionTable := #[], attributes := #[] }
def k3m1 : Method := { name := "max", desc := "(JJ)J", sig := { parameters := [.long, .long], returnType := some .long }, accessFlags := 9, code := some k3c1 }
/-- java/lang/Math -/
def k3 : Class := { plain "java/lang/Math" (some 0) with
  accessFlags := 49
  interfaces := #[]
  cf := some (fileOf pool3 1 #[.nestMembers #[98]] #[{ accessFlags := 2, nameIndex := 7, descriptorIndex := 8, attributes := #[] }, { accessFlags := 9, nameIndex := 198, descriptorIndex := 121, attributes := #[] }] 49 4 #[] #[{ accessFlags := 25, nameIndex := 354, descriptorIndex := 339, attributes := #[] }, { accessFlags := 25, nameIndex := 358, descriptorIndex := 339, attributes := #[] }, { accessFlags := 25, nameIndex := 361, descriptorIndex := 339, attributes := #[] }, { accessFlags := 26, nameIndex := 364, descriptorIndex := 339, attributes := #[] }, { accessFlags := 26, nameIndex := 365, descriptorIndex := 339, attributes := #[] }, { accessFlags := 26, nameIndex := 172, descriptorIndex := 173, attributes := #[] }, { accessFlags := 26, nameIndex := 176, descriptorIndex := 173, attributes := #[] }, { accessFlags := 8, nameIndex := 344, descriptorIndex := 339, attributes := #[] }, { accessFlags := 8, nameIndex := 338, descriptorIndex := 339, attributes := #[] }, { accessFlags := 4120, nameIndex := 245, descriptorIndex := 246, attributes := #[] }])
  fields := #[{ name := "E", type := .double, accessFlags := 25, slot := 0, constantValue := 0 }, { name := "PI", type := .double, accessFlags := 25, slot := 1, constantValue := 0 }, { name := "TAU", type := .double, accessFlags := 25, slot := 2, constantValue := 0 }, { name := "DEGREES_TO_RADIANS", type := .double, accessFlags := 26, slot := 3, constantValue := 0 }, { name := "RADIANS_TO_DEGREES", type := .double, accessFlags := 26, slot := 4, constantValue := 0 }, { name := "negativeZeroFloatBits", type := .long, accessFlags := 26, slot := 5, constantValue := 0 }, { name := "negativeZeroDoubleBits", type := .long, accessFlags := 26, slot := 6, constantValue := 0 }, { name := "twoToTheDoubleScaleUp", type := .double, accessFlags := 8, slot := 7, constantValue := 0 }, { name := "twoToTheDoubleScaleDown", type := .double, accessFlags := 8, slot := 8, constantValue := 0 }, { name := "$assertionsDisabled", type := .boolean, accessFlags := 4120, slot := 9, constantValue := 0 }]
  methods := #[k3m0, k3m1]
  instanceTypes := #[]
  staticTypes := #[.double, .double, .double, .double, .double, .long, .long, .double, .double, .boolean]
  resolved := Array.replicate 460 none
  statics := none }

def pool4 : Array CpInfo := pool [(1, u "java/lang/Cloneable"), (0, .class_ 1), (0, u "java/lang/Object"), (0, .class_ 3)] 3

/-- java/lang/Cloneable -/
def k4 : Class := { plain "java/lang/Cloneable" (some 0) with
  accessFlags := 1537
  interfaces := #[]
  cf := some (fileOf pool4 2 #[] #[] 1537 4 #[] #[])
  fields := #[]
  methods := #[]
  instanceTypes := #[]
  staticTypes := #[]
  resolved := Array.replicate 8 none
  statics := none }

def pool5 : Array CpInfo := pool [(1, u "java/io/Serializable"), (0, .class_ 1), (0, u "java/lang/Object"), (0, .class_ 3)] 3

/-- java/io/Serializable -/
def k5 : Class := { plain "java/io/Serializable" (some 0) with
  accessFlags := 1537
  interfaces := #[]
  cf := some (fileOf pool5 2 #[] #[] 1537 4 #[] #[])
  fields := #[]
  methods := #[]
  instanceTypes := #[]
  staticTypes := #[]
  resolved := Array.replicate 8 none
  statics := none }

/-- the primitive byte -/
def k6 : Class := { plain "byte" none with kind := .primitive 'B', accessFlags := 0x411 }
/-- [B -/
def k7 : Class := { plain "[B" (some 0) with kind := .array 6 .byte, interfaces := #[4, 5], accessFlags := 1041 }

/-- the primitive int -/
def k8 : Class := { plain "int" none with kind := .primitive 'I', accessFlags := 0x411 }
/-- [I -/
def k9 : Class := { plain "[I" (some 0) with kind := .array 8 .int, interfaces := #[4, 5], accessFlags := 1041 }

def heap : Heap := #[]
def classes : Array Class := #[k0, k1, k2, k3, k4, k5, k6, k7, k8, k9]
def interned : List (Array UInt16 × Addr) := []
def slotsUsed : Nat := 0
def theMethod : MethodId := ⟨1, 2⟩
def args0 : Array Value := #[.long 5, .long 3, .long 2]
def aboutOver (below : List Frame) : State where
  vm := { classes := classes, interned := interned.toArray }
  heap := heap
  slotsUsed := slotsUsed
  threads := #[{ frames := .invoking theMethod args0 :: below }]
def below0 : List Frame := [.native { method := ⟨0, 0⟩, args := #[] }]
def about1 : State := aboutOver below0
def p0 : Program := .bare "" "" ""
def e0 : Env := launch0.env 0 0 0
theorem w_frames : about1.frames = Frame.invoking theMethod args0 :: below0 := rfl
set_option maxRecDepth 65536 in
theorem w_args : argsFit about1.vm theMethod args0 = true := by decide +kernel
set_option maxRecDepth 65536 in
theorem w_heap : heapFits about1 = true := by decide +kernel
set_option maxRecDepth 65536 in
theorem w_runnable : about1.curStatus? = some .runnable := by decide +kernel
set_option maxRecDepth 65536 in
theorem w_alone : about1.alone = true := by decide +kernel
set_option maxRecDepth 65536 in
theorem w_named : about1.methodNamed? x = some theMethod := by decide +kernel
set_option maxRecDepth 65536 in
theorem w_hears : about1.hears theMethod below0 = true := by decide +kernel
set_option maxRecDepth 65536 in
theorem w_ripe : about1.ripe theMethod args0 below0 = true := by decide +kernel
theorem w_running : about1.status = .running := rfl
set_option maxRecDepth 65536 in
theorem w_room : about1.hasRoom e0.platform room_1 = true :=
  launch0.hasRoom_least _ room_1 (by decide +kernel) (by decide +kernel) (by decide +kernel) (by decide +kernel) (by decide +kernel) (by decide +kernel)
theorem allAtoms_all (ts : List Jvm.Cond) (a : Array Jvm.Value) (st : Jvm.State) : (allAtoms ts).before a st = ts.all (fun c => c.before a st) := by
  induction ts with
  | nil => rfl
  | cons c t ih =>
    show (Jvm.Cond.and c (allAtoms t)).before a st = _
    rw [Jvm.Cond.before_and, ih, List.all_cons]
def words1 : List Jvm.Cond := Jvm.Cond.code x code maxLocals ret :: tables_1
/-- a 'code' word, met by the world's own term for the bytes: nothing is compared byte by byte -/
theorem code_word {y : MethodName} {bytes : ByteArray} {mx : Nat} {rt : Option FieldType} {a : Array Value} {s : State} {m : MethodId} {meth : Method} {c : Code} (h1 : s.methodNamed? y = some m) (h2 : s.vm.method? m = some meth) (h3 : meth.code = some c) (h4 : c.code = bytes)
    (h5 : (c.maxLocals == mx && c.exceptionTable.isEmpty && decide (c.maxStack ≤ mostOperands) && decide (meth.sig.returnType = rt) && !meth.locks && decide (parseMethodDescriptor y.desc = some meth.sig)) = true) : (Jvm.Cond.code y bytes mx rt).before a s = true := by
  simp only [Bool.and_eq_true, beq_iff_eq, Bool.not_eq_true', decide_eq_true_eq] at h5
  obtain ⟨⟨⟨⟨⟨g1, g2⟩, g3⟩, g4⟩, g5⟩, g6⟩ := h5
  simp [Cond.before, Cond.holds, Cond.value, h1, h2, h3, h4, g1, g2, g3, g4, g5, g6]
def isCode : Jvm.Cond → Bool
  | .code _ _ _ _ => true
  | _ => false
theorem all_split {L : List Jvm.Cond} {P : Jvm.Cond → Bool} (h1 : L.all (fun c => isCode c || P c) = true) (h2 : ∀ c ∈ L.filter isCode, P c = true) : L.all P = true := by
  refine List.all_eq_true.mpr fun c hc => ?_
  have h := List.all_eq_true.mp h1 c hc
  rcases Bool.eq_false_or_eq_true (isCode c) with hi | hi
  · exact h2 c (List.mem_filter.mpr ⟨hc, hi⟩)
  · simpa [hi] using h
set_option maxRecDepth 65536 in
theorem w_c0 : (Jvm.Cond.code x code maxLocals ret).before args0 about1 = true := code_word (m := ⟨1, 2⟩) (meth := k1m2) (c := k1c2) (by decide +kernel) rfl rfl rfl (by decide +kernel)
set_option maxRecDepth 65536 in
theorem w_c1 : (Jvm.Cond.code ({ cls := "com/example/wadesmill/wadesmill/server/MemoryBudget", name := "<init>", desc := "(J)V" } : Jvm.MethodName) prog_20_method_1_code (3 : Nat) (Option.none : Option Jvm.ClassFile.FieldType)).before args0 about1 = true := code_word (m := ⟨2, 0⟩) (meth := k2m0) (c := k2c0) (by decide +kernel) rfl rfl rfl (by decide +kernel)
set_option maxRecDepth 65536 in
theorem w_c2 : (Jvm.Cond.code ({ cls := "java/lang/Object", name := "<init>", desc := "()V" } : Jvm.MethodName) object_method_1_code (1 : Nat) (Option.none : Option Jvm.ClassFile.FieldType)).before args0 about1 = true := code_word (m := ⟨0, 0⟩) (meth := k0m0) (c := k0c0) (by decide +kernel) rfl rfl rfl (by decide +kernel)
set_option maxRecDepth 65536 in
theorem w_c3 : (Jvm.Cond.code ({ cls := "com/example/wadesmill/wadesmill/server/MemoryBudget", name := "left", desc := "()J" } : Jvm.MethodName) prog_20_method_2_code (1 : Nat) (Option.some Jvm.ClassFile.FieldType.long)).before args0 about1 = true := code_word (m := ⟨2, 1⟩) (meth := k2m1) (c := k2c1) (by decide +kernel) rfl rfl rfl (by decide +kernel)
set_option maxRecDepth 65536 in
theorem w_c4 : (Jvm.Cond.code ({ cls := "java/lang/Math", name := "max", desc := "(JJ)J" } : Jvm.MethodName) jdk_29_method_66_code (4 : Nat) (Option.some Jvm.ClassFile.FieldType.long)).before args0 about1 = true := code_word (m := ⟨3, 1⟩) (meth := k3m1) (c := k3c1) (by decide +kernel) rfl rfl rfl (by decide +kernel)
set_option maxRecDepth 65536 in
theorem w_c5 : (Jvm.Cond.code ({ cls := "com/example/wadesmill/wadesmill/server/MemoryBudget", name := "draw", desc := "(J)V" } : Jvm.MethodName) prog_20_method_3_code (3 : Nat) (Option.none : Option Jvm.ClassFile.FieldType)).before args0 about1 = true := code_word (m := ⟨2, 2⟩) (meth := k2m2) (c := k2c2) (by decide +kernel) rfl rfl rfl (by decide +kernel)
set_option maxRecDepth 65536 in
theorem w_c6 : (Jvm.Cond.code ({ cls := "com/example/wadesmill/wadesmill/server/MemoryBudgetLeftPinLaw", name := "expect", desc := "(JJ)J" } : Jvm.MethodName) method_2_code (4 : Nat) (Option.some Jvm.ClassFile.FieldType.long)).before args0 about1 = true := code_word (m := ⟨1, 1⟩) (meth := k1m1) (c := k1c1) (by decide +kernel) rfl rfl rfl (by decide +kernel)
def codes1 : List Jvm.Cond := [Jvm.Cond.code x code maxLocals ret, Jvm.Cond.code ({ cls := "com/example/wadesmill/wadesmill/server/MemoryBudget", name := "<init>", desc := "(J)V" } : Jvm.MethodName) prog_20_method_1_code (3 : Nat) (Option.none : Option Jvm.ClassFile.FieldType), Jvm.Cond.code ({ cls := "java/lang/Object", name := "<init>", desc := "()V" } : Jvm.MethodName) object_method_1_code (1 : Nat) (Option.none : Option Jvm.ClassFile.FieldType), Jvm.Cond.code ({ cls := "com/example/wadesmill/wadesmill/server/MemoryBudget", name := "left", desc := "()J" } : Jvm.MethodName) prog_20_method_2_code (1 : Nat) (Option.some Jvm.ClassFile.FieldType.long), Jvm.Cond.code ({ cls := "java/lang/Math", name := "max", desc := "(JJ)J" } : Jvm.MethodName) jdk_29_method_66_code (4 : Nat) (Option.some Jvm.ClassFile.FieldType.long), Jvm.Cond.code ({ cls := "com/example/wadesmill/wadesmill/server/MemoryBudget", name := "draw", desc := "(J)V" } : Jvm.MethodName) prog_20_method_3_code (3 : Nat) (Option.none : Option Jvm.ClassFile.FieldType), Jvm.Cond.code ({ cls := "com/example/wadesmill/wadesmill/server/MemoryBudgetLeftPinLaw", name := "expect", desc := "(JJ)J" } : Jvm.MethodName) method_2_code (4 : Nat) (Option.some Jvm.ClassFile.FieldType.long)]
set_option maxRecDepth 65536 in
theorem codes_eq : words1.filter isCode = codes1 := rfl
theorem w_codes : ∀ c ∈ words1.filter isCode, c.before args0 about1 = true := by
  rw [codes_eq]
  intro c hc
  simp only [codes1, List.mem_cons, List.not_mem_nil, or_false] at hc
  rcases hc with rfl | rfl | rfl | rfl | rfl | rfl | rfl
  · exact w_c0
  · exact w_c1
  · exact w_c2
  · exact w_c3
  · exact w_c4
  · exact w_c5
  · exact w_c6
set_option maxRecDepth 65536 in
theorem w_t1 : (words1.take 24).all (fun c => isCode c || c.before args0 about1) = true := by decide +kernel
set_option maxRecDepth 65536 in
theorem w_t2 : (words1.drop 24).all (fun c => isCode c || c.before args0 about1) = true := by decide +kernel
theorem w_tables : (allAtoms (Jvm.Cond.code x code maxLocals ret :: tables_1)).before args0 about1 = true := by
  rw [allAtoms_all]
  show words1.all (fun c => c.before args0 about1) = true
  refine all_split ?_ w_codes
  rw [← List.take_append_drop 24 words1, List.all_append, w_t1, w_t2]
  rfl
set_option maxRecDepth 65536 in
theorem w_case : (Jvm.Cond.and given_1 narrow_1).before args0 about1 = true := by decide +kernel
theorem w_applies : (headSpec (Jvm.Cond.code x code maxLocals ret :: tables_1) room_1).applies x e0.platform about1 = true :=
  (Spec.applies_iff w_frames).mpr ⟨w_running, w_runnable, w_alone, w_named, w_hears, w_ripe, w_room, w_tables⟩
theorem atStart : AtStart classFile x code maxLocals ret World_1 tables_1 room_1 Calls_1 rest_1 Pre_1 launch0 p0 e0 about1 theMethod args0 below0 :=
  ⟨lists_1, trivial, launch0.admits_env _ _ _, launch0.least_env, fairChoices_fair.cas, fairChoices_fair.clock, w_frames, w_args, w_heap, w_applies, trivial, trivial, w_case⟩
end start1
theorem witness_1 : WitnessClaimed_1 := ⟨start1.p0, start1.e0, start1.about1, start1.theMethod, start1.args0, start1.below0, start1.atStart⟩
end Jvm.Pilot.@@N@@
