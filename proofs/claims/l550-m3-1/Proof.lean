import JvmDerived
import JvmDerived.Pilot.@@N@@Statement
import JvmDerived.Pilot.@@N@@Code
set_option linter.unusedVariables false
set_option linter.unusedSimpArgs false
@@BLOCK:NumsL.lean.txt@@
namespace Jvm.OwnW
open Sem ClassFile Op Lib Jvm.Stand Jvm.Free Jvm.LawKit Jvm.RoadKit
theorem retI' {p : Program} {l : Launch} {e : Env} {R : Room} {s : State} {m : MethodId} {args : Array Value} {below : List Frame} {meth : Method} {c : Code} {T : State} {locs : List Loc} {cells slots : Nat} (X : Stand p l e R s m args below meth c T locs cells slots) (hx : p.tables.exec = Jvm.exec) {pc : Nat} {Ls : Array Slot} {z : Int32} {rest : List Value} (hret : meth.sig.returnType = some .int) (hd : decode c.code pc = .ok (.ireturn, 1)) {fs : List Frame}
    (hl : ∀ (f : JFrame) (acts : List Action), f.method = m → f.locked = none → f.entered = [] → (doReturn e (T.setTop f) acts (some (.int z))).1 = T.setFrames fs) : Steps p.tables e below (T.setTop (mkF m pc Ls (.int z :: rest))) (T.setFrames fs) :=
  retOut X hx hret rfl (Or.inl ⟨rfl, Or.inl rfl, z, rfl⟩) hd hl
end Jvm.OwnW
namespace Jvm.OwnW
open Sem ClassFile Op Lib Jvm.Stand Jvm.Free Jvm.LawKit Jvm.RoadKit
def ushrI (x y : Int32) : Int32 := (x.toUInt32 >>> (y &&& 31).toUInt32).toInt32
def shlI (x y : Int32) : Int32 := x <<< (y &&& 31)
def shrI (x y : Int32) : Int32 := x >>> (y &&& 31)
def shlJ (x : Int64) (y : Int32) : Int64 := x <<< (y &&& 0x3f).toInt64
def shrJ (x : Int64) (y : Int32) : Int64 := x >>> (y &&& 0x3f).toInt64
def ushrJ (x : Int64) (y : Int32) : Int64 := (x.toUInt64 >>> (y &&& 0x3f).toInt64.toUInt64).toInt64
def cmpJ (x y : Int64) : Int32 := if x > y then 1 else if x = y then 0 else -1
def i8 (x : Int32) : Int32 := x.toInt8.toInt32
def i16c (x : Int32) : Int32 := x.toUInt32.toUInt16.toUInt32.toInt32
/-- from T with g on top the run comes to its end, and P says of what it returns and of the heap -/
def Goes (p : Program) (e : Env) (below : List Frame) (s : State) (n0 : Nat) (P : Option Value → Heap → Prop) (k n : Nat) (T : State) (g : JFrame) : Prop :=
  ∃ s₂ o, Steps p.tables e below (T.setTop g) s₂ ∧ s₂.status = .running ∧ Ended s₂ below o ∧ ∃ v L, o = .returned v ∧ (Fr n0 L ∧ P v s₂.heap) ∧ FrameEnd s o s₂ L k n
/-- where a walk stands: nothing old is written, the heap is h -/
def Hr (p : Program) (l : Launch) (e : Env) (R : Room) (s : State) (m : MethodId) (args : Array Value) (below : List Frame) (meth : Method) (c : Code) (n0 : Nat) (h : Heap) (cells slots : Nat) (T : State) : Prop :=
  ∃ locs, Stand p l e R s m args below meth c T locs cells slots ∧ T.heap = h ∧ Fr n0 locs ∧ n0 ≤ s.heap.size
/-- what stays through a body -/
def Cx (p : Program) (s : State) (m : MethodId) (meth : Method) (c : Code) (code : ByteArray) (ml : Nat) (ret : Option FieldType) (own nm : String) (Z : State) (a0 : Array Value) (tabs : List Jvm.Cond) : Prop :=
  p.tables.exec = Jvm.exec ∧ c.code = code ∧ c.maxLocals = ml ∧ meth.sig.returnType = ret ∧ meth.locks = false ∧ s.vm.findClass own = some m.cls ∧ meth.name = nm ∧ Z.Warmed39 s.vm ∧ ∀ d ∈ tabs, d.before a0 Z = true
/-- a body's contract: called with these arguments at this heap it returns, nothing old is written, and P says the rest -/
def Ct (l : Launch) (y : MethodName) (bytes : ByteArray) (maxL : Nat) (ret : Option FieldType) (rm : Room) (Z : State) (as' : Array Value) (h : Heap) (n0 : Nat) (P : Option Value → Heap → Prop) : Prop :=
  ∀ ws, MetFree l y (head1 (Jvm.Cond.code y bytes maxL ret :: ws) rm) (fun a U => a = as' ∧ Z.Warmed39 U.vm ∧ U.heap = h) (fun _ _ _ _ _ => True) (fun _ U o U' => ∃ v L, o = .returned v ∧ (Fr n0 L ∧ P v U'.heap) ∧ FrameEnd U o U' L rm.cells rm.slots)
def up {α : Type} (g : Nat → α) (j : Nat) (v : α) : Nat → α := fun i => if i = j then v else g i
/-- an array of N places: place i holds f i -/
def ArV (Z : State) (h : Heap) (a : Addr) (ty : FieldType) (N : Nat) (f : Nat → Value) : Prop := ∃ cl : Cell, Arr Z h a cl ty ∧ cl.slots.size = N ∧ ∀ i, i < N → cl.slots[i]? = some (f i)
abbrev ArI (Z : State) (h : Heap) (a : Addr) (ty : FieldType) (N : Nat) (g : Nat → Int32) : Prop := ArV Z h a ty N (fun i => .int (g i))
abbrev ArJ (Z : State) (h : Heap) (a : Addr) (N : Nat) (g : Nat → Int64) : Prop := ArV Z h a .long N (fun i => .long (g i))
/-- an index as a natural number -/
def nt (j : Int32) : Nat := j.toInt.toNat
theorem nt_eq {j : Int32} (h : 0 ≤ j.toInt) : j.toInt = (nt j : Int) := by unfold nt; omega
theorem nt_lt {j : Int32} {N : Nat} (h : j.toInt < N) (h0 : 0 < N) : nt j < N := by unfold nt; omega
theorem add1 {x : Int32} (y : Int32) (d : Int) (hd : y.toInt = d) (h1 : -2147483648 ≤ x.toInt + d) (h2 : x.toInt + d < 2147483648) : (x + y).toInt = x.toInt + d := by
  have h := c_iadd x y
  have r := rng32 (x + y)
  omega
theorem sub1 {x : Int32} (y : Int32) (d : Int) (hd : y.toInt = d) (h1 : -2147483648 ≤ x.toInt - d) (h2 : x.toInt - d < 2147483648) : (x - y).toInt = x.toInt - d := by
  have h := c_isub x y
  have r := rng32 (x - y)
  omega
section W
variable {p : Program} {l : Launch} {e : Env} {R : Room} {s : State} {m : MethodId} {args : Array Value} {below : List Frame} {meth : Method} {c : Code} {T : State} {h h' : Heap} {cells slots : Nat} {n0 : Nat} {P : Option Value → Heap → Prop} {k n : Nat} {code : ByteArray} {ml : Nat} {ret : Option FieldType} {own nm : String} {Z : State} {a0 : Array Value} {tabs : List Jvm.Cond}
theorem Goes.of {g g' : JFrame} {T' : State} (st : ∀ target, Steps p.tables e below (T'.setTop g') target → Steps p.tables e below (T.setTop g) target) (K : Goes p e below s n0 P k n T' g') : Goes p e below s n0 P k n T g := by
  obtain ⟨s₂, o, h1, r⟩ := K
  exact ⟨s₂, o, st _ h1, r⟩
theorem Goes.imp {P' : Option Value → Heap → Prop} {g : JFrame} (hp : ∀ v h, P v h → P' v h) (K : Goes p e below s n0 P k n T g) : Goes p e below s n0 P' k n T g := by
  obtain ⟨s₂, o, h1, h2, h3, v, L, h4, h5, h6⟩ := K
  exact ⟨s₂, o, h1, h2, h3, v, L, h4, ⟨h5.1, hp _ _ h5.2⟩, h6⟩
theorem Ct.imp {y : MethodName} {bytes : ByteArray} {maxL : Nat} {rm : Room} {as' : Array Value} {P' : Option Value → Heap → Prop} (hp : ∀ v h, P v h → P' v h) (K : Ct l y bytes maxL ret rm Z as' h n0 P) : Ct l y bytes maxL ret rm Z as' h n0 P' := by
  intro ws p e ha hc hk s m args below hf happ hP hK
  obtain ⟨n, o, h1, h2, h3, v, L, h4, h5, h6⟩ := K ws p e ha hc hk s m args below hf happ hP hK
  exact ⟨n, o, h1, h2, h3, v, L, h4, ⟨h5.1, hp _ _ h5.2⟩, h6⟩
theorem Hr.size (X : Hr p l e R s m args below meth c n0 h cells slots T) : n0 ≤ h.size := by
  obtain ⟨locs, S, eT, N, q⟩ := X
  have q2 : s.heap.size ≤ T.heap.size := S.same.2.1
  rw [eT] at q2
  exact Nat.le_trans q q2
theorem Ct.of {y : MethodName} {bytes : ByteArray} {maxL : Nat} {rm : Room} {as' : Array Value} (hpl : plainFor y = true) (Ls : Array Slot) (hef : ∀ m, entryFrame m as' maxL = mkF m 0 Ls []) (hw : ∀ d ∈ tabs, d.before a0 Z = true) (hn0 : n0 ≤ h.size)
    (K : ∀ p e s m below meth c T, Cx p s m meth c bytes maxL ret y.cls y.name Z a0 tabs → Hr p l e rm s m as' below meth c n0 h 0 0 T → Goes p e below s n0 P rm.cells rm.slots T (mkF m 0 Ls [])) :
    Ct l y bytes maxL ret rm Z as' h n0 P := by
  intro ws
  refine MetFree.of_bodySF hpl hisR ?_
  intro p e s m args below meth c s₁ Bd hml0 hP hK
  obtain ⟨rfl, hZ, hh⟩ := hP
  obtain ⟨s₂, o, h1, r⟩ := K p e s m below meth c s₁ ⟨Bd.exec, Bd.bytes, hml0, Bd.returns, BodyLoose.notSynchronized Bd, findClass_of_methodNamed Bd.named, (name_of_methodNamed Bd.named Bd.method).1, hZ, hw⟩ ⟨[], Stand.of_body Bd, by rw [← hh, Bd.state]; rfl, Fr.nil n0, by rw [hh]; exact hn0⟩
  exact ⟨s₂, o, castTop (hef m) h1, r⟩

theorem w_iadd (X : Hr p l e R s m args below meth c n0 h cells slots T) (C : Cx p s m meth c code ml ret own nm Z a0 tabs) {pc : Nat} {Ls : Array Slot} {x y : Int32} {rest : List Value} (hd : decode code pc = .ok (.iadd, 1)) (K : Goes p e below s n0 P k n T (mkF m (pc + 1) Ls (.int (x + y) :: rest))) : Goes p e below s n0 P k n T (mkF m pc Ls (.int y :: .int x :: rest)) := by
  obtain ⟨locs, S, -, -, -⟩ := X
  exact Goes.of (fun _ kk => XS.iadd S.here C.1 rfl (hb C.2.1 hd) rfl kk) K
theorem w_isub (X : Hr p l e R s m args below meth c n0 h cells slots T) (C : Cx p s m meth c code ml ret own nm Z a0 tabs) {pc : Nat} {Ls : Array Slot} {x y : Int32} {rest : List Value} (hd : decode code pc = .ok (.isub, 1)) (K : Goes p e below s n0 P k n T (mkF m (pc + 1) Ls (.int (x - y) :: rest))) : Goes p e below s n0 P k n T (mkF m pc Ls (.int y :: .int x :: rest)) := by
  obtain ⟨locs, S, -, -, -⟩ := X
  exact Goes.of (fun _ kk => XS.isub S.here C.1 rfl (hb C.2.1 hd) rfl kk) K
theorem w_imul (X : Hr p l e R s m args below meth c n0 h cells slots T) (C : Cx p s m meth c code ml ret own nm Z a0 tabs) {pc : Nat} {Ls : Array Slot} {x y : Int32} {rest : List Value} (hd : decode code pc = .ok (.imul, 1)) (K : Goes p e below s n0 P k n T (mkF m (pc + 1) Ls (.int (x * y) :: rest))) : Goes p e below s n0 P k n T (mkF m pc Ls (.int y :: .int x :: rest)) := by
  obtain ⟨locs, S, -, -, -⟩ := X
  exact Goes.of (fun _ kk => XS.imul S.here C.1 rfl (hb C.2.1 hd) rfl kk) K
theorem w_iand (X : Hr p l e R s m args below meth c n0 h cells slots T) (C : Cx p s m meth c code ml ret own nm Z a0 tabs) {pc : Nat} {Ls : Array Slot} {x y : Int32} {rest : List Value} (hd : decode code pc = .ok (.iand, 1)) (K : Goes p e below s n0 P k n T (mkF m (pc + 1) Ls (.int (x &&& y) :: rest))) : Goes p e below s n0 P k n T (mkF m pc Ls (.int y :: .int x :: rest)) := by
  obtain ⟨locs, S, -, -, -⟩ := X
  exact Goes.of (fun _ kk => XS.iand S.here C.1 rfl (hb C.2.1 hd) rfl kk) K
theorem w_ior (X : Hr p l e R s m args below meth c n0 h cells slots T) (C : Cx p s m meth c code ml ret own nm Z a0 tabs) {pc : Nat} {Ls : Array Slot} {x y : Int32} {rest : List Value} (hd : decode code pc = .ok (.ior, 1)) (K : Goes p e below s n0 P k n T (mkF m (pc + 1) Ls (.int (x ||| y) :: rest))) : Goes p e below s n0 P k n T (mkF m pc Ls (.int y :: .int x :: rest)) := by
  obtain ⟨locs, S, -, -, -⟩ := X
  exact Goes.of (fun _ kk => XS.ior S.here C.1 rfl (hb C.2.1 hd) rfl kk) K
theorem w_ixor (X : Hr p l e R s m args below meth c n0 h cells slots T) (C : Cx p s m meth c code ml ret own nm Z a0 tabs) {pc : Nat} {Ls : Array Slot} {x y : Int32} {rest : List Value} (hd : decode code pc = .ok (.ixor, 1)) (K : Goes p e below s n0 P k n T (mkF m (pc + 1) Ls (.int (x ^^^ y) :: rest))) : Goes p e below s n0 P k n T (mkF m pc Ls (.int y :: .int x :: rest)) := by
  obtain ⟨locs, S, -, -, -⟩ := X
  exact Goes.of (fun _ kk => XS.ixor S.here C.1 rfl (hb C.2.1 hd) rfl kk) K
theorem w_ishl (X : Hr p l e R s m args below meth c n0 h cells slots T) (C : Cx p s m meth c code ml ret own nm Z a0 tabs) {pc : Nat} {Ls : Array Slot} {x y : Int32} {rest : List Value} (hd : decode code pc = .ok (.ishl, 1)) (K : Goes p e below s n0 P k n T (mkF m (pc + 1) Ls (.int (shlI x y) :: rest))) : Goes p e below s n0 P k n T (mkF m pc Ls (.int y :: .int x :: rest)) := by
  obtain ⟨locs, S, -, -, -⟩ := X
  exact Goes.of (fun _ kk => XS.ishl S.here C.1 rfl (hb C.2.1 hd) rfl kk) K
theorem w_ishr (X : Hr p l e R s m args below meth c n0 h cells slots T) (C : Cx p s m meth c code ml ret own nm Z a0 tabs) {pc : Nat} {Ls : Array Slot} {x y : Int32} {rest : List Value} (hd : decode code pc = .ok (.ishr, 1)) (K : Goes p e below s n0 P k n T (mkF m (pc + 1) Ls (.int (shrI x y) :: rest))) : Goes p e below s n0 P k n T (mkF m pc Ls (.int y :: .int x :: rest)) := by
  obtain ⟨locs, S, -, -, -⟩ := X
  exact Goes.of (fun _ kk => XS.ishr S.here C.1 rfl (hb C.2.1 hd) rfl kk) K
theorem w_iushr (X : Hr p l e R s m args below meth c n0 h cells slots T) (C : Cx p s m meth c code ml ret own nm Z a0 tabs) {pc : Nat} {Ls : Array Slot} {x y : Int32} {rest : List Value} (hd : decode code pc = .ok (.iushr, 1)) (K : Goes p e below s n0 P k n T (mkF m (pc + 1) Ls (.int (ushrI x y) :: rest))) : Goes p e below s n0 P k n T (mkF m pc Ls (.int y :: .int x :: rest)) := by
  obtain ⟨locs, S, -, -, -⟩ := X
  exact Goes.of (fun _ kk => XS.iushr S.here C.1 rfl (hb C.2.1 hd) rfl kk) K
theorem w_ladd (X : Hr p l e R s m args below meth c n0 h cells slots T) (C : Cx p s m meth c code ml ret own nm Z a0 tabs) {pc : Nat} {Ls : Array Slot} {x y : Int64} {rest : List Value} (hd : decode code pc = .ok (.ladd, 1)) (K : Goes p e below s n0 P k n T (mkF m (pc + 1) Ls (.long (x + y) :: rest))) : Goes p e below s n0 P k n T (mkF m pc Ls (.long y :: .long x :: rest)) := by
  obtain ⟨locs, S, -, -, -⟩ := X
  exact Goes.of (fun _ kk => XS.ladd S.here C.1 rfl (hb C.2.1 hd) rfl kk) K
theorem w_lsub (X : Hr p l e R s m args below meth c n0 h cells slots T) (C : Cx p s m meth c code ml ret own nm Z a0 tabs) {pc : Nat} {Ls : Array Slot} {x y : Int64} {rest : List Value} (hd : decode code pc = .ok (.lsub, 1)) (K : Goes p e below s n0 P k n T (mkF m (pc + 1) Ls (.long (x - y) :: rest))) : Goes p e below s n0 P k n T (mkF m pc Ls (.long y :: .long x :: rest)) := by
  obtain ⟨locs, S, -, -, -⟩ := X
  exact Goes.of (fun _ kk => XS.lsub S.here C.1 rfl (hb C.2.1 hd) rfl kk) K
theorem w_lmul (X : Hr p l e R s m args below meth c n0 h cells slots T) (C : Cx p s m meth c code ml ret own nm Z a0 tabs) {pc : Nat} {Ls : Array Slot} {x y : Int64} {rest : List Value} (hd : decode code pc = .ok (.lmul, 1)) (K : Goes p e below s n0 P k n T (mkF m (pc + 1) Ls (.long (x * y) :: rest))) : Goes p e below s n0 P k n T (mkF m pc Ls (.long y :: .long x :: rest)) := by
  obtain ⟨locs, S, -, -, -⟩ := X
  exact Goes.of (fun _ kk => XS.lmul S.here C.1 rfl (hb C.2.1 hd) rfl kk) K
theorem w_land (X : Hr p l e R s m args below meth c n0 h cells slots T) (C : Cx p s m meth c code ml ret own nm Z a0 tabs) {pc : Nat} {Ls : Array Slot} {x y : Int64} {rest : List Value} (hd : decode code pc = .ok (.land, 1)) (K : Goes p e below s n0 P k n T (mkF m (pc + 1) Ls (.long (x &&& y) :: rest))) : Goes p e below s n0 P k n T (mkF m pc Ls (.long y :: .long x :: rest)) := by
  obtain ⟨locs, S, -, -, -⟩ := X
  exact Goes.of (fun _ kk => XS.land S.here C.1 rfl (hb C.2.1 hd) rfl kk) K
theorem w_lor (X : Hr p l e R s m args below meth c n0 h cells slots T) (C : Cx p s m meth c code ml ret own nm Z a0 tabs) {pc : Nat} {Ls : Array Slot} {x y : Int64} {rest : List Value} (hd : decode code pc = .ok (.lor, 1)) (K : Goes p e below s n0 P k n T (mkF m (pc + 1) Ls (.long (x ||| y) :: rest))) : Goes p e below s n0 P k n T (mkF m pc Ls (.long y :: .long x :: rest)) := by
  obtain ⟨locs, S, -, -, -⟩ := X
  exact Goes.of (fun _ kk => XS.lor S.here C.1 rfl (hb C.2.1 hd) rfl kk) K
theorem w_lxor (X : Hr p l e R s m args below meth c n0 h cells slots T) (C : Cx p s m meth c code ml ret own nm Z a0 tabs) {pc : Nat} {Ls : Array Slot} {x y : Int64} {rest : List Value} (hd : decode code pc = .ok (.lxor, 1)) (K : Goes p e below s n0 P k n T (mkF m (pc + 1) Ls (.long (x ^^^ y) :: rest))) : Goes p e below s n0 P k n T (mkF m pc Ls (.long y :: .long x :: rest)) := by
  obtain ⟨locs, S, -, -, -⟩ := X
  exact Goes.of (fun _ kk => XS.lxor S.here C.1 rfl (hb C.2.1 hd) rfl kk) K
theorem w_lshl (X : Hr p l e R s m args below meth c n0 h cells slots T) (C : Cx p s m meth c code ml ret own nm Z a0 tabs) {pc : Nat} {Ls : Array Slot} {x : Int64} {y : Int32} {rest : List Value} (hd : decode code pc = .ok (.lshl, 1)) (K : Goes p e below s n0 P k n T (mkF m (pc + 1) Ls (.long (shlJ x y) :: rest))) : Goes p e below s n0 P k n T (mkF m pc Ls (.int y :: .long x :: rest)) := by
  obtain ⟨locs, S, -, -, -⟩ := X
  exact Goes.of (fun _ kk => XS.lshl S.here C.1 rfl (hb C.2.1 hd) rfl kk) K
theorem w_lshr (X : Hr p l e R s m args below meth c n0 h cells slots T) (C : Cx p s m meth c code ml ret own nm Z a0 tabs) {pc : Nat} {Ls : Array Slot} {x : Int64} {y : Int32} {rest : List Value} (hd : decode code pc = .ok (.lshr, 1)) (K : Goes p e below s n0 P k n T (mkF m (pc + 1) Ls (.long (shrJ x y) :: rest))) : Goes p e below s n0 P k n T (mkF m pc Ls (.int y :: .long x :: rest)) := by
  obtain ⟨locs, S, -, -, -⟩ := X
  exact Goes.of (fun _ kk => XS.lshr S.here C.1 rfl (hb C.2.1 hd) rfl kk) K
theorem w_lushr (X : Hr p l e R s m args below meth c n0 h cells slots T) (C : Cx p s m meth c code ml ret own nm Z a0 tabs) {pc : Nat} {Ls : Array Slot} {x : Int64} {y : Int32} {rest : List Value} (hd : decode code pc = .ok (.lushr, 1)) (K : Goes p e below s n0 P k n T (mkF m (pc + 1) Ls (.long (ushrJ x y) :: rest))) : Goes p e below s n0 P k n T (mkF m pc Ls (.int y :: .long x :: rest)) := by
  obtain ⟨locs, S, -, -, -⟩ := X
  exact Goes.of (fun _ kk => XS.lushr S.here C.1 rfl (hb C.2.1 hd) rfl kk) K
theorem w_lcmp (X : Hr p l e R s m args below meth c n0 h cells slots T) (C : Cx p s m meth c code ml ret own nm Z a0 tabs) {pc : Nat} {Ls : Array Slot} {x y : Int64} {rest : List Value} (hd : decode code pc = .ok (.lcmp, 1)) (K : Goes p e below s n0 P k n T (mkF m (pc + 1) Ls (.int (cmpJ x y) :: rest))) : Goes p e below s n0 P k n T (mkF m pc Ls (.long y :: .long x :: rest)) := by
  obtain ⟨locs, S, -, -, -⟩ := X
  exact Goes.of (fun _ kk => XS.lcmp S.here C.1 rfl (hb C.2.1 hd) rfl kk) K
theorem w_i2b (X : Hr p l e R s m args below meth c n0 h cells slots T) (C : Cx p s m meth c code ml ret own nm Z a0 tabs) {pc : Nat} {Ls : Array Slot} {x : Int32} {rest : List Value} (hd : decode code pc = .ok (.i2b, 1)) (K : Goes p e below s n0 P k n T (mkF m (pc + 1) Ls (.int (i8 x) :: rest))) : Goes p e below s n0 P k n T (mkF m pc Ls (.int x :: rest)) := by
  obtain ⟨locs, S, -, -, -⟩ := X
  exact Goes.of (fun _ kk => XS.i2b S.here C.1 rfl (hb C.2.1 hd) rfl kk) K
theorem w_i2c (X : Hr p l e R s m args below meth c n0 h cells slots T) (C : Cx p s m meth c code ml ret own nm Z a0 tabs) {pc : Nat} {Ls : Array Slot} {x : Int32} {rest : List Value} (hd : decode code pc = .ok (.i2c, 1)) (K : Goes p e below s n0 P k n T (mkF m (pc + 1) Ls (.int (i16c x) :: rest))) : Goes p e below s n0 P k n T (mkF m pc Ls (.int x :: rest)) := by
  obtain ⟨locs, S, -, -, -⟩ := X
  exact Goes.of (fun _ kk => XS.i2c S.here C.1 rfl (hb C.2.1 hd) rfl kk) K
theorem w_i2s (X : Hr p l e R s m args below meth c n0 h cells slots T) (C : Cx p s m meth c code ml ret own nm Z a0 tabs) {pc : Nat} {Ls : Array Slot} {x : Int32} {rest : List Value} (hd : decode code pc = .ok (.i2s, 1)) (K : Goes p e below s n0 P k n T (mkF m (pc + 1) Ls (.int (x.toInt16.toInt32) :: rest))) : Goes p e below s n0 P k n T (mkF m pc Ls (.int x :: rest)) := by
  obtain ⟨locs, S, -, -, -⟩ := X
  exact Goes.of (fun _ kk => XS.i2s S.here C.1 rfl (hb C.2.1 hd) rfl kk) K
theorem w_ineg (X : Hr p l e R s m args below meth c n0 h cells slots T) (C : Cx p s m meth c code ml ret own nm Z a0 tabs) {pc : Nat} {Ls : Array Slot} {x : Int32} {rest : List Value} (hd : decode code pc = .ok (.ineg, 1)) (K : Goes p e below s n0 P k n T (mkF m (pc + 1) Ls (.int (-x) :: rest))) : Goes p e below s n0 P k n T (mkF m pc Ls (.int x :: rest)) := by
  obtain ⟨locs, S, -, -, -⟩ := X
  exact Goes.of (fun _ kk => XS.ineg S.here C.1 rfl (hb C.2.1 hd) rfl kk) K
theorem w_i2l (X : Hr p l e R s m args below meth c n0 h cells slots T) (C : Cx p s m meth c code ml ret own nm Z a0 tabs) {pc : Nat} {Ls : Array Slot} {x : Int32} {rest : List Value} (hd : decode code pc = .ok (.i2l, 1)) (K : Goes p e below s n0 P k n T (mkF m (pc + 1) Ls (.long (x.toInt64) :: rest))) : Goes p e below s n0 P k n T (mkF m pc Ls (.int x :: rest)) := by
  obtain ⟨locs, S, -, -, -⟩ := X
  exact Goes.of (fun _ kk => XS.i2l S.here C.1 rfl (hb C.2.1 hd) rfl kk) K
theorem w_l2i (X : Hr p l e R s m args below meth c n0 h cells slots T) (C : Cx p s m meth c code ml ret own nm Z a0 tabs) {pc : Nat} {Ls : Array Slot} {x : Int64} {rest : List Value} (hd : decode code pc = .ok (.l2i, 1)) (K : Goes p e below s n0 P k n T (mkF m (pc + 1) Ls (.int (x.toInt32) :: rest))) : Goes p e below s n0 P k n T (mkF m pc Ls (.long x :: rest)) := by
  obtain ⟨locs, S, -, -, -⟩ := X
  exact Goes.of (fun _ kk => XS.l2i S.here C.1 rfl (hb C.2.1 hd) rfl kk) K
theorem w_lneg (X : Hr p l e R s m args below meth c n0 h cells slots T) (C : Cx p s m meth c code ml ret own nm Z a0 tabs) {pc : Nat} {Ls : Array Slot} {x : Int64} {rest : List Value} (hd : decode code pc = .ok (.lneg, 1)) (K : Goes p e below s n0 P k n T (mkF m (pc + 1) Ls (.long (-x) :: rest))) : Goes p e below s n0 P k n T (mkF m pc Ls (.long x :: rest)) := by
  obtain ⟨locs, S, -, -, -⟩ := X
  exact Goes.of (fun _ kk => XS.lneg S.here C.1 rfl (hb C.2.1 hd) rfl kk) K
theorem w_idiv (X : Hr p l e R s m args below meth c n0 h cells slots T) (C : Cx p s m meth c code ml ret own nm Z a0 tabs) {pc : Nat} {Ls : Array Slot} {x y : Int32} {rest : List Value} (hd : decode code pc = .ok (.idiv, 1)) (hy : y ≠ 0) (K : Goes p e below s n0 P k n T (mkF m (pc + 1) Ls (.int (x / y) :: rest))) : Goes p e below s n0 P k n T (mkF m pc Ls (.int y :: .int x :: rest)) := by
  obtain ⟨locs, S, -, -, -⟩ := X
  exact Goes.of (fun _ kk => XS.idiv S.here C.1 rfl (hb C.2.1 hd) rfl hy kk) K
theorem w_ldiv (X : Hr p l e R s m args below meth c n0 h cells slots T) (C : Cx p s m meth c code ml ret own nm Z a0 tabs) {pc : Nat} {Ls : Array Slot} {x y : Int64} {rest : List Value} (hd : decode code pc = .ok (.ldiv, 1)) (hy : y ≠ 0) (K : Goes p e below s n0 P k n T (mkF m (pc + 1) Ls (.long (x / y) :: rest))) : Goes p e below s n0 P k n T (mkF m pc Ls (.long y :: .long x :: rest)) := by
  obtain ⟨locs, S, -, -, -⟩ := X
  exact Goes.of (fun _ kk => XS.ldiv S.here C.1 rfl (hb C.2.1 hd) rfl hy kk) K
theorem w_irem (X : Hr p l e R s m args below meth c n0 h cells slots T) (C : Cx p s m meth c code ml ret own nm Z a0 tabs) {pc : Nat} {Ls : Array Slot} {x y : Int32} {rest : List Value} (hd : decode code pc = .ok (.irem, 1)) (hy : y ≠ 0) (K : Goes p e below s n0 P k n T (mkF m (pc + 1) Ls (.int (x % y) :: rest))) : Goes p e below s n0 P k n T (mkF m pc Ls (.int y :: .int x :: rest)) := by
  obtain ⟨locs, S, -, -, -⟩ := X
  rw [← irem_eq_mod x y] at K
  exact Goes.of (fun _ kk => XS.irem S.here C.1 rfl (hb C.2.1 hd) rfl hy kk) K
theorem w_lrem (X : Hr p l e R s m args below meth c n0 h cells slots T) (C : Cx p s m meth c code ml ret own nm Z a0 tabs) {pc : Nat} {Ls : Array Slot} {x y : Int64} {rest : List Value} (hd : decode code pc = .ok (.lrem, 1)) (hy : y ≠ 0) (K : Goes p e below s n0 P k n T (mkF m (pc + 1) Ls (.long (x % y) :: rest))) : Goes p e below s n0 P k n T (mkF m pc Ls (.long y :: .long x :: rest)) := by
  obtain ⟨locs, S, -, -, -⟩ := X
  rw [← lrem_mod x y] at K
  exact Goes.of (fun _ kk => XS.lrem S.here C.1 rfl (hb C.2.1 hd) rfl hy kk) K
theorem w_dup (X : Hr p l e R s m args below meth c n0 h cells slots T) (C : Cx p s m meth c code ml ret own nm Z a0 tabs) {pc : Nat} {Ls : Array Slot} {x : Value} {rest : List Value} (hd : decode code pc = .ok (.dup, 1)) (hc : x.category = 1) (K : Goes p e below s n0 P k n T (mkF m (pc + 1) Ls (x :: x :: rest))) : Goes p e below s n0 P k n T (mkF m pc Ls (x :: rest)) := by
  obtain ⟨locs, S, -, -, -⟩ := X
  exact Goes.of (fun _ kk => XS.dup S.here C.1 rfl (hb C.2.1 hd) rfl hc kk) K
theorem w_pop (X : Hr p l e R s m args below meth c n0 h cells slots T) (C : Cx p s m meth c code ml ret own nm Z a0 tabs) {pc : Nat} {Ls : Array Slot} {x : Value} {rest : List Value} (hd : decode code pc = .ok (.pop, 1)) (hc : x.category = 1) (K : Goes p e below s n0 P k n T (mkF m (pc + 1) Ls (rest))) : Goes p e below s n0 P k n T (mkF m pc Ls (x :: rest)) := by
  obtain ⟨locs, S, -, -, -⟩ := X
  exact Goes.of (fun _ kk => XS.pop S.here C.1 rfl (hb C.2.1 hd) rfl hc kk) K
theorem w_dup_x1 (X : Hr p l e R s m args below meth c n0 h cells slots T) (C : Cx p s m meth c code ml ret own nm Z a0 tabs) {pc : Nat} {Ls : Array Slot} {x y : Value} {rest : List Value} (hd : decode code pc = .ok (.dup_x1, 1)) (hc : x.category = 1) (hc' : y.category = 1) (K : Goes p e below s n0 P k n T (mkF m (pc + 1) Ls (x :: y :: x :: rest))) : Goes p e below s n0 P k n T (mkF m pc Ls (x :: y :: rest)) := by
  obtain ⟨locs, S, -, -, -⟩ := X
  exact Goes.of (fun _ kk => XS.dupX1 S.here C.1 rfl (hb C.2.1 hd) rfl hc hc' kk) K
theorem w_dup2 (X : Hr p l e R s m args below meth c n0 h cells slots T) (C : Cx p s m meth c code ml ret own nm Z a0 tabs) {pc : Nat} {Ls : Array Slot} {x y : Value} {rest : List Value} (hd : decode code pc = .ok (.dup2, 1)) (hc : x.category = 1) (hc' : y.category = 1) (K : Goes p e below s n0 P k n T (mkF m (pc + 1) Ls (x :: y :: x :: y :: rest))) : Goes p e below s n0 P k n T (mkF m pc Ls (x :: y :: rest)) := by
  obtain ⟨locs, S, -, -, -⟩ := X
  exact Goes.of (fun _ kk => XT.dup2 S.here C.1 rfl (hb C.2.1 hd) rfl hc hc' kk) K
theorem w_iload (X : Hr p l e R s m args below meth c n0 h cells slots T) (C : Cx p s m meth c code ml ret own nm Z a0 tabs) {pc : Nat} {Ls : Array Slot} {k0 : Nat} {x : Int32} {rest : List Value} (hd : decode code pc = .ok (.iload k0, 2)) (hl : Ls[k0]? = some (.val (.int x))) (K : Goes p e below s n0 P k n T (mkF m (pc + 2) Ls (.int x :: rest))) : Goes p e below s n0 P k n T (mkF m pc Ls rest) := by
  obtain ⟨locs, S, -, -, -⟩ := X
  exact Goes.of (fun _ kk => XS.iload S.here C.1 rfl (hb C.2.1 hd) hl kk) K
theorem w_istore (X : Hr p l e R s m args below meth c n0 h cells slots T) (C : Cx p s m meth c code ml ret own nm Z a0 tabs) {pc : Nat} {Ls : Array Slot} {k0 : Nat} {x : Int32} {rest : List Value} (hd : decode code pc = .ok (.istore k0, 2)) (Ls' : Array Slot) (hl : storeLocals Ls k0 (.int x) = some Ls') (K : Goes p e below s n0 P k n T (mkF m (pc + 2) Ls' rest)) : Goes p e below s n0 P k n T (mkF m pc Ls (.int x :: rest)) := by
  obtain ⟨locs, S, -, -, -⟩ := X
  exact Goes.of (fun _ kk => XS.istore S.here C.1 rfl (hb C.2.1 hd) rfl hl kk) K
theorem w_iloadN (X : Hr p l e R s m args below meth c n0 h cells slots T) (C : Cx p s m meth c code ml ret own nm Z a0 tabs) {pc : Nat} {Ls : Array Slot} {k0 : Fin 4} {x : Int32} {rest : List Value} (hd : decode code pc = .ok (.iload_n k0, 1)) (hl : Ls[k0.val]? = some (.val (.int x))) (K : Goes p e below s n0 P k n T (mkF m (pc + 1) Ls (.int x :: rest))) : Goes p e below s n0 P k n T (mkF m pc Ls rest) := by
  obtain ⟨locs, S, -, -, -⟩ := X
  exact Goes.of (fun _ kk => XS.iloadN S.here C.1 rfl (hb C.2.1 hd) hl kk) K
theorem w_istoreN (X : Hr p l e R s m args below meth c n0 h cells slots T) (C : Cx p s m meth c code ml ret own nm Z a0 tabs) {pc : Nat} {Ls : Array Slot} {k0 : Fin 4} {x : Int32} {rest : List Value} (hd : decode code pc = .ok (.istore_n k0, 1)) (Ls' : Array Slot) (hl : storeLocals Ls k0.val (.int x) = some Ls') (K : Goes p e below s n0 P k n T (mkF m (pc + 1) Ls' rest)) : Goes p e below s n0 P k n T (mkF m pc Ls (.int x :: rest)) := by
  obtain ⟨locs, S, -, -, -⟩ := X
  exact Goes.of (fun _ kk => XS.istoreN S.here C.1 rfl (hb C.2.1 hd) rfl hl kk) K
theorem w_lload (X : Hr p l e R s m args below meth c n0 h cells slots T) (C : Cx p s m meth c code ml ret own nm Z a0 tabs) {pc : Nat} {Ls : Array Slot} {k0 : Nat} {x : Int64} {rest : List Value} (hd : decode code pc = .ok (.lload k0, 2)) (hl : Ls[k0]? = some (.val (.long x))) (K : Goes p e below s n0 P k n T (mkF m (pc + 2) Ls (.long x :: rest))) : Goes p e below s n0 P k n T (mkF m pc Ls rest) := by
  obtain ⟨locs, S, -, -, -⟩ := X
  exact Goes.of (fun _ kk => XS.lload S.here C.1 rfl (hb C.2.1 hd) hl kk) K
theorem w_lstore (X : Hr p l e R s m args below meth c n0 h cells slots T) (C : Cx p s m meth c code ml ret own nm Z a0 tabs) {pc : Nat} {Ls : Array Slot} {k0 : Nat} {x : Int64} {rest : List Value} (hd : decode code pc = .ok (.lstore k0, 2)) (Ls' : Array Slot) (hl : storeLocals Ls k0 (.long x) = some Ls') (K : Goes p e below s n0 P k n T (mkF m (pc + 2) Ls' rest)) : Goes p e below s n0 P k n T (mkF m pc Ls (.long x :: rest)) := by
  obtain ⟨locs, S, -, -, -⟩ := X
  exact Goes.of (fun _ kk => XS.lstore S.here C.1 rfl (hb C.2.1 hd) rfl hl kk) K
theorem w_lloadN (X : Hr p l e R s m args below meth c n0 h cells slots T) (C : Cx p s m meth c code ml ret own nm Z a0 tabs) {pc : Nat} {Ls : Array Slot} {k0 : Fin 4} {x : Int64} {rest : List Value} (hd : decode code pc = .ok (.lload_n k0, 1)) (hl : Ls[k0.val]? = some (.val (.long x))) (K : Goes p e below s n0 P k n T (mkF m (pc + 1) Ls (.long x :: rest))) : Goes p e below s n0 P k n T (mkF m pc Ls rest) := by
  obtain ⟨locs, S, -, -, -⟩ := X
  exact Goes.of (fun _ kk => XS.lloadN S.here C.1 rfl (hb C.2.1 hd) hl kk) K
theorem w_lstoreN (X : Hr p l e R s m args below meth c n0 h cells slots T) (C : Cx p s m meth c code ml ret own nm Z a0 tabs) {pc : Nat} {Ls : Array Slot} {k0 : Fin 4} {x : Int64} {rest : List Value} (hd : decode code pc = .ok (.lstore_n k0, 1)) (Ls' : Array Slot) (hl : storeLocals Ls k0.val (.long x) = some Ls') (K : Goes p e below s n0 P k n T (mkF m (pc + 1) Ls' rest)) : Goes p e below s n0 P k n T (mkF m pc Ls (.long x :: rest)) := by
  obtain ⟨locs, S, -, -, -⟩ := X
  exact Goes.of (fun _ kk => XS.lstoreN S.here C.1 rfl (hb C.2.1 hd) rfl hl kk) K
theorem w_aload (X : Hr p l e R s m args below meth c n0 h cells slots T) (C : Cx p s m meth c code ml ret own nm Z a0 tabs) {pc : Nat} {Ls : Array Slot} {k0 : Nat} {x : Value} {rest : List Value} (hd : decode code pc = .ok (.aload k0, 2)) (hl : Ls[k0]? = some (.val x)) (hv : x.isRef = true) (K : Goes p e below s n0 P k n T (mkF m (pc + 2) Ls (x :: rest))) : Goes p e below s n0 P k n T (mkF m pc Ls rest) := by
  obtain ⟨locs, S, -, -, -⟩ := X
  exact Goes.of (fun _ kk => XS.aload S.here C.1 rfl (hb C.2.1 hd) hl hv kk) K
theorem w_astore (X : Hr p l e R s m args below meth c n0 h cells slots T) (C : Cx p s m meth c code ml ret own nm Z a0 tabs) {pc : Nat} {Ls : Array Slot} {k0 : Nat} {x : Value} {rest : List Value} (hd : decode code pc = .ok (.astore k0, 2)) (Ls' : Array Slot) (hl : storeLocals Ls k0 x = some Ls') (hv : x.isRef = true) (K : Goes p e below s n0 P k n T (mkF m (pc + 2) Ls' rest)) : Goes p e below s n0 P k n T (mkF m pc Ls (x :: rest)) := by
  obtain ⟨locs, S, -, -, -⟩ := X
  exact Goes.of (fun _ kk => XS.astore S.here C.1 rfl (hb C.2.1 hd) rfl hv hl kk) K
theorem w_aloadN (X : Hr p l e R s m args below meth c n0 h cells slots T) (C : Cx p s m meth c code ml ret own nm Z a0 tabs) {pc : Nat} {Ls : Array Slot} {k0 : Fin 4} {x : Value} {rest : List Value} (hd : decode code pc = .ok (.aload_n k0, 1)) (hl : Ls[k0.val]? = some (.val x)) (hv : x.isRef = true) (K : Goes p e below s n0 P k n T (mkF m (pc + 1) Ls (x :: rest))) : Goes p e below s n0 P k n T (mkF m pc Ls rest) := by
  obtain ⟨locs, S, -, -, -⟩ := X
  exact Goes.of (fun _ kk => XS.aloadN S.here C.1 rfl (hb C.2.1 hd) hl hv kk) K
theorem w_astoreN (X : Hr p l e R s m args below meth c n0 h cells slots T) (C : Cx p s m meth c code ml ret own nm Z a0 tabs) {pc : Nat} {Ls : Array Slot} {k0 : Fin 4} {x : Value} {rest : List Value} (hd : decode code pc = .ok (.astore_n k0, 1)) (Ls' : Array Slot) (hl : storeLocals Ls k0.val x = some Ls') (hv : x.isRef = true) (K : Goes p e below s n0 P k n T (mkF m (pc + 1) Ls' rest)) : Goes p e below s n0 P k n T (mkF m pc Ls (x :: rest)) := by
  obtain ⟨locs, S, -, -, -⟩ := X
  exact Goes.of (fun _ kk => XS.astoreN S.here C.1 rfl (hb C.2.1 hd) rfl hv hl kk) K
theorem w_iinc (X : Hr p l e R s m args below meth c n0 h cells slots T) (C : Cx p s m meth c code ml ret own nm Z a0 tabs) {pc : Nat} {Ls : Array Slot} {k0 : Nat} {cst : Int} {x : Int32} {rest : List Value} (hd : decode code pc = .ok (.iinc k0 cst, 3)) (v : Int32) (hv : Int32.ofInt cst = v) (hl : Ls[k0]? = some (.val (.int x))) (Ls' : Array Slot) (hl' : storeLocals Ls k0 (.int (x + v)) = some Ls') (K : Goes p e below s n0 P k n T (mkF m (pc + 3) Ls' rest)) : Goes p e below s n0 P k n T (mkF m pc Ls rest) := by
  obtain ⟨locs, S, -, -, -⟩ := X
  subst hv
  exact Goes.of (fun _ kk => XS.iinc S.here C.1 rfl (hb C.2.1 hd) hl hl' kk) K
theorem w_iconst (X : Hr p l e R s m args below meth c n0 h cells slots T) (C : Cx p s m meth c code ml ret own nm Z a0 tabs) {pc : Nat} {Ls : Array Slot} {i : Int} {rest : List Value} (hd : decode code pc = .ok (.iconst i, 1)) (v : Int32) (hv : Int32.ofInt i = v) (K : Goes p e below s n0 P k n T (mkF m (pc + 1) Ls (.int v :: rest))) : Goes p e below s n0 P k n T (mkF m pc Ls rest) := by
  obtain ⟨locs, S, -, -, -⟩ := X
  subst hv
  exact Goes.of (fun _ kk => XS.iconst S.here C.1 rfl (hb C.2.1 hd) kk) K
theorem w_bipush (X : Hr p l e R s m args below meth c n0 h cells slots T) (C : Cx p s m meth c code ml ret own nm Z a0 tabs) {pc : Nat} {Ls : Array Slot} {i : Int} {rest : List Value} (hd : decode code pc = .ok (.bipush i, 2)) (v : Int32) (hv : (Int8.ofInt i).toInt32 = v) (K : Goes p e below s n0 P k n T (mkF m (pc + 2) Ls (.int v :: rest))) : Goes p e below s n0 P k n T (mkF m pc Ls rest) := by
  obtain ⟨locs, S, -, -, -⟩ := X
  subst hv
  exact Goes.of (fun _ kk => XS.bipush S.here C.1 rfl (hb C.2.1 hd) kk) K
theorem w_sipush (X : Hr p l e R s m args below meth c n0 h cells slots T) (C : Cx p s m meth c code ml ret own nm Z a0 tabs) {pc : Nat} {Ls : Array Slot} {i : Int} {rest : List Value} (hd : decode code pc = .ok (.sipush i, 3)) (v : Int32) (hv : (Int16.ofInt i).toInt32 = v) (K : Goes p e below s n0 P k n T (mkF m (pc + 3) Ls (.int v :: rest))) : Goes p e below s n0 P k n T (mkF m pc Ls rest) := by
  obtain ⟨locs, S, -, -, -⟩ := X
  subst hv
  exact Goes.of (fun _ kk => XS.sipush S.here C.1 rfl (hb C.2.1 hd) kk) K
theorem w_lconst (X : Hr p l e R s m args below meth c n0 h cells slots T) (C : Cx p s m meth c code ml ret own nm Z a0 tabs) {pc : Nat} {Ls : Array Slot} {i : Fin 2} {rest : List Value} (hd : decode code pc = .ok (.lconst i, 1)) (v : Int64) (hv : Int64.ofNat i = v) (K : Goes p e below s n0 P k n T (mkF m (pc + 1) Ls (.long v :: rest))) : Goes p e below s n0 P k n T (mkF m pc Ls rest) := by
  obtain ⟨locs, S, -, -, -⟩ := X
  subst hv
  exact Goes.of (fun _ kk => XS.lconst S.here C.1 rfl (hb C.2.1 hd) kk) K
theorem w_aconst_null (X : Hr p l e R s m args below meth c n0 h cells slots T) (C : Cx p s m meth c code ml ret own nm Z a0 tabs) {pc : Nat} {Ls : Array Slot} {rest : List Value} (hd : decode code pc = .ok (.aconst_null, 1)) (K : Goes p e below s n0 P k n T (mkF m (pc + 1) Ls (.null :: rest))) : Goes p e below s n0 P k n T (mkF m pc Ls rest) := by
  obtain ⟨locs, S, -, -, -⟩ := X
  exact Goes.of (fun _ kk => XS.aconstNull S.here C.1 rfl (hb C.2.1 hd) kk) K
theorem w_ldcI (X : Hr p l e R s m args below meth c n0 h cells slots T) (C : Cx p s m meth c code ml ret own nm Z a0 tabs) {pc index : Nat} {Ls : Array Slot} {v : Int32} {rest : List Value} (hd : decode code pc = .ok (.ldc index, 2)) (i1 : Jvm.Cond.constant own index v ∈ tabs) (K : Goes p e below s n0 P k n T (mkF m (pc + 2) Ls (.int v :: rest))) : Goes p e below s n0 P k n T (mkF m pc Ls rest) := by
  obtain ⟨locs, S, -, -, -⟩ := X
  exact Goes.of (fun _ kk => S.ldcInt C.1 C.2.2.2.2.2.1 (mvT C.2.2.2.2.2.2.2.1 (C.2.2.2.2.2.2.2.2 _ i1)) (g := mkF m pc Ls rest) rfl (hb C.2.1 hd) _ kk) K
theorem w_ldcW (X : Hr p l e R s m args below meth c n0 h cells slots T) (C : Cx p s m meth c code ml ret own nm Z a0 tabs) {pc index : Nat} {Ls : Array Slot} {v : Int32} {rest : List Value} (hd : decode code pc = .ok (.ldc_w index, 3)) (i1 : Jvm.Cond.constant own index v ∈ tabs) (K : Goes p e below s n0 P k n T (mkF m (pc + 3) Ls (.int v :: rest))) : Goes p e below s n0 P k n T (mkF m pc Ls rest) := by
  obtain ⟨locs, S, -, -, -⟩ := X
  exact Goes.of (fun _ kk => S.ldcwInt C.1 C.2.2.2.2.2.1 (mvT C.2.2.2.2.2.2.2.1 (C.2.2.2.2.2.2.2.2 _ i1)) (g := mkF m pc Ls rest) rfl (hb C.2.1 hd) _ kk) K
theorem w_ldcJ (X : Hr p l e R s m args below meth c n0 h cells slots T) (C : Cx p s m meth c code ml ret own nm Z a0 tabs) {pc index : Nat} {Ls : Array Slot} {v : Int64} {rest : List Value} (hd : decode code pc = .ok (.ldc2_w index, 3)) (i1 : Jvm.Cond.constantLong own index v ∈ tabs) (K : Goes p e below s n0 P k n T (mkF m (pc + 3) Ls (.long v :: rest))) : Goes p e below s n0 P k n T (mkF m pc Ls rest) := by
  obtain ⟨locs, S, -, -, -⟩ := X
  exact Goes.of (fun _ kk => S.ldc2Long C.1 C.2.2.2.2.2.1 (mvT C.2.2.2.2.2.2.2.1 (C.2.2.2.2.2.2.2.2 _ i1)) (g := mkF m pc Ls rest) rfl (hb C.2.1 hd) _ kk) K
theorem w_goto (X : Hr p l e R s m args below meth c n0 h cells slots T) (C : Cx p s m meth c code ml ret own nm Z a0 tabs) {pc : Nat} {Ls : Array Slot} {st : List Value} {o : Int} (hd : decode code pc = .ok (.goto o, 3)) (pc' : Nat) (ho : 0 ≤ (pc : Int) + o ∧ ((pc : Int) + o).toNat = pc') (K : Goes p e below s n0 P k n T (mkF m pc' Ls st)) : Goes p e below s n0 P k n T (mkF m pc Ls st) := by
  obtain ⟨locs, S, -, -, -⟩ := X
  exact Goes.of (fun _ kk => XS.goto S.here C.1 rfl (pc0 := pc) (pc' := pc') rfl (hb C.2.1 hd) ho.1 ho.2 kk) K
theorem w_icmp_lt (X : Hr p l e R s m args below meth c n0 h cells slots T) (C : Cx p s m meth c code ml ret own nm Z a0 tabs) {pc : Nat} {Ls : Array Slot} {x y : Int32} {rest : List Value} {o : Int} (hd : decode code pc = .ok (.if_icmp .lt o, 3)) (pc' : Nat) (ho : 0 ≤ (pc : Int) + o ∧ ((pc : Int) + o).toNat = pc') (Ky : x < y → Goes p e below s n0 P k n T (mkF m pc' Ls rest)) (Kn : ¬ (x < y) → Goes p e below s n0 P k n T (mkF m (pc + 3) Ls rest)) : Goes p e below s n0 P k n T (mkF m pc Ls (.int y :: .int x :: rest)) := by
  obtain ⟨locs, S, -, -, -⟩ := X
  by_cases q : x < y
  · exact Goes.of (fun _ kk => XS.icmpYes S.here C.1 rfl (pc0 := pc) (pc' := pc') rfl (hb C.2.1 hd) rfl (tlt q).1 ho.1 ho.2 kk) (Ky q)
  · exact Goes.of (fun _ kk => XS.icmpNo S.here C.1 rfl (hb C.2.1 hd) rfl (flt q).1 kk) (Kn q)
theorem w_if_lt (X : Hr p l e R s m args below meth c n0 h cells slots T) (C : Cx p s m meth c code ml ret own nm Z a0 tabs) {pc : Nat} {Ls : Array Slot} {x : Int32} {rest : List Value} {o : Int} (hd : decode code pc = .ok (.ifCond .lt o, 3)) (pc' : Nat) (ho : 0 ≤ (pc : Int) + o ∧ ((pc : Int) + o).toNat = pc') (Ky : x < 0 → Goes p e below s n0 P k n T (mkF m pc' Ls rest)) (Kn : ¬ (x < 0) → Goes p e below s n0 P k n T (mkF m (pc + 3) Ls rest)) : Goes p e below s n0 P k n T (mkF m pc Ls (.int x :: rest)) := by
  obtain ⟨locs, S, -, -, -⟩ := X
  by_cases q : x < 0
  · exact Goes.of (fun _ kk => XS.ifYes S.here C.1 rfl (pc0 := pc) (pc' := pc') rfl (hb C.2.1 hd) rfl ((if0 _ _).trans (tlt q).1) ho.1 ho.2 kk) (Ky q)
  · exact Goes.of (fun _ kk => XS.ifNo S.here C.1 rfl (hb C.2.1 hd) rfl ((if0 _ _).trans (flt q).1) kk) (Kn q)
theorem w_icmp_ge (X : Hr p l e R s m args below meth c n0 h cells slots T) (C : Cx p s m meth c code ml ret own nm Z a0 tabs) {pc : Nat} {Ls : Array Slot} {x y : Int32} {rest : List Value} {o : Int} (hd : decode code pc = .ok (.if_icmp .ge o, 3)) (pc' : Nat) (ho : 0 ≤ (pc : Int) + o ∧ ((pc : Int) + o).toNat = pc') (Ky : ¬ (x < y) → Goes p e below s n0 P k n T (mkF m pc' Ls rest)) (Kn : x < y → Goes p e below s n0 P k n T (mkF m (pc + 3) Ls rest)) : Goes p e below s n0 P k n T (mkF m pc Ls (.int y :: .int x :: rest)) := by
  obtain ⟨locs, S, -, -, -⟩ := X
  by_cases q : x < y
  · exact Goes.of (fun _ kk => XS.icmpNo S.here C.1 rfl (hb C.2.1 hd) rfl (tlt q).2.1 kk) (Kn q)
  · exact Goes.of (fun _ kk => XS.icmpYes S.here C.1 rfl (pc0 := pc) (pc' := pc') rfl (hb C.2.1 hd) rfl (flt q).2.1 ho.1 ho.2 kk) (Ky q)
theorem w_if_ge (X : Hr p l e R s m args below meth c n0 h cells slots T) (C : Cx p s m meth c code ml ret own nm Z a0 tabs) {pc : Nat} {Ls : Array Slot} {x : Int32} {rest : List Value} {o : Int} (hd : decode code pc = .ok (.ifCond .ge o, 3)) (pc' : Nat) (ho : 0 ≤ (pc : Int) + o ∧ ((pc : Int) + o).toNat = pc') (Ky : ¬ (x < 0) → Goes p e below s n0 P k n T (mkF m pc' Ls rest)) (Kn : x < 0 → Goes p e below s n0 P k n T (mkF m (pc + 3) Ls rest)) : Goes p e below s n0 P k n T (mkF m pc Ls (.int x :: rest)) := by
  obtain ⟨locs, S, -, -, -⟩ := X
  by_cases q : x < 0
  · exact Goes.of (fun _ kk => XS.ifNo S.here C.1 rfl (hb C.2.1 hd) rfl ((if0 _ _).trans (tlt q).2.1) kk) (Kn q)
  · exact Goes.of (fun _ kk => XS.ifYes S.here C.1 rfl (pc0 := pc) (pc' := pc') rfl (hb C.2.1 hd) rfl ((if0 _ _).trans (flt q).2.1) ho.1 ho.2 kk) (Ky q)
theorem w_icmp_gt (X : Hr p l e R s m args below meth c n0 h cells slots T) (C : Cx p s m meth c code ml ret own nm Z a0 tabs) {pc : Nat} {Ls : Array Slot} {x y : Int32} {rest : List Value} {o : Int} (hd : decode code pc = .ok (.if_icmp .gt o, 3)) (pc' : Nat) (ho : 0 ≤ (pc : Int) + o ∧ ((pc : Int) + o).toNat = pc') (Ky : y < x → Goes p e below s n0 P k n T (mkF m pc' Ls rest)) (Kn : ¬ (y < x) → Goes p e below s n0 P k n T (mkF m (pc + 3) Ls rest)) : Goes p e below s n0 P k n T (mkF m pc Ls (.int y :: .int x :: rest)) := by
  obtain ⟨locs, S, -, -, -⟩ := X
  by_cases q : y < x
  · exact Goes.of (fun _ kk => XS.icmpYes S.here C.1 rfl (pc0 := pc) (pc' := pc') rfl (hb C.2.1 hd) rfl (tlt q).2.2.1 ho.1 ho.2 kk) (Ky q)
  · exact Goes.of (fun _ kk => XS.icmpNo S.here C.1 rfl (hb C.2.1 hd) rfl (flt q).2.2.1 kk) (Kn q)
theorem w_if_gt (X : Hr p l e R s m args below meth c n0 h cells slots T) (C : Cx p s m meth c code ml ret own nm Z a0 tabs) {pc : Nat} {Ls : Array Slot} {x : Int32} {rest : List Value} {o : Int} (hd : decode code pc = .ok (.ifCond .gt o, 3)) (pc' : Nat) (ho : 0 ≤ (pc : Int) + o ∧ ((pc : Int) + o).toNat = pc') (Ky : 0 < x → Goes p e below s n0 P k n T (mkF m pc' Ls rest)) (Kn : ¬ (0 < x) → Goes p e below s n0 P k n T (mkF m (pc + 3) Ls rest)) : Goes p e below s n0 P k n T (mkF m pc Ls (.int x :: rest)) := by
  obtain ⟨locs, S, -, -, -⟩ := X
  by_cases q : 0 < x
  · exact Goes.of (fun _ kk => XS.ifYes S.here C.1 rfl (pc0 := pc) (pc' := pc') rfl (hb C.2.1 hd) rfl ((if0 _ _).trans (tlt q).2.2.1) ho.1 ho.2 kk) (Ky q)
  · exact Goes.of (fun _ kk => XS.ifNo S.here C.1 rfl (hb C.2.1 hd) rfl ((if0 _ _).trans (flt q).2.2.1) kk) (Kn q)
theorem w_icmp_le (X : Hr p l e R s m args below meth c n0 h cells slots T) (C : Cx p s m meth c code ml ret own nm Z a0 tabs) {pc : Nat} {Ls : Array Slot} {x y : Int32} {rest : List Value} {o : Int} (hd : decode code pc = .ok (.if_icmp .le o, 3)) (pc' : Nat) (ho : 0 ≤ (pc : Int) + o ∧ ((pc : Int) + o).toNat = pc') (Ky : ¬ (y < x) → Goes p e below s n0 P k n T (mkF m pc' Ls rest)) (Kn : y < x → Goes p e below s n0 P k n T (mkF m (pc + 3) Ls rest)) : Goes p e below s n0 P k n T (mkF m pc Ls (.int y :: .int x :: rest)) := by
  obtain ⟨locs, S, -, -, -⟩ := X
  by_cases q : y < x
  · exact Goes.of (fun _ kk => XS.icmpNo S.here C.1 rfl (hb C.2.1 hd) rfl (tlt q).2.2.2 kk) (Kn q)
  · exact Goes.of (fun _ kk => XS.icmpYes S.here C.1 rfl (pc0 := pc) (pc' := pc') rfl (hb C.2.1 hd) rfl (flt q).2.2.2 ho.1 ho.2 kk) (Ky q)
theorem w_if_le (X : Hr p l e R s m args below meth c n0 h cells slots T) (C : Cx p s m meth c code ml ret own nm Z a0 tabs) {pc : Nat} {Ls : Array Slot} {x : Int32} {rest : List Value} {o : Int} (hd : decode code pc = .ok (.ifCond .le o, 3)) (pc' : Nat) (ho : 0 ≤ (pc : Int) + o ∧ ((pc : Int) + o).toNat = pc') (Ky : ¬ (0 < x) → Goes p e below s n0 P k n T (mkF m pc' Ls rest)) (Kn : 0 < x → Goes p e below s n0 P k n T (mkF m (pc + 3) Ls rest)) : Goes p e below s n0 P k n T (mkF m pc Ls (.int x :: rest)) := by
  obtain ⟨locs, S, -, -, -⟩ := X
  by_cases q : 0 < x
  · exact Goes.of (fun _ kk => XS.ifNo S.here C.1 rfl (hb C.2.1 hd) rfl ((if0 _ _).trans (tlt q).2.2.2) kk) (Kn q)
  · exact Goes.of (fun _ kk => XS.ifYes S.here C.1 rfl (pc0 := pc) (pc' := pc') rfl (hb C.2.1 hd) rfl ((if0 _ _).trans (flt q).2.2.2) ho.1 ho.2 kk) (Ky q)
theorem w_icmp_eq (X : Hr p l e R s m args below meth c n0 h cells slots T) (C : Cx p s m meth c code ml ret own nm Z a0 tabs) {pc : Nat} {Ls : Array Slot} {x y : Int32} {rest : List Value} {o : Int} (hd : decode code pc = .ok (.if_icmp .eq o, 3)) (pc' : Nat) (ho : 0 ≤ (pc : Int) + o ∧ ((pc : Int) + o).toNat = pc') (Ky : x = y → Goes p e below s n0 P k n T (mkF m pc' Ls rest)) (Kn : ¬ (x = y) → Goes p e below s n0 P k n T (mkF m (pc + 3) Ls rest)) : Goes p e below s n0 P k n T (mkF m pc Ls (.int y :: .int x :: rest)) := by
  obtain ⟨locs, S, -, -, -⟩ := X
  by_cases q : x = y
  · exact Goes.of (fun _ kk => XS.icmpYes S.here C.1 rfl (pc0 := pc) (pc' := pc') rfl (hb C.2.1 hd) rfl (teq q).1 ho.1 ho.2 kk) (Ky q)
  · exact Goes.of (fun _ kk => XS.icmpNo S.here C.1 rfl (hb C.2.1 hd) rfl (feq q).1 kk) (Kn q)
theorem w_if_eq (X : Hr p l e R s m args below meth c n0 h cells slots T) (C : Cx p s m meth c code ml ret own nm Z a0 tabs) {pc : Nat} {Ls : Array Slot} {x : Int32} {rest : List Value} {o : Int} (hd : decode code pc = .ok (.ifCond .eq o, 3)) (pc' : Nat) (ho : 0 ≤ (pc : Int) + o ∧ ((pc : Int) + o).toNat = pc') (Ky : x = 0 → Goes p e below s n0 P k n T (mkF m pc' Ls rest)) (Kn : ¬ (x = 0) → Goes p e below s n0 P k n T (mkF m (pc + 3) Ls rest)) : Goes p e below s n0 P k n T (mkF m pc Ls (.int x :: rest)) := by
  obtain ⟨locs, S, -, -, -⟩ := X
  by_cases q : x = 0
  · exact Goes.of (fun _ kk => XS.ifYes S.here C.1 rfl (pc0 := pc) (pc' := pc') rfl (hb C.2.1 hd) rfl ((if0 _ _).trans (teq q).1) ho.1 ho.2 kk) (Ky q)
  · exact Goes.of (fun _ kk => XS.ifNo S.here C.1 rfl (hb C.2.1 hd) rfl ((if0 _ _).trans (feq q).1) kk) (Kn q)
theorem w_icmp_ne (X : Hr p l e R s m args below meth c n0 h cells slots T) (C : Cx p s m meth c code ml ret own nm Z a0 tabs) {pc : Nat} {Ls : Array Slot} {x y : Int32} {rest : List Value} {o : Int} (hd : decode code pc = .ok (.if_icmp .ne o, 3)) (pc' : Nat) (ho : 0 ≤ (pc : Int) + o ∧ ((pc : Int) + o).toNat = pc') (Ky : ¬ (x = y) → Goes p e below s n0 P k n T (mkF m pc' Ls rest)) (Kn : x = y → Goes p e below s n0 P k n T (mkF m (pc + 3) Ls rest)) : Goes p e below s n0 P k n T (mkF m pc Ls (.int y :: .int x :: rest)) := by
  obtain ⟨locs, S, -, -, -⟩ := X
  by_cases q : x = y
  · exact Goes.of (fun _ kk => XS.icmpNo S.here C.1 rfl (hb C.2.1 hd) rfl (teq q).2 kk) (Kn q)
  · exact Goes.of (fun _ kk => XS.icmpYes S.here C.1 rfl (pc0 := pc) (pc' := pc') rfl (hb C.2.1 hd) rfl (feq q).2 ho.1 ho.2 kk) (Ky q)
theorem w_if_ne (X : Hr p l e R s m args below meth c n0 h cells slots T) (C : Cx p s m meth c code ml ret own nm Z a0 tabs) {pc : Nat} {Ls : Array Slot} {x : Int32} {rest : List Value} {o : Int} (hd : decode code pc = .ok (.ifCond .ne o, 3)) (pc' : Nat) (ho : 0 ≤ (pc : Int) + o ∧ ((pc : Int) + o).toNat = pc') (Ky : ¬ (x = 0) → Goes p e below s n0 P k n T (mkF m pc' Ls rest)) (Kn : x = 0 → Goes p e below s n0 P k n T (mkF m (pc + 3) Ls rest)) : Goes p e below s n0 P k n T (mkF m pc Ls (.int x :: rest)) := by
  obtain ⟨locs, S, -, -, -⟩ := X
  by_cases q : x = 0
  · exact Goes.of (fun _ kk => XS.ifNo S.here C.1 rfl (hb C.2.1 hd) rfl ((if0 _ _).trans (teq q).2) kk) (Kn q)
  · exact Goes.of (fun _ kk => XS.ifYes S.here C.1 rfl (pc0 := pc) (pc' := pc') rfl (hb C.2.1 hd) rfl ((if0 _ _).trans (feq q).2) ho.1 ho.2 kk) (Ky q)
theorem cj_lt (x y : Int64) : cmpJ x y < 0 ↔ x < y := lw_lt x y
theorem cj_gt (x y : Int64) : 0 < cmpJ x y ↔ y < x := lw_gt x y
theorem cj_eq (x y : Int64) : cmpJ x y = 0 ↔ x = y := lw_eq x y
theorem w_ifJ_lt (X : Hr p l e R s m args below meth c n0 h cells slots T) (C : Cx p s m meth c code ml ret own nm Z a0 tabs) {pc : Nat} {Ls : Array Slot} {x y : Int64} {rest : List Value} {o : Int} (hd : decode code pc = .ok (.ifCond .lt o, 3)) (pc' : Nat) (ho : 0 ≤ (pc : Int) + o ∧ ((pc : Int) + o).toNat = pc') (Ky : x < y → Goes p e below s n0 P k n T (mkF m pc' Ls rest)) (Kn : ¬ (x < y) → Goes p e below s n0 P k n T (mkF m (pc + 3) Ls rest)) : Goes p e below s n0 P k n T (mkF m pc Ls (.int (cmpJ x y) :: rest)) :=
  w_if_lt X C hd pc' ho (fun q => Ky ((cj_lt _ _).mp q)) (fun q => Kn (fun r => q ((cj_lt _ _).mpr r)))
theorem w_ifJ_ge (X : Hr p l e R s m args below meth c n0 h cells slots T) (C : Cx p s m meth c code ml ret own nm Z a0 tabs) {pc : Nat} {Ls : Array Slot} {x y : Int64} {rest : List Value} {o : Int} (hd : decode code pc = .ok (.ifCond .ge o, 3)) (pc' : Nat) (ho : 0 ≤ (pc : Int) + o ∧ ((pc : Int) + o).toNat = pc') (Ky : ¬ (x < y) → Goes p e below s n0 P k n T (mkF m pc' Ls rest)) (Kn : x < y → Goes p e below s n0 P k n T (mkF m (pc + 3) Ls rest)) : Goes p e below s n0 P k n T (mkF m pc Ls (.int (cmpJ x y) :: rest)) :=
  w_if_ge X C hd pc' ho (fun q => Ky (fun r => q ((cj_lt _ _).mpr r))) (fun q => Kn ((cj_lt _ _).mp q))
theorem w_ifJ_gt (X : Hr p l e R s m args below meth c n0 h cells slots T) (C : Cx p s m meth c code ml ret own nm Z a0 tabs) {pc : Nat} {Ls : Array Slot} {x y : Int64} {rest : List Value} {o : Int} (hd : decode code pc = .ok (.ifCond .gt o, 3)) (pc' : Nat) (ho : 0 ≤ (pc : Int) + o ∧ ((pc : Int) + o).toNat = pc') (Ky : y < x → Goes p e below s n0 P k n T (mkF m pc' Ls rest)) (Kn : ¬ (y < x) → Goes p e below s n0 P k n T (mkF m (pc + 3) Ls rest)) : Goes p e below s n0 P k n T (mkF m pc Ls (.int (cmpJ x y) :: rest)) :=
  w_if_gt X C hd pc' ho (fun q => Ky ((cj_gt _ _).mp q)) (fun q => Kn (fun r => q ((cj_gt _ _).mpr r)))
theorem w_ifJ_le (X : Hr p l e R s m args below meth c n0 h cells slots T) (C : Cx p s m meth c code ml ret own nm Z a0 tabs) {pc : Nat} {Ls : Array Slot} {x y : Int64} {rest : List Value} {o : Int} (hd : decode code pc = .ok (.ifCond .le o, 3)) (pc' : Nat) (ho : 0 ≤ (pc : Int) + o ∧ ((pc : Int) + o).toNat = pc') (Ky : ¬ (y < x) → Goes p e below s n0 P k n T (mkF m pc' Ls rest)) (Kn : y < x → Goes p e below s n0 P k n T (mkF m (pc + 3) Ls rest)) : Goes p e below s n0 P k n T (mkF m pc Ls (.int (cmpJ x y) :: rest)) :=
  w_if_le X C hd pc' ho (fun q => Ky (fun r => q ((cj_gt _ _).mpr r))) (fun q => Kn ((cj_gt _ _).mp q))
theorem w_ifJ_eq (X : Hr p l e R s m args below meth c n0 h cells slots T) (C : Cx p s m meth c code ml ret own nm Z a0 tabs) {pc : Nat} {Ls : Array Slot} {x y : Int64} {rest : List Value} {o : Int} (hd : decode code pc = .ok (.ifCond .eq o, 3)) (pc' : Nat) (ho : 0 ≤ (pc : Int) + o ∧ ((pc : Int) + o).toNat = pc') (Ky : x = y → Goes p e below s n0 P k n T (mkF m pc' Ls rest)) (Kn : ¬ (x = y) → Goes p e below s n0 P k n T (mkF m (pc + 3) Ls rest)) : Goes p e below s n0 P k n T (mkF m pc Ls (.int (cmpJ x y) :: rest)) :=
  w_if_eq X C hd pc' ho (fun q => Ky ((cj_eq _ _).mp q)) (fun q => Kn (fun r => q ((cj_eq _ _).mpr r)))
theorem w_ifJ_ne (X : Hr p l e R s m args below meth c n0 h cells slots T) (C : Cx p s m meth c code ml ret own nm Z a0 tabs) {pc : Nat} {Ls : Array Slot} {x y : Int64} {rest : List Value} {o : Int} (hd : decode code pc = .ok (.ifCond .ne o, 3)) (pc' : Nat) (ho : 0 ≤ (pc : Int) + o ∧ ((pc : Int) + o).toNat = pc') (Ky : ¬ (x = y) → Goes p e below s n0 P k n T (mkF m pc' Ls rest)) (Kn : x = y → Goes p e below s n0 P k n T (mkF m (pc + 3) Ls rest)) : Goes p e below s n0 P k n T (mkF m pc Ls (.int (cmpJ x y) :: rest)) :=
  w_if_ne X C hd pc' ho (fun q => Ky (fun r => q ((cj_eq _ _).mpr r))) (fun q => Kn ((cj_eq _ _).mp q))
theorem w_ifnull_no (X : Hr p l e R s m args below meth c n0 h cells slots T) (C : Cx p s m meth c code ml ret own nm Z a0 tabs) {pc : Nat} {Ls : Array Slot} {a : Addr} {rest : List Value} {o : Int} (hd : decode code pc = .ok (.ifnull o, 3)) (K : Goes p e below s n0 P k n T (mkF m (pc + 3) Ls rest)) : Goes p e below s n0 P k n T (mkF m pc Ls (.ref a :: rest)) := by
  obtain ⟨locs, S, -, -, -⟩ := X
  exact Goes.of (fun _ kk => XS.ifnullNo S.here C.1 rfl (hb C.2.1 hd) rfl kk) K
theorem w_retI (X : Hr p l e R s m args below meth c n0 h cells slots T) (C : Cx p s m meth c code ml (some .int) own nm Z a0 tabs) {pc : Nat} {Ls : Array Slot} {z : Int32} {rest : List Value} (hd : decode code pc = .ok (.ireturn, 1)) (hP : P (some (.int z)) h) (hk : cells ≤ k := by decide) (hn : slots ≤ n := by decide) : Goes p e below s n0 P k n T (mkF m pc Ls (.int z :: rest)) := by
  obtain ⟨locs, S, eT, N, -⟩ := X
  obtain ⟨fs, hr, hrun, hended, hW, hsame⟩ := S.leave (v := some (.int z)) (fun h => by rw [C.2.2.2.1] at h; cases h) C.2.2.2.2.1
  refine ⟨_, _, retI' S C.1 C.2.2.2.1 (hb C.2.1 hd) hr, hrun, hended, _, _, rfl, ⟨N, ?_⟩, ⟨_, rfl⟩, hW, hsame.mono hk hn⟩
  show P _ T.heap
  rw [eT]
  exact hP
theorem w_ret_boolean (X : Hr p l e R s m args below meth c n0 h cells slots T) (C : Cx p s m meth c code ml (some .boolean) own nm Z a0 tabs) {pc : Nat} {Ls : Array Slot} {z : Int32} {rest : List Value} (hd : decode code pc = .ok (.ireturn, 1)) (hP : P (some (.int (z &&& 1))) h) (hk : cells ≤ k := by decide) (hn : slots ≤ n := by decide) : Goes p e below s n0 P k n T (mkF m pc Ls (.int z :: rest)) := by
  obtain ⟨locs, S, eT, N, -⟩ := X
  obtain ⟨fs, hr, hrun, hended, hW, hsame⟩ := S.leave (v := some (.int (z &&& 1))) (fun h => by rw [C.2.2.2.1] at h; cases h) C.2.2.2.2.1
  refine ⟨_, _, retN S C.1 (t := .boolean) C.2.2.2.1 (by simp) (hb C.2.1 hd) hr, hrun, hended, _, _, rfl, ⟨N, ?_⟩, ⟨_, rfl⟩, hW, hsame.mono hk hn⟩
  show P _ T.heap
  rw [eT]
  exact hP
theorem w_ret_byte (X : Hr p l e R s m args below meth c n0 h cells slots T) (C : Cx p s m meth c code ml (some .byte) own nm Z a0 tabs) {pc : Nat} {Ls : Array Slot} {z : Int32} {rest : List Value} (hd : decode code pc = .ok (.ireturn, 1)) (hP : P (some (.int (i8 z))) h) (hk : cells ≤ k := by decide) (hn : slots ≤ n := by decide) : Goes p e below s n0 P k n T (mkF m pc Ls (.int z :: rest)) := by
  obtain ⟨locs, S, eT, N, -⟩ := X
  obtain ⟨fs, hr, hrun, hended, hW, hsame⟩ := S.leave (v := some (.int (i8 z))) (fun h => by rw [C.2.2.2.1] at h; cases h) C.2.2.2.2.1
  refine ⟨_, _, retN S C.1 (t := .byte) C.2.2.2.1 (by simp) (hb C.2.1 hd) hr, hrun, hended, _, _, rfl, ⟨N, ?_⟩, ⟨_, rfl⟩, hW, hsame.mono hk hn⟩
  show P _ T.heap
  rw [eT]
  exact hP
theorem w_ret_char (X : Hr p l e R s m args below meth c n0 h cells slots T) (C : Cx p s m meth c code ml (some .char) own nm Z a0 tabs) {pc : Nat} {Ls : Array Slot} {z : Int32} {rest : List Value} (hd : decode code pc = .ok (.ireturn, 1)) (hP : P (some (.int (i16c z))) h) (hk : cells ≤ k := by decide) (hn : slots ≤ n := by decide) : Goes p e below s n0 P k n T (mkF m pc Ls (.int z :: rest)) := by
  obtain ⟨locs, S, eT, N, -⟩ := X
  obtain ⟨fs, hr, hrun, hended, hW, hsame⟩ := S.leave (v := some (.int (i16c z))) (fun h => by rw [C.2.2.2.1] at h; cases h) C.2.2.2.2.1
  refine ⟨_, _, retN S C.1 (t := .char) C.2.2.2.1 (by simp) (hb C.2.1 hd) hr, hrun, hended, _, _, rfl, ⟨N, ?_⟩, ⟨_, rfl⟩, hW, hsame.mono hk hn⟩
  show P _ T.heap
  rw [eT]
  exact hP
theorem w_retJ (X : Hr p l e R s m args below meth c n0 h cells slots T) (C : Cx p s m meth c code ml (some .long) own nm Z a0 tabs) {pc : Nat} {Ls : Array Slot} {z : Int64} (hd : decode code pc = .ok (.lreturn, 1)) (hP : P (some (.long z)) h) (hk : cells ≤ k := by decide) (hn : slots ≤ n := by decide) : Goes p e below s n0 P k n T (mkF m pc Ls [.long z]) := by
  obtain ⟨locs, S, eT, N, -⟩ := X
  obtain ⟨fs, hr, hrun, hended, hW, hsame⟩ := S.leave (v := some (.long z)) (fun h => by rw [C.2.2.2.1] at h; cases h) C.2.2.2.2.1
  refine ⟨_, _, S.lreturnOut C.1 C.2.2.2.1 (hb C.2.1 hd) hr, hrun, hended, _, _, rfl, ⟨N, ?_⟩, ⟨_, rfl⟩, hW, hsame.mono hk hn⟩
  show P _ T.heap
  rw [eT]
  exact hP
theorem w_retR (X : Hr p l e R s m args below meth c n0 h cells slots T) (C : Cx p s m meth c code ml ret own nm Z a0 tabs) {pc : Nat} {Ls : Array Slot} {t : FieldType} {a : Addr} {rest : List Value} (ht : t.isReference = true) (hret : ret = some t) (hd : decode code pc = .ok (.areturn, 1)) (hP : P (some (.ref a)) h) (hk : cells ≤ k := by decide) (hn : slots ≤ n := by decide) : Goes p e below s n0 P k n T (mkF m pc Ls (.ref a :: rest)) := by
  subst hret
  obtain ⟨locs, S, eT, N, -⟩ := X
  obtain ⟨fs, hr, hrun, hended, hW, hsame⟩ := S.leave (v := some (.ref a)) (fun h => by rw [C.2.2.2.1] at h; cases h) C.2.2.2.2.1
  refine ⟨_, _, retOut S C.1 C.2.2.2.1 (by cases t <;> rfl) (Or.inr (Or.inr (Or.inr (Or.inr ⟨rfl, ht, rfl⟩)))) (hb C.2.1 hd) hr, hrun, hended, _, _, rfl, ⟨N, ?_⟩, ⟨_, rfl⟩, hW, hsame.mono hk hn⟩
  show P _ T.heap
  rw [eT]
  exact hP
theorem w_retV (X : Hr p l e R s m args below meth c n0 h cells slots T) (C : Cx p s m meth c code ml none own nm Z a0 tabs) {pc : Nat} {Ls : Array Slot} (hd : decode code pc = .ok (.return_, 1)) (hP : P none h) (hk : cells ≤ k := by decide) (hn : slots ≤ n := by decide) : Goes p e below s n0 P k n T (mkF m pc Ls []) := by
  obtain ⟨locs, S, eT, N, -⟩ := X
  obtain ⟨fs, hr, hrun, hended, hW, hsame⟩ := S.leave (v := none) (fun _ => rfl) C.2.2.2.2.1
  refine ⟨_, _, S.returnOut C.1 C.2.2.2.1 (hb C.2.1 hd) hr, hrun, hended, _, _, rfl, ⟨N, ?_⟩, ⟨_, rfl⟩, hW, hsame.mono hk hn⟩
  show P _ T.heap
  rw [eT]
  exact hP
theorem w_callS (X : Hr p l e R s m args below meth c n0 h cells slots T) (C : Cx p s m meth c code ml ret own nm Z a0 tabs) {pc index : Nat} {Ls : Array Slot} {y : MethodName} {bytes : ByteArray} {maxL : Nat} {rt : Option FieldType} {rm : Room} {P' : Option Value → Heap → Prop} {argsL rest st : List Value} (hd : decode code pc = .ok (.invokestatic index, 3)) (i1 : Jvm.Cond.methodLink own index y ∈ tabs) (i2 : Jvm.Cond.static y ∈ tabs) (i3 : Jvm.Cond.initialized y.cls ∈ tabs) (i4 : Jvm.Cond.code y bytes maxL rt ∈ tabs) (hy : y.cls ≠ "java/lang/invoke/MethodHandle" ∧ y.cls ≠ "java/lang/invoke/VarHandle") {W : Nat} (hM : Ct l y bytes maxL rt rm Z argsL.toArray h n0 P') (hls : Ls.size = ml) (hlen : ∃ ps r, parseMethodDescriptor y.desc = some ⟨ps, r⟩ ∧ argsL.length = ps.length) (hst : st = argsL.reverse ++ rest) (hW : (rest.map fun v => v.category).sum ≤ W) (hf : rm.frames + 1 ≤ R.frames) (hl : W + (maxL + 11) + rm.locals ≤ R.locals) (hc : cells + rm.cells ≤ R.cells) (hs : slots + rm.slots ≤ R.slots)
    (K : ∀ v T', P' v T'.heap → Hr p l e R s m args below meth c n0 T'.heap (cells + rm.cells) (slots + rm.slots) T' → Goes p e below s n0 P k n T' (mkF m (pc + 3) Ls (v.toList ++ rest))) : Goes p e below s n0 P k n T (mkF m pc Ls st) := by
  obtain ⟨locs, S, eT, N, q0⟩ := X
  obtain ⟨ps, r, hp1, hp2⟩ := hlen
  have hZ := C.2.2.2.2.2.2.2.1
  have hw := C.2.2.2.2.2.2.2.2
  obtain ⟨v, _, ⟨T', L', k', n'⟩, -, X', ⟨Lc, hQ, l1, l2, l3⟩, stp⟩ := Jvm.LawKit.callS S C.1 (y := y) C.2.2.2.2.2.1 (mvT hZ (hw _ i1)) (mvT hZ (hw _ i2)) (mvT hZ (hw _ i3)) (mvT hZ (hw _ i4)) hy (backOf (W := W) (Q := fun v hp L => Fr n0 L ∧ P' v hp) (hM []) C.2.2.2.2.2.2.2.1 (C.2.2.2.2.2.2.2.2 _ i4) (C.2.2.2.2.2.2.2.2 _ i3) hf hl) (g := mkF m pc Ls st) rfl (by rw [C.2.2.1]; exact hls) (argsL := argsL) (rest := rest) (lenOf hp1 hp2) hst (by show 2 * 0 + _ ≤ _; rw [Nat.mul_zero, Nat.zero_add]; exact hW) (hb C.2.1 hd) (fun _ _ => ⟨rfl, eT, hc, hs⟩)
  dsimp only [Pt.U, Pt.locs, Pt.cells, Pt.slots] at X' l1 l2 l3 stp hQ
  subst l1 l2 l3
  exact Goes.of stp (K v T' hQ.2 ⟨_, X', rfl, Fr.app N hQ.1, q0⟩)
theorem w_callI (X : Hr p l e R s m args below meth c n0 h cells slots T) (C : Cx p s m meth c code ml ret own nm Z a0 tabs) {pc index : Nat} {Ls : Array Slot} {y : MethodName} {bytes : ByteArray} {maxL : Nat} {rm : Room} {P' : Option Value → Heap → Prop} {a : Addr} {argsL rest st : List Value} (hd : decode code pc = .ok (.invokespecial index, 3)) (i1 : Jvm.Cond.methodLink own index y ∈ tabs) (i2 : Jvm.Cond.instanceMethod y ∈ tabs) (i3 : Jvm.Cond.initialized y.cls ∈ tabs) (i4 : Jvm.Cond.code y bytes maxL none ∈ tabs) (hn1 : y.name = "<init>") (hy : y.cls ≠ "java/lang/invoke/MethodHandle" ∧ y.cls ≠ "java/lang/invoke/VarHandle") {W : Nat} (hM : Ct l y bytes maxL none rm Z (.ref a :: argsL).toArray h n0 P') (hls : Ls.size = ml) (hlen : ∃ ps r, parseMethodDescriptor y.desc = some ⟨ps, r⟩ ∧ argsL.length = ps.length) (hst : st = argsL.reverse ++ .ref a :: rest) (hW : (rest.map fun v => v.category).sum ≤ W) (hf : rm.frames + 1 ≤ R.frames) (hl : W + (maxL + 11) + rm.locals ≤ R.locals) (hc : cells + rm.cells ≤ R.cells) (hs : slots + rm.slots ≤ R.slots)
    (K : ∀ v T', P' v T'.heap → Hr p l e R s m args below meth c n0 T'.heap (cells + rm.cells) (slots + rm.slots) T' → Goes p e below s n0 P k n T' (mkF m (pc + 3) Ls (v.toList ++ rest))) : Goes p e below s n0 P k n T (mkF m pc Ls st) := by
  obtain ⟨locs, S, eT, N, q0⟩ := X
  obtain ⟨ps, r, hp1, hp2⟩ := hlen
  have hZ := C.2.2.2.2.2.2.2.1
  have hw := C.2.2.2.2.2.2.2.2
  obtain ⟨v, _, ⟨T', L', k', n'⟩, -, X', ⟨Lc, hQ, l1, l2, l3⟩, stp⟩ := S.specialBack C.1 (y := y) hn1 C.2.2.2.2.2.1 (mvT hZ (hw _ i1)) (mvT hZ (hw _ i2)) (mvT hZ (hw _ i4)) hy (backOf (W := W) (Q := fun v hp L => Fr n0 L ∧ P' v hp) (hM []) C.2.2.2.2.2.2.2.1 (C.2.2.2.2.2.2.2.2 _ i4) (C.2.2.2.2.2.2.2.2 _ i3) hf hl) (g := mkF m pc Ls st) rfl (by rw [C.2.2.1]; exact hls) (Steps.refl _) (a := a) (argsL := argsL) (rest := rest) (lenOf hp1 hp2) hst (by show 2 * 0 + _ ≤ _; rw [Nat.mul_zero, Nat.zero_add]; exact hW) (hb C.2.1 hd) (fun _ _ => ⟨rfl, eT, hc, hs⟩)
  dsimp only [Pt.U, Pt.locs, Pt.cells, Pt.slots] at X' l1 l2 l3 stp hQ
  subst l1 l2 l3
  exact Goes.of (fun _ kk => stp.trans kk) (K v T' hQ.2 ⟨_, X', rfl, Fr.app N hQ.1, q0⟩)
theorem w_callV (X : Hr p l e R s m args below meth c n0 h cells slots T) (C : Cx p s m meth c code ml ret own nm Z a0 tabs) {pc index : Nat} {Ls : Array Slot} {y : MethodName} {bytes : ByteArray} {maxL : Nat} {rt : Option FieldType} {rm : Room} {P' : Option Value → Heap → Prop} {a : Addr} {argsL rest st : List Value} (hd : decode code pc = .ok (.invokevirtual index, 3)) (i1 : Jvm.Cond.methodLink own index y ∈ tabs) (i2 : Jvm.Cond.instanceMethod y ∈ tabs) (i3 : Jvm.Cond.initialized y.cls ∈ tabs) (i4 : Jvm.Cond.code y bytes maxL rt ∈ tabs) (i5 : Jvm.Cond.declares y ∈ tabs) (i6 : Jvm.Cond.selects y.cls y y ∈ tabs) (E : Exa Z h a y.cls) (hy : y.cls ≠ "java/lang/invoke/MethodHandle" ∧ y.cls ≠ "java/lang/invoke/VarHandle") {W : Nat} (hM : Ct l y bytes maxL rt rm Z (.ref a :: argsL).toArray h n0 P') (hls : Ls.size = ml) (hlen : ∃ ps r, parseMethodDescriptor y.desc = some ⟨ps, r⟩ ∧ argsL.length = ps.length) (hst : st = argsL.reverse ++ .ref a :: rest) (hW : (rest.map fun v => v.category).sum ≤ W) (hf : rm.frames + 1 ≤ R.frames) (hl : W + (maxL + 11) + rm.locals ≤ R.locals) (hc : cells + rm.cells ≤ R.cells) (hs : slots + rm.slots ≤ R.slots)
    (K : ∀ v T', P' v T'.heap → Hr p l e R s m args below meth c n0 T'.heap (cells + rm.cells) (slots + rm.slots) T' → Goes p e below s n0 P k n T' (mkF m (pc + 3) Ls (v.toList ++ rest))) : Goes p e below s n0 P k n T (mkF m pc Ls st) := by
  obtain ⟨locs, S, eT, N, q0⟩ := X
  obtain ⟨ps, r, hp1, hp2⟩ := hlen
  have hZ := C.2.2.2.2.2.2.2.1
  have hw := C.2.2.2.2.2.2.2.2
  obtain ⟨cB, kB, qa, qb, qc⟩ := isOf hZ eT E
  obtain ⟨v, _, ⟨T', L', k', n'⟩, -, X', ⟨Lc, hQ, l1, l2, l3⟩, stp⟩ := S.virtualBack C.1 (y := y) (z := y) C.2.2.2.2.2.1 (mvT hZ (hw _ i1)) (mvT hZ (hw _ i5)) (notFace_of_selects (args := #[]) (mvT hZ (hw _ i6))) (mvT hZ (hw _ i6)) (mvT hZ (hw _ i2)) hy (backOf (W := W) (Q := fun v hp L => Fr n0 L ∧ P' v hp) (hM []) C.2.2.2.2.2.2.2.1 (C.2.2.2.2.2.2.2.2 _ i4) (C.2.2.2.2.2.2.2.2 _ i3) hf hl) qa qc (g := mkF m pc Ls st) rfl (by rw [C.2.2.1]; exact hls) (Steps.refl _) (argsL := argsL) (rest := rest) (lenOf hp1 hp2) hst (by show 2 * 0 + _ ≤ _; rw [Nat.mul_zero, Nat.zero_add]; exact hW) (hb C.2.1 hd) (fun _ _ => ⟨rfl, eT, hc, hs⟩)
  dsimp only [Pt.U, Pt.locs, Pt.cells, Pt.slots] at X' l1 l2 l3 stp hQ
  subst l1 l2 l3
  exact Goes.of (fun _ kk => stp.trans kk) (K v T' hQ.2 ⟨_, X', rfl, Fr.app N hQ.1, q0⟩)
theorem w_callP (X : Hr p l e R s m args below meth c n0 h cells slots T) (C : Cx p s m meth c code ml ret own nm Z a0 tabs) {pc index : Nat} {Ls : Array Slot} {y : MethodName} {bytes : ByteArray} {maxL : Nat} {rt : Option FieldType} {rm : Room} {w : Value} {argsL rest st : List Value} {W : Nat} (hd : decode code pc = .ok (.invokestatic index, 3)) (i1 : Jvm.Cond.methodLink own index y ∈ tabs) (i2 : Jvm.Cond.static y ∈ tabs) (i3 : Jvm.Cond.initialized y.cls ∈ tabs) (i4 : Jvm.Cond.code y bytes maxL rt ∈ tabs) (hy : y.cls ≠ "java/lang/invoke/MethodHandle" ∧ y.cls ≠ "java/lang/invoke/VarHandle") (hM : Ct l y bytes maxL rt rm Z argsL.toArray h n0 (fun v hp => v = some w ∧ hp = h)) (hr0 : rm.cells = 0) (hr1 : rm.slots = 0) (hls : Ls.size = ml) (hlen : ∃ ps r, parseMethodDescriptor y.desc = some ⟨ps, r⟩ ∧ argsL.length = ps.length) (hst : st = argsL.reverse ++ rest) (hW : (rest.map fun v => v.category).sum ≤ W) (hf : rm.frames + 1 ≤ R.frames) (hl : W + (maxL + 11) + rm.locals ≤ R.locals) (hc : cells ≤ R.cells) (hs : slots ≤ R.slots)
    (K : ∀ T', Hr p l e R s m args below meth c n0 h cells slots T' → Goes p e below s n0 P k n T' (mkF m (pc + 3) Ls (w :: rest))) : Goes p e below s n0 P k n T (mkF m pc Ls st) := by
  refine w_callS X C hd i1 i2 i3 i4 hy hM hls hlen hst hW hf hl (by rw [hr0]; exact hc) (by rw [hr1]; exact hs) ?_
  rintro v T' ⟨rfl, e1⟩ X'
  rw [e1, hr0, hr1] at X'
  exact K T' X'
theorem w_initO (X : Hr p l e R s m args below meth c n0 h cells slots T) (C : Cx p s m meth c code ml ret own nm Z a0 tabs) {pc index : Nat} {Ls : Array Slot} {a : Addr} {rest : List Value} (hd : decode code pc = .ok (.invokespecial index, 3)) (i1 : Jvm.Cond.methodLink own index Lib.objectInit ∈ tabs) (i2 : Jvm.Cond.instanceMethod Lib.objectInit ∈ tabs) (i3 : Jvm.Cond.code Lib.objectInit ⟨#[0xb1]⟩ 1 none ∈ tabs) (hls : Ls.size = ml) {W : Nat} (hW : (rest.map fun v => v.category).sum ≤ W) (hf : 1 ≤ R.frames) (hl : W + 12 ≤ R.locals)
    (K : ∀ T', Hr p l e R s m args below meth c n0 h cells slots T' → Goes p e below s n0 P k n T' (mkF m (pc + 3) Ls rest)) : Goes p e below s n0 P k n T (mkF m pc Ls (.ref a :: rest)) := by
  obtain ⟨locs, S, eT, N, q0⟩ := X
  have hZ := C.2.2.2.2.2.2.2.1
  have hw := C.2.2.2.2.2.2.2.2
  obtain ⟨T', X', e', st⟩ := initO S C.1 hZ C.2.2.2.2.2.1 (hw _ i1) (hw _ i2) (hw _ i3) eT (g := mkF m pc Ls (.ref a :: rest)) rfl (by rw [C.2.2.1]; exact hls) rfl (hb C.2.1 hd) hf (W := W) (by show 2 * 0 + _ ≤ _; rw [Nat.mul_zero, Nat.zero_add]; exact hW) hl
  exact Goes.of st (K T' ⟨_, X', e', N, q0⟩)
theorem w_getfield (X : Hr p l e R s m args below meth c n0 h cells slots T) (C : Cx p s m meth c code ml ret own nm Z a0 tabs) {pc index : Nat} {Ls : Array Slot} {O nf d : String} {a : Addr} {v : Value} {rest : List Value} (hd : decode code pc = .ok (.getfield index, 3)) (i1 : Jvm.Cond.fieldLink own index O nf d ∈ tabs) (F : Fld Z h a O nf d v)
    (K : ∀ T', Hr p l e R s m args below meth c n0 h cells slots T' → Goes p e below s n0 P k n T' (mkF m (pc + 3) Ls (v :: rest))) : Goes p e below s n0 P k n T (mkF m pc Ls (.ref a :: rest)) := by
  obtain ⟨locs, S, eT, N, q0⟩ := X
  obtain ⟨T', X', e', st⟩ := getF S C.1 C.2.2.2.2.2.2.2.1 C.2.2.2.2.2.1 (host := "") (Or.inl (C.2.2.2.2.2.2.2.2 _ i1)) Via.refl eT F (g := mkF m pc Ls (.ref a :: rest)) rfl rfl (hb C.2.1 hd)
  exact Goes.of st (K T' ⟨_, X', e', N, q0⟩)
theorem w_putfield (X : Hr p l e R s m args below meth c n0 h cells slots T) (C : Cx p s m meth c code ml ret own nm Z a0 tabs) {pc index kk0 : Nat} {Ls : Array Slot} {O nf d Cc : String} {ty : FieldType} {a : Addr} {v old : Value} {rest : List Value} (hd : decode code pc = .ok (.putfield index, 3)) (i1 : Jvm.Cond.fieldLink own index O nf d ∈ tabs) (F : Fld Z h a O nf d old) (E : Exa Z h a Cc) (i2 : Jvm.Cond.lays Cc O nf d ∈ tabs ∨ (Jvm.Cond.laysFinal Cc O nf d ∈ tabs ∧ own = O ∧ nm = "<init>")) (i3 : Jvm.Cond.instantiable Cc kk0 ∈ tabs) (hty : parseFieldDescriptor d = some ty) (hnw : narrow ty v = v) (hft : fits ty v = true) (ha : n0 ≤ a)
    (K : ∀ T' h', Hr p l e R s m args below meth c n0 h' cells slots T' → Wr h h' a (Jvm.RoadKit.slotOf Z O nf d) v → Fld Z h' a O nf d v → Exa Z h' a Cc → Goes p e below s n0 P k n T' (mkF m (pc + 3) Ls rest)) : Goes p e below s n0 P k n T (mkF m pc Ls (v :: .ref a :: rest)) := by
  obtain ⟨locs, S, eT, N, q0⟩ := X
  have hw := C.2.2.2.2.2.2.2.2
  obtain ⟨T', h', X', e', W', st⟩ := putF S C.1 C.2.2.2.2.2.2.2.1 C.2.2.2.2.2.1 (host := "") (Or.inl (hw _ i1)) Via.refl eT F E (i2.imp (fun q => hw _ q) (fun q => ⟨hw _ q.1, q.2.1, by rw [C.2.2.2.2.2.2.1]; exact q.2.2⟩)) (hw _ i3) hty hnw hft (g := mkF m pc Ls (v :: .ref a :: rest)) rfl rfl (hb C.2.1 hd)
  exact Goes.of st (K T' h' ⟨_, X', e', Fr.snoc X' N ha, q0⟩ W' (F.same W') (E.wr W'))
theorem w_new (X : Hr p l e R s m args below meth c n0 h cells slots T) (C : Cx p s m meth c code ml ret own nm Z a0 tabs) {pc index nn : Nat} {Ls : Array Slot} {Cc : String} {rest : List Value} (hd : decode code pc = .ok (.new index, 3)) (i1 : Jvm.Cond.classLink own index Cc ∈ tabs) (i2 : Jvm.Cond.instantiable Cc nn ∈ tabs) (i3 : Jvm.Cond.initialized Cc ∈ tabs) (hc : cells + 1 ≤ R.cells) (hl : slots + nn ≤ R.slots)
    (K : ∀ T' h' a, a = h.size → n0 ≤ a → Hr p l e R s m args below meth c n0 h' (cells + 1) (slots + nn) T' → Ext h h' → Exa Z h' a Cc → (∀ {O nf d : String} {ty : FieldType}, (Jvm.Cond.lays Cc O nf d ∈ tabs ∨ Jvm.Cond.laysFinal Cc O nf d ∈ tabs) → parseFieldDescriptor d = some ty → Fld Z h' a O nf d (defaultValue ty)) → Goes p e below s n0 P k n T' (mkF m (pc + 3) Ls (.ref a :: rest))) : Goes p e below s n0 P k n T (mkF m pc Ls rest) := by
  have hsz := X.size
  obtain ⟨locs, S, eT, N, q0⟩ := X
  have hw := C.2.2.2.2.2.2.2.2
  obtain ⟨T', h', X', e', E', A', D', -, st⟩ := newO S C.1 C.2.2.2.2.2.2.2.1 C.2.2.2.2.2.1 (hw _ i1) (hw _ i2) (hw _ i3) eT (g := mkF m pc Ls rest) rfl (hb C.2.1 hd) hc hl
  exact Goes.of st (K T' h' h.size rfl hsz ⟨_, X', e', N, q0⟩ E' A' (fun q ht => D' (q.imp (fun z => hw _ z) (fun z => hw _ z)) ht))
theorem ArV.lt {a : Addr} {ty : FieldType} {N : Nat} {f : Nat → Value} (A : ArV Z h a ty N f) : a < h.size := by obtain ⟨cl, A, -⟩ := A; exact A.lt
theorem ArV.ext {a : Addr} {ty : FieldType} {N : Nat} {f : Nat → Value} (A : ArV Z h a ty N f) (E : Ext h h') : ArV Z h' a ty N f := by obtain ⟨cl, A, r⟩ := A; exact ⟨cl, A.ext E, r⟩
theorem ArV.other {a b : Addr} {ty : FieldType} {N sl : Nat} {v : Value} {f : Nat → Value} (A : ArV Z h b ty N f) (W : Wr h h' a sl v) (q : b ≠ a) : ArV Z h' b ty N f := by obtain ⟨cl, A, r⟩ := A; exact ⟨cl, A.other W q, r⟩
theorem ArV.keep {a : Addr} {ty : FieldType} {N : Nat} {f : Nat → Value} {ws : List Addr} (A : ArV Z h a ty N f) (K : Keep h h' ws) (q : a ∉ ws) : ArV Z h' a ty N f := by obtain ⟨c, A, r⟩ := A; exact ⟨c, ⟨K.2.1 a c A.1 q, A.2⟩, r⟩
theorem ArV.congr {a : Addr} {ty : FieldType} {N : Nat} {f f' : Nat → Value} (A : ArV Z h a ty N f) (q : ∀ i, i < N → f' i = f i) : ArV Z h a ty N f' := by obtain ⟨c, A, r1, r2⟩ := A; exact ⟨c, A, r1, fun i hi => by rw [q i hi]; exact r2 i hi⟩
theorem ArV.same {a : Addr} {ty : FieldType} {N j : Nat} {v : Value} {f : Nat → Value} (A : ArV Z h a ty N f) (W : Wr h h' a j v) : ArV Z h' a ty N (up f j v) := by
  obtain ⟨c, A, r1, r2⟩ := A
  refine ⟨_, A.same W, by rw [sz_set]; exact r1, fun i hi => ?_⟩
  unfold up
  by_cases q : i = j
  · subst q; simp [Cell.setSlot, r1, hi]
  · simp only [q, if_false, Cell.setSlot]
    rw [Array.getElem?_setIfInBounds_ne (fun z => q z.symm)]
    exact r2 i hi
theorem up_int (g : Nat → Int32) (j : Nat) (x : Int32) : (fun i => Value.int (up g j x i)) = up (fun i => Value.int (g i)) j (.int x) := by
  funext i; unfold up; split <;> rfl
theorem up_long (g : Nat → Int64) (j : Nat) (x : Int64) : (fun i => Value.long (up g j x i)) = up (fun i => Value.long (g i)) j (.long x) := by
  funext i; unfold up; split <;> rfl
theorem in_of {a : Addr} {ty : FieldType} {N i : Nat} {j : Int32} {cl : Cell} (hi : j.toInt = i) (hN : i < N) (r1 : cl.slots.size = N) : ¬ (j < 0 ∨ cl.slots.size ≤ j.toNatClampNeg) ∧ j.toNatClampNeg = i := by
  have e0 : (0 : Int32).toInt = 0 := rfl
  have e1 : j.toNatClampNeg = i := by simp only [Int32.toNatClampNeg, hi]; omega
  refine ⟨?_, e1⟩
  rw [e1, r1, Int32.lt_iff_toInt_lt, e0]; omega
theorem w_baload (X : Hr p l e R s m args below meth c n0 h cells slots T) (C : Cx p s m meth c code ml ret own nm Z a0 tabs) {pc N : Nat} {Ls : Array Slot} {a : Addr} {g : Nat → Int32} {j : Int32} {rest : List Value} (hd : decode code pc = .ok (.baload, 1)) (A : ArI Z h a .byte N g) (i : Nat) (hi : j.toInt = i) (hN : i < N) (K : Goes p e below s n0 P k n T (mkF m (pc + 1) Ls (.int (g i) :: rest))) : Goes p e below s n0 P k n T (mkF m pc Ls (.int j :: .ref a :: rest)) := by
  obtain ⟨locs, S, eT, N0, q0⟩ := X
  obtain ⟨cl, Ar, r1, r2⟩ := A
  obtain ⟨hin, e1⟩ := in_of (a := a) (ty := .byte) hi hN r1
  exact Goes.of (fun _ kk => S.baloadBytes C.1 (j := j) (v := .int (g i)) (by rw [eT]; exact Ar.1) (State.isArrayOf_alike C.2.2.2.2.2.2.2.1.alike Ar.2.1) Ar.2.2 hin (by rw [e1]; exact r2 i hN) (g := mkF m pc Ls (.int j :: .ref a :: rest)) rfl rfl (hb C.2.1 hd) _ kk) K
theorem w_iaload (X : Hr p l e R s m args below meth c n0 h cells slots T) (C : Cx p s m meth c code ml ret own nm Z a0 tabs) {pc N : Nat} {Ls : Array Slot} {a : Addr} {g : Nat → Int32} {j : Int32} {rest : List Value} (hd : decode code pc = .ok (.iaload, 1)) (A : ArI Z h a .int N g) (i : Nat) (hi : j.toInt = i) (hN : i < N) (K : Goes p e below s n0 P k n T (mkF m (pc + 1) Ls (.int (g i) :: rest))) : Goes p e below s n0 P k n T (mkF m pc Ls (.int j :: .ref a :: rest)) := by
  obtain ⟨locs, S, eT, N0, q0⟩ := X
  obtain ⟨cl, Ar, r1, r2⟩ := A
  obtain ⟨hin, e1⟩ := in_of (a := a) (ty := .int) hi hN r1
  exact Goes.of (fun _ kk => S.iaload C.1 (j := j) (v := .int (g i)) (by rw [eT]; exact Ar.1) (State.isArrayOf_alike C.2.2.2.2.2.2.2.1.alike Ar.2.1) Ar.2.2 hin (by rw [e1]; exact r2 i hN) (g := mkF m pc Ls (.int j :: .ref a :: rest)) rfl rfl (hb C.2.1 hd) _ kk) K
theorem w_laload (X : Hr p l e R s m args below meth c n0 h cells slots T) (C : Cx p s m meth c code ml ret own nm Z a0 tabs) {pc N : Nat} {Ls : Array Slot} {a : Addr} {g : Nat → Int64} {j : Int32} {rest : List Value} (hd : decode code pc = .ok (.laload, 1)) (A : ArJ Z h a N g) (i : Nat) (hi : j.toInt = i) (hN : i < N) (K : Goes p e below s n0 P k n T (mkF m (pc + 1) Ls (.long (g i) :: rest))) : Goes p e below s n0 P k n T (mkF m pc Ls (.int j :: .ref a :: rest)) := by
  obtain ⟨locs, S, eT, N0, q0⟩ := X
  obtain ⟨cl, Ar, r1, r2⟩ := A
  obtain ⟨hin, e1⟩ := in_of (a := a) (ty := .long) hi hN r1
  exact Goes.of (fun _ kk => S.laload C.1 (j := j) (v := .long (g i)) (by rw [eT]; exact Ar.1) (State.isArrayOf_alike C.2.2.2.2.2.2.2.1.alike Ar.2.1) Ar.2.2 hin (by rw [e1]; exact r2 i hN) (g := mkF m pc Ls (.int j :: .ref a :: rest)) rfl rfl (hb C.2.1 hd) _ kk) K
theorem w_bastore (X : Hr p l e R s m args below meth c n0 h cells slots T) (C : Cx p s m meth c code ml ret own nm Z a0 tabs) {pc N : Nat} {Ls : Array Slot} {a : Addr} {g : Nat → Int32} {j : Int32} {x : Int32} {rest : List Value} (hd : decode code pc = .ok (.bastore, 1)) (A : ArI Z h a .byte N g) (i : Nat) (hi : j.toInt = i) (hN : i < N) (ha : n0 ≤ a)
    (K : ∀ T' h', Hr p l e R s m args below meth c n0 h' cells slots T' → Wr h h' a i (.int (i8 x)) → ArI Z h' a .byte N (up g i (i8 x)) → Goes p e below s n0 P k n T' (mkF m (pc + 1) Ls rest)) : Goes p e below s n0 P k n T (mkF m pc Ls (.int x :: .int j :: .ref a :: rest)) := by
  obtain ⟨locs, S, eT, N0, q0⟩ := X
  obtain ⟨cl, Ar, r1, r2⟩ := A
  obtain ⟨hin, e1⟩ := in_of (a := a) (ty := .byte) hi hN r1
  obtain ⟨T', h', X', e', W', st⟩ := stB S C.1 C.2.2.2.2.2.2.2.1 eT Ar (j := j) hin (g := mkF m pc Ls (.int x :: .int j :: .ref a :: rest)) rfl rfl (hb C.2.1 hd)
  rw [e1] at W'
  refine Goes.of st (K T' h' ⟨_, X', e', Fr.snoc X' N0 ha, q0⟩ W' ?_)
  have q := ArV.same ⟨cl, Ar, r1, r2⟩ W'
  rw [← (show (fun i_1 => Value.int (up g i (i8 x) i_1)) = up (fun i => Value.int (g i)) i (.int (nar .byte x)) from up_int g i (i8 x))] at q
  exact q
theorem w_iastore (X : Hr p l e R s m args below meth c n0 h cells slots T) (C : Cx p s m meth c code ml ret own nm Z a0 tabs) {pc N : Nat} {Ls : Array Slot} {a : Addr} {g : Nat → Int32} {j : Int32} {x : Int32} {rest : List Value} (hd : decode code pc = .ok (.iastore, 1)) (A : ArI Z h a .int N g) (i : Nat) (hi : j.toInt = i) (hN : i < N) (ha : n0 ≤ a)
    (K : ∀ T' h', Hr p l e R s m args below meth c n0 h' cells slots T' → Wr h h' a i (.int (x)) → ArI Z h' a .int N (up g i (x)) → Goes p e below s n0 P k n T' (mkF m (pc + 1) Ls rest)) : Goes p e below s n0 P k n T (mkF m pc Ls (.int x :: .int j :: .ref a :: rest)) := by
  obtain ⟨locs, S, eT, N0, q0⟩ := X
  obtain ⟨cl, Ar, r1, r2⟩ := A
  obtain ⟨hin, e1⟩ := in_of (a := a) (ty := .int) hi hN r1
  obtain ⟨T', h', X', e', W', st⟩ := stI S C.1 C.2.2.2.2.2.2.2.1 eT Ar (j := j) hin (g := mkF m pc Ls (.int x :: .int j :: .ref a :: rest)) rfl rfl (hb C.2.1 hd)
  rw [e1] at W'
  refine Goes.of st (K T' h' ⟨_, X', e', Fr.snoc X' N0 ha, q0⟩ W' ?_)
  have q := ArV.same ⟨cl, Ar, r1, r2⟩ W'
  rw [← up_int] at q
  exact q
theorem w_lastore (X : Hr p l e R s m args below meth c n0 h cells slots T) (C : Cx p s m meth c code ml ret own nm Z a0 tabs) {pc N : Nat} {Ls : Array Slot} {a : Addr} {g : Nat → Int64} {j : Int32} {x : Int64} {rest : List Value} (hd : decode code pc = .ok (.lastore, 1)) (A : ArJ Z h a N g) (i : Nat) (hi : j.toInt = i) (hN : i < N) (ha : n0 ≤ a)
    (K : ∀ T' h', Hr p l e R s m args below meth c n0 h' cells slots T' → Wr h h' a i (.long (x)) → ArJ Z h' a N (up g i (x)) → Goes p e below s n0 P k n T' (mkF m (pc + 1) Ls rest)) : Goes p e below s n0 P k n T (mkF m pc Ls (.long x :: .int j :: .ref a :: rest)) := by
  obtain ⟨locs, S, eT, N0, q0⟩ := X
  obtain ⟨cl, Ar, r1, r2⟩ := A
  obtain ⟨hin, e1⟩ := in_of (a := a) (ty := .long) hi hN r1
  obtain ⟨T', h', X', e', W', st⟩ := stJ S C.1 C.2.2.2.2.2.2.2.1 eT Ar (j := j) hin (g := mkF m pc Ls (.long x :: .int j :: .ref a :: rest)) rfl rfl (hb C.2.1 hd)
  rw [e1] at W'
  refine Goes.of st (K T' h' ⟨_, X', e', Fr.snoc X' N0 ha, q0⟩ W' ?_)
  have q := ArV.same ⟨cl, Ar, r1, r2⟩ W'
  rw [← up_long] at q
  exact q
theorem w_arraylength (X : Hr p l e R s m args below meth c n0 h cells slots T) (C : Cx p s m meth c code ml ret own nm Z a0 tabs) {pc N : Nat} {Ls : Array Slot} {a : Addr} {ty : FieldType} {f : Nat → Value} {rest : List Value} (hd : decode code pc = .ok (.arraylength, 1)) (A : ArV Z h a ty N f) (K : Goes p e below s n0 P k n T (mkF m (pc + 1) Ls (.int N.toInt32 :: rest))) : Goes p e below s n0 P k n T (mkF m pc Ls (.ref a :: rest)) := by
  obtain ⟨locs, S, eT, N0, q0⟩ := X
  obtain ⟨cl, Ar, r1, r2⟩ := A
  subst r1
  exact Goes.of (fun _ kk => S.arraylength C.1 (by rw [eT]; exact Ar.1) (State.isArrayOf_alike C.2.2.2.2.2.2.2.1.alike Ar.2.1) (g := mkF m pc Ls (.ref a :: rest)) rfl rfl (hb C.2.1 hd) _ kk) K
theorem w_new_byte (X : Hr p l e R s m args below meth c n0 h cells slots T) (C : Cx p s m meth c code ml ret own nm Z a0 tabs) {pc : Nat} {Ls : Array Slot} {sz : Int32} {rest : List Value} (hd : decode code pc = .ok (.newarray .byte, 2)) (i1 : Jvm.Cond.arrayClass .byte ∈ tabs) (N : Nat) (hN : sz.toInt = N) (cap : Nat) (hcap : N ≤ cap) (hbig : cap * 8 ≤ 536870912) (hc : cells + 1 ≤ R.cells) (hl : slots + cap ≤ R.slots)
    (K : ∀ T' h' a, a = h.size → n0 ≤ a → Hr p l e R s m args below meth c n0 h' (cells + 1) (slots + cap) T' → Ext h h' → ArI Z h' a .byte N (fun _ => 0) → Goes p e below s n0 P k n T' (mkF m (pc + 2) Ls (.ref a :: rest))) : Goes p e below s n0 P k n T (mkF m pc Ls (.int sz :: rest)) := by
  have hsz := X.size
  obtain ⟨locs, S, eT, N0, q0⟩ := X
  have hw := C.2.2.2.2.2.2.2.2
  have e1 : sz.toNatClampNeg = N := by simp only [Int32.toNatClampNeg, hN]; omega
  have e2 : ¬ sz < 0 := by
    have e0 : (0 : Int32).toInt = 0 := rfl
    rw [Int32.lt_iff_toInt_lt, e0]; omega
  obtain ⟨T', h', kk', X', e', E', A', st⟩ := newP S C.1 C.2.2.2.2.2.2.2.1 (aty := .byte) (hw _ i1) eT (g := mkF m pc Ls (.int sz :: rest)) rfl (hb C.2.1 hd) rfl e2 (cap := cap) (by rw [e1]; exact hcap) hbig hc hl
  refine Goes.of st (K T' h' h.size rfl hsz ⟨_, X', e', N0, q0⟩ E' ⟨_, A', by rw [sz_new]; exact e1, fun i hi => ?_⟩)
  simp [newA, e1, hi, newarray.typeOf, defaultValue]
theorem w_new_int (X : Hr p l e R s m args below meth c n0 h cells slots T) (C : Cx p s m meth c code ml ret own nm Z a0 tabs) {pc : Nat} {Ls : Array Slot} {sz : Int32} {rest : List Value} (hd : decode code pc = .ok (.newarray .int, 2)) (i1 : Jvm.Cond.arrayClass .int ∈ tabs) (N : Nat) (hN : sz.toInt = N) (cap : Nat) (hcap : N ≤ cap) (hbig : cap * 8 ≤ 536870912) (hc : cells + 1 ≤ R.cells) (hl : slots + cap ≤ R.slots)
    (K : ∀ T' h' a, a = h.size → n0 ≤ a → Hr p l e R s m args below meth c n0 h' (cells + 1) (slots + cap) T' → Ext h h' → ArI Z h' a .int N (fun _ => 0) → Goes p e below s n0 P k n T' (mkF m (pc + 2) Ls (.ref a :: rest))) : Goes p e below s n0 P k n T (mkF m pc Ls (.int sz :: rest)) := by
  have hsz := X.size
  obtain ⟨locs, S, eT, N0, q0⟩ := X
  have hw := C.2.2.2.2.2.2.2.2
  have e1 : sz.toNatClampNeg = N := by simp only [Int32.toNatClampNeg, hN]; omega
  have e2 : ¬ sz < 0 := by
    have e0 : (0 : Int32).toInt = 0 := rfl
    rw [Int32.lt_iff_toInt_lt, e0]; omega
  obtain ⟨T', h', kk', X', e', E', A', st⟩ := newP S C.1 C.2.2.2.2.2.2.2.1 (aty := .int) (hw _ i1) eT (g := mkF m pc Ls (.int sz :: rest)) rfl (hb C.2.1 hd) rfl e2 (cap := cap) (by rw [e1]; exact hcap) hbig hc hl
  refine Goes.of st (K T' h' h.size rfl hsz ⟨_, X', e', N0, q0⟩ E' ⟨_, A', by rw [sz_new]; exact e1, fun i hi => ?_⟩)
  simp [newA, e1, hi, newarray.typeOf, defaultValue]
theorem w_new_long (X : Hr p l e R s m args below meth c n0 h cells slots T) (C : Cx p s m meth c code ml ret own nm Z a0 tabs) {pc : Nat} {Ls : Array Slot} {sz : Int32} {rest : List Value} (hd : decode code pc = .ok (.newarray .long, 2)) (i1 : Jvm.Cond.arrayClass .long ∈ tabs) (N : Nat) (hN : sz.toInt = N) (cap : Nat) (hcap : N ≤ cap) (hbig : cap * 8 ≤ 536870912) (hc : cells + 1 ≤ R.cells) (hl : slots + cap ≤ R.slots)
    (K : ∀ T' h' a, a = h.size → n0 ≤ a → Hr p l e R s m args below meth c n0 h' (cells + 1) (slots + cap) T' → Ext h h' → ArJ Z h' a N (fun _ => 0) → Goes p e below s n0 P k n T' (mkF m (pc + 2) Ls (.ref a :: rest))) : Goes p e below s n0 P k n T (mkF m pc Ls (.int sz :: rest)) := by
  have hsz := X.size
  obtain ⟨locs, S, eT, N0, q0⟩ := X
  have hw := C.2.2.2.2.2.2.2.2
  have e1 : sz.toNatClampNeg = N := by simp only [Int32.toNatClampNeg, hN]; omega
  have e2 : ¬ sz < 0 := by
    have e0 : (0 : Int32).toInt = 0 := rfl
    rw [Int32.lt_iff_toInt_lt, e0]; omega
  obtain ⟨T', h', kk', X', e', E', A', st⟩ := newP S C.1 C.2.2.2.2.2.2.2.1 (aty := .long) (hw _ i1) eT (g := mkF m pc Ls (.int sz :: rest)) rfl (hb C.2.1 hd) rfl e2 (cap := cap) (by rw [e1]; exact hcap) hbig hc hl
  refine Goes.of st (K T' h' h.size rfl hsz ⟨_, X', e', N0, q0⟩ E' ⟨_, A', by rw [sz_new]; exact e1, fun i hi => ?_⟩)
  simp [newA, e1, hi, newarray.typeOf, defaultValue]
end W
theorem Hr.more {p : Program} {l : Launch} {e : Env} {R : Room} {s : State} {m : MethodId} {args : Array Value} {below : List Frame} {meth : Method} {c : Code} {n0 : Nat} {h : Heap} {T : State} (X : Hr p l e R s m args below meth c n0 h 0 0 T) : Hr p l e R s m args below meth c n0 h 1 19 T := by
  obtain ⟨locs, S, r⟩ := X
  exact ⟨locs, Stand.more S (by decide) (by decide), r⟩
end Jvm.OwnW
namespace Jvm.Pilot.@@N@@
open Jvm Jvm.ClassFile Sem Op Lib Jvm.Free Jvm.Stand Jvm.LawKit Jvm.RoadKit Bundle Jvm.OwnW Jvm.Pilot.@@N@@.Jvm.D
theorem pn_0 : plainName "com/example/wadesmill/wadesmill/protocol/DecimalParsePinLaw" = true := by first | (simp [plainName, overriddenIn]; done) | decide +kernel
theorem pn_1 : plainName "com/example/wadesmill/wadesmill/protocol/Decimal" = true := by first | (simp [plainName, overriddenIn]; done) | decide +kernel
theorem pd_0 : parseMethodDescriptor "([BIIJ)J" = some ⟨[(.array .byte), .int, .int, .long], some .long⟩ := by decide +kernel
theorem pd_1 : parseMethodDescriptor "([BII)J" = some ⟨[(.array .byte), .int, .int], some .long⟩ := by decide +kernel
theorem pd_2 : parseMethodDescriptor "(I)J" = some ⟨[.int], some .long⟩ := by decide +kernel
theorem own_dig (g dd : Int32) (e : dd = (g - (48 : Int32))) (h : 48 ≤ g.toInt ∧ g.toInt ≤ 57) : dd.toInt = g.toInt - 48 := by
  rw [e]; exact sub1 (48 : Int32) 48 rfl (by omega) (by omega)
theorem own_ov (x7 x5 : Int64) (dd : Int32) (h : 0 ≤ dd.toInt ∧ dd.toInt ≤ 9) (hx5 : x5.toInt ≤ -9223372036854775807) (h1 : x5.toInt ≤ x7.toInt * 10 - dd.toInt) (h0 : x7.toInt ≤ 0) : ¬ (x7 < ((x5 + (dd).toInt64) / (10 : Int64))) := by
  have e1 := c_ladd x5 dd.toInt64
  have e2 := rng64 (x5 + dd.toInt64)
  have e3 := rng64 x5
  rw [Int32.toInt_toInt64] at e1
  have e4 := (c_ldiv (x5 + dd.toInt64) (10 : Int64) 10 rfl (by decide)).2 (by omega)
  rw [Int64.lt_iff_toInt_lt, e4]
  omega
theorem own_nx (x7 x5 : Int64) (dd : Int32) (h : 0 ≤ dd.toInt ∧ dd.toInt ≤ 9) (hx5 : x5.toInt ≤ -9223372036854775807) (h1 : x5.toInt ≤ x7.toInt * 10 - dd.toInt) (h0 : x7.toInt ≤ 0) : ((x7 * (10 : Int64)) - (dd).toInt64).toInt = x7.toInt * 10 - dd.toInt := by
  have e1 := c_lmul x7 (10 : Int64)
  rw [show (10 : Int64).toInt = 10 from rfl] at e1
  have e2 := rng64 (x7 * (10 : Int64))
  have e3 := rng64 x5
  have e4 := c_lsub (x7 * (10 : Int64)) dd.toInt64
  rw [Int32.toInt_toInt64] at e4
  have e5 := rng64 ((x7 * (10 : Int64)) - dd.toInt64)
  omega
def own_dg (Mn i : Nat) : Int32 := Int32.ofNat (48 + Mn / 10 ^ i % 10)
def own_gs (g0 : Nat → Int32) (K T Mn : Nat) : Nat → Nat → Int32
  | 0 => g0
  | i + 1 => if K < i + 1 then own_gs g0 K T Mn i else up (own_gs g0 K T Mn i) (T - (i + 1)) (own_dg Mn i)
def own_acc (F T Mn : Nat) (j : Nat) : Int := -((Mn / 10 ^ (T - j) % 10 ^ (j - F) : Nat) : Int)

def own_pw : Nat → Int64 := (up (up (up (up (up (up (up (up (up (up (up (up (up (up (up (up (up (up (up (fun _ => 0) 0 (1 : Int64)) 1 (10 : Int64)) 2 (100 : Int64)) 3 (1000 : Int64)) 4 (10000 : Int64)) 5 (100000 : Int64)) 6 (1000000 : Int64)) 7 (10000000 : Int64)) 8 (100000000 : Int64)) 9 (1000000000 : Int64)) 10 (10000000000 : Int64)) 11 (100000000000 : Int64)) 12 (1000000000000 : Int64)) 13 (10000000000000 : Int64)) 14 (100000000000000 : Int64)) 15 (1000000000000000 : Int64)) 16 (10000000000000000 : Int64)) 17 (100000000000000000 : Int64)) 18 (1000000000000000000 : Int64))
theorem d1_0 : decode method_2_code 0 = .ok (.bipush 19, 2) := by decide +kernel
theorem d1_2 : decode method_2_code 2 = .ok (.newarray .long, 2) := by decide +kernel
theorem d1_4 : decode method_2_code 4 = .ok (.dup, 1) := by decide +kernel
theorem d1_5 : decode method_2_code 5 = .ok (.iconst 0, 1) := by decide +kernel
theorem d1_6 : decode method_2_code 6 = .ok (.lconst 1, 1) := by decide +kernel
theorem d1_7 : decode method_2_code 7 = .ok (.lastore, 1) := by decide +kernel
theorem d1_8 : decode method_2_code 8 = .ok (.dup, 1) := by decide +kernel
theorem d1_9 : decode method_2_code 9 = .ok (.iconst 1, 1) := by decide +kernel
theorem d1_10 : decode method_2_code 10 = .ok (.ldc2_w 7, 3) := by decide +kernel
theorem d1_13 : decode method_2_code 13 = .ok (.lastore, 1) := by decide +kernel
theorem d1_14 : decode method_2_code 14 = .ok (.dup, 1) := by decide +kernel
theorem d1_15 : decode method_2_code 15 = .ok (.iconst 2, 1) := by decide +kernel
theorem d1_16 : decode method_2_code 16 = .ok (.ldc2_w 9, 3) := by decide +kernel
theorem d1_19 : decode method_2_code 19 = .ok (.lastore, 1) := by decide +kernel
theorem d1_20 : decode method_2_code 20 = .ok (.dup, 1) := by decide +kernel
theorem d1_21 : decode method_2_code 21 = .ok (.iconst 3, 1) := by decide +kernel
theorem d1_22 : decode method_2_code 22 = .ok (.ldc2_w 11, 3) := by decide +kernel
theorem d1_25 : decode method_2_code 25 = .ok (.lastore, 1) := by decide +kernel
theorem d1_26 : decode method_2_code 26 = .ok (.dup, 1) := by decide +kernel
theorem d1_27 : decode method_2_code 27 = .ok (.iconst 4, 1) := by decide +kernel
theorem d1_28 : decode method_2_code 28 = .ok (.ldc2_w 13, 3) := by decide +kernel
theorem d1_31 : decode method_2_code 31 = .ok (.lastore, 1) := by decide +kernel
theorem d1_32 : decode method_2_code 32 = .ok (.dup, 1) := by decide +kernel
theorem d1_33 : decode method_2_code 33 = .ok (.iconst 5, 1) := by decide +kernel
theorem d1_34 : decode method_2_code 34 = .ok (.ldc2_w 15, 3) := by decide +kernel
theorem d1_37 : decode method_2_code 37 = .ok (.lastore, 1) := by decide +kernel
theorem d1_38 : decode method_2_code 38 = .ok (.dup, 1) := by decide +kernel
theorem d1_39 : decode method_2_code 39 = .ok (.bipush 6, 2) := by decide +kernel
theorem d1_41 : decode method_2_code 41 = .ok (.ldc2_w 17, 3) := by decide +kernel
theorem d1_44 : decode method_2_code 44 = .ok (.lastore, 1) := by decide +kernel
theorem d1_45 : decode method_2_code 45 = .ok (.dup, 1) := by decide +kernel
theorem d1_46 : decode method_2_code 46 = .ok (.bipush 7, 2) := by decide +kernel
theorem d1_48 : decode method_2_code 48 = .ok (.ldc2_w 19, 3) := by decide +kernel
theorem d1_51 : decode method_2_code 51 = .ok (.lastore, 1) := by decide +kernel
theorem d1_52 : decode method_2_code 52 = .ok (.dup, 1) := by decide +kernel
theorem d1_53 : decode method_2_code 53 = .ok (.bipush 8, 2) := by decide +kernel
theorem d1_55 : decode method_2_code 55 = .ok (.ldc2_w 21, 3) := by decide +kernel
theorem d1_58 : decode method_2_code 58 = .ok (.lastore, 1) := by decide +kernel
theorem d1_59 : decode method_2_code 59 = .ok (.dup, 1) := by decide +kernel
theorem d1_60 : decode method_2_code 60 = .ok (.bipush 9, 2) := by decide +kernel
theorem d1_62 : decode method_2_code 62 = .ok (.ldc2_w 23, 3) := by decide +kernel
theorem d1_65 : decode method_2_code 65 = .ok (.lastore, 1) := by decide +kernel
theorem d1_66 : decode method_2_code 66 = .ok (.dup, 1) := by decide +kernel
theorem d1_67 : decode method_2_code 67 = .ok (.bipush 10, 2) := by decide +kernel
theorem d1_69 : decode method_2_code 69 = .ok (.ldc2_w 25, 3) := by decide +kernel
theorem d1_72 : decode method_2_code 72 = .ok (.lastore, 1) := by decide +kernel
theorem d1_73 : decode method_2_code 73 = .ok (.dup, 1) := by decide +kernel
theorem d1_74 : decode method_2_code 74 = .ok (.bipush 11, 2) := by decide +kernel
theorem d1_76 : decode method_2_code 76 = .ok (.ldc2_w 27, 3) := by decide +kernel
theorem d1_79 : decode method_2_code 79 = .ok (.lastore, 1) := by decide +kernel
theorem d1_80 : decode method_2_code 80 = .ok (.dup, 1) := by decide +kernel
theorem d1_81 : decode method_2_code 81 = .ok (.bipush 12, 2) := by decide +kernel
theorem d1_83 : decode method_2_code 83 = .ok (.ldc2_w 29, 3) := by decide +kernel
theorem d1_86 : decode method_2_code 86 = .ok (.lastore, 1) := by decide +kernel
theorem d1_87 : decode method_2_code 87 = .ok (.dup, 1) := by decide +kernel
theorem d1_88 : decode method_2_code 88 = .ok (.bipush 13, 2) := by decide +kernel
theorem d1_90 : decode method_2_code 90 = .ok (.ldc2_w 31, 3) := by decide +kernel
theorem d1_93 : decode method_2_code 93 = .ok (.lastore, 1) := by decide +kernel
theorem d1_94 : decode method_2_code 94 = .ok (.dup, 1) := by decide +kernel
theorem d1_95 : decode method_2_code 95 = .ok (.bipush 14, 2) := by decide +kernel
theorem d1_97 : decode method_2_code 97 = .ok (.ldc2_w 33, 3) := by decide +kernel
theorem d1_100 : decode method_2_code 100 = .ok (.lastore, 1) := by decide +kernel
theorem d1_101 : decode method_2_code 101 = .ok (.dup, 1) := by decide +kernel
theorem d1_102 : decode method_2_code 102 = .ok (.bipush 15, 2) := by decide +kernel
theorem d1_104 : decode method_2_code 104 = .ok (.ldc2_w 35, 3) := by decide +kernel
theorem d1_107 : decode method_2_code 107 = .ok (.lastore, 1) := by decide +kernel
theorem d1_108 : decode method_2_code 108 = .ok (.dup, 1) := by decide +kernel
theorem d1_109 : decode method_2_code 109 = .ok (.bipush 16, 2) := by decide +kernel
theorem d1_111 : decode method_2_code 111 = .ok (.ldc2_w 37, 3) := by decide +kernel
theorem d1_114 : decode method_2_code 114 = .ok (.lastore, 1) := by decide +kernel
theorem d1_115 : decode method_2_code 115 = .ok (.dup, 1) := by decide +kernel
theorem d1_116 : decode method_2_code 116 = .ok (.bipush 17, 2) := by decide +kernel
theorem d1_118 : decode method_2_code 118 = .ok (.ldc2_w 39, 3) := by decide +kernel
theorem d1_121 : decode method_2_code 121 = .ok (.lastore, 1) := by decide +kernel
theorem d1_122 : decode method_2_code 122 = .ok (.dup, 1) := by decide +kernel
theorem d1_123 : decode method_2_code 123 = .ok (.bipush 18, 2) := by decide +kernel
theorem d1_125 : decode method_2_code 125 = .ok (.ldc2_w 41, 3) := by decide +kernel
theorem d1_128 : decode method_2_code 128 = .ok (.lastore, 1) := by decide +kernel
theorem d1_129 : decode method_2_code 129 = .ok (.astore_n 1, 1) := by decide +kernel
theorem d1_130 : decode method_2_code 130 = .ok (.aload_n 1, 1) := by decide +kernel
theorem d1_131 : decode method_2_code 131 = .ok (.iload_n 0, 1) := by decide +kernel
theorem d1_132 : decode method_2_code 132 = .ok (.laload, 1) := by decide +kernel
theorem d1_133 : decode method_2_code 133 = .ok (.lreturn, 1) := by decide +kernel
set_option maxRecDepth 65536 in
set_option maxHeartbeats 40000000 in
theorem bw1 {p : Program} {l : Launch} {e : Env} {s : State} {m : MethodId} {args : Array Value} {below : List Frame} {meth : Method} {c : Code} {T : State} {h : Heap} {n0 : Nat} {Z : State} {a0 : Array Value} (X : Hr p l e ({ frames := 0, cells := 1, slots := 19, locals := 0 } : Room) s m args below meth c n0 h 0 0 T) (C : Cx p s m meth c method_2_code 2 (some .long) "com/example/wadesmill/wadesmill/protocol/DecimalParsePinLaw" "pow10" Z a0 tables_1) (x0 : Int32)  (hx : 0 ≤ x0.toInt ∧ x0.toInt < 19) : Goes p e below s n0 (fun v h' => v = some (.long (own_pw (nt x0))) ∧ Keep h h' []) 1 19 T (mkF m 0 #[.val (.int x0), .unset] []) := by
  refine w_bipush (pc := 0) X C d1_0 (19 : Int32) rfl ?_
  refine w_new_long (pc := 2) X C d1_2 (List.mem_of_getElem? (i := 5) rfl) 19 rfl 19 (by decide) (by decide) (by decide) (by decide) (fun T1 h1 a1 ha1 hb1 X1 E1 A1 => ?_)
  have K2 : Keep h h1 [] := (Keep.refl h []).ext E1
  refine w_dup (pc := 4) X1 C d1_4 rfl ?_
  refine w_iconst (pc := 5) X1 C d1_5 (0 : Int32) rfl ?_
  refine w_lconst (pc := 6) X1 C d1_6 (1 : Int64) rfl ?_
  refine w_lastore (pc := 7) X1 C d1_7 A1 0 rfl (by decide) hb1 (fun T3 h3 X3 W3 A3 => ?_)
  obtain ⟨g3, hg3⟩ : ∃ z, z = up (fun _ => 0) 0 (1 : Int64) := ⟨_, rfl⟩
  rw [← hg3] at A3
  have K4 : Keep h h3 [] := K2.wr W3 (Or.inr (Nat.le_trans (Keep.refl h []).1 (Nat.le_of_eq ha1.symm)))
  refine w_dup (pc := 8) X3 C d1_8 rfl ?_
  refine w_iconst (pc := 9) X3 C d1_9 (1 : Int32) rfl ?_
  refine w_ldcJ (pc := 10) X3 C d1_10 (v := (10 : Int64)) (List.mem_of_getElem? (i := 6) rfl) ?_
  refine w_lastore (pc := 13) X3 C d1_13 A3 1 rfl (by decide) hb1 (fun T5 h5 X5 W5 A5 => ?_)
  obtain ⟨g5, hg5⟩ : ∃ z, z = up g3 1 (10 : Int64) := ⟨_, rfl⟩
  rw [← hg5] at A5
  have K6 : Keep h h5 [] := K4.wr W5 (Or.inr (Nat.le_trans (Keep.refl h []).1 (Nat.le_of_eq ha1.symm)))
  refine w_dup (pc := 14) X5 C d1_14 rfl ?_
  refine w_iconst (pc := 15) X5 C d1_15 (2 : Int32) rfl ?_
  refine w_ldcJ (pc := 16) X5 C d1_16 (v := (100 : Int64)) (List.mem_of_getElem? (i := 7) rfl) ?_
  refine w_lastore (pc := 19) X5 C d1_19 A5 2 rfl (by decide) hb1 (fun T7 h7 X7 W7 A7 => ?_)
  obtain ⟨g7, hg7⟩ : ∃ z, z = up g5 2 (100 : Int64) := ⟨_, rfl⟩
  rw [← hg7] at A7
  have K8 : Keep h h7 [] := K6.wr W7 (Or.inr (Nat.le_trans (Keep.refl h []).1 (Nat.le_of_eq ha1.symm)))
  refine w_dup (pc := 20) X7 C d1_20 rfl ?_
  refine w_iconst (pc := 21) X7 C d1_21 (3 : Int32) rfl ?_
  refine w_ldcJ (pc := 22) X7 C d1_22 (v := (1000 : Int64)) (List.mem_of_getElem? (i := 8) rfl) ?_
  refine w_lastore (pc := 25) X7 C d1_25 A7 3 rfl (by decide) hb1 (fun T9 h9 X9 W9 A9 => ?_)
  obtain ⟨g9, hg9⟩ : ∃ z, z = up g7 3 (1000 : Int64) := ⟨_, rfl⟩
  rw [← hg9] at A9
  have K10 : Keep h h9 [] := K8.wr W9 (Or.inr (Nat.le_trans (Keep.refl h []).1 (Nat.le_of_eq ha1.symm)))
  refine w_dup (pc := 26) X9 C d1_26 rfl ?_
  refine w_iconst (pc := 27) X9 C d1_27 (4 : Int32) rfl ?_
  refine w_ldcJ (pc := 28) X9 C d1_28 (v := (10000 : Int64)) (List.mem_of_getElem? (i := 9) rfl) ?_
  refine w_lastore (pc := 31) X9 C d1_31 A9 4 rfl (by decide) hb1 (fun T11 h11 X11 W11 A11 => ?_)
  obtain ⟨g11, hg11⟩ : ∃ z, z = up g9 4 (10000 : Int64) := ⟨_, rfl⟩
  rw [← hg11] at A11
  have K12 : Keep h h11 [] := K10.wr W11 (Or.inr (Nat.le_trans (Keep.refl h []).1 (Nat.le_of_eq ha1.symm)))
  refine w_dup (pc := 32) X11 C d1_32 rfl ?_
  refine w_iconst (pc := 33) X11 C d1_33 (5 : Int32) rfl ?_
  refine w_ldcJ (pc := 34) X11 C d1_34 (v := (100000 : Int64)) (List.mem_of_getElem? (i := 10) rfl) ?_
  refine w_lastore (pc := 37) X11 C d1_37 A11 5 rfl (by decide) hb1 (fun T13 h13 X13 W13 A13 => ?_)
  obtain ⟨g13, hg13⟩ : ∃ z, z = up g11 5 (100000 : Int64) := ⟨_, rfl⟩
  rw [← hg13] at A13
  have K14 : Keep h h13 [] := K12.wr W13 (Or.inr (Nat.le_trans (Keep.refl h []).1 (Nat.le_of_eq ha1.symm)))
  refine w_dup (pc := 38) X13 C d1_38 rfl ?_
  refine w_bipush (pc := 39) X13 C d1_39 (6 : Int32) rfl ?_
  refine w_ldcJ (pc := 41) X13 C d1_41 (v := (1000000 : Int64)) (List.mem_of_getElem? (i := 11) rfl) ?_
  refine w_lastore (pc := 44) X13 C d1_44 A13 6 rfl (by decide) hb1 (fun T15 h15 X15 W15 A15 => ?_)
  obtain ⟨g15, hg15⟩ : ∃ z, z = up g13 6 (1000000 : Int64) := ⟨_, rfl⟩
  rw [← hg15] at A15
  have K16 : Keep h h15 [] := K14.wr W15 (Or.inr (Nat.le_trans (Keep.refl h []).1 (Nat.le_of_eq ha1.symm)))
  refine w_dup (pc := 45) X15 C d1_45 rfl ?_
  refine w_bipush (pc := 46) X15 C d1_46 (7 : Int32) rfl ?_
  refine w_ldcJ (pc := 48) X15 C d1_48 (v := (10000000 : Int64)) (List.mem_of_getElem? (i := 12) rfl) ?_
  refine w_lastore (pc := 51) X15 C d1_51 A15 7 rfl (by decide) hb1 (fun T17 h17 X17 W17 A17 => ?_)
  obtain ⟨g17, hg17⟩ : ∃ z, z = up g15 7 (10000000 : Int64) := ⟨_, rfl⟩
  rw [← hg17] at A17
  have K18 : Keep h h17 [] := K16.wr W17 (Or.inr (Nat.le_trans (Keep.refl h []).1 (Nat.le_of_eq ha1.symm)))
  refine w_dup (pc := 52) X17 C d1_52 rfl ?_
  refine w_bipush (pc := 53) X17 C d1_53 (8 : Int32) rfl ?_
  refine w_ldcJ (pc := 55) X17 C d1_55 (v := (100000000 : Int64)) (List.mem_of_getElem? (i := 13) rfl) ?_
  refine w_lastore (pc := 58) X17 C d1_58 A17 8 rfl (by decide) hb1 (fun T19 h19 X19 W19 A19 => ?_)
  obtain ⟨g19, hg19⟩ : ∃ z, z = up g17 8 (100000000 : Int64) := ⟨_, rfl⟩
  rw [← hg19] at A19
  have K20 : Keep h h19 [] := K18.wr W19 (Or.inr (Nat.le_trans (Keep.refl h []).1 (Nat.le_of_eq ha1.symm)))
  refine w_dup (pc := 59) X19 C d1_59 rfl ?_
  refine w_bipush (pc := 60) X19 C d1_60 (9 : Int32) rfl ?_
  refine w_ldcJ (pc := 62) X19 C d1_62 (v := (1000000000 : Int64)) (List.mem_of_getElem? (i := 14) rfl) ?_
  refine w_lastore (pc := 65) X19 C d1_65 A19 9 rfl (by decide) hb1 (fun T21 h21 X21 W21 A21 => ?_)
  obtain ⟨g21, hg21⟩ : ∃ z, z = up g19 9 (1000000000 : Int64) := ⟨_, rfl⟩
  rw [← hg21] at A21
  have K22 : Keep h h21 [] := K20.wr W21 (Or.inr (Nat.le_trans (Keep.refl h []).1 (Nat.le_of_eq ha1.symm)))
  refine w_dup (pc := 66) X21 C d1_66 rfl ?_
  refine w_bipush (pc := 67) X21 C d1_67 (10 : Int32) rfl ?_
  refine w_ldcJ (pc := 69) X21 C d1_69 (v := (10000000000 : Int64)) (List.mem_of_getElem? (i := 15) rfl) ?_
  refine w_lastore (pc := 72) X21 C d1_72 A21 10 rfl (by decide) hb1 (fun T23 h23 X23 W23 A23 => ?_)
  obtain ⟨g23, hg23⟩ : ∃ z, z = up g21 10 (10000000000 : Int64) := ⟨_, rfl⟩
  rw [← hg23] at A23
  have K24 : Keep h h23 [] := K22.wr W23 (Or.inr (Nat.le_trans (Keep.refl h []).1 (Nat.le_of_eq ha1.symm)))
  refine w_dup (pc := 73) X23 C d1_73 rfl ?_
  refine w_bipush (pc := 74) X23 C d1_74 (11 : Int32) rfl ?_
  refine w_ldcJ (pc := 76) X23 C d1_76 (v := (100000000000 : Int64)) (List.mem_of_getElem? (i := 16) rfl) ?_
  refine w_lastore (pc := 79) X23 C d1_79 A23 11 rfl (by decide) hb1 (fun T25 h25 X25 W25 A25 => ?_)
  obtain ⟨g25, hg25⟩ : ∃ z, z = up g23 11 (100000000000 : Int64) := ⟨_, rfl⟩
  rw [← hg25] at A25
  have K26 : Keep h h25 [] := K24.wr W25 (Or.inr (Nat.le_trans (Keep.refl h []).1 (Nat.le_of_eq ha1.symm)))
  refine w_dup (pc := 80) X25 C d1_80 rfl ?_
  refine w_bipush (pc := 81) X25 C d1_81 (12 : Int32) rfl ?_
  refine w_ldcJ (pc := 83) X25 C d1_83 (v := (1000000000000 : Int64)) (List.mem_of_getElem? (i := 17) rfl) ?_
  refine w_lastore (pc := 86) X25 C d1_86 A25 12 rfl (by decide) hb1 (fun T27 h27 X27 W27 A27 => ?_)
  obtain ⟨g27, hg27⟩ : ∃ z, z = up g25 12 (1000000000000 : Int64) := ⟨_, rfl⟩
  rw [← hg27] at A27
  have K28 : Keep h h27 [] := K26.wr W27 (Or.inr (Nat.le_trans (Keep.refl h []).1 (Nat.le_of_eq ha1.symm)))
  refine w_dup (pc := 87) X27 C d1_87 rfl ?_
  refine w_bipush (pc := 88) X27 C d1_88 (13 : Int32) rfl ?_
  refine w_ldcJ (pc := 90) X27 C d1_90 (v := (10000000000000 : Int64)) (List.mem_of_getElem? (i := 18) rfl) ?_
  refine w_lastore (pc := 93) X27 C d1_93 A27 13 rfl (by decide) hb1 (fun T29 h29 X29 W29 A29 => ?_)
  obtain ⟨g29, hg29⟩ : ∃ z, z = up g27 13 (10000000000000 : Int64) := ⟨_, rfl⟩
  rw [← hg29] at A29
  have K30 : Keep h h29 [] := K28.wr W29 (Or.inr (Nat.le_trans (Keep.refl h []).1 (Nat.le_of_eq ha1.symm)))
  refine w_dup (pc := 94) X29 C d1_94 rfl ?_
  refine w_bipush (pc := 95) X29 C d1_95 (14 : Int32) rfl ?_
  refine w_ldcJ (pc := 97) X29 C d1_97 (v := (100000000000000 : Int64)) (List.mem_of_getElem? (i := 19) rfl) ?_
  refine w_lastore (pc := 100) X29 C d1_100 A29 14 rfl (by decide) hb1 (fun T31 h31 X31 W31 A31 => ?_)
  obtain ⟨g31, hg31⟩ : ∃ z, z = up g29 14 (100000000000000 : Int64) := ⟨_, rfl⟩
  rw [← hg31] at A31
  have K32 : Keep h h31 [] := K30.wr W31 (Or.inr (Nat.le_trans (Keep.refl h []).1 (Nat.le_of_eq ha1.symm)))
  refine w_dup (pc := 101) X31 C d1_101 rfl ?_
  refine w_bipush (pc := 102) X31 C d1_102 (15 : Int32) rfl ?_
  refine w_ldcJ (pc := 104) X31 C d1_104 (v := (1000000000000000 : Int64)) (List.mem_of_getElem? (i := 20) rfl) ?_
  refine w_lastore (pc := 107) X31 C d1_107 A31 15 rfl (by decide) hb1 (fun T33 h33 X33 W33 A33 => ?_)
  obtain ⟨g33, hg33⟩ : ∃ z, z = up g31 15 (1000000000000000 : Int64) := ⟨_, rfl⟩
  rw [← hg33] at A33
  have K34 : Keep h h33 [] := K32.wr W33 (Or.inr (Nat.le_trans (Keep.refl h []).1 (Nat.le_of_eq ha1.symm)))
  refine w_dup (pc := 108) X33 C d1_108 rfl ?_
  refine w_bipush (pc := 109) X33 C d1_109 (16 : Int32) rfl ?_
  refine w_ldcJ (pc := 111) X33 C d1_111 (v := (10000000000000000 : Int64)) (List.mem_of_getElem? (i := 21) rfl) ?_
  refine w_lastore (pc := 114) X33 C d1_114 A33 16 rfl (by decide) hb1 (fun T35 h35 X35 W35 A35 => ?_)
  obtain ⟨g35, hg35⟩ : ∃ z, z = up g33 16 (10000000000000000 : Int64) := ⟨_, rfl⟩
  rw [← hg35] at A35
  have K36 : Keep h h35 [] := K34.wr W35 (Or.inr (Nat.le_trans (Keep.refl h []).1 (Nat.le_of_eq ha1.symm)))
  refine w_dup (pc := 115) X35 C d1_115 rfl ?_
  refine w_bipush (pc := 116) X35 C d1_116 (17 : Int32) rfl ?_
  refine w_ldcJ (pc := 118) X35 C d1_118 (v := (100000000000000000 : Int64)) (List.mem_of_getElem? (i := 22) rfl) ?_
  refine w_lastore (pc := 121) X35 C d1_121 A35 17 rfl (by decide) hb1 (fun T37 h37 X37 W37 A37 => ?_)
  obtain ⟨g37, hg37⟩ : ∃ z, z = up g35 17 (100000000000000000 : Int64) := ⟨_, rfl⟩
  rw [← hg37] at A37
  have K38 : Keep h h37 [] := K36.wr W37 (Or.inr (Nat.le_trans (Keep.refl h []).1 (Nat.le_of_eq ha1.symm)))
  refine w_dup (pc := 122) X37 C d1_122 rfl ?_
  refine w_bipush (pc := 123) X37 C d1_123 (18 : Int32) rfl ?_
  refine w_ldcJ (pc := 125) X37 C d1_125 (v := (1000000000000000000 : Int64)) (List.mem_of_getElem? (i := 23) rfl) ?_
  refine w_lastore (pc := 128) X37 C d1_128 A37 18 rfl (by decide) hb1 (fun T39 h39 X39 W39 A39 => ?_)
  obtain ⟨g39, hg39⟩ : ∃ z, z = up g37 18 (1000000000000000000 : Int64) := ⟨_, rfl⟩
  rw [← hg39] at A39
  have K40 : Keep h h39 [] := K38.wr W39 (Or.inr (Nat.le_trans (Keep.refl h []).1 (Nat.le_of_eq ha1.symm)))
  refine w_astoreN (pc := 129) X39 C d1_129 #[.val (.int x0), .val (.ref a1)] rfl rfl ?_
  refine w_aloadN (pc := 130) X39 C d1_130 rfl rfl ?_
  refine w_iloadN (pc := 131) X39 C d1_131 rfl ?_
  refine w_laload (pc := 132) X39 C d1_132 A39 (nt x0) (nt_eq hx.1) (nt_lt hx.2 (by decide)) ?_
  exact w_retJ (pc := 133) X39 C d1_133 ⟨by rw [hg39, hg37, hg35, hg33, hg31, hg29, hg27, hg25, hg23, hg21, hg19, hg17, hg15, hg13, hg11, hg9, hg7, hg5, hg3]; rfl, K40⟩
theorem ct1 (l : Launch) {Z : State} {a0 : Array Value} (hw : ∀ d ∈ tables_1, d.before a0 Z = true) (h : Heap) {n0 : Nat} (hn : n0 ≤ h.size) (x0 : Int32)  (hx : 0 ≤ x0.toInt ∧ x0.toInt < 19) : Ct l (⟨"com/example/wadesmill/wadesmill/protocol/DecimalParsePinLaw", "pow10", "(I)J"⟩ : MethodName) method_2_code 2 (some .long) ({ frames := 0, cells := 1, slots := 19, locals := 0 } : Room) Z #[(.int x0)] h n0 (fun v h' => v = some (.long (own_pw (nt x0))) ∧ Keep h h' []) :=
  Ct.of (plainFor_of_name pn_0) #[.val (.int x0), .unset] (fun m => by first | (simp [entryFrame, mkF, argsToLocals, Value.category]; done) | rfl) hw hn (fun p e s m below meth c T C X => bw1 X C x0 hx)
theorem d2_0 : decode method_3_code 0 = .ok (.iload_n 1, 1) := by decide +kernel
theorem d2_1 : decode method_3_code 1 = .ok (.iload_n 2, 1) := by decide +kernel
theorem d2_2 : decode method_3_code 2 = .ok (.if_icmp .lt 16, 3) := by decide +kernel
theorem d2_5 : decode method_3_code 5 = .ok (.aload_n 0, 1) := by decide +kernel
theorem d2_6 : decode method_3_code 6 = .ok (.iload_n 1, 1) := by decide +kernel
theorem d2_7 : decode method_3_code 7 = .ok (.bipush 48, 2) := by decide +kernel
theorem d2_9 : decode method_3_code 9 = .ok (.lload_n 3, 1) := by decide +kernel
theorem d2_10 : decode method_3_code 10 = .ok (.ldc2_w 7, 3) := by decide +kernel
theorem d2_13 : decode method_3_code 13 = .ok (.lrem, 1) := by decide +kernel
theorem d2_14 : decode method_3_code 14 = .ok (.l2i, 1) := by decide +kernel
theorem d2_15 : decode method_3_code 15 = .ok (.isub, 1) := by decide +kernel
theorem d2_16 : decode method_3_code 16 = .ok (.i2b, 1) := by decide +kernel
theorem d2_17 : decode method_3_code 17 = .ok (.bastore, 1) := by decide +kernel
theorem d2_18 : decode method_3_code 18 = .ok (.lload_n 3, 1) := by decide +kernel
theorem d2_19 : decode method_3_code 19 = .ok (.ldc2_w 7, 3) := by decide +kernel
theorem d2_22 : decode method_3_code 22 = .ok (.ldiv, 1) := by decide +kernel
theorem d2_23 : decode method_3_code 23 = .ok (.lreturn, 1) := by decide +kernel
set_option maxRecDepth 65536 in
set_option maxHeartbeats 40000000 in
theorem bw2 {p : Program} {l : Launch} {e : Env} {s : State} {m : MethodId} {args : Array Value} {below : List Frame} {meth : Method} {c : Code} {T : State} {h : Heap} {n0 : Nat} {Z : State} {a0 : Array Value} (X : Hr p l e ({ frames := 0, cells := 0, slots := 0, locals := 0 } : Room) s m args below meth c n0 h 0 0 T) (C : Cx p s m meth c method_3_code 5 (some .long) "com/example/wadesmill/wadesmill/protocol/DecimalParsePinLaw" "step" Z a0 tables_1) (x0 : Addr) (x1 : Int32) (x2 : Int32) (x3 : Int64) (g : Nat → Int32) (A0 : ArI Z h x0 .byte 25 g) (h1 : ¬ (x1 < x2) → 0 ≤ x1.toInt ∧ x1.toInt < 25) (g0 : n0 ≤ x0) : Goes p e below s n0 (fun v h' => v = some (.long (x3 / (10 : Int64))) ∧ Keep h h' [x0] ∧ ArI Z h' x0 .byte 25 (if x1 < x2 then g else up g (nt x1) (i8 (i8 ((48 : Int32) - (x3 % (10 : Int64)).toInt32))))) 0 0 T (mkF m 0 #[.val (.ref x0), .val (.int x1), .val (.int x2), .val (.long x3), .second] []) := by
  refine w_iloadN (pc := 0) X C d2_0 rfl ?_
  refine w_iloadN (pc := 1) X C d2_1 rfl ?_
  refine w_icmp_lt (pc := 2) X C d2_2 18 (by decide) (fun q1 => ?_) (fun q1 => ?_)
  · -- yes
    refine w_lloadN (pc := 18) X C d2_18 rfl ?_
    refine w_ldcJ (pc := 19) X C d2_19 (v := (10 : Int64)) (List.mem_of_getElem? (i := 6) rfl) ?_
    refine w_ldiv (pc := 22) X C d2_22 (by decide) ?_
    exact w_retJ (pc := 23) X C d2_23 ⟨rfl, Keep.refl h [x0], by rw [if_pos q1]; exact A0⟩
  · -- no
    refine w_aloadN (pc := 5) X C d2_5 rfl rfl ?_
    refine w_iloadN (pc := 6) X C d2_6 rfl ?_
    refine w_bipush (pc := 7) X C d2_7 (48 : Int32) rfl ?_
    refine w_lloadN (pc := 9) X C d2_9 rfl ?_
    refine w_ldcJ (pc := 10) X C d2_10 (v := (10 : Int64)) (List.mem_of_getElem? (i := 6) rfl) ?_
    refine w_lrem (pc := 13) X C d2_13 (by decide) ?_
    refine w_l2i (pc := 14) X C d2_14 ?_
    refine w_isub (pc := 15) X C d2_15 ?_
    refine w_i2b (pc := 16) X C d2_16 ?_
    refine w_bastore (pc := 17) X C d2_17 A0 (nt x1) (nt_eq (h1 q1).1) (nt_lt (h1 q1).2 (by decide)) g0 (fun T2 h2 X2 W2 A2 => ?_)
    obtain ⟨g2, hg2⟩ : ∃ z, z = up g (nt x1) (i8 (i8 ((48 : Int32) - ((x3 % (10 : Int64))).toInt32))) := ⟨_, rfl⟩
    rw [← hg2] at A2
    have K3 : Keep h h2 [x0] := (Keep.refl h [x0]).wr W2 (Or.inl (List.mem_of_getElem? (i := 0) rfl))
    refine w_lloadN (pc := 18) X2 C d2_18 rfl ?_
    refine w_ldcJ (pc := 19) X2 C d2_19 (v := (10 : Int64)) (List.mem_of_getElem? (i := 6) rfl) ?_
    refine w_ldiv (pc := 22) X2 C d2_22 (by decide) ?_
    exact w_retJ (pc := 23) X2 C d2_23 ⟨rfl, K3, by rw [if_neg q1, ← hg2]; exact A2⟩
theorem ct2 (l : Launch) {Z : State} {a0 : Array Value} (hw : ∀ d ∈ tables_1, d.before a0 Z = true) (h : Heap) {n0 : Nat} (hn : n0 ≤ h.size) (x0 : Addr) (x1 : Int32) (x2 : Int32) (x3 : Int64) (g : Nat → Int32) (A0 : ArI Z h x0 .byte 25 g) (h1 : ¬ (x1 < x2) → 0 ≤ x1.toInt ∧ x1.toInt < 25) (g0 : n0 ≤ x0) : Ct l (⟨"com/example/wadesmill/wadesmill/protocol/DecimalParsePinLaw", "step", "([BIIJ)J"⟩ : MethodName) method_3_code 5 (some .long) ({ frames := 0, cells := 0, slots := 0, locals := 0 } : Room) Z #[(.ref x0), (.int x1), (.int x2), (.long x3)] h n0 (fun v h' => v = some (.long (x3 / (10 : Int64))) ∧ Keep h h' [x0] ∧ ArI Z h' x0 .byte 25 (if x1 < x2 then g else up g (nt x1) (i8 (i8 ((48 : Int32) - (x3 % (10 : Int64)).toInt32))))) :=
  Ct.of (plainFor_of_name pn_0) #[.val (.ref x0), .val (.int x1), .val (.int x2), .val (.long x3), .second] (fun m => by first | (simp [entryFrame, mkF, argsToLocals, Value.category]; done) | rfl) hw hn (fun p e s m below meth c T C X => bw2 X C x0 x1 x2 x3 g A0 h1 g0)
theorem d3_0 : decode prog_14_method_3_code 0 = .ok (.iload_n 1, 1) := by decide +kernel
theorem d3_1 : decode prog_14_method_3_code 1 = .ok (.iload_n 2, 1) := by decide +kernel
theorem d3_2 : decode prog_14_method_3_code 2 = .ok (.if_icmp .ge 15, 3) := by decide +kernel
theorem d3_5 : decode prog_14_method_3_code 5 = .ok (.aload_n 0, 1) := by decide +kernel
theorem d3_6 : decode prog_14_method_3_code 6 = .ok (.iload_n 1, 1) := by decide +kernel
theorem d3_7 : decode prog_14_method_3_code 7 = .ok (.baload, 1) := by decide +kernel
theorem d3_8 : decode prog_14_method_3_code 8 = .ok (.bipush 45, 2) := by decide +kernel
theorem d3_10 : decode prog_14_method_3_code 10 = .ok (.if_icmp .ne 7, 3) := by decide +kernel
theorem d3_13 : decode prog_14_method_3_code 13 = .ok (.iconst 1, 1) := by decide +kernel
theorem d3_14 : decode prog_14_method_3_code 14 = .ok (.goto 4, 3) := by decide +kernel
theorem d3_17 : decode prog_14_method_3_code 17 = .ok (.iconst 0, 1) := by decide +kernel
theorem d3_18 : decode prog_14_method_3_code 18 = .ok (.istore_n 3, 1) := by decide +kernel
theorem d3_19 : decode prog_14_method_3_code 19 = .ok (.iload_n 3, 1) := by decide +kernel
theorem d3_20 : decode prog_14_method_3_code 20 = .ok (.ifCond .eq 9, 3) := by decide +kernel
theorem d3_23 : decode prog_14_method_3_code 23 = .ok (.iload_n 1, 1) := by decide +kernel
theorem d3_24 : decode prog_14_method_3_code 24 = .ok (.iconst 1, 1) := by decide +kernel
theorem d3_25 : decode prog_14_method_3_code 25 = .ok (.iadd, 1) := by decide +kernel
theorem d3_26 : decode prog_14_method_3_code 26 = .ok (.goto 4, 3) := by decide +kernel
theorem d3_29 : decode prog_14_method_3_code 29 = .ok (.iload_n 1, 1) := by decide +kernel
theorem d3_30 : decode prog_14_method_3_code 30 = .ok (.istore 4, 2) := by decide +kernel
theorem d3_32 : decode prog_14_method_3_code 32 = .ok (.iload 4, 2) := by decide +kernel
theorem d3_34 : decode prog_14_method_3_code 34 = .ok (.iload_n 2, 1) := by decide +kernel
theorem d3_35 : decode prog_14_method_3_code 35 = .ok (.if_icmp .ne 13, 3) := by decide +kernel
theorem d3_48 : decode prog_14_method_3_code 48 = .ok (.iload_n 3, 1) := by decide +kernel
theorem d3_49 : decode prog_14_method_3_code 49 = .ok (.ifCond .eq 9, 3) := by decide +kernel
theorem d3_52 : decode prog_14_method_3_code 52 = .ok (.ldc2_w 22, 3) := by decide +kernel
theorem d3_55 : decode prog_14_method_3_code 55 = .ok (.goto 6, 3) := by decide +kernel
theorem d3_58 : decode prog_14_method_3_code 58 = .ok (.ldc2_w 24, 3) := by decide +kernel
theorem d3_61 : decode prog_14_method_3_code 61 = .ok (.lstore 5, 2) := by decide +kernel
theorem d3_63 : decode prog_14_method_3_code 63 = .ok (.lconst 0, 1) := by decide +kernel
theorem d3_64 : decode prog_14_method_3_code 64 = .ok (.lstore 7, 2) := by decide +kernel
theorem d3_66 : decode prog_14_method_3_code 66 = .ok (.iload 4, 2) := by decide +kernel
theorem d3_68 : decode prog_14_method_3_code 68 = .ok (.istore 9, 2) := by decide +kernel
theorem d3_70 : decode prog_14_method_3_code 70 = .ok (.iload 9, 2) := by decide +kernel
theorem d3_72 : decode prog_14_method_3_code 72 = .ok (.iload_n 2, 1) := by decide +kernel
theorem d3_73 : decode prog_14_method_3_code 73 = .ok (.if_icmp .ge 83, 3) := by decide +kernel
theorem d3_76 : decode prog_14_method_3_code 76 = .ok (.aload_n 0, 1) := by decide +kernel
theorem d3_77 : decode prog_14_method_3_code 77 = .ok (.iload 9, 2) := by decide +kernel
theorem d3_79 : decode prog_14_method_3_code 79 = .ok (.baload, 1) := by decide +kernel
theorem d3_80 : decode prog_14_method_3_code 80 = .ok (.bipush 48, 2) := by decide +kernel
theorem d3_82 : decode prog_14_method_3_code 82 = .ok (.isub, 1) := by decide +kernel
theorem d3_83 : decode prog_14_method_3_code 83 = .ok (.istore 10, 2) := by decide +kernel
theorem d3_85 : decode prog_14_method_3_code 85 = .ok (.iload 10, 2) := by decide +kernel
theorem d3_87 : decode prog_14_method_3_code 87 = .ok (.ifCond .lt 10, 3) := by decide +kernel
theorem d3_90 : decode prog_14_method_3_code 90 = .ok (.iload 10, 2) := by decide +kernel
theorem d3_92 : decode prog_14_method_3_code 92 = .ok (.bipush 9, 2) := by decide +kernel
theorem d3_94 : decode prog_14_method_3_code 94 = .ok (.if_icmp .le 18, 3) := by decide +kernel
theorem d3_112 : decode prog_14_method_3_code 112 = .ok (.lload 7, 2) := by decide +kernel
theorem d3_114 : decode prog_14_method_3_code 114 = .ok (.lload 5, 2) := by decide +kernel
theorem d3_116 : decode prog_14_method_3_code 116 = .ok (.iload 10, 2) := by decide +kernel
theorem d3_118 : decode prog_14_method_3_code 118 = .ok (.i2l, 1) := by decide +kernel
theorem d3_119 : decode prog_14_method_3_code 119 = .ok (.ladd, 1) := by decide +kernel
theorem d3_120 : decode prog_14_method_3_code 120 = .ok (.ldc2_w 30, 3) := by decide +kernel
theorem d3_123 : decode prog_14_method_3_code 123 = .ok (.ldiv, 1) := by decide +kernel
theorem d3_124 : decode prog_14_method_3_code 124 = .ok (.lcmp, 1) := by decide +kernel
theorem d3_125 : decode prog_14_method_3_code 125 = .ok (.ifCond .ge 13, 3) := by decide +kernel
theorem d3_138 : decode prog_14_method_3_code 138 = .ok (.lload 7, 2) := by decide +kernel
theorem d3_140 : decode prog_14_method_3_code 140 = .ok (.ldc2_w 30, 3) := by decide +kernel
theorem d3_143 : decode prog_14_method_3_code 143 = .ok (.lmul, 1) := by decide +kernel
theorem d3_144 : decode prog_14_method_3_code 144 = .ok (.iload 10, 2) := by decide +kernel
theorem d3_146 : decode prog_14_method_3_code 146 = .ok (.i2l, 1) := by decide +kernel
theorem d3_147 : decode prog_14_method_3_code 147 = .ok (.lsub, 1) := by decide +kernel
theorem d3_148 : decode prog_14_method_3_code 148 = .ok (.lstore 7, 2) := by decide +kernel
theorem d3_150 : decode prog_14_method_3_code 150 = .ok (.iinc 9 1, 3) := by decide +kernel
theorem d3_153 : decode prog_14_method_3_code 153 = .ok (.goto (-83), 3) := by decide +kernel
theorem d3_156 : decode prog_14_method_3_code 156 = .ok (.iload_n 3, 1) := by decide +kernel
theorem d3_157 : decode prog_14_method_3_code 157 = .ok (.ifCond .eq 8, 3) := by decide +kernel
theorem d3_160 : decode prog_14_method_3_code 160 = .ok (.lload 7, 2) := by decide +kernel
theorem d3_162 : decode prog_14_method_3_code 162 = .ok (.goto 6, 3) := by decide +kernel
theorem d3_165 : decode prog_14_method_3_code 165 = .ok (.lload 7, 2) := by decide +kernel
theorem d3_167 : decode prog_14_method_3_code 167 = .ok (.lneg, 1) := by decide +kernel
theorem d3_168 : decode prog_14_method_3_code 168 = .ok (.lreturn, 1) := by decide +kernel
theorem os3_83 {z0 : Value} {z1 : Value} {z2 : Value} {z3 : Value} {z4 : Value} {z5 : Value} {z7 : Value} {z9 : Value} {x10 : Slot} {v : Int32} (h : One x10) : storeLocals #[.val z0, .val z1, .val z2, .val z3, .val z4, .val z5, .second, .val z7, .second, .val z9, x10] 10 (.int v) = some #[.val z0, .val z1, .val z2, .val z3, .val z4, .val z5, .second, .val z7, .second, .val z9, .val (.int v)] := by
  rcases h with rfl | ⟨w, rfl, hw⟩
  · rfl
  · cases w <;> first | rfl | (simp [Value.category] at hw)
set_option maxRecDepth 65536 in
set_option maxHeartbeats 40000000 in
theorem pa_run {p : Program} {l : Launch} {e : Env} {s : State} {m : MethodId} {args : Array Value} {below : List Frame} {meth : Method} {c : Code} {h : Heap} {n0 : Nat} {P : Option Value → Heap → Prop} {Z : State} {a0 : Array Value} (C : Cx p s m meth c prog_14_method_3_code 11 (some .long) "com/example/wadesmill/wadesmill/protocol/Decimal" "parse" Z a0 tables_1) (x0 : Addr) (x1 x2 x3 x4 : Int32) (x5 : Int64) (g : Nat → Int32) (acc : Nat → Int) (A0 : ArI Z h x0 .byte 25 g) (hb : x2.toInt ≤ 25) (h40 : 0 ≤ x4.toInt) (hdig : ∀ j : Nat, x4.toInt ≤ j → (j : Int) < x2.toInt → 48 ≤ (g j).toInt ∧ (g j).toInt ≤ 57) (hstep : ∀ j : Nat, x4.toInt ≤ j → (j : Int) < x2.toInt → acc (j + 1) = acc j * 10 - ((g j).toInt - 48)) (hlim : ∀ j : Nat, x4.toInt ≤ j → (j : Int) ≤ x2.toInt → x5.toInt ≤ acc j ∧ acc j ≤ 0) (hx5 : x5.toInt ≤ -9223372036854775807) (hP : ∀ z : Int64, z.toInt = acc (nt x2) → P (some (.long (if x3 = 0 then -z else z))) h) : ∀ (k : Nat) (x7 : Int64) (x9 : Int32) (x10 : Slot), One x10 → x4.toInt ≤ x9.toInt → x9.toInt ≤ x2.toInt → x2.toInt - x9.toInt ≤ k → x7.toInt = acc (nt x9) → ∀ T, Hr p l e ({ frames := 0, cells := 0, slots := 0, locals := 0 } : Room) s m args below meth c n0 h 0 0 T → Goes p e below s n0 P 0 0 T (mkF m 70 #[.val (.ref x0), .val (.int x1), .val (.int x2), .val (.int x3), .val (.int x4), .val (.long x5), .second, .val (.long x7), .second, .val (.int x9), x10] []) := by
  intro k
  induction k with
  | zero =>
    intro x7 x9 x10 o_x10 h9 h92 hk hac T X
    have h90 : 0 ≤ x9.toInt := by omega
    refine w_iload (pc := 70) X C d3_70 rfl ?_
    refine w_iloadN (pc := 72) X C d3_72 rfl ?_
    refine w_icmp_ge (pc := 73) X C d3_73 156 (by decide) (fun q1 => ?_) (fun q1 => absurd q1 (fun z => absurd (Int32.lt_iff_toInt_lt.mp z) (by omega)))
    refine w_iloadN (pc := 156) X C d3_156 rfl ?_
    refine w_if_eq (pc := 157) X C d3_157 165 (by decide) (fun q2 => ?_) (fun q2 => ?_)
    · -- yes
      refine w_lload (pc := 165) X C d3_165 rfl ?_
      refine w_lneg (pc := 167) X C d3_167 ?_
      exact w_retJ (pc := 168) X C d3_168 (by have hh := hP x7 (by rw [hac, show nt x2 = nt x9 from by unfold nt; congr 1; omega]); rw [if_pos q2] at hh; exact hh)
    · -- no
      refine w_lload (pc := 160) X C d3_160 rfl ?_
      refine w_goto (pc := 162) X C d3_162 168 (by decide) ?_
      exact w_retJ (pc := 168) X C d3_168 (by have hh := hP x7 (by rw [hac, show nt x2 = nt x9 from by unfold nt; congr 1; omega]); rw [if_neg q2] at hh; exact hh)
  | succ k ih =>
    intro x7 x9 x10 o_x10 h9 h92 hk hac T X
    have h90 : 0 ≤ x9.toInt := by omega
    refine w_iload (pc := 70) X C d3_70 rfl ?_
    refine w_iloadN (pc := 72) X C d3_72 rfl ?_
    refine w_icmp_ge (pc := 73) X C d3_73 156 (by decide) (fun q1 => ?_) (fun q1 => ?_)
    · -- yes
      refine w_iloadN (pc := 156) X C d3_156 rfl ?_
      refine w_if_eq (pc := 157) X C d3_157 165 (by decide) (fun q2 => ?_) (fun q2 => ?_)
      · -- yes
        refine w_lload (pc := 165) X C d3_165 rfl ?_
        refine w_lneg (pc := 167) X C d3_167 ?_
        exact w_retJ (pc := 168) X C d3_168 (by have hh := hP x7 (by rw [hac, show nt x2 = nt x9 from by unfold nt; congr 1; have := Int32.le_iff_toInt_le.mp (Int32.not_lt.mp q1); omega]); rw [if_pos q2] at hh; exact hh)
      · -- no
        refine w_lload (pc := 160) X C d3_160 rfl ?_
        refine w_goto (pc := 162) X C d3_162 168 (by decide) ?_
        exact w_retJ (pc := 168) X C d3_168 (by have hh := hP x7 (by rw [hac, show nt x2 = nt x9 from by unfold nt; congr 1; have := Int32.le_iff_toInt_le.mp (Int32.not_lt.mp q1); omega]); rw [if_neg q2] at hh; exact hh)
    · -- no
      refine w_aloadN (pc := 76) X C d3_76 rfl rfl ?_
      refine w_iload (pc := 77) X C d3_77 rfl ?_
      have hl9x := Int32.lt_iff_toInt_lt.mp q1
      refine w_baload (pc := 79) X C d3_79 A0 (nt x9) (nt_eq h90) (nt_lt (by omega) (by decide)) ?_
      refine w_bipush (pc := 80) X C d3_80 (48 : Int32) rfl ?_
      refine w_isub (pc := 82) X C d3_82 ?_
      obtain ⟨dd, e_dd⟩ : ∃ z, z = ((g (nt x9)) - (48 : Int32)) := ⟨_, rfl⟩
      rw [← e_dd]
      have hl9 := Int32.lt_iff_toInt_lt.mp q1
      have hgd := hdig (nt x9) (by unfold nt; omega) (by unfold nt; omega)
      have hst := hstep (nt x9) (by unfold nt; omega) (by unfold nt; omega)
      have hli := hlim (nt x9 + 1) (by unfold nt; omega) (by unfold nt; omega)
      have hli0 := hlim (nt x9) (by unfold nt; omega) (by unfold nt; omega)
      have hd := own_dig (g (nt x9)) dd e_dd hgd
      have hd0 : ¬ (dd < 0) := by rw [Int32.lt_iff_toInt_lt]; have z0 : (0 : Int32).toInt = 0 := rfl; omega
      have hd9 : ¬ ((9 : Int32) < dd) := by rw [Int32.lt_iff_toInt_lt]; have z9 : (9 : Int32).toInt = 9 := rfl; omega
      have hov := own_ov x7 x5 dd (by omega) hx5 (by omega) (by omega)
      have hnx := own_nx x7 x5 dd (by omega) hx5 (by omega) (by omega)
      refine w_istore (pc := 83) X C d3_83 #[.val (.ref x0), .val (.int x1), .val (.int x2), .val (.int x3), .val (.int x4), .val (.long x5), .second, .val (.long x7), .second, .val (.int x9), .val (.int dd)] (os3_83 o_x10) ?_
      refine w_iload (pc := 85) X C d3_85 rfl ?_
      refine w_if_lt (pc := 87) X C d3_87 97 (by decide) (fun q3 => absurd q3 (hd0)) (fun q3 => ?_)
      refine w_iload (pc := 90) X C d3_90 rfl ?_
      refine w_bipush (pc := 92) X C d3_92 (9 : Int32) rfl ?_
      refine w_icmp_le (pc := 94) X C d3_94 112 (by decide) (fun q4 => ?_) (fun q4 => absurd q4 (hd9))
      refine w_lload (pc := 112) X C d3_112 rfl ?_
      refine w_lload (pc := 114) X C d3_114 rfl ?_
      refine w_iload (pc := 116) X C d3_116 rfl ?_
      refine w_i2l (pc := 118) X C d3_118 ?_
      refine w_ladd (pc := 119) X C d3_119 ?_
      refine w_ldcJ (pc := 120) X C d3_120 (v := (10 : Int64)) (List.mem_of_getElem? (i := 33) rfl) ?_
      refine w_ldiv (pc := 123) X C d3_123 (by decide) ?_
      refine w_lcmp (pc := 124) X C d3_124 ?_
      refine w_ifJ_ge (pc := 125) X C d3_125 138 (by decide) (fun q5 => ?_) (fun q5 => absurd q5 (hov))
      refine w_lload (pc := 138) X C d3_138 rfl ?_
      refine w_ldcJ (pc := 140) X C d3_140 (v := (10 : Int64)) (List.mem_of_getElem? (i := 33) rfl) ?_
      refine w_lmul (pc := 143) X C d3_143 ?_
      refine w_iload (pc := 144) X C d3_144 rfl ?_
      refine w_i2l (pc := 146) X C d3_146 ?_
      refine w_lsub (pc := 147) X C d3_147 ?_
      refine w_lstore (pc := 148) X C d3_148 #[.val (.ref x0), .val (.int x1), .val (.int x2), .val (.int x3), .val (.int x4), .val (.long x5), .second, .val (.long ((x7 * (10 : Int64)) - (dd).toInt64)), .second, .val (.int x9), .val (.int dd)] rfl ?_
      refine w_iinc (pc := 150) X C d3_150 (1 : Int32) rfl rfl #[.val (.ref x0), .val (.int x1), .val (.int x2), .val (.int x3), .val (.int x4), .val (.long x5), .second, .val (.long ((x7 * (10 : Int64)) - (dd).toInt64)), .second, .val (.int (x9 + (1 : Int32))), .val (.int dd)] rfl ?_
      refine w_goto (pc := 153) X C d3_153 70 (by decide) ?_
      have e91 : (x9 + (1 : Int32)).toInt = x9.toInt + 1 := add1 _ 1 rfl (by omega) (by omega)
      have ent : nt (x9 + (1 : Int32)) = nt x9 + 1 := by unfold nt; rw [e91]; omega
      exact ih _ _ _ (One.val rfl) (by omega) (by omega) (by omega) (by rw [hnx, ent, hst]; omega) _ X
set_option maxRecDepth 65536 in
set_option maxHeartbeats 40000000 in
theorem bw3_neg {p : Program} {l : Launch} {e : Env} {s : State} {m : MethodId} {args : Array Value} {below : List Frame} {meth : Method} {c : Code} {T : State} {h : Heap} {n0 : Nat} {Z : State} {a0 : Array Value} (X : Hr p l e ({ frames := 0, cells := 0, slots := 0, locals := 0 } : Room) s m args below meth c n0 h 0 0 T) (C : Cx p s m meth c prog_14_method_3_code 11 (some .long) "com/example/wadesmill/wadesmill/protocol/Decimal" "parse" Z a0 tables_1) (x0 : Addr) (x1 : Int32) (x2 : Int32) (g : Nat → Int32) (acc : Nat → Int) (r : Int64) (A0 : ArI Z h x0 .byte 25 g) (ha : 0 ≤ x1.toInt) (hb : x2.toInt ≤ 25) (hlt : x1.toInt + 1 < x2.toInt) (hm : g (nt x1) = (45 : Int32)) (hdig : ∀ j : Nat, x1.toInt + 1 ≤ j → (j : Int) < x2.toInt → 48 ≤ (g j).toInt ∧ (g j).toInt ≤ 57) (hstep : ∀ j : Nat, x1.toInt + 1 ≤ j → (j : Int) < x2.toInt → acc (j + 1) = acc j * 10 - ((g j).toInt - 48)) (hlim : ∀ j : Nat, x1.toInt + 1 ≤ j → (j : Int) ≤ x2.toInt → -9223372036854775808 ≤ acc j ∧ acc j ≤ 0) (hacc0 : acc (nt x1 + 1) = 0) (hr : r.toInt = acc (nt x2)) : Goes p e below s n0 (fun v h' => v = some (.long r) ∧ h' = h) 0 0 T (mkF m 0 #[.val (.ref x0), .val (.int x1), .val (.int x2), .unset, .unset, .unset, .unset, .unset, .unset, .unset, .unset] []) := by
  refine w_iloadN (pc := 0) X C d3_0 rfl ?_
  refine w_iloadN (pc := 1) X C d3_1 rfl ?_
  refine w_icmp_ge (pc := 2) X C d3_2 17 (by decide) (fun q1 => absurd (Int32.lt_iff_toInt_lt.mpr (by omega)) q1) (fun q1 => ?_)
  refine w_aloadN (pc := 5) X C d3_5 rfl rfl ?_
  refine w_iloadN (pc := 6) X C d3_6 rfl ?_
  refine w_baload (pc := 7) X C d3_7 A0 (nt x1) (nt_eq ha) (nt_lt (by omega) (by decide)) ?_
  refine w_bipush (pc := 8) X C d3_8 (45 : Int32) rfl ?_
  refine w_icmp_ne (pc := 10) X C d3_10 17 (by decide) (fun q2 => absurd (hm) q2) (fun q2 => ?_)
  refine w_iconst (pc := 13) X C d3_13 (1 : Int32) rfl ?_
  refine w_goto (pc := 14) X C d3_14 18 (by decide) ?_
  refine w_istoreN (pc := 18) X C d3_18 #[.val (.ref x0), .val (.int x1), .val (.int x2), .val (.int (1 : Int32)), .unset, .unset, .unset, .unset, .unset, .unset, .unset] rfl ?_
  refine w_iloadN (pc := 19) X C d3_19 rfl ?_
  refine w_if_eq (pc := 20) X C d3_20 29 (by decide) (fun q3 => absurd q3 (by decide)) (fun q3 => ?_)
  refine w_iloadN (pc := 23) X C d3_23 rfl ?_
  refine w_iconst (pc := 24) X C d3_24 (1 : Int32) rfl ?_
  refine w_iadd (pc := 25) X C d3_25 ?_
  refine w_goto (pc := 26) X C d3_26 30 (by decide) ?_
  refine w_istore (pc := 30) X C d3_30 #[.val (.ref x0), .val (.int x1), .val (.int x2), .val (.int (1 : Int32)), .val (.int (x1 + (1 : Int32))), .unset, .unset, .unset, .unset, .unset, .unset] rfl ?_
  refine w_iload (pc := 32) X C d3_32 rfl ?_
  refine w_iloadN (pc := 34) X C d3_34 rfl ?_
  refine w_icmp_ne (pc := 35) X C d3_35 48 (by decide) (fun q4 => ?_) (fun q4 => absurd q4 (fun z => by have z1 := congrArg Int32.toInt z; rw [add1 (1 : Int32) 1 rfl (by omega) (by omega)] at z1; omega))
  refine w_iloadN (pc := 48) X C d3_48 rfl ?_
  refine w_if_eq (pc := 49) X C d3_49 58 (by decide) (fun q5 => absurd q5 (by decide)) (fun q5 => ?_)
  refine w_ldcJ (pc := 52) X C d3_52 (v := (-9223372036854775808 : Int64)) (List.mem_of_getElem? (i := 32) rfl) ?_
  refine w_goto (pc := 55) X C d3_55 61 (by decide) ?_
  refine w_lstore (pc := 61) X C d3_61 #[.val (.ref x0), .val (.int x1), .val (.int x2), .val (.int (1 : Int32)), .val (.int (x1 + (1 : Int32))), .val (.long (-9223372036854775808 : Int64)), .second, .unset, .unset, .unset, .unset] rfl ?_
  refine w_lconst (pc := 63) X C d3_63 (0 : Int64) rfl ?_
  refine w_lstore (pc := 64) X C d3_64 #[.val (.ref x0), .val (.int x1), .val (.int x2), .val (.int (1 : Int32)), .val (.int (x1 + (1 : Int32))), .val (.long (-9223372036854775808 : Int64)), .second, .val (.long (0 : Int64)), .second, .unset, .unset] rfl ?_
  refine w_iload (pc := 66) X C d3_66 rfl ?_
  refine w_istore (pc := 68) X C d3_68 #[.val (.ref x0), .val (.int x1), .val (.int x2), .val (.int (1 : Int32)), .val (.int (x1 + (1 : Int32))), .val (.long (-9223372036854775808 : Int64)), .second, .val (.long (0 : Int64)), .second, .val (.int (x1 + (1 : Int32))), .unset] rfl ?_
  have e4 : (x1 + (1 : Int32)).toInt = x1.toInt + 1 := add1 _ 1 rfl (by omega) (by omega)
  exact pa_run C x0 x1 x2 (1 : Int32) (x1 + (1 : Int32)) (-9223372036854775808 : Int64) g acc A0 hb (by omega) (by rw [e4]; exact hdig) (by rw [e4]; exact hstep) (fun j a b => ⟨by have e5 : ((-9223372036854775808 : Int64) : Int64).toInt = -9223372036854775808 := rfl; rw [e5]; exact (hlim j (by rw [e4] at a; exact a) b).1, (hlim j (by rw [e4] at a; exact a) b).2⟩) (by decide) (fun z hz => ⟨by rw [show z = r from Int64.toInt_inj.mp (by rw [hz, hr])]; rfl, rfl⟩) 25 0 (x1 + (1 : Int32)) _ One.u (by omega) (by omega) (by omega) (by rw [show (0 : Int64).toInt = 0 from rfl, show nt (x1 + (1 : Int32)) = nt x1 + 1 from by unfold nt; rw [e4]; omega]; exact hacc0.symm) _ X
theorem ct3_neg (l : Launch) {Z : State} {a0 : Array Value} (hw : ∀ d ∈ tables_1, d.before a0 Z = true) (h : Heap) {n0 : Nat} (hn : n0 ≤ h.size) (x0 : Addr) (x1 : Int32) (x2 : Int32) (g : Nat → Int32) (acc : Nat → Int) (r : Int64) (A0 : ArI Z h x0 .byte 25 g) (ha : 0 ≤ x1.toInt) (hb : x2.toInt ≤ 25) (hlt : x1.toInt + 1 < x2.toInt) (hm : g (nt x1) = (45 : Int32)) (hdig : ∀ j : Nat, x1.toInt + 1 ≤ j → (j : Int) < x2.toInt → 48 ≤ (g j).toInt ∧ (g j).toInt ≤ 57) (hstep : ∀ j : Nat, x1.toInt + 1 ≤ j → (j : Int) < x2.toInt → acc (j + 1) = acc j * 10 - ((g j).toInt - 48)) (hlim : ∀ j : Nat, x1.toInt + 1 ≤ j → (j : Int) ≤ x2.toInt → -9223372036854775808 ≤ acc j ∧ acc j ≤ 0) (hacc0 : acc (nt x1 + 1) = 0) (hr : r.toInt = acc (nt x2)) : Ct l (⟨"com/example/wadesmill/wadesmill/protocol/Decimal", "parse", "([BII)J"⟩ : MethodName) prog_14_method_3_code 11 (some .long) ({ frames := 0, cells := 0, slots := 0, locals := 0 } : Room) Z #[(.ref x0), (.int x1), (.int x2)] h n0 (fun v h' => v = some (.long r) ∧ h' = h) :=
  Ct.of (plainFor_of_name pn_1) #[.val (.ref x0), .val (.int x1), .val (.int x2), .unset, .unset, .unset, .unset, .unset, .unset, .unset, .unset] (fun m => by first | (simp [entryFrame, mkF, argsToLocals, Value.category]; done) | rfl) hw hn (fun p e s m below meth c T C X => bw3_neg X C x0 x1 x2 g acc r A0 ha hb hlt hm hdig hstep hlim hacc0 hr)
set_option maxRecDepth 65536 in
set_option maxHeartbeats 40000000 in
theorem bw3_pos {p : Program} {l : Launch} {e : Env} {s : State} {m : MethodId} {args : Array Value} {below : List Frame} {meth : Method} {c : Code} {T : State} {h : Heap} {n0 : Nat} {Z : State} {a0 : Array Value} (X : Hr p l e ({ frames := 0, cells := 0, slots := 0, locals := 0 } : Room) s m args below meth c n0 h 0 0 T) (C : Cx p s m meth c prog_14_method_3_code 11 (some .long) "com/example/wadesmill/wadesmill/protocol/Decimal" "parse" Z a0 tables_1) (x0 : Addr) (x1 : Int32) (x2 : Int32) (g : Nat → Int32) (acc : Nat → Int) (r : Int64) (A0 : ArI Z h x0 .byte 25 g) (ha : 0 ≤ x1.toInt) (hb : x2.toInt ≤ 25) (hlt : x1.toInt < x2.toInt) (hm : ¬ (g (nt x1) = (45 : Int32))) (hdig : ∀ j : Nat, x1.toInt ≤ j → (j : Int) < x2.toInt → 48 ≤ (g j).toInt ∧ (g j).toInt ≤ 57) (hstep : ∀ j : Nat, x1.toInt ≤ j → (j : Int) < x2.toInt → acc (j + 1) = acc j * 10 - ((g j).toInt - 48)) (hlim : ∀ j : Nat, x1.toInt ≤ j → (j : Int) ≤ x2.toInt → -9223372036854775807 ≤ acc j ∧ acc j ≤ 0) (hacc0 : acc (nt x1) = 0) (hr : r.toInt = acc (nt x2)) : Goes p e below s n0 (fun v h' => v = some (.long (-r)) ∧ h' = h) 0 0 T (mkF m 0 #[.val (.ref x0), .val (.int x1), .val (.int x2), .unset, .unset, .unset, .unset, .unset, .unset, .unset, .unset] []) := by
  refine w_iloadN (pc := 0) X C d3_0 rfl ?_
  refine w_iloadN (pc := 1) X C d3_1 rfl ?_
  refine w_icmp_ge (pc := 2) X C d3_2 17 (by decide) (fun q1 => absurd (Int32.lt_iff_toInt_lt.mpr (by omega)) q1) (fun q1 => ?_)
  refine w_aloadN (pc := 5) X C d3_5 rfl rfl ?_
  refine w_iloadN (pc := 6) X C d3_6 rfl ?_
  refine w_baload (pc := 7) X C d3_7 A0 (nt x1) (nt_eq ha) (nt_lt (by omega) (by decide)) ?_
  refine w_bipush (pc := 8) X C d3_8 (45 : Int32) rfl ?_
  refine w_icmp_ne (pc := 10) X C d3_10 17 (by decide) (fun q2 => ?_) (fun q2 => absurd q2 (hm))
  refine w_iconst (pc := 17) X C d3_17 (0 : Int32) rfl ?_
  refine w_istoreN (pc := 18) X C d3_18 #[.val (.ref x0), .val (.int x1), .val (.int x2), .val (.int (0 : Int32)), .unset, .unset, .unset, .unset, .unset, .unset, .unset] rfl ?_
  refine w_iloadN (pc := 19) X C d3_19 rfl ?_
  refine w_if_eq (pc := 20) X C d3_20 29 (by decide) (fun q3 => ?_) (fun q3 => absurd (by decide) q3)
  refine w_iloadN (pc := 29) X C d3_29 rfl ?_
  refine w_istore (pc := 30) X C d3_30 #[.val (.ref x0), .val (.int x1), .val (.int x2), .val (.int (0 : Int32)), .val (.int x1), .unset, .unset, .unset, .unset, .unset, .unset] rfl ?_
  refine w_iload (pc := 32) X C d3_32 rfl ?_
  refine w_iloadN (pc := 34) X C d3_34 rfl ?_
  refine w_icmp_ne (pc := 35) X C d3_35 48 (by decide) (fun q4 => ?_) (fun q4 => absurd q4 (fun z => by have z1 := congrArg Int32.toInt z; omega))
  refine w_iloadN (pc := 48) X C d3_48 rfl ?_
  refine w_if_eq (pc := 49) X C d3_49 58 (by decide) (fun q5 => ?_) (fun q5 => absurd (by decide) q5)
  refine w_ldcJ (pc := 58) X C d3_58 (v := (-9223372036854775807 : Int64)) (List.mem_of_getElem? (i := 35) rfl) ?_
  refine w_lstore (pc := 61) X C d3_61 #[.val (.ref x0), .val (.int x1), .val (.int x2), .val (.int (0 : Int32)), .val (.int x1), .val (.long (-9223372036854775807 : Int64)), .second, .unset, .unset, .unset, .unset] rfl ?_
  refine w_lconst (pc := 63) X C d3_63 (0 : Int64) rfl ?_
  refine w_lstore (pc := 64) X C d3_64 #[.val (.ref x0), .val (.int x1), .val (.int x2), .val (.int (0 : Int32)), .val (.int x1), .val (.long (-9223372036854775807 : Int64)), .second, .val (.long (0 : Int64)), .second, .unset, .unset] rfl ?_
  refine w_iload (pc := 66) X C d3_66 rfl ?_
  refine w_istore (pc := 68) X C d3_68 #[.val (.ref x0), .val (.int x1), .val (.int x2), .val (.int (0 : Int32)), .val (.int x1), .val (.long (-9223372036854775807 : Int64)), .second, .val (.long (0 : Int64)), .second, .val (.int x1), .unset] rfl ?_
  exact pa_run C x0 x1 x2 (0 : Int32) x1 (-9223372036854775807 : Int64) g acc A0 hb (by omega) (hdig) (hstep) (fun j a b => ⟨by have e5 : ((-9223372036854775807 : Int64) : Int64).toInt = -9223372036854775807 := rfl; rw [e5]; exact (hlim j (a) b).1, (hlim j (a) b).2⟩) (by decide) (fun z hz => ⟨by rw [show z = r from Int64.toInt_inj.mp (by rw [hz, hr])]; rfl, rfl⟩) 25 0 x1 _ One.u (by omega) (by omega) (by omega) (by rw [show (0 : Int64).toInt = 0 from rfl, show nt x1 = nt x1 from rfl]; exact hacc0.symm) _ X
theorem ct3_pos (l : Launch) {Z : State} {a0 : Array Value} (hw : ∀ d ∈ tables_1, d.before a0 Z = true) (h : Heap) {n0 : Nat} (hn : n0 ≤ h.size) (x0 : Addr) (x1 : Int32) (x2 : Int32) (g : Nat → Int32) (acc : Nat → Int) (r : Int64) (A0 : ArI Z h x0 .byte 25 g) (ha : 0 ≤ x1.toInt) (hb : x2.toInt ≤ 25) (hlt : x1.toInt < x2.toInt) (hm : ¬ (g (nt x1) = (45 : Int32))) (hdig : ∀ j : Nat, x1.toInt ≤ j → (j : Int) < x2.toInt → 48 ≤ (g j).toInt ∧ (g j).toInt ≤ 57) (hstep : ∀ j : Nat, x1.toInt ≤ j → (j : Int) < x2.toInt → acc (j + 1) = acc j * 10 - ((g j).toInt - 48)) (hlim : ∀ j : Nat, x1.toInt ≤ j → (j : Int) ≤ x2.toInt → -9223372036854775807 ≤ acc j ∧ acc j ≤ 0) (hacc0 : acc (nt x1) = 0) (hr : r.toInt = acc (nt x2)) : Ct l (⟨"com/example/wadesmill/wadesmill/protocol/Decimal", "parse", "([BII)J"⟩ : MethodName) prog_14_method_3_code 11 (some .long) ({ frames := 0, cells := 0, slots := 0, locals := 0 } : Room) Z #[(.ref x0), (.int x1), (.int x2)] h n0 (fun v h' => v = some (.long (-r)) ∧ h' = h) :=
  Ct.of (plainFor_of_name pn_1) #[.val (.ref x0), .val (.int x1), .val (.int x2), .unset, .unset, .unset, .unset, .unset, .unset, .unset, .unset] (fun m => by first | (simp [entryFrame, mkF, argsToLocals, Value.category]; done) | rfl) hw hn (fun p e s m below meth c T C X => bw3_pos X C x0 x1 x2 g acc r A0 ha hb hlt hm hdig hstep hlim hacc0 hr)

theorem own_m19 (x : Int32) : 1 ≤ ((1 : Int32) + ((x &&& (2147483647 : Int32)) % (19 : Int32))).toInt ∧ ((1 : Int32) + ((x &&& (2147483647 : Int32)) % (19 : Int32))).toInt ≤ 19 := by
  have h0 := c_and x (2147483647 : Int32) (by decide)
  have h1 := (c_irem (x &&& (2147483647 : Int32)) (19 : Int32) 19 rfl).1 h0.1
  generalize ((x &&& (2147483647 : Int32)) % (19 : Int32)) = y at *
  have h2 := c_iadd (1 : Int32) y
  have r := rng32 ((1 : Int32) + y)
  have e1 : (1 : Int32).toInt = 1 := rfl
  omega
theorem own_abs (x mm : Int64) (e : mm = (if x < (0 : Int64) then x else (-x))) : ∃ Mn : Nat, mm.toInt = -(Mn : Int) ∧ Mn ≤ 9223372036854775808 := by
  have r := rng64 x
  have z0 : (0 : Int64).toInt = 0 := rfl
  by_cases q : x < (0 : Int64)
  · rw [if_pos q] at e
    rw [Int64.lt_iff_toInt_lt] at q
    exact ⟨(-x.toInt).toNat, by rw [e]; omega, by omega⟩
  · rw [if_neg q] at e
    rw [Int64.lt_iff_toInt_lt] at q
    have h := Int64.toInt_neg x
    have b := bm64 (-x.toInt)
    rw [← h] at b
    have r2 := rng64 (-x)
    exact ⟨x.toInt.toNat, by rw [e]; omega, by omega⟩
theorem own_k18 (kk : Int32) (hk : 1 ≤ kk.toInt ∧ kk.toInt ≤ 19) (h : ¬ (kk = (19 : Int32))) : 0 ≤ kk.toInt ∧ kk.toInt < 19 := by
  have e : (19 : Int32).toInt = 19 := rfl
  have : kk.toInt ≠ 19 := fun z => h (Int32.toInt_inj.mp (by rw [z, e]))
  omega
theorem own_pws : ∀ k : Fin 19, (own_pw k.1).toInt = ((10 ^ k.1 : Nat) : Int) := by decide +kernel
theorem own_pwk (kk : Int32) (hk : 1 ≤ kk.toInt ∧ kk.toInt ≤ 19) (h : ¬ (kk = (19 : Int32))) : (own_pw (nt kk)).toInt = ((10 ^ (nt kk) : Nat) : Int) := by
  have q := own_k18 kk hk h
  exact own_pws ⟨nt kk, by unfold nt; omega⟩
theorem own_pwn (kk : Int32) (hk : 1 ≤ kk.toInt ∧ kk.toInt ≤ 19) (h : ¬ (kk = (19 : Int32))) : own_pw (nt kk) ≠ 0 := by
  intro z
  have q := own_pwk kk hk h
  rw [z] at q
  have z0 : (0 : Int64).toInt = 0 := rfl
  rw [z0] at q
  have : 0 < 10 ^ (nt kk) := Nat.pow_pos (by decide)
  omega
theorem own_r19 (r mm : Int64) (Mn : Nat) (kk : Int32) (e : r = mm) (hM : mm.toInt = -(Mn : Int)) (hM2 : Mn ≤ 9223372036854775808) (h : kk = (19 : Int32)) : r.toInt = -((Mn % 10 ^ (nt kk) : Nat) : Int) := by
  rw [e, hM, h, show nt (19 : Int32) = 19 from rfl, Nat.mod_eq_of_lt (by omega)]
theorem own_rk (r mm : Int64) (Mn : Nat) (kk : Int32) (e : r = (mm % (own_pw (nt kk)))) (hM : mm.toInt = -(Mn : Int)) (hk : 1 ≤ kk.toInt ∧ kk.toInt ≤ 19) (h : ¬ (kk = (19 : Int32))) : r.toInt = -((Mn % 10 ^ (nt kk) : Nat) : Int) := by
  rw [e, Int64.toInt_mod, own_pwk kk hk h, hM, Int.neg_tmod]
  congr 1
theorem own_div (t : Int64) (Mn i : Nat) (h : t.toInt = -((Mn / 10 ^ i : Nat) : Int)) : (t / (10 : Int64)).toInt = -((Mn / 10 ^ (i + 1) : Nat) : Int) := by
  rw [Nat.pow_succ, ← Nat.div_div_eq_div_mul]
  generalize Mn / 10 ^ i = Q at *
  have c := c_ldiv t (10 : Int64) 10 rfl (by decide)
  by_cases z : 0 ≤ t.toInt
  · rw [c.1 z]; omega
  · rw [c.2 (by omega)]; omega
theorem own_pos (fi tt kk a : Int32) (i : Nat) (ea : a.toInt = i) (htt : tt.toInt = fi.toInt + kk.toInt) (hf : 0 ≤ fi.toInt ∧ fi.toInt ≤ 4) (hk : 1 ≤ kk.toInt ∧ kk.toInt ≤ 19) (hi : i ≤ 19) : (tt - a).toInt = fi.toInt + kk.toInt - i := by
  rw [sub1 a _ ea (by omega) (by omega), htt]
theorem own_in (fi tt kk a : Int32) (i : Nat) (ea : a.toInt = i) (htt : tt.toInt = fi.toInt + kk.toInt) (hf : 0 ≤ fi.toInt ∧ fi.toInt ≤ 4) (hk : 1 ≤ kk.toInt ∧ kk.toInt ≤ 19) (hi : 1 ≤ i ∧ i ≤ 19) : ¬ ((tt - a) < fi) → 0 ≤ (tt - a).toInt ∧ (tt - a).toInt < 25 := by
  intro q
  have e := own_pos fi tt kk a i ea htt hf hk hi.2
  rw [Int32.lt_iff_toInt_lt] at q
  omega
theorem own_conv (fi tt kk a : Int32) (i : Nat) (t : Int64) (Mn : Nat) (g : Nat → Int32) (ea : a.toInt = i) (htt : tt.toInt = fi.toInt + kk.toInt) (hf : 0 ≤ fi.toInt ∧ fi.toInt ≤ 4) (hk : 1 ≤ kk.toInt ∧ kk.toInt ≤ 19) (hi : 1 ≤ i ∧ i ≤ 19) (ht : t.toInt = -((Mn / 10 ^ (i - 1) : Nat) : Int)) :
    (if (tt - a) < fi then g else up g (nt (tt - a)) (i8 (i8 ((48 : Int32) - (t % (10 : Int64)).toInt32)))) = (if nt kk < i then g else up g (nt tt - i) (own_dg Mn (i - 1))) := by
  have e := own_pos fi tt kk a i ea htt hf hk hi.2
  by_cases q : (tt - a) < fi
  · rw [if_pos q, if_pos (by rw [Int32.lt_iff_toInt_lt] at q; unfold nt; omega)]
  · rw [if_neg q]
    rw [Int32.lt_iff_toInt_lt] at q
    rw [if_neg (by unfold nt; omega)]
    have e1 : nt (tt - a) = nt tt - i := by unfold nt; omega
    have e2 : i8 (i8 ((48 : Int32) - (t % (10 : Int64)).toInt32)) = own_dg Mn (i - 1) := by
      unfold own_dg
      generalize Mn / 10 ^ (i - 1) = Q at *
      have m1 : (t % (10 : Int64)).toInt = -((Q % 10 : Nat) : Int) := by
        rw [Int64.toInt_mod, ht, show (10 : Int64).toInt = ((10 : Nat) : Int) from rfl, Int.neg_tmod]
        congr 1
      have m2 : (t % (10 : Int64)).toInt32.toInt = -((Q % 10 : Nat) : Int) := by
        rw [Int64.toInt_toInt32, m1]
        exact Int.bmod_eq_of_le (by omega) (by omega)
      have m3 : ((48 : Int32) - (t % (10 : Int64)).toInt32).toInt = 48 + ((Q % 10 : Nat) : Int) := by
        rw [sub1 (x := (48 : Int32)) _ _ m2 (by rw [show (48 : Int32).toInt = 48 from rfl]; omega) (by rw [show (48 : Int32).toInt = 48 from rfl]; omega), show (48 : Int32).toInt = 48 from rfl]
        omega
      generalize ((48 : Int32) - (t % (10 : Int64)).toInt32) = w at *
      have i1 : ∀ y : Int32, 0 ≤ y.toInt ∧ y.toInt ≤ 127 → i8 y = y := by
        intro y hy
        apply Int32.toInt_inj.mp
        unfold i8
        rw [Int8.toInt_toInt32, Int32.toInt_toInt8]
        exact Int.bmod_eq_of_le (by omega) (by omega)
      rw [i1 w (by omega), i1 w (by omega)]
      apply Int32.toInt_inj.mp
      rw [m3, Int32.toInt_ofNat_small (by omega)]
      omega
    rw [e1, e2]
theorem own_gs_at (g0 : Nat → Int32) (K T Mn : Nat) (hKT : K ≤ T) : ∀ (n i : Nat), 1 ≤ i → i ≤ n → i ≤ K → own_gs g0 K T Mn n (T - i) = own_dg Mn (i - 1) := by
  intro n
  induction n with
  | zero => intro i h1 h2; omega
  | succ n ih =>
    intro i h1 h2 h3
    show (if K < n + 1 then own_gs g0 K T Mn n else up (own_gs g0 K T Mn n) (T - (n + 1)) (own_dg Mn n)) (T - i) = _
    by_cases q : K < n + 1
    · rw [if_pos q]; exact ih i h1 (by omega) h3
    · rw [if_neg q]
      unfold up
      by_cases z : i = n + 1
      · subst z; rw [if_pos rfl]; rfl
      · rw [if_neg (by omega)]; exact ih i h1 (by omega) h3
theorem own_gs_low (g0 : Nat → Int32) (K T Mn q : Nat) (hKT : K ≤ T) (hq : q < T - K) : ∀ n : Nat, own_gs g0 K T Mn n q = g0 q := by
  intro n
  induction n with
  | zero => rfl
  | succ n ih =>
    show (if K < n + 1 then own_gs g0 K T Mn n else up (own_gs g0 K T Mn n) (T - (n + 1)) (own_dg Mn n)) q = _
    by_cases z : K < n + 1
    · rw [if_pos z]; exact ih
    · rw [if_neg z]; unfold up; rw [if_neg (by omega)]; exact ih
theorem own_gat (g g0 : Nat → Int32) (tt kk fi : Int32) (Mn : Nat) (a b : Int32) (hF : g = up (up (own_gs g0 (nt kk) (nt tt) Mn 19) (nt tt) a) (nt (tt + (1 : Int32))) b) (htt : tt.toInt = fi.toInt + kk.toInt) (hf : 0 ≤ fi.toInt ∧ fi.toInt ≤ 4) (hk : 1 ≤ kk.toInt ∧ kk.toInt ≤ 19) : ∀ i : Nat, 1 ≤ i → i ≤ nt kk → g (nt tt - i) = own_dg Mn (i - 1) := by
  intro i h1 h2
  have e1 := add1 (x := tt) (1 : Int32) 1 rfl (by omega) (by omega)
  have b1 : nt kk ≤ nt tt := by unfold nt; omega
  have b2 : nt kk ≤ 19 := by unfold nt; omega
  have b3 : nt (tt + (1 : Int32)) = nt tt + 1 := by unfold nt; omega
  rw [hF, b3]
  unfold up
  rw [if_neg (by omega), if_neg (by omega)]
  exact own_gs_at g0 _ _ Mn b1 19 i h1 (by omega) h2
theorem own_min (g g0 : Nat → Int32) (tt kk fi o : Int32) (Mn : Nat) (a b : Int32) (hF : g = up (up (own_gs g0 (nt kk) (nt tt) Mn 19) (nt tt) a) (nt (tt + (1 : Int32))) b) (htt : tt.toInt = fi.toInt + kk.toInt) (hfi : fi.toInt = o.toInt + 1) (hf : 0 ≤ o.toInt ∧ fi.toInt ≤ 4) (hk : 1 ≤ kk.toInt ∧ kk.toInt ≤ 19) (h0 : g0 (nt o) = (45 : Int32)) : g (nt o) = (45 : Int32) := by
  have e1 := add1 (x := tt) (1 : Int32) 1 rfl (by omega) (by omega)
  have b1 : nt kk ≤ nt tt := by unfold nt; omega
  have b2 : nt o < nt tt - nt kk := by unfold nt; omega
  have b3 : nt (tt + (1 : Int32)) = nt tt + 1 := by unfold nt; omega
  rw [hF, b3]
  unfold up
  rw [if_neg (by omega), if_neg (by omega), own_gs_low g0 _ _ Mn _ b1 b2, h0]
theorem own_dgt (Mn i : Nat) : (own_dg Mn i).toInt = 48 + ((Mn / 10 ^ i % 10 : Nat) : Int) := by
  unfold own_dg; rw [Int32.toInt_ofNat_small (by omega)]; omega
theorem own_pls (g : Nat → Int32) (tt kk fi o : Int32) (Mn : Nat) (hat : ∀ i : Nat, 1 ≤ i → i ≤ nt kk → g (nt tt - i) = own_dg Mn (i - 1)) (htt : tt.toInt = fi.toInt + kk.toInt) (hfi : fi.toInt = o.toInt) (hf : 0 ≤ o.toInt ∧ fi.toInt ≤ 4) (hk : 1 ≤ kk.toInt ∧ kk.toInt ≤ 19) : ¬ (g (nt o) = (45 : Int32)) := by
  have q := hat (nt kk) (by unfold nt; omega) (Nat.le_refl _)
  rw [show nt tt - nt kk = nt o by unfold nt; omega] at q
  intro z
  rw [q] at z
  have d := own_dgt Mn (nt kk - 1)
  rw [z, show (45 : Int32).toInt = 45 from rfl] at d
  omega
theorem own_hdig (g : Nat → Int32) (tt kk fi : Int32) (Mn : Nat) (hat : ∀ i : Nat, 1 ≤ i → i ≤ nt kk → g (nt tt - i) = own_dg Mn (i - 1)) (htt : tt.toInt = fi.toInt + kk.toInt) (hf : 0 ≤ fi.toInt ∧ fi.toInt ≤ 4) (hk : 1 ≤ kk.toInt ∧ kk.toInt ≤ 19) (j : Nat) (a : fi.toInt ≤ j) (b : (j : Int) < tt.toInt) : 48 ≤ (g j).toInt ∧ (g j).toInt ≤ 57 := by
  have q := hat (nt tt - j) (by unfold nt; omega) (by unfold nt; omega)
  rw [show nt tt - (nt tt - j) = j by unfold nt; omega] at q
  rw [q, own_dgt]; omega
theorem own_hstep (g : Nat → Int32) (tt kk fi : Int32) (Mn : Nat) (hat : ∀ i : Nat, 1 ≤ i → i ≤ nt kk → g (nt tt - i) = own_dg Mn (i - 1)) (htt : tt.toInt = fi.toInt + kk.toInt) (hf : 0 ≤ fi.toInt ∧ fi.toInt ≤ 4) (hk : 1 ≤ kk.toInt ∧ kk.toInt ≤ 19) (j : Nat) (a : fi.toInt ≤ j) (b : (j : Int) < tt.toInt) : own_acc (nt fi) (nt tt) Mn (j + 1) = own_acc (nt fi) (nt tt) Mn j * 10 - ((g j).toInt - 48) := by
  have q := hat (nt tt - j) (by unfold nt; omega) (by unfold nt; omega)
  rw [show nt tt - (nt tt - j) = j by unfold nt; omega] at q
  rw [q, own_dgt]
  unfold own_acc
  have e1 : nt tt - j = (nt tt - (j + 1)) + 1 := by unfold nt; omega
  have e2 : j + 1 - nt fi = (j - nt fi) + 1 := by unfold nt; omega
  rw [e1, e2, Nat.add_sub_cancel, Nat.pow_succ, Nat.pow_succ, ← Nat.div_div_eq_div_mul]
  generalize Mn / 10 ^ (nt tt - (j + 1)) = Q
  rw [Nat.mul_comm (10 ^ (j - nt fi)) 10, Nat.mod_mul]
  generalize Q / 10 % 10 ^ (j - nt fi) = R
  omega
theorem own_hac0 (F T Mn n : Nat) (h : n = F) : own_acc F T Mn n = 0 := by
  subst h; unfold own_acc; rw [Nat.sub_self, Nat.pow_zero, Nat.mod_one]; rfl
theorem own_hfin (tt kk fi : Int32) (Mn : Nat) (r : Int64) (hr : r.toInt = -((Mn % 10 ^ (nt kk) : Nat) : Int)) (htt : tt.toInt = fi.toInt + kk.toInt) (hf : 0 ≤ fi.toInt ∧ fi.toInt ≤ 4) (hk : 1 ≤ kk.toInt ∧ kk.toInt ≤ 19) : r.toInt = own_acc (nt fi) (nt tt) Mn (nt tt) := by
  rw [hr]; unfold own_acc
  rw [Nat.sub_self, Nat.pow_zero, Nat.div_one, show nt tt - nt fi = nt kk by unfold nt; omega]
theorem own_bound (tt kk fi : Int32) (Mn : Nat) (htt : tt.toInt = fi.toInt + kk.toInt) (hf : 0 ≤ fi.toInt ∧ fi.toInt ≤ 4) (hk : 1 ≤ kk.toInt ∧ kk.toInt ≤ 19) (j : Nat) (a : fi.toInt ≤ j) (b : (j : Int) ≤ tt.toInt) : Mn / 10 ^ (nt tt - j) % 10 ^ (j - nt fi) ≤ Mn % 10 ^ (nt kk) := by
  rw [show nt kk = (nt tt - j) + (j - nt fi) by unfold nt; omega, Nat.pow_add, ← Nat.mod_mul_right_div_self]
  exact Nat.div_le_self _ _
theorem own_hlimn (tt kk fi : Int32) (Mn : Nat) (r : Int64) (hM2 : Mn ≤ 9223372036854775808) (hr : r.toInt = -((Mn % 10 ^ (nt kk) : Nat) : Int)) (htt : tt.toInt = fi.toInt + kk.toInt) (hf : 0 ≤ fi.toInt ∧ fi.toInt ≤ 4) (hk : 1 ≤ kk.toInt ∧ kk.toInt ≤ 19) (j : Nat) (a : fi.toInt ≤ j) (b : (j : Int) ≤ tt.toInt) : -9223372036854775808 ≤ own_acc (nt fi) (nt tt) Mn j ∧ own_acc (nt fi) (nt tt) Mn j ≤ 0 := by
  have q := own_bound tt kk fi Mn htt hf hk j a b
  have r1 := rng64 r
  unfold own_acc
  omega
theorem own_hlimp (tt kk fi : Int32) (Mn : Nat) (r : Int64) (hM2 : Mn ≤ 9223372036854775808) (hr : r.toInt = -((Mn % 10 ^ (nt kk) : Nat) : Int)) (hrne : ¬ (r = (-9223372036854775808 : Int64))) (htt : tt.toInt = fi.toInt + kk.toInt) (hf : 0 ≤ fi.toInt ∧ fi.toInt ≤ 4) (hk : 1 ≤ kk.toInt ∧ kk.toInt ≤ 19) (j : Nat) (a : fi.toInt ≤ j) (b : (j : Int) ≤ tt.toInt) : -9223372036854775807 ≤ own_acc (nt fi) (nt tt) Mn j ∧ own_acc (nt fi) (nt tt) Mn j ≤ 0 := by
  have q := own_bound tt kk fi Mn htt hf hk j a b
  have r1 := rng64 r
  have r2 : r.toInt ≠ -9223372036854775808 := fun z => hrne (Int64.toInt_inj.mp (by rw [z]; rfl))
  unfold own_acc
  omega

set_option maxRecDepth 65536 in
set_option maxHeartbeats 40000000 in
theorem law_tail1 {p : Program} {l : Launch} {e : Env} {s : State} {m : MethodId} {args : Array Value} {below : List Frame} {meth : Method} {c : Code} {T : State} {h : Heap} {n0 : Nat} {Z : State} {a0 : Array Value} (X : Hr p l e room_1 s m args below meth c n0 h 1 19 T) (C : Cx p s m meth c code maxLocals ret "com/example/wadesmill/wadesmill/protocol/DecimalParsePinLaw" "law" Z a0 tables_1) (x0 : Int64) (x1 : Int32) (x2 : Int32) (x3 : Int32) (x4 : Int32) (x5 : Int32) (kk o : Int32) (mm r : Int64) (Mn : Nat) (hk : 1 ≤ kk.toInt ∧ kk.toInt ≤ 19) (ho : 0 ≤ o.toInt ∧ o.toInt ≤ 3) (hM : mm.toInt = -(Mn : Int)) (hM2 : Mn ≤ 9223372036854775808) (hr : r.toInt = -((Mn % 10 ^ (nt kk) : Nat) : Int)) : Goes p e below s n0 (fun v _ => v = some (.int 1)) room_1.cells room_1.slots T (mkF m 75 #[.val (.long x0), .second, .val (.int x1), .val (.int x2), .val (.int x3), .val (.int x4), .val (.int x5), .val (.int kk), .val (.int o), .val (.long mm), .second, .val (.long r), .second, .val (.int (1 : Int32)), .unset, .unset, .unset, .unset, .unset, .unset, .unset] []) := by
  refine w_iload (pc := 75) X C at_75 rfl ?_
  refine w_if_eq (pc := 77) X C at_77 85 (by decide) (fun q1 => absurd q1 (by decide)) (fun q1 => ?_)
  refine w_lload (pc := 80) X C at_80 rfl ?_
  refine w_goto (pc := 82) X C at_82 88 (by decide) ?_
  refine w_lstore (pc := 88) X C at_88 #[.val (.long x0), .second, .val (.int x1), .val (.int x2), .val (.int x3), .val (.int x4), .val (.int x5), .val (.int kk), .val (.int o), .val (.long mm), .second, .val (.long r), .second, .val (.int (1 : Int32)), .val (.long r), .second, .unset, .unset, .unset, .unset, .unset] rfl ?_
  refine w_bipush (pc := 90) X C at_90 (25 : Int32) rfl ?_
  refine w_new_byte (pc := 92) X C at_92 (List.mem_of_getElem? (i := 24) rfl) 25 rfl 25 (by decide) (by decide) (by decide) (by decide) (fun T2 h2 a2 ha2 hb2 X2 E2 A2 => ?_)
  refine w_astore (pc := 94) X2 C at_94 #[.val (.long x0), .second, .val (.int x1), .val (.int x2), .val (.int x3), .val (.int x4), .val (.int x5), .val (.int kk), .val (.int o), .val (.long mm), .second, .val (.long r), .second, .val (.int (1 : Int32)), .val (.long r), .second, .val (.ref a2), .unset, .unset, .unset, .unset] rfl rfl ?_
  refine w_aload (pc := 96) X2 C at_96 rfl rfl ?_
  refine w_iconst (pc := 98) X2 C at_98 (0 : Int32) rfl ?_
  refine w_iload (pc := 99) X2 C at_99 rfl ?_
  refine w_i2b (pc := 101) X2 C at_101 ?_
  refine w_bastore (pc := 102) X2 C at_102 A2 0 rfl (by decide) hb2 (fun T3 h3 X3 W3 A3 => ?_)
  obtain ⟨g3, hg3⟩ : ∃ z, z = up (fun _ => 0) 0 (i8 (i8 x4)) := ⟨_, rfl⟩
  rw [← hg3] at A3
  refine w_aload (pc := 103) X3 C at_103 rfl rfl ?_
  refine w_iconst (pc := 105) X3 C at_105 (1 : Int32) rfl ?_
  refine w_iload (pc := 106) X3 C at_106 rfl ?_
  refine w_bipush (pc := 108) X3 C at_108 (8 : Int32) rfl ?_
  refine w_ishr (pc := 110) X3 C at_110 ?_
  refine w_i2b (pc := 111) X3 C at_111 ?_
  refine w_bastore (pc := 112) X3 C at_112 A3 1 rfl (by decide) hb2 (fun T4 h4 X4 W4 A4 => ?_)
  obtain ⟨g4, hg4⟩ : ∃ z, z = up g3 1 (i8 (i8 (shrI x4 (8 : Int32)))) := ⟨_, rfl⟩
  rw [← hg4] at A4
  refine w_aload (pc := 113) X4 C at_113 rfl rfl ?_
  refine w_iconst (pc := 115) X4 C at_115 (2 : Int32) rfl ?_
  refine w_iload (pc := 116) X4 C at_116 rfl ?_
  refine w_bipush (pc := 118) X4 C at_118 (16 : Int32) rfl ?_
  refine w_ishr (pc := 120) X4 C at_120 ?_
  refine w_i2b (pc := 121) X4 C at_121 ?_
  refine w_bastore (pc := 122) X4 C at_122 A4 2 rfl (by decide) hb2 (fun T5 h5 X5 W5 A5 => ?_)
  obtain ⟨g5, hg5⟩ : ∃ z, z = up g4 2 (i8 (i8 (shrI x4 (16 : Int32)))) := ⟨_, rfl⟩
  rw [← hg5] at A5
  refine w_iload (pc := 123) X5 C at_123 rfl ?_
  refine w_if_eq (pc := 125) X5 C at_125 135 (by decide) (fun q6 => absurd q6 (by decide)) (fun q6 => ?_)
  refine w_iload (pc := 128) X5 C at_128 rfl ?_
  refine w_iconst (pc := 130) X5 C at_130 (1 : Int32) rfl ?_
  refine w_iadd (pc := 131) X5 C at_131 ?_
  refine w_goto (pc := 132) X5 C at_132 137 (by decide) ?_
  obtain ⟨fi, e_fi⟩ : ∃ z, z = (o + (1 : Int32)) := ⟨_, rfl⟩
  rw [← e_fi]
  have hfi : fi.toInt = o.toInt + 1 := by rw [e_fi]; exact add1 _ 1 rfl (by omega) (by omega)
  refine w_istore (pc := 137) X5 C at_137 #[.val (.long x0), .second, .val (.int x1), .val (.int x2), .val (.int x3), .val (.int x4), .val (.int x5), .val (.int kk), .val (.int o), .val (.long mm), .second, .val (.long r), .second, .val (.int (1 : Int32)), .val (.long r), .second, .val (.ref a2), .val (.int fi), .unset, .unset, .unset] rfl ?_
  refine w_iload (pc := 139) X5 C at_139 rfl ?_
  refine w_iload (pc := 141) X5 C at_141 rfl ?_
  refine w_iadd (pc := 143) X5 C at_143 ?_
  obtain ⟨tt, e_tt⟩ : ∃ z, z = (fi + kk) := ⟨_, rfl⟩
  rw [← e_tt]
  have htt : tt.toInt = fi.toInt + kk.toInt := by rw [e_tt]; exact add1 kk _ rfl (by omega) (by omega)
  refine w_istore (pc := 144) X5 C at_144 #[.val (.long x0), .second, .val (.int x1), .val (.int x2), .val (.int x3), .val (.int x4), .val (.int x5), .val (.int kk), .val (.int o), .val (.long mm), .second, .val (.long r), .second, .val (.int (1 : Int32)), .val (.long r), .second, .val (.ref a2), .val (.int fi), .val (.int tt), .unset, .unset] rfl ?_
  refine w_iload (pc := 146) X5 C at_146 rfl ?_
  refine w_if_eq (pc := 148) X5 C at_148 158 (by decide) (fun q7 => absurd q7 (by decide)) (fun q7 => ?_)
  refine w_aload (pc := 151) X5 C at_151 rfl rfl ?_
  refine w_iload (pc := 153) X5 C at_153 rfl ?_
  refine w_bipush (pc := 155) X5 C at_155 (45 : Int32) rfl ?_
  have b_8 : 0 ≤ (o).toInt ∧ (o).toInt < 25 := by omega
  refine w_bastore (pc := 157) X5 C at_157 A5 (nt o) (nt_eq b_8.1) (nt_lt b_8.2 (by omega)) hb2 (fun T9 h9 X9 W9 A9 => ?_)
  obtain ⟨g9, hg9⟩ : ∃ z, z = up g5 (nt o) (i8 (45 : Int32)) := ⟨_, rfl⟩
  rw [← hg9] at A9
  refine w_lload (pc := 158) X9 C at_158 rfl ?_
  have ht0 : mm.toInt = -((Mn / 10 ^ 0 : Nat) : Int) := by simpa using hM
  refine w_lstore (pc := 160) X9 C at_160 #[.val (.long x0), .second, .val (.int x1), .val (.int x2), .val (.int x3), .val (.int x4), .val (.int x5), .val (.int kk), .val (.int o), .val (.long mm), .second, .val (.long r), .second, .val (.int (1 : Int32)), .val (.long r), .second, .val (.ref a2), .val (.int fi), .val (.int tt), .val (.long mm), .second] rfl ?_
  refine w_aload (pc := 162) X9 C at_162 rfl rfl ?_
  refine w_iload (pc := 164) X9 C at_164 rfl ?_
  refine w_iconst (pc := 166) X9 C at_166 (1 : Int32) rfl ?_
  refine w_isub (pc := 167) X9 C at_167 ?_
  refine w_iload (pc := 168) X9 C at_168 rfl ?_
  refine w_lload (pc := 170) X9 C at_170 rfl ?_
  refine w_callS (pc := 172) X9 C (y := (⟨"com/example/wadesmill/wadesmill/protocol/DecimalParsePinLaw", "step", "([BIIJ)J"⟩ : MethodName)) (bytes := method_3_code) (maxL := 5) (rt := (some .long)) (argsL := [(.ref a2), (.int (tt - (1 : Int32))), (.int fi), (.long mm)]) (rest := []) (W := 0) at_172 (List.mem_of_getElem? (i := 25) rfl) (List.mem_of_getElem? (i := 26) rfl) (List.mem_of_getElem? (i := 3) rfl) (List.mem_of_getElem? (i := 27) rfl) (by decide) (ct2 l C.2.2.2.2.2.2.2.2 _ X9.size (a2) ((tt - (1 : Int32))) (fi) (mm) g9 A9 (own_in fi tt kk (1 : Int32) 1 rfl htt (by omega) hk (by omega)) hb2) rfl ⟨_, _, pd_0, rfl⟩ rfl (Nat.le_of_eq rfl) (by decide) (by decide) (by decide) (by decide) (fun v_10 T10 P10 X10 => ?_)
  obtain ⟨rfl, K10, A10⟩ := P10
  obtain ⟨g10, hg10⟩ : ∃ z, z = (if (tt - (1 : Int32)) < fi then g9 else up g9 (nt (tt - (1 : Int32))) (i8 (i8 ((48 : Int32) - (mm % (10 : Int64)).toInt32)))) := ⟨_, rfl⟩
  rw [← hg10] at A10
  have hq1 : g10 = (if nt kk < 1 then g9 else up g9 (nt tt - 1) (own_dg Mn 0)) := hg10.trans (own_conv fi tt kk (1 : Int32) 1 mm Mn _ rfl htt (by omega) hk (by omega) ht0)
  obtain ⟨t1, e_t1⟩ : ∃ z, z = (mm / (10 : Int64)) := ⟨_, rfl⟩
  rw [← e_t1]
  have ht1 : t1.toInt = -((Mn / 10 ^ 1 : Nat) : Int) := by rw [e_t1]; exact own_div mm Mn 0 ht0
  refine w_lstore (pc := 175) X10 C at_175 #[.val (.long x0), .second, .val (.int x1), .val (.int x2), .val (.int x3), .val (.int x4), .val (.int x5), .val (.int kk), .val (.int o), .val (.long mm), .second, .val (.long r), .second, .val (.int (1 : Int32)), .val (.long r), .second, .val (.ref a2), .val (.int fi), .val (.int tt), .val (.long t1), .second] rfl ?_
  refine w_aload (pc := 177) X10 C at_177 rfl rfl ?_
  refine w_iload (pc := 179) X10 C at_179 rfl ?_
  refine w_iconst (pc := 181) X10 C at_181 (2 : Int32) rfl ?_
  refine w_isub (pc := 182) X10 C at_182 ?_
  refine w_iload (pc := 183) X10 C at_183 rfl ?_
  refine w_lload (pc := 185) X10 C at_185 rfl ?_
  refine w_callS (pc := 187) X10 C (y := (⟨"com/example/wadesmill/wadesmill/protocol/DecimalParsePinLaw", "step", "([BIIJ)J"⟩ : MethodName)) (bytes := method_3_code) (maxL := 5) (rt := (some .long)) (argsL := [(.ref a2), (.int (tt - (2 : Int32))), (.int fi), (.long t1)]) (rest := []) (W := 0) at_187 (List.mem_of_getElem? (i := 25) rfl) (List.mem_of_getElem? (i := 26) rfl) (List.mem_of_getElem? (i := 3) rfl) (List.mem_of_getElem? (i := 27) rfl) (by decide) (ct2 l C.2.2.2.2.2.2.2.2 _ X10.size (a2) ((tt - (2 : Int32))) (fi) (t1) g10 A10 (own_in fi tt kk (2 : Int32) 2 rfl htt (by omega) hk (by omega)) hb2) rfl ⟨_, _, pd_0, rfl⟩ rfl (Nat.le_of_eq rfl) (by decide) (by decide) (by decide) (by decide) (fun v_11 T11 P11 X11 => ?_)
  obtain ⟨rfl, K11, A11⟩ := P11
  obtain ⟨g11, hg11⟩ : ∃ z, z = (if (tt - (2 : Int32)) < fi then g10 else up g10 (nt (tt - (2 : Int32))) (i8 (i8 ((48 : Int32) - (t1 % (10 : Int64)).toInt32)))) := ⟨_, rfl⟩
  rw [← hg11] at A11
  have hq2 : g11 = (if nt kk < 2 then g10 else up g10 (nt tt - 2) (own_dg Mn 1)) := hg11.trans (own_conv fi tt kk (2 : Int32) 2 t1 Mn _ rfl htt (by omega) hk (by omega) ht1)
  obtain ⟨t2, e_t2⟩ : ∃ z, z = (t1 / (10 : Int64)) := ⟨_, rfl⟩
  rw [← e_t2]
  have ht2 : t2.toInt = -((Mn / 10 ^ 2 : Nat) : Int) := by rw [e_t2]; exact own_div t1 Mn 1 ht1
  refine w_lstore (pc := 190) X11 C at_190 #[.val (.long x0), .second, .val (.int x1), .val (.int x2), .val (.int x3), .val (.int x4), .val (.int x5), .val (.int kk), .val (.int o), .val (.long mm), .second, .val (.long r), .second, .val (.int (1 : Int32)), .val (.long r), .second, .val (.ref a2), .val (.int fi), .val (.int tt), .val (.long t2), .second] rfl ?_
  refine w_aload (pc := 192) X11 C at_192 rfl rfl ?_
  refine w_iload (pc := 194) X11 C at_194 rfl ?_
  refine w_iconst (pc := 196) X11 C at_196 (3 : Int32) rfl ?_
  refine w_isub (pc := 197) X11 C at_197 ?_
  refine w_iload (pc := 198) X11 C at_198 rfl ?_
  refine w_lload (pc := 200) X11 C at_200 rfl ?_
  refine w_callS (pc := 202) X11 C (y := (⟨"com/example/wadesmill/wadesmill/protocol/DecimalParsePinLaw", "step", "([BIIJ)J"⟩ : MethodName)) (bytes := method_3_code) (maxL := 5) (rt := (some .long)) (argsL := [(.ref a2), (.int (tt - (3 : Int32))), (.int fi), (.long t2)]) (rest := []) (W := 0) at_202 (List.mem_of_getElem? (i := 25) rfl) (List.mem_of_getElem? (i := 26) rfl) (List.mem_of_getElem? (i := 3) rfl) (List.mem_of_getElem? (i := 27) rfl) (by decide) (ct2 l C.2.2.2.2.2.2.2.2 _ X11.size (a2) ((tt - (3 : Int32))) (fi) (t2) g11 A11 (own_in fi tt kk (3 : Int32) 3 rfl htt (by omega) hk (by omega)) hb2) rfl ⟨_, _, pd_0, rfl⟩ rfl (Nat.le_of_eq rfl) (by decide) (by decide) (by decide) (by decide) (fun v_12 T12 P12 X12 => ?_)
  obtain ⟨rfl, K12, A12⟩ := P12
  obtain ⟨g12, hg12⟩ : ∃ z, z = (if (tt - (3 : Int32)) < fi then g11 else up g11 (nt (tt - (3 : Int32))) (i8 (i8 ((48 : Int32) - (t2 % (10 : Int64)).toInt32)))) := ⟨_, rfl⟩
  rw [← hg12] at A12
  have hq3 : g12 = (if nt kk < 3 then g11 else up g11 (nt tt - 3) (own_dg Mn 2)) := hg12.trans (own_conv fi tt kk (3 : Int32) 3 t2 Mn _ rfl htt (by omega) hk (by omega) ht2)
  obtain ⟨t3, e_t3⟩ : ∃ z, z = (t2 / (10 : Int64)) := ⟨_, rfl⟩
  rw [← e_t3]
  have ht3 : t3.toInt = -((Mn / 10 ^ 3 : Nat) : Int) := by rw [e_t3]; exact own_div t2 Mn 2 ht2
  refine w_lstore (pc := 205) X12 C at_205 #[.val (.long x0), .second, .val (.int x1), .val (.int x2), .val (.int x3), .val (.int x4), .val (.int x5), .val (.int kk), .val (.int o), .val (.long mm), .second, .val (.long r), .second, .val (.int (1 : Int32)), .val (.long r), .second, .val (.ref a2), .val (.int fi), .val (.int tt), .val (.long t3), .second] rfl ?_
  refine w_aload (pc := 207) X12 C at_207 rfl rfl ?_
  refine w_iload (pc := 209) X12 C at_209 rfl ?_
  refine w_iconst (pc := 211) X12 C at_211 (4 : Int32) rfl ?_
  refine w_isub (pc := 212) X12 C at_212 ?_
  refine w_iload (pc := 213) X12 C at_213 rfl ?_
  refine w_lload (pc := 215) X12 C at_215 rfl ?_
  refine w_callS (pc := 217) X12 C (y := (⟨"com/example/wadesmill/wadesmill/protocol/DecimalParsePinLaw", "step", "([BIIJ)J"⟩ : MethodName)) (bytes := method_3_code) (maxL := 5) (rt := (some .long)) (argsL := [(.ref a2), (.int (tt - (4 : Int32))), (.int fi), (.long t3)]) (rest := []) (W := 0) at_217 (List.mem_of_getElem? (i := 25) rfl) (List.mem_of_getElem? (i := 26) rfl) (List.mem_of_getElem? (i := 3) rfl) (List.mem_of_getElem? (i := 27) rfl) (by decide) (ct2 l C.2.2.2.2.2.2.2.2 _ X12.size (a2) ((tt - (4 : Int32))) (fi) (t3) g12 A12 (own_in fi tt kk (4 : Int32) 4 rfl htt (by omega) hk (by omega)) hb2) rfl ⟨_, _, pd_0, rfl⟩ rfl (Nat.le_of_eq rfl) (by decide) (by decide) (by decide) (by decide) (fun v_13 T13 P13 X13 => ?_)
  obtain ⟨rfl, K13, A13⟩ := P13
  obtain ⟨g13, hg13⟩ : ∃ z, z = (if (tt - (4 : Int32)) < fi then g12 else up g12 (nt (tt - (4 : Int32))) (i8 (i8 ((48 : Int32) - (t3 % (10 : Int64)).toInt32)))) := ⟨_, rfl⟩
  rw [← hg13] at A13
  have hq4 : g13 = (if nt kk < 4 then g12 else up g12 (nt tt - 4) (own_dg Mn 3)) := hg13.trans (own_conv fi tt kk (4 : Int32) 4 t3 Mn _ rfl htt (by omega) hk (by omega) ht3)
  obtain ⟨t4, e_t4⟩ : ∃ z, z = (t3 / (10 : Int64)) := ⟨_, rfl⟩
  rw [← e_t4]
  have ht4 : t4.toInt = -((Mn / 10 ^ 4 : Nat) : Int) := by rw [e_t4]; exact own_div t3 Mn 3 ht3
  refine w_lstore (pc := 220) X13 C at_220 #[.val (.long x0), .second, .val (.int x1), .val (.int x2), .val (.int x3), .val (.int x4), .val (.int x5), .val (.int kk), .val (.int o), .val (.long mm), .second, .val (.long r), .second, .val (.int (1 : Int32)), .val (.long r), .second, .val (.ref a2), .val (.int fi), .val (.int tt), .val (.long t4), .second] rfl ?_
  refine w_aload (pc := 222) X13 C at_222 rfl rfl ?_
  refine w_iload (pc := 224) X13 C at_224 rfl ?_
  refine w_iconst (pc := 226) X13 C at_226 (5 : Int32) rfl ?_
  refine w_isub (pc := 227) X13 C at_227 ?_
  refine w_iload (pc := 228) X13 C at_228 rfl ?_
  refine w_lload (pc := 230) X13 C at_230 rfl ?_
  refine w_callS (pc := 232) X13 C (y := (⟨"com/example/wadesmill/wadesmill/protocol/DecimalParsePinLaw", "step", "([BIIJ)J"⟩ : MethodName)) (bytes := method_3_code) (maxL := 5) (rt := (some .long)) (argsL := [(.ref a2), (.int (tt - (5 : Int32))), (.int fi), (.long t4)]) (rest := []) (W := 0) at_232 (List.mem_of_getElem? (i := 25) rfl) (List.mem_of_getElem? (i := 26) rfl) (List.mem_of_getElem? (i := 3) rfl) (List.mem_of_getElem? (i := 27) rfl) (by decide) (ct2 l C.2.2.2.2.2.2.2.2 _ X13.size (a2) ((tt - (5 : Int32))) (fi) (t4) g13 A13 (own_in fi tt kk (5 : Int32) 5 rfl htt (by omega) hk (by omega)) hb2) rfl ⟨_, _, pd_0, rfl⟩ rfl (Nat.le_of_eq rfl) (by decide) (by decide) (by decide) (by decide) (fun v_14 T14 P14 X14 => ?_)
  obtain ⟨rfl, K14, A14⟩ := P14
  obtain ⟨g14, hg14⟩ : ∃ z, z = (if (tt - (5 : Int32)) < fi then g13 else up g13 (nt (tt - (5 : Int32))) (i8 (i8 ((48 : Int32) - (t4 % (10 : Int64)).toInt32)))) := ⟨_, rfl⟩
  rw [← hg14] at A14
  have hq5 : g14 = (if nt kk < 5 then g13 else up g13 (nt tt - 5) (own_dg Mn 4)) := hg14.trans (own_conv fi tt kk (5 : Int32) 5 t4 Mn _ rfl htt (by omega) hk (by omega) ht4)
  obtain ⟨t5, e_t5⟩ : ∃ z, z = (t4 / (10 : Int64)) := ⟨_, rfl⟩
  rw [← e_t5]
  have ht5 : t5.toInt = -((Mn / 10 ^ 5 : Nat) : Int) := by rw [e_t5]; exact own_div t4 Mn 4 ht4
  refine w_lstore (pc := 235) X14 C at_235 #[.val (.long x0), .second, .val (.int x1), .val (.int x2), .val (.int x3), .val (.int x4), .val (.int x5), .val (.int kk), .val (.int o), .val (.long mm), .second, .val (.long r), .second, .val (.int (1 : Int32)), .val (.long r), .second, .val (.ref a2), .val (.int fi), .val (.int tt), .val (.long t5), .second] rfl ?_
  refine w_aload (pc := 237) X14 C at_237 rfl rfl ?_
  refine w_iload (pc := 239) X14 C at_239 rfl ?_
  refine w_bipush (pc := 241) X14 C at_241 (6 : Int32) rfl ?_
  refine w_isub (pc := 243) X14 C at_243 ?_
  refine w_iload (pc := 244) X14 C at_244 rfl ?_
  refine w_lload (pc := 246) X14 C at_246 rfl ?_
  refine w_callS (pc := 248) X14 C (y := (⟨"com/example/wadesmill/wadesmill/protocol/DecimalParsePinLaw", "step", "([BIIJ)J"⟩ : MethodName)) (bytes := method_3_code) (maxL := 5) (rt := (some .long)) (argsL := [(.ref a2), (.int (tt - (6 : Int32))), (.int fi), (.long t5)]) (rest := []) (W := 0) at_248 (List.mem_of_getElem? (i := 25) rfl) (List.mem_of_getElem? (i := 26) rfl) (List.mem_of_getElem? (i := 3) rfl) (List.mem_of_getElem? (i := 27) rfl) (by decide) (ct2 l C.2.2.2.2.2.2.2.2 _ X14.size (a2) ((tt - (6 : Int32))) (fi) (t5) g14 A14 (own_in fi tt kk (6 : Int32) 6 rfl htt (by omega) hk (by omega)) hb2) rfl ⟨_, _, pd_0, rfl⟩ rfl (Nat.le_of_eq rfl) (by decide) (by decide) (by decide) (by decide) (fun v_15 T15 P15 X15 => ?_)
  obtain ⟨rfl, K15, A15⟩ := P15
  obtain ⟨g15, hg15⟩ : ∃ z, z = (if (tt - (6 : Int32)) < fi then g14 else up g14 (nt (tt - (6 : Int32))) (i8 (i8 ((48 : Int32) - (t5 % (10 : Int64)).toInt32)))) := ⟨_, rfl⟩
  rw [← hg15] at A15
  have hq6 : g15 = (if nt kk < 6 then g14 else up g14 (nt tt - 6) (own_dg Mn 5)) := hg15.trans (own_conv fi tt kk (6 : Int32) 6 t5 Mn _ rfl htt (by omega) hk (by omega) ht5)
  obtain ⟨t6, e_t6⟩ : ∃ z, z = (t5 / (10 : Int64)) := ⟨_, rfl⟩
  rw [← e_t6]
  have ht6 : t6.toInt = -((Mn / 10 ^ 6 : Nat) : Int) := by rw [e_t6]; exact own_div t5 Mn 5 ht5
  refine w_lstore (pc := 251) X15 C at_251 #[.val (.long x0), .second, .val (.int x1), .val (.int x2), .val (.int x3), .val (.int x4), .val (.int x5), .val (.int kk), .val (.int o), .val (.long mm), .second, .val (.long r), .second, .val (.int (1 : Int32)), .val (.long r), .second, .val (.ref a2), .val (.int fi), .val (.int tt), .val (.long t6), .second] rfl ?_
  refine w_aload (pc := 253) X15 C at_253 rfl rfl ?_
  refine w_iload (pc := 255) X15 C at_255 rfl ?_
  refine w_bipush (pc := 257) X15 C at_257 (7 : Int32) rfl ?_
  refine w_isub (pc := 259) X15 C at_259 ?_
  refine w_iload (pc := 260) X15 C at_260 rfl ?_
  refine w_lload (pc := 262) X15 C at_262 rfl ?_
  refine w_callS (pc := 264) X15 C (y := (⟨"com/example/wadesmill/wadesmill/protocol/DecimalParsePinLaw", "step", "([BIIJ)J"⟩ : MethodName)) (bytes := method_3_code) (maxL := 5) (rt := (some .long)) (argsL := [(.ref a2), (.int (tt - (7 : Int32))), (.int fi), (.long t6)]) (rest := []) (W := 0) at_264 (List.mem_of_getElem? (i := 25) rfl) (List.mem_of_getElem? (i := 26) rfl) (List.mem_of_getElem? (i := 3) rfl) (List.mem_of_getElem? (i := 27) rfl) (by decide) (ct2 l C.2.2.2.2.2.2.2.2 _ X15.size (a2) ((tt - (7 : Int32))) (fi) (t6) g15 A15 (own_in fi tt kk (7 : Int32) 7 rfl htt (by omega) hk (by omega)) hb2) rfl ⟨_, _, pd_0, rfl⟩ rfl (Nat.le_of_eq rfl) (by decide) (by decide) (by decide) (by decide) (fun v_16 T16 P16 X16 => ?_)
  obtain ⟨rfl, K16, A16⟩ := P16
  obtain ⟨g16, hg16⟩ : ∃ z, z = (if (tt - (7 : Int32)) < fi then g15 else up g15 (nt (tt - (7 : Int32))) (i8 (i8 ((48 : Int32) - (t6 % (10 : Int64)).toInt32)))) := ⟨_, rfl⟩
  rw [← hg16] at A16
  have hq7 : g16 = (if nt kk < 7 then g15 else up g15 (nt tt - 7) (own_dg Mn 6)) := hg16.trans (own_conv fi tt kk (7 : Int32) 7 t6 Mn _ rfl htt (by omega) hk (by omega) ht6)
  obtain ⟨t7, e_t7⟩ : ∃ z, z = (t6 / (10 : Int64)) := ⟨_, rfl⟩
  rw [← e_t7]
  have ht7 : t7.toInt = -((Mn / 10 ^ 7 : Nat) : Int) := by rw [e_t7]; exact own_div t6 Mn 6 ht6
  refine w_lstore (pc := 267) X16 C at_267 #[.val (.long x0), .second, .val (.int x1), .val (.int x2), .val (.int x3), .val (.int x4), .val (.int x5), .val (.int kk), .val (.int o), .val (.long mm), .second, .val (.long r), .second, .val (.int (1 : Int32)), .val (.long r), .second, .val (.ref a2), .val (.int fi), .val (.int tt), .val (.long t7), .second] rfl ?_
  refine w_aload (pc := 269) X16 C at_269 rfl rfl ?_
  refine w_iload (pc := 271) X16 C at_271 rfl ?_
  refine w_bipush (pc := 273) X16 C at_273 (8 : Int32) rfl ?_
  refine w_isub (pc := 275) X16 C at_275 ?_
  refine w_iload (pc := 276) X16 C at_276 rfl ?_
  refine w_lload (pc := 278) X16 C at_278 rfl ?_
  refine w_callS (pc := 280) X16 C (y := (⟨"com/example/wadesmill/wadesmill/protocol/DecimalParsePinLaw", "step", "([BIIJ)J"⟩ : MethodName)) (bytes := method_3_code) (maxL := 5) (rt := (some .long)) (argsL := [(.ref a2), (.int (tt - (8 : Int32))), (.int fi), (.long t7)]) (rest := []) (W := 0) at_280 (List.mem_of_getElem? (i := 25) rfl) (List.mem_of_getElem? (i := 26) rfl) (List.mem_of_getElem? (i := 3) rfl) (List.mem_of_getElem? (i := 27) rfl) (by decide) (ct2 l C.2.2.2.2.2.2.2.2 _ X16.size (a2) ((tt - (8 : Int32))) (fi) (t7) g16 A16 (own_in fi tt kk (8 : Int32) 8 rfl htt (by omega) hk (by omega)) hb2) rfl ⟨_, _, pd_0, rfl⟩ rfl (Nat.le_of_eq rfl) (by decide) (by decide) (by decide) (by decide) (fun v_17 T17 P17 X17 => ?_)
  obtain ⟨rfl, K17, A17⟩ := P17
  obtain ⟨g17, hg17⟩ : ∃ z, z = (if (tt - (8 : Int32)) < fi then g16 else up g16 (nt (tt - (8 : Int32))) (i8 (i8 ((48 : Int32) - (t7 % (10 : Int64)).toInt32)))) := ⟨_, rfl⟩
  rw [← hg17] at A17
  have hq8 : g17 = (if nt kk < 8 then g16 else up g16 (nt tt - 8) (own_dg Mn 7)) := hg17.trans (own_conv fi tt kk (8 : Int32) 8 t7 Mn _ rfl htt (by omega) hk (by omega) ht7)
  obtain ⟨t8, e_t8⟩ : ∃ z, z = (t7 / (10 : Int64)) := ⟨_, rfl⟩
  rw [← e_t8]
  have ht8 : t8.toInt = -((Mn / 10 ^ 8 : Nat) : Int) := by rw [e_t8]; exact own_div t7 Mn 7 ht7
  refine w_lstore (pc := 283) X17 C at_283 #[.val (.long x0), .second, .val (.int x1), .val (.int x2), .val (.int x3), .val (.int x4), .val (.int x5), .val (.int kk), .val (.int o), .val (.long mm), .second, .val (.long r), .second, .val (.int (1 : Int32)), .val (.long r), .second, .val (.ref a2), .val (.int fi), .val (.int tt), .val (.long t8), .second] rfl ?_
  refine w_aload (pc := 285) X17 C at_285 rfl rfl ?_
  refine w_iload (pc := 287) X17 C at_287 rfl ?_
  refine w_bipush (pc := 289) X17 C at_289 (9 : Int32) rfl ?_
  refine w_isub (pc := 291) X17 C at_291 ?_
  refine w_iload (pc := 292) X17 C at_292 rfl ?_
  refine w_lload (pc := 294) X17 C at_294 rfl ?_
  refine w_callS (pc := 296) X17 C (y := (⟨"com/example/wadesmill/wadesmill/protocol/DecimalParsePinLaw", "step", "([BIIJ)J"⟩ : MethodName)) (bytes := method_3_code) (maxL := 5) (rt := (some .long)) (argsL := [(.ref a2), (.int (tt - (9 : Int32))), (.int fi), (.long t8)]) (rest := []) (W := 0) at_296 (List.mem_of_getElem? (i := 25) rfl) (List.mem_of_getElem? (i := 26) rfl) (List.mem_of_getElem? (i := 3) rfl) (List.mem_of_getElem? (i := 27) rfl) (by decide) (ct2 l C.2.2.2.2.2.2.2.2 _ X17.size (a2) ((tt - (9 : Int32))) (fi) (t8) g17 A17 (own_in fi tt kk (9 : Int32) 9 rfl htt (by omega) hk (by omega)) hb2) rfl ⟨_, _, pd_0, rfl⟩ rfl (Nat.le_of_eq rfl) (by decide) (by decide) (by decide) (by decide) (fun v_18 T18 P18 X18 => ?_)
  obtain ⟨rfl, K18, A18⟩ := P18
  obtain ⟨g18, hg18⟩ : ∃ z, z = (if (tt - (9 : Int32)) < fi then g17 else up g17 (nt (tt - (9 : Int32))) (i8 (i8 ((48 : Int32) - (t8 % (10 : Int64)).toInt32)))) := ⟨_, rfl⟩
  rw [← hg18] at A18
  have hq9 : g18 = (if nt kk < 9 then g17 else up g17 (nt tt - 9) (own_dg Mn 8)) := hg18.trans (own_conv fi tt kk (9 : Int32) 9 t8 Mn _ rfl htt (by omega) hk (by omega) ht8)
  obtain ⟨t9, e_t9⟩ : ∃ z, z = (t8 / (10 : Int64)) := ⟨_, rfl⟩
  rw [← e_t9]
  have ht9 : t9.toInt = -((Mn / 10 ^ 9 : Nat) : Int) := by rw [e_t9]; exact own_div t8 Mn 8 ht8
  refine w_lstore (pc := 299) X18 C at_299 #[.val (.long x0), .second, .val (.int x1), .val (.int x2), .val (.int x3), .val (.int x4), .val (.int x5), .val (.int kk), .val (.int o), .val (.long mm), .second, .val (.long r), .second, .val (.int (1 : Int32)), .val (.long r), .second, .val (.ref a2), .val (.int fi), .val (.int tt), .val (.long t9), .second] rfl ?_
  refine w_aload (pc := 301) X18 C at_301 rfl rfl ?_
  refine w_iload (pc := 303) X18 C at_303 rfl ?_
  refine w_bipush (pc := 305) X18 C at_305 (10 : Int32) rfl ?_
  refine w_isub (pc := 307) X18 C at_307 ?_
  refine w_iload (pc := 308) X18 C at_308 rfl ?_
  refine w_lload (pc := 310) X18 C at_310 rfl ?_
  refine w_callS (pc := 312) X18 C (y := (⟨"com/example/wadesmill/wadesmill/protocol/DecimalParsePinLaw", "step", "([BIIJ)J"⟩ : MethodName)) (bytes := method_3_code) (maxL := 5) (rt := (some .long)) (argsL := [(.ref a2), (.int (tt - (10 : Int32))), (.int fi), (.long t9)]) (rest := []) (W := 0) at_312 (List.mem_of_getElem? (i := 25) rfl) (List.mem_of_getElem? (i := 26) rfl) (List.mem_of_getElem? (i := 3) rfl) (List.mem_of_getElem? (i := 27) rfl) (by decide) (ct2 l C.2.2.2.2.2.2.2.2 _ X18.size (a2) ((tt - (10 : Int32))) (fi) (t9) g18 A18 (own_in fi tt kk (10 : Int32) 10 rfl htt (by omega) hk (by omega)) hb2) rfl ⟨_, _, pd_0, rfl⟩ rfl (Nat.le_of_eq rfl) (by decide) (by decide) (by decide) (by decide) (fun v_19 T19 P19 X19 => ?_)
  obtain ⟨rfl, K19, A19⟩ := P19
  obtain ⟨g19, hg19⟩ : ∃ z, z = (if (tt - (10 : Int32)) < fi then g18 else up g18 (nt (tt - (10 : Int32))) (i8 (i8 ((48 : Int32) - (t9 % (10 : Int64)).toInt32)))) := ⟨_, rfl⟩
  rw [← hg19] at A19
  have hq10 : g19 = (if nt kk < 10 then g18 else up g18 (nt tt - 10) (own_dg Mn 9)) := hg19.trans (own_conv fi tt kk (10 : Int32) 10 t9 Mn _ rfl htt (by omega) hk (by omega) ht9)
  obtain ⟨t10, e_t10⟩ : ∃ z, z = (t9 / (10 : Int64)) := ⟨_, rfl⟩
  rw [← e_t10]
  have ht10 : t10.toInt = -((Mn / 10 ^ 10 : Nat) : Int) := by rw [e_t10]; exact own_div t9 Mn 9 ht9
  refine w_lstore (pc := 315) X19 C at_315 #[.val (.long x0), .second, .val (.int x1), .val (.int x2), .val (.int x3), .val (.int x4), .val (.int x5), .val (.int kk), .val (.int o), .val (.long mm), .second, .val (.long r), .second, .val (.int (1 : Int32)), .val (.long r), .second, .val (.ref a2), .val (.int fi), .val (.int tt), .val (.long t10), .second] rfl ?_
  refine w_aload (pc := 317) X19 C at_317 rfl rfl ?_
  refine w_iload (pc := 319) X19 C at_319 rfl ?_
  refine w_bipush (pc := 321) X19 C at_321 (11 : Int32) rfl ?_
  refine w_isub (pc := 323) X19 C at_323 ?_
  refine w_iload (pc := 324) X19 C at_324 rfl ?_
  refine w_lload (pc := 326) X19 C at_326 rfl ?_
  refine w_callS (pc := 328) X19 C (y := (⟨"com/example/wadesmill/wadesmill/protocol/DecimalParsePinLaw", "step", "([BIIJ)J"⟩ : MethodName)) (bytes := method_3_code) (maxL := 5) (rt := (some .long)) (argsL := [(.ref a2), (.int (tt - (11 : Int32))), (.int fi), (.long t10)]) (rest := []) (W := 0) at_328 (List.mem_of_getElem? (i := 25) rfl) (List.mem_of_getElem? (i := 26) rfl) (List.mem_of_getElem? (i := 3) rfl) (List.mem_of_getElem? (i := 27) rfl) (by decide) (ct2 l C.2.2.2.2.2.2.2.2 _ X19.size (a2) ((tt - (11 : Int32))) (fi) (t10) g19 A19 (own_in fi tt kk (11 : Int32) 11 rfl htt (by omega) hk (by omega)) hb2) rfl ⟨_, _, pd_0, rfl⟩ rfl (Nat.le_of_eq rfl) (by decide) (by decide) (by decide) (by decide) (fun v_20 T20 P20 X20 => ?_)
  obtain ⟨rfl, K20, A20⟩ := P20
  obtain ⟨g20, hg20⟩ : ∃ z, z = (if (tt - (11 : Int32)) < fi then g19 else up g19 (nt (tt - (11 : Int32))) (i8 (i8 ((48 : Int32) - (t10 % (10 : Int64)).toInt32)))) := ⟨_, rfl⟩
  rw [← hg20] at A20
  have hq11 : g20 = (if nt kk < 11 then g19 else up g19 (nt tt - 11) (own_dg Mn 10)) := hg20.trans (own_conv fi tt kk (11 : Int32) 11 t10 Mn _ rfl htt (by omega) hk (by omega) ht10)
  obtain ⟨t11, e_t11⟩ : ∃ z, z = (t10 / (10 : Int64)) := ⟨_, rfl⟩
  rw [← e_t11]
  have ht11 : t11.toInt = -((Mn / 10 ^ 11 : Nat) : Int) := by rw [e_t11]; exact own_div t10 Mn 10 ht10
  refine w_lstore (pc := 331) X20 C at_331 #[.val (.long x0), .second, .val (.int x1), .val (.int x2), .val (.int x3), .val (.int x4), .val (.int x5), .val (.int kk), .val (.int o), .val (.long mm), .second, .val (.long r), .second, .val (.int (1 : Int32)), .val (.long r), .second, .val (.ref a2), .val (.int fi), .val (.int tt), .val (.long t11), .second] rfl ?_
  refine w_aload (pc := 333) X20 C at_333 rfl rfl ?_
  refine w_iload (pc := 335) X20 C at_335 rfl ?_
  refine w_bipush (pc := 337) X20 C at_337 (12 : Int32) rfl ?_
  refine w_isub (pc := 339) X20 C at_339 ?_
  refine w_iload (pc := 340) X20 C at_340 rfl ?_
  refine w_lload (pc := 342) X20 C at_342 rfl ?_
  refine w_callS (pc := 344) X20 C (y := (⟨"com/example/wadesmill/wadesmill/protocol/DecimalParsePinLaw", "step", "([BIIJ)J"⟩ : MethodName)) (bytes := method_3_code) (maxL := 5) (rt := (some .long)) (argsL := [(.ref a2), (.int (tt - (12 : Int32))), (.int fi), (.long t11)]) (rest := []) (W := 0) at_344 (List.mem_of_getElem? (i := 25) rfl) (List.mem_of_getElem? (i := 26) rfl) (List.mem_of_getElem? (i := 3) rfl) (List.mem_of_getElem? (i := 27) rfl) (by decide) (ct2 l C.2.2.2.2.2.2.2.2 _ X20.size (a2) ((tt - (12 : Int32))) (fi) (t11) g20 A20 (own_in fi tt kk (12 : Int32) 12 rfl htt (by omega) hk (by omega)) hb2) rfl ⟨_, _, pd_0, rfl⟩ rfl (Nat.le_of_eq rfl) (by decide) (by decide) (by decide) (by decide) (fun v_21 T21 P21 X21 => ?_)
  obtain ⟨rfl, K21, A21⟩ := P21
  obtain ⟨g21, hg21⟩ : ∃ z, z = (if (tt - (12 : Int32)) < fi then g20 else up g20 (nt (tt - (12 : Int32))) (i8 (i8 ((48 : Int32) - (t11 % (10 : Int64)).toInt32)))) := ⟨_, rfl⟩
  rw [← hg21] at A21
  have hq12 : g21 = (if nt kk < 12 then g20 else up g20 (nt tt - 12) (own_dg Mn 11)) := hg21.trans (own_conv fi tt kk (12 : Int32) 12 t11 Mn _ rfl htt (by omega) hk (by omega) ht11)
  obtain ⟨t12, e_t12⟩ : ∃ z, z = (t11 / (10 : Int64)) := ⟨_, rfl⟩
  rw [← e_t12]
  have ht12 : t12.toInt = -((Mn / 10 ^ 12 : Nat) : Int) := by rw [e_t12]; exact own_div t11 Mn 11 ht11
  refine w_lstore (pc := 347) X21 C at_347 #[.val (.long x0), .second, .val (.int x1), .val (.int x2), .val (.int x3), .val (.int x4), .val (.int x5), .val (.int kk), .val (.int o), .val (.long mm), .second, .val (.long r), .second, .val (.int (1 : Int32)), .val (.long r), .second, .val (.ref a2), .val (.int fi), .val (.int tt), .val (.long t12), .second] rfl ?_
  refine w_aload (pc := 349) X21 C at_349 rfl rfl ?_
  refine w_iload (pc := 351) X21 C at_351 rfl ?_
  refine w_bipush (pc := 353) X21 C at_353 (13 : Int32) rfl ?_
  refine w_isub (pc := 355) X21 C at_355 ?_
  refine w_iload (pc := 356) X21 C at_356 rfl ?_
  refine w_lload (pc := 358) X21 C at_358 rfl ?_
  refine w_callS (pc := 360) X21 C (y := (⟨"com/example/wadesmill/wadesmill/protocol/DecimalParsePinLaw", "step", "([BIIJ)J"⟩ : MethodName)) (bytes := method_3_code) (maxL := 5) (rt := (some .long)) (argsL := [(.ref a2), (.int (tt - (13 : Int32))), (.int fi), (.long t12)]) (rest := []) (W := 0) at_360 (List.mem_of_getElem? (i := 25) rfl) (List.mem_of_getElem? (i := 26) rfl) (List.mem_of_getElem? (i := 3) rfl) (List.mem_of_getElem? (i := 27) rfl) (by decide) (ct2 l C.2.2.2.2.2.2.2.2 _ X21.size (a2) ((tt - (13 : Int32))) (fi) (t12) g21 A21 (own_in fi tt kk (13 : Int32) 13 rfl htt (by omega) hk (by omega)) hb2) rfl ⟨_, _, pd_0, rfl⟩ rfl (Nat.le_of_eq rfl) (by decide) (by decide) (by decide) (by decide) (fun v_22 T22 P22 X22 => ?_)
  obtain ⟨rfl, K22, A22⟩ := P22
  obtain ⟨g22, hg22⟩ : ∃ z, z = (if (tt - (13 : Int32)) < fi then g21 else up g21 (nt (tt - (13 : Int32))) (i8 (i8 ((48 : Int32) - (t12 % (10 : Int64)).toInt32)))) := ⟨_, rfl⟩
  rw [← hg22] at A22
  have hq13 : g22 = (if nt kk < 13 then g21 else up g21 (nt tt - 13) (own_dg Mn 12)) := hg22.trans (own_conv fi tt kk (13 : Int32) 13 t12 Mn _ rfl htt (by omega) hk (by omega) ht12)
  obtain ⟨t13, e_t13⟩ : ∃ z, z = (t12 / (10 : Int64)) := ⟨_, rfl⟩
  rw [← e_t13]
  have ht13 : t13.toInt = -((Mn / 10 ^ 13 : Nat) : Int) := by rw [e_t13]; exact own_div t12 Mn 12 ht12
  refine w_lstore (pc := 363) X22 C at_363 #[.val (.long x0), .second, .val (.int x1), .val (.int x2), .val (.int x3), .val (.int x4), .val (.int x5), .val (.int kk), .val (.int o), .val (.long mm), .second, .val (.long r), .second, .val (.int (1 : Int32)), .val (.long r), .second, .val (.ref a2), .val (.int fi), .val (.int tt), .val (.long t13), .second] rfl ?_
  refine w_aload (pc := 365) X22 C at_365 rfl rfl ?_
  refine w_iload (pc := 367) X22 C at_367 rfl ?_
  refine w_bipush (pc := 369) X22 C at_369 (14 : Int32) rfl ?_
  refine w_isub (pc := 371) X22 C at_371 ?_
  refine w_iload (pc := 372) X22 C at_372 rfl ?_
  refine w_lload (pc := 374) X22 C at_374 rfl ?_
  refine w_callS (pc := 376) X22 C (y := (⟨"com/example/wadesmill/wadesmill/protocol/DecimalParsePinLaw", "step", "([BIIJ)J"⟩ : MethodName)) (bytes := method_3_code) (maxL := 5) (rt := (some .long)) (argsL := [(.ref a2), (.int (tt - (14 : Int32))), (.int fi), (.long t13)]) (rest := []) (W := 0) at_376 (List.mem_of_getElem? (i := 25) rfl) (List.mem_of_getElem? (i := 26) rfl) (List.mem_of_getElem? (i := 3) rfl) (List.mem_of_getElem? (i := 27) rfl) (by decide) (ct2 l C.2.2.2.2.2.2.2.2 _ X22.size (a2) ((tt - (14 : Int32))) (fi) (t13) g22 A22 (own_in fi tt kk (14 : Int32) 14 rfl htt (by omega) hk (by omega)) hb2) rfl ⟨_, _, pd_0, rfl⟩ rfl (Nat.le_of_eq rfl) (by decide) (by decide) (by decide) (by decide) (fun v_23 T23 P23 X23 => ?_)
  obtain ⟨rfl, K23, A23⟩ := P23
  obtain ⟨g23, hg23⟩ : ∃ z, z = (if (tt - (14 : Int32)) < fi then g22 else up g22 (nt (tt - (14 : Int32))) (i8 (i8 ((48 : Int32) - (t13 % (10 : Int64)).toInt32)))) := ⟨_, rfl⟩
  rw [← hg23] at A23
  have hq14 : g23 = (if nt kk < 14 then g22 else up g22 (nt tt - 14) (own_dg Mn 13)) := hg23.trans (own_conv fi tt kk (14 : Int32) 14 t13 Mn _ rfl htt (by omega) hk (by omega) ht13)
  obtain ⟨t14, e_t14⟩ : ∃ z, z = (t13 / (10 : Int64)) := ⟨_, rfl⟩
  rw [← e_t14]
  have ht14 : t14.toInt = -((Mn / 10 ^ 14 : Nat) : Int) := by rw [e_t14]; exact own_div t13 Mn 13 ht13
  refine w_lstore (pc := 379) X23 C at_379 #[.val (.long x0), .second, .val (.int x1), .val (.int x2), .val (.int x3), .val (.int x4), .val (.int x5), .val (.int kk), .val (.int o), .val (.long mm), .second, .val (.long r), .second, .val (.int (1 : Int32)), .val (.long r), .second, .val (.ref a2), .val (.int fi), .val (.int tt), .val (.long t14), .second] rfl ?_
  refine w_aload (pc := 381) X23 C at_381 rfl rfl ?_
  refine w_iload (pc := 383) X23 C at_383 rfl ?_
  refine w_bipush (pc := 385) X23 C at_385 (15 : Int32) rfl ?_
  refine w_isub (pc := 387) X23 C at_387 ?_
  refine w_iload (pc := 388) X23 C at_388 rfl ?_
  refine w_lload (pc := 390) X23 C at_390 rfl ?_
  refine w_callS (pc := 392) X23 C (y := (⟨"com/example/wadesmill/wadesmill/protocol/DecimalParsePinLaw", "step", "([BIIJ)J"⟩ : MethodName)) (bytes := method_3_code) (maxL := 5) (rt := (some .long)) (argsL := [(.ref a2), (.int (tt - (15 : Int32))), (.int fi), (.long t14)]) (rest := []) (W := 0) at_392 (List.mem_of_getElem? (i := 25) rfl) (List.mem_of_getElem? (i := 26) rfl) (List.mem_of_getElem? (i := 3) rfl) (List.mem_of_getElem? (i := 27) rfl) (by decide) (ct2 l C.2.2.2.2.2.2.2.2 _ X23.size (a2) ((tt - (15 : Int32))) (fi) (t14) g23 A23 (own_in fi tt kk (15 : Int32) 15 rfl htt (by omega) hk (by omega)) hb2) rfl ⟨_, _, pd_0, rfl⟩ rfl (Nat.le_of_eq rfl) (by decide) (by decide) (by decide) (by decide) (fun v_24 T24 P24 X24 => ?_)
  obtain ⟨rfl, K24, A24⟩ := P24
  obtain ⟨g24, hg24⟩ : ∃ z, z = (if (tt - (15 : Int32)) < fi then g23 else up g23 (nt (tt - (15 : Int32))) (i8 (i8 ((48 : Int32) - (t14 % (10 : Int64)).toInt32)))) := ⟨_, rfl⟩
  rw [← hg24] at A24
  have hq15 : g24 = (if nt kk < 15 then g23 else up g23 (nt tt - 15) (own_dg Mn 14)) := hg24.trans (own_conv fi tt kk (15 : Int32) 15 t14 Mn _ rfl htt (by omega) hk (by omega) ht14)
  obtain ⟨t15, e_t15⟩ : ∃ z, z = (t14 / (10 : Int64)) := ⟨_, rfl⟩
  rw [← e_t15]
  have ht15 : t15.toInt = -((Mn / 10 ^ 15 : Nat) : Int) := by rw [e_t15]; exact own_div t14 Mn 14 ht14
  refine w_lstore (pc := 395) X24 C at_395 #[.val (.long x0), .second, .val (.int x1), .val (.int x2), .val (.int x3), .val (.int x4), .val (.int x5), .val (.int kk), .val (.int o), .val (.long mm), .second, .val (.long r), .second, .val (.int (1 : Int32)), .val (.long r), .second, .val (.ref a2), .val (.int fi), .val (.int tt), .val (.long t15), .second] rfl ?_
  refine w_aload (pc := 397) X24 C at_397 rfl rfl ?_
  refine w_iload (pc := 399) X24 C at_399 rfl ?_
  refine w_bipush (pc := 401) X24 C at_401 (16 : Int32) rfl ?_
  refine w_isub (pc := 403) X24 C at_403 ?_
  refine w_iload (pc := 404) X24 C at_404 rfl ?_
  refine w_lload (pc := 406) X24 C at_406 rfl ?_
  refine w_callS (pc := 408) X24 C (y := (⟨"com/example/wadesmill/wadesmill/protocol/DecimalParsePinLaw", "step", "([BIIJ)J"⟩ : MethodName)) (bytes := method_3_code) (maxL := 5) (rt := (some .long)) (argsL := [(.ref a2), (.int (tt - (16 : Int32))), (.int fi), (.long t15)]) (rest := []) (W := 0) at_408 (List.mem_of_getElem? (i := 25) rfl) (List.mem_of_getElem? (i := 26) rfl) (List.mem_of_getElem? (i := 3) rfl) (List.mem_of_getElem? (i := 27) rfl) (by decide) (ct2 l C.2.2.2.2.2.2.2.2 _ X24.size (a2) ((tt - (16 : Int32))) (fi) (t15) g24 A24 (own_in fi tt kk (16 : Int32) 16 rfl htt (by omega) hk (by omega)) hb2) rfl ⟨_, _, pd_0, rfl⟩ rfl (Nat.le_of_eq rfl) (by decide) (by decide) (by decide) (by decide) (fun v_25 T25 P25 X25 => ?_)
  obtain ⟨rfl, K25, A25⟩ := P25
  obtain ⟨g25, hg25⟩ : ∃ z, z = (if (tt - (16 : Int32)) < fi then g24 else up g24 (nt (tt - (16 : Int32))) (i8 (i8 ((48 : Int32) - (t15 % (10 : Int64)).toInt32)))) := ⟨_, rfl⟩
  rw [← hg25] at A25
  have hq16 : g25 = (if nt kk < 16 then g24 else up g24 (nt tt - 16) (own_dg Mn 15)) := hg25.trans (own_conv fi tt kk (16 : Int32) 16 t15 Mn _ rfl htt (by omega) hk (by omega) ht15)
  obtain ⟨t16, e_t16⟩ : ∃ z, z = (t15 / (10 : Int64)) := ⟨_, rfl⟩
  rw [← e_t16]
  have ht16 : t16.toInt = -((Mn / 10 ^ 16 : Nat) : Int) := by rw [e_t16]; exact own_div t15 Mn 15 ht15
  refine w_lstore (pc := 411) X25 C at_411 #[.val (.long x0), .second, .val (.int x1), .val (.int x2), .val (.int x3), .val (.int x4), .val (.int x5), .val (.int kk), .val (.int o), .val (.long mm), .second, .val (.long r), .second, .val (.int (1 : Int32)), .val (.long r), .second, .val (.ref a2), .val (.int fi), .val (.int tt), .val (.long t16), .second] rfl ?_
  refine w_aload (pc := 413) X25 C at_413 rfl rfl ?_
  refine w_iload (pc := 415) X25 C at_415 rfl ?_
  refine w_bipush (pc := 417) X25 C at_417 (17 : Int32) rfl ?_
  refine w_isub (pc := 419) X25 C at_419 ?_
  refine w_iload (pc := 420) X25 C at_420 rfl ?_
  refine w_lload (pc := 422) X25 C at_422 rfl ?_
  refine w_callS (pc := 424) X25 C (y := (⟨"com/example/wadesmill/wadesmill/protocol/DecimalParsePinLaw", "step", "([BIIJ)J"⟩ : MethodName)) (bytes := method_3_code) (maxL := 5) (rt := (some .long)) (argsL := [(.ref a2), (.int (tt - (17 : Int32))), (.int fi), (.long t16)]) (rest := []) (W := 0) at_424 (List.mem_of_getElem? (i := 25) rfl) (List.mem_of_getElem? (i := 26) rfl) (List.mem_of_getElem? (i := 3) rfl) (List.mem_of_getElem? (i := 27) rfl) (by decide) (ct2 l C.2.2.2.2.2.2.2.2 _ X25.size (a2) ((tt - (17 : Int32))) (fi) (t16) g25 A25 (own_in fi tt kk (17 : Int32) 17 rfl htt (by omega) hk (by omega)) hb2) rfl ⟨_, _, pd_0, rfl⟩ rfl (Nat.le_of_eq rfl) (by decide) (by decide) (by decide) (by decide) (fun v_26 T26 P26 X26 => ?_)
  obtain ⟨rfl, K26, A26⟩ := P26
  obtain ⟨g26, hg26⟩ : ∃ z, z = (if (tt - (17 : Int32)) < fi then g25 else up g25 (nt (tt - (17 : Int32))) (i8 (i8 ((48 : Int32) - (t16 % (10 : Int64)).toInt32)))) := ⟨_, rfl⟩
  rw [← hg26] at A26
  have hq17 : g26 = (if nt kk < 17 then g25 else up g25 (nt tt - 17) (own_dg Mn 16)) := hg26.trans (own_conv fi tt kk (17 : Int32) 17 t16 Mn _ rfl htt (by omega) hk (by omega) ht16)
  obtain ⟨t17, e_t17⟩ : ∃ z, z = (t16 / (10 : Int64)) := ⟨_, rfl⟩
  rw [← e_t17]
  have ht17 : t17.toInt = -((Mn / 10 ^ 17 : Nat) : Int) := by rw [e_t17]; exact own_div t16 Mn 16 ht16
  refine w_lstore (pc := 427) X26 C at_427 #[.val (.long x0), .second, .val (.int x1), .val (.int x2), .val (.int x3), .val (.int x4), .val (.int x5), .val (.int kk), .val (.int o), .val (.long mm), .second, .val (.long r), .second, .val (.int (1 : Int32)), .val (.long r), .second, .val (.ref a2), .val (.int fi), .val (.int tt), .val (.long t17), .second] rfl ?_
  refine w_aload (pc := 429) X26 C at_429 rfl rfl ?_
  refine w_iload (pc := 431) X26 C at_431 rfl ?_
  refine w_bipush (pc := 433) X26 C at_433 (18 : Int32) rfl ?_
  refine w_isub (pc := 435) X26 C at_435 ?_
  refine w_iload (pc := 436) X26 C at_436 rfl ?_
  refine w_lload (pc := 438) X26 C at_438 rfl ?_
  refine w_callS (pc := 440) X26 C (y := (⟨"com/example/wadesmill/wadesmill/protocol/DecimalParsePinLaw", "step", "([BIIJ)J"⟩ : MethodName)) (bytes := method_3_code) (maxL := 5) (rt := (some .long)) (argsL := [(.ref a2), (.int (tt - (18 : Int32))), (.int fi), (.long t17)]) (rest := []) (W := 0) at_440 (List.mem_of_getElem? (i := 25) rfl) (List.mem_of_getElem? (i := 26) rfl) (List.mem_of_getElem? (i := 3) rfl) (List.mem_of_getElem? (i := 27) rfl) (by decide) (ct2 l C.2.2.2.2.2.2.2.2 _ X26.size (a2) ((tt - (18 : Int32))) (fi) (t17) g26 A26 (own_in fi tt kk (18 : Int32) 18 rfl htt (by omega) hk (by omega)) hb2) rfl ⟨_, _, pd_0, rfl⟩ rfl (Nat.le_of_eq rfl) (by decide) (by decide) (by decide) (by decide) (fun v_27 T27 P27 X27 => ?_)
  obtain ⟨rfl, K27, A27⟩ := P27
  obtain ⟨g27, hg27⟩ : ∃ z, z = (if (tt - (18 : Int32)) < fi then g26 else up g26 (nt (tt - (18 : Int32))) (i8 (i8 ((48 : Int32) - (t17 % (10 : Int64)).toInt32)))) := ⟨_, rfl⟩
  rw [← hg27] at A27
  have hq18 : g27 = (if nt kk < 18 then g26 else up g26 (nt tt - 18) (own_dg Mn 17)) := hg27.trans (own_conv fi tt kk (18 : Int32) 18 t17 Mn _ rfl htt (by omega) hk (by omega) ht17)
  obtain ⟨t18, e_t18⟩ : ∃ z, z = (t17 / (10 : Int64)) := ⟨_, rfl⟩
  rw [← e_t18]
  have ht18 : t18.toInt = -((Mn / 10 ^ 18 : Nat) : Int) := by rw [e_t18]; exact own_div t17 Mn 17 ht17
  refine w_lstore (pc := 443) X27 C at_443 #[.val (.long x0), .second, .val (.int x1), .val (.int x2), .val (.int x3), .val (.int x4), .val (.int x5), .val (.int kk), .val (.int o), .val (.long mm), .second, .val (.long r), .second, .val (.int (1 : Int32)), .val (.long r), .second, .val (.ref a2), .val (.int fi), .val (.int tt), .val (.long t18), .second] rfl ?_
  refine w_aload (pc := 445) X27 C at_445 rfl rfl ?_
  refine w_iload (pc := 447) X27 C at_447 rfl ?_
  refine w_bipush (pc := 449) X27 C at_449 (19 : Int32) rfl ?_
  refine w_isub (pc := 451) X27 C at_451 ?_
  refine w_iload (pc := 452) X27 C at_452 rfl ?_
  refine w_lload (pc := 454) X27 C at_454 rfl ?_
  refine w_callS (pc := 456) X27 C (y := (⟨"com/example/wadesmill/wadesmill/protocol/DecimalParsePinLaw", "step", "([BIIJ)J"⟩ : MethodName)) (bytes := method_3_code) (maxL := 5) (rt := (some .long)) (argsL := [(.ref a2), (.int (tt - (19 : Int32))), (.int fi), (.long t18)]) (rest := []) (W := 0) at_456 (List.mem_of_getElem? (i := 25) rfl) (List.mem_of_getElem? (i := 26) rfl) (List.mem_of_getElem? (i := 3) rfl) (List.mem_of_getElem? (i := 27) rfl) (by decide) (ct2 l C.2.2.2.2.2.2.2.2 _ X27.size (a2) ((tt - (19 : Int32))) (fi) (t18) g27 A27 (own_in fi tt kk (19 : Int32) 19 rfl htt (by omega) hk (by omega)) hb2) rfl ⟨_, _, pd_0, rfl⟩ rfl (Nat.le_of_eq rfl) (by decide) (by decide) (by decide) (by decide) (fun v_28 T28 P28 X28 => ?_)
  obtain ⟨rfl, K28, A28⟩ := P28
  obtain ⟨g28, hg28⟩ : ∃ z, z = (if (tt - (19 : Int32)) < fi then g27 else up g27 (nt (tt - (19 : Int32))) (i8 (i8 ((48 : Int32) - (t18 % (10 : Int64)).toInt32)))) := ⟨_, rfl⟩
  rw [← hg28] at A28
  have hq19 : g28 = (if nt kk < 19 then g27 else up g27 (nt tt - 19) (own_dg Mn 18)) := hg28.trans (own_conv fi tt kk (19 : Int32) 19 t18 Mn _ rfl htt (by omega) hk (by omega) ht18)
  have hG : g28 = own_gs g9 (nt kk) (nt tt) Mn 19 := by rw [hq19, hq18, hq17, hq16, hq15, hq14, hq13, hq12, hq11, hq10, hq9, hq8, hq7, hq6, hq5, hq4, hq3, hq2, hq1]; rfl
  obtain ⟨t19, e_t19⟩ : ∃ z, z = (t18 / (10 : Int64)) := ⟨_, rfl⟩
  rw [← e_t19]
  have ht19 : t19.toInt = -((Mn / 10 ^ 19 : Nat) : Int) := by rw [e_t19]; exact own_div t18 Mn 18 ht18
  refine w_lstore (pc := 459) X28 C at_459 #[.val (.long x0), .second, .val (.int x1), .val (.int x2), .val (.int x3), .val (.int x4), .val (.int x5), .val (.int kk), .val (.int o), .val (.long mm), .second, .val (.long r), .second, .val (.int (1 : Int32)), .val (.long r), .second, .val (.ref a2), .val (.int fi), .val (.int tt), .val (.long t19), .second] rfl ?_
  refine w_aload (pc := 461) X28 C at_461 rfl rfl ?_
  refine w_iload (pc := 463) X28 C at_463 rfl ?_
  refine w_iload (pc := 465) X28 C at_465 rfl ?_
  refine w_i2b (pc := 467) X28 C at_467 ?_
  have b_29 : 0 ≤ (tt).toInt ∧ (tt).toInt < 25 := by omega
  refine w_bastore (pc := 468) X28 C at_468 A28 (nt tt) (nt_eq b_29.1) (nt_lt b_29.2 (by omega)) hb2 (fun T30 h30 X30 W30 A30 => ?_)
  obtain ⟨g30, hg30⟩ : ∃ z, z = up g28 (nt tt) (i8 (i8 x5)) := ⟨_, rfl⟩
  rw [← hg30] at A30
  refine w_aload (pc := 469) X30 C at_469 rfl rfl ?_
  refine w_iload (pc := 471) X30 C at_471 rfl ?_
  refine w_iconst (pc := 473) X30 C at_473 (1 : Int32) rfl ?_
  refine w_iadd (pc := 474) X30 C at_474 ?_
  refine w_iload (pc := 475) X30 C at_475 rfl ?_
  refine w_bipush (pc := 477) X30 C at_477 (8 : Int32) rfl ?_
  refine w_ishr (pc := 479) X30 C at_479 ?_
  refine w_i2b (pc := 480) X30 C at_480 ?_
  have e_31 := add1 (x := tt) (1 : Int32) 1 rfl (by omega) (by omega)
  have b_32 : 0 ≤ ((tt + (1 : Int32))).toInt ∧ ((tt + (1 : Int32))).toInt < 25 := by omega
  refine w_bastore (pc := 481) X30 C at_481 A30 (nt (tt + (1 : Int32))) (nt_eq b_32.1) (nt_lt b_32.2 (by omega)) hb2 (fun T33 h33 X33 W33 A33 => ?_)
  obtain ⟨g33, hg33⟩ : ∃ z, z = up g30 (nt (tt + (1 : Int32))) (i8 (i8 (shrI x5 (8 : Int32)))) := ⟨_, rfl⟩
  rw [← hg33] at A33
  refine w_aload (pc := 482) X33 C at_482 rfl rfl ?_
  refine w_iload (pc := 484) X33 C at_484 rfl ?_
  refine w_iload (pc := 486) X33 C at_486 rfl ?_
  have hF : g33 = up (up (own_gs g9 (nt kk) (nt tt) Mn 19) (nt tt) (i8 (i8 x5))) (nt (tt + (1 : Int32))) (i8 (i8 (shrI x5 (8 : Int32)))) := by rw [hg33, hg30, hG]
  have hat := own_gat g33 g9 tt kk fi Mn _ _ hF htt (by omega) hk
  have hmin : g33 (nt o) = (45 : Int32) := own_min g33 g9 tt kk fi o Mn _ _ hF htt hfi (by omega) hk (by rw [hg9]; simp only [up, if_true]; rfl)
  refine w_callS (pc := 488) X33 C (y := (⟨"com/example/wadesmill/wadesmill/protocol/Decimal", "parse", "([BII)J"⟩ : MethodName)) (bytes := prog_14_method_3_code) (maxL := 11) (rt := (some .long)) (argsL := [(.ref a2), (.int o), (.int tt)]) (rest := []) (W := 0) at_488 (List.mem_of_getElem? (i := 28) rfl) (List.mem_of_getElem? (i := 29) rfl) (List.mem_of_getElem? (i := 30) rfl) (List.mem_of_getElem? (i := 31) rfl) (by decide) (ct3_neg l C.2.2.2.2.2.2.2.2 _ X33.size (a2) (o) (tt) g33 (own_acc (nt fi) (nt tt) Mn) r A33 (by omega) (by omega) (by omega) hmin (fun j a b => own_hdig g33 tt kk fi Mn hat htt (by omega) hk j (by omega) b) (fun j a b => own_hstep g33 tt kk fi Mn hat htt (by omega) hk j (by omega) b) (fun j a b => own_hlimn tt kk fi Mn r hM2 hr htt (by omega) hk j (by omega) b) (own_hac0 (nt fi) (nt tt) Mn _ (by unfold nt; omega)) (own_hfin tt kk fi Mn r hr htt (by omega) hk)) rfl ⟨_, _, pd_1, rfl⟩ rfl (Nat.le_of_eq rfl) (by decide) (by decide) (by decide) (by decide) (fun v_34 T34 P34 X34 => ?_)
  obtain ⟨rfl, e34⟩ := P34
  rw [e34] at X34
  refine w_lload (pc := 491) X34 C at_491 rfl ?_
  refine w_lcmp (pc := 493) X34 C at_493 ?_
  refine w_ifJ_ne (pc := 494) X34 C at_494 501 (by decide) (fun q35 => absurd (rfl) q35) (fun q35 => ?_)
  refine w_iconst (pc := 497) X34 C at_497 (1 : Int32) rfl ?_
  refine w_goto (pc := 498) X34 C at_498 502 (by decide) ?_
  exact w_ret_boolean (pc := 502) X34 C at_502 rfl
set_option maxRecDepth 65536 in
set_option maxHeartbeats 40000000 in
theorem law_tail0 {p : Program} {l : Launch} {e : Env} {s : State} {m : MethodId} {args : Array Value} {below : List Frame} {meth : Method} {c : Code} {T : State} {h : Heap} {n0 : Nat} {Z : State} {a0 : Array Value} (X : Hr p l e room_1 s m args below meth c n0 h 1 19 T) (C : Cx p s m meth c code maxLocals ret "com/example/wadesmill/wadesmill/protocol/DecimalParsePinLaw" "law" Z a0 tables_1) (x0 : Int64) (x1 : Int32) (x2 : Int32) (x3 : Int32) (x4 : Int32) (x5 : Int32) (kk o : Int32) (mm r : Int64) (Mn : Nat) (hk : 1 ≤ kk.toInt ∧ kk.toInt ≤ 19) (ho : 0 ≤ o.toInt ∧ o.toInt ≤ 3) (hM : mm.toInt = -(Mn : Int)) (hM2 : Mn ≤ 9223372036854775808) (hr : r.toInt = -((Mn % 10 ^ (nt kk) : Nat) : Int)) (hrne : ¬ (r = (-9223372036854775808 : Int64))) : Goes p e below s n0 (fun v _ => v = some (.int 1)) room_1.cells room_1.slots T (mkF m 75 #[.val (.long x0), .second, .val (.int x1), .val (.int x2), .val (.int x3), .val (.int x4), .val (.int x5), .val (.int kk), .val (.int o), .val (.long mm), .second, .val (.long r), .second, .val (.int (0 : Int32)), .unset, .unset, .unset, .unset, .unset, .unset, .unset] []) := by
  refine w_iload (pc := 75) X C at_75 rfl ?_
  refine w_if_eq (pc := 77) X C at_77 85 (by decide) (fun q1 => ?_) (fun q1 => absurd (by decide) q1)
  refine w_lload (pc := 85) X C at_85 rfl ?_
  refine w_lneg (pc := 87) X C at_87 ?_
  refine w_lstore (pc := 88) X C at_88 #[.val (.long x0), .second, .val (.int x1), .val (.int x2), .val (.int x3), .val (.int x4), .val (.int x5), .val (.int kk), .val (.int o), .val (.long mm), .second, .val (.long r), .second, .val (.int (0 : Int32)), .val (.long (-r)), .second, .unset, .unset, .unset, .unset, .unset] rfl ?_
  refine w_bipush (pc := 90) X C at_90 (25 : Int32) rfl ?_
  refine w_new_byte (pc := 92) X C at_92 (List.mem_of_getElem? (i := 24) rfl) 25 rfl 25 (by decide) (by decide) (by decide) (by decide) (fun T2 h2 a2 ha2 hb2 X2 E2 A2 => ?_)
  refine w_astore (pc := 94) X2 C at_94 #[.val (.long x0), .second, .val (.int x1), .val (.int x2), .val (.int x3), .val (.int x4), .val (.int x5), .val (.int kk), .val (.int o), .val (.long mm), .second, .val (.long r), .second, .val (.int (0 : Int32)), .val (.long (-r)), .second, .val (.ref a2), .unset, .unset, .unset, .unset] rfl rfl ?_
  refine w_aload (pc := 96) X2 C at_96 rfl rfl ?_
  refine w_iconst (pc := 98) X2 C at_98 (0 : Int32) rfl ?_
  refine w_iload (pc := 99) X2 C at_99 rfl ?_
  refine w_i2b (pc := 101) X2 C at_101 ?_
  refine w_bastore (pc := 102) X2 C at_102 A2 0 rfl (by decide) hb2 (fun T3 h3 X3 W3 A3 => ?_)
  obtain ⟨g3, hg3⟩ : ∃ z, z = up (fun _ => 0) 0 (i8 (i8 x4)) := ⟨_, rfl⟩
  rw [← hg3] at A3
  refine w_aload (pc := 103) X3 C at_103 rfl rfl ?_
  refine w_iconst (pc := 105) X3 C at_105 (1 : Int32) rfl ?_
  refine w_iload (pc := 106) X3 C at_106 rfl ?_
  refine w_bipush (pc := 108) X3 C at_108 (8 : Int32) rfl ?_
  refine w_ishr (pc := 110) X3 C at_110 ?_
  refine w_i2b (pc := 111) X3 C at_111 ?_
  refine w_bastore (pc := 112) X3 C at_112 A3 1 rfl (by decide) hb2 (fun T4 h4 X4 W4 A4 => ?_)
  obtain ⟨g4, hg4⟩ : ∃ z, z = up g3 1 (i8 (i8 (shrI x4 (8 : Int32)))) := ⟨_, rfl⟩
  rw [← hg4] at A4
  refine w_aload (pc := 113) X4 C at_113 rfl rfl ?_
  refine w_iconst (pc := 115) X4 C at_115 (2 : Int32) rfl ?_
  refine w_iload (pc := 116) X4 C at_116 rfl ?_
  refine w_bipush (pc := 118) X4 C at_118 (16 : Int32) rfl ?_
  refine w_ishr (pc := 120) X4 C at_120 ?_
  refine w_i2b (pc := 121) X4 C at_121 ?_
  refine w_bastore (pc := 122) X4 C at_122 A4 2 rfl (by decide) hb2 (fun T5 h5 X5 W5 A5 => ?_)
  obtain ⟨g5, hg5⟩ : ∃ z, z = up g4 2 (i8 (i8 (shrI x4 (16 : Int32)))) := ⟨_, rfl⟩
  rw [← hg5] at A5
  refine w_iload (pc := 123) X5 C at_123 rfl ?_
  refine w_if_eq (pc := 125) X5 C at_125 135 (by decide) (fun q6 => ?_) (fun q6 => absurd (by decide) q6)
  refine w_iload (pc := 135) X5 C at_135 rfl ?_
  refine w_istore (pc := 137) X5 C at_137 #[.val (.long x0), .second, .val (.int x1), .val (.int x2), .val (.int x3), .val (.int x4), .val (.int x5), .val (.int kk), .val (.int o), .val (.long mm), .second, .val (.long r), .second, .val (.int (0 : Int32)), .val (.long (-r)), .second, .val (.ref a2), .val (.int o), .unset, .unset, .unset] rfl ?_
  suffices key_fi : ∀ fi : Int32, fi = o → Goes p e below s n0 (fun v _ => v = some (.int 1)) room_1.cells room_1.slots T5 (mkF m 139 #[.val (.long x0), .second, .val (.int x1), .val (.int x2), .val (.int x3), .val (.int x4), .val (.int x5), .val (.int kk), .val (.int o), .val (.long mm), .second, .val (.long r), .second, .val (.int (0 : Int32)), .val (.long (-r)), .second, .val (.ref a2), .val (.int fi), .unset, .unset, .unset] []) from key_fi _ rfl
  intro fi e_fi
  have hfi : fi.toInt = o.toInt := by rw [e_fi]
  refine w_iload (pc := 139) X5 C at_139 rfl ?_
  refine w_iload (pc := 141) X5 C at_141 rfl ?_
  refine w_iadd (pc := 143) X5 C at_143 ?_
  obtain ⟨tt, e_tt⟩ : ∃ z, z = (fi + kk) := ⟨_, rfl⟩
  rw [← e_tt]
  have htt : tt.toInt = fi.toInt + kk.toInt := by rw [e_tt]; exact add1 kk _ rfl (by omega) (by omega)
  refine w_istore (pc := 144) X5 C at_144 #[.val (.long x0), .second, .val (.int x1), .val (.int x2), .val (.int x3), .val (.int x4), .val (.int x5), .val (.int kk), .val (.int o), .val (.long mm), .second, .val (.long r), .second, .val (.int (0 : Int32)), .val (.long (-r)), .second, .val (.ref a2), .val (.int fi), .val (.int tt), .unset, .unset] rfl ?_
  refine w_iload (pc := 146) X5 C at_146 rfl ?_
  refine w_if_eq (pc := 148) X5 C at_148 158 (by decide) (fun q7 => ?_) (fun q7 => absurd (by decide) q7)
  refine w_lload (pc := 158) X5 C at_158 rfl ?_
  have ht0 : mm.toInt = -((Mn / 10 ^ 0 : Nat) : Int) := by simpa using hM
  refine w_lstore (pc := 160) X5 C at_160 #[.val (.long x0), .second, .val (.int x1), .val (.int x2), .val (.int x3), .val (.int x4), .val (.int x5), .val (.int kk), .val (.int o), .val (.long mm), .second, .val (.long r), .second, .val (.int (0 : Int32)), .val (.long (-r)), .second, .val (.ref a2), .val (.int fi), .val (.int tt), .val (.long mm), .second] rfl ?_
  refine w_aload (pc := 162) X5 C at_162 rfl rfl ?_
  refine w_iload (pc := 164) X5 C at_164 rfl ?_
  refine w_iconst (pc := 166) X5 C at_166 (1 : Int32) rfl ?_
  refine w_isub (pc := 167) X5 C at_167 ?_
  refine w_iload (pc := 168) X5 C at_168 rfl ?_
  refine w_lload (pc := 170) X5 C at_170 rfl ?_
  refine w_callS (pc := 172) X5 C (y := (⟨"com/example/wadesmill/wadesmill/protocol/DecimalParsePinLaw", "step", "([BIIJ)J"⟩ : MethodName)) (bytes := method_3_code) (maxL := 5) (rt := (some .long)) (argsL := [(.ref a2), (.int (tt - (1 : Int32))), (.int fi), (.long mm)]) (rest := []) (W := 0) at_172 (List.mem_of_getElem? (i := 25) rfl) (List.mem_of_getElem? (i := 26) rfl) (List.mem_of_getElem? (i := 3) rfl) (List.mem_of_getElem? (i := 27) rfl) (by decide) (ct2 l C.2.2.2.2.2.2.2.2 _ X5.size (a2) ((tt - (1 : Int32))) (fi) (mm) g5 A5 (own_in fi tt kk (1 : Int32) 1 rfl htt (by omega) hk (by omega)) hb2) rfl ⟨_, _, pd_0, rfl⟩ rfl (Nat.le_of_eq rfl) (by decide) (by decide) (by decide) (by decide) (fun v_8 T8 P8 X8 => ?_)
  obtain ⟨rfl, K8, A8⟩ := P8
  obtain ⟨g8, hg8⟩ : ∃ z, z = (if (tt - (1 : Int32)) < fi then g5 else up g5 (nt (tt - (1 : Int32))) (i8 (i8 ((48 : Int32) - (mm % (10 : Int64)).toInt32)))) := ⟨_, rfl⟩
  rw [← hg8] at A8
  have hq1 : g8 = (if nt kk < 1 then g5 else up g5 (nt tt - 1) (own_dg Mn 0)) := hg8.trans (own_conv fi tt kk (1 : Int32) 1 mm Mn _ rfl htt (by omega) hk (by omega) ht0)
  obtain ⟨t1, e_t1⟩ : ∃ z, z = (mm / (10 : Int64)) := ⟨_, rfl⟩
  rw [← e_t1]
  have ht1 : t1.toInt = -((Mn / 10 ^ 1 : Nat) : Int) := by rw [e_t1]; exact own_div mm Mn 0 ht0
  refine w_lstore (pc := 175) X8 C at_175 #[.val (.long x0), .second, .val (.int x1), .val (.int x2), .val (.int x3), .val (.int x4), .val (.int x5), .val (.int kk), .val (.int o), .val (.long mm), .second, .val (.long r), .second, .val (.int (0 : Int32)), .val (.long (-r)), .second, .val (.ref a2), .val (.int fi), .val (.int tt), .val (.long t1), .second] rfl ?_
  refine w_aload (pc := 177) X8 C at_177 rfl rfl ?_
  refine w_iload (pc := 179) X8 C at_179 rfl ?_
  refine w_iconst (pc := 181) X8 C at_181 (2 : Int32) rfl ?_
  refine w_isub (pc := 182) X8 C at_182 ?_
  refine w_iload (pc := 183) X8 C at_183 rfl ?_
  refine w_lload (pc := 185) X8 C at_185 rfl ?_
  refine w_callS (pc := 187) X8 C (y := (⟨"com/example/wadesmill/wadesmill/protocol/DecimalParsePinLaw", "step", "([BIIJ)J"⟩ : MethodName)) (bytes := method_3_code) (maxL := 5) (rt := (some .long)) (argsL := [(.ref a2), (.int (tt - (2 : Int32))), (.int fi), (.long t1)]) (rest := []) (W := 0) at_187 (List.mem_of_getElem? (i := 25) rfl) (List.mem_of_getElem? (i := 26) rfl) (List.mem_of_getElem? (i := 3) rfl) (List.mem_of_getElem? (i := 27) rfl) (by decide) (ct2 l C.2.2.2.2.2.2.2.2 _ X8.size (a2) ((tt - (2 : Int32))) (fi) (t1) g8 A8 (own_in fi tt kk (2 : Int32) 2 rfl htt (by omega) hk (by omega)) hb2) rfl ⟨_, _, pd_0, rfl⟩ rfl (Nat.le_of_eq rfl) (by decide) (by decide) (by decide) (by decide) (fun v_9 T9 P9 X9 => ?_)
  obtain ⟨rfl, K9, A9⟩ := P9
  obtain ⟨g9, hg9⟩ : ∃ z, z = (if (tt - (2 : Int32)) < fi then g8 else up g8 (nt (tt - (2 : Int32))) (i8 (i8 ((48 : Int32) - (t1 % (10 : Int64)).toInt32)))) := ⟨_, rfl⟩
  rw [← hg9] at A9
  have hq2 : g9 = (if nt kk < 2 then g8 else up g8 (nt tt - 2) (own_dg Mn 1)) := hg9.trans (own_conv fi tt kk (2 : Int32) 2 t1 Mn _ rfl htt (by omega) hk (by omega) ht1)
  obtain ⟨t2, e_t2⟩ : ∃ z, z = (t1 / (10 : Int64)) := ⟨_, rfl⟩
  rw [← e_t2]
  have ht2 : t2.toInt = -((Mn / 10 ^ 2 : Nat) : Int) := by rw [e_t2]; exact own_div t1 Mn 1 ht1
  refine w_lstore (pc := 190) X9 C at_190 #[.val (.long x0), .second, .val (.int x1), .val (.int x2), .val (.int x3), .val (.int x4), .val (.int x5), .val (.int kk), .val (.int o), .val (.long mm), .second, .val (.long r), .second, .val (.int (0 : Int32)), .val (.long (-r)), .second, .val (.ref a2), .val (.int fi), .val (.int tt), .val (.long t2), .second] rfl ?_
  refine w_aload (pc := 192) X9 C at_192 rfl rfl ?_
  refine w_iload (pc := 194) X9 C at_194 rfl ?_
  refine w_iconst (pc := 196) X9 C at_196 (3 : Int32) rfl ?_
  refine w_isub (pc := 197) X9 C at_197 ?_
  refine w_iload (pc := 198) X9 C at_198 rfl ?_
  refine w_lload (pc := 200) X9 C at_200 rfl ?_
  refine w_callS (pc := 202) X9 C (y := (⟨"com/example/wadesmill/wadesmill/protocol/DecimalParsePinLaw", "step", "([BIIJ)J"⟩ : MethodName)) (bytes := method_3_code) (maxL := 5) (rt := (some .long)) (argsL := [(.ref a2), (.int (tt - (3 : Int32))), (.int fi), (.long t2)]) (rest := []) (W := 0) at_202 (List.mem_of_getElem? (i := 25) rfl) (List.mem_of_getElem? (i := 26) rfl) (List.mem_of_getElem? (i := 3) rfl) (List.mem_of_getElem? (i := 27) rfl) (by decide) (ct2 l C.2.2.2.2.2.2.2.2 _ X9.size (a2) ((tt - (3 : Int32))) (fi) (t2) g9 A9 (own_in fi tt kk (3 : Int32) 3 rfl htt (by omega) hk (by omega)) hb2) rfl ⟨_, _, pd_0, rfl⟩ rfl (Nat.le_of_eq rfl) (by decide) (by decide) (by decide) (by decide) (fun v_10 T10 P10 X10 => ?_)
  obtain ⟨rfl, K10, A10⟩ := P10
  obtain ⟨g10, hg10⟩ : ∃ z, z = (if (tt - (3 : Int32)) < fi then g9 else up g9 (nt (tt - (3 : Int32))) (i8 (i8 ((48 : Int32) - (t2 % (10 : Int64)).toInt32)))) := ⟨_, rfl⟩
  rw [← hg10] at A10
  have hq3 : g10 = (if nt kk < 3 then g9 else up g9 (nt tt - 3) (own_dg Mn 2)) := hg10.trans (own_conv fi tt kk (3 : Int32) 3 t2 Mn _ rfl htt (by omega) hk (by omega) ht2)
  obtain ⟨t3, e_t3⟩ : ∃ z, z = (t2 / (10 : Int64)) := ⟨_, rfl⟩
  rw [← e_t3]
  have ht3 : t3.toInt = -((Mn / 10 ^ 3 : Nat) : Int) := by rw [e_t3]; exact own_div t2 Mn 2 ht2
  refine w_lstore (pc := 205) X10 C at_205 #[.val (.long x0), .second, .val (.int x1), .val (.int x2), .val (.int x3), .val (.int x4), .val (.int x5), .val (.int kk), .val (.int o), .val (.long mm), .second, .val (.long r), .second, .val (.int (0 : Int32)), .val (.long (-r)), .second, .val (.ref a2), .val (.int fi), .val (.int tt), .val (.long t3), .second] rfl ?_
  refine w_aload (pc := 207) X10 C at_207 rfl rfl ?_
  refine w_iload (pc := 209) X10 C at_209 rfl ?_
  refine w_iconst (pc := 211) X10 C at_211 (4 : Int32) rfl ?_
  refine w_isub (pc := 212) X10 C at_212 ?_
  refine w_iload (pc := 213) X10 C at_213 rfl ?_
  refine w_lload (pc := 215) X10 C at_215 rfl ?_
  refine w_callS (pc := 217) X10 C (y := (⟨"com/example/wadesmill/wadesmill/protocol/DecimalParsePinLaw", "step", "([BIIJ)J"⟩ : MethodName)) (bytes := method_3_code) (maxL := 5) (rt := (some .long)) (argsL := [(.ref a2), (.int (tt - (4 : Int32))), (.int fi), (.long t3)]) (rest := []) (W := 0) at_217 (List.mem_of_getElem? (i := 25) rfl) (List.mem_of_getElem? (i := 26) rfl) (List.mem_of_getElem? (i := 3) rfl) (List.mem_of_getElem? (i := 27) rfl) (by decide) (ct2 l C.2.2.2.2.2.2.2.2 _ X10.size (a2) ((tt - (4 : Int32))) (fi) (t3) g10 A10 (own_in fi tt kk (4 : Int32) 4 rfl htt (by omega) hk (by omega)) hb2) rfl ⟨_, _, pd_0, rfl⟩ rfl (Nat.le_of_eq rfl) (by decide) (by decide) (by decide) (by decide) (fun v_11 T11 P11 X11 => ?_)
  obtain ⟨rfl, K11, A11⟩ := P11
  obtain ⟨g11, hg11⟩ : ∃ z, z = (if (tt - (4 : Int32)) < fi then g10 else up g10 (nt (tt - (4 : Int32))) (i8 (i8 ((48 : Int32) - (t3 % (10 : Int64)).toInt32)))) := ⟨_, rfl⟩
  rw [← hg11] at A11
  have hq4 : g11 = (if nt kk < 4 then g10 else up g10 (nt tt - 4) (own_dg Mn 3)) := hg11.trans (own_conv fi tt kk (4 : Int32) 4 t3 Mn _ rfl htt (by omega) hk (by omega) ht3)
  obtain ⟨t4, e_t4⟩ : ∃ z, z = (t3 / (10 : Int64)) := ⟨_, rfl⟩
  rw [← e_t4]
  have ht4 : t4.toInt = -((Mn / 10 ^ 4 : Nat) : Int) := by rw [e_t4]; exact own_div t3 Mn 3 ht3
  refine w_lstore (pc := 220) X11 C at_220 #[.val (.long x0), .second, .val (.int x1), .val (.int x2), .val (.int x3), .val (.int x4), .val (.int x5), .val (.int kk), .val (.int o), .val (.long mm), .second, .val (.long r), .second, .val (.int (0 : Int32)), .val (.long (-r)), .second, .val (.ref a2), .val (.int fi), .val (.int tt), .val (.long t4), .second] rfl ?_
  refine w_aload (pc := 222) X11 C at_222 rfl rfl ?_
  refine w_iload (pc := 224) X11 C at_224 rfl ?_
  refine w_iconst (pc := 226) X11 C at_226 (5 : Int32) rfl ?_
  refine w_isub (pc := 227) X11 C at_227 ?_
  refine w_iload (pc := 228) X11 C at_228 rfl ?_
  refine w_lload (pc := 230) X11 C at_230 rfl ?_
  refine w_callS (pc := 232) X11 C (y := (⟨"com/example/wadesmill/wadesmill/protocol/DecimalParsePinLaw", "step", "([BIIJ)J"⟩ : MethodName)) (bytes := method_3_code) (maxL := 5) (rt := (some .long)) (argsL := [(.ref a2), (.int (tt - (5 : Int32))), (.int fi), (.long t4)]) (rest := []) (W := 0) at_232 (List.mem_of_getElem? (i := 25) rfl) (List.mem_of_getElem? (i := 26) rfl) (List.mem_of_getElem? (i := 3) rfl) (List.mem_of_getElem? (i := 27) rfl) (by decide) (ct2 l C.2.2.2.2.2.2.2.2 _ X11.size (a2) ((tt - (5 : Int32))) (fi) (t4) g11 A11 (own_in fi tt kk (5 : Int32) 5 rfl htt (by omega) hk (by omega)) hb2) rfl ⟨_, _, pd_0, rfl⟩ rfl (Nat.le_of_eq rfl) (by decide) (by decide) (by decide) (by decide) (fun v_12 T12 P12 X12 => ?_)
  obtain ⟨rfl, K12, A12⟩ := P12
  obtain ⟨g12, hg12⟩ : ∃ z, z = (if (tt - (5 : Int32)) < fi then g11 else up g11 (nt (tt - (5 : Int32))) (i8 (i8 ((48 : Int32) - (t4 % (10 : Int64)).toInt32)))) := ⟨_, rfl⟩
  rw [← hg12] at A12
  have hq5 : g12 = (if nt kk < 5 then g11 else up g11 (nt tt - 5) (own_dg Mn 4)) := hg12.trans (own_conv fi tt kk (5 : Int32) 5 t4 Mn _ rfl htt (by omega) hk (by omega) ht4)
  obtain ⟨t5, e_t5⟩ : ∃ z, z = (t4 / (10 : Int64)) := ⟨_, rfl⟩
  rw [← e_t5]
  have ht5 : t5.toInt = -((Mn / 10 ^ 5 : Nat) : Int) := by rw [e_t5]; exact own_div t4 Mn 4 ht4
  refine w_lstore (pc := 235) X12 C at_235 #[.val (.long x0), .second, .val (.int x1), .val (.int x2), .val (.int x3), .val (.int x4), .val (.int x5), .val (.int kk), .val (.int o), .val (.long mm), .second, .val (.long r), .second, .val (.int (0 : Int32)), .val (.long (-r)), .second, .val (.ref a2), .val (.int fi), .val (.int tt), .val (.long t5), .second] rfl ?_
  refine w_aload (pc := 237) X12 C at_237 rfl rfl ?_
  refine w_iload (pc := 239) X12 C at_239 rfl ?_
  refine w_bipush (pc := 241) X12 C at_241 (6 : Int32) rfl ?_
  refine w_isub (pc := 243) X12 C at_243 ?_
  refine w_iload (pc := 244) X12 C at_244 rfl ?_
  refine w_lload (pc := 246) X12 C at_246 rfl ?_
  refine w_callS (pc := 248) X12 C (y := (⟨"com/example/wadesmill/wadesmill/protocol/DecimalParsePinLaw", "step", "([BIIJ)J"⟩ : MethodName)) (bytes := method_3_code) (maxL := 5) (rt := (some .long)) (argsL := [(.ref a2), (.int (tt - (6 : Int32))), (.int fi), (.long t5)]) (rest := []) (W := 0) at_248 (List.mem_of_getElem? (i := 25) rfl) (List.mem_of_getElem? (i := 26) rfl) (List.mem_of_getElem? (i := 3) rfl) (List.mem_of_getElem? (i := 27) rfl) (by decide) (ct2 l C.2.2.2.2.2.2.2.2 _ X12.size (a2) ((tt - (6 : Int32))) (fi) (t5) g12 A12 (own_in fi tt kk (6 : Int32) 6 rfl htt (by omega) hk (by omega)) hb2) rfl ⟨_, _, pd_0, rfl⟩ rfl (Nat.le_of_eq rfl) (by decide) (by decide) (by decide) (by decide) (fun v_13 T13 P13 X13 => ?_)
  obtain ⟨rfl, K13, A13⟩ := P13
  obtain ⟨g13, hg13⟩ : ∃ z, z = (if (tt - (6 : Int32)) < fi then g12 else up g12 (nt (tt - (6 : Int32))) (i8 (i8 ((48 : Int32) - (t5 % (10 : Int64)).toInt32)))) := ⟨_, rfl⟩
  rw [← hg13] at A13
  have hq6 : g13 = (if nt kk < 6 then g12 else up g12 (nt tt - 6) (own_dg Mn 5)) := hg13.trans (own_conv fi tt kk (6 : Int32) 6 t5 Mn _ rfl htt (by omega) hk (by omega) ht5)
  obtain ⟨t6, e_t6⟩ : ∃ z, z = (t5 / (10 : Int64)) := ⟨_, rfl⟩
  rw [← e_t6]
  have ht6 : t6.toInt = -((Mn / 10 ^ 6 : Nat) : Int) := by rw [e_t6]; exact own_div t5 Mn 5 ht5
  refine w_lstore (pc := 251) X13 C at_251 #[.val (.long x0), .second, .val (.int x1), .val (.int x2), .val (.int x3), .val (.int x4), .val (.int x5), .val (.int kk), .val (.int o), .val (.long mm), .second, .val (.long r), .second, .val (.int (0 : Int32)), .val (.long (-r)), .second, .val (.ref a2), .val (.int fi), .val (.int tt), .val (.long t6), .second] rfl ?_
  refine w_aload (pc := 253) X13 C at_253 rfl rfl ?_
  refine w_iload (pc := 255) X13 C at_255 rfl ?_
  refine w_bipush (pc := 257) X13 C at_257 (7 : Int32) rfl ?_
  refine w_isub (pc := 259) X13 C at_259 ?_
  refine w_iload (pc := 260) X13 C at_260 rfl ?_
  refine w_lload (pc := 262) X13 C at_262 rfl ?_
  refine w_callS (pc := 264) X13 C (y := (⟨"com/example/wadesmill/wadesmill/protocol/DecimalParsePinLaw", "step", "([BIIJ)J"⟩ : MethodName)) (bytes := method_3_code) (maxL := 5) (rt := (some .long)) (argsL := [(.ref a2), (.int (tt - (7 : Int32))), (.int fi), (.long t6)]) (rest := []) (W := 0) at_264 (List.mem_of_getElem? (i := 25) rfl) (List.mem_of_getElem? (i := 26) rfl) (List.mem_of_getElem? (i := 3) rfl) (List.mem_of_getElem? (i := 27) rfl) (by decide) (ct2 l C.2.2.2.2.2.2.2.2 _ X13.size (a2) ((tt - (7 : Int32))) (fi) (t6) g13 A13 (own_in fi tt kk (7 : Int32) 7 rfl htt (by omega) hk (by omega)) hb2) rfl ⟨_, _, pd_0, rfl⟩ rfl (Nat.le_of_eq rfl) (by decide) (by decide) (by decide) (by decide) (fun v_14 T14 P14 X14 => ?_)
  obtain ⟨rfl, K14, A14⟩ := P14
  obtain ⟨g14, hg14⟩ : ∃ z, z = (if (tt - (7 : Int32)) < fi then g13 else up g13 (nt (tt - (7 : Int32))) (i8 (i8 ((48 : Int32) - (t6 % (10 : Int64)).toInt32)))) := ⟨_, rfl⟩
  rw [← hg14] at A14
  have hq7 : g14 = (if nt kk < 7 then g13 else up g13 (nt tt - 7) (own_dg Mn 6)) := hg14.trans (own_conv fi tt kk (7 : Int32) 7 t6 Mn _ rfl htt (by omega) hk (by omega) ht6)
  obtain ⟨t7, e_t7⟩ : ∃ z, z = (t6 / (10 : Int64)) := ⟨_, rfl⟩
  rw [← e_t7]
  have ht7 : t7.toInt = -((Mn / 10 ^ 7 : Nat) : Int) := by rw [e_t7]; exact own_div t6 Mn 6 ht6
  refine w_lstore (pc := 267) X14 C at_267 #[.val (.long x0), .second, .val (.int x1), .val (.int x2), .val (.int x3), .val (.int x4), .val (.int x5), .val (.int kk), .val (.int o), .val (.long mm), .second, .val (.long r), .second, .val (.int (0 : Int32)), .val (.long (-r)), .second, .val (.ref a2), .val (.int fi), .val (.int tt), .val (.long t7), .second] rfl ?_
  refine w_aload (pc := 269) X14 C at_269 rfl rfl ?_
  refine w_iload (pc := 271) X14 C at_271 rfl ?_
  refine w_bipush (pc := 273) X14 C at_273 (8 : Int32) rfl ?_
  refine w_isub (pc := 275) X14 C at_275 ?_
  refine w_iload (pc := 276) X14 C at_276 rfl ?_
  refine w_lload (pc := 278) X14 C at_278 rfl ?_
  refine w_callS (pc := 280) X14 C (y := (⟨"com/example/wadesmill/wadesmill/protocol/DecimalParsePinLaw", "step", "([BIIJ)J"⟩ : MethodName)) (bytes := method_3_code) (maxL := 5) (rt := (some .long)) (argsL := [(.ref a2), (.int (tt - (8 : Int32))), (.int fi), (.long t7)]) (rest := []) (W := 0) at_280 (List.mem_of_getElem? (i := 25) rfl) (List.mem_of_getElem? (i := 26) rfl) (List.mem_of_getElem? (i := 3) rfl) (List.mem_of_getElem? (i := 27) rfl) (by decide) (ct2 l C.2.2.2.2.2.2.2.2 _ X14.size (a2) ((tt - (8 : Int32))) (fi) (t7) g14 A14 (own_in fi tt kk (8 : Int32) 8 rfl htt (by omega) hk (by omega)) hb2) rfl ⟨_, _, pd_0, rfl⟩ rfl (Nat.le_of_eq rfl) (by decide) (by decide) (by decide) (by decide) (fun v_15 T15 P15 X15 => ?_)
  obtain ⟨rfl, K15, A15⟩ := P15
  obtain ⟨g15, hg15⟩ : ∃ z, z = (if (tt - (8 : Int32)) < fi then g14 else up g14 (nt (tt - (8 : Int32))) (i8 (i8 ((48 : Int32) - (t7 % (10 : Int64)).toInt32)))) := ⟨_, rfl⟩
  rw [← hg15] at A15
  have hq8 : g15 = (if nt kk < 8 then g14 else up g14 (nt tt - 8) (own_dg Mn 7)) := hg15.trans (own_conv fi tt kk (8 : Int32) 8 t7 Mn _ rfl htt (by omega) hk (by omega) ht7)
  obtain ⟨t8, e_t8⟩ : ∃ z, z = (t7 / (10 : Int64)) := ⟨_, rfl⟩
  rw [← e_t8]
  have ht8 : t8.toInt = -((Mn / 10 ^ 8 : Nat) : Int) := by rw [e_t8]; exact own_div t7 Mn 7 ht7
  refine w_lstore (pc := 283) X15 C at_283 #[.val (.long x0), .second, .val (.int x1), .val (.int x2), .val (.int x3), .val (.int x4), .val (.int x5), .val (.int kk), .val (.int o), .val (.long mm), .second, .val (.long r), .second, .val (.int (0 : Int32)), .val (.long (-r)), .second, .val (.ref a2), .val (.int fi), .val (.int tt), .val (.long t8), .second] rfl ?_
  refine w_aload (pc := 285) X15 C at_285 rfl rfl ?_
  refine w_iload (pc := 287) X15 C at_287 rfl ?_
  refine w_bipush (pc := 289) X15 C at_289 (9 : Int32) rfl ?_
  refine w_isub (pc := 291) X15 C at_291 ?_
  refine w_iload (pc := 292) X15 C at_292 rfl ?_
  refine w_lload (pc := 294) X15 C at_294 rfl ?_
  refine w_callS (pc := 296) X15 C (y := (⟨"com/example/wadesmill/wadesmill/protocol/DecimalParsePinLaw", "step", "([BIIJ)J"⟩ : MethodName)) (bytes := method_3_code) (maxL := 5) (rt := (some .long)) (argsL := [(.ref a2), (.int (tt - (9 : Int32))), (.int fi), (.long t8)]) (rest := []) (W := 0) at_296 (List.mem_of_getElem? (i := 25) rfl) (List.mem_of_getElem? (i := 26) rfl) (List.mem_of_getElem? (i := 3) rfl) (List.mem_of_getElem? (i := 27) rfl) (by decide) (ct2 l C.2.2.2.2.2.2.2.2 _ X15.size (a2) ((tt - (9 : Int32))) (fi) (t8) g15 A15 (own_in fi tt kk (9 : Int32) 9 rfl htt (by omega) hk (by omega)) hb2) rfl ⟨_, _, pd_0, rfl⟩ rfl (Nat.le_of_eq rfl) (by decide) (by decide) (by decide) (by decide) (fun v_16 T16 P16 X16 => ?_)
  obtain ⟨rfl, K16, A16⟩ := P16
  obtain ⟨g16, hg16⟩ : ∃ z, z = (if (tt - (9 : Int32)) < fi then g15 else up g15 (nt (tt - (9 : Int32))) (i8 (i8 ((48 : Int32) - (t8 % (10 : Int64)).toInt32)))) := ⟨_, rfl⟩
  rw [← hg16] at A16
  have hq9 : g16 = (if nt kk < 9 then g15 else up g15 (nt tt - 9) (own_dg Mn 8)) := hg16.trans (own_conv fi tt kk (9 : Int32) 9 t8 Mn _ rfl htt (by omega) hk (by omega) ht8)
  obtain ⟨t9, e_t9⟩ : ∃ z, z = (t8 / (10 : Int64)) := ⟨_, rfl⟩
  rw [← e_t9]
  have ht9 : t9.toInt = -((Mn / 10 ^ 9 : Nat) : Int) := by rw [e_t9]; exact own_div t8 Mn 8 ht8
  refine w_lstore (pc := 299) X16 C at_299 #[.val (.long x0), .second, .val (.int x1), .val (.int x2), .val (.int x3), .val (.int x4), .val (.int x5), .val (.int kk), .val (.int o), .val (.long mm), .second, .val (.long r), .second, .val (.int (0 : Int32)), .val (.long (-r)), .second, .val (.ref a2), .val (.int fi), .val (.int tt), .val (.long t9), .second] rfl ?_
  refine w_aload (pc := 301) X16 C at_301 rfl rfl ?_
  refine w_iload (pc := 303) X16 C at_303 rfl ?_
  refine w_bipush (pc := 305) X16 C at_305 (10 : Int32) rfl ?_
  refine w_isub (pc := 307) X16 C at_307 ?_
  refine w_iload (pc := 308) X16 C at_308 rfl ?_
  refine w_lload (pc := 310) X16 C at_310 rfl ?_
  refine w_callS (pc := 312) X16 C (y := (⟨"com/example/wadesmill/wadesmill/protocol/DecimalParsePinLaw", "step", "([BIIJ)J"⟩ : MethodName)) (bytes := method_3_code) (maxL := 5) (rt := (some .long)) (argsL := [(.ref a2), (.int (tt - (10 : Int32))), (.int fi), (.long t9)]) (rest := []) (W := 0) at_312 (List.mem_of_getElem? (i := 25) rfl) (List.mem_of_getElem? (i := 26) rfl) (List.mem_of_getElem? (i := 3) rfl) (List.mem_of_getElem? (i := 27) rfl) (by decide) (ct2 l C.2.2.2.2.2.2.2.2 _ X16.size (a2) ((tt - (10 : Int32))) (fi) (t9) g16 A16 (own_in fi tt kk (10 : Int32) 10 rfl htt (by omega) hk (by omega)) hb2) rfl ⟨_, _, pd_0, rfl⟩ rfl (Nat.le_of_eq rfl) (by decide) (by decide) (by decide) (by decide) (fun v_17 T17 P17 X17 => ?_)
  obtain ⟨rfl, K17, A17⟩ := P17
  obtain ⟨g17, hg17⟩ : ∃ z, z = (if (tt - (10 : Int32)) < fi then g16 else up g16 (nt (tt - (10 : Int32))) (i8 (i8 ((48 : Int32) - (t9 % (10 : Int64)).toInt32)))) := ⟨_, rfl⟩
  rw [← hg17] at A17
  have hq10 : g17 = (if nt kk < 10 then g16 else up g16 (nt tt - 10) (own_dg Mn 9)) := hg17.trans (own_conv fi tt kk (10 : Int32) 10 t9 Mn _ rfl htt (by omega) hk (by omega) ht9)
  obtain ⟨t10, e_t10⟩ : ∃ z, z = (t9 / (10 : Int64)) := ⟨_, rfl⟩
  rw [← e_t10]
  have ht10 : t10.toInt = -((Mn / 10 ^ 10 : Nat) : Int) := by rw [e_t10]; exact own_div t9 Mn 9 ht9
  refine w_lstore (pc := 315) X17 C at_315 #[.val (.long x0), .second, .val (.int x1), .val (.int x2), .val (.int x3), .val (.int x4), .val (.int x5), .val (.int kk), .val (.int o), .val (.long mm), .second, .val (.long r), .second, .val (.int (0 : Int32)), .val (.long (-r)), .second, .val (.ref a2), .val (.int fi), .val (.int tt), .val (.long t10), .second] rfl ?_
  refine w_aload (pc := 317) X17 C at_317 rfl rfl ?_
  refine w_iload (pc := 319) X17 C at_319 rfl ?_
  refine w_bipush (pc := 321) X17 C at_321 (11 : Int32) rfl ?_
  refine w_isub (pc := 323) X17 C at_323 ?_
  refine w_iload (pc := 324) X17 C at_324 rfl ?_
  refine w_lload (pc := 326) X17 C at_326 rfl ?_
  refine w_callS (pc := 328) X17 C (y := (⟨"com/example/wadesmill/wadesmill/protocol/DecimalParsePinLaw", "step", "([BIIJ)J"⟩ : MethodName)) (bytes := method_3_code) (maxL := 5) (rt := (some .long)) (argsL := [(.ref a2), (.int (tt - (11 : Int32))), (.int fi), (.long t10)]) (rest := []) (W := 0) at_328 (List.mem_of_getElem? (i := 25) rfl) (List.mem_of_getElem? (i := 26) rfl) (List.mem_of_getElem? (i := 3) rfl) (List.mem_of_getElem? (i := 27) rfl) (by decide) (ct2 l C.2.2.2.2.2.2.2.2 _ X17.size (a2) ((tt - (11 : Int32))) (fi) (t10) g17 A17 (own_in fi tt kk (11 : Int32) 11 rfl htt (by omega) hk (by omega)) hb2) rfl ⟨_, _, pd_0, rfl⟩ rfl (Nat.le_of_eq rfl) (by decide) (by decide) (by decide) (by decide) (fun v_18 T18 P18 X18 => ?_)
  obtain ⟨rfl, K18, A18⟩ := P18
  obtain ⟨g18, hg18⟩ : ∃ z, z = (if (tt - (11 : Int32)) < fi then g17 else up g17 (nt (tt - (11 : Int32))) (i8 (i8 ((48 : Int32) - (t10 % (10 : Int64)).toInt32)))) := ⟨_, rfl⟩
  rw [← hg18] at A18
  have hq11 : g18 = (if nt kk < 11 then g17 else up g17 (nt tt - 11) (own_dg Mn 10)) := hg18.trans (own_conv fi tt kk (11 : Int32) 11 t10 Mn _ rfl htt (by omega) hk (by omega) ht10)
  obtain ⟨t11, e_t11⟩ : ∃ z, z = (t10 / (10 : Int64)) := ⟨_, rfl⟩
  rw [← e_t11]
  have ht11 : t11.toInt = -((Mn / 10 ^ 11 : Nat) : Int) := by rw [e_t11]; exact own_div t10 Mn 10 ht10
  refine w_lstore (pc := 331) X18 C at_331 #[.val (.long x0), .second, .val (.int x1), .val (.int x2), .val (.int x3), .val (.int x4), .val (.int x5), .val (.int kk), .val (.int o), .val (.long mm), .second, .val (.long r), .second, .val (.int (0 : Int32)), .val (.long (-r)), .second, .val (.ref a2), .val (.int fi), .val (.int tt), .val (.long t11), .second] rfl ?_
  refine w_aload (pc := 333) X18 C at_333 rfl rfl ?_
  refine w_iload (pc := 335) X18 C at_335 rfl ?_
  refine w_bipush (pc := 337) X18 C at_337 (12 : Int32) rfl ?_
  refine w_isub (pc := 339) X18 C at_339 ?_
  refine w_iload (pc := 340) X18 C at_340 rfl ?_
  refine w_lload (pc := 342) X18 C at_342 rfl ?_
  refine w_callS (pc := 344) X18 C (y := (⟨"com/example/wadesmill/wadesmill/protocol/DecimalParsePinLaw", "step", "([BIIJ)J"⟩ : MethodName)) (bytes := method_3_code) (maxL := 5) (rt := (some .long)) (argsL := [(.ref a2), (.int (tt - (12 : Int32))), (.int fi), (.long t11)]) (rest := []) (W := 0) at_344 (List.mem_of_getElem? (i := 25) rfl) (List.mem_of_getElem? (i := 26) rfl) (List.mem_of_getElem? (i := 3) rfl) (List.mem_of_getElem? (i := 27) rfl) (by decide) (ct2 l C.2.2.2.2.2.2.2.2 _ X18.size (a2) ((tt - (12 : Int32))) (fi) (t11) g18 A18 (own_in fi tt kk (12 : Int32) 12 rfl htt (by omega) hk (by omega)) hb2) rfl ⟨_, _, pd_0, rfl⟩ rfl (Nat.le_of_eq rfl) (by decide) (by decide) (by decide) (by decide) (fun v_19 T19 P19 X19 => ?_)
  obtain ⟨rfl, K19, A19⟩ := P19
  obtain ⟨g19, hg19⟩ : ∃ z, z = (if (tt - (12 : Int32)) < fi then g18 else up g18 (nt (tt - (12 : Int32))) (i8 (i8 ((48 : Int32) - (t11 % (10 : Int64)).toInt32)))) := ⟨_, rfl⟩
  rw [← hg19] at A19
  have hq12 : g19 = (if nt kk < 12 then g18 else up g18 (nt tt - 12) (own_dg Mn 11)) := hg19.trans (own_conv fi tt kk (12 : Int32) 12 t11 Mn _ rfl htt (by omega) hk (by omega) ht11)
  obtain ⟨t12, e_t12⟩ : ∃ z, z = (t11 / (10 : Int64)) := ⟨_, rfl⟩
  rw [← e_t12]
  have ht12 : t12.toInt = -((Mn / 10 ^ 12 : Nat) : Int) := by rw [e_t12]; exact own_div t11 Mn 11 ht11
  refine w_lstore (pc := 347) X19 C at_347 #[.val (.long x0), .second, .val (.int x1), .val (.int x2), .val (.int x3), .val (.int x4), .val (.int x5), .val (.int kk), .val (.int o), .val (.long mm), .second, .val (.long r), .second, .val (.int (0 : Int32)), .val (.long (-r)), .second, .val (.ref a2), .val (.int fi), .val (.int tt), .val (.long t12), .second] rfl ?_
  refine w_aload (pc := 349) X19 C at_349 rfl rfl ?_
  refine w_iload (pc := 351) X19 C at_351 rfl ?_
  refine w_bipush (pc := 353) X19 C at_353 (13 : Int32) rfl ?_
  refine w_isub (pc := 355) X19 C at_355 ?_
  refine w_iload (pc := 356) X19 C at_356 rfl ?_
  refine w_lload (pc := 358) X19 C at_358 rfl ?_
  refine w_callS (pc := 360) X19 C (y := (⟨"com/example/wadesmill/wadesmill/protocol/DecimalParsePinLaw", "step", "([BIIJ)J"⟩ : MethodName)) (bytes := method_3_code) (maxL := 5) (rt := (some .long)) (argsL := [(.ref a2), (.int (tt - (13 : Int32))), (.int fi), (.long t12)]) (rest := []) (W := 0) at_360 (List.mem_of_getElem? (i := 25) rfl) (List.mem_of_getElem? (i := 26) rfl) (List.mem_of_getElem? (i := 3) rfl) (List.mem_of_getElem? (i := 27) rfl) (by decide) (ct2 l C.2.2.2.2.2.2.2.2 _ X19.size (a2) ((tt - (13 : Int32))) (fi) (t12) g19 A19 (own_in fi tt kk (13 : Int32) 13 rfl htt (by omega) hk (by omega)) hb2) rfl ⟨_, _, pd_0, rfl⟩ rfl (Nat.le_of_eq rfl) (by decide) (by decide) (by decide) (by decide) (fun v_20 T20 P20 X20 => ?_)
  obtain ⟨rfl, K20, A20⟩ := P20
  obtain ⟨g20, hg20⟩ : ∃ z, z = (if (tt - (13 : Int32)) < fi then g19 else up g19 (nt (tt - (13 : Int32))) (i8 (i8 ((48 : Int32) - (t12 % (10 : Int64)).toInt32)))) := ⟨_, rfl⟩
  rw [← hg20] at A20
  have hq13 : g20 = (if nt kk < 13 then g19 else up g19 (nt tt - 13) (own_dg Mn 12)) := hg20.trans (own_conv fi tt kk (13 : Int32) 13 t12 Mn _ rfl htt (by omega) hk (by omega) ht12)
  obtain ⟨t13, e_t13⟩ : ∃ z, z = (t12 / (10 : Int64)) := ⟨_, rfl⟩
  rw [← e_t13]
  have ht13 : t13.toInt = -((Mn / 10 ^ 13 : Nat) : Int) := by rw [e_t13]; exact own_div t12 Mn 12 ht12
  refine w_lstore (pc := 363) X20 C at_363 #[.val (.long x0), .second, .val (.int x1), .val (.int x2), .val (.int x3), .val (.int x4), .val (.int x5), .val (.int kk), .val (.int o), .val (.long mm), .second, .val (.long r), .second, .val (.int (0 : Int32)), .val (.long (-r)), .second, .val (.ref a2), .val (.int fi), .val (.int tt), .val (.long t13), .second] rfl ?_
  refine w_aload (pc := 365) X20 C at_365 rfl rfl ?_
  refine w_iload (pc := 367) X20 C at_367 rfl ?_
  refine w_bipush (pc := 369) X20 C at_369 (14 : Int32) rfl ?_
  refine w_isub (pc := 371) X20 C at_371 ?_
  refine w_iload (pc := 372) X20 C at_372 rfl ?_
  refine w_lload (pc := 374) X20 C at_374 rfl ?_
  refine w_callS (pc := 376) X20 C (y := (⟨"com/example/wadesmill/wadesmill/protocol/DecimalParsePinLaw", "step", "([BIIJ)J"⟩ : MethodName)) (bytes := method_3_code) (maxL := 5) (rt := (some .long)) (argsL := [(.ref a2), (.int (tt - (14 : Int32))), (.int fi), (.long t13)]) (rest := []) (W := 0) at_376 (List.mem_of_getElem? (i := 25) rfl) (List.mem_of_getElem? (i := 26) rfl) (List.mem_of_getElem? (i := 3) rfl) (List.mem_of_getElem? (i := 27) rfl) (by decide) (ct2 l C.2.2.2.2.2.2.2.2 _ X20.size (a2) ((tt - (14 : Int32))) (fi) (t13) g20 A20 (own_in fi tt kk (14 : Int32) 14 rfl htt (by omega) hk (by omega)) hb2) rfl ⟨_, _, pd_0, rfl⟩ rfl (Nat.le_of_eq rfl) (by decide) (by decide) (by decide) (by decide) (fun v_21 T21 P21 X21 => ?_)
  obtain ⟨rfl, K21, A21⟩ := P21
  obtain ⟨g21, hg21⟩ : ∃ z, z = (if (tt - (14 : Int32)) < fi then g20 else up g20 (nt (tt - (14 : Int32))) (i8 (i8 ((48 : Int32) - (t13 % (10 : Int64)).toInt32)))) := ⟨_, rfl⟩
  rw [← hg21] at A21
  have hq14 : g21 = (if nt kk < 14 then g20 else up g20 (nt tt - 14) (own_dg Mn 13)) := hg21.trans (own_conv fi tt kk (14 : Int32) 14 t13 Mn _ rfl htt (by omega) hk (by omega) ht13)
  obtain ⟨t14, e_t14⟩ : ∃ z, z = (t13 / (10 : Int64)) := ⟨_, rfl⟩
  rw [← e_t14]
  have ht14 : t14.toInt = -((Mn / 10 ^ 14 : Nat) : Int) := by rw [e_t14]; exact own_div t13 Mn 13 ht13
  refine w_lstore (pc := 379) X21 C at_379 #[.val (.long x0), .second, .val (.int x1), .val (.int x2), .val (.int x3), .val (.int x4), .val (.int x5), .val (.int kk), .val (.int o), .val (.long mm), .second, .val (.long r), .second, .val (.int (0 : Int32)), .val (.long (-r)), .second, .val (.ref a2), .val (.int fi), .val (.int tt), .val (.long t14), .second] rfl ?_
  refine w_aload (pc := 381) X21 C at_381 rfl rfl ?_
  refine w_iload (pc := 383) X21 C at_383 rfl ?_
  refine w_bipush (pc := 385) X21 C at_385 (15 : Int32) rfl ?_
  refine w_isub (pc := 387) X21 C at_387 ?_
  refine w_iload (pc := 388) X21 C at_388 rfl ?_
  refine w_lload (pc := 390) X21 C at_390 rfl ?_
  refine w_callS (pc := 392) X21 C (y := (⟨"com/example/wadesmill/wadesmill/protocol/DecimalParsePinLaw", "step", "([BIIJ)J"⟩ : MethodName)) (bytes := method_3_code) (maxL := 5) (rt := (some .long)) (argsL := [(.ref a2), (.int (tt - (15 : Int32))), (.int fi), (.long t14)]) (rest := []) (W := 0) at_392 (List.mem_of_getElem? (i := 25) rfl) (List.mem_of_getElem? (i := 26) rfl) (List.mem_of_getElem? (i := 3) rfl) (List.mem_of_getElem? (i := 27) rfl) (by decide) (ct2 l C.2.2.2.2.2.2.2.2 _ X21.size (a2) ((tt - (15 : Int32))) (fi) (t14) g21 A21 (own_in fi tt kk (15 : Int32) 15 rfl htt (by omega) hk (by omega)) hb2) rfl ⟨_, _, pd_0, rfl⟩ rfl (Nat.le_of_eq rfl) (by decide) (by decide) (by decide) (by decide) (fun v_22 T22 P22 X22 => ?_)
  obtain ⟨rfl, K22, A22⟩ := P22
  obtain ⟨g22, hg22⟩ : ∃ z, z = (if (tt - (15 : Int32)) < fi then g21 else up g21 (nt (tt - (15 : Int32))) (i8 (i8 ((48 : Int32) - (t14 % (10 : Int64)).toInt32)))) := ⟨_, rfl⟩
  rw [← hg22] at A22
  have hq15 : g22 = (if nt kk < 15 then g21 else up g21 (nt tt - 15) (own_dg Mn 14)) := hg22.trans (own_conv fi tt kk (15 : Int32) 15 t14 Mn _ rfl htt (by omega) hk (by omega) ht14)
  obtain ⟨t15, e_t15⟩ : ∃ z, z = (t14 / (10 : Int64)) := ⟨_, rfl⟩
  rw [← e_t15]
  have ht15 : t15.toInt = -((Mn / 10 ^ 15 : Nat) : Int) := by rw [e_t15]; exact own_div t14 Mn 14 ht14
  refine w_lstore (pc := 395) X22 C at_395 #[.val (.long x0), .second, .val (.int x1), .val (.int x2), .val (.int x3), .val (.int x4), .val (.int x5), .val (.int kk), .val (.int o), .val (.long mm), .second, .val (.long r), .second, .val (.int (0 : Int32)), .val (.long (-r)), .second, .val (.ref a2), .val (.int fi), .val (.int tt), .val (.long t15), .second] rfl ?_
  refine w_aload (pc := 397) X22 C at_397 rfl rfl ?_
  refine w_iload (pc := 399) X22 C at_399 rfl ?_
  refine w_bipush (pc := 401) X22 C at_401 (16 : Int32) rfl ?_
  refine w_isub (pc := 403) X22 C at_403 ?_
  refine w_iload (pc := 404) X22 C at_404 rfl ?_
  refine w_lload (pc := 406) X22 C at_406 rfl ?_
  refine w_callS (pc := 408) X22 C (y := (⟨"com/example/wadesmill/wadesmill/protocol/DecimalParsePinLaw", "step", "([BIIJ)J"⟩ : MethodName)) (bytes := method_3_code) (maxL := 5) (rt := (some .long)) (argsL := [(.ref a2), (.int (tt - (16 : Int32))), (.int fi), (.long t15)]) (rest := []) (W := 0) at_408 (List.mem_of_getElem? (i := 25) rfl) (List.mem_of_getElem? (i := 26) rfl) (List.mem_of_getElem? (i := 3) rfl) (List.mem_of_getElem? (i := 27) rfl) (by decide) (ct2 l C.2.2.2.2.2.2.2.2 _ X22.size (a2) ((tt - (16 : Int32))) (fi) (t15) g22 A22 (own_in fi tt kk (16 : Int32) 16 rfl htt (by omega) hk (by omega)) hb2) rfl ⟨_, _, pd_0, rfl⟩ rfl (Nat.le_of_eq rfl) (by decide) (by decide) (by decide) (by decide) (fun v_23 T23 P23 X23 => ?_)
  obtain ⟨rfl, K23, A23⟩ := P23
  obtain ⟨g23, hg23⟩ : ∃ z, z = (if (tt - (16 : Int32)) < fi then g22 else up g22 (nt (tt - (16 : Int32))) (i8 (i8 ((48 : Int32) - (t15 % (10 : Int64)).toInt32)))) := ⟨_, rfl⟩
  rw [← hg23] at A23
  have hq16 : g23 = (if nt kk < 16 then g22 else up g22 (nt tt - 16) (own_dg Mn 15)) := hg23.trans (own_conv fi tt kk (16 : Int32) 16 t15 Mn _ rfl htt (by omega) hk (by omega) ht15)
  obtain ⟨t16, e_t16⟩ : ∃ z, z = (t15 / (10 : Int64)) := ⟨_, rfl⟩
  rw [← e_t16]
  have ht16 : t16.toInt = -((Mn / 10 ^ 16 : Nat) : Int) := by rw [e_t16]; exact own_div t15 Mn 15 ht15
  refine w_lstore (pc := 411) X23 C at_411 #[.val (.long x0), .second, .val (.int x1), .val (.int x2), .val (.int x3), .val (.int x4), .val (.int x5), .val (.int kk), .val (.int o), .val (.long mm), .second, .val (.long r), .second, .val (.int (0 : Int32)), .val (.long (-r)), .second, .val (.ref a2), .val (.int fi), .val (.int tt), .val (.long t16), .second] rfl ?_
  refine w_aload (pc := 413) X23 C at_413 rfl rfl ?_
  refine w_iload (pc := 415) X23 C at_415 rfl ?_
  refine w_bipush (pc := 417) X23 C at_417 (17 : Int32) rfl ?_
  refine w_isub (pc := 419) X23 C at_419 ?_
  refine w_iload (pc := 420) X23 C at_420 rfl ?_
  refine w_lload (pc := 422) X23 C at_422 rfl ?_
  refine w_callS (pc := 424) X23 C (y := (⟨"com/example/wadesmill/wadesmill/protocol/DecimalParsePinLaw", "step", "([BIIJ)J"⟩ : MethodName)) (bytes := method_3_code) (maxL := 5) (rt := (some .long)) (argsL := [(.ref a2), (.int (tt - (17 : Int32))), (.int fi), (.long t16)]) (rest := []) (W := 0) at_424 (List.mem_of_getElem? (i := 25) rfl) (List.mem_of_getElem? (i := 26) rfl) (List.mem_of_getElem? (i := 3) rfl) (List.mem_of_getElem? (i := 27) rfl) (by decide) (ct2 l C.2.2.2.2.2.2.2.2 _ X23.size (a2) ((tt - (17 : Int32))) (fi) (t16) g23 A23 (own_in fi tt kk (17 : Int32) 17 rfl htt (by omega) hk (by omega)) hb2) rfl ⟨_, _, pd_0, rfl⟩ rfl (Nat.le_of_eq rfl) (by decide) (by decide) (by decide) (by decide) (fun v_24 T24 P24 X24 => ?_)
  obtain ⟨rfl, K24, A24⟩ := P24
  obtain ⟨g24, hg24⟩ : ∃ z, z = (if (tt - (17 : Int32)) < fi then g23 else up g23 (nt (tt - (17 : Int32))) (i8 (i8 ((48 : Int32) - (t16 % (10 : Int64)).toInt32)))) := ⟨_, rfl⟩
  rw [← hg24] at A24
  have hq17 : g24 = (if nt kk < 17 then g23 else up g23 (nt tt - 17) (own_dg Mn 16)) := hg24.trans (own_conv fi tt kk (17 : Int32) 17 t16 Mn _ rfl htt (by omega) hk (by omega) ht16)
  obtain ⟨t17, e_t17⟩ : ∃ z, z = (t16 / (10 : Int64)) := ⟨_, rfl⟩
  rw [← e_t17]
  have ht17 : t17.toInt = -((Mn / 10 ^ 17 : Nat) : Int) := by rw [e_t17]; exact own_div t16 Mn 16 ht16
  refine w_lstore (pc := 427) X24 C at_427 #[.val (.long x0), .second, .val (.int x1), .val (.int x2), .val (.int x3), .val (.int x4), .val (.int x5), .val (.int kk), .val (.int o), .val (.long mm), .second, .val (.long r), .second, .val (.int (0 : Int32)), .val (.long (-r)), .second, .val (.ref a2), .val (.int fi), .val (.int tt), .val (.long t17), .second] rfl ?_
  refine w_aload (pc := 429) X24 C at_429 rfl rfl ?_
  refine w_iload (pc := 431) X24 C at_431 rfl ?_
  refine w_bipush (pc := 433) X24 C at_433 (18 : Int32) rfl ?_
  refine w_isub (pc := 435) X24 C at_435 ?_
  refine w_iload (pc := 436) X24 C at_436 rfl ?_
  refine w_lload (pc := 438) X24 C at_438 rfl ?_
  refine w_callS (pc := 440) X24 C (y := (⟨"com/example/wadesmill/wadesmill/protocol/DecimalParsePinLaw", "step", "([BIIJ)J"⟩ : MethodName)) (bytes := method_3_code) (maxL := 5) (rt := (some .long)) (argsL := [(.ref a2), (.int (tt - (18 : Int32))), (.int fi), (.long t17)]) (rest := []) (W := 0) at_440 (List.mem_of_getElem? (i := 25) rfl) (List.mem_of_getElem? (i := 26) rfl) (List.mem_of_getElem? (i := 3) rfl) (List.mem_of_getElem? (i := 27) rfl) (by decide) (ct2 l C.2.2.2.2.2.2.2.2 _ X24.size (a2) ((tt - (18 : Int32))) (fi) (t17) g24 A24 (own_in fi tt kk (18 : Int32) 18 rfl htt (by omega) hk (by omega)) hb2) rfl ⟨_, _, pd_0, rfl⟩ rfl (Nat.le_of_eq rfl) (by decide) (by decide) (by decide) (by decide) (fun v_25 T25 P25 X25 => ?_)
  obtain ⟨rfl, K25, A25⟩ := P25
  obtain ⟨g25, hg25⟩ : ∃ z, z = (if (tt - (18 : Int32)) < fi then g24 else up g24 (nt (tt - (18 : Int32))) (i8 (i8 ((48 : Int32) - (t17 % (10 : Int64)).toInt32)))) := ⟨_, rfl⟩
  rw [← hg25] at A25
  have hq18 : g25 = (if nt kk < 18 then g24 else up g24 (nt tt - 18) (own_dg Mn 17)) := hg25.trans (own_conv fi tt kk (18 : Int32) 18 t17 Mn _ rfl htt (by omega) hk (by omega) ht17)
  obtain ⟨t18, e_t18⟩ : ∃ z, z = (t17 / (10 : Int64)) := ⟨_, rfl⟩
  rw [← e_t18]
  have ht18 : t18.toInt = -((Mn / 10 ^ 18 : Nat) : Int) := by rw [e_t18]; exact own_div t17 Mn 17 ht17
  refine w_lstore (pc := 443) X25 C at_443 #[.val (.long x0), .second, .val (.int x1), .val (.int x2), .val (.int x3), .val (.int x4), .val (.int x5), .val (.int kk), .val (.int o), .val (.long mm), .second, .val (.long r), .second, .val (.int (0 : Int32)), .val (.long (-r)), .second, .val (.ref a2), .val (.int fi), .val (.int tt), .val (.long t18), .second] rfl ?_
  refine w_aload (pc := 445) X25 C at_445 rfl rfl ?_
  refine w_iload (pc := 447) X25 C at_447 rfl ?_
  refine w_bipush (pc := 449) X25 C at_449 (19 : Int32) rfl ?_
  refine w_isub (pc := 451) X25 C at_451 ?_
  refine w_iload (pc := 452) X25 C at_452 rfl ?_
  refine w_lload (pc := 454) X25 C at_454 rfl ?_
  refine w_callS (pc := 456) X25 C (y := (⟨"com/example/wadesmill/wadesmill/protocol/DecimalParsePinLaw", "step", "([BIIJ)J"⟩ : MethodName)) (bytes := method_3_code) (maxL := 5) (rt := (some .long)) (argsL := [(.ref a2), (.int (tt - (19 : Int32))), (.int fi), (.long t18)]) (rest := []) (W := 0) at_456 (List.mem_of_getElem? (i := 25) rfl) (List.mem_of_getElem? (i := 26) rfl) (List.mem_of_getElem? (i := 3) rfl) (List.mem_of_getElem? (i := 27) rfl) (by decide) (ct2 l C.2.2.2.2.2.2.2.2 _ X25.size (a2) ((tt - (19 : Int32))) (fi) (t18) g25 A25 (own_in fi tt kk (19 : Int32) 19 rfl htt (by omega) hk (by omega)) hb2) rfl ⟨_, _, pd_0, rfl⟩ rfl (Nat.le_of_eq rfl) (by decide) (by decide) (by decide) (by decide) (fun v_26 T26 P26 X26 => ?_)
  obtain ⟨rfl, K26, A26⟩ := P26
  obtain ⟨g26, hg26⟩ : ∃ z, z = (if (tt - (19 : Int32)) < fi then g25 else up g25 (nt (tt - (19 : Int32))) (i8 (i8 ((48 : Int32) - (t18 % (10 : Int64)).toInt32)))) := ⟨_, rfl⟩
  rw [← hg26] at A26
  have hq19 : g26 = (if nt kk < 19 then g25 else up g25 (nt tt - 19) (own_dg Mn 18)) := hg26.trans (own_conv fi tt kk (19 : Int32) 19 t18 Mn _ rfl htt (by omega) hk (by omega) ht18)
  have hG : g26 = own_gs g5 (nt kk) (nt tt) Mn 19 := by rw [hq19, hq18, hq17, hq16, hq15, hq14, hq13, hq12, hq11, hq10, hq9, hq8, hq7, hq6, hq5, hq4, hq3, hq2, hq1]; rfl
  obtain ⟨t19, e_t19⟩ : ∃ z, z = (t18 / (10 : Int64)) := ⟨_, rfl⟩
  rw [← e_t19]
  have ht19 : t19.toInt = -((Mn / 10 ^ 19 : Nat) : Int) := by rw [e_t19]; exact own_div t18 Mn 18 ht18
  refine w_lstore (pc := 459) X26 C at_459 #[.val (.long x0), .second, .val (.int x1), .val (.int x2), .val (.int x3), .val (.int x4), .val (.int x5), .val (.int kk), .val (.int o), .val (.long mm), .second, .val (.long r), .second, .val (.int (0 : Int32)), .val (.long (-r)), .second, .val (.ref a2), .val (.int fi), .val (.int tt), .val (.long t19), .second] rfl ?_
  refine w_aload (pc := 461) X26 C at_461 rfl rfl ?_
  refine w_iload (pc := 463) X26 C at_463 rfl ?_
  refine w_iload (pc := 465) X26 C at_465 rfl ?_
  refine w_i2b (pc := 467) X26 C at_467 ?_
  have b_27 : 0 ≤ (tt).toInt ∧ (tt).toInt < 25 := by omega
  refine w_bastore (pc := 468) X26 C at_468 A26 (nt tt) (nt_eq b_27.1) (nt_lt b_27.2 (by omega)) hb2 (fun T28 h28 X28 W28 A28 => ?_)
  obtain ⟨g28, hg28⟩ : ∃ z, z = up g26 (nt tt) (i8 (i8 x5)) := ⟨_, rfl⟩
  rw [← hg28] at A28
  refine w_aload (pc := 469) X28 C at_469 rfl rfl ?_
  refine w_iload (pc := 471) X28 C at_471 rfl ?_
  refine w_iconst (pc := 473) X28 C at_473 (1 : Int32) rfl ?_
  refine w_iadd (pc := 474) X28 C at_474 ?_
  refine w_iload (pc := 475) X28 C at_475 rfl ?_
  refine w_bipush (pc := 477) X28 C at_477 (8 : Int32) rfl ?_
  refine w_ishr (pc := 479) X28 C at_479 ?_
  refine w_i2b (pc := 480) X28 C at_480 ?_
  have e_29 := add1 (x := tt) (1 : Int32) 1 rfl (by omega) (by omega)
  have b_30 : 0 ≤ ((tt + (1 : Int32))).toInt ∧ ((tt + (1 : Int32))).toInt < 25 := by omega
  refine w_bastore (pc := 481) X28 C at_481 A28 (nt (tt + (1 : Int32))) (nt_eq b_30.1) (nt_lt b_30.2 (by omega)) hb2 (fun T31 h31 X31 W31 A31 => ?_)
  obtain ⟨g31, hg31⟩ : ∃ z, z = up g28 (nt (tt + (1 : Int32))) (i8 (i8 (shrI x5 (8 : Int32)))) := ⟨_, rfl⟩
  rw [← hg31] at A31
  refine w_aload (pc := 482) X31 C at_482 rfl rfl ?_
  refine w_iload (pc := 484) X31 C at_484 rfl ?_
  refine w_iload (pc := 486) X31 C at_486 rfl ?_
  have hF : g31 = up (up (own_gs g5 (nt kk) (nt tt) Mn 19) (nt tt) (i8 (i8 x5))) (nt (tt + (1 : Int32))) (i8 (i8 (shrI x5 (8 : Int32)))) := by rw [hg31, hg28, hG]
  have hat := own_gat g31 g5 tt kk fi Mn _ _ hF htt (by omega) hk
  have hmin : ¬ (g31 (nt o) = (45 : Int32)) := own_pls g31 tt kk fi o Mn hat htt hfi (by omega) hk
  refine w_callS (pc := 488) X31 C (y := (⟨"com/example/wadesmill/wadesmill/protocol/Decimal", "parse", "([BII)J"⟩ : MethodName)) (bytes := prog_14_method_3_code) (maxL := 11) (rt := (some .long)) (argsL := [(.ref a2), (.int o), (.int tt)]) (rest := []) (W := 0) at_488 (List.mem_of_getElem? (i := 28) rfl) (List.mem_of_getElem? (i := 29) rfl) (List.mem_of_getElem? (i := 30) rfl) (List.mem_of_getElem? (i := 31) rfl) (by decide) (ct3_pos l C.2.2.2.2.2.2.2.2 _ X31.size (a2) (o) (tt) g31 (own_acc (nt fi) (nt tt) Mn) r A31 (by omega) (by omega) (by omega) hmin (fun j a b => own_hdig g31 tt kk fi Mn hat htt (by omega) hk j (by omega) b) (fun j a b => own_hstep g31 tt kk fi Mn hat htt (by omega) hk j (by omega) b) (fun j a b => own_hlimp tt kk fi Mn r hM2 hr hrne htt (by omega) hk j (by omega) b) (own_hac0 (nt fi) (nt tt) Mn _ (by unfold nt; omega)) (own_hfin tt kk fi Mn r hr htt (by omega) hk)) rfl ⟨_, _, pd_1, rfl⟩ rfl (Nat.le_of_eq rfl) (by decide) (by decide) (by decide) (by decide) (fun v_32 T32 P32 X32 => ?_)
  obtain ⟨rfl, e32⟩ := P32
  rw [e32] at X32
  refine w_lload (pc := 491) X32 C at_491 rfl ?_
  refine w_lcmp (pc := 493) X32 C at_493 ?_
  refine w_ifJ_ne (pc := 494) X32 C at_494 501 (by decide) (fun q33 => absurd (rfl) q33) (fun q33 => ?_)
  refine w_iconst (pc := 497) X32 C at_497 (1 : Int32) rfl ?_
  refine w_goto (pc := 498) X32 C at_498 502 (by decide) ?_
  exact w_ret_boolean (pc := 502) X32 C at_502 rfl
set_option maxRecDepth 65536 in
set_option maxHeartbeats 40000000 in
theorem law_walk {p : Program} {l : Launch} {e : Env} {s : State} {m : MethodId} {args : Array Value} {below : List Frame} {meth : Method} {c : Code} {T : State} {h : Heap} {n0 : Nat} {Z : State} {a0 : Array Value} (X : Hr p l e room_1 s m args below meth c n0 h 0 0 T) (C : Cx p s m meth c code maxLocals ret "com/example/wadesmill/wadesmill/protocol/DecimalParsePinLaw" "law" Z a0 tables_1) (x0 : Int64) (x1 : Int32) (x2 : Int32) (x3 : Int32) (x4 : Int32) (x5 : Int32) : Goes p e below s n0 (fun v _ => v = some (.int 1)) room_1.cells room_1.slots T (mkF m 0 #[.val (.long x0), .second, .val (.int x1), .val (.int x2), .val (.int x3), .val (.int x4), .val (.int x5), .unset, .unset, .unset, .unset, .unset, .unset, .unset, .unset, .unset, .unset, .unset, .unset, .unset, .unset] []) := by
  refine w_iconst (pc := 0) X C at_0 (1 : Int32) rfl ?_
  refine w_iloadN (pc := 1) X C at_1 rfl ?_
  refine w_ldcI (pc := 2) X C at_2 (v := (2147483647 : Int32)) (List.mem_of_getElem? (i := 0) rfl) ?_
  refine w_iand (pc := 4) X C at_4 ?_
  refine w_bipush (pc := 5) X C at_5 (19 : Int32) rfl ?_
  refine w_irem (pc := 7) X C at_7 (by decide) ?_
  refine w_iadd (pc := 8) X C at_8 ?_
  obtain ⟨kk, e_kk⟩ : ∃ z, z = ((1 : Int32) + ((x1 &&& (2147483647 : Int32)) % (19 : Int32))) := ⟨_, rfl⟩
  rw [← e_kk]
  have hk : 1 ≤ kk.toInt ∧ kk.toInt ≤ 19 := by rw [e_kk]; exact own_m19 _
  refine w_istore (pc := 9) X C at_9 #[.val (.long x0), .second, .val (.int x1), .val (.int x2), .val (.int x3), .val (.int x4), .val (.int x5), .val (.int kk), .unset, .unset, .unset, .unset, .unset, .unset, .unset, .unset, .unset, .unset, .unset, .unset, .unset] rfl ?_
  refine w_iload (pc := 11) X C at_11 rfl ?_
  refine w_iconst (pc := 13) X C at_13 (3 : Int32) rfl ?_
  refine w_iand (pc := 14) X C at_14 ?_
  obtain ⟨o, e_o⟩ : ∃ z, z = (x3 &&& (3 : Int32)) := ⟨_, rfl⟩
  rw [← e_o]
  have ho : 0 ≤ o.toInt ∧ o.toInt ≤ 3 := by rw [e_o]; exact c_and _ (3 : Int32) (by decide)
  refine w_istore (pc := 15) X C at_15 #[.val (.long x0), .second, .val (.int x1), .val (.int x2), .val (.int x3), .val (.int x4), .val (.int x5), .val (.int kk), .val (.int o), .unset, .unset, .unset, .unset, .unset, .unset, .unset, .unset, .unset, .unset, .unset, .unset] rfl ?_
  refine w_lloadN (pc := 17) X C at_17 rfl ?_
  refine w_lconst (pc := 18) X C at_18 (0 : Int64) rfl ?_
  refine w_lcmp (pc := 19) X C at_19 ?_
  suffices key2 : Goes p e below s n0 (fun v _ => v = some (.int 1)) room_1.cells room_1.slots T (mkF m 29 #[.val (.long x0), .second, .val (.int x1), .val (.int x2), .val (.int x3), .val (.int x4), .val (.int x5), .val (.int kk), .val (.int o), .unset, .unset, .unset, .unset, .unset, .unset, .unset, .unset, .unset, .unset, .unset, .unset] [(.long (if x0 < (0 : Int64) then x0 else (-x0)))]) by
    refine w_ifJ_ge (pc := 20) X C at_20 27 (by decide) (fun q1 => ?_) (fun q1 => ?_)
    · skip
      refine w_lloadN (pc := 27) X C at_27 rfl ?_
      refine w_lneg (pc := 28) X C at_28 ?_
      first | (rw [if_neg q1] at key2; exact key2) | (rw [if_neg q1] at key2 ⊢; exact key2)
    · skip
      refine w_lloadN (pc := 23) X C at_23 rfl ?_
      refine w_goto (pc := 24) X C at_24 29 (by decide) ?_
      first | (rw [if_pos q1] at key2; exact key2) | (rw [if_pos q1] at key2 ⊢; exact key2)
  obtain ⟨mm, e_mm⟩ : ∃ z, z = (if x0 < (0 : Int64) then x0 else (-x0)) := ⟨_, rfl⟩
  rw [← e_mm]
  obtain ⟨Mn, hM, hM2⟩ := own_abs x0 mm e_mm
  refine w_lstore (pc := 29) X C at_29 #[.val (.long x0), .second, .val (.int x1), .val (.int x2), .val (.int x3), .val (.int x4), .val (.int x5), .val (.int kk), .val (.int o), .val (.long mm), .second, .unset, .unset, .unset, .unset, .unset, .unset, .unset, .unset, .unset, .unset] rfl ?_
  refine w_iload (pc := 31) X C at_31 rfl ?_
  refine w_bipush (pc := 33) X C at_33 (19 : Int32) rfl ?_
  refine w_icmp_ne (pc := 35) X C at_35 43 (by decide) (fun q3 => ?_) (fun q3 => ?_)
  · -- yes
    refine w_lload (pc := 43) X C at_43 rfl ?_
    refine w_iload (pc := 45) X C at_45 rfl ?_
    refine w_callS (pc := 47) X C (y := (⟨"com/example/wadesmill/wadesmill/protocol/DecimalParsePinLaw", "pow10", "(I)J"⟩ : MethodName)) (bytes := method_2_code) (maxL := 2) (rt := (some .long)) (argsL := [(.int kk)]) (rest := [(.long mm)]) (W := 2) at_47 (List.mem_of_getElem? (i := 1) rfl) (List.mem_of_getElem? (i := 2) rfl) (List.mem_of_getElem? (i := 3) rfl) (List.mem_of_getElem? (i := 4) rfl) (by decide) (ct1 l C.2.2.2.2.2.2.2.2 _ X.size (kk) (own_k18 kk hk q3)) rfl ⟨_, _, pd_2, rfl⟩ rfl (Nat.le_of_eq rfl) (by decide) (by decide) (by decide) (by decide) (fun v_4 T4 P4 X4 => ?_)
    obtain ⟨rfl, K4⟩ := P4
    refine w_lrem (pc := 50) X4 C at_50 (own_pwn kk hk q3) ?_
    obtain ⟨r, e_r⟩ : ∃ z, z = (mm % (own_pw (nt kk))) := ⟨_, rfl⟩
    rw [← e_r]
    have hr : r.toInt = -((Mn % 10 ^ (nt kk) : Nat) : Int) := own_rk r mm Mn kk e_r hM hk q3
    refine w_lstore (pc := 51) X4 C at_51 #[.val (.long x0), .second, .val (.int x1), .val (.int x2), .val (.int x3), .val (.int x4), .val (.int x5), .val (.int kk), .val (.int o), .val (.long mm), .second, .val (.long r), .second, .unset, .unset, .unset, .unset, .unset, .unset, .unset, .unset] rfl ?_
    refine w_iloadN (pc := 53) X4 C at_53 rfl ?_
    refine w_iconst (pc := 54) X4 C at_54 (1 : Int32) rfl ?_
    refine w_iand (pc := 55) X4 C at_55 ?_
    refine w_if_ne (pc := 56) X4 C at_56 68 (by decide) (fun q5 => ?_) (fun q5 => ?_)
    · -- yes
      refine w_iconst (pc := 68) X4 C at_68 (1 : Int32) rfl ?_
      refine w_goto (pc := 69) X4 C at_69 73 (by decide) ?_
      refine w_istore (pc := 73) X4 C at_73 #[.val (.long x0), .second, .val (.int x1), .val (.int x2), .val (.int x3), .val (.int x4), .val (.int x5), .val (.int kk), .val (.int o), .val (.long mm), .second, .val (.long r), .second, .val (.int (1 : Int32)), .unset, .unset, .unset, .unset, .unset, .unset, .unset] rfl ?_
      exact law_tail1 X4 C x0 x1 x2 x3 x4 x5 kk o mm r Mn hk ho hM hM2 hr
    · -- no
      refine w_lload (pc := 59) X4 C at_59 rfl ?_
      refine w_ldcJ (pc := 61) X4 C at_61 (v := (-9223372036854775808 : Int64)) (List.mem_of_getElem? (i := 34) rfl) ?_
      refine w_lcmp (pc := 64) X4 C at_64 ?_
      refine w_ifJ_ne (pc := 65) X4 C at_65 72 (by decide) (fun q6 => ?_) (fun q6 => ?_)
      · -- yes
        refine w_iconst (pc := 72) X4 C at_72 (0 : Int32) rfl ?_
        refine w_istore (pc := 73) X4 C at_73 #[.val (.long x0), .second, .val (.int x1), .val (.int x2), .val (.int x3), .val (.int x4), .val (.int x5), .val (.int kk), .val (.int o), .val (.long mm), .second, .val (.long r), .second, .val (.int (0 : Int32)), .unset, .unset, .unset, .unset, .unset, .unset, .unset] rfl ?_
        exact law_tail0 X4 C x0 x1 x2 x3 x4 x5 kk o mm r Mn hk ho hM hM2 hr q6
      · -- no
        refine w_iconst (pc := 68) X4 C at_68 (1 : Int32) rfl ?_
        refine w_goto (pc := 69) X4 C at_69 73 (by decide) ?_
        refine w_istore (pc := 73) X4 C at_73 #[.val (.long x0), .second, .val (.int x1), .val (.int x2), .val (.int x3), .val (.int x4), .val (.int x5), .val (.int kk), .val (.int o), .val (.long mm), .second, .val (.long r), .second, .val (.int (1 : Int32)), .unset, .unset, .unset, .unset, .unset, .unset, .unset] rfl ?_
        exact law_tail1 X4 C x0 x1 x2 x3 x4 x5 kk o mm r Mn hk ho hM hM2 hr
  · -- no
    refine w_lload (pc := 38) X C at_38 rfl ?_
    refine w_goto (pc := 40) X C at_40 51 (by decide) ?_
    replace X := X.more
    refine w_lstore (pc := 51) X C at_51 #[.val (.long x0), .second, .val (.int x1), .val (.int x2), .val (.int x3), .val (.int x4), .val (.int x5), .val (.int kk), .val (.int o), .val (.long mm), .second, .val (.long mm), .second, .unset, .unset, .unset, .unset, .unset, .unset, .unset, .unset] rfl ?_
    suffices key_r : ∀ r : Int64, r = mm → Goes p e below s n0 (fun v _ => v = some (.int 1)) room_1.cells room_1.slots T (mkF m 53 #[.val (.long x0), .second, .val (.int x1), .val (.int x2), .val (.int x3), .val (.int x4), .val (.int x5), .val (.int kk), .val (.int o), .val (.long mm), .second, .val (.long r), .second, .unset, .unset, .unset, .unset, .unset, .unset, .unset, .unset] []) from key_r _ rfl
    intro r e_r
    have hr : r.toInt = -((Mn % 10 ^ (nt kk) : Nat) : Int) := own_r19 r mm Mn kk e_r hM hM2 q3
    refine w_iloadN (pc := 53) X C at_53 rfl ?_
    refine w_iconst (pc := 54) X C at_54 (1 : Int32) rfl ?_
    refine w_iand (pc := 55) X C at_55 ?_
    refine w_if_ne (pc := 56) X C at_56 68 (by decide) (fun q7 => ?_) (fun q7 => ?_)
    · -- yes
      refine w_iconst (pc := 68) X C at_68 (1 : Int32) rfl ?_
      refine w_goto (pc := 69) X C at_69 73 (by decide) ?_
      refine w_istore (pc := 73) X C at_73 #[.val (.long x0), .second, .val (.int x1), .val (.int x2), .val (.int x3), .val (.int x4), .val (.int x5), .val (.int kk), .val (.int o), .val (.long mm), .second, .val (.long r), .second, .val (.int (1 : Int32)), .unset, .unset, .unset, .unset, .unset, .unset, .unset] rfl ?_
      exact law_tail1 X C x0 x1 x2 x3 x4 x5 kk o mm r Mn hk ho hM hM2 hr
    · -- no
      refine w_lload (pc := 59) X C at_59 rfl ?_
      refine w_ldcJ (pc := 61) X C at_61 (v := (-9223372036854775808 : Int64)) (List.mem_of_getElem? (i := 34) rfl) ?_
      refine w_lcmp (pc := 64) X C at_64 ?_
      refine w_ifJ_ne (pc := 65) X C at_65 72 (by decide) (fun q8 => ?_) (fun q8 => ?_)
      · -- yes
        refine w_iconst (pc := 72) X C at_72 (0 : Int32) rfl ?_
        refine w_istore (pc := 73) X C at_73 #[.val (.long x0), .second, .val (.int x1), .val (.int x2), .val (.int x3), .val (.int x4), .val (.int x5), .val (.int kk), .val (.int o), .val (.long mm), .second, .val (.long r), .second, .val (.int (0 : Int32)), .unset, .unset, .unset, .unset, .unset, .unset, .unset] rfl ?_
        exact law_tail0 X C x0 x1 x2 x3 x4 x5 kk o mm r Mn hk ho hM hM2 hr q8
      · -- no
        refine w_iconst (pc := 68) X C at_68 (1 : Int32) rfl ?_
        refine w_goto (pc := 69) X C at_69 73 (by decide) ?_
        refine w_istore (pc := 73) X C at_73 #[.val (.long x0), .second, .val (.int x1), .val (.int x2), .val (.int x3), .val (.int x4), .val (.int x5), .val (.int kk), .val (.int o), .val (.long mm), .second, .val (.long r), .second, .val (.int (1 : Int32)), .unset, .unset, .unset, .unset, .unset, .unset, .unset] rfl ?_
        exact law_tail1 X C x0 x1 x2 x3 x4 x5 kk o mm r Mn hk ho hM hM2 hr
set_option maxRecDepth 65536 in
theorem law_ct (l : Launch) {Z : State} {a0 : Array Value} (hw : ∀ d ∈ tables_1, d.before a0 Z = true) (h : Heap) {n0 : Nat} (hn : n0 ≤ h.size) (x0 : Int64) (x1 : Int32) (x2 : Int32) (x3 : Int32) (x4 : Int32) (x5 : Int32) : Ct l x code maxLocals ret room_1 Z #[(.long x0), (.int x1), (.int x2), (.int x3), (.int x4), (.int x5)] h n0 (fun v _ => v = some (.int 1)) :=
  Ct.of (plainFor_of_name pn_0) #[.val (.long x0), .second, .val (.int x1), .val (.int x2), .val (.int x3), .val (.int x4), .val (.int x5), .unset, .unset, .unset, .unset, .unset, .unset, .unset, .unset, .unset, .unset, .unset, .unset, .unset, .unset] (fun m => by first | (simp [entryFrame, mkF, argsToLocals, Value.category, maxLocals]; done) | rfl) hw hn (fun p e s m below meth c T C X => law_walk X C x0 x1 x2 x3 x4 x5)
set_option maxRecDepth 65536 in
set_option maxHeartbeats 40000000 in
theorem comes_1 {Post : Tables → Env → Array Value → State → Outcome → State → Prop} (hpost : ∀ tb e args s v u, (limb_1_1.after args s (.returned v) u = true ∧ limb_1_2.after args s (.returned v) u = true ∧ True) → FrameEnd s (.returned v) u (Jvm.fieldLocs frame_1_writes args s ++ Jvm.arrayLocs frame_1_arrays args s ++ Jvm.staticLocs frame_1_statics s) 16 192 → Post tb e args s (.returned v) u) :
    ArmFor flags0 classFile x code maxLocals ret World_1 tables_1 room_1 Calls_1 rest_1 Pre_1 Post := by
  intro l hfl _ _ p e ha hc hk s m args below hf hA hF happ hP
  obtain ⟨hcalls, hrest, hpre⟩ := hP
  obtain ⟨-, -, -, hnamed, -, -, -, hat⟩ := (Spec.applies_iff hf).mp happ
  obtain ⟨hg, hn⟩ := and_e (Cond.before_iff.mp (show (Jvm.Cond.and given_1 narrow_1).before args s = true from hpre))
  obtain ⟨g1, g2⟩ := and_e hg
  obtain ⟨g3, g4⟩ := and_e g2
  obtain ⟨g5, g6⟩ := and_e g4
  obtain ⟨g7, g8⟩ := and_e g6
  obtain ⟨g9, g10⟩ := and_e g8
  obtain ⟨g11, g12⟩ := and_e g10
  obtain ⟨w0, w1, w2, w3, w4, w5, rfl⟩ : ∃ w0 w1 w2 w3 w4 w5 : Value, args = #[w0, w1, w2, w3, w4, w5] := by
    have hs : args.size = 6 := by simpa [Cond.value, given_1] using g1
    obtain ⟨L⟩ := args
    match L, hs with
    | [w0, w1, w2, w3, w4, w5], _ => exact ⟨w0, w1, w2, w3, w4, w5, rfl⟩
  have hw := fun d (hd : d ∈ tables_1) => atoms_spec (ws := Jvm.Cond.code x code maxLocals ret :: tables_1) hat d (List.mem_cons_of_mem _ hd)
  obtain ⟨i0, ei0⟩ := isL_v g3
  obtain rfl : w0 = (.long i0) := Option.some.inj ei0
  obtain ⟨i1, ei1⟩ := is_v g5
  obtain rfl : w1 = (.int i1) := Option.some.inj ei1
  obtain ⟨i2, ei2⟩ := is_v g7
  obtain rfl : w2 = (.int i2) := Option.some.inj ei2
  obtain ⟨i3, ei3⟩ := is_v g9
  obtain rfl : w3 = (.int i3) := Option.some.inj ei3
  obtain ⟨i4, ei4⟩ := is_v g11
  obtain rfl : w4 = (.int i4) := Option.some.inj ei4
  obtain ⟨i5, ei5⟩ := is_v g12
  obtain rfl : w5 = (.int i5) := Option.some.inj ei5
  obtain ⟨n, o, h1, h2, h3, _, L, rfl, ⟨N, rfl⟩, hq⟩ := law_ct l hw s.heap (Nat.le_refl _) i0 i1 i2 i3 i4 i5 tables_1 p e ha hc hk s m _ below hf ((Spec.applies_iff_loose hf).mp happ).1 ⟨rfl, State.Warmed39.refl s, rfl⟩ trivial
  refine ⟨n, _, h1, h2, h3, hpost _ _ _ _ _ _ ⟨Cond.after_iff.mpr rfl, Cond.after_iff.mpr (eq_i res_at (Term.int_eval (1)) rfl), trivial⟩ ⟨hq.1, hq.2.1, (hq.2.2.sift fun y hy => Or.inr (N y hy)).mono (by decide) (by decide)⟩⟩
theorem main_1_1 : Claimed_1_1 := comes_1 fun _ _ _ _ _ _ h hF => ⟨h.1, hF⟩
theorem main_1_2 : Claimed_1_2 := comes_1 fun _ _ _ _ _ _ h hF => ⟨h.2.1, hF⟩
end Jvm.Pilot.@@N@@
namespace Jvm.Pilot.@@N@@
open Jvm Jvm.ClassFile Sem Op Lib Jvm.Free Jvm.Stand Jvm.Pilot.@@N@@.Jvm.D
/-! MADE BY PROGRAM (witnessworld.py) out of the Statement's table words and the real class files: 11 classes; the members and pool entries that the words name. The judged class is class 1, her method 3. -/
namespace start1
open Jvm.ClassFile
def u (s : String) : CpInfo := .utf8 (stringToUtf16 s)
/-- a pool by its gaps: so many unusable entries, then the entry; so many at the end -/
def gap : Nat → List CpInfo → List CpInfo
  | 0, r => r
  | n + 1, r => .unusable :: gap n r
def poolList (es : List (Nat × CpInfo)) (last : Nat) : List CpInfo := es.foldr (fun e r => gap e.1 (e.2 :: r)) (gap last [])
def pool (es : List (Nat × CpInfo)) (last : Nat) : Array CpInfo := ⟨poolList es last⟩
def fileOf (pool : Array CpInfo) (this : Nat) (attrs : Array Attribute := #[]) (ms : Array MethodInfo := #[]) (fl : Nat := 33) (sup : Nat := 0) (ifs : Array Nat := #[]) (fds : Array FieldInfo := #[]) : ClassFile where
  minorVersion := 0
  majorVersion := 65
  constantPool := pool
  accessFlags := fl
  thisClass := this
  superClass := sup
  interfaces := ifs
  fields := fds
  methods := ms
  attributes := attrs
def plain (name : String) (sup : Option ClassId) : Class where
  name := name
  kind := .ordinary
  loader := none
  accessFlags := 33
  super := sup
  interfaces := #[]
  cf := none
  fields := #[]
  methods := #[]
  instanceTypes := #[]
  staticTypes := #[]
  resolved := #[]
  callSites := []
  init := .initialized
  statics := none
  mirror := none

def pool0 : Array CpInfo := pool [(5, u "<init>"), (0, u "()V"), (1, .class_ 10), (1, u "java/lang/Object")] 113

def k0m0 : Method := { name := "<init>", desc := "()V", sig := { parameters := [], returnType := none }, accessFlags := 1, code := none }
/-- java/lang/Object -/
def k0 : Class := { plain "java/lang/Object" none with
  accessFlags := 33
  interfaces := #[]
  cf := some (fileOf pool0 8 #[] #[{ accessFlags := 1, nameIndex := 5, descriptorIndex := 6, attributes := #[] }] 33 0 #[] #[])
  fields := #[]
  methods := #[k0m0]
  instanceTypes := #[]
  staticTypes := #[]
  resolved := Array.replicate 124 none
  statics := none }

def pool1 : Array CpInfo := pool [(2, .class_ 4), (1, u "java/lang/Object"), (0, u "<init>"), (0, u "()V"), (0, .long 10), (1, .long 100), (1, .long 1000), (1, .long 10000), (1, .long 100000), (1, .long 1000000), (1, .long 10000000), (1, .long 100000000), (1, .long 1000000000), (1, .long 10000000000), (1, .long 100000000000), (1, .long 1000000000000), (1, .long 10000000000000), (1, .long 100000000000000), (1, .long 1000000000000000), (1, .long 10000000000000000), (1, .long 100000000000000000), (1, .long 1000000000000000000), (1, .integer 2147483647), (0, .methodref 45 46), (0, .class_ 47), (0, .nameAndType 48 49), (0, u "com/example/wadesmill/wadesmill/protocol/DecimalParsePinLaw"), (0, u "pow10"), (0, u "(I)J"), (2, .long 9223372036854775808), (1, .methodref 45 55), (0, .nameAndType 56 57), (0, u "step"), (0, u "([BIIJ)J"), (0, .methodref 59 60), (0, .class_ 61), (0, .nameAndType 62 63), (0, u "com/example/wadesmill/wadesmill/protocol/Decimal"), (0, u "parse"), (0, u "([BII)J"), (3, u "law"), (0, u "(JIIIII)Z")] 4

def k1m0 : Method := { name := "<init>", desc := "()V", sig := { parameters := [], returnType := none }, accessFlags := 2, code := none }
def k1c1 : Code := { maxStack := 5, maxLocals := 2, code := method_2_code, exceptionTable := #[], attributes := #[] }
def k1m1 : Method := { name := "pow10", desc := "(I)J", sig := { parameters := [.int], returnType := some .long }, accessFlags := 10, code := some k1c1 }
def k1c2 : Code := { maxStack := 7, maxLocals := 5, code := method_3_code, exceptionTable := #[], attributes := #[] }
def k1m2 : Method := { name := "step", desc := "([BIIJ)J", sig := { parameters := [(.array .byte), .int, .int, .long], returnType := some .long }, accessFlags := 10, code := some k1c2 }
def k1c3 : Code := { maxStack := 5, maxLocals := 21, code := code, exceptionTable := #[], attributes := #[] }
def k1m3 : Method := { name := "law", desc := "(JIIIII)Z", sig := { parameters := [.long, .int, .int, .int, .int, .int], returnType := some .boolean }, accessFlags := 9, code := some k1c3 }
/-- com/example/wadesmill/wadesmill/protocol/DecimalParsePinLaw -/
def k1 : Class := { plain "com/example/wadesmill/wadesmill/protocol/DecimalParsePinLaw" (some 0) with
  accessFlags := 49
  interfaces := #[]
  cf := some (fileOf pool1 45 #[] #[{ accessFlags := 2, nameIndex := 5, descriptorIndex := 6, attributes := #[] }, { accessFlags := 10, nameIndex := 48, descriptorIndex := 49, attributes := #[] }, { accessFlags := 10, nameIndex := 56, descriptorIndex := 57, attributes := #[] }, { accessFlags := 9, nameIndex := 67, descriptorIndex := 68, attributes := #[] }] 49 2 #[] #[])
  fields := #[]
  methods := #[k1m0, k1m1, k1m2, k1m3]
  instanceTypes := #[]
  staticTypes := #[]
  resolved := Array.replicate 73 none
  statics := none }

def pool2 : Array CpInfo := pool [(2, .class_ 4), (1, u "java/lang/Object"), (0, u "<init>"), (0, u "()V"), (1, .class_ 10), (1, u "com/example/wadesmill/wadesmill/protocol/Decimal"), (0, u "parse"), (0, u "([BII)J"), (9, .long 9223372036854775808), (1, .long 9223372036854775809), (5, .long 10)] 24

def k2m0 : Method := { name := "<init>", desc := "()V", sig := { parameters := [], returnType := none }, accessFlags := 2, code := none }
def k2c1 : Code := { maxStack := 6, maxLocals := 11, code := prog_14_method_3_code, exceptionTable := #[], attributes := #[] }
def k2m1 : Method := { name := "parse", desc := "([BII)J", sig := { parameters := [(.array .byte), .int, .int], returnType := some .long }, accessFlags := 9, code := some k2c1 }
/-- com/example/wadesmill/wadesmill/protocol/Decimal -/
def k2 : Class := { plain "com/example/wadesmill/wadesmill/protocol/Decimal" (some 0) with
  accessFlags := 49
  interfaces := #[]
  cf := some (fileOf pool2 8 #[] #[{ accessFlags := 2, nameIndex := 5, descriptorIndex := 6, attributes := #[] }, { accessFlags := 9, nameIndex := 11, descriptorIndex := 12, attributes := #[] }] 49 2 #[] #[])
  fields := #[]
  methods := #[k2m0, k2m1]
  instanceTypes := #[]
  staticTypes := #[]
  resolved := Array.replicate 55 none
  statics := none }

def pool3 : Array CpInfo := pool [(1, u "java/lang/Cloneable"), (0, .class_ 1), (0, u "java/lang/Object"), (0, .class_ 3)] 3

/-- java/lang/Cloneable -/
def k3 : Class := { plain "java/lang/Cloneable" (some 0) with
  accessFlags := 1537
  interfaces := #[]
  cf := some (fileOf pool3 2 #[] #[] 1537 4 #[] #[])
  fields := #[]
  methods := #[]
  instanceTypes := #[]
  staticTypes := #[]
  resolved := Array.replicate 8 none
  statics := none }

def pool4 : Array CpInfo := pool [(1, u "java/io/Serializable"), (0, .class_ 1), (0, u "java/lang/Object"), (0, .class_ 3)] 3

/-- java/io/Serializable -/
def k4 : Class := { plain "java/io/Serializable" (some 0) with
  accessFlags := 1537
  interfaces := #[]
  cf := some (fileOf pool4 2 #[] #[] 1537 4 #[] #[])
  fields := #[]
  methods := #[]
  instanceTypes := #[]
  staticTypes := #[]
  resolved := Array.replicate 8 none
  statics := none }

/-- the primitive byte -/
def k5 : Class := { plain "byte" none with kind := .primitive 'B', accessFlags := 0x411 }
/-- [B -/
def k6 : Class := { plain "[B" (some 0) with kind := .array 5 .byte, interfaces := #[3, 4], accessFlags := 1041 }

/-- the primitive int -/
def k7 : Class := { plain "int" none with kind := .primitive 'I', accessFlags := 0x411 }
/-- [I -/
def k8 : Class := { plain "[I" (some 0) with kind := .array 7 .int, interfaces := #[3, 4], accessFlags := 1041 }

/-- the primitive long -/
def k9 : Class := { plain "long" none with kind := .primitive 'J', accessFlags := 0x411 }
/-- [J -/
def k10 : Class := { plain "[J" (some 0) with kind := .array 9 .long, interfaces := #[3, 4], accessFlags := 1041 }

def heap : Heap := #[]
def classes : Array Class := #[k0, k1, k2, k3, k4, k5, k6, k7, k8, k9, k10]
def interned : List (Array UInt16 × Addr) := []
def slotsUsed : Nat := 0
def theMethod : MethodId := ⟨1, 3⟩
def args0 : Array Value := #[.long 5, .int 3, .int 2, .int 4, .int 5, .int 6]
def aboutOver (below : List Frame) : State where
  vm := { classes := classes, interned := interned.toArray }
  heap := heap
  slotsUsed := slotsUsed
  threads := #[{ frames := .invoking theMethod args0 :: below }]
def below0 : List Frame := [.native { method := ⟨0, 0⟩, args := #[] }]
def about1 : State := aboutOver below0
def p0 : Program := .bare "" "" ""
def e0 : Env := launch0.env 0 0 0
theorem w_frames : about1.frames = Frame.invoking theMethod args0 :: below0 := rfl
set_option maxRecDepth 65536 in
theorem w_args : argsFit about1.vm theMethod args0 = true := by decide +kernel
set_option maxRecDepth 65536 in
theorem w_heap : heapFits about1 = true := by decide +kernel
set_option maxRecDepth 65536 in
theorem w_runnable : about1.curStatus? = some .runnable := by decide +kernel
set_option maxRecDepth 65536 in
theorem w_alone : about1.alone = true := by decide +kernel
set_option maxRecDepth 65536 in
theorem w_named : about1.methodNamed? x = some theMethod := by decide +kernel
set_option maxRecDepth 65536 in
theorem w_hears : about1.hears theMethod below0 = true := by decide +kernel
set_option maxRecDepth 65536 in
theorem w_ripe : about1.ripe theMethod args0 below0 = true := by decide +kernel
theorem w_running : about1.status = .running := rfl
set_option maxRecDepth 65536 in
theorem w_room : about1.hasRoom e0.platform room_1 = true :=
  launch0.hasRoom_least _ room_1 (by decide +kernel) (by decide +kernel) (by decide +kernel) (by decide +kernel) (by decide +kernel) (by decide +kernel)
theorem allAtoms_all (ts : List Jvm.Cond) (a : Array Jvm.Value) (st : Jvm.State) : (allAtoms ts).before a st = ts.all (fun c => c.before a st) := by
  induction ts with
  | nil => rfl
  | cons c t ih =>
    show (Jvm.Cond.and c (allAtoms t)).before a st = _
    rw [Jvm.Cond.before_and, ih, List.all_cons]
def words1 : List Jvm.Cond := Jvm.Cond.code x code maxLocals ret :: tables_1
/-- a 'code' word, met by the world's own term for the bytes: nothing is compared byte by byte -/
theorem code_word {y : MethodName} {bytes : ByteArray} {mx : Nat} {rt : Option FieldType} {a : Array Value} {s : State} {m : MethodId} {meth : Method} {c : Code} (h1 : s.methodNamed? y = some m) (h2 : s.vm.method? m = some meth) (h3 : meth.code = some c) (h4 : c.code = bytes)
    (h5 : (c.maxLocals == mx && c.exceptionTable.isEmpty && decide (c.maxStack ≤ mostOperands) && decide (meth.sig.returnType = rt) && !meth.locks && decide (parseMethodDescriptor y.desc = some meth.sig)) = true) : (Jvm.Cond.code y bytes mx rt).before a s = true := by
  simp only [Bool.and_eq_true, beq_iff_eq, Bool.not_eq_true', decide_eq_true_eq] at h5
  obtain ⟨⟨⟨⟨⟨g1, g2⟩, g3⟩, g4⟩, g5⟩, g6⟩ := h5
  simp [Cond.before, Cond.holds, Cond.value, h1, h2, h3, h4, g1, g2, g3, g4, g5, g6]
def isCode : Jvm.Cond → Bool
  | .code _ _ _ _ => true
  | _ => false
theorem all_split {L : List Jvm.Cond} {P : Jvm.Cond → Bool} (h1 : L.all (fun c => isCode c || P c) = true) (h2 : ∀ c ∈ L.filter isCode, P c = true) : L.all P = true := by
  refine List.all_eq_true.mpr fun c hc => ?_
  have h := List.all_eq_true.mp h1 c hc
  rcases Bool.eq_false_or_eq_true (isCode c) with hi | hi
  · exact h2 c (List.mem_filter.mpr ⟨hc, hi⟩)
  · simpa [hi] using h
set_option maxRecDepth 65536 in
theorem w_c0 : (Jvm.Cond.code x code maxLocals ret).before args0 about1 = true := code_word (m := ⟨1, 3⟩) (meth := k1m3) (c := k1c3) (by decide +kernel) rfl rfl rfl (by decide +kernel)
set_option maxRecDepth 65536 in
theorem w_c1 : (Jvm.Cond.code ({ cls := "com/example/wadesmill/wadesmill/protocol/DecimalParsePinLaw", name := "pow10", desc := "(I)J" } : Jvm.MethodName) method_2_code (2 : Nat) (Option.some Jvm.ClassFile.FieldType.long)).before args0 about1 = true := code_word (m := ⟨1, 1⟩) (meth := k1m1) (c := k1c1) (by decide +kernel) rfl rfl rfl (by decide +kernel)
set_option maxRecDepth 65536 in
theorem w_c2 : (Jvm.Cond.code ({ cls := "com/example/wadesmill/wadesmill/protocol/DecimalParsePinLaw", name := "step", desc := "([BIIJ)J" } : Jvm.MethodName) method_3_code (5 : Nat) (Option.some Jvm.ClassFile.FieldType.long)).before args0 about1 = true := code_word (m := ⟨1, 2⟩) (meth := k1m2) (c := k1c2) (by decide +kernel) rfl rfl rfl (by decide +kernel)
set_option maxRecDepth 65536 in
theorem w_c3 : (Jvm.Cond.code ({ cls := "com/example/wadesmill/wadesmill/protocol/Decimal", name := "parse", desc := "([BII)J" } : Jvm.MethodName) prog_14_method_3_code (11 : Nat) (Option.some Jvm.ClassFile.FieldType.long)).before args0 about1 = true := code_word (m := ⟨2, 1⟩) (meth := k2m1) (c := k2c1) (by decide +kernel) rfl rfl rfl (by decide +kernel)
def codes1 : List Jvm.Cond := [Jvm.Cond.code x code maxLocals ret, Jvm.Cond.code ({ cls := "com/example/wadesmill/wadesmill/protocol/DecimalParsePinLaw", name := "pow10", desc := "(I)J" } : Jvm.MethodName) method_2_code (2 : Nat) (Option.some Jvm.ClassFile.FieldType.long), Jvm.Cond.code ({ cls := "com/example/wadesmill/wadesmill/protocol/DecimalParsePinLaw", name := "step", desc := "([BIIJ)J" } : Jvm.MethodName) method_3_code (5 : Nat) (Option.some Jvm.ClassFile.FieldType.long), Jvm.Cond.code ({ cls := "com/example/wadesmill/wadesmill/protocol/Decimal", name := "parse", desc := "([BII)J" } : Jvm.MethodName) prog_14_method_3_code (11 : Nat) (Option.some Jvm.ClassFile.FieldType.long)]
set_option maxRecDepth 65536 in
theorem codes_eq : words1.filter isCode = codes1 := rfl
theorem w_codes : ∀ c ∈ words1.filter isCode, c.before args0 about1 = true := by
  rw [codes_eq]
  intro c hc
  simp only [codes1, List.mem_cons, List.not_mem_nil, or_false] at hc
  rcases hc with rfl | rfl | rfl | rfl
  · exact w_c0
  · exact w_c1
  · exact w_c2
  · exact w_c3
set_option maxRecDepth 65536 in
theorem w_t1 : (words1.take 24).all (fun c => isCode c || c.before args0 about1) = true := by decide +kernel
set_option maxRecDepth 65536 in
theorem w_t2 : (words1.drop 24).all (fun c => isCode c || c.before args0 about1) = true := by decide +kernel
theorem w_tables : (allAtoms (Jvm.Cond.code x code maxLocals ret :: tables_1)).before args0 about1 = true := by
  rw [allAtoms_all]
  show words1.all (fun c => c.before args0 about1) = true
  refine all_split ?_ w_codes
  rw [← List.take_append_drop 24 words1, List.all_append, w_t1, w_t2]
  rfl
set_option maxRecDepth 65536 in
theorem w_case : (Jvm.Cond.and given_1 narrow_1).before args0 about1 = true := by decide +kernel
theorem w_applies : (headSpec (Jvm.Cond.code x code maxLocals ret :: tables_1) room_1).applies x e0.platform about1 = true :=
  (Spec.applies_iff w_frames).mpr ⟨w_running, w_runnable, w_alone, w_named, w_hears, w_ripe, w_room, w_tables⟩
theorem atStart : AtStart classFile x code maxLocals ret World_1 tables_1 room_1 Calls_1 rest_1 Pre_1 launch0 p0 e0 about1 theMethod args0 below0 :=
  ⟨lists_1, trivial, launch0.admits_env _ _ _, launch0.least_env, fairChoices_fair.cas, fairChoices_fair.clock, w_frames, w_args, w_heap, w_applies, trivial, trivial, w_case⟩
end start1
theorem witness_1 : WitnessClaimed_1 := ⟨start1.p0, start1.e0, start1.about1, start1.theMethod, start1.args0, start1.below0, start1.atStart⟩
end Jvm.Pilot.@@N@@
