import JvmDerived
import JvmDerived.Pilot.@@N@@Statement
import JvmDerived.Pilot.@@N@@Code
set_option linter.unusedVariables false
set_option linter.unusedSimpArgs false
namespace Jvm.OwnW
open Sem ClassFile Op Lib Jvm.Stand Jvm.Free Jvm.LawKit Jvm.RoadKit
theorem retI' {p : Program} {l : Launch} {e : Env} {R : Room} {s : State} {m : MethodId} {args : Array Value} {below : List Frame} {meth : Method} {c : Code} {T : State} {locs : List Loc} {cells slots : Nat} (X : Stand p l e R s m args below meth c T locs cells slots) (hx : p.tables.exec = Jvm.exec) {pc : Nat} {Ls : Array Slot} {z : Int32} {rest : List Value} (hret : meth.sig.returnType = some .int) (hd : decode c.code pc = .ok (.ireturn, 1)) {fs : List Frame}
    (hl : ∀ (f : JFrame) (acts : List Action), f.method = m → f.locked = none → f.entered = [] → (doReturn e (T.setTop f) acts (some (.int z))).1 = T.setFrames fs) : Steps p.tables e below (T.setTop (mkF m pc Ls (.int z :: rest))) (T.setFrames fs) :=
  retOut X hx hret rfl (Or.inl ⟨rfl, Or.inl rfl, z, rfl⟩) hd hl
end Jvm.OwnW
namespace Jvm.OwnW
open Sem ClassFile Op Lib Jvm.Stand Jvm.Free Jvm.LawKit Jvm.RoadKit
def ushrI (x y : Int32) : Int32 := (x.toUInt32 >>> (y &&& 31).toUInt32).toInt32
def shlI (x y : Int32) : Int32 := x <<< (y &&& 31)
def shrI (x y : Int32) : Int32 := x >>> (y &&& 31)
def shlJ (x : Int64) (y : Int32) : Int64 := x <<< (y &&& 0x3f).toInt64
def shrJ (x : Int64) (y : Int32) : Int64 := x >>> (y &&& 0x3f).toInt64
def ushrJ (x : Int64) (y : Int32) : Int64 := (x.toUInt64 >>> (y &&& 0x3f).toInt64.toUInt64).toInt64
def cmpJ (x y : Int64) : Int32 := if x > y then 1 else if x = y then 0 else -1
def i8 (x : Int32) : Int32 := x.toInt8.toInt32
def i16c (x : Int32) : Int32 := x.toUInt32.toUInt16.toUInt32.toInt32
/-- from T with g on top the run comes to its end, and P says of what it returns and of the heap -/
def Goes (p : Program) (e : Env) (below : List Frame) (s : State) (n0 : Nat) (P : Option Value → Heap → Prop) (k n : Nat) (T : State) (g : JFrame) : Prop :=
  ∃ s₂ o, Steps p.tables e below (T.setTop g) s₂ ∧ s₂.status = .running ∧ Ended s₂ below o ∧ ∃ v L, o = .returned v ∧ (Fr n0 L ∧ P v s₂.heap) ∧ FrameEnd s o s₂ L k n
/-- where a walk stands: nothing old is written, the heap is h -/
def Hr (p : Program) (l : Launch) (e : Env) (R : Room) (s : State) (m : MethodId) (args : Array Value) (below : List Frame) (meth : Method) (c : Code) (n0 : Nat) (h : Heap) (cells slots : Nat) (T : State) : Prop :=
  ∃ locs, Stand p l e R s m args below meth c T locs cells slots ∧ T.heap = h ∧ Fr n0 locs ∧ n0 ≤ s.heap.size
/-- what stays through a body -/
def Cx (p : Program) (s : State) (m : MethodId) (meth : Method) (c : Code) (code : ByteArray) (ml : Nat) (ret : Option FieldType) (own nm : String) (Z : State) (a0 : Array Value) (tabs : List Jvm.Cond) : Prop :=
  p.tables.exec = Jvm.exec ∧ c.code = code ∧ c.maxLocals = ml ∧ meth.sig.returnType = ret ∧ meth.locks = false ∧ s.vm.findClass own = some m.cls ∧ meth.name = nm ∧ Z.Warmed39 s.vm ∧ ∀ d ∈ tabs, d.before a0 Z = true
/-- a body's contract: called with these arguments at this heap it returns, nothing old is written, and P says the rest -/
def Ct (l : Launch) (y : MethodName) (bytes : ByteArray) (maxL : Nat) (ret : Option FieldType) (rm : Room) (Z : State) (as' : Array Value) (h : Heap) (n0 : Nat) (P : Option Value → Heap → Prop) : Prop :=
  ∀ ws, MetFree l y (head1 (Jvm.Cond.code y bytes maxL ret :: ws) rm) (fun a U => a = as' ∧ Z.Warmed39 U.vm ∧ U.heap = h) (fun _ _ _ _ _ => True) (fun _ U o U' => ∃ v L, o = .returned v ∧ (Fr n0 L ∧ P v U'.heap) ∧ FrameEnd U o U' L rm.cells rm.slots)
def up {α : Type} (g : Nat → α) (j : Nat) (v : α) : Nat → α := fun i => if i = j then v else g i
/-- an array of N places: place i holds f i -/
def ArV (Z : State) (h : Heap) (a : Addr) (ty : FieldType) (N : Nat) (f : Nat → Value) : Prop := ∃ cl : Cell, Arr Z h a cl ty ∧ cl.slots.size = N ∧ ∀ i, i < N → cl.slots[i]? = some (f i)
abbrev ArI (Z : State) (h : Heap) (a : Addr) (ty : FieldType) (N : Nat) (g : Nat → Int32) : Prop := ArV Z h a ty N (fun i => .int (g i))
abbrev ArJ (Z : State) (h : Heap) (a : Addr) (N : Nat) (g : Nat → Int64) : Prop := ArV Z h a .long N (fun i => .long (g i))
/-- an index as a natural number -/
def nt (j : Int32) : Nat := j.toInt.toNat
theorem nt_eq {j : Int32} (h : 0 ≤ j.toInt) : j.toInt = (nt j : Int) := by unfold nt; omega
theorem nt_lt {j : Int32} {N : Nat} (h : j.toInt < N) (h0 : 0 < N) : nt j < N := by unfold nt; omega
theorem add1 {x : Int32} (y : Int32) (d : Int) (hd : y.toInt = d) (h1 : -2147483648 ≤ x.toInt + d) (h2 : x.toInt + d < 2147483648) : (x + y).toInt = x.toInt + d := by
  have h := c_iadd x y
  have r := rng32 (x + y)
  omega
theorem sub1 {x : Int32} (y : Int32) (d : Int) (hd : y.toInt = d) (h1 : -2147483648 ≤ x.toInt - d) (h2 : x.toInt - d < 2147483648) : (x - y).toInt = x.toInt - d := by
  have h := c_isub x y
  have r := rng32 (x - y)
  omega
section W
variable {p : Program} {l : Launch} {e : Env} {R : Room} {s : State} {m : MethodId} {args : Array Value} {below : List Frame} {meth : Method} {c : Code} {T : State} {h h' : Heap} {cells slots : Nat} {n0 : Nat} {P : Option Value → Heap → Prop} {k n : Nat} {code : ByteArray} {ml : Nat} {ret : Option FieldType} {own nm : String} {Z : State} {a0 : Array Value} {tabs : List Jvm.Cond}
theorem Goes.of {g g' : JFrame} {T' : State} (st : ∀ target, Steps p.tables e below (T'.setTop g') target → Steps p.tables e below (T.setTop g) target) (K : Goes p e below s n0 P k n T' g') : Goes p e below s n0 P k n T g := by
  obtain ⟨s₂, o, h1, r⟩ := K
  exact ⟨s₂, o, st _ h1, r⟩
theorem Goes.imp {P' : Option Value → Heap → Prop} {g : JFrame} (hp : ∀ v h, P v h → P' v h) (K : Goes p e below s n0 P k n T g) : Goes p e below s n0 P' k n T g := by
  obtain ⟨s₂, o, h1, h2, h3, v, L, h4, h5, h6⟩ := K
  exact ⟨s₂, o, h1, h2, h3, v, L, h4, ⟨h5.1, hp _ _ h5.2⟩, h6⟩
theorem Ct.imp {y : MethodName} {bytes : ByteArray} {maxL : Nat} {rm : Room} {as' : Array Value} {P' : Option Value → Heap → Prop} (hp : ∀ v h, P v h → P' v h) (K : Ct l y bytes maxL ret rm Z as' h n0 P) : Ct l y bytes maxL ret rm Z as' h n0 P' := by
  intro ws p e ha hc hk s m args below hf happ hP hK
  obtain ⟨n, o, h1, h2, h3, v, L, h4, h5, h6⟩ := K ws p e ha hc hk s m args below hf happ hP hK
  exact ⟨n, o, h1, h2, h3, v, L, h4, ⟨h5.1, hp _ _ h5.2⟩, h6⟩
theorem Hr.size (X : Hr p l e R s m args below meth c n0 h cells slots T) : n0 ≤ h.size := by
  obtain ⟨locs, S, eT, N, q⟩ := X
  have q2 : s.heap.size ≤ T.heap.size := S.same.2.1
  rw [eT] at q2
  exact Nat.le_trans q q2
theorem Ct.of {y : MethodName} {bytes : ByteArray} {maxL : Nat} {rm : Room} {as' : Array Value} (hpl : plainFor y = true) (Ls : Array Slot) (hef : ∀ m, entryFrame m as' maxL = mkF m 0 Ls []) (hw : ∀ d ∈ tabs, d.before a0 Z = true) (hn0 : n0 ≤ h.size)
    (K : ∀ p e s m below meth c T, Cx p s m meth c bytes maxL ret y.cls y.name Z a0 tabs → Hr p l e rm s m as' below meth c n0 h 0 0 T → Goes p e below s n0 P rm.cells rm.slots T (mkF m 0 Ls [])) :
    Ct l y bytes maxL ret rm Z as' h n0 P := by
  intro ws
  refine MetFree.of_bodySF hpl hisR ?_
  intro p e s m args below meth c s₁ Bd hml0 hP hK
  obtain ⟨rfl, hZ, hh⟩ := hP
  obtain ⟨s₂, o, h1, r⟩ := K p e s m below meth c s₁ ⟨Bd.exec, Bd.bytes, hml0, Bd.returns, BodyLoose.notSynchronized Bd, findClass_of_methodNamed Bd.named, (name_of_methodNamed Bd.named Bd.method).1, hZ, hw⟩ ⟨[], Stand.of_body Bd, by rw [← hh, Bd.state]; rfl, Fr.nil n0, by rw [hh]; exact hn0⟩
  exact ⟨s₂, o, castTop (hef m) h1, r⟩

theorem w_iadd (X : Hr p l e R s m args below meth c n0 h cells slots T) (C : Cx p s m meth c code ml ret own nm Z a0 tabs) {pc : Nat} {Ls : Array Slot} {x y : Int32} {rest : List Value} (hd : decode code pc = .ok (.iadd, 1)) (K : Goes p e below s n0 P k n T (mkF m (pc + 1) Ls (.int (x + y) :: rest))) : Goes p e below s n0 P k n T (mkF m pc Ls (.int y :: .int x :: rest)) := by
  obtain ⟨locs, S, -, -, -⟩ := X
  exact Goes.of (fun _ kk => XS.iadd S.here C.1 rfl (hb C.2.1 hd) rfl kk) K
theorem w_isub (X : Hr p l e R s m args below meth c n0 h cells slots T) (C : Cx p s m meth c code ml ret own nm Z a0 tabs) {pc : Nat} {Ls : Array Slot} {x y : Int32} {rest : List Value} (hd : decode code pc = .ok (.isub, 1)) (K : Goes p e below s n0 P k n T (mkF m (pc + 1) Ls (.int (x - y) :: rest))) : Goes p e below s n0 P k n T (mkF m pc Ls (.int y :: .int x :: rest)) := by
  obtain ⟨locs, S, -, -, -⟩ := X
  exact Goes.of (fun _ kk => XS.isub S.here C.1 rfl (hb C.2.1 hd) rfl kk) K
theorem w_imul (X : Hr p l e R s m args below meth c n0 h cells slots T) (C : Cx p s m meth c code ml ret own nm Z a0 tabs) {pc : Nat} {Ls : Array Slot} {x y : Int32} {rest : List Value} (hd : decode code pc = .ok (.imul, 1)) (K : Goes p e below s n0 P k n T (mkF m (pc + 1) Ls (.int (x * y) :: rest))) : Goes p e below s n0 P k n T (mkF m pc Ls (.int y :: .int x :: rest)) := by
  obtain ⟨locs, S, -, -, -⟩ := X
  exact Goes.of (fun _ kk => XS.imul S.here C.1 rfl (hb C.2.1 hd) rfl kk) K
theorem w_iand (X : Hr p l e R s m args below meth c n0 h cells slots T) (C : Cx p s m meth c code ml ret own nm Z a0 tabs) {pc : Nat} {Ls : Array Slot} {x y : Int32} {rest : List Value} (hd : decode code pc = .ok (.iand, 1)) (K : Goes p e below s n0 P k n T (mkF m (pc + 1) Ls (.int (x &&& y) :: rest))) : Goes p e below s n0 P k n T (mkF m pc Ls (.int y :: .int x :: rest)) := by
  obtain ⟨locs, S, -, -, -⟩ := X
  exact Goes.of (fun _ kk => XS.iand S.here C.1 rfl (hb C.2.1 hd) rfl kk) K
theorem w_ior (X : Hr p l e R s m args below meth c n0 h cells slots T) (C : Cx p s m meth c code ml ret own nm Z a0 tabs) {pc : Nat} {Ls : Array Slot} {x y : Int32} {rest : List Value} (hd : decode code pc = .ok (.ior, 1)) (K : Goes p e below s n0 P k n T (mkF m (pc + 1) Ls (.int (x ||| y) :: rest))) : Goes p e below s n0 P k n T (mkF m pc Ls (.int y :: .int x :: rest)) := by
  obtain ⟨locs, S, -, -, -⟩ := X
  exact Goes.of (fun _ kk => XS.ior S.here C.1 rfl (hb C.2.1 hd) rfl kk) K
theorem w_ixor (X : Hr p l e R s m args below meth c n0 h cells slots T) (C : Cx p s m meth c code ml ret own nm Z a0 tabs) {pc : Nat} {Ls : Array Slot} {x y : Int32} {rest : List Value} (hd : decode code pc = .ok (.ixor, 1)) (K : Goes p e below s n0 P k n T (mkF m (pc + 1) Ls (.int (x ^^^ y) :: rest))) : Goes p e below s n0 P k n T (mkF m pc Ls (.int y :: .int x :: rest)) := by
  obtain ⟨locs, S, -, -, -⟩ := X
  exact Goes.of (fun _ kk => XS.ixor S.here C.1 rfl (hb C.2.1 hd) rfl kk) K
theorem w_ishl (X : Hr p l e R s m args below meth c n0 h cells slots T) (C : Cx p s m meth c code ml ret own nm Z a0 tabs) {pc : Nat} {Ls : Array Slot} {x y : Int32} {rest : List Value} (hd : decode code pc = .ok (.ishl, 1)) (K : Goes p e below s n0 P k n T (mkF m (pc + 1) Ls (.int (shlI x y) :: rest))) : Goes p e below s n0 P k n T (mkF m pc Ls (.int y :: .int x :: rest)) := by
  obtain ⟨locs, S, -, -, -⟩ := X
  exact Goes.of (fun _ kk => XS.ishl S.here C.1 rfl (hb C.2.1 hd) rfl kk) K
theorem w_ishr (X : Hr p l e R s m args below meth c n0 h cells slots T) (C : Cx p s m meth c code ml ret own nm Z a0 tabs) {pc : Nat} {Ls : Array Slot} {x y : Int32} {rest : List Value} (hd : decode code pc = .ok (.ishr, 1)) (K : Goes p e below s n0 P k n T (mkF m (pc + 1) Ls (.int (shrI x y) :: rest))) : Goes p e below s n0 P k n T (mkF m pc Ls (.int y :: .int x :: rest)) := by
  obtain ⟨locs, S, -, -, -⟩ := X
  exact Goes.of (fun _ kk => XS.ishr S.here C.1 rfl (hb C.2.1 hd) rfl kk) K
theorem w_iushr (X : Hr p l e R s m args below meth c n0 h cells slots T) (C : Cx p s m meth c code ml ret own nm Z a0 tabs) {pc : Nat} {Ls : Array Slot} {x y : Int32} {rest : List Value} (hd : decode code pc = .ok (.iushr, 1)) (K : Goes p e below s n0 P k n T (mkF m (pc + 1) Ls (.int (ushrI x y) :: rest))) : Goes p e below s n0 P k n T (mkF m pc Ls (.int y :: .int x :: rest)) := by
  obtain ⟨locs, S, -, -, -⟩ := X
  exact Goes.of (fun _ kk => XS.iushr S.here C.1 rfl (hb C.2.1 hd) rfl kk) K
theorem w_ladd (X : Hr p l e R s m args below meth c n0 h cells slots T) (C : Cx p s m meth c code ml ret own nm Z a0 tabs) {pc : Nat} {Ls : Array Slot} {x y : Int64} {rest : List Value} (hd : decode code pc = .ok (.ladd, 1)) (K : Goes p e below s n0 P k n T (mkF m (pc + 1) Ls (.long (x + y) :: rest))) : Goes p e below s n0 P k n T (mkF m pc Ls (.long y :: .long x :: rest)) := by
  obtain ⟨locs, S, -, -, -⟩ := X
  exact Goes.of (fun _ kk => XS.ladd S.here C.1 rfl (hb C.2.1 hd) rfl kk) K
theorem w_lsub (X : Hr p l e R s m args below meth c n0 h cells slots T) (C : Cx p s m meth c code ml ret own nm Z a0 tabs) {pc : Nat} {Ls : Array Slot} {x y : Int64} {rest : List Value} (hd : decode code pc = .ok (.lsub, 1)) (K : Goes p e below s n0 P k n T (mkF m (pc + 1) Ls (.long (x - y) :: rest))) : Goes p e below s n0 P k n T (mkF m pc Ls (.long y :: .long x :: rest)) := by
  obtain ⟨locs, S, -, -, -⟩ := X
  exact Goes.of (fun _ kk => XS.lsub S.here C.1 rfl (hb C.2.1 hd) rfl kk) K
theorem w_lmul (X : Hr p l e R s m args below meth c n0 h cells slots T) (C : Cx p s m meth c code ml ret own nm Z a0 tabs) {pc : Nat} {Ls : Array Slot} {x y : Int64} {rest : List Value} (hd : decode code pc = .ok (.lmul, 1)) (K : Goes p e below s n0 P k n T (mkF m (pc + 1) Ls (.long (x * y) :: rest))) : Goes p e below s n0 P k n T (mkF m pc Ls (.long y :: .long x :: rest)) := by
  obtain ⟨locs, S, -, -, -⟩ := X
  exact Goes.of (fun _ kk => XS.lmul S.here C.1 rfl (hb C.2.1 hd) rfl kk) K
theorem w_land (X : Hr p l e R s m args below meth c n0 h cells slots T) (C : Cx p s m meth c code ml ret own nm Z a0 tabs) {pc : Nat} {Ls : Array Slot} {x y : Int64} {rest : List Value} (hd : decode code pc = .ok (.land, 1)) (K : Goes p e below s n0 P k n T (mkF m (pc + 1) Ls (.long (x &&& y) :: rest))) : Goes p e below s n0 P k n T (mkF m pc Ls (.long y :: .long x :: rest)) := by
  obtain ⟨locs, S, -, -, -⟩ := X
  exact Goes.of (fun _ kk => XS.land S.here C.1 rfl (hb C.2.1 hd) rfl kk) K
theorem w_lor (X : Hr p l e R s m args below meth c n0 h cells slots T) (C : Cx p s m meth c code ml ret own nm Z a0 tabs) {pc : Nat} {Ls : Array Slot} {x y : Int64} {rest : List Value} (hd : decode code pc = .ok (.lor, 1)) (K : Goes p e below s n0 P k n T (mkF m (pc + 1) Ls (.long (x ||| y) :: rest))) : Goes p e below s n0 P k n T (mkF m pc Ls (.long y :: .long x :: rest)) := by
  obtain ⟨locs, S, -, -, -⟩ := X
  exact Goes.of (fun _ kk => XS.lor S.here C.1 rfl (hb C.2.1 hd) rfl kk) K
theorem w_lxor (X : Hr p l e R s m args below meth c n0 h cells slots T) (C : Cx p s m meth c code ml ret own nm Z a0 tabs) {pc : Nat} {Ls : Array Slot} {x y : Int64} {rest : List Value} (hd : decode code pc = .ok (.lxor, 1)) (K : Goes p e below s n0 P k n T (mkF m (pc + 1) Ls (.long (x ^^^ y) :: rest))) : Goes p e below s n0 P k n T (mkF m pc Ls (.long y :: .long x :: rest)) := by
  obtain ⟨locs, S, -, -, -⟩ := X
  exact Goes.of (fun _ kk => XS.lxor S.here C.1 rfl (hb C.2.1 hd) rfl kk) K
theorem w_lshl (X : Hr p l e R s m args below meth c n0 h cells slots T) (C : Cx p s m meth c code ml ret own nm Z a0 tabs) {pc : Nat} {Ls : Array Slot} {x : Int64} {y : Int32} {rest : List Value} (hd : decode code pc = .ok (.lshl, 1)) (K : Goes p e below s n0 P k n T (mkF m (pc + 1) Ls (.long (shlJ x y) :: rest))) : Goes p e below s n0 P k n T (mkF m pc Ls (.int y :: .long x :: rest)) := by
  obtain ⟨locs, S, -, -, -⟩ := X
  exact Goes.of (fun _ kk => XS.lshl S.here C.1 rfl (hb C.2.1 hd) rfl kk) K
theorem w_lshr (X : Hr p l e R s m args below meth c n0 h cells slots T) (C : Cx p s m meth c code ml ret own nm Z a0 tabs) {pc : Nat} {Ls : Array Slot} {x : Int64} {y : Int32} {rest : List Value} (hd : decode code pc = .ok (.lshr, 1)) (K : Goes p e below s n0 P k n T (mkF m (pc + 1) Ls (.long (shrJ x y) :: rest))) : Goes p e below s n0 P k n T (mkF m pc Ls (.int y :: .long x :: rest)) := by
  obtain ⟨locs, S, -, -, -⟩ := X
  exact Goes.of (fun _ kk => XS.lshr S.here C.1 rfl (hb C.2.1 hd) rfl kk) K
theorem w_lushr (X : Hr p l e R s m args below meth c n0 h cells slots T) (C : Cx p s m meth c code ml ret own nm Z a0 tabs) {pc : Nat} {Ls : Array Slot} {x : Int64} {y : Int32} {rest : List Value} (hd : decode code pc = .ok (.lushr, 1)) (K : Goes p e below s n0 P k n T (mkF m (pc + 1) Ls (.long (ushrJ x y) :: rest))) : Goes p e below s n0 P k n T (mkF m pc Ls (.int y :: .long x :: rest)) := by
  obtain ⟨locs, S, -, -, -⟩ := X
  exact Goes.of (fun _ kk => XS.lushr S.here C.1 rfl (hb C.2.1 hd) rfl kk) K
theorem w_lcmp (X : Hr p l e R s m args below meth c n0 h cells slots T) (C : Cx p s m meth c code ml ret own nm Z a0 tabs) {pc : Nat} {Ls : Array Slot} {x y : Int64} {rest : List Value} (hd : decode code pc = .ok (.lcmp, 1)) (K : Goes p e below s n0 P k n T (mkF m (pc + 1) Ls (.int (cmpJ x y) :: rest))) : Goes p e below s n0 P k n T (mkF m pc Ls (.long y :: .long x :: rest)) := by
  obtain ⟨locs, S, -, -, -⟩ := X
  exact Goes.of (fun _ kk => XS.lcmp S.here C.1 rfl (hb C.2.1 hd) rfl kk) K
theorem w_i2b (X : Hr p l e R s m args below meth c n0 h cells slots T) (C : Cx p s m meth c code ml ret own nm Z a0 tabs) {pc : Nat} {Ls : Array Slot} {x : Int32} {rest : List Value} (hd : decode code pc = .ok (.i2b, 1)) (K : Goes p e below s n0 P k n T (mkF m (pc + 1) Ls (.int (i8 x) :: rest))) : Goes p e below s n0 P k n T (mkF m pc Ls (.int x :: rest)) := by
  obtain ⟨locs, S, -, -, -⟩ := X
  exact Goes.of (fun _ kk => XS.i2b S.here C.1 rfl (hb C.2.1 hd) rfl kk) K
theorem w_i2c (X : Hr p l e R s m args below meth c n0 h cells slots T) (C : Cx p s m meth c code ml ret own nm Z a0 tabs) {pc : Nat} {Ls : Array Slot} {x : Int32} {rest : List Value} (hd : decode code pc = .ok (.i2c, 1)) (K : Goes p e below s n0 P k n T (mkF m (pc + 1) Ls (.int (i16c x) :: rest))) : Goes p e below s n0 P k n T (mkF m pc Ls (.int x :: rest)) := by
  obtain ⟨locs, S, -, -, -⟩ := X
  exact Goes.of (fun _ kk => XS.i2c S.here C.1 rfl (hb C.2.1 hd) rfl kk) K
theorem w_i2s (X : Hr p l e R s m args below meth c n0 h cells slots T) (C : Cx p s m meth c code ml ret own nm Z a0 tabs) {pc : Nat} {Ls : Array Slot} {x : Int32} {rest : List Value} (hd : decode code pc = .ok (.i2s, 1)) (K : Goes p e below s n0 P k n T (mkF m (pc + 1) Ls (.int (x.toInt16.toInt32) :: rest))) : Goes p e below s n0 P k n T (mkF m pc Ls (.int x :: rest)) := by
  obtain ⟨locs, S, -, -, -⟩ := X
  exact Goes.of (fun _ kk => XS.i2s S.here C.1 rfl (hb C.2.1 hd) rfl kk) K
theorem w_ineg (X : Hr p l e R s m args below meth c n0 h cells slots T) (C : Cx p s m meth c code ml ret own nm Z a0 tabs) {pc : Nat} {Ls : Array Slot} {x : Int32} {rest : List Value} (hd : decode code pc = .ok (.ineg, 1)) (K : Goes p e below s n0 P k n T (mkF m (pc + 1) Ls (.int (-x) :: rest))) : Goes p e below s n0 P k n T (mkF m pc Ls (.int x :: rest)) := by
  obtain ⟨locs, S, -, -, -⟩ := X
  exact Goes.of (fun _ kk => XS.ineg S.here C.1 rfl (hb C.2.1 hd) rfl kk) K
theorem w_i2l (X : Hr p l e R s m args below meth c n0 h cells slots T) (C : Cx p s m meth c code ml ret own nm Z a0 tabs) {pc : Nat} {Ls : Array Slot} {x : Int32} {rest : List Value} (hd : decode code pc = .ok (.i2l, 1)) (K : Goes p e below s n0 P k n T (mkF m (pc + 1) Ls (.long (x.toInt64) :: rest))) : Goes p e below s n0 P k n T (mkF m pc Ls (.int x :: rest)) := by
  obtain ⟨locs, S, -, -, -⟩ := X
  exact Goes.of (fun _ kk => XS.i2l S.here C.1 rfl (hb C.2.1 hd) rfl kk) K
theorem w_l2i (X : Hr p l e R s m args below meth c n0 h cells slots T) (C : Cx p s m meth c code ml ret own nm Z a0 tabs) {pc : Nat} {Ls : Array Slot} {x : Int64} {rest : List Value} (hd : decode code pc = .ok (.l2i, 1)) (K : Goes p e below s n0 P k n T (mkF m (pc + 1) Ls (.int (x.toInt32) :: rest))) : Goes p e below s n0 P k n T (mkF m pc Ls (.long x :: rest)) := by
  obtain ⟨locs, S, -, -, -⟩ := X
  exact Goes.of (fun _ kk => XS.l2i S.here C.1 rfl (hb C.2.1 hd) rfl kk) K
theorem w_lneg (X : Hr p l e R s m args below meth c n0 h cells slots T) (C : Cx p s m meth c code ml ret own nm Z a0 tabs) {pc : Nat} {Ls : Array Slot} {x : Int64} {rest : List Value} (hd : decode code pc = .ok (.lneg, 1)) (K : Goes p e below s n0 P k n T (mkF m (pc + 1) Ls (.long (-x) :: rest))) : Goes p e below s n0 P k n T (mkF m pc Ls (.long x :: rest)) := by
  obtain ⟨locs, S, -, -, -⟩ := X
  exact Goes.of (fun _ kk => XS.lneg S.here C.1 rfl (hb C.2.1 hd) rfl kk) K
theorem w_idiv (X : Hr p l e R s m args below meth c n0 h cells slots T) (C : Cx p s m meth c code ml ret own nm Z a0 tabs) {pc : Nat} {Ls : Array Slot} {x y : Int32} {rest : List Value} (hd : decode code pc = .ok (.idiv, 1)) (hy : y ≠ 0) (K : Goes p e below s n0 P k n T (mkF m (pc + 1) Ls (.int (x / y) :: rest))) : Goes p e below s n0 P k n T (mkF m pc Ls (.int y :: .int x :: rest)) := by
  obtain ⟨locs, S, -, -, -⟩ := X
  exact Goes.of (fun _ kk => XS.idiv S.here C.1 rfl (hb C.2.1 hd) rfl hy kk) K
theorem w_ldiv (X : Hr p l e R s m args below meth c n0 h cells slots T) (C : Cx p s m meth c code ml ret own nm Z a0 tabs) {pc : Nat} {Ls : Array Slot} {x y : Int64} {rest : List Value} (hd : decode code pc = .ok (.ldiv, 1)) (hy : y ≠ 0) (K : Goes p e below s n0 P k n T (mkF m (pc + 1) Ls (.long (x / y) :: rest))) : Goes p e below s n0 P k n T (mkF m pc Ls (.long y :: .long x :: rest)) := by
  obtain ⟨locs, S, -, -, -⟩ := X
  exact Goes.of (fun _ kk => XS.ldiv S.here C.1 rfl (hb C.2.1 hd) rfl hy kk) K
theorem w_irem (X : Hr p l e R s m args below meth c n0 h cells slots T) (C : Cx p s m meth c code ml ret own nm Z a0 tabs) {pc : Nat} {Ls : Array Slot} {x y : Int32} {rest : List Value} (hd : decode code pc = .ok (.irem, 1)) (hy : y ≠ 0) (K : Goes p e below s n0 P k n T (mkF m (pc + 1) Ls (.int (x % y) :: rest))) : Goes p e below s n0 P k n T (mkF m pc Ls (.int y :: .int x :: rest)) := by
  obtain ⟨locs, S, -, -, -⟩ := X
  rw [← irem_eq_mod x y] at K
  exact Goes.of (fun _ kk => XS.irem S.here C.1 rfl (hb C.2.1 hd) rfl hy kk) K
theorem w_lrem (X : Hr p l e R s m args below meth c n0 h cells slots T) (C : Cx p s m meth c code ml ret own nm Z a0 tabs) {pc : Nat} {Ls : Array Slot} {x y : Int64} {rest : List Value} (hd : decode code pc = .ok (.lrem, 1)) (hy : y ≠ 0) (K : Goes p e below s n0 P k n T (mkF m (pc + 1) Ls (.long (x % y) :: rest))) : Goes p e below s n0 P k n T (mkF m pc Ls (.long y :: .long x :: rest)) := by
  obtain ⟨locs, S, -, -, -⟩ := X
  rw [← lrem_mod x y] at K
  exact Goes.of (fun _ kk => XS.lrem S.here C.1 rfl (hb C.2.1 hd) rfl hy kk) K
theorem w_dup (X : Hr p l e R s m args below meth c n0 h cells slots T) (C : Cx p s m meth c code ml ret own nm Z a0 tabs) {pc : Nat} {Ls : Array Slot} {x : Value} {rest : List Value} (hd : decode code pc = .ok (.dup, 1)) (hc : x.category = 1) (K : Goes p e below s n0 P k n T (mkF m (pc + 1) Ls (x :: x :: rest))) : Goes p e below s n0 P k n T (mkF m pc Ls (x :: rest)) := by
  obtain ⟨locs, S, -, -, -⟩ := X
  exact Goes.of (fun _ kk => XS.dup S.here C.1 rfl (hb C.2.1 hd) rfl hc kk) K
theorem w_pop (X : Hr p l e R s m args below meth c n0 h cells slots T) (C : Cx p s m meth c code ml ret own nm Z a0 tabs) {pc : Nat} {Ls : Array Slot} {x : Value} {rest : List Value} (hd : decode code pc = .ok (.pop, 1)) (hc : x.category = 1) (K : Goes p e below s n0 P k n T (mkF m (pc + 1) Ls (rest))) : Goes p e below s n0 P k n T (mkF m pc Ls (x :: rest)) := by
  obtain ⟨locs, S, -, -, -⟩ := X
  exact Goes.of (fun _ kk => XS.pop S.here C.1 rfl (hb C.2.1 hd) rfl hc kk) K
theorem w_dup_x1 (X : Hr p l e R s m args below meth c n0 h cells slots T) (C : Cx p s m meth c code ml ret own nm Z a0 tabs) {pc : Nat} {Ls : Array Slot} {x y : Value} {rest : List Value} (hd : decode code pc = .ok (.dup_x1, 1)) (hc : x.category = 1) (hc' : y.category = 1) (K : Goes p e below s n0 P k n T (mkF m (pc + 1) Ls (x :: y :: x :: rest))) : Goes p e below s n0 P k n T (mkF m pc Ls (x :: y :: rest)) := by
  obtain ⟨locs, S, -, -, -⟩ := X
  exact Goes.of (fun _ kk => XS.dupX1 S.here C.1 rfl (hb C.2.1 hd) rfl hc hc' kk) K
theorem w_dup2 (X : Hr p l e R s m args below meth c n0 h cells slots T) (C : Cx p s m meth c code ml ret own nm Z a0 tabs) {pc : Nat} {Ls : Array Slot} {x y : Value} {rest : List Value} (hd : decode code pc = .ok (.dup2, 1)) (hc : x.category = 1) (hc' : y.category = 1) (K : Goes p e below s n0 P k n T (mkF m (pc + 1) Ls (x :: y :: x :: y :: rest))) : Goes p e below s n0 P k n T (mkF m pc Ls (x :: y :: rest)) := by
  obtain ⟨locs, S, -, -, -⟩ := X
  exact Goes.of (fun _ kk => XT.dup2 S.here C.1 rfl (hb C.2.1 hd) rfl hc hc' kk) K
theorem w_iload (X : Hr p l e R s m args below meth c n0 h cells slots T) (C : Cx p s m meth c code ml ret own nm Z a0 tabs) {pc : Nat} {Ls : Array Slot} {k0 : Nat} {x : Int32} {rest : List Value} (hd : decode code pc = .ok (.iload k0, 2)) (hl : Ls[k0]? = some (.val (.int x))) (K : Goes p e below s n0 P k n T (mkF m (pc + 2) Ls (.int x :: rest))) : Goes p e below s n0 P k n T (mkF m pc Ls rest) := by
  obtain ⟨locs, S, -, -, -⟩ := X
  exact Goes.of (fun _ kk => XS.iload S.here C.1 rfl (hb C.2.1 hd) hl kk) K
theorem w_istore (X : Hr p l e R s m args below meth c n0 h cells slots T) (C : Cx p s m meth c code ml ret own nm Z a0 tabs) {pc : Nat} {Ls : Array Slot} {k0 : Nat} {x : Int32} {rest : List Value} (hd : decode code pc = .ok (.istore k0, 2)) (Ls' : Array Slot) (hl : storeLocals Ls k0 (.int x) = some Ls') (K : Goes p e below s n0 P k n T (mkF m (pc + 2) Ls' rest)) : Goes p e below s n0 P k n T (mkF m pc Ls (.int x :: rest)) := by
  obtain ⟨locs, S, -, -, -⟩ := X
  exact Goes.of (fun _ kk => XS.istore S.here C.1 rfl (hb C.2.1 hd) rfl hl kk) K
theorem w_iloadN (X : Hr p l e R s m args below meth c n0 h cells slots T) (C : Cx p s m meth c code ml ret own nm Z a0 tabs) {pc : Nat} {Ls : Array Slot} {k0 : Fin 4} {x : Int32} {rest : List Value} (hd : decode code pc = .ok (.iload_n k0, 1)) (hl : Ls[k0.val]? = some (.val (.int x))) (K : Goes p e below s n0 P k n T (mkF m (pc + 1) Ls (.int x :: rest))) : Goes p e below s n0 P k n T (mkF m pc Ls rest) := by
  obtain ⟨locs, S, -, -, -⟩ := X
  exact Goes.of (fun _ kk => XS.iloadN S.here C.1 rfl (hb C.2.1 hd) hl kk) K
theorem w_istoreN (X : Hr p l e R s m args below meth c n0 h cells slots T) (C : Cx p s m meth c code ml ret own nm Z a0 tabs) {pc : Nat} {Ls : Array Slot} {k0 : Fin 4} {x : Int32} {rest : List Value} (hd : decode code pc = .ok (.istore_n k0, 1)) (Ls' : Array Slot) (hl : storeLocals Ls k0.val (.int x) = some Ls') (K : Goes p e below s n0 P k n T (mkF m (pc + 1) Ls' rest)) : Goes p e below s n0 P k n T (mkF m pc Ls (.int x :: rest)) := by
  obtain ⟨locs, S, -, -, -⟩ := X
  exact Goes.of (fun _ kk => XS.istoreN S.here C.1 rfl (hb C.2.1 hd) rfl hl kk) K
theorem w_lload (X : Hr p l e R s m args below meth c n0 h cells slots T) (C : Cx p s m meth c code ml ret own nm Z a0 tabs) {pc : Nat} {Ls : Array Slot} {k0 : Nat} {x : Int64} {rest : List Value} (hd : decode code pc = .ok (.lload k0, 2)) (hl : Ls[k0]? = some (.val (.long x))) (K : Goes p e below s n0 P k n T (mkF m (pc + 2) Ls (.long x :: rest))) : Goes p e below s n0 P k n T (mkF m pc Ls rest) := by
  obtain ⟨locs, S, -, -, -⟩ := X
  exact Goes.of (fun _ kk => XS.lload S.here C.1 rfl (hb C.2.1 hd) hl kk) K
theorem w_lstore (X : Hr p l e R s m args below meth c n0 h cells slots T) (C : Cx p s m meth c code ml ret own nm Z a0 tabs) {pc : Nat} {Ls : Array Slot} {k0 : Nat} {x : Int64} {rest : List Value} (hd : decode code pc = .ok (.lstore k0, 2)) (Ls' : Array Slot) (hl : storeLocals Ls k0 (.long x) = some Ls') (K : Goes p e below s n0 P k n T (mkF m (pc + 2) Ls' rest)) : Goes p e below s n0 P k n T (mkF m pc Ls (.long x :: rest)) := by
  obtain ⟨locs, S, -, -, -⟩ := X
  exact Goes.of (fun _ kk => XS.lstore S.here C.1 rfl (hb C.2.1 hd) rfl hl kk) K
theorem w_lloadN (X : Hr p l e R s m args below meth c n0 h cells slots T) (C : Cx p s m meth c code ml ret own nm Z a0 tabs) {pc : Nat} {Ls : Array Slot} {k0 : Fin 4} {x : Int64} {rest : List Value} (hd : decode code pc = .ok (.lload_n k0, 1)) (hl : Ls[k0.val]? = some (.val (.long x))) (K : Goes p e below s n0 P k n T (mkF m (pc + 1) Ls (.long x :: rest))) : Goes p e below s n0 P k n T (mkF m pc Ls rest) := by
  obtain ⟨locs, S, -, -, -⟩ := X
  exact Goes.of (fun _ kk => XS.lloadN S.here C.1 rfl (hb C.2.1 hd) hl kk) K
theorem w_lstoreN (X : Hr p l e R s m args below meth c n0 h cells slots T) (C : Cx p s m meth c code ml ret own nm Z a0 tabs) {pc : Nat} {Ls : Array Slot} {k0 : Fin 4} {x : Int64} {rest : List Value} (hd : decode code pc = .ok (.lstore_n k0, 1)) (Ls' : Array Slot) (hl : storeLocals Ls k0.val (.long x) = some Ls') (K : Goes p e below s n0 P k n T (mkF m (pc + 1) Ls' rest)) : Goes p e below s n0 P k n T (mkF m pc Ls (.long x :: rest)) := by
  obtain ⟨locs, S, -, -, -⟩ := X
  exact Goes.of (fun _ kk => XS.lstoreN S.here C.1 rfl (hb C.2.1 hd) rfl hl kk) K
theorem w_aload (X : Hr p l e R s m args below meth c n0 h cells slots T) (C : Cx p s m meth c code ml ret own nm Z a0 tabs) {pc : Nat} {Ls : Array Slot} {k0 : Nat} {x : Value} {rest : List Value} (hd : decode code pc = .ok (.aload k0, 2)) (hl : Ls[k0]? = some (.val x)) (hv : x.isRef = true) (K : Goes p e below s n0 P k n T (mkF m (pc + 2) Ls (x :: rest))) : Goes p e below s n0 P k n T (mkF m pc Ls rest) := by
  obtain ⟨locs, S, -, -, -⟩ := X
  exact Goes.of (fun _ kk => XS.aload S.here C.1 rfl (hb C.2.1 hd) hl hv kk) K
theorem w_astore (X : Hr p l e R s m args below meth c n0 h cells slots T) (C : Cx p s m meth c code ml ret own nm Z a0 tabs) {pc : Nat} {Ls : Array Slot} {k0 : Nat} {x : Value} {rest : List Value} (hd : decode code pc = .ok (.astore k0, 2)) (Ls' : Array Slot) (hl : storeLocals Ls k0 x = some Ls') (hv : x.isRef = true) (K : Goes p e below s n0 P k n T (mkF m (pc + 2) Ls' rest)) : Goes p e below s n0 P k n T (mkF m pc Ls (x :: rest)) := by
  obtain ⟨locs, S, -, -, -⟩ := X
  exact Goes.of (fun _ kk => XS.astore S.here C.1 rfl (hb C.2.1 hd) rfl hv hl kk) K
theorem w_aloadN (X : Hr p l e R s m args below meth c n0 h cells slots T) (C : Cx p s m meth c code ml ret own nm Z a0 tabs) {pc : Nat} {Ls : Array Slot} {k0 : Fin 4} {x : Value} {rest : List Value} (hd : decode code pc = .ok (.aload_n k0, 1)) (hl : Ls[k0.val]? = some (.val x)) (hv : x.isRef = true) (K : Goes p e below s n0 P k n T (mkF m (pc + 1) Ls (x :: rest))) : Goes p e below s n0 P k n T (mkF m pc Ls rest) := by
  obtain ⟨locs, S, -, -, -⟩ := X
  exact Goes.of (fun _ kk => XS.aloadN S.here C.1 rfl (hb C.2.1 hd) hl hv kk) K
theorem w_astoreN (X : Hr p l e R s m args below meth c n0 h cells slots T) (C : Cx p s m meth c code ml ret own nm Z a0 tabs) {pc : Nat} {Ls : Array Slot} {k0 : Fin 4} {x : Value} {rest : List Value} (hd : decode code pc = .ok (.astore_n k0, 1)) (Ls' : Array Slot) (hl : storeLocals Ls k0.val x = some Ls') (hv : x.isRef = true) (K : Goes p e below s n0 P k n T (mkF m (pc + 1) Ls' rest)) : Goes p e below s n0 P k n T (mkF m pc Ls (x :: rest)) := by
  obtain ⟨locs, S, -, -, -⟩ := X
  exact Goes.of (fun _ kk => XS.astoreN S.here C.1 rfl (hb C.2.1 hd) rfl hv hl kk) K
theorem w_iinc (X : Hr p l e R s m args below meth c n0 h cells slots T) (C : Cx p s m meth c code ml ret own nm Z a0 tabs) {pc : Nat} {Ls : Array Slot} {k0 : Nat} {cst : Int} {x : Int32} {rest : List Value} (hd : decode code pc = .ok (.iinc k0 cst, 3)) (v : Int32) (hv : Int32.ofInt cst = v) (hl : Ls[k0]? = some (.val (.int x))) (Ls' : Array Slot) (hl' : storeLocals Ls k0 (.int (x + v)) = some Ls') (K : Goes p e below s n0 P k n T (mkF m (pc + 3) Ls' rest)) : Goes p e below s n0 P k n T (mkF m pc Ls rest) := by
  obtain ⟨locs, S, -, -, -⟩ := X
  subst hv
  exact Goes.of (fun _ kk => XS.iinc S.here C.1 rfl (hb C.2.1 hd) hl hl' kk) K
theorem w_iconst (X : Hr p l e R s m args below meth c n0 h cells slots T) (C : Cx p s m meth c code ml ret own nm Z a0 tabs) {pc : Nat} {Ls : Array Slot} {i : Int} {rest : List Value} (hd : decode code pc = .ok (.iconst i, 1)) (v : Int32) (hv : Int32.ofInt i = v) (K : Goes p e below s n0 P k n T (mkF m (pc + 1) Ls (.int v :: rest))) : Goes p e below s n0 P k n T (mkF m pc Ls rest) := by
  obtain ⟨locs, S, -, -, -⟩ := X
  subst hv
  exact Goes.of (fun _ kk => XS.iconst S.here C.1 rfl (hb C.2.1 hd) kk) K
theorem w_bipush (X : Hr p l e R s m args below meth c n0 h cells slots T) (C : Cx p s m meth c code ml ret own nm Z a0 tabs) {pc : Nat} {Ls : Array Slot} {i : Int} {rest : List Value} (hd : decode code pc = .ok (.bipush i, 2)) (v : Int32) (hv : (Int8.ofInt i).toInt32 = v) (K : Goes p e below s n0 P k n T (mkF m (pc + 2) Ls (.int v :: rest))) : Goes p e below s n0 P k n T (mkF m pc Ls rest) := by
  obtain ⟨locs, S, -, -, -⟩ := X
  subst hv
  exact Goes.of (fun _ kk => XS.bipush S.here C.1 rfl (hb C.2.1 hd) kk) K
theorem w_sipush (X : Hr p l e R s m args below meth c n0 h cells slots T) (C : Cx p s m meth c code ml ret own nm Z a0 tabs) {pc : Nat} {Ls : Array Slot} {i : Int} {rest : List Value} (hd : decode code pc = .ok (.sipush i, 3)) (v : Int32) (hv : (Int16.ofInt i).toInt32 = v) (K : Goes p e below s n0 P k n T (mkF m (pc + 3) Ls (.int v :: rest))) : Goes p e below s n0 P k n T (mkF m pc Ls rest) := by
  obtain ⟨locs, S, -, -, -⟩ := X
  subst hv
  exact Goes.of (fun _ kk => XS.sipush S.here C.1 rfl (hb C.2.1 hd) kk) K
theorem w_lconst (X : Hr p l e R s m args below meth c n0 h cells slots T) (C : Cx p s m meth c code ml ret own nm Z a0 tabs) {pc : Nat} {Ls : Array Slot} {i : Fin 2} {rest : List Value} (hd : decode code pc = .ok (.lconst i, 1)) (v : Int64) (hv : Int64.ofNat i = v) (K : Goes p e below s n0 P k n T (mkF m (pc + 1) Ls (.long v :: rest))) : Goes p e below s n0 P k n T (mkF m pc Ls rest) := by
  obtain ⟨locs, S, -, -, -⟩ := X
  subst hv
  exact Goes.of (fun _ kk => XS.lconst S.here C.1 rfl (hb C.2.1 hd) kk) K
theorem w_aconst_null (X : Hr p l e R s m args below meth c n0 h cells slots T) (C : Cx p s m meth c code ml ret own nm Z a0 tabs) {pc : Nat} {Ls : Array Slot} {rest : List Value} (hd : decode code pc = .ok (.aconst_null, 1)) (K : Goes p e below s n0 P k n T (mkF m (pc + 1) Ls (.null :: rest))) : Goes p e below s n0 P k n T (mkF m pc Ls rest) := by
  obtain ⟨locs, S, -, -, -⟩ := X
  exact Goes.of (fun _ kk => XS.aconstNull S.here C.1 rfl (hb C.2.1 hd) kk) K
theorem w_ldcI (X : Hr p l e R s m args below meth c n0 h cells slots T) (C : Cx p s m meth c code ml ret own nm Z a0 tabs) {pc index : Nat} {Ls : Array Slot} {v : Int32} {rest : List Value} (hd : decode code pc = .ok (.ldc index, 2)) (i1 : Jvm.Cond.constant own index v ∈ tabs) (K : Goes p e below s n0 P k n T (mkF m (pc + 2) Ls (.int v :: rest))) : Goes p e below s n0 P k n T (mkF m pc Ls rest) := by
  obtain ⟨locs, S, -, -, -⟩ := X
  exact Goes.of (fun _ kk => S.ldcInt C.1 C.2.2.2.2.2.1 (mvT C.2.2.2.2.2.2.2.1 (C.2.2.2.2.2.2.2.2 _ i1)) (g := mkF m pc Ls rest) rfl (hb C.2.1 hd) _ kk) K
theorem w_ldcJ (X : Hr p l e R s m args below meth c n0 h cells slots T) (C : Cx p s m meth c code ml ret own nm Z a0 tabs) {pc index : Nat} {Ls : Array Slot} {v : Int64} {rest : List Value} (hd : decode code pc = .ok (.ldc2_w index, 3)) (i1 : Jvm.Cond.constantLong own index v ∈ tabs) (K : Goes p e below s n0 P k n T (mkF m (pc + 3) Ls (.long v :: rest))) : Goes p e below s n0 P k n T (mkF m pc Ls rest) := by
  obtain ⟨locs, S, -, -, -⟩ := X
  exact Goes.of (fun _ kk => S.ldc2Long C.1 C.2.2.2.2.2.1 (mvT C.2.2.2.2.2.2.2.1 (C.2.2.2.2.2.2.2.2 _ i1)) (g := mkF m pc Ls rest) rfl (hb C.2.1 hd) _ kk) K
theorem w_goto (X : Hr p l e R s m args below meth c n0 h cells slots T) (C : Cx p s m meth c code ml ret own nm Z a0 tabs) {pc : Nat} {Ls : Array Slot} {st : List Value} {o : Int} (hd : decode code pc = .ok (.goto o, 3)) (pc' : Nat) (ho : 0 ≤ (pc : Int) + o ∧ ((pc : Int) + o).toNat = pc') (K : Goes p e below s n0 P k n T (mkF m pc' Ls st)) : Goes p e below s n0 P k n T (mkF m pc Ls st) := by
  obtain ⟨locs, S, -, -, -⟩ := X
  exact Goes.of (fun _ kk => XS.goto S.here C.1 rfl (pc0 := pc) (pc' := pc') rfl (hb C.2.1 hd) ho.1 ho.2 kk) K
theorem w_icmp_lt (X : Hr p l e R s m args below meth c n0 h cells slots T) (C : Cx p s m meth c code ml ret own nm Z a0 tabs) {pc : Nat} {Ls : Array Slot} {x y : Int32} {rest : List Value} {o : Int} (hd : decode code pc = .ok (.if_icmp .lt o, 3)) (pc' : Nat) (ho : 0 ≤ (pc : Int) + o ∧ ((pc : Int) + o).toNat = pc') (Ky : x < y → Goes p e below s n0 P k n T (mkF m pc' Ls rest)) (Kn : ¬ (x < y) → Goes p e below s n0 P k n T (mkF m (pc + 3) Ls rest)) : Goes p e below s n0 P k n T (mkF m pc Ls (.int y :: .int x :: rest)) := by
  obtain ⟨locs, S, -, -, -⟩ := X
  by_cases q : x < y
  · exact Goes.of (fun _ kk => XS.icmpYes S.here C.1 rfl (pc0 := pc) (pc' := pc') rfl (hb C.2.1 hd) rfl (tlt q).1 ho.1 ho.2 kk) (Ky q)
  · exact Goes.of (fun _ kk => XS.icmpNo S.here C.1 rfl (hb C.2.1 hd) rfl (flt q).1 kk) (Kn q)
theorem w_if_lt (X : Hr p l e R s m args below meth c n0 h cells slots T) (C : Cx p s m meth c code ml ret own nm Z a0 tabs) {pc : Nat} {Ls : Array Slot} {x : Int32} {rest : List Value} {o : Int} (hd : decode code pc = .ok (.ifCond .lt o, 3)) (pc' : Nat) (ho : 0 ≤ (pc : Int) + o ∧ ((pc : Int) + o).toNat = pc') (Ky : x < 0 → Goes p e below s n0 P k n T (mkF m pc' Ls rest)) (Kn : ¬ (x < 0) → Goes p e below s n0 P k n T (mkF m (pc + 3) Ls rest)) : Goes p e below s n0 P k n T (mkF m pc Ls (.int x :: rest)) := by
  obtain ⟨locs, S, -, -, -⟩ := X
  by_cases q : x < 0
  · exact Goes.of (fun _ kk => XS.ifYes S.here C.1 rfl (pc0 := pc) (pc' := pc') rfl (hb C.2.1 hd) rfl ((if0 _ _).trans (tlt q).1) ho.1 ho.2 kk) (Ky q)
  · exact Goes.of (fun _ kk => XS.ifNo S.here C.1 rfl (hb C.2.1 hd) rfl ((if0 _ _).trans (flt q).1) kk) (Kn q)
theorem w_icmp_ge (X : Hr p l e R s m args below meth c n0 h cells slots T) (C : Cx p s m meth c code ml ret own nm Z a0 tabs) {pc : Nat} {Ls : Array Slot} {x y : Int32} {rest : List Value} {o : Int} (hd : decode code pc = .ok (.if_icmp .ge o, 3)) (pc' : Nat) (ho : 0 ≤ (pc : Int) + o ∧ ((pc : Int) + o).toNat = pc') (Ky : ¬ (x < y) → Goes p e below s n0 P k n T (mkF m pc' Ls rest)) (Kn : x < y → Goes p e below s n0 P k n T (mkF m (pc + 3) Ls rest)) : Goes p e below s n0 P k n T (mkF m pc Ls (.int y :: .int x :: rest)) := by
  obtain ⟨locs, S, -, -, -⟩ := X
  by_cases q : x < y
  · exact Goes.of (fun _ kk => XS.icmpNo S.here C.1 rfl (hb C.2.1 hd) rfl (tlt q).2.1 kk) (Kn q)
  · exact Goes.of (fun _ kk => XS.icmpYes S.here C.1 rfl (pc0 := pc) (pc' := pc') rfl (hb C.2.1 hd) rfl (flt q).2.1 ho.1 ho.2 kk) (Ky q)
theorem w_if_ge (X : Hr p l e R s m args below meth c n0 h cells slots T) (C : Cx p s m meth c code ml ret own nm Z a0 tabs) {pc : Nat} {Ls : Array Slot} {x : Int32} {rest : List Value} {o : Int} (hd : decode code pc = .ok (.ifCond .ge o, 3)) (pc' : Nat) (ho : 0 ≤ (pc : Int) + o ∧ ((pc : Int) + o).toNat = pc') (Ky : ¬ (x < 0) → Goes p e below s n0 P k n T (mkF m pc' Ls rest)) (Kn : x < 0 → Goes p e below s n0 P k n T (mkF m (pc + 3) Ls rest)) : Goes p e below s n0 P k n T (mkF m pc Ls (.int x :: rest)) := by
  obtain ⟨locs, S, -, -, -⟩ := X
  by_cases q : x < 0
  · exact Goes.of (fun _ kk => XS.ifNo S.here C.1 rfl (hb C.2.1 hd) rfl ((if0 _ _).trans (tlt q).2.1) kk) (Kn q)
  · exact Goes.of (fun _ kk => XS.ifYes S.here C.1 rfl (pc0 := pc) (pc' := pc') rfl (hb C.2.1 hd) rfl ((if0 _ _).trans (flt q).2.1) ho.1 ho.2 kk) (Ky q)
theorem w_icmp_gt (X : Hr p l e R s m args below meth c n0 h cells slots T) (C : Cx p s m meth c code ml ret own nm Z a0 tabs) {pc : Nat} {Ls : Array Slot} {x y : Int32} {rest : List Value} {o : Int} (hd : decode code pc = .ok (.if_icmp .gt o, 3)) (pc' : Nat) (ho : 0 ≤ (pc : Int) + o ∧ ((pc : Int) + o).toNat = pc') (Ky : y < x → Goes p e below s n0 P k n T (mkF m pc' Ls rest)) (Kn : ¬ (y < x) → Goes p e below s n0 P k n T (mkF m (pc + 3) Ls rest)) : Goes p e below s n0 P k n T (mkF m pc Ls (.int y :: .int x :: rest)) := by
  obtain ⟨locs, S, -, -, -⟩ := X
  by_cases q : y < x
  · exact Goes.of (fun _ kk => XS.icmpYes S.here C.1 rfl (pc0 := pc) (pc' := pc') rfl (hb C.2.1 hd) rfl (tlt q).2.2.1 ho.1 ho.2 kk) (Ky q)
  · exact Goes.of (fun _ kk => XS.icmpNo S.here C.1 rfl (hb C.2.1 hd) rfl (flt q).2.2.1 kk) (Kn q)
theorem w_if_gt (X : Hr p l e R s m args below meth c n0 h cells slots T) (C : Cx p s m meth c code ml ret own nm Z a0 tabs) {pc : Nat} {Ls : Array Slot} {x : Int32} {rest : List Value} {o : Int} (hd : decode code pc = .ok (.ifCond .gt o, 3)) (pc' : Nat) (ho : 0 ≤ (pc : Int) + o ∧ ((pc : Int) + o).toNat = pc') (Ky : 0 < x → Goes p e below s n0 P k n T (mkF m pc' Ls rest)) (Kn : ¬ (0 < x) → Goes p e below s n0 P k n T (mkF m (pc + 3) Ls rest)) : Goes p e below s n0 P k n T (mkF m pc Ls (.int x :: rest)) := by
  obtain ⟨locs, S, -, -, -⟩ := X
  by_cases q : 0 < x
  · exact Goes.of (fun _ kk => XS.ifYes S.here C.1 rfl (pc0 := pc) (pc' := pc') rfl (hb C.2.1 hd) rfl ((if0 _ _).trans (tlt q).2.2.1) ho.1 ho.2 kk) (Ky q)
  · exact Goes.of (fun _ kk => XS.ifNo S.here C.1 rfl (hb C.2.1 hd) rfl ((if0 _ _).trans (flt q).2.2.1) kk) (Kn q)
theorem w_icmp_le (X : Hr p l e R s m args below meth c n0 h cells slots T) (C : Cx p s m meth c code ml ret own nm Z a0 tabs) {pc : Nat} {Ls : Array Slot} {x y : Int32} {rest : List Value} {o : Int} (hd : decode code pc = .ok (.if_icmp .le o, 3)) (pc' : Nat) (ho : 0 ≤ (pc : Int) + o ∧ ((pc : Int) + o).toNat = pc') (Ky : ¬ (y < x) → Goes p e below s n0 P k n T (mkF m pc' Ls rest)) (Kn : y < x → Goes p e below s n0 P k n T (mkF m (pc + 3) Ls rest)) : Goes p e below s n0 P k n T (mkF m pc Ls (.int y :: .int x :: rest)) := by
  obtain ⟨locs, S, -, -, -⟩ := X
  by_cases q : y < x
  · exact Goes.of (fun _ kk => XS.icmpNo S.here C.1 rfl (hb C.2.1 hd) rfl (tlt q).2.2.2 kk) (Kn q)
  · exact Goes.of (fun _ kk => XS.icmpYes S.here C.1 rfl (pc0 := pc) (pc' := pc') rfl (hb C.2.1 hd) rfl (flt q).2.2.2 ho.1 ho.2 kk) (Ky q)
theorem w_if_le (X : Hr p l e R s m args below meth c n0 h cells slots T) (C : Cx p s m meth c code ml ret own nm Z a0 tabs) {pc : Nat} {Ls : Array Slot} {x : Int32} {rest : List Value} {o : Int} (hd : decode code pc = .ok (.ifCond .le o, 3)) (pc' : Nat) (ho : 0 ≤ (pc : Int) + o ∧ ((pc : Int) + o).toNat = pc') (Ky : ¬ (0 < x) → Goes p e below s n0 P k n T (mkF m pc' Ls rest)) (Kn : 0 < x → Goes p e below s n0 P k n T (mkF m (pc + 3) Ls rest)) : Goes p e below s n0 P k n T (mkF m pc Ls (.int x :: rest)) := by
  obtain ⟨locs, S, -, -, -⟩ := X
  by_cases q : 0 < x
  · exact Goes.of (fun _ kk => XS.ifNo S.here C.1 rfl (hb C.2.1 hd) rfl ((if0 _ _).trans (tlt q).2.2.2) kk) (Kn q)
  · exact Goes.of (fun _ kk => XS.ifYes S.here C.1 rfl (pc0 := pc) (pc' := pc') rfl (hb C.2.1 hd) rfl ((if0 _ _).trans (flt q).2.2.2) ho.1 ho.2 kk) (Ky q)
theorem w_icmp_eq (X : Hr p l e R s m args below meth c n0 h cells slots T) (C : Cx p s m meth c code ml ret own nm Z a0 tabs) {pc : Nat} {Ls : Array Slot} {x y : Int32} {rest : List Value} {o : Int} (hd : decode code pc = .ok (.if_icmp .eq o, 3)) (pc' : Nat) (ho : 0 ≤ (pc : Int) + o ∧ ((pc : Int) + o).toNat = pc') (Ky : x = y → Goes p e below s n0 P k n T (mkF m pc' Ls rest)) (Kn : ¬ (x = y) → Goes p e below s n0 P k n T (mkF m (pc + 3) Ls rest)) : Goes p e below s n0 P k n T (mkF m pc Ls (.int y :: .int x :: rest)) := by
  obtain ⟨locs, S, -, -, -⟩ := X
  by_cases q : x = y
  · exact Goes.of (fun _ kk => XS.icmpYes S.here C.1 rfl (pc0 := pc) (pc' := pc') rfl (hb C.2.1 hd) rfl (teq q).1 ho.1 ho.2 kk) (Ky q)
  · exact Goes.of (fun _ kk => XS.icmpNo S.here C.1 rfl (hb C.2.1 hd) rfl (feq q).1 kk) (Kn q)
theorem w_if_eq (X : Hr p l e R s m args below meth c n0 h cells slots T) (C : Cx p s m meth c code ml ret own nm Z a0 tabs) {pc : Nat} {Ls : Array Slot} {x : Int32} {rest : List Value} {o : Int} (hd : decode code pc = .ok (.ifCond .eq o, 3)) (pc' : Nat) (ho : 0 ≤ (pc : Int) + o ∧ ((pc : Int) + o).toNat = pc') (Ky : x = 0 → Goes p e below s n0 P k n T (mkF m pc' Ls rest)) (Kn : ¬ (x = 0) → Goes p e below s n0 P k n T (mkF m (pc + 3) Ls rest)) : Goes p e below s n0 P k n T (mkF m pc Ls (.int x :: rest)) := by
  obtain ⟨locs, S, -, -, -⟩ := X
  by_cases q : x = 0
  · exact Goes.of (fun _ kk => XS.ifYes S.here C.1 rfl (pc0 := pc) (pc' := pc') rfl (hb C.2.1 hd) rfl ((if0 _ _).trans (teq q).1) ho.1 ho.2 kk) (Ky q)
  · exact Goes.of (fun _ kk => XS.ifNo S.here C.1 rfl (hb C.2.1 hd) rfl ((if0 _ _).trans (feq q).1) kk) (Kn q)
theorem w_icmp_ne (X : Hr p l e R s m args below meth c n0 h cells slots T) (C : Cx p s m meth c code ml ret own nm Z a0 tabs) {pc : Nat} {Ls : Array Slot} {x y : Int32} {rest : List Value} {o : Int} (hd : decode code pc = .ok (.if_icmp .ne o, 3)) (pc' : Nat) (ho : 0 ≤ (pc : Int) + o ∧ ((pc : Int) + o).toNat = pc') (Ky : ¬ (x = y) → Goes p e below s n0 P k n T (mkF m pc' Ls rest)) (Kn : x = y → Goes p e below s n0 P k n T (mkF m (pc + 3) Ls rest)) : Goes p e below s n0 P k n T (mkF m pc Ls (.int y :: .int x :: rest)) := by
  obtain ⟨locs, S, -, -, -⟩ := X
  by_cases q : x = y
  · exact Goes.of (fun _ kk => XS.icmpNo S.here C.1 rfl (hb C.2.1 hd) rfl (teq q).2 kk) (Kn q)
  · exact Goes.of (fun _ kk => XS.icmpYes S.here C.1 rfl (pc0 := pc) (pc' := pc') rfl (hb C.2.1 hd) rfl (feq q).2 ho.1 ho.2 kk) (Ky q)
theorem w_if_ne (X : Hr p l e R s m args below meth c n0 h cells slots T) (C : Cx p s m meth c code ml ret own nm Z a0 tabs) {pc : Nat} {Ls : Array Slot} {x : Int32} {rest : List Value} {o : Int} (hd : decode code pc = .ok (.ifCond .ne o, 3)) (pc' : Nat) (ho : 0 ≤ (pc : Int) + o ∧ ((pc : Int) + o).toNat = pc') (Ky : ¬ (x = 0) → Goes p e below s n0 P k n T (mkF m pc' Ls rest)) (Kn : x = 0 → Goes p e below s n0 P k n T (mkF m (pc + 3) Ls rest)) : Goes p e below s n0 P k n T (mkF m pc Ls (.int x :: rest)) := by
  obtain ⟨locs, S, -, -, -⟩ := X
  by_cases q : x = 0
  · exact Goes.of (fun _ kk => XS.ifNo S.here C.1 rfl (hb C.2.1 hd) rfl ((if0 _ _).trans (teq q).2) kk) (Kn q)
  · exact Goes.of (fun _ kk => XS.ifYes S.here C.1 rfl (pc0 := pc) (pc' := pc') rfl (hb C.2.1 hd) rfl ((if0 _ _).trans (feq q).2) ho.1 ho.2 kk) (Ky q)
theorem cj_lt (x y : Int64) : cmpJ x y < 0 ↔ x < y := lw_lt x y
theorem cj_gt (x y : Int64) : 0 < cmpJ x y ↔ y < x := lw_gt x y
theorem cj_eq (x y : Int64) : cmpJ x y = 0 ↔ x = y := lw_eq x y
theorem w_ifJ_lt (X : Hr p l e R s m args below meth c n0 h cells slots T) (C : Cx p s m meth c code ml ret own nm Z a0 tabs) {pc : Nat} {Ls : Array Slot} {x y : Int64} {rest : List Value} {o : Int} (hd : decode code pc = .ok (.ifCond .lt o, 3)) (pc' : Nat) (ho : 0 ≤ (pc : Int) + o ∧ ((pc : Int) + o).toNat = pc') (Ky : x < y → Goes p e below s n0 P k n T (mkF m pc' Ls rest)) (Kn : ¬ (x < y) → Goes p e below s n0 P k n T (mkF m (pc + 3) Ls rest)) : Goes p e below s n0 P k n T (mkF m pc Ls (.int (cmpJ x y) :: rest)) :=
  w_if_lt X C hd pc' ho (fun q => Ky ((cj_lt _ _).mp q)) (fun q => Kn (fun r => q ((cj_lt _ _).mpr r)))
theorem w_ifJ_ge (X : Hr p l e R s m args below meth c n0 h cells slots T) (C : Cx p s m meth c code ml ret own nm Z a0 tabs) {pc : Nat} {Ls : Array Slot} {x y : Int64} {rest : List Value} {o : Int} (hd : decode code pc = .ok (.ifCond .ge o, 3)) (pc' : Nat) (ho : 0 ≤ (pc : Int) + o ∧ ((pc : Int) + o).toNat = pc') (Ky : ¬ (x < y) → Goes p e below s n0 P k n T (mkF m pc' Ls rest)) (Kn : x < y → Goes p e below s n0 P k n T (mkF m (pc + 3) Ls rest)) : Goes p e below s n0 P k n T (mkF m pc Ls (.int (cmpJ x y) :: rest)) :=
  w_if_ge X C hd pc' ho (fun q => Ky (fun r => q ((cj_lt _ _).mpr r))) (fun q => Kn ((cj_lt _ _).mp q))
theorem w_ifJ_gt (X : Hr p l e R s m args below meth c n0 h cells slots T) (C : Cx p s m meth c code ml ret own nm Z a0 tabs) {pc : Nat} {Ls : Array Slot} {x y : Int64} {rest : List Value} {o : Int} (hd : decode code pc = .ok (.ifCond .gt o, 3)) (pc' : Nat) (ho : 0 ≤ (pc : Int) + o ∧ ((pc : Int) + o).toNat = pc') (Ky : y < x → Goes p e below s n0 P k n T (mkF m pc' Ls rest)) (Kn : ¬ (y < x) → Goes p e below s n0 P k n T (mkF m (pc + 3) Ls rest)) : Goes p e below s n0 P k n T (mkF m pc Ls (.int (cmpJ x y) :: rest)) :=
  w_if_gt X C hd pc' ho (fun q => Ky ((cj_gt _ _).mp q)) (fun q => Kn (fun r => q ((cj_gt _ _).mpr r)))
theorem w_ifJ_le (X : Hr p l e R s m args below meth c n0 h cells slots T) (C : Cx p s m meth c code ml ret own nm Z a0 tabs) {pc : Nat} {Ls : Array Slot} {x y : Int64} {rest : List Value} {o : Int} (hd : decode code pc = .ok (.ifCond .le o, 3)) (pc' : Nat) (ho : 0 ≤ (pc : Int) + o ∧ ((pc : Int) + o).toNat = pc') (Ky : ¬ (y < x) → Goes p e below s n0 P k n T (mkF m pc' Ls rest)) (Kn : y < x → Goes p e below s n0 P k n T (mkF m (pc + 3) Ls rest)) : Goes p e below s n0 P k n T (mkF m pc Ls (.int (cmpJ x y) :: rest)) :=
  w_if_le X C hd pc' ho (fun q => Ky (fun r => q ((cj_gt _ _).mpr r))) (fun q => Kn ((cj_gt _ _).mp q))
theorem w_ifJ_eq (X : Hr p l e R s m args below meth c n0 h cells slots T) (C : Cx p s m meth c code ml ret own nm Z a0 tabs) {pc : Nat} {Ls : Array Slot} {x y : Int64} {rest : List Value} {o : Int} (hd : decode code pc = .ok (.ifCond .eq o, 3)) (pc' : Nat) (ho : 0 ≤ (pc : Int) + o ∧ ((pc : Int) + o).toNat = pc') (Ky : x = y → Goes p e below s n0 P k n T (mkF m pc' Ls rest)) (Kn : ¬ (x = y) → Goes p e below s n0 P k n T (mkF m (pc + 3) Ls rest)) : Goes p e below s n0 P k n T (mkF m pc Ls (.int (cmpJ x y) :: rest)) :=
  w_if_eq X C hd pc' ho (fun q => Ky ((cj_eq _ _).mp q)) (fun q => Kn (fun r => q ((cj_eq _ _).mpr r)))
theorem w_ifJ_ne (X : Hr p l e R s m args below meth c n0 h cells slots T) (C : Cx p s m meth c code ml ret own nm Z a0 tabs) {pc : Nat} {Ls : Array Slot} {x y : Int64} {rest : List Value} {o : Int} (hd : decode code pc = .ok (.ifCond .ne o, 3)) (pc' : Nat) (ho : 0 ≤ (pc : Int) + o ∧ ((pc : Int) + o).toNat = pc') (Ky : ¬ (x = y) → Goes p e below s n0 P k n T (mkF m pc' Ls rest)) (Kn : x = y → Goes p e below s n0 P k n T (mkF m (pc + 3) Ls rest)) : Goes p e below s n0 P k n T (mkF m pc Ls (.int (cmpJ x y) :: rest)) :=
  w_if_ne X C hd pc' ho (fun q => Ky (fun r => q ((cj_eq _ _).mpr r))) (fun q => Kn ((cj_eq _ _).mp q))
theorem w_ifnull_no (X : Hr p l e R s m args below meth c n0 h cells slots T) (C : Cx p s m meth c code ml ret own nm Z a0 tabs) {pc : Nat} {Ls : Array Slot} {a : Addr} {rest : List Value} {o : Int} (hd : decode code pc = .ok (.ifnull o, 3)) (K : Goes p e below s n0 P k n T (mkF m (pc + 3) Ls rest)) : Goes p e below s n0 P k n T (mkF m pc Ls (.ref a :: rest)) := by
  obtain ⟨locs, S, -, -, -⟩ := X
  exact Goes.of (fun _ kk => XS.ifnullNo S.here C.1 rfl (hb C.2.1 hd) rfl kk) K
theorem w_retI (X : Hr p l e R s m args below meth c n0 h cells slots T) (C : Cx p s m meth c code ml (some .int) own nm Z a0 tabs) {pc : Nat} {Ls : Array Slot} {z : Int32} {rest : List Value} (hd : decode code pc = .ok (.ireturn, 1)) (hP : P (some (.int z)) h) (hk : cells ≤ k := by decide) (hn : slots ≤ n := by decide) : Goes p e below s n0 P k n T (mkF m pc Ls (.int z :: rest)) := by
  obtain ⟨locs, S, eT, N, -⟩ := X
  obtain ⟨fs, hr, hrun, hended, hW, hsame⟩ := S.leave (v := some (.int z)) (fun h => by rw [C.2.2.2.1] at h; cases h) C.2.2.2.2.1
  refine ⟨_, _, retI' S C.1 C.2.2.2.1 (hb C.2.1 hd) hr, hrun, hended, _, _, rfl, ⟨N, ?_⟩, ⟨_, rfl⟩, hW, hsame.mono hk hn⟩
  show P _ T.heap
  rw [eT]
  exact hP
theorem w_ret_boolean (X : Hr p l e R s m args below meth c n0 h cells slots T) (C : Cx p s m meth c code ml (some .boolean) own nm Z a0 tabs) {pc : Nat} {Ls : Array Slot} {z : Int32} {rest : List Value} (hd : decode code pc = .ok (.ireturn, 1)) (hP : P (some (.int (z &&& 1))) h) (hk : cells ≤ k := by decide) (hn : slots ≤ n := by decide) : Goes p e below s n0 P k n T (mkF m pc Ls (.int z :: rest)) := by
  obtain ⟨locs, S, eT, N, -⟩ := X
  obtain ⟨fs, hr, hrun, hended, hW, hsame⟩ := S.leave (v := some (.int (z &&& 1))) (fun h => by rw [C.2.2.2.1] at h; cases h) C.2.2.2.2.1
  refine ⟨_, _, retN S C.1 (t := .boolean) C.2.2.2.1 (by simp) (hb C.2.1 hd) hr, hrun, hended, _, _, rfl, ⟨N, ?_⟩, ⟨_, rfl⟩, hW, hsame.mono hk hn⟩
  show P _ T.heap
  rw [eT]
  exact hP
theorem w_ret_byte (X : Hr p l e R s m args below meth c n0 h cells slots T) (C : Cx p s m meth c code ml (some .byte) own nm Z a0 tabs) {pc : Nat} {Ls : Array Slot} {z : Int32} {rest : List Value} (hd : decode code pc = .ok (.ireturn, 1)) (hP : P (some (.int (i8 z))) h) (hk : cells ≤ k := by decide) (hn : slots ≤ n := by decide) : Goes p e below s n0 P k n T (mkF m pc Ls (.int z :: rest)) := by
  obtain ⟨locs, S, eT, N, -⟩ := X
  obtain ⟨fs, hr, hrun, hended, hW, hsame⟩ := S.leave (v := some (.int (i8 z))) (fun h => by rw [C.2.2.2.1] at h; cases h) C.2.2.2.2.1
  refine ⟨_, _, retN S C.1 (t := .byte) C.2.2.2.1 (by simp) (hb C.2.1 hd) hr, hrun, hended, _, _, rfl, ⟨N, ?_⟩, ⟨_, rfl⟩, hW, hsame.mono hk hn⟩
  show P _ T.heap
  rw [eT]
  exact hP
theorem w_ret_char (X : Hr p l e R s m args below meth c n0 h cells slots T) (C : Cx p s m meth c code ml (some .char) own nm Z a0 tabs) {pc : Nat} {Ls : Array Slot} {z : Int32} {rest : List Value} (hd : decode code pc = .ok (.ireturn, 1)) (hP : P (some (.int (i16c z))) h) (hk : cells ≤ k := by decide) (hn : slots ≤ n := by decide) : Goes p e below s n0 P k n T (mkF m pc Ls (.int z :: rest)) := by
  obtain ⟨locs, S, eT, N, -⟩ := X
  obtain ⟨fs, hr, hrun, hended, hW, hsame⟩ := S.leave (v := some (.int (i16c z))) (fun h => by rw [C.2.2.2.1] at h; cases h) C.2.2.2.2.1
  refine ⟨_, _, retN S C.1 (t := .char) C.2.2.2.1 (by simp) (hb C.2.1 hd) hr, hrun, hended, _, _, rfl, ⟨N, ?_⟩, ⟨_, rfl⟩, hW, hsame.mono hk hn⟩
  show P _ T.heap
  rw [eT]
  exact hP
theorem w_retJ (X : Hr p l e R s m args below meth c n0 h cells slots T) (C : Cx p s m meth c code ml (some .long) own nm Z a0 tabs) {pc : Nat} {Ls : Array Slot} {z : Int64} (hd : decode code pc = .ok (.lreturn, 1)) (hP : P (some (.long z)) h) (hk : cells ≤ k := by decide) (hn : slots ≤ n := by decide) : Goes p e below s n0 P k n T (mkF m pc Ls [.long z]) := by
  obtain ⟨locs, S, eT, N, -⟩ := X
  obtain ⟨fs, hr, hrun, hended, hW, hsame⟩ := S.leave (v := some (.long z)) (fun h => by rw [C.2.2.2.1] at h; cases h) C.2.2.2.2.1
  refine ⟨_, _, S.lreturnOut C.1 C.2.2.2.1 (hb C.2.1 hd) hr, hrun, hended, _, _, rfl, ⟨N, ?_⟩, ⟨_, rfl⟩, hW, hsame.mono hk hn⟩
  show P _ T.heap
  rw [eT]
  exact hP
theorem w_retR (X : Hr p l e R s m args below meth c n0 h cells slots T) (C : Cx p s m meth c code ml ret own nm Z a0 tabs) {pc : Nat} {Ls : Array Slot} {t : FieldType} {a : Addr} {rest : List Value} (ht : t.isReference = true) (hret : ret = some t) (hd : decode code pc = .ok (.areturn, 1)) (hP : P (some (.ref a)) h) (hk : cells ≤ k := by decide) (hn : slots ≤ n := by decide) : Goes p e below s n0 P k n T (mkF m pc Ls (.ref a :: rest)) := by
  subst hret
  obtain ⟨locs, S, eT, N, -⟩ := X
  obtain ⟨fs, hr, hrun, hended, hW, hsame⟩ := S.leave (v := some (.ref a)) (fun h => by rw [C.2.2.2.1] at h; cases h) C.2.2.2.2.1
  refine ⟨_, _, retOut S C.1 C.2.2.2.1 (by cases t <;> rfl) (Or.inr (Or.inr (Or.inr (Or.inr ⟨rfl, ht, rfl⟩)))) (hb C.2.1 hd) hr, hrun, hended, _, _, rfl, ⟨N, ?_⟩, ⟨_, rfl⟩, hW, hsame.mono hk hn⟩
  show P _ T.heap
  rw [eT]
  exact hP
theorem w_retV (X : Hr p l e R s m args below meth c n0 h cells slots T) (C : Cx p s m meth c code ml none own nm Z a0 tabs) {pc : Nat} {Ls : Array Slot} (hd : decode code pc = .ok (.return_, 1)) (hP : P none h) (hk : cells ≤ k := by decide) (hn : slots ≤ n := by decide) : Goes p e below s n0 P k n T (mkF m pc Ls []) := by
  obtain ⟨locs, S, eT, N, -⟩ := X
  obtain ⟨fs, hr, hrun, hended, hW, hsame⟩ := S.leave (v := none) (fun _ => rfl) C.2.2.2.2.1
  refine ⟨_, _, S.returnOut C.1 C.2.2.2.1 (hb C.2.1 hd) hr, hrun, hended, _, _, rfl, ⟨N, ?_⟩, ⟨_, rfl⟩, hW, hsame.mono hk hn⟩
  show P _ T.heap
  rw [eT]
  exact hP
theorem w_callS (X : Hr p l e R s m args below meth c n0 h cells slots T) (C : Cx p s m meth c code ml ret own nm Z a0 tabs) {pc index : Nat} {Ls : Array Slot} {y : MethodName} {bytes : ByteArray} {maxL : Nat} {rt : Option FieldType} {rm : Room} {P' : Option Value → Heap → Prop} {argsL rest st : List Value} (hd : decode code pc = .ok (.invokestatic index, 3)) (i1 : Jvm.Cond.methodLink own index y ∈ tabs) (i2 : Jvm.Cond.static y ∈ tabs) (i3 : Jvm.Cond.initialized y.cls ∈ tabs) (i4 : Jvm.Cond.code y bytes maxL rt ∈ tabs) (hy : y.cls ≠ "java/lang/invoke/MethodHandle" ∧ y.cls ≠ "java/lang/invoke/VarHandle") {W : Nat} (hM : Ct l y bytes maxL rt rm Z argsL.toArray h n0 P') (hls : Ls.size = ml) (hlen : ∃ ps r, parseMethodDescriptor y.desc = some ⟨ps, r⟩ ∧ argsL.length = ps.length) (hst : st = argsL.reverse ++ rest) (hW : (rest.map fun v => v.category).sum ≤ W) (hf : rm.frames + 1 ≤ R.frames) (hl : W + (maxL + 11) + rm.locals ≤ R.locals) (hc : cells + rm.cells ≤ R.cells) (hs : slots + rm.slots ≤ R.slots)
    (K : ∀ v T', P' v T'.heap → Hr p l e R s m args below meth c n0 T'.heap (cells + rm.cells) (slots + rm.slots) T' → Goes p e below s n0 P k n T' (mkF m (pc + 3) Ls (v.toList ++ rest))) : Goes p e below s n0 P k n T (mkF m pc Ls st) := by
  obtain ⟨locs, S, eT, N, q0⟩ := X
  obtain ⟨ps, r, hp1, hp2⟩ := hlen
  have hZ := C.2.2.2.2.2.2.2.1
  have hw := C.2.2.2.2.2.2.2.2
  obtain ⟨v, _, ⟨T', L', k', n'⟩, -, X', ⟨Lc, hQ, l1, l2, l3⟩, stp⟩ := Jvm.LawKit.callS S C.1 (y := y) C.2.2.2.2.2.1 (mvT hZ (hw _ i1)) (mvT hZ (hw _ i2)) (mvT hZ (hw _ i3)) (mvT hZ (hw _ i4)) hy (backOf (W := W) (Q := fun v hp L => Fr n0 L ∧ P' v hp) (hM []) C.2.2.2.2.2.2.2.1 (C.2.2.2.2.2.2.2.2 _ i4) (C.2.2.2.2.2.2.2.2 _ i3) hf hl) (g := mkF m pc Ls st) rfl (by rw [C.2.2.1]; exact hls) (argsL := argsL) (rest := rest) (lenOf hp1 hp2) hst (by show 2 * 0 + _ ≤ _; rw [Nat.mul_zero, Nat.zero_add]; exact hW) (hb C.2.1 hd) (fun _ _ => ⟨rfl, eT, hc, hs⟩)
  dsimp only [Pt.U, Pt.locs, Pt.cells, Pt.slots] at X' l1 l2 l3 stp hQ
  subst l1 l2 l3
  exact Goes.of stp (K v T' hQ.2 ⟨_, X', rfl, Fr.app N hQ.1, q0⟩)
theorem w_callI (X : Hr p l e R s m args below meth c n0 h cells slots T) (C : Cx p s m meth c code ml ret own nm Z a0 tabs) {pc index : Nat} {Ls : Array Slot} {y : MethodName} {bytes : ByteArray} {maxL : Nat} {rm : Room} {P' : Option Value → Heap → Prop} {a : Addr} {argsL rest st : List Value} (hd : decode code pc = .ok (.invokespecial index, 3)) (i1 : Jvm.Cond.methodLink own index y ∈ tabs) (i2 : Jvm.Cond.instanceMethod y ∈ tabs) (i3 : Jvm.Cond.initialized y.cls ∈ tabs) (i4 : Jvm.Cond.code y bytes maxL none ∈ tabs) (hn1 : y.name = "<init>") (hy : y.cls ≠ "java/lang/invoke/MethodHandle" ∧ y.cls ≠ "java/lang/invoke/VarHandle") {W : Nat} (hM : Ct l y bytes maxL none rm Z (.ref a :: argsL).toArray h n0 P') (hls : Ls.size = ml) (hlen : ∃ ps r, parseMethodDescriptor y.desc = some ⟨ps, r⟩ ∧ argsL.length = ps.length) (hst : st = argsL.reverse ++ .ref a :: rest) (hW : (rest.map fun v => v.category).sum ≤ W) (hf : rm.frames + 1 ≤ R.frames) (hl : W + (maxL + 11) + rm.locals ≤ R.locals) (hc : cells + rm.cells ≤ R.cells) (hs : slots + rm.slots ≤ R.slots)
    (K : ∀ v T', P' v T'.heap → Hr p l e R s m args below meth c n0 T'.heap (cells + rm.cells) (slots + rm.slots) T' → Goes p e below s n0 P k n T' (mkF m (pc + 3) Ls (v.toList ++ rest))) : Goes p e below s n0 P k n T (mkF m pc Ls st) := by
  obtain ⟨locs, S, eT, N, q0⟩ := X
  obtain ⟨ps, r, hp1, hp2⟩ := hlen
  have hZ := C.2.2.2.2.2.2.2.1
  have hw := C.2.2.2.2.2.2.2.2
  obtain ⟨v, _, ⟨T', L', k', n'⟩, -, X', ⟨Lc, hQ, l1, l2, l3⟩, stp⟩ := S.specialBack C.1 (y := y) hn1 C.2.2.2.2.2.1 (mvT hZ (hw _ i1)) (mvT hZ (hw _ i2)) (mvT hZ (hw _ i4)) hy (backOf (W := W) (Q := fun v hp L => Fr n0 L ∧ P' v hp) (hM []) C.2.2.2.2.2.2.2.1 (C.2.2.2.2.2.2.2.2 _ i4) (C.2.2.2.2.2.2.2.2 _ i3) hf hl) (g := mkF m pc Ls st) rfl (by rw [C.2.2.1]; exact hls) (Steps.refl _) (a := a) (argsL := argsL) (rest := rest) (lenOf hp1 hp2) hst (by show 2 * 0 + _ ≤ _; rw [Nat.mul_zero, Nat.zero_add]; exact hW) (hb C.2.1 hd) (fun _ _ => ⟨rfl, eT, hc, hs⟩)
  dsimp only [Pt.U, Pt.locs, Pt.cells, Pt.slots] at X' l1 l2 l3 stp hQ
  subst l1 l2 l3
  exact Goes.of (fun _ kk => stp.trans kk) (K v T' hQ.2 ⟨_, X', rfl, Fr.app N hQ.1, q0⟩)
theorem w_callV (X : Hr p l e R s m args below meth c n0 h cells slots T) (C : Cx p s m meth c code ml ret own nm Z a0 tabs) {pc index : Nat} {Ls : Array Slot} {y : MethodName} {bytes : ByteArray} {maxL : Nat} {rt : Option FieldType} {rm : Room} {P' : Option Value → Heap → Prop} {a : Addr} {argsL rest st : List Value} (hd : decode code pc = .ok (.invokevirtual index, 3)) (i1 : Jvm.Cond.methodLink own index y ∈ tabs) (i2 : Jvm.Cond.instanceMethod y ∈ tabs) (i3 : Jvm.Cond.initialized y.cls ∈ tabs) (i4 : Jvm.Cond.code y bytes maxL rt ∈ tabs) (i5 : Jvm.Cond.declares y ∈ tabs) (i6 : Jvm.Cond.selects y.cls y y ∈ tabs) (E : Exa Z h a y.cls) (hy : y.cls ≠ "java/lang/invoke/MethodHandle" ∧ y.cls ≠ "java/lang/invoke/VarHandle") {W : Nat} (hM : Ct l y bytes maxL rt rm Z (.ref a :: argsL).toArray h n0 P') (hls : Ls.size = ml) (hlen : ∃ ps r, parseMethodDescriptor y.desc = some ⟨ps, r⟩ ∧ argsL.length = ps.length) (hst : st = argsL.reverse ++ .ref a :: rest) (hW : (rest.map fun v => v.category).sum ≤ W) (hf : rm.frames + 1 ≤ R.frames) (hl : W + (maxL + 11) + rm.locals ≤ R.locals) (hc : cells + rm.cells ≤ R.cells) (hs : slots + rm.slots ≤ R.slots)
    (K : ∀ v T', P' v T'.heap → Hr p l e R s m args below meth c n0 T'.heap (cells + rm.cells) (slots + rm.slots) T' → Goes p e below s n0 P k n T' (mkF m (pc + 3) Ls (v.toList ++ rest))) : Goes p e below s n0 P k n T (mkF m pc Ls st) := by
  obtain ⟨locs, S, eT, N, q0⟩ := X
  obtain ⟨ps, r, hp1, hp2⟩ := hlen
  have hZ := C.2.2.2.2.2.2.2.1
  have hw := C.2.2.2.2.2.2.2.2
  obtain ⟨cB, kB, qa, qb, qc⟩ := isOf hZ eT E
  obtain ⟨v, _, ⟨T', L', k', n'⟩, -, X', ⟨Lc, hQ, l1, l2, l3⟩, stp⟩ := S.virtualBack C.1 (y := y) (z := y) C.2.2.2.2.2.1 (mvT hZ (hw _ i1)) (mvT hZ (hw _ i5)) (notFace_of_selects (args := #[]) (mvT hZ (hw _ i6))) (mvT hZ (hw _ i6)) (mvT hZ (hw _ i2)) hy (backOf (W := W) (Q := fun v hp L => Fr n0 L ∧ P' v hp) (hM []) C.2.2.2.2.2.2.2.1 (C.2.2.2.2.2.2.2.2 _ i4) (C.2.2.2.2.2.2.2.2 _ i3) hf hl) qa qc (g := mkF m pc Ls st) rfl (by rw [C.2.2.1]; exact hls) (Steps.refl _) (argsL := argsL) (rest := rest) (lenOf hp1 hp2) hst (by show 2 * 0 + _ ≤ _; rw [Nat.mul_zero, Nat.zero_add]; exact hW) (hb C.2.1 hd) (fun _ _ => ⟨rfl, eT, hc, hs⟩)
  dsimp only [Pt.U, Pt.locs, Pt.cells, Pt.slots] at X' l1 l2 l3 stp hQ
  subst l1 l2 l3
  exact Goes.of (fun _ kk => stp.trans kk) (K v T' hQ.2 ⟨_, X', rfl, Fr.app N hQ.1, q0⟩)
theorem w_callP (X : Hr p l e R s m args below meth c n0 h cells slots T) (C : Cx p s m meth c code ml ret own nm Z a0 tabs) {pc index : Nat} {Ls : Array Slot} {y : MethodName} {bytes : ByteArray} {maxL : Nat} {rt : Option FieldType} {rm : Room} {w : Value} {argsL rest st : List Value} {W : Nat} (hd : decode code pc = .ok (.invokestatic index, 3)) (i1 : Jvm.Cond.methodLink own index y ∈ tabs) (i2 : Jvm.Cond.static y ∈ tabs) (i3 : Jvm.Cond.initialized y.cls ∈ tabs) (i4 : Jvm.Cond.code y bytes maxL rt ∈ tabs) (hy : y.cls ≠ "java/lang/invoke/MethodHandle" ∧ y.cls ≠ "java/lang/invoke/VarHandle") (hM : Ct l y bytes maxL rt rm Z argsL.toArray h n0 (fun v hp => v = some w ∧ hp = h)) (hr0 : rm.cells = 0) (hr1 : rm.slots = 0) (hls : Ls.size = ml) (hlen : ∃ ps r, parseMethodDescriptor y.desc = some ⟨ps, r⟩ ∧ argsL.length = ps.length) (hst : st = argsL.reverse ++ rest) (hW : (rest.map fun v => v.category).sum ≤ W) (hf : rm.frames + 1 ≤ R.frames) (hl : W + (maxL + 11) + rm.locals ≤ R.locals) (hc : cells ≤ R.cells) (hs : slots ≤ R.slots)
    (K : ∀ T', Hr p l e R s m args below meth c n0 h cells slots T' → Goes p e below s n0 P k n T' (mkF m (pc + 3) Ls (w :: rest))) : Goes p e below s n0 P k n T (mkF m pc Ls st) := by
  refine w_callS X C hd i1 i2 i3 i4 hy hM hls hlen hst hW hf hl (by rw [hr0]; exact hc) (by rw [hr1]; exact hs) ?_
  rintro v T' ⟨rfl, e1⟩ X'
  rw [e1, hr0, hr1] at X'
  exact K T' X'
theorem w_initO (X : Hr p l e R s m args below meth c n0 h cells slots T) (C : Cx p s m meth c code ml ret own nm Z a0 tabs) {pc index : Nat} {Ls : Array Slot} {a : Addr} {rest : List Value} (hd : decode code pc = .ok (.invokespecial index, 3)) (i1 : Jvm.Cond.methodLink own index Lib.objectInit ∈ tabs) (i2 : Jvm.Cond.instanceMethod Lib.objectInit ∈ tabs) (i3 : Jvm.Cond.code Lib.objectInit ⟨#[0xb1]⟩ 1 none ∈ tabs) (hls : Ls.size = ml) {W : Nat} (hW : (rest.map fun v => v.category).sum ≤ W) (hf : 1 ≤ R.frames) (hl : W + 12 ≤ R.locals)
    (K : ∀ T', Hr p l e R s m args below meth c n0 h cells slots T' → Goes p e below s n0 P k n T' (mkF m (pc + 3) Ls rest)) : Goes p e below s n0 P k n T (mkF m pc Ls (.ref a :: rest)) := by
  obtain ⟨locs, S, eT, N, q0⟩ := X
  have hZ := C.2.2.2.2.2.2.2.1
  have hw := C.2.2.2.2.2.2.2.2
  obtain ⟨T', X', e', st⟩ := initO S C.1 hZ C.2.2.2.2.2.1 (hw _ i1) (hw _ i2) (hw _ i3) eT (g := mkF m pc Ls (.ref a :: rest)) rfl (by rw [C.2.2.1]; exact hls) rfl (hb C.2.1 hd) hf (W := W) (by show 2 * 0 + _ ≤ _; rw [Nat.mul_zero, Nat.zero_add]; exact hW) hl
  exact Goes.of st (K T' ⟨_, X', e', N, q0⟩)
theorem w_getfield (X : Hr p l e R s m args below meth c n0 h cells slots T) (C : Cx p s m meth c code ml ret own nm Z a0 tabs) {pc index : Nat} {Ls : Array Slot} {O nf d : String} {a : Addr} {v : Value} {rest : List Value} (hd : decode code pc = .ok (.getfield index, 3)) (i1 : Jvm.Cond.fieldLink own index O nf d ∈ tabs) (F : Fld Z h a O nf d v)
    (K : ∀ T', Hr p l e R s m args below meth c n0 h cells slots T' → Goes p e below s n0 P k n T' (mkF m (pc + 3) Ls (v :: rest))) : Goes p e below s n0 P k n T (mkF m pc Ls (.ref a :: rest)) := by
  obtain ⟨locs, S, eT, N, q0⟩ := X
  obtain ⟨T', X', e', st⟩ := getF S C.1 C.2.2.2.2.2.2.2.1 C.2.2.2.2.2.1 (host := "") (Or.inl (C.2.2.2.2.2.2.2.2 _ i1)) Via.refl eT F (g := mkF m pc Ls (.ref a :: rest)) rfl rfl (hb C.2.1 hd)
  exact Goes.of st (K T' ⟨_, X', e', N, q0⟩)
theorem w_putfield (X : Hr p l e R s m args below meth c n0 h cells slots T) (C : Cx p s m meth c code ml ret own nm Z a0 tabs) {pc index kk0 : Nat} {Ls : Array Slot} {O nf d Cc : String} {ty : FieldType} {a : Addr} {v old : Value} {rest : List Value} (hd : decode code pc = .ok (.putfield index, 3)) (i1 : Jvm.Cond.fieldLink own index O nf d ∈ tabs) (F : Fld Z h a O nf d old) (E : Exa Z h a Cc) (i2 : Jvm.Cond.lays Cc O nf d ∈ tabs ∨ (Jvm.Cond.laysFinal Cc O nf d ∈ tabs ∧ own = O ∧ nm = "<init>")) (i3 : Jvm.Cond.instantiable Cc kk0 ∈ tabs) (hty : parseFieldDescriptor d = some ty) (hnw : narrow ty v = v) (hft : fits ty v = true) (ha : n0 ≤ a)
    (K : ∀ T' h', Hr p l e R s m args below meth c n0 h' cells slots T' → Wr h h' a (Jvm.RoadKit.slotOf Z O nf d) v → Fld Z h' a O nf d v → Exa Z h' a Cc → Goes p e below s n0 P k n T' (mkF m (pc + 3) Ls rest)) : Goes p e below s n0 P k n T (mkF m pc Ls (v :: .ref a :: rest)) := by
  obtain ⟨locs, S, eT, N, q0⟩ := X
  have hw := C.2.2.2.2.2.2.2.2
  obtain ⟨T', h', X', e', W', st⟩ := putF S C.1 C.2.2.2.2.2.2.2.1 C.2.2.2.2.2.1 (host := "") (Or.inl (hw _ i1)) Via.refl eT F E (i2.imp (fun q => hw _ q) (fun q => ⟨hw _ q.1, q.2.1, by rw [C.2.2.2.2.2.2.1]; exact q.2.2⟩)) (hw _ i3) hty hnw hft (g := mkF m pc Ls (v :: .ref a :: rest)) rfl rfl (hb C.2.1 hd)
  exact Goes.of st (K T' h' ⟨_, X', e', Fr.snoc X' N ha, q0⟩ W' (F.same W') (E.wr W'))
theorem w_new (X : Hr p l e R s m args below meth c n0 h cells slots T) (C : Cx p s m meth c code ml ret own nm Z a0 tabs) {pc index nn : Nat} {Ls : Array Slot} {Cc : String} {rest : List Value} (hd : decode code pc = .ok (.new index, 3)) (i1 : Jvm.Cond.classLink own index Cc ∈ tabs) (i2 : Jvm.Cond.instantiable Cc nn ∈ tabs) (i3 : Jvm.Cond.initialized Cc ∈ tabs) (hc : cells + 1 ≤ R.cells) (hl : slots + nn ≤ R.slots)
    (K : ∀ T' h' a, a = h.size → n0 ≤ a → Hr p l e R s m args below meth c n0 h' (cells + 1) (slots + nn) T' → Ext h h' → Exa Z h' a Cc → (∀ {O nf d : String} {ty : FieldType}, (Jvm.Cond.lays Cc O nf d ∈ tabs ∨ Jvm.Cond.laysFinal Cc O nf d ∈ tabs) → parseFieldDescriptor d = some ty → Fld Z h' a O nf d (defaultValue ty)) → Goes p e below s n0 P k n T' (mkF m (pc + 3) Ls (.ref a :: rest))) : Goes p e below s n0 P k n T (mkF m pc Ls rest) := by
  have hsz := X.size
  obtain ⟨locs, S, eT, N, q0⟩ := X
  have hw := C.2.2.2.2.2.2.2.2
  obtain ⟨T', h', X', e', E', A', D', -, st⟩ := newO S C.1 C.2.2.2.2.2.2.2.1 C.2.2.2.2.2.1 (hw _ i1) (hw _ i2) (hw _ i3) eT (g := mkF m pc Ls rest) rfl (hb C.2.1 hd) hc hl
  exact Goes.of st (K T' h' h.size rfl hsz ⟨_, X', e', N, q0⟩ E' A' (fun q ht => D' (q.imp (fun z => hw _ z) (fun z => hw _ z)) ht))
theorem ArV.lt {a : Addr} {ty : FieldType} {N : Nat} {f : Nat → Value} (A : ArV Z h a ty N f) : a < h.size := by obtain ⟨cl, A, -⟩ := A; exact A.lt
theorem ArV.ext {a : Addr} {ty : FieldType} {N : Nat} {f : Nat → Value} (A : ArV Z h a ty N f) (E : Ext h h') : ArV Z h' a ty N f := by obtain ⟨cl, A, r⟩ := A; exact ⟨cl, A.ext E, r⟩
theorem ArV.other {a b : Addr} {ty : FieldType} {N sl : Nat} {v : Value} {f : Nat → Value} (A : ArV Z h b ty N f) (W : Wr h h' a sl v) (q : b ≠ a) : ArV Z h' b ty N f := by obtain ⟨cl, A, r⟩ := A; exact ⟨cl, A.other W q, r⟩
theorem ArV.keep {a : Addr} {ty : FieldType} {N : Nat} {f : Nat → Value} {ws : List Addr} (A : ArV Z h a ty N f) (K : Keep h h' ws) (q : a ∉ ws) : ArV Z h' a ty N f := by obtain ⟨c, A, r⟩ := A; exact ⟨c, ⟨K.2.1 a c A.1 q, A.2⟩, r⟩
theorem ArV.congr {a : Addr} {ty : FieldType} {N : Nat} {f f' : Nat → Value} (A : ArV Z h a ty N f) (q : ∀ i, i < N → f' i = f i) : ArV Z h a ty N f' := by obtain ⟨c, A, r1, r2⟩ := A; exact ⟨c, A, r1, fun i hi => by rw [q i hi]; exact r2 i hi⟩
theorem ArV.same {a : Addr} {ty : FieldType} {N j : Nat} {v : Value} {f : Nat → Value} (A : ArV Z h a ty N f) (W : Wr h h' a j v) : ArV Z h' a ty N (up f j v) := by
  obtain ⟨c, A, r1, r2⟩ := A
  refine ⟨_, A.same W, by rw [sz_set]; exact r1, fun i hi => ?_⟩
  unfold up
  by_cases q : i = j
  · subst q; simp [Cell.setSlot, r1, hi]
  · simp only [q, if_false, Cell.setSlot]
    rw [Array.getElem?_setIfInBounds_ne (fun z => q z.symm)]
    exact r2 i hi
theorem up_int (g : Nat → Int32) (j : Nat) (x : Int32) : (fun i => Value.int (up g j x i)) = up (fun i => Value.int (g i)) j (.int x) := by
  funext i; unfold up; split <;> rfl
theorem up_long (g : Nat → Int64) (j : Nat) (x : Int64) : (fun i => Value.long (up g j x i)) = up (fun i => Value.long (g i)) j (.long x) := by
  funext i; unfold up; split <;> rfl
theorem in_of {a : Addr} {ty : FieldType} {N i : Nat} {j : Int32} {cl : Cell} (hi : j.toInt = i) (hN : i < N) (r1 : cl.slots.size = N) : ¬ (j < 0 ∨ cl.slots.size ≤ j.toNatClampNeg) ∧ j.toNatClampNeg = i := by
  have e0 : (0 : Int32).toInt = 0 := rfl
  have e1 : j.toNatClampNeg = i := by simp only [Int32.toNatClampNeg, hi]; omega
  refine ⟨?_, e1⟩
  rw [e1, r1, Int32.lt_iff_toInt_lt, e0]; omega
theorem w_baload (X : Hr p l e R s m args below meth c n0 h cells slots T) (C : Cx p s m meth c code ml ret own nm Z a0 tabs) {pc N : Nat} {Ls : Array Slot} {a : Addr} {g : Nat → Int32} {j : Int32} {rest : List Value} (hd : decode code pc = .ok (.baload, 1)) (A : ArI Z h a .byte N g) (i : Nat) (hi : j.toInt = i) (hN : i < N) (K : Goes p e below s n0 P k n T (mkF m (pc + 1) Ls (.int (g i) :: rest))) : Goes p e below s n0 P k n T (mkF m pc Ls (.int j :: .ref a :: rest)) := by
  obtain ⟨locs, S, eT, N0, q0⟩ := X
  obtain ⟨cl, Ar, r1, r2⟩ := A
  obtain ⟨hin, e1⟩ := in_of (a := a) (ty := .byte) hi hN r1
  exact Goes.of (fun _ kk => S.baloadBytes C.1 (j := j) (v := .int (g i)) (by rw [eT]; exact Ar.1) (State.isArrayOf_alike C.2.2.2.2.2.2.2.1.alike Ar.2.1) Ar.2.2 hin (by rw [e1]; exact r2 i hN) (g := mkF m pc Ls (.int j :: .ref a :: rest)) rfl rfl (hb C.2.1 hd) _ kk) K
theorem w_iaload (X : Hr p l e R s m args below meth c n0 h cells slots T) (C : Cx p s m meth c code ml ret own nm Z a0 tabs) {pc N : Nat} {Ls : Array Slot} {a : Addr} {g : Nat → Int32} {j : Int32} {rest : List Value} (hd : decode code pc = .ok (.iaload, 1)) (A : ArI Z h a .int N g) (i : Nat) (hi : j.toInt = i) (hN : i < N) (K : Goes p e below s n0 P k n T (mkF m (pc + 1) Ls (.int (g i) :: rest))) : Goes p e below s n0 P k n T (mkF m pc Ls (.int j :: .ref a :: rest)) := by
  obtain ⟨locs, S, eT, N0, q0⟩ := X
  obtain ⟨cl, Ar, r1, r2⟩ := A
  obtain ⟨hin, e1⟩ := in_of (a := a) (ty := .int) hi hN r1
  exact Goes.of (fun _ kk => S.iaload C.1 (j := j) (v := .int (g i)) (by rw [eT]; exact Ar.1) (State.isArrayOf_alike C.2.2.2.2.2.2.2.1.alike Ar.2.1) Ar.2.2 hin (by rw [e1]; exact r2 i hN) (g := mkF m pc Ls (.int j :: .ref a :: rest)) rfl rfl (hb C.2.1 hd) _ kk) K
theorem w_laload (X : Hr p l e R s m args below meth c n0 h cells slots T) (C : Cx p s m meth c code ml ret own nm Z a0 tabs) {pc N : Nat} {Ls : Array Slot} {a : Addr} {g : Nat → Int64} {j : Int32} {rest : List Value} (hd : decode code pc = .ok (.laload, 1)) (A : ArJ Z h a N g) (i : Nat) (hi : j.toInt = i) (hN : i < N) (K : Goes p e below s n0 P k n T (mkF m (pc + 1) Ls (.long (g i) :: rest))) : Goes p e below s n0 P k n T (mkF m pc Ls (.int j :: .ref a :: rest)) := by
  obtain ⟨locs, S, eT, N0, q0⟩ := X
  obtain ⟨cl, Ar, r1, r2⟩ := A
  obtain ⟨hin, e1⟩ := in_of (a := a) (ty := .long) hi hN r1
  exact Goes.of (fun _ kk => S.laload C.1 (j := j) (v := .long (g i)) (by rw [eT]; exact Ar.1) (State.isArrayOf_alike C.2.2.2.2.2.2.2.1.alike Ar.2.1) Ar.2.2 hin (by rw [e1]; exact r2 i hN) (g := mkF m pc Ls (.int j :: .ref a :: rest)) rfl rfl (hb C.2.1 hd) _ kk) K
theorem w_bastore (X : Hr p l e R s m args below meth c n0 h cells slots T) (C : Cx p s m meth c code ml ret own nm Z a0 tabs) {pc N : Nat} {Ls : Array Slot} {a : Addr} {g : Nat → Int32} {j : Int32} {x : Int32} {rest : List Value} (hd : decode code pc = .ok (.bastore, 1)) (A : ArI Z h a .byte N g) (i : Nat) (hi : j.toInt = i) (hN : i < N) (ha : n0 ≤ a)
    (K : ∀ T' h', Hr p l e R s m args below meth c n0 h' cells slots T' → Wr h h' a i (.int (i8 x)) → ArI Z h' a .byte N (up g i (i8 x)) → Goes p e below s n0 P k n T' (mkF m (pc + 1) Ls rest)) : Goes p e below s n0 P k n T (mkF m pc Ls (.int x :: .int j :: .ref a :: rest)) := by
  obtain ⟨locs, S, eT, N0, q0⟩ := X
  obtain ⟨cl, Ar, r1, r2⟩ := A
  obtain ⟨hin, e1⟩ := in_of (a := a) (ty := .byte) hi hN r1
  obtain ⟨T', h', X', e', W', st⟩ := stB S C.1 C.2.2.2.2.2.2.2.1 eT Ar (j := j) hin (g := mkF m pc Ls (.int x :: .int j :: .ref a :: rest)) rfl rfl (hb C.2.1 hd)
  rw [e1] at W'
  refine Goes.of st (K T' h' ⟨_, X', e', Fr.snoc X' N0 ha, q0⟩ W' ?_)
  have q := ArV.same ⟨cl, Ar, r1, r2⟩ W'
  rw [← (show (fun i_1 => Value.int (up g i (i8 x) i_1)) = up (fun i => Value.int (g i)) i (.int (nar .byte x)) from up_int g i (i8 x))] at q
  exact q
theorem w_iastore (X : Hr p l e R s m args below meth c n0 h cells slots T) (C : Cx p s m meth c code ml ret own nm Z a0 tabs) {pc N : Nat} {Ls : Array Slot} {a : Addr} {g : Nat → Int32} {j : Int32} {x : Int32} {rest : List Value} (hd : decode code pc = .ok (.iastore, 1)) (A : ArI Z h a .int N g) (i : Nat) (hi : j.toInt = i) (hN : i < N) (ha : n0 ≤ a)
    (K : ∀ T' h', Hr p l e R s m args below meth c n0 h' cells slots T' → Wr h h' a i (.int (x)) → ArI Z h' a .int N (up g i (x)) → Goes p e below s n0 P k n T' (mkF m (pc + 1) Ls rest)) : Goes p e below s n0 P k n T (mkF m pc Ls (.int x :: .int j :: .ref a :: rest)) := by
  obtain ⟨locs, S, eT, N0, q0⟩ := X
  obtain ⟨cl, Ar, r1, r2⟩ := A
  obtain ⟨hin, e1⟩ := in_of (a := a) (ty := .int) hi hN r1
  obtain ⟨T', h', X', e', W', st⟩ := stI S C.1 C.2.2.2.2.2.2.2.1 eT Ar (j := j) hin (g := mkF m pc Ls (.int x :: .int j :: .ref a :: rest)) rfl rfl (hb C.2.1 hd)
  rw [e1] at W'
  refine Goes.of st (K T' h' ⟨_, X', e', Fr.snoc X' N0 ha, q0⟩ W' ?_)
  have q := ArV.same ⟨cl, Ar, r1, r2⟩ W'
  rw [← up_int] at q
  exact q
theorem w_lastore (X : Hr p l e R s m args below meth c n0 h cells slots T) (C : Cx p s m meth c code ml ret own nm Z a0 tabs) {pc N : Nat} {Ls : Array Slot} {a : Addr} {g : Nat → Int64} {j : Int32} {x : Int64} {rest : List Value} (hd : decode code pc = .ok (.lastore, 1)) (A : ArJ Z h a N g) (i : Nat) (hi : j.toInt = i) (hN : i < N) (ha : n0 ≤ a)
    (K : ∀ T' h', Hr p l e R s m args below meth c n0 h' cells slots T' → Wr h h' a i (.long (x)) → ArJ Z h' a N (up g i (x)) → Goes p e below s n0 P k n T' (mkF m (pc + 1) Ls rest)) : Goes p e below s n0 P k n T (mkF m pc Ls (.long x :: .int j :: .ref a :: rest)) := by
  obtain ⟨locs, S, eT, N0, q0⟩ := X
  obtain ⟨cl, Ar, r1, r2⟩ := A
  obtain ⟨hin, e1⟩ := in_of (a := a) (ty := .long) hi hN r1
  obtain ⟨T', h', X', e', W', st⟩ := stJ S C.1 C.2.2.2.2.2.2.2.1 eT Ar (j := j) hin (g := mkF m pc Ls (.long x :: .int j :: .ref a :: rest)) rfl rfl (hb C.2.1 hd)
  rw [e1] at W'
  refine Goes.of st (K T' h' ⟨_, X', e', Fr.snoc X' N0 ha, q0⟩ W' ?_)
  have q := ArV.same ⟨cl, Ar, r1, r2⟩ W'
  rw [← up_long] at q
  exact q
theorem w_arraylength (X : Hr p l e R s m args below meth c n0 h cells slots T) (C : Cx p s m meth c code ml ret own nm Z a0 tabs) {pc N : Nat} {Ls : Array Slot} {a : Addr} {ty : FieldType} {f : Nat → Value} {rest : List Value} (hd : decode code pc = .ok (.arraylength, 1)) (A : ArV Z h a ty N f) (K : Goes p e below s n0 P k n T (mkF m (pc + 1) Ls (.int N.toInt32 :: rest))) : Goes p e below s n0 P k n T (mkF m pc Ls (.ref a :: rest)) := by
  obtain ⟨locs, S, eT, N0, q0⟩ := X
  obtain ⟨cl, Ar, r1, r2⟩ := A
  subst r1
  exact Goes.of (fun _ kk => S.arraylength C.1 (by rw [eT]; exact Ar.1) (State.isArrayOf_alike C.2.2.2.2.2.2.2.1.alike Ar.2.1) (g := mkF m pc Ls (.ref a :: rest)) rfl rfl (hb C.2.1 hd) _ kk) K
theorem w_new_byte (X : Hr p l e R s m args below meth c n0 h cells slots T) (C : Cx p s m meth c code ml ret own nm Z a0 tabs) {pc : Nat} {Ls : Array Slot} {sz : Int32} {rest : List Value} (hd : decode code pc = .ok (.newarray .byte, 2)) (i1 : Jvm.Cond.arrayClass .byte ∈ tabs) (N : Nat) (hN : sz.toInt = N) (cap : Nat) (hcap : N ≤ cap) (hbig : cap * 8 ≤ 536870912) (hc : cells + 1 ≤ R.cells) (hl : slots + cap ≤ R.slots)
    (K : ∀ T' h' a, a = h.size → n0 ≤ a → Hr p l e R s m args below meth c n0 h' (cells + 1) (slots + cap) T' → Ext h h' → ArI Z h' a .byte N (fun _ => 0) → Goes p e below s n0 P k n T' (mkF m (pc + 2) Ls (.ref a :: rest))) : Goes p e below s n0 P k n T (mkF m pc Ls (.int sz :: rest)) := by
  have hsz := X.size
  obtain ⟨locs, S, eT, N0, q0⟩ := X
  have hw := C.2.2.2.2.2.2.2.2
  have e1 : sz.toNatClampNeg = N := by simp only [Int32.toNatClampNeg, hN]; omega
  have e2 : ¬ sz < 0 := by
    have e0 : (0 : Int32).toInt = 0 := rfl
    rw [Int32.lt_iff_toInt_lt, e0]; omega
  obtain ⟨T', h', kk', X', e', E', A', st⟩ := newP S C.1 C.2.2.2.2.2.2.2.1 (aty := .byte) (hw _ i1) eT (g := mkF m pc Ls (.int sz :: rest)) rfl (hb C.2.1 hd) rfl e2 (cap := cap) (by rw [e1]; exact hcap) hbig hc hl
  refine Goes.of st (K T' h' h.size rfl hsz ⟨_, X', e', N0, q0⟩ E' ⟨_, A', by rw [sz_new]; exact e1, fun i hi => ?_⟩)
  simp [newA, e1, hi, newarray.typeOf, defaultValue]
theorem w_new_int (X : Hr p l e R s m args below meth c n0 h cells slots T) (C : Cx p s m meth c code ml ret own nm Z a0 tabs) {pc : Nat} {Ls : Array Slot} {sz : Int32} {rest : List Value} (hd : decode code pc = .ok (.newarray .int, 2)) (i1 : Jvm.Cond.arrayClass .int ∈ tabs) (N : Nat) (hN : sz.toInt = N) (cap : Nat) (hcap : N ≤ cap) (hbig : cap * 8 ≤ 536870912) (hc : cells + 1 ≤ R.cells) (hl : slots + cap ≤ R.slots)
    (K : ∀ T' h' a, a = h.size → n0 ≤ a → Hr p l e R s m args below meth c n0 h' (cells + 1) (slots + cap) T' → Ext h h' → ArI Z h' a .int N (fun _ => 0) → Goes p e below s n0 P k n T' (mkF m (pc + 2) Ls (.ref a :: rest))) : Goes p e below s n0 P k n T (mkF m pc Ls (.int sz :: rest)) := by
  have hsz := X.size
  obtain ⟨locs, S, eT, N0, q0⟩ := X
  have hw := C.2.2.2.2.2.2.2.2
  have e1 : sz.toNatClampNeg = N := by simp only [Int32.toNatClampNeg, hN]; omega
  have e2 : ¬ sz < 0 := by
    have e0 : (0 : Int32).toInt = 0 := rfl
    rw [Int32.lt_iff_toInt_lt, e0]; omega
  obtain ⟨T', h', kk', X', e', E', A', st⟩ := newP S C.1 C.2.2.2.2.2.2.2.1 (aty := .int) (hw _ i1) eT (g := mkF m pc Ls (.int sz :: rest)) rfl (hb C.2.1 hd) rfl e2 (cap := cap) (by rw [e1]; exact hcap) hbig hc hl
  refine Goes.of st (K T' h' h.size rfl hsz ⟨_, X', e', N0, q0⟩ E' ⟨_, A', by rw [sz_new]; exact e1, fun i hi => ?_⟩)
  simp [newA, e1, hi, newarray.typeOf, defaultValue]
theorem w_new_long (X : Hr p l e R s m args below meth c n0 h cells slots T) (C : Cx p s m meth c code ml ret own nm Z a0 tabs) {pc : Nat} {Ls : Array Slot} {sz : Int32} {rest : List Value} (hd : decode code pc = .ok (.newarray .long, 2)) (i1 : Jvm.Cond.arrayClass .long ∈ tabs) (N : Nat) (hN : sz.toInt = N) (cap : Nat) (hcap : N ≤ cap) (hbig : cap * 8 ≤ 536870912) (hc : cells + 1 ≤ R.cells) (hl : slots + cap ≤ R.slots)
    (K : ∀ T' h' a, a = h.size → n0 ≤ a → Hr p l e R s m args below meth c n0 h' (cells + 1) (slots + cap) T' → Ext h h' → ArJ Z h' a N (fun _ => 0) → Goes p e below s n0 P k n T' (mkF m (pc + 2) Ls (.ref a :: rest))) : Goes p e below s n0 P k n T (mkF m pc Ls (.int sz :: rest)) := by
  have hsz := X.size
  obtain ⟨locs, S, eT, N0, q0⟩ := X
  have hw := C.2.2.2.2.2.2.2.2
  have e1 : sz.toNatClampNeg = N := by simp only [Int32.toNatClampNeg, hN]; omega
  have e2 : ¬ sz < 0 := by
    have e0 : (0 : Int32).toInt = 0 := rfl
    rw [Int32.lt_iff_toInt_lt, e0]; omega
  obtain ⟨T', h', kk', X', e', E', A', st⟩ := newP S C.1 C.2.2.2.2.2.2.2.1 (aty := .long) (hw _ i1) eT (g := mkF m pc Ls (.int sz :: rest)) rfl (hb C.2.1 hd) rfl e2 (cap := cap) (by rw [e1]; exact hcap) hbig hc hl
  refine Goes.of st (K T' h' h.size rfl hsz ⟨_, X', e', N0, q0⟩ E' ⟨_, A', by rw [sz_new]; exact e1, fun i hi => ?_⟩)
  simp [newA, e1, hi, newarray.typeOf, defaultValue]
end W
end Jvm.OwnW
namespace Jvm.Pilot.@@N@@
open Jvm Jvm.ClassFile Sem Op Lib Jvm.Free Jvm.Stand Jvm.LawKit Jvm.RoadKit Bundle Jvm.OwnW Jvm.Pilot.@@N@@.Jvm.D
theorem pn_0 : plainName "termwright/index/MergePolicy" = true := by first | (simp [plainName, overriddenIn]; done) | decide +kernel
theorem pn_1 : plainName "termwright/index/MergePolicyCheapestPinLaw" = true := by first | (simp [plainName, overriddenIn]; done) | decide +kernel
theorem pd_0 : parseMethodDescriptor "([JI)[I" = some ⟨[(.array .long), .int], some (.array .int)⟩ := by decide +kernel

theorem d1_0 : decode prog_68_method_5_code 0 = .ok (.aload_n 0, 1) := by decide +kernel
theorem d1_1 : decode prog_68_method_5_code 1 = .ok (.arraylength, 1) := by decide +kernel
theorem d1_2 : decode prog_68_method_5_code 2 = .ok (.iload_n 1, 1) := by decide +kernel
theorem d1_3 : decode prog_68_method_5_code 3 = .ok (.isub, 1) := by decide +kernel
theorem d1_4 : decode prog_68_method_5_code 4 = .ok (.iconst 1, 1) := by decide +kernel
theorem d1_5 : decode prog_68_method_5_code 5 = .ok (.iadd, 1) := by decide +kernel
theorem d1_6 : decode prog_68_method_5_code 6 = .ok (.istore_n 2, 1) := by decide +kernel
theorem d1_7 : decode prog_68_method_5_code 7 = .ok (.lconst 0, 1) := by decide +kernel
theorem d1_8 : decode prog_68_method_5_code 8 = .ok (.lstore_n 3, 1) := by decide +kernel
theorem d1_9 : decode prog_68_method_5_code 9 = .ok (.iconst 0, 1) := by decide +kernel
theorem d1_10 : decode prog_68_method_5_code 10 = .ok (.istore 5, 2) := by decide +kernel
theorem d1_12 : decode prog_68_method_5_code 12 = .ok (.iload 5, 2) := by decide +kernel
theorem d1_14 : decode prog_68_method_5_code 14 = .ok (.iload_n 2, 1) := by decide +kernel
theorem d1_15 : decode prog_68_method_5_code 15 = .ok (.if_icmp .ge 16, 3) := by decide +kernel
theorem d1_18 : decode prog_68_method_5_code 18 = .ok (.lload_n 3, 1) := by decide +kernel
theorem d1_19 : decode prog_68_method_5_code 19 = .ok (.aload_n 0, 1) := by decide +kernel
theorem d1_20 : decode prog_68_method_5_code 20 = .ok (.iload 5, 2) := by decide +kernel
theorem d1_22 : decode prog_68_method_5_code 22 = .ok (.laload, 1) := by decide +kernel
theorem d1_23 : decode prog_68_method_5_code 23 = .ok (.ladd, 1) := by decide +kernel
theorem d1_24 : decode prog_68_method_5_code 24 = .ok (.lstore_n 3, 1) := by decide +kernel
theorem d1_25 : decode prog_68_method_5_code 25 = .ok (.iinc 5 1, 3) := by decide +kernel
theorem d1_28 : decode prog_68_method_5_code 28 = .ok (.goto (-16), 3) := by decide +kernel
theorem d1_31 : decode prog_68_method_5_code 31 = .ok (.iconst 0, 1) := by decide +kernel
theorem d1_32 : decode prog_68_method_5_code 32 = .ok (.istore 5, 2) := by decide +kernel
theorem d1_34 : decode prog_68_method_5_code 34 = .ok (.lload_n 3, 1) := by decide +kernel
theorem d1_35 : decode prog_68_method_5_code 35 = .ok (.lstore 6, 2) := by decide +kernel
theorem d1_37 : decode prog_68_method_5_code 37 = .ok (.iload_n 2, 1) := by decide +kernel
theorem d1_38 : decode prog_68_method_5_code 38 = .ok (.istore 8, 2) := by decide +kernel
theorem d1_40 : decode prog_68_method_5_code 40 = .ok (.iload 8, 2) := by decide +kernel
theorem d1_42 : decode prog_68_method_5_code 42 = .ok (.aload_n 0, 1) := by decide +kernel
theorem d1_43 : decode prog_68_method_5_code 43 = .ok (.arraylength, 1) := by decide +kernel
theorem d1_44 : decode prog_68_method_5_code 44 = .ok (.if_icmp .ge 41, 3) := by decide +kernel
theorem d1_47 : decode prog_68_method_5_code 47 = .ok (.lload_n 3, 1) := by decide +kernel
theorem d1_48 : decode prog_68_method_5_code 48 = .ok (.aload_n 0, 1) := by decide +kernel
theorem d1_49 : decode prog_68_method_5_code 49 = .ok (.iload 8, 2) := by decide +kernel
theorem d1_51 : decode prog_68_method_5_code 51 = .ok (.laload, 1) := by decide +kernel
theorem d1_52 : decode prog_68_method_5_code 52 = .ok (.aload_n 0, 1) := by decide +kernel
theorem d1_53 : decode prog_68_method_5_code 53 = .ok (.iload 8, 2) := by decide +kernel
theorem d1_55 : decode prog_68_method_5_code 55 = .ok (.iload_n 2, 1) := by decide +kernel
theorem d1_56 : decode prog_68_method_5_code 56 = .ok (.isub, 1) := by decide +kernel
theorem d1_57 : decode prog_68_method_5_code 57 = .ok (.laload, 1) := by decide +kernel
theorem d1_58 : decode prog_68_method_5_code 58 = .ok (.lsub, 1) := by decide +kernel
theorem d1_59 : decode prog_68_method_5_code 59 = .ok (.ladd, 1) := by decide +kernel
theorem d1_60 : decode prog_68_method_5_code 60 = .ok (.lstore_n 3, 1) := by decide +kernel
theorem d1_61 : decode prog_68_method_5_code 61 = .ok (.lload_n 3, 1) := by decide +kernel
theorem d1_62 : decode prog_68_method_5_code 62 = .ok (.lload 6, 2) := by decide +kernel
theorem d1_64 : decode prog_68_method_5_code 64 = .ok (.lcmp, 1) := by decide +kernel
theorem d1_65 : decode prog_68_method_5_code 65 = .ok (.ifCond .ge 14, 3) := by decide +kernel
theorem d1_68 : decode prog_68_method_5_code 68 = .ok (.lload_n 3, 1) := by decide +kernel
theorem d1_69 : decode prog_68_method_5_code 69 = .ok (.lstore 6, 2) := by decide +kernel
theorem d1_71 : decode prog_68_method_5_code 71 = .ok (.iload 8, 2) := by decide +kernel
theorem d1_73 : decode prog_68_method_5_code 73 = .ok (.iload_n 2, 1) := by decide +kernel
theorem d1_74 : decode prog_68_method_5_code 74 = .ok (.isub, 1) := by decide +kernel
theorem d1_75 : decode prog_68_method_5_code 75 = .ok (.iconst 1, 1) := by decide +kernel
theorem d1_76 : decode prog_68_method_5_code 76 = .ok (.iadd, 1) := by decide +kernel
theorem d1_77 : decode prog_68_method_5_code 77 = .ok (.istore 5, 2) := by decide +kernel
theorem d1_79 : decode prog_68_method_5_code 79 = .ok (.iinc 8 1, 3) := by decide +kernel
theorem d1_82 : decode prog_68_method_5_code 82 = .ok (.goto (-42), 3) := by decide +kernel
theorem d1_85 : decode prog_68_method_5_code 85 = .ok (.iconst 2, 1) := by decide +kernel
theorem d1_86 : decode prog_68_method_5_code 86 = .ok (.newarray .int, 2) := by decide +kernel
theorem d1_88 : decode prog_68_method_5_code 88 = .ok (.dup, 1) := by decide +kernel
theorem d1_89 : decode prog_68_method_5_code 89 = .ok (.iconst 0, 1) := by decide +kernel
theorem d1_90 : decode prog_68_method_5_code 90 = .ok (.iload 5, 2) := by decide +kernel
theorem d1_92 : decode prog_68_method_5_code 92 = .ok (.iastore, 1) := by decide +kernel
theorem d1_93 : decode prog_68_method_5_code 93 = .ok (.dup, 1) := by decide +kernel
theorem d1_94 : decode prog_68_method_5_code 94 = .ok (.iconst 1, 1) := by decide +kernel
theorem d1_95 : decode prog_68_method_5_code 95 = .ok (.iload 5, 2) := by decide +kernel
theorem d1_97 : decode prog_68_method_5_code 97 = .ok (.iload_n 2, 1) := by decide +kernel
theorem d1_98 : decode prog_68_method_5_code 98 = .ok (.iadd, 1) := by decide +kernel
theorem d1_99 : decode prog_68_method_5_code 99 = .ok (.iastore, 1) := by decide +kernel
theorem d1_100 : decode prog_68_method_5_code 100 = .ok (.areturn, 1) := by decide +kernel
set_option maxRecDepth 65536 in
set_option maxHeartbeats 40000000 in
theorem bw1_2_1 {p : Program} {l : Launch} {e : Env} {s : State} {m : MethodId} {args : Array Value} {below : List Frame} {meth : Method} {c : Code} {T : State} {h : Heap} {n0 : Nat} {Z : State} {a0 : Array Value} (X : Hr p l e ({ frames := 0, cells := 1, slots := 2, locals := 0 } : Room) s m args below meth c n0 h 0 0 T) (C : Cx p s m meth c prog_68_method_5_code 9 (some (.array .int)) "termwright/index/MergePolicy" "cheapest" Z a0 tables_1) (x0 : Addr) (g : Nat → Int64) (v0 v1 : Int64) (A0 : ArJ Z h x0 2 g) (hg0 : g 0 = v0) (hg1 : g 1 = v1) (hv0 : 0 ≤ v0.toInt ∧ v0.toInt < 2147483648) (hv1 : 0 ≤ v1.toInt ∧ v1.toInt < 2147483648) : Goes p e below s n0 (fun v h' => ∃ r b gr, v = some (.ref r) ∧ n0 ≤ r ∧ ArI Z h' r .int 2 gr ∧ gr 0 = b ∧ gr 1 = b + 2 ∧ (b = 0)) 1 2 T (mkF m 0 #[.val (.ref x0), .val (.int (1 : Int32)), .unset, .unset, .unset, .unset, .unset, .unset, .unset] []) := by
  refine w_aloadN (pc := 0) X C d1_0 rfl rfl ?_
  refine w_arraylength (pc := 1) X C d1_1 A0 ?_
  refine w_iloadN (pc := 2) X C d1_2 rfl ?_
  refine w_isub (pc := 3) X C d1_3 ?_
  refine w_iconst (pc := 4) X C d1_4 (1 : Int32) rfl ?_
  refine w_iadd (pc := 5) X C d1_5 ?_
  rw [show ((((Nat.toInt32 2) - (1 : Int32)) + (1 : Int32)) : Int32) = (2 : Int32) from by decide]
  refine w_istoreN (pc := 6) X C d1_6 #[.val (.ref x0), .val (.int (1 : Int32)), .val (.int (2 : Int32)), .unset, .unset, .unset, .unset, .unset, .unset] rfl ?_
  refine w_lconst (pc := 7) X C d1_7 (0 : Int64) rfl ?_
  refine w_lstoreN (pc := 8) X C d1_8 #[.val (.ref x0), .val (.int (1 : Int32)), .val (.int (2 : Int32)), .val (.long (0 : Int64)), .second, .unset, .unset, .unset, .unset] rfl ?_
  refine w_iconst (pc := 9) X C d1_9 (0 : Int32) rfl ?_
  refine w_istore (pc := 10) X C d1_10 #[.val (.ref x0), .val (.int (1 : Int32)), .val (.int (2 : Int32)), .val (.long (0 : Int64)), .second, .val (.int (0 : Int32)), .unset, .unset, .unset] rfl ?_
  refine w_iload (pc := 12) X C d1_12 rfl ?_
  refine w_iloadN (pc := 14) X C d1_14 rfl ?_
  refine w_icmp_ge (pc := 15) X C d1_15 31 (by decide) (fun q1 => absurd (by decide) q1) (fun q1 => ?_)
  refine w_lloadN (pc := 18) X C d1_18 rfl ?_
  refine w_aloadN (pc := 19) X C d1_19 rfl rfl ?_
  refine w_iload (pc := 20) X C d1_20 rfl ?_
  refine w_laload (pc := 22) X C d1_22 A0 0 (by decide) (by decide) ?_
  rw [hg0]
  refine w_ladd (pc := 23) X C d1_23 ?_
  obtain ⟨s2, e_s2⟩ : ∃ z, z = ((0 : Int64) + v0) := ⟨_, rfl⟩
  rw [← e_s2]
  have t_s2 : s2.toInt = 0 + v0.toInt := by
    have a1 := c_ladd (0 : Int64) v0; have a2 := rng64 ((0 : Int64) + v0); have a3 : (0 : Int64).toInt = 0 := rfl; rw [e_s2]; omega
  refine w_lstoreN (pc := 24) X C d1_24 #[.val (.ref x0), .val (.int (1 : Int32)), .val (.int (2 : Int32)), .val (.long s2), .second, .val (.int (0 : Int32)), .unset, .unset, .unset] rfl ?_
  refine w_iinc (pc := 25) X C d1_25 (1 : Int32) rfl rfl #[.val (.ref x0), .val (.int (1 : Int32)), .val (.int (2 : Int32)), .val (.long s2), .second, .val (.int ((0 : Int32) + (1 : Int32))), .unset, .unset, .unset] rfl ?_
  refine w_goto (pc := 28) X C d1_28 12 (by decide) ?_
  rw [show (((0 : Int32) + (1 : Int32)) : Int32) = (1 : Int32) from by decide]
  refine w_iload (pc := 12) X C d1_12 rfl ?_
  refine w_iloadN (pc := 14) X C d1_14 rfl ?_
  refine w_icmp_ge (pc := 15) X C d1_15 31 (by decide) (fun q3 => absurd (by decide) q3) (fun q3 => ?_)
  refine w_lloadN (pc := 18) X C d1_18 rfl ?_
  refine w_aloadN (pc := 19) X C d1_19 rfl rfl ?_
  refine w_iload (pc := 20) X C d1_20 rfl ?_
  refine w_laload (pc := 22) X C d1_22 A0 1 (by decide) (by decide) ?_
  rw [hg1]
  refine w_ladd (pc := 23) X C d1_23 ?_
  obtain ⟨s4, e_s4⟩ : ∃ z, z = (s2 + v1) := ⟨_, rfl⟩
  rw [← e_s4]
  have t_s4 : s4.toInt = 0 + v0.toInt + v1.toInt := by
    have a1 := c_ladd s2 v1; have a2 := rng64 (s2 + v1); rw [e_s4]; omega
  refine w_lstoreN (pc := 24) X C d1_24 #[.val (.ref x0), .val (.int (1 : Int32)), .val (.int (2 : Int32)), .val (.long s4), .second, .val (.int (1 : Int32)), .unset, .unset, .unset] rfl ?_
  refine w_iinc (pc := 25) X C d1_25 (1 : Int32) rfl rfl #[.val (.ref x0), .val (.int (1 : Int32)), .val (.int (2 : Int32)), .val (.long s4), .second, .val (.int ((1 : Int32) + (1 : Int32))), .unset, .unset, .unset] rfl ?_
  refine w_goto (pc := 28) X C d1_28 12 (by decide) ?_
  rw [show (((1 : Int32) + (1 : Int32)) : Int32) = (2 : Int32) from by decide]
  refine w_iload (pc := 12) X C d1_12 rfl ?_
  refine w_iloadN (pc := 14) X C d1_14 rfl ?_
  refine w_icmp_ge (pc := 15) X C d1_15 31 (by decide) (fun q5 => ?_) (fun q5 => absurd q5 (by decide))
  refine w_iconst (pc := 31) X C d1_31 (0 : Int32) rfl ?_
  refine w_istore (pc := 32) X C d1_32 #[.val (.ref x0), .val (.int (1 : Int32)), .val (.int (2 : Int32)), .val (.long s4), .second, .val (.int (0 : Int32)), .unset, .unset, .unset] rfl ?_
  refine w_lloadN (pc := 34) X C d1_34 rfl ?_
  refine w_lstore (pc := 35) X C d1_35 #[.val (.ref x0), .val (.int (1 : Int32)), .val (.int (2 : Int32)), .val (.long s4), .second, .val (.int (0 : Int32)), .val (.long s4), .second, .unset] rfl ?_
  refine w_iloadN (pc := 37) X C d1_37 rfl ?_
  refine w_istore (pc := 38) X C d1_38 #[.val (.ref x0), .val (.int (1 : Int32)), .val (.int (2 : Int32)), .val (.long s4), .second, .val (.int (0 : Int32)), .val (.long s4), .second, .val (.int (2 : Int32))] rfl ?_
  refine w_iload (pc := 40) X C d1_40 rfl ?_
  refine w_aloadN (pc := 42) X C d1_42 rfl rfl ?_
  refine w_arraylength (pc := 43) X C d1_43 A0 ?_
  refine w_icmp_ge (pc := 44) X C d1_44 85 (by decide) (fun q6 => ?_) (fun q6 => absurd q6 (by decide))
  refine w_iconst (pc := 85) X C d1_85 (2 : Int32) rfl ?_
  refine w_new_int (pc := 86) X C d1_86 (List.mem_of_getElem? (i := 6) rfl) 2 rfl 2 (by decide) (by decide) (by decide) (by decide) (fun T7 h7 a7 ha7 hb7 X7 E7 A7 => ?_)
  have ne_x0_a7 : x0 ≠ a7 := Nat.ne_of_lt (by rw [ha7]; exact A0.lt)
  have Ak8 := A0.ext E7
  have K9 : Keep h h7 [] := (Keep.refl h []).ext E7
  refine w_dup (pc := 88) X7 C d1_88 rfl ?_
  refine w_iconst (pc := 89) X7 C d1_89 (0 : Int32) rfl ?_
  refine w_iload (pc := 90) X7 C d1_90 rfl ?_
  refine w_iastore (pc := 92) X7 C d1_92 A7 0 (by decide) (by decide) hb7 (fun T10 h10 X10 W10 A10 => ?_)
  obtain ⟨g10, hg10⟩ : ∃ z, z = up (fun _ => 0) 0 (0 : Int32) := ⟨_, rfl⟩
  rw [← hg10] at A10
  have Ak11 := Ak8.other W10 ne_x0_a7
  have K12 : Keep h h10 [] := K9.wr W10 (Or.inr (Nat.le_trans (Keep.refl h []).1 (Nat.le_of_eq ha7.symm)))
  refine w_dup (pc := 93) X10 C d1_93 rfl ?_
  refine w_iconst (pc := 94) X10 C d1_94 (1 : Int32) rfl ?_
  refine w_iload (pc := 95) X10 C d1_95 rfl ?_
  refine w_iloadN (pc := 97) X10 C d1_97 rfl ?_
  refine w_iadd (pc := 98) X10 C d1_98 ?_
  refine w_iastore (pc := 99) X10 C d1_99 A10 1 (by decide) (by decide) hb7 (fun T13 h13 X13 W13 A13 => ?_)
  obtain ⟨g13, hg13⟩ : ∃ z, z = up g10 1 ((0 : Int32) + (2 : Int32)) := ⟨_, rfl⟩
  rw [← hg13] at A13
  have Ak14 := Ak11.other W13 ne_x0_a7
  have K15 : Keep h h13 [] := K12.wr W13 (Or.inr (Nat.le_trans (Keep.refl h []).1 (Nat.le_of_eq ha7.symm)))
  have hb0 : g13 0 = (0 : Int32) := by simp [hg13, hg10, up]
  have hb1 : g13 1 = (2 : Int32) := by simp +decide [hg13, hg10, up]
  have hsp : (0 : Int32) = 0 := by
    rfl
  exact w_retR (pc := 100) X13 C (t := (.array .int)) rfl rfl d1_100 ⟨a7, (0 : Int32), _, rfl, hb7, A13, hb0, hb1, hsp⟩
theorem ct1_2_1 (l : Launch) {Z : State} {a0 : Array Value} (hw : ∀ d ∈ tables_1, d.before a0 Z = true) (h : Heap) {n0 : Nat} (hn : n0 ≤ h.size) (x0 : Addr) (g : Nat → Int64) (v0 v1 : Int64) (A0 : ArJ Z h x0 2 g) (hg0 : g 0 = v0) (hg1 : g 1 = v1) (hv0 : 0 ≤ v0.toInt ∧ v0.toInt < 2147483648) (hv1 : 0 ≤ v1.toInt ∧ v1.toInt < 2147483648) : Ct l (⟨"termwright/index/MergePolicy", "cheapest", "([JI)[I"⟩ : MethodName) prog_68_method_5_code 9 (some (.array .int)) ({ frames := 0, cells := 1, slots := 2, locals := 0 } : Room) Z #[(.ref x0), (.int (1 : Int32))] h n0 (fun v h' => ∃ r b gr, v = some (.ref r) ∧ n0 ≤ r ∧ ArI Z h' r .int 2 gr ∧ gr 0 = b ∧ gr 1 = b + 2 ∧ (b = 0)) :=
  Ct.of (plainFor_of_name pn_0) #[.val (.ref x0), .val (.int (1 : Int32)), .unset, .unset, .unset, .unset, .unset, .unset, .unset] (fun m => by first | (simp [entryFrame, mkF, argsToLocals, Value.category]; done) | rfl) hw hn (fun p e s m below meth c T C X => bw1_2_1 X C x0 g v0 v1 A0 hg0 hg1 hv0 hv1)
set_option maxRecDepth 65536 in
set_option maxHeartbeats 40000000 in
theorem bw1_3_1 {p : Program} {l : Launch} {e : Env} {s : State} {m : MethodId} {args : Array Value} {below : List Frame} {meth : Method} {c : Code} {T : State} {h : Heap} {n0 : Nat} {Z : State} {a0 : Array Value} (X : Hr p l e ({ frames := 0, cells := 1, slots := 2, locals := 0 } : Room) s m args below meth c n0 h 0 0 T) (C : Cx p s m meth c prog_68_method_5_code 9 (some (.array .int)) "termwright/index/MergePolicy" "cheapest" Z a0 tables_1) (x0 : Addr) (g : Nat → Int64) (v0 v1 v2 : Int64) (A0 : ArJ Z h x0 3 g) (hg0 : g 0 = v0) (hg1 : g 1 = v1) (hg2 : g 2 = v2) (hv0 : 0 ≤ v0.toInt ∧ v0.toInt < 2147483648) (hv1 : 0 ≤ v1.toInt ∧ v1.toInt < 2147483648) (hv2 : 0 ≤ v2.toInt ∧ v2.toInt < 2147483648) : Goes p e below s n0 (fun v h' => ∃ r b gr, v = some (.ref r) ∧ n0 ≤ r ∧ ArI Z h' r .int 2 gr ∧ gr 0 = b ∧ gr 1 = b + 3 ∧ (b = 0)) 1 2 T (mkF m 0 #[.val (.ref x0), .val (.int (1 : Int32)), .unset, .unset, .unset, .unset, .unset, .unset, .unset] []) := by
  refine w_aloadN (pc := 0) X C d1_0 rfl rfl ?_
  refine w_arraylength (pc := 1) X C d1_1 A0 ?_
  refine w_iloadN (pc := 2) X C d1_2 rfl ?_
  refine w_isub (pc := 3) X C d1_3 ?_
  refine w_iconst (pc := 4) X C d1_4 (1 : Int32) rfl ?_
  refine w_iadd (pc := 5) X C d1_5 ?_
  rw [show ((((Nat.toInt32 3) - (1 : Int32)) + (1 : Int32)) : Int32) = (3 : Int32) from by decide]
  refine w_istoreN (pc := 6) X C d1_6 #[.val (.ref x0), .val (.int (1 : Int32)), .val (.int (3 : Int32)), .unset, .unset, .unset, .unset, .unset, .unset] rfl ?_
  refine w_lconst (pc := 7) X C d1_7 (0 : Int64) rfl ?_
  refine w_lstoreN (pc := 8) X C d1_8 #[.val (.ref x0), .val (.int (1 : Int32)), .val (.int (3 : Int32)), .val (.long (0 : Int64)), .second, .unset, .unset, .unset, .unset] rfl ?_
  refine w_iconst (pc := 9) X C d1_9 (0 : Int32) rfl ?_
  refine w_istore (pc := 10) X C d1_10 #[.val (.ref x0), .val (.int (1 : Int32)), .val (.int (3 : Int32)), .val (.long (0 : Int64)), .second, .val (.int (0 : Int32)), .unset, .unset, .unset] rfl ?_
  refine w_iload (pc := 12) X C d1_12 rfl ?_
  refine w_iloadN (pc := 14) X C d1_14 rfl ?_
  refine w_icmp_ge (pc := 15) X C d1_15 31 (by decide) (fun q1 => absurd (by decide) q1) (fun q1 => ?_)
  refine w_lloadN (pc := 18) X C d1_18 rfl ?_
  refine w_aloadN (pc := 19) X C d1_19 rfl rfl ?_
  refine w_iload (pc := 20) X C d1_20 rfl ?_
  refine w_laload (pc := 22) X C d1_22 A0 0 (by decide) (by decide) ?_
  rw [hg0]
  refine w_ladd (pc := 23) X C d1_23 ?_
  obtain ⟨s2, e_s2⟩ : ∃ z, z = ((0 : Int64) + v0) := ⟨_, rfl⟩
  rw [← e_s2]
  have t_s2 : s2.toInt = 0 + v0.toInt := by
    have a1 := c_ladd (0 : Int64) v0; have a2 := rng64 ((0 : Int64) + v0); have a3 : (0 : Int64).toInt = 0 := rfl; rw [e_s2]; omega
  refine w_lstoreN (pc := 24) X C d1_24 #[.val (.ref x0), .val (.int (1 : Int32)), .val (.int (3 : Int32)), .val (.long s2), .second, .val (.int (0 : Int32)), .unset, .unset, .unset] rfl ?_
  refine w_iinc (pc := 25) X C d1_25 (1 : Int32) rfl rfl #[.val (.ref x0), .val (.int (1 : Int32)), .val (.int (3 : Int32)), .val (.long s2), .second, .val (.int ((0 : Int32) + (1 : Int32))), .unset, .unset, .unset] rfl ?_
  refine w_goto (pc := 28) X C d1_28 12 (by decide) ?_
  rw [show (((0 : Int32) + (1 : Int32)) : Int32) = (1 : Int32) from by decide]
  refine w_iload (pc := 12) X C d1_12 rfl ?_
  refine w_iloadN (pc := 14) X C d1_14 rfl ?_
  refine w_icmp_ge (pc := 15) X C d1_15 31 (by decide) (fun q3 => absurd (by decide) q3) (fun q3 => ?_)
  refine w_lloadN (pc := 18) X C d1_18 rfl ?_
  refine w_aloadN (pc := 19) X C d1_19 rfl rfl ?_
  refine w_iload (pc := 20) X C d1_20 rfl ?_
  refine w_laload (pc := 22) X C d1_22 A0 1 (by decide) (by decide) ?_
  rw [hg1]
  refine w_ladd (pc := 23) X C d1_23 ?_
  obtain ⟨s4, e_s4⟩ : ∃ z, z = (s2 + v1) := ⟨_, rfl⟩
  rw [← e_s4]
  have t_s4 : s4.toInt = 0 + v0.toInt + v1.toInt := by
    have a1 := c_ladd s2 v1; have a2 := rng64 (s2 + v1); rw [e_s4]; omega
  refine w_lstoreN (pc := 24) X C d1_24 #[.val (.ref x0), .val (.int (1 : Int32)), .val (.int (3 : Int32)), .val (.long s4), .second, .val (.int (1 : Int32)), .unset, .unset, .unset] rfl ?_
  refine w_iinc (pc := 25) X C d1_25 (1 : Int32) rfl rfl #[.val (.ref x0), .val (.int (1 : Int32)), .val (.int (3 : Int32)), .val (.long s4), .second, .val (.int ((1 : Int32) + (1 : Int32))), .unset, .unset, .unset] rfl ?_
  refine w_goto (pc := 28) X C d1_28 12 (by decide) ?_
  rw [show (((1 : Int32) + (1 : Int32)) : Int32) = (2 : Int32) from by decide]
  refine w_iload (pc := 12) X C d1_12 rfl ?_
  refine w_iloadN (pc := 14) X C d1_14 rfl ?_
  refine w_icmp_ge (pc := 15) X C d1_15 31 (by decide) (fun q5 => absurd (by decide) q5) (fun q5 => ?_)
  refine w_lloadN (pc := 18) X C d1_18 rfl ?_
  refine w_aloadN (pc := 19) X C d1_19 rfl rfl ?_
  refine w_iload (pc := 20) X C d1_20 rfl ?_
  refine w_laload (pc := 22) X C d1_22 A0 2 (by decide) (by decide) ?_
  rw [hg2]
  refine w_ladd (pc := 23) X C d1_23 ?_
  obtain ⟨s6, e_s6⟩ : ∃ z, z = (s4 + v2) := ⟨_, rfl⟩
  rw [← e_s6]
  have t_s6 : s6.toInt = 0 + v0.toInt + v1.toInt + v2.toInt := by
    have a1 := c_ladd s4 v2; have a2 := rng64 (s4 + v2); rw [e_s6]; omega
  refine w_lstoreN (pc := 24) X C d1_24 #[.val (.ref x0), .val (.int (1 : Int32)), .val (.int (3 : Int32)), .val (.long s6), .second, .val (.int (2 : Int32)), .unset, .unset, .unset] rfl ?_
  refine w_iinc (pc := 25) X C d1_25 (1 : Int32) rfl rfl #[.val (.ref x0), .val (.int (1 : Int32)), .val (.int (3 : Int32)), .val (.long s6), .second, .val (.int ((2 : Int32) + (1 : Int32))), .unset, .unset, .unset] rfl ?_
  refine w_goto (pc := 28) X C d1_28 12 (by decide) ?_
  rw [show (((2 : Int32) + (1 : Int32)) : Int32) = (3 : Int32) from by decide]
  refine w_iload (pc := 12) X C d1_12 rfl ?_
  refine w_iloadN (pc := 14) X C d1_14 rfl ?_
  refine w_icmp_ge (pc := 15) X C d1_15 31 (by decide) (fun q7 => ?_) (fun q7 => absurd q7 (by decide))
  refine w_iconst (pc := 31) X C d1_31 (0 : Int32) rfl ?_
  refine w_istore (pc := 32) X C d1_32 #[.val (.ref x0), .val (.int (1 : Int32)), .val (.int (3 : Int32)), .val (.long s6), .second, .val (.int (0 : Int32)), .unset, .unset, .unset] rfl ?_
  refine w_lloadN (pc := 34) X C d1_34 rfl ?_
  refine w_lstore (pc := 35) X C d1_35 #[.val (.ref x0), .val (.int (1 : Int32)), .val (.int (3 : Int32)), .val (.long s6), .second, .val (.int (0 : Int32)), .val (.long s6), .second, .unset] rfl ?_
  refine w_iloadN (pc := 37) X C d1_37 rfl ?_
  refine w_istore (pc := 38) X C d1_38 #[.val (.ref x0), .val (.int (1 : Int32)), .val (.int (3 : Int32)), .val (.long s6), .second, .val (.int (0 : Int32)), .val (.long s6), .second, .val (.int (3 : Int32))] rfl ?_
  refine w_iload (pc := 40) X C d1_40 rfl ?_
  refine w_aloadN (pc := 42) X C d1_42 rfl rfl ?_
  refine w_arraylength (pc := 43) X C d1_43 A0 ?_
  refine w_icmp_ge (pc := 44) X C d1_44 85 (by decide) (fun q8 => ?_) (fun q8 => absurd q8 (by decide))
  refine w_iconst (pc := 85) X C d1_85 (2 : Int32) rfl ?_
  refine w_new_int (pc := 86) X C d1_86 (List.mem_of_getElem? (i := 6) rfl) 2 rfl 2 (by decide) (by decide) (by decide) (by decide) (fun T9 h9 a9 ha9 hb9 X9 E9 A9 => ?_)
  have ne_x0_a9 : x0 ≠ a9 := Nat.ne_of_lt (by rw [ha9]; exact A0.lt)
  have Ak10 := A0.ext E9
  have K11 : Keep h h9 [] := (Keep.refl h []).ext E9
  refine w_dup (pc := 88) X9 C d1_88 rfl ?_
  refine w_iconst (pc := 89) X9 C d1_89 (0 : Int32) rfl ?_
  refine w_iload (pc := 90) X9 C d1_90 rfl ?_
  refine w_iastore (pc := 92) X9 C d1_92 A9 0 (by decide) (by decide) hb9 (fun T12 h12 X12 W12 A12 => ?_)
  obtain ⟨g12, hg12⟩ : ∃ z, z = up (fun _ => 0) 0 (0 : Int32) := ⟨_, rfl⟩
  rw [← hg12] at A12
  have Ak13 := Ak10.other W12 ne_x0_a9
  have K14 : Keep h h12 [] := K11.wr W12 (Or.inr (Nat.le_trans (Keep.refl h []).1 (Nat.le_of_eq ha9.symm)))
  refine w_dup (pc := 93) X12 C d1_93 rfl ?_
  refine w_iconst (pc := 94) X12 C d1_94 (1 : Int32) rfl ?_
  refine w_iload (pc := 95) X12 C d1_95 rfl ?_
  refine w_iloadN (pc := 97) X12 C d1_97 rfl ?_
  refine w_iadd (pc := 98) X12 C d1_98 ?_
  refine w_iastore (pc := 99) X12 C d1_99 A12 1 (by decide) (by decide) hb9 (fun T15 h15 X15 W15 A15 => ?_)
  obtain ⟨g15, hg15⟩ : ∃ z, z = up g12 1 ((0 : Int32) + (3 : Int32)) := ⟨_, rfl⟩
  rw [← hg15] at A15
  have Ak16 := Ak13.other W15 ne_x0_a9
  have K17 : Keep h h15 [] := K14.wr W15 (Or.inr (Nat.le_trans (Keep.refl h []).1 (Nat.le_of_eq ha9.symm)))
  have hb0 : g15 0 = (0 : Int32) := by simp [hg15, hg12, up]
  have hb1 : g15 1 = (3 : Int32) := by simp +decide [hg15, hg12, up]
  have hsp : (0 : Int32) = 0 := by
    rfl
  exact w_retR (pc := 100) X15 C (t := (.array .int)) rfl rfl d1_100 ⟨a9, (0 : Int32), _, rfl, hb9, A15, hb0, hb1, hsp⟩
theorem ct1_3_1 (l : Launch) {Z : State} {a0 : Array Value} (hw : ∀ d ∈ tables_1, d.before a0 Z = true) (h : Heap) {n0 : Nat} (hn : n0 ≤ h.size) (x0 : Addr) (g : Nat → Int64) (v0 v1 v2 : Int64) (A0 : ArJ Z h x0 3 g) (hg0 : g 0 = v0) (hg1 : g 1 = v1) (hg2 : g 2 = v2) (hv0 : 0 ≤ v0.toInt ∧ v0.toInt < 2147483648) (hv1 : 0 ≤ v1.toInt ∧ v1.toInt < 2147483648) (hv2 : 0 ≤ v2.toInt ∧ v2.toInt < 2147483648) : Ct l (⟨"termwright/index/MergePolicy", "cheapest", "([JI)[I"⟩ : MethodName) prog_68_method_5_code 9 (some (.array .int)) ({ frames := 0, cells := 1, slots := 2, locals := 0 } : Room) Z #[(.ref x0), (.int (1 : Int32))] h n0 (fun v h' => ∃ r b gr, v = some (.ref r) ∧ n0 ≤ r ∧ ArI Z h' r .int 2 gr ∧ gr 0 = b ∧ gr 1 = b + 3 ∧ (b = 0)) :=
  Ct.of (plainFor_of_name pn_0) #[.val (.ref x0), .val (.int (1 : Int32)), .unset, .unset, .unset, .unset, .unset, .unset, .unset] (fun m => by first | (simp [entryFrame, mkF, argsToLocals, Value.category]; done) | rfl) hw hn (fun p e s m below meth c T C X => bw1_3_1 X C x0 g v0 v1 v2 A0 hg0 hg1 hg2 hv0 hv1 hv2)
set_option maxRecDepth 65536 in
set_option maxHeartbeats 40000000 in
theorem bw1_3_2 {p : Program} {l : Launch} {e : Env} {s : State} {m : MethodId} {args : Array Value} {below : List Frame} {meth : Method} {c : Code} {T : State} {h : Heap} {n0 : Nat} {Z : State} {a0 : Array Value} (X : Hr p l e ({ frames := 0, cells := 1, slots := 2, locals := 0 } : Room) s m args below meth c n0 h 0 0 T) (C : Cx p s m meth c prog_68_method_5_code 9 (some (.array .int)) "termwright/index/MergePolicy" "cheapest" Z a0 tables_1) (x0 : Addr) (g : Nat → Int64) (v0 v1 v2 : Int64) (A0 : ArJ Z h x0 3 g) (hg0 : g 0 = v0) (hg1 : g 1 = v1) (hg2 : g 2 = v2) (hv0 : 0 ≤ v0.toInt ∧ v0.toInt < 2147483648) (hv1 : 0 ≤ v1.toInt ∧ v1.toInt < 2147483648) (hv2 : 0 ≤ v2.toInt ∧ v2.toInt < 2147483648) : Goes p e below s n0 (fun v h' => ∃ r b gr, v = some (.ref r) ∧ n0 ≤ r ∧ ArI Z h' r .int 2 gr ∧ gr 0 = b ∧ gr 1 = b + 2 ∧ ((b = 0 ∧ v0.toInt + v1.toInt ≤ v1.toInt + v2.toInt) ∨ (b = 1 ∧ v1.toInt + v2.toInt < v0.toInt + v1.toInt))) 1 2 T (mkF m 0 #[.val (.ref x0), .val (.int (2 : Int32)), .unset, .unset, .unset, .unset, .unset, .unset, .unset] []) := by
  refine w_aloadN (pc := 0) X C d1_0 rfl rfl ?_
  refine w_arraylength (pc := 1) X C d1_1 A0 ?_
  refine w_iloadN (pc := 2) X C d1_2 rfl ?_
  refine w_isub (pc := 3) X C d1_3 ?_
  refine w_iconst (pc := 4) X C d1_4 (1 : Int32) rfl ?_
  refine w_iadd (pc := 5) X C d1_5 ?_
  rw [show ((((Nat.toInt32 3) - (2 : Int32)) + (1 : Int32)) : Int32) = (2 : Int32) from by decide]
  refine w_istoreN (pc := 6) X C d1_6 #[.val (.ref x0), .val (.int (2 : Int32)), .val (.int (2 : Int32)), .unset, .unset, .unset, .unset, .unset, .unset] rfl ?_
  refine w_lconst (pc := 7) X C d1_7 (0 : Int64) rfl ?_
  refine w_lstoreN (pc := 8) X C d1_8 #[.val (.ref x0), .val (.int (2 : Int32)), .val (.int (2 : Int32)), .val (.long (0 : Int64)), .second, .unset, .unset, .unset, .unset] rfl ?_
  refine w_iconst (pc := 9) X C d1_9 (0 : Int32) rfl ?_
  refine w_istore (pc := 10) X C d1_10 #[.val (.ref x0), .val (.int (2 : Int32)), .val (.int (2 : Int32)), .val (.long (0 : Int64)), .second, .val (.int (0 : Int32)), .unset, .unset, .unset] rfl ?_
  refine w_iload (pc := 12) X C d1_12 rfl ?_
  refine w_iloadN (pc := 14) X C d1_14 rfl ?_
  refine w_icmp_ge (pc := 15) X C d1_15 31 (by decide) (fun q1 => absurd (by decide) q1) (fun q1 => ?_)
  refine w_lloadN (pc := 18) X C d1_18 rfl ?_
  refine w_aloadN (pc := 19) X C d1_19 rfl rfl ?_
  refine w_iload (pc := 20) X C d1_20 rfl ?_
  refine w_laload (pc := 22) X C d1_22 A0 0 (by decide) (by decide) ?_
  rw [hg0]
  refine w_ladd (pc := 23) X C d1_23 ?_
  obtain ⟨s2, e_s2⟩ : ∃ z, z = ((0 : Int64) + v0) := ⟨_, rfl⟩
  rw [← e_s2]
  have t_s2 : s2.toInt = 0 + v0.toInt := by
    have a1 := c_ladd (0 : Int64) v0; have a2 := rng64 ((0 : Int64) + v0); have a3 : (0 : Int64).toInt = 0 := rfl; rw [e_s2]; omega
  refine w_lstoreN (pc := 24) X C d1_24 #[.val (.ref x0), .val (.int (2 : Int32)), .val (.int (2 : Int32)), .val (.long s2), .second, .val (.int (0 : Int32)), .unset, .unset, .unset] rfl ?_
  refine w_iinc (pc := 25) X C d1_25 (1 : Int32) rfl rfl #[.val (.ref x0), .val (.int (2 : Int32)), .val (.int (2 : Int32)), .val (.long s2), .second, .val (.int ((0 : Int32) + (1 : Int32))), .unset, .unset, .unset] rfl ?_
  refine w_goto (pc := 28) X C d1_28 12 (by decide) ?_
  rw [show (((0 : Int32) + (1 : Int32)) : Int32) = (1 : Int32) from by decide]
  refine w_iload (pc := 12) X C d1_12 rfl ?_
  refine w_iloadN (pc := 14) X C d1_14 rfl ?_
  refine w_icmp_ge (pc := 15) X C d1_15 31 (by decide) (fun q3 => absurd (by decide) q3) (fun q3 => ?_)
  refine w_lloadN (pc := 18) X C d1_18 rfl ?_
  refine w_aloadN (pc := 19) X C d1_19 rfl rfl ?_
  refine w_iload (pc := 20) X C d1_20 rfl ?_
  refine w_laload (pc := 22) X C d1_22 A0 1 (by decide) (by decide) ?_
  rw [hg1]
  refine w_ladd (pc := 23) X C d1_23 ?_
  obtain ⟨s4, e_s4⟩ : ∃ z, z = (s2 + v1) := ⟨_, rfl⟩
  rw [← e_s4]
  have t_s4 : s4.toInt = 0 + v0.toInt + v1.toInt := by
    have a1 := c_ladd s2 v1; have a2 := rng64 (s2 + v1); rw [e_s4]; omega
  refine w_lstoreN (pc := 24) X C d1_24 #[.val (.ref x0), .val (.int (2 : Int32)), .val (.int (2 : Int32)), .val (.long s4), .second, .val (.int (1 : Int32)), .unset, .unset, .unset] rfl ?_
  refine w_iinc (pc := 25) X C d1_25 (1 : Int32) rfl rfl #[.val (.ref x0), .val (.int (2 : Int32)), .val (.int (2 : Int32)), .val (.long s4), .second, .val (.int ((1 : Int32) + (1 : Int32))), .unset, .unset, .unset] rfl ?_
  refine w_goto (pc := 28) X C d1_28 12 (by decide) ?_
  rw [show (((1 : Int32) + (1 : Int32)) : Int32) = (2 : Int32) from by decide]
  refine w_iload (pc := 12) X C d1_12 rfl ?_
  refine w_iloadN (pc := 14) X C d1_14 rfl ?_
  refine w_icmp_ge (pc := 15) X C d1_15 31 (by decide) (fun q5 => ?_) (fun q5 => absurd q5 (by decide))
  refine w_iconst (pc := 31) X C d1_31 (0 : Int32) rfl ?_
  refine w_istore (pc := 32) X C d1_32 #[.val (.ref x0), .val (.int (2 : Int32)), .val (.int (2 : Int32)), .val (.long s4), .second, .val (.int (0 : Int32)), .unset, .unset, .unset] rfl ?_
  refine w_lloadN (pc := 34) X C d1_34 rfl ?_
  refine w_lstore (pc := 35) X C d1_35 #[.val (.ref x0), .val (.int (2 : Int32)), .val (.int (2 : Int32)), .val (.long s4), .second, .val (.int (0 : Int32)), .val (.long s4), .second, .unset] rfl ?_
  refine w_iloadN (pc := 37) X C d1_37 rfl ?_
  refine w_istore (pc := 38) X C d1_38 #[.val (.ref x0), .val (.int (2 : Int32)), .val (.int (2 : Int32)), .val (.long s4), .second, .val (.int (0 : Int32)), .val (.long s4), .second, .val (.int (2 : Int32))] rfl ?_
  refine w_iload (pc := 40) X C d1_40 rfl ?_
  refine w_aloadN (pc := 42) X C d1_42 rfl rfl ?_
  refine w_arraylength (pc := 43) X C d1_43 A0 ?_
  refine w_icmp_ge (pc := 44) X C d1_44 85 (by decide) (fun q6 => absurd (by decide) q6) (fun q6 => ?_)
  refine w_lloadN (pc := 47) X C d1_47 rfl ?_
  refine w_aloadN (pc := 48) X C d1_48 rfl rfl ?_
  refine w_iload (pc := 49) X C d1_49 rfl ?_
  refine w_laload (pc := 51) X C d1_51 A0 2 (by decide) (by decide) ?_
  rw [hg2]
  refine w_aloadN (pc := 52) X C d1_52 rfl rfl ?_
  refine w_iload (pc := 53) X C d1_53 rfl ?_
  refine w_iloadN (pc := 55) X C d1_55 rfl ?_
  refine w_isub (pc := 56) X C d1_56 ?_
  refine w_laload (pc := 57) X C d1_57 A0 0 (by decide) (by decide) ?_
  rw [hg0]
  refine w_lsub (pc := 58) X C d1_58 ?_
  refine w_ladd (pc := 59) X C d1_59 ?_
  obtain ⟨s7, e_s7⟩ : ∃ z, z = (s4 + (v2 - v0)) := ⟨_, rfl⟩
  rw [← e_s7]
  have t_s7 : s7.toInt = 0 + v0.toInt + v1.toInt + v2.toInt - v0.toInt := by
    have a1 := c_lsub v2 v0; have a2 := rng64 (v2 - v0); have a3 := c_ladd s4 (v2 - v0); have a4 := rng64 (s4 + (v2 - v0)); rw [e_s7]; omega
  refine w_lstoreN (pc := 60) X C d1_60 #[.val (.ref x0), .val (.int (2 : Int32)), .val (.int (2 : Int32)), .val (.long s7), .second, .val (.int (0 : Int32)), .val (.long s4), .second, .val (.int (2 : Int32))] rfl ?_
  refine w_lloadN (pc := 61) X C d1_61 rfl ?_
  refine w_lload (pc := 62) X C d1_62 rfl ?_
  refine w_lcmp (pc := 64) X C d1_64 ?_
  refine w_ifJ_ge (pc := 65) X C d1_65 79 (by decide) (fun q8 => ?_) (fun q8 => ?_)
  · -- yes
    refine w_iinc (pc := 79) X C d1_79 (1 : Int32) rfl rfl #[.val (.ref x0), .val (.int (2 : Int32)), .val (.int (2 : Int32)), .val (.long s7), .second, .val (.int (0 : Int32)), .val (.long s4), .second, .val (.int ((2 : Int32) + (1 : Int32)))] rfl ?_
    refine w_goto (pc := 82) X C d1_82 40 (by decide) ?_
    rw [show (((2 : Int32) + (1 : Int32)) : Int32) = (3 : Int32) from by decide]
    refine w_iload (pc := 40) X C d1_40 rfl ?_
    refine w_aloadN (pc := 42) X C d1_42 rfl rfl ?_
    refine w_arraylength (pc := 43) X C d1_43 A0 ?_
    refine w_icmp_ge (pc := 44) X C d1_44 85 (by decide) (fun q9 => ?_) (fun q9 => absurd q9 (by decide))
    refine w_iconst (pc := 85) X C d1_85 (2 : Int32) rfl ?_
    refine w_new_int (pc := 86) X C d1_86 (List.mem_of_getElem? (i := 6) rfl) 2 rfl 2 (by decide) (by decide) (by decide) (by decide) (fun T10 h10 a10 ha10 hb10 X10 E10 A10 => ?_)
    have ne_x0_a10 : x0 ≠ a10 := Nat.ne_of_lt (by rw [ha10]; exact A0.lt)
    have Ak11 := A0.ext E10
    have K12 : Keep h h10 [] := (Keep.refl h []).ext E10
    refine w_dup (pc := 88) X10 C d1_88 rfl ?_
    refine w_iconst (pc := 89) X10 C d1_89 (0 : Int32) rfl ?_
    refine w_iload (pc := 90) X10 C d1_90 rfl ?_
    refine w_iastore (pc := 92) X10 C d1_92 A10 0 (by decide) (by decide) hb10 (fun T13 h13 X13 W13 A13 => ?_)
    obtain ⟨g13, hg13⟩ : ∃ z, z = up (fun _ => 0) 0 (0 : Int32) := ⟨_, rfl⟩
    rw [← hg13] at A13
    have Ak14 := Ak11.other W13 ne_x0_a10
    have K15 : Keep h h13 [] := K12.wr W13 (Or.inr (Nat.le_trans (Keep.refl h []).1 (Nat.le_of_eq ha10.symm)))
    refine w_dup (pc := 93) X13 C d1_93 rfl ?_
    refine w_iconst (pc := 94) X13 C d1_94 (1 : Int32) rfl ?_
    refine w_iload (pc := 95) X13 C d1_95 rfl ?_
    refine w_iloadN (pc := 97) X13 C d1_97 rfl ?_
    refine w_iadd (pc := 98) X13 C d1_98 ?_
    refine w_iastore (pc := 99) X13 C d1_99 A13 1 (by decide) (by decide) hb10 (fun T16 h16 X16 W16 A16 => ?_)
    obtain ⟨g16, hg16⟩ : ∃ z, z = up g13 1 ((0 : Int32) + (2 : Int32)) := ⟨_, rfl⟩
    rw [← hg16] at A16
    have Ak17 := Ak14.other W16 ne_x0_a10
    have K18 : Keep h h16 [] := K15.wr W16 (Or.inr (Nat.le_trans (Keep.refl h []).1 (Nat.le_of_eq ha10.symm)))
    have hb0 : g16 0 = (0 : Int32) := by simp [hg16, hg13, up]
    have hb1 : g16 1 = (2 : Int32) := by simp +decide [hg16, hg13, up]
    have lq8 := Int64.le_iff_toInt_le.mp (Int64.not_lt.mp q8)
    have hsp : ((0 : Int32) = 0 ∧ v0.toInt + v1.toInt ≤ v1.toInt + v2.toInt) ∨ ((0 : Int32) = 1 ∧ v1.toInt + v2.toInt < v0.toInt + v1.toInt) := by
      exact Or.inl ⟨rfl, by omega⟩
    exact w_retR (pc := 100) X16 C (t := (.array .int)) rfl rfl d1_100 ⟨a10, (0 : Int32), _, rfl, hb10, A16, hb0, hb1, hsp⟩
  · -- no
    refine w_lloadN (pc := 68) X C d1_68 rfl ?_
    refine w_lstore (pc := 69) X C d1_69 #[.val (.ref x0), .val (.int (2 : Int32)), .val (.int (2 : Int32)), .val (.long s7), .second, .val (.int (0 : Int32)), .val (.long s7), .second, .val (.int (2 : Int32))] rfl ?_
    refine w_iload (pc := 71) X C d1_71 rfl ?_
    refine w_iloadN (pc := 73) X C d1_73 rfl ?_
    refine w_isub (pc := 74) X C d1_74 ?_
    refine w_iconst (pc := 75) X C d1_75 (1 : Int32) rfl ?_
    refine w_iadd (pc := 76) X C d1_76 ?_
    rw [show ((((2 : Int32) - (2 : Int32)) + (1 : Int32)) : Int32) = (1 : Int32) from by decide]
    refine w_istore (pc := 77) X C d1_77 #[.val (.ref x0), .val (.int (2 : Int32)), .val (.int (2 : Int32)), .val (.long s7), .second, .val (.int (1 : Int32)), .val (.long s7), .second, .val (.int (2 : Int32))] rfl ?_
    refine w_iinc (pc := 79) X C d1_79 (1 : Int32) rfl rfl #[.val (.ref x0), .val (.int (2 : Int32)), .val (.int (2 : Int32)), .val (.long s7), .second, .val (.int (1 : Int32)), .val (.long s7), .second, .val (.int ((2 : Int32) + (1 : Int32)))] rfl ?_
    refine w_goto (pc := 82) X C d1_82 40 (by decide) ?_
    rw [show (((2 : Int32) + (1 : Int32)) : Int32) = (3 : Int32) from by decide]
    refine w_iload (pc := 40) X C d1_40 rfl ?_
    refine w_aloadN (pc := 42) X C d1_42 rfl rfl ?_
    refine w_arraylength (pc := 43) X C d1_43 A0 ?_
    refine w_icmp_ge (pc := 44) X C d1_44 85 (by decide) (fun q19 => ?_) (fun q19 => absurd q19 (by decide))
    refine w_iconst (pc := 85) X C d1_85 (2 : Int32) rfl ?_
    refine w_new_int (pc := 86) X C d1_86 (List.mem_of_getElem? (i := 6) rfl) 2 rfl 2 (by decide) (by decide) (by decide) (by decide) (fun T20 h20 a20 ha20 hb20 X20 E20 A20 => ?_)
    have ne_x0_a20 : x0 ≠ a20 := Nat.ne_of_lt (by rw [ha20]; exact A0.lt)
    have Ak21 := A0.ext E20
    have K22 : Keep h h20 [] := (Keep.refl h []).ext E20
    refine w_dup (pc := 88) X20 C d1_88 rfl ?_
    refine w_iconst (pc := 89) X20 C d1_89 (0 : Int32) rfl ?_
    refine w_iload (pc := 90) X20 C d1_90 rfl ?_
    refine w_iastore (pc := 92) X20 C d1_92 A20 0 (by decide) (by decide) hb20 (fun T23 h23 X23 W23 A23 => ?_)
    obtain ⟨g23, hg23⟩ : ∃ z, z = up (fun _ => 0) 0 (1 : Int32) := ⟨_, rfl⟩
    rw [← hg23] at A23
    have Ak24 := Ak21.other W23 ne_x0_a20
    have K25 : Keep h h23 [] := K22.wr W23 (Or.inr (Nat.le_trans (Keep.refl h []).1 (Nat.le_of_eq ha20.symm)))
    refine w_dup (pc := 93) X23 C d1_93 rfl ?_
    refine w_iconst (pc := 94) X23 C d1_94 (1 : Int32) rfl ?_
    refine w_iload (pc := 95) X23 C d1_95 rfl ?_
    refine w_iloadN (pc := 97) X23 C d1_97 rfl ?_
    refine w_iadd (pc := 98) X23 C d1_98 ?_
    refine w_iastore (pc := 99) X23 C d1_99 A23 1 (by decide) (by decide) hb20 (fun T26 h26 X26 W26 A26 => ?_)
    obtain ⟨g26, hg26⟩ : ∃ z, z = up g23 1 ((1 : Int32) + (2 : Int32)) := ⟨_, rfl⟩
    rw [← hg26] at A26
    have Ak27 := Ak24.other W26 ne_x0_a20
    have K28 : Keep h h26 [] := K25.wr W26 (Or.inr (Nat.le_trans (Keep.refl h []).1 (Nat.le_of_eq ha20.symm)))
    have hb0 : g26 0 = (1 : Int32) := by simp [hg26, hg23, up]
    have hb1 : g26 1 = (3 : Int32) := by simp +decide [hg26, hg23, up]
    have lq8 := Int64.lt_iff_toInt_lt.mp q8
    have hsp : ((1 : Int32) = 0 ∧ v0.toInt + v1.toInt ≤ v1.toInt + v2.toInt) ∨ ((1 : Int32) = 1 ∧ v1.toInt + v2.toInt < v0.toInt + v1.toInt) := by
      exact Or.inr (⟨rfl, by omega⟩)
    exact w_retR (pc := 100) X26 C (t := (.array .int)) rfl rfl d1_100 ⟨a20, (1 : Int32), _, rfl, hb20, A26, hb0, hb1, hsp⟩
theorem ct1_3_2 (l : Launch) {Z : State} {a0 : Array Value} (hw : ∀ d ∈ tables_1, d.before a0 Z = true) (h : Heap) {n0 : Nat} (hn : n0 ≤ h.size) (x0 : Addr) (g : Nat → Int64) (v0 v1 v2 : Int64) (A0 : ArJ Z h x0 3 g) (hg0 : g 0 = v0) (hg1 : g 1 = v1) (hg2 : g 2 = v2) (hv0 : 0 ≤ v0.toInt ∧ v0.toInt < 2147483648) (hv1 : 0 ≤ v1.toInt ∧ v1.toInt < 2147483648) (hv2 : 0 ≤ v2.toInt ∧ v2.toInt < 2147483648) : Ct l (⟨"termwright/index/MergePolicy", "cheapest", "([JI)[I"⟩ : MethodName) prog_68_method_5_code 9 (some (.array .int)) ({ frames := 0, cells := 1, slots := 2, locals := 0 } : Room) Z #[(.ref x0), (.int (2 : Int32))] h n0 (fun v h' => ∃ r b gr, v = some (.ref r) ∧ n0 ≤ r ∧ ArI Z h' r .int 2 gr ∧ gr 0 = b ∧ gr 1 = b + 2 ∧ ((b = 0 ∧ v0.toInt + v1.toInt ≤ v1.toInt + v2.toInt) ∨ (b = 1 ∧ v1.toInt + v2.toInt < v0.toInt + v1.toInt))) :=
  Ct.of (plainFor_of_name pn_0) #[.val (.ref x0), .val (.int (2 : Int32)), .unset, .unset, .unset, .unset, .unset, .unset, .unset] (fun m => by first | (simp [entryFrame, mkF, argsToLocals, Value.category]; done) | rfl) hw hn (fun p e s m below meth c T C X => bw1_3_2 X C x0 g v0 v1 v2 A0 hg0 hg1 hg2 hv0 hv1 hv2)
set_option maxRecDepth 65536 in
set_option maxHeartbeats 40000000 in
theorem bw1_4_1 {p : Program} {l : Launch} {e : Env} {s : State} {m : MethodId} {args : Array Value} {below : List Frame} {meth : Method} {c : Code} {T : State} {h : Heap} {n0 : Nat} {Z : State} {a0 : Array Value} (X : Hr p l e ({ frames := 0, cells := 1, slots := 2, locals := 0 } : Room) s m args below meth c n0 h 0 0 T) (C : Cx p s m meth c prog_68_method_5_code 9 (some (.array .int)) "termwright/index/MergePolicy" "cheapest" Z a0 tables_1) (x0 : Addr) (g : Nat → Int64) (v0 v1 v2 v3 : Int64) (A0 : ArJ Z h x0 4 g) (hg0 : g 0 = v0) (hg1 : g 1 = v1) (hg2 : g 2 = v2) (hg3 : g 3 = v3) (hv0 : 0 ≤ v0.toInt ∧ v0.toInt < 2147483648) (hv1 : 0 ≤ v1.toInt ∧ v1.toInt < 2147483648) (hv2 : 0 ≤ v2.toInt ∧ v2.toInt < 2147483648) (hv3 : 0 ≤ v3.toInt ∧ v3.toInt < 2147483648) : Goes p e below s n0 (fun v h' => ∃ r b gr, v = some (.ref r) ∧ n0 ≤ r ∧ ArI Z h' r .int 2 gr ∧ gr 0 = b ∧ gr 1 = b + 4 ∧ (b = 0)) 1 2 T (mkF m 0 #[.val (.ref x0), .val (.int (1 : Int32)), .unset, .unset, .unset, .unset, .unset, .unset, .unset] []) := by
  refine w_aloadN (pc := 0) X C d1_0 rfl rfl ?_
  refine w_arraylength (pc := 1) X C d1_1 A0 ?_
  refine w_iloadN (pc := 2) X C d1_2 rfl ?_
  refine w_isub (pc := 3) X C d1_3 ?_
  refine w_iconst (pc := 4) X C d1_4 (1 : Int32) rfl ?_
  refine w_iadd (pc := 5) X C d1_5 ?_
  rw [show ((((Nat.toInt32 4) - (1 : Int32)) + (1 : Int32)) : Int32) = (4 : Int32) from by decide]
  refine w_istoreN (pc := 6) X C d1_6 #[.val (.ref x0), .val (.int (1 : Int32)), .val (.int (4 : Int32)), .unset, .unset, .unset, .unset, .unset, .unset] rfl ?_
  refine w_lconst (pc := 7) X C d1_7 (0 : Int64) rfl ?_
  refine w_lstoreN (pc := 8) X C d1_8 #[.val (.ref x0), .val (.int (1 : Int32)), .val (.int (4 : Int32)), .val (.long (0 : Int64)), .second, .unset, .unset, .unset, .unset] rfl ?_
  refine w_iconst (pc := 9) X C d1_9 (0 : Int32) rfl ?_
  refine w_istore (pc := 10) X C d1_10 #[.val (.ref x0), .val (.int (1 : Int32)), .val (.int (4 : Int32)), .val (.long (0 : Int64)), .second, .val (.int (0 : Int32)), .unset, .unset, .unset] rfl ?_
  refine w_iload (pc := 12) X C d1_12 rfl ?_
  refine w_iloadN (pc := 14) X C d1_14 rfl ?_
  refine w_icmp_ge (pc := 15) X C d1_15 31 (by decide) (fun q1 => absurd (by decide) q1) (fun q1 => ?_)
  refine w_lloadN (pc := 18) X C d1_18 rfl ?_
  refine w_aloadN (pc := 19) X C d1_19 rfl rfl ?_
  refine w_iload (pc := 20) X C d1_20 rfl ?_
  refine w_laload (pc := 22) X C d1_22 A0 0 (by decide) (by decide) ?_
  rw [hg0]
  refine w_ladd (pc := 23) X C d1_23 ?_
  obtain ⟨s2, e_s2⟩ : ∃ z, z = ((0 : Int64) + v0) := ⟨_, rfl⟩
  rw [← e_s2]
  have t_s2 : s2.toInt = 0 + v0.toInt := by
    have a1 := c_ladd (0 : Int64) v0; have a2 := rng64 ((0 : Int64) + v0); have a3 : (0 : Int64).toInt = 0 := rfl; rw [e_s2]; omega
  refine w_lstoreN (pc := 24) X C d1_24 #[.val (.ref x0), .val (.int (1 : Int32)), .val (.int (4 : Int32)), .val (.long s2), .second, .val (.int (0 : Int32)), .unset, .unset, .unset] rfl ?_
  refine w_iinc (pc := 25) X C d1_25 (1 : Int32) rfl rfl #[.val (.ref x0), .val (.int (1 : Int32)), .val (.int (4 : Int32)), .val (.long s2), .second, .val (.int ((0 : Int32) + (1 : Int32))), .unset, .unset, .unset] rfl ?_
  refine w_goto (pc := 28) X C d1_28 12 (by decide) ?_
  rw [show (((0 : Int32) + (1 : Int32)) : Int32) = (1 : Int32) from by decide]
  refine w_iload (pc := 12) X C d1_12 rfl ?_
  refine w_iloadN (pc := 14) X C d1_14 rfl ?_
  refine w_icmp_ge (pc := 15) X C d1_15 31 (by decide) (fun q3 => absurd (by decide) q3) (fun q3 => ?_)
  refine w_lloadN (pc := 18) X C d1_18 rfl ?_
  refine w_aloadN (pc := 19) X C d1_19 rfl rfl ?_
  refine w_iload (pc := 20) X C d1_20 rfl ?_
  refine w_laload (pc := 22) X C d1_22 A0 1 (by decide) (by decide) ?_
  rw [hg1]
  refine w_ladd (pc := 23) X C d1_23 ?_
  obtain ⟨s4, e_s4⟩ : ∃ z, z = (s2 + v1) := ⟨_, rfl⟩
  rw [← e_s4]
  have t_s4 : s4.toInt = 0 + v0.toInt + v1.toInt := by
    have a1 := c_ladd s2 v1; have a2 := rng64 (s2 + v1); rw [e_s4]; omega
  refine w_lstoreN (pc := 24) X C d1_24 #[.val (.ref x0), .val (.int (1 : Int32)), .val (.int (4 : Int32)), .val (.long s4), .second, .val (.int (1 : Int32)), .unset, .unset, .unset] rfl ?_
  refine w_iinc (pc := 25) X C d1_25 (1 : Int32) rfl rfl #[.val (.ref x0), .val (.int (1 : Int32)), .val (.int (4 : Int32)), .val (.long s4), .second, .val (.int ((1 : Int32) + (1 : Int32))), .unset, .unset, .unset] rfl ?_
  refine w_goto (pc := 28) X C d1_28 12 (by decide) ?_
  rw [show (((1 : Int32) + (1 : Int32)) : Int32) = (2 : Int32) from by decide]
  refine w_iload (pc := 12) X C d1_12 rfl ?_
  refine w_iloadN (pc := 14) X C d1_14 rfl ?_
  refine w_icmp_ge (pc := 15) X C d1_15 31 (by decide) (fun q5 => absurd (by decide) q5) (fun q5 => ?_)
  refine w_lloadN (pc := 18) X C d1_18 rfl ?_
  refine w_aloadN (pc := 19) X C d1_19 rfl rfl ?_
  refine w_iload (pc := 20) X C d1_20 rfl ?_
  refine w_laload (pc := 22) X C d1_22 A0 2 (by decide) (by decide) ?_
  rw [hg2]
  refine w_ladd (pc := 23) X C d1_23 ?_
  obtain ⟨s6, e_s6⟩ : ∃ z, z = (s4 + v2) := ⟨_, rfl⟩
  rw [← e_s6]
  have t_s6 : s6.toInt = 0 + v0.toInt + v1.toInt + v2.toInt := by
    have a1 := c_ladd s4 v2; have a2 := rng64 (s4 + v2); rw [e_s6]; omega
  refine w_lstoreN (pc := 24) X C d1_24 #[.val (.ref x0), .val (.int (1 : Int32)), .val (.int (4 : Int32)), .val (.long s6), .second, .val (.int (2 : Int32)), .unset, .unset, .unset] rfl ?_
  refine w_iinc (pc := 25) X C d1_25 (1 : Int32) rfl rfl #[.val (.ref x0), .val (.int (1 : Int32)), .val (.int (4 : Int32)), .val (.long s6), .second, .val (.int ((2 : Int32) + (1 : Int32))), .unset, .unset, .unset] rfl ?_
  refine w_goto (pc := 28) X C d1_28 12 (by decide) ?_
  rw [show (((2 : Int32) + (1 : Int32)) : Int32) = (3 : Int32) from by decide]
  refine w_iload (pc := 12) X C d1_12 rfl ?_
  refine w_iloadN (pc := 14) X C d1_14 rfl ?_
  refine w_icmp_ge (pc := 15) X C d1_15 31 (by decide) (fun q7 => absurd (by decide) q7) (fun q7 => ?_)
  refine w_lloadN (pc := 18) X C d1_18 rfl ?_
  refine w_aloadN (pc := 19) X C d1_19 rfl rfl ?_
  refine w_iload (pc := 20) X C d1_20 rfl ?_
  refine w_laload (pc := 22) X C d1_22 A0 3 (by decide) (by decide) ?_
  rw [hg3]
  refine w_ladd (pc := 23) X C d1_23 ?_
  obtain ⟨s8, e_s8⟩ : ∃ z, z = (s6 + v3) := ⟨_, rfl⟩
  rw [← e_s8]
  have t_s8 : s8.toInt = 0 + v0.toInt + v1.toInt + v2.toInt + v3.toInt := by
    have a1 := c_ladd s6 v3; have a2 := rng64 (s6 + v3); rw [e_s8]; omega
  refine w_lstoreN (pc := 24) X C d1_24 #[.val (.ref x0), .val (.int (1 : Int32)), .val (.int (4 : Int32)), .val (.long s8), .second, .val (.int (3 : Int32)), .unset, .unset, .unset] rfl ?_
  refine w_iinc (pc := 25) X C d1_25 (1 : Int32) rfl rfl #[.val (.ref x0), .val (.int (1 : Int32)), .val (.int (4 : Int32)), .val (.long s8), .second, .val (.int ((3 : Int32) + (1 : Int32))), .unset, .unset, .unset] rfl ?_
  refine w_goto (pc := 28) X C d1_28 12 (by decide) ?_
  rw [show (((3 : Int32) + (1 : Int32)) : Int32) = (4 : Int32) from by decide]
  refine w_iload (pc := 12) X C d1_12 rfl ?_
  refine w_iloadN (pc := 14) X C d1_14 rfl ?_
  refine w_icmp_ge (pc := 15) X C d1_15 31 (by decide) (fun q9 => ?_) (fun q9 => absurd q9 (by decide))
  refine w_iconst (pc := 31) X C d1_31 (0 : Int32) rfl ?_
  refine w_istore (pc := 32) X C d1_32 #[.val (.ref x0), .val (.int (1 : Int32)), .val (.int (4 : Int32)), .val (.long s8), .second, .val (.int (0 : Int32)), .unset, .unset, .unset] rfl ?_
  refine w_lloadN (pc := 34) X C d1_34 rfl ?_
  refine w_lstore (pc := 35) X C d1_35 #[.val (.ref x0), .val (.int (1 : Int32)), .val (.int (4 : Int32)), .val (.long s8), .second, .val (.int (0 : Int32)), .val (.long s8), .second, .unset] rfl ?_
  refine w_iloadN (pc := 37) X C d1_37 rfl ?_
  refine w_istore (pc := 38) X C d1_38 #[.val (.ref x0), .val (.int (1 : Int32)), .val (.int (4 : Int32)), .val (.long s8), .second, .val (.int (0 : Int32)), .val (.long s8), .second, .val (.int (4 : Int32))] rfl ?_
  refine w_iload (pc := 40) X C d1_40 rfl ?_
  refine w_aloadN (pc := 42) X C d1_42 rfl rfl ?_
  refine w_arraylength (pc := 43) X C d1_43 A0 ?_
  refine w_icmp_ge (pc := 44) X C d1_44 85 (by decide) (fun q10 => ?_) (fun q10 => absurd q10 (by decide))
  refine w_iconst (pc := 85) X C d1_85 (2 : Int32) rfl ?_
  refine w_new_int (pc := 86) X C d1_86 (List.mem_of_getElem? (i := 6) rfl) 2 rfl 2 (by decide) (by decide) (by decide) (by decide) (fun T11 h11 a11 ha11 hb11 X11 E11 A11 => ?_)
  have ne_x0_a11 : x0 ≠ a11 := Nat.ne_of_lt (by rw [ha11]; exact A0.lt)
  have Ak12 := A0.ext E11
  have K13 : Keep h h11 [] := (Keep.refl h []).ext E11
  refine w_dup (pc := 88) X11 C d1_88 rfl ?_
  refine w_iconst (pc := 89) X11 C d1_89 (0 : Int32) rfl ?_
  refine w_iload (pc := 90) X11 C d1_90 rfl ?_
  refine w_iastore (pc := 92) X11 C d1_92 A11 0 (by decide) (by decide) hb11 (fun T14 h14 X14 W14 A14 => ?_)
  obtain ⟨g14, hg14⟩ : ∃ z, z = up (fun _ => 0) 0 (0 : Int32) := ⟨_, rfl⟩
  rw [← hg14] at A14
  have Ak15 := Ak12.other W14 ne_x0_a11
  have K16 : Keep h h14 [] := K13.wr W14 (Or.inr (Nat.le_trans (Keep.refl h []).1 (Nat.le_of_eq ha11.symm)))
  refine w_dup (pc := 93) X14 C d1_93 rfl ?_
  refine w_iconst (pc := 94) X14 C d1_94 (1 : Int32) rfl ?_
  refine w_iload (pc := 95) X14 C d1_95 rfl ?_
  refine w_iloadN (pc := 97) X14 C d1_97 rfl ?_
  refine w_iadd (pc := 98) X14 C d1_98 ?_
  refine w_iastore (pc := 99) X14 C d1_99 A14 1 (by decide) (by decide) hb11 (fun T17 h17 X17 W17 A17 => ?_)
  obtain ⟨g17, hg17⟩ : ∃ z, z = up g14 1 ((0 : Int32) + (4 : Int32)) := ⟨_, rfl⟩
  rw [← hg17] at A17
  have Ak18 := Ak15.other W17 ne_x0_a11
  have K19 : Keep h h17 [] := K16.wr W17 (Or.inr (Nat.le_trans (Keep.refl h []).1 (Nat.le_of_eq ha11.symm)))
  have hb0 : g17 0 = (0 : Int32) := by simp [hg17, hg14, up]
  have hb1 : g17 1 = (4 : Int32) := by simp +decide [hg17, hg14, up]
  have hsp : (0 : Int32) = 0 := by
    rfl
  exact w_retR (pc := 100) X17 C (t := (.array .int)) rfl rfl d1_100 ⟨a11, (0 : Int32), _, rfl, hb11, A17, hb0, hb1, hsp⟩
theorem ct1_4_1 (l : Launch) {Z : State} {a0 : Array Value} (hw : ∀ d ∈ tables_1, d.before a0 Z = true) (h : Heap) {n0 : Nat} (hn : n0 ≤ h.size) (x0 : Addr) (g : Nat → Int64) (v0 v1 v2 v3 : Int64) (A0 : ArJ Z h x0 4 g) (hg0 : g 0 = v0) (hg1 : g 1 = v1) (hg2 : g 2 = v2) (hg3 : g 3 = v3) (hv0 : 0 ≤ v0.toInt ∧ v0.toInt < 2147483648) (hv1 : 0 ≤ v1.toInt ∧ v1.toInt < 2147483648) (hv2 : 0 ≤ v2.toInt ∧ v2.toInt < 2147483648) (hv3 : 0 ≤ v3.toInt ∧ v3.toInt < 2147483648) : Ct l (⟨"termwright/index/MergePolicy", "cheapest", "([JI)[I"⟩ : MethodName) prog_68_method_5_code 9 (some (.array .int)) ({ frames := 0, cells := 1, slots := 2, locals := 0 } : Room) Z #[(.ref x0), (.int (1 : Int32))] h n0 (fun v h' => ∃ r b gr, v = some (.ref r) ∧ n0 ≤ r ∧ ArI Z h' r .int 2 gr ∧ gr 0 = b ∧ gr 1 = b + 4 ∧ (b = 0)) :=
  Ct.of (plainFor_of_name pn_0) #[.val (.ref x0), .val (.int (1 : Int32)), .unset, .unset, .unset, .unset, .unset, .unset, .unset] (fun m => by first | (simp [entryFrame, mkF, argsToLocals, Value.category]; done) | rfl) hw hn (fun p e s m below meth c T C X => bw1_4_1 X C x0 g v0 v1 v2 v3 A0 hg0 hg1 hg2 hg3 hv0 hv1 hv2 hv3)
set_option maxRecDepth 65536 in
set_option maxHeartbeats 40000000 in
theorem bw1_4_2 {p : Program} {l : Launch} {e : Env} {s : State} {m : MethodId} {args : Array Value} {below : List Frame} {meth : Method} {c : Code} {T : State} {h : Heap} {n0 : Nat} {Z : State} {a0 : Array Value} (X : Hr p l e ({ frames := 0, cells := 1, slots := 2, locals := 0 } : Room) s m args below meth c n0 h 0 0 T) (C : Cx p s m meth c prog_68_method_5_code 9 (some (.array .int)) "termwright/index/MergePolicy" "cheapest" Z a0 tables_1) (x0 : Addr) (g : Nat → Int64) (v0 v1 v2 v3 : Int64) (A0 : ArJ Z h x0 4 g) (hg0 : g 0 = v0) (hg1 : g 1 = v1) (hg2 : g 2 = v2) (hg3 : g 3 = v3) (hv0 : 0 ≤ v0.toInt ∧ v0.toInt < 2147483648) (hv1 : 0 ≤ v1.toInt ∧ v1.toInt < 2147483648) (hv2 : 0 ≤ v2.toInt ∧ v2.toInt < 2147483648) (hv3 : 0 ≤ v3.toInt ∧ v3.toInt < 2147483648) : Goes p e below s n0 (fun v h' => ∃ r b gr, v = some (.ref r) ∧ n0 ≤ r ∧ ArI Z h' r .int 2 gr ∧ gr 0 = b ∧ gr 1 = b + 3 ∧ ((b = 0 ∧ v0.toInt + v1.toInt + v2.toInt ≤ v1.toInt + v2.toInt + v3.toInt) ∨ (b = 1 ∧ v1.toInt + v2.toInt + v3.toInt < v0.toInt + v1.toInt + v2.toInt))) 1 2 T (mkF m 0 #[.val (.ref x0), .val (.int (2 : Int32)), .unset, .unset, .unset, .unset, .unset, .unset, .unset] []) := by
  refine w_aloadN (pc := 0) X C d1_0 rfl rfl ?_
  refine w_arraylength (pc := 1) X C d1_1 A0 ?_
  refine w_iloadN (pc := 2) X C d1_2 rfl ?_
  refine w_isub (pc := 3) X C d1_3 ?_
  refine w_iconst (pc := 4) X C d1_4 (1 : Int32) rfl ?_
  refine w_iadd (pc := 5) X C d1_5 ?_
  rw [show ((((Nat.toInt32 4) - (2 : Int32)) + (1 : Int32)) : Int32) = (3 : Int32) from by decide]
  refine w_istoreN (pc := 6) X C d1_6 #[.val (.ref x0), .val (.int (2 : Int32)), .val (.int (3 : Int32)), .unset, .unset, .unset, .unset, .unset, .unset] rfl ?_
  refine w_lconst (pc := 7) X C d1_7 (0 : Int64) rfl ?_
  refine w_lstoreN (pc := 8) X C d1_8 #[.val (.ref x0), .val (.int (2 : Int32)), .val (.int (3 : Int32)), .val (.long (0 : Int64)), .second, .unset, .unset, .unset, .unset] rfl ?_
  refine w_iconst (pc := 9) X C d1_9 (0 : Int32) rfl ?_
  refine w_istore (pc := 10) X C d1_10 #[.val (.ref x0), .val (.int (2 : Int32)), .val (.int (3 : Int32)), .val (.long (0 : Int64)), .second, .val (.int (0 : Int32)), .unset, .unset, .unset] rfl ?_
  refine w_iload (pc := 12) X C d1_12 rfl ?_
  refine w_iloadN (pc := 14) X C d1_14 rfl ?_
  refine w_icmp_ge (pc := 15) X C d1_15 31 (by decide) (fun q1 => absurd (by decide) q1) (fun q1 => ?_)
  refine w_lloadN (pc := 18) X C d1_18 rfl ?_
  refine w_aloadN (pc := 19) X C d1_19 rfl rfl ?_
  refine w_iload (pc := 20) X C d1_20 rfl ?_
  refine w_laload (pc := 22) X C d1_22 A0 0 (by decide) (by decide) ?_
  rw [hg0]
  refine w_ladd (pc := 23) X C d1_23 ?_
  obtain ⟨s2, e_s2⟩ : ∃ z, z = ((0 : Int64) + v0) := ⟨_, rfl⟩
  rw [← e_s2]
  have t_s2 : s2.toInt = 0 + v0.toInt := by
    have a1 := c_ladd (0 : Int64) v0; have a2 := rng64 ((0 : Int64) + v0); have a3 : (0 : Int64).toInt = 0 := rfl; rw [e_s2]; omega
  refine w_lstoreN (pc := 24) X C d1_24 #[.val (.ref x0), .val (.int (2 : Int32)), .val (.int (3 : Int32)), .val (.long s2), .second, .val (.int (0 : Int32)), .unset, .unset, .unset] rfl ?_
  refine w_iinc (pc := 25) X C d1_25 (1 : Int32) rfl rfl #[.val (.ref x0), .val (.int (2 : Int32)), .val (.int (3 : Int32)), .val (.long s2), .second, .val (.int ((0 : Int32) + (1 : Int32))), .unset, .unset, .unset] rfl ?_
  refine w_goto (pc := 28) X C d1_28 12 (by decide) ?_
  rw [show (((0 : Int32) + (1 : Int32)) : Int32) = (1 : Int32) from by decide]
  refine w_iload (pc := 12) X C d1_12 rfl ?_
  refine w_iloadN (pc := 14) X C d1_14 rfl ?_
  refine w_icmp_ge (pc := 15) X C d1_15 31 (by decide) (fun q3 => absurd (by decide) q3) (fun q3 => ?_)
  refine w_lloadN (pc := 18) X C d1_18 rfl ?_
  refine w_aloadN (pc := 19) X C d1_19 rfl rfl ?_
  refine w_iload (pc := 20) X C d1_20 rfl ?_
  refine w_laload (pc := 22) X C d1_22 A0 1 (by decide) (by decide) ?_
  rw [hg1]
  refine w_ladd (pc := 23) X C d1_23 ?_
  obtain ⟨s4, e_s4⟩ : ∃ z, z = (s2 + v1) := ⟨_, rfl⟩
  rw [← e_s4]
  have t_s4 : s4.toInt = 0 + v0.toInt + v1.toInt := by
    have a1 := c_ladd s2 v1; have a2 := rng64 (s2 + v1); rw [e_s4]; omega
  refine w_lstoreN (pc := 24) X C d1_24 #[.val (.ref x0), .val (.int (2 : Int32)), .val (.int (3 : Int32)), .val (.long s4), .second, .val (.int (1 : Int32)), .unset, .unset, .unset] rfl ?_
  refine w_iinc (pc := 25) X C d1_25 (1 : Int32) rfl rfl #[.val (.ref x0), .val (.int (2 : Int32)), .val (.int (3 : Int32)), .val (.long s4), .second, .val (.int ((1 : Int32) + (1 : Int32))), .unset, .unset, .unset] rfl ?_
  refine w_goto (pc := 28) X C d1_28 12 (by decide) ?_
  rw [show (((1 : Int32) + (1 : Int32)) : Int32) = (2 : Int32) from by decide]
  refine w_iload (pc := 12) X C d1_12 rfl ?_
  refine w_iloadN (pc := 14) X C d1_14 rfl ?_
  refine w_icmp_ge (pc := 15) X C d1_15 31 (by decide) (fun q5 => absurd (by decide) q5) (fun q5 => ?_)
  refine w_lloadN (pc := 18) X C d1_18 rfl ?_
  refine w_aloadN (pc := 19) X C d1_19 rfl rfl ?_
  refine w_iload (pc := 20) X C d1_20 rfl ?_
  refine w_laload (pc := 22) X C d1_22 A0 2 (by decide) (by decide) ?_
  rw [hg2]
  refine w_ladd (pc := 23) X C d1_23 ?_
  obtain ⟨s6, e_s6⟩ : ∃ z, z = (s4 + v2) := ⟨_, rfl⟩
  rw [← e_s6]
  have t_s6 : s6.toInt = 0 + v0.toInt + v1.toInt + v2.toInt := by
    have a1 := c_ladd s4 v2; have a2 := rng64 (s4 + v2); rw [e_s6]; omega
  refine w_lstoreN (pc := 24) X C d1_24 #[.val (.ref x0), .val (.int (2 : Int32)), .val (.int (3 : Int32)), .val (.long s6), .second, .val (.int (2 : Int32)), .unset, .unset, .unset] rfl ?_
  refine w_iinc (pc := 25) X C d1_25 (1 : Int32) rfl rfl #[.val (.ref x0), .val (.int (2 : Int32)), .val (.int (3 : Int32)), .val (.long s6), .second, .val (.int ((2 : Int32) + (1 : Int32))), .unset, .unset, .unset] rfl ?_
  refine w_goto (pc := 28) X C d1_28 12 (by decide) ?_
  rw [show (((2 : Int32) + (1 : Int32)) : Int32) = (3 : Int32) from by decide]
  refine w_iload (pc := 12) X C d1_12 rfl ?_
  refine w_iloadN (pc := 14) X C d1_14 rfl ?_
  refine w_icmp_ge (pc := 15) X C d1_15 31 (by decide) (fun q7 => ?_) (fun q7 => absurd q7 (by decide))
  refine w_iconst (pc := 31) X C d1_31 (0 : Int32) rfl ?_
  refine w_istore (pc := 32) X C d1_32 #[.val (.ref x0), .val (.int (2 : Int32)), .val (.int (3 : Int32)), .val (.long s6), .second, .val (.int (0 : Int32)), .unset, .unset, .unset] rfl ?_
  refine w_lloadN (pc := 34) X C d1_34 rfl ?_
  refine w_lstore (pc := 35) X C d1_35 #[.val (.ref x0), .val (.int (2 : Int32)), .val (.int (3 : Int32)), .val (.long s6), .second, .val (.int (0 : Int32)), .val (.long s6), .second, .unset] rfl ?_
  refine w_iloadN (pc := 37) X C d1_37 rfl ?_
  refine w_istore (pc := 38) X C d1_38 #[.val (.ref x0), .val (.int (2 : Int32)), .val (.int (3 : Int32)), .val (.long s6), .second, .val (.int (0 : Int32)), .val (.long s6), .second, .val (.int (3 : Int32))] rfl ?_
  refine w_iload (pc := 40) X C d1_40 rfl ?_
  refine w_aloadN (pc := 42) X C d1_42 rfl rfl ?_
  refine w_arraylength (pc := 43) X C d1_43 A0 ?_
  refine w_icmp_ge (pc := 44) X C d1_44 85 (by decide) (fun q8 => absurd (by decide) q8) (fun q8 => ?_)
  refine w_lloadN (pc := 47) X C d1_47 rfl ?_
  refine w_aloadN (pc := 48) X C d1_48 rfl rfl ?_
  refine w_iload (pc := 49) X C d1_49 rfl ?_
  refine w_laload (pc := 51) X C d1_51 A0 3 (by decide) (by decide) ?_
  rw [hg3]
  refine w_aloadN (pc := 52) X C d1_52 rfl rfl ?_
  refine w_iload (pc := 53) X C d1_53 rfl ?_
  refine w_iloadN (pc := 55) X C d1_55 rfl ?_
  refine w_isub (pc := 56) X C d1_56 ?_
  refine w_laload (pc := 57) X C d1_57 A0 0 (by decide) (by decide) ?_
  rw [hg0]
  refine w_lsub (pc := 58) X C d1_58 ?_
  refine w_ladd (pc := 59) X C d1_59 ?_
  obtain ⟨s9, e_s9⟩ : ∃ z, z = (s6 + (v3 - v0)) := ⟨_, rfl⟩
  rw [← e_s9]
  have t_s9 : s9.toInt = 0 + v0.toInt + v1.toInt + v2.toInt + v3.toInt - v0.toInt := by
    have a1 := c_lsub v3 v0; have a2 := rng64 (v3 - v0); have a3 := c_ladd s6 (v3 - v0); have a4 := rng64 (s6 + (v3 - v0)); rw [e_s9]; omega
  refine w_lstoreN (pc := 60) X C d1_60 #[.val (.ref x0), .val (.int (2 : Int32)), .val (.int (3 : Int32)), .val (.long s9), .second, .val (.int (0 : Int32)), .val (.long s6), .second, .val (.int (3 : Int32))] rfl ?_
  refine w_lloadN (pc := 61) X C d1_61 rfl ?_
  refine w_lload (pc := 62) X C d1_62 rfl ?_
  refine w_lcmp (pc := 64) X C d1_64 ?_
  refine w_ifJ_ge (pc := 65) X C d1_65 79 (by decide) (fun q10 => ?_) (fun q10 => ?_)
  · -- yes
    refine w_iinc (pc := 79) X C d1_79 (1 : Int32) rfl rfl #[.val (.ref x0), .val (.int (2 : Int32)), .val (.int (3 : Int32)), .val (.long s9), .second, .val (.int (0 : Int32)), .val (.long s6), .second, .val (.int ((3 : Int32) + (1 : Int32)))] rfl ?_
    refine w_goto (pc := 82) X C d1_82 40 (by decide) ?_
    rw [show (((3 : Int32) + (1 : Int32)) : Int32) = (4 : Int32) from by decide]
    refine w_iload (pc := 40) X C d1_40 rfl ?_
    refine w_aloadN (pc := 42) X C d1_42 rfl rfl ?_
    refine w_arraylength (pc := 43) X C d1_43 A0 ?_
    refine w_icmp_ge (pc := 44) X C d1_44 85 (by decide) (fun q11 => ?_) (fun q11 => absurd q11 (by decide))
    refine w_iconst (pc := 85) X C d1_85 (2 : Int32) rfl ?_
    refine w_new_int (pc := 86) X C d1_86 (List.mem_of_getElem? (i := 6) rfl) 2 rfl 2 (by decide) (by decide) (by decide) (by decide) (fun T12 h12 a12 ha12 hb12 X12 E12 A12 => ?_)
    have ne_x0_a12 : x0 ≠ a12 := Nat.ne_of_lt (by rw [ha12]; exact A0.lt)
    have Ak13 := A0.ext E12
    have K14 : Keep h h12 [] := (Keep.refl h []).ext E12
    refine w_dup (pc := 88) X12 C d1_88 rfl ?_
    refine w_iconst (pc := 89) X12 C d1_89 (0 : Int32) rfl ?_
    refine w_iload (pc := 90) X12 C d1_90 rfl ?_
    refine w_iastore (pc := 92) X12 C d1_92 A12 0 (by decide) (by decide) hb12 (fun T15 h15 X15 W15 A15 => ?_)
    obtain ⟨g15, hg15⟩ : ∃ z, z = up (fun _ => 0) 0 (0 : Int32) := ⟨_, rfl⟩
    rw [← hg15] at A15
    have Ak16 := Ak13.other W15 ne_x0_a12
    have K17 : Keep h h15 [] := K14.wr W15 (Or.inr (Nat.le_trans (Keep.refl h []).1 (Nat.le_of_eq ha12.symm)))
    refine w_dup (pc := 93) X15 C d1_93 rfl ?_
    refine w_iconst (pc := 94) X15 C d1_94 (1 : Int32) rfl ?_
    refine w_iload (pc := 95) X15 C d1_95 rfl ?_
    refine w_iloadN (pc := 97) X15 C d1_97 rfl ?_
    refine w_iadd (pc := 98) X15 C d1_98 ?_
    refine w_iastore (pc := 99) X15 C d1_99 A15 1 (by decide) (by decide) hb12 (fun T18 h18 X18 W18 A18 => ?_)
    obtain ⟨g18, hg18⟩ : ∃ z, z = up g15 1 ((0 : Int32) + (3 : Int32)) := ⟨_, rfl⟩
    rw [← hg18] at A18
    have Ak19 := Ak16.other W18 ne_x0_a12
    have K20 : Keep h h18 [] := K17.wr W18 (Or.inr (Nat.le_trans (Keep.refl h []).1 (Nat.le_of_eq ha12.symm)))
    have hb0 : g18 0 = (0 : Int32) := by simp [hg18, hg15, up]
    have hb1 : g18 1 = (3 : Int32) := by simp +decide [hg18, hg15, up]
    have lq10 := Int64.le_iff_toInt_le.mp (Int64.not_lt.mp q10)
    have hsp : ((0 : Int32) = 0 ∧ v0.toInt + v1.toInt + v2.toInt ≤ v1.toInt + v2.toInt + v3.toInt) ∨ ((0 : Int32) = 1 ∧ v1.toInt + v2.toInt + v3.toInt < v0.toInt + v1.toInt + v2.toInt) := by
      exact Or.inl ⟨rfl, by omega⟩
    exact w_retR (pc := 100) X18 C (t := (.array .int)) rfl rfl d1_100 ⟨a12, (0 : Int32), _, rfl, hb12, A18, hb0, hb1, hsp⟩
  · -- no
    refine w_lloadN (pc := 68) X C d1_68 rfl ?_
    refine w_lstore (pc := 69) X C d1_69 #[.val (.ref x0), .val (.int (2 : Int32)), .val (.int (3 : Int32)), .val (.long s9), .second, .val (.int (0 : Int32)), .val (.long s9), .second, .val (.int (3 : Int32))] rfl ?_
    refine w_iload (pc := 71) X C d1_71 rfl ?_
    refine w_iloadN (pc := 73) X C d1_73 rfl ?_
    refine w_isub (pc := 74) X C d1_74 ?_
    refine w_iconst (pc := 75) X C d1_75 (1 : Int32) rfl ?_
    refine w_iadd (pc := 76) X C d1_76 ?_
    rw [show ((((3 : Int32) - (3 : Int32)) + (1 : Int32)) : Int32) = (1 : Int32) from by decide]
    refine w_istore (pc := 77) X C d1_77 #[.val (.ref x0), .val (.int (2 : Int32)), .val (.int (3 : Int32)), .val (.long s9), .second, .val (.int (1 : Int32)), .val (.long s9), .second, .val (.int (3 : Int32))] rfl ?_
    refine w_iinc (pc := 79) X C d1_79 (1 : Int32) rfl rfl #[.val (.ref x0), .val (.int (2 : Int32)), .val (.int (3 : Int32)), .val (.long s9), .second, .val (.int (1 : Int32)), .val (.long s9), .second, .val (.int ((3 : Int32) + (1 : Int32)))] rfl ?_
    refine w_goto (pc := 82) X C d1_82 40 (by decide) ?_
    rw [show (((3 : Int32) + (1 : Int32)) : Int32) = (4 : Int32) from by decide]
    refine w_iload (pc := 40) X C d1_40 rfl ?_
    refine w_aloadN (pc := 42) X C d1_42 rfl rfl ?_
    refine w_arraylength (pc := 43) X C d1_43 A0 ?_
    refine w_icmp_ge (pc := 44) X C d1_44 85 (by decide) (fun q21 => ?_) (fun q21 => absurd q21 (by decide))
    refine w_iconst (pc := 85) X C d1_85 (2 : Int32) rfl ?_
    refine w_new_int (pc := 86) X C d1_86 (List.mem_of_getElem? (i := 6) rfl) 2 rfl 2 (by decide) (by decide) (by decide) (by decide) (fun T22 h22 a22 ha22 hb22 X22 E22 A22 => ?_)
    have ne_x0_a22 : x0 ≠ a22 := Nat.ne_of_lt (by rw [ha22]; exact A0.lt)
    have Ak23 := A0.ext E22
    have K24 : Keep h h22 [] := (Keep.refl h []).ext E22
    refine w_dup (pc := 88) X22 C d1_88 rfl ?_
    refine w_iconst (pc := 89) X22 C d1_89 (0 : Int32) rfl ?_
    refine w_iload (pc := 90) X22 C d1_90 rfl ?_
    refine w_iastore (pc := 92) X22 C d1_92 A22 0 (by decide) (by decide) hb22 (fun T25 h25 X25 W25 A25 => ?_)
    obtain ⟨g25, hg25⟩ : ∃ z, z = up (fun _ => 0) 0 (1 : Int32) := ⟨_, rfl⟩
    rw [← hg25] at A25
    have Ak26 := Ak23.other W25 ne_x0_a22
    have K27 : Keep h h25 [] := K24.wr W25 (Or.inr (Nat.le_trans (Keep.refl h []).1 (Nat.le_of_eq ha22.symm)))
    refine w_dup (pc := 93) X25 C d1_93 rfl ?_
    refine w_iconst (pc := 94) X25 C d1_94 (1 : Int32) rfl ?_
    refine w_iload (pc := 95) X25 C d1_95 rfl ?_
    refine w_iloadN (pc := 97) X25 C d1_97 rfl ?_
    refine w_iadd (pc := 98) X25 C d1_98 ?_
    refine w_iastore (pc := 99) X25 C d1_99 A25 1 (by decide) (by decide) hb22 (fun T28 h28 X28 W28 A28 => ?_)
    obtain ⟨g28, hg28⟩ : ∃ z, z = up g25 1 ((1 : Int32) + (3 : Int32)) := ⟨_, rfl⟩
    rw [← hg28] at A28
    have Ak29 := Ak26.other W28 ne_x0_a22
    have K30 : Keep h h28 [] := K27.wr W28 (Or.inr (Nat.le_trans (Keep.refl h []).1 (Nat.le_of_eq ha22.symm)))
    have hb0 : g28 0 = (1 : Int32) := by simp [hg28, hg25, up]
    have hb1 : g28 1 = (4 : Int32) := by simp +decide [hg28, hg25, up]
    have lq10 := Int64.lt_iff_toInt_lt.mp q10
    have hsp : ((1 : Int32) = 0 ∧ v0.toInt + v1.toInt + v2.toInt ≤ v1.toInt + v2.toInt + v3.toInt) ∨ ((1 : Int32) = 1 ∧ v1.toInt + v2.toInt + v3.toInt < v0.toInt + v1.toInt + v2.toInt) := by
      exact Or.inr (⟨rfl, by omega⟩)
    exact w_retR (pc := 100) X28 C (t := (.array .int)) rfl rfl d1_100 ⟨a22, (1 : Int32), _, rfl, hb22, A28, hb0, hb1, hsp⟩
theorem ct1_4_2 (l : Launch) {Z : State} {a0 : Array Value} (hw : ∀ d ∈ tables_1, d.before a0 Z = true) (h : Heap) {n0 : Nat} (hn : n0 ≤ h.size) (x0 : Addr) (g : Nat → Int64) (v0 v1 v2 v3 : Int64) (A0 : ArJ Z h x0 4 g) (hg0 : g 0 = v0) (hg1 : g 1 = v1) (hg2 : g 2 = v2) (hg3 : g 3 = v3) (hv0 : 0 ≤ v0.toInt ∧ v0.toInt < 2147483648) (hv1 : 0 ≤ v1.toInt ∧ v1.toInt < 2147483648) (hv2 : 0 ≤ v2.toInt ∧ v2.toInt < 2147483648) (hv3 : 0 ≤ v3.toInt ∧ v3.toInt < 2147483648) : Ct l (⟨"termwright/index/MergePolicy", "cheapest", "([JI)[I"⟩ : MethodName) prog_68_method_5_code 9 (some (.array .int)) ({ frames := 0, cells := 1, slots := 2, locals := 0 } : Room) Z #[(.ref x0), (.int (2 : Int32))] h n0 (fun v h' => ∃ r b gr, v = some (.ref r) ∧ n0 ≤ r ∧ ArI Z h' r .int 2 gr ∧ gr 0 = b ∧ gr 1 = b + 3 ∧ ((b = 0 ∧ v0.toInt + v1.toInt + v2.toInt ≤ v1.toInt + v2.toInt + v3.toInt) ∨ (b = 1 ∧ v1.toInt + v2.toInt + v3.toInt < v0.toInt + v1.toInt + v2.toInt))) :=
  Ct.of (plainFor_of_name pn_0) #[.val (.ref x0), .val (.int (2 : Int32)), .unset, .unset, .unset, .unset, .unset, .unset, .unset] (fun m => by first | (simp [entryFrame, mkF, argsToLocals, Value.category]; done) | rfl) hw hn (fun p e s m below meth c T C X => bw1_4_2 X C x0 g v0 v1 v2 v3 A0 hg0 hg1 hg2 hg3 hv0 hv1 hv2 hv3)
set_option maxRecDepth 65536 in
set_option maxHeartbeats 40000000 in
theorem bw1_4_3 {p : Program} {l : Launch} {e : Env} {s : State} {m : MethodId} {args : Array Value} {below : List Frame} {meth : Method} {c : Code} {T : State} {h : Heap} {n0 : Nat} {Z : State} {a0 : Array Value} (X : Hr p l e ({ frames := 0, cells := 1, slots := 2, locals := 0 } : Room) s m args below meth c n0 h 0 0 T) (C : Cx p s m meth c prog_68_method_5_code 9 (some (.array .int)) "termwright/index/MergePolicy" "cheapest" Z a0 tables_1) (x0 : Addr) (g : Nat → Int64) (v0 v1 v2 v3 : Int64) (A0 : ArJ Z h x0 4 g) (hg0 : g 0 = v0) (hg1 : g 1 = v1) (hg2 : g 2 = v2) (hg3 : g 3 = v3) (hv0 : 0 ≤ v0.toInt ∧ v0.toInt < 2147483648) (hv1 : 0 ≤ v1.toInt ∧ v1.toInt < 2147483648) (hv2 : 0 ≤ v2.toInt ∧ v2.toInt < 2147483648) (hv3 : 0 ≤ v3.toInt ∧ v3.toInt < 2147483648) : Goes p e below s n0 (fun v h' => ∃ r b gr, v = some (.ref r) ∧ n0 ≤ r ∧ ArI Z h' r .int 2 gr ∧ gr 0 = b ∧ gr 1 = b + 2 ∧ ((b = 0 ∧ v0.toInt + v1.toInt ≤ v1.toInt + v2.toInt ∧ v0.toInt + v1.toInt ≤ v2.toInt + v3.toInt) ∨ (b = 1 ∧ v1.toInt + v2.toInt < v0.toInt + v1.toInt ∧ v1.toInt + v2.toInt ≤ v2.toInt + v3.toInt) ∨ (b = 2 ∧ v2.toInt + v3.toInt < v0.toInt + v1.toInt ∧ v2.toInt + v3.toInt < v1.toInt + v2.toInt))) 1 2 T (mkF m 0 #[.val (.ref x0), .val (.int (3 : Int32)), .unset, .unset, .unset, .unset, .unset, .unset, .unset] []) := by
  refine w_aloadN (pc := 0) X C d1_0 rfl rfl ?_
  refine w_arraylength (pc := 1) X C d1_1 A0 ?_
  refine w_iloadN (pc := 2) X C d1_2 rfl ?_
  refine w_isub (pc := 3) X C d1_3 ?_
  refine w_iconst (pc := 4) X C d1_4 (1 : Int32) rfl ?_
  refine w_iadd (pc := 5) X C d1_5 ?_
  rw [show ((((Nat.toInt32 4) - (3 : Int32)) + (1 : Int32)) : Int32) = (2 : Int32) from by decide]
  refine w_istoreN (pc := 6) X C d1_6 #[.val (.ref x0), .val (.int (3 : Int32)), .val (.int (2 : Int32)), .unset, .unset, .unset, .unset, .unset, .unset] rfl ?_
  refine w_lconst (pc := 7) X C d1_7 (0 : Int64) rfl ?_
  refine w_lstoreN (pc := 8) X C d1_8 #[.val (.ref x0), .val (.int (3 : Int32)), .val (.int (2 : Int32)), .val (.long (0 : Int64)), .second, .unset, .unset, .unset, .unset] rfl ?_
  refine w_iconst (pc := 9) X C d1_9 (0 : Int32) rfl ?_
  refine w_istore (pc := 10) X C d1_10 #[.val (.ref x0), .val (.int (3 : Int32)), .val (.int (2 : Int32)), .val (.long (0 : Int64)), .second, .val (.int (0 : Int32)), .unset, .unset, .unset] rfl ?_
  refine w_iload (pc := 12) X C d1_12 rfl ?_
  refine w_iloadN (pc := 14) X C d1_14 rfl ?_
  refine w_icmp_ge (pc := 15) X C d1_15 31 (by decide) (fun q1 => absurd (by decide) q1) (fun q1 => ?_)
  refine w_lloadN (pc := 18) X C d1_18 rfl ?_
  refine w_aloadN (pc := 19) X C d1_19 rfl rfl ?_
  refine w_iload (pc := 20) X C d1_20 rfl ?_
  refine w_laload (pc := 22) X C d1_22 A0 0 (by decide) (by decide) ?_
  rw [hg0]
  refine w_ladd (pc := 23) X C d1_23 ?_
  obtain ⟨s2, e_s2⟩ : ∃ z, z = ((0 : Int64) + v0) := ⟨_, rfl⟩
  rw [← e_s2]
  have t_s2 : s2.toInt = 0 + v0.toInt := by
    have a1 := c_ladd (0 : Int64) v0; have a2 := rng64 ((0 : Int64) + v0); have a3 : (0 : Int64).toInt = 0 := rfl; rw [e_s2]; omega
  refine w_lstoreN (pc := 24) X C d1_24 #[.val (.ref x0), .val (.int (3 : Int32)), .val (.int (2 : Int32)), .val (.long s2), .second, .val (.int (0 : Int32)), .unset, .unset, .unset] rfl ?_
  refine w_iinc (pc := 25) X C d1_25 (1 : Int32) rfl rfl #[.val (.ref x0), .val (.int (3 : Int32)), .val (.int (2 : Int32)), .val (.long s2), .second, .val (.int ((0 : Int32) + (1 : Int32))), .unset, .unset, .unset] rfl ?_
  refine w_goto (pc := 28) X C d1_28 12 (by decide) ?_
  rw [show (((0 : Int32) + (1 : Int32)) : Int32) = (1 : Int32) from by decide]
  refine w_iload (pc := 12) X C d1_12 rfl ?_
  refine w_iloadN (pc := 14) X C d1_14 rfl ?_
  refine w_icmp_ge (pc := 15) X C d1_15 31 (by decide) (fun q3 => absurd (by decide) q3) (fun q3 => ?_)
  refine w_lloadN (pc := 18) X C d1_18 rfl ?_
  refine w_aloadN (pc := 19) X C d1_19 rfl rfl ?_
  refine w_iload (pc := 20) X C d1_20 rfl ?_
  refine w_laload (pc := 22) X C d1_22 A0 1 (by decide) (by decide) ?_
  rw [hg1]
  refine w_ladd (pc := 23) X C d1_23 ?_
  obtain ⟨s4, e_s4⟩ : ∃ z, z = (s2 + v1) := ⟨_, rfl⟩
  rw [← e_s4]
  have t_s4 : s4.toInt = 0 + v0.toInt + v1.toInt := by
    have a1 := c_ladd s2 v1; have a2 := rng64 (s2 + v1); rw [e_s4]; omega
  refine w_lstoreN (pc := 24) X C d1_24 #[.val (.ref x0), .val (.int (3 : Int32)), .val (.int (2 : Int32)), .val (.long s4), .second, .val (.int (1 : Int32)), .unset, .unset, .unset] rfl ?_
  refine w_iinc (pc := 25) X C d1_25 (1 : Int32) rfl rfl #[.val (.ref x0), .val (.int (3 : Int32)), .val (.int (2 : Int32)), .val (.long s4), .second, .val (.int ((1 : Int32) + (1 : Int32))), .unset, .unset, .unset] rfl ?_
  refine w_goto (pc := 28) X C d1_28 12 (by decide) ?_
  rw [show (((1 : Int32) + (1 : Int32)) : Int32) = (2 : Int32) from by decide]
  refine w_iload (pc := 12) X C d1_12 rfl ?_
  refine w_iloadN (pc := 14) X C d1_14 rfl ?_
  refine w_icmp_ge (pc := 15) X C d1_15 31 (by decide) (fun q5 => ?_) (fun q5 => absurd q5 (by decide))
  refine w_iconst (pc := 31) X C d1_31 (0 : Int32) rfl ?_
  refine w_istore (pc := 32) X C d1_32 #[.val (.ref x0), .val (.int (3 : Int32)), .val (.int (2 : Int32)), .val (.long s4), .second, .val (.int (0 : Int32)), .unset, .unset, .unset] rfl ?_
  refine w_lloadN (pc := 34) X C d1_34 rfl ?_
  refine w_lstore (pc := 35) X C d1_35 #[.val (.ref x0), .val (.int (3 : Int32)), .val (.int (2 : Int32)), .val (.long s4), .second, .val (.int (0 : Int32)), .val (.long s4), .second, .unset] rfl ?_
  refine w_iloadN (pc := 37) X C d1_37 rfl ?_
  refine w_istore (pc := 38) X C d1_38 #[.val (.ref x0), .val (.int (3 : Int32)), .val (.int (2 : Int32)), .val (.long s4), .second, .val (.int (0 : Int32)), .val (.long s4), .second, .val (.int (2 : Int32))] rfl ?_
  refine w_iload (pc := 40) X C d1_40 rfl ?_
  refine w_aloadN (pc := 42) X C d1_42 rfl rfl ?_
  refine w_arraylength (pc := 43) X C d1_43 A0 ?_
  refine w_icmp_ge (pc := 44) X C d1_44 85 (by decide) (fun q6 => absurd (by decide) q6) (fun q6 => ?_)
  refine w_lloadN (pc := 47) X C d1_47 rfl ?_
  refine w_aloadN (pc := 48) X C d1_48 rfl rfl ?_
  refine w_iload (pc := 49) X C d1_49 rfl ?_
  refine w_laload (pc := 51) X C d1_51 A0 2 (by decide) (by decide) ?_
  rw [hg2]
  refine w_aloadN (pc := 52) X C d1_52 rfl rfl ?_
  refine w_iload (pc := 53) X C d1_53 rfl ?_
  refine w_iloadN (pc := 55) X C d1_55 rfl ?_
  refine w_isub (pc := 56) X C d1_56 ?_
  refine w_laload (pc := 57) X C d1_57 A0 0 (by decide) (by decide) ?_
  rw [hg0]
  refine w_lsub (pc := 58) X C d1_58 ?_
  refine w_ladd (pc := 59) X C d1_59 ?_
  obtain ⟨s7, e_s7⟩ : ∃ z, z = (s4 + (v2 - v0)) := ⟨_, rfl⟩
  rw [← e_s7]
  have t_s7 : s7.toInt = 0 + v0.toInt + v1.toInt + v2.toInt - v0.toInt := by
    have a1 := c_lsub v2 v0; have a2 := rng64 (v2 - v0); have a3 := c_ladd s4 (v2 - v0); have a4 := rng64 (s4 + (v2 - v0)); rw [e_s7]; omega
  refine w_lstoreN (pc := 60) X C d1_60 #[.val (.ref x0), .val (.int (3 : Int32)), .val (.int (2 : Int32)), .val (.long s7), .second, .val (.int (0 : Int32)), .val (.long s4), .second, .val (.int (2 : Int32))] rfl ?_
  refine w_lloadN (pc := 61) X C d1_61 rfl ?_
  refine w_lload (pc := 62) X C d1_62 rfl ?_
  refine w_lcmp (pc := 64) X C d1_64 ?_
  refine w_ifJ_ge (pc := 65) X C d1_65 79 (by decide) (fun q8 => ?_) (fun q8 => ?_)
  · -- yes
    refine w_iinc (pc := 79) X C d1_79 (1 : Int32) rfl rfl #[.val (.ref x0), .val (.int (3 : Int32)), .val (.int (2 : Int32)), .val (.long s7), .second, .val (.int (0 : Int32)), .val (.long s4), .second, .val (.int ((2 : Int32) + (1 : Int32)))] rfl ?_
    refine w_goto (pc := 82) X C d1_82 40 (by decide) ?_
    rw [show (((2 : Int32) + (1 : Int32)) : Int32) = (3 : Int32) from by decide]
    refine w_iload (pc := 40) X C d1_40 rfl ?_
    refine w_aloadN (pc := 42) X C d1_42 rfl rfl ?_
    refine w_arraylength (pc := 43) X C d1_43 A0 ?_
    refine w_icmp_ge (pc := 44) X C d1_44 85 (by decide) (fun q9 => absurd (by decide) q9) (fun q9 => ?_)
    refine w_lloadN (pc := 47) X C d1_47 rfl ?_
    refine w_aloadN (pc := 48) X C d1_48 rfl rfl ?_
    refine w_iload (pc := 49) X C d1_49 rfl ?_
    refine w_laload (pc := 51) X C d1_51 A0 3 (by decide) (by decide) ?_
    rw [hg3]
    refine w_aloadN (pc := 52) X C d1_52 rfl rfl ?_
    refine w_iload (pc := 53) X C d1_53 rfl ?_
    refine w_iloadN (pc := 55) X C d1_55 rfl ?_
    refine w_isub (pc := 56) X C d1_56 ?_
    refine w_laload (pc := 57) X C d1_57 A0 1 (by decide) (by decide) ?_
    rw [hg1]
    refine w_lsub (pc := 58) X C d1_58 ?_
    refine w_ladd (pc := 59) X C d1_59 ?_
    obtain ⟨s10, e_s10⟩ : ∃ z, z = (s7 + (v3 - v1)) := ⟨_, rfl⟩
    rw [← e_s10]
    have t_s10 : s10.toInt = 0 + v0.toInt + v1.toInt + v2.toInt - v0.toInt + v3.toInt - v1.toInt := by
      have a1 := c_lsub v3 v1; have a2 := rng64 (v3 - v1); have a3 := c_ladd s7 (v3 - v1); have a4 := rng64 (s7 + (v3 - v1)); rw [e_s10]; omega
    refine w_lstoreN (pc := 60) X C d1_60 #[.val (.ref x0), .val (.int (3 : Int32)), .val (.int (2 : Int32)), .val (.long s10), .second, .val (.int (0 : Int32)), .val (.long s4), .second, .val (.int (3 : Int32))] rfl ?_
    refine w_lloadN (pc := 61) X C d1_61 rfl ?_
    refine w_lload (pc := 62) X C d1_62 rfl ?_
    refine w_lcmp (pc := 64) X C d1_64 ?_
    refine w_ifJ_ge (pc := 65) X C d1_65 79 (by decide) (fun q11 => ?_) (fun q11 => ?_)
    · -- yes
      refine w_iinc (pc := 79) X C d1_79 (1 : Int32) rfl rfl #[.val (.ref x0), .val (.int (3 : Int32)), .val (.int (2 : Int32)), .val (.long s10), .second, .val (.int (0 : Int32)), .val (.long s4), .second, .val (.int ((3 : Int32) + (1 : Int32)))] rfl ?_
      refine w_goto (pc := 82) X C d1_82 40 (by decide) ?_
      rw [show (((3 : Int32) + (1 : Int32)) : Int32) = (4 : Int32) from by decide]
      refine w_iload (pc := 40) X C d1_40 rfl ?_
      refine w_aloadN (pc := 42) X C d1_42 rfl rfl ?_
      refine w_arraylength (pc := 43) X C d1_43 A0 ?_
      refine w_icmp_ge (pc := 44) X C d1_44 85 (by decide) (fun q12 => ?_) (fun q12 => absurd q12 (by decide))
      refine w_iconst (pc := 85) X C d1_85 (2 : Int32) rfl ?_
      refine w_new_int (pc := 86) X C d1_86 (List.mem_of_getElem? (i := 6) rfl) 2 rfl 2 (by decide) (by decide) (by decide) (by decide) (fun T13 h13 a13 ha13 hb13 X13 E13 A13 => ?_)
      have ne_x0_a13 : x0 ≠ a13 := Nat.ne_of_lt (by rw [ha13]; exact A0.lt)
      have Ak14 := A0.ext E13
      have K15 : Keep h h13 [] := (Keep.refl h []).ext E13
      refine w_dup (pc := 88) X13 C d1_88 rfl ?_
      refine w_iconst (pc := 89) X13 C d1_89 (0 : Int32) rfl ?_
      refine w_iload (pc := 90) X13 C d1_90 rfl ?_
      refine w_iastore (pc := 92) X13 C d1_92 A13 0 (by decide) (by decide) hb13 (fun T16 h16 X16 W16 A16 => ?_)
      obtain ⟨g16, hg16⟩ : ∃ z, z = up (fun _ => 0) 0 (0 : Int32) := ⟨_, rfl⟩
      rw [← hg16] at A16
      have Ak17 := Ak14.other W16 ne_x0_a13
      have K18 : Keep h h16 [] := K15.wr W16 (Or.inr (Nat.le_trans (Keep.refl h []).1 (Nat.le_of_eq ha13.symm)))
      refine w_dup (pc := 93) X16 C d1_93 rfl ?_
      refine w_iconst (pc := 94) X16 C d1_94 (1 : Int32) rfl ?_
      refine w_iload (pc := 95) X16 C d1_95 rfl ?_
      refine w_iloadN (pc := 97) X16 C d1_97 rfl ?_
      refine w_iadd (pc := 98) X16 C d1_98 ?_
      refine w_iastore (pc := 99) X16 C d1_99 A16 1 (by decide) (by decide) hb13 (fun T19 h19 X19 W19 A19 => ?_)
      obtain ⟨g19, hg19⟩ : ∃ z, z = up g16 1 ((0 : Int32) + (2 : Int32)) := ⟨_, rfl⟩
      rw [← hg19] at A19
      have Ak20 := Ak17.other W19 ne_x0_a13
      have K21 : Keep h h19 [] := K18.wr W19 (Or.inr (Nat.le_trans (Keep.refl h []).1 (Nat.le_of_eq ha13.symm)))
      have hb0 : g19 0 = (0 : Int32) := by simp [hg19, hg16, up]
      have hb1 : g19 1 = (2 : Int32) := by simp +decide [hg19, hg16, up]
      have lq8 := Int64.le_iff_toInt_le.mp (Int64.not_lt.mp q8)
      have lq11 := Int64.le_iff_toInt_le.mp (Int64.not_lt.mp q11)
      have hsp : ((0 : Int32) = 0 ∧ v0.toInt + v1.toInt ≤ v1.toInt + v2.toInt ∧ v0.toInt + v1.toInt ≤ v2.toInt + v3.toInt) ∨ ((0 : Int32) = 1 ∧ v1.toInt + v2.toInt < v0.toInt + v1.toInt ∧ v1.toInt + v2.toInt ≤ v2.toInt + v3.toInt) ∨ ((0 : Int32) = 2 ∧ v2.toInt + v3.toInt < v0.toInt + v1.toInt ∧ v2.toInt + v3.toInt < v1.toInt + v2.toInt) := by
        exact Or.inl ⟨rfl, by omega, by omega⟩
      exact w_retR (pc := 100) X19 C (t := (.array .int)) rfl rfl d1_100 ⟨a13, (0 : Int32), _, rfl, hb13, A19, hb0, hb1, hsp⟩
    · -- no
      refine w_lloadN (pc := 68) X C d1_68 rfl ?_
      refine w_lstore (pc := 69) X C d1_69 #[.val (.ref x0), .val (.int (3 : Int32)), .val (.int (2 : Int32)), .val (.long s10), .second, .val (.int (0 : Int32)), .val (.long s10), .second, .val (.int (3 : Int32))] rfl ?_
      refine w_iload (pc := 71) X C d1_71 rfl ?_
      refine w_iloadN (pc := 73) X C d1_73 rfl ?_
      refine w_isub (pc := 74) X C d1_74 ?_
      refine w_iconst (pc := 75) X C d1_75 (1 : Int32) rfl ?_
      refine w_iadd (pc := 76) X C d1_76 ?_
      rw [show ((((3 : Int32) - (2 : Int32)) + (1 : Int32)) : Int32) = (2 : Int32) from by decide]
      refine w_istore (pc := 77) X C d1_77 #[.val (.ref x0), .val (.int (3 : Int32)), .val (.int (2 : Int32)), .val (.long s10), .second, .val (.int (2 : Int32)), .val (.long s10), .second, .val (.int (3 : Int32))] rfl ?_
      refine w_iinc (pc := 79) X C d1_79 (1 : Int32) rfl rfl #[.val (.ref x0), .val (.int (3 : Int32)), .val (.int (2 : Int32)), .val (.long s10), .second, .val (.int (2 : Int32)), .val (.long s10), .second, .val (.int ((3 : Int32) + (1 : Int32)))] rfl ?_
      refine w_goto (pc := 82) X C d1_82 40 (by decide) ?_
      rw [show (((3 : Int32) + (1 : Int32)) : Int32) = (4 : Int32) from by decide]
      refine w_iload (pc := 40) X C d1_40 rfl ?_
      refine w_aloadN (pc := 42) X C d1_42 rfl rfl ?_
      refine w_arraylength (pc := 43) X C d1_43 A0 ?_
      refine w_icmp_ge (pc := 44) X C d1_44 85 (by decide) (fun q22 => ?_) (fun q22 => absurd q22 (by decide))
      refine w_iconst (pc := 85) X C d1_85 (2 : Int32) rfl ?_
      refine w_new_int (pc := 86) X C d1_86 (List.mem_of_getElem? (i := 6) rfl) 2 rfl 2 (by decide) (by decide) (by decide) (by decide) (fun T23 h23 a23 ha23 hb23 X23 E23 A23 => ?_)
      have ne_x0_a23 : x0 ≠ a23 := Nat.ne_of_lt (by rw [ha23]; exact A0.lt)
      have Ak24 := A0.ext E23
      have K25 : Keep h h23 [] := (Keep.refl h []).ext E23
      refine w_dup (pc := 88) X23 C d1_88 rfl ?_
      refine w_iconst (pc := 89) X23 C d1_89 (0 : Int32) rfl ?_
      refine w_iload (pc := 90) X23 C d1_90 rfl ?_
      refine w_iastore (pc := 92) X23 C d1_92 A23 0 (by decide) (by decide) hb23 (fun T26 h26 X26 W26 A26 => ?_)
      obtain ⟨g26, hg26⟩ : ∃ z, z = up (fun _ => 0) 0 (2 : Int32) := ⟨_, rfl⟩
      rw [← hg26] at A26
      have Ak27 := Ak24.other W26 ne_x0_a23
      have K28 : Keep h h26 [] := K25.wr W26 (Or.inr (Nat.le_trans (Keep.refl h []).1 (Nat.le_of_eq ha23.symm)))
      refine w_dup (pc := 93) X26 C d1_93 rfl ?_
      refine w_iconst (pc := 94) X26 C d1_94 (1 : Int32) rfl ?_
      refine w_iload (pc := 95) X26 C d1_95 rfl ?_
      refine w_iloadN (pc := 97) X26 C d1_97 rfl ?_
      refine w_iadd (pc := 98) X26 C d1_98 ?_
      refine w_iastore (pc := 99) X26 C d1_99 A26 1 (by decide) (by decide) hb23 (fun T29 h29 X29 W29 A29 => ?_)
      obtain ⟨g29, hg29⟩ : ∃ z, z = up g26 1 ((2 : Int32) + (2 : Int32)) := ⟨_, rfl⟩
      rw [← hg29] at A29
      have Ak30 := Ak27.other W29 ne_x0_a23
      have K31 : Keep h h29 [] := K28.wr W29 (Or.inr (Nat.le_trans (Keep.refl h []).1 (Nat.le_of_eq ha23.symm)))
      have hb0 : g29 0 = (2 : Int32) := by simp [hg29, hg26, up]
      have hb1 : g29 1 = (4 : Int32) := by simp +decide [hg29, hg26, up]
      have lq8 := Int64.le_iff_toInt_le.mp (Int64.not_lt.mp q8)
      have lq11 := Int64.lt_iff_toInt_lt.mp q11
      have hsp : ((2 : Int32) = 0 ∧ v0.toInt + v1.toInt ≤ v1.toInt + v2.toInt ∧ v0.toInt + v1.toInt ≤ v2.toInt + v3.toInt) ∨ ((2 : Int32) = 1 ∧ v1.toInt + v2.toInt < v0.toInt + v1.toInt ∧ v1.toInt + v2.toInt ≤ v2.toInt + v3.toInt) ∨ ((2 : Int32) = 2 ∧ v2.toInt + v3.toInt < v0.toInt + v1.toInt ∧ v2.toInt + v3.toInt < v1.toInt + v2.toInt) := by
        exact Or.inr (Or.inr (⟨rfl, by omega, by omega⟩))
      exact w_retR (pc := 100) X29 C (t := (.array .int)) rfl rfl d1_100 ⟨a23, (2 : Int32), _, rfl, hb23, A29, hb0, hb1, hsp⟩
  · -- no
    refine w_lloadN (pc := 68) X C d1_68 rfl ?_
    refine w_lstore (pc := 69) X C d1_69 #[.val (.ref x0), .val (.int (3 : Int32)), .val (.int (2 : Int32)), .val (.long s7), .second, .val (.int (0 : Int32)), .val (.long s7), .second, .val (.int (2 : Int32))] rfl ?_
    refine w_iload (pc := 71) X C d1_71 rfl ?_
    refine w_iloadN (pc := 73) X C d1_73 rfl ?_
    refine w_isub (pc := 74) X C d1_74 ?_
    refine w_iconst (pc := 75) X C d1_75 (1 : Int32) rfl ?_
    refine w_iadd (pc := 76) X C d1_76 ?_
    rw [show ((((2 : Int32) - (2 : Int32)) + (1 : Int32)) : Int32) = (1 : Int32) from by decide]
    refine w_istore (pc := 77) X C d1_77 #[.val (.ref x0), .val (.int (3 : Int32)), .val (.int (2 : Int32)), .val (.long s7), .second, .val (.int (1 : Int32)), .val (.long s7), .second, .val (.int (2 : Int32))] rfl ?_
    refine w_iinc (pc := 79) X C d1_79 (1 : Int32) rfl rfl #[.val (.ref x0), .val (.int (3 : Int32)), .val (.int (2 : Int32)), .val (.long s7), .second, .val (.int (1 : Int32)), .val (.long s7), .second, .val (.int ((2 : Int32) + (1 : Int32)))] rfl ?_
    refine w_goto (pc := 82) X C d1_82 40 (by decide) ?_
    rw [show (((2 : Int32) + (1 : Int32)) : Int32) = (3 : Int32) from by decide]
    refine w_iload (pc := 40) X C d1_40 rfl ?_
    refine w_aloadN (pc := 42) X C d1_42 rfl rfl ?_
    refine w_arraylength (pc := 43) X C d1_43 A0 ?_
    refine w_icmp_ge (pc := 44) X C d1_44 85 (by decide) (fun q32 => absurd (by decide) q32) (fun q32 => ?_)
    refine w_lloadN (pc := 47) X C d1_47 rfl ?_
    refine w_aloadN (pc := 48) X C d1_48 rfl rfl ?_
    refine w_iload (pc := 49) X C d1_49 rfl ?_
    refine w_laload (pc := 51) X C d1_51 A0 3 (by decide) (by decide) ?_
    rw [hg3]
    refine w_aloadN (pc := 52) X C d1_52 rfl rfl ?_
    refine w_iload (pc := 53) X C d1_53 rfl ?_
    refine w_iloadN (pc := 55) X C d1_55 rfl ?_
    refine w_isub (pc := 56) X C d1_56 ?_
    refine w_laload (pc := 57) X C d1_57 A0 1 (by decide) (by decide) ?_
    rw [hg1]
    refine w_lsub (pc := 58) X C d1_58 ?_
    refine w_ladd (pc := 59) X C d1_59 ?_
    obtain ⟨s33, e_s33⟩ : ∃ z, z = (s7 + (v3 - v1)) := ⟨_, rfl⟩
    rw [← e_s33]
    have t_s33 : s33.toInt = 0 + v0.toInt + v1.toInt + v2.toInt - v0.toInt + v3.toInt - v1.toInt := by
      have a1 := c_lsub v3 v1; have a2 := rng64 (v3 - v1); have a3 := c_ladd s7 (v3 - v1); have a4 := rng64 (s7 + (v3 - v1)); rw [e_s33]; omega
    refine w_lstoreN (pc := 60) X C d1_60 #[.val (.ref x0), .val (.int (3 : Int32)), .val (.int (2 : Int32)), .val (.long s33), .second, .val (.int (1 : Int32)), .val (.long s7), .second, .val (.int (3 : Int32))] rfl ?_
    refine w_lloadN (pc := 61) X C d1_61 rfl ?_
    refine w_lload (pc := 62) X C d1_62 rfl ?_
    refine w_lcmp (pc := 64) X C d1_64 ?_
    refine w_ifJ_ge (pc := 65) X C d1_65 79 (by decide) (fun q34 => ?_) (fun q34 => ?_)
    · -- yes
      refine w_iinc (pc := 79) X C d1_79 (1 : Int32) rfl rfl #[.val (.ref x0), .val (.int (3 : Int32)), .val (.int (2 : Int32)), .val (.long s33), .second, .val (.int (1 : Int32)), .val (.long s7), .second, .val (.int ((3 : Int32) + (1 : Int32)))] rfl ?_
      refine w_goto (pc := 82) X C d1_82 40 (by decide) ?_
      rw [show (((3 : Int32) + (1 : Int32)) : Int32) = (4 : Int32) from by decide]
      refine w_iload (pc := 40) X C d1_40 rfl ?_
      refine w_aloadN (pc := 42) X C d1_42 rfl rfl ?_
      refine w_arraylength (pc := 43) X C d1_43 A0 ?_
      refine w_icmp_ge (pc := 44) X C d1_44 85 (by decide) (fun q35 => ?_) (fun q35 => absurd q35 (by decide))
      refine w_iconst (pc := 85) X C d1_85 (2 : Int32) rfl ?_
      refine w_new_int (pc := 86) X C d1_86 (List.mem_of_getElem? (i := 6) rfl) 2 rfl 2 (by decide) (by decide) (by decide) (by decide) (fun T36 h36 a36 ha36 hb36 X36 E36 A36 => ?_)
      have ne_x0_a36 : x0 ≠ a36 := Nat.ne_of_lt (by rw [ha36]; exact A0.lt)
      have Ak37 := A0.ext E36
      have K38 : Keep h h36 [] := (Keep.refl h []).ext E36
      refine w_dup (pc := 88) X36 C d1_88 rfl ?_
      refine w_iconst (pc := 89) X36 C d1_89 (0 : Int32) rfl ?_
      refine w_iload (pc := 90) X36 C d1_90 rfl ?_
      refine w_iastore (pc := 92) X36 C d1_92 A36 0 (by decide) (by decide) hb36 (fun T39 h39 X39 W39 A39 => ?_)
      obtain ⟨g39, hg39⟩ : ∃ z, z = up (fun _ => 0) 0 (1 : Int32) := ⟨_, rfl⟩
      rw [← hg39] at A39
      have Ak40 := Ak37.other W39 ne_x0_a36
      have K41 : Keep h h39 [] := K38.wr W39 (Or.inr (Nat.le_trans (Keep.refl h []).1 (Nat.le_of_eq ha36.symm)))
      refine w_dup (pc := 93) X39 C d1_93 rfl ?_
      refine w_iconst (pc := 94) X39 C d1_94 (1 : Int32) rfl ?_
      refine w_iload (pc := 95) X39 C d1_95 rfl ?_
      refine w_iloadN (pc := 97) X39 C d1_97 rfl ?_
      refine w_iadd (pc := 98) X39 C d1_98 ?_
      refine w_iastore (pc := 99) X39 C d1_99 A39 1 (by decide) (by decide) hb36 (fun T42 h42 X42 W42 A42 => ?_)
      obtain ⟨g42, hg42⟩ : ∃ z, z = up g39 1 ((1 : Int32) + (2 : Int32)) := ⟨_, rfl⟩
      rw [← hg42] at A42
      have Ak43 := Ak40.other W42 ne_x0_a36
      have K44 : Keep h h42 [] := K41.wr W42 (Or.inr (Nat.le_trans (Keep.refl h []).1 (Nat.le_of_eq ha36.symm)))
      have hb0 : g42 0 = (1 : Int32) := by simp [hg42, hg39, up]
      have hb1 : g42 1 = (3 : Int32) := by simp +decide [hg42, hg39, up]
      have lq8 := Int64.lt_iff_toInt_lt.mp q8
      have lq34 := Int64.le_iff_toInt_le.mp (Int64.not_lt.mp q34)
      have hsp : ((1 : Int32) = 0 ∧ v0.toInt + v1.toInt ≤ v1.toInt + v2.toInt ∧ v0.toInt + v1.toInt ≤ v2.toInt + v3.toInt) ∨ ((1 : Int32) = 1 ∧ v1.toInt + v2.toInt < v0.toInt + v1.toInt ∧ v1.toInt + v2.toInt ≤ v2.toInt + v3.toInt) ∨ ((1 : Int32) = 2 ∧ v2.toInt + v3.toInt < v0.toInt + v1.toInt ∧ v2.toInt + v3.toInt < v1.toInt + v2.toInt) := by
        exact Or.inr (Or.inl ⟨rfl, by omega, by omega⟩)
      exact w_retR (pc := 100) X42 C (t := (.array .int)) rfl rfl d1_100 ⟨a36, (1 : Int32), _, rfl, hb36, A42, hb0, hb1, hsp⟩
    · -- no
      refine w_lloadN (pc := 68) X C d1_68 rfl ?_
      refine w_lstore (pc := 69) X C d1_69 #[.val (.ref x0), .val (.int (3 : Int32)), .val (.int (2 : Int32)), .val (.long s33), .second, .val (.int (1 : Int32)), .val (.long s33), .second, .val (.int (3 : Int32))] rfl ?_
      refine w_iload (pc := 71) X C d1_71 rfl ?_
      refine w_iloadN (pc := 73) X C d1_73 rfl ?_
      refine w_isub (pc := 74) X C d1_74 ?_
      refine w_iconst (pc := 75) X C d1_75 (1 : Int32) rfl ?_
      refine w_iadd (pc := 76) X C d1_76 ?_
      rw [show ((((3 : Int32) - (2 : Int32)) + (1 : Int32)) : Int32) = (2 : Int32) from by decide]
      refine w_istore (pc := 77) X C d1_77 #[.val (.ref x0), .val (.int (3 : Int32)), .val (.int (2 : Int32)), .val (.long s33), .second, .val (.int (2 : Int32)), .val (.long s33), .second, .val (.int (3 : Int32))] rfl ?_
      refine w_iinc (pc := 79) X C d1_79 (1 : Int32) rfl rfl #[.val (.ref x0), .val (.int (3 : Int32)), .val (.int (2 : Int32)), .val (.long s33), .second, .val (.int (2 : Int32)), .val (.long s33), .second, .val (.int ((3 : Int32) + (1 : Int32)))] rfl ?_
      refine w_goto (pc := 82) X C d1_82 40 (by decide) ?_
      rw [show (((3 : Int32) + (1 : Int32)) : Int32) = (4 : Int32) from by decide]
      refine w_iload (pc := 40) X C d1_40 rfl ?_
      refine w_aloadN (pc := 42) X C d1_42 rfl rfl ?_
      refine w_arraylength (pc := 43) X C d1_43 A0 ?_
      refine w_icmp_ge (pc := 44) X C d1_44 85 (by decide) (fun q45 => ?_) (fun q45 => absurd q45 (by decide))
      refine w_iconst (pc := 85) X C d1_85 (2 : Int32) rfl ?_
      refine w_new_int (pc := 86) X C d1_86 (List.mem_of_getElem? (i := 6) rfl) 2 rfl 2 (by decide) (by decide) (by decide) (by decide) (fun T46 h46 a46 ha46 hb46 X46 E46 A46 => ?_)
      have ne_x0_a46 : x0 ≠ a46 := Nat.ne_of_lt (by rw [ha46]; exact A0.lt)
      have Ak47 := A0.ext E46
      have K48 : Keep h h46 [] := (Keep.refl h []).ext E46
      refine w_dup (pc := 88) X46 C d1_88 rfl ?_
      refine w_iconst (pc := 89) X46 C d1_89 (0 : Int32) rfl ?_
      refine w_iload (pc := 90) X46 C d1_90 rfl ?_
      refine w_iastore (pc := 92) X46 C d1_92 A46 0 (by decide) (by decide) hb46 (fun T49 h49 X49 W49 A49 => ?_)
      obtain ⟨g49, hg49⟩ : ∃ z, z = up (fun _ => 0) 0 (2 : Int32) := ⟨_, rfl⟩
      rw [← hg49] at A49
      have Ak50 := Ak47.other W49 ne_x0_a46
      have K51 : Keep h h49 [] := K48.wr W49 (Or.inr (Nat.le_trans (Keep.refl h []).1 (Nat.le_of_eq ha46.symm)))
      refine w_dup (pc := 93) X49 C d1_93 rfl ?_
      refine w_iconst (pc := 94) X49 C d1_94 (1 : Int32) rfl ?_
      refine w_iload (pc := 95) X49 C d1_95 rfl ?_
      refine w_iloadN (pc := 97) X49 C d1_97 rfl ?_
      refine w_iadd (pc := 98) X49 C d1_98 ?_
      refine w_iastore (pc := 99) X49 C d1_99 A49 1 (by decide) (by decide) hb46 (fun T52 h52 X52 W52 A52 => ?_)
      obtain ⟨g52, hg52⟩ : ∃ z, z = up g49 1 ((2 : Int32) + (2 : Int32)) := ⟨_, rfl⟩
      rw [← hg52] at A52
      have Ak53 := Ak50.other W52 ne_x0_a46
      have K54 : Keep h h52 [] := K51.wr W52 (Or.inr (Nat.le_trans (Keep.refl h []).1 (Nat.le_of_eq ha46.symm)))
      have hb0 : g52 0 = (2 : Int32) := by simp [hg52, hg49, up]
      have hb1 : g52 1 = (4 : Int32) := by simp +decide [hg52, hg49, up]
      have lq8 := Int64.lt_iff_toInt_lt.mp q8
      have lq34 := Int64.lt_iff_toInt_lt.mp q34
      have hsp : ((2 : Int32) = 0 ∧ v0.toInt + v1.toInt ≤ v1.toInt + v2.toInt ∧ v0.toInt + v1.toInt ≤ v2.toInt + v3.toInt) ∨ ((2 : Int32) = 1 ∧ v1.toInt + v2.toInt < v0.toInt + v1.toInt ∧ v1.toInt + v2.toInt ≤ v2.toInt + v3.toInt) ∨ ((2 : Int32) = 2 ∧ v2.toInt + v3.toInt < v0.toInt + v1.toInt ∧ v2.toInt + v3.toInt < v1.toInt + v2.toInt) := by
        exact Or.inr (Or.inr (⟨rfl, by omega, by omega⟩))
      exact w_retR (pc := 100) X52 C (t := (.array .int)) rfl rfl d1_100 ⟨a46, (2 : Int32), _, rfl, hb46, A52, hb0, hb1, hsp⟩
theorem ct1_4_3 (l : Launch) {Z : State} {a0 : Array Value} (hw : ∀ d ∈ tables_1, d.before a0 Z = true) (h : Heap) {n0 : Nat} (hn : n0 ≤ h.size) (x0 : Addr) (g : Nat → Int64) (v0 v1 v2 v3 : Int64) (A0 : ArJ Z h x0 4 g) (hg0 : g 0 = v0) (hg1 : g 1 = v1) (hg2 : g 2 = v2) (hg3 : g 3 = v3) (hv0 : 0 ≤ v0.toInt ∧ v0.toInt < 2147483648) (hv1 : 0 ≤ v1.toInt ∧ v1.toInt < 2147483648) (hv2 : 0 ≤ v2.toInt ∧ v2.toInt < 2147483648) (hv3 : 0 ≤ v3.toInt ∧ v3.toInt < 2147483648) : Ct l (⟨"termwright/index/MergePolicy", "cheapest", "([JI)[I"⟩ : MethodName) prog_68_method_5_code 9 (some (.array .int)) ({ frames := 0, cells := 1, slots := 2, locals := 0 } : Room) Z #[(.ref x0), (.int (3 : Int32))] h n0 (fun v h' => ∃ r b gr, v = some (.ref r) ∧ n0 ≤ r ∧ ArI Z h' r .int 2 gr ∧ gr 0 = b ∧ gr 1 = b + 2 ∧ ((b = 0 ∧ v0.toInt + v1.toInt ≤ v1.toInt + v2.toInt ∧ v0.toInt + v1.toInt ≤ v2.toInt + v3.toInt) ∨ (b = 1 ∧ v1.toInt + v2.toInt < v0.toInt + v1.toInt ∧ v1.toInt + v2.toInt ≤ v2.toInt + v3.toInt) ∨ (b = 2 ∧ v2.toInt + v3.toInt < v0.toInt + v1.toInt ∧ v2.toInt + v3.toInt < v1.toInt + v2.toInt))) :=
  Ct.of (plainFor_of_name pn_0) #[.val (.ref x0), .val (.int (3 : Int32)), .unset, .unset, .unset, .unset, .unset, .unset, .unset] (fun m => by first | (simp [entryFrame, mkF, argsToLocals, Value.category]; done) | rfl) hw hn (fun p e s m below meth c T C X => bw1_4_3 X C x0 g v0 v1 v2 v3 A0 hg0 hg1 hg2 hg3 hv0 hv1 hv2 hv3)
theorem own_n (x : Int32) : (2 : Int32) + ((x &&& (3 : Int32)) % (3 : Int32)) = 2 ∨ (2 : Int32) + ((x &&& (3 : Int32)) % (3 : Int32)) = 3 ∨ (2 : Int32) + ((x &&& (3 : Int32)) % (3 : Int32)) = 4 := by
  have h0 := c_and x (3 : Int32) (by decide)
  have h1 := (c_irem (x &&& (3 : Int32)) (3 : Int32) 3 rfl).1 h0.1
  generalize ((x &&& (3 : Int32)) % (3 : Int32)) = y at *
  have h2 := c_iadd (2 : Int32) y
  have r := rng32 ((2 : Int32) + y)
  have e2 : (2 : Int32).toInt = 2 := rfl
  have e3 : (3 : Int32).toInt = 3 := rfl
  have e4 : (4 : Int32).toInt = 4 := rfl
  simp only [← Int32.toInt_inj, e2, e3, e4] at *
  omega
theorem own_s2 (x : Int32) : (1 : Int32) + ((x &&& (255 : Int32)) % ((2 : Int32) - (1 : Int32))) = 1 := by
  have h0 := c_and x (255 : Int32) (by decide)
  have h1 := (c_irem (x &&& (255 : Int32)) ((2 : Int32) - (1 : Int32)) 1 rfl).1 h0.1
  generalize ((x &&& (255 : Int32)) % ((2 : Int32) - (1 : Int32))) = y at *
  have h2 := c_iadd (1 : Int32) y
  have r := rng32 ((1 : Int32) + y)
  have e1 : (1 : Int32).toInt = 1 := rfl
  have e2 : (2 : Int32).toInt = 2 := rfl
  have e3 : (3 : Int32).toInt = 3 := rfl
  simp only [← Int32.toInt_inj, e1, e2, e3] at *
  omega
theorem own_s3 (x : Int32) : (1 : Int32) + ((x &&& (255 : Int32)) % ((3 : Int32) - (1 : Int32))) = 1 ∨ (1 : Int32) + ((x &&& (255 : Int32)) % ((3 : Int32) - (1 : Int32))) = 2 := by
  have h0 := c_and x (255 : Int32) (by decide)
  have h1 := (c_irem (x &&& (255 : Int32)) ((3 : Int32) - (1 : Int32)) 2 rfl).1 h0.1
  generalize ((x &&& (255 : Int32)) % ((3 : Int32) - (1 : Int32))) = y at *
  have h2 := c_iadd (1 : Int32) y
  have r := rng32 ((1 : Int32) + y)
  have e1 : (1 : Int32).toInt = 1 := rfl
  have e2 : (2 : Int32).toInt = 2 := rfl
  have e3 : (3 : Int32).toInt = 3 := rfl
  simp only [← Int32.toInt_inj, e1, e2, e3] at *
  omega
theorem own_s4 (x : Int32) : (1 : Int32) + ((x &&& (255 : Int32)) % ((4 : Int32) - (1 : Int32))) = 1 ∨ (1 : Int32) + ((x &&& (255 : Int32)) % ((4 : Int32) - (1 : Int32))) = 2 ∨ (1 : Int32) + ((x &&& (255 : Int32)) % ((4 : Int32) - (1 : Int32))) = 3 := by
  have h0 := c_and x (255 : Int32) (by decide)
  have h1 := (c_irem (x &&& (255 : Int32)) ((4 : Int32) - (1 : Int32)) 3 rfl).1 h0.1
  generalize ((x &&& (255 : Int32)) % ((4 : Int32) - (1 : Int32))) = y at *
  have h2 := c_iadd (1 : Int32) y
  have r := rng32 ((1 : Int32) + y)
  have e1 : (1 : Int32).toInt = 1 := rfl
  have e2 : (2 : Int32).toInt = 2 := rfl
  have e3 : (3 : Int32).toInt = 3 := rfl
  simp only [← Int32.toInt_inj, e1, e2, e3] at *
  omega
theorem own_mask {p : Prop} [Decidable p] : 0 ≤ ((if (if p then (0 : Int32) else (1 : Int32)) = 0 then (2147483647 : Int32) else (3 : Int32))).toInt := by
  repeat' split
  all_goals decide
theorem own_v (x m : Int32) (h : 0 ≤ m.toInt) : 0 ≤ ((x &&& m).toInt64).toInt ∧ ((x &&& m).toInt64).toInt < 2147483648 := by
  rw [Int32.toInt_toInt64]
  have h1 := c_and x m h
  have r := rng32 m
  omega
set_option maxRecDepth 65536 in
set_option maxHeartbeats 40000000 in
theorem law_walk {p : Program} {l : Launch} {e : Env} {s : State} {m : MethodId} {args : Array Value} {below : List Frame} {meth : Method} {c : Code} {T : State} {h : Heap} {n0 : Nat} {Z : State} {a0 : Array Value} (X : Hr p l e room_1 s m args below meth c n0 h 0 0 T) (C : Cx p s m meth c code maxLocals ret "termwright/index/MergePolicyCheapestPinLaw" "law" Z a0 tables_1) (x0 : Int32) (x1 : Int32) (x2 : Int32) (x3 : Int32) (x4 : Int32) : Goes p e below s n0 (fun v _ => v = some (.int 1)) room_1.cells room_1.slots T (mkF m 0 #[.val (.int x0), .val (.int x1), .val (.int x2), .val (.int x3), .val (.int x4), .unset, .unset, .unset, .unset, .unset, .unset, .unset, .unset, .unset, .unset, .unset, .unset, .unset, .unset, .unset, .unset, .unset] []) := by
  refine w_iconst (pc := 0) X C at_0 (2 : Int32) rfl ?_
  refine w_iloadN (pc := 1) X C at_1 rfl ?_
  refine w_iconst (pc := 2) X C at_2 (3 : Int32) rfl ?_
  refine w_iand (pc := 3) X C at_3 ?_
  refine w_iconst (pc := 4) X C at_4 (3 : Int32) rfl ?_
  refine w_irem (pc := 5) X C at_5 (by decide) ?_
  refine w_iadd (pc := 6) X C at_6 ?_
  rcases own_n x0 with ec | ec | ec
  · rw [ec]
    refine w_istore (pc := 7) X C at_7 #[.val (.int x0), .val (.int x1), .val (.int x2), .val (.int x3), .val (.int x4), .val (.int (2 : Int32)), .unset, .unset, .unset, .unset, .unset, .unset, .unset, .unset, .unset, .unset, .unset, .unset, .unset, .unset, .unset, .unset] rfl ?_
    refine w_iconst (pc := 9) X C at_9 (1 : Int32) rfl ?_
    refine w_iloadN (pc := 10) X C at_10 rfl ?_
    refine w_iconst (pc := 11) X C at_11 (2 : Int32) rfl ?_
    refine w_iushr (pc := 12) X C at_12 ?_
    refine w_sipush (pc := 13) X C at_13 (255 : Int32) rfl ?_
    refine w_iand (pc := 16) X C at_16 ?_
    refine w_iload (pc := 17) X C at_17 rfl ?_
    refine w_iconst (pc := 19) X C at_19 (1 : Int32) rfl ?_
    refine w_isub (pc := 20) X C at_20 ?_
    refine w_irem (pc := 21) X C at_21 (by decide) ?_
    refine w_iadd (pc := 22) X C at_22 ?_
    have ec := own_s2 (ushrI x0 (2 : Int32))
    · rw [ec]
      refine w_istore (pc := 23) X C at_23 #[.val (.int x0), .val (.int x1), .val (.int x2), .val (.int x3), .val (.int x4), .val (.int (2 : Int32)), .val (.int (1 : Int32)), .unset, .unset, .unset, .unset, .unset, .unset, .unset, .unset, .unset, .unset, .unset, .unset, .unset, .unset, .unset] rfl ?_
      refine w_iloadN (pc := 25) X C at_25 rfl ?_
      refine w_bipush (pc := 26) X C at_26 (10 : Int32) rfl ?_
      refine w_iushr (pc := 28) X C at_28 ?_
      refine w_iconst (pc := 29) X C at_29 (1 : Int32) rfl ?_
      refine w_iand (pc := 30) X C at_30 ?_
      suffices key2 : Goes p e below s n0 (fun v _ => v = some (.int 1)) room_1.cells room_1.slots T (mkF m 39 #[.val (.int x0), .val (.int x1), .val (.int x2), .val (.int x3), .val (.int x4), .val (.int (2 : Int32)), .val (.int (1 : Int32)), .unset, .unset, .unset, .unset, .unset, .unset, .unset, .unset, .unset, .unset, .unset, .unset, .unset, .unset, .unset] [(.int (if ((ushrI x0 (10 : Int32)) &&& (1 : Int32)) = 0 then (0 : Int32) else (1 : Int32)))]) by
        refine w_if_eq (pc := 31) X C at_31 38 (by decide) (fun q1 => ?_) (fun q1 => ?_)
        · skip
          refine w_iconst (pc := 38) X C at_38 (0 : Int32) rfl ?_
          rw [if_pos q1] at key2
          exact key2
        · skip
          refine w_iconst (pc := 34) X C at_34 (1 : Int32) rfl ?_
          refine w_goto (pc := 35) X C at_35 39 (by decide) ?_
          rw [if_neg q1] at key2
          exact key2
      refine w_istore (pc := 39) X C at_39 #[.val (.int x0), .val (.int x1), .val (.int x2), .val (.int x3), .val (.int x4), .val (.int (2 : Int32)), .val (.int (1 : Int32)), .val (.int (if ((ushrI x0 (10 : Int32)) &&& (1 : Int32)) = 0 then (0 : Int32) else (1 : Int32))), .unset, .unset, .unset, .unset, .unset, .unset, .unset, .unset, .unset, .unset, .unset, .unset, .unset, .unset] rfl ?_
      refine w_iload (pc := 41) X C at_41 rfl ?_
      suffices key4 : Goes p e below s n0 (fun v _ => v = some (.int 1)) room_1.cells room_1.slots T (mkF m 52 #[.val (.int x0), .val (.int x1), .val (.int x2), .val (.int x3), .val (.int x4), .val (.int (2 : Int32)), .val (.int (1 : Int32)), .val (.int (if ((ushrI x0 (10 : Int32)) &&& (1 : Int32)) = 0 then (0 : Int32) else (1 : Int32))), .unset, .unset, .unset, .unset, .unset, .unset, .unset, .unset, .unset, .unset, .unset, .unset, .unset, .unset] [(.int (if (if ((ushrI x0 (10 : Int32)) &&& (1 : Int32)) = 0 then (0 : Int32) else (1 : Int32)) = 0 then (2147483647 : Int32) else (3 : Int32)))]) by
        refine w_if_eq (pc := 43) X C at_43 50 (by decide) (fun q3 => ?_) (fun q3 => ?_)
        · skip
          refine w_ldcI (pc := 50) X C at_50 (v := (2147483647 : Int32)) (List.mem_of_getElem? (i := 0) rfl) ?_
          rw [if_pos q3] at key4
          exact key4
        · skip
          refine w_iconst (pc := 46) X C at_46 (3 : Int32) rfl ?_
          refine w_goto (pc := 47) X C at_47 52 (by decide) ?_
          rw [if_neg q3] at key4
          exact key4
      refine w_istore (pc := 52) X C at_52 #[.val (.int x0), .val (.int x1), .val (.int x2), .val (.int x3), .val (.int x4), .val (.int (2 : Int32)), .val (.int (1 : Int32)), .val (.int (if ((ushrI x0 (10 : Int32)) &&& (1 : Int32)) = 0 then (0 : Int32) else (1 : Int32))), .val (.int (if (if ((ushrI x0 (10 : Int32)) &&& (1 : Int32)) = 0 then (0 : Int32) else (1 : Int32)) = 0 then (2147483647 : Int32) else (3 : Int32))), .unset, .unset, .unset, .unset, .unset, .unset, .unset, .unset, .unset, .unset, .unset, .unset, .unset] rfl ?_
      refine w_iloadN (pc := 54) X C at_54 rfl ?_
      refine w_iload (pc := 55) X C at_55 rfl ?_
      refine w_iand (pc := 57) X C at_57 ?_
      refine w_i2l (pc := 58) X C at_58 ?_
      obtain ⟨v0, e_v0⟩ : ∃ z, z = ((x1 &&& (if (if ((ushrI x0 (10 : Int32)) &&& (1 : Int32)) = 0 then (0 : Int32) else (1 : Int32)) = 0 then (2147483647 : Int32) else (3 : Int32)))).toInt64 := ⟨_, rfl⟩
      rw [← e_v0]
      have hv0 : 0 ≤ v0.toInt ∧ v0.toInt < 2147483648 := by rw [e_v0]; exact own_v _ _ own_mask
      refine w_lstore (pc := 59) X C at_59 #[.val (.int x0), .val (.int x1), .val (.int x2), .val (.int x3), .val (.int x4), .val (.int (2 : Int32)), .val (.int (1 : Int32)), .val (.int (if ((ushrI x0 (10 : Int32)) &&& (1 : Int32)) = 0 then (0 : Int32) else (1 : Int32))), .val (.int (if (if ((ushrI x0 (10 : Int32)) &&& (1 : Int32)) = 0 then (0 : Int32) else (1 : Int32)) = 0 then (2147483647 : Int32) else (3 : Int32))), .val (.long v0), .second, .unset, .unset, .unset, .unset, .unset, .unset, .unset, .unset, .unset, .unset, .unset] rfl ?_
      refine w_iloadN (pc := 61) X C at_61 rfl ?_
      refine w_iload (pc := 62) X C at_62 rfl ?_
      refine w_iand (pc := 64) X C at_64 ?_
      refine w_i2l (pc := 65) X C at_65 ?_
      obtain ⟨v1, e_v1⟩ : ∃ z, z = ((x2 &&& (if (if ((ushrI x0 (10 : Int32)) &&& (1 : Int32)) = 0 then (0 : Int32) else (1 : Int32)) = 0 then (2147483647 : Int32) else (3 : Int32)))).toInt64 := ⟨_, rfl⟩
      rw [← e_v1]
      have hv1 : 0 ≤ v1.toInt ∧ v1.toInt < 2147483648 := by rw [e_v1]; exact own_v _ _ own_mask
      refine w_lstore (pc := 66) X C at_66 #[.val (.int x0), .val (.int x1), .val (.int x2), .val (.int x3), .val (.int x4), .val (.int (2 : Int32)), .val (.int (1 : Int32)), .val (.int (if ((ushrI x0 (10 : Int32)) &&& (1 : Int32)) = 0 then (0 : Int32) else (1 : Int32))), .val (.int (if (if ((ushrI x0 (10 : Int32)) &&& (1 : Int32)) = 0 then (0 : Int32) else (1 : Int32)) = 0 then (2147483647 : Int32) else (3 : Int32))), .val (.long v0), .second, .val (.long v1), .second, .unset, .unset, .unset, .unset, .unset, .unset, .unset, .unset, .unset] rfl ?_
      refine w_iloadN (pc := 68) X C at_68 rfl ?_
      refine w_iload (pc := 69) X C at_69 rfl ?_
      refine w_iand (pc := 71) X C at_71 ?_
      refine w_i2l (pc := 72) X C at_72 ?_
      obtain ⟨v2, e_v2⟩ : ∃ z, z = ((x3 &&& (if (if ((ushrI x0 (10 : Int32)) &&& (1 : Int32)) = 0 then (0 : Int32) else (1 : Int32)) = 0 then (2147483647 : Int32) else (3 : Int32)))).toInt64 := ⟨_, rfl⟩
      rw [← e_v2]
      have hv2 : 0 ≤ v2.toInt ∧ v2.toInt < 2147483648 := by rw [e_v2]; exact own_v _ _ own_mask
      refine w_lstore (pc := 73) X C at_73 #[.val (.int x0), .val (.int x1), .val (.int x2), .val (.int x3), .val (.int x4), .val (.int (2 : Int32)), .val (.int (1 : Int32)), .val (.int (if ((ushrI x0 (10 : Int32)) &&& (1 : Int32)) = 0 then (0 : Int32) else (1 : Int32))), .val (.int (if (if ((ushrI x0 (10 : Int32)) &&& (1 : Int32)) = 0 then (0 : Int32) else (1 : Int32)) = 0 then (2147483647 : Int32) else (3 : Int32))), .val (.long v0), .second, .val (.long v1), .second, .val (.long v2), .second, .unset, .unset, .unset, .unset, .unset, .unset, .unset] rfl ?_
      refine w_iload (pc := 75) X C at_75 rfl ?_
      refine w_iload (pc := 77) X C at_77 rfl ?_
      refine w_iand (pc := 79) X C at_79 ?_
      refine w_i2l (pc := 80) X C at_80 ?_
      obtain ⟨v3, e_v3⟩ : ∃ z, z = ((x4 &&& (if (if ((ushrI x0 (10 : Int32)) &&& (1 : Int32)) = 0 then (0 : Int32) else (1 : Int32)) = 0 then (2147483647 : Int32) else (3 : Int32)))).toInt64 := ⟨_, rfl⟩
      rw [← e_v3]
      have hv3 : 0 ≤ v3.toInt ∧ v3.toInt < 2147483648 := by rw [e_v3]; exact own_v _ _ own_mask
      refine w_lstore (pc := 81) X C at_81 #[.val (.int x0), .val (.int x1), .val (.int x2), .val (.int x3), .val (.int x4), .val (.int (2 : Int32)), .val (.int (1 : Int32)), .val (.int (if ((ushrI x0 (10 : Int32)) &&& (1 : Int32)) = 0 then (0 : Int32) else (1 : Int32))), .val (.int (if (if ((ushrI x0 (10 : Int32)) &&& (1 : Int32)) = 0 then (0 : Int32) else (1 : Int32)) = 0 then (2147483647 : Int32) else (3 : Int32))), .val (.long v0), .second, .val (.long v1), .second, .val (.long v2), .second, .val (.long v3), .second, .unset, .unset, .unset, .unset, .unset] rfl ?_
      refine w_iload (pc := 83) X C at_83 rfl ?_
      refine w_iconst (pc := 85) X C at_85 (2 : Int32) rfl ?_
      refine w_icmp_ne (pc := 86) X C at_86 107 (by decide) (fun q5 => absurd (by decide) q5) (fun q5 => ?_)
      refine w_iconst (pc := 89) X C at_89 (2 : Int32) rfl ?_
      refine w_new_long (pc := 90) X C at_90 (List.mem_of_getElem? (i := 1) rfl) 2 rfl 2 (by decide) (by decide) (by decide) (by decide) (fun T6 h6 a6 ha6 hb6 X6 E6 A6 => ?_)
      refine w_dup (pc := 92) X6 C at_92 rfl ?_
      refine w_iconst (pc := 93) X6 C at_93 (0 : Int32) rfl ?_
      refine w_lload (pc := 94) X6 C at_94 rfl ?_
      refine w_lastore (pc := 96) X6 C at_96 A6 0 (by decide) (by decide) hb6 (fun T7 h7 X7 W7 A7 => ?_)
      obtain ⟨g7, hg7⟩ : ∃ z, z = up (fun _ => 0) 0 v0 := ⟨_, rfl⟩
      rw [← hg7] at A7
      refine w_dup (pc := 97) X7 C at_97 rfl ?_
      refine w_iconst (pc := 98) X7 C at_98 (1 : Int32) rfl ?_
      refine w_lload (pc := 99) X7 C at_99 rfl ?_
      refine w_lastore (pc := 101) X7 C at_101 A7 1 (by decide) (by decide) hb6 (fun T8 h8 X8 W8 A8 => ?_)
      obtain ⟨g8, hg8⟩ : ∃ z, z = up g7 1 v1 := ⟨_, rfl⟩
      rw [← hg8] at A8
      refine w_astore (pc := 102) X8 C at_102 #[.val (.int x0), .val (.int x1), .val (.int x2), .val (.int x3), .val (.int x4), .val (.int (2 : Int32)), .val (.int (1 : Int32)), .val (.int (if ((ushrI x0 (10 : Int32)) &&& (1 : Int32)) = 0 then (0 : Int32) else (1 : Int32))), .val (.int (if (if ((ushrI x0 (10 : Int32)) &&& (1 : Int32)) = 0 then (0 : Int32) else (1 : Int32)) = 0 then (2147483647 : Int32) else (3 : Int32))), .val (.long v0), .second, .val (.long v1), .second, .val (.long v2), .second, .val (.long v3), .second, .val (.ref a6), .unset, .unset, .unset, .unset] rfl rfl ?_
      refine w_goto (pc := 104) X8 C at_104 161 (by decide) ?_
      refine w_iconst (pc := 161) X8 C at_161 (5 : Int32) rfl ?_
      refine w_new_long (pc := 162) X8 C at_162 (List.mem_of_getElem? (i := 1) rfl) 5 rfl 5 (by decide) (by decide) (by decide) (by decide) (fun T9 h9 a9 ha9 hb9 X9 E9 A9 => ?_)
      have ne_a6_a9 : a6 ≠ a9 := Nat.ne_of_lt (by rw [ha9]; exact A8.lt)
      have Ak10 := A8.ext E9
      refine w_dup (pc := 164) X9 C at_164 rfl ?_
      refine w_iconst (pc := 165) X9 C at_165 (0 : Int32) rfl ?_
      refine w_lconst (pc := 166) X9 C at_166 (0 : Int64) rfl ?_
      refine w_lastore (pc := 167) X9 C at_167 A9 0 (by decide) (by decide) hb9 (fun T11 h11 X11 W11 A11 => ?_)
      obtain ⟨g11, hg11⟩ : ∃ z, z = up (fun _ => 0) 0 (0 : Int64) := ⟨_, rfl⟩
      rw [← hg11] at A11
      have Ak12 := Ak10.other W11 ne_a6_a9
      refine w_dup (pc := 168) X11 C at_168 rfl ?_
      refine w_iconst (pc := 169) X11 C at_169 (1 : Int32) rfl ?_
      refine w_lload (pc := 170) X11 C at_170 rfl ?_
      refine w_lastore (pc := 172) X11 C at_172 A11 1 (by decide) (by decide) hb9 (fun T13 h13 X13 W13 A13 => ?_)
      obtain ⟨g13, hg13⟩ : ∃ z, z = up g11 1 v0 := ⟨_, rfl⟩
      rw [← hg13] at A13
      have Ak14 := Ak12.other W13 ne_a6_a9
      refine w_dup (pc := 173) X13 C at_173 rfl ?_
      refine w_iconst (pc := 174) X13 C at_174 (2 : Int32) rfl ?_
      refine w_lload (pc := 175) X13 C at_175 rfl ?_
      refine w_lload (pc := 177) X13 C at_177 rfl ?_
      refine w_ladd (pc := 179) X13 C at_179 ?_
      refine w_lastore (pc := 180) X13 C at_180 A13 2 (by decide) (by decide) hb9 (fun T15 h15 X15 W15 A15 => ?_)
      obtain ⟨g15, hg15⟩ : ∃ z, z = up g13 2 (v0 + v1) := ⟨_, rfl⟩
      rw [← hg15] at A15
      have Ak16 := Ak14.other W15 ne_a6_a9
      refine w_dup (pc := 181) X15 C at_181 rfl ?_
      refine w_iconst (pc := 182) X15 C at_182 (3 : Int32) rfl ?_
      refine w_lload (pc := 183) X15 C at_183 rfl ?_
      refine w_lload (pc := 185) X15 C at_185 rfl ?_
      refine w_ladd (pc := 187) X15 C at_187 ?_
      refine w_lload (pc := 188) X15 C at_188 rfl ?_
      refine w_ladd (pc := 190) X15 C at_190 ?_
      refine w_lastore (pc := 191) X15 C at_191 A15 3 (by decide) (by decide) hb9 (fun T17 h17 X17 W17 A17 => ?_)
      obtain ⟨g17, hg17⟩ : ∃ z, z = up g15 3 ((v0 + v1) + v2) := ⟨_, rfl⟩
      rw [← hg17] at A17
      have Ak18 := Ak16.other W17 ne_a6_a9
      refine w_dup (pc := 192) X17 C at_192 rfl ?_
      refine w_iconst (pc := 193) X17 C at_193 (4 : Int32) rfl ?_
      refine w_lload (pc := 194) X17 C at_194 rfl ?_
      refine w_lload (pc := 196) X17 C at_196 rfl ?_
      refine w_ladd (pc := 198) X17 C at_198 ?_
      refine w_lload (pc := 199) X17 C at_199 rfl ?_
      refine w_ladd (pc := 201) X17 C at_201 ?_
      refine w_lload (pc := 202) X17 C at_202 rfl ?_
      refine w_ladd (pc := 204) X17 C at_204 ?_
      refine w_lastore (pc := 205) X17 C at_205 A17 4 (by decide) (by decide) hb9 (fun T19 h19 X19 W19 A19 => ?_)
      obtain ⟨g19, hg19⟩ : ∃ z, z = up g17 4 (((v0 + v1) + v2) + v3) := ⟨_, rfl⟩
      rw [← hg19] at A19
      have Ak20 := Ak18.other W19 ne_a6_a9
      obtain ⟨p2, ep2⟩ : ∃ z, z = (v0 + v1) := ⟨_, rfl⟩
      have tp2 : p2.toInt = v0.toInt + v1.toInt := by
        have a1 := c_ladd v0 v1; have a2 := rng64 (v0 + v1); rw [ep2]; omega
      obtain ⟨p3, ep3⟩ : ∃ z, z = (p2 + v2) := ⟨_, rfl⟩
      have tp3 : p3.toInt = v0.toInt + v1.toInt + v2.toInt := by
        have a1 := c_ladd p2 v2; have a2 := rng64 (p2 + v2); rw [ep3]; omega
      obtain ⟨p4, ep4⟩ : ∃ z, z = (p3 + v3) := ⟨_, rfl⟩
      have tp4 : p4.toInt = v0.toInt + v1.toInt + v2.toInt + v3.toInt := by
        have a1 := c_ladd p3 v3; have a2 := rng64 (p3 + v3); rw [ep4]; omega
      have pp0 : g19 0 = 0 := by simp [hg19, hg17, hg15, hg13, hg11, up]
      have pp1 : g19 1 = v0 := by simp [hg19, hg17, hg15, hg13, hg11, up]
      have pp2 : g19 2 = p2 := by simp [hg19, hg17, hg15, hg13, hg11, up, ep2]
      have pp3 : g19 3 = p3 := by simp [hg19, hg17, hg15, hg13, hg11, up, ep2, ep3]
      have pp4 : g19 4 = p4 := by simp [hg19, hg17, hg15, hg13, hg11, up, ep2, ep3, ep4]
      refine w_astore (pc := 206) X19 C at_206 #[.val (.int x0), .val (.int x1), .val (.int x2), .val (.int x3), .val (.int x4), .val (.int (2 : Int32)), .val (.int (1 : Int32)), .val (.int (if ((ushrI x0 (10 : Int32)) &&& (1 : Int32)) = 0 then (0 : Int32) else (1 : Int32))), .val (.int (if (if ((ushrI x0 (10 : Int32)) &&& (1 : Int32)) = 0 then (0 : Int32) else (1 : Int32)) = 0 then (2147483647 : Int32) else (3 : Int32))), .val (.long v0), .second, .val (.long v1), .second, .val (.long v2), .second, .val (.long v3), .second, .val (.ref a6), .val (.ref a9), .unset, .unset, .unset] rfl rfl ?_
      refine w_iload (pc := 208) X19 C at_208 rfl ?_
      refine w_iload (pc := 210) X19 C at_210 rfl ?_
      refine w_isub (pc := 212) X19 C at_212 ?_
      refine w_iconst (pc := 213) X19 C at_213 (1 : Int32) rfl ?_
      refine w_iadd (pc := 214) X19 C at_214 ?_
      rw [show ((((2 : Int32) - (1 : Int32)) + (1 : Int32)) : Int32) = (2 : Int32) from by decide]
      refine w_istore (pc := 215) X19 C at_215 #[.val (.int x0), .val (.int x1), .val (.int x2), .val (.int x3), .val (.int x4), .val (.int (2 : Int32)), .val (.int (1 : Int32)), .val (.int (if ((ushrI x0 (10 : Int32)) &&& (1 : Int32)) = 0 then (0 : Int32) else (1 : Int32))), .val (.int (if (if ((ushrI x0 (10 : Int32)) &&& (1 : Int32)) = 0 then (0 : Int32) else (1 : Int32)) = 0 then (2147483647 : Int32) else (3 : Int32))), .val (.long v0), .second, .val (.long v1), .second, .val (.long v2), .second, .val (.long v3), .second, .val (.ref a6), .val (.ref a9), .val (.int (2 : Int32)), .unset, .unset] rfl ?_
      refine w_iconst (pc := 217) X19 C at_217 (0 : Int32) rfl ?_
      refine w_istore (pc := 218) X19 C at_218 #[.val (.int x0), .val (.int x1), .val (.int x2), .val (.int x3), .val (.int x4), .val (.int (2 : Int32)), .val (.int (1 : Int32)), .val (.int (if ((ushrI x0 (10 : Int32)) &&& (1 : Int32)) = 0 then (0 : Int32) else (1 : Int32))), .val (.int (if (if ((ushrI x0 (10 : Int32)) &&& (1 : Int32)) = 0 then (0 : Int32) else (1 : Int32)) = 0 then (2147483647 : Int32) else (3 : Int32))), .val (.long v0), .second, .val (.long v1), .second, .val (.long v2), .second, .val (.long v3), .second, .val (.ref a6), .val (.ref a9), .val (.int (2 : Int32)), .val (.int (0 : Int32)), .unset] rfl ?_
      refine w_iload (pc := 220) X19 C at_220 rfl ?_
      refine w_iconst (pc := 222) X19 C at_222 (2 : Int32) rfl ?_
      refine w_icmp_lt (pc := 223) X19 C at_223 259 (by decide) (fun q21 => ?_) (fun q21 => absurd (by decide) q21)
      refine w_iload (pc := 259) X19 C at_259 rfl ?_
      refine w_iconst (pc := 261) X19 C at_261 (3 : Int32) rfl ?_
      refine w_icmp_lt (pc := 262) X19 C at_262 298 (by decide) (fun q22 => ?_) (fun q22 => absurd (by decide) q22)
      refine w_aload (pc := 298) X19 C at_298 rfl rfl ?_
      refine w_iload (pc := 300) X19 C at_300 rfl ?_
      have gg0 : g8 0 = v0 := by simp [hg8, hg7, up]
      have gg1 : g8 1 = v1 := by simp [hg8, hg7, up]
      refine w_callS (pc := 302) X19 C (y := (⟨"termwright/index/MergePolicy", "cheapest", "([JI)[I"⟩ : MethodName)) (bytes := prog_68_method_5_code) (maxL := 9) (rt := (some (.array .int))) (argsL := [(.ref a6), (.int (1 : Int32))]) (rest := []) (W := 0) at_302 (List.mem_of_getElem? (i := 2) rfl) (List.mem_of_getElem? (i := 3) rfl) (List.mem_of_getElem? (i := 4) rfl) (List.mem_of_getElem? (i := 5) rfl) (by decide) (ct1_2_1 l C.2.2.2.2.2.2.2.2 _ X19.size (a6) g8 v0 v1 Ak20 gg0 gg1 hv0 hv1) rfl ⟨_, _, pd_0, rfl⟩ rfl (Nat.le_of_eq rfl) (by decide) (by decide) (by decide) (by decide) (fun v_23 T23 P23 X23 => ?_)
      obtain ⟨r23, b23, gr23, rfl, hr23, Ar23, hz23, ho23, hsp23⟩ := P23
      have z0 : (0 : Int64).toInt = 0 := rfl
      have hbb : b23 = (0 : Int32) := by
        exact hsp23
      have hbest0 : gr23 0 = (0 : Int32) := by rw [hz23, hbb]
      have hbest1 : gr23 1 = ((0 : Int32) + (2 : Int32)) := by rw [ho23, hbb]
      refine w_astore (pc := 305) X23 C at_305 #[.val (.int x0), .val (.int x1), .val (.int x2), .val (.int x3), .val (.int x4), .val (.int (2 : Int32)), .val (.int (1 : Int32)), .val (.int (if ((ushrI x0 (10 : Int32)) &&& (1 : Int32)) = 0 then (0 : Int32) else (1 : Int32))), .val (.int (if (if ((ushrI x0 (10 : Int32)) &&& (1 : Int32)) = 0 then (0 : Int32) else (1 : Int32)) = 0 then (2147483647 : Int32) else (3 : Int32))), .val (.long v0), .second, .val (.long v1), .second, .val (.long v2), .second, .val (.long v3), .second, .val (.ref a6), .val (.ref a9), .val (.int (2 : Int32)), .val (.int (0 : Int32)), .val (.ref r23)] rfl rfl ?_
      refine w_aload (pc := 307) X23 C at_307 rfl rfl ?_
      refine w_ifnull_no (pc := 309) X23 C at_309 ?_
      refine w_aload (pc := 312) X23 C at_312 rfl rfl ?_
      refine w_arraylength (pc := 314) X23 C at_314 Ar23 ?_
      refine w_iconst (pc := 315) X23 C at_315 (2 : Int32) rfl ?_
      refine w_icmp_ne (pc := 316) X23 C at_316 344 (by decide) (fun q24 => absurd (by decide) q24) (fun q24 => ?_)
      refine w_aload (pc := 319) X23 C at_319 rfl rfl ?_
      refine w_iconst (pc := 321) X23 C at_321 (0 : Int32) rfl ?_
      refine w_iaload (pc := 322) X23 C at_322 Ar23 0 (by decide) (by decide) ?_
      refine w_iload (pc := 323) X23 C at_323 rfl ?_
      refine w_icmp_ne (pc := 325) X23 C at_325 344 (by decide) (fun q25 => absurd (hbest0) q25) (fun q25 => ?_)
      refine w_aload (pc := 328) X23 C at_328 rfl rfl ?_
      refine w_iconst (pc := 330) X23 C at_330 (1 : Int32) rfl ?_
      refine w_iaload (pc := 331) X23 C at_331 Ar23 1 (by decide) (by decide) ?_
      refine w_iload (pc := 332) X23 C at_332 rfl ?_
      refine w_iload (pc := 334) X23 C at_334 rfl ?_
      refine w_iadd (pc := 336) X23 C at_336 ?_
      refine w_icmp_ne (pc := 337) X23 C at_337 344 (by decide) (fun q26 => absurd (hbest1) q26) (fun q26 => ?_)
      refine w_iconst (pc := 340) X23 C at_340 (1 : Int32) rfl ?_
      refine w_goto (pc := 341) X23 C at_341 345 (by decide) ?_
      exact w_ret_boolean (pc := 345) X23 C at_345 rfl
  · rw [ec]
    refine w_istore (pc := 7) X C at_7 #[.val (.int x0), .val (.int x1), .val (.int x2), .val (.int x3), .val (.int x4), .val (.int (3 : Int32)), .unset, .unset, .unset, .unset, .unset, .unset, .unset, .unset, .unset, .unset, .unset, .unset, .unset, .unset, .unset, .unset] rfl ?_
    refine w_iconst (pc := 9) X C at_9 (1 : Int32) rfl ?_
    refine w_iloadN (pc := 10) X C at_10 rfl ?_
    refine w_iconst (pc := 11) X C at_11 (2 : Int32) rfl ?_
    refine w_iushr (pc := 12) X C at_12 ?_
    refine w_sipush (pc := 13) X C at_13 (255 : Int32) rfl ?_
    refine w_iand (pc := 16) X C at_16 ?_
    refine w_iload (pc := 17) X C at_17 rfl ?_
    refine w_iconst (pc := 19) X C at_19 (1 : Int32) rfl ?_
    refine w_isub (pc := 20) X C at_20 ?_
    refine w_irem (pc := 21) X C at_21 (by decide) ?_
    refine w_iadd (pc := 22) X C at_22 ?_
    rcases own_s3 (ushrI x0 (2 : Int32)) with ec | ec
    · rw [ec]
      refine w_istore (pc := 23) X C at_23 #[.val (.int x0), .val (.int x1), .val (.int x2), .val (.int x3), .val (.int x4), .val (.int (3 : Int32)), .val (.int (1 : Int32)), .unset, .unset, .unset, .unset, .unset, .unset, .unset, .unset, .unset, .unset, .unset, .unset, .unset, .unset, .unset] rfl ?_
      refine w_iloadN (pc := 25) X C at_25 rfl ?_
      refine w_bipush (pc := 26) X C at_26 (10 : Int32) rfl ?_
      refine w_iushr (pc := 28) X C at_28 ?_
      refine w_iconst (pc := 29) X C at_29 (1 : Int32) rfl ?_
      refine w_iand (pc := 30) X C at_30 ?_
      suffices key28 : Goes p e below s n0 (fun v _ => v = some (.int 1)) room_1.cells room_1.slots T (mkF m 39 #[.val (.int x0), .val (.int x1), .val (.int x2), .val (.int x3), .val (.int x4), .val (.int (3 : Int32)), .val (.int (1 : Int32)), .unset, .unset, .unset, .unset, .unset, .unset, .unset, .unset, .unset, .unset, .unset, .unset, .unset, .unset, .unset] [(.int (if ((ushrI x0 (10 : Int32)) &&& (1 : Int32)) = 0 then (0 : Int32) else (1 : Int32)))]) by
        refine w_if_eq (pc := 31) X C at_31 38 (by decide) (fun q27 => ?_) (fun q27 => ?_)
        · skip
          refine w_iconst (pc := 38) X C at_38 (0 : Int32) rfl ?_
          rw [if_pos q27] at key28
          exact key28
        · skip
          refine w_iconst (pc := 34) X C at_34 (1 : Int32) rfl ?_
          refine w_goto (pc := 35) X C at_35 39 (by decide) ?_
          rw [if_neg q27] at key28
          exact key28
      refine w_istore (pc := 39) X C at_39 #[.val (.int x0), .val (.int x1), .val (.int x2), .val (.int x3), .val (.int x4), .val (.int (3 : Int32)), .val (.int (1 : Int32)), .val (.int (if ((ushrI x0 (10 : Int32)) &&& (1 : Int32)) = 0 then (0 : Int32) else (1 : Int32))), .unset, .unset, .unset, .unset, .unset, .unset, .unset, .unset, .unset, .unset, .unset, .unset, .unset, .unset] rfl ?_
      refine w_iload (pc := 41) X C at_41 rfl ?_
      suffices key30 : Goes p e below s n0 (fun v _ => v = some (.int 1)) room_1.cells room_1.slots T (mkF m 52 #[.val (.int x0), .val (.int x1), .val (.int x2), .val (.int x3), .val (.int x4), .val (.int (3 : Int32)), .val (.int (1 : Int32)), .val (.int (if ((ushrI x0 (10 : Int32)) &&& (1 : Int32)) = 0 then (0 : Int32) else (1 : Int32))), .unset, .unset, .unset, .unset, .unset, .unset, .unset, .unset, .unset, .unset, .unset, .unset, .unset, .unset] [(.int (if (if ((ushrI x0 (10 : Int32)) &&& (1 : Int32)) = 0 then (0 : Int32) else (1 : Int32)) = 0 then (2147483647 : Int32) else (3 : Int32)))]) by
        refine w_if_eq (pc := 43) X C at_43 50 (by decide) (fun q29 => ?_) (fun q29 => ?_)
        · skip
          refine w_ldcI (pc := 50) X C at_50 (v := (2147483647 : Int32)) (List.mem_of_getElem? (i := 0) rfl) ?_
          rw [if_pos q29] at key30
          exact key30
        · skip
          refine w_iconst (pc := 46) X C at_46 (3 : Int32) rfl ?_
          refine w_goto (pc := 47) X C at_47 52 (by decide) ?_
          rw [if_neg q29] at key30
          exact key30
      refine w_istore (pc := 52) X C at_52 #[.val (.int x0), .val (.int x1), .val (.int x2), .val (.int x3), .val (.int x4), .val (.int (3 : Int32)), .val (.int (1 : Int32)), .val (.int (if ((ushrI x0 (10 : Int32)) &&& (1 : Int32)) = 0 then (0 : Int32) else (1 : Int32))), .val (.int (if (if ((ushrI x0 (10 : Int32)) &&& (1 : Int32)) = 0 then (0 : Int32) else (1 : Int32)) = 0 then (2147483647 : Int32) else (3 : Int32))), .unset, .unset, .unset, .unset, .unset, .unset, .unset, .unset, .unset, .unset, .unset, .unset, .unset] rfl ?_
      refine w_iloadN (pc := 54) X C at_54 rfl ?_
      refine w_iload (pc := 55) X C at_55 rfl ?_
      refine w_iand (pc := 57) X C at_57 ?_
      refine w_i2l (pc := 58) X C at_58 ?_
      obtain ⟨v0, e_v0⟩ : ∃ z, z = ((x1 &&& (if (if ((ushrI x0 (10 : Int32)) &&& (1 : Int32)) = 0 then (0 : Int32) else (1 : Int32)) = 0 then (2147483647 : Int32) else (3 : Int32)))).toInt64 := ⟨_, rfl⟩
      rw [← e_v0]
      have hv0 : 0 ≤ v0.toInt ∧ v0.toInt < 2147483648 := by rw [e_v0]; exact own_v _ _ own_mask
      refine w_lstore (pc := 59) X C at_59 #[.val (.int x0), .val (.int x1), .val (.int x2), .val (.int x3), .val (.int x4), .val (.int (3 : Int32)), .val (.int (1 : Int32)), .val (.int (if ((ushrI x0 (10 : Int32)) &&& (1 : Int32)) = 0 then (0 : Int32) else (1 : Int32))), .val (.int (if (if ((ushrI x0 (10 : Int32)) &&& (1 : Int32)) = 0 then (0 : Int32) else (1 : Int32)) = 0 then (2147483647 : Int32) else (3 : Int32))), .val (.long v0), .second, .unset, .unset, .unset, .unset, .unset, .unset, .unset, .unset, .unset, .unset, .unset] rfl ?_
      refine w_iloadN (pc := 61) X C at_61 rfl ?_
      refine w_iload (pc := 62) X C at_62 rfl ?_
      refine w_iand (pc := 64) X C at_64 ?_
      refine w_i2l (pc := 65) X C at_65 ?_
      obtain ⟨v1, e_v1⟩ : ∃ z, z = ((x2 &&& (if (if ((ushrI x0 (10 : Int32)) &&& (1 : Int32)) = 0 then (0 : Int32) else (1 : Int32)) = 0 then (2147483647 : Int32) else (3 : Int32)))).toInt64 := ⟨_, rfl⟩
      rw [← e_v1]
      have hv1 : 0 ≤ v1.toInt ∧ v1.toInt < 2147483648 := by rw [e_v1]; exact own_v _ _ own_mask
      refine w_lstore (pc := 66) X C at_66 #[.val (.int x0), .val (.int x1), .val (.int x2), .val (.int x3), .val (.int x4), .val (.int (3 : Int32)), .val (.int (1 : Int32)), .val (.int (if ((ushrI x0 (10 : Int32)) &&& (1 : Int32)) = 0 then (0 : Int32) else (1 : Int32))), .val (.int (if (if ((ushrI x0 (10 : Int32)) &&& (1 : Int32)) = 0 then (0 : Int32) else (1 : Int32)) = 0 then (2147483647 : Int32) else (3 : Int32))), .val (.long v0), .second, .val (.long v1), .second, .unset, .unset, .unset, .unset, .unset, .unset, .unset, .unset, .unset] rfl ?_
      refine w_iloadN (pc := 68) X C at_68 rfl ?_
      refine w_iload (pc := 69) X C at_69 rfl ?_
      refine w_iand (pc := 71) X C at_71 ?_
      refine w_i2l (pc := 72) X C at_72 ?_
      obtain ⟨v2, e_v2⟩ : ∃ z, z = ((x3 &&& (if (if ((ushrI x0 (10 : Int32)) &&& (1 : Int32)) = 0 then (0 : Int32) else (1 : Int32)) = 0 then (2147483647 : Int32) else (3 : Int32)))).toInt64 := ⟨_, rfl⟩
      rw [← e_v2]
      have hv2 : 0 ≤ v2.toInt ∧ v2.toInt < 2147483648 := by rw [e_v2]; exact own_v _ _ own_mask
      refine w_lstore (pc := 73) X C at_73 #[.val (.int x0), .val (.int x1), .val (.int x2), .val (.int x3), .val (.int x4), .val (.int (3 : Int32)), .val (.int (1 : Int32)), .val (.int (if ((ushrI x0 (10 : Int32)) &&& (1 : Int32)) = 0 then (0 : Int32) else (1 : Int32))), .val (.int (if (if ((ushrI x0 (10 : Int32)) &&& (1 : Int32)) = 0 then (0 : Int32) else (1 : Int32)) = 0 then (2147483647 : Int32) else (3 : Int32))), .val (.long v0), .second, .val (.long v1), .second, .val (.long v2), .second, .unset, .unset, .unset, .unset, .unset, .unset, .unset] rfl ?_
      refine w_iload (pc := 75) X C at_75 rfl ?_
      refine w_iload (pc := 77) X C at_77 rfl ?_
      refine w_iand (pc := 79) X C at_79 ?_
      refine w_i2l (pc := 80) X C at_80 ?_
      obtain ⟨v3, e_v3⟩ : ∃ z, z = ((x4 &&& (if (if ((ushrI x0 (10 : Int32)) &&& (1 : Int32)) = 0 then (0 : Int32) else (1 : Int32)) = 0 then (2147483647 : Int32) else (3 : Int32)))).toInt64 := ⟨_, rfl⟩
      rw [← e_v3]
      have hv3 : 0 ≤ v3.toInt ∧ v3.toInt < 2147483648 := by rw [e_v3]; exact own_v _ _ own_mask
      refine w_lstore (pc := 81) X C at_81 #[.val (.int x0), .val (.int x1), .val (.int x2), .val (.int x3), .val (.int x4), .val (.int (3 : Int32)), .val (.int (1 : Int32)), .val (.int (if ((ushrI x0 (10 : Int32)) &&& (1 : Int32)) = 0 then (0 : Int32) else (1 : Int32))), .val (.int (if (if ((ushrI x0 (10 : Int32)) &&& (1 : Int32)) = 0 then (0 : Int32) else (1 : Int32)) = 0 then (2147483647 : Int32) else (3 : Int32))), .val (.long v0), .second, .val (.long v1), .second, .val (.long v2), .second, .val (.long v3), .second, .unset, .unset, .unset, .unset, .unset] rfl ?_
      refine w_iload (pc := 83) X C at_83 rfl ?_
      refine w_iconst (pc := 85) X C at_85 (2 : Int32) rfl ?_
      refine w_icmp_ne (pc := 86) X C at_86 107 (by decide) (fun q31 => ?_) (fun q31 => absurd q31 (by decide))
      refine w_iload (pc := 107) X C at_107 rfl ?_
      refine w_iconst (pc := 109) X C at_109 (3 : Int32) rfl ?_
      refine w_icmp_ne (pc := 110) X C at_110 136 (by decide) (fun q32 => absurd (by decide) q32) (fun q32 => ?_)
      refine w_iconst (pc := 113) X C at_113 (3 : Int32) rfl ?_
      refine w_new_long (pc := 114) X C at_114 (List.mem_of_getElem? (i := 1) rfl) 3 rfl 3 (by decide) (by decide) (by decide) (by decide) (fun T33 h33 a33 ha33 hb33 X33 E33 A33 => ?_)
      refine w_dup (pc := 116) X33 C at_116 rfl ?_
      refine w_iconst (pc := 117) X33 C at_117 (0 : Int32) rfl ?_
      refine w_lload (pc := 118) X33 C at_118 rfl ?_
      refine w_lastore (pc := 120) X33 C at_120 A33 0 (by decide) (by decide) hb33 (fun T34 h34 X34 W34 A34 => ?_)
      obtain ⟨g34, hg34⟩ : ∃ z, z = up (fun _ => 0) 0 v0 := ⟨_, rfl⟩
      rw [← hg34] at A34
      refine w_dup (pc := 121) X34 C at_121 rfl ?_
      refine w_iconst (pc := 122) X34 C at_122 (1 : Int32) rfl ?_
      refine w_lload (pc := 123) X34 C at_123 rfl ?_
      refine w_lastore (pc := 125) X34 C at_125 A34 1 (by decide) (by decide) hb33 (fun T35 h35 X35 W35 A35 => ?_)
      obtain ⟨g35, hg35⟩ : ∃ z, z = up g34 1 v1 := ⟨_, rfl⟩
      rw [← hg35] at A35
      refine w_dup (pc := 126) X35 C at_126 rfl ?_
      refine w_iconst (pc := 127) X35 C at_127 (2 : Int32) rfl ?_
      refine w_lload (pc := 128) X35 C at_128 rfl ?_
      refine w_lastore (pc := 130) X35 C at_130 A35 2 (by decide) (by decide) hb33 (fun T36 h36 X36 W36 A36 => ?_)
      obtain ⟨g36, hg36⟩ : ∃ z, z = up g35 2 v2 := ⟨_, rfl⟩
      rw [← hg36] at A36
      refine w_astore (pc := 131) X36 C at_131 #[.val (.int x0), .val (.int x1), .val (.int x2), .val (.int x3), .val (.int x4), .val (.int (3 : Int32)), .val (.int (1 : Int32)), .val (.int (if ((ushrI x0 (10 : Int32)) &&& (1 : Int32)) = 0 then (0 : Int32) else (1 : Int32))), .val (.int (if (if ((ushrI x0 (10 : Int32)) &&& (1 : Int32)) = 0 then (0 : Int32) else (1 : Int32)) = 0 then (2147483647 : Int32) else (3 : Int32))), .val (.long v0), .second, .val (.long v1), .second, .val (.long v2), .second, .val (.long v3), .second, .val (.ref a33), .unset, .unset, .unset, .unset] rfl rfl ?_
      refine w_goto (pc := 133) X36 C at_133 161 (by decide) ?_
      refine w_iconst (pc := 161) X36 C at_161 (5 : Int32) rfl ?_
      refine w_new_long (pc := 162) X36 C at_162 (List.mem_of_getElem? (i := 1) rfl) 5 rfl 5 (by decide) (by decide) (by decide) (by decide) (fun T37 h37 a37 ha37 hb37 X37 E37 A37 => ?_)
      have ne_a33_a37 : a33 ≠ a37 := Nat.ne_of_lt (by rw [ha37]; exact A36.lt)
      have Ak38 := A36.ext E37
      refine w_dup (pc := 164) X37 C at_164 rfl ?_
      refine w_iconst (pc := 165) X37 C at_165 (0 : Int32) rfl ?_
      refine w_lconst (pc := 166) X37 C at_166 (0 : Int64) rfl ?_
      refine w_lastore (pc := 167) X37 C at_167 A37 0 (by decide) (by decide) hb37 (fun T39 h39 X39 W39 A39 => ?_)
      obtain ⟨g39, hg39⟩ : ∃ z, z = up (fun _ => 0) 0 (0 : Int64) := ⟨_, rfl⟩
      rw [← hg39] at A39
      have Ak40 := Ak38.other W39 ne_a33_a37
      refine w_dup (pc := 168) X39 C at_168 rfl ?_
      refine w_iconst (pc := 169) X39 C at_169 (1 : Int32) rfl ?_
      refine w_lload (pc := 170) X39 C at_170 rfl ?_
      refine w_lastore (pc := 172) X39 C at_172 A39 1 (by decide) (by decide) hb37 (fun T41 h41 X41 W41 A41 => ?_)
      obtain ⟨g41, hg41⟩ : ∃ z, z = up g39 1 v0 := ⟨_, rfl⟩
      rw [← hg41] at A41
      have Ak42 := Ak40.other W41 ne_a33_a37
      refine w_dup (pc := 173) X41 C at_173 rfl ?_
      refine w_iconst (pc := 174) X41 C at_174 (2 : Int32) rfl ?_
      refine w_lload (pc := 175) X41 C at_175 rfl ?_
      refine w_lload (pc := 177) X41 C at_177 rfl ?_
      refine w_ladd (pc := 179) X41 C at_179 ?_
      refine w_lastore (pc := 180) X41 C at_180 A41 2 (by decide) (by decide) hb37 (fun T43 h43 X43 W43 A43 => ?_)
      obtain ⟨g43, hg43⟩ : ∃ z, z = up g41 2 (v0 + v1) := ⟨_, rfl⟩
      rw [← hg43] at A43
      have Ak44 := Ak42.other W43 ne_a33_a37
      refine w_dup (pc := 181) X43 C at_181 rfl ?_
      refine w_iconst (pc := 182) X43 C at_182 (3 : Int32) rfl ?_
      refine w_lload (pc := 183) X43 C at_183 rfl ?_
      refine w_lload (pc := 185) X43 C at_185 rfl ?_
      refine w_ladd (pc := 187) X43 C at_187 ?_
      refine w_lload (pc := 188) X43 C at_188 rfl ?_
      refine w_ladd (pc := 190) X43 C at_190 ?_
      refine w_lastore (pc := 191) X43 C at_191 A43 3 (by decide) (by decide) hb37 (fun T45 h45 X45 W45 A45 => ?_)
      obtain ⟨g45, hg45⟩ : ∃ z, z = up g43 3 ((v0 + v1) + v2) := ⟨_, rfl⟩
      rw [← hg45] at A45
      have Ak46 := Ak44.other W45 ne_a33_a37
      refine w_dup (pc := 192) X45 C at_192 rfl ?_
      refine w_iconst (pc := 193) X45 C at_193 (4 : Int32) rfl ?_
      refine w_lload (pc := 194) X45 C at_194 rfl ?_
      refine w_lload (pc := 196) X45 C at_196 rfl ?_
      refine w_ladd (pc := 198) X45 C at_198 ?_
      refine w_lload (pc := 199) X45 C at_199 rfl ?_
      refine w_ladd (pc := 201) X45 C at_201 ?_
      refine w_lload (pc := 202) X45 C at_202 rfl ?_
      refine w_ladd (pc := 204) X45 C at_204 ?_
      refine w_lastore (pc := 205) X45 C at_205 A45 4 (by decide) (by decide) hb37 (fun T47 h47 X47 W47 A47 => ?_)
      obtain ⟨g47, hg47⟩ : ∃ z, z = up g45 4 (((v0 + v1) + v2) + v3) := ⟨_, rfl⟩
      rw [← hg47] at A47
      have Ak48 := Ak46.other W47 ne_a33_a37
      obtain ⟨p2, ep2⟩ : ∃ z, z = (v0 + v1) := ⟨_, rfl⟩
      have tp2 : p2.toInt = v0.toInt + v1.toInt := by
        have a1 := c_ladd v0 v1; have a2 := rng64 (v0 + v1); rw [ep2]; omega
      obtain ⟨p3, ep3⟩ : ∃ z, z = (p2 + v2) := ⟨_, rfl⟩
      have tp3 : p3.toInt = v0.toInt + v1.toInt + v2.toInt := by
        have a1 := c_ladd p2 v2; have a2 := rng64 (p2 + v2); rw [ep3]; omega
      obtain ⟨p4, ep4⟩ : ∃ z, z = (p3 + v3) := ⟨_, rfl⟩
      have tp4 : p4.toInt = v0.toInt + v1.toInt + v2.toInt + v3.toInt := by
        have a1 := c_ladd p3 v3; have a2 := rng64 (p3 + v3); rw [ep4]; omega
      have pp0 : g47 0 = 0 := by simp [hg47, hg45, hg43, hg41, hg39, up]
      have pp1 : g47 1 = v0 := by simp [hg47, hg45, hg43, hg41, hg39, up]
      have pp2 : g47 2 = p2 := by simp [hg47, hg45, hg43, hg41, hg39, up, ep2]
      have pp3 : g47 3 = p3 := by simp [hg47, hg45, hg43, hg41, hg39, up, ep2, ep3]
      have pp4 : g47 4 = p4 := by simp [hg47, hg45, hg43, hg41, hg39, up, ep2, ep3, ep4]
      refine w_astore (pc := 206) X47 C at_206 #[.val (.int x0), .val (.int x1), .val (.int x2), .val (.int x3), .val (.int x4), .val (.int (3 : Int32)), .val (.int (1 : Int32)), .val (.int (if ((ushrI x0 (10 : Int32)) &&& (1 : Int32)) = 0 then (0 : Int32) else (1 : Int32))), .val (.int (if (if ((ushrI x0 (10 : Int32)) &&& (1 : Int32)) = 0 then (0 : Int32) else (1 : Int32)) = 0 then (2147483647 : Int32) else (3 : Int32))), .val (.long v0), .second, .val (.long v1), .second, .val (.long v2), .second, .val (.long v3), .second, .val (.ref a33), .val (.ref a37), .unset, .unset, .unset] rfl rfl ?_
      refine w_iload (pc := 208) X47 C at_208 rfl ?_
      refine w_iload (pc := 210) X47 C at_210 rfl ?_
      refine w_isub (pc := 212) X47 C at_212 ?_
      refine w_iconst (pc := 213) X47 C at_213 (1 : Int32) rfl ?_
      refine w_iadd (pc := 214) X47 C at_214 ?_
      rw [show ((((3 : Int32) - (1 : Int32)) + (1 : Int32)) : Int32) = (3 : Int32) from by decide]
      refine w_istore (pc := 215) X47 C at_215 #[.val (.int x0), .val (.int x1), .val (.int x2), .val (.int x3), .val (.int x4), .val (.int (3 : Int32)), .val (.int (1 : Int32)), .val (.int (if ((ushrI x0 (10 : Int32)) &&& (1 : Int32)) = 0 then (0 : Int32) else (1 : Int32))), .val (.int (if (if ((ushrI x0 (10 : Int32)) &&& (1 : Int32)) = 0 then (0 : Int32) else (1 : Int32)) = 0 then (2147483647 : Int32) else (3 : Int32))), .val (.long v0), .second, .val (.long v1), .second, .val (.long v2), .second, .val (.long v3), .second, .val (.ref a33), .val (.ref a37), .val (.int (3 : Int32)), .unset, .unset] rfl ?_
      refine w_iconst (pc := 217) X47 C at_217 (0 : Int32) rfl ?_
      refine w_istore (pc := 218) X47 C at_218 #[.val (.int x0), .val (.int x1), .val (.int x2), .val (.int x3), .val (.int x4), .val (.int (3 : Int32)), .val (.int (1 : Int32)), .val (.int (if ((ushrI x0 (10 : Int32)) &&& (1 : Int32)) = 0 then (0 : Int32) else (1 : Int32))), .val (.int (if (if ((ushrI x0 (10 : Int32)) &&& (1 : Int32)) = 0 then (0 : Int32) else (1 : Int32)) = 0 then (2147483647 : Int32) else (3 : Int32))), .val (.long v0), .second, .val (.long v1), .second, .val (.long v2), .second, .val (.long v3), .second, .val (.ref a33), .val (.ref a37), .val (.int (3 : Int32)), .val (.int (0 : Int32)), .unset] rfl ?_
      refine w_iload (pc := 220) X47 C at_220 rfl ?_
      refine w_iconst (pc := 222) X47 C at_222 (2 : Int32) rfl ?_
      refine w_icmp_lt (pc := 223) X47 C at_223 259 (by decide) (fun q49 => ?_) (fun q49 => absurd (by decide) q49)
      refine w_iload (pc := 259) X47 C at_259 rfl ?_
      refine w_iconst (pc := 261) X47 C at_261 (3 : Int32) rfl ?_
      refine w_icmp_lt (pc := 262) X47 C at_262 298 (by decide) (fun q50 => ?_) (fun q50 => absurd (by decide) q50)
      refine w_aload (pc := 298) X47 C at_298 rfl rfl ?_
      refine w_iload (pc := 300) X47 C at_300 rfl ?_
      have gg0 : g36 0 = v0 := by simp [hg36, hg35, hg34, up]
      have gg1 : g36 1 = v1 := by simp [hg36, hg35, hg34, up]
      have gg2 : g36 2 = v2 := by simp [hg36, hg35, hg34, up]
      refine w_callS (pc := 302) X47 C (y := (⟨"termwright/index/MergePolicy", "cheapest", "([JI)[I"⟩ : MethodName)) (bytes := prog_68_method_5_code) (maxL := 9) (rt := (some (.array .int))) (argsL := [(.ref a33), (.int (1 : Int32))]) (rest := []) (W := 0) at_302 (List.mem_of_getElem? (i := 2) rfl) (List.mem_of_getElem? (i := 3) rfl) (List.mem_of_getElem? (i := 4) rfl) (List.mem_of_getElem? (i := 5) rfl) (by decide) (ct1_3_1 l C.2.2.2.2.2.2.2.2 _ X47.size (a33) g36 v0 v1 v2 Ak48 gg0 gg1 gg2 hv0 hv1 hv2) rfl ⟨_, _, pd_0, rfl⟩ rfl (Nat.le_of_eq rfl) (by decide) (by decide) (by decide) (by decide) (fun v_51 T51 P51 X51 => ?_)
      obtain ⟨r51, b51, gr51, rfl, hr51, Ar51, hz51, ho51, hsp51⟩ := P51
      have z0 : (0 : Int64).toInt = 0 := rfl
      have hbb : b51 = (0 : Int32) := by
        exact hsp51
      have hbest0 : gr51 0 = (0 : Int32) := by rw [hz51, hbb]
      have hbest1 : gr51 1 = ((0 : Int32) + (3 : Int32)) := by rw [ho51, hbb]
      refine w_astore (pc := 305) X51 C at_305 #[.val (.int x0), .val (.int x1), .val (.int x2), .val (.int x3), .val (.int x4), .val (.int (3 : Int32)), .val (.int (1 : Int32)), .val (.int (if ((ushrI x0 (10 : Int32)) &&& (1 : Int32)) = 0 then (0 : Int32) else (1 : Int32))), .val (.int (if (if ((ushrI x0 (10 : Int32)) &&& (1 : Int32)) = 0 then (0 : Int32) else (1 : Int32)) = 0 then (2147483647 : Int32) else (3 : Int32))), .val (.long v0), .second, .val (.long v1), .second, .val (.long v2), .second, .val (.long v3), .second, .val (.ref a33), .val (.ref a37), .val (.int (3 : Int32)), .val (.int (0 : Int32)), .val (.ref r51)] rfl rfl ?_
      refine w_aload (pc := 307) X51 C at_307 rfl rfl ?_
      refine w_ifnull_no (pc := 309) X51 C at_309 ?_
      refine w_aload (pc := 312) X51 C at_312 rfl rfl ?_
      refine w_arraylength (pc := 314) X51 C at_314 Ar51 ?_
      refine w_iconst (pc := 315) X51 C at_315 (2 : Int32) rfl ?_
      refine w_icmp_ne (pc := 316) X51 C at_316 344 (by decide) (fun q52 => absurd (by decide) q52) (fun q52 => ?_)
      refine w_aload (pc := 319) X51 C at_319 rfl rfl ?_
      refine w_iconst (pc := 321) X51 C at_321 (0 : Int32) rfl ?_
      refine w_iaload (pc := 322) X51 C at_322 Ar51 0 (by decide) (by decide) ?_
      refine w_iload (pc := 323) X51 C at_323 rfl ?_
      refine w_icmp_ne (pc := 325) X51 C at_325 344 (by decide) (fun q53 => absurd (hbest0) q53) (fun q53 => ?_)
      refine w_aload (pc := 328) X51 C at_328 rfl rfl ?_
      refine w_iconst (pc := 330) X51 C at_330 (1 : Int32) rfl ?_
      refine w_iaload (pc := 331) X51 C at_331 Ar51 1 (by decide) (by decide) ?_
      refine w_iload (pc := 332) X51 C at_332 rfl ?_
      refine w_iload (pc := 334) X51 C at_334 rfl ?_
      refine w_iadd (pc := 336) X51 C at_336 ?_
      refine w_icmp_ne (pc := 337) X51 C at_337 344 (by decide) (fun q54 => absurd (hbest1) q54) (fun q54 => ?_)
      refine w_iconst (pc := 340) X51 C at_340 (1 : Int32) rfl ?_
      refine w_goto (pc := 341) X51 C at_341 345 (by decide) ?_
      exact w_ret_boolean (pc := 345) X51 C at_345 rfl
    · rw [ec]
      refine w_istore (pc := 23) X C at_23 #[.val (.int x0), .val (.int x1), .val (.int x2), .val (.int x3), .val (.int x4), .val (.int (3 : Int32)), .val (.int (2 : Int32)), .unset, .unset, .unset, .unset, .unset, .unset, .unset, .unset, .unset, .unset, .unset, .unset, .unset, .unset, .unset] rfl ?_
      refine w_iloadN (pc := 25) X C at_25 rfl ?_
      refine w_bipush (pc := 26) X C at_26 (10 : Int32) rfl ?_
      refine w_iushr (pc := 28) X C at_28 ?_
      refine w_iconst (pc := 29) X C at_29 (1 : Int32) rfl ?_
      refine w_iand (pc := 30) X C at_30 ?_
      suffices key56 : Goes p e below s n0 (fun v _ => v = some (.int 1)) room_1.cells room_1.slots T (mkF m 39 #[.val (.int x0), .val (.int x1), .val (.int x2), .val (.int x3), .val (.int x4), .val (.int (3 : Int32)), .val (.int (2 : Int32)), .unset, .unset, .unset, .unset, .unset, .unset, .unset, .unset, .unset, .unset, .unset, .unset, .unset, .unset, .unset] [(.int (if ((ushrI x0 (10 : Int32)) &&& (1 : Int32)) = 0 then (0 : Int32) else (1 : Int32)))]) by
        refine w_if_eq (pc := 31) X C at_31 38 (by decide) (fun q55 => ?_) (fun q55 => ?_)
        · skip
          refine w_iconst (pc := 38) X C at_38 (0 : Int32) rfl ?_
          rw [if_pos q55] at key56
          exact key56
        · skip
          refine w_iconst (pc := 34) X C at_34 (1 : Int32) rfl ?_
          refine w_goto (pc := 35) X C at_35 39 (by decide) ?_
          rw [if_neg q55] at key56
          exact key56
      refine w_istore (pc := 39) X C at_39 #[.val (.int x0), .val (.int x1), .val (.int x2), .val (.int x3), .val (.int x4), .val (.int (3 : Int32)), .val (.int (2 : Int32)), .val (.int (if ((ushrI x0 (10 : Int32)) &&& (1 : Int32)) = 0 then (0 : Int32) else (1 : Int32))), .unset, .unset, .unset, .unset, .unset, .unset, .unset, .unset, .unset, .unset, .unset, .unset, .unset, .unset] rfl ?_
      refine w_iload (pc := 41) X C at_41 rfl ?_
      suffices key58 : Goes p e below s n0 (fun v _ => v = some (.int 1)) room_1.cells room_1.slots T (mkF m 52 #[.val (.int x0), .val (.int x1), .val (.int x2), .val (.int x3), .val (.int x4), .val (.int (3 : Int32)), .val (.int (2 : Int32)), .val (.int (if ((ushrI x0 (10 : Int32)) &&& (1 : Int32)) = 0 then (0 : Int32) else (1 : Int32))), .unset, .unset, .unset, .unset, .unset, .unset, .unset, .unset, .unset, .unset, .unset, .unset, .unset, .unset] [(.int (if (if ((ushrI x0 (10 : Int32)) &&& (1 : Int32)) = 0 then (0 : Int32) else (1 : Int32)) = 0 then (2147483647 : Int32) else (3 : Int32)))]) by
        refine w_if_eq (pc := 43) X C at_43 50 (by decide) (fun q57 => ?_) (fun q57 => ?_)
        · skip
          refine w_ldcI (pc := 50) X C at_50 (v := (2147483647 : Int32)) (List.mem_of_getElem? (i := 0) rfl) ?_
          rw [if_pos q57] at key58
          exact key58
        · skip
          refine w_iconst (pc := 46) X C at_46 (3 : Int32) rfl ?_
          refine w_goto (pc := 47) X C at_47 52 (by decide) ?_
          rw [if_neg q57] at key58
          exact key58
      refine w_istore (pc := 52) X C at_52 #[.val (.int x0), .val (.int x1), .val (.int x2), .val (.int x3), .val (.int x4), .val (.int (3 : Int32)), .val (.int (2 : Int32)), .val (.int (if ((ushrI x0 (10 : Int32)) &&& (1 : Int32)) = 0 then (0 : Int32) else (1 : Int32))), .val (.int (if (if ((ushrI x0 (10 : Int32)) &&& (1 : Int32)) = 0 then (0 : Int32) else (1 : Int32)) = 0 then (2147483647 : Int32) else (3 : Int32))), .unset, .unset, .unset, .unset, .unset, .unset, .unset, .unset, .unset, .unset, .unset, .unset, .unset] rfl ?_
      refine w_iloadN (pc := 54) X C at_54 rfl ?_
      refine w_iload (pc := 55) X C at_55 rfl ?_
      refine w_iand (pc := 57) X C at_57 ?_
      refine w_i2l (pc := 58) X C at_58 ?_
      obtain ⟨v0, e_v0⟩ : ∃ z, z = ((x1 &&& (if (if ((ushrI x0 (10 : Int32)) &&& (1 : Int32)) = 0 then (0 : Int32) else (1 : Int32)) = 0 then (2147483647 : Int32) else (3 : Int32)))).toInt64 := ⟨_, rfl⟩
      rw [← e_v0]
      have hv0 : 0 ≤ v0.toInt ∧ v0.toInt < 2147483648 := by rw [e_v0]; exact own_v _ _ own_mask
      refine w_lstore (pc := 59) X C at_59 #[.val (.int x0), .val (.int x1), .val (.int x2), .val (.int x3), .val (.int x4), .val (.int (3 : Int32)), .val (.int (2 : Int32)), .val (.int (if ((ushrI x0 (10 : Int32)) &&& (1 : Int32)) = 0 then (0 : Int32) else (1 : Int32))), .val (.int (if (if ((ushrI x0 (10 : Int32)) &&& (1 : Int32)) = 0 then (0 : Int32) else (1 : Int32)) = 0 then (2147483647 : Int32) else (3 : Int32))), .val (.long v0), .second, .unset, .unset, .unset, .unset, .unset, .unset, .unset, .unset, .unset, .unset, .unset] rfl ?_
      refine w_iloadN (pc := 61) X C at_61 rfl ?_
      refine w_iload (pc := 62) X C at_62 rfl ?_
      refine w_iand (pc := 64) X C at_64 ?_
      refine w_i2l (pc := 65) X C at_65 ?_
      obtain ⟨v1, e_v1⟩ : ∃ z, z = ((x2 &&& (if (if ((ushrI x0 (10 : Int32)) &&& (1 : Int32)) = 0 then (0 : Int32) else (1 : Int32)) = 0 then (2147483647 : Int32) else (3 : Int32)))).toInt64 := ⟨_, rfl⟩
      rw [← e_v1]
      have hv1 : 0 ≤ v1.toInt ∧ v1.toInt < 2147483648 := by rw [e_v1]; exact own_v _ _ own_mask
      refine w_lstore (pc := 66) X C at_66 #[.val (.int x0), .val (.int x1), .val (.int x2), .val (.int x3), .val (.int x4), .val (.int (3 : Int32)), .val (.int (2 : Int32)), .val (.int (if ((ushrI x0 (10 : Int32)) &&& (1 : Int32)) = 0 then (0 : Int32) else (1 : Int32))), .val (.int (if (if ((ushrI x0 (10 : Int32)) &&& (1 : Int32)) = 0 then (0 : Int32) else (1 : Int32)) = 0 then (2147483647 : Int32) else (3 : Int32))), .val (.long v0), .second, .val (.long v1), .second, .unset, .unset, .unset, .unset, .unset, .unset, .unset, .unset, .unset] rfl ?_
      refine w_iloadN (pc := 68) X C at_68 rfl ?_
      refine w_iload (pc := 69) X C at_69 rfl ?_
      refine w_iand (pc := 71) X C at_71 ?_
      refine w_i2l (pc := 72) X C at_72 ?_
      obtain ⟨v2, e_v2⟩ : ∃ z, z = ((x3 &&& (if (if ((ushrI x0 (10 : Int32)) &&& (1 : Int32)) = 0 then (0 : Int32) else (1 : Int32)) = 0 then (2147483647 : Int32) else (3 : Int32)))).toInt64 := ⟨_, rfl⟩
      rw [← e_v2]
      have hv2 : 0 ≤ v2.toInt ∧ v2.toInt < 2147483648 := by rw [e_v2]; exact own_v _ _ own_mask
      refine w_lstore (pc := 73) X C at_73 #[.val (.int x0), .val (.int x1), .val (.int x2), .val (.int x3), .val (.int x4), .val (.int (3 : Int32)), .val (.int (2 : Int32)), .val (.int (if ((ushrI x0 (10 : Int32)) &&& (1 : Int32)) = 0 then (0 : Int32) else (1 : Int32))), .val (.int (if (if ((ushrI x0 (10 : Int32)) &&& (1 : Int32)) = 0 then (0 : Int32) else (1 : Int32)) = 0 then (2147483647 : Int32) else (3 : Int32))), .val (.long v0), .second, .val (.long v1), .second, .val (.long v2), .second, .unset, .unset, .unset, .unset, .unset, .unset, .unset] rfl ?_
      refine w_iload (pc := 75) X C at_75 rfl ?_
      refine w_iload (pc := 77) X C at_77 rfl ?_
      refine w_iand (pc := 79) X C at_79 ?_
      refine w_i2l (pc := 80) X C at_80 ?_
      obtain ⟨v3, e_v3⟩ : ∃ z, z = ((x4 &&& (if (if ((ushrI x0 (10 : Int32)) &&& (1 : Int32)) = 0 then (0 : Int32) else (1 : Int32)) = 0 then (2147483647 : Int32) else (3 : Int32)))).toInt64 := ⟨_, rfl⟩
      rw [← e_v3]
      have hv3 : 0 ≤ v3.toInt ∧ v3.toInt < 2147483648 := by rw [e_v3]; exact own_v _ _ own_mask
      refine w_lstore (pc := 81) X C at_81 #[.val (.int x0), .val (.int x1), .val (.int x2), .val (.int x3), .val (.int x4), .val (.int (3 : Int32)), .val (.int (2 : Int32)), .val (.int (if ((ushrI x0 (10 : Int32)) &&& (1 : Int32)) = 0 then (0 : Int32) else (1 : Int32))), .val (.int (if (if ((ushrI x0 (10 : Int32)) &&& (1 : Int32)) = 0 then (0 : Int32) else (1 : Int32)) = 0 then (2147483647 : Int32) else (3 : Int32))), .val (.long v0), .second, .val (.long v1), .second, .val (.long v2), .second, .val (.long v3), .second, .unset, .unset, .unset, .unset, .unset] rfl ?_
      refine w_iload (pc := 83) X C at_83 rfl ?_
      refine w_iconst (pc := 85) X C at_85 (2 : Int32) rfl ?_
      refine w_icmp_ne (pc := 86) X C at_86 107 (by decide) (fun q59 => ?_) (fun q59 => absurd q59 (by decide))
      refine w_iload (pc := 107) X C at_107 rfl ?_
      refine w_iconst (pc := 109) X C at_109 (3 : Int32) rfl ?_
      refine w_icmp_ne (pc := 110) X C at_110 136 (by decide) (fun q60 => absurd (by decide) q60) (fun q60 => ?_)
      refine w_iconst (pc := 113) X C at_113 (3 : Int32) rfl ?_
      refine w_new_long (pc := 114) X C at_114 (List.mem_of_getElem? (i := 1) rfl) 3 rfl 3 (by decide) (by decide) (by decide) (by decide) (fun T61 h61 a61 ha61 hb61 X61 E61 A61 => ?_)
      refine w_dup (pc := 116) X61 C at_116 rfl ?_
      refine w_iconst (pc := 117) X61 C at_117 (0 : Int32) rfl ?_
      refine w_lload (pc := 118) X61 C at_118 rfl ?_
      refine w_lastore (pc := 120) X61 C at_120 A61 0 (by decide) (by decide) hb61 (fun T62 h62 X62 W62 A62 => ?_)
      obtain ⟨g62, hg62⟩ : ∃ z, z = up (fun _ => 0) 0 v0 := ⟨_, rfl⟩
      rw [← hg62] at A62
      refine w_dup (pc := 121) X62 C at_121 rfl ?_
      refine w_iconst (pc := 122) X62 C at_122 (1 : Int32) rfl ?_
      refine w_lload (pc := 123) X62 C at_123 rfl ?_
      refine w_lastore (pc := 125) X62 C at_125 A62 1 (by decide) (by decide) hb61 (fun T63 h63 X63 W63 A63 => ?_)
      obtain ⟨g63, hg63⟩ : ∃ z, z = up g62 1 v1 := ⟨_, rfl⟩
      rw [← hg63] at A63
      refine w_dup (pc := 126) X63 C at_126 rfl ?_
      refine w_iconst (pc := 127) X63 C at_127 (2 : Int32) rfl ?_
      refine w_lload (pc := 128) X63 C at_128 rfl ?_
      refine w_lastore (pc := 130) X63 C at_130 A63 2 (by decide) (by decide) hb61 (fun T64 h64 X64 W64 A64 => ?_)
      obtain ⟨g64, hg64⟩ : ∃ z, z = up g63 2 v2 := ⟨_, rfl⟩
      rw [← hg64] at A64
      refine w_astore (pc := 131) X64 C at_131 #[.val (.int x0), .val (.int x1), .val (.int x2), .val (.int x3), .val (.int x4), .val (.int (3 : Int32)), .val (.int (2 : Int32)), .val (.int (if ((ushrI x0 (10 : Int32)) &&& (1 : Int32)) = 0 then (0 : Int32) else (1 : Int32))), .val (.int (if (if ((ushrI x0 (10 : Int32)) &&& (1 : Int32)) = 0 then (0 : Int32) else (1 : Int32)) = 0 then (2147483647 : Int32) else (3 : Int32))), .val (.long v0), .second, .val (.long v1), .second, .val (.long v2), .second, .val (.long v3), .second, .val (.ref a61), .unset, .unset, .unset, .unset] rfl rfl ?_
      refine w_goto (pc := 133) X64 C at_133 161 (by decide) ?_
      refine w_iconst (pc := 161) X64 C at_161 (5 : Int32) rfl ?_
      refine w_new_long (pc := 162) X64 C at_162 (List.mem_of_getElem? (i := 1) rfl) 5 rfl 5 (by decide) (by decide) (by decide) (by decide) (fun T65 h65 a65 ha65 hb65 X65 E65 A65 => ?_)
      have ne_a61_a65 : a61 ≠ a65 := Nat.ne_of_lt (by rw [ha65]; exact A64.lt)
      have Ak66 := A64.ext E65
      refine w_dup (pc := 164) X65 C at_164 rfl ?_
      refine w_iconst (pc := 165) X65 C at_165 (0 : Int32) rfl ?_
      refine w_lconst (pc := 166) X65 C at_166 (0 : Int64) rfl ?_
      refine w_lastore (pc := 167) X65 C at_167 A65 0 (by decide) (by decide) hb65 (fun T67 h67 X67 W67 A67 => ?_)
      obtain ⟨g67, hg67⟩ : ∃ z, z = up (fun _ => 0) 0 (0 : Int64) := ⟨_, rfl⟩
      rw [← hg67] at A67
      have Ak68 := Ak66.other W67 ne_a61_a65
      refine w_dup (pc := 168) X67 C at_168 rfl ?_
      refine w_iconst (pc := 169) X67 C at_169 (1 : Int32) rfl ?_
      refine w_lload (pc := 170) X67 C at_170 rfl ?_
      refine w_lastore (pc := 172) X67 C at_172 A67 1 (by decide) (by decide) hb65 (fun T69 h69 X69 W69 A69 => ?_)
      obtain ⟨g69, hg69⟩ : ∃ z, z = up g67 1 v0 := ⟨_, rfl⟩
      rw [← hg69] at A69
      have Ak70 := Ak68.other W69 ne_a61_a65
      refine w_dup (pc := 173) X69 C at_173 rfl ?_
      refine w_iconst (pc := 174) X69 C at_174 (2 : Int32) rfl ?_
      refine w_lload (pc := 175) X69 C at_175 rfl ?_
      refine w_lload (pc := 177) X69 C at_177 rfl ?_
      refine w_ladd (pc := 179) X69 C at_179 ?_
      refine w_lastore (pc := 180) X69 C at_180 A69 2 (by decide) (by decide) hb65 (fun T71 h71 X71 W71 A71 => ?_)
      obtain ⟨g71, hg71⟩ : ∃ z, z = up g69 2 (v0 + v1) := ⟨_, rfl⟩
      rw [← hg71] at A71
      have Ak72 := Ak70.other W71 ne_a61_a65
      refine w_dup (pc := 181) X71 C at_181 rfl ?_
      refine w_iconst (pc := 182) X71 C at_182 (3 : Int32) rfl ?_
      refine w_lload (pc := 183) X71 C at_183 rfl ?_
      refine w_lload (pc := 185) X71 C at_185 rfl ?_
      refine w_ladd (pc := 187) X71 C at_187 ?_
      refine w_lload (pc := 188) X71 C at_188 rfl ?_
      refine w_ladd (pc := 190) X71 C at_190 ?_
      refine w_lastore (pc := 191) X71 C at_191 A71 3 (by decide) (by decide) hb65 (fun T73 h73 X73 W73 A73 => ?_)
      obtain ⟨g73, hg73⟩ : ∃ z, z = up g71 3 ((v0 + v1) + v2) := ⟨_, rfl⟩
      rw [← hg73] at A73
      have Ak74 := Ak72.other W73 ne_a61_a65
      refine w_dup (pc := 192) X73 C at_192 rfl ?_
      refine w_iconst (pc := 193) X73 C at_193 (4 : Int32) rfl ?_
      refine w_lload (pc := 194) X73 C at_194 rfl ?_
      refine w_lload (pc := 196) X73 C at_196 rfl ?_
      refine w_ladd (pc := 198) X73 C at_198 ?_
      refine w_lload (pc := 199) X73 C at_199 rfl ?_
      refine w_ladd (pc := 201) X73 C at_201 ?_
      refine w_lload (pc := 202) X73 C at_202 rfl ?_
      refine w_ladd (pc := 204) X73 C at_204 ?_
      refine w_lastore (pc := 205) X73 C at_205 A73 4 (by decide) (by decide) hb65 (fun T75 h75 X75 W75 A75 => ?_)
      obtain ⟨g75, hg75⟩ : ∃ z, z = up g73 4 (((v0 + v1) + v2) + v3) := ⟨_, rfl⟩
      rw [← hg75] at A75
      have Ak76 := Ak74.other W75 ne_a61_a65
      obtain ⟨p2, ep2⟩ : ∃ z, z = (v0 + v1) := ⟨_, rfl⟩
      have tp2 : p2.toInt = v0.toInt + v1.toInt := by
        have a1 := c_ladd v0 v1; have a2 := rng64 (v0 + v1); rw [ep2]; omega
      obtain ⟨p3, ep3⟩ : ∃ z, z = (p2 + v2) := ⟨_, rfl⟩
      have tp3 : p3.toInt = v0.toInt + v1.toInt + v2.toInt := by
        have a1 := c_ladd p2 v2; have a2 := rng64 (p2 + v2); rw [ep3]; omega
      obtain ⟨p4, ep4⟩ : ∃ z, z = (p3 + v3) := ⟨_, rfl⟩
      have tp4 : p4.toInt = v0.toInt + v1.toInt + v2.toInt + v3.toInt := by
        have a1 := c_ladd p3 v3; have a2 := rng64 (p3 + v3); rw [ep4]; omega
      have pp0 : g75 0 = 0 := by simp [hg75, hg73, hg71, hg69, hg67, up]
      have pp1 : g75 1 = v0 := by simp [hg75, hg73, hg71, hg69, hg67, up]
      have pp2 : g75 2 = p2 := by simp [hg75, hg73, hg71, hg69, hg67, up, ep2]
      have pp3 : g75 3 = p3 := by simp [hg75, hg73, hg71, hg69, hg67, up, ep2, ep3]
      have pp4 : g75 4 = p4 := by simp [hg75, hg73, hg71, hg69, hg67, up, ep2, ep3, ep4]
      refine w_astore (pc := 206) X75 C at_206 #[.val (.int x0), .val (.int x1), .val (.int x2), .val (.int x3), .val (.int x4), .val (.int (3 : Int32)), .val (.int (2 : Int32)), .val (.int (if ((ushrI x0 (10 : Int32)) &&& (1 : Int32)) = 0 then (0 : Int32) else (1 : Int32))), .val (.int (if (if ((ushrI x0 (10 : Int32)) &&& (1 : Int32)) = 0 then (0 : Int32) else (1 : Int32)) = 0 then (2147483647 : Int32) else (3 : Int32))), .val (.long v0), .second, .val (.long v1), .second, .val (.long v2), .second, .val (.long v3), .second, .val (.ref a61), .val (.ref a65), .unset, .unset, .unset] rfl rfl ?_
      refine w_iload (pc := 208) X75 C at_208 rfl ?_
      refine w_iload (pc := 210) X75 C at_210 rfl ?_
      refine w_isub (pc := 212) X75 C at_212 ?_
      refine w_iconst (pc := 213) X75 C at_213 (1 : Int32) rfl ?_
      refine w_iadd (pc := 214) X75 C at_214 ?_
      rw [show ((((3 : Int32) - (2 : Int32)) + (1 : Int32)) : Int32) = (2 : Int32) from by decide]
      refine w_istore (pc := 215) X75 C at_215 #[.val (.int x0), .val (.int x1), .val (.int x2), .val (.int x3), .val (.int x4), .val (.int (3 : Int32)), .val (.int (2 : Int32)), .val (.int (if ((ushrI x0 (10 : Int32)) &&& (1 : Int32)) = 0 then (0 : Int32) else (1 : Int32))), .val (.int (if (if ((ushrI x0 (10 : Int32)) &&& (1 : Int32)) = 0 then (0 : Int32) else (1 : Int32)) = 0 then (2147483647 : Int32) else (3 : Int32))), .val (.long v0), .second, .val (.long v1), .second, .val (.long v2), .second, .val (.long v3), .second, .val (.ref a61), .val (.ref a65), .val (.int (2 : Int32)), .unset, .unset] rfl ?_
      refine w_iconst (pc := 217) X75 C at_217 (0 : Int32) rfl ?_
      refine w_istore (pc := 218) X75 C at_218 #[.val (.int x0), .val (.int x1), .val (.int x2), .val (.int x3), .val (.int x4), .val (.int (3 : Int32)), .val (.int (2 : Int32)), .val (.int (if ((ushrI x0 (10 : Int32)) &&& (1 : Int32)) = 0 then (0 : Int32) else (1 : Int32))), .val (.int (if (if ((ushrI x0 (10 : Int32)) &&& (1 : Int32)) = 0 then (0 : Int32) else (1 : Int32)) = 0 then (2147483647 : Int32) else (3 : Int32))), .val (.long v0), .second, .val (.long v1), .second, .val (.long v2), .second, .val (.long v3), .second, .val (.ref a61), .val (.ref a65), .val (.int (2 : Int32)), .val (.int (0 : Int32)), .unset] rfl ?_
      refine w_iload (pc := 220) X75 C at_220 rfl ?_
      refine w_iconst (pc := 222) X75 C at_222 (2 : Int32) rfl ?_
      refine w_icmp_lt (pc := 223) X75 C at_223 259 (by decide) (fun q77 => absurd q77 (by decide)) (fun q77 => ?_)
      refine w_aload (pc := 226) X75 C at_226 rfl rfl ?_
      refine w_iconst (pc := 228) X75 C at_228 (1 : Int32) rfl ?_
      refine w_iload (pc := 229) X75 C at_229 rfl ?_
      refine w_iadd (pc := 231) X75 C at_231 ?_
      refine w_laload (pc := 232) X75 C at_232 A75 3 (by decide) (by decide) ?_
      rw [pp3]
      refine w_aload (pc := 233) X75 C at_233 rfl rfl ?_
      refine w_iconst (pc := 235) X75 C at_235 (1 : Int32) rfl ?_
      refine w_laload (pc := 236) X75 C at_236 A75 1 (by decide) (by decide) ?_
      rw [pp1]
      refine w_lsub (pc := 237) X75 C at_237 ?_
      refine w_aload (pc := 238) X75 C at_238 rfl rfl ?_
      refine w_iload (pc := 240) X75 C at_240 rfl ?_
      refine w_iload (pc := 242) X75 C at_242 rfl ?_
      refine w_iadd (pc := 244) X75 C at_244 ?_
      refine w_laload (pc := 245) X75 C at_245 A75 2 (by decide) (by decide) ?_
      rw [pp2]
      refine w_aload (pc := 246) X75 C at_246 rfl rfl ?_
      refine w_iload (pc := 248) X75 C at_248 rfl ?_
      refine w_laload (pc := 250) X75 C at_250 A75 0 (by decide) (by decide) ?_
      rw [pp0]
      refine w_lsub (pc := 251) X75 C at_251 ?_
      refine w_lcmp (pc := 252) X75 C at_252 ?_
      refine w_ifJ_ge (pc := 253) X75 C at_253 259 (by decide) (fun q78 => ?_) (fun q78 => ?_)
      · -- yes
        refine w_iload (pc := 259) X75 C at_259 rfl ?_
        refine w_iconst (pc := 261) X75 C at_261 (3 : Int32) rfl ?_
        refine w_icmp_lt (pc := 262) X75 C at_262 298 (by decide) (fun q79 => ?_) (fun q79 => absurd (by decide) q79)
        refine w_aload (pc := 298) X75 C at_298 rfl rfl ?_
        refine w_iload (pc := 300) X75 C at_300 rfl ?_
        have gg0 : g64 0 = v0 := by simp [hg64, hg63, hg62, up]
        have gg1 : g64 1 = v1 := by simp [hg64, hg63, hg62, up]
        have gg2 : g64 2 = v2 := by simp [hg64, hg63, hg62, up]
        refine w_callS (pc := 302) X75 C (y := (⟨"termwright/index/MergePolicy", "cheapest", "([JI)[I"⟩ : MethodName)) (bytes := prog_68_method_5_code) (maxL := 9) (rt := (some (.array .int))) (argsL := [(.ref a61), (.int (2 : Int32))]) (rest := []) (W := 0) at_302 (List.mem_of_getElem? (i := 2) rfl) (List.mem_of_getElem? (i := 3) rfl) (List.mem_of_getElem? (i := 4) rfl) (List.mem_of_getElem? (i := 5) rfl) (by decide) (ct1_3_2 l C.2.2.2.2.2.2.2.2 _ X75.size (a61) g64 v0 v1 v2 Ak76 gg0 gg1 gg2 hv0 hv1 hv2) rfl ⟨_, _, pd_0, rfl⟩ rfl (Nat.le_of_eq rfl) (by decide) (by decide) (by decide) (by decide) (fun v_80 T80 P80 X80 => ?_)
        obtain ⟨r80, b80, gr80, rfl, hr80, Ar80, hz80, ho80, hsp80⟩ := P80
        have z0 : (0 : Int64).toInt = 0 := rfl
        have lq78 := Int64.le_iff_toInt_le.mp (Int64.not_lt.mp q78)
        have u81a := c_lsub p3 v0
        have u81b := rng64 (p3 - v0)
        have u82a := c_lsub p2 0
        have u82b := rng64 (p2 - 0)
        have hbb : b80 = (0 : Int32) := by
          rcases hsp80 with ⟨w1, w2⟩ | ⟨w1, w2⟩
          all_goals first | exact w1 | (exfalso; omega)
        have hbest0 : gr80 0 = (0 : Int32) := by rw [hz80, hbb]
        have hbest1 : gr80 1 = ((0 : Int32) + (2 : Int32)) := by rw [ho80, hbb]
        refine w_astore (pc := 305) X80 C at_305 #[.val (.int x0), .val (.int x1), .val (.int x2), .val (.int x3), .val (.int x4), .val (.int (3 : Int32)), .val (.int (2 : Int32)), .val (.int (if ((ushrI x0 (10 : Int32)) &&& (1 : Int32)) = 0 then (0 : Int32) else (1 : Int32))), .val (.int (if (if ((ushrI x0 (10 : Int32)) &&& (1 : Int32)) = 0 then (0 : Int32) else (1 : Int32)) = 0 then (2147483647 : Int32) else (3 : Int32))), .val (.long v0), .second, .val (.long v1), .second, .val (.long v2), .second, .val (.long v3), .second, .val (.ref a61), .val (.ref a65), .val (.int (2 : Int32)), .val (.int (0 : Int32)), .val (.ref r80)] rfl rfl ?_
        refine w_aload (pc := 307) X80 C at_307 rfl rfl ?_
        refine w_ifnull_no (pc := 309) X80 C at_309 ?_
        refine w_aload (pc := 312) X80 C at_312 rfl rfl ?_
        refine w_arraylength (pc := 314) X80 C at_314 Ar80 ?_
        refine w_iconst (pc := 315) X80 C at_315 (2 : Int32) rfl ?_
        refine w_icmp_ne (pc := 316) X80 C at_316 344 (by decide) (fun q83 => absurd (by decide) q83) (fun q83 => ?_)
        refine w_aload (pc := 319) X80 C at_319 rfl rfl ?_
        refine w_iconst (pc := 321) X80 C at_321 (0 : Int32) rfl ?_
        refine w_iaload (pc := 322) X80 C at_322 Ar80 0 (by decide) (by decide) ?_
        refine w_iload (pc := 323) X80 C at_323 rfl ?_
        refine w_icmp_ne (pc := 325) X80 C at_325 344 (by decide) (fun q84 => absurd (hbest0) q84) (fun q84 => ?_)
        refine w_aload (pc := 328) X80 C at_328 rfl rfl ?_
        refine w_iconst (pc := 330) X80 C at_330 (1 : Int32) rfl ?_
        refine w_iaload (pc := 331) X80 C at_331 Ar80 1 (by decide) (by decide) ?_
        refine w_iload (pc := 332) X80 C at_332 rfl ?_
        refine w_iload (pc := 334) X80 C at_334 rfl ?_
        refine w_iadd (pc := 336) X80 C at_336 ?_
        refine w_icmp_ne (pc := 337) X80 C at_337 344 (by decide) (fun q85 => absurd (hbest1) q85) (fun q85 => ?_)
        refine w_iconst (pc := 340) X80 C at_340 (1 : Int32) rfl ?_
        refine w_goto (pc := 341) X80 C at_341 345 (by decide) ?_
        exact w_ret_boolean (pc := 345) X80 C at_345 rfl
      · -- no
        refine w_iconst (pc := 256) X75 C at_256 (1 : Int32) rfl ?_
        refine w_istore (pc := 257) X75 C at_257 #[.val (.int x0), .val (.int x1), .val (.int x2), .val (.int x3), .val (.int x4), .val (.int (3 : Int32)), .val (.int (2 : Int32)), .val (.int (if ((ushrI x0 (10 : Int32)) &&& (1 : Int32)) = 0 then (0 : Int32) else (1 : Int32))), .val (.int (if (if ((ushrI x0 (10 : Int32)) &&& (1 : Int32)) = 0 then (0 : Int32) else (1 : Int32)) = 0 then (2147483647 : Int32) else (3 : Int32))), .val (.long v0), .second, .val (.long v1), .second, .val (.long v2), .second, .val (.long v3), .second, .val (.ref a61), .val (.ref a65), .val (.int (2 : Int32)), .val (.int (1 : Int32)), .unset] rfl ?_
        refine w_iload (pc := 259) X75 C at_259 rfl ?_
        refine w_iconst (pc := 261) X75 C at_261 (3 : Int32) rfl ?_
        refine w_icmp_lt (pc := 262) X75 C at_262 298 (by decide) (fun q86 => ?_) (fun q86 => absurd (by decide) q86)
        refine w_aload (pc := 298) X75 C at_298 rfl rfl ?_
        refine w_iload (pc := 300) X75 C at_300 rfl ?_
        have gg0 : g64 0 = v0 := by simp [hg64, hg63, hg62, up]
        have gg1 : g64 1 = v1 := by simp [hg64, hg63, hg62, up]
        have gg2 : g64 2 = v2 := by simp [hg64, hg63, hg62, up]
        refine w_callS (pc := 302) X75 C (y := (⟨"termwright/index/MergePolicy", "cheapest", "([JI)[I"⟩ : MethodName)) (bytes := prog_68_method_5_code) (maxL := 9) (rt := (some (.array .int))) (argsL := [(.ref a61), (.int (2 : Int32))]) (rest := []) (W := 0) at_302 (List.mem_of_getElem? (i := 2) rfl) (List.mem_of_getElem? (i := 3) rfl) (List.mem_of_getElem? (i := 4) rfl) (List.mem_of_getElem? (i := 5) rfl) (by decide) (ct1_3_2 l C.2.2.2.2.2.2.2.2 _ X75.size (a61) g64 v0 v1 v2 Ak76 gg0 gg1 gg2 hv0 hv1 hv2) rfl ⟨_, _, pd_0, rfl⟩ rfl (Nat.le_of_eq rfl) (by decide) (by decide) (by decide) (by decide) (fun v_87 T87 P87 X87 => ?_)
        obtain ⟨r87, b87, gr87, rfl, hr87, Ar87, hz87, ho87, hsp87⟩ := P87
        have z0 : (0 : Int64).toInt = 0 := rfl
        have lq78 := Int64.lt_iff_toInt_lt.mp q78
        have u88a := c_lsub p3 v0
        have u88b := rng64 (p3 - v0)
        have u89a := c_lsub p2 0
        have u89b := rng64 (p2 - 0)
        have hbb : b87 = (1 : Int32) := by
          rcases hsp87 with ⟨w1, w2⟩ | ⟨w1, w2⟩
          all_goals first | exact w1 | (exfalso; omega)
        have hbest0 : gr87 0 = (1 : Int32) := by rw [hz87, hbb]
        have hbest1 : gr87 1 = ((1 : Int32) + (2 : Int32)) := by rw [ho87, hbb]
        refine w_astore (pc := 305) X87 C at_305 #[.val (.int x0), .val (.int x1), .val (.int x2), .val (.int x3), .val (.int x4), .val (.int (3 : Int32)), .val (.int (2 : Int32)), .val (.int (if ((ushrI x0 (10 : Int32)) &&& (1 : Int32)) = 0 then (0 : Int32) else (1 : Int32))), .val (.int (if (if ((ushrI x0 (10 : Int32)) &&& (1 : Int32)) = 0 then (0 : Int32) else (1 : Int32)) = 0 then (2147483647 : Int32) else (3 : Int32))), .val (.long v0), .second, .val (.long v1), .second, .val (.long v2), .second, .val (.long v3), .second, .val (.ref a61), .val (.ref a65), .val (.int (2 : Int32)), .val (.int (1 : Int32)), .val (.ref r87)] rfl rfl ?_
        refine w_aload (pc := 307) X87 C at_307 rfl rfl ?_
        refine w_ifnull_no (pc := 309) X87 C at_309 ?_
        refine w_aload (pc := 312) X87 C at_312 rfl rfl ?_
        refine w_arraylength (pc := 314) X87 C at_314 Ar87 ?_
        refine w_iconst (pc := 315) X87 C at_315 (2 : Int32) rfl ?_
        refine w_icmp_ne (pc := 316) X87 C at_316 344 (by decide) (fun q90 => absurd (by decide) q90) (fun q90 => ?_)
        refine w_aload (pc := 319) X87 C at_319 rfl rfl ?_
        refine w_iconst (pc := 321) X87 C at_321 (0 : Int32) rfl ?_
        refine w_iaload (pc := 322) X87 C at_322 Ar87 0 (by decide) (by decide) ?_
        refine w_iload (pc := 323) X87 C at_323 rfl ?_
        refine w_icmp_ne (pc := 325) X87 C at_325 344 (by decide) (fun q91 => absurd (hbest0) q91) (fun q91 => ?_)
        refine w_aload (pc := 328) X87 C at_328 rfl rfl ?_
        refine w_iconst (pc := 330) X87 C at_330 (1 : Int32) rfl ?_
        refine w_iaload (pc := 331) X87 C at_331 Ar87 1 (by decide) (by decide) ?_
        refine w_iload (pc := 332) X87 C at_332 rfl ?_
        refine w_iload (pc := 334) X87 C at_334 rfl ?_
        refine w_iadd (pc := 336) X87 C at_336 ?_
        refine w_icmp_ne (pc := 337) X87 C at_337 344 (by decide) (fun q92 => absurd (hbest1) q92) (fun q92 => ?_)
        refine w_iconst (pc := 340) X87 C at_340 (1 : Int32) rfl ?_
        refine w_goto (pc := 341) X87 C at_341 345 (by decide) ?_
        exact w_ret_boolean (pc := 345) X87 C at_345 rfl
  · rw [ec]
    refine w_istore (pc := 7) X C at_7 #[.val (.int x0), .val (.int x1), .val (.int x2), .val (.int x3), .val (.int x4), .val (.int (4 : Int32)), .unset, .unset, .unset, .unset, .unset, .unset, .unset, .unset, .unset, .unset, .unset, .unset, .unset, .unset, .unset, .unset] rfl ?_
    refine w_iconst (pc := 9) X C at_9 (1 : Int32) rfl ?_
    refine w_iloadN (pc := 10) X C at_10 rfl ?_
    refine w_iconst (pc := 11) X C at_11 (2 : Int32) rfl ?_
    refine w_iushr (pc := 12) X C at_12 ?_
    refine w_sipush (pc := 13) X C at_13 (255 : Int32) rfl ?_
    refine w_iand (pc := 16) X C at_16 ?_
    refine w_iload (pc := 17) X C at_17 rfl ?_
    refine w_iconst (pc := 19) X C at_19 (1 : Int32) rfl ?_
    refine w_isub (pc := 20) X C at_20 ?_
    refine w_irem (pc := 21) X C at_21 (by decide) ?_
    refine w_iadd (pc := 22) X C at_22 ?_
    rcases own_s4 (ushrI x0 (2 : Int32)) with ec | ec | ec
    · rw [ec]
      refine w_istore (pc := 23) X C at_23 #[.val (.int x0), .val (.int x1), .val (.int x2), .val (.int x3), .val (.int x4), .val (.int (4 : Int32)), .val (.int (1 : Int32)), .unset, .unset, .unset, .unset, .unset, .unset, .unset, .unset, .unset, .unset, .unset, .unset, .unset, .unset, .unset] rfl ?_
      refine w_iloadN (pc := 25) X C at_25 rfl ?_
      refine w_bipush (pc := 26) X C at_26 (10 : Int32) rfl ?_
      refine w_iushr (pc := 28) X C at_28 ?_
      refine w_iconst (pc := 29) X C at_29 (1 : Int32) rfl ?_
      refine w_iand (pc := 30) X C at_30 ?_
      suffices key94 : Goes p e below s n0 (fun v _ => v = some (.int 1)) room_1.cells room_1.slots T (mkF m 39 #[.val (.int x0), .val (.int x1), .val (.int x2), .val (.int x3), .val (.int x4), .val (.int (4 : Int32)), .val (.int (1 : Int32)), .unset, .unset, .unset, .unset, .unset, .unset, .unset, .unset, .unset, .unset, .unset, .unset, .unset, .unset, .unset] [(.int (if ((ushrI x0 (10 : Int32)) &&& (1 : Int32)) = 0 then (0 : Int32) else (1 : Int32)))]) by
        refine w_if_eq (pc := 31) X C at_31 38 (by decide) (fun q93 => ?_) (fun q93 => ?_)
        · skip
          refine w_iconst (pc := 38) X C at_38 (0 : Int32) rfl ?_
          rw [if_pos q93] at key94
          exact key94
        · skip
          refine w_iconst (pc := 34) X C at_34 (1 : Int32) rfl ?_
          refine w_goto (pc := 35) X C at_35 39 (by decide) ?_
          rw [if_neg q93] at key94
          exact key94
      refine w_istore (pc := 39) X C at_39 #[.val (.int x0), .val (.int x1), .val (.int x2), .val (.int x3), .val (.int x4), .val (.int (4 : Int32)), .val (.int (1 : Int32)), .val (.int (if ((ushrI x0 (10 : Int32)) &&& (1 : Int32)) = 0 then (0 : Int32) else (1 : Int32))), .unset, .unset, .unset, .unset, .unset, .unset, .unset, .unset, .unset, .unset, .unset, .unset, .unset, .unset] rfl ?_
      refine w_iload (pc := 41) X C at_41 rfl ?_
      suffices key96 : Goes p e below s n0 (fun v _ => v = some (.int 1)) room_1.cells room_1.slots T (mkF m 52 #[.val (.int x0), .val (.int x1), .val (.int x2), .val (.int x3), .val (.int x4), .val (.int (4 : Int32)), .val (.int (1 : Int32)), .val (.int (if ((ushrI x0 (10 : Int32)) &&& (1 : Int32)) = 0 then (0 : Int32) else (1 : Int32))), .unset, .unset, .unset, .unset, .unset, .unset, .unset, .unset, .unset, .unset, .unset, .unset, .unset, .unset] [(.int (if (if ((ushrI x0 (10 : Int32)) &&& (1 : Int32)) = 0 then (0 : Int32) else (1 : Int32)) = 0 then (2147483647 : Int32) else (3 : Int32)))]) by
        refine w_if_eq (pc := 43) X C at_43 50 (by decide) (fun q95 => ?_) (fun q95 => ?_)
        · skip
          refine w_ldcI (pc := 50) X C at_50 (v := (2147483647 : Int32)) (List.mem_of_getElem? (i := 0) rfl) ?_
          rw [if_pos q95] at key96
          exact key96
        · skip
          refine w_iconst (pc := 46) X C at_46 (3 : Int32) rfl ?_
          refine w_goto (pc := 47) X C at_47 52 (by decide) ?_
          rw [if_neg q95] at key96
          exact key96
      refine w_istore (pc := 52) X C at_52 #[.val (.int x0), .val (.int x1), .val (.int x2), .val (.int x3), .val (.int x4), .val (.int (4 : Int32)), .val (.int (1 : Int32)), .val (.int (if ((ushrI x0 (10 : Int32)) &&& (1 : Int32)) = 0 then (0 : Int32) else (1 : Int32))), .val (.int (if (if ((ushrI x0 (10 : Int32)) &&& (1 : Int32)) = 0 then (0 : Int32) else (1 : Int32)) = 0 then (2147483647 : Int32) else (3 : Int32))), .unset, .unset, .unset, .unset, .unset, .unset, .unset, .unset, .unset, .unset, .unset, .unset, .unset] rfl ?_
      refine w_iloadN (pc := 54) X C at_54 rfl ?_
      refine w_iload (pc := 55) X C at_55 rfl ?_
      refine w_iand (pc := 57) X C at_57 ?_
      refine w_i2l (pc := 58) X C at_58 ?_
      obtain ⟨v0, e_v0⟩ : ∃ z, z = ((x1 &&& (if (if ((ushrI x0 (10 : Int32)) &&& (1 : Int32)) = 0 then (0 : Int32) else (1 : Int32)) = 0 then (2147483647 : Int32) else (3 : Int32)))).toInt64 := ⟨_, rfl⟩
      rw [← e_v0]
      have hv0 : 0 ≤ v0.toInt ∧ v0.toInt < 2147483648 := by rw [e_v0]; exact own_v _ _ own_mask
      refine w_lstore (pc := 59) X C at_59 #[.val (.int x0), .val (.int x1), .val (.int x2), .val (.int x3), .val (.int x4), .val (.int (4 : Int32)), .val (.int (1 : Int32)), .val (.int (if ((ushrI x0 (10 : Int32)) &&& (1 : Int32)) = 0 then (0 : Int32) else (1 : Int32))), .val (.int (if (if ((ushrI x0 (10 : Int32)) &&& (1 : Int32)) = 0 then (0 : Int32) else (1 : Int32)) = 0 then (2147483647 : Int32) else (3 : Int32))), .val (.long v0), .second, .unset, .unset, .unset, .unset, .unset, .unset, .unset, .unset, .unset, .unset, .unset] rfl ?_
      refine w_iloadN (pc := 61) X C at_61 rfl ?_
      refine w_iload (pc := 62) X C at_62 rfl ?_
      refine w_iand (pc := 64) X C at_64 ?_
      refine w_i2l (pc := 65) X C at_65 ?_
      obtain ⟨v1, e_v1⟩ : ∃ z, z = ((x2 &&& (if (if ((ushrI x0 (10 : Int32)) &&& (1 : Int32)) = 0 then (0 : Int32) else (1 : Int32)) = 0 then (2147483647 : Int32) else (3 : Int32)))).toInt64 := ⟨_, rfl⟩
      rw [← e_v1]
      have hv1 : 0 ≤ v1.toInt ∧ v1.toInt < 2147483648 := by rw [e_v1]; exact own_v _ _ own_mask
      refine w_lstore (pc := 66) X C at_66 #[.val (.int x0), .val (.int x1), .val (.int x2), .val (.int x3), .val (.int x4), .val (.int (4 : Int32)), .val (.int (1 : Int32)), .val (.int (if ((ushrI x0 (10 : Int32)) &&& (1 : Int32)) = 0 then (0 : Int32) else (1 : Int32))), .val (.int (if (if ((ushrI x0 (10 : Int32)) &&& (1 : Int32)) = 0 then (0 : Int32) else (1 : Int32)) = 0 then (2147483647 : Int32) else (3 : Int32))), .val (.long v0), .second, .val (.long v1), .second, .unset, .unset, .unset, .unset, .unset, .unset, .unset, .unset, .unset] rfl ?_
      refine w_iloadN (pc := 68) X C at_68 rfl ?_
      refine w_iload (pc := 69) X C at_69 rfl ?_
      refine w_iand (pc := 71) X C at_71 ?_
      refine w_i2l (pc := 72) X C at_72 ?_
      obtain ⟨v2, e_v2⟩ : ∃ z, z = ((x3 &&& (if (if ((ushrI x0 (10 : Int32)) &&& (1 : Int32)) = 0 then (0 : Int32) else (1 : Int32)) = 0 then (2147483647 : Int32) else (3 : Int32)))).toInt64 := ⟨_, rfl⟩
      rw [← e_v2]
      have hv2 : 0 ≤ v2.toInt ∧ v2.toInt < 2147483648 := by rw [e_v2]; exact own_v _ _ own_mask
      refine w_lstore (pc := 73) X C at_73 #[.val (.int x0), .val (.int x1), .val (.int x2), .val (.int x3), .val (.int x4), .val (.int (4 : Int32)), .val (.int (1 : Int32)), .val (.int (if ((ushrI x0 (10 : Int32)) &&& (1 : Int32)) = 0 then (0 : Int32) else (1 : Int32))), .val (.int (if (if ((ushrI x0 (10 : Int32)) &&& (1 : Int32)) = 0 then (0 : Int32) else (1 : Int32)) = 0 then (2147483647 : Int32) else (3 : Int32))), .val (.long v0), .second, .val (.long v1), .second, .val (.long v2), .second, .unset, .unset, .unset, .unset, .unset, .unset, .unset] rfl ?_
      refine w_iload (pc := 75) X C at_75 rfl ?_
      refine w_iload (pc := 77) X C at_77 rfl ?_
      refine w_iand (pc := 79) X C at_79 ?_
      refine w_i2l (pc := 80) X C at_80 ?_
      obtain ⟨v3, e_v3⟩ : ∃ z, z = ((x4 &&& (if (if ((ushrI x0 (10 : Int32)) &&& (1 : Int32)) = 0 then (0 : Int32) else (1 : Int32)) = 0 then (2147483647 : Int32) else (3 : Int32)))).toInt64 := ⟨_, rfl⟩
      rw [← e_v3]
      have hv3 : 0 ≤ v3.toInt ∧ v3.toInt < 2147483648 := by rw [e_v3]; exact own_v _ _ own_mask
      refine w_lstore (pc := 81) X C at_81 #[.val (.int x0), .val (.int x1), .val (.int x2), .val (.int x3), .val (.int x4), .val (.int (4 : Int32)), .val (.int (1 : Int32)), .val (.int (if ((ushrI x0 (10 : Int32)) &&& (1 : Int32)) = 0 then (0 : Int32) else (1 : Int32))), .val (.int (if (if ((ushrI x0 (10 : Int32)) &&& (1 : Int32)) = 0 then (0 : Int32) else (1 : Int32)) = 0 then (2147483647 : Int32) else (3 : Int32))), .val (.long v0), .second, .val (.long v1), .second, .val (.long v2), .second, .val (.long v3), .second, .unset, .unset, .unset, .unset, .unset] rfl ?_
      refine w_iload (pc := 83) X C at_83 rfl ?_
      refine w_iconst (pc := 85) X C at_85 (2 : Int32) rfl ?_
      refine w_icmp_ne (pc := 86) X C at_86 107 (by decide) (fun q97 => ?_) (fun q97 => absurd q97 (by decide))
      refine w_iload (pc := 107) X C at_107 rfl ?_
      refine w_iconst (pc := 109) X C at_109 (3 : Int32) rfl ?_
      refine w_icmp_ne (pc := 110) X C at_110 136 (by decide) (fun q98 => ?_) (fun q98 => absurd q98 (by decide))
      refine w_iconst (pc := 136) X C at_136 (4 : Int32) rfl ?_
      refine w_new_long (pc := 137) X C at_137 (List.mem_of_getElem? (i := 1) rfl) 4 rfl 4 (by decide) (by decide) (by decide) (by decide) (fun T99 h99 a99 ha99 hb99 X99 E99 A99 => ?_)
      refine w_dup (pc := 139) X99 C at_139 rfl ?_
      refine w_iconst (pc := 140) X99 C at_140 (0 : Int32) rfl ?_
      refine w_lload (pc := 141) X99 C at_141 rfl ?_
      refine w_lastore (pc := 143) X99 C at_143 A99 0 (by decide) (by decide) hb99 (fun T100 h100 X100 W100 A100 => ?_)
      obtain ⟨g100, hg100⟩ : ∃ z, z = up (fun _ => 0) 0 v0 := ⟨_, rfl⟩
      rw [← hg100] at A100
      refine w_dup (pc := 144) X100 C at_144 rfl ?_
      refine w_iconst (pc := 145) X100 C at_145 (1 : Int32) rfl ?_
      refine w_lload (pc := 146) X100 C at_146 rfl ?_
      refine w_lastore (pc := 148) X100 C at_148 A100 1 (by decide) (by decide) hb99 (fun T101 h101 X101 W101 A101 => ?_)
      obtain ⟨g101, hg101⟩ : ∃ z, z = up g100 1 v1 := ⟨_, rfl⟩
      rw [← hg101] at A101
      refine w_dup (pc := 149) X101 C at_149 rfl ?_
      refine w_iconst (pc := 150) X101 C at_150 (2 : Int32) rfl ?_
      refine w_lload (pc := 151) X101 C at_151 rfl ?_
      refine w_lastore (pc := 153) X101 C at_153 A101 2 (by decide) (by decide) hb99 (fun T102 h102 X102 W102 A102 => ?_)
      obtain ⟨g102, hg102⟩ : ∃ z, z = up g101 2 v2 := ⟨_, rfl⟩
      rw [← hg102] at A102
      refine w_dup (pc := 154) X102 C at_154 rfl ?_
      refine w_iconst (pc := 155) X102 C at_155 (3 : Int32) rfl ?_
      refine w_lload (pc := 156) X102 C at_156 rfl ?_
      refine w_lastore (pc := 158) X102 C at_158 A102 3 (by decide) (by decide) hb99 (fun T103 h103 X103 W103 A103 => ?_)
      obtain ⟨g103, hg103⟩ : ∃ z, z = up g102 3 v3 := ⟨_, rfl⟩
      rw [← hg103] at A103
      refine w_astore (pc := 159) X103 C at_159 #[.val (.int x0), .val (.int x1), .val (.int x2), .val (.int x3), .val (.int x4), .val (.int (4 : Int32)), .val (.int (1 : Int32)), .val (.int (if ((ushrI x0 (10 : Int32)) &&& (1 : Int32)) = 0 then (0 : Int32) else (1 : Int32))), .val (.int (if (if ((ushrI x0 (10 : Int32)) &&& (1 : Int32)) = 0 then (0 : Int32) else (1 : Int32)) = 0 then (2147483647 : Int32) else (3 : Int32))), .val (.long v0), .second, .val (.long v1), .second, .val (.long v2), .second, .val (.long v3), .second, .val (.ref a99), .unset, .unset, .unset, .unset] rfl rfl ?_
      refine w_iconst (pc := 161) X103 C at_161 (5 : Int32) rfl ?_
      refine w_new_long (pc := 162) X103 C at_162 (List.mem_of_getElem? (i := 1) rfl) 5 rfl 5 (by decide) (by decide) (by decide) (by decide) (fun T104 h104 a104 ha104 hb104 X104 E104 A104 => ?_)
      have ne_a99_a104 : a99 ≠ a104 := Nat.ne_of_lt (by rw [ha104]; exact A103.lt)
      have Ak105 := A103.ext E104
      refine w_dup (pc := 164) X104 C at_164 rfl ?_
      refine w_iconst (pc := 165) X104 C at_165 (0 : Int32) rfl ?_
      refine w_lconst (pc := 166) X104 C at_166 (0 : Int64) rfl ?_
      refine w_lastore (pc := 167) X104 C at_167 A104 0 (by decide) (by decide) hb104 (fun T106 h106 X106 W106 A106 => ?_)
      obtain ⟨g106, hg106⟩ : ∃ z, z = up (fun _ => 0) 0 (0 : Int64) := ⟨_, rfl⟩
      rw [← hg106] at A106
      have Ak107 := Ak105.other W106 ne_a99_a104
      refine w_dup (pc := 168) X106 C at_168 rfl ?_
      refine w_iconst (pc := 169) X106 C at_169 (1 : Int32) rfl ?_
      refine w_lload (pc := 170) X106 C at_170 rfl ?_
      refine w_lastore (pc := 172) X106 C at_172 A106 1 (by decide) (by decide) hb104 (fun T108 h108 X108 W108 A108 => ?_)
      obtain ⟨g108, hg108⟩ : ∃ z, z = up g106 1 v0 := ⟨_, rfl⟩
      rw [← hg108] at A108
      have Ak109 := Ak107.other W108 ne_a99_a104
      refine w_dup (pc := 173) X108 C at_173 rfl ?_
      refine w_iconst (pc := 174) X108 C at_174 (2 : Int32) rfl ?_
      refine w_lload (pc := 175) X108 C at_175 rfl ?_
      refine w_lload (pc := 177) X108 C at_177 rfl ?_
      refine w_ladd (pc := 179) X108 C at_179 ?_
      refine w_lastore (pc := 180) X108 C at_180 A108 2 (by decide) (by decide) hb104 (fun T110 h110 X110 W110 A110 => ?_)
      obtain ⟨g110, hg110⟩ : ∃ z, z = up g108 2 (v0 + v1) := ⟨_, rfl⟩
      rw [← hg110] at A110
      have Ak111 := Ak109.other W110 ne_a99_a104
      refine w_dup (pc := 181) X110 C at_181 rfl ?_
      refine w_iconst (pc := 182) X110 C at_182 (3 : Int32) rfl ?_
      refine w_lload (pc := 183) X110 C at_183 rfl ?_
      refine w_lload (pc := 185) X110 C at_185 rfl ?_
      refine w_ladd (pc := 187) X110 C at_187 ?_
      refine w_lload (pc := 188) X110 C at_188 rfl ?_
      refine w_ladd (pc := 190) X110 C at_190 ?_
      refine w_lastore (pc := 191) X110 C at_191 A110 3 (by decide) (by decide) hb104 (fun T112 h112 X112 W112 A112 => ?_)
      obtain ⟨g112, hg112⟩ : ∃ z, z = up g110 3 ((v0 + v1) + v2) := ⟨_, rfl⟩
      rw [← hg112] at A112
      have Ak113 := Ak111.other W112 ne_a99_a104
      refine w_dup (pc := 192) X112 C at_192 rfl ?_
      refine w_iconst (pc := 193) X112 C at_193 (4 : Int32) rfl ?_
      refine w_lload (pc := 194) X112 C at_194 rfl ?_
      refine w_lload (pc := 196) X112 C at_196 rfl ?_
      refine w_ladd (pc := 198) X112 C at_198 ?_
      refine w_lload (pc := 199) X112 C at_199 rfl ?_
      refine w_ladd (pc := 201) X112 C at_201 ?_
      refine w_lload (pc := 202) X112 C at_202 rfl ?_
      refine w_ladd (pc := 204) X112 C at_204 ?_
      refine w_lastore (pc := 205) X112 C at_205 A112 4 (by decide) (by decide) hb104 (fun T114 h114 X114 W114 A114 => ?_)
      obtain ⟨g114, hg114⟩ : ∃ z, z = up g112 4 (((v0 + v1) + v2) + v3) := ⟨_, rfl⟩
      rw [← hg114] at A114
      have Ak115 := Ak113.other W114 ne_a99_a104
      obtain ⟨p2, ep2⟩ : ∃ z, z = (v0 + v1) := ⟨_, rfl⟩
      have tp2 : p2.toInt = v0.toInt + v1.toInt := by
        have a1 := c_ladd v0 v1; have a2 := rng64 (v0 + v1); rw [ep2]; omega
      obtain ⟨p3, ep3⟩ : ∃ z, z = (p2 + v2) := ⟨_, rfl⟩
      have tp3 : p3.toInt = v0.toInt + v1.toInt + v2.toInt := by
        have a1 := c_ladd p2 v2; have a2 := rng64 (p2 + v2); rw [ep3]; omega
      obtain ⟨p4, ep4⟩ : ∃ z, z = (p3 + v3) := ⟨_, rfl⟩
      have tp4 : p4.toInt = v0.toInt + v1.toInt + v2.toInt + v3.toInt := by
        have a1 := c_ladd p3 v3; have a2 := rng64 (p3 + v3); rw [ep4]; omega
      have pp0 : g114 0 = 0 := by simp [hg114, hg112, hg110, hg108, hg106, up]
      have pp1 : g114 1 = v0 := by simp [hg114, hg112, hg110, hg108, hg106, up]
      have pp2 : g114 2 = p2 := by simp [hg114, hg112, hg110, hg108, hg106, up, ep2]
      have pp3 : g114 3 = p3 := by simp [hg114, hg112, hg110, hg108, hg106, up, ep2, ep3]
      have pp4 : g114 4 = p4 := by simp [hg114, hg112, hg110, hg108, hg106, up, ep2, ep3, ep4]
      refine w_astore (pc := 206) X114 C at_206 #[.val (.int x0), .val (.int x1), .val (.int x2), .val (.int x3), .val (.int x4), .val (.int (4 : Int32)), .val (.int (1 : Int32)), .val (.int (if ((ushrI x0 (10 : Int32)) &&& (1 : Int32)) = 0 then (0 : Int32) else (1 : Int32))), .val (.int (if (if ((ushrI x0 (10 : Int32)) &&& (1 : Int32)) = 0 then (0 : Int32) else (1 : Int32)) = 0 then (2147483647 : Int32) else (3 : Int32))), .val (.long v0), .second, .val (.long v1), .second, .val (.long v2), .second, .val (.long v3), .second, .val (.ref a99), .val (.ref a104), .unset, .unset, .unset] rfl rfl ?_
      refine w_iload (pc := 208) X114 C at_208 rfl ?_
      refine w_iload (pc := 210) X114 C at_210 rfl ?_
      refine w_isub (pc := 212) X114 C at_212 ?_
      refine w_iconst (pc := 213) X114 C at_213 (1 : Int32) rfl ?_
      refine w_iadd (pc := 214) X114 C at_214 ?_
      rw [show ((((4 : Int32) - (1 : Int32)) + (1 : Int32)) : Int32) = (4 : Int32) from by decide]
      refine w_istore (pc := 215) X114 C at_215 #[.val (.int x0), .val (.int x1), .val (.int x2), .val (.int x3), .val (.int x4), .val (.int (4 : Int32)), .val (.int (1 : Int32)), .val (.int (if ((ushrI x0 (10 : Int32)) &&& (1 : Int32)) = 0 then (0 : Int32) else (1 : Int32))), .val (.int (if (if ((ushrI x0 (10 : Int32)) &&& (1 : Int32)) = 0 then (0 : Int32) else (1 : Int32)) = 0 then (2147483647 : Int32) else (3 : Int32))), .val (.long v0), .second, .val (.long v1), .second, .val (.long v2), .second, .val (.long v3), .second, .val (.ref a99), .val (.ref a104), .val (.int (4 : Int32)), .unset, .unset] rfl ?_
      refine w_iconst (pc := 217) X114 C at_217 (0 : Int32) rfl ?_
      refine w_istore (pc := 218) X114 C at_218 #[.val (.int x0), .val (.int x1), .val (.int x2), .val (.int x3), .val (.int x4), .val (.int (4 : Int32)), .val (.int (1 : Int32)), .val (.int (if ((ushrI x0 (10 : Int32)) &&& (1 : Int32)) = 0 then (0 : Int32) else (1 : Int32))), .val (.int (if (if ((ushrI x0 (10 : Int32)) &&& (1 : Int32)) = 0 then (0 : Int32) else (1 : Int32)) = 0 then (2147483647 : Int32) else (3 : Int32))), .val (.long v0), .second, .val (.long v1), .second, .val (.long v2), .second, .val (.long v3), .second, .val (.ref a99), .val (.ref a104), .val (.int (4 : Int32)), .val (.int (0 : Int32)), .unset] rfl ?_
      refine w_iload (pc := 220) X114 C at_220 rfl ?_
      refine w_iconst (pc := 222) X114 C at_222 (2 : Int32) rfl ?_
      refine w_icmp_lt (pc := 223) X114 C at_223 259 (by decide) (fun q116 => ?_) (fun q116 => absurd (by decide) q116)
      refine w_iload (pc := 259) X114 C at_259 rfl ?_
      refine w_iconst (pc := 261) X114 C at_261 (3 : Int32) rfl ?_
      refine w_icmp_lt (pc := 262) X114 C at_262 298 (by decide) (fun q117 => ?_) (fun q117 => absurd (by decide) q117)
      refine w_aload (pc := 298) X114 C at_298 rfl rfl ?_
      refine w_iload (pc := 300) X114 C at_300 rfl ?_
      have gg0 : g103 0 = v0 := by simp [hg103, hg102, hg101, hg100, up]
      have gg1 : g103 1 = v1 := by simp [hg103, hg102, hg101, hg100, up]
      have gg2 : g103 2 = v2 := by simp [hg103, hg102, hg101, hg100, up]
      have gg3 : g103 3 = v3 := by simp [hg103, hg102, hg101, hg100, up]
      refine w_callS (pc := 302) X114 C (y := (⟨"termwright/index/MergePolicy", "cheapest", "([JI)[I"⟩ : MethodName)) (bytes := prog_68_method_5_code) (maxL := 9) (rt := (some (.array .int))) (argsL := [(.ref a99), (.int (1 : Int32))]) (rest := []) (W := 0) at_302 (List.mem_of_getElem? (i := 2) rfl) (List.mem_of_getElem? (i := 3) rfl) (List.mem_of_getElem? (i := 4) rfl) (List.mem_of_getElem? (i := 5) rfl) (by decide) (ct1_4_1 l C.2.2.2.2.2.2.2.2 _ X114.size (a99) g103 v0 v1 v2 v3 Ak115 gg0 gg1 gg2 gg3 hv0 hv1 hv2 hv3) rfl ⟨_, _, pd_0, rfl⟩ rfl (Nat.le_of_eq rfl) (by decide) (by decide) (by decide) (by decide) (fun v_118 T118 P118 X118 => ?_)
      obtain ⟨r118, b118, gr118, rfl, hr118, Ar118, hz118, ho118, hsp118⟩ := P118
      have z0 : (0 : Int64).toInt = 0 := rfl
      have hbb : b118 = (0 : Int32) := by
        exact hsp118
      have hbest0 : gr118 0 = (0 : Int32) := by rw [hz118, hbb]
      have hbest1 : gr118 1 = ((0 : Int32) + (4 : Int32)) := by rw [ho118, hbb]
      refine w_astore (pc := 305) X118 C at_305 #[.val (.int x0), .val (.int x1), .val (.int x2), .val (.int x3), .val (.int x4), .val (.int (4 : Int32)), .val (.int (1 : Int32)), .val (.int (if ((ushrI x0 (10 : Int32)) &&& (1 : Int32)) = 0 then (0 : Int32) else (1 : Int32))), .val (.int (if (if ((ushrI x0 (10 : Int32)) &&& (1 : Int32)) = 0 then (0 : Int32) else (1 : Int32)) = 0 then (2147483647 : Int32) else (3 : Int32))), .val (.long v0), .second, .val (.long v1), .second, .val (.long v2), .second, .val (.long v3), .second, .val (.ref a99), .val (.ref a104), .val (.int (4 : Int32)), .val (.int (0 : Int32)), .val (.ref r118)] rfl rfl ?_
      refine w_aload (pc := 307) X118 C at_307 rfl rfl ?_
      refine w_ifnull_no (pc := 309) X118 C at_309 ?_
      refine w_aload (pc := 312) X118 C at_312 rfl rfl ?_
      refine w_arraylength (pc := 314) X118 C at_314 Ar118 ?_
      refine w_iconst (pc := 315) X118 C at_315 (2 : Int32) rfl ?_
      refine w_icmp_ne (pc := 316) X118 C at_316 344 (by decide) (fun q119 => absurd (by decide) q119) (fun q119 => ?_)
      refine w_aload (pc := 319) X118 C at_319 rfl rfl ?_
      refine w_iconst (pc := 321) X118 C at_321 (0 : Int32) rfl ?_
      refine w_iaload (pc := 322) X118 C at_322 Ar118 0 (by decide) (by decide) ?_
      refine w_iload (pc := 323) X118 C at_323 rfl ?_
      refine w_icmp_ne (pc := 325) X118 C at_325 344 (by decide) (fun q120 => absurd (hbest0) q120) (fun q120 => ?_)
      refine w_aload (pc := 328) X118 C at_328 rfl rfl ?_
      refine w_iconst (pc := 330) X118 C at_330 (1 : Int32) rfl ?_
      refine w_iaload (pc := 331) X118 C at_331 Ar118 1 (by decide) (by decide) ?_
      refine w_iload (pc := 332) X118 C at_332 rfl ?_
      refine w_iload (pc := 334) X118 C at_334 rfl ?_
      refine w_iadd (pc := 336) X118 C at_336 ?_
      refine w_icmp_ne (pc := 337) X118 C at_337 344 (by decide) (fun q121 => absurd (hbest1) q121) (fun q121 => ?_)
      refine w_iconst (pc := 340) X118 C at_340 (1 : Int32) rfl ?_
      refine w_goto (pc := 341) X118 C at_341 345 (by decide) ?_
      exact w_ret_boolean (pc := 345) X118 C at_345 rfl
    · rw [ec]
      refine w_istore (pc := 23) X C at_23 #[.val (.int x0), .val (.int x1), .val (.int x2), .val (.int x3), .val (.int x4), .val (.int (4 : Int32)), .val (.int (2 : Int32)), .unset, .unset, .unset, .unset, .unset, .unset, .unset, .unset, .unset, .unset, .unset, .unset, .unset, .unset, .unset] rfl ?_
      refine w_iloadN (pc := 25) X C at_25 rfl ?_
      refine w_bipush (pc := 26) X C at_26 (10 : Int32) rfl ?_
      refine w_iushr (pc := 28) X C at_28 ?_
      refine w_iconst (pc := 29) X C at_29 (1 : Int32) rfl ?_
      refine w_iand (pc := 30) X C at_30 ?_
      suffices key123 : Goes p e below s n0 (fun v _ => v = some (.int 1)) room_1.cells room_1.slots T (mkF m 39 #[.val (.int x0), .val (.int x1), .val (.int x2), .val (.int x3), .val (.int x4), .val (.int (4 : Int32)), .val (.int (2 : Int32)), .unset, .unset, .unset, .unset, .unset, .unset, .unset, .unset, .unset, .unset, .unset, .unset, .unset, .unset, .unset] [(.int (if ((ushrI x0 (10 : Int32)) &&& (1 : Int32)) = 0 then (0 : Int32) else (1 : Int32)))]) by
        refine w_if_eq (pc := 31) X C at_31 38 (by decide) (fun q122 => ?_) (fun q122 => ?_)
        · skip
          refine w_iconst (pc := 38) X C at_38 (0 : Int32) rfl ?_
          rw [if_pos q122] at key123
          exact key123
        · skip
          refine w_iconst (pc := 34) X C at_34 (1 : Int32) rfl ?_
          refine w_goto (pc := 35) X C at_35 39 (by decide) ?_
          rw [if_neg q122] at key123
          exact key123
      refine w_istore (pc := 39) X C at_39 #[.val (.int x0), .val (.int x1), .val (.int x2), .val (.int x3), .val (.int x4), .val (.int (4 : Int32)), .val (.int (2 : Int32)), .val (.int (if ((ushrI x0 (10 : Int32)) &&& (1 : Int32)) = 0 then (0 : Int32) else (1 : Int32))), .unset, .unset, .unset, .unset, .unset, .unset, .unset, .unset, .unset, .unset, .unset, .unset, .unset, .unset] rfl ?_
      refine w_iload (pc := 41) X C at_41 rfl ?_
      suffices key125 : Goes p e below s n0 (fun v _ => v = some (.int 1)) room_1.cells room_1.slots T (mkF m 52 #[.val (.int x0), .val (.int x1), .val (.int x2), .val (.int x3), .val (.int x4), .val (.int (4 : Int32)), .val (.int (2 : Int32)), .val (.int (if ((ushrI x0 (10 : Int32)) &&& (1 : Int32)) = 0 then (0 : Int32) else (1 : Int32))), .unset, .unset, .unset, .unset, .unset, .unset, .unset, .unset, .unset, .unset, .unset, .unset, .unset, .unset] [(.int (if (if ((ushrI x0 (10 : Int32)) &&& (1 : Int32)) = 0 then (0 : Int32) else (1 : Int32)) = 0 then (2147483647 : Int32) else (3 : Int32)))]) by
        refine w_if_eq (pc := 43) X C at_43 50 (by decide) (fun q124 => ?_) (fun q124 => ?_)
        · skip
          refine w_ldcI (pc := 50) X C at_50 (v := (2147483647 : Int32)) (List.mem_of_getElem? (i := 0) rfl) ?_
          rw [if_pos q124] at key125
          exact key125
        · skip
          refine w_iconst (pc := 46) X C at_46 (3 : Int32) rfl ?_
          refine w_goto (pc := 47) X C at_47 52 (by decide) ?_
          rw [if_neg q124] at key125
          exact key125
      refine w_istore (pc := 52) X C at_52 #[.val (.int x0), .val (.int x1), .val (.int x2), .val (.int x3), .val (.int x4), .val (.int (4 : Int32)), .val (.int (2 : Int32)), .val (.int (if ((ushrI x0 (10 : Int32)) &&& (1 : Int32)) = 0 then (0 : Int32) else (1 : Int32))), .val (.int (if (if ((ushrI x0 (10 : Int32)) &&& (1 : Int32)) = 0 then (0 : Int32) else (1 : Int32)) = 0 then (2147483647 : Int32) else (3 : Int32))), .unset, .unset, .unset, .unset, .unset, .unset, .unset, .unset, .unset, .unset, .unset, .unset, .unset] rfl ?_
      refine w_iloadN (pc := 54) X C at_54 rfl ?_
      refine w_iload (pc := 55) X C at_55 rfl ?_
      refine w_iand (pc := 57) X C at_57 ?_
      refine w_i2l (pc := 58) X C at_58 ?_
      obtain ⟨v0, e_v0⟩ : ∃ z, z = ((x1 &&& (if (if ((ushrI x0 (10 : Int32)) &&& (1 : Int32)) = 0 then (0 : Int32) else (1 : Int32)) = 0 then (2147483647 : Int32) else (3 : Int32)))).toInt64 := ⟨_, rfl⟩
      rw [← e_v0]
      have hv0 : 0 ≤ v0.toInt ∧ v0.toInt < 2147483648 := by rw [e_v0]; exact own_v _ _ own_mask
      refine w_lstore (pc := 59) X C at_59 #[.val (.int x0), .val (.int x1), .val (.int x2), .val (.int x3), .val (.int x4), .val (.int (4 : Int32)), .val (.int (2 : Int32)), .val (.int (if ((ushrI x0 (10 : Int32)) &&& (1 : Int32)) = 0 then (0 : Int32) else (1 : Int32))), .val (.int (if (if ((ushrI x0 (10 : Int32)) &&& (1 : Int32)) = 0 then (0 : Int32) else (1 : Int32)) = 0 then (2147483647 : Int32) else (3 : Int32))), .val (.long v0), .second, .unset, .unset, .unset, .unset, .unset, .unset, .unset, .unset, .unset, .unset, .unset] rfl ?_
      refine w_iloadN (pc := 61) X C at_61 rfl ?_
      refine w_iload (pc := 62) X C at_62 rfl ?_
      refine w_iand (pc := 64) X C at_64 ?_
      refine w_i2l (pc := 65) X C at_65 ?_
      obtain ⟨v1, e_v1⟩ : ∃ z, z = ((x2 &&& (if (if ((ushrI x0 (10 : Int32)) &&& (1 : Int32)) = 0 then (0 : Int32) else (1 : Int32)) = 0 then (2147483647 : Int32) else (3 : Int32)))).toInt64 := ⟨_, rfl⟩
      rw [← e_v1]
      have hv1 : 0 ≤ v1.toInt ∧ v1.toInt < 2147483648 := by rw [e_v1]; exact own_v _ _ own_mask
      refine w_lstore (pc := 66) X C at_66 #[.val (.int x0), .val (.int x1), .val (.int x2), .val (.int x3), .val (.int x4), .val (.int (4 : Int32)), .val (.int (2 : Int32)), .val (.int (if ((ushrI x0 (10 : Int32)) &&& (1 : Int32)) = 0 then (0 : Int32) else (1 : Int32))), .val (.int (if (if ((ushrI x0 (10 : Int32)) &&& (1 : Int32)) = 0 then (0 : Int32) else (1 : Int32)) = 0 then (2147483647 : Int32) else (3 : Int32))), .val (.long v0), .second, .val (.long v1), .second, .unset, .unset, .unset, .unset, .unset, .unset, .unset, .unset, .unset] rfl ?_
      refine w_iloadN (pc := 68) X C at_68 rfl ?_
      refine w_iload (pc := 69) X C at_69 rfl ?_
      refine w_iand (pc := 71) X C at_71 ?_
      refine w_i2l (pc := 72) X C at_72 ?_
      obtain ⟨v2, e_v2⟩ : ∃ z, z = ((x3 &&& (if (if ((ushrI x0 (10 : Int32)) &&& (1 : Int32)) = 0 then (0 : Int32) else (1 : Int32)) = 0 then (2147483647 : Int32) else (3 : Int32)))).toInt64 := ⟨_, rfl⟩
      rw [← e_v2]
      have hv2 : 0 ≤ v2.toInt ∧ v2.toInt < 2147483648 := by rw [e_v2]; exact own_v _ _ own_mask
      refine w_lstore (pc := 73) X C at_73 #[.val (.int x0), .val (.int x1), .val (.int x2), .val (.int x3), .val (.int x4), .val (.int (4 : Int32)), .val (.int (2 : Int32)), .val (.int (if ((ushrI x0 (10 : Int32)) &&& (1 : Int32)) = 0 then (0 : Int32) else (1 : Int32))), .val (.int (if (if ((ushrI x0 (10 : Int32)) &&& (1 : Int32)) = 0 then (0 : Int32) else (1 : Int32)) = 0 then (2147483647 : Int32) else (3 : Int32))), .val (.long v0), .second, .val (.long v1), .second, .val (.long v2), .second, .unset, .unset, .unset, .unset, .unset, .unset, .unset] rfl ?_
      refine w_iload (pc := 75) X C at_75 rfl ?_
      refine w_iload (pc := 77) X C at_77 rfl ?_
      refine w_iand (pc := 79) X C at_79 ?_
      refine w_i2l (pc := 80) X C at_80 ?_
      obtain ⟨v3, e_v3⟩ : ∃ z, z = ((x4 &&& (if (if ((ushrI x0 (10 : Int32)) &&& (1 : Int32)) = 0 then (0 : Int32) else (1 : Int32)) = 0 then (2147483647 : Int32) else (3 : Int32)))).toInt64 := ⟨_, rfl⟩
      rw [← e_v3]
      have hv3 : 0 ≤ v3.toInt ∧ v3.toInt < 2147483648 := by rw [e_v3]; exact own_v _ _ own_mask
      refine w_lstore (pc := 81) X C at_81 #[.val (.int x0), .val (.int x1), .val (.int x2), .val (.int x3), .val (.int x4), .val (.int (4 : Int32)), .val (.int (2 : Int32)), .val (.int (if ((ushrI x0 (10 : Int32)) &&& (1 : Int32)) = 0 then (0 : Int32) else (1 : Int32))), .val (.int (if (if ((ushrI x0 (10 : Int32)) &&& (1 : Int32)) = 0 then (0 : Int32) else (1 : Int32)) = 0 then (2147483647 : Int32) else (3 : Int32))), .val (.long v0), .second, .val (.long v1), .second, .val (.long v2), .second, .val (.long v3), .second, .unset, .unset, .unset, .unset, .unset] rfl ?_
      refine w_iload (pc := 83) X C at_83 rfl ?_
      refine w_iconst (pc := 85) X C at_85 (2 : Int32) rfl ?_
      refine w_icmp_ne (pc := 86) X C at_86 107 (by decide) (fun q126 => ?_) (fun q126 => absurd q126 (by decide))
      refine w_iload (pc := 107) X C at_107 rfl ?_
      refine w_iconst (pc := 109) X C at_109 (3 : Int32) rfl ?_
      refine w_icmp_ne (pc := 110) X C at_110 136 (by decide) (fun q127 => ?_) (fun q127 => absurd q127 (by decide))
      refine w_iconst (pc := 136) X C at_136 (4 : Int32) rfl ?_
      refine w_new_long (pc := 137) X C at_137 (List.mem_of_getElem? (i := 1) rfl) 4 rfl 4 (by decide) (by decide) (by decide) (by decide) (fun T128 h128 a128 ha128 hb128 X128 E128 A128 => ?_)
      refine w_dup (pc := 139) X128 C at_139 rfl ?_
      refine w_iconst (pc := 140) X128 C at_140 (0 : Int32) rfl ?_
      refine w_lload (pc := 141) X128 C at_141 rfl ?_
      refine w_lastore (pc := 143) X128 C at_143 A128 0 (by decide) (by decide) hb128 (fun T129 h129 X129 W129 A129 => ?_)
      obtain ⟨g129, hg129⟩ : ∃ z, z = up (fun _ => 0) 0 v0 := ⟨_, rfl⟩
      rw [← hg129] at A129
      refine w_dup (pc := 144) X129 C at_144 rfl ?_
      refine w_iconst (pc := 145) X129 C at_145 (1 : Int32) rfl ?_
      refine w_lload (pc := 146) X129 C at_146 rfl ?_
      refine w_lastore (pc := 148) X129 C at_148 A129 1 (by decide) (by decide) hb128 (fun T130 h130 X130 W130 A130 => ?_)
      obtain ⟨g130, hg130⟩ : ∃ z, z = up g129 1 v1 := ⟨_, rfl⟩
      rw [← hg130] at A130
      refine w_dup (pc := 149) X130 C at_149 rfl ?_
      refine w_iconst (pc := 150) X130 C at_150 (2 : Int32) rfl ?_
      refine w_lload (pc := 151) X130 C at_151 rfl ?_
      refine w_lastore (pc := 153) X130 C at_153 A130 2 (by decide) (by decide) hb128 (fun T131 h131 X131 W131 A131 => ?_)
      obtain ⟨g131, hg131⟩ : ∃ z, z = up g130 2 v2 := ⟨_, rfl⟩
      rw [← hg131] at A131
      refine w_dup (pc := 154) X131 C at_154 rfl ?_
      refine w_iconst (pc := 155) X131 C at_155 (3 : Int32) rfl ?_
      refine w_lload (pc := 156) X131 C at_156 rfl ?_
      refine w_lastore (pc := 158) X131 C at_158 A131 3 (by decide) (by decide) hb128 (fun T132 h132 X132 W132 A132 => ?_)
      obtain ⟨g132, hg132⟩ : ∃ z, z = up g131 3 v3 := ⟨_, rfl⟩
      rw [← hg132] at A132
      refine w_astore (pc := 159) X132 C at_159 #[.val (.int x0), .val (.int x1), .val (.int x2), .val (.int x3), .val (.int x4), .val (.int (4 : Int32)), .val (.int (2 : Int32)), .val (.int (if ((ushrI x0 (10 : Int32)) &&& (1 : Int32)) = 0 then (0 : Int32) else (1 : Int32))), .val (.int (if (if ((ushrI x0 (10 : Int32)) &&& (1 : Int32)) = 0 then (0 : Int32) else (1 : Int32)) = 0 then (2147483647 : Int32) else (3 : Int32))), .val (.long v0), .second, .val (.long v1), .second, .val (.long v2), .second, .val (.long v3), .second, .val (.ref a128), .unset, .unset, .unset, .unset] rfl rfl ?_
      refine w_iconst (pc := 161) X132 C at_161 (5 : Int32) rfl ?_
      refine w_new_long (pc := 162) X132 C at_162 (List.mem_of_getElem? (i := 1) rfl) 5 rfl 5 (by decide) (by decide) (by decide) (by decide) (fun T133 h133 a133 ha133 hb133 X133 E133 A133 => ?_)
      have ne_a128_a133 : a128 ≠ a133 := Nat.ne_of_lt (by rw [ha133]; exact A132.lt)
      have Ak134 := A132.ext E133
      refine w_dup (pc := 164) X133 C at_164 rfl ?_
      refine w_iconst (pc := 165) X133 C at_165 (0 : Int32) rfl ?_
      refine w_lconst (pc := 166) X133 C at_166 (0 : Int64) rfl ?_
      refine w_lastore (pc := 167) X133 C at_167 A133 0 (by decide) (by decide) hb133 (fun T135 h135 X135 W135 A135 => ?_)
      obtain ⟨g135, hg135⟩ : ∃ z, z = up (fun _ => 0) 0 (0 : Int64) := ⟨_, rfl⟩
      rw [← hg135] at A135
      have Ak136 := Ak134.other W135 ne_a128_a133
      refine w_dup (pc := 168) X135 C at_168 rfl ?_
      refine w_iconst (pc := 169) X135 C at_169 (1 : Int32) rfl ?_
      refine w_lload (pc := 170) X135 C at_170 rfl ?_
      refine w_lastore (pc := 172) X135 C at_172 A135 1 (by decide) (by decide) hb133 (fun T137 h137 X137 W137 A137 => ?_)
      obtain ⟨g137, hg137⟩ : ∃ z, z = up g135 1 v0 := ⟨_, rfl⟩
      rw [← hg137] at A137
      have Ak138 := Ak136.other W137 ne_a128_a133
      refine w_dup (pc := 173) X137 C at_173 rfl ?_
      refine w_iconst (pc := 174) X137 C at_174 (2 : Int32) rfl ?_
      refine w_lload (pc := 175) X137 C at_175 rfl ?_
      refine w_lload (pc := 177) X137 C at_177 rfl ?_
      refine w_ladd (pc := 179) X137 C at_179 ?_
      refine w_lastore (pc := 180) X137 C at_180 A137 2 (by decide) (by decide) hb133 (fun T139 h139 X139 W139 A139 => ?_)
      obtain ⟨g139, hg139⟩ : ∃ z, z = up g137 2 (v0 + v1) := ⟨_, rfl⟩
      rw [← hg139] at A139
      have Ak140 := Ak138.other W139 ne_a128_a133
      refine w_dup (pc := 181) X139 C at_181 rfl ?_
      refine w_iconst (pc := 182) X139 C at_182 (3 : Int32) rfl ?_
      refine w_lload (pc := 183) X139 C at_183 rfl ?_
      refine w_lload (pc := 185) X139 C at_185 rfl ?_
      refine w_ladd (pc := 187) X139 C at_187 ?_
      refine w_lload (pc := 188) X139 C at_188 rfl ?_
      refine w_ladd (pc := 190) X139 C at_190 ?_
      refine w_lastore (pc := 191) X139 C at_191 A139 3 (by decide) (by decide) hb133 (fun T141 h141 X141 W141 A141 => ?_)
      obtain ⟨g141, hg141⟩ : ∃ z, z = up g139 3 ((v0 + v1) + v2) := ⟨_, rfl⟩
      rw [← hg141] at A141
      have Ak142 := Ak140.other W141 ne_a128_a133
      refine w_dup (pc := 192) X141 C at_192 rfl ?_
      refine w_iconst (pc := 193) X141 C at_193 (4 : Int32) rfl ?_
      refine w_lload (pc := 194) X141 C at_194 rfl ?_
      refine w_lload (pc := 196) X141 C at_196 rfl ?_
      refine w_ladd (pc := 198) X141 C at_198 ?_
      refine w_lload (pc := 199) X141 C at_199 rfl ?_
      refine w_ladd (pc := 201) X141 C at_201 ?_
      refine w_lload (pc := 202) X141 C at_202 rfl ?_
      refine w_ladd (pc := 204) X141 C at_204 ?_
      refine w_lastore (pc := 205) X141 C at_205 A141 4 (by decide) (by decide) hb133 (fun T143 h143 X143 W143 A143 => ?_)
      obtain ⟨g143, hg143⟩ : ∃ z, z = up g141 4 (((v0 + v1) + v2) + v3) := ⟨_, rfl⟩
      rw [← hg143] at A143
      have Ak144 := Ak142.other W143 ne_a128_a133
      obtain ⟨p2, ep2⟩ : ∃ z, z = (v0 + v1) := ⟨_, rfl⟩
      have tp2 : p2.toInt = v0.toInt + v1.toInt := by
        have a1 := c_ladd v0 v1; have a2 := rng64 (v0 + v1); rw [ep2]; omega
      obtain ⟨p3, ep3⟩ : ∃ z, z = (p2 + v2) := ⟨_, rfl⟩
      have tp3 : p3.toInt = v0.toInt + v1.toInt + v2.toInt := by
        have a1 := c_ladd p2 v2; have a2 := rng64 (p2 + v2); rw [ep3]; omega
      obtain ⟨p4, ep4⟩ : ∃ z, z = (p3 + v3) := ⟨_, rfl⟩
      have tp4 : p4.toInt = v0.toInt + v1.toInt + v2.toInt + v3.toInt := by
        have a1 := c_ladd p3 v3; have a2 := rng64 (p3 + v3); rw [ep4]; omega
      have pp0 : g143 0 = 0 := by simp [hg143, hg141, hg139, hg137, hg135, up]
      have pp1 : g143 1 = v0 := by simp [hg143, hg141, hg139, hg137, hg135, up]
      have pp2 : g143 2 = p2 := by simp [hg143, hg141, hg139, hg137, hg135, up, ep2]
      have pp3 : g143 3 = p3 := by simp [hg143, hg141, hg139, hg137, hg135, up, ep2, ep3]
      have pp4 : g143 4 = p4 := by simp [hg143, hg141, hg139, hg137, hg135, up, ep2, ep3, ep4]
      refine w_astore (pc := 206) X143 C at_206 #[.val (.int x0), .val (.int x1), .val (.int x2), .val (.int x3), .val (.int x4), .val (.int (4 : Int32)), .val (.int (2 : Int32)), .val (.int (if ((ushrI x0 (10 : Int32)) &&& (1 : Int32)) = 0 then (0 : Int32) else (1 : Int32))), .val (.int (if (if ((ushrI x0 (10 : Int32)) &&& (1 : Int32)) = 0 then (0 : Int32) else (1 : Int32)) = 0 then (2147483647 : Int32) else (3 : Int32))), .val (.long v0), .second, .val (.long v1), .second, .val (.long v2), .second, .val (.long v3), .second, .val (.ref a128), .val (.ref a133), .unset, .unset, .unset] rfl rfl ?_
      refine w_iload (pc := 208) X143 C at_208 rfl ?_
      refine w_iload (pc := 210) X143 C at_210 rfl ?_
      refine w_isub (pc := 212) X143 C at_212 ?_
      refine w_iconst (pc := 213) X143 C at_213 (1 : Int32) rfl ?_
      refine w_iadd (pc := 214) X143 C at_214 ?_
      rw [show ((((4 : Int32) - (2 : Int32)) + (1 : Int32)) : Int32) = (3 : Int32) from by decide]
      refine w_istore (pc := 215) X143 C at_215 #[.val (.int x0), .val (.int x1), .val (.int x2), .val (.int x3), .val (.int x4), .val (.int (4 : Int32)), .val (.int (2 : Int32)), .val (.int (if ((ushrI x0 (10 : Int32)) &&& (1 : Int32)) = 0 then (0 : Int32) else (1 : Int32))), .val (.int (if (if ((ushrI x0 (10 : Int32)) &&& (1 : Int32)) = 0 then (0 : Int32) else (1 : Int32)) = 0 then (2147483647 : Int32) else (3 : Int32))), .val (.long v0), .second, .val (.long v1), .second, .val (.long v2), .second, .val (.long v3), .second, .val (.ref a128), .val (.ref a133), .val (.int (3 : Int32)), .unset, .unset] rfl ?_
      refine w_iconst (pc := 217) X143 C at_217 (0 : Int32) rfl ?_
      refine w_istore (pc := 218) X143 C at_218 #[.val (.int x0), .val (.int x1), .val (.int x2), .val (.int x3), .val (.int x4), .val (.int (4 : Int32)), .val (.int (2 : Int32)), .val (.int (if ((ushrI x0 (10 : Int32)) &&& (1 : Int32)) = 0 then (0 : Int32) else (1 : Int32))), .val (.int (if (if ((ushrI x0 (10 : Int32)) &&& (1 : Int32)) = 0 then (0 : Int32) else (1 : Int32)) = 0 then (2147483647 : Int32) else (3 : Int32))), .val (.long v0), .second, .val (.long v1), .second, .val (.long v2), .second, .val (.long v3), .second, .val (.ref a128), .val (.ref a133), .val (.int (3 : Int32)), .val (.int (0 : Int32)), .unset] rfl ?_
      refine w_iload (pc := 220) X143 C at_220 rfl ?_
      refine w_iconst (pc := 222) X143 C at_222 (2 : Int32) rfl ?_
      refine w_icmp_lt (pc := 223) X143 C at_223 259 (by decide) (fun q145 => absurd q145 (by decide)) (fun q145 => ?_)
      refine w_aload (pc := 226) X143 C at_226 rfl rfl ?_
      refine w_iconst (pc := 228) X143 C at_228 (1 : Int32) rfl ?_
      refine w_iload (pc := 229) X143 C at_229 rfl ?_
      refine w_iadd (pc := 231) X143 C at_231 ?_
      refine w_laload (pc := 232) X143 C at_232 A143 4 (by decide) (by decide) ?_
      rw [pp4]
      refine w_aload (pc := 233) X143 C at_233 rfl rfl ?_
      refine w_iconst (pc := 235) X143 C at_235 (1 : Int32) rfl ?_
      refine w_laload (pc := 236) X143 C at_236 A143 1 (by decide) (by decide) ?_
      rw [pp1]
      refine w_lsub (pc := 237) X143 C at_237 ?_
      refine w_aload (pc := 238) X143 C at_238 rfl rfl ?_
      refine w_iload (pc := 240) X143 C at_240 rfl ?_
      refine w_iload (pc := 242) X143 C at_242 rfl ?_
      refine w_iadd (pc := 244) X143 C at_244 ?_
      refine w_laload (pc := 245) X143 C at_245 A143 3 (by decide) (by decide) ?_
      rw [pp3]
      refine w_aload (pc := 246) X143 C at_246 rfl rfl ?_
      refine w_iload (pc := 248) X143 C at_248 rfl ?_
      refine w_laload (pc := 250) X143 C at_250 A143 0 (by decide) (by decide) ?_
      rw [pp0]
      refine w_lsub (pc := 251) X143 C at_251 ?_
      refine w_lcmp (pc := 252) X143 C at_252 ?_
      refine w_ifJ_ge (pc := 253) X143 C at_253 259 (by decide) (fun q146 => ?_) (fun q146 => ?_)
      · -- yes
        refine w_iload (pc := 259) X143 C at_259 rfl ?_
        refine w_iconst (pc := 261) X143 C at_261 (3 : Int32) rfl ?_
        refine w_icmp_lt (pc := 262) X143 C at_262 298 (by decide) (fun q147 => ?_) (fun q147 => absurd (by decide) q147)
        refine w_aload (pc := 298) X143 C at_298 rfl rfl ?_
        refine w_iload (pc := 300) X143 C at_300 rfl ?_
        have gg0 : g132 0 = v0 := by simp [hg132, hg131, hg130, hg129, up]
        have gg1 : g132 1 = v1 := by simp [hg132, hg131, hg130, hg129, up]
        have gg2 : g132 2 = v2 := by simp [hg132, hg131, hg130, hg129, up]
        have gg3 : g132 3 = v3 := by simp [hg132, hg131, hg130, hg129, up]
        refine w_callS (pc := 302) X143 C (y := (⟨"termwright/index/MergePolicy", "cheapest", "([JI)[I"⟩ : MethodName)) (bytes := prog_68_method_5_code) (maxL := 9) (rt := (some (.array .int))) (argsL := [(.ref a128), (.int (2 : Int32))]) (rest := []) (W := 0) at_302 (List.mem_of_getElem? (i := 2) rfl) (List.mem_of_getElem? (i := 3) rfl) (List.mem_of_getElem? (i := 4) rfl) (List.mem_of_getElem? (i := 5) rfl) (by decide) (ct1_4_2 l C.2.2.2.2.2.2.2.2 _ X143.size (a128) g132 v0 v1 v2 v3 Ak144 gg0 gg1 gg2 gg3 hv0 hv1 hv2 hv3) rfl ⟨_, _, pd_0, rfl⟩ rfl (Nat.le_of_eq rfl) (by decide) (by decide) (by decide) (by decide) (fun v_148 T148 P148 X148 => ?_)
        obtain ⟨r148, b148, gr148, rfl, hr148, Ar148, hz148, ho148, hsp148⟩ := P148
        have z0 : (0 : Int64).toInt = 0 := rfl
        have lq146 := Int64.le_iff_toInt_le.mp (Int64.not_lt.mp q146)
        have u149a := c_lsub p4 v0
        have u149b := rng64 (p4 - v0)
        have u150a := c_lsub p3 0
        have u150b := rng64 (p3 - 0)
        have hbb : b148 = (0 : Int32) := by
          rcases hsp148 with ⟨w1, w2⟩ | ⟨w1, w2⟩
          all_goals first | exact w1 | (exfalso; omega)
        have hbest0 : gr148 0 = (0 : Int32) := by rw [hz148, hbb]
        have hbest1 : gr148 1 = ((0 : Int32) + (3 : Int32)) := by rw [ho148, hbb]
        refine w_astore (pc := 305) X148 C at_305 #[.val (.int x0), .val (.int x1), .val (.int x2), .val (.int x3), .val (.int x4), .val (.int (4 : Int32)), .val (.int (2 : Int32)), .val (.int (if ((ushrI x0 (10 : Int32)) &&& (1 : Int32)) = 0 then (0 : Int32) else (1 : Int32))), .val (.int (if (if ((ushrI x0 (10 : Int32)) &&& (1 : Int32)) = 0 then (0 : Int32) else (1 : Int32)) = 0 then (2147483647 : Int32) else (3 : Int32))), .val (.long v0), .second, .val (.long v1), .second, .val (.long v2), .second, .val (.long v3), .second, .val (.ref a128), .val (.ref a133), .val (.int (3 : Int32)), .val (.int (0 : Int32)), .val (.ref r148)] rfl rfl ?_
        refine w_aload (pc := 307) X148 C at_307 rfl rfl ?_
        refine w_ifnull_no (pc := 309) X148 C at_309 ?_
        refine w_aload (pc := 312) X148 C at_312 rfl rfl ?_
        refine w_arraylength (pc := 314) X148 C at_314 Ar148 ?_
        refine w_iconst (pc := 315) X148 C at_315 (2 : Int32) rfl ?_
        refine w_icmp_ne (pc := 316) X148 C at_316 344 (by decide) (fun q151 => absurd (by decide) q151) (fun q151 => ?_)
        refine w_aload (pc := 319) X148 C at_319 rfl rfl ?_
        refine w_iconst (pc := 321) X148 C at_321 (0 : Int32) rfl ?_
        refine w_iaload (pc := 322) X148 C at_322 Ar148 0 (by decide) (by decide) ?_
        refine w_iload (pc := 323) X148 C at_323 rfl ?_
        refine w_icmp_ne (pc := 325) X148 C at_325 344 (by decide) (fun q152 => absurd (hbest0) q152) (fun q152 => ?_)
        refine w_aload (pc := 328) X148 C at_328 rfl rfl ?_
        refine w_iconst (pc := 330) X148 C at_330 (1 : Int32) rfl ?_
        refine w_iaload (pc := 331) X148 C at_331 Ar148 1 (by decide) (by decide) ?_
        refine w_iload (pc := 332) X148 C at_332 rfl ?_
        refine w_iload (pc := 334) X148 C at_334 rfl ?_
        refine w_iadd (pc := 336) X148 C at_336 ?_
        refine w_icmp_ne (pc := 337) X148 C at_337 344 (by decide) (fun q153 => absurd (hbest1) q153) (fun q153 => ?_)
        refine w_iconst (pc := 340) X148 C at_340 (1 : Int32) rfl ?_
        refine w_goto (pc := 341) X148 C at_341 345 (by decide) ?_
        exact w_ret_boolean (pc := 345) X148 C at_345 rfl
      · -- no
        refine w_iconst (pc := 256) X143 C at_256 (1 : Int32) rfl ?_
        refine w_istore (pc := 257) X143 C at_257 #[.val (.int x0), .val (.int x1), .val (.int x2), .val (.int x3), .val (.int x4), .val (.int (4 : Int32)), .val (.int (2 : Int32)), .val (.int (if ((ushrI x0 (10 : Int32)) &&& (1 : Int32)) = 0 then (0 : Int32) else (1 : Int32))), .val (.int (if (if ((ushrI x0 (10 : Int32)) &&& (1 : Int32)) = 0 then (0 : Int32) else (1 : Int32)) = 0 then (2147483647 : Int32) else (3 : Int32))), .val (.long v0), .second, .val (.long v1), .second, .val (.long v2), .second, .val (.long v3), .second, .val (.ref a128), .val (.ref a133), .val (.int (3 : Int32)), .val (.int (1 : Int32)), .unset] rfl ?_
        refine w_iload (pc := 259) X143 C at_259 rfl ?_
        refine w_iconst (pc := 261) X143 C at_261 (3 : Int32) rfl ?_
        refine w_icmp_lt (pc := 262) X143 C at_262 298 (by decide) (fun q154 => ?_) (fun q154 => absurd (by decide) q154)
        refine w_aload (pc := 298) X143 C at_298 rfl rfl ?_
        refine w_iload (pc := 300) X143 C at_300 rfl ?_
        have gg0 : g132 0 = v0 := by simp [hg132, hg131, hg130, hg129, up]
        have gg1 : g132 1 = v1 := by simp [hg132, hg131, hg130, hg129, up]
        have gg2 : g132 2 = v2 := by simp [hg132, hg131, hg130, hg129, up]
        have gg3 : g132 3 = v3 := by simp [hg132, hg131, hg130, hg129, up]
        refine w_callS (pc := 302) X143 C (y := (⟨"termwright/index/MergePolicy", "cheapest", "([JI)[I"⟩ : MethodName)) (bytes := prog_68_method_5_code) (maxL := 9) (rt := (some (.array .int))) (argsL := [(.ref a128), (.int (2 : Int32))]) (rest := []) (W := 0) at_302 (List.mem_of_getElem? (i := 2) rfl) (List.mem_of_getElem? (i := 3) rfl) (List.mem_of_getElem? (i := 4) rfl) (List.mem_of_getElem? (i := 5) rfl) (by decide) (ct1_4_2 l C.2.2.2.2.2.2.2.2 _ X143.size (a128) g132 v0 v1 v2 v3 Ak144 gg0 gg1 gg2 gg3 hv0 hv1 hv2 hv3) rfl ⟨_, _, pd_0, rfl⟩ rfl (Nat.le_of_eq rfl) (by decide) (by decide) (by decide) (by decide) (fun v_155 T155 P155 X155 => ?_)
        obtain ⟨r155, b155, gr155, rfl, hr155, Ar155, hz155, ho155, hsp155⟩ := P155
        have z0 : (0 : Int64).toInt = 0 := rfl
        have lq146 := Int64.lt_iff_toInt_lt.mp q146
        have u156a := c_lsub p4 v0
        have u156b := rng64 (p4 - v0)
        have u157a := c_lsub p3 0
        have u157b := rng64 (p3 - 0)
        have hbb : b155 = (1 : Int32) := by
          rcases hsp155 with ⟨w1, w2⟩ | ⟨w1, w2⟩
          all_goals first | exact w1 | (exfalso; omega)
        have hbest0 : gr155 0 = (1 : Int32) := by rw [hz155, hbb]
        have hbest1 : gr155 1 = ((1 : Int32) + (3 : Int32)) := by rw [ho155, hbb]
        refine w_astore (pc := 305) X155 C at_305 #[.val (.int x0), .val (.int x1), .val (.int x2), .val (.int x3), .val (.int x4), .val (.int (4 : Int32)), .val (.int (2 : Int32)), .val (.int (if ((ushrI x0 (10 : Int32)) &&& (1 : Int32)) = 0 then (0 : Int32) else (1 : Int32))), .val (.int (if (if ((ushrI x0 (10 : Int32)) &&& (1 : Int32)) = 0 then (0 : Int32) else (1 : Int32)) = 0 then (2147483647 : Int32) else (3 : Int32))), .val (.long v0), .second, .val (.long v1), .second, .val (.long v2), .second, .val (.long v3), .second, .val (.ref a128), .val (.ref a133), .val (.int (3 : Int32)), .val (.int (1 : Int32)), .val (.ref r155)] rfl rfl ?_
        refine w_aload (pc := 307) X155 C at_307 rfl rfl ?_
        refine w_ifnull_no (pc := 309) X155 C at_309 ?_
        refine w_aload (pc := 312) X155 C at_312 rfl rfl ?_
        refine w_arraylength (pc := 314) X155 C at_314 Ar155 ?_
        refine w_iconst (pc := 315) X155 C at_315 (2 : Int32) rfl ?_
        refine w_icmp_ne (pc := 316) X155 C at_316 344 (by decide) (fun q158 => absurd (by decide) q158) (fun q158 => ?_)
        refine w_aload (pc := 319) X155 C at_319 rfl rfl ?_
        refine w_iconst (pc := 321) X155 C at_321 (0 : Int32) rfl ?_
        refine w_iaload (pc := 322) X155 C at_322 Ar155 0 (by decide) (by decide) ?_
        refine w_iload (pc := 323) X155 C at_323 rfl ?_
        refine w_icmp_ne (pc := 325) X155 C at_325 344 (by decide) (fun q159 => absurd (hbest0) q159) (fun q159 => ?_)
        refine w_aload (pc := 328) X155 C at_328 rfl rfl ?_
        refine w_iconst (pc := 330) X155 C at_330 (1 : Int32) rfl ?_
        refine w_iaload (pc := 331) X155 C at_331 Ar155 1 (by decide) (by decide) ?_
        refine w_iload (pc := 332) X155 C at_332 rfl ?_
        refine w_iload (pc := 334) X155 C at_334 rfl ?_
        refine w_iadd (pc := 336) X155 C at_336 ?_
        refine w_icmp_ne (pc := 337) X155 C at_337 344 (by decide) (fun q160 => absurd (hbest1) q160) (fun q160 => ?_)
        refine w_iconst (pc := 340) X155 C at_340 (1 : Int32) rfl ?_
        refine w_goto (pc := 341) X155 C at_341 345 (by decide) ?_
        exact w_ret_boolean (pc := 345) X155 C at_345 rfl
    · rw [ec]
      refine w_istore (pc := 23) X C at_23 #[.val (.int x0), .val (.int x1), .val (.int x2), .val (.int x3), .val (.int x4), .val (.int (4 : Int32)), .val (.int (3 : Int32)), .unset, .unset, .unset, .unset, .unset, .unset, .unset, .unset, .unset, .unset, .unset, .unset, .unset, .unset, .unset] rfl ?_
      refine w_iloadN (pc := 25) X C at_25 rfl ?_
      refine w_bipush (pc := 26) X C at_26 (10 : Int32) rfl ?_
      refine w_iushr (pc := 28) X C at_28 ?_
      refine w_iconst (pc := 29) X C at_29 (1 : Int32) rfl ?_
      refine w_iand (pc := 30) X C at_30 ?_
      suffices key162 : Goes p e below s n0 (fun v _ => v = some (.int 1)) room_1.cells room_1.slots T (mkF m 39 #[.val (.int x0), .val (.int x1), .val (.int x2), .val (.int x3), .val (.int x4), .val (.int (4 : Int32)), .val (.int (3 : Int32)), .unset, .unset, .unset, .unset, .unset, .unset, .unset, .unset, .unset, .unset, .unset, .unset, .unset, .unset, .unset] [(.int (if ((ushrI x0 (10 : Int32)) &&& (1 : Int32)) = 0 then (0 : Int32) else (1 : Int32)))]) by
        refine w_if_eq (pc := 31) X C at_31 38 (by decide) (fun q161 => ?_) (fun q161 => ?_)
        · skip
          refine w_iconst (pc := 38) X C at_38 (0 : Int32) rfl ?_
          rw [if_pos q161] at key162
          exact key162
        · skip
          refine w_iconst (pc := 34) X C at_34 (1 : Int32) rfl ?_
          refine w_goto (pc := 35) X C at_35 39 (by decide) ?_
          rw [if_neg q161] at key162
          exact key162
      refine w_istore (pc := 39) X C at_39 #[.val (.int x0), .val (.int x1), .val (.int x2), .val (.int x3), .val (.int x4), .val (.int (4 : Int32)), .val (.int (3 : Int32)), .val (.int (if ((ushrI x0 (10 : Int32)) &&& (1 : Int32)) = 0 then (0 : Int32) else (1 : Int32))), .unset, .unset, .unset, .unset, .unset, .unset, .unset, .unset, .unset, .unset, .unset, .unset, .unset, .unset] rfl ?_
      refine w_iload (pc := 41) X C at_41 rfl ?_
      suffices key164 : Goes p e below s n0 (fun v _ => v = some (.int 1)) room_1.cells room_1.slots T (mkF m 52 #[.val (.int x0), .val (.int x1), .val (.int x2), .val (.int x3), .val (.int x4), .val (.int (4 : Int32)), .val (.int (3 : Int32)), .val (.int (if ((ushrI x0 (10 : Int32)) &&& (1 : Int32)) = 0 then (0 : Int32) else (1 : Int32))), .unset, .unset, .unset, .unset, .unset, .unset, .unset, .unset, .unset, .unset, .unset, .unset, .unset, .unset] [(.int (if (if ((ushrI x0 (10 : Int32)) &&& (1 : Int32)) = 0 then (0 : Int32) else (1 : Int32)) = 0 then (2147483647 : Int32) else (3 : Int32)))]) by
        refine w_if_eq (pc := 43) X C at_43 50 (by decide) (fun q163 => ?_) (fun q163 => ?_)
        · skip
          refine w_ldcI (pc := 50) X C at_50 (v := (2147483647 : Int32)) (List.mem_of_getElem? (i := 0) rfl) ?_
          rw [if_pos q163] at key164
          exact key164
        · skip
          refine w_iconst (pc := 46) X C at_46 (3 : Int32) rfl ?_
          refine w_goto (pc := 47) X C at_47 52 (by decide) ?_
          rw [if_neg q163] at key164
          exact key164
      refine w_istore (pc := 52) X C at_52 #[.val (.int x0), .val (.int x1), .val (.int x2), .val (.int x3), .val (.int x4), .val (.int (4 : Int32)), .val (.int (3 : Int32)), .val (.int (if ((ushrI x0 (10 : Int32)) &&& (1 : Int32)) = 0 then (0 : Int32) else (1 : Int32))), .val (.int (if (if ((ushrI x0 (10 : Int32)) &&& (1 : Int32)) = 0 then (0 : Int32) else (1 : Int32)) = 0 then (2147483647 : Int32) else (3 : Int32))), .unset, .unset, .unset, .unset, .unset, .unset, .unset, .unset, .unset, .unset, .unset, .unset, .unset] rfl ?_
      refine w_iloadN (pc := 54) X C at_54 rfl ?_
      refine w_iload (pc := 55) X C at_55 rfl ?_
      refine w_iand (pc := 57) X C at_57 ?_
      refine w_i2l (pc := 58) X C at_58 ?_
      obtain ⟨v0, e_v0⟩ : ∃ z, z = ((x1 &&& (if (if ((ushrI x0 (10 : Int32)) &&& (1 : Int32)) = 0 then (0 : Int32) else (1 : Int32)) = 0 then (2147483647 : Int32) else (3 : Int32)))).toInt64 := ⟨_, rfl⟩
      rw [← e_v0]
      have hv0 : 0 ≤ v0.toInt ∧ v0.toInt < 2147483648 := by rw [e_v0]; exact own_v _ _ own_mask
      refine w_lstore (pc := 59) X C at_59 #[.val (.int x0), .val (.int x1), .val (.int x2), .val (.int x3), .val (.int x4), .val (.int (4 : Int32)), .val (.int (3 : Int32)), .val (.int (if ((ushrI x0 (10 : Int32)) &&& (1 : Int32)) = 0 then (0 : Int32) else (1 : Int32))), .val (.int (if (if ((ushrI x0 (10 : Int32)) &&& (1 : Int32)) = 0 then (0 : Int32) else (1 : Int32)) = 0 then (2147483647 : Int32) else (3 : Int32))), .val (.long v0), .second, .unset, .unset, .unset, .unset, .unset, .unset, .unset, .unset, .unset, .unset, .unset] rfl ?_
      refine w_iloadN (pc := 61) X C at_61 rfl ?_
      refine w_iload (pc := 62) X C at_62 rfl ?_
      refine w_iand (pc := 64) X C at_64 ?_
      refine w_i2l (pc := 65) X C at_65 ?_
      obtain ⟨v1, e_v1⟩ : ∃ z, z = ((x2 &&& (if (if ((ushrI x0 (10 : Int32)) &&& (1 : Int32)) = 0 then (0 : Int32) else (1 : Int32)) = 0 then (2147483647 : Int32) else (3 : Int32)))).toInt64 := ⟨_, rfl⟩
      rw [← e_v1]
      have hv1 : 0 ≤ v1.toInt ∧ v1.toInt < 2147483648 := by rw [e_v1]; exact own_v _ _ own_mask
      refine w_lstore (pc := 66) X C at_66 #[.val (.int x0), .val (.int x1), .val (.int x2), .val (.int x3), .val (.int x4), .val (.int (4 : Int32)), .val (.int (3 : Int32)), .val (.int (if ((ushrI x0 (10 : Int32)) &&& (1 : Int32)) = 0 then (0 : Int32) else (1 : Int32))), .val (.int (if (if ((ushrI x0 (10 : Int32)) &&& (1 : Int32)) = 0 then (0 : Int32) else (1 : Int32)) = 0 then (2147483647 : Int32) else (3 : Int32))), .val (.long v0), .second, .val (.long v1), .second, .unset, .unset, .unset, .unset, .unset, .unset, .unset, .unset, .unset] rfl ?_
      refine w_iloadN (pc := 68) X C at_68 rfl ?_
      refine w_iload (pc := 69) X C at_69 rfl ?_
      refine w_iand (pc := 71) X C at_71 ?_
      refine w_i2l (pc := 72) X C at_72 ?_
      obtain ⟨v2, e_v2⟩ : ∃ z, z = ((x3 &&& (if (if ((ushrI x0 (10 : Int32)) &&& (1 : Int32)) = 0 then (0 : Int32) else (1 : Int32)) = 0 then (2147483647 : Int32) else (3 : Int32)))).toInt64 := ⟨_, rfl⟩
      rw [← e_v2]
      have hv2 : 0 ≤ v2.toInt ∧ v2.toInt < 2147483648 := by rw [e_v2]; exact own_v _ _ own_mask
      refine w_lstore (pc := 73) X C at_73 #[.val (.int x0), .val (.int x1), .val (.int x2), .val (.int x3), .val (.int x4), .val (.int (4 : Int32)), .val (.int (3 : Int32)), .val (.int (if ((ushrI x0 (10 : Int32)) &&& (1 : Int32)) = 0 then (0 : Int32) else (1 : Int32))), .val (.int (if (if ((ushrI x0 (10 : Int32)) &&& (1 : Int32)) = 0 then (0 : Int32) else (1 : Int32)) = 0 then (2147483647 : Int32) else (3 : Int32))), .val (.long v0), .second, .val (.long v1), .second, .val (.long v2), .second, .unset, .unset, .unset, .unset, .unset, .unset, .unset] rfl ?_
      refine w_iload (pc := 75) X C at_75 rfl ?_
      refine w_iload (pc := 77) X C at_77 rfl ?_
      refine w_iand (pc := 79) X C at_79 ?_
      refine w_i2l (pc := 80) X C at_80 ?_
      obtain ⟨v3, e_v3⟩ : ∃ z, z = ((x4 &&& (if (if ((ushrI x0 (10 : Int32)) &&& (1 : Int32)) = 0 then (0 : Int32) else (1 : Int32)) = 0 then (2147483647 : Int32) else (3 : Int32)))).toInt64 := ⟨_, rfl⟩
      rw [← e_v3]
      have hv3 : 0 ≤ v3.toInt ∧ v3.toInt < 2147483648 := by rw [e_v3]; exact own_v _ _ own_mask
      refine w_lstore (pc := 81) X C at_81 #[.val (.int x0), .val (.int x1), .val (.int x2), .val (.int x3), .val (.int x4), .val (.int (4 : Int32)), .val (.int (3 : Int32)), .val (.int (if ((ushrI x0 (10 : Int32)) &&& (1 : Int32)) = 0 then (0 : Int32) else (1 : Int32))), .val (.int (if (if ((ushrI x0 (10 : Int32)) &&& (1 : Int32)) = 0 then (0 : Int32) else (1 : Int32)) = 0 then (2147483647 : Int32) else (3 : Int32))), .val (.long v0), .second, .val (.long v1), .second, .val (.long v2), .second, .val (.long v3), .second, .unset, .unset, .unset, .unset, .unset] rfl ?_
      refine w_iload (pc := 83) X C at_83 rfl ?_
      refine w_iconst (pc := 85) X C at_85 (2 : Int32) rfl ?_
      refine w_icmp_ne (pc := 86) X C at_86 107 (by decide) (fun q165 => ?_) (fun q165 => absurd q165 (by decide))
      refine w_iload (pc := 107) X C at_107 rfl ?_
      refine w_iconst (pc := 109) X C at_109 (3 : Int32) rfl ?_
      refine w_icmp_ne (pc := 110) X C at_110 136 (by decide) (fun q166 => ?_) (fun q166 => absurd q166 (by decide))
      refine w_iconst (pc := 136) X C at_136 (4 : Int32) rfl ?_
      refine w_new_long (pc := 137) X C at_137 (List.mem_of_getElem? (i := 1) rfl) 4 rfl 4 (by decide) (by decide) (by decide) (by decide) (fun T167 h167 a167 ha167 hb167 X167 E167 A167 => ?_)
      refine w_dup (pc := 139) X167 C at_139 rfl ?_
      refine w_iconst (pc := 140) X167 C at_140 (0 : Int32) rfl ?_
      refine w_lload (pc := 141) X167 C at_141 rfl ?_
      refine w_lastore (pc := 143) X167 C at_143 A167 0 (by decide) (by decide) hb167 (fun T168 h168 X168 W168 A168 => ?_)
      obtain ⟨g168, hg168⟩ : ∃ z, z = up (fun _ => 0) 0 v0 := ⟨_, rfl⟩
      rw [← hg168] at A168
      refine w_dup (pc := 144) X168 C at_144 rfl ?_
      refine w_iconst (pc := 145) X168 C at_145 (1 : Int32) rfl ?_
      refine w_lload (pc := 146) X168 C at_146 rfl ?_
      refine w_lastore (pc := 148) X168 C at_148 A168 1 (by decide) (by decide) hb167 (fun T169 h169 X169 W169 A169 => ?_)
      obtain ⟨g169, hg169⟩ : ∃ z, z = up g168 1 v1 := ⟨_, rfl⟩
      rw [← hg169] at A169
      refine w_dup (pc := 149) X169 C at_149 rfl ?_
      refine w_iconst (pc := 150) X169 C at_150 (2 : Int32) rfl ?_
      refine w_lload (pc := 151) X169 C at_151 rfl ?_
      refine w_lastore (pc := 153) X169 C at_153 A169 2 (by decide) (by decide) hb167 (fun T170 h170 X170 W170 A170 => ?_)
      obtain ⟨g170, hg170⟩ : ∃ z, z = up g169 2 v2 := ⟨_, rfl⟩
      rw [← hg170] at A170
      refine w_dup (pc := 154) X170 C at_154 rfl ?_
      refine w_iconst (pc := 155) X170 C at_155 (3 : Int32) rfl ?_
      refine w_lload (pc := 156) X170 C at_156 rfl ?_
      refine w_lastore (pc := 158) X170 C at_158 A170 3 (by decide) (by decide) hb167 (fun T171 h171 X171 W171 A171 => ?_)
      obtain ⟨g171, hg171⟩ : ∃ z, z = up g170 3 v3 := ⟨_, rfl⟩
      rw [← hg171] at A171
      refine w_astore (pc := 159) X171 C at_159 #[.val (.int x0), .val (.int x1), .val (.int x2), .val (.int x3), .val (.int x4), .val (.int (4 : Int32)), .val (.int (3 : Int32)), .val (.int (if ((ushrI x0 (10 : Int32)) &&& (1 : Int32)) = 0 then (0 : Int32) else (1 : Int32))), .val (.int (if (if ((ushrI x0 (10 : Int32)) &&& (1 : Int32)) = 0 then (0 : Int32) else (1 : Int32)) = 0 then (2147483647 : Int32) else (3 : Int32))), .val (.long v0), .second, .val (.long v1), .second, .val (.long v2), .second, .val (.long v3), .second, .val (.ref a167), .unset, .unset, .unset, .unset] rfl rfl ?_
      refine w_iconst (pc := 161) X171 C at_161 (5 : Int32) rfl ?_
      refine w_new_long (pc := 162) X171 C at_162 (List.mem_of_getElem? (i := 1) rfl) 5 rfl 5 (by decide) (by decide) (by decide) (by decide) (fun T172 h172 a172 ha172 hb172 X172 E172 A172 => ?_)
      have ne_a167_a172 : a167 ≠ a172 := Nat.ne_of_lt (by rw [ha172]; exact A171.lt)
      have Ak173 := A171.ext E172
      refine w_dup (pc := 164) X172 C at_164 rfl ?_
      refine w_iconst (pc := 165) X172 C at_165 (0 : Int32) rfl ?_
      refine w_lconst (pc := 166) X172 C at_166 (0 : Int64) rfl ?_
      refine w_lastore (pc := 167) X172 C at_167 A172 0 (by decide) (by decide) hb172 (fun T174 h174 X174 W174 A174 => ?_)
      obtain ⟨g174, hg174⟩ : ∃ z, z = up (fun _ => 0) 0 (0 : Int64) := ⟨_, rfl⟩
      rw [← hg174] at A174
      have Ak175 := Ak173.other W174 ne_a167_a172
      refine w_dup (pc := 168) X174 C at_168 rfl ?_
      refine w_iconst (pc := 169) X174 C at_169 (1 : Int32) rfl ?_
      refine w_lload (pc := 170) X174 C at_170 rfl ?_
      refine w_lastore (pc := 172) X174 C at_172 A174 1 (by decide) (by decide) hb172 (fun T176 h176 X176 W176 A176 => ?_)
      obtain ⟨g176, hg176⟩ : ∃ z, z = up g174 1 v0 := ⟨_, rfl⟩
      rw [← hg176] at A176
      have Ak177 := Ak175.other W176 ne_a167_a172
      refine w_dup (pc := 173) X176 C at_173 rfl ?_
      refine w_iconst (pc := 174) X176 C at_174 (2 : Int32) rfl ?_
      refine w_lload (pc := 175) X176 C at_175 rfl ?_
      refine w_lload (pc := 177) X176 C at_177 rfl ?_
      refine w_ladd (pc := 179) X176 C at_179 ?_
      refine w_lastore (pc := 180) X176 C at_180 A176 2 (by decide) (by decide) hb172 (fun T178 h178 X178 W178 A178 => ?_)
      obtain ⟨g178, hg178⟩ : ∃ z, z = up g176 2 (v0 + v1) := ⟨_, rfl⟩
      rw [← hg178] at A178
      have Ak179 := Ak177.other W178 ne_a167_a172
      refine w_dup (pc := 181) X178 C at_181 rfl ?_
      refine w_iconst (pc := 182) X178 C at_182 (3 : Int32) rfl ?_
      refine w_lload (pc := 183) X178 C at_183 rfl ?_
      refine w_lload (pc := 185) X178 C at_185 rfl ?_
      refine w_ladd (pc := 187) X178 C at_187 ?_
      refine w_lload (pc := 188) X178 C at_188 rfl ?_
      refine w_ladd (pc := 190) X178 C at_190 ?_
      refine w_lastore (pc := 191) X178 C at_191 A178 3 (by decide) (by decide) hb172 (fun T180 h180 X180 W180 A180 => ?_)
      obtain ⟨g180, hg180⟩ : ∃ z, z = up g178 3 ((v0 + v1) + v2) := ⟨_, rfl⟩
      rw [← hg180] at A180
      have Ak181 := Ak179.other W180 ne_a167_a172
      refine w_dup (pc := 192) X180 C at_192 rfl ?_
      refine w_iconst (pc := 193) X180 C at_193 (4 : Int32) rfl ?_
      refine w_lload (pc := 194) X180 C at_194 rfl ?_
      refine w_lload (pc := 196) X180 C at_196 rfl ?_
      refine w_ladd (pc := 198) X180 C at_198 ?_
      refine w_lload (pc := 199) X180 C at_199 rfl ?_
      refine w_ladd (pc := 201) X180 C at_201 ?_
      refine w_lload (pc := 202) X180 C at_202 rfl ?_
      refine w_ladd (pc := 204) X180 C at_204 ?_
      refine w_lastore (pc := 205) X180 C at_205 A180 4 (by decide) (by decide) hb172 (fun T182 h182 X182 W182 A182 => ?_)
      obtain ⟨g182, hg182⟩ : ∃ z, z = up g180 4 (((v0 + v1) + v2) + v3) := ⟨_, rfl⟩
      rw [← hg182] at A182
      have Ak183 := Ak181.other W182 ne_a167_a172
      obtain ⟨p2, ep2⟩ : ∃ z, z = (v0 + v1) := ⟨_, rfl⟩
      have tp2 : p2.toInt = v0.toInt + v1.toInt := by
        have a1 := c_ladd v0 v1; have a2 := rng64 (v0 + v1); rw [ep2]; omega
      obtain ⟨p3, ep3⟩ : ∃ z, z = (p2 + v2) := ⟨_, rfl⟩
      have tp3 : p3.toInt = v0.toInt + v1.toInt + v2.toInt := by
        have a1 := c_ladd p2 v2; have a2 := rng64 (p2 + v2); rw [ep3]; omega
      obtain ⟨p4, ep4⟩ : ∃ z, z = (p3 + v3) := ⟨_, rfl⟩
      have tp4 : p4.toInt = v0.toInt + v1.toInt + v2.toInt + v3.toInt := by
        have a1 := c_ladd p3 v3; have a2 := rng64 (p3 + v3); rw [ep4]; omega
      have pp0 : g182 0 = 0 := by simp [hg182, hg180, hg178, hg176, hg174, up]
      have pp1 : g182 1 = v0 := by simp [hg182, hg180, hg178, hg176, hg174, up]
      have pp2 : g182 2 = p2 := by simp [hg182, hg180, hg178, hg176, hg174, up, ep2]
      have pp3 : g182 3 = p3 := by simp [hg182, hg180, hg178, hg176, hg174, up, ep2, ep3]
      have pp4 : g182 4 = p4 := by simp [hg182, hg180, hg178, hg176, hg174, up, ep2, ep3, ep4]
      refine w_astore (pc := 206) X182 C at_206 #[.val (.int x0), .val (.int x1), .val (.int x2), .val (.int x3), .val (.int x4), .val (.int (4 : Int32)), .val (.int (3 : Int32)), .val (.int (if ((ushrI x0 (10 : Int32)) &&& (1 : Int32)) = 0 then (0 : Int32) else (1 : Int32))), .val (.int (if (if ((ushrI x0 (10 : Int32)) &&& (1 : Int32)) = 0 then (0 : Int32) else (1 : Int32)) = 0 then (2147483647 : Int32) else (3 : Int32))), .val (.long v0), .second, .val (.long v1), .second, .val (.long v2), .second, .val (.long v3), .second, .val (.ref a167), .val (.ref a172), .unset, .unset, .unset] rfl rfl ?_
      refine w_iload (pc := 208) X182 C at_208 rfl ?_
      refine w_iload (pc := 210) X182 C at_210 rfl ?_
      refine w_isub (pc := 212) X182 C at_212 ?_
      refine w_iconst (pc := 213) X182 C at_213 (1 : Int32) rfl ?_
      refine w_iadd (pc := 214) X182 C at_214 ?_
      rw [show ((((4 : Int32) - (3 : Int32)) + (1 : Int32)) : Int32) = (2 : Int32) from by decide]
      refine w_istore (pc := 215) X182 C at_215 #[.val (.int x0), .val (.int x1), .val (.int x2), .val (.int x3), .val (.int x4), .val (.int (4 : Int32)), .val (.int (3 : Int32)), .val (.int (if ((ushrI x0 (10 : Int32)) &&& (1 : Int32)) = 0 then (0 : Int32) else (1 : Int32))), .val (.int (if (if ((ushrI x0 (10 : Int32)) &&& (1 : Int32)) = 0 then (0 : Int32) else (1 : Int32)) = 0 then (2147483647 : Int32) else (3 : Int32))), .val (.long v0), .second, .val (.long v1), .second, .val (.long v2), .second, .val (.long v3), .second, .val (.ref a167), .val (.ref a172), .val (.int (2 : Int32)), .unset, .unset] rfl ?_
      refine w_iconst (pc := 217) X182 C at_217 (0 : Int32) rfl ?_
      refine w_istore (pc := 218) X182 C at_218 #[.val (.int x0), .val (.int x1), .val (.int x2), .val (.int x3), .val (.int x4), .val (.int (4 : Int32)), .val (.int (3 : Int32)), .val (.int (if ((ushrI x0 (10 : Int32)) &&& (1 : Int32)) = 0 then (0 : Int32) else (1 : Int32))), .val (.int (if (if ((ushrI x0 (10 : Int32)) &&& (1 : Int32)) = 0 then (0 : Int32) else (1 : Int32)) = 0 then (2147483647 : Int32) else (3 : Int32))), .val (.long v0), .second, .val (.long v1), .second, .val (.long v2), .second, .val (.long v3), .second, .val (.ref a167), .val (.ref a172), .val (.int (2 : Int32)), .val (.int (0 : Int32)), .unset] rfl ?_
      refine w_iload (pc := 220) X182 C at_220 rfl ?_
      refine w_iconst (pc := 222) X182 C at_222 (2 : Int32) rfl ?_
      refine w_icmp_lt (pc := 223) X182 C at_223 259 (by decide) (fun q184 => absurd q184 (by decide)) (fun q184 => ?_)
      refine w_aload (pc := 226) X182 C at_226 rfl rfl ?_
      refine w_iconst (pc := 228) X182 C at_228 (1 : Int32) rfl ?_
      refine w_iload (pc := 229) X182 C at_229 rfl ?_
      refine w_iadd (pc := 231) X182 C at_231 ?_
      refine w_laload (pc := 232) X182 C at_232 A182 3 (by decide) (by decide) ?_
      rw [pp3]
      refine w_aload (pc := 233) X182 C at_233 rfl rfl ?_
      refine w_iconst (pc := 235) X182 C at_235 (1 : Int32) rfl ?_
      refine w_laload (pc := 236) X182 C at_236 A182 1 (by decide) (by decide) ?_
      rw [pp1]
      refine w_lsub (pc := 237) X182 C at_237 ?_
      refine w_aload (pc := 238) X182 C at_238 rfl rfl ?_
      refine w_iload (pc := 240) X182 C at_240 rfl ?_
      refine w_iload (pc := 242) X182 C at_242 rfl ?_
      refine w_iadd (pc := 244) X182 C at_244 ?_
      refine w_laload (pc := 245) X182 C at_245 A182 2 (by decide) (by decide) ?_
      rw [pp2]
      refine w_aload (pc := 246) X182 C at_246 rfl rfl ?_
      refine w_iload (pc := 248) X182 C at_248 rfl ?_
      refine w_laload (pc := 250) X182 C at_250 A182 0 (by decide) (by decide) ?_
      rw [pp0]
      refine w_lsub (pc := 251) X182 C at_251 ?_
      refine w_lcmp (pc := 252) X182 C at_252 ?_
      refine w_ifJ_ge (pc := 253) X182 C at_253 259 (by decide) (fun q185 => ?_) (fun q185 => ?_)
      · -- yes
        refine w_iload (pc := 259) X182 C at_259 rfl ?_
        refine w_iconst (pc := 261) X182 C at_261 (3 : Int32) rfl ?_
        refine w_icmp_lt (pc := 262) X182 C at_262 298 (by decide) (fun q186 => absurd q186 (by decide)) (fun q186 => ?_)
        refine w_aload (pc := 265) X182 C at_265 rfl rfl ?_
        refine w_iconst (pc := 267) X182 C at_267 (2 : Int32) rfl ?_
        refine w_iload (pc := 268) X182 C at_268 rfl ?_
        refine w_iadd (pc := 270) X182 C at_270 ?_
        refine w_laload (pc := 271) X182 C at_271 A182 4 (by decide) (by decide) ?_
        rw [pp4]
        refine w_aload (pc := 272) X182 C at_272 rfl rfl ?_
        refine w_iconst (pc := 274) X182 C at_274 (2 : Int32) rfl ?_
        refine w_laload (pc := 275) X182 C at_275 A182 2 (by decide) (by decide) ?_
        rw [pp2]
        refine w_lsub (pc := 276) X182 C at_276 ?_
        refine w_aload (pc := 277) X182 C at_277 rfl rfl ?_
        refine w_iload (pc := 279) X182 C at_279 rfl ?_
        refine w_iload (pc := 281) X182 C at_281 rfl ?_
        refine w_iadd (pc := 283) X182 C at_283 ?_
        refine w_laload (pc := 284) X182 C at_284 A182 2 (by decide) (by decide) ?_
        rw [pp2]
        refine w_aload (pc := 285) X182 C at_285 rfl rfl ?_
        refine w_iload (pc := 287) X182 C at_287 rfl ?_
        refine w_laload (pc := 289) X182 C at_289 A182 0 (by decide) (by decide) ?_
        rw [pp0]
        refine w_lsub (pc := 290) X182 C at_290 ?_
        refine w_lcmp (pc := 291) X182 C at_291 ?_
        refine w_ifJ_ge (pc := 292) X182 C at_292 298 (by decide) (fun q187 => ?_) (fun q187 => ?_)
        · -- yes
          refine w_aload (pc := 298) X182 C at_298 rfl rfl ?_
          refine w_iload (pc := 300) X182 C at_300 rfl ?_
          have gg0 : g171 0 = v0 := by simp [hg171, hg170, hg169, hg168, up]
          have gg1 : g171 1 = v1 := by simp [hg171, hg170, hg169, hg168, up]
          have gg2 : g171 2 = v2 := by simp [hg171, hg170, hg169, hg168, up]
          have gg3 : g171 3 = v3 := by simp [hg171, hg170, hg169, hg168, up]
          refine w_callS (pc := 302) X182 C (y := (⟨"termwright/index/MergePolicy", "cheapest", "([JI)[I"⟩ : MethodName)) (bytes := prog_68_method_5_code) (maxL := 9) (rt := (some (.array .int))) (argsL := [(.ref a167), (.int (3 : Int32))]) (rest := []) (W := 0) at_302 (List.mem_of_getElem? (i := 2) rfl) (List.mem_of_getElem? (i := 3) rfl) (List.mem_of_getElem? (i := 4) rfl) (List.mem_of_getElem? (i := 5) rfl) (by decide) (ct1_4_3 l C.2.2.2.2.2.2.2.2 _ X182.size (a167) g171 v0 v1 v2 v3 Ak183 gg0 gg1 gg2 gg3 hv0 hv1 hv2 hv3) rfl ⟨_, _, pd_0, rfl⟩ rfl (Nat.le_of_eq rfl) (by decide) (by decide) (by decide) (by decide) (fun v_188 T188 P188 X188 => ?_)
          obtain ⟨r188, b188, gr188, rfl, hr188, Ar188, hz188, ho188, hsp188⟩ := P188
          have z0 : (0 : Int64).toInt = 0 := rfl
          have lq185 := Int64.le_iff_toInt_le.mp (Int64.not_lt.mp q185)
          have u189a := c_lsub p3 v0
          have u189b := rng64 (p3 - v0)
          have u190a := c_lsub p2 0
          have u190b := rng64 (p2 - 0)
          have lq187 := Int64.le_iff_toInt_le.mp (Int64.not_lt.mp q187)
          have u191a := c_lsub p4 p2
          have u191b := rng64 (p4 - p2)
          have u192a := c_lsub p2 0
          have u192b := rng64 (p2 - 0)
          have hbb : b188 = (0 : Int32) := by
            rcases hsp188 with ⟨w1, w2⟩ | ⟨w1, w2⟩ | ⟨w1, w2⟩
            all_goals first | exact w1 | (exfalso; omega)
          have hbest0 : gr188 0 = (0 : Int32) := by rw [hz188, hbb]
          have hbest1 : gr188 1 = ((0 : Int32) + (2 : Int32)) := by rw [ho188, hbb]
          refine w_astore (pc := 305) X188 C at_305 #[.val (.int x0), .val (.int x1), .val (.int x2), .val (.int x3), .val (.int x4), .val (.int (4 : Int32)), .val (.int (3 : Int32)), .val (.int (if ((ushrI x0 (10 : Int32)) &&& (1 : Int32)) = 0 then (0 : Int32) else (1 : Int32))), .val (.int (if (if ((ushrI x0 (10 : Int32)) &&& (1 : Int32)) = 0 then (0 : Int32) else (1 : Int32)) = 0 then (2147483647 : Int32) else (3 : Int32))), .val (.long v0), .second, .val (.long v1), .second, .val (.long v2), .second, .val (.long v3), .second, .val (.ref a167), .val (.ref a172), .val (.int (2 : Int32)), .val (.int (0 : Int32)), .val (.ref r188)] rfl rfl ?_
          refine w_aload (pc := 307) X188 C at_307 rfl rfl ?_
          refine w_ifnull_no (pc := 309) X188 C at_309 ?_
          refine w_aload (pc := 312) X188 C at_312 rfl rfl ?_
          refine w_arraylength (pc := 314) X188 C at_314 Ar188 ?_
          refine w_iconst (pc := 315) X188 C at_315 (2 : Int32) rfl ?_
          refine w_icmp_ne (pc := 316) X188 C at_316 344 (by decide) (fun q193 => absurd (by decide) q193) (fun q193 => ?_)
          refine w_aload (pc := 319) X188 C at_319 rfl rfl ?_
          refine w_iconst (pc := 321) X188 C at_321 (0 : Int32) rfl ?_
          refine w_iaload (pc := 322) X188 C at_322 Ar188 0 (by decide) (by decide) ?_
          refine w_iload (pc := 323) X188 C at_323 rfl ?_
          refine w_icmp_ne (pc := 325) X188 C at_325 344 (by decide) (fun q194 => absurd (hbest0) q194) (fun q194 => ?_)
          refine w_aload (pc := 328) X188 C at_328 rfl rfl ?_
          refine w_iconst (pc := 330) X188 C at_330 (1 : Int32) rfl ?_
          refine w_iaload (pc := 331) X188 C at_331 Ar188 1 (by decide) (by decide) ?_
          refine w_iload (pc := 332) X188 C at_332 rfl ?_
          refine w_iload (pc := 334) X188 C at_334 rfl ?_
          refine w_iadd (pc := 336) X188 C at_336 ?_
          refine w_icmp_ne (pc := 337) X188 C at_337 344 (by decide) (fun q195 => absurd (hbest1) q195) (fun q195 => ?_)
          refine w_iconst (pc := 340) X188 C at_340 (1 : Int32) rfl ?_
          refine w_goto (pc := 341) X188 C at_341 345 (by decide) ?_
          exact w_ret_boolean (pc := 345) X188 C at_345 rfl
        · -- no
          refine w_iconst (pc := 295) X182 C at_295 (2 : Int32) rfl ?_
          refine w_istore (pc := 296) X182 C at_296 #[.val (.int x0), .val (.int x1), .val (.int x2), .val (.int x3), .val (.int x4), .val (.int (4 : Int32)), .val (.int (3 : Int32)), .val (.int (if ((ushrI x0 (10 : Int32)) &&& (1 : Int32)) = 0 then (0 : Int32) else (1 : Int32))), .val (.int (if (if ((ushrI x0 (10 : Int32)) &&& (1 : Int32)) = 0 then (0 : Int32) else (1 : Int32)) = 0 then (2147483647 : Int32) else (3 : Int32))), .val (.long v0), .second, .val (.long v1), .second, .val (.long v2), .second, .val (.long v3), .second, .val (.ref a167), .val (.ref a172), .val (.int (2 : Int32)), .val (.int (2 : Int32)), .unset] rfl ?_
          refine w_aload (pc := 298) X182 C at_298 rfl rfl ?_
          refine w_iload (pc := 300) X182 C at_300 rfl ?_
          have gg0 : g171 0 = v0 := by simp [hg171, hg170, hg169, hg168, up]
          have gg1 : g171 1 = v1 := by simp [hg171, hg170, hg169, hg168, up]
          have gg2 : g171 2 = v2 := by simp [hg171, hg170, hg169, hg168, up]
          have gg3 : g171 3 = v3 := by simp [hg171, hg170, hg169, hg168, up]
          refine w_callS (pc := 302) X182 C (y := (⟨"termwright/index/MergePolicy", "cheapest", "([JI)[I"⟩ : MethodName)) (bytes := prog_68_method_5_code) (maxL := 9) (rt := (some (.array .int))) (argsL := [(.ref a167), (.int (3 : Int32))]) (rest := []) (W := 0) at_302 (List.mem_of_getElem? (i := 2) rfl) (List.mem_of_getElem? (i := 3) rfl) (List.mem_of_getElem? (i := 4) rfl) (List.mem_of_getElem? (i := 5) rfl) (by decide) (ct1_4_3 l C.2.2.2.2.2.2.2.2 _ X182.size (a167) g171 v0 v1 v2 v3 Ak183 gg0 gg1 gg2 gg3 hv0 hv1 hv2 hv3) rfl ⟨_, _, pd_0, rfl⟩ rfl (Nat.le_of_eq rfl) (by decide) (by decide) (by decide) (by decide) (fun v_196 T196 P196 X196 => ?_)
          obtain ⟨r196, b196, gr196, rfl, hr196, Ar196, hz196, ho196, hsp196⟩ := P196
          have z0 : (0 : Int64).toInt = 0 := rfl
          have lq185 := Int64.le_iff_toInt_le.mp (Int64.not_lt.mp q185)
          have u197a := c_lsub p3 v0
          have u197b := rng64 (p3 - v0)
          have u198a := c_lsub p2 0
          have u198b := rng64 (p2 - 0)
          have lq187 := Int64.lt_iff_toInt_lt.mp q187
          have u199a := c_lsub p4 p2
          have u199b := rng64 (p4 - p2)
          have u200a := c_lsub p2 0
          have u200b := rng64 (p2 - 0)
          have hbb : b196 = (2 : Int32) := by
            rcases hsp196 with ⟨w1, w2⟩ | ⟨w1, w2⟩ | ⟨w1, w2⟩
            all_goals first | exact w1 | (exfalso; omega)
          have hbest0 : gr196 0 = (2 : Int32) := by rw [hz196, hbb]
          have hbest1 : gr196 1 = ((2 : Int32) + (2 : Int32)) := by rw [ho196, hbb]
          refine w_astore (pc := 305) X196 C at_305 #[.val (.int x0), .val (.int x1), .val (.int x2), .val (.int x3), .val (.int x4), .val (.int (4 : Int32)), .val (.int (3 : Int32)), .val (.int (if ((ushrI x0 (10 : Int32)) &&& (1 : Int32)) = 0 then (0 : Int32) else (1 : Int32))), .val (.int (if (if ((ushrI x0 (10 : Int32)) &&& (1 : Int32)) = 0 then (0 : Int32) else (1 : Int32)) = 0 then (2147483647 : Int32) else (3 : Int32))), .val (.long v0), .second, .val (.long v1), .second, .val (.long v2), .second, .val (.long v3), .second, .val (.ref a167), .val (.ref a172), .val (.int (2 : Int32)), .val (.int (2 : Int32)), .val (.ref r196)] rfl rfl ?_
          refine w_aload (pc := 307) X196 C at_307 rfl rfl ?_
          refine w_ifnull_no (pc := 309) X196 C at_309 ?_
          refine w_aload (pc := 312) X196 C at_312 rfl rfl ?_
          refine w_arraylength (pc := 314) X196 C at_314 Ar196 ?_
          refine w_iconst (pc := 315) X196 C at_315 (2 : Int32) rfl ?_
          refine w_icmp_ne (pc := 316) X196 C at_316 344 (by decide) (fun q201 => absurd (by decide) q201) (fun q201 => ?_)
          refine w_aload (pc := 319) X196 C at_319 rfl rfl ?_
          refine w_iconst (pc := 321) X196 C at_321 (0 : Int32) rfl ?_
          refine w_iaload (pc := 322) X196 C at_322 Ar196 0 (by decide) (by decide) ?_
          refine w_iload (pc := 323) X196 C at_323 rfl ?_
          refine w_icmp_ne (pc := 325) X196 C at_325 344 (by decide) (fun q202 => absurd (hbest0) q202) (fun q202 => ?_)
          refine w_aload (pc := 328) X196 C at_328 rfl rfl ?_
          refine w_iconst (pc := 330) X196 C at_330 (1 : Int32) rfl ?_
          refine w_iaload (pc := 331) X196 C at_331 Ar196 1 (by decide) (by decide) ?_
          refine w_iload (pc := 332) X196 C at_332 rfl ?_
          refine w_iload (pc := 334) X196 C at_334 rfl ?_
          refine w_iadd (pc := 336) X196 C at_336 ?_
          refine w_icmp_ne (pc := 337) X196 C at_337 344 (by decide) (fun q203 => absurd (hbest1) q203) (fun q203 => ?_)
          refine w_iconst (pc := 340) X196 C at_340 (1 : Int32) rfl ?_
          refine w_goto (pc := 341) X196 C at_341 345 (by decide) ?_
          exact w_ret_boolean (pc := 345) X196 C at_345 rfl
      · -- no
        refine w_iconst (pc := 256) X182 C at_256 (1 : Int32) rfl ?_
        refine w_istore (pc := 257) X182 C at_257 #[.val (.int x0), .val (.int x1), .val (.int x2), .val (.int x3), .val (.int x4), .val (.int (4 : Int32)), .val (.int (3 : Int32)), .val (.int (if ((ushrI x0 (10 : Int32)) &&& (1 : Int32)) = 0 then (0 : Int32) else (1 : Int32))), .val (.int (if (if ((ushrI x0 (10 : Int32)) &&& (1 : Int32)) = 0 then (0 : Int32) else (1 : Int32)) = 0 then (2147483647 : Int32) else (3 : Int32))), .val (.long v0), .second, .val (.long v1), .second, .val (.long v2), .second, .val (.long v3), .second, .val (.ref a167), .val (.ref a172), .val (.int (2 : Int32)), .val (.int (1 : Int32)), .unset] rfl ?_
        refine w_iload (pc := 259) X182 C at_259 rfl ?_
        refine w_iconst (pc := 261) X182 C at_261 (3 : Int32) rfl ?_
        refine w_icmp_lt (pc := 262) X182 C at_262 298 (by decide) (fun q204 => absurd q204 (by decide)) (fun q204 => ?_)
        refine w_aload (pc := 265) X182 C at_265 rfl rfl ?_
        refine w_iconst (pc := 267) X182 C at_267 (2 : Int32) rfl ?_
        refine w_iload (pc := 268) X182 C at_268 rfl ?_
        refine w_iadd (pc := 270) X182 C at_270 ?_
        refine w_laload (pc := 271) X182 C at_271 A182 4 (by decide) (by decide) ?_
        rw [pp4]
        refine w_aload (pc := 272) X182 C at_272 rfl rfl ?_
        refine w_iconst (pc := 274) X182 C at_274 (2 : Int32) rfl ?_
        refine w_laload (pc := 275) X182 C at_275 A182 2 (by decide) (by decide) ?_
        rw [pp2]
        refine w_lsub (pc := 276) X182 C at_276 ?_
        refine w_aload (pc := 277) X182 C at_277 rfl rfl ?_
        refine w_iload (pc := 279) X182 C at_279 rfl ?_
        refine w_iload (pc := 281) X182 C at_281 rfl ?_
        refine w_iadd (pc := 283) X182 C at_283 ?_
        refine w_laload (pc := 284) X182 C at_284 A182 3 (by decide) (by decide) ?_
        rw [pp3]
        refine w_aload (pc := 285) X182 C at_285 rfl rfl ?_
        refine w_iload (pc := 287) X182 C at_287 rfl ?_
        refine w_laload (pc := 289) X182 C at_289 A182 1 (by decide) (by decide) ?_
        rw [pp1]
        refine w_lsub (pc := 290) X182 C at_290 ?_
        refine w_lcmp (pc := 291) X182 C at_291 ?_
        refine w_ifJ_ge (pc := 292) X182 C at_292 298 (by decide) (fun q205 => ?_) (fun q205 => ?_)
        · -- yes
          refine w_aload (pc := 298) X182 C at_298 rfl rfl ?_
          refine w_iload (pc := 300) X182 C at_300 rfl ?_
          have gg0 : g171 0 = v0 := by simp [hg171, hg170, hg169, hg168, up]
          have gg1 : g171 1 = v1 := by simp [hg171, hg170, hg169, hg168, up]
          have gg2 : g171 2 = v2 := by simp [hg171, hg170, hg169, hg168, up]
          have gg3 : g171 3 = v3 := by simp [hg171, hg170, hg169, hg168, up]
          refine w_callS (pc := 302) X182 C (y := (⟨"termwright/index/MergePolicy", "cheapest", "([JI)[I"⟩ : MethodName)) (bytes := prog_68_method_5_code) (maxL := 9) (rt := (some (.array .int))) (argsL := [(.ref a167), (.int (3 : Int32))]) (rest := []) (W := 0) at_302 (List.mem_of_getElem? (i := 2) rfl) (List.mem_of_getElem? (i := 3) rfl) (List.mem_of_getElem? (i := 4) rfl) (List.mem_of_getElem? (i := 5) rfl) (by decide) (ct1_4_3 l C.2.2.2.2.2.2.2.2 _ X182.size (a167) g171 v0 v1 v2 v3 Ak183 gg0 gg1 gg2 gg3 hv0 hv1 hv2 hv3) rfl ⟨_, _, pd_0, rfl⟩ rfl (Nat.le_of_eq rfl) (by decide) (by decide) (by decide) (by decide) (fun v_206 T206 P206 X206 => ?_)
          obtain ⟨r206, b206, gr206, rfl, hr206, Ar206, hz206, ho206, hsp206⟩ := P206
          have z0 : (0 : Int64).toInt = 0 := rfl
          have lq185 := Int64.lt_iff_toInt_lt.mp q185
          have u207a := c_lsub p3 v0
          have u207b := rng64 (p3 - v0)
          have u208a := c_lsub p2 0
          have u208b := rng64 (p2 - 0)
          have lq205 := Int64.le_iff_toInt_le.mp (Int64.not_lt.mp q205)
          have u209a := c_lsub p4 p2
          have u209b := rng64 (p4 - p2)
          have u210a := c_lsub p3 v0
          have u210b := rng64 (p3 - v0)
          have hbb : b206 = (1 : Int32) := by
            rcases hsp206 with ⟨w1, w2⟩ | ⟨w1, w2⟩ | ⟨w1, w2⟩
            all_goals first | exact w1 | (exfalso; omega)
          have hbest0 : gr206 0 = (1 : Int32) := by rw [hz206, hbb]
          have hbest1 : gr206 1 = ((1 : Int32) + (2 : Int32)) := by rw [ho206, hbb]
          refine w_astore (pc := 305) X206 C at_305 #[.val (.int x0), .val (.int x1), .val (.int x2), .val (.int x3), .val (.int x4), .val (.int (4 : Int32)), .val (.int (3 : Int32)), .val (.int (if ((ushrI x0 (10 : Int32)) &&& (1 : Int32)) = 0 then (0 : Int32) else (1 : Int32))), .val (.int (if (if ((ushrI x0 (10 : Int32)) &&& (1 : Int32)) = 0 then (0 : Int32) else (1 : Int32)) = 0 then (2147483647 : Int32) else (3 : Int32))), .val (.long v0), .second, .val (.long v1), .second, .val (.long v2), .second, .val (.long v3), .second, .val (.ref a167), .val (.ref a172), .val (.int (2 : Int32)), .val (.int (1 : Int32)), .val (.ref r206)] rfl rfl ?_
          refine w_aload (pc := 307) X206 C at_307 rfl rfl ?_
          refine w_ifnull_no (pc := 309) X206 C at_309 ?_
          refine w_aload (pc := 312) X206 C at_312 rfl rfl ?_
          refine w_arraylength (pc := 314) X206 C at_314 Ar206 ?_
          refine w_iconst (pc := 315) X206 C at_315 (2 : Int32) rfl ?_
          refine w_icmp_ne (pc := 316) X206 C at_316 344 (by decide) (fun q211 => absurd (by decide) q211) (fun q211 => ?_)
          refine w_aload (pc := 319) X206 C at_319 rfl rfl ?_
          refine w_iconst (pc := 321) X206 C at_321 (0 : Int32) rfl ?_
          refine w_iaload (pc := 322) X206 C at_322 Ar206 0 (by decide) (by decide) ?_
          refine w_iload (pc := 323) X206 C at_323 rfl ?_
          refine w_icmp_ne (pc := 325) X206 C at_325 344 (by decide) (fun q212 => absurd (hbest0) q212) (fun q212 => ?_)
          refine w_aload (pc := 328) X206 C at_328 rfl rfl ?_
          refine w_iconst (pc := 330) X206 C at_330 (1 : Int32) rfl ?_
          refine w_iaload (pc := 331) X206 C at_331 Ar206 1 (by decide) (by decide) ?_
          refine w_iload (pc := 332) X206 C at_332 rfl ?_
          refine w_iload (pc := 334) X206 C at_334 rfl ?_
          refine w_iadd (pc := 336) X206 C at_336 ?_
          refine w_icmp_ne (pc := 337) X206 C at_337 344 (by decide) (fun q213 => absurd (hbest1) q213) (fun q213 => ?_)
          refine w_iconst (pc := 340) X206 C at_340 (1 : Int32) rfl ?_
          refine w_goto (pc := 341) X206 C at_341 345 (by decide) ?_
          exact w_ret_boolean (pc := 345) X206 C at_345 rfl
        · -- no
          refine w_iconst (pc := 295) X182 C at_295 (2 : Int32) rfl ?_
          refine w_istore (pc := 296) X182 C at_296 #[.val (.int x0), .val (.int x1), .val (.int x2), .val (.int x3), .val (.int x4), .val (.int (4 : Int32)), .val (.int (3 : Int32)), .val (.int (if ((ushrI x0 (10 : Int32)) &&& (1 : Int32)) = 0 then (0 : Int32) else (1 : Int32))), .val (.int (if (if ((ushrI x0 (10 : Int32)) &&& (1 : Int32)) = 0 then (0 : Int32) else (1 : Int32)) = 0 then (2147483647 : Int32) else (3 : Int32))), .val (.long v0), .second, .val (.long v1), .second, .val (.long v2), .second, .val (.long v3), .second, .val (.ref a167), .val (.ref a172), .val (.int (2 : Int32)), .val (.int (2 : Int32)), .unset] rfl ?_
          refine w_aload (pc := 298) X182 C at_298 rfl rfl ?_
          refine w_iload (pc := 300) X182 C at_300 rfl ?_
          have gg0 : g171 0 = v0 := by simp [hg171, hg170, hg169, hg168, up]
          have gg1 : g171 1 = v1 := by simp [hg171, hg170, hg169, hg168, up]
          have gg2 : g171 2 = v2 := by simp [hg171, hg170, hg169, hg168, up]
          have gg3 : g171 3 = v3 := by simp [hg171, hg170, hg169, hg168, up]
          refine w_callS (pc := 302) X182 C (y := (⟨"termwright/index/MergePolicy", "cheapest", "([JI)[I"⟩ : MethodName)) (bytes := prog_68_method_5_code) (maxL := 9) (rt := (some (.array .int))) (argsL := [(.ref a167), (.int (3 : Int32))]) (rest := []) (W := 0) at_302 (List.mem_of_getElem? (i := 2) rfl) (List.mem_of_getElem? (i := 3) rfl) (List.mem_of_getElem? (i := 4) rfl) (List.mem_of_getElem? (i := 5) rfl) (by decide) (ct1_4_3 l C.2.2.2.2.2.2.2.2 _ X182.size (a167) g171 v0 v1 v2 v3 Ak183 gg0 gg1 gg2 gg3 hv0 hv1 hv2 hv3) rfl ⟨_, _, pd_0, rfl⟩ rfl (Nat.le_of_eq rfl) (by decide) (by decide) (by decide) (by decide) (fun v_214 T214 P214 X214 => ?_)
          obtain ⟨r214, b214, gr214, rfl, hr214, Ar214, hz214, ho214, hsp214⟩ := P214
          have z0 : (0 : Int64).toInt = 0 := rfl
          have lq185 := Int64.lt_iff_toInt_lt.mp q185
          have u215a := c_lsub p3 v0
          have u215b := rng64 (p3 - v0)
          have u216a := c_lsub p2 0
          have u216b := rng64 (p2 - 0)
          have lq205 := Int64.lt_iff_toInt_lt.mp q205
          have u217a := c_lsub p4 p2
          have u217b := rng64 (p4 - p2)
          have u218a := c_lsub p3 v0
          have u218b := rng64 (p3 - v0)
          have hbb : b214 = (2 : Int32) := by
            rcases hsp214 with ⟨w1, w2⟩ | ⟨w1, w2⟩ | ⟨w1, w2⟩
            all_goals first | exact w1 | (exfalso; omega)
          have hbest0 : gr214 0 = (2 : Int32) := by rw [hz214, hbb]
          have hbest1 : gr214 1 = ((2 : Int32) + (2 : Int32)) := by rw [ho214, hbb]
          refine w_astore (pc := 305) X214 C at_305 #[.val (.int x0), .val (.int x1), .val (.int x2), .val (.int x3), .val (.int x4), .val (.int (4 : Int32)), .val (.int (3 : Int32)), .val (.int (if ((ushrI x0 (10 : Int32)) &&& (1 : Int32)) = 0 then (0 : Int32) else (1 : Int32))), .val (.int (if (if ((ushrI x0 (10 : Int32)) &&& (1 : Int32)) = 0 then (0 : Int32) else (1 : Int32)) = 0 then (2147483647 : Int32) else (3 : Int32))), .val (.long v0), .second, .val (.long v1), .second, .val (.long v2), .second, .val (.long v3), .second, .val (.ref a167), .val (.ref a172), .val (.int (2 : Int32)), .val (.int (2 : Int32)), .val (.ref r214)] rfl rfl ?_
          refine w_aload (pc := 307) X214 C at_307 rfl rfl ?_
          refine w_ifnull_no (pc := 309) X214 C at_309 ?_
          refine w_aload (pc := 312) X214 C at_312 rfl rfl ?_
          refine w_arraylength (pc := 314) X214 C at_314 Ar214 ?_
          refine w_iconst (pc := 315) X214 C at_315 (2 : Int32) rfl ?_
          refine w_icmp_ne (pc := 316) X214 C at_316 344 (by decide) (fun q219 => absurd (by decide) q219) (fun q219 => ?_)
          refine w_aload (pc := 319) X214 C at_319 rfl rfl ?_
          refine w_iconst (pc := 321) X214 C at_321 (0 : Int32) rfl ?_
          refine w_iaload (pc := 322) X214 C at_322 Ar214 0 (by decide) (by decide) ?_
          refine w_iload (pc := 323) X214 C at_323 rfl ?_
          refine w_icmp_ne (pc := 325) X214 C at_325 344 (by decide) (fun q220 => absurd (hbest0) q220) (fun q220 => ?_)
          refine w_aload (pc := 328) X214 C at_328 rfl rfl ?_
          refine w_iconst (pc := 330) X214 C at_330 (1 : Int32) rfl ?_
          refine w_iaload (pc := 331) X214 C at_331 Ar214 1 (by decide) (by decide) ?_
          refine w_iload (pc := 332) X214 C at_332 rfl ?_
          refine w_iload (pc := 334) X214 C at_334 rfl ?_
          refine w_iadd (pc := 336) X214 C at_336 ?_
          refine w_icmp_ne (pc := 337) X214 C at_337 344 (by decide) (fun q221 => absurd (hbest1) q221) (fun q221 => ?_)
          refine w_iconst (pc := 340) X214 C at_340 (1 : Int32) rfl ?_
          refine w_goto (pc := 341) X214 C at_341 345 (by decide) ?_
          exact w_ret_boolean (pc := 345) X214 C at_345 rfl
set_option maxRecDepth 65536 in
theorem law_ct (l : Launch) {Z : State} {a0 : Array Value} (hw : ∀ d ∈ tables_1, d.before a0 Z = true) (h : Heap) {n0 : Nat} (hn : n0 ≤ h.size) (x0 : Int32) (x1 : Int32) (x2 : Int32) (x3 : Int32) (x4 : Int32) : Ct l x code maxLocals ret room_1 Z #[(.int x0), (.int x1), (.int x2), (.int x3), (.int x4)] h n0 (fun v _ => v = some (.int 1)) :=
  Ct.of (plainFor_of_name pn_1) #[.val (.int x0), .val (.int x1), .val (.int x2), .val (.int x3), .val (.int x4), .unset, .unset, .unset, .unset, .unset, .unset, .unset, .unset, .unset, .unset, .unset, .unset, .unset, .unset, .unset, .unset, .unset] (fun m => by first | (simp [entryFrame, mkF, argsToLocals, Value.category, maxLocals]; done) | rfl) hw hn (fun p e s m below meth c T C X => law_walk X C x0 x1 x2 x3 x4)
set_option maxRecDepth 65536 in
set_option maxHeartbeats 40000000 in
theorem comes_1 {Post : Tables → Env → Array Value → State → Outcome → State → Prop} (hpost : ∀ tb e args s v u, (limb_1_1.after args s (.returned v) u = true ∧ limb_1_2.after args s (.returned v) u = true ∧ True) → FrameEnd s (.returned v) u (Jvm.fieldLocs frame_1_writes args s ++ Jvm.arrayLocs frame_1_arrays args s ++ Jvm.staticLocs frame_1_statics s) 16 128 → Post tb e args s (.returned v) u) :
    ArmFor flags0 classFile x code maxLocals ret World_1 tables_1 room_1 Calls_1 rest_1 Pre_1 Post := by
  intro l hfl _ _ p e ha hc hk s m args below hf hA hF happ hP
  obtain ⟨hcalls, hrest, hpre⟩ := hP
  obtain ⟨-, -, -, hnamed, -, -, -, hat⟩ := (Spec.applies_iff hf).mp happ
  obtain ⟨hg, hn⟩ := and_e (Cond.before_iff.mp (show (Jvm.Cond.and given_1 narrow_1).before args s = true from hpre))
  obtain ⟨g1, g2⟩ := and_e hg
  obtain ⟨g3, g4⟩ := and_e g2
  obtain ⟨g5, g6⟩ := and_e g4
  obtain ⟨g7, g8⟩ := and_e g6
  obtain ⟨g9, g10⟩ := and_e g8
  obtain ⟨w0, w1, w2, w3, w4, rfl⟩ : ∃ w0 w1 w2 w3 w4 : Value, args = #[w0, w1, w2, w3, w4] := by
    have hs : args.size = 5 := by simpa [Cond.value, given_1] using g1
    obtain ⟨L⟩ := args
    match L, hs with
    | [w0, w1, w2, w3, w4], _ => exact ⟨w0, w1, w2, w3, w4, rfl⟩
  have hw := fun d (hd : d ∈ tables_1) => atoms_spec (ws := Jvm.Cond.code x code maxLocals ret :: tables_1) hat d (List.mem_cons_of_mem _ hd)
  obtain ⟨i0, ei0⟩ := is_v g3
  obtain rfl : w0 = (.int i0) := Option.some.inj ei0
  obtain ⟨i1, ei1⟩ := is_v g5
  obtain rfl : w1 = (.int i1) := Option.some.inj ei1
  obtain ⟨i2, ei2⟩ := is_v g7
  obtain rfl : w2 = (.int i2) := Option.some.inj ei2
  obtain ⟨i3, ei3⟩ := is_v g9
  obtain rfl : w3 = (.int i3) := Option.some.inj ei3
  obtain ⟨i4, ei4⟩ := is_v g10
  obtain rfl : w4 = (.int i4) := Option.some.inj ei4
  obtain ⟨n, o, h1, h2, h3, _, L, rfl, ⟨N, rfl⟩, hq⟩ := law_ct l hw s.heap (Nat.le_refl _) i0 i1 i2 i3 i4 tables_1 p e ha hc hk s m _ below hf ((Spec.applies_iff_loose hf).mp happ).1 ⟨rfl, State.Warmed39.refl s, rfl⟩ trivial
  refine ⟨n, _, h1, h2, h3, hpost _ _ _ _ _ _ ⟨Cond.after_iff.mpr rfl, Cond.after_iff.mpr (eq_i res_at (Term.int_eval (1)) rfl), trivial⟩ ⟨hq.1, hq.2.1, (hq.2.2.sift fun y hy => Or.inr (N y hy)).mono (by decide) (by decide)⟩⟩
theorem main_1_1 : Claimed_1_1 := comes_1 fun _ _ _ _ _ _ h hF => ⟨h.1, hF⟩
theorem main_1_2 : Claimed_1_2 := comes_1 fun _ _ _ _ _ _ h hF => ⟨h.2.1, hF⟩
end Jvm.Pilot.@@N@@
namespace Jvm.Pilot.@@N@@
open Jvm Jvm.ClassFile Sem Op Lib Jvm.Free Jvm.Stand Jvm.Pilot.@@N@@.Jvm.D
/-! MADE BY PROGRAM (witnessworld.py) out of the Statement's table words and the real class files: 11 classes; the members and pool entries that the words name. The judged class is class 1, her method 1. -/
namespace start1
open Jvm.ClassFile
def u (s : String) : CpInfo := .utf8 (stringToUtf16 s)
/-- a pool by its gaps: so many unusable entries, then the entry; so many at the end -/
def gap : Nat → List CpInfo → List CpInfo
  | 0, r => r
  | n + 1, r => .unusable :: gap n r
def poolList (es : List (Nat × CpInfo)) (last : Nat) : List CpInfo := es.foldr (fun e r => gap e.1 (e.2 :: r)) (gap last [])
def pool (es : List (Nat × CpInfo)) (last : Nat) : Array CpInfo := ⟨poolList es last⟩
def fileOf (pool : Array CpInfo) (this : Nat) (attrs : Array Attribute := #[]) (ms : Array MethodInfo := #[]) (fl : Nat := 33) (sup : Nat := 0) (ifs : Array Nat := #[]) (fds : Array FieldInfo := #[]) : ClassFile where
  minorVersion := 0
  majorVersion := 65
  constantPool := pool
  accessFlags := fl
  thisClass := this
  superClass := sup
  interfaces := ifs
  fields := fds
  methods := ms
  attributes := attrs
def plain (name : String) (sup : Option ClassId) : Class where
  name := name
  kind := .ordinary
  loader := none
  accessFlags := 33
  super := sup
  interfaces := #[]
  cf := none
  fields := #[]
  methods := #[]
  instanceTypes := #[]
  staticTypes := #[]
  resolved := #[]
  callSites := []
  init := .initialized
  statics := none
  mirror := none

def pool0 : Array CpInfo := pool [(5, u "<init>"), (0, u "()V"), (1, .class_ 10), (1, u "java/lang/Object")] 113

def k0m0 : Method := { name := "<init>", desc := "()V", sig := { parameters := [], returnType := none }, accessFlags := 1, code := none }
/-- java/lang/Object -/
def k0 : Class := { plain "java/lang/Object" none with
  accessFlags := 33
  interfaces := #[]
  cf := some (fileOf pool0 8 #[] #[{ accessFlags := 1, nameIndex := 5, descriptorIndex := 6, attributes := #[] }] 33 0 #[] #[])
  fields := #[]
  methods := #[k0m0]
  instanceTypes := #[]
  staticTypes := #[]
  resolved := Array.replicate 124 none
  statics := none }

def pool1 : Array CpInfo := pool [(2, .class_ 4), (1, u "java/lang/Object"), (0, u "<init>"), (0, u "()V"), (0, .integer 2147483647), (0, .methodref 9 10), (0, .class_ 11), (0, .nameAndType 12 13), (0, u "termwright/index/MergePolicy"), (0, u "cheapest"), (0, u "([JI)[I"), (0, .class_ 15), (0, u "termwright/index/MergePolicyCheapestPinLaw"), (2, u "law"), (0, u "(IIIII)Z")] 7

def k1m0 : Method := { name := "<init>", desc := "()V", sig := { parameters := [], returnType := none }, accessFlags := 1, code := none }
def k1c1 : Code := { maxStack := 7, maxLocals := 22, code := code, exceptionTable := #[], attributes := #[] }
def k1m1 : Method := { name := "law", desc := "(IIIII)Z", sig := { parameters := [.int, .int, .int, .int, .int], returnType := some .boolean }, accessFlags := 9, code := some k1c1 }
/-- termwright/index/MergePolicyCheapestPinLaw -/
def k1 : Class := { plain "termwright/index/MergePolicyCheapestPinLaw" (some 0) with
  accessFlags := 49
  interfaces := #[]
  cf := some (fileOf pool1 14 #[] #[{ accessFlags := 1, nameIndex := 5, descriptorIndex := 6, attributes := #[] }, { accessFlags := 9, nameIndex := 18, descriptorIndex := 19, attributes := #[] }] 49 2 #[] #[])
  fields := #[]
  methods := #[k1m0, k1m1]
  instanceTypes := #[]
  staticTypes := #[]
  resolved := Array.replicate 27 none
  statics := none }

def pool2 : Array CpInfo := pool [(2, .class_ 4), (1, u "java/lang/Object"), (0, u "<init>"), (0, u "()V"), (3, .class_ 12), (1, u "termwright/index/MergePolicy"), (19, u "FEW"), (0, u "I"), (2, u "GROWN_BYTES"), (0, u "J"), (0, u "GROWTH"), (1, u "SLACK"), (12, u "cheapest"), (0, u "([JI)[I")] 2

def k2m0 : Method := { name := "<init>", desc := "()V", sig := { parameters := [], returnType := none }, accessFlags := 2, code := none }
def k2c1 : Code := { maxStack := 7, maxLocals := 9, code := prog_68_method_5_code, exceptionTable := #[], attributes := #[] }
def k2m1 : Method := { name := "cheapest", desc := "([JI)[I", sig := { parameters := [(.array .long), .int], returnType := some (.array .int) }, accessFlags := 8, code := some k2c1 }
/-- termwright/index/MergePolicy -/
def k2 : Class := { plain "termwright/index/MergePolicy" (some 0) with
  accessFlags := 48
  interfaces := #[]
  cf := some (fileOf pool2 10 #[] #[{ accessFlags := 2, nameIndex := 5, descriptorIndex := 6, attributes := #[] }, { accessFlags := 8, nameIndex := 53, descriptorIndex := 54, attributes := #[] }] 48 2 #[] #[{ accessFlags := 24, nameIndex := 32, descriptorIndex := 33, attributes := #[] }, { accessFlags := 24, nameIndex := 36, descriptorIndex := 37, attributes := #[] }, { accessFlags := 24, nameIndex := 38, descriptorIndex := 33, attributes := #[] }, { accessFlags := 24, nameIndex := 40, descriptorIndex := 33, attributes := #[] }])
  fields := #[{ name := "FEW", type := .int, accessFlags := 24, slot := 0, constantValue := 0 }, { name := "GROWN_BYTES", type := .long, accessFlags := 24, slot := 1, constantValue := 0 }, { name := "GROWTH", type := .int, accessFlags := 24, slot := 2, constantValue := 0 }, { name := "SLACK", type := .int, accessFlags := 24, slot := 3, constantValue := 0 }]
  methods := #[k2m0, k2m1]
  instanceTypes := #[]
  staticTypes := #[.int, .long, .int, .int]
  resolved := Array.replicate 57 none
  statics := none }

def pool3 : Array CpInfo := pool [(1, u "java/lang/Cloneable"), (0, .class_ 1), (0, u "java/lang/Object"), (0, .class_ 3)] 3

/-- java/lang/Cloneable -/
def k3 : Class := { plain "java/lang/Cloneable" (some 0) with
  accessFlags := 1537
  interfaces := #[]
  cf := some (fileOf pool3 2 #[] #[] 1537 4 #[] #[])
  fields := #[]
  methods := #[]
  instanceTypes := #[]
  staticTypes := #[]
  resolved := Array.replicate 8 none
  statics := none }

def pool4 : Array CpInfo := pool [(1, u "java/io/Serializable"), (0, .class_ 1), (0, u "java/lang/Object"), (0, .class_ 3)] 3

/-- java/io/Serializable -/
def k4 : Class := { plain "java/io/Serializable" (some 0) with
  accessFlags := 1537
  interfaces := #[]
  cf := some (fileOf pool4 2 #[] #[] 1537 4 #[] #[])
  fields := #[]
  methods := #[]
  instanceTypes := #[]
  staticTypes := #[]
  resolved := Array.replicate 8 none
  statics := none }

/-- the primitive byte -/
def k5 : Class := { plain "byte" none with kind := .primitive 'B', accessFlags := 0x411 }
/-- [B -/
def k6 : Class := { plain "[B" (some 0) with kind := .array 5 .byte, interfaces := #[3, 4], accessFlags := 1041 }

/-- the primitive int -/
def k7 : Class := { plain "int" none with kind := .primitive 'I', accessFlags := 0x411 }
/-- [I -/
def k8 : Class := { plain "[I" (some 0) with kind := .array 7 .int, interfaces := #[3, 4], accessFlags := 1041 }

/-- the primitive long -/
def k9 : Class := { plain "long" none with kind := .primitive 'J', accessFlags := 0x411 }
/-- [J -/
def k10 : Class := { plain "[J" (some 0) with kind := .array 9 .long, interfaces := #[3, 4], accessFlags := 1041 }

def heap : Heap := #[]
def classes : Array Class := #[k0, k1, k2, k3, k4, k5, k6, k7, k8, k9, k10]
def interned : List (Array UInt16 × Addr) := []
def slotsUsed : Nat := 0
def theMethod : MethodId := ⟨1, 1⟩
def args0 : Array Value := #[.int 5, .int 3, .int 2, .int 4, .int 6]
def aboutOver (below : List Frame) : State where
  vm := { classes := classes, interned := interned.toArray }
  heap := heap
  slotsUsed := slotsUsed
  threads := #[{ frames := .invoking theMethod args0 :: below }]
def below0 : List Frame := [.native { method := ⟨0, 0⟩, args := #[] }]
def about1 : State := aboutOver below0
def p0 : Program := .bare "" "" ""
def e0 : Env := launch0.env 0 0 0
theorem w_frames : about1.frames = Frame.invoking theMethod args0 :: below0 := rfl
set_option maxRecDepth 65536 in
theorem w_args : argsFit about1.vm theMethod args0 = true := by decide +kernel
set_option maxRecDepth 65536 in
theorem w_heap : heapFits about1 = true := by decide +kernel
set_option maxRecDepth 65536 in
theorem w_runnable : about1.curStatus? = some .runnable := by decide +kernel
set_option maxRecDepth 65536 in
theorem w_alone : about1.alone = true := by decide +kernel
set_option maxRecDepth 65536 in
theorem w_named : about1.methodNamed? x = some theMethod := by decide +kernel
set_option maxRecDepth 65536 in
theorem w_hears : about1.hears theMethod below0 = true := by decide +kernel
set_option maxRecDepth 65536 in
theorem w_ripe : about1.ripe theMethod args0 below0 = true := by decide +kernel
theorem w_running : about1.status = .running := rfl
set_option maxRecDepth 65536 in
theorem w_room : about1.hasRoom e0.platform room_1 = true :=
  launch0.hasRoom_least _ room_1 (by decide +kernel) (by decide +kernel) (by decide +kernel) (by decide +kernel) (by decide +kernel) (by decide +kernel)
theorem allAtoms_all (ts : List Jvm.Cond) (a : Array Jvm.Value) (st : Jvm.State) : (allAtoms ts).before a st = ts.all (fun c => c.before a st) := by
  induction ts with
  | nil => rfl
  | cons c t ih =>
    show (Jvm.Cond.and c (allAtoms t)).before a st = _
    rw [Jvm.Cond.before_and, ih, List.all_cons]
def words1 : List Jvm.Cond := Jvm.Cond.code x code maxLocals ret :: tables_1
/-- a 'code' word, met by the world's own term for the bytes: nothing is compared byte by byte -/
theorem code_word {y : MethodName} {bytes : ByteArray} {mx : Nat} {rt : Option FieldType} {a : Array Value} {s : State} {m : MethodId} {meth : Method} {c : Code} (h1 : s.methodNamed? y = some m) (h2 : s.vm.method? m = some meth) (h3 : meth.code = some c) (h4 : c.code = bytes)
    (h5 : (c.maxLocals == mx && c.exceptionTable.isEmpty && decide (c.maxStack ≤ mostOperands) && decide (meth.sig.returnType = rt) && !meth.locks && decide (parseMethodDescriptor y.desc = some meth.sig)) = true) : (Jvm.Cond.code y bytes mx rt).before a s = true := by
  simp only [Bool.and_eq_true, beq_iff_eq, Bool.not_eq_true', decide_eq_true_eq] at h5
  obtain ⟨⟨⟨⟨⟨g1, g2⟩, g3⟩, g4⟩, g5⟩, g6⟩ := h5
  simp [Cond.before, Cond.holds, Cond.value, h1, h2, h3, h4, g1, g2, g3, g4, g5, g6]
def isCode : Jvm.Cond → Bool
  | .code _ _ _ _ => true
  | _ => false
theorem all_split {L : List Jvm.Cond} {P : Jvm.Cond → Bool} (h1 : L.all (fun c => isCode c || P c) = true) (h2 : ∀ c ∈ L.filter isCode, P c = true) : L.all P = true := by
  refine List.all_eq_true.mpr fun c hc => ?_
  have h := List.all_eq_true.mp h1 c hc
  rcases Bool.eq_false_or_eq_true (isCode c) with hi | hi
  · exact h2 c (List.mem_filter.mpr ⟨hc, hi⟩)
  · simpa [hi] using h
set_option maxRecDepth 65536 in
theorem w_c0 : (Jvm.Cond.code x code maxLocals ret).before args0 about1 = true := code_word (m := ⟨1, 1⟩) (meth := k1m1) (c := k1c1) (by decide +kernel) rfl rfl rfl (by decide +kernel)
set_option maxRecDepth 65536 in
theorem w_c1 : (Jvm.Cond.code ({ cls := "termwright/index/MergePolicy", name := "cheapest", desc := "([JI)[I" } : Jvm.MethodName) prog_68_method_5_code (9 : Nat) (Option.some (Jvm.ClassFile.FieldType.array Jvm.ClassFile.FieldType.int))).before args0 about1 = true := code_word (m := ⟨2, 1⟩) (meth := k2m1) (c := k2c1) (by decide +kernel) rfl rfl rfl (by decide +kernel)
def codes1 : List Jvm.Cond := [Jvm.Cond.code x code maxLocals ret, Jvm.Cond.code ({ cls := "termwright/index/MergePolicy", name := "cheapest", desc := "([JI)[I" } : Jvm.MethodName) prog_68_method_5_code (9 : Nat) (Option.some (Jvm.ClassFile.FieldType.array Jvm.ClassFile.FieldType.int))]
set_option maxRecDepth 65536 in
theorem codes_eq : words1.filter isCode = codes1 := rfl
theorem w_codes : ∀ c ∈ words1.filter isCode, c.before args0 about1 = true := by
  rw [codes_eq]
  intro c hc
  simp only [codes1, List.mem_cons, List.not_mem_nil, or_false] at hc
  rcases hc with rfl | rfl
  · exact w_c0
  · exact w_c1
set_option maxRecDepth 65536 in
theorem w_t1 : words1.all (fun c => isCode c || c.before args0 about1) = true := by decide +kernel
theorem w_tables : (allAtoms (Jvm.Cond.code x code maxLocals ret :: tables_1)).before args0 about1 = true := by
  rw [allAtoms_all]
  show words1.all (fun c => c.before args0 about1) = true
  refine all_split ?_ w_codes
  rw [w_t1]
set_option maxRecDepth 65536 in
theorem w_case : (Jvm.Cond.and given_1 narrow_1).before args0 about1 = true := by decide +kernel
theorem w_applies : (headSpec (Jvm.Cond.code x code maxLocals ret :: tables_1) room_1).applies x e0.platform about1 = true :=
  (Spec.applies_iff w_frames).mpr ⟨w_running, w_runnable, w_alone, w_named, w_hears, w_ripe, w_room, w_tables⟩
theorem atStart : AtStart classFile x code maxLocals ret World_1 tables_1 room_1 Calls_1 rest_1 Pre_1 launch0 p0 e0 about1 theMethod args0 below0 :=
  ⟨lists_1, trivial, launch0.admits_env _ _ _, launch0.least_env, fairChoices_fair.cas, fairChoices_fair.clock, w_frames, w_args, w_heap, w_applies, trivial, trivial, w_case⟩
end start1
theorem witness_1 : WitnessClaimed_1 := ⟨start1.p0, start1.e0, start1.about1, start1.theMethod, start1.args0, start1.below0, start1.atStart⟩
end Jvm.Pilot.@@N@@
