import JvmDerived
import JvmDerived.Pilot.@@N@@Statement
import JvmDerived.Pilot.@@N@@Code
set_option linter.unusedVariables false
set_option linter.unusedSimpArgs false
namespace Jvm.OwnW
open Sem ClassFile Op Lib Jvm.Stand Jvm.Free Jvm.LawKit Jvm.RoadKit
theorem retI' {p : Program} {l : Launch} {e : Env} {R : Room} {s : State} {m : MethodId} {args : Array Value} {below : List Frame} {meth : Method} {c : Code} {T : State} {locs : List Loc} {cells slots : Nat} (X : Stand p l e R s m args below meth c T locs cells slots) (hx : p.tables.exec = Jvm.exec) {pc : Nat} {Ls : Array Slot} {z : Int32} {rest : List Value} (hret : meth.sig.returnType = some .int) (hd : decode c.code pc = .ok (.ireturn, 1)) {fs : List Frame}
    (hl : ∀ (f : JFrame) (acts : List Action), f.method = m → f.locked = none → f.entered = [] → (doReturn e (T.setTop f) acts (some (.int z))).1 = T.setFrames fs) : Steps p.tables e below (T.setTop (mkF m pc Ls (.int z :: rest))) (T.setFrames fs) :=
  retOut X hx hret rfl (Or.inl ⟨rfl, Or.inl rfl, z, rfl⟩) hd hl
end Jvm.OwnW
namespace Jvm.OwnW
open Sem ClassFile Op Lib Jvm.Stand Jvm.Free Jvm.LawKit Jvm.RoadKit
def ushrI (x y : Int32) : Int32 := (x.toUInt32 >>> (y &&& 31).toUInt32).toInt32
def shlI (x y : Int32) : Int32 := x <<< (y &&& 31)
def shrI (x y : Int32) : Int32 := x >>> (y &&& 31)
def shlJ (x : Int64) (y : Int32) : Int64 := x <<< (y &&& 0x3f).toInt64
def shrJ (x : Int64) (y : Int32) : Int64 := x >>> (y &&& 0x3f).toInt64
def ushrJ (x : Int64) (y : Int32) : Int64 := (x.toUInt64 >>> (y &&& 0x3f).toInt64.toUInt64).toInt64
def cmpJ (x y : Int64) : Int32 := if x > y then 1 else if x = y then 0 else -1
def i8 (x : Int32) : Int32 := x.toInt8.toInt32
def i16c (x : Int32) : Int32 := x.toUInt32.toUInt16.toUInt32.toInt32
/-- from T with g on top the run comes to its end, and P says of what it returns and of the heap -/
def Goes (p : Program) (e : Env) (below : List Frame) (s : State) (n0 : Nat) (P : Option Value → Heap → Prop) (k n : Nat) (T : State) (g : JFrame) : Prop :=
  ∃ s₂ o, Steps p.tables e below (T.setTop g) s₂ ∧ s₂.status = .running ∧ Ended s₂ below o ∧ ∃ v L, o = .returned v ∧ (Fr n0 L ∧ P v s₂.heap) ∧ FrameEnd s o s₂ L k n
/-- where a walk stands: nothing old is written, the heap is h -/
def Hr (p : Program) (l : Launch) (e : Env) (R : Room) (s : State) (m : MethodId) (args : Array Value) (below : List Frame) (meth : Method) (c : Code) (n0 : Nat) (h : Heap) (cells slots : Nat) (T : State) : Prop :=
  ∃ locs, Stand p l e R s m args below meth c T locs cells slots ∧ T.heap = h ∧ Fr n0 locs ∧ n0 ≤ s.heap.size
/-- what stays through a body -/
def Cx (p : Program) (s : State) (m : MethodId) (meth : Method) (c : Code) (code : ByteArray) (ml : Nat) (ret : Option FieldType) (own nm : String) (Z : State) (a0 : Array Value) (tabs : List Jvm.Cond) : Prop :=
  p.tables.exec = Jvm.exec ∧ c.code = code ∧ c.maxLocals = ml ∧ meth.sig.returnType = ret ∧ meth.locks = false ∧ s.vm.findClass own = some m.cls ∧ meth.name = nm ∧ Z.Warmed39 s.vm ∧ ∀ d ∈ tabs, d.before a0 Z = true
/-- a body's contract: called with these arguments at this heap it returns, nothing old is written, and P says the rest -/
def Ct (l : Launch) (y : MethodName) (bytes : ByteArray) (maxL : Nat) (ret : Option FieldType) (rm : Room) (Z : State) (as' : Array Value) (h : Heap) (n0 : Nat) (P : Option Value → Heap → Prop) : Prop :=
  ∀ ws, MetFree l y (head1 (Jvm.Cond.code y bytes maxL ret :: ws) rm) (fun a U => a = as' ∧ Z.Warmed39 U.vm ∧ U.heap = h) (fun _ _ _ _ _ => True) (fun _ U o U' => ∃ v L, o = .returned v ∧ (Fr n0 L ∧ P v U'.heap) ∧ FrameEnd U o U' L rm.cells rm.slots)
def up {α : Type} (g : Nat → α) (j : Nat) (v : α) : Nat → α := fun i => if i = j then v else g i
/-- an array of N places: place i holds f i -/
def ArV (Z : State) (h : Heap) (a : Addr) (ty : FieldType) (N : Nat) (f : Nat → Value) : Prop := ∃ cl : Cell, Arr Z h a cl ty ∧ cl.slots.size = N ∧ ∀ i, i < N → cl.slots[i]? = some (f i)
abbrev ArI (Z : State) (h : Heap) (a : Addr) (ty : FieldType) (N : Nat) (g : Nat → Int32) : Prop := ArV Z h a ty N (fun i => .int (g i))
abbrev ArJ (Z : State) (h : Heap) (a : Addr) (N : Nat) (g : Nat → Int64) : Prop := ArV Z h a .long N (fun i => .long (g i))
/-- an index as a natural number -/
def nt (j : Int32) : Nat := j.toInt.toNat
theorem nt_eq {j : Int32} (h : 0 ≤ j.toInt) : j.toInt = (nt j : Int) := by unfold nt; omega
theorem nt_lt {j : Int32} {N : Nat} (h : j.toInt < N) (h0 : 0 < N) : nt j < N := by unfold nt; omega
theorem add1 {x : Int32} (y : Int32) (d : Int) (hd : y.toInt = d) (h1 : -2147483648 ≤ x.toInt + d) (h2 : x.toInt + d < 2147483648) : (x + y).toInt = x.toInt + d := by
  have h := c_iadd x y
  have r := rng32 (x + y)
  omega
theorem sub1 {x : Int32} (y : Int32) (d : Int) (hd : y.toInt = d) (h1 : -2147483648 ≤ x.toInt - d) (h2 : x.toInt - d < 2147483648) : (x - y).toInt = x.toInt - d := by
  have h := c_isub x y
  have r := rng32 (x - y)
  omega
section W
variable {p : Program} {l : Launch} {e : Env} {R : Room} {s : State} {m : MethodId} {args : Array Value} {below : List Frame} {meth : Method} {c : Code} {T : State} {h h' : Heap} {cells slots : Nat} {n0 : Nat} {P : Option Value → Heap → Prop} {k n : Nat} {code : ByteArray} {ml : Nat} {ret : Option FieldType} {own nm : String} {Z : State} {a0 : Array Value} {tabs : List Jvm.Cond}
theorem Goes.of {g g' : JFrame} {T' : State} (st : ∀ target, Steps p.tables e below (T'.setTop g') target → Steps p.tables e below (T.setTop g) target) (K : Goes p e below s n0 P k n T' g') : Goes p e below s n0 P k n T g := by
  obtain ⟨s₂, o, h1, r⟩ := K
  exact ⟨s₂, o, st _ h1, r⟩
theorem Goes.imp {P' : Option Value → Heap → Prop} {g : JFrame} (hp : ∀ v h, P v h → P' v h) (K : Goes p e below s n0 P k n T g) : Goes p e below s n0 P' k n T g := by
  obtain ⟨s₂, o, h1, h2, h3, v, L, h4, h5, h6⟩ := K
  exact ⟨s₂, o, h1, h2, h3, v, L, h4, ⟨h5.1, hp _ _ h5.2⟩, h6⟩
theorem Ct.imp {y : MethodName} {bytes : ByteArray} {maxL : Nat} {rm : Room} {as' : Array Value} {P' : Option Value → Heap → Prop} (hp : ∀ v h, P v h → P' v h) (K : Ct l y bytes maxL ret rm Z as' h n0 P) : Ct l y bytes maxL ret rm Z as' h n0 P' := by
  intro ws p e ha hc hk s m args below hf happ hP hK
  obtain ⟨n, o, h1, h2, h3, v, L, h4, h5, h6⟩ := K ws p e ha hc hk s m args below hf happ hP hK
  exact ⟨n, o, h1, h2, h3, v, L, h4, ⟨h5.1, hp _ _ h5.2⟩, h6⟩
theorem Hr.size (X : Hr p l e R s m args below meth c n0 h cells slots T) : n0 ≤ h.size := by
  obtain ⟨locs, S, eT, N, q⟩ := X
  have q2 : s.heap.size ≤ T.heap.size := S.same.2.1
  rw [eT] at q2
  exact Nat.le_trans q q2
theorem Ct.of {y : MethodName} {bytes : ByteArray} {maxL : Nat} {rm : Room} {as' : Array Value} (hpl : plainFor y = true) (Ls : Array Slot) (hef : ∀ m, entryFrame m as' maxL = mkF m 0 Ls []) (hw : ∀ d ∈ tabs, d.before a0 Z = true) (hn0 : n0 ≤ h.size)
    (K : ∀ p e s m below meth c T, Cx p s m meth c bytes maxL ret y.cls y.name Z a0 tabs → Hr p l e rm s m as' below meth c n0 h 0 0 T → Goes p e below s n0 P rm.cells rm.slots T (mkF m 0 Ls [])) :
    Ct l y bytes maxL ret rm Z as' h n0 P := by
  intro ws
  refine MetFree.of_bodySF hpl hisR ?_
  intro p e s m args below meth c s₁ Bd hml0 hP hK
  obtain ⟨rfl, hZ, hh⟩ := hP
  obtain ⟨s₂, o, h1, r⟩ := K p e s m below meth c s₁ ⟨Bd.exec, Bd.bytes, hml0, Bd.returns, BodyLoose.notSynchronized Bd, findClass_of_methodNamed Bd.named, (name_of_methodNamed Bd.named Bd.method).1, hZ, hw⟩ ⟨[], Stand.of_body Bd, by rw [← hh, Bd.state]; rfl, Fr.nil n0, by rw [hh]; exact hn0⟩
  exact ⟨s₂, o, castTop (hef m) h1, r⟩

theorem w_iadd (X : Hr p l e R s m args below meth c n0 h cells slots T) (C : Cx p s m meth c code ml ret own nm Z a0 tabs) {pc : Nat} {Ls : Array Slot} {x y : Int32} {rest : List Value} (hd : decode code pc = .ok (.iadd, 1)) (K : Goes p e below s n0 P k n T (mkF m (pc + 1) Ls (.int (x + y) :: rest))) : Goes p e below s n0 P k n T (mkF m pc Ls (.int y :: .int x :: rest)) := by
  obtain ⟨locs, S, -, -, -⟩ := X
  exact Goes.of (fun _ kk => XS.iadd S.here C.1 rfl (hb C.2.1 hd) rfl kk) K
theorem w_isub (X : Hr p l e R s m args below meth c n0 h cells slots T) (C : Cx p s m meth c code ml ret own nm Z a0 tabs) {pc : Nat} {Ls : Array Slot} {x y : Int32} {rest : List Value} (hd : decode code pc = .ok (.isub, 1)) (K : Goes p e below s n0 P k n T (mkF m (pc + 1) Ls (.int (x - y) :: rest))) : Goes p e below s n0 P k n T (mkF m pc Ls (.int y :: .int x :: rest)) := by
  obtain ⟨locs, S, -, -, -⟩ := X
  exact Goes.of (fun _ kk => XS.isub S.here C.1 rfl (hb C.2.1 hd) rfl kk) K
theorem w_imul (X : Hr p l e R s m args below meth c n0 h cells slots T) (C : Cx p s m meth c code ml ret own nm Z a0 tabs) {pc : Nat} {Ls : Array Slot} {x y : Int32} {rest : List Value} (hd : decode code pc = .ok (.imul, 1)) (K : Goes p e below s n0 P k n T (mkF m (pc + 1) Ls (.int (x * y) :: rest))) : Goes p e below s n0 P k n T (mkF m pc Ls (.int y :: .int x :: rest)) := by
  obtain ⟨locs, S, -, -, -⟩ := X
  exact Goes.of (fun _ kk => XS.imul S.here C.1 rfl (hb C.2.1 hd) rfl kk) K
theorem w_iand (X : Hr p l e R s m args below meth c n0 h cells slots T) (C : Cx p s m meth c code ml ret own nm Z a0 tabs) {pc : Nat} {Ls : Array Slot} {x y : Int32} {rest : List Value} (hd : decode code pc = .ok (.iand, 1)) (K : Goes p e below s n0 P k n T (mkF m (pc + 1) Ls (.int (x &&& y) :: rest))) : Goes p e below s n0 P k n T (mkF m pc Ls (.int y :: .int x :: rest)) := by
  obtain ⟨locs, S, -, -, -⟩ := X
  exact Goes.of (fun _ kk => XS.iand S.here C.1 rfl (hb C.2.1 hd) rfl kk) K
theorem w_ior (X : Hr p l e R s m args below meth c n0 h cells slots T) (C : Cx p s m meth c code ml ret own nm Z a0 tabs) {pc : Nat} {Ls : Array Slot} {x y : Int32} {rest : List Value} (hd : decode code pc = .ok (.ior, 1)) (K : Goes p e below s n0 P k n T (mkF m (pc + 1) Ls (.int (x ||| y) :: rest))) : Goes p e below s n0 P k n T (mkF m pc Ls (.int y :: .int x :: rest)) := by
  obtain ⟨locs, S, -, -, -⟩ := X
  exact Goes.of (fun _ kk => XS.ior S.here C.1 rfl (hb C.2.1 hd) rfl kk) K
theorem w_ixor (X : Hr p l e R s m args below meth c n0 h cells slots T) (C : Cx p s m meth c code ml ret own nm Z a0 tabs) {pc : Nat} {Ls : Array Slot} {x y : Int32} {rest : List Value} (hd : decode code pc = .ok (.ixor, 1)) (K : Goes p e below s n0 P k n T (mkF m (pc + 1) Ls (.int (x ^^^ y) :: rest))) : Goes p e below s n0 P k n T (mkF m pc Ls (.int y :: .int x :: rest)) := by
  obtain ⟨locs, S, -, -, -⟩ := X
  exact Goes.of (fun _ kk => XS.ixor S.here C.1 rfl (hb C.2.1 hd) rfl kk) K
theorem w_ishl (X : Hr p l e R s m args below meth c n0 h cells slots T) (C : Cx p s m meth c code ml ret own nm Z a0 tabs) {pc : Nat} {Ls : Array Slot} {x y : Int32} {rest : List Value} (hd : decode code pc = .ok (.ishl, 1)) (K : Goes p e below s n0 P k n T (mkF m (pc + 1) Ls (.int (shlI x y) :: rest))) : Goes p e below s n0 P k n T (mkF m pc Ls (.int y :: .int x :: rest)) := by
  obtain ⟨locs, S, -, -, -⟩ := X
  exact Goes.of (fun _ kk => XS.ishl S.here C.1 rfl (hb C.2.1 hd) rfl kk) K
theorem w_ishr (X : Hr p l e R s m args below meth c n0 h cells slots T) (C : Cx p s m meth c code ml ret own nm Z a0 tabs) {pc : Nat} {Ls : Array Slot} {x y : Int32} {rest : List Value} (hd : decode code pc = .ok (.ishr, 1)) (K : Goes p e below s n0 P k n T (mkF m (pc + 1) Ls (.int (shrI x y) :: rest))) : Goes p e below s n0 P k n T (mkF m pc Ls (.int y :: .int x :: rest)) := by
  obtain ⟨locs, S, -, -, -⟩ := X
  exact Goes.of (fun _ kk => XS.ishr S.here C.1 rfl (hb C.2.1 hd) rfl kk) K
theorem w_iushr (X : Hr p l e R s m args below meth c n0 h cells slots T) (C : Cx p s m meth c code ml ret own nm Z a0 tabs) {pc : Nat} {Ls : Array Slot} {x y : Int32} {rest : List Value} (hd : decode code pc = .ok (.iushr, 1)) (K : Goes p e below s n0 P k n T (mkF m (pc + 1) Ls (.int (ushrI x y) :: rest))) : Goes p e below s n0 P k n T (mkF m pc Ls (.int y :: .int x :: rest)) := by
  obtain ⟨locs, S, -, -, -⟩ := X
  exact Goes.of (fun _ kk => XS.iushr S.here C.1 rfl (hb C.2.1 hd) rfl kk) K
theorem w_ladd (X : Hr p l e R s m args below meth c n0 h cells slots T) (C : Cx p s m meth c code ml ret own nm Z a0 tabs) {pc : Nat} {Ls : Array Slot} {x y : Int64} {rest : List Value} (hd : decode code pc = .ok (.ladd, 1)) (K : Goes p e below s n0 P k n T (mkF m (pc + 1) Ls (.long (x + y) :: rest))) : Goes p e below s n0 P k n T (mkF m pc Ls (.long y :: .long x :: rest)) := by
  obtain ⟨locs, S, -, -, -⟩ := X
  exact Goes.of (fun _ kk => XS.ladd S.here C.1 rfl (hb C.2.1 hd) rfl kk) K
theorem w_lsub (X : Hr p l e R s m args below meth c n0 h cells slots T) (C : Cx p s m meth c code ml ret own nm Z a0 tabs) {pc : Nat} {Ls : Array Slot} {x y : Int64} {rest : List Value} (hd : decode code pc = .ok (.lsub, 1)) (K : Goes p e below s n0 P k n T (mkF m (pc + 1) Ls (.long (x - y) :: rest))) : Goes p e below s n0 P k n T (mkF m pc Ls (.long y :: .long x :: rest)) := by
  obtain ⟨locs, S, -, -, -⟩ := X
  exact Goes.of (fun _ kk => XS.lsub S.here C.1 rfl (hb C.2.1 hd) rfl kk) K
theorem w_lmul (X : Hr p l e R s m args below meth c n0 h cells slots T) (C : Cx p s m meth c code ml ret own nm Z a0 tabs) {pc : Nat} {Ls : Array Slot} {x y : Int64} {rest : List Value} (hd : decode code pc = .ok (.lmul, 1)) (K : Goes p e below s n0 P k n T (mkF m (pc + 1) Ls (.long (x * y) :: rest))) : Goes p e below s n0 P k n T (mkF m pc Ls (.long y :: .long x :: rest)) := by
  obtain ⟨locs, S, -, -, -⟩ := X
  exact Goes.of (fun _ kk => XS.lmul S.here C.1 rfl (hb C.2.1 hd) rfl kk) K
theorem w_land (X : Hr p l e R s m args below meth c n0 h cells slots T) (C : Cx p s m meth c code ml ret own nm Z a0 tabs) {pc : Nat} {Ls : Array Slot} {x y : Int64} {rest : List Value} (hd : decode code pc = .ok (.land, 1)) (K : Goes p e below s n0 P k n T (mkF m (pc + 1) Ls (.long (x &&& y) :: rest))) : Goes p e below s n0 P k n T (mkF m pc Ls (.long y :: .long x :: rest)) := by
  obtain ⟨locs, S, -, -, -⟩ := X
  exact Goes.of (fun _ kk => XS.land S.here C.1 rfl (hb C.2.1 hd) rfl kk) K
theorem w_lor (X : Hr p l e R s m args below meth c n0 h cells slots T) (C : Cx p s m meth c code ml ret own nm Z a0 tabs) {pc : Nat} {Ls : Array Slot} {x y : Int64} {rest : List Value} (hd : decode code pc = .ok (.lor, 1)) (K : Goes p e below s n0 P k n T (mkF m (pc + 1) Ls (.long (x ||| y) :: rest))) : Goes p e below s n0 P k n T (mkF m pc Ls (.long y :: .long x :: rest)) := by
  obtain ⟨locs, S, -, -, -⟩ := X
  exact Goes.of (fun _ kk => XS.lor S.here C.1 rfl (hb C.2.1 hd) rfl kk) K
theorem w_lxor (X : Hr p l e R s m args below meth c n0 h cells slots T) (C : Cx p s m meth c code ml ret own nm Z a0 tabs) {pc : Nat} {Ls : Array Slot} {x y : Int64} {rest : List Value} (hd : decode code pc = .ok (.lxor, 1)) (K : Goes p e below s n0 P k n T (mkF m (pc + 1) Ls (.long (x ^^^ y) :: rest))) : Goes p e below s n0 P k n T (mkF m pc Ls (.long y :: .long x :: rest)) := by
  obtain ⟨locs, S, -, -, -⟩ := X
  exact Goes.of (fun _ kk => XS.lxor S.here C.1 rfl (hb C.2.1 hd) rfl kk) K
theorem w_lshl (X : Hr p l e R s m args below meth c n0 h cells slots T) (C : Cx p s m meth c code ml ret own nm Z a0 tabs) {pc : Nat} {Ls : Array Slot} {x : Int64} {y : Int32} {rest : List Value} (hd : decode code pc = .ok (.lshl, 1)) (K : Goes p e below s n0 P k n T (mkF m (pc + 1) Ls (.long (shlJ x y) :: rest))) : Goes p e below s n0 P k n T (mkF m pc Ls (.int y :: .long x :: rest)) := by
  obtain ⟨locs, S, -, -, -⟩ := X
  exact Goes.of (fun _ kk => XS.lshl S.here C.1 rfl (hb C.2.1 hd) rfl kk) K
theorem w_lshr (X : Hr p l e R s m args below meth c n0 h cells slots T) (C : Cx p s m meth c code ml ret own nm Z a0 tabs) {pc : Nat} {Ls : Array Slot} {x : Int64} {y : Int32} {rest : List Value} (hd : decode code pc = .ok (.lshr, 1)) (K : Goes p e below s n0 P k n T (mkF m (pc + 1) Ls (.long (shrJ x y) :: rest))) : Goes p e below s n0 P k n T (mkF m pc Ls (.int y :: .long x :: rest)) := by
  obtain ⟨locs, S, -, -, -⟩ := X
  exact Goes.of (fun _ kk => XS.lshr S.here C.1 rfl (hb C.2.1 hd) rfl kk) K
theorem w_lushr (X : Hr p l e R s m args below meth c n0 h cells slots T) (C : Cx p s m meth c code ml ret own nm Z a0 tabs) {pc : Nat} {Ls : Array Slot} {x : Int64} {y : Int32} {rest : List Value} (hd : decode code pc = .ok (.lushr, 1)) (K : Goes p e below s n0 P k n T (mkF m (pc + 1) Ls (.long (ushrJ x y) :: rest))) : Goes p e below s n0 P k n T (mkF m pc Ls (.int y :: .long x :: rest)) := by
  obtain ⟨locs, S, -, -, -⟩ := X
  exact Goes.of (fun _ kk => XS.lushr S.here C.1 rfl (hb C.2.1 hd) rfl kk) K
theorem w_lcmp (X : Hr p l e R s m args below meth c n0 h cells slots T) (C : Cx p s m meth c code ml ret own nm Z a0 tabs) {pc : Nat} {Ls : Array Slot} {x y : Int64} {rest : List Value} (hd : decode code pc = .ok (.lcmp, 1)) (K : Goes p e below s n0 P k n T (mkF m (pc + 1) Ls (.int (cmpJ x y) :: rest))) : Goes p e below s n0 P k n T (mkF m pc Ls (.long y :: .long x :: rest)) := by
  obtain ⟨locs, S, -, -, -⟩ := X
  exact Goes.of (fun _ kk => XS.lcmp S.here C.1 rfl (hb C.2.1 hd) rfl kk) K
theorem w_i2b (X : Hr p l e R s m args below meth c n0 h cells slots T) (C : Cx p s m meth c code ml ret own nm Z a0 tabs) {pc : Nat} {Ls : Array Slot} {x : Int32} {rest : List Value} (hd : decode code pc = .ok (.i2b, 1)) (K : Goes p e below s n0 P k n T (mkF m (pc + 1) Ls (.int (i8 x) :: rest))) : Goes p e below s n0 P k n T (mkF m pc Ls (.int x :: rest)) := by
  obtain ⟨locs, S, -, -, -⟩ := X
  exact Goes.of (fun _ kk => XS.i2b S.here C.1 rfl (hb C.2.1 hd) rfl kk) K
theorem w_i2c (X : Hr p l e R s m args below meth c n0 h cells slots T) (C : Cx p s m meth c code ml ret own nm Z a0 tabs) {pc : Nat} {Ls : Array Slot} {x : Int32} {rest : List Value} (hd : decode code pc = .ok (.i2c, 1)) (K : Goes p e below s n0 P k n T (mkF m (pc + 1) Ls (.int (i16c x) :: rest))) : Goes p e below s n0 P k n T (mkF m pc Ls (.int x :: rest)) := by
  obtain ⟨locs, S, -, -, -⟩ := X
  exact Goes.of (fun _ kk => XS.i2c S.here C.1 rfl (hb C.2.1 hd) rfl kk) K
theorem w_i2s (X : Hr p l e R s m args below meth c n0 h cells slots T) (C : Cx p s m meth c code ml ret own nm Z a0 tabs) {pc : Nat} {Ls : Array Slot} {x : Int32} {rest : List Value} (hd : decode code pc = .ok (.i2s, 1)) (K : Goes p e below s n0 P k n T (mkF m (pc + 1) Ls (.int (x.toInt16.toInt32) :: rest))) : Goes p e below s n0 P k n T (mkF m pc Ls (.int x :: rest)) := by
  obtain ⟨locs, S, -, -, -⟩ := X
  exact Goes.of (fun _ kk => XS.i2s S.here C.1 rfl (hb C.2.1 hd) rfl kk) K
theorem w_ineg (X : Hr p l e R s m args below meth c n0 h cells slots T) (C : Cx p s m meth c code ml ret own nm Z a0 tabs) {pc : Nat} {Ls : Array Slot} {x : Int32} {rest : List Value} (hd : decode code pc = .ok (.ineg, 1)) (K : Goes p e below s n0 P k n T (mkF m (pc + 1) Ls (.int (-x) :: rest))) : Goes p e below s n0 P k n T (mkF m pc Ls (.int x :: rest)) := by
  obtain ⟨locs, S, -, -, -⟩ := X
  exact Goes.of (fun _ kk => XS.ineg S.here C.1 rfl (hb C.2.1 hd) rfl kk) K
theorem w_i2l (X : Hr p l e R s m args below meth c n0 h cells slots T) (C : Cx p s m meth c code ml ret own nm Z a0 tabs) {pc : Nat} {Ls : Array Slot} {x : Int32} {rest : List Value} (hd : decode code pc = .ok (.i2l, 1)) (K : Goes p e below s n0 P k n T (mkF m (pc + 1) Ls (.long (x.toInt64) :: rest))) : Goes p e below s n0 P k n T (mkF m pc Ls (.int x :: rest)) := by
  obtain ⟨locs, S, -, -, -⟩ := X
  exact Goes.of (fun _ kk => XS.i2l S.here C.1 rfl (hb C.2.1 hd) rfl kk) K
theorem w_l2i (X : Hr p l e R s m args below meth c n0 h cells slots T) (C : Cx p s m meth c code ml ret own nm Z a0 tabs) {pc : Nat} {Ls : Array Slot} {x : Int64} {rest : List Value} (hd : decode code pc = .ok (.l2i, 1)) (K : Goes p e below s n0 P k n T (mkF m (pc + 1) Ls (.int (x.toInt32) :: rest))) : Goes p e below s n0 P k n T (mkF m pc Ls (.long x :: rest)) := by
  obtain ⟨locs, S, -, -, -⟩ := X
  exact Goes.of (fun _ kk => XS.l2i S.here C.1 rfl (hb C.2.1 hd) rfl kk) K
theorem w_lneg (X : Hr p l e R s m args below meth c n0 h cells slots T) (C : Cx p s m meth c code ml ret own nm Z a0 tabs) {pc : Nat} {Ls : Array Slot} {x : Int64} {rest : List Value} (hd : decode code pc = .ok (.lneg, 1)) (K : Goes p e below s n0 P k n T (mkF m (pc + 1) Ls (.long (-x) :: rest))) : Goes p e below s n0 P k n T (mkF m pc Ls (.long x :: rest)) := by
  obtain ⟨locs, S, -, -, -⟩ := X
  exact Goes.of (fun _ kk => XS.lneg S.here C.1 rfl (hb C.2.1 hd) rfl kk) K
theorem w_idiv (X : Hr p l e R s m args below meth c n0 h cells slots T) (C : Cx p s m meth c code ml ret own nm Z a0 tabs) {pc : Nat} {Ls : Array Slot} {x y : Int32} {rest : List Value} (hd : decode code pc = .ok (.idiv, 1)) (hy : y ≠ 0) (K : Goes p e below s n0 P k n T (mkF m (pc + 1) Ls (.int (x / y) :: rest))) : Goes p e below s n0 P k n T (mkF m pc Ls (.int y :: .int x :: rest)) := by
  obtain ⟨locs, S, -, -, -⟩ := X
  exact Goes.of (fun _ kk => XS.idiv S.here C.1 rfl (hb C.2.1 hd) rfl hy kk) K
theorem w_ldiv (X : Hr p l e R s m args below meth c n0 h cells slots T) (C : Cx p s m meth c code ml ret own nm Z a0 tabs) {pc : Nat} {Ls : Array Slot} {x y : Int64} {rest : List Value} (hd : decode code pc = .ok (.ldiv, 1)) (hy : y ≠ 0) (K : Goes p e below s n0 P k n T (mkF m (pc + 1) Ls (.long (x / y) :: rest))) : Goes p e below s n0 P k n T (mkF m pc Ls (.long y :: .long x :: rest)) := by
  obtain ⟨locs, S, -, -, -⟩ := X
  exact Goes.of (fun _ kk => XS.ldiv S.here C.1 rfl (hb C.2.1 hd) rfl hy kk) K
theorem w_irem (X : Hr p l e R s m args below meth c n0 h cells slots T) (C : Cx p s m meth c code ml ret own nm Z a0 tabs) {pc : Nat} {Ls : Array Slot} {x y : Int32} {rest : List Value} (hd : decode code pc = .ok (.irem, 1)) (hy : y ≠ 0) (K : Goes p e below s n0 P k n T (mkF m (pc + 1) Ls (.int (x % y) :: rest))) : Goes p e below s n0 P k n T (mkF m pc Ls (.int y :: .int x :: rest)) := by
  obtain ⟨locs, S, -, -, -⟩ := X
  rw [← irem_eq_mod x y] at K
  exact Goes.of (fun _ kk => XS.irem S.here C.1 rfl (hb C.2.1 hd) rfl hy kk) K
theorem w_lrem (X : Hr p l e R s m args below meth c n0 h cells slots T) (C : Cx p s m meth c code ml ret own nm Z a0 tabs) {pc : Nat} {Ls : Array Slot} {x y : Int64} {rest : List Value} (hd : decode code pc = .ok (.lrem, 1)) (hy : y ≠ 0) (K : Goes p e below s n0 P k n T (mkF m (pc + 1) Ls (.long (x % y) :: rest))) : Goes p e below s n0 P k n T (mkF m pc Ls (.long y :: .long x :: rest)) := by
  obtain ⟨locs, S, -, -, -⟩ := X
  rw [← lrem_mod x y] at K
  exact Goes.of (fun _ kk => XS.lrem S.here C.1 rfl (hb C.2.1 hd) rfl hy kk) K
theorem w_dup (X : Hr p l e R s m args below meth c n0 h cells slots T) (C : Cx p s m meth c code ml ret own nm Z a0 tabs) {pc : Nat} {Ls : Array Slot} {x : Value} {rest : List Value} (hd : decode code pc = .ok (.dup, 1)) (hc : x.category = 1) (K : Goes p e below s n0 P k n T (mkF m (pc + 1) Ls (x :: x :: rest))) : Goes p e below s n0 P k n T (mkF m pc Ls (x :: rest)) := by
  obtain ⟨locs, S, -, -, -⟩ := X
  exact Goes.of (fun _ kk => XS.dup S.here C.1 rfl (hb C.2.1 hd) rfl hc kk) K
theorem w_pop (X : Hr p l e R s m args below meth c n0 h cells slots T) (C : Cx p s m meth c code ml ret own nm Z a0 tabs) {pc : Nat} {Ls : Array Slot} {x : Value} {rest : List Value} (hd : decode code pc = .ok (.pop, 1)) (hc : x.category = 1) (K : Goes p e below s n0 P k n T (mkF m (pc + 1) Ls (rest))) : Goes p e below s n0 P k n T (mkF m pc Ls (x :: rest)) := by
  obtain ⟨locs, S, -, -, -⟩ := X
  exact Goes.of (fun _ kk => XS.pop S.here C.1 rfl (hb C.2.1 hd) rfl hc kk) K
theorem w_dup_x1 (X : Hr p l e R s m args below meth c n0 h cells slots T) (C : Cx p s m meth c code ml ret own nm Z a0 tabs) {pc : Nat} {Ls : Array Slot} {x y : Value} {rest : List Value} (hd : decode code pc = .ok (.dup_x1, 1)) (hc : x.category = 1) (hc' : y.category = 1) (K : Goes p e below s n0 P k n T (mkF m (pc + 1) Ls (x :: y :: x :: rest))) : Goes p e below s n0 P k n T (mkF m pc Ls (x :: y :: rest)) := by
  obtain ⟨locs, S, -, -, -⟩ := X
  exact Goes.of (fun _ kk => XS.dupX1 S.here C.1 rfl (hb C.2.1 hd) rfl hc hc' kk) K
theorem w_dup2 (X : Hr p l e R s m args below meth c n0 h cells slots T) (C : Cx p s m meth c code ml ret own nm Z a0 tabs) {pc : Nat} {Ls : Array Slot} {x y : Value} {rest : List Value} (hd : decode code pc = .ok (.dup2, 1)) (hc : x.category = 1) (hc' : y.category = 1) (K : Goes p e below s n0 P k n T (mkF m (pc + 1) Ls (x :: y :: x :: y :: rest))) : Goes p e below s n0 P k n T (mkF m pc Ls (x :: y :: rest)) := by
  obtain ⟨locs, S, -, -, -⟩ := X
  exact Goes.of (fun _ kk => XT.dup2 S.here C.1 rfl (hb C.2.1 hd) rfl hc hc' kk) K
theorem w_iload (X : Hr p l e R s m args below meth c n0 h cells slots T) (C : Cx p s m meth c code ml ret own nm Z a0 tabs) {pc : Nat} {Ls : Array Slot} {k0 : Nat} {x : Int32} {rest : List Value} (hd : decode code pc = .ok (.iload k0, 2)) (hl : Ls[k0]? = some (.val (.int x))) (K : Goes p e below s n0 P k n T (mkF m (pc + 2) Ls (.int x :: rest))) : Goes p e below s n0 P k n T (mkF m pc Ls rest) := by
  obtain ⟨locs, S, -, -, -⟩ := X
  exact Goes.of (fun _ kk => XS.iload S.here C.1 rfl (hb C.2.1 hd) hl kk) K
theorem w_istore (X : Hr p l e R s m args below meth c n0 h cells slots T) (C : Cx p s m meth c code ml ret own nm Z a0 tabs) {pc : Nat} {Ls : Array Slot} {k0 : Nat} {x : Int32} {rest : List Value} (hd : decode code pc = .ok (.istore k0, 2)) (Ls' : Array Slot) (hl : storeLocals Ls k0 (.int x) = some Ls') (K : Goes p e below s n0 P k n T (mkF m (pc + 2) Ls' rest)) : Goes p e below s n0 P k n T (mkF m pc Ls (.int x :: rest)) := by
  obtain ⟨locs, S, -, -, -⟩ := X
  exact Goes.of (fun _ kk => XS.istore S.here C.1 rfl (hb C.2.1 hd) rfl hl kk) K
theorem w_iloadN (X : Hr p l e R s m args below meth c n0 h cells slots T) (C : Cx p s m meth c code ml ret own nm Z a0 tabs) {pc : Nat} {Ls : Array Slot} {k0 : Fin 4} {x : Int32} {rest : List Value} (hd : decode code pc = .ok (.iload_n k0, 1)) (hl : Ls[k0.val]? = some (.val (.int x))) (K : Goes p e below s n0 P k n T (mkF m (pc + 1) Ls (.int x :: rest))) : Goes p e below s n0 P k n T (mkF m pc Ls rest) := by
  obtain ⟨locs, S, -, -, -⟩ := X
  exact Goes.of (fun _ kk => XS.iloadN S.here C.1 rfl (hb C.2.1 hd) hl kk) K
theorem w_istoreN (X : Hr p l e R s m args below meth c n0 h cells slots T) (C : Cx p s m meth c code ml ret own nm Z a0 tabs) {pc : Nat} {Ls : Array Slot} {k0 : Fin 4} {x : Int32} {rest : List Value} (hd : decode code pc = .ok (.istore_n k0, 1)) (Ls' : Array Slot) (hl : storeLocals Ls k0.val (.int x) = some Ls') (K : Goes p e below s n0 P k n T (mkF m (pc + 1) Ls' rest)) : Goes p e below s n0 P k n T (mkF m pc Ls (.int x :: rest)) := by
  obtain ⟨locs, S, -, -, -⟩ := X
  exact Goes.of (fun _ kk => XS.istoreN S.here C.1 rfl (hb C.2.1 hd) rfl hl kk) K
theorem w_lload (X : Hr p l e R s m args below meth c n0 h cells slots T) (C : Cx p s m meth c code ml ret own nm Z a0 tabs) {pc : Nat} {Ls : Array Slot} {k0 : Nat} {x : Int64} {rest : List Value} (hd : decode code pc = .ok (.lload k0, 2)) (hl : Ls[k0]? = some (.val (.long x))) (K : Goes p e below s n0 P k n T (mkF m (pc + 2) Ls (.long x :: rest))) : Goes p e below s n0 P k n T (mkF m pc Ls rest) := by
  obtain ⟨locs, S, -, -, -⟩ := X
  exact Goes.of (fun _ kk => XS.lload S.here C.1 rfl (hb C.2.1 hd) hl kk) K
theorem w_lstore (X : Hr p l e R s m args below meth c n0 h cells slots T) (C : Cx p s m meth c code ml ret own nm Z a0 tabs) {pc : Nat} {Ls : Array Slot} {k0 : Nat} {x : Int64} {rest : List Value} (hd : decode code pc = .ok (.lstore k0, 2)) (Ls' : Array Slot) (hl : storeLocals Ls k0 (.long x) = some Ls') (K : Goes p e below s n0 P k n T (mkF m (pc + 2) Ls' rest)) : Goes p e below s n0 P k n T (mkF m pc Ls (.long x :: rest)) := by
  obtain ⟨locs, S, -, -, -⟩ := X
  exact Goes.of (fun _ kk => XS.lstore S.here C.1 rfl (hb C.2.1 hd) rfl hl kk) K
theorem w_lloadN (X : Hr p l e R s m args below meth c n0 h cells slots T) (C : Cx p s m meth c code ml ret own nm Z a0 tabs) {pc : Nat} {Ls : Array Slot} {k0 : Fin 4} {x : Int64} {rest : List Value} (hd : decode code pc = .ok (.lload_n k0, 1)) (hl : Ls[k0.val]? = some (.val (.long x))) (K : Goes p e below s n0 P k n T (mkF m (pc + 1) Ls (.long x :: rest))) : Goes p e below s n0 P k n T (mkF m pc Ls rest) := by
  obtain ⟨locs, S, -, -, -⟩ := X
  exact Goes.of (fun _ kk => XS.lloadN S.here C.1 rfl (hb C.2.1 hd) hl kk) K
theorem w_lstoreN (X : Hr p l e R s m args below meth c n0 h cells slots T) (C : Cx p s m meth c code ml ret own nm Z a0 tabs) {pc : Nat} {Ls : Array Slot} {k0 : Fin 4} {x : Int64} {rest : List Value} (hd : decode code pc = .ok (.lstore_n k0, 1)) (Ls' : Array Slot) (hl : storeLocals Ls k0.val (.long x) = some Ls') (K : Goes p e below s n0 P k n T (mkF m (pc + 1) Ls' rest)) : Goes p e below s n0 P k n T (mkF m pc Ls (.long x :: rest)) := by
  obtain ⟨locs, S, -, -, -⟩ := X
  exact Goes.of (fun _ kk => XS.lstoreN S.here C.1 rfl (hb C.2.1 hd) rfl hl kk) K
theorem w_aload (X : Hr p l e R s m args below meth c n0 h cells slots T) (C : Cx p s m meth c code ml ret own nm Z a0 tabs) {pc : Nat} {Ls : Array Slot} {k0 : Nat} {x : Value} {rest : List Value} (hd : decode code pc = .ok (.aload k0, 2)) (hl : Ls[k0]? = some (.val x)) (hv : x.isRef = true) (K : Goes p e below s n0 P k n T (mkF m (pc + 2) Ls (x :: rest))) : Goes p e below s n0 P k n T (mkF m pc Ls rest) := by
  obtain ⟨locs, S, -, -, -⟩ := X
  exact Goes.of (fun _ kk => XS.aload S.here C.1 rfl (hb C.2.1 hd) hl hv kk) K
theorem w_astore (X : Hr p l e R s m args below meth c n0 h cells slots T) (C : Cx p s m meth c code ml ret own nm Z a0 tabs) {pc : Nat} {Ls : Array Slot} {k0 : Nat} {x : Value} {rest : List Value} (hd : decode code pc = .ok (.astore k0, 2)) (Ls' : Array Slot) (hl : storeLocals Ls k0 x = some Ls') (hv : x.isRef = true) (K : Goes p e below s n0 P k n T (mkF m (pc + 2) Ls' rest)) : Goes p e below s n0 P k n T (mkF m pc Ls (x :: rest)) := by
  obtain ⟨locs, S, -, -, -⟩ := X
  exact Goes.of (fun _ kk => XS.astore S.here C.1 rfl (hb C.2.1 hd) rfl hv hl kk) K
theorem w_aloadN (X : Hr p l e R s m args below meth c n0 h cells slots T) (C : Cx p s m meth c code ml ret own nm Z a0 tabs) {pc : Nat} {Ls : Array Slot} {k0 : Fin 4} {x : Value} {rest : List Value} (hd : decode code pc = .ok (.aload_n k0, 1)) (hl : Ls[k0.val]? = some (.val x)) (hv : x.isRef = true) (K : Goes p e below s n0 P k n T (mkF m (pc + 1) Ls (x :: rest))) : Goes p e below s n0 P k n T (mkF m pc Ls rest) := by
  obtain ⟨locs, S, -, -, -⟩ := X
  exact Goes.of (fun _ kk => XS.aloadN S.here C.1 rfl (hb C.2.1 hd) hl hv kk) K
theorem w_astoreN (X : Hr p l e R s m args below meth c n0 h cells slots T) (C : Cx p s m meth c code ml ret own nm Z a0 tabs) {pc : Nat} {Ls : Array Slot} {k0 : Fin 4} {x : Value} {rest : List Value} (hd : decode code pc = .ok (.astore_n k0, 1)) (Ls' : Array Slot) (hl : storeLocals Ls k0.val x = some Ls') (hv : x.isRef = true) (K : Goes p e below s n0 P k n T (mkF m (pc + 1) Ls' rest)) : Goes p e below s n0 P k n T (mkF m pc Ls (x :: rest)) := by
  obtain ⟨locs, S, -, -, -⟩ := X
  exact Goes.of (fun _ kk => XS.astoreN S.here C.1 rfl (hb C.2.1 hd) rfl hv hl kk) K
theorem w_iinc (X : Hr p l e R s m args below meth c n0 h cells slots T) (C : Cx p s m meth c code ml ret own nm Z a0 tabs) {pc : Nat} {Ls : Array Slot} {k0 : Nat} {cst : Int} {x : Int32} {rest : List Value} (hd : decode code pc = .ok (.iinc k0 cst, 3)) (v : Int32) (hv : Int32.ofInt cst = v) (hl : Ls[k0]? = some (.val (.int x))) (Ls' : Array Slot) (hl' : storeLocals Ls k0 (.int (x + v)) = some Ls') (K : Goes p e below s n0 P k n T (mkF m (pc + 3) Ls' rest)) : Goes p e below s n0 P k n T (mkF m pc Ls rest) := by
  obtain ⟨locs, S, -, -, -⟩ := X
  subst hv
  exact Goes.of (fun _ kk => XS.iinc S.here C.1 rfl (hb C.2.1 hd) hl hl' kk) K
theorem w_iconst (X : Hr p l e R s m args below meth c n0 h cells slots T) (C : Cx p s m meth c code ml ret own nm Z a0 tabs) {pc : Nat} {Ls : Array Slot} {i : Int} {rest : List Value} (hd : decode code pc = .ok (.iconst i, 1)) (v : Int32) (hv : Int32.ofInt i = v) (K : Goes p e below s n0 P k n T (mkF m (pc + 1) Ls (.int v :: rest))) : Goes p e below s n0 P k n T (mkF m pc Ls rest) := by
  obtain ⟨locs, S, -, -, -⟩ := X
  subst hv
  exact Goes.of (fun _ kk => XS.iconst S.here C.1 rfl (hb C.2.1 hd) kk) K
theorem w_bipush (X : Hr p l e R s m args below meth c n0 h cells slots T) (C : Cx p s m meth c code ml ret own nm Z a0 tabs) {pc : Nat} {Ls : Array Slot} {i : Int} {rest : List Value} (hd : decode code pc = .ok (.bipush i, 2)) (v : Int32) (hv : (Int8.ofInt i).toInt32 = v) (K : Goes p e below s n0 P k n T (mkF m (pc + 2) Ls (.int v :: rest))) : Goes p e below s n0 P k n T (mkF m pc Ls rest) := by
  obtain ⟨locs, S, -, -, -⟩ := X
  subst hv
  exact Goes.of (fun _ kk => XS.bipush S.here C.1 rfl (hb C.2.1 hd) kk) K
theorem w_sipush (X : Hr p l e R s m args below meth c n0 h cells slots T) (C : Cx p s m meth c code ml ret own nm Z a0 tabs) {pc : Nat} {Ls : Array Slot} {i : Int} {rest : List Value} (hd : decode code pc = .ok (.sipush i, 3)) (v : Int32) (hv : (Int16.ofInt i).toInt32 = v) (K : Goes p e below s n0 P k n T (mkF m (pc + 3) Ls (.int v :: rest))) : Goes p e below s n0 P k n T (mkF m pc Ls rest) := by
  obtain ⟨locs, S, -, -, -⟩ := X
  subst hv
  exact Goes.of (fun _ kk => XS.sipush S.here C.1 rfl (hb C.2.1 hd) kk) K
theorem w_lconst (X : Hr p l e R s m args below meth c n0 h cells slots T) (C : Cx p s m meth c code ml ret own nm Z a0 tabs) {pc : Nat} {Ls : Array Slot} {i : Fin 2} {rest : List Value} (hd : decode code pc = .ok (.lconst i, 1)) (v : Int64) (hv : Int64.ofNat i = v) (K : Goes p e below s n0 P k n T (mkF m (pc + 1) Ls (.long v :: rest))) : Goes p e below s n0 P k n T (mkF m pc Ls rest) := by
  obtain ⟨locs, S, -, -, -⟩ := X
  subst hv
  exact Goes.of (fun _ kk => XS.lconst S.here C.1 rfl (hb C.2.1 hd) kk) K
theorem w_aconst_null (X : Hr p l e R s m args below meth c n0 h cells slots T) (C : Cx p s m meth c code ml ret own nm Z a0 tabs) {pc : Nat} {Ls : Array Slot} {rest : List Value} (hd : decode code pc = .ok (.aconst_null, 1)) (K : Goes p e below s n0 P k n T (mkF m (pc + 1) Ls (.null :: rest))) : Goes p e below s n0 P k n T (mkF m pc Ls rest) := by
  obtain ⟨locs, S, -, -, -⟩ := X
  exact Goes.of (fun _ kk => XS.aconstNull S.here C.1 rfl (hb C.2.1 hd) kk) K
theorem w_ldcI (X : Hr p l e R s m args below meth c n0 h cells slots T) (C : Cx p s m meth c code ml ret own nm Z a0 tabs) {pc index : Nat} {Ls : Array Slot} {v : Int32} {rest : List Value} (hd : decode code pc = .ok (.ldc index, 2)) (i1 : Jvm.Cond.constant own index v ∈ tabs) (K : Goes p e below s n0 P k n T (mkF m (pc + 2) Ls (.int v :: rest))) : Goes p e below s n0 P k n T (mkF m pc Ls rest) := by
  obtain ⟨locs, S, -, -, -⟩ := X
  exact Goes.of (fun _ kk => S.ldcInt C.1 C.2.2.2.2.2.1 (mvT C.2.2.2.2.2.2.2.1 (C.2.2.2.2.2.2.2.2 _ i1)) (g := mkF m pc Ls rest) rfl (hb C.2.1 hd) _ kk) K
theorem w_ldcW (X : Hr p l e R s m args below meth c n0 h cells slots T) (C : Cx p s m meth c code ml ret own nm Z a0 tabs) {pc index : Nat} {Ls : Array Slot} {v : Int32} {rest : List Value} (hd : decode code pc = .ok (.ldc_w index, 3)) (i1 : Jvm.Cond.constant own index v ∈ tabs) (K : Goes p e below s n0 P k n T (mkF m (pc + 3) Ls (.int v :: rest))) : Goes p e below s n0 P k n T (mkF m pc Ls rest) := by
  obtain ⟨locs, S, -, -, -⟩ := X
  exact Goes.of (fun _ kk => S.ldcwInt C.1 C.2.2.2.2.2.1 (mvT C.2.2.2.2.2.2.2.1 (C.2.2.2.2.2.2.2.2 _ i1)) (g := mkF m pc Ls rest) rfl (hb C.2.1 hd) _ kk) K
theorem w_ldcJ (X : Hr p l e R s m args below meth c n0 h cells slots T) (C : Cx p s m meth c code ml ret own nm Z a0 tabs) {pc index : Nat} {Ls : Array Slot} {v : Int64} {rest : List Value} (hd : decode code pc = .ok (.ldc2_w index, 3)) (i1 : Jvm.Cond.constantLong own index v ∈ tabs) (K : Goes p e below s n0 P k n T (mkF m (pc + 3) Ls (.long v :: rest))) : Goes p e below s n0 P k n T (mkF m pc Ls rest) := by
  obtain ⟨locs, S, -, -, -⟩ := X
  exact Goes.of (fun _ kk => S.ldc2Long C.1 C.2.2.2.2.2.1 (mvT C.2.2.2.2.2.2.2.1 (C.2.2.2.2.2.2.2.2 _ i1)) (g := mkF m pc Ls rest) rfl (hb C.2.1 hd) _ kk) K
theorem w_goto (X : Hr p l e R s m args below meth c n0 h cells slots T) (C : Cx p s m meth c code ml ret own nm Z a0 tabs) {pc : Nat} {Ls : Array Slot} {st : List Value} {o : Int} (hd : decode code pc = .ok (.goto o, 3)) (pc' : Nat) (ho : 0 ≤ (pc : Int) + o ∧ ((pc : Int) + o).toNat = pc') (K : Goes p e below s n0 P k n T (mkF m pc' Ls st)) : Goes p e below s n0 P k n T (mkF m pc Ls st) := by
  obtain ⟨locs, S, -, -, -⟩ := X
  exact Goes.of (fun _ kk => XS.goto S.here C.1 rfl (pc0 := pc) (pc' := pc') rfl (hb C.2.1 hd) ho.1 ho.2 kk) K
theorem w_icmp_lt (X : Hr p l e R s m args below meth c n0 h cells slots T) (C : Cx p s m meth c code ml ret own nm Z a0 tabs) {pc : Nat} {Ls : Array Slot} {x y : Int32} {rest : List Value} {o : Int} (hd : decode code pc = .ok (.if_icmp .lt o, 3)) (pc' : Nat) (ho : 0 ≤ (pc : Int) + o ∧ ((pc : Int) + o).toNat = pc') (Ky : x < y → Goes p e below s n0 P k n T (mkF m pc' Ls rest)) (Kn : ¬ (x < y) → Goes p e below s n0 P k n T (mkF m (pc + 3) Ls rest)) : Goes p e below s n0 P k n T (mkF m pc Ls (.int y :: .int x :: rest)) := by
  obtain ⟨locs, S, -, -, -⟩ := X
  by_cases q : x < y
  · exact Goes.of (fun _ kk => XS.icmpYes S.here C.1 rfl (pc0 := pc) (pc' := pc') rfl (hb C.2.1 hd) rfl (tlt q).1 ho.1 ho.2 kk) (Ky q)
  · exact Goes.of (fun _ kk => XS.icmpNo S.here C.1 rfl (hb C.2.1 hd) rfl (flt q).1 kk) (Kn q)
theorem w_if_lt (X : Hr p l e R s m args below meth c n0 h cells slots T) (C : Cx p s m meth c code ml ret own nm Z a0 tabs) {pc : Nat} {Ls : Array Slot} {x : Int32} {rest : List Value} {o : Int} (hd : decode code pc = .ok (.ifCond .lt o, 3)) (pc' : Nat) (ho : 0 ≤ (pc : Int) + o ∧ ((pc : Int) + o).toNat = pc') (Ky : x < 0 → Goes p e below s n0 P k n T (mkF m pc' Ls rest)) (Kn : ¬ (x < 0) → Goes p e below s n0 P k n T (mkF m (pc + 3) Ls rest)) : Goes p e below s n0 P k n T (mkF m pc Ls (.int x :: rest)) := by
  obtain ⟨locs, S, -, -, -⟩ := X
  by_cases q : x < 0
  · exact Goes.of (fun _ kk => XS.ifYes S.here C.1 rfl (pc0 := pc) (pc' := pc') rfl (hb C.2.1 hd) rfl ((if0 _ _).trans (tlt q).1) ho.1 ho.2 kk) (Ky q)
  · exact Goes.of (fun _ kk => XS.ifNo S.here C.1 rfl (hb C.2.1 hd) rfl ((if0 _ _).trans (flt q).1) kk) (Kn q)
theorem w_icmp_ge (X : Hr p l e R s m args below meth c n0 h cells slots T) (C : Cx p s m meth c code ml ret own nm Z a0 tabs) {pc : Nat} {Ls : Array Slot} {x y : Int32} {rest : List Value} {o : Int} (hd : decode code pc = .ok (.if_icmp .ge o, 3)) (pc' : Nat) (ho : 0 ≤ (pc : Int) + o ∧ ((pc : Int) + o).toNat = pc') (Ky : ¬ (x < y) → Goes p e below s n0 P k n T (mkF m pc' Ls rest)) (Kn : x < y → Goes p e below s n0 P k n T (mkF m (pc + 3) Ls rest)) : Goes p e below s n0 P k n T (mkF m pc Ls (.int y :: .int x :: rest)) := by
  obtain ⟨locs, S, -, -, -⟩ := X
  by_cases q : x < y
  · exact Goes.of (fun _ kk => XS.icmpNo S.here C.1 rfl (hb C.2.1 hd) rfl (tlt q).2.1 kk) (Kn q)
  · exact Goes.of (fun _ kk => XS.icmpYes S.here C.1 rfl (pc0 := pc) (pc' := pc') rfl (hb C.2.1 hd) rfl (flt q).2.1 ho.1 ho.2 kk) (Ky q)
theorem w_if_ge (X : Hr p l e R s m args below meth c n0 h cells slots T) (C : Cx p s m meth c code ml ret own nm Z a0 tabs) {pc : Nat} {Ls : Array Slot} {x : Int32} {rest : List Value} {o : Int} (hd : decode code pc = .ok (.ifCond .ge o, 3)) (pc' : Nat) (ho : 0 ≤ (pc : Int) + o ∧ ((pc : Int) + o).toNat = pc') (Ky : ¬ (x < 0) → Goes p e below s n0 P k n T (mkF m pc' Ls rest)) (Kn : x < 0 → Goes p e below s n0 P k n T (mkF m (pc + 3) Ls rest)) : Goes p e below s n0 P k n T (mkF m pc Ls (.int x :: rest)) := by
  obtain ⟨locs, S, -, -, -⟩ := X
  by_cases q : x < 0
  · exact Goes.of (fun _ kk => XS.ifNo S.here C.1 rfl (hb C.2.1 hd) rfl ((if0 _ _).trans (tlt q).2.1) kk) (Kn q)
  · exact Goes.of (fun _ kk => XS.ifYes S.here C.1 rfl (pc0 := pc) (pc' := pc') rfl (hb C.2.1 hd) rfl ((if0 _ _).trans (flt q).2.1) ho.1 ho.2 kk) (Ky q)
theorem w_icmp_gt (X : Hr p l e R s m args below meth c n0 h cells slots T) (C : Cx p s m meth c code ml ret own nm Z a0 tabs) {pc : Nat} {Ls : Array Slot} {x y : Int32} {rest : List Value} {o : Int} (hd : decode code pc = .ok (.if_icmp .gt o, 3)) (pc' : Nat) (ho : 0 ≤ (pc : Int) + o ∧ ((pc : Int) + o).toNat = pc') (Ky : y < x → Goes p e below s n0 P k n T (mkF m pc' Ls rest)) (Kn : ¬ (y < x) → Goes p e below s n0 P k n T (mkF m (pc + 3) Ls rest)) : Goes p e below s n0 P k n T (mkF m pc Ls (.int y :: .int x :: rest)) := by
  obtain ⟨locs, S, -, -, -⟩ := X
  by_cases q : y < x
  · exact Goes.of (fun _ kk => XS.icmpYes S.here C.1 rfl (pc0 := pc) (pc' := pc') rfl (hb C.2.1 hd) rfl (tlt q).2.2.1 ho.1 ho.2 kk) (Ky q)
  · exact Goes.of (fun _ kk => XS.icmpNo S.here C.1 rfl (hb C.2.1 hd) rfl (flt q).2.2.1 kk) (Kn q)
theorem w_if_gt (X : Hr p l e R s m args below meth c n0 h cells slots T) (C : Cx p s m meth c code ml ret own nm Z a0 tabs) {pc : Nat} {Ls : Array Slot} {x : Int32} {rest : List Value} {o : Int} (hd : decode code pc = .ok (.ifCond .gt o, 3)) (pc' : Nat) (ho : 0 ≤ (pc : Int) + o ∧ ((pc : Int) + o).toNat = pc') (Ky : 0 < x → Goes p e below s n0 P k n T (mkF m pc' Ls rest)) (Kn : ¬ (0 < x) → Goes p e below s n0 P k n T (mkF m (pc + 3) Ls rest)) : Goes p e below s n0 P k n T (mkF m pc Ls (.int x :: rest)) := by
  obtain ⟨locs, S, -, -, -⟩ := X
  by_cases q : 0 < x
  · exact Goes.of (fun _ kk => XS.ifYes S.here C.1 rfl (pc0 := pc) (pc' := pc') rfl (hb C.2.1 hd) rfl ((if0 _ _).trans (tlt q).2.2.1) ho.1 ho.2 kk) (Ky q)
  · exact Goes.of (fun _ kk => XS.ifNo S.here C.1 rfl (hb C.2.1 hd) rfl ((if0 _ _).trans (flt q).2.2.1) kk) (Kn q)
theorem w_icmp_le (X : Hr p l e R s m args below meth c n0 h cells slots T) (C : Cx p s m meth c code ml ret own nm Z a0 tabs) {pc : Nat} {Ls : Array Slot} {x y : Int32} {rest : List Value} {o : Int} (hd : decode code pc = .ok (.if_icmp .le o, 3)) (pc' : Nat) (ho : 0 ≤ (pc : Int) + o ∧ ((pc : Int) + o).toNat = pc') (Ky : ¬ (y < x) → Goes p e below s n0 P k n T (mkF m pc' Ls rest)) (Kn : y < x → Goes p e below s n0 P k n T (mkF m (pc + 3) Ls rest)) : Goes p e below s n0 P k n T (mkF m pc Ls (.int y :: .int x :: rest)) := by
  obtain ⟨locs, S, -, -, -⟩ := X
  by_cases q : y < x
  · exact Goes.of (fun _ kk => XS.icmpNo S.here C.1 rfl (hb C.2.1 hd) rfl (tlt q).2.2.2 kk) (Kn q)
  · exact Goes.of (fun _ kk => XS.icmpYes S.here C.1 rfl (pc0 := pc) (pc' := pc') rfl (hb C.2.1 hd) rfl (flt q).2.2.2 ho.1 ho.2 kk) (Ky q)
theorem w_if_le (X : Hr p l e R s m args below meth c n0 h cells slots T) (C : Cx p s m meth c code ml ret own nm Z a0 tabs) {pc : Nat} {Ls : Array Slot} {x : Int32} {rest : List Value} {o : Int} (hd : decode code pc = .ok (.ifCond .le o, 3)) (pc' : Nat) (ho : 0 ≤ (pc : Int) + o ∧ ((pc : Int) + o).toNat = pc') (Ky : ¬ (0 < x) → Goes p e below s n0 P k n T (mkF m pc' Ls rest)) (Kn : 0 < x → Goes p e below s n0 P k n T (mkF m (pc + 3) Ls rest)) : Goes p e below s n0 P k n T (mkF m pc Ls (.int x :: rest)) := by
  obtain ⟨locs, S, -, -, -⟩ := X
  by_cases q : 0 < x
  · exact Goes.of (fun _ kk => XS.ifNo S.here C.1 rfl (hb C.2.1 hd) rfl ((if0 _ _).trans (tlt q).2.2.2) kk) (Kn q)
  · exact Goes.of (fun _ kk => XS.ifYes S.here C.1 rfl (pc0 := pc) (pc' := pc') rfl (hb C.2.1 hd) rfl ((if0 _ _).trans (flt q).2.2.2) ho.1 ho.2 kk) (Ky q)
theorem w_icmp_eq (X : Hr p l e R s m args below meth c n0 h cells slots T) (C : Cx p s m meth c code ml ret own nm Z a0 tabs) {pc : Nat} {Ls : Array Slot} {x y : Int32} {rest : List Value} {o : Int} (hd : decode code pc = .ok (.if_icmp .eq o, 3)) (pc' : Nat) (ho : 0 ≤ (pc : Int) + o ∧ ((pc : Int) + o).toNat = pc') (Ky : x = y → Goes p e below s n0 P k n T (mkF m pc' Ls rest)) (Kn : ¬ (x = y) → Goes p e below s n0 P k n T (mkF m (pc + 3) Ls rest)) : Goes p e below s n0 P k n T (mkF m pc Ls (.int y :: .int x :: rest)) := by
  obtain ⟨locs, S, -, -, -⟩ := X
  by_cases q : x = y
  · exact Goes.of (fun _ kk => XS.icmpYes S.here C.1 rfl (pc0 := pc) (pc' := pc') rfl (hb C.2.1 hd) rfl (teq q).1 ho.1 ho.2 kk) (Ky q)
  · exact Goes.of (fun _ kk => XS.icmpNo S.here C.1 rfl (hb C.2.1 hd) rfl (feq q).1 kk) (Kn q)
theorem w_if_eq (X : Hr p l e R s m args below meth c n0 h cells slots T) (C : Cx p s m meth c code ml ret own nm Z a0 tabs) {pc : Nat} {Ls : Array Slot} {x : Int32} {rest : List Value} {o : Int} (hd : decode code pc = .ok (.ifCond .eq o, 3)) (pc' : Nat) (ho : 0 ≤ (pc : Int) + o ∧ ((pc : Int) + o).toNat = pc') (Ky : x = 0 → Goes p e below s n0 P k n T (mkF m pc' Ls rest)) (Kn : ¬ (x = 0) → Goes p e below s n0 P k n T (mkF m (pc + 3) Ls rest)) : Goes p e below s n0 P k n T (mkF m pc Ls (.int x :: rest)) := by
  obtain ⟨locs, S, -, -, -⟩ := X
  by_cases q : x = 0
  · exact Goes.of (fun _ kk => XS.ifYes S.here C.1 rfl (pc0 := pc) (pc' := pc') rfl (hb C.2.1 hd) rfl ((if0 _ _).trans (teq q).1) ho.1 ho.2 kk) (Ky q)
  · exact Goes.of (fun _ kk => XS.ifNo S.here C.1 rfl (hb C.2.1 hd) rfl ((if0 _ _).trans (feq q).1) kk) (Kn q)
theorem w_icmp_ne (X : Hr p l e R s m args below meth c n0 h cells slots T) (C : Cx p s m meth c code ml ret own nm Z a0 tabs) {pc : Nat} {Ls : Array Slot} {x y : Int32} {rest : List Value} {o : Int} (hd : decode code pc = .ok (.if_icmp .ne o, 3)) (pc' : Nat) (ho : 0 ≤ (pc : Int) + o ∧ ((pc : Int) + o).toNat = pc') (Ky : ¬ (x = y) → Goes p e below s n0 P k n T (mkF m pc' Ls rest)) (Kn : x = y → Goes p e below s n0 P k n T (mkF m (pc + 3) Ls rest)) : Goes p e below s n0 P k n T (mkF m pc Ls (.int y :: .int x :: rest)) := by
  obtain ⟨locs, S, -, -, -⟩ := X
  by_cases q : x = y
  · exact Goes.of (fun _ kk => XS.icmpNo S.here C.1 rfl (hb C.2.1 hd) rfl (teq q).2 kk) (Kn q)
  · exact Goes.of (fun _ kk => XS.icmpYes S.here C.1 rfl (pc0 := pc) (pc' := pc') rfl (hb C.2.1 hd) rfl (feq q).2 ho.1 ho.2 kk) (Ky q)
theorem w_if_ne (X : Hr p l e R s m args below meth c n0 h cells slots T) (C : Cx p s m meth c code ml ret own nm Z a0 tabs) {pc : Nat} {Ls : Array Slot} {x : Int32} {rest : List Value} {o : Int} (hd : decode code pc = .ok (.ifCond .ne o, 3)) (pc' : Nat) (ho : 0 ≤ (pc : Int) + o ∧ ((pc : Int) + o).toNat = pc') (Ky : ¬ (x = 0) → Goes p e below s n0 P k n T (mkF m pc' Ls rest)) (Kn : x = 0 → Goes p e below s n0 P k n T (mkF m (pc + 3) Ls rest)) : Goes p e below s n0 P k n T (mkF m pc Ls (.int x :: rest)) := by
  obtain ⟨locs, S, -, -, -⟩ := X
  by_cases q : x = 0
  · exact Goes.of (fun _ kk => XS.ifNo S.here C.1 rfl (hb C.2.1 hd) rfl ((if0 _ _).trans (teq q).2) kk) (Kn q)
  · exact Goes.of (fun _ kk => XS.ifYes S.here C.1 rfl (pc0 := pc) (pc' := pc') rfl (hb C.2.1 hd) rfl ((if0 _ _).trans (feq q).2) ho.1 ho.2 kk) (Ky q)
theorem cj_lt (x y : Int64) : cmpJ x y < 0 ↔ x < y := lw_lt x y
theorem cj_gt (x y : Int64) : 0 < cmpJ x y ↔ y < x := lw_gt x y
theorem cj_eq (x y : Int64) : cmpJ x y = 0 ↔ x = y := lw_eq x y
theorem w_ifJ_lt (X : Hr p l e R s m args below meth c n0 h cells slots T) (C : Cx p s m meth c code ml ret own nm Z a0 tabs) {pc : Nat} {Ls : Array Slot} {x y : Int64} {rest : List Value} {o : Int} (hd : decode code pc = .ok (.ifCond .lt o, 3)) (pc' : Nat) (ho : 0 ≤ (pc : Int) + o ∧ ((pc : Int) + o).toNat = pc') (Ky : x < y → Goes p e below s n0 P k n T (mkF m pc' Ls rest)) (Kn : ¬ (x < y) → Goes p e below s n0 P k n T (mkF m (pc + 3) Ls rest)) : Goes p e below s n0 P k n T (mkF m pc Ls (.int (cmpJ x y) :: rest)) :=
  w_if_lt X C hd pc' ho (fun q => Ky ((cj_lt _ _).mp q)) (fun q => Kn (fun r => q ((cj_lt _ _).mpr r)))
theorem w_ifJ_ge (X : Hr p l e R s m args below meth c n0 h cells slots T) (C : Cx p s m meth c code ml ret own nm Z a0 tabs) {pc : Nat} {Ls : Array Slot} {x y : Int64} {rest : List Value} {o : Int} (hd : decode code pc = .ok (.ifCond .ge o, 3)) (pc' : Nat) (ho : 0 ≤ (pc : Int) + o ∧ ((pc : Int) + o).toNat = pc') (Ky : ¬ (x < y) → Goes p e below s n0 P k n T (mkF m pc' Ls rest)) (Kn : x < y → Goes p e below s n0 P k n T (mkF m (pc + 3) Ls rest)) : Goes p e below s n0 P k n T (mkF m pc Ls (.int (cmpJ x y) :: rest)) :=
  w_if_ge X C hd pc' ho (fun q => Ky (fun r => q ((cj_lt _ _).mpr r))) (fun q => Kn ((cj_lt _ _).mp q))
theorem w_ifJ_gt (X : Hr p l e R s m args below meth c n0 h cells slots T) (C : Cx p s m meth c code ml ret own nm Z a0 tabs) {pc : Nat} {Ls : Array Slot} {x y : Int64} {rest : List Value} {o : Int} (hd : decode code pc = .ok (.ifCond .gt o, 3)) (pc' : Nat) (ho : 0 ≤ (pc : Int) + o ∧ ((pc : Int) + o).toNat = pc') (Ky : y < x → Goes p e below s n0 P k n T (mkF m pc' Ls rest)) (Kn : ¬ (y < x) → Goes p e below s n0 P k n T (mkF m (pc + 3) Ls rest)) : Goes p e below s n0 P k n T (mkF m pc Ls (.int (cmpJ x y) :: rest)) :=
  w_if_gt X C hd pc' ho (fun q => Ky ((cj_gt _ _).mp q)) (fun q => Kn (fun r => q ((cj_gt _ _).mpr r)))
theorem w_ifJ_le (X : Hr p l e R s m args below meth c n0 h cells slots T) (C : Cx p s m meth c code ml ret own nm Z a0 tabs) {pc : Nat} {Ls : Array Slot} {x y : Int64} {rest : List Value} {o : Int} (hd : decode code pc = .ok (.ifCond .le o, 3)) (pc' : Nat) (ho : 0 ≤ (pc : Int) + o ∧ ((pc : Int) + o).toNat = pc') (Ky : ¬ (y < x) → Goes p e below s n0 P k n T (mkF m pc' Ls rest)) (Kn : y < x → Goes p e below s n0 P k n T (mkF m (pc + 3) Ls rest)) : Goes p e below s n0 P k n T (mkF m pc Ls (.int (cmpJ x y) :: rest)) :=
  w_if_le X C hd pc' ho (fun q => Ky (fun r => q ((cj_gt _ _).mpr r))) (fun q => Kn ((cj_gt _ _).mp q))
theorem w_ifJ_eq (X : Hr p l e R s m args below meth c n0 h cells slots T) (C : Cx p s m meth c code ml ret own nm Z a0 tabs) {pc : Nat} {Ls : Array Slot} {x y : Int64} {rest : List Value} {o : Int} (hd : decode code pc = .ok (.ifCond .eq o, 3)) (pc' : Nat) (ho : 0 ≤ (pc : Int) + o ∧ ((pc : Int) + o).toNat = pc') (Ky : x = y → Goes p e below s n0 P k n T (mkF m pc' Ls rest)) (Kn : ¬ (x = y) → Goes p e below s n0 P k n T (mkF m (pc + 3) Ls rest)) : Goes p e below s n0 P k n T (mkF m pc Ls (.int (cmpJ x y) :: rest)) :=
  w_if_eq X C hd pc' ho (fun q => Ky ((cj_eq _ _).mp q)) (fun q => Kn (fun r => q ((cj_eq _ _).mpr r)))
theorem w_ifJ_ne (X : Hr p l e R s m args below meth c n0 h cells slots T) (C : Cx p s m meth c code ml ret own nm Z a0 tabs) {pc : Nat} {Ls : Array Slot} {x y : Int64} {rest : List Value} {o : Int} (hd : decode code pc = .ok (.ifCond .ne o, 3)) (pc' : Nat) (ho : 0 ≤ (pc : Int) + o ∧ ((pc : Int) + o).toNat = pc') (Ky : ¬ (x = y) → Goes p e below s n0 P k n T (mkF m pc' Ls rest)) (Kn : x = y → Goes p e below s n0 P k n T (mkF m (pc + 3) Ls rest)) : Goes p e below s n0 P k n T (mkF m pc Ls (.int (cmpJ x y) :: rest)) :=
  w_if_ne X C hd pc' ho (fun q => Ky (fun r => q ((cj_eq _ _).mpr r))) (fun q => Kn ((cj_eq _ _).mp q))
theorem w_ifnull_no (X : Hr p l e R s m args below meth c n0 h cells slots T) (C : Cx p s m meth c code ml ret own nm Z a0 tabs) {pc : Nat} {Ls : Array Slot} {a : Addr} {rest : List Value} {o : Int} (hd : decode code pc = .ok (.ifnull o, 3)) (K : Goes p e below s n0 P k n T (mkF m (pc + 3) Ls rest)) : Goes p e below s n0 P k n T (mkF m pc Ls (.ref a :: rest)) := by
  obtain ⟨locs, S, -, -, -⟩ := X
  exact Goes.of (fun _ kk => XS.ifnullNo S.here C.1 rfl (hb C.2.1 hd) rfl kk) K
theorem w_retI (X : Hr p l e R s m args below meth c n0 h cells slots T) (C : Cx p s m meth c code ml (some .int) own nm Z a0 tabs) {pc : Nat} {Ls : Array Slot} {z : Int32} {rest : List Value} (hd : decode code pc = .ok (.ireturn, 1)) (hP : P (some (.int z)) h) (hk : cells ≤ k := by decide) (hn : slots ≤ n := by decide) : Goes p e below s n0 P k n T (mkF m pc Ls (.int z :: rest)) := by
  obtain ⟨locs, S, eT, N, -⟩ := X
  obtain ⟨fs, hr, hrun, hended, hW, hsame⟩ := S.leave (v := some (.int z)) (fun h => by rw [C.2.2.2.1] at h; cases h) C.2.2.2.2.1
  refine ⟨_, _, retI' S C.1 C.2.2.2.1 (hb C.2.1 hd) hr, hrun, hended, _, _, rfl, ⟨N, ?_⟩, ⟨_, rfl⟩, hW, hsame.mono hk hn⟩
  show P _ T.heap
  rw [eT]
  exact hP
theorem w_ret_boolean (X : Hr p l e R s m args below meth c n0 h cells slots T) (C : Cx p s m meth c code ml (some .boolean) own nm Z a0 tabs) {pc : Nat} {Ls : Array Slot} {z : Int32} {rest : List Value} (hd : decode code pc = .ok (.ireturn, 1)) (hP : P (some (.int (z &&& 1))) h) (hk : cells ≤ k := by decide) (hn : slots ≤ n := by decide) : Goes p e below s n0 P k n T (mkF m pc Ls (.int z :: rest)) := by
  obtain ⟨locs, S, eT, N, -⟩ := X
  obtain ⟨fs, hr, hrun, hended, hW, hsame⟩ := S.leave (v := some (.int (z &&& 1))) (fun h => by rw [C.2.2.2.1] at h; cases h) C.2.2.2.2.1
  refine ⟨_, _, retN S C.1 (t := .boolean) C.2.2.2.1 (by simp) (hb C.2.1 hd) hr, hrun, hended, _, _, rfl, ⟨N, ?_⟩, ⟨_, rfl⟩, hW, hsame.mono hk hn⟩
  show P _ T.heap
  rw [eT]
  exact hP
theorem w_ret_byte (X : Hr p l e R s m args below meth c n0 h cells slots T) (C : Cx p s m meth c code ml (some .byte) own nm Z a0 tabs) {pc : Nat} {Ls : Array Slot} {z : Int32} {rest : List Value} (hd : decode code pc = .ok (.ireturn, 1)) (hP : P (some (.int (i8 z))) h) (hk : cells ≤ k := by decide) (hn : slots ≤ n := by decide) : Goes p e below s n0 P k n T (mkF m pc Ls (.int z :: rest)) := by
  obtain ⟨locs, S, eT, N, -⟩ := X
  obtain ⟨fs, hr, hrun, hended, hW, hsame⟩ := S.leave (v := some (.int (i8 z))) (fun h => by rw [C.2.2.2.1] at h; cases h) C.2.2.2.2.1
  refine ⟨_, _, retN S C.1 (t := .byte) C.2.2.2.1 (by simp) (hb C.2.1 hd) hr, hrun, hended, _, _, rfl, ⟨N, ?_⟩, ⟨_, rfl⟩, hW, hsame.mono hk hn⟩
  show P _ T.heap
  rw [eT]
  exact hP
theorem w_ret_char (X : Hr p l e R s m args below meth c n0 h cells slots T) (C : Cx p s m meth c code ml (some .char) own nm Z a0 tabs) {pc : Nat} {Ls : Array Slot} {z : Int32} {rest : List Value} (hd : decode code pc = .ok (.ireturn, 1)) (hP : P (some (.int (i16c z))) h) (hk : cells ≤ k := by decide) (hn : slots ≤ n := by decide) : Goes p e below s n0 P k n T (mkF m pc Ls (.int z :: rest)) := by
  obtain ⟨locs, S, eT, N, -⟩ := X
  obtain ⟨fs, hr, hrun, hended, hW, hsame⟩ := S.leave (v := some (.int (i16c z))) (fun h => by rw [C.2.2.2.1] at h; cases h) C.2.2.2.2.1
  refine ⟨_, _, retN S C.1 (t := .char) C.2.2.2.1 (by simp) (hb C.2.1 hd) hr, hrun, hended, _, _, rfl, ⟨N, ?_⟩, ⟨_, rfl⟩, hW, hsame.mono hk hn⟩
  show P _ T.heap
  rw [eT]
  exact hP
theorem w_retJ (X : Hr p l e R s m args below meth c n0 h cells slots T) (C : Cx p s m meth c code ml (some .long) own nm Z a0 tabs) {pc : Nat} {Ls : Array Slot} {z : Int64} (hd : decode code pc = .ok (.lreturn, 1)) (hP : P (some (.long z)) h) (hk : cells ≤ k := by decide) (hn : slots ≤ n := by decide) : Goes p e below s n0 P k n T (mkF m pc Ls [.long z]) := by
  obtain ⟨locs, S, eT, N, -⟩ := X
  obtain ⟨fs, hr, hrun, hended, hW, hsame⟩ := S.leave (v := some (.long z)) (fun h => by rw [C.2.2.2.1] at h; cases h) C.2.2.2.2.1
  refine ⟨_, _, S.lreturnOut C.1 C.2.2.2.1 (hb C.2.1 hd) hr, hrun, hended, _, _, rfl, ⟨N, ?_⟩, ⟨_, rfl⟩, hW, hsame.mono hk hn⟩
  show P _ T.heap
  rw [eT]
  exact hP
theorem w_retR (X : Hr p l e R s m args below meth c n0 h cells slots T) (C : Cx p s m meth c code ml ret own nm Z a0 tabs) {pc : Nat} {Ls : Array Slot} {t : FieldType} {a : Addr} {rest : List Value} (ht : t.isReference = true) (hret : ret = some t) (hd : decode code pc = .ok (.areturn, 1)) (hP : P (some (.ref a)) h) (hk : cells ≤ k := by decide) (hn : slots ≤ n := by decide) : Goes p e below s n0 P k n T (mkF m pc Ls (.ref a :: rest)) := by
  subst hret
  obtain ⟨locs, S, eT, N, -⟩ := X
  obtain ⟨fs, hr, hrun, hended, hW, hsame⟩ := S.leave (v := some (.ref a)) (fun h => by rw [C.2.2.2.1] at h; cases h) C.2.2.2.2.1
  refine ⟨_, _, retOut S C.1 C.2.2.2.1 (by cases t <;> rfl) (Or.inr (Or.inr (Or.inr (Or.inr ⟨rfl, ht, rfl⟩)))) (hb C.2.1 hd) hr, hrun, hended, _, _, rfl, ⟨N, ?_⟩, ⟨_, rfl⟩, hW, hsame.mono hk hn⟩
  show P _ T.heap
  rw [eT]
  exact hP
theorem w_retV (X : Hr p l e R s m args below meth c n0 h cells slots T) (C : Cx p s m meth c code ml none own nm Z a0 tabs) {pc : Nat} {Ls : Array Slot} (hd : decode code pc = .ok (.return_, 1)) (hP : P none h) (hk : cells ≤ k := by decide) (hn : slots ≤ n := by decide) : Goes p e below s n0 P k n T (mkF m pc Ls []) := by
  obtain ⟨locs, S, eT, N, -⟩ := X
  obtain ⟨fs, hr, hrun, hended, hW, hsame⟩ := S.leave (v := none) (fun _ => rfl) C.2.2.2.2.1
  refine ⟨_, _, S.returnOut C.1 C.2.2.2.1 (hb C.2.1 hd) hr, hrun, hended, _, _, rfl, ⟨N, ?_⟩, ⟨_, rfl⟩, hW, hsame.mono hk hn⟩
  show P _ T.heap
  rw [eT]
  exact hP
theorem w_callS (X : Hr p l e R s m args below meth c n0 h cells slots T) (C : Cx p s m meth c code ml ret own nm Z a0 tabs) {pc index : Nat} {Ls : Array Slot} {y : MethodName} {bytes : ByteArray} {maxL : Nat} {rt : Option FieldType} {rm : Room} {P' : Option Value → Heap → Prop} {argsL rest st : List Value} (hd : decode code pc = .ok (.invokestatic index, 3)) (i1 : Jvm.Cond.methodLink own index y ∈ tabs) (i2 : Jvm.Cond.static y ∈ tabs) (i3 : Jvm.Cond.initialized y.cls ∈ tabs) (i4 : Jvm.Cond.code y bytes maxL rt ∈ tabs) (hy : y.cls ≠ "java/lang/invoke/MethodHandle" ∧ y.cls ≠ "java/lang/invoke/VarHandle") {W : Nat} (hM : Ct l y bytes maxL rt rm Z argsL.toArray h n0 P') (hls : Ls.size = ml) (hlen : ∃ ps r, parseMethodDescriptor y.desc = some ⟨ps, r⟩ ∧ argsL.length = ps.length) (hst : st = argsL.reverse ++ rest) (hW : (rest.map fun v => v.category).sum ≤ W) (hf : rm.frames + 1 ≤ R.frames) (hl : W + (maxL + 11) + rm.locals ≤ R.locals) (hc : cells + rm.cells ≤ R.cells) (hs : slots + rm.slots ≤ R.slots)
    (K : ∀ v T', P' v T'.heap → Hr p l e R s m args below meth c n0 T'.heap (cells + rm.cells) (slots + rm.slots) T' → Goes p e below s n0 P k n T' (mkF m (pc + 3) Ls (v.toList ++ rest))) : Goes p e below s n0 P k n T (mkF m pc Ls st) := by
  obtain ⟨locs, S, eT, N, q0⟩ := X
  obtain ⟨ps, r, hp1, hp2⟩ := hlen
  have hZ := C.2.2.2.2.2.2.2.1
  have hw := C.2.2.2.2.2.2.2.2
  obtain ⟨v, _, ⟨T', L', k', n'⟩, -, X', ⟨Lc, hQ, l1, l2, l3⟩, stp⟩ := Jvm.LawKit.callS S C.1 (y := y) C.2.2.2.2.2.1 (mvT hZ (hw _ i1)) (mvT hZ (hw _ i2)) (mvT hZ (hw _ i3)) (mvT hZ (hw _ i4)) hy (backOf (W := W) (Q := fun v hp L => Fr n0 L ∧ P' v hp) (hM []) C.2.2.2.2.2.2.2.1 (C.2.2.2.2.2.2.2.2 _ i4) (C.2.2.2.2.2.2.2.2 _ i3) hf hl) (g := mkF m pc Ls st) rfl (by rw [C.2.2.1]; exact hls) (argsL := argsL) (rest := rest) (lenOf hp1 hp2) hst (by show 2 * 0 + _ ≤ _; rw [Nat.mul_zero, Nat.zero_add]; exact hW) (hb C.2.1 hd) (fun _ _ => ⟨rfl, eT, hc, hs⟩)
  dsimp only [Pt.U, Pt.locs, Pt.cells, Pt.slots] at X' l1 l2 l3 stp hQ
  subst l1 l2 l3
  exact Goes.of stp (K v T' hQ.2 ⟨_, X', rfl, Fr.app N hQ.1, q0⟩)
theorem w_callI (X : Hr p l e R s m args below meth c n0 h cells slots T) (C : Cx p s m meth c code ml ret own nm Z a0 tabs) {pc index : Nat} {Ls : Array Slot} {y : MethodName} {bytes : ByteArray} {maxL : Nat} {rm : Room} {P' : Option Value → Heap → Prop} {a : Addr} {argsL rest st : List Value} (hd : decode code pc = .ok (.invokespecial index, 3)) (i1 : Jvm.Cond.methodLink own index y ∈ tabs) (i2 : Jvm.Cond.instanceMethod y ∈ tabs) (i3 : Jvm.Cond.initialized y.cls ∈ tabs) (i4 : Jvm.Cond.code y bytes maxL none ∈ tabs) (hn1 : y.name = "<init>") (hy : y.cls ≠ "java/lang/invoke/MethodHandle" ∧ y.cls ≠ "java/lang/invoke/VarHandle") {W : Nat} (hM : Ct l y bytes maxL none rm Z (.ref a :: argsL).toArray h n0 P') (hls : Ls.size = ml) (hlen : ∃ ps r, parseMethodDescriptor y.desc = some ⟨ps, r⟩ ∧ argsL.length = ps.length) (hst : st = argsL.reverse ++ .ref a :: rest) (hW : (rest.map fun v => v.category).sum ≤ W) (hf : rm.frames + 1 ≤ R.frames) (hl : W + (maxL + 11) + rm.locals ≤ R.locals) (hc : cells + rm.cells ≤ R.cells) (hs : slots + rm.slots ≤ R.slots)
    (K : ∀ v T', P' v T'.heap → Hr p l e R s m args below meth c n0 T'.heap (cells + rm.cells) (slots + rm.slots) T' → Goes p e below s n0 P k n T' (mkF m (pc + 3) Ls (v.toList ++ rest))) : Goes p e below s n0 P k n T (mkF m pc Ls st) := by
  obtain ⟨locs, S, eT, N, q0⟩ := X
  obtain ⟨ps, r, hp1, hp2⟩ := hlen
  have hZ := C.2.2.2.2.2.2.2.1
  have hw := C.2.2.2.2.2.2.2.2
  obtain ⟨v, _, ⟨T', L', k', n'⟩, -, X', ⟨Lc, hQ, l1, l2, l3⟩, stp⟩ := S.specialBack C.1 (y := y) hn1 C.2.2.2.2.2.1 (mvT hZ (hw _ i1)) (mvT hZ (hw _ i2)) (mvT hZ (hw _ i4)) hy (backOf (W := W) (Q := fun v hp L => Fr n0 L ∧ P' v hp) (hM []) C.2.2.2.2.2.2.2.1 (C.2.2.2.2.2.2.2.2 _ i4) (C.2.2.2.2.2.2.2.2 _ i3) hf hl) (g := mkF m pc Ls st) rfl (by rw [C.2.2.1]; exact hls) (Steps.refl _) (a := a) (argsL := argsL) (rest := rest) (lenOf hp1 hp2) hst (by show 2 * 0 + _ ≤ _; rw [Nat.mul_zero, Nat.zero_add]; exact hW) (hb C.2.1 hd) (fun _ _ => ⟨rfl, eT, hc, hs⟩)
  dsimp only [Pt.U, Pt.locs, Pt.cells, Pt.slots] at X' l1 l2 l3 stp hQ
  subst l1 l2 l3
  exact Goes.of (fun _ kk => stp.trans kk) (K v T' hQ.2 ⟨_, X', rfl, Fr.app N hQ.1, q0⟩)
theorem w_callV (X : Hr p l e R s m args below meth c n0 h cells slots T) (C : Cx p s m meth c code ml ret own nm Z a0 tabs) {pc index : Nat} {Ls : Array Slot} {y : MethodName} {bytes : ByteArray} {maxL : Nat} {rt : Option FieldType} {rm : Room} {P' : Option Value → Heap → Prop} {a : Addr} {argsL rest st : List Value} (hd : decode code pc = .ok (.invokevirtual index, 3)) (i1 : Jvm.Cond.methodLink own index y ∈ tabs) (i2 : Jvm.Cond.instanceMethod y ∈ tabs) (i3 : Jvm.Cond.initialized y.cls ∈ tabs) (i4 : Jvm.Cond.code y bytes maxL rt ∈ tabs) (i5 : Jvm.Cond.declares y ∈ tabs) (i6 : Jvm.Cond.selects y.cls y y ∈ tabs) (E : Exa Z h a y.cls) (hy : y.cls ≠ "java/lang/invoke/MethodHandle" ∧ y.cls ≠ "java/lang/invoke/VarHandle") {W : Nat} (hM : Ct l y bytes maxL rt rm Z (.ref a :: argsL).toArray h n0 P') (hls : Ls.size = ml) (hlen : ∃ ps r, parseMethodDescriptor y.desc = some ⟨ps, r⟩ ∧ argsL.length = ps.length) (hst : st = argsL.reverse ++ .ref a :: rest) (hW : (rest.map fun v => v.category).sum ≤ W) (hf : rm.frames + 1 ≤ R.frames) (hl : W + (maxL + 11) + rm.locals ≤ R.locals) (hc : cells + rm.cells ≤ R.cells) (hs : slots + rm.slots ≤ R.slots)
    (K : ∀ v T', P' v T'.heap → Hr p l e R s m args below meth c n0 T'.heap (cells + rm.cells) (slots + rm.slots) T' → Goes p e below s n0 P k n T' (mkF m (pc + 3) Ls (v.toList ++ rest))) : Goes p e below s n0 P k n T (mkF m pc Ls st) := by
  obtain ⟨locs, S, eT, N, q0⟩ := X
  obtain ⟨ps, r, hp1, hp2⟩ := hlen
  have hZ := C.2.2.2.2.2.2.2.1
  have hw := C.2.2.2.2.2.2.2.2
  obtain ⟨cB, kB, qa, qb, qc⟩ := isOf hZ eT E
  obtain ⟨v, _, ⟨T', L', k', n'⟩, -, X', ⟨Lc, hQ, l1, l2, l3⟩, stp⟩ := S.virtualBack C.1 (y := y) (z := y) C.2.2.2.2.2.1 (mvT hZ (hw _ i1)) (mvT hZ (hw _ i5)) (notFace_of_selects (args := #[]) (mvT hZ (hw _ i6))) (mvT hZ (hw _ i6)) (mvT hZ (hw _ i2)) hy (backOf (W := W) (Q := fun v hp L => Fr n0 L ∧ P' v hp) (hM []) C.2.2.2.2.2.2.2.1 (C.2.2.2.2.2.2.2.2 _ i4) (C.2.2.2.2.2.2.2.2 _ i3) hf hl) qa qc (g := mkF m pc Ls st) rfl (by rw [C.2.2.1]; exact hls) (Steps.refl _) (argsL := argsL) (rest := rest) (lenOf hp1 hp2) hst (by show 2 * 0 + _ ≤ _; rw [Nat.mul_zero, Nat.zero_add]; exact hW) (hb C.2.1 hd) (fun _ _ => ⟨rfl, eT, hc, hs⟩)
  dsimp only [Pt.U, Pt.locs, Pt.cells, Pt.slots] at X' l1 l2 l3 stp hQ
  subst l1 l2 l3
  exact Goes.of (fun _ kk => stp.trans kk) (K v T' hQ.2 ⟨_, X', rfl, Fr.app N hQ.1, q0⟩)
theorem w_callP (X : Hr p l e R s m args below meth c n0 h cells slots T) (C : Cx p s m meth c code ml ret own nm Z a0 tabs) {pc index : Nat} {Ls : Array Slot} {y : MethodName} {bytes : ByteArray} {maxL : Nat} {rt : Option FieldType} {rm : Room} {w : Value} {argsL rest st : List Value} {W : Nat} (hd : decode code pc = .ok (.invokestatic index, 3)) (i1 : Jvm.Cond.methodLink own index y ∈ tabs) (i2 : Jvm.Cond.static y ∈ tabs) (i3 : Jvm.Cond.initialized y.cls ∈ tabs) (i4 : Jvm.Cond.code y bytes maxL rt ∈ tabs) (hy : y.cls ≠ "java/lang/invoke/MethodHandle" ∧ y.cls ≠ "java/lang/invoke/VarHandle") (hM : Ct l y bytes maxL rt rm Z argsL.toArray h n0 (fun v hp => v = some w ∧ hp = h)) (hr0 : rm.cells = 0) (hr1 : rm.slots = 0) (hls : Ls.size = ml) (hlen : ∃ ps r, parseMethodDescriptor y.desc = some ⟨ps, r⟩ ∧ argsL.length = ps.length) (hst : st = argsL.reverse ++ rest) (hW : (rest.map fun v => v.category).sum ≤ W) (hf : rm.frames + 1 ≤ R.frames) (hl : W + (maxL + 11) + rm.locals ≤ R.locals) (hc : cells ≤ R.cells) (hs : slots ≤ R.slots)
    (K : ∀ T', Hr p l e R s m args below meth c n0 h cells slots T' → Goes p e below s n0 P k n T' (mkF m (pc + 3) Ls (w :: rest))) : Goes p e below s n0 P k n T (mkF m pc Ls st) := by
  refine w_callS X C hd i1 i2 i3 i4 hy hM hls hlen hst hW hf hl (by rw [hr0]; exact hc) (by rw [hr1]; exact hs) ?_
  rintro v T' ⟨rfl, e1⟩ X'
  rw [e1, hr0, hr1] at X'
  exact K T' X'
theorem w_initO (X : Hr p l e R s m args below meth c n0 h cells slots T) (C : Cx p s m meth c code ml ret own nm Z a0 tabs) {pc index : Nat} {Ls : Array Slot} {a : Addr} {rest : List Value} (hd : decode code pc = .ok (.invokespecial index, 3)) (i1 : Jvm.Cond.methodLink own index Lib.objectInit ∈ tabs) (i2 : Jvm.Cond.instanceMethod Lib.objectInit ∈ tabs) (i3 : Jvm.Cond.code Lib.objectInit ⟨#[0xb1]⟩ 1 none ∈ tabs) (hls : Ls.size = ml) {W : Nat} (hW : (rest.map fun v => v.category).sum ≤ W) (hf : 1 ≤ R.frames) (hl : W + 12 ≤ R.locals)
    (K : ∀ T', Hr p l e R s m args below meth c n0 h cells slots T' → Goes p e below s n0 P k n T' (mkF m (pc + 3) Ls rest)) : Goes p e below s n0 P k n T (mkF m pc Ls (.ref a :: rest)) := by
  obtain ⟨locs, S, eT, N, q0⟩ := X
  have hZ := C.2.2.2.2.2.2.2.1
  have hw := C.2.2.2.2.2.2.2.2
  obtain ⟨T', X', e', st⟩ := initO S C.1 hZ C.2.2.2.2.2.1 (hw _ i1) (hw _ i2) (hw _ i3) eT (g := mkF m pc Ls (.ref a :: rest)) rfl (by rw [C.2.2.1]; exact hls) rfl (hb C.2.1 hd) hf (W := W) (by show 2 * 0 + _ ≤ _; rw [Nat.mul_zero, Nat.zero_add]; exact hW) hl
  exact Goes.of st (K T' ⟨_, X', e', N, q0⟩)
theorem w_getfield (X : Hr p l e R s m args below meth c n0 h cells slots T) (C : Cx p s m meth c code ml ret own nm Z a0 tabs) {pc index : Nat} {Ls : Array Slot} {O nf d : String} {a : Addr} {v : Value} {rest : List Value} (hd : decode code pc = .ok (.getfield index, 3)) (i1 : Jvm.Cond.fieldLink own index O nf d ∈ tabs) (F : Fld Z h a O nf d v)
    (K : ∀ T', Hr p l e R s m args below meth c n0 h cells slots T' → Goes p e below s n0 P k n T' (mkF m (pc + 3) Ls (v :: rest))) : Goes p e below s n0 P k n T (mkF m pc Ls (.ref a :: rest)) := by
  obtain ⟨locs, S, eT, N, q0⟩ := X
  obtain ⟨T', X', e', st⟩ := getF S C.1 C.2.2.2.2.2.2.2.1 C.2.2.2.2.2.1 (host := "") (Or.inl (C.2.2.2.2.2.2.2.2 _ i1)) Via.refl eT F (g := mkF m pc Ls (.ref a :: rest)) rfl rfl (hb C.2.1 hd)
  exact Goes.of st (K T' ⟨_, X', e', N, q0⟩)
theorem w_putfield (X : Hr p l e R s m args below meth c n0 h cells slots T) (C : Cx p s m meth c code ml ret own nm Z a0 tabs) {pc index kk0 : Nat} {Ls : Array Slot} {O nf d Cc : String} {ty : FieldType} {a : Addr} {v old : Value} {rest : List Value} (hd : decode code pc = .ok (.putfield index, 3)) (i1 : Jvm.Cond.fieldLink own index O nf d ∈ tabs) (F : Fld Z h a O nf d old) (E : Exa Z h a Cc) (i2 : Jvm.Cond.lays Cc O nf d ∈ tabs ∨ (Jvm.Cond.laysFinal Cc O nf d ∈ tabs ∧ own = O ∧ nm = "<init>")) (i3 : Jvm.Cond.instantiable Cc kk0 ∈ tabs) (hty : parseFieldDescriptor d = some ty) (hnw : narrow ty v = v) (hft : fits ty v = true) (ha : n0 ≤ a)
    (K : ∀ T' h', Hr p l e R s m args below meth c n0 h' cells slots T' → Wr h h' a (Jvm.RoadKit.slotOf Z O nf d) v → Fld Z h' a O nf d v → Exa Z h' a Cc → Goes p e below s n0 P k n T' (mkF m (pc + 3) Ls rest)) : Goes p e below s n0 P k n T (mkF m pc Ls (v :: .ref a :: rest)) := by
  obtain ⟨locs, S, eT, N, q0⟩ := X
  have hw := C.2.2.2.2.2.2.2.2
  obtain ⟨T', h', X', e', W', st⟩ := putF S C.1 C.2.2.2.2.2.2.2.1 C.2.2.2.2.2.1 (host := "") (Or.inl (hw _ i1)) Via.refl eT F E (i2.imp (fun q => hw _ q) (fun q => ⟨hw _ q.1, q.2.1, by rw [C.2.2.2.2.2.2.1]; exact q.2.2⟩)) (hw _ i3) hty hnw hft (g := mkF m pc Ls (v :: .ref a :: rest)) rfl rfl (hb C.2.1 hd)
  exact Goes.of st (K T' h' ⟨_, X', e', Fr.snoc X' N ha, q0⟩ W' (F.same W') (E.wr W'))
theorem w_new (X : Hr p l e R s m args below meth c n0 h cells slots T) (C : Cx p s m meth c code ml ret own nm Z a0 tabs) {pc index nn : Nat} {Ls : Array Slot} {Cc : String} {rest : List Value} (hd : decode code pc = .ok (.new index, 3)) (i1 : Jvm.Cond.classLink own index Cc ∈ tabs) (i2 : Jvm.Cond.instantiable Cc nn ∈ tabs) (i3 : Jvm.Cond.initialized Cc ∈ tabs) (hc : cells + 1 ≤ R.cells) (hl : slots + nn ≤ R.slots)
    (K : ∀ T' h' a, a = h.size → n0 ≤ a → Hr p l e R s m args below meth c n0 h' (cells + 1) (slots + nn) T' → Ext h h' → Exa Z h' a Cc → (∀ {O nf d : String} {ty : FieldType}, (Jvm.Cond.lays Cc O nf d ∈ tabs ∨ Jvm.Cond.laysFinal Cc O nf d ∈ tabs) → parseFieldDescriptor d = some ty → Fld Z h' a O nf d (defaultValue ty)) → Goes p e below s n0 P k n T' (mkF m (pc + 3) Ls (.ref a :: rest))) : Goes p e below s n0 P k n T (mkF m pc Ls rest) := by
  have hsz := X.size
  obtain ⟨locs, S, eT, N, q0⟩ := X
  have hw := C.2.2.2.2.2.2.2.2
  obtain ⟨T', h', X', e', E', A', D', -, st⟩ := newO S C.1 C.2.2.2.2.2.2.2.1 C.2.2.2.2.2.1 (hw _ i1) (hw _ i2) (hw _ i3) eT (g := mkF m pc Ls rest) rfl (hb C.2.1 hd) hc hl
  exact Goes.of st (K T' h' h.size rfl hsz ⟨_, X', e', N, q0⟩ E' A' (fun q ht => D' (q.imp (fun z => hw _ z) (fun z => hw _ z)) ht))
theorem ArV.lt {a : Addr} {ty : FieldType} {N : Nat} {f : Nat → Value} (A : ArV Z h a ty N f) : a < h.size := by obtain ⟨cl, A, -⟩ := A; exact A.lt
theorem ArV.ext {a : Addr} {ty : FieldType} {N : Nat} {f : Nat → Value} (A : ArV Z h a ty N f) (E : Ext h h') : ArV Z h' a ty N f := by obtain ⟨cl, A, r⟩ := A; exact ⟨cl, A.ext E, r⟩
theorem ArV.other {a b : Addr} {ty : FieldType} {N sl : Nat} {v : Value} {f : Nat → Value} (A : ArV Z h b ty N f) (W : Wr h h' a sl v) (q : b ≠ a) : ArV Z h' b ty N f := by obtain ⟨cl, A, r⟩ := A; exact ⟨cl, A.other W q, r⟩
theorem ArV.keep {a : Addr} {ty : FieldType} {N : Nat} {f : Nat → Value} {ws : List Addr} (A : ArV Z h a ty N f) (K : Keep h h' ws) (q : a ∉ ws) : ArV Z h' a ty N f := by obtain ⟨c, A, r⟩ := A; exact ⟨c, ⟨K.2.1 a c A.1 q, A.2⟩, r⟩
theorem ArV.congr {a : Addr} {ty : FieldType} {N : Nat} {f f' : Nat → Value} (A : ArV Z h a ty N f) (q : ∀ i, i < N → f' i = f i) : ArV Z h a ty N f' := by obtain ⟨c, A, r1, r2⟩ := A; exact ⟨c, A, r1, fun i hi => by rw [q i hi]; exact r2 i hi⟩
theorem ArV.same {a : Addr} {ty : FieldType} {N j : Nat} {v : Value} {f : Nat → Value} (A : ArV Z h a ty N f) (W : Wr h h' a j v) : ArV Z h' a ty N (up f j v) := by
  obtain ⟨c, A, r1, r2⟩ := A
  refine ⟨_, A.same W, by rw [sz_set]; exact r1, fun i hi => ?_⟩
  unfold up
  by_cases q : i = j
  · subst q; simp [Cell.setSlot, r1, hi]
  · simp only [q, if_false, Cell.setSlot]
    rw [Array.getElem?_setIfInBounds_ne (fun z => q z.symm)]
    exact r2 i hi
theorem up_int (g : Nat → Int32) (j : Nat) (x : Int32) : (fun i => Value.int (up g j x i)) = up (fun i => Value.int (g i)) j (.int x) := by
  funext i; unfold up; split <;> rfl
theorem up_long (g : Nat → Int64) (j : Nat) (x : Int64) : (fun i => Value.long (up g j x i)) = up (fun i => Value.long (g i)) j (.long x) := by
  funext i; unfold up; split <;> rfl
theorem in_of {a : Addr} {ty : FieldType} {N i : Nat} {j : Int32} {cl : Cell} (hi : j.toInt = i) (hN : i < N) (r1 : cl.slots.size = N) : ¬ (j < 0 ∨ cl.slots.size ≤ j.toNatClampNeg) ∧ j.toNatClampNeg = i := by
  have e0 : (0 : Int32).toInt = 0 := rfl
  have e1 : j.toNatClampNeg = i := by simp only [Int32.toNatClampNeg, hi]; omega
  refine ⟨?_, e1⟩
  rw [e1, r1, Int32.lt_iff_toInt_lt, e0]; omega
theorem w_baload (X : Hr p l e R s m args below meth c n0 h cells slots T) (C : Cx p s m meth c code ml ret own nm Z a0 tabs) {pc N : Nat} {Ls : Array Slot} {a : Addr} {g : Nat → Int32} {j : Int32} {rest : List Value} (hd : decode code pc = .ok (.baload, 1)) (A : ArI Z h a .byte N g) (i : Nat) (hi : j.toInt = i) (hN : i < N) (K : Goes p e below s n0 P k n T (mkF m (pc + 1) Ls (.int (g i) :: rest))) : Goes p e below s n0 P k n T (mkF m pc Ls (.int j :: .ref a :: rest)) := by
  obtain ⟨locs, S, eT, N0, q0⟩ := X
  obtain ⟨cl, Ar, r1, r2⟩ := A
  obtain ⟨hin, e1⟩ := in_of (a := a) (ty := .byte) hi hN r1
  exact Goes.of (fun _ kk => S.baloadBytes C.1 (j := j) (v := .int (g i)) (by rw [eT]; exact Ar.1) (State.isArrayOf_alike C.2.2.2.2.2.2.2.1.alike Ar.2.1) Ar.2.2 hin (by rw [e1]; exact r2 i hN) (g := mkF m pc Ls (.int j :: .ref a :: rest)) rfl rfl (hb C.2.1 hd) _ kk) K
theorem w_iaload (X : Hr p l e R s m args below meth c n0 h cells slots T) (C : Cx p s m meth c code ml ret own nm Z a0 tabs) {pc N : Nat} {Ls : Array Slot} {a : Addr} {g : Nat → Int32} {j : Int32} {rest : List Value} (hd : decode code pc = .ok (.iaload, 1)) (A : ArI Z h a .int N g) (i : Nat) (hi : j.toInt = i) (hN : i < N) (K : Goes p e below s n0 P k n T (mkF m (pc + 1) Ls (.int (g i) :: rest))) : Goes p e below s n0 P k n T (mkF m pc Ls (.int j :: .ref a :: rest)) := by
  obtain ⟨locs, S, eT, N0, q0⟩ := X
  obtain ⟨cl, Ar, r1, r2⟩ := A
  obtain ⟨hin, e1⟩ := in_of (a := a) (ty := .int) hi hN r1
  exact Goes.of (fun _ kk => S.iaload C.1 (j := j) (v := .int (g i)) (by rw [eT]; exact Ar.1) (State.isArrayOf_alike C.2.2.2.2.2.2.2.1.alike Ar.2.1) Ar.2.2 hin (by rw [e1]; exact r2 i hN) (g := mkF m pc Ls (.int j :: .ref a :: rest)) rfl rfl (hb C.2.1 hd) _ kk) K
theorem w_laload (X : Hr p l e R s m args below meth c n0 h cells slots T) (C : Cx p s m meth c code ml ret own nm Z a0 tabs) {pc N : Nat} {Ls : Array Slot} {a : Addr} {g : Nat → Int64} {j : Int32} {rest : List Value} (hd : decode code pc = .ok (.laload, 1)) (A : ArJ Z h a N g) (i : Nat) (hi : j.toInt = i) (hN : i < N) (K : Goes p e below s n0 P k n T (mkF m (pc + 1) Ls (.long (g i) :: rest))) : Goes p e below s n0 P k n T (mkF m pc Ls (.int j :: .ref a :: rest)) := by
  obtain ⟨locs, S, eT, N0, q0⟩ := X
  obtain ⟨cl, Ar, r1, r2⟩ := A
  obtain ⟨hin, e1⟩ := in_of (a := a) (ty := .long) hi hN r1
  exact Goes.of (fun _ kk => S.laload C.1 (j := j) (v := .long (g i)) (by rw [eT]; exact Ar.1) (State.isArrayOf_alike C.2.2.2.2.2.2.2.1.alike Ar.2.1) Ar.2.2 hin (by rw [e1]; exact r2 i hN) (g := mkF m pc Ls (.int j :: .ref a :: rest)) rfl rfl (hb C.2.1 hd) _ kk) K
theorem w_bastore (X : Hr p l e R s m args below meth c n0 h cells slots T) (C : Cx p s m meth c code ml ret own nm Z a0 tabs) {pc N : Nat} {Ls : Array Slot} {a : Addr} {g : Nat → Int32} {j : Int32} {x : Int32} {rest : List Value} (hd : decode code pc = .ok (.bastore, 1)) (A : ArI Z h a .byte N g) (i : Nat) (hi : j.toInt = i) (hN : i < N) (ha : n0 ≤ a)
    (K : ∀ T' h', Hr p l e R s m args below meth c n0 h' cells slots T' → Wr h h' a i (.int (i8 x)) → ArI Z h' a .byte N (up g i (i8 x)) → Goes p e below s n0 P k n T' (mkF m (pc + 1) Ls rest)) : Goes p e below s n0 P k n T (mkF m pc Ls (.int x :: .int j :: .ref a :: rest)) := by
  obtain ⟨locs, S, eT, N0, q0⟩ := X
  obtain ⟨cl, Ar, r1, r2⟩ := A
  obtain ⟨hin, e1⟩ := in_of (a := a) (ty := .byte) hi hN r1
  obtain ⟨T', h', X', e', W', st⟩ := stB S C.1 C.2.2.2.2.2.2.2.1 eT Ar (j := j) hin (g := mkF m pc Ls (.int x :: .int j :: .ref a :: rest)) rfl rfl (hb C.2.1 hd)
  rw [e1] at W'
  refine Goes.of st (K T' h' ⟨_, X', e', Fr.snoc X' N0 ha, q0⟩ W' ?_)
  have q := ArV.same ⟨cl, Ar, r1, r2⟩ W'
  rw [← (show (fun i_1 => Value.int (up g i (i8 x) i_1)) = up (fun i => Value.int (g i)) i (.int (nar .byte x)) from up_int g i (i8 x))] at q
  exact q
theorem w_iastore (X : Hr p l e R s m args below meth c n0 h cells slots T) (C : Cx p s m meth c code ml ret own nm Z a0 tabs) {pc N : Nat} {Ls : Array Slot} {a : Addr} {g : Nat → Int32} {j : Int32} {x : Int32} {rest : List Value} (hd : decode code pc = .ok (.iastore, 1)) (A : ArI Z h a .int N g) (i : Nat) (hi : j.toInt = i) (hN : i < N) (ha : n0 ≤ a)
    (K : ∀ T' h', Hr p l e R s m args below meth c n0 h' cells slots T' → Wr h h' a i (.int (x)) → ArI Z h' a .int N (up g i (x)) → Goes p e below s n0 P k n T' (mkF m (pc + 1) Ls rest)) : Goes p e below s n0 P k n T (mkF m pc Ls (.int x :: .int j :: .ref a :: rest)) := by
  obtain ⟨locs, S, eT, N0, q0⟩ := X
  obtain ⟨cl, Ar, r1, r2⟩ := A
  obtain ⟨hin, e1⟩ := in_of (a := a) (ty := .int) hi hN r1
  obtain ⟨T', h', X', e', W', st⟩ := stI S C.1 C.2.2.2.2.2.2.2.1 eT Ar (j := j) hin (g := mkF m pc Ls (.int x :: .int j :: .ref a :: rest)) rfl rfl (hb C.2.1 hd)
  rw [e1] at W'
  refine Goes.of st (K T' h' ⟨_, X', e', Fr.snoc X' N0 ha, q0⟩ W' ?_)
  have q := ArV.same ⟨cl, Ar, r1, r2⟩ W'
  rw [← up_int] at q
  exact q
theorem w_lastore (X : Hr p l e R s m args below meth c n0 h cells slots T) (C : Cx p s m meth c code ml ret own nm Z a0 tabs) {pc N : Nat} {Ls : Array Slot} {a : Addr} {g : Nat → Int64} {j : Int32} {x : Int64} {rest : List Value} (hd : decode code pc = .ok (.lastore, 1)) (A : ArJ Z h a N g) (i : Nat) (hi : j.toInt = i) (hN : i < N) (ha : n0 ≤ a)
    (K : ∀ T' h', Hr p l e R s m args below meth c n0 h' cells slots T' → Wr h h' a i (.long (x)) → ArJ Z h' a N (up g i (x)) → Goes p e below s n0 P k n T' (mkF m (pc + 1) Ls rest)) : Goes p e below s n0 P k n T (mkF m pc Ls (.long x :: .int j :: .ref a :: rest)) := by
  obtain ⟨locs, S, eT, N0, q0⟩ := X
  obtain ⟨cl, Ar, r1, r2⟩ := A
  obtain ⟨hin, e1⟩ := in_of (a := a) (ty := .long) hi hN r1
  obtain ⟨T', h', X', e', W', st⟩ := stJ S C.1 C.2.2.2.2.2.2.2.1 eT Ar (j := j) hin (g := mkF m pc Ls (.long x :: .int j :: .ref a :: rest)) rfl rfl (hb C.2.1 hd)
  rw [e1] at W'
  refine Goes.of st (K T' h' ⟨_, X', e', Fr.snoc X' N0 ha, q0⟩ W' ?_)
  have q := ArV.same ⟨cl, Ar, r1, r2⟩ W'
  rw [← up_long] at q
  exact q
theorem w_arraylength (X : Hr p l e R s m args below meth c n0 h cells slots T) (C : Cx p s m meth c code ml ret own nm Z a0 tabs) {pc N : Nat} {Ls : Array Slot} {a : Addr} {ty : FieldType} {f : Nat → Value} {rest : List Value} (hd : decode code pc = .ok (.arraylength, 1)) (A : ArV Z h a ty N f) (K : Goes p e below s n0 P k n T (mkF m (pc + 1) Ls (.int N.toInt32 :: rest))) : Goes p e below s n0 P k n T (mkF m pc Ls (.ref a :: rest)) := by
  obtain ⟨locs, S, eT, N0, q0⟩ := X
  obtain ⟨cl, Ar, r1, r2⟩ := A
  subst r1
  exact Goes.of (fun _ kk => S.arraylength C.1 (by rw [eT]; exact Ar.1) (State.isArrayOf_alike C.2.2.2.2.2.2.2.1.alike Ar.2.1) (g := mkF m pc Ls (.ref a :: rest)) rfl rfl (hb C.2.1 hd) _ kk) K
theorem w_new_byte (X : Hr p l e R s m args below meth c n0 h cells slots T) (C : Cx p s m meth c code ml ret own nm Z a0 tabs) {pc : Nat} {Ls : Array Slot} {sz : Int32} {rest : List Value} (hd : decode code pc = .ok (.newarray .byte, 2)) (i1 : Jvm.Cond.arrayClass .byte ∈ tabs) (N : Nat) (hN : sz.toInt = N) (cap : Nat) (hcap : N ≤ cap) (hbig : cap * 8 ≤ 536870912) (hc : cells + 1 ≤ R.cells) (hl : slots + cap ≤ R.slots)
    (K : ∀ T' h' a, a = h.size → n0 ≤ a → Hr p l e R s m args below meth c n0 h' (cells + 1) (slots + cap) T' → Ext h h' → ArI Z h' a .byte N (fun _ => 0) → Goes p e below s n0 P k n T' (mkF m (pc + 2) Ls (.ref a :: rest))) : Goes p e below s n0 P k n T (mkF m pc Ls (.int sz :: rest)) := by
  have hsz := X.size
  obtain ⟨locs, S, eT, N0, q0⟩ := X
  have hw := C.2.2.2.2.2.2.2.2
  have e1 : sz.toNatClampNeg = N := by simp only [Int32.toNatClampNeg, hN]; omega
  have e2 : ¬ sz < 0 := by
    have e0 : (0 : Int32).toInt = 0 := rfl
    rw [Int32.lt_iff_toInt_lt, e0]; omega
  obtain ⟨T', h', kk', X', e', E', A', st⟩ := newP S C.1 C.2.2.2.2.2.2.2.1 (aty := .byte) (hw _ i1) eT (g := mkF m pc Ls (.int sz :: rest)) rfl (hb C.2.1 hd) rfl e2 (cap := cap) (by rw [e1]; exact hcap) hbig hc hl
  refine Goes.of st (K T' h' h.size rfl hsz ⟨_, X', e', N0, q0⟩ E' ⟨_, A', by rw [sz_new]; exact e1, fun i hi => ?_⟩)
  simp [newA, e1, hi, newarray.typeOf, defaultValue]
theorem w_new_int (X : Hr p l e R s m args below meth c n0 h cells slots T) (C : Cx p s m meth c code ml ret own nm Z a0 tabs) {pc : Nat} {Ls : Array Slot} {sz : Int32} {rest : List Value} (hd : decode code pc = .ok (.newarray .int, 2)) (i1 : Jvm.Cond.arrayClass .int ∈ tabs) (N : Nat) (hN : sz.toInt = N) (cap : Nat) (hcap : N ≤ cap) (hbig : cap * 8 ≤ 536870912) (hc : cells + 1 ≤ R.cells) (hl : slots + cap ≤ R.slots)
    (K : ∀ T' h' a, a = h.size → n0 ≤ a → Hr p l e R s m args below meth c n0 h' (cells + 1) (slots + cap) T' → Ext h h' → ArI Z h' a .int N (fun _ => 0) → Goes p e below s n0 P k n T' (mkF m (pc + 2) Ls (.ref a :: rest))) : Goes p e below s n0 P k n T (mkF m pc Ls (.int sz :: rest)) := by
  have hsz := X.size
  obtain ⟨locs, S, eT, N0, q0⟩ := X
  have hw := C.2.2.2.2.2.2.2.2
  have e1 : sz.toNatClampNeg = N := by simp only [Int32.toNatClampNeg, hN]; omega
  have e2 : ¬ sz < 0 := by
    have e0 : (0 : Int32).toInt = 0 := rfl
    rw [Int32.lt_iff_toInt_lt, e0]; omega
  obtain ⟨T', h', kk', X', e', E', A', st⟩ := newP S C.1 C.2.2.2.2.2.2.2.1 (aty := .int) (hw _ i1) eT (g := mkF m pc Ls (.int sz :: rest)) rfl (hb C.2.1 hd) rfl e2 (cap := cap) (by rw [e1]; exact hcap) hbig hc hl
  refine Goes.of st (K T' h' h.size rfl hsz ⟨_, X', e', N0, q0⟩ E' ⟨_, A', by rw [sz_new]; exact e1, fun i hi => ?_⟩)
  simp [newA, e1, hi, newarray.typeOf, defaultValue]
theorem w_new_long (X : Hr p l e R s m args below meth c n0 h cells slots T) (C : Cx p s m meth c code ml ret own nm Z a0 tabs) {pc : Nat} {Ls : Array Slot} {sz : Int32} {rest : List Value} (hd : decode code pc = .ok (.newarray .long, 2)) (i1 : Jvm.Cond.arrayClass .long ∈ tabs) (N : Nat) (hN : sz.toInt = N) (cap : Nat) (hcap : N ≤ cap) (hbig : cap * 8 ≤ 536870912) (hc : cells + 1 ≤ R.cells) (hl : slots + cap ≤ R.slots)
    (K : ∀ T' h' a, a = h.size → n0 ≤ a → Hr p l e R s m args below meth c n0 h' (cells + 1) (slots + cap) T' → Ext h h' → ArJ Z h' a N (fun _ => 0) → Goes p e below s n0 P k n T' (mkF m (pc + 2) Ls (.ref a :: rest))) : Goes p e below s n0 P k n T (mkF m pc Ls (.int sz :: rest)) := by
  have hsz := X.size
  obtain ⟨locs, S, eT, N0, q0⟩ := X
  have hw := C.2.2.2.2.2.2.2.2
  have e1 : sz.toNatClampNeg = N := by simp only [Int32.toNatClampNeg, hN]; omega
  have e2 : ¬ sz < 0 := by
    have e0 : (0 : Int32).toInt = 0 := rfl
    rw [Int32.lt_iff_toInt_lt, e0]; omega
  obtain ⟨T', h', kk', X', e', E', A', st⟩ := newP S C.1 C.2.2.2.2.2.2.2.1 (aty := .long) (hw _ i1) eT (g := mkF m pc Ls (.int sz :: rest)) rfl (hb C.2.1 hd) rfl e2 (cap := cap) (by rw [e1]; exact hcap) hbig hc hl
  refine Goes.of st (K T' h' h.size rfl hsz ⟨_, X', e', N0, q0⟩ E' ⟨_, A', by rw [sz_new]; exact e1, fun i hi => ?_⟩)
  simp [newA, e1, hi, newarray.typeOf, defaultValue]
end W
end Jvm.OwnW
namespace Jvm.Pilot.@@N@@
open Jvm Jvm.ClassFile Sem Op Lib Jvm.Free Jvm.Stand Jvm.LawKit Jvm.RoadKit Bundle Jvm.OwnW Jvm.Pilot.@@N@@.Jvm.D
theorem pn_0 : plainName "com/example/pondera/pondera/io/ReaderVarintPinLaw" = true := by first | (simp [plainName, overriddenIn]; done) | decide +kernel
theorem pn_1 : plainName "com/example/pondera/pondera/io/IndexBytes$Reader" = true := by first | (simp [plainName, overriddenIn]; done) | decide +kernel
theorem pd_0 : parseMethodDescriptor "(JJI)I" = some ⟨[.long, .long, .int], some .int⟩ := by decide +kernel
theorem pd_1 : parseMethodDescriptor "([BIIIJJ)V" = some ⟨[(.array .byte), .int, .int, .int, .long, .long], none⟩ := by decide +kernel
theorem pd_2 : parseMethodDescriptor "(JJII)J" = some ⟨[.long, .long, .int, .int], some .long⟩ := by decide +kernel
theorem pd_3 : parseMethodDescriptor "([BII)V" = some ⟨[(.array .byte), .int, .int], none⟩ := by decide +kernel
theorem pd_4 : parseMethodDescriptor "()J" = some ⟨[], some .long⟩ := by decide +kernel
theorem pd_5 : parseMethodDescriptor "()I" = some ⟨[], some .int⟩ := by decide +kernel
def f2_53 (x0 : Int64) (x2 : Int64) (x4 : Int32) (x5 : Int32) (x6 : Int32) : Int32 := x6
def f2_31 (x0 : Int64) (x2 : Int64) (x4 : Int32) (z0 : Int32) : Int32 := (if x4 = (9 : Int32) then (f2_53 x0 x2 x4 z0 ((z0 &&& (127 : Int32)) &&& (1 : Int32))) else (f2_53 x0 x2 x4 z0 (z0 &&& (127 : Int32))))
def f2 (x0 : Int64) (x2 : Int64) (x4 : Int32) : Int32 := (if x4 < (8 : Int32) then (f2_31 x0 x2 x4 (i8 ((ushrJ x0 ((8 : Int32) * x4))).toInt32)) else (f2_31 x0 x2 x4 (i8 ((ushrJ x2 ((8 : Int32) * (x4 - (8 : Int32))))).toInt32)))
theorem d2_0 : decode method_2_code 0 = .ok (.iload 4, 2) := by decide +kernel
theorem d2_2 : decode method_2_code 2 = .ok (.bipush 8, 2) := by decide +kernel
theorem d2_4 : decode method_2_code 4 = .ok (.if_icmp .ge 15, 3) := by decide +kernel
theorem d2_7 : decode method_2_code 7 = .ok (.lload_n 0, 1) := by decide +kernel
theorem d2_8 : decode method_2_code 8 = .ok (.bipush 8, 2) := by decide +kernel
theorem d2_10 : decode method_2_code 10 = .ok (.iload 4, 2) := by decide +kernel
theorem d2_12 : decode method_2_code 12 = .ok (.imul, 1) := by decide +kernel
theorem d2_13 : decode method_2_code 13 = .ok (.lushr, 1) := by decide +kernel
theorem d2_14 : decode method_2_code 14 = .ok (.l2i, 1) := by decide +kernel
theorem d2_15 : decode method_2_code 15 = .ok (.i2b, 1) := by decide +kernel
theorem d2_16 : decode method_2_code 16 = .ok (.goto 15, 3) := by decide +kernel
theorem d2_19 : decode method_2_code 19 = .ok (.lload_n 2, 1) := by decide +kernel
theorem d2_20 : decode method_2_code 20 = .ok (.bipush 8, 2) := by decide +kernel
theorem d2_22 : decode method_2_code 22 = .ok (.iload 4, 2) := by decide +kernel
theorem d2_24 : decode method_2_code 24 = .ok (.bipush 8, 2) := by decide +kernel
theorem d2_26 : decode method_2_code 26 = .ok (.isub, 1) := by decide +kernel
theorem d2_27 : decode method_2_code 27 = .ok (.imul, 1) := by decide +kernel
theorem d2_28 : decode method_2_code 28 = .ok (.lushr, 1) := by decide +kernel
theorem d2_29 : decode method_2_code 29 = .ok (.l2i, 1) := by decide +kernel
theorem d2_30 : decode method_2_code 30 = .ok (.i2b, 1) := by decide +kernel
theorem d2_31 : decode method_2_code 31 = .ok (.istore 5, 2) := by decide +kernel
theorem d2_33 : decode method_2_code 33 = .ok (.iload 5, 2) := by decide +kernel
theorem d2_35 : decode method_2_code 35 = .ok (.bipush 127, 2) := by decide +kernel
theorem d2_37 : decode method_2_code 37 = .ok (.iand, 1) := by decide +kernel
theorem d2_38 : decode method_2_code 38 = .ok (.istore 6, 2) := by decide +kernel
theorem d2_40 : decode method_2_code 40 = .ok (.iload 4, 2) := by decide +kernel
theorem d2_42 : decode method_2_code 42 = .ok (.bipush 9, 2) := by decide +kernel
theorem d2_44 : decode method_2_code 44 = .ok (.if_icmp .ne 9, 3) := by decide +kernel
theorem d2_47 : decode method_2_code 47 = .ok (.iload 6, 2) := by decide +kernel
theorem d2_49 : decode method_2_code 49 = .ok (.iconst 1, 1) := by decide +kernel
theorem d2_50 : decode method_2_code 50 = .ok (.iand, 1) := by decide +kernel
theorem d2_51 : decode method_2_code 51 = .ok (.istore 6, 2) := by decide +kernel
theorem d2_53 : decode method_2_code 53 = .ok (.iload 6, 2) := by decide +kernel
theorem d2_55 : decode method_2_code 55 = .ok (.ireturn, 1) := by decide +kernel
set_option maxRecDepth 65536 in
set_option maxHeartbeats 4000000 in
theorem b2_53 {p : Program} {l : Launch} {e : Env} {s : State} {m : MethodId} {args : Array Value} {below : List Frame} {meth : Method} {c : Code} {T : State} {h : Heap} {n0 : Nat} {P : Option Value → Heap → Prop} {Z : State} {a0 : Array Value} (X : Hr p l e ({ frames := 0, cells := 0, slots := 0, locals := 0 } : Room) s m args below meth c n0 h 0 0 T) (C : Cx p s m meth c method_2_code 7 (some .int) "com/example/pondera/pondera/io/ReaderVarintPinLaw" "payload" Z a0 tables_1) (x0 : Int64) (x2 : Int64) (x4 : Int32) (x5 : Int32) (x6 : Int32) (hP : P (some (.int (f2_53 x0 x2 x4 x5 x6))) h) : Goes p e below s n0 P 0 0 T (mkF m 53 #[.val (.long x0), .second, .val (.long x2), .second, .val (.int x4), .val (.int x5), .val (.int x6)] []) := by
  refine w_iload (pc := 53) X C d2_53 rfl ?_
  exact w_retI (pc := 55) X C d2_55 (by unfold f2_53 at hP; exact hP)
set_option maxRecDepth 65536 in
set_option maxHeartbeats 4000000 in
theorem b2_31 {p : Program} {l : Launch} {e : Env} {s : State} {m : MethodId} {args : Array Value} {below : List Frame} {meth : Method} {c : Code} {T : State} {h : Heap} {n0 : Nat} {P : Option Value → Heap → Prop} {Z : State} {a0 : Array Value} (X : Hr p l e ({ frames := 0, cells := 0, slots := 0, locals := 0 } : Room) s m args below meth c n0 h 0 0 T) (C : Cx p s m meth c method_2_code 7 (some .int) "com/example/pondera/pondera/io/ReaderVarintPinLaw" "payload" Z a0 tables_1) (x0 : Int64) (x2 : Int64) (x4 : Int32) (z0 : Int32) (hP : P (some (.int (f2_31 x0 x2 x4 z0))) h) : Goes p e below s n0 P 0 0 T (mkF m 31 #[.val (.long x0), .second, .val (.long x2), .second, .val (.int x4), .unset, .unset] [(.int z0)]) := by
  refine w_istore (pc := 31) X C d2_31 #[.val (.long x0), .second, .val (.long x2), .second, .val (.int x4), .val (.int z0), .unset] rfl ?_
  refine w_iload (pc := 33) X C d2_33 rfl ?_
  refine w_bipush (pc := 35) X C d2_35 (127 : Int32) rfl ?_
  refine w_iand (pc := 37) X C d2_37 ?_
  refine w_istore (pc := 38) X C d2_38 #[.val (.long x0), .second, .val (.long x2), .second, .val (.int x4), .val (.int z0), .val (.int (z0 &&& (127 : Int32)))] rfl ?_
  refine w_iload (pc := 40) X C d2_40 rfl ?_
  refine w_bipush (pc := 42) X C d2_42 (9 : Int32) rfl ?_
  refine w_icmp_ne (pc := 44) X C d2_44 53 (by decide) (fun q2 => ?_) (fun q2 => ?_)
  · -- yes
    exact b2_53 X C (x0) (x2) (x4) (z0) ((z0 &&& (127 : Int32))) (by unfold f2_31 at hP; rw [if_neg q2] at hP; exact hP)
  · -- no
    refine w_iload (pc := 47) X C d2_47 rfl ?_
    refine w_iconst (pc := 49) X C d2_49 (1 : Int32) rfl ?_
    refine w_iand (pc := 50) X C d2_50 ?_
    refine w_istore (pc := 51) X C d2_51 #[.val (.long x0), .second, .val (.long x2), .second, .val (.int x4), .val (.int z0), .val (.int ((z0 &&& (127 : Int32)) &&& (1 : Int32)))] rfl ?_
    exact b2_53 X C (x0) (x2) (x4) (z0) (((z0 &&& (127 : Int32)) &&& (1 : Int32))) (by unfold f2_31 at hP; rw [if_pos q2] at hP; exact hP)
set_option maxRecDepth 65536 in
set_option maxHeartbeats 4000000 in
theorem b2_0 {p : Program} {l : Launch} {e : Env} {s : State} {m : MethodId} {args : Array Value} {below : List Frame} {meth : Method} {c : Code} {T : State} {h : Heap} {n0 : Nat} {P : Option Value → Heap → Prop} {Z : State} {a0 : Array Value} (X : Hr p l e ({ frames := 0, cells := 0, slots := 0, locals := 0 } : Room) s m args below meth c n0 h 0 0 T) (C : Cx p s m meth c method_2_code 7 (some .int) "com/example/pondera/pondera/io/ReaderVarintPinLaw" "payload" Z a0 tables_1) (x0 : Int64) (x2 : Int64) (x4 : Int32) (hP : P (some (.int (f2 x0 x2 x4))) h) : Goes p e below s n0 P 0 0 T (mkF m 0 #[.val (.long x0), .second, .val (.long x2), .second, .val (.int x4), .unset, .unset] []) := by
  refine w_iload (pc := 0) X C d2_0 rfl ?_
  refine w_bipush (pc := 2) X C d2_2 (8 : Int32) rfl ?_
  refine w_icmp_ge (pc := 4) X C d2_4 19 (by decide) (fun q1 => ?_) (fun q1 => ?_)
  · -- yes
    refine w_lloadN (pc := 19) X C d2_19 rfl ?_
    refine w_bipush (pc := 20) X C d2_20 (8 : Int32) rfl ?_
    refine w_iload (pc := 22) X C d2_22 rfl ?_
    refine w_bipush (pc := 24) X C d2_24 (8 : Int32) rfl ?_
    refine w_isub (pc := 26) X C d2_26 ?_
    refine w_imul (pc := 27) X C d2_27 ?_
    refine w_lushr (pc := 28) X C d2_28 ?_
    refine w_l2i (pc := 29) X C d2_29 ?_
    refine w_i2b (pc := 30) X C d2_30 ?_
    exact b2_31 X C (x0) (x2) (x4) ((i8 ((ushrJ x2 ((8 : Int32) * (x4 - (8 : Int32))))).toInt32)) (by unfold f2 at hP; rw [if_neg q1] at hP; exact hP)
  · -- no
    refine w_lloadN (pc := 7) X C d2_7 rfl ?_
    refine w_bipush (pc := 8) X C d2_8 (8 : Int32) rfl ?_
    refine w_iload (pc := 10) X C d2_10 rfl ?_
    refine w_imul (pc := 12) X C d2_12 ?_
    refine w_lushr (pc := 13) X C d2_13 ?_
    refine w_l2i (pc := 14) X C d2_14 ?_
    refine w_i2b (pc := 15) X C d2_15 ?_
    refine w_goto (pc := 16) X C d2_16 31 (by decide) ?_
    exact b2_31 X C (x0) (x2) (x4) ((i8 ((ushrJ x0 ((8 : Int32) * x4))).toInt32)) (by unfold f2 at hP; rw [if_pos q1] at hP; exact hP)
theorem ct2 (l : Launch) {Z : State} {a0 : Array Value} (hw : ∀ d ∈ tables_1, d.before a0 Z = true) (h : Heap) {n0 : Nat} (hn : n0 ≤ h.size) (x0 : Int64) (x2 : Int64) (x4 : Int32) : Ct l (⟨"com/example/pondera/pondera/io/ReaderVarintPinLaw", "payload", "(JJI)I"⟩ : MethodName) method_2_code 7 (some .int) ({ frames := 0, cells := 0, slots := 0, locals := 0 } : Room) Z #[(.long x0), (.long x2), (.int x4)] h n0 (fun v h' => v = some (.int (f2 x0 x2 x4)) ∧ h' = h) :=
  Ct.of (plainFor_of_name pn_0) #[.val (.long x0), .second, .val (.long x2), .second, .val (.int x4), .unset, .unset] (fun m => by first | (simp [entryFrame, mkF, argsToLocals, Value.category]; done) | rfl) hw hn (fun p e s m below meth c T C X => b2_0 X C x0 x2 x4 ⟨rfl, rfl⟩)
def f3 (x0 : Int64) (x2 : Int64) (x4 : Int32) (x5 : Int32) : Int64 := (if x4 < x5 then (shlJ ((f2 x0 x2 x4)).toInt64 ((7 : Int32) * x4)) else (0 : Int64))
theorem d3_0 : decode method_4_code 0 = .ok (.iload 4, 2) := by decide +kernel
theorem d3_2 : decode method_4_code 2 = .ok (.iload 5, 2) := by decide +kernel
theorem d3_4 : decode method_4_code 4 = .ok (.if_icmp .lt 5, 3) := by decide +kernel
theorem d3_7 : decode method_4_code 7 = .ok (.lconst 0, 1) := by decide +kernel
theorem d3_8 : decode method_4_code 8 = .ok (.lreturn, 1) := by decide +kernel
theorem d3_9 : decode method_4_code 9 = .ok (.lload_n 0, 1) := by decide +kernel
theorem d3_10 : decode method_4_code 10 = .ok (.lload_n 2, 1) := by decide +kernel
theorem d3_11 : decode method_4_code 11 = .ok (.iload 4, 2) := by decide +kernel
theorem d3_13 : decode method_4_code 13 = .ok (.invokestatic 7, 3) := by decide +kernel
theorem d3_16 : decode method_4_code 16 = .ok (.i2l, 1) := by decide +kernel
theorem d3_17 : decode method_4_code 17 = .ok (.bipush 7, 2) := by decide +kernel
theorem d3_19 : decode method_4_code 19 = .ok (.iload 4, 2) := by decide +kernel
theorem d3_21 : decode method_4_code 21 = .ok (.imul, 1) := by decide +kernel
theorem d3_22 : decode method_4_code 22 = .ok (.lshl, 1) := by decide +kernel
theorem d3_23 : decode method_4_code 23 = .ok (.lreturn, 1) := by decide +kernel
set_option maxRecDepth 65536 in
set_option maxHeartbeats 4000000 in
theorem b3_0 {p : Program} {l : Launch} {e : Env} {s : State} {m : MethodId} {args : Array Value} {below : List Frame} {meth : Method} {c : Code} {T : State} {h : Heap} {n0 : Nat} {P : Option Value → Heap → Prop} {Z : State} {a0 : Array Value} (X : Hr p l e ({ frames := 1, cells := 0, slots := 0, locals := 18 } : Room) s m args below meth c n0 h 0 0 T) (C : Cx p s m meth c method_4_code 6 (some .long) "com/example/pondera/pondera/io/ReaderVarintPinLaw" "term" Z a0 tables_1) (x0 : Int64) (x2 : Int64) (x4 : Int32) (x5 : Int32) (hP : P (some (.long (f3 x0 x2 x4 x5))) h) : Goes p e below s n0 P 0 0 T (mkF m 0 #[.val (.long x0), .second, .val (.long x2), .second, .val (.int x4), .val (.int x5)] []) := by
  refine w_iload (pc := 0) X C d3_0 rfl ?_
  refine w_iload (pc := 2) X C d3_2 rfl ?_
  refine w_icmp_lt (pc := 4) X C d3_4 9 (by decide) (fun q1 => ?_) (fun q1 => ?_)
  · -- yes
    refine w_lloadN (pc := 9) X C d3_9 rfl ?_
    refine w_lloadN (pc := 10) X C d3_10 rfl ?_
    refine w_iload (pc := 11) X C d3_11 rfl ?_
    refine w_callP (pc := 13) X C (y := (⟨"com/example/pondera/pondera/io/ReaderVarintPinLaw", "payload", "(JJI)I"⟩ : MethodName)) (bytes := method_2_code) (maxL := 7) (rt := some .int) (argsL := [(.long x0), (.long x2), (.int x4)]) (rest := []) (w := .int (f2 x0 x2 x4)) (W := 0) d3_13 (List.mem_of_getElem? (i := 6) rfl) (List.mem_of_getElem? (i := 7) rfl) (List.mem_of_getElem? (i := 4) rfl) (List.mem_of_getElem? (i := 8) rfl) (by decide) (ct2 l C.2.2.2.2.2.2.2.2 _ X.size (x0) (x2) (x4)) rfl rfl rfl ⟨_, _, pd_0, rfl⟩ rfl (Nat.le_of_eq rfl) (by decide) (by decide) (by decide) (by decide) (fun T3 X2 => ?_)
    refine w_i2l (pc := 16) X2 C d3_16 ?_
    refine w_bipush (pc := 17) X2 C d3_17 (7 : Int32) rfl ?_
    refine w_iload (pc := 19) X2 C d3_19 rfl ?_
    refine w_imul (pc := 21) X2 C d3_21 ?_
    refine w_lshl (pc := 22) X2 C d3_22 ?_
    exact w_retJ (pc := 23) X2 C d3_23 (by unfold f3 at hP; rw [if_pos q1] at hP; exact hP)
  · -- no
    refine w_lconst (pc := 7) X C d3_7 (0 : Int64) rfl ?_
    exact w_retJ (pc := 8) X C d3_8 (by unfold f3 at hP; rw [if_neg q1] at hP; exact hP)
theorem ct3 (l : Launch) {Z : State} {a0 : Array Value} (hw : ∀ d ∈ tables_1, d.before a0 Z = true) (h : Heap) {n0 : Nat} (hn : n0 ≤ h.size) (x0 : Int64) (x2 : Int64) (x4 : Int32) (x5 : Int32) : Ct l (⟨"com/example/pondera/pondera/io/ReaderVarintPinLaw", "term", "(JJII)J"⟩ : MethodName) method_4_code 6 (some .long) ({ frames := 1, cells := 0, slots := 0, locals := 18 } : Room) Z #[(.long x0), (.long x2), (.int x4), (.int x5)] h n0 (fun v h' => v = some (.long (f3 x0 x2 x4 x5)) ∧ h' = h) :=
  Ct.of (plainFor_of_name pn_0) #[.val (.long x0), .second, .val (.long x2), .second, .val (.int x4), .val (.int x5)] (fun m => by first | (simp [entryFrame, mkF, argsToLocals, Value.category]; done) | rfl) hw hn (fun p e s m below meth c T C X => b3_0 X C x0 x2 x4 x5 ⟨rfl, rfl⟩)
theorem d1_0 : decode method_3_code 0 = .ok (.iload_n 2, 1) := by decide +kernel
theorem d1_1 : decode method_3_code 1 = .ok (.iload_n 3, 1) := by decide +kernel
theorem d1_2 : decode method_3_code 2 = .ok (.if_icmp .ge 36, 3) := by decide +kernel
theorem d1_5 : decode method_3_code 5 = .ok (.lload 4, 2) := by decide +kernel
theorem d1_7 : decode method_3_code 7 = .ok (.lload 6, 2) := by decide +kernel
theorem d1_9 : decode method_3_code 9 = .ok (.iload_n 2, 1) := by decide +kernel
theorem d1_10 : decode method_3_code 10 = .ok (.invokestatic 7, 3) := by decide +kernel
theorem d1_13 : decode method_3_code 13 = .ok (.istore 8, 2) := by decide +kernel
theorem d1_15 : decode method_3_code 15 = .ok (.iload_n 2, 1) := by decide +kernel
theorem d1_16 : decode method_3_code 16 = .ok (.iload_n 3, 1) := by decide +kernel
theorem d1_17 : decode method_3_code 17 = .ok (.iconst 1, 1) := by decide +kernel
theorem d1_18 : decode method_3_code 18 = .ok (.isub, 1) := by decide +kernel
theorem d1_19 : decode method_3_code 19 = .ok (.if_icmp .ge 11, 3) := by decide +kernel
theorem d1_22 : decode method_3_code 22 = .ok (.iload 8, 2) := by decide +kernel
theorem d1_24 : decode method_3_code 24 = .ok (.sipush 128, 3) := by decide +kernel
theorem d1_27 : decode method_3_code 27 = .ok (.ior, 1) := by decide +kernel
theorem d1_28 : decode method_3_code 28 = .ok (.istore 8, 2) := by decide +kernel
theorem d1_30 : decode method_3_code 30 = .ok (.aload_n 0, 1) := by decide +kernel
theorem d1_31 : decode method_3_code 31 = .ok (.iload_n 1, 1) := by decide +kernel
theorem d1_32 : decode method_3_code 32 = .ok (.iload_n 2, 1) := by decide +kernel
theorem d1_33 : decode method_3_code 33 = .ok (.iadd, 1) := by decide +kernel
theorem d1_34 : decode method_3_code 34 = .ok (.iload 8, 2) := by decide +kernel
theorem d1_36 : decode method_3_code 36 = .ok (.i2b, 1) := by decide +kernel
theorem d1_37 : decode method_3_code 37 = .ok (.bastore, 1) := by decide +kernel
theorem d1_38 : decode method_3_code 38 = .ok (.return_, 1) := by decide +kernel
set_option maxRecDepth 65536 in
set_option maxHeartbeats 40000000 in
theorem bw1 {p : Program} {l : Launch} {e : Env} {s : State} {m : MethodId} {args : Array Value} {below : List Frame} {meth : Method} {c : Code} {T : State} {h : Heap} {n0 : Nat} {Z : State} {a0 : Array Value} (X : Hr p l e ({ frames := 1, cells := 0, slots := 0, locals := 18 } : Room) s m args below meth c n0 h 0 0 T) (C : Cx p s m meth c method_3_code 9 none "com/example/pondera/pondera/io/ReaderVarintPinLaw" "place" Z a0 tables_1) (x0 : Addr) (x1 : Int32) (x2 : Int32) (x3 : Int32) (x4 : Int64) (x5 : Int64) (g : Nat → Int32) (A0 : ArI Z h x0 .byte 12 g) (h1 : 0 ≤ x1.toInt ∧ x1.toInt ≤ 2) (h2 : 0 ≤ x2.toInt ∧ x2.toInt ≤ 9) (g0 : n0 ≤ x0) : Goes p e below s n0 (fun v h' => v = none ∧ Keep h h' [x0] ∧ ArI Z h' x0 .byte 12 (if x2 < x3 then up g (nt x1 + nt x2) (i8 (i8 (if x2 < (x3 - (1 : Int32)) then (f2 x4 x5 x2 ||| (128 : Int32)) else (f2 x4 x5 x2)))) else g)) 0 0 T (mkF m 0 #[.val (.ref x0), .val (.int x1), .val (.int x2), .val (.int x3), .val (.long x4), .second, .val (.long x5), .second, .unset] []) := by
  refine w_iloadN (pc := 0) X C d1_0 rfl ?_
  refine w_iloadN (pc := 1) X C d1_1 rfl ?_
  refine w_icmp_ge (pc := 2) X C d1_2 38 (by decide) (fun q1 => ?_) (fun q1 => ?_)
  · -- yes
    exact w_retV (pc := 38) X C d1_38 ⟨rfl, Keep.refl h [x0], by rw [if_neg q1]; exact A0⟩
  · -- no
    refine w_lload (pc := 5) X C d1_5 rfl ?_
    refine w_lload (pc := 7) X C d1_7 rfl ?_
    refine w_iloadN (pc := 9) X C d1_9 rfl ?_
    refine w_callP (pc := 10) X C (y := (⟨"com/example/pondera/pondera/io/ReaderVarintPinLaw", "payload", "(JJI)I"⟩ : MethodName)) (bytes := method_2_code) (maxL := 7) (rt := some .int) (argsL := [(.long x4), (.long x5), (.int x2)]) (rest := []) (w := .int (f2 x4 x5 x2)) (W := 0) d1_10 (List.mem_of_getElem? (i := 6) rfl) (List.mem_of_getElem? (i := 7) rfl) (List.mem_of_getElem? (i := 4) rfl) (List.mem_of_getElem? (i := 8) rfl) (by decide) (ct2 l C.2.2.2.2.2.2.2.2 _ X.size (x4) (x5) (x2)) rfl rfl rfl ⟨_, _, pd_0, rfl⟩ rfl (Nat.le_of_eq rfl) (by decide) (by decide) (by decide) (by decide) (fun T3 X2 => ?_)
    refine w_istore (pc := 13) X2 C d1_13 #[.val (.ref x0), .val (.int x1), .val (.int x2), .val (.int x3), .val (.long x4), .second, .val (.long x5), .second, .val (.int (f2 x4 x5 x2))] rfl ?_
    refine w_iloadN (pc := 15) X2 C d1_15 rfl ?_
    refine w_iloadN (pc := 16) X2 C d1_16 rfl ?_
    refine w_iconst (pc := 17) X2 C d1_17 (1 : Int32) rfl ?_
    refine w_isub (pc := 18) X2 C d1_18 ?_
    suffices key5 : Goes p e below s n0 (fun v h' => v = none ∧ Keep h h' [x0] ∧ ArI Z h' x0 .byte 12 (if x2 < x3 then up g (nt x1 + nt x2) (i8 (i8 (if x2 < (x3 - (1 : Int32)) then (f2 x4 x5 x2 ||| (128 : Int32)) else (f2 x4 x5 x2)))) else g)) 0 0 T3 (mkF m 30 #[.val (.ref x0), .val (.int x1), .val (.int x2), .val (.int x3), .val (.long x4), .second, .val (.long x5), .second, .val (.int (if x2 < (x3 - (1 : Int32)) then ((f2 x4 x5 x2) ||| (128 : Int32)) else (f2 x4 x5 x2)))] []) by
      refine w_icmp_ge (pc := 19) X2 C d1_19 30 (by decide) (fun q4 => ?_) (fun q4 => ?_)
      · skip
        first | (rw [if_neg q4] at key5; exact key5) | (rw [if_neg q4] at key5 ⊢; exact key5)
      · skip
        refine w_iload (pc := 22) X2 C d1_22 rfl ?_
        refine w_sipush (pc := 24) X2 C d1_24 (128 : Int32) rfl ?_
        refine w_ior (pc := 27) X2 C d1_27 ?_
        refine w_istore (pc := 28) X2 C d1_28 #[.val (.ref x0), .val (.int x1), .val (.int x2), .val (.int x3), .val (.long x4), .second, .val (.long x5), .second, .val (.int ((f2 x4 x5 x2) ||| (128 : Int32)))] rfl ?_
        first | (rw [if_pos q4] at key5; exact key5) | (rw [if_pos q4] at key5 ⊢; exact key5)
    refine w_aloadN (pc := 30) X2 C d1_30 rfl rfl ?_
    refine w_iloadN (pc := 31) X2 C d1_31 rfl ?_
    refine w_iloadN (pc := 32) X2 C d1_32 rfl ?_
    refine w_iadd (pc := 33) X2 C d1_33 ?_
    refine w_iload (pc := 34) X2 C d1_34 rfl ?_
    refine w_i2b (pc := 36) X2 C d1_36 ?_
    have e_i : (x1 + x2).toInt = ((nt x1 + nt x2 : Nat) : Int) := by rw [add1 x2 x2.toInt rfl (by omega) (by omega)]; unfold nt; omega
    have b_i : nt x1 + nt x2 < 12 := by unfold nt; omega
    refine w_bastore (pc := 37) X2 C d1_37 A0 (nt x1 + nt x2) e_i b_i g0 (fun T6 h6 X6 W6 A6 => ?_)
    obtain ⟨g6, hg6⟩ : ∃ z, z = up g (nt x1 + nt x2) (i8 (i8 (if x2 < (x3 - (1 : Int32)) then ((f2 x4 x5 x2) ||| (128 : Int32)) else (f2 x4 x5 x2)))) := ⟨_, rfl⟩
    rw [← hg6] at A6
    have K7 : Keep h h6 [x0] := (Keep.refl h [x0]).wr W6 (Or.inl (List.mem_of_getElem? (i := 0) rfl))
    exact w_retV (pc := 38) X6 C d1_38 ⟨rfl, K7, by rw [if_pos q1, ← hg6]; exact A6⟩
theorem ct1 (l : Launch) {Z : State} {a0 : Array Value} (hw : ∀ d ∈ tables_1, d.before a0 Z = true) (h : Heap) {n0 : Nat} (hn : n0 ≤ h.size) (x0 : Addr) (x1 : Int32) (x2 : Int32) (x3 : Int32) (x4 : Int64) (x5 : Int64) (g : Nat → Int32) (A0 : ArI Z h x0 .byte 12 g) (h1 : 0 ≤ x1.toInt ∧ x1.toInt ≤ 2) (h2 : 0 ≤ x2.toInt ∧ x2.toInt ≤ 9) (g0 : n0 ≤ x0) : Ct l (⟨"com/example/pondera/pondera/io/ReaderVarintPinLaw", "place", "([BIIIJJ)V"⟩ : MethodName) method_3_code 9 none ({ frames := 1, cells := 0, slots := 0, locals := 18 } : Room) Z #[(.ref x0), (.int x1), (.int x2), (.int x3), (.long x4), (.long x5)] h n0 (fun v h' => v = none ∧ Keep h h' [x0] ∧ ArI Z h' x0 .byte 12 (if x2 < x3 then up g (nt x1 + nt x2) (i8 (i8 (if x2 < (x3 - (1 : Int32)) then (f2 x4 x5 x2 ||| (128 : Int32)) else (f2 x4 x5 x2)))) else g)) :=
  Ct.of (plainFor_of_name pn_0) #[.val (.ref x0), .val (.int x1), .val (.int x2), .val (.int x3), .val (.long x4), .second, .val (.long x5), .second, .unset] (fun m => by first | (simp [entryFrame, mkF, argsToLocals, Value.category]; done) | rfl) hw hn (fun p e s m below meth c T C X => bw1 X C x0 x1 x2 x3 x4 x5 g A0 h1 h2 g0)
theorem d4_0 : decode prog_103_method_2_code 0 = .ok (.aload_n 0, 1) := by decide +kernel
theorem d4_1 : decode prog_103_method_2_code 1 = .ok (.invokespecial 7, 3) := by decide +kernel
theorem d4_4 : decode prog_103_method_2_code 4 = .ok (.aload_n 0, 1) := by decide +kernel
theorem d4_5 : decode prog_103_method_2_code 5 = .ok (.aload_n 1, 1) := by decide +kernel
theorem d4_6 : decode prog_103_method_2_code 6 = .ok (.putfield 12, 3) := by decide +kernel
theorem d4_9 : decode prog_103_method_2_code 9 = .ok (.aload_n 0, 1) := by decide +kernel
theorem d4_10 : decode prog_103_method_2_code 10 = .ok (.iload_n 2, 1) := by decide +kernel
theorem d4_11 : decode prog_103_method_2_code 11 = .ok (.putfield 16, 3) := by decide +kernel
theorem d4_14 : decode prog_103_method_2_code 14 = .ok (.aload_n 0, 1) := by decide +kernel
theorem d4_15 : decode prog_103_method_2_code 15 = .ok (.iload_n 3, 1) := by decide +kernel
theorem d4_16 : decode prog_103_method_2_code 16 = .ok (.putfield 20, 3) := by decide +kernel
theorem d4_19 : decode prog_103_method_2_code 19 = .ok (.return_, 1) := by decide +kernel
set_option maxRecDepth 65536 in
set_option maxHeartbeats 40000000 in
theorem bw4 {p : Program} {l : Launch} {e : Env} {s : State} {m : MethodId} {args : Array Value} {below : List Frame} {meth : Method} {c : Code} {T : State} {h : Heap} {n0 : Nat} {Z : State} {a0 : Array Value} (X : Hr p l e ({ frames := 1, cells := 0, slots := 0, locals := 12 } : Room) s m args below meth c n0 h 0 0 T) (C : Cx p s m meth c prog_103_method_2_code 4 none "com/example/pondera/pondera/io/IndexBytes$Reader" "<init>" Z a0 tables_1) (x0 : Addr) (x1 : Addr) (x2 : Int32) (x3 : Int32)  (E0 : Exa Z h x0 "com/example/pondera/pondera/io/IndexBytes$Reader") (F1 : Fld Z h x0 "com/example/pondera/pondera/io/IndexBytes$Reader" "bytes" "[B" .null) (F2 : Fld Z h x0 "com/example/pondera/pondera/io/IndexBytes$Reader" "at" "I" (.int 0)) (F3 : Fld Z h x0 "com/example/pondera/pondera/io/IndexBytes$Reader" "end" "I" (.int 0)) (g0 : n0 ≤ x0) : Goes p e below s n0 (fun v h' => v = none ∧ Keep h h' [x0] ∧ Exa Z h' x0 "com/example/pondera/pondera/io/IndexBytes$Reader" ∧ Fld Z h' x0 "com/example/pondera/pondera/io/IndexBytes$Reader" "bytes" "[B" (.ref x1) ∧ Fld Z h' x0 "com/example/pondera/pondera/io/IndexBytes$Reader" "at" "I" (.int x2)) 0 0 T (mkF m 0 #[.val (.ref x0), .val (.ref x1), .val (.int x2), .val (.int x3)] []) := by
  refine w_aloadN (pc := 0) X C d4_0 rfl rfl ?_
  refine w_initO (pc := 1) X C d4_1 (List.mem_of_getElem? (i := 18) rfl) (List.mem_of_getElem? (i := 19) rfl) (List.mem_of_getElem? (i := 20) rfl) rfl (W := 0) (Nat.le_of_eq rfl) (by decide) (by decide) (fun T1 X1 => ?_)
  refine w_aloadN (pc := 4) X1 C d4_4 rfl rfl ?_
  refine w_aloadN (pc := 5) X1 C d4_5 rfl rfl ?_
  refine w_putfield (pc := 6) X1 C d4_6 (List.mem_of_getElem? (i := 21) rfl) F1 E0 (Or.inr ⟨(List.mem_of_getElem? (i := 22) rfl), rfl, rfl⟩) (List.mem_of_getElem? (i := 13) rfl) (ty := (.array .byte)) (by decide) rfl rfl g0 (fun T2 h2 X2 W2 Fp2 Ep2 => ?_)
  have Fk3 := F2.other W2 (Or.inr (slot_ne (Or.inl (C.2.2.2.2.2.2.2.2 _ (List.mem_of_getElem? (i := 24) rfl))) (Or.inr (C.2.2.2.2.2.2.2.2 _ (List.mem_of_getElem? (i := 22) rfl))) (by decide) (t := .int) (t' := (.array .byte)) (by decide) (by decide)))
  have Fk4 := F3.other W2 (Or.inr (slot_ne (Or.inr (C.2.2.2.2.2.2.2.2 _ (List.mem_of_getElem? (i := 26) rfl))) (Or.inr (C.2.2.2.2.2.2.2.2 _ (List.mem_of_getElem? (i := 22) rfl))) (by decide) (t := .int) (t' := (.array .byte)) (by decide) (by decide)))
  have K5 : Keep h h2 [x0] := (Keep.refl h [x0]).wr W2 (Or.inl (List.mem_of_getElem? (i := 0) rfl))
  refine w_aloadN (pc := 9) X2 C d4_9 rfl rfl ?_
  refine w_iloadN (pc := 10) X2 C d4_10 rfl ?_
  refine w_putfield (pc := 11) X2 C d4_11 (List.mem_of_getElem? (i := 23) rfl) Fk3 Ep2 (Or.inl (List.mem_of_getElem? (i := 24) rfl)) (List.mem_of_getElem? (i := 13) rfl) (ty := .int) (by decide) rfl rfl g0 (fun T6 h6 X6 W6 Fp6 Ep6 => ?_)
  have Fk7 := Fk4.other W6 (Or.inr (slot_ne (Or.inr (C.2.2.2.2.2.2.2.2 _ (List.mem_of_getElem? (i := 26) rfl))) (Or.inl (C.2.2.2.2.2.2.2.2 _ (List.mem_of_getElem? (i := 24) rfl))) (by decide) (t := .int) (t' := .int) (by decide) (by decide)))
  have Fk8 := Fp2.other W6 (Or.inr (slot_ne (Or.inr (C.2.2.2.2.2.2.2.2 _ (List.mem_of_getElem? (i := 22) rfl))) (Or.inl (C.2.2.2.2.2.2.2.2 _ (List.mem_of_getElem? (i := 24) rfl))) (by decide) (t := (.array .byte)) (t' := .int) (by decide) (by decide)))
  have K9 : Keep h h6 [x0] := K5.wr W6 (Or.inl (List.mem_of_getElem? (i := 0) rfl))
  refine w_aloadN (pc := 14) X6 C d4_14 rfl rfl ?_
  refine w_iloadN (pc := 15) X6 C d4_15 rfl ?_
  refine w_putfield (pc := 16) X6 C d4_16 (List.mem_of_getElem? (i := 25) rfl) Fk7 Ep6 (Or.inr ⟨(List.mem_of_getElem? (i := 26) rfl), rfl, rfl⟩) (List.mem_of_getElem? (i := 13) rfl) (ty := .int) (by decide) rfl rfl g0 (fun T10 h10 X10 W10 Fp10 Ep10 => ?_)
  have Fk11 := Fk8.other W10 (Or.inr (slot_ne (Or.inr (C.2.2.2.2.2.2.2.2 _ (List.mem_of_getElem? (i := 22) rfl))) (Or.inr (C.2.2.2.2.2.2.2.2 _ (List.mem_of_getElem? (i := 26) rfl))) (by decide) (t := (.array .byte)) (t' := .int) (by decide) (by decide)))
  have Fk12 := Fp6.other W10 (Or.inr (slot_ne (Or.inl (C.2.2.2.2.2.2.2.2 _ (List.mem_of_getElem? (i := 24) rfl))) (Or.inr (C.2.2.2.2.2.2.2.2 _ (List.mem_of_getElem? (i := 26) rfl))) (by decide) (t := .int) (t' := .int) (by decide) (by decide)))
  have K13 : Keep h h10 [x0] := K9.wr W10 (Or.inl (List.mem_of_getElem? (i := 0) rfl))
  exact w_retV (pc := 19) X10 C d4_19 ⟨rfl, K13, Ep10, Fk11, Fk12⟩
theorem ct4 (l : Launch) {Z : State} {a0 : Array Value} (hw : ∀ d ∈ tables_1, d.before a0 Z = true) (h : Heap) {n0 : Nat} (hn : n0 ≤ h.size) (x0 : Addr) (x1 : Addr) (x2 : Int32) (x3 : Int32)  (E0 : Exa Z h x0 "com/example/pondera/pondera/io/IndexBytes$Reader") (F1 : Fld Z h x0 "com/example/pondera/pondera/io/IndexBytes$Reader" "bytes" "[B" .null) (F2 : Fld Z h x0 "com/example/pondera/pondera/io/IndexBytes$Reader" "at" "I" (.int 0)) (F3 : Fld Z h x0 "com/example/pondera/pondera/io/IndexBytes$Reader" "end" "I" (.int 0)) (g0 : n0 ≤ x0) : Ct l (⟨"com/example/pondera/pondera/io/IndexBytes$Reader", "<init>", "([BII)V"⟩ : MethodName) prog_103_method_2_code 4 none ({ frames := 1, cells := 0, slots := 0, locals := 12 } : Room) Z #[(.ref x0), (.ref x1), (.int x2), (.int x3)] h n0 (fun v h' => v = none ∧ Keep h h' [x0] ∧ Exa Z h' x0 "com/example/pondera/pondera/io/IndexBytes$Reader" ∧ Fld Z h' x0 "com/example/pondera/pondera/io/IndexBytes$Reader" "bytes" "[B" (.ref x1) ∧ Fld Z h' x0 "com/example/pondera/pondera/io/IndexBytes$Reader" "at" "I" (.int x2)) :=
  Ct.of (plainFor_of_name pn_1) #[.val (.ref x0), .val (.ref x1), .val (.int x2), .val (.int x3)] (fun m => by first | (simp [entryFrame, mkF, argsToLocals, Value.category]; done) | rfl) hw hn (fun p e s m below meth c T C X => bw4 X C x0 x1 x2 x3 E0 F1 F2 F3 g0)
def own_vf (g : Nat → Int32) : Nat → Int64 → Int32 → Nat → Int64
  | 0, acc, sh, P => (acc ||| (shlJ ((g P) &&& (127 : Int32)).toInt64 sh))
  | L + 1, acc, sh, P => own_vf g L (acc ||| (shlJ ((g P) &&& (127 : Int32)).toInt64 sh)) (sh + (7 : Int32)) (P + 1)
def own_at : Nat → Int32 → Int32
  | 0, p => p + (1 : Int32)
  | L + 1, p => own_at L (p + (1 : Int32))
theorem d6_0 : decode prog_103_method_6_code 0 = .ok (.lconst 0, 1) := by decide +kernel
theorem d6_1 : decode prog_103_method_6_code 1 = .ok (.lstore_n 1, 1) := by decide +kernel
theorem d6_2 : decode prog_103_method_6_code 2 = .ok (.iconst 0, 1) := by decide +kernel
theorem d6_3 : decode prog_103_method_6_code 3 = .ok (.istore_n 3, 1) := by decide +kernel
theorem d6_4 : decode prog_103_method_6_code 4 = .ok (.aload_n 0, 1) := by decide +kernel
theorem d6_5 : decode prog_103_method_6_code 5 = .ok (.getfield 12, 3) := by decide +kernel
theorem d6_8 : decode prog_103_method_6_code 8 = .ok (.aload_n 0, 1) := by decide +kernel
theorem d6_9 : decode prog_103_method_6_code 9 = .ok (.dup, 1) := by decide +kernel
theorem d6_10 : decode prog_103_method_6_code 10 = .ok (.getfield 16, 3) := by decide +kernel
theorem d6_13 : decode prog_103_method_6_code 13 = .ok (.dup_x1, 1) := by decide +kernel
theorem d6_14 : decode prog_103_method_6_code 14 = .ok (.iconst 1, 1) := by decide +kernel
theorem d6_15 : decode prog_103_method_6_code 15 = .ok (.iadd, 1) := by decide +kernel
theorem d6_16 : decode prog_103_method_6_code 16 = .ok (.putfield 16, 3) := by decide +kernel
theorem d6_19 : decode prog_103_method_6_code 19 = .ok (.baload, 1) := by decide +kernel
theorem d6_20 : decode prog_103_method_6_code 20 = .ok (.istore 4, 2) := by decide +kernel
theorem d6_22 : decode prog_103_method_6_code 22 = .ok (.lload_n 1, 1) := by decide +kernel
theorem d6_23 : decode prog_103_method_6_code 23 = .ok (.iload 4, 2) := by decide +kernel
theorem d6_25 : decode prog_103_method_6_code 25 = .ok (.bipush 127, 2) := by decide +kernel
theorem d6_27 : decode prog_103_method_6_code 27 = .ok (.iand, 1) := by decide +kernel
theorem d6_28 : decode prog_103_method_6_code 28 = .ok (.i2l, 1) := by decide +kernel
theorem d6_29 : decode prog_103_method_6_code 29 = .ok (.iload_n 3, 1) := by decide +kernel
theorem d6_30 : decode prog_103_method_6_code 30 = .ok (.lshl, 1) := by decide +kernel
theorem d6_31 : decode prog_103_method_6_code 31 = .ok (.lor, 1) := by decide +kernel
theorem d6_32 : decode prog_103_method_6_code 32 = .ok (.lstore_n 1, 1) := by decide +kernel
theorem d6_33 : decode prog_103_method_6_code 33 = .ok (.iload 4, 2) := by decide +kernel
theorem d6_35 : decode prog_103_method_6_code 35 = .ok (.ifCond .lt 5, 3) := by decide +kernel
theorem d6_38 : decode prog_103_method_6_code 38 = .ok (.lload_n 1, 1) := by decide +kernel
theorem d6_39 : decode prog_103_method_6_code 39 = .ok (.lreturn, 1) := by decide +kernel
theorem d6_40 : decode prog_103_method_6_code 40 = .ok (.iinc 3 7, 3) := by decide +kernel
theorem d6_43 : decode prog_103_method_6_code 43 = .ok (.goto (-39), 3) := by decide +kernel
theorem os6_20 {z0 : Value} {z1 : Value} {z3 : Value} {x4 : Slot} {v : Int32} (h : One x4) : storeLocals #[.val z0, .val z1, .second, .val z3, x4] 4 (.int v) = some #[.val z0, .val z1, .second, .val z3, .val (.int v)] := by
  rcases h with rfl | ⟨w, rfl, hw⟩
  · rfl
  · cases w <;> first | rfl | (simp [Value.category] at hw)
set_option maxRecDepth 65536 in
set_option maxHeartbeats 40000000 in
theorem vt_run {p : Program} {l : Launch} {e : Env} {s : State} {m : MethodId} {args : Array Value} {below : List Frame} {meth : Method} {c : Code} {h : Heap} {n0 : Nat} {P : Option Value → Heap → Prop} {Z : State} {a0 : Array Value} (C : Cx p s m meth c prog_103_method_6_code 5 (some .long) "com/example/pondera/pondera/io/IndexBytes$Reader" "varint" Z a0 tables_1) (x0 b : Addr) (g : Nat → Int32) (hne : b ≠ x0) (g0 : n0 ≤ x0) : ∀ (L : Nat) (acc : Int64) (sh pp : Int32) (Pn : Nat) (x4 : Slot), One x4 → pp.toInt = (Pn : Int) → Pn + L < 12 → (∀ j, j < L → g (Pn + j) < 0) → ¬ (g (Pn + L) < 0) → ∀ T h1, Hr p l e ({ frames := 0, cells := 0, slots := 0, locals := 0 } : Room) s m args below meth c n0 h1 0 0 T → Keep h h1 [x0] → Exa Z h1 x0 "com/example/pondera/pondera/io/IndexBytes$Reader" → Fld Z h1 x0 "com/example/pondera/pondera/io/IndexBytes$Reader" "bytes" "[B" (.ref b) → Fld Z h1 x0 "com/example/pondera/pondera/io/IndexBytes$Reader" "at" "I" (.int pp) → ArI Z h1 b .byte 12 g → (∀ h', Keep h h' [x0] → Exa Z h' x0 "com/example/pondera/pondera/io/IndexBytes$Reader" → Fld Z h' x0 "com/example/pondera/pondera/io/IndexBytes$Reader" "at" "I" (.int (own_at L pp)) → P (some (.long (own_vf g L acc sh Pn))) h') → Goes p e below s n0 P 0 0 T (mkF m 4 #[.val (.ref x0), .val (.long acc), .second, .val (.int sh), x4] []) := by
  intro L
  induction L with
  | zero =>
    intro acc sh pp Pn x4 o_x4 hp hb hneg hterm T h1 X K0 E0 F1 F2 A0 hP
    have hlt : Pn < 12 := by omega
    have hz : ¬ (g Pn < 0) := hterm
    refine w_aloadN (pc := 4) X C d6_4 rfl rfl ?_
    refine w_getfield (pc := 5) X C d6_5 (List.mem_of_getElem? (i := 21) rfl) F1 (fun T1 X1 => ?_)
    refine w_aloadN (pc := 8) X1 C d6_8 rfl rfl ?_
    refine w_dup (pc := 9) X1 C d6_9 rfl ?_
    refine w_getfield (pc := 10) X1 C d6_10 (List.mem_of_getElem? (i := 23) rfl) F2 (fun T2 X2 => ?_)
    refine w_dup_x1 (pc := 13) X2 C d6_13 rfl rfl ?_
    refine w_iconst (pc := 14) X2 C d6_14 (1 : Int32) rfl ?_
    refine w_iadd (pc := 15) X2 C d6_15 ?_
    refine w_putfield (pc := 16) X2 C d6_16 (List.mem_of_getElem? (i := 23) rfl) F2 E0 (Or.inl (List.mem_of_getElem? (i := 24) rfl)) (List.mem_of_getElem? (i := 13) rfl) (ty := .int) (by decide) rfl rfl g0 (fun T3 h3 X3 W3 Fp3 Ep3 => ?_)
    have Ak4 := A0.other W3 hne
    have Fk5 := F1.other W3 (Or.inr (slot_ne (Or.inr (C.2.2.2.2.2.2.2.2 _ (List.mem_of_getElem? (i := 22) rfl))) (Or.inl (C.2.2.2.2.2.2.2.2 _ (List.mem_of_getElem? (i := 24) rfl))) (by decide) (t := (.array .byte)) (t' := .int) (by decide) (by decide)))
    have K6 : Keep h h3 [x0] := K0.wr W3 (Or.inl (List.mem_of_getElem? (i := 0) rfl))
    refine w_baload (pc := 19) X3 C d6_19 Ak4 (Pn) hp hlt ?_
    refine w_istore (pc := 20) X3 C d6_20 #[.val (.ref x0), .val (.long acc), .second, .val (.int sh), .val (.int (g (Pn)))] (os6_20 o_x4) ?_
    refine w_lloadN (pc := 22) X3 C d6_22 rfl ?_
    refine w_iload (pc := 23) X3 C d6_23 rfl ?_
    refine w_bipush (pc := 25) X3 C d6_25 (127 : Int32) rfl ?_
    refine w_iand (pc := 27) X3 C d6_27 ?_
    refine w_i2l (pc := 28) X3 C d6_28 ?_
    refine w_iloadN (pc := 29) X3 C d6_29 rfl ?_
    refine w_lshl (pc := 30) X3 C d6_30 ?_
    refine w_lor (pc := 31) X3 C d6_31 ?_
    refine w_lstoreN (pc := 32) X3 C d6_32 #[.val (.ref x0), .val (.long (acc ||| (shlJ (((g (Pn)) &&& (127 : Int32))).toInt64 sh))), .second, .val (.int sh), .val (.int (g (Pn)))] rfl ?_
    refine w_iload (pc := 33) X3 C d6_33 rfl ?_
    refine w_if_lt (pc := 35) X3 C d6_35 40 (by decide) (fun q7 => absurd q7 (hz)) (fun q7 => ?_)
    refine w_lloadN (pc := 38) X3 C d6_38 rfl ?_
    exact w_retJ (pc := 39) X3 C d6_39 (hP _ (K6) Ep3 Fp3)
  | succ L ih =>
    intro acc sh pp Pn x4 o_x4 hp hb hneg hterm T h1 X K0 E0 F1 F2 A0 hP
    have hlt : Pn < 12 := by omega
    have hz : g Pn < 0 := hneg 0 (by omega)
    refine w_aloadN (pc := 4) X C d6_4 rfl rfl ?_
    refine w_getfield (pc := 5) X C d6_5 (List.mem_of_getElem? (i := 21) rfl) F1 (fun T1 X1 => ?_)
    refine w_aloadN (pc := 8) X1 C d6_8 rfl rfl ?_
    refine w_dup (pc := 9) X1 C d6_9 rfl ?_
    refine w_getfield (pc := 10) X1 C d6_10 (List.mem_of_getElem? (i := 23) rfl) F2 (fun T2 X2 => ?_)
    refine w_dup_x1 (pc := 13) X2 C d6_13 rfl rfl ?_
    refine w_iconst (pc := 14) X2 C d6_14 (1 : Int32) rfl ?_
    refine w_iadd (pc := 15) X2 C d6_15 ?_
    refine w_putfield (pc := 16) X2 C d6_16 (List.mem_of_getElem? (i := 23) rfl) F2 E0 (Or.inl (List.mem_of_getElem? (i := 24) rfl)) (List.mem_of_getElem? (i := 13) rfl) (ty := .int) (by decide) rfl rfl g0 (fun T3 h3 X3 W3 Fp3 Ep3 => ?_)
    have Ak4 := A0.other W3 hne
    have Fk5 := F1.other W3 (Or.inr (slot_ne (Or.inr (C.2.2.2.2.2.2.2.2 _ (List.mem_of_getElem? (i := 22) rfl))) (Or.inl (C.2.2.2.2.2.2.2.2 _ (List.mem_of_getElem? (i := 24) rfl))) (by decide) (t := (.array .byte)) (t' := .int) (by decide) (by decide)))
    have K6 : Keep h h3 [x0] := K0.wr W3 (Or.inl (List.mem_of_getElem? (i := 0) rfl))
    refine w_baload (pc := 19) X3 C d6_19 Ak4 (Pn) hp hlt ?_
    refine w_istore (pc := 20) X3 C d6_20 #[.val (.ref x0), .val (.long acc), .second, .val (.int sh), .val (.int (g (Pn)))] (os6_20 o_x4) ?_
    refine w_lloadN (pc := 22) X3 C d6_22 rfl ?_
    refine w_iload (pc := 23) X3 C d6_23 rfl ?_
    refine w_bipush (pc := 25) X3 C d6_25 (127 : Int32) rfl ?_
    refine w_iand (pc := 27) X3 C d6_27 ?_
    refine w_i2l (pc := 28) X3 C d6_28 ?_
    refine w_iloadN (pc := 29) X3 C d6_29 rfl ?_
    refine w_lshl (pc := 30) X3 C d6_30 ?_
    refine w_lor (pc := 31) X3 C d6_31 ?_
    refine w_lstoreN (pc := 32) X3 C d6_32 #[.val (.ref x0), .val (.long (acc ||| (shlJ (((g (Pn)) &&& (127 : Int32))).toInt64 sh))), .second, .val (.int sh), .val (.int (g (Pn)))] rfl ?_
    refine w_iload (pc := 33) X3 C d6_33 rfl ?_
    refine w_if_lt (pc := 35) X3 C d6_35 40 (by decide) (fun q7 => ?_) (fun q7 => absurd (hz) q7)
    refine w_iinc (pc := 40) X3 C d6_40 (7 : Int32) rfl rfl #[.val (.ref x0), .val (.long (acc ||| (shlJ (((g (Pn)) &&& (127 : Int32))).toInt64 sh))), .second, .val (.int (sh + (7 : Int32))), .val (.int (g (Pn)))] rfl ?_
    refine w_goto (pc := 43) X3 C d6_43 4 (by decide) ?_
    have ep : (pp + (1 : Int32)).toInt = ((Pn + 1 : Nat) : Int) := by rw [add1 (1 : Int32) 1 rfl (by omega) (by omega)]; omega
    exact ih _ _ _ (Pn + 1) _ (One.val rfl) ep (by omega) (fun j hj => by have := hneg (j + 1) (by omega); rw [show Pn + 1 + j = Pn + (j + 1) by omega]; exact this) (by rw [show Pn + 1 + L = Pn + (L + 1) by omega]; exact hterm) _ _ X3 K6 Ep3 Fk5 Fp3 Ak4 (fun h' a b c => hP h' a b c)
set_option maxRecDepth 65536 in
set_option maxHeartbeats 40000000 in
theorem bw6 {p : Program} {l : Launch} {e : Env} {s : State} {m : MethodId} {args : Array Value} {below : List Frame} {meth : Method} {c : Code} {T : State} {h : Heap} {n0 : Nat} {Z : State} {a0 : Array Value} (X : Hr p l e ({ frames := 0, cells := 0, slots := 0, locals := 0 } : Room) s m args below meth c n0 h 0 0 T) (C : Cx p s m meth c prog_103_method_6_code 5 (some .long) "com/example/pondera/pondera/io/IndexBytes$Reader" "varint" Z a0 tables_1) (x0 : Addr) (b : Addr) (p0 : Int32) (Pn L : Nat) (g : Nat → Int32) (E0 : Exa Z h x0 "com/example/pondera/pondera/io/IndexBytes$Reader") (F1 : Fld Z h x0 "com/example/pondera/pondera/io/IndexBytes$Reader" "bytes" "[B" (.ref b)) (F2 : Fld Z h x0 "com/example/pondera/pondera/io/IndexBytes$Reader" "at" "I" (.int p0)) (A0 : ArI Z h b .byte 12 g) (hne : b ≠ x0) (g0 : n0 ≤ x0) (hp : p0.toInt = (Pn : Int)) (hb : Pn + L < 12) (hneg : ∀ j, j < L → g (Pn + j) < 0) (hterm : ¬ (g (Pn + L) < 0)) : Goes p e below s n0 (fun v h' => v = some (.long (own_vf g L 0 0 Pn)) ∧ Keep h h' [x0] ∧ Exa Z h' x0 "com/example/pondera/pondera/io/IndexBytes$Reader" ∧ Fld Z h' x0 "com/example/pondera/pondera/io/IndexBytes$Reader" "at" "I" (.int (own_at L p0))) 0 0 T (mkF m 0 #[.val (.ref x0), .unset, .unset, .unset, .unset] []) := by
  refine w_lconst (pc := 0) X C d6_0 (0 : Int64) rfl ?_
  refine w_lstoreN (pc := 1) X C d6_1 #[.val (.ref x0), .val (.long (0 : Int64)), .second, .unset, .unset] rfl ?_
  refine w_iconst (pc := 2) X C d6_2 (0 : Int32) rfl ?_
  refine w_istoreN (pc := 3) X C d6_3 #[.val (.ref x0), .val (.long (0 : Int64)), .second, .val (.int (0 : Int32)), .unset] rfl ?_
  exact vt_run C x0 b g hne g0 L (0 : Int64) (0 : Int32) p0 Pn _ One.u hp hb hneg hterm _ _ X (Keep.refl h [x0]) E0 F1 F2 A0 (fun h' a b c => ⟨rfl, a, b, c⟩)
theorem ct6 (l : Launch) {Z : State} {a0 : Array Value} (hw : ∀ d ∈ tables_1, d.before a0 Z = true) (h : Heap) {n0 : Nat} (hn : n0 ≤ h.size) (x0 : Addr) (b : Addr) (p0 : Int32) (Pn L : Nat) (g : Nat → Int32) (E0 : Exa Z h x0 "com/example/pondera/pondera/io/IndexBytes$Reader") (F1 : Fld Z h x0 "com/example/pondera/pondera/io/IndexBytes$Reader" "bytes" "[B" (.ref b)) (F2 : Fld Z h x0 "com/example/pondera/pondera/io/IndexBytes$Reader" "at" "I" (.int p0)) (A0 : ArI Z h b .byte 12 g) (hne : b ≠ x0) (g0 : n0 ≤ x0) (hp : p0.toInt = (Pn : Int)) (hb : Pn + L < 12) (hneg : ∀ j, j < L → g (Pn + j) < 0) (hterm : ¬ (g (Pn + L) < 0)) : Ct l (⟨"com/example/pondera/pondera/io/IndexBytes$Reader", "varint", "()J"⟩ : MethodName) prog_103_method_6_code 5 (some .long) ({ frames := 0, cells := 0, slots := 0, locals := 0 } : Room) Z #[(.ref x0)] h n0 (fun v h' => v = some (.long (own_vf g L 0 0 Pn)) ∧ Keep h h' [x0] ∧ Exa Z h' x0 "com/example/pondera/pondera/io/IndexBytes$Reader" ∧ Fld Z h' x0 "com/example/pondera/pondera/io/IndexBytes$Reader" "at" "I" (.int (own_at L p0))) :=
  Ct.of (plainFor_of_name pn_1) #[.val (.ref x0), .unset, .unset, .unset, .unset] (fun m => by first | (simp [entryFrame, mkF, argsToLocals, Value.category]; done) | rfl) hw hn (fun p e s m below meth c T C X => bw6 X C x0 b p0 Pn L g E0 F1 F2 A0 hne g0 hp hb hneg hterm)
theorem d7_0 : decode prog_103_method_3_code 0 = .ok (.aload_n 0, 1) := by decide +kernel
theorem d7_1 : decode prog_103_method_3_code 1 = .ok (.getfield 16, 3) := by decide +kernel
theorem d7_4 : decode prog_103_method_3_code 4 = .ok (.ireturn, 1) := by decide +kernel
set_option maxRecDepth 65536 in
set_option maxHeartbeats 40000000 in
theorem bw7 {p : Program} {l : Launch} {e : Env} {s : State} {m : MethodId} {args : Array Value} {below : List Frame} {meth : Method} {c : Code} {T : State} {h : Heap} {n0 : Nat} {Z : State} {a0 : Array Value} (X : Hr p l e ({ frames := 0, cells := 0, slots := 0, locals := 0 } : Room) s m args below meth c n0 h 0 0 T) (C : Cx p s m meth c prog_103_method_3_code 1 (some .int) "com/example/pondera/pondera/io/IndexBytes$Reader" "at" Z a0 tables_1) (x0 : Addr) (p0 : Int32) (F2 : Fld Z h x0 "com/example/pondera/pondera/io/IndexBytes$Reader" "at" "I" (.int p0)) : Goes p e below s n0 (fun v h' => v = some (.int p0) ∧ h' = h) 0 0 T (mkF m 0 #[.val (.ref x0)] []) := by
  refine w_aloadN (pc := 0) X C d7_0 rfl rfl ?_
  refine w_getfield (pc := 1) X C d7_1 (List.mem_of_getElem? (i := 23) rfl) F2 (fun T1 X1 => ?_)
  exact w_retI (pc := 4) X1 C d7_4 ⟨rfl, rfl⟩
theorem ct7 (l : Launch) {Z : State} {a0 : Array Value} (hw : ∀ d ∈ tables_1, d.before a0 Z = true) (h : Heap) {n0 : Nat} (hn : n0 ≤ h.size) (x0 : Addr) (p0 : Int32) (F2 : Fld Z h x0 "com/example/pondera/pondera/io/IndexBytes$Reader" "at" "I" (.int p0)) : Ct l (⟨"com/example/pondera/pondera/io/IndexBytes$Reader", "at", "()I"⟩ : MethodName) prog_103_method_3_code 1 (some .int) ({ frames := 0, cells := 0, slots := 0, locals := 0 } : Room) Z #[(.ref x0)] h n0 (fun v h' => v = some (.int p0) ∧ h' = h) :=
  Ct.of (plainFor_of_name pn_1) #[.val (.ref x0)] (fun m => by first | (simp [entryFrame, mkF, argsToLocals, Value.category]; done) | rfl) hw hn (fun p e s m below meth c T C X => bw7 X C x0 p0 F2)
theorem own_m10 (x : Int32) : 1 ≤ ((1 : Int32) + ((x &&& (2147483647 : Int32)) % (10 : Int32))).toInt ∧ ((1 : Int32) + ((x &&& (2147483647 : Int32)) % (10 : Int32))).toInt ≤ 10 := by
  have h0 := c_and x (2147483647 : Int32) (by decide)
  have h1 := (c_irem (x &&& (2147483647 : Int32)) (10 : Int32) 10 rfl).1 h0.1
  generalize ((x &&& (2147483647 : Int32)) % (10 : Int32)) = y at *
  have h2 := c_iadd (1 : Int32) y
  have r := rng32 ((1 : Int32) + y)
  have e1 : (1 : Int32).toInt = 1 := rfl
  omega
theorem own_m3 (x : Int32) : 0 ≤ ((x &&& (2147483647 : Int32)) % (3 : Int32)).toInt ∧ ((x &&& (2147483647 : Int32)) % (3 : Int32)).toInt ≤ 2 := by
  have h0 := c_and x (2147483647 : Int32) (by decide)
  have h1 := (c_irem (x &&& (2147483647 : Int32)) (3 : Int32) 3 rfl).1 h0.1
  omega
theorem own_ten (x : Int32) (h : 1 ≤ x.toInt ∧ x.toInt ≤ 10) : x = 1 ∨ x = 2 ∨ x = 3 ∨ x = 4 ∨ x = 5 ∨ x = 6 ∨ x = 7 ∨ x = 8 ∨ x = 9 ∨ x = 10 := by
  have e1 : (1 : Int32).toInt = 1 := rfl
  have e2 : (2 : Int32).toInt = 2 := rfl
  have e3 : (3 : Int32).toInt = 3 := rfl
  have e4 : (4 : Int32).toInt = 4 := rfl
  have e5 : (5 : Int32).toInt = 5 := rfl
  have e6 : (6 : Int32).toInt = 6 := rfl
  have e7 : (7 : Int32).toInt = 7 := rfl
  have e8 : (8 : Int32).toInt = 8 := rfl
  have e9 : (9 : Int32).toInt = 9 := rfl
  have e10 : (10 : Int32).toInt = 10 := rfl
  simp only [← Int32.toInt_inj, e1, e2, e3, e4, e5, e6, e7, e8, e9, e10]
  omega
theorem own_pb (a b : Int64) (i : Int32) : 0 ≤ (f2 a b i).toInt ∧ (f2 a b i).toInt ≤ 127 := by
  have key : ∀ z : Int32, 0 ≤ (z &&& (127 : Int32)).toInt ∧ (z &&& (127 : Int32)).toInt ≤ 127 := fun z => c_and z (127 : Int32) (by decide)
  have key1 : ∀ z : Int32, 0 ≤ (z &&& (1 : Int32)).toInt ∧ (z &&& (1 : Int32)).toInt ≤ 127 := fun z => by have := c_and z (1 : Int32) (by decide); have e : (1 : Int32).toInt = 1 := rfl; omega
  simp only [f2, f2_31, f2_53]
  repeat' split
  all_goals first | exact key _ | exact key1 _
theorem own_256 {Q : Int32 → Prop} (h : ∀ k : Fin 128, Q (Int32.ofNat k.1)) (x : Int32) (hx : 0 ≤ x.toInt ∧ x.toInt ≤ 127) : Q x := by
  have e : Int32.ofNat x.toInt.toNat = x := by
    apply Int32.toInt_inj.mp
    rw [Int32.toInt_ofNat_small (by omega)]; omega
  have q := h ⟨x.toInt.toNat, by omega⟩
  rw [e] at q
  exact q
theorem own_lo : ∀ k : Fin 128, (i8 (i8 (Int32.ofNat k.1)) &&& (127 : Int32)) = Int32.ofNat k.1 ∧ ¬ (i8 (i8 (Int32.ofNat k.1)) < 0) := by decide +kernel
theorem own_hi : ∀ k : Fin 128, (i8 (i8 (Int32.ofNat k.1 ||| (128 : Int32))) &&& (127 : Int32)) = Int32.ofNat k.1 ∧ i8 (i8 (Int32.ofNat k.1 ||| (128 : Int32))) < 0 := by decide +kernel
theorem own_plo (a b : Int64) (i : Int32) : (i8 (i8 (f2 a b i)) &&& (127 : Int32)) = f2 a b i ∧ ¬ (i8 (i8 (f2 a b i)) < 0) := own_256 (Q := fun y => (i8 (i8 y) &&& (127 : Int32)) = y ∧ ¬ (i8 (i8 y) < 0)) own_lo _ (own_pb a b i)
theorem own_phi (a b : Int64) (i : Int32) : (i8 (i8 (f2 a b i ||| (128 : Int32))) &&& (127 : Int32)) = f2 a b i ∧ i8 (i8 (f2 a b i ||| (128 : Int32))) < 0 := own_256 (Q := fun y => (i8 (i8 (y ||| (128 : Int32))) &&& (127 : Int32)) = y ∧ i8 (i8 (y ||| (128 : Int32))) < 0) own_hi _ (own_pb a b i)
theorem own_n0 : nt (0 : Int32) = 0 := rfl
theorem own_n1 : nt (1 : Int32) = 1 := rfl
theorem own_n2 : nt (2 : Int32) = 2 := rfl
theorem own_n3 : nt (3 : Int32) = 3 := rfl
theorem own_n4 : nt (4 : Int32) = 4 := rfl
theorem own_n5 : nt (5 : Int32) = 5 := rfl
theorem own_n6 : nt (6 : Int32) = 6 := rfl
theorem own_n7 : nt (7 : Int32) = 7 := rfl
theorem own_n8 : nt (8 : Int32) = 8 := rfl
theorem own_n9 : nt (9 : Int32) = 9 := rfl
theorem own_n10 : nt (10 : Int32) = 10 := rfl
theorem own_g1 (a b : Int64) (o : Int32) {g0 g1 g2 g3 g4 g5 g6 g7 g8 g9 g10 : Nat → Int32} (h0 : g1 = (if (0 : Int32) < (1 : Int32) then up g0 (nt o + nt (0 : Int32)) (i8 (i8 (if (0 : Int32) < ((1 : Int32) - (1 : Int32)) then (f2 a b (0 : Int32) ||| (128 : Int32)) else (f2 a b (0 : Int32))))) else g0)) (h1 : g2 = (if (1 : Int32) < (1 : Int32) then up g1 (nt o + nt (1 : Int32)) (i8 (i8 (if (1 : Int32) < ((1 : Int32) - (1 : Int32)) then (f2 a b (1 : Int32) ||| (128 : Int32)) else (f2 a b (1 : Int32))))) else g1)) (h2 : g3 = (if (2 : Int32) < (1 : Int32) then up g2 (nt o + nt (2 : Int32)) (i8 (i8 (if (2 : Int32) < ((1 : Int32) - (1 : Int32)) then (f2 a b (2 : Int32) ||| (128 : Int32)) else (f2 a b (2 : Int32))))) else g2)) (h3 : g4 = (if (3 : Int32) < (1 : Int32) then up g3 (nt o + nt (3 : Int32)) (i8 (i8 (if (3 : Int32) < ((1 : Int32) - (1 : Int32)) then (f2 a b (3 : Int32) ||| (128 : Int32)) else (f2 a b (3 : Int32))))) else g3)) (h4 : g5 = (if (4 : Int32) < (1 : Int32) then up g4 (nt o + nt (4 : Int32)) (i8 (i8 (if (4 : Int32) < ((1 : Int32) - (1 : Int32)) then (f2 a b (4 : Int32) ||| (128 : Int32)) else (f2 a b (4 : Int32))))) else g4)) (h5 : g6 = (if (5 : Int32) < (1 : Int32) then up g5 (nt o + nt (5 : Int32)) (i8 (i8 (if (5 : Int32) < ((1 : Int32) - (1 : Int32)) then (f2 a b (5 : Int32) ||| (128 : Int32)) else (f2 a b (5 : Int32))))) else g5)) (h6 : g7 = (if (6 : Int32) < (1 : Int32) then up g6 (nt o + nt (6 : Int32)) (i8 (i8 (if (6 : Int32) < ((1 : Int32) - (1 : Int32)) then (f2 a b (6 : Int32) ||| (128 : Int32)) else (f2 a b (6 : Int32))))) else g6)) (h7 : g8 = (if (7 : Int32) < (1 : Int32) then up g7 (nt o + nt (7 : Int32)) (i8 (i8 (if (7 : Int32) < ((1 : Int32) - (1 : Int32)) then (f2 a b (7 : Int32) ||| (128 : Int32)) else (f2 a b (7 : Int32))))) else g7)) (h8 : g9 = (if (8 : Int32) < (1 : Int32) then up g8 (nt o + nt (8 : Int32)) (i8 (i8 (if (8 : Int32) < ((1 : Int32) - (1 : Int32)) then (f2 a b (8 : Int32) ||| (128 : Int32)) else (f2 a b (8 : Int32))))) else g8)) (h9 : g10 = (if (9 : Int32) < (1 : Int32) then up g9 (nt o + nt (9 : Int32)) (i8 (i8 (if (9 : Int32) < ((1 : Int32) - (1 : Int32)) then (f2 a b (9 : Int32) ||| (128 : Int32)) else (f2 a b (9 : Int32))))) else g9)) : g10 (nt o + 0) = (i8 (i8 (f2 a b (0 : Int32)))) := by
  simp +decide only [own_n0, own_n1, own_n2, own_n3, own_n4, own_n5, own_n6, own_n7, own_n8, own_n9, if_true, if_false] at h0 h1 h2 h3 h4 h5 h6 h7 h8 h9
  all_goals simp +decide only [h9, h8, h7, h6, h5, h4, h3, h2, h1, h0, up, Nat.add_left_cancel_iff, if_true, if_false]
theorem own_g2 (a b : Int64) (o : Int32) {g0 g1 g2 g3 g4 g5 g6 g7 g8 g9 g10 : Nat → Int32} (h0 : g1 = (if (0 : Int32) < (2 : Int32) then up g0 (nt o + nt (0 : Int32)) (i8 (i8 (if (0 : Int32) < ((2 : Int32) - (1 : Int32)) then (f2 a b (0 : Int32) ||| (128 : Int32)) else (f2 a b (0 : Int32))))) else g0)) (h1 : g2 = (if (1 : Int32) < (2 : Int32) then up g1 (nt o + nt (1 : Int32)) (i8 (i8 (if (1 : Int32) < ((2 : Int32) - (1 : Int32)) then (f2 a b (1 : Int32) ||| (128 : Int32)) else (f2 a b (1 : Int32))))) else g1)) (h2 : g3 = (if (2 : Int32) < (2 : Int32) then up g2 (nt o + nt (2 : Int32)) (i8 (i8 (if (2 : Int32) < ((2 : Int32) - (1 : Int32)) then (f2 a b (2 : Int32) ||| (128 : Int32)) else (f2 a b (2 : Int32))))) else g2)) (h3 : g4 = (if (3 : Int32) < (2 : Int32) then up g3 (nt o + nt (3 : Int32)) (i8 (i8 (if (3 : Int32) < ((2 : Int32) - (1 : Int32)) then (f2 a b (3 : Int32) ||| (128 : Int32)) else (f2 a b (3 : Int32))))) else g3)) (h4 : g5 = (if (4 : Int32) < (2 : Int32) then up g4 (nt o + nt (4 : Int32)) (i8 (i8 (if (4 : Int32) < ((2 : Int32) - (1 : Int32)) then (f2 a b (4 : Int32) ||| (128 : Int32)) else (f2 a b (4 : Int32))))) else g4)) (h5 : g6 = (if (5 : Int32) < (2 : Int32) then up g5 (nt o + nt (5 : Int32)) (i8 (i8 (if (5 : Int32) < ((2 : Int32) - (1 : Int32)) then (f2 a b (5 : Int32) ||| (128 : Int32)) else (f2 a b (5 : Int32))))) else g5)) (h6 : g7 = (if (6 : Int32) < (2 : Int32) then up g6 (nt o + nt (6 : Int32)) (i8 (i8 (if (6 : Int32) < ((2 : Int32) - (1 : Int32)) then (f2 a b (6 : Int32) ||| (128 : Int32)) else (f2 a b (6 : Int32))))) else g6)) (h7 : g8 = (if (7 : Int32) < (2 : Int32) then up g7 (nt o + nt (7 : Int32)) (i8 (i8 (if (7 : Int32) < ((2 : Int32) - (1 : Int32)) then (f2 a b (7 : Int32) ||| (128 : Int32)) else (f2 a b (7 : Int32))))) else g7)) (h8 : g9 = (if (8 : Int32) < (2 : Int32) then up g8 (nt o + nt (8 : Int32)) (i8 (i8 (if (8 : Int32) < ((2 : Int32) - (1 : Int32)) then (f2 a b (8 : Int32) ||| (128 : Int32)) else (f2 a b (8 : Int32))))) else g8)) (h9 : g10 = (if (9 : Int32) < (2 : Int32) then up g9 (nt o + nt (9 : Int32)) (i8 (i8 (if (9 : Int32) < ((2 : Int32) - (1 : Int32)) then (f2 a b (9 : Int32) ||| (128 : Int32)) else (f2 a b (9 : Int32))))) else g9)) : g10 (nt o + 0) = (i8 (i8 (f2 a b (0 : Int32) ||| (128 : Int32)))) ∧ g10 (nt o + 1) = (i8 (i8 (f2 a b (1 : Int32)))) := by
  simp +decide only [own_n0, own_n1, own_n2, own_n3, own_n4, own_n5, own_n6, own_n7, own_n8, own_n9, if_true, if_false] at h0 h1 h2 h3 h4 h5 h6 h7 h8 h9
  refine ⟨?_, ?_⟩
  all_goals simp +decide only [h9, h8, h7, h6, h5, h4, h3, h2, h1, h0, up, Nat.add_left_cancel_iff, if_true, if_false]
theorem own_g3 (a b : Int64) (o : Int32) {g0 g1 g2 g3 g4 g5 g6 g7 g8 g9 g10 : Nat → Int32} (h0 : g1 = (if (0 : Int32) < (3 : Int32) then up g0 (nt o + nt (0 : Int32)) (i8 (i8 (if (0 : Int32) < ((3 : Int32) - (1 : Int32)) then (f2 a b (0 : Int32) ||| (128 : Int32)) else (f2 a b (0 : Int32))))) else g0)) (h1 : g2 = (if (1 : Int32) < (3 : Int32) then up g1 (nt o + nt (1 : Int32)) (i8 (i8 (if (1 : Int32) < ((3 : Int32) - (1 : Int32)) then (f2 a b (1 : Int32) ||| (128 : Int32)) else (f2 a b (1 : Int32))))) else g1)) (h2 : g3 = (if (2 : Int32) < (3 : Int32) then up g2 (nt o + nt (2 : Int32)) (i8 (i8 (if (2 : Int32) < ((3 : Int32) - (1 : Int32)) then (f2 a b (2 : Int32) ||| (128 : Int32)) else (f2 a b (2 : Int32))))) else g2)) (h3 : g4 = (if (3 : Int32) < (3 : Int32) then up g3 (nt o + nt (3 : Int32)) (i8 (i8 (if (3 : Int32) < ((3 : Int32) - (1 : Int32)) then (f2 a b (3 : Int32) ||| (128 : Int32)) else (f2 a b (3 : Int32))))) else g3)) (h4 : g5 = (if (4 : Int32) < (3 : Int32) then up g4 (nt o + nt (4 : Int32)) (i8 (i8 (if (4 : Int32) < ((3 : Int32) - (1 : Int32)) then (f2 a b (4 : Int32) ||| (128 : Int32)) else (f2 a b (4 : Int32))))) else g4)) (h5 : g6 = (if (5 : Int32) < (3 : Int32) then up g5 (nt o + nt (5 : Int32)) (i8 (i8 (if (5 : Int32) < ((3 : Int32) - (1 : Int32)) then (f2 a b (5 : Int32) ||| (128 : Int32)) else (f2 a b (5 : Int32))))) else g5)) (h6 : g7 = (if (6 : Int32) < (3 : Int32) then up g6 (nt o + nt (6 : Int32)) (i8 (i8 (if (6 : Int32) < ((3 : Int32) - (1 : Int32)) then (f2 a b (6 : Int32) ||| (128 : Int32)) else (f2 a b (6 : Int32))))) else g6)) (h7 : g8 = (if (7 : Int32) < (3 : Int32) then up g7 (nt o + nt (7 : Int32)) (i8 (i8 (if (7 : Int32) < ((3 : Int32) - (1 : Int32)) then (f2 a b (7 : Int32) ||| (128 : Int32)) else (f2 a b (7 : Int32))))) else g7)) (h8 : g9 = (if (8 : Int32) < (3 : Int32) then up g8 (nt o + nt (8 : Int32)) (i8 (i8 (if (8 : Int32) < ((3 : Int32) - (1 : Int32)) then (f2 a b (8 : Int32) ||| (128 : Int32)) else (f2 a b (8 : Int32))))) else g8)) (h9 : g10 = (if (9 : Int32) < (3 : Int32) then up g9 (nt o + nt (9 : Int32)) (i8 (i8 (if (9 : Int32) < ((3 : Int32) - (1 : Int32)) then (f2 a b (9 : Int32) ||| (128 : Int32)) else (f2 a b (9 : Int32))))) else g9)) : g10 (nt o + 0) = (i8 (i8 (f2 a b (0 : Int32) ||| (128 : Int32)))) ∧ g10 (nt o + 1) = (i8 (i8 (f2 a b (1 : Int32) ||| (128 : Int32)))) ∧ g10 (nt o + 2) = (i8 (i8 (f2 a b (2 : Int32)))) := by
  simp +decide only [own_n0, own_n1, own_n2, own_n3, own_n4, own_n5, own_n6, own_n7, own_n8, own_n9, if_true, if_false] at h0 h1 h2 h3 h4 h5 h6 h7 h8 h9
  refine ⟨?_, ?_, ?_⟩
  all_goals simp +decide only [h9, h8, h7, h6, h5, h4, h3, h2, h1, h0, up, Nat.add_left_cancel_iff, if_true, if_false]
theorem own_g4 (a b : Int64) (o : Int32) {g0 g1 g2 g3 g4 g5 g6 g7 g8 g9 g10 : Nat → Int32} (h0 : g1 = (if (0 : Int32) < (4 : Int32) then up g0 (nt o + nt (0 : Int32)) (i8 (i8 (if (0 : Int32) < ((4 : Int32) - (1 : Int32)) then (f2 a b (0 : Int32) ||| (128 : Int32)) else (f2 a b (0 : Int32))))) else g0)) (h1 : g2 = (if (1 : Int32) < (4 : Int32) then up g1 (nt o + nt (1 : Int32)) (i8 (i8 (if (1 : Int32) < ((4 : Int32) - (1 : Int32)) then (f2 a b (1 : Int32) ||| (128 : Int32)) else (f2 a b (1 : Int32))))) else g1)) (h2 : g3 = (if (2 : Int32) < (4 : Int32) then up g2 (nt o + nt (2 : Int32)) (i8 (i8 (if (2 : Int32) < ((4 : Int32) - (1 : Int32)) then (f2 a b (2 : Int32) ||| (128 : Int32)) else (f2 a b (2 : Int32))))) else g2)) (h3 : g4 = (if (3 : Int32) < (4 : Int32) then up g3 (nt o + nt (3 : Int32)) (i8 (i8 (if (3 : Int32) < ((4 : Int32) - (1 : Int32)) then (f2 a b (3 : Int32) ||| (128 : Int32)) else (f2 a b (3 : Int32))))) else g3)) (h4 : g5 = (if (4 : Int32) < (4 : Int32) then up g4 (nt o + nt (4 : Int32)) (i8 (i8 (if (4 : Int32) < ((4 : Int32) - (1 : Int32)) then (f2 a b (4 : Int32) ||| (128 : Int32)) else (f2 a b (4 : Int32))))) else g4)) (h5 : g6 = (if (5 : Int32) < (4 : Int32) then up g5 (nt o + nt (5 : Int32)) (i8 (i8 (if (5 : Int32) < ((4 : Int32) - (1 : Int32)) then (f2 a b (5 : Int32) ||| (128 : Int32)) else (f2 a b (5 : Int32))))) else g5)) (h6 : g7 = (if (6 : Int32) < (4 : Int32) then up g6 (nt o + nt (6 : Int32)) (i8 (i8 (if (6 : Int32) < ((4 : Int32) - (1 : Int32)) then (f2 a b (6 : Int32) ||| (128 : Int32)) else (f2 a b (6 : Int32))))) else g6)) (h7 : g8 = (if (7 : Int32) < (4 : Int32) then up g7 (nt o + nt (7 : Int32)) (i8 (i8 (if (7 : Int32) < ((4 : Int32) - (1 : Int32)) then (f2 a b (7 : Int32) ||| (128 : Int32)) else (f2 a b (7 : Int32))))) else g7)) (h8 : g9 = (if (8 : Int32) < (4 : Int32) then up g8 (nt o + nt (8 : Int32)) (i8 (i8 (if (8 : Int32) < ((4 : Int32) - (1 : Int32)) then (f2 a b (8 : Int32) ||| (128 : Int32)) else (f2 a b (8 : Int32))))) else g8)) (h9 : g10 = (if (9 : Int32) < (4 : Int32) then up g9 (nt o + nt (9 : Int32)) (i8 (i8 (if (9 : Int32) < ((4 : Int32) - (1 : Int32)) then (f2 a b (9 : Int32) ||| (128 : Int32)) else (f2 a b (9 : Int32))))) else g9)) : g10 (nt o + 0) = (i8 (i8 (f2 a b (0 : Int32) ||| (128 : Int32)))) ∧ g10 (nt o + 1) = (i8 (i8 (f2 a b (1 : Int32) ||| (128 : Int32)))) ∧ g10 (nt o + 2) = (i8 (i8 (f2 a b (2 : Int32) ||| (128 : Int32)))) ∧ g10 (nt o + 3) = (i8 (i8 (f2 a b (3 : Int32)))) := by
  simp +decide only [own_n0, own_n1, own_n2, own_n3, own_n4, own_n5, own_n6, own_n7, own_n8, own_n9, if_true, if_false] at h0 h1 h2 h3 h4 h5 h6 h7 h8 h9
  refine ⟨?_, ?_, ?_, ?_⟩
  all_goals simp +decide only [h9, h8, h7, h6, h5, h4, h3, h2, h1, h0, up, Nat.add_left_cancel_iff, if_true, if_false]
theorem own_g5 (a b : Int64) (o : Int32) {g0 g1 g2 g3 g4 g5 g6 g7 g8 g9 g10 : Nat → Int32} (h0 : g1 = (if (0 : Int32) < (5 : Int32) then up g0 (nt o + nt (0 : Int32)) (i8 (i8 (if (0 : Int32) < ((5 : Int32) - (1 : Int32)) then (f2 a b (0 : Int32) ||| (128 : Int32)) else (f2 a b (0 : Int32))))) else g0)) (h1 : g2 = (if (1 : Int32) < (5 : Int32) then up g1 (nt o + nt (1 : Int32)) (i8 (i8 (if (1 : Int32) < ((5 : Int32) - (1 : Int32)) then (f2 a b (1 : Int32) ||| (128 : Int32)) else (f2 a b (1 : Int32))))) else g1)) (h2 : g3 = (if (2 : Int32) < (5 : Int32) then up g2 (nt o + nt (2 : Int32)) (i8 (i8 (if (2 : Int32) < ((5 : Int32) - (1 : Int32)) then (f2 a b (2 : Int32) ||| (128 : Int32)) else (f2 a b (2 : Int32))))) else g2)) (h3 : g4 = (if (3 : Int32) < (5 : Int32) then up g3 (nt o + nt (3 : Int32)) (i8 (i8 (if (3 : Int32) < ((5 : Int32) - (1 : Int32)) then (f2 a b (3 : Int32) ||| (128 : Int32)) else (f2 a b (3 : Int32))))) else g3)) (h4 : g5 = (if (4 : Int32) < (5 : Int32) then up g4 (nt o + nt (4 : Int32)) (i8 (i8 (if (4 : Int32) < ((5 : Int32) - (1 : Int32)) then (f2 a b (4 : Int32) ||| (128 : Int32)) else (f2 a b (4 : Int32))))) else g4)) (h5 : g6 = (if (5 : Int32) < (5 : Int32) then up g5 (nt o + nt (5 : Int32)) (i8 (i8 (if (5 : Int32) < ((5 : Int32) - (1 : Int32)) then (f2 a b (5 : Int32) ||| (128 : Int32)) else (f2 a b (5 : Int32))))) else g5)) (h6 : g7 = (if (6 : Int32) < (5 : Int32) then up g6 (nt o + nt (6 : Int32)) (i8 (i8 (if (6 : Int32) < ((5 : Int32) - (1 : Int32)) then (f2 a b (6 : Int32) ||| (128 : Int32)) else (f2 a b (6 : Int32))))) else g6)) (h7 : g8 = (if (7 : Int32) < (5 : Int32) then up g7 (nt o + nt (7 : Int32)) (i8 (i8 (if (7 : Int32) < ((5 : Int32) - (1 : Int32)) then (f2 a b (7 : Int32) ||| (128 : Int32)) else (f2 a b (7 : Int32))))) else g7)) (h8 : g9 = (if (8 : Int32) < (5 : Int32) then up g8 (nt o + nt (8 : Int32)) (i8 (i8 (if (8 : Int32) < ((5 : Int32) - (1 : Int32)) then (f2 a b (8 : Int32) ||| (128 : Int32)) else (f2 a b (8 : Int32))))) else g8)) (h9 : g10 = (if (9 : Int32) < (5 : Int32) then up g9 (nt o + nt (9 : Int32)) (i8 (i8 (if (9 : Int32) < ((5 : Int32) - (1 : Int32)) then (f2 a b (9 : Int32) ||| (128 : Int32)) else (f2 a b (9 : Int32))))) else g9)) : g10 (nt o + 0) = (i8 (i8 (f2 a b (0 : Int32) ||| (128 : Int32)))) ∧ g10 (nt o + 1) = (i8 (i8 (f2 a b (1 : Int32) ||| (128 : Int32)))) ∧ g10 (nt o + 2) = (i8 (i8 (f2 a b (2 : Int32) ||| (128 : Int32)))) ∧ g10 (nt o + 3) = (i8 (i8 (f2 a b (3 : Int32) ||| (128 : Int32)))) ∧ g10 (nt o + 4) = (i8 (i8 (f2 a b (4 : Int32)))) := by
  simp +decide only [own_n0, own_n1, own_n2, own_n3, own_n4, own_n5, own_n6, own_n7, own_n8, own_n9, if_true, if_false] at h0 h1 h2 h3 h4 h5 h6 h7 h8 h9
  refine ⟨?_, ?_, ?_, ?_, ?_⟩
  all_goals simp +decide only [h9, h8, h7, h6, h5, h4, h3, h2, h1, h0, up, Nat.add_left_cancel_iff, if_true, if_false]
theorem own_g6 (a b : Int64) (o : Int32) {g0 g1 g2 g3 g4 g5 g6 g7 g8 g9 g10 : Nat → Int32} (h0 : g1 = (if (0 : Int32) < (6 : Int32) then up g0 (nt o + nt (0 : Int32)) (i8 (i8 (if (0 : Int32) < ((6 : Int32) - (1 : Int32)) then (f2 a b (0 : Int32) ||| (128 : Int32)) else (f2 a b (0 : Int32))))) else g0)) (h1 : g2 = (if (1 : Int32) < (6 : Int32) then up g1 (nt o + nt (1 : Int32)) (i8 (i8 (if (1 : Int32) < ((6 : Int32) - (1 : Int32)) then (f2 a b (1 : Int32) ||| (128 : Int32)) else (f2 a b (1 : Int32))))) else g1)) (h2 : g3 = (if (2 : Int32) < (6 : Int32) then up g2 (nt o + nt (2 : Int32)) (i8 (i8 (if (2 : Int32) < ((6 : Int32) - (1 : Int32)) then (f2 a b (2 : Int32) ||| (128 : Int32)) else (f2 a b (2 : Int32))))) else g2)) (h3 : g4 = (if (3 : Int32) < (6 : Int32) then up g3 (nt o + nt (3 : Int32)) (i8 (i8 (if (3 : Int32) < ((6 : Int32) - (1 : Int32)) then (f2 a b (3 : Int32) ||| (128 : Int32)) else (f2 a b (3 : Int32))))) else g3)) (h4 : g5 = (if (4 : Int32) < (6 : Int32) then up g4 (nt o + nt (4 : Int32)) (i8 (i8 (if (4 : Int32) < ((6 : Int32) - (1 : Int32)) then (f2 a b (4 : Int32) ||| (128 : Int32)) else (f2 a b (4 : Int32))))) else g4)) (h5 : g6 = (if (5 : Int32) < (6 : Int32) then up g5 (nt o + nt (5 : Int32)) (i8 (i8 (if (5 : Int32) < ((6 : Int32) - (1 : Int32)) then (f2 a b (5 : Int32) ||| (128 : Int32)) else (f2 a b (5 : Int32))))) else g5)) (h6 : g7 = (if (6 : Int32) < (6 : Int32) then up g6 (nt o + nt (6 : Int32)) (i8 (i8 (if (6 : Int32) < ((6 : Int32) - (1 : Int32)) then (f2 a b (6 : Int32) ||| (128 : Int32)) else (f2 a b (6 : Int32))))) else g6)) (h7 : g8 = (if (7 : Int32) < (6 : Int32) then up g7 (nt o + nt (7 : Int32)) (i8 (i8 (if (7 : Int32) < ((6 : Int32) - (1 : Int32)) then (f2 a b (7 : Int32) ||| (128 : Int32)) else (f2 a b (7 : Int32))))) else g7)) (h8 : g9 = (if (8 : Int32) < (6 : Int32) then up g8 (nt o + nt (8 : Int32)) (i8 (i8 (if (8 : Int32) < ((6 : Int32) - (1 : Int32)) then (f2 a b (8 : Int32) ||| (128 : Int32)) else (f2 a b (8 : Int32))))) else g8)) (h9 : g10 = (if (9 : Int32) < (6 : Int32) then up g9 (nt o + nt (9 : Int32)) (i8 (i8 (if (9 : Int32) < ((6 : Int32) - (1 : Int32)) then (f2 a b (9 : Int32) ||| (128 : Int32)) else (f2 a b (9 : Int32))))) else g9)) : g10 (nt o + 0) = (i8 (i8 (f2 a b (0 : Int32) ||| (128 : Int32)))) ∧ g10 (nt o + 1) = (i8 (i8 (f2 a b (1 : Int32) ||| (128 : Int32)))) ∧ g10 (nt o + 2) = (i8 (i8 (f2 a b (2 : Int32) ||| (128 : Int32)))) ∧ g10 (nt o + 3) = (i8 (i8 (f2 a b (3 : Int32) ||| (128 : Int32)))) ∧ g10 (nt o + 4) = (i8 (i8 (f2 a b (4 : Int32) ||| (128 : Int32)))) ∧ g10 (nt o + 5) = (i8 (i8 (f2 a b (5 : Int32)))) := by
  simp +decide only [own_n0, own_n1, own_n2, own_n3, own_n4, own_n5, own_n6, own_n7, own_n8, own_n9, if_true, if_false] at h0 h1 h2 h3 h4 h5 h6 h7 h8 h9
  refine ⟨?_, ?_, ?_, ?_, ?_, ?_⟩
  all_goals simp +decide only [h9, h8, h7, h6, h5, h4, h3, h2, h1, h0, up, Nat.add_left_cancel_iff, if_true, if_false]
theorem own_g7 (a b : Int64) (o : Int32) {g0 g1 g2 g3 g4 g5 g6 g7 g8 g9 g10 : Nat → Int32} (h0 : g1 = (if (0 : Int32) < (7 : Int32) then up g0 (nt o + nt (0 : Int32)) (i8 (i8 (if (0 : Int32) < ((7 : Int32) - (1 : Int32)) then (f2 a b (0 : Int32) ||| (128 : Int32)) else (f2 a b (0 : Int32))))) else g0)) (h1 : g2 = (if (1 : Int32) < (7 : Int32) then up g1 (nt o + nt (1 : Int32)) (i8 (i8 (if (1 : Int32) < ((7 : Int32) - (1 : Int32)) then (f2 a b (1 : Int32) ||| (128 : Int32)) else (f2 a b (1 : Int32))))) else g1)) (h2 : g3 = (if (2 : Int32) < (7 : Int32) then up g2 (nt o + nt (2 : Int32)) (i8 (i8 (if (2 : Int32) < ((7 : Int32) - (1 : Int32)) then (f2 a b (2 : Int32) ||| (128 : Int32)) else (f2 a b (2 : Int32))))) else g2)) (h3 : g4 = (if (3 : Int32) < (7 : Int32) then up g3 (nt o + nt (3 : Int32)) (i8 (i8 (if (3 : Int32) < ((7 : Int32) - (1 : Int32)) then (f2 a b (3 : Int32) ||| (128 : Int32)) else (f2 a b (3 : Int32))))) else g3)) (h4 : g5 = (if (4 : Int32) < (7 : Int32) then up g4 (nt o + nt (4 : Int32)) (i8 (i8 (if (4 : Int32) < ((7 : Int32) - (1 : Int32)) then (f2 a b (4 : Int32) ||| (128 : Int32)) else (f2 a b (4 : Int32))))) else g4)) (h5 : g6 = (if (5 : Int32) < (7 : Int32) then up g5 (nt o + nt (5 : Int32)) (i8 (i8 (if (5 : Int32) < ((7 : Int32) - (1 : Int32)) then (f2 a b (5 : Int32) ||| (128 : Int32)) else (f2 a b (5 : Int32))))) else g5)) (h6 : g7 = (if (6 : Int32) < (7 : Int32) then up g6 (nt o + nt (6 : Int32)) (i8 (i8 (if (6 : Int32) < ((7 : Int32) - (1 : Int32)) then (f2 a b (6 : Int32) ||| (128 : Int32)) else (f2 a b (6 : Int32))))) else g6)) (h7 : g8 = (if (7 : Int32) < (7 : Int32) then up g7 (nt o + nt (7 : Int32)) (i8 (i8 (if (7 : Int32) < ((7 : Int32) - (1 : Int32)) then (f2 a b (7 : Int32) ||| (128 : Int32)) else (f2 a b (7 : Int32))))) else g7)) (h8 : g9 = (if (8 : Int32) < (7 : Int32) then up g8 (nt o + nt (8 : Int32)) (i8 (i8 (if (8 : Int32) < ((7 : Int32) - (1 : Int32)) then (f2 a b (8 : Int32) ||| (128 : Int32)) else (f2 a b (8 : Int32))))) else g8)) (h9 : g10 = (if (9 : Int32) < (7 : Int32) then up g9 (nt o + nt (9 : Int32)) (i8 (i8 (if (9 : Int32) < ((7 : Int32) - (1 : Int32)) then (f2 a b (9 : Int32) ||| (128 : Int32)) else (f2 a b (9 : Int32))))) else g9)) : g10 (nt o + 0) = (i8 (i8 (f2 a b (0 : Int32) ||| (128 : Int32)))) ∧ g10 (nt o + 1) = (i8 (i8 (f2 a b (1 : Int32) ||| (128 : Int32)))) ∧ g10 (nt o + 2) = (i8 (i8 (f2 a b (2 : Int32) ||| (128 : Int32)))) ∧ g10 (nt o + 3) = (i8 (i8 (f2 a b (3 : Int32) ||| (128 : Int32)))) ∧ g10 (nt o + 4) = (i8 (i8 (f2 a b (4 : Int32) ||| (128 : Int32)))) ∧ g10 (nt o + 5) = (i8 (i8 (f2 a b (5 : Int32) ||| (128 : Int32)))) ∧ g10 (nt o + 6) = (i8 (i8 (f2 a b (6 : Int32)))) := by
  simp +decide only [own_n0, own_n1, own_n2, own_n3, own_n4, own_n5, own_n6, own_n7, own_n8, own_n9, if_true, if_false] at h0 h1 h2 h3 h4 h5 h6 h7 h8 h9
  refine ⟨?_, ?_, ?_, ?_, ?_, ?_, ?_⟩
  all_goals simp +decide only [h9, h8, h7, h6, h5, h4, h3, h2, h1, h0, up, Nat.add_left_cancel_iff, if_true, if_false]
theorem own_g8 (a b : Int64) (o : Int32) {g0 g1 g2 g3 g4 g5 g6 g7 g8 g9 g10 : Nat → Int32} (h0 : g1 = (if (0 : Int32) < (8 : Int32) then up g0 (nt o + nt (0 : Int32)) (i8 (i8 (if (0 : Int32) < ((8 : Int32) - (1 : Int32)) then (f2 a b (0 : Int32) ||| (128 : Int32)) else (f2 a b (0 : Int32))))) else g0)) (h1 : g2 = (if (1 : Int32) < (8 : Int32) then up g1 (nt o + nt (1 : Int32)) (i8 (i8 (if (1 : Int32) < ((8 : Int32) - (1 : Int32)) then (f2 a b (1 : Int32) ||| (128 : Int32)) else (f2 a b (1 : Int32))))) else g1)) (h2 : g3 = (if (2 : Int32) < (8 : Int32) then up g2 (nt o + nt (2 : Int32)) (i8 (i8 (if (2 : Int32) < ((8 : Int32) - (1 : Int32)) then (f2 a b (2 : Int32) ||| (128 : Int32)) else (f2 a b (2 : Int32))))) else g2)) (h3 : g4 = (if (3 : Int32) < (8 : Int32) then up g3 (nt o + nt (3 : Int32)) (i8 (i8 (if (3 : Int32) < ((8 : Int32) - (1 : Int32)) then (f2 a b (3 : Int32) ||| (128 : Int32)) else (f2 a b (3 : Int32))))) else g3)) (h4 : g5 = (if (4 : Int32) < (8 : Int32) then up g4 (nt o + nt (4 : Int32)) (i8 (i8 (if (4 : Int32) < ((8 : Int32) - (1 : Int32)) then (f2 a b (4 : Int32) ||| (128 : Int32)) else (f2 a b (4 : Int32))))) else g4)) (h5 : g6 = (if (5 : Int32) < (8 : Int32) then up g5 (nt o + nt (5 : Int32)) (i8 (i8 (if (5 : Int32) < ((8 : Int32) - (1 : Int32)) then (f2 a b (5 : Int32) ||| (128 : Int32)) else (f2 a b (5 : Int32))))) else g5)) (h6 : g7 = (if (6 : Int32) < (8 : Int32) then up g6 (nt o + nt (6 : Int32)) (i8 (i8 (if (6 : Int32) < ((8 : Int32) - (1 : Int32)) then (f2 a b (6 : Int32) ||| (128 : Int32)) else (f2 a b (6 : Int32))))) else g6)) (h7 : g8 = (if (7 : Int32) < (8 : Int32) then up g7 (nt o + nt (7 : Int32)) (i8 (i8 (if (7 : Int32) < ((8 : Int32) - (1 : Int32)) then (f2 a b (7 : Int32) ||| (128 : Int32)) else (f2 a b (7 : Int32))))) else g7)) (h8 : g9 = (if (8 : Int32) < (8 : Int32) then up g8 (nt o + nt (8 : Int32)) (i8 (i8 (if (8 : Int32) < ((8 : Int32) - (1 : Int32)) then (f2 a b (8 : Int32) ||| (128 : Int32)) else (f2 a b (8 : Int32))))) else g8)) (h9 : g10 = (if (9 : Int32) < (8 : Int32) then up g9 (nt o + nt (9 : Int32)) (i8 (i8 (if (9 : Int32) < ((8 : Int32) - (1 : Int32)) then (f2 a b (9 : Int32) ||| (128 : Int32)) else (f2 a b (9 : Int32))))) else g9)) : g10 (nt o + 0) = (i8 (i8 (f2 a b (0 : Int32) ||| (128 : Int32)))) ∧ g10 (nt o + 1) = (i8 (i8 (f2 a b (1 : Int32) ||| (128 : Int32)))) ∧ g10 (nt o + 2) = (i8 (i8 (f2 a b (2 : Int32) ||| (128 : Int32)))) ∧ g10 (nt o + 3) = (i8 (i8 (f2 a b (3 : Int32) ||| (128 : Int32)))) ∧ g10 (nt o + 4) = (i8 (i8 (f2 a b (4 : Int32) ||| (128 : Int32)))) ∧ g10 (nt o + 5) = (i8 (i8 (f2 a b (5 : Int32) ||| (128 : Int32)))) ∧ g10 (nt o + 6) = (i8 (i8 (f2 a b (6 : Int32) ||| (128 : Int32)))) ∧ g10 (nt o + 7) = (i8 (i8 (f2 a b (7 : Int32)))) := by
  simp +decide only [own_n0, own_n1, own_n2, own_n3, own_n4, own_n5, own_n6, own_n7, own_n8, own_n9, if_true, if_false] at h0 h1 h2 h3 h4 h5 h6 h7 h8 h9
  refine ⟨?_, ?_, ?_, ?_, ?_, ?_, ?_, ?_⟩
  all_goals simp +decide only [h9, h8, h7, h6, h5, h4, h3, h2, h1, h0, up, Nat.add_left_cancel_iff, if_true, if_false]
theorem own_g9 (a b : Int64) (o : Int32) {g0 g1 g2 g3 g4 g5 g6 g7 g8 g9 g10 : Nat → Int32} (h0 : g1 = (if (0 : Int32) < (9 : Int32) then up g0 (nt o + nt (0 : Int32)) (i8 (i8 (if (0 : Int32) < ((9 : Int32) - (1 : Int32)) then (f2 a b (0 : Int32) ||| (128 : Int32)) else (f2 a b (0 : Int32))))) else g0)) (h1 : g2 = (if (1 : Int32) < (9 : Int32) then up g1 (nt o + nt (1 : Int32)) (i8 (i8 (if (1 : Int32) < ((9 : Int32) - (1 : Int32)) then (f2 a b (1 : Int32) ||| (128 : Int32)) else (f2 a b (1 : Int32))))) else g1)) (h2 : g3 = (if (2 : Int32) < (9 : Int32) then up g2 (nt o + nt (2 : Int32)) (i8 (i8 (if (2 : Int32) < ((9 : Int32) - (1 : Int32)) then (f2 a b (2 : Int32) ||| (128 : Int32)) else (f2 a b (2 : Int32))))) else g2)) (h3 : g4 = (if (3 : Int32) < (9 : Int32) then up g3 (nt o + nt (3 : Int32)) (i8 (i8 (if (3 : Int32) < ((9 : Int32) - (1 : Int32)) then (f2 a b (3 : Int32) ||| (128 : Int32)) else (f2 a b (3 : Int32))))) else g3)) (h4 : g5 = (if (4 : Int32) < (9 : Int32) then up g4 (nt o + nt (4 : Int32)) (i8 (i8 (if (4 : Int32) < ((9 : Int32) - (1 : Int32)) then (f2 a b (4 : Int32) ||| (128 : Int32)) else (f2 a b (4 : Int32))))) else g4)) (h5 : g6 = (if (5 : Int32) < (9 : Int32) then up g5 (nt o + nt (5 : Int32)) (i8 (i8 (if (5 : Int32) < ((9 : Int32) - (1 : Int32)) then (f2 a b (5 : Int32) ||| (128 : Int32)) else (f2 a b (5 : Int32))))) else g5)) (h6 : g7 = (if (6 : Int32) < (9 : Int32) then up g6 (nt o + nt (6 : Int32)) (i8 (i8 (if (6 : Int32) < ((9 : Int32) - (1 : Int32)) then (f2 a b (6 : Int32) ||| (128 : Int32)) else (f2 a b (6 : Int32))))) else g6)) (h7 : g8 = (if (7 : Int32) < (9 : Int32) then up g7 (nt o + nt (7 : Int32)) (i8 (i8 (if (7 : Int32) < ((9 : Int32) - (1 : Int32)) then (f2 a b (7 : Int32) ||| (128 : Int32)) else (f2 a b (7 : Int32))))) else g7)) (h8 : g9 = (if (8 : Int32) < (9 : Int32) then up g8 (nt o + nt (8 : Int32)) (i8 (i8 (if (8 : Int32) < ((9 : Int32) - (1 : Int32)) then (f2 a b (8 : Int32) ||| (128 : Int32)) else (f2 a b (8 : Int32))))) else g8)) (h9 : g10 = (if (9 : Int32) < (9 : Int32) then up g9 (nt o + nt (9 : Int32)) (i8 (i8 (if (9 : Int32) < ((9 : Int32) - (1 : Int32)) then (f2 a b (9 : Int32) ||| (128 : Int32)) else (f2 a b (9 : Int32))))) else g9)) : g10 (nt o + 0) = (i8 (i8 (f2 a b (0 : Int32) ||| (128 : Int32)))) ∧ g10 (nt o + 1) = (i8 (i8 (f2 a b (1 : Int32) ||| (128 : Int32)))) ∧ g10 (nt o + 2) = (i8 (i8 (f2 a b (2 : Int32) ||| (128 : Int32)))) ∧ g10 (nt o + 3) = (i8 (i8 (f2 a b (3 : Int32) ||| (128 : Int32)))) ∧ g10 (nt o + 4) = (i8 (i8 (f2 a b (4 : Int32) ||| (128 : Int32)))) ∧ g10 (nt o + 5) = (i8 (i8 (f2 a b (5 : Int32) ||| (128 : Int32)))) ∧ g10 (nt o + 6) = (i8 (i8 (f2 a b (6 : Int32) ||| (128 : Int32)))) ∧ g10 (nt o + 7) = (i8 (i8 (f2 a b (7 : Int32) ||| (128 : Int32)))) ∧ g10 (nt o + 8) = (i8 (i8 (f2 a b (8 : Int32)))) := by
  simp +decide only [own_n0, own_n1, own_n2, own_n3, own_n4, own_n5, own_n6, own_n7, own_n8, own_n9, if_true, if_false] at h0 h1 h2 h3 h4 h5 h6 h7 h8 h9
  refine ⟨?_, ?_, ?_, ?_, ?_, ?_, ?_, ?_, ?_⟩
  all_goals simp +decide only [h9, h8, h7, h6, h5, h4, h3, h2, h1, h0, up, Nat.add_left_cancel_iff, if_true, if_false]
theorem own_g10 (a b : Int64) (o : Int32) {g0 g1 g2 g3 g4 g5 g6 g7 g8 g9 g10 : Nat → Int32} (h0 : g1 = (if (0 : Int32) < (10 : Int32) then up g0 (nt o + nt (0 : Int32)) (i8 (i8 (if (0 : Int32) < ((10 : Int32) - (1 : Int32)) then (f2 a b (0 : Int32) ||| (128 : Int32)) else (f2 a b (0 : Int32))))) else g0)) (h1 : g2 = (if (1 : Int32) < (10 : Int32) then up g1 (nt o + nt (1 : Int32)) (i8 (i8 (if (1 : Int32) < ((10 : Int32) - (1 : Int32)) then (f2 a b (1 : Int32) ||| (128 : Int32)) else (f2 a b (1 : Int32))))) else g1)) (h2 : g3 = (if (2 : Int32) < (10 : Int32) then up g2 (nt o + nt (2 : Int32)) (i8 (i8 (if (2 : Int32) < ((10 : Int32) - (1 : Int32)) then (f2 a b (2 : Int32) ||| (128 : Int32)) else (f2 a b (2 : Int32))))) else g2)) (h3 : g4 = (if (3 : Int32) < (10 : Int32) then up g3 (nt o + nt (3 : Int32)) (i8 (i8 (if (3 : Int32) < ((10 : Int32) - (1 : Int32)) then (f2 a b (3 : Int32) ||| (128 : Int32)) else (f2 a b (3 : Int32))))) else g3)) (h4 : g5 = (if (4 : Int32) < (10 : Int32) then up g4 (nt o + nt (4 : Int32)) (i8 (i8 (if (4 : Int32) < ((10 : Int32) - (1 : Int32)) then (f2 a b (4 : Int32) ||| (128 : Int32)) else (f2 a b (4 : Int32))))) else g4)) (h5 : g6 = (if (5 : Int32) < (10 : Int32) then up g5 (nt o + nt (5 : Int32)) (i8 (i8 (if (5 : Int32) < ((10 : Int32) - (1 : Int32)) then (f2 a b (5 : Int32) ||| (128 : Int32)) else (f2 a b (5 : Int32))))) else g5)) (h6 : g7 = (if (6 : Int32) < (10 : Int32) then up g6 (nt o + nt (6 : Int32)) (i8 (i8 (if (6 : Int32) < ((10 : Int32) - (1 : Int32)) then (f2 a b (6 : Int32) ||| (128 : Int32)) else (f2 a b (6 : Int32))))) else g6)) (h7 : g8 = (if (7 : Int32) < (10 : Int32) then up g7 (nt o + nt (7 : Int32)) (i8 (i8 (if (7 : Int32) < ((10 : Int32) - (1 : Int32)) then (f2 a b (7 : Int32) ||| (128 : Int32)) else (f2 a b (7 : Int32))))) else g7)) (h8 : g9 = (if (8 : Int32) < (10 : Int32) then up g8 (nt o + nt (8 : Int32)) (i8 (i8 (if (8 : Int32) < ((10 : Int32) - (1 : Int32)) then (f2 a b (8 : Int32) ||| (128 : Int32)) else (f2 a b (8 : Int32))))) else g8)) (h9 : g10 = (if (9 : Int32) < (10 : Int32) then up g9 (nt o + nt (9 : Int32)) (i8 (i8 (if (9 : Int32) < ((10 : Int32) - (1 : Int32)) then (f2 a b (9 : Int32) ||| (128 : Int32)) else (f2 a b (9 : Int32))))) else g9)) : g10 (nt o + 0) = (i8 (i8 (f2 a b (0 : Int32) ||| (128 : Int32)))) ∧ g10 (nt o + 1) = (i8 (i8 (f2 a b (1 : Int32) ||| (128 : Int32)))) ∧ g10 (nt o + 2) = (i8 (i8 (f2 a b (2 : Int32) ||| (128 : Int32)))) ∧ g10 (nt o + 3) = (i8 (i8 (f2 a b (3 : Int32) ||| (128 : Int32)))) ∧ g10 (nt o + 4) = (i8 (i8 (f2 a b (4 : Int32) ||| (128 : Int32)))) ∧ g10 (nt o + 5) = (i8 (i8 (f2 a b (5 : Int32) ||| (128 : Int32)))) ∧ g10 (nt o + 6) = (i8 (i8 (f2 a b (6 : Int32) ||| (128 : Int32)))) ∧ g10 (nt o + 7) = (i8 (i8 (f2 a b (7 : Int32) ||| (128 : Int32)))) ∧ g10 (nt o + 8) = (i8 (i8 (f2 a b (8 : Int32) ||| (128 : Int32)))) ∧ g10 (nt o + 9) = (i8 (i8 (f2 a b (9 : Int32)))) := by
  simp +decide only [own_n0, own_n1, own_n2, own_n3, own_n4, own_n5, own_n6, own_n7, own_n8, own_n9, if_true, if_false] at h0 h1 h2 h3 h4 h5 h6 h7 h8 h9
  refine ⟨?_, ?_, ?_, ?_, ?_, ?_, ?_, ?_, ?_, ?_⟩
  all_goals simp +decide only [h9, h8, h7, h6, h5, h4, h3, h2, h1, h0, up, Nat.add_left_cancel_iff, if_true, if_false]
theorem own_signs (a b : Int64) (n o : Int32) (hn : 1 ≤ n.toInt ∧ n.toInt ≤ 10) (ho : 0 ≤ o.toInt ∧ o.toInt ≤ 2) {g0 g1 g2 g3 g4 g5 g6 g7 g8 g9 g10 : Nat → Int32} (h0 : g1 = (if (0 : Int32) < n then up g0 (nt o + nt (0 : Int32)) (i8 (i8 (if (0 : Int32) < (n - (1 : Int32)) then (f2 a b (0 : Int32) ||| (128 : Int32)) else (f2 a b (0 : Int32))))) else g0)) (h1 : g2 = (if (1 : Int32) < n then up g1 (nt o + nt (1 : Int32)) (i8 (i8 (if (1 : Int32) < (n - (1 : Int32)) then (f2 a b (1 : Int32) ||| (128 : Int32)) else (f2 a b (1 : Int32))))) else g1)) (h2 : g3 = (if (2 : Int32) < n then up g2 (nt o + nt (2 : Int32)) (i8 (i8 (if (2 : Int32) < (n - (1 : Int32)) then (f2 a b (2 : Int32) ||| (128 : Int32)) else (f2 a b (2 : Int32))))) else g2)) (h3 : g4 = (if (3 : Int32) < n then up g3 (nt o + nt (3 : Int32)) (i8 (i8 (if (3 : Int32) < (n - (1 : Int32)) then (f2 a b (3 : Int32) ||| (128 : Int32)) else (f2 a b (3 : Int32))))) else g3)) (h4 : g5 = (if (4 : Int32) < n then up g4 (nt o + nt (4 : Int32)) (i8 (i8 (if (4 : Int32) < (n - (1 : Int32)) then (f2 a b (4 : Int32) ||| (128 : Int32)) else (f2 a b (4 : Int32))))) else g4)) (h5 : g6 = (if (5 : Int32) < n then up g5 (nt o + nt (5 : Int32)) (i8 (i8 (if (5 : Int32) < (n - (1 : Int32)) then (f2 a b (5 : Int32) ||| (128 : Int32)) else (f2 a b (5 : Int32))))) else g5)) (h6 : g7 = (if (6 : Int32) < n then up g6 (nt o + nt (6 : Int32)) (i8 (i8 (if (6 : Int32) < (n - (1 : Int32)) then (f2 a b (6 : Int32) ||| (128 : Int32)) else (f2 a b (6 : Int32))))) else g6)) (h7 : g8 = (if (7 : Int32) < n then up g7 (nt o + nt (7 : Int32)) (i8 (i8 (if (7 : Int32) < (n - (1 : Int32)) then (f2 a b (7 : Int32) ||| (128 : Int32)) else (f2 a b (7 : Int32))))) else g7)) (h8 : g9 = (if (8 : Int32) < n then up g8 (nt o + nt (8 : Int32)) (i8 (i8 (if (8 : Int32) < (n - (1 : Int32)) then (f2 a b (8 : Int32) ||| (128 : Int32)) else (f2 a b (8 : Int32))))) else g8)) (h9 : g10 = (if (9 : Int32) < n then up g9 (nt o + nt (9 : Int32)) (i8 (i8 (if (9 : Int32) < (n - (1 : Int32)) then (f2 a b (9 : Int32) ||| (128 : Int32)) else (f2 a b (9 : Int32))))) else g9)) : (∀ j, j < nt n - 1 → g10 (nt o + j) < 0) ∧ ¬ (g10 (nt o + (nt n - 1)) < 0) := by
  rcases own_ten n hn with rfl | rfl | rfl | rfl | rfl | rfl | rfl | rfl | rfl | rfl
  · have k0 := own_g1 a b o h0 h1 h2 h3 h4 h5 h6 h7 h8 h9
    refine ⟨fun j hj => absurd hj (by rw [own_n1]; omega), ?_⟩
    show ¬ (g10 (nt o + 0) < 0)
    rw [k0]; exact (own_plo a b _).2
  · obtain ⟨k0, k1⟩ := own_g2 a b o h0 h1 h2 h3 h4 h5 h6 h7 h8 h9
    refine ⟨fun j hj => ?_, ?_⟩
    · have hj' : j < 1 := hj
      match j, hj' with
      | 0, _ => rw [k0]; exact (own_phi a b _).2
    · show ¬ (g10 (nt o + 1) < 0)
      rw [k1]; exact (own_plo a b _).2
  · obtain ⟨k0, k1, k2⟩ := own_g3 a b o h0 h1 h2 h3 h4 h5 h6 h7 h8 h9
    refine ⟨fun j hj => ?_, ?_⟩
    · have hj' : j < 2 := hj
      match j, hj' with
      | 0, _ => rw [k0]; exact (own_phi a b _).2
      | 1, _ => rw [k1]; exact (own_phi a b _).2
    · show ¬ (g10 (nt o + 2) < 0)
      rw [k2]; exact (own_plo a b _).2
  · obtain ⟨k0, k1, k2, k3⟩ := own_g4 a b o h0 h1 h2 h3 h4 h5 h6 h7 h8 h9
    refine ⟨fun j hj => ?_, ?_⟩
    · have hj' : j < 3 := hj
      match j, hj' with
      | 0, _ => rw [k0]; exact (own_phi a b _).2
      | 1, _ => rw [k1]; exact (own_phi a b _).2
      | 2, _ => rw [k2]; exact (own_phi a b _).2
    · show ¬ (g10 (nt o + 3) < 0)
      rw [k3]; exact (own_plo a b _).2
  · obtain ⟨k0, k1, k2, k3, k4⟩ := own_g5 a b o h0 h1 h2 h3 h4 h5 h6 h7 h8 h9
    refine ⟨fun j hj => ?_, ?_⟩
    · have hj' : j < 4 := hj
      match j, hj' with
      | 0, _ => rw [k0]; exact (own_phi a b _).2
      | 1, _ => rw [k1]; exact (own_phi a b _).2
      | 2, _ => rw [k2]; exact (own_phi a b _).2
      | 3, _ => rw [k3]; exact (own_phi a b _).2
    · show ¬ (g10 (nt o + 4) < 0)
      rw [k4]; exact (own_plo a b _).2
  · obtain ⟨k0, k1, k2, k3, k4, k5⟩ := own_g6 a b o h0 h1 h2 h3 h4 h5 h6 h7 h8 h9
    refine ⟨fun j hj => ?_, ?_⟩
    · have hj' : j < 5 := hj
      match j, hj' with
      | 0, _ => rw [k0]; exact (own_phi a b _).2
      | 1, _ => rw [k1]; exact (own_phi a b _).2
      | 2, _ => rw [k2]; exact (own_phi a b _).2
      | 3, _ => rw [k3]; exact (own_phi a b _).2
      | 4, _ => rw [k4]; exact (own_phi a b _).2
    · show ¬ (g10 (nt o + 5) < 0)
      rw [k5]; exact (own_plo a b _).2
  · obtain ⟨k0, k1, k2, k3, k4, k5, k6⟩ := own_g7 a b o h0 h1 h2 h3 h4 h5 h6 h7 h8 h9
    refine ⟨fun j hj => ?_, ?_⟩
    · have hj' : j < 6 := hj
      match j, hj' with
      | 0, _ => rw [k0]; exact (own_phi a b _).2
      | 1, _ => rw [k1]; exact (own_phi a b _).2
      | 2, _ => rw [k2]; exact (own_phi a b _).2
      | 3, _ => rw [k3]; exact (own_phi a b _).2
      | 4, _ => rw [k4]; exact (own_phi a b _).2
      | 5, _ => rw [k5]; exact (own_phi a b _).2
    · show ¬ (g10 (nt o + 6) < 0)
      rw [k6]; exact (own_plo a b _).2
  · obtain ⟨k0, k1, k2, k3, k4, k5, k6, k7⟩ := own_g8 a b o h0 h1 h2 h3 h4 h5 h6 h7 h8 h9
    refine ⟨fun j hj => ?_, ?_⟩
    · have hj' : j < 7 := hj
      match j, hj' with
      | 0, _ => rw [k0]; exact (own_phi a b _).2
      | 1, _ => rw [k1]; exact (own_phi a b _).2
      | 2, _ => rw [k2]; exact (own_phi a b _).2
      | 3, _ => rw [k3]; exact (own_phi a b _).2
      | 4, _ => rw [k4]; exact (own_phi a b _).2
      | 5, _ => rw [k5]; exact (own_phi a b _).2
      | 6, _ => rw [k6]; exact (own_phi a b _).2
    · show ¬ (g10 (nt o + 7) < 0)
      rw [k7]; exact (own_plo a b _).2
  · obtain ⟨k0, k1, k2, k3, k4, k5, k6, k7, k8⟩ := own_g9 a b o h0 h1 h2 h3 h4 h5 h6 h7 h8 h9
    refine ⟨fun j hj => ?_, ?_⟩
    · have hj' : j < 8 := hj
      match j, hj' with
      | 0, _ => rw [k0]; exact (own_phi a b _).2
      | 1, _ => rw [k1]; exact (own_phi a b _).2
      | 2, _ => rw [k2]; exact (own_phi a b _).2
      | 3, _ => rw [k3]; exact (own_phi a b _).2
      | 4, _ => rw [k4]; exact (own_phi a b _).2
      | 5, _ => rw [k5]; exact (own_phi a b _).2
      | 6, _ => rw [k6]; exact (own_phi a b _).2
      | 7, _ => rw [k7]; exact (own_phi a b _).2
    · show ¬ (g10 (nt o + 8) < 0)
      rw [k8]; exact (own_plo a b _).2
  · obtain ⟨k0, k1, k2, k3, k4, k5, k6, k7, k8, k9⟩ := own_g10 a b o h0 h1 h2 h3 h4 h5 h6 h7 h8 h9
    refine ⟨fun j hj => ?_, ?_⟩
    · have hj' : j < 9 := hj
      match j, hj' with
      | 0, _ => rw [k0]; exact (own_phi a b _).2
      | 1, _ => rw [k1]; exact (own_phi a b _).2
      | 2, _ => rw [k2]; exact (own_phi a b _).2
      | 3, _ => rw [k3]; exact (own_phi a b _).2
      | 4, _ => rw [k4]; exact (own_phi a b _).2
      | 5, _ => rw [k5]; exact (own_phi a b _).2
      | 6, _ => rw [k6]; exact (own_phi a b _).2
      | 7, _ => rw [k7]; exact (own_phi a b _).2
      | 8, _ => rw [k8]; exact (own_phi a b _).2
    · show ¬ (g10 (nt o + 9) < 0)
      rw [k9]; exact (own_plo a b _).2
set_option maxRecDepth 65536 in
set_option maxHeartbeats 4000000 in
theorem own_fin (a b : Int64) (n o : Int32) (hn : 1 ≤ n.toInt ∧ n.toInt ≤ 10) (ho : 0 ≤ o.toInt ∧ o.toInt ≤ 2) {g0 g1 g2 g3 g4 g5 g6 g7 g8 g9 g10 : Nat → Int32} (h0 : g1 = (if (0 : Int32) < n then up g0 (nt o + nt (0 : Int32)) (i8 (i8 (if (0 : Int32) < (n - (1 : Int32)) then (f2 a b (0 : Int32) ||| (128 : Int32)) else (f2 a b (0 : Int32))))) else g0)) (h1 : g2 = (if (1 : Int32) < n then up g1 (nt o + nt (1 : Int32)) (i8 (i8 (if (1 : Int32) < (n - (1 : Int32)) then (f2 a b (1 : Int32) ||| (128 : Int32)) else (f2 a b (1 : Int32))))) else g1)) (h2 : g3 = (if (2 : Int32) < n then up g2 (nt o + nt (2 : Int32)) (i8 (i8 (if (2 : Int32) < (n - (1 : Int32)) then (f2 a b (2 : Int32) ||| (128 : Int32)) else (f2 a b (2 : Int32))))) else g2)) (h3 : g4 = (if (3 : Int32) < n then up g3 (nt o + nt (3 : Int32)) (i8 (i8 (if (3 : Int32) < (n - (1 : Int32)) then (f2 a b (3 : Int32) ||| (128 : Int32)) else (f2 a b (3 : Int32))))) else g3)) (h4 : g5 = (if (4 : Int32) < n then up g4 (nt o + nt (4 : Int32)) (i8 (i8 (if (4 : Int32) < (n - (1 : Int32)) then (f2 a b (4 : Int32) ||| (128 : Int32)) else (f2 a b (4 : Int32))))) else g4)) (h5 : g6 = (if (5 : Int32) < n then up g5 (nt o + nt (5 : Int32)) (i8 (i8 (if (5 : Int32) < (n - (1 : Int32)) then (f2 a b (5 : Int32) ||| (128 : Int32)) else (f2 a b (5 : Int32))))) else g5)) (h6 : g7 = (if (6 : Int32) < n then up g6 (nt o + nt (6 : Int32)) (i8 (i8 (if (6 : Int32) < (n - (1 : Int32)) then (f2 a b (6 : Int32) ||| (128 : Int32)) else (f2 a b (6 : Int32))))) else g6)) (h7 : g8 = (if (7 : Int32) < n then up g7 (nt o + nt (7 : Int32)) (i8 (i8 (if (7 : Int32) < (n - (1 : Int32)) then (f2 a b (7 : Int32) ||| (128 : Int32)) else (f2 a b (7 : Int32))))) else g7)) (h8 : g9 = (if (8 : Int32) < n then up g8 (nt o + nt (8 : Int32)) (i8 (i8 (if (8 : Int32) < (n - (1 : Int32)) then (f2 a b (8 : Int32) ||| (128 : Int32)) else (f2 a b (8 : Int32))))) else g8)) (h9 : g10 = (if (9 : Int32) < n then up g9 (nt o + nt (9 : Int32)) (i8 (i8 (if (9 : Int32) < (n - (1 : Int32)) then (f2 a b (9 : Int32) ||| (128 : Int32)) else (f2 a b (9 : Int32))))) else g9)) : own_vf g10 (nt n - 1) 0 0 (nt o) = ((((((((((f3 a b (0 : Int32) n) ||| (f3 a b (1 : Int32) n)) ||| (f3 a b (2 : Int32) n)) ||| (f3 a b (3 : Int32) n)) ||| (f3 a b (4 : Int32) n)) ||| (f3 a b (5 : Int32) n)) ||| (f3 a b (6 : Int32) n)) ||| (f3 a b (7 : Int32) n)) ||| (f3 a b (8 : Int32) n)) ||| (f3 a b (9 : Int32) n)) := by
  rcases own_ten n hn with rfl | rfl | rfl | rfl | rfl | rfl | rfl | rfl | rfl | rfl
  · have k0 := own_g1 a b o h0 h1 h2 h3 h4 h5 h6 h7 h8 h9
    show own_vf g10 0 0 0 (nt o) = _
    simp only [own_vf, Nat.add_assoc, Nat.reduceAdd]
    rw [show g10 (nt o) = g10 (nt o + 0) from rfl]
    simp only [k0, (own_plo a b (0 : Int32)).1]
    simp +decide only [f3, if_true, if_false]
    simp only [Int64.or_zero, Int64.zero_or]
    rfl
  · obtain ⟨k0, k1⟩ := own_g2 a b o h0 h1 h2 h3 h4 h5 h6 h7 h8 h9
    show own_vf g10 1 0 0 (nt o) = _
    simp only [own_vf, Nat.add_assoc, Nat.reduceAdd]
    rw [show g10 (nt o) = g10 (nt o + 0) from rfl]
    simp only [k0, k1, (own_phi a b (0 : Int32)).1, (own_plo a b (1 : Int32)).1]
    simp +decide only [f3, if_true, if_false]
    simp only [Int64.or_zero, Int64.zero_or]
    rfl
  · obtain ⟨k0, k1, k2⟩ := own_g3 a b o h0 h1 h2 h3 h4 h5 h6 h7 h8 h9
    show own_vf g10 2 0 0 (nt o) = _
    simp only [own_vf, Nat.add_assoc, Nat.reduceAdd]
    rw [show g10 (nt o) = g10 (nt o + 0) from rfl]
    simp only [k0, k1, k2, (own_phi a b (0 : Int32)).1, (own_phi a b (1 : Int32)).1, (own_plo a b (2 : Int32)).1]
    simp +decide only [f3, if_true, if_false]
    simp only [Int64.or_zero, Int64.zero_or]
    rfl
  · obtain ⟨k0, k1, k2, k3⟩ := own_g4 a b o h0 h1 h2 h3 h4 h5 h6 h7 h8 h9
    show own_vf g10 3 0 0 (nt o) = _
    simp only [own_vf, Nat.add_assoc, Nat.reduceAdd]
    rw [show g10 (nt o) = g10 (nt o + 0) from rfl]
    simp only [k0, k1, k2, k3, (own_phi a b (0 : Int32)).1, (own_phi a b (1 : Int32)).1, (own_phi a b (2 : Int32)).1, (own_plo a b (3 : Int32)).1]
    simp +decide only [f3, if_true, if_false]
    simp only [Int64.or_zero, Int64.zero_or]
    rfl
  · obtain ⟨k0, k1, k2, k3, k4⟩ := own_g5 a b o h0 h1 h2 h3 h4 h5 h6 h7 h8 h9
    show own_vf g10 4 0 0 (nt o) = _
    simp only [own_vf, Nat.add_assoc, Nat.reduceAdd]
    rw [show g10 (nt o) = g10 (nt o + 0) from rfl]
    simp only [k0, k1, k2, k3, k4, (own_phi a b (0 : Int32)).1, (own_phi a b (1 : Int32)).1, (own_phi a b (2 : Int32)).1, (own_phi a b (3 : Int32)).1, (own_plo a b (4 : Int32)).1]
    simp +decide only [f3, if_true, if_false]
    simp only [Int64.or_zero, Int64.zero_or]
    rfl
  · obtain ⟨k0, k1, k2, k3, k4, k5⟩ := own_g6 a b o h0 h1 h2 h3 h4 h5 h6 h7 h8 h9
    show own_vf g10 5 0 0 (nt o) = _
    simp only [own_vf, Nat.add_assoc, Nat.reduceAdd]
    rw [show g10 (nt o) = g10 (nt o + 0) from rfl]
    simp only [k0, k1, k2, k3, k4, k5, (own_phi a b (0 : Int32)).1, (own_phi a b (1 : Int32)).1, (own_phi a b (2 : Int32)).1, (own_phi a b (3 : Int32)).1, (own_phi a b (4 : Int32)).1, (own_plo a b (5 : Int32)).1]
    simp +decide only [f3, if_true, if_false]
    simp only [Int64.or_zero, Int64.zero_or]
    rfl
  · obtain ⟨k0, k1, k2, k3, k4, k5, k6⟩ := own_g7 a b o h0 h1 h2 h3 h4 h5 h6 h7 h8 h9
    show own_vf g10 6 0 0 (nt o) = _
    simp only [own_vf, Nat.add_assoc, Nat.reduceAdd]
    rw [show g10 (nt o) = g10 (nt o + 0) from rfl]
    simp only [k0, k1, k2, k3, k4, k5, k6, (own_phi a b (0 : Int32)).1, (own_phi a b (1 : Int32)).1, (own_phi a b (2 : Int32)).1, (own_phi a b (3 : Int32)).1, (own_phi a b (4 : Int32)).1, (own_phi a b (5 : Int32)).1, (own_plo a b (6 : Int32)).1]
    simp +decide only [f3, if_true, if_false]
    simp only [Int64.or_zero, Int64.zero_or]
    rfl
  · obtain ⟨k0, k1, k2, k3, k4, k5, k6, k7⟩ := own_g8 a b o h0 h1 h2 h3 h4 h5 h6 h7 h8 h9
    show own_vf g10 7 0 0 (nt o) = _
    simp only [own_vf, Nat.add_assoc, Nat.reduceAdd]
    rw [show g10 (nt o) = g10 (nt o + 0) from rfl]
    simp only [k0, k1, k2, k3, k4, k5, k6, k7, (own_phi a b (0 : Int32)).1, (own_phi a b (1 : Int32)).1, (own_phi a b (2 : Int32)).1, (own_phi a b (3 : Int32)).1, (own_phi a b (4 : Int32)).1, (own_phi a b (5 : Int32)).1, (own_phi a b (6 : Int32)).1, (own_plo a b (7 : Int32)).1]
    simp +decide only [f3, if_true, if_false]
    simp only [Int64.or_zero, Int64.zero_or]
    rfl
  · obtain ⟨k0, k1, k2, k3, k4, k5, k6, k7, k8⟩ := own_g9 a b o h0 h1 h2 h3 h4 h5 h6 h7 h8 h9
    show own_vf g10 8 0 0 (nt o) = _
    simp only [own_vf, Nat.add_assoc, Nat.reduceAdd]
    rw [show g10 (nt o) = g10 (nt o + 0) from rfl]
    simp only [k0, k1, k2, k3, k4, k5, k6, k7, k8, (own_phi a b (0 : Int32)).1, (own_phi a b (1 : Int32)).1, (own_phi a b (2 : Int32)).1, (own_phi a b (3 : Int32)).1, (own_phi a b (4 : Int32)).1, (own_phi a b (5 : Int32)).1, (own_phi a b (6 : Int32)).1, (own_phi a b (7 : Int32)).1, (own_plo a b (8 : Int32)).1]
    simp +decide only [f3, if_true, if_false]
    simp only [Int64.or_zero, Int64.zero_or]
    rfl
  · obtain ⟨k0, k1, k2, k3, k4, k5, k6, k7, k8, k9⟩ := own_g10 a b o h0 h1 h2 h3 h4 h5 h6 h7 h8 h9
    show own_vf g10 9 0 0 (nt o) = _
    simp only [own_vf, Nat.add_assoc, Nat.reduceAdd]
    rw [show g10 (nt o) = g10 (nt o + 0) from rfl]
    simp only [k0, k1, k2, k3, k4, k5, k6, k7, k8, k9, (own_phi a b (0 : Int32)).1, (own_phi a b (1 : Int32)).1, (own_phi a b (2 : Int32)).1, (own_phi a b (3 : Int32)).1, (own_phi a b (4 : Int32)).1, (own_phi a b (5 : Int32)).1, (own_phi a b (6 : Int32)).1, (own_phi a b (7 : Int32)).1, (own_phi a b (8 : Int32)).1, (own_plo a b (9 : Int32)).1]
    simp +decide only [f3, if_true, if_false]
    simp only [Int64.or_zero, Int64.zero_or]
    rfl
theorem own_atn (n o : Int32) (hn : 1 ≤ n.toInt ∧ n.toInt ≤ 10) : own_at (nt n - 1) o = o + n := by
  rcases own_ten n hn with rfl | rfl | rfl | rfl | rfl | rfl | rfl | rfl | rfl | rfl
  · show own_at 0 o = _
    simp only [own_at, Int32.add_assoc] <;> rfl
  · show own_at 1 o = _
    simp only [own_at, Int32.add_assoc] <;> rfl
  · show own_at 2 o = _
    simp only [own_at, Int32.add_assoc] <;> rfl
  · show own_at 3 o = _
    simp only [own_at, Int32.add_assoc] <;> rfl
  · show own_at 4 o = _
    simp only [own_at, Int32.add_assoc] <;> rfl
  · show own_at 5 o = _
    simp only [own_at, Int32.add_assoc] <;> rfl
  · show own_at 6 o = _
    simp only [own_at, Int32.add_assoc] <;> rfl
  · show own_at 7 o = _
    simp only [own_at, Int32.add_assoc] <;> rfl
  · show own_at 8 o = _
    simp only [own_at, Int32.add_assoc] <;> rfl
  · show own_at 9 o = _
    simp only [own_at, Int32.add_assoc] <;> rfl
set_option maxRecDepth 65536 in
set_option maxHeartbeats 40000000 in
theorem law_walk {p : Program} {l : Launch} {e : Env} {s : State} {m : MethodId} {args : Array Value} {below : List Frame} {meth : Method} {c : Code} {T : State} {h : Heap} {n0 : Nat} {Z : State} {a0 : Array Value} (X : Hr p l e room_1 s m args below meth c n0 h 0 0 T) (C : Cx p s m meth c code maxLocals ret "com/example/pondera/pondera/io/ReaderVarintPinLaw" "law" Z a0 tables_1) (x0 : Int64) (x1 : Int64) (x2 : Int64) (x3 : Int32) (x4 : Int32) : Goes p e below s n0 (fun v _ => v = some (.int 1)) room_1.cells room_1.slots T (mkF m 0 #[.val (.long x0), .second, .val (.long x1), .second, .val (.long x2), .second, .val (.int x3), .val (.int x4), .unset, .unset, .unset, .unset, .unset, .unset, .unset, .unset] []) := by
  refine w_iconst (pc := 0) X C at_0 (1 : Int32) rfl ?_
  refine w_iload (pc := 1) X C at_1 rfl ?_
  refine w_ldcI (pc := 3) X C at_3 (v := (2147483647 : Int32)) (List.mem_of_getElem? (i := 0) rfl) ?_
  refine w_iand (pc := 5) X C at_5 ?_
  refine w_bipush (pc := 6) X C at_6 (10 : Int32) rfl ?_
  refine w_irem (pc := 8) X C at_8 (by decide) ?_
  refine w_iadd (pc := 9) X C at_9 ?_
  obtain ⟨n, e_n⟩ : ∃ z, z = ((1 : Int32) + ((x3 &&& (2147483647 : Int32)) % (10 : Int32))) := ⟨_, rfl⟩
  rw [← e_n]
  have hn : 1 ≤ n.toInt ∧ n.toInt ≤ 10 := by rw [e_n]; exact own_m10 _
  refine w_istore (pc := 10) X C at_10 #[.val (.long x0), .second, .val (.long x1), .second, .val (.long x2), .second, .val (.int x3), .val (.int x4), .val (.int n), .unset, .unset, .unset, .unset, .unset, .unset, .unset] rfl ?_
  refine w_iload (pc := 12) X C at_12 rfl ?_
  refine w_ldcI (pc := 14) X C at_14 (v := (2147483647 : Int32)) (List.mem_of_getElem? (i := 0) rfl) ?_
  refine w_iand (pc := 16) X C at_16 ?_
  refine w_iconst (pc := 17) X C at_17 (3 : Int32) rfl ?_
  refine w_irem (pc := 18) X C at_18 (by decide) ?_
  obtain ⟨o, e_o⟩ : ∃ z, z = ((x4 &&& (2147483647 : Int32)) % (3 : Int32)) := ⟨_, rfl⟩
  rw [← e_o]
  have ho : 0 ≤ o.toInt ∧ o.toInt ≤ 2 := by rw [e_o]; exact own_m3 _
  refine w_istore (pc := 19) X C at_19 #[.val (.long x0), .second, .val (.long x1), .second, .val (.long x2), .second, .val (.int x3), .val (.int x4), .val (.int n), .val (.int o), .unset, .unset, .unset, .unset, .unset, .unset] rfl ?_
  refine w_bipush (pc := 21) X C at_21 (12 : Int32) rfl ?_
  refine w_new_byte (pc := 23) X C at_23 (List.mem_of_getElem? (i := 1) rfl) 12 rfl 12 (by decide) (by decide) (by decide) (by decide) (fun T1 h1 a1 ha1 hb1 X1 E1 A1 => ?_)
  refine w_astore (pc := 25) X1 C at_25 #[.val (.long x0), .second, .val (.long x1), .second, .val (.long x2), .second, .val (.int x3), .val (.int x4), .val (.int n), .val (.int o), .val (.ref a1), .unset, .unset, .unset, .unset, .unset] rfl rfl ?_
  refine w_aload (pc := 27) X1 C at_27 rfl rfl ?_
  refine w_iconst (pc := 29) X1 C at_29 (0 : Int32) rfl ?_
  refine w_lload (pc := 30) X1 C at_30 rfl ?_
  refine w_l2i (pc := 32) X1 C at_32 ?_
  refine w_i2b (pc := 33) X1 C at_33 ?_
  refine w_bastore (pc := 34) X1 C at_34 A1 0 rfl (by decide) hb1 (fun T2 h2 X2 W2 A2 => ?_)
  obtain ⟨g2, hg2⟩ : ∃ z, z = up (fun _ => 0) 0 (i8 (i8 (x2).toInt32)) := ⟨_, rfl⟩
  rw [← hg2] at A2
  refine w_aload (pc := 35) X2 C at_35 rfl rfl ?_
  refine w_iconst (pc := 37) X2 C at_37 (1 : Int32) rfl ?_
  refine w_lload (pc := 38) X2 C at_38 rfl ?_
  refine w_bipush (pc := 40) X2 C at_40 (8 : Int32) rfl ?_
  refine w_lushr (pc := 42) X2 C at_42 ?_
  refine w_l2i (pc := 43) X2 C at_43 ?_
  refine w_i2b (pc := 44) X2 C at_44 ?_
  refine w_bastore (pc := 45) X2 C at_45 A2 1 rfl (by decide) hb1 (fun T3 h3 X3 W3 A3 => ?_)
  obtain ⟨g3, hg3⟩ : ∃ z, z = up g2 1 (i8 (i8 ((ushrJ x2 (8 : Int32))).toInt32)) := ⟨_, rfl⟩
  rw [← hg3] at A3
  refine w_aload (pc := 46) X3 C at_46 rfl rfl ?_
  refine w_iconst (pc := 48) X3 C at_48 (2 : Int32) rfl ?_
  refine w_lload (pc := 49) X3 C at_49 rfl ?_
  refine w_bipush (pc := 51) X3 C at_51 (16 : Int32) rfl ?_
  refine w_lushr (pc := 53) X3 C at_53 ?_
  refine w_l2i (pc := 54) X3 C at_54 ?_
  refine w_i2b (pc := 55) X3 C at_55 ?_
  refine w_bastore (pc := 56) X3 C at_56 A3 2 rfl (by decide) hb1 (fun T4 h4 X4 W4 A4 => ?_)
  obtain ⟨g4, hg4⟩ : ∃ z, z = up g3 2 (i8 (i8 ((ushrJ x2 (16 : Int32))).toInt32)) := ⟨_, rfl⟩
  rw [← hg4] at A4
  refine w_aload (pc := 57) X4 C at_57 rfl rfl ?_
  refine w_iconst (pc := 59) X4 C at_59 (3 : Int32) rfl ?_
  refine w_lload (pc := 60) X4 C at_60 rfl ?_
  refine w_bipush (pc := 62) X4 C at_62 (24 : Int32) rfl ?_
  refine w_lushr (pc := 64) X4 C at_64 ?_
  refine w_l2i (pc := 65) X4 C at_65 ?_
  refine w_i2b (pc := 66) X4 C at_66 ?_
  refine w_bastore (pc := 67) X4 C at_67 A4 3 rfl (by decide) hb1 (fun T5 h5 X5 W5 A5 => ?_)
  obtain ⟨g5, hg5⟩ : ∃ z, z = up g4 3 (i8 (i8 ((ushrJ x2 (24 : Int32))).toInt32)) := ⟨_, rfl⟩
  rw [← hg5] at A5
  refine w_aload (pc := 68) X5 C at_68 rfl rfl ?_
  refine w_iconst (pc := 70) X5 C at_70 (4 : Int32) rfl ?_
  refine w_lload (pc := 71) X5 C at_71 rfl ?_
  refine w_bipush (pc := 73) X5 C at_73 (32 : Int32) rfl ?_
  refine w_lushr (pc := 75) X5 C at_75 ?_
  refine w_l2i (pc := 76) X5 C at_76 ?_
  refine w_i2b (pc := 77) X5 C at_77 ?_
  refine w_bastore (pc := 78) X5 C at_78 A5 4 rfl (by decide) hb1 (fun T6 h6 X6 W6 A6 => ?_)
  obtain ⟨g6, hg6⟩ : ∃ z, z = up g5 4 (i8 (i8 ((ushrJ x2 (32 : Int32))).toInt32)) := ⟨_, rfl⟩
  rw [← hg6] at A6
  refine w_aload (pc := 79) X6 C at_79 rfl rfl ?_
  refine w_iconst (pc := 81) X6 C at_81 (5 : Int32) rfl ?_
  refine w_lload (pc := 82) X6 C at_82 rfl ?_
  refine w_bipush (pc := 84) X6 C at_84 (40 : Int32) rfl ?_
  refine w_lushr (pc := 86) X6 C at_86 ?_
  refine w_l2i (pc := 87) X6 C at_87 ?_
  refine w_i2b (pc := 88) X6 C at_88 ?_
  refine w_bastore (pc := 89) X6 C at_89 A6 5 rfl (by decide) hb1 (fun T7 h7 X7 W7 A7 => ?_)
  obtain ⟨g7, hg7⟩ : ∃ z, z = up g6 5 (i8 (i8 ((ushrJ x2 (40 : Int32))).toInt32)) := ⟨_, rfl⟩
  rw [← hg7] at A7
  refine w_aload (pc := 90) X7 C at_90 rfl rfl ?_
  refine w_bipush (pc := 92) X7 C at_92 (6 : Int32) rfl ?_
  refine w_lload (pc := 94) X7 C at_94 rfl ?_
  refine w_bipush (pc := 96) X7 C at_96 (48 : Int32) rfl ?_
  refine w_lushr (pc := 98) X7 C at_98 ?_
  refine w_l2i (pc := 99) X7 C at_99 ?_
  refine w_i2b (pc := 100) X7 C at_100 ?_
  refine w_bastore (pc := 101) X7 C at_101 A7 6 rfl (by decide) hb1 (fun T8 h8 X8 W8 A8 => ?_)
  obtain ⟨g8, hg8⟩ : ∃ z, z = up g7 6 (i8 (i8 ((ushrJ x2 (48 : Int32))).toInt32)) := ⟨_, rfl⟩
  rw [← hg8] at A8
  refine w_aload (pc := 102) X8 C at_102 rfl rfl ?_
  refine w_bipush (pc := 104) X8 C at_104 (7 : Int32) rfl ?_
  refine w_lload (pc := 106) X8 C at_106 rfl ?_
  refine w_bipush (pc := 108) X8 C at_108 (56 : Int32) rfl ?_
  refine w_lushr (pc := 110) X8 C at_110 ?_
  refine w_l2i (pc := 111) X8 C at_111 ?_
  refine w_i2b (pc := 112) X8 C at_112 ?_
  refine w_bastore (pc := 113) X8 C at_113 A8 7 rfl (by decide) hb1 (fun T9 h9 X9 W9 A9 => ?_)
  obtain ⟨g9, hg9⟩ : ∃ z, z = up g8 7 (i8 (i8 ((ushrJ x2 (56 : Int32))).toInt32)) := ⟨_, rfl⟩
  rw [← hg9] at A9
  refine w_aload (pc := 114) X9 C at_114 rfl rfl ?_
  refine w_bipush (pc := 116) X9 C at_116 (8 : Int32) rfl ?_
  refine w_lload (pc := 118) X9 C at_118 rfl ?_
  refine w_iconst (pc := 120) X9 C at_120 (4 : Int32) rfl ?_
  refine w_lushr (pc := 121) X9 C at_121 ?_
  refine w_l2i (pc := 122) X9 C at_122 ?_
  refine w_i2b (pc := 123) X9 C at_123 ?_
  refine w_bastore (pc := 124) X9 C at_124 A9 8 rfl (by decide) hb1 (fun T10 h10 X10 W10 A10 => ?_)
  obtain ⟨g10, hg10⟩ : ∃ z, z = up g9 8 (i8 (i8 ((ushrJ x2 (4 : Int32))).toInt32)) := ⟨_, rfl⟩
  rw [← hg10] at A10
  refine w_aload (pc := 125) X10 C at_125 rfl rfl ?_
  refine w_bipush (pc := 127) X10 C at_127 (9 : Int32) rfl ?_
  refine w_lload (pc := 129) X10 C at_129 rfl ?_
  refine w_bipush (pc := 131) X10 C at_131 (12 : Int32) rfl ?_
  refine w_lushr (pc := 133) X10 C at_133 ?_
  refine w_l2i (pc := 134) X10 C at_134 ?_
  refine w_i2b (pc := 135) X10 C at_135 ?_
  refine w_bastore (pc := 136) X10 C at_136 A10 9 rfl (by decide) hb1 (fun T11 h11 X11 W11 A11 => ?_)
  obtain ⟨g11, hg11⟩ : ∃ z, z = up g10 9 (i8 (i8 ((ushrJ x2 (12 : Int32))).toInt32)) := ⟨_, rfl⟩
  rw [← hg11] at A11
  refine w_aload (pc := 137) X11 C at_137 rfl rfl ?_
  refine w_bipush (pc := 139) X11 C at_139 (10 : Int32) rfl ?_
  refine w_lload (pc := 141) X11 C at_141 rfl ?_
  refine w_bipush (pc := 143) X11 C at_143 (20 : Int32) rfl ?_
  refine w_lushr (pc := 145) X11 C at_145 ?_
  refine w_l2i (pc := 146) X11 C at_146 ?_
  refine w_i2b (pc := 147) X11 C at_147 ?_
  refine w_bastore (pc := 148) X11 C at_148 A11 10 rfl (by decide) hb1 (fun T12 h12 X12 W12 A12 => ?_)
  obtain ⟨g12, hg12⟩ : ∃ z, z = up g11 10 (i8 (i8 ((ushrJ x2 (20 : Int32))).toInt32)) := ⟨_, rfl⟩
  rw [← hg12] at A12
  refine w_aload (pc := 149) X12 C at_149 rfl rfl ?_
  refine w_bipush (pc := 151) X12 C at_151 (11 : Int32) rfl ?_
  refine w_lload (pc := 153) X12 C at_153 rfl ?_
  refine w_bipush (pc := 155) X12 C at_155 (28 : Int32) rfl ?_
  refine w_lushr (pc := 157) X12 C at_157 ?_
  refine w_l2i (pc := 158) X12 C at_158 ?_
  refine w_i2b (pc := 159) X12 C at_159 ?_
  refine w_bastore (pc := 160) X12 C at_160 A12 11 rfl (by decide) hb1 (fun T13 h13 X13 W13 A13 => ?_)
  obtain ⟨g13, hg13⟩ : ∃ z, z = up g12 11 (i8 (i8 ((ushrJ x2 (28 : Int32))).toInt32)) := ⟨_, rfl⟩
  rw [← hg13] at A13
  refine w_aload (pc := 161) X13 C at_161 rfl rfl ?_
  refine w_iload (pc := 163) X13 C at_163 rfl ?_
  refine w_iconst (pc := 165) X13 C at_165 (0 : Int32) rfl ?_
  refine w_iload (pc := 166) X13 C at_166 rfl ?_
  refine w_lloadN (pc := 168) X13 C at_168 rfl ?_
  refine w_lloadN (pc := 169) X13 C at_169 rfl ?_
  refine w_callS (pc := 170) X13 C (y := (⟨"com/example/pondera/pondera/io/ReaderVarintPinLaw", "place", "([BIIIJJ)V"⟩ : MethodName)) (bytes := method_3_code) (maxL := 9) (rt := none) (argsL := [(.ref a1), (.int o), (.int (0 : Int32)), (.int n), (.long x0), (.long x1)]) (rest := []) (W := 0) at_170 (List.mem_of_getElem? (i := 2) rfl) (List.mem_of_getElem? (i := 3) rfl) (List.mem_of_getElem? (i := 4) rfl) (List.mem_of_getElem? (i := 5) rfl) (by decide) (ct1 l C.2.2.2.2.2.2.2.2 _ X13.size (a1) (o) ((0 : Int32)) (n) (x0) (x1) g13 A13 ho (by decide) hb1) rfl ⟨_, _, pd_1, rfl⟩ rfl (Nat.le_of_eq rfl) (by decide) (by decide) (by decide) (by decide) (fun v14 T14 P14 X14 => ?_)
  obtain ⟨rfl, K14, A14⟩ := P14
  obtain ⟨g14, hg14⟩ : ∃ z, z = (if (0 : Int32) < n then up g13 (nt o + nt (0 : Int32)) (i8 (i8 (if (0 : Int32) < (n - (1 : Int32)) then (f2 x0 x1 (0 : Int32) ||| (128 : Int32)) else (f2 x0 x1 (0 : Int32))))) else g13) := ⟨_, rfl⟩
  rw [← hg14] at A14
  refine w_aload (pc := 173) X14 C at_173 rfl rfl ?_
  refine w_iload (pc := 175) X14 C at_175 rfl ?_
  refine w_iconst (pc := 177) X14 C at_177 (1 : Int32) rfl ?_
  refine w_iload (pc := 178) X14 C at_178 rfl ?_
  refine w_lloadN (pc := 180) X14 C at_180 rfl ?_
  refine w_lloadN (pc := 181) X14 C at_181 rfl ?_
  refine w_callS (pc := 182) X14 C (y := (⟨"com/example/pondera/pondera/io/ReaderVarintPinLaw", "place", "([BIIIJJ)V"⟩ : MethodName)) (bytes := method_3_code) (maxL := 9) (rt := none) (argsL := [(.ref a1), (.int o), (.int (1 : Int32)), (.int n), (.long x0), (.long x1)]) (rest := []) (W := 0) at_182 (List.mem_of_getElem? (i := 2) rfl) (List.mem_of_getElem? (i := 3) rfl) (List.mem_of_getElem? (i := 4) rfl) (List.mem_of_getElem? (i := 5) rfl) (by decide) (ct1 l C.2.2.2.2.2.2.2.2 _ X14.size (a1) (o) ((1 : Int32)) (n) (x0) (x1) g14 A14 ho (by decide) hb1) rfl ⟨_, _, pd_1, rfl⟩ rfl (Nat.le_of_eq rfl) (by decide) (by decide) (by decide) (by decide) (fun v15 T15 P15 X15 => ?_)
  obtain ⟨rfl, K15, A15⟩ := P15
  obtain ⟨g15, hg15⟩ : ∃ z, z = (if (1 : Int32) < n then up g14 (nt o + nt (1 : Int32)) (i8 (i8 (if (1 : Int32) < (n - (1 : Int32)) then (f2 x0 x1 (1 : Int32) ||| (128 : Int32)) else (f2 x0 x1 (1 : Int32))))) else g14) := ⟨_, rfl⟩
  rw [← hg15] at A15
  refine w_aload (pc := 185) X15 C at_185 rfl rfl ?_
  refine w_iload (pc := 187) X15 C at_187 rfl ?_
  refine w_iconst (pc := 189) X15 C at_189 (2 : Int32) rfl ?_
  refine w_iload (pc := 190) X15 C at_190 rfl ?_
  refine w_lloadN (pc := 192) X15 C at_192 rfl ?_
  refine w_lloadN (pc := 193) X15 C at_193 rfl ?_
  refine w_callS (pc := 194) X15 C (y := (⟨"com/example/pondera/pondera/io/ReaderVarintPinLaw", "place", "([BIIIJJ)V"⟩ : MethodName)) (bytes := method_3_code) (maxL := 9) (rt := none) (argsL := [(.ref a1), (.int o), (.int (2 : Int32)), (.int n), (.long x0), (.long x1)]) (rest := []) (W := 0) at_194 (List.mem_of_getElem? (i := 2) rfl) (List.mem_of_getElem? (i := 3) rfl) (List.mem_of_getElem? (i := 4) rfl) (List.mem_of_getElem? (i := 5) rfl) (by decide) (ct1 l C.2.2.2.2.2.2.2.2 _ X15.size (a1) (o) ((2 : Int32)) (n) (x0) (x1) g15 A15 ho (by decide) hb1) rfl ⟨_, _, pd_1, rfl⟩ rfl (Nat.le_of_eq rfl) (by decide) (by decide) (by decide) (by decide) (fun v16 T16 P16 X16 => ?_)
  obtain ⟨rfl, K16, A16⟩ := P16
  obtain ⟨g16, hg16⟩ : ∃ z, z = (if (2 : Int32) < n then up g15 (nt o + nt (2 : Int32)) (i8 (i8 (if (2 : Int32) < (n - (1 : Int32)) then (f2 x0 x1 (2 : Int32) ||| (128 : Int32)) else (f2 x0 x1 (2 : Int32))))) else g15) := ⟨_, rfl⟩
  rw [← hg16] at A16
  refine w_aload (pc := 197) X16 C at_197 rfl rfl ?_
  refine w_iload (pc := 199) X16 C at_199 rfl ?_
  refine w_iconst (pc := 201) X16 C at_201 (3 : Int32) rfl ?_
  refine w_iload (pc := 202) X16 C at_202 rfl ?_
  refine w_lloadN (pc := 204) X16 C at_204 rfl ?_
  refine w_lloadN (pc := 205) X16 C at_205 rfl ?_
  refine w_callS (pc := 206) X16 C (y := (⟨"com/example/pondera/pondera/io/ReaderVarintPinLaw", "place", "([BIIIJJ)V"⟩ : MethodName)) (bytes := method_3_code) (maxL := 9) (rt := none) (argsL := [(.ref a1), (.int o), (.int (3 : Int32)), (.int n), (.long x0), (.long x1)]) (rest := []) (W := 0) at_206 (List.mem_of_getElem? (i := 2) rfl) (List.mem_of_getElem? (i := 3) rfl) (List.mem_of_getElem? (i := 4) rfl) (List.mem_of_getElem? (i := 5) rfl) (by decide) (ct1 l C.2.2.2.2.2.2.2.2 _ X16.size (a1) (o) ((3 : Int32)) (n) (x0) (x1) g16 A16 ho (by decide) hb1) rfl ⟨_, _, pd_1, rfl⟩ rfl (Nat.le_of_eq rfl) (by decide) (by decide) (by decide) (by decide) (fun v17 T17 P17 X17 => ?_)
  obtain ⟨rfl, K17, A17⟩ := P17
  obtain ⟨g17, hg17⟩ : ∃ z, z = (if (3 : Int32) < n then up g16 (nt o + nt (3 : Int32)) (i8 (i8 (if (3 : Int32) < (n - (1 : Int32)) then (f2 x0 x1 (3 : Int32) ||| (128 : Int32)) else (f2 x0 x1 (3 : Int32))))) else g16) := ⟨_, rfl⟩
  rw [← hg17] at A17
  refine w_aload (pc := 209) X17 C at_209 rfl rfl ?_
  refine w_iload (pc := 211) X17 C at_211 rfl ?_
  refine w_iconst (pc := 213) X17 C at_213 (4 : Int32) rfl ?_
  refine w_iload (pc := 214) X17 C at_214 rfl ?_
  refine w_lloadN (pc := 216) X17 C at_216 rfl ?_
  refine w_lloadN (pc := 217) X17 C at_217 rfl ?_
  refine w_callS (pc := 218) X17 C (y := (⟨"com/example/pondera/pondera/io/ReaderVarintPinLaw", "place", "([BIIIJJ)V"⟩ : MethodName)) (bytes := method_3_code) (maxL := 9) (rt := none) (argsL := [(.ref a1), (.int o), (.int (4 : Int32)), (.int n), (.long x0), (.long x1)]) (rest := []) (W := 0) at_218 (List.mem_of_getElem? (i := 2) rfl) (List.mem_of_getElem? (i := 3) rfl) (List.mem_of_getElem? (i := 4) rfl) (List.mem_of_getElem? (i := 5) rfl) (by decide) (ct1 l C.2.2.2.2.2.2.2.2 _ X17.size (a1) (o) ((4 : Int32)) (n) (x0) (x1) g17 A17 ho (by decide) hb1) rfl ⟨_, _, pd_1, rfl⟩ rfl (Nat.le_of_eq rfl) (by decide) (by decide) (by decide) (by decide) (fun v18 T18 P18 X18 => ?_)
  obtain ⟨rfl, K18, A18⟩ := P18
  obtain ⟨g18, hg18⟩ : ∃ z, z = (if (4 : Int32) < n then up g17 (nt o + nt (4 : Int32)) (i8 (i8 (if (4 : Int32) < (n - (1 : Int32)) then (f2 x0 x1 (4 : Int32) ||| (128 : Int32)) else (f2 x0 x1 (4 : Int32))))) else g17) := ⟨_, rfl⟩
  rw [← hg18] at A18
  refine w_aload (pc := 221) X18 C at_221 rfl rfl ?_
  refine w_iload (pc := 223) X18 C at_223 rfl ?_
  refine w_iconst (pc := 225) X18 C at_225 (5 : Int32) rfl ?_
  refine w_iload (pc := 226) X18 C at_226 rfl ?_
  refine w_lloadN (pc := 228) X18 C at_228 rfl ?_
  refine w_lloadN (pc := 229) X18 C at_229 rfl ?_
  refine w_callS (pc := 230) X18 C (y := (⟨"com/example/pondera/pondera/io/ReaderVarintPinLaw", "place", "([BIIIJJ)V"⟩ : MethodName)) (bytes := method_3_code) (maxL := 9) (rt := none) (argsL := [(.ref a1), (.int o), (.int (5 : Int32)), (.int n), (.long x0), (.long x1)]) (rest := []) (W := 0) at_230 (List.mem_of_getElem? (i := 2) rfl) (List.mem_of_getElem? (i := 3) rfl) (List.mem_of_getElem? (i := 4) rfl) (List.mem_of_getElem? (i := 5) rfl) (by decide) (ct1 l C.2.2.2.2.2.2.2.2 _ X18.size (a1) (o) ((5 : Int32)) (n) (x0) (x1) g18 A18 ho (by decide) hb1) rfl ⟨_, _, pd_1, rfl⟩ rfl (Nat.le_of_eq rfl) (by decide) (by decide) (by decide) (by decide) (fun v19 T19 P19 X19 => ?_)
  obtain ⟨rfl, K19, A19⟩ := P19
  obtain ⟨g19, hg19⟩ : ∃ z, z = (if (5 : Int32) < n then up g18 (nt o + nt (5 : Int32)) (i8 (i8 (if (5 : Int32) < (n - (1 : Int32)) then (f2 x0 x1 (5 : Int32) ||| (128 : Int32)) else (f2 x0 x1 (5 : Int32))))) else g18) := ⟨_, rfl⟩
  rw [← hg19] at A19
  refine w_aload (pc := 233) X19 C at_233 rfl rfl ?_
  refine w_iload (pc := 235) X19 C at_235 rfl ?_
  refine w_bipush (pc := 237) X19 C at_237 (6 : Int32) rfl ?_
  refine w_iload (pc := 239) X19 C at_239 rfl ?_
  refine w_lloadN (pc := 241) X19 C at_241 rfl ?_
  refine w_lloadN (pc := 242) X19 C at_242 rfl ?_
  refine w_callS (pc := 243) X19 C (y := (⟨"com/example/pondera/pondera/io/ReaderVarintPinLaw", "place", "([BIIIJJ)V"⟩ : MethodName)) (bytes := method_3_code) (maxL := 9) (rt := none) (argsL := [(.ref a1), (.int o), (.int (6 : Int32)), (.int n), (.long x0), (.long x1)]) (rest := []) (W := 0) at_243 (List.mem_of_getElem? (i := 2) rfl) (List.mem_of_getElem? (i := 3) rfl) (List.mem_of_getElem? (i := 4) rfl) (List.mem_of_getElem? (i := 5) rfl) (by decide) (ct1 l C.2.2.2.2.2.2.2.2 _ X19.size (a1) (o) ((6 : Int32)) (n) (x0) (x1) g19 A19 ho (by decide) hb1) rfl ⟨_, _, pd_1, rfl⟩ rfl (Nat.le_of_eq rfl) (by decide) (by decide) (by decide) (by decide) (fun v20 T20 P20 X20 => ?_)
  obtain ⟨rfl, K20, A20⟩ := P20
  obtain ⟨g20, hg20⟩ : ∃ z, z = (if (6 : Int32) < n then up g19 (nt o + nt (6 : Int32)) (i8 (i8 (if (6 : Int32) < (n - (1 : Int32)) then (f2 x0 x1 (6 : Int32) ||| (128 : Int32)) else (f2 x0 x1 (6 : Int32))))) else g19) := ⟨_, rfl⟩
  rw [← hg20] at A20
  refine w_aload (pc := 246) X20 C at_246 rfl rfl ?_
  refine w_iload (pc := 248) X20 C at_248 rfl ?_
  refine w_bipush (pc := 250) X20 C at_250 (7 : Int32) rfl ?_
  refine w_iload (pc := 252) X20 C at_252 rfl ?_
  refine w_lloadN (pc := 254) X20 C at_254 rfl ?_
  refine w_lloadN (pc := 255) X20 C at_255 rfl ?_
  refine w_callS (pc := 256) X20 C (y := (⟨"com/example/pondera/pondera/io/ReaderVarintPinLaw", "place", "([BIIIJJ)V"⟩ : MethodName)) (bytes := method_3_code) (maxL := 9) (rt := none) (argsL := [(.ref a1), (.int o), (.int (7 : Int32)), (.int n), (.long x0), (.long x1)]) (rest := []) (W := 0) at_256 (List.mem_of_getElem? (i := 2) rfl) (List.mem_of_getElem? (i := 3) rfl) (List.mem_of_getElem? (i := 4) rfl) (List.mem_of_getElem? (i := 5) rfl) (by decide) (ct1 l C.2.2.2.2.2.2.2.2 _ X20.size (a1) (o) ((7 : Int32)) (n) (x0) (x1) g20 A20 ho (by decide) hb1) rfl ⟨_, _, pd_1, rfl⟩ rfl (Nat.le_of_eq rfl) (by decide) (by decide) (by decide) (by decide) (fun v21 T21 P21 X21 => ?_)
  obtain ⟨rfl, K21, A21⟩ := P21
  obtain ⟨g21, hg21⟩ : ∃ z, z = (if (7 : Int32) < n then up g20 (nt o + nt (7 : Int32)) (i8 (i8 (if (7 : Int32) < (n - (1 : Int32)) then (f2 x0 x1 (7 : Int32) ||| (128 : Int32)) else (f2 x0 x1 (7 : Int32))))) else g20) := ⟨_, rfl⟩
  rw [← hg21] at A21
  refine w_aload (pc := 259) X21 C at_259 rfl rfl ?_
  refine w_iload (pc := 261) X21 C at_261 rfl ?_
  refine w_bipush (pc := 263) X21 C at_263 (8 : Int32) rfl ?_
  refine w_iload (pc := 265) X21 C at_265 rfl ?_
  refine w_lloadN (pc := 267) X21 C at_267 rfl ?_
  refine w_lloadN (pc := 268) X21 C at_268 rfl ?_
  refine w_callS (pc := 269) X21 C (y := (⟨"com/example/pondera/pondera/io/ReaderVarintPinLaw", "place", "([BIIIJJ)V"⟩ : MethodName)) (bytes := method_3_code) (maxL := 9) (rt := none) (argsL := [(.ref a1), (.int o), (.int (8 : Int32)), (.int n), (.long x0), (.long x1)]) (rest := []) (W := 0) at_269 (List.mem_of_getElem? (i := 2) rfl) (List.mem_of_getElem? (i := 3) rfl) (List.mem_of_getElem? (i := 4) rfl) (List.mem_of_getElem? (i := 5) rfl) (by decide) (ct1 l C.2.2.2.2.2.2.2.2 _ X21.size (a1) (o) ((8 : Int32)) (n) (x0) (x1) g21 A21 ho (by decide) hb1) rfl ⟨_, _, pd_1, rfl⟩ rfl (Nat.le_of_eq rfl) (by decide) (by decide) (by decide) (by decide) (fun v22 T22 P22 X22 => ?_)
  obtain ⟨rfl, K22, A22⟩ := P22
  obtain ⟨g22, hg22⟩ : ∃ z, z = (if (8 : Int32) < n then up g21 (nt o + nt (8 : Int32)) (i8 (i8 (if (8 : Int32) < (n - (1 : Int32)) then (f2 x0 x1 (8 : Int32) ||| (128 : Int32)) else (f2 x0 x1 (8 : Int32))))) else g21) := ⟨_, rfl⟩
  rw [← hg22] at A22
  refine w_aload (pc := 272) X22 C at_272 rfl rfl ?_
  refine w_iload (pc := 274) X22 C at_274 rfl ?_
  refine w_bipush (pc := 276) X22 C at_276 (9 : Int32) rfl ?_
  refine w_iload (pc := 278) X22 C at_278 rfl ?_
  refine w_lloadN (pc := 280) X22 C at_280 rfl ?_
  refine w_lloadN (pc := 281) X22 C at_281 rfl ?_
  refine w_callS (pc := 282) X22 C (y := (⟨"com/example/pondera/pondera/io/ReaderVarintPinLaw", "place", "([BIIIJJ)V"⟩ : MethodName)) (bytes := method_3_code) (maxL := 9) (rt := none) (argsL := [(.ref a1), (.int o), (.int (9 : Int32)), (.int n), (.long x0), (.long x1)]) (rest := []) (W := 0) at_282 (List.mem_of_getElem? (i := 2) rfl) (List.mem_of_getElem? (i := 3) rfl) (List.mem_of_getElem? (i := 4) rfl) (List.mem_of_getElem? (i := 5) rfl) (by decide) (ct1 l C.2.2.2.2.2.2.2.2 _ X22.size (a1) (o) ((9 : Int32)) (n) (x0) (x1) g22 A22 ho (by decide) hb1) rfl ⟨_, _, pd_1, rfl⟩ rfl (Nat.le_of_eq rfl) (by decide) (by decide) (by decide) (by decide) (fun v23 T23 P23 X23 => ?_)
  obtain ⟨rfl, K23, A23⟩ := P23
  obtain ⟨g23, hg23⟩ : ∃ z, z = (if (9 : Int32) < n then up g22 (nt o + nt (9 : Int32)) (i8 (i8 (if (9 : Int32) < (n - (1 : Int32)) then (f2 x0 x1 (9 : Int32) ||| (128 : Int32)) else (f2 x0 x1 (9 : Int32))))) else g22) := ⟨_, rfl⟩
  rw [← hg23] at A23
  refine w_lloadN (pc := 285) X23 C at_285 rfl ?_
  refine w_lloadN (pc := 286) X23 C at_286 rfl ?_
  refine w_iconst (pc := 287) X23 C at_287 (0 : Int32) rfl ?_
  refine w_iload (pc := 288) X23 C at_288 rfl ?_
  refine w_callP (pc := 290) X23 C (y := (⟨"com/example/pondera/pondera/io/ReaderVarintPinLaw", "term", "(JJII)J"⟩ : MethodName)) (bytes := method_4_code) (maxL := 6) (rt := some .long) (argsL := [(.long x0), (.long x1), (.int (0 : Int32)), (.int n)]) (rest := []) (w := .long (f3 x0 x1 (0 : Int32) n)) (W := 0) at_290 (List.mem_of_getElem? (i := 9) rfl) (List.mem_of_getElem? (i := 10) rfl) (List.mem_of_getElem? (i := 4) rfl) (List.mem_of_getElem? (i := 11) rfl) (by decide) (ct3 l C.2.2.2.2.2.2.2.2 _ X23.size (x0) (x1) ((0 : Int32)) (n)) rfl rfl rfl ⟨_, _, pd_2, rfl⟩ rfl (Nat.le_of_eq rfl) (by decide) (by decide) (by decide) (by decide) (fun T25 X24 => ?_)
  refine w_lloadN (pc := 293) X24 C at_293 rfl ?_
  refine w_lloadN (pc := 294) X24 C at_294 rfl ?_
  refine w_iconst (pc := 295) X24 C at_295 (1 : Int32) rfl ?_
  refine w_iload (pc := 296) X24 C at_296 rfl ?_
  refine w_callP (pc := 298) X24 C (y := (⟨"com/example/pondera/pondera/io/ReaderVarintPinLaw", "term", "(JJII)J"⟩ : MethodName)) (bytes := method_4_code) (maxL := 6) (rt := some .long) (argsL := [(.long x0), (.long x1), (.int (1 : Int32)), (.int n)]) (rest := [(.long (f3 x0 x1 (0 : Int32) n))]) (w := .long (f3 x0 x1 (1 : Int32) n)) (W := 2) at_298 (List.mem_of_getElem? (i := 9) rfl) (List.mem_of_getElem? (i := 10) rfl) (List.mem_of_getElem? (i := 4) rfl) (List.mem_of_getElem? (i := 11) rfl) (by decide) (ct3 l C.2.2.2.2.2.2.2.2 _ X24.size (x0) (x1) ((1 : Int32)) (n)) rfl rfl rfl ⟨_, _, pd_2, rfl⟩ rfl (Nat.le_of_eq rfl) (by decide) (by decide) (by decide) (by decide) (fun T27 X26 => ?_)
  refine w_lor (pc := 301) X26 C at_301 ?_
  refine w_lloadN (pc := 302) X26 C at_302 rfl ?_
  refine w_lloadN (pc := 303) X26 C at_303 rfl ?_
  refine w_iconst (pc := 304) X26 C at_304 (2 : Int32) rfl ?_
  refine w_iload (pc := 305) X26 C at_305 rfl ?_
  refine w_callP (pc := 307) X26 C (y := (⟨"com/example/pondera/pondera/io/ReaderVarintPinLaw", "term", "(JJII)J"⟩ : MethodName)) (bytes := method_4_code) (maxL := 6) (rt := some .long) (argsL := [(.long x0), (.long x1), (.int (2 : Int32)), (.int n)]) (rest := [(.long ((f3 x0 x1 (0 : Int32) n) ||| (f3 x0 x1 (1 : Int32) n)))]) (w := .long (f3 x0 x1 (2 : Int32) n)) (W := 2) at_307 (List.mem_of_getElem? (i := 9) rfl) (List.mem_of_getElem? (i := 10) rfl) (List.mem_of_getElem? (i := 4) rfl) (List.mem_of_getElem? (i := 11) rfl) (by decide) (ct3 l C.2.2.2.2.2.2.2.2 _ X26.size (x0) (x1) ((2 : Int32)) (n)) rfl rfl rfl ⟨_, _, pd_2, rfl⟩ rfl (Nat.le_of_eq rfl) (by decide) (by decide) (by decide) (by decide) (fun T29 X28 => ?_)
  refine w_lor (pc := 310) X28 C at_310 ?_
  refine w_lloadN (pc := 311) X28 C at_311 rfl ?_
  refine w_lloadN (pc := 312) X28 C at_312 rfl ?_
  refine w_iconst (pc := 313) X28 C at_313 (3 : Int32) rfl ?_
  refine w_iload (pc := 314) X28 C at_314 rfl ?_
  refine w_callP (pc := 316) X28 C (y := (⟨"com/example/pondera/pondera/io/ReaderVarintPinLaw", "term", "(JJII)J"⟩ : MethodName)) (bytes := method_4_code) (maxL := 6) (rt := some .long) (argsL := [(.long x0), (.long x1), (.int (3 : Int32)), (.int n)]) (rest := [(.long (((f3 x0 x1 (0 : Int32) n) ||| (f3 x0 x1 (1 : Int32) n)) ||| (f3 x0 x1 (2 : Int32) n)))]) (w := .long (f3 x0 x1 (3 : Int32) n)) (W := 2) at_316 (List.mem_of_getElem? (i := 9) rfl) (List.mem_of_getElem? (i := 10) rfl) (List.mem_of_getElem? (i := 4) rfl) (List.mem_of_getElem? (i := 11) rfl) (by decide) (ct3 l C.2.2.2.2.2.2.2.2 _ X28.size (x0) (x1) ((3 : Int32)) (n)) rfl rfl rfl ⟨_, _, pd_2, rfl⟩ rfl (Nat.le_of_eq rfl) (by decide) (by decide) (by decide) (by decide) (fun T31 X30 => ?_)
  refine w_lor (pc := 319) X30 C at_319 ?_
  refine w_lloadN (pc := 320) X30 C at_320 rfl ?_
  refine w_lloadN (pc := 321) X30 C at_321 rfl ?_
  refine w_iconst (pc := 322) X30 C at_322 (4 : Int32) rfl ?_
  refine w_iload (pc := 323) X30 C at_323 rfl ?_
  refine w_callP (pc := 325) X30 C (y := (⟨"com/example/pondera/pondera/io/ReaderVarintPinLaw", "term", "(JJII)J"⟩ : MethodName)) (bytes := method_4_code) (maxL := 6) (rt := some .long) (argsL := [(.long x0), (.long x1), (.int (4 : Int32)), (.int n)]) (rest := [(.long ((((f3 x0 x1 (0 : Int32) n) ||| (f3 x0 x1 (1 : Int32) n)) ||| (f3 x0 x1 (2 : Int32) n)) ||| (f3 x0 x1 (3 : Int32) n)))]) (w := .long (f3 x0 x1 (4 : Int32) n)) (W := 2) at_325 (List.mem_of_getElem? (i := 9) rfl) (List.mem_of_getElem? (i := 10) rfl) (List.mem_of_getElem? (i := 4) rfl) (List.mem_of_getElem? (i := 11) rfl) (by decide) (ct3 l C.2.2.2.2.2.2.2.2 _ X30.size (x0) (x1) ((4 : Int32)) (n)) rfl rfl rfl ⟨_, _, pd_2, rfl⟩ rfl (Nat.le_of_eq rfl) (by decide) (by decide) (by decide) (by decide) (fun T33 X32 => ?_)
  refine w_lor (pc := 328) X32 C at_328 ?_
  refine w_lloadN (pc := 329) X32 C at_329 rfl ?_
  refine w_lloadN (pc := 330) X32 C at_330 rfl ?_
  refine w_iconst (pc := 331) X32 C at_331 (5 : Int32) rfl ?_
  refine w_iload (pc := 332) X32 C at_332 rfl ?_
  refine w_callP (pc := 334) X32 C (y := (⟨"com/example/pondera/pondera/io/ReaderVarintPinLaw", "term", "(JJII)J"⟩ : MethodName)) (bytes := method_4_code) (maxL := 6) (rt := some .long) (argsL := [(.long x0), (.long x1), (.int (5 : Int32)), (.int n)]) (rest := [(.long (((((f3 x0 x1 (0 : Int32) n) ||| (f3 x0 x1 (1 : Int32) n)) ||| (f3 x0 x1 (2 : Int32) n)) ||| (f3 x0 x1 (3 : Int32) n)) ||| (f3 x0 x1 (4 : Int32) n)))]) (w := .long (f3 x0 x1 (5 : Int32) n)) (W := 2) at_334 (List.mem_of_getElem? (i := 9) rfl) (List.mem_of_getElem? (i := 10) rfl) (List.mem_of_getElem? (i := 4) rfl) (List.mem_of_getElem? (i := 11) rfl) (by decide) (ct3 l C.2.2.2.2.2.2.2.2 _ X32.size (x0) (x1) ((5 : Int32)) (n)) rfl rfl rfl ⟨_, _, pd_2, rfl⟩ rfl (Nat.le_of_eq rfl) (by decide) (by decide) (by decide) (by decide) (fun T35 X34 => ?_)
  refine w_lor (pc := 337) X34 C at_337 ?_
  refine w_lloadN (pc := 338) X34 C at_338 rfl ?_
  refine w_lloadN (pc := 339) X34 C at_339 rfl ?_
  refine w_bipush (pc := 340) X34 C at_340 (6 : Int32) rfl ?_
  refine w_iload (pc := 342) X34 C at_342 rfl ?_
  refine w_callP (pc := 344) X34 C (y := (⟨"com/example/pondera/pondera/io/ReaderVarintPinLaw", "term", "(JJII)J"⟩ : MethodName)) (bytes := method_4_code) (maxL := 6) (rt := some .long) (argsL := [(.long x0), (.long x1), (.int (6 : Int32)), (.int n)]) (rest := [(.long ((((((f3 x0 x1 (0 : Int32) n) ||| (f3 x0 x1 (1 : Int32) n)) ||| (f3 x0 x1 (2 : Int32) n)) ||| (f3 x0 x1 (3 : Int32) n)) ||| (f3 x0 x1 (4 : Int32) n)) ||| (f3 x0 x1 (5 : Int32) n)))]) (w := .long (f3 x0 x1 (6 : Int32) n)) (W := 2) at_344 (List.mem_of_getElem? (i := 9) rfl) (List.mem_of_getElem? (i := 10) rfl) (List.mem_of_getElem? (i := 4) rfl) (List.mem_of_getElem? (i := 11) rfl) (by decide) (ct3 l C.2.2.2.2.2.2.2.2 _ X34.size (x0) (x1) ((6 : Int32)) (n)) rfl rfl rfl ⟨_, _, pd_2, rfl⟩ rfl (Nat.le_of_eq rfl) (by decide) (by decide) (by decide) (by decide) (fun T37 X36 => ?_)
  refine w_lor (pc := 347) X36 C at_347 ?_
  refine w_lloadN (pc := 348) X36 C at_348 rfl ?_
  refine w_lloadN (pc := 349) X36 C at_349 rfl ?_
  refine w_bipush (pc := 350) X36 C at_350 (7 : Int32) rfl ?_
  refine w_iload (pc := 352) X36 C at_352 rfl ?_
  refine w_callP (pc := 354) X36 C (y := (⟨"com/example/pondera/pondera/io/ReaderVarintPinLaw", "term", "(JJII)J"⟩ : MethodName)) (bytes := method_4_code) (maxL := 6) (rt := some .long) (argsL := [(.long x0), (.long x1), (.int (7 : Int32)), (.int n)]) (rest := [(.long (((((((f3 x0 x1 (0 : Int32) n) ||| (f3 x0 x1 (1 : Int32) n)) ||| (f3 x0 x1 (2 : Int32) n)) ||| (f3 x0 x1 (3 : Int32) n)) ||| (f3 x0 x1 (4 : Int32) n)) ||| (f3 x0 x1 (5 : Int32) n)) ||| (f3 x0 x1 (6 : Int32) n)))]) (w := .long (f3 x0 x1 (7 : Int32) n)) (W := 2) at_354 (List.mem_of_getElem? (i := 9) rfl) (List.mem_of_getElem? (i := 10) rfl) (List.mem_of_getElem? (i := 4) rfl) (List.mem_of_getElem? (i := 11) rfl) (by decide) (ct3 l C.2.2.2.2.2.2.2.2 _ X36.size (x0) (x1) ((7 : Int32)) (n)) rfl rfl rfl ⟨_, _, pd_2, rfl⟩ rfl (Nat.le_of_eq rfl) (by decide) (by decide) (by decide) (by decide) (fun T39 X38 => ?_)
  refine w_lor (pc := 357) X38 C at_357 ?_
  refine w_lloadN (pc := 358) X38 C at_358 rfl ?_
  refine w_lloadN (pc := 359) X38 C at_359 rfl ?_
  refine w_bipush (pc := 360) X38 C at_360 (8 : Int32) rfl ?_
  refine w_iload (pc := 362) X38 C at_362 rfl ?_
  refine w_callP (pc := 364) X38 C (y := (⟨"com/example/pondera/pondera/io/ReaderVarintPinLaw", "term", "(JJII)J"⟩ : MethodName)) (bytes := method_4_code) (maxL := 6) (rt := some .long) (argsL := [(.long x0), (.long x1), (.int (8 : Int32)), (.int n)]) (rest := [(.long ((((((((f3 x0 x1 (0 : Int32) n) ||| (f3 x0 x1 (1 : Int32) n)) ||| (f3 x0 x1 (2 : Int32) n)) ||| (f3 x0 x1 (3 : Int32) n)) ||| (f3 x0 x1 (4 : Int32) n)) ||| (f3 x0 x1 (5 : Int32) n)) ||| (f3 x0 x1 (6 : Int32) n)) ||| (f3 x0 x1 (7 : Int32) n)))]) (w := .long (f3 x0 x1 (8 : Int32) n)) (W := 2) at_364 (List.mem_of_getElem? (i := 9) rfl) (List.mem_of_getElem? (i := 10) rfl) (List.mem_of_getElem? (i := 4) rfl) (List.mem_of_getElem? (i := 11) rfl) (by decide) (ct3 l C.2.2.2.2.2.2.2.2 _ X38.size (x0) (x1) ((8 : Int32)) (n)) rfl rfl rfl ⟨_, _, pd_2, rfl⟩ rfl (Nat.le_of_eq rfl) (by decide) (by decide) (by decide) (by decide) (fun T41 X40 => ?_)
  refine w_lor (pc := 367) X40 C at_367 ?_
  refine w_lloadN (pc := 368) X40 C at_368 rfl ?_
  refine w_lloadN (pc := 369) X40 C at_369 rfl ?_
  refine w_bipush (pc := 370) X40 C at_370 (9 : Int32) rfl ?_
  refine w_iload (pc := 372) X40 C at_372 rfl ?_
  refine w_callP (pc := 374) X40 C (y := (⟨"com/example/pondera/pondera/io/ReaderVarintPinLaw", "term", "(JJII)J"⟩ : MethodName)) (bytes := method_4_code) (maxL := 6) (rt := some .long) (argsL := [(.long x0), (.long x1), (.int (9 : Int32)), (.int n)]) (rest := [(.long (((((((((f3 x0 x1 (0 : Int32) n) ||| (f3 x0 x1 (1 : Int32) n)) ||| (f3 x0 x1 (2 : Int32) n)) ||| (f3 x0 x1 (3 : Int32) n)) ||| (f3 x0 x1 (4 : Int32) n)) ||| (f3 x0 x1 (5 : Int32) n)) ||| (f3 x0 x1 (6 : Int32) n)) ||| (f3 x0 x1 (7 : Int32) n)) ||| (f3 x0 x1 (8 : Int32) n)))]) (w := .long (f3 x0 x1 (9 : Int32) n)) (W := 2) at_374 (List.mem_of_getElem? (i := 9) rfl) (List.mem_of_getElem? (i := 10) rfl) (List.mem_of_getElem? (i := 4) rfl) (List.mem_of_getElem? (i := 11) rfl) (by decide) (ct3 l C.2.2.2.2.2.2.2.2 _ X40.size (x0) (x1) ((9 : Int32)) (n)) rfl rfl rfl ⟨_, _, pd_2, rfl⟩ rfl (Nat.le_of_eq rfl) (by decide) (by decide) (by decide) (by decide) (fun T43 X42 => ?_)
  refine w_lor (pc := 377) X42 C at_377 ?_
  refine w_lstore (pc := 378) X42 C at_378 #[.val (.long x0), .second, .val (.long x1), .second, .val (.long x2), .second, .val (.int x3), .val (.int x4), .val (.int n), .val (.int o), .val (.ref a1), .val (.long ((((((((((f3 x0 x1 (0 : Int32) n) ||| (f3 x0 x1 (1 : Int32) n)) ||| (f3 x0 x1 (2 : Int32) n)) ||| (f3 x0 x1 (3 : Int32) n)) ||| (f3 x0 x1 (4 : Int32) n)) ||| (f3 x0 x1 (5 : Int32) n)) ||| (f3 x0 x1 (6 : Int32) n)) ||| (f3 x0 x1 (7 : Int32) n)) ||| (f3 x0 x1 (8 : Int32) n)) ||| (f3 x0 x1 (9 : Int32) n))), .second, .unset, .unset, .unset] rfl ?_
  refine w_new (pc := 380) X42 C at_380 (List.mem_of_getElem? (i := 12) rfl) (List.mem_of_getElem? (i := 13) rfl) (List.mem_of_getElem? (i := 14) rfl) (by decide) (by decide) (fun T44 h44 a44 ha44 hb44 X44 E44 B44 D44 => ?_)
  have ne_a1_a44 : a1 ≠ a44 := Nat.ne_of_lt (by rw [ha44]; exact A23.lt)
  have Ak45 := A23.ext E44
  have F44_bytes : Fld Z h44 a44 "com/example/pondera/pondera/io/IndexBytes$Reader" "bytes" "[B" .null := D44 (Or.inr (List.mem_of_getElem? (i := 22) rfl)) (ty := (.array .byte)) (by decide)
  have F44_at : Fld Z h44 a44 "com/example/pondera/pondera/io/IndexBytes$Reader" "at" "I" (.int (0 : Int32)) := D44 (Or.inl (List.mem_of_getElem? (i := 24) rfl)) (ty := .int) (by decide)
  have F44_end : Fld Z h44 a44 "com/example/pondera/pondera/io/IndexBytes$Reader" "end" "I" (.int (0 : Int32)) := D44 (Or.inr (List.mem_of_getElem? (i := 26) rfl)) (ty := .int) (by decide)
  refine w_dup (pc := 383) X44 C at_383 rfl ?_
  refine w_aload (pc := 384) X44 C at_384 rfl rfl ?_
  refine w_iload (pc := 386) X44 C at_386 rfl ?_
  refine w_bipush (pc := 388) X44 C at_388 (12 : Int32) rfl ?_
  refine w_callI (pc := 390) X44 C (y := (⟨"com/example/pondera/pondera/io/IndexBytes$Reader", "<init>", "([BII)V"⟩ : MethodName)) (bytes := prog_103_method_2_code) (maxL := 4) (argsL := [(.ref a1), (.int o), (.int (12 : Int32))]) (rest := [(.ref a44)]) (W := 1) (a := a44) at_390 (List.mem_of_getElem? (i := 15) rfl) (List.mem_of_getElem? (i := 16) rfl) (List.mem_of_getElem? (i := 14) rfl) (List.mem_of_getElem? (i := 17) rfl) rfl (by decide) (ct4 l C.2.2.2.2.2.2.2.2 _ X44.size (a44) (a1) (o) ((12 : Int32)) B44 F44_bytes F44_at F44_end hb44) rfl ⟨_, _, pd_3, rfl⟩ rfl (Nat.le_of_eq rfl) (by decide) (by decide) (by decide) (by decide) (fun v46 T46 P46 X46 => ?_)
  obtain ⟨rfl, K46, E46, Fb46, Fa46⟩ := P46
  have A46 := Ak45.keep K46 (ninS ne_a1_a44 nin0)
  refine w_astore (pc := 393) X46 C at_393 #[.val (.long x0), .second, .val (.long x1), .second, .val (.long x2), .second, .val (.int x3), .val (.int x4), .val (.int n), .val (.int o), .val (.ref a1), .val (.long ((((((((((f3 x0 x1 (0 : Int32) n) ||| (f3 x0 x1 (1 : Int32) n)) ||| (f3 x0 x1 (2 : Int32) n)) ||| (f3 x0 x1 (3 : Int32) n)) ||| (f3 x0 x1 (4 : Int32) n)) ||| (f3 x0 x1 (5 : Int32) n)) ||| (f3 x0 x1 (6 : Int32) n)) ||| (f3 x0 x1 (7 : Int32) n)) ||| (f3 x0 x1 (8 : Int32) n)) ||| (f3 x0 x1 (9 : Int32) n))), .second, .val (.ref a44), .unset, .unset] rfl rfl ?_
  refine w_aload (pc := 395) X46 C at_395 rfl rfl ?_
  have hvt := own_signs x0 x1 n o hn ho hg14 hg15 hg16 hg17 hg18 hg19 hg20 hg21 hg22 hg23
  refine w_callV (pc := 397) X46 C (y := (⟨"com/example/pondera/pondera/io/IndexBytes$Reader", "varint", "()J"⟩ : MethodName)) (bytes := prog_103_method_6_code) (maxL := 5) (rt := (some .long)) (argsL := []) (rest := []) (W := 0) (a := a44) at_397 (List.mem_of_getElem? (i := 27) rfl) (List.mem_of_getElem? (i := 29) rfl) (List.mem_of_getElem? (i := 14) rfl) (List.mem_of_getElem? (i := 31) rfl) (List.mem_of_getElem? (i := 28) rfl) (List.mem_of_getElem? (i := 30) rfl) E46 (by decide) (ct6 l C.2.2.2.2.2.2.2.2 _ X46.size (a44) a1 o (nt o) (nt n - 1) g23 E46 Fb46 Fa46 A46 ne_a1_a44 hb44 (nt_eq ho.1) (by unfold nt; omega) hvt.1 hvt.2) rfl ⟨_, _, pd_4, rfl⟩ rfl (Nat.le_of_eq rfl) (by decide) (by decide) (by decide) (by decide) (fun v47 T47 P47 X47 => ?_)
  obtain ⟨rfl, K47, E47, Fa47⟩ := P47
  refine w_lstore (pc := 400) X47 C at_400 #[.val (.long x0), .second, .val (.long x1), .second, .val (.long x2), .second, .val (.int x3), .val (.int x4), .val (.int n), .val (.int o), .val (.ref a1), .val (.long ((((((((((f3 x0 x1 (0 : Int32) n) ||| (f3 x0 x1 (1 : Int32) n)) ||| (f3 x0 x1 (2 : Int32) n)) ||| (f3 x0 x1 (3 : Int32) n)) ||| (f3 x0 x1 (4 : Int32) n)) ||| (f3 x0 x1 (5 : Int32) n)) ||| (f3 x0 x1 (6 : Int32) n)) ||| (f3 x0 x1 (7 : Int32) n)) ||| (f3 x0 x1 (8 : Int32) n)) ||| (f3 x0 x1 (9 : Int32) n))), .second, .val (.ref a44), .val (.long (own_vf g23 (nt n - 1) 0 0 (nt o))), .second] rfl ?_
  refine w_lload (pc := 402) X47 C at_402 rfl ?_
  refine w_lload (pc := 404) X47 C at_404 rfl ?_
  refine w_lcmp (pc := 406) X47 C at_406 ?_
  refine w_ifJ_ne (pc := 407) X47 C at_407 427 (by decide) (fun q48 => absurd (own_fin x0 x1 n o hn ho hg14 hg15 hg16 hg17 hg18 hg19 hg20 hg21 hg22 hg23) q48) (fun q48 => ?_)
  refine w_aload (pc := 410) X47 C at_410 rfl rfl ?_
  refine w_callV (pc := 412) X47 C (y := (⟨"com/example/pondera/pondera/io/IndexBytes$Reader", "at", "()I"⟩ : MethodName)) (bytes := prog_103_method_3_code) (maxL := 1) (rt := (some .int)) (argsL := []) (rest := []) (W := 0) (a := a44) at_412 (List.mem_of_getElem? (i := 32) rfl) (List.mem_of_getElem? (i := 34) rfl) (List.mem_of_getElem? (i := 14) rfl) (List.mem_of_getElem? (i := 36) rfl) (List.mem_of_getElem? (i := 33) rfl) (List.mem_of_getElem? (i := 35) rfl) E47 (by decide) (ct7 l C.2.2.2.2.2.2.2.2 _ X47.size (a44) (own_at (nt n - 1) o) Fa47) rfl ⟨_, _, pd_5, rfl⟩ rfl (Nat.le_of_eq rfl) (by decide) (by decide) (by decide) (by decide) (fun v49 T49 P49 X49 => ?_)
  obtain ⟨rfl, e49⟩ := P49
  rw [e49] at X49
  refine w_iload (pc := 415) X49 C at_415 rfl ?_
  refine w_iload (pc := 417) X49 C at_417 rfl ?_
  refine w_iadd (pc := 419) X49 C at_419 ?_
  refine w_icmp_ne (pc := 420) X49 C at_420 427 (by decide) (fun q50 => absurd (own_atn n o hn) q50) (fun q50 => ?_)
  refine w_iconst (pc := 423) X49 C at_423 (1 : Int32) rfl ?_
  refine w_goto (pc := 424) X49 C at_424 428 (by decide) ?_
  exact w_ret_boolean (pc := 428) X49 C at_428 rfl
set_option maxRecDepth 65536 in
theorem law_ct (l : Launch) {Z : State} {a0 : Array Value} (hw : ∀ d ∈ tables_1, d.before a0 Z = true) (h : Heap) {n0 : Nat} (hn : n0 ≤ h.size) (x0 : Int64) (x1 : Int64) (x2 : Int64) (x3 : Int32) (x4 : Int32) : Ct l x code maxLocals ret room_1 Z #[(.long x0), (.long x1), (.long x2), (.int x3), (.int x4)] h n0 (fun v _ => v = some (.int 1)) :=
  Ct.of (plainFor_of_name pn_0) #[.val (.long x0), .second, .val (.long x1), .second, .val (.long x2), .second, .val (.int x3), .val (.int x4), .unset, .unset, .unset, .unset, .unset, .unset, .unset, .unset] (fun m => by first | (simp [entryFrame, mkF, argsToLocals, Value.category, maxLocals]; done) | rfl) hw hn (fun p e s m below meth c T C X => law_walk X C x0 x1 x2 x3 x4)
set_option maxRecDepth 65536 in
set_option maxHeartbeats 40000000 in
theorem comes_1 {Post : Tables → Env → Array Value → State → Outcome → State → Prop} (hpost : ∀ tb e args s v u, (limb_1_1.after args s (.returned v) u = true ∧ limb_1_2.after args s (.returned v) u = true ∧ True) → FrameEnd s (.returned v) u (Jvm.fieldLocs frame_1_writes args s ++ Jvm.arrayLocs frame_1_arrays args s ++ Jvm.staticLocs frame_1_statics s) 16 128 → Post tb e args s (.returned v) u) :
    ArmFor flags0 classFile x code maxLocals ret World_1 tables_1 room_1 Calls_1 rest_1 Pre_1 Post := by
  intro l hfl _ _ p e ha hc hk s m args below hf hA hF happ hP
  obtain ⟨hcalls, hrest, hpre⟩ := hP
  obtain ⟨-, -, -, hnamed, -, -, -, hat⟩ := (Spec.applies_iff hf).mp happ
  obtain ⟨hg, hn⟩ := and_e (Cond.before_iff.mp (show (Jvm.Cond.and given_1 narrow_1).before args s = true from hpre))
  obtain ⟨g1, g2⟩ := and_e hg
  obtain ⟨g3, g4⟩ := and_e g2
  obtain ⟨g5, g6⟩ := and_e g4
  obtain ⟨g7, g8⟩ := and_e g6
  obtain ⟨g9, g10⟩ := and_e g8
  obtain ⟨w0, w1, w2, w3, w4, rfl⟩ : ∃ w0 w1 w2 w3 w4 : Value, args = #[w0, w1, w2, w3, w4] := by
    have hs : args.size = 5 := by simpa [Cond.value, given_1] using g1
    obtain ⟨L⟩ := args
    match L, hs with
    | [w0, w1, w2, w3, w4], _ => exact ⟨w0, w1, w2, w3, w4, rfl⟩
  have hw := fun d (hd : d ∈ tables_1) => atoms_spec (ws := Jvm.Cond.code x code maxLocals ret :: tables_1) hat d (List.mem_cons_of_mem _ hd)
  obtain ⟨i0, ei0⟩ := isL_v g3
  obtain rfl : w0 = (.long i0) := Option.some.inj ei0
  obtain ⟨i1, ei1⟩ := isL_v g5
  obtain rfl : w1 = (.long i1) := Option.some.inj ei1
  obtain ⟨i2, ei2⟩ := isL_v g7
  obtain rfl : w2 = (.long i2) := Option.some.inj ei2
  obtain ⟨i3, ei3⟩ := is_v g9
  obtain rfl : w3 = (.int i3) := Option.some.inj ei3
  obtain ⟨i4, ei4⟩ := is_v g10
  obtain rfl : w4 = (.int i4) := Option.some.inj ei4
  obtain ⟨n, o, h1, h2, h3, _, L, rfl, ⟨N, rfl⟩, hq⟩ := law_ct l hw s.heap (Nat.le_refl _) i0 i1 i2 i3 i4 tables_1 p e ha hc hk s m _ below hf ((Spec.applies_iff_loose hf).mp happ).1 ⟨rfl, State.Warmed39.refl s, rfl⟩ trivial
  refine ⟨n, _, h1, h2, h3, hpost _ _ _ _ _ _ ⟨Cond.after_iff.mpr rfl, Cond.after_iff.mpr (eq_i res_at (Term.int_eval (1)) rfl), trivial⟩ ⟨hq.1, hq.2.1, (hq.2.2.sift fun y hy => Or.inr (N y hy)).mono (by decide) (by decide)⟩⟩
theorem main_1_1 : Claimed_1_1 := comes_1 fun _ _ _ _ _ _ h hF => ⟨h.1, hF⟩
theorem main_1_2 : Claimed_1_2 := comes_1 fun _ _ _ _ _ _ h hF => ⟨h.2.1, hF⟩
end Jvm.Pilot.@@N@@
namespace Jvm.Pilot.@@N@@
open Jvm Jvm.ClassFile Sem Op Lib Jvm.Free Jvm.Stand Jvm.Pilot.@@N@@.Jvm.D
/-! MADE BY PROGRAM (witnessworld.py) out of the Statement's table words and the real class files: 9 classes; the members and pool entries that the words name. The judged class is class 1, her method 4. -/
namespace start1
open Jvm.ClassFile
def u (s : String) : CpInfo := .utf8 (stringToUtf16 s)
/-- a pool by its gaps: so many unusable entries, then the entry; so many at the end -/
def gap : Nat → List CpInfo → List CpInfo
  | 0, r => r
  | n + 1, r => .unusable :: gap n r
def poolList (es : List (Nat × CpInfo)) (last : Nat) : List CpInfo := es.foldr (fun e r => gap e.1 (e.2 :: r)) (gap last [])
def pool (es : List (Nat × CpInfo)) (last : Nat) : Array CpInfo := ⟨poolList es last⟩
def fileOf (pool : Array CpInfo) (this : Nat) (attrs : Array Attribute := #[]) (ms : Array MethodInfo := #[]) (fl : Nat := 33) (sup : Nat := 0) (ifs : Array Nat := #[]) (fds : Array FieldInfo := #[]) : ClassFile where
  minorVersion := 0
  majorVersion := 65
  constantPool := pool
  accessFlags := fl
  thisClass := this
  superClass := sup
  interfaces := ifs
  fields := fds
  methods := ms
  attributes := attrs
def plain (name : String) (sup : Option ClassId) : Class where
  name := name
  kind := .ordinary
  loader := none
  accessFlags := 33
  super := sup
  interfaces := #[]
  cf := none
  fields := #[]
  methods := #[]
  instanceTypes := #[]
  staticTypes := #[]
  resolved := #[]
  callSites := []
  init := .initialized
  statics := none
  mirror := none

def pool0 : Array CpInfo := pool [(5, u "<init>"), (0, u "()V"), (1, .class_ 10), (1, u "java/lang/Object")] 113

def k0c0 : Code := { maxStack := 0, maxLocals := 1, code := object_method_1_code, exceptionTable := #[], attributes := #[] }
def k0m0 : Method := { name := "<init>", desc := "()V", sig := { parameters := [], returnType := none }, accessFlags := 1, code := some k0c0 }
/-- java/lang/Object -/
def k0 : Class := { plain "java/lang/Object" none with
  accessFlags := 33
  interfaces := #[]
  cf := some (fileOf pool0 8 #[] #[{ accessFlags := 1, nameIndex := 5, descriptorIndex := 6, attributes := #[] }] 33 0 #[] #[])
  fields := #[]
  methods := #[k0m0]
  instanceTypes := #[]
  staticTypes := #[]
  resolved := Array.replicate 124 none
  statics := none }

def pool1 : Array CpInfo := pool [(2, .class_ 4), (1, u "java/lang/Object"), (0, u "<init>"), (0, u "()V"), (0, .methodref 8 9), (0, .class_ 10), (0, .nameAndType 11 12), (0, u "com/example/pondera/pondera/io/ReaderVarintPinLaw"), (0, u "payload"), (0, u "(JJI)I"), (0, .integer 2147483647), (0, .methodref 8 15), (0, .nameAndType 16 17), (0, u "place"), (0, u "([BIIIJJ)V"), (0, .methodref 8 19), (0, .nameAndType 20 21), (0, u "term"), (0, u "(JJII)J"), (0, .class_ 23), (0, u "com/example/pondera/pondera/io/IndexBytes$Reader"), (0, .methodref 22 25), (0, .nameAndType 5 26), (0, u "([BII)V"), (0, .methodref 22 28), (0, .nameAndType 29 30), (0, u "varint"), (0, u "()J"), (0, .methodref 22 32), (0, .nameAndType 33 34), (0, u "at"), (0, u "()I"), (3, u "law"), (0, u "(JJJII)Z")] 8

def k1m0 : Method := { name := "<init>", desc := "()V", sig := { parameters := [], returnType := none }, accessFlags := 2, code := none }
def k1c1 : Code := { maxStack := 5, maxLocals := 7, code := method_2_code, exceptionTable := #[], attributes := #[] }
def k1m1 : Method := { name := "payload", desc := "(JJI)I", sig := { parameters := [.long, .long, .int], returnType := some .int }, accessFlags := 10, code := some k1c1 }
def k1c2 : Code := { maxStack := 5, maxLocals := 9, code := method_3_code, exceptionTable := #[], attributes := #[] }
def k1m2 : Method := { name := "place", desc := "([BIIIJJ)V", sig := { parameters := [(.array .byte), .int, .int, .int, .long, .long], returnType := none }, accessFlags := 10, code := some k1c2 }
def k1c3 : Code := { maxStack := 5, maxLocals := 6, code := method_4_code, exceptionTable := #[], attributes := #[] }
def k1m3 : Method := { name := "term", desc := "(JJII)J", sig := { parameters := [.long, .long, .int, .int], returnType := some .long }, accessFlags := 10, code := some k1c3 }
def k1c4 : Code := { maxStack := 8, maxLocals := 16, code := code, exceptionTable := #[], attributes := #[] }
def k1m4 : Method := { name := "law", desc := "(JJJII)Z", sig := { parameters := [.long, .long, .long, .int, .int], returnType := some .boolean }, accessFlags := 9, code := some k1c4 }
/-- com/example/pondera/pondera/io/ReaderVarintPinLaw -/
def k1 : Class := { plain "com/example/pondera/pondera/io/ReaderVarintPinLaw" (some 0) with
  accessFlags := 49
  interfaces := #[]
  cf := some (fileOf pool1 8 #[] #[{ accessFlags := 2, nameIndex := 5, descriptorIndex := 6, attributes := #[] }, { accessFlags := 10, nameIndex := 11, descriptorIndex := 12, attributes := #[] }, { accessFlags := 10, nameIndex := 16, descriptorIndex := 17, attributes := #[] }, { accessFlags := 10, nameIndex := 20, descriptorIndex := 21, attributes := #[] }, { accessFlags := 9, nameIndex := 38, descriptorIndex := 39, attributes := #[] }] 49 2 #[] #[])
  fields := #[]
  methods := #[k1m0, k1m1, k1m2, k1m3, k1m4]
  instanceTypes := #[]
  staticTypes := #[]
  resolved := Array.replicate 48 none
  statics := none }

def pool2 : Array CpInfo := pool [(2, .class_ 4), (1, u "com/example/pondera/pondera/io/IndexBytes$Reader"), (0, u "<init>"), (0, u "([BII)V"), (0, .methodref 8 9), (0, .class_ 10), (0, .nameAndType 5 11), (0, u "java/lang/Object"), (0, u "()V"), (0, .fieldref 2 13), (0, .nameAndType 14 15), (0, u "bytes"), (0, u "[B"), (0, .fieldref 2 17), (0, .nameAndType 18 19), (0, u "at"), (0, u "I"), (0, .fieldref 2 21), (0, .nameAndType 22 19), (0, u "end"), (2, u "varint"), (0, u "()J"), (52, u "()I"), (17, .class_ 98), (0, u "com/example/pondera/pondera/io/IndexBytes")] 2

def k2c0 : Code := { maxStack := 2, maxLocals := 4, code := prog_103_method_2_code, exceptionTable := #[], attributes := #[] }
def k2m0 : Method := { name := "<init>", desc := "([BII)V", sig := { parameters := [(.array .byte), .int, .int], returnType := none }, accessFlags := 0, code := some k2c0 }
def k2c1 : Code := { maxStack := 1, maxLocals := 1, code := prog_103_method_3_code, exceptionTable := #[], attributes := #[] }
def k2m1 : Method := { name := "at", desc := "()I", sig := { parameters := [], returnType := some .int }, accessFlags := 0, code := some k2c1 }
def k2c2 : Code := { maxStack := 5, maxLocals := 5, code := prog_103_method_6_code, exceptionTable := #[], attributes := #[] }
def k2m2 : Method := { name := "varint", desc := "()J", sig := { parameters := [], returnType := some .long }, accessFlags := 0, code := some k2c2 }
/-- com/example/pondera/pondera/io/IndexBytes$Reader -/
def k2 : Class := { plain "com/example/pondera/pondera/io/IndexBytes$Reader" (some 0) with
  accessFlags := 48
  interfaces := #[]
  cf := some (fileOf pool2 2 #[.nestHost 97] #[{ accessFlags := 0, nameIndex := 5, descriptorIndex := 6, attributes := #[] }, { accessFlags := 0, nameIndex := 18, descriptorIndex := 79, attributes := #[] }, { accessFlags := 0, nameIndex := 25, descriptorIndex := 26, attributes := #[] }] 48 8 #[] #[{ accessFlags := 18, nameIndex := 14, descriptorIndex := 15, attributes := #[] }, { accessFlags := 18, nameIndex := 22, descriptorIndex := 19, attributes := #[] }, { accessFlags := 2, nameIndex := 18, descriptorIndex := 19, attributes := #[] }])
  fields := #[{ name := "bytes", type := (.array .byte), accessFlags := 18, slot := 0, constantValue := 0 }, { name := "end", type := .int, accessFlags := 18, slot := 1, constantValue := 0 }, { name := "at", type := .int, accessFlags := 2, slot := 2, constantValue := 0 }]
  methods := #[k2m0, k2m1, k2m2]
  instanceTypes := #[(.array .byte), .int, .int]
  staticTypes := #[]
  resolved := Array.replicate 101 none
  statics := none }

def pool3 : Array CpInfo := pool [(1, u "java/lang/Cloneable"), (0, .class_ 1), (0, u "java/lang/Object"), (0, .class_ 3)] 3

/-- java/lang/Cloneable -/
def k3 : Class := { plain "java/lang/Cloneable" (some 0) with
  accessFlags := 1537
  interfaces := #[]
  cf := some (fileOf pool3 2 #[] #[] 1537 4 #[] #[])
  fields := #[]
  methods := #[]
  instanceTypes := #[]
  staticTypes := #[]
  resolved := Array.replicate 8 none
  statics := none }

def pool4 : Array CpInfo := pool [(1, u "java/io/Serializable"), (0, .class_ 1), (0, u "java/lang/Object"), (0, .class_ 3)] 3

/-- java/io/Serializable -/
def k4 : Class := { plain "java/io/Serializable" (some 0) with
  accessFlags := 1537
  interfaces := #[]
  cf := some (fileOf pool4 2 #[] #[] 1537 4 #[] #[])
  fields := #[]
  methods := #[]
  instanceTypes := #[]
  staticTypes := #[]
  resolved := Array.replicate 8 none
  statics := none }

/-- the primitive byte -/
def k5 : Class := { plain "byte" none with kind := .primitive 'B', accessFlags := 0x411 }
/-- [B -/
def k6 : Class := { plain "[B" (some 0) with kind := .array 5 .byte, interfaces := #[3, 4], accessFlags := 1041 }

/-- the primitive int -/
def k7 : Class := { plain "int" none with kind := .primitive 'I', accessFlags := 0x411 }
/-- [I -/
def k8 : Class := { plain "[I" (some 0) with kind := .array 7 .int, interfaces := #[3, 4], accessFlags := 1041 }

def heap : Heap := #[]
def classes : Array Class := #[k0, k1, k2, k3, k4, k5, k6, k7, k8]
def interned : List (Array UInt16 × Addr) := []
def slotsUsed : Nat := 0
def theMethod : MethodId := ⟨1, 4⟩
def args0 : Array Value := #[.long 5, .long 3, .long 2, .int 4, .int 5]
def aboutOver (below : List Frame) : State where
  vm := { classes := classes, interned := interned.toArray }
  heap := heap
  slotsUsed := slotsUsed
  threads := #[{ frames := .invoking theMethod args0 :: below }]
def below0 : List Frame := [.native { method := ⟨0, 0⟩, args := #[] }]
def about1 : State := aboutOver below0
def p0 : Program := .bare "" "" ""
def e0 : Env := launch0.env 0 0 0
theorem w_frames : about1.frames = Frame.invoking theMethod args0 :: below0 := rfl
set_option maxRecDepth 65536 in
theorem w_args : argsFit about1.vm theMethod args0 = true := by decide +kernel
set_option maxRecDepth 65536 in
theorem w_heap : heapFits about1 = true := by decide +kernel
set_option maxRecDepth 65536 in
theorem w_runnable : about1.curStatus? = some .runnable := by decide +kernel
set_option maxRecDepth 65536 in
theorem w_alone : about1.alone = true := by decide +kernel
set_option maxRecDepth 65536 in
theorem w_named : about1.methodNamed? x = some theMethod := by decide +kernel
set_option maxRecDepth 65536 in
theorem w_hears : about1.hears theMethod below0 = true := by decide +kernel
set_option maxRecDepth 65536 in
theorem w_ripe : about1.ripe theMethod args0 below0 = true := by decide +kernel
theorem w_running : about1.status = .running := rfl
set_option maxRecDepth 65536 in
theorem w_room : about1.hasRoom e0.platform room_1 = true :=
  launch0.hasRoom_least _ room_1 (by decide +kernel) (by decide +kernel) (by decide +kernel) (by decide +kernel) (by decide +kernel) (by decide +kernel)
theorem allAtoms_all (ts : List Jvm.Cond) (a : Array Jvm.Value) (st : Jvm.State) : (allAtoms ts).before a st = ts.all (fun c => c.before a st) := by
  induction ts with
  | nil => rfl
  | cons c t ih =>
    show (Jvm.Cond.and c (allAtoms t)).before a st = _
    rw [Jvm.Cond.before_and, ih, List.all_cons]
def words1 : List Jvm.Cond := Jvm.Cond.code x code maxLocals ret :: tables_1
/-- a 'code' word, met by the world's own term for the bytes: nothing is compared byte by byte -/
theorem code_word {y : MethodName} {bytes : ByteArray} {mx : Nat} {rt : Option FieldType} {a : Array Value} {s : State} {m : MethodId} {meth : Method} {c : Code} (h1 : s.methodNamed? y = some m) (h2 : s.vm.method? m = some meth) (h3 : meth.code = some c) (h4 : c.code = bytes)
    (h5 : (c.maxLocals == mx && c.exceptionTable.isEmpty && decide (c.maxStack ≤ mostOperands) && decide (meth.sig.returnType = rt) && !meth.locks && decide (parseMethodDescriptor y.desc = some meth.sig)) = true) : (Jvm.Cond.code y bytes mx rt).before a s = true := by
  simp only [Bool.and_eq_true, beq_iff_eq, Bool.not_eq_true', decide_eq_true_eq] at h5
  obtain ⟨⟨⟨⟨⟨g1, g2⟩, g3⟩, g4⟩, g5⟩, g6⟩ := h5
  simp [Cond.before, Cond.holds, Cond.value, h1, h2, h3, h4, g1, g2, g3, g4, g5, g6]
def isCode : Jvm.Cond → Bool
  | .code _ _ _ _ => true
  | _ => false
theorem all_split {L : List Jvm.Cond} {P : Jvm.Cond → Bool} (h1 : L.all (fun c => isCode c || P c) = true) (h2 : ∀ c ∈ L.filter isCode, P c = true) : L.all P = true := by
  refine List.all_eq_true.mpr fun c hc => ?_
  have h := List.all_eq_true.mp h1 c hc
  rcases Bool.eq_false_or_eq_true (isCode c) with hi | hi
  · exact h2 c (List.mem_filter.mpr ⟨hc, hi⟩)
  · simpa [hi] using h
set_option maxRecDepth 65536 in
theorem w_c0 : (Jvm.Cond.code x code maxLocals ret).before args0 about1 = true := code_word (m := ⟨1, 4⟩) (meth := k1m4) (c := k1c4) (by decide +kernel) rfl rfl rfl (by decide +kernel)
set_option maxRecDepth 65536 in
theorem w_c1 : (Jvm.Cond.code ({ cls := "com/example/pondera/pondera/io/ReaderVarintPinLaw", name := "place", desc := "([BIIIJJ)V" } : Jvm.MethodName) method_3_code (9 : Nat) (Option.none : Option Jvm.ClassFile.FieldType)).before args0 about1 = true := code_word (m := ⟨1, 2⟩) (meth := k1m2) (c := k1c2) (by decide +kernel) rfl rfl rfl (by decide +kernel)
set_option maxRecDepth 65536 in
theorem w_c2 : (Jvm.Cond.code ({ cls := "com/example/pondera/pondera/io/ReaderVarintPinLaw", name := "payload", desc := "(JJI)I" } : Jvm.MethodName) method_2_code (7 : Nat) (Option.some Jvm.ClassFile.FieldType.int)).before args0 about1 = true := code_word (m := ⟨1, 1⟩) (meth := k1m1) (c := k1c1) (by decide +kernel) rfl rfl rfl (by decide +kernel)
set_option maxRecDepth 65536 in
theorem w_c3 : (Jvm.Cond.code ({ cls := "com/example/pondera/pondera/io/ReaderVarintPinLaw", name := "term", desc := "(JJII)J" } : Jvm.MethodName) method_4_code (6 : Nat) (Option.some Jvm.ClassFile.FieldType.long)).before args0 about1 = true := code_word (m := ⟨1, 3⟩) (meth := k1m3) (c := k1c3) (by decide +kernel) rfl rfl rfl (by decide +kernel)
set_option maxRecDepth 65536 in
theorem w_c4 : (Jvm.Cond.code ({ cls := "com/example/pondera/pondera/io/IndexBytes$Reader", name := "<init>", desc := "([BII)V" } : Jvm.MethodName) prog_103_method_2_code (4 : Nat) (Option.none : Option Jvm.ClassFile.FieldType)).before args0 about1 = true := code_word (m := ⟨2, 0⟩) (meth := k2m0) (c := k2c0) (by decide +kernel) rfl rfl rfl (by decide +kernel)
set_option maxRecDepth 65536 in
theorem w_c5 : (Jvm.Cond.code ({ cls := "java/lang/Object", name := "<init>", desc := "()V" } : Jvm.MethodName) object_method_1_code (1 : Nat) (Option.none : Option Jvm.ClassFile.FieldType)).before args0 about1 = true := code_word (m := ⟨0, 0⟩) (meth := k0m0) (c := k0c0) (by decide +kernel) rfl rfl rfl (by decide +kernel)
set_option maxRecDepth 65536 in
theorem w_c6 : (Jvm.Cond.code ({ cls := "com/example/pondera/pondera/io/IndexBytes$Reader", name := "varint", desc := "()J" } : Jvm.MethodName) prog_103_method_6_code (5 : Nat) (Option.some Jvm.ClassFile.FieldType.long)).before args0 about1 = true := code_word (m := ⟨2, 2⟩) (meth := k2m2) (c := k2c2) (by decide +kernel) rfl rfl rfl (by decide +kernel)
set_option maxRecDepth 65536 in
theorem w_c7 : (Jvm.Cond.code ({ cls := "com/example/pondera/pondera/io/IndexBytes$Reader", name := "at", desc := "()I" } : Jvm.MethodName) prog_103_method_3_code (1 : Nat) (Option.some Jvm.ClassFile.FieldType.int)).before args0 about1 = true := code_word (m := ⟨2, 1⟩) (meth := k2m1) (c := k2c1) (by decide +kernel) rfl rfl rfl (by decide +kernel)
def codes1 : List Jvm.Cond := [Jvm.Cond.code x code maxLocals ret, Jvm.Cond.code ({ cls := "com/example/pondera/pondera/io/ReaderVarintPinLaw", name := "place", desc := "([BIIIJJ)V" } : Jvm.MethodName) method_3_code (9 : Nat) (Option.none : Option Jvm.ClassFile.FieldType), Jvm.Cond.code ({ cls := "com/example/pondera/pondera/io/ReaderVarintPinLaw", name := "payload", desc := "(JJI)I" } : Jvm.MethodName) method_2_code (7 : Nat) (Option.some Jvm.ClassFile.FieldType.int), Jvm.Cond.code ({ cls := "com/example/pondera/pondera/io/ReaderVarintPinLaw", name := "term", desc := "(JJII)J" } : Jvm.MethodName) method_4_code (6 : Nat) (Option.some Jvm.ClassFile.FieldType.long), Jvm.Cond.code ({ cls := "com/example/pondera/pondera/io/IndexBytes$Reader", name := "<init>", desc := "([BII)V" } : Jvm.MethodName) prog_103_method_2_code (4 : Nat) (Option.none : Option Jvm.ClassFile.FieldType), Jvm.Cond.code ({ cls := "java/lang/Object", name := "<init>", desc := "()V" } : Jvm.MethodName) object_method_1_code (1 : Nat) (Option.none : Option Jvm.ClassFile.FieldType), Jvm.Cond.code ({ cls := "com/example/pondera/pondera/io/IndexBytes$Reader", name := "varint", desc := "()J" } : Jvm.MethodName) prog_103_method_6_code (5 : Nat) (Option.some Jvm.ClassFile.FieldType.long), Jvm.Cond.code ({ cls := "com/example/pondera/pondera/io/IndexBytes$Reader", name := "at", desc := "()I" } : Jvm.MethodName) prog_103_method_3_code (1 : Nat) (Option.some Jvm.ClassFile.FieldType.int)]
set_option maxRecDepth 65536 in
theorem codes_eq : words1.filter isCode = codes1 := rfl
theorem w_codes : ∀ c ∈ words1.filter isCode, c.before args0 about1 = true := by
  rw [codes_eq]
  intro c hc
  simp only [codes1, List.mem_cons, List.not_mem_nil, or_false] at hc
  rcases hc with rfl | rfl | rfl | rfl | rfl | rfl | rfl | rfl
  · exact w_c0
  · exact w_c1
  · exact w_c2
  · exact w_c3
  · exact w_c4
  · exact w_c5
  · exact w_c6
  · exact w_c7
set_option maxRecDepth 65536 in
theorem w_t1 : (words1.take 24).all (fun c => isCode c || c.before args0 about1) = true := by decide +kernel
set_option maxRecDepth 65536 in
theorem w_t2 : (words1.drop 24).all (fun c => isCode c || c.before args0 about1) = true := by decide +kernel
theorem w_tables : (allAtoms (Jvm.Cond.code x code maxLocals ret :: tables_1)).before args0 about1 = true := by
  rw [allAtoms_all]
  show words1.all (fun c => c.before args0 about1) = true
  refine all_split ?_ w_codes
  rw [← List.take_append_drop 24 words1, List.all_append, w_t1, w_t2]
  rfl
set_option maxRecDepth 65536 in
theorem w_case : (Jvm.Cond.and given_1 narrow_1).before args0 about1 = true := by decide +kernel
theorem w_applies : (headSpec (Jvm.Cond.code x code maxLocals ret :: tables_1) room_1).applies x e0.platform about1 = true :=
  (Spec.applies_iff w_frames).mpr ⟨w_running, w_runnable, w_alone, w_named, w_hears, w_ripe, w_room, w_tables⟩
theorem atStart : AtStart classFile x code maxLocals ret World_1 tables_1 room_1 Calls_1 rest_1 Pre_1 launch0 p0 e0 about1 theMethod args0 below0 :=
  ⟨lists_1, trivial, launch0.admits_env _ _ _, launch0.least_env, fairChoices_fair.cas, fairChoices_fair.clock, w_frames, w_args, w_heap, w_applies, trivial, trivial, w_case⟩
end start1
theorem witness_1 : WitnessClaimed_1 := ⟨start1.p0, start1.e0, start1.about1, start1.theMethod, start1.args0, start1.below0, start1.atStart⟩
end Jvm.Pilot.@@N@@
