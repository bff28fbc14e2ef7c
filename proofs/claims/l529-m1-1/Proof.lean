import JvmDerived
import JvmDerived.Pilot.@@N@@Statement
import JvmDerived.Pilot.@@N@@Code
set_option linter.unusedVariables false
set_option linter.unusedSimpArgs false
namespace Jvm.OwnW
open Sem ClassFile Op Lib Jvm.Stand Jvm.Free Jvm.LawKit Jvm.RoadKit
theorem retI' {p : Program} {l : Launch} {e : Env} {R : Room} {s : State} {m : MethodId} {args : Array Value} {below : List Frame} {meth : Method} {c : Code} {T : State} {locs : List Loc} {cells slots : Nat} (X : Stand p l e R s m args below meth c T locs cells slots) (hx : p.tables.exec = Jvm.exec) {pc : Nat} {Ls : Array Slot} {z : Int32} {rest : List Value} (hret : meth.sig.returnType = some .int) (hd : decode c.code pc = .ok (.ireturn, 1)) {fs : List Frame}
    (hl : ∀ (f : JFrame) (acts : List Action), f.method = m → f.locked = none → f.entered = [] → (doReturn e (T.setTop f) acts (some (.int z))).1 = T.setFrames fs) : Steps p.tables e below (T.setTop (mkF m pc Ls (.int z :: rest))) (T.setFrames fs) :=
  retOut X hx hret rfl (Or.inl ⟨rfl, Or.inl rfl, z, rfl⟩) hd hl
end Jvm.OwnW
namespace Jvm.OwnW
open Sem ClassFile Op Lib Jvm.Stand Jvm.Free Jvm.LawKit Jvm.RoadKit
def ushrI (x y : Int32) : Int32 := (x.toUInt32 >>> (y &&& 31).toUInt32).toInt32
def shlI (x y : Int32) : Int32 := x <<< (y &&& 31)
def shrI (x y : Int32) : Int32 := x >>> (y &&& 31)
def shlJ (x : Int64) (y : Int32) : Int64 := x <<< (y &&& 0x3f).toInt64
def shrJ (x : Int64) (y : Int32) : Int64 := x >>> (y &&& 0x3f).toInt64
def ushrJ (x : Int64) (y : Int32) : Int64 := (x.toUInt64 >>> (y &&& 0x3f).toInt64.toUInt64).toInt64
def cmpJ (x y : Int64) : Int32 := if x > y then 1 else if x = y then 0 else -1
def i8 (x : Int32) : Int32 := x.toInt8.toInt32
def i16c (x : Int32) : Int32 := x.toUInt32.toUInt16.toUInt32.toInt32
/-- from T with g on top the run comes to its end, and P says of what it returns and of the heap -/
def Goes (p : Program) (e : Env) (below : List Frame) (s : State) (n0 : Nat) (P : Option Value → Heap → Prop) (k n : Nat) (T : State) (g : JFrame) : Prop :=
  ∃ s₂ o, Steps p.tables e below (T.setTop g) s₂ ∧ s₂.status = .running ∧ Ended s₂ below o ∧ ∃ v L, o = .returned v ∧ (Fr n0 L ∧ P v s₂.heap) ∧ FrameEnd s o s₂ L k n
/-- where a walk stands: nothing old is written, the heap is h -/
def Hr (p : Program) (l : Launch) (e : Env) (R : Room) (s : State) (m : MethodId) (args : Array Value) (below : List Frame) (meth : Method) (c : Code) (n0 : Nat) (h : Heap) (cells slots : Nat) (T : State) : Prop :=
  ∃ locs, Stand p l e R s m args below meth c T locs cells slots ∧ T.heap = h ∧ Fr n0 locs ∧ n0 ≤ s.heap.size
/-- what stays through a body -/
def Cx (p : Program) (s : State) (m : MethodId) (meth : Method) (c : Code) (code : ByteArray) (ml : Nat) (ret : Option FieldType) (own nm : String) (Z : State) (a0 : Array Value) (tabs : List Jvm.Cond) : Prop :=
  p.tables.exec = Jvm.exec ∧ c.code = code ∧ c.maxLocals = ml ∧ meth.sig.returnType = ret ∧ meth.locks = false ∧ s.vm.findClass own = some m.cls ∧ meth.name = nm ∧ Z.Warmed39 s.vm ∧ ∀ d ∈ tabs, d.before a0 Z = true
/-- a body's contract: called with these arguments at this heap it returns, nothing old is written, and P says the rest -/
def Ct (l : Launch) (y : MethodName) (bytes : ByteArray) (maxL : Nat) (ret : Option FieldType) (rm : Room) (Z : State) (as' : Array Value) (h : Heap) (n0 : Nat) (P : Option Value → Heap → Prop) : Prop :=
  ∀ ws, MetFree l y (head1 (Jvm.Cond.code y bytes maxL ret :: ws) rm) (fun a U => a = as' ∧ Z.Warmed39 U.vm ∧ U.heap = h) (fun _ _ _ _ _ => True) (fun _ U o U' => ∃ v L, o = .returned v ∧ (Fr n0 L ∧ P v U'.heap) ∧ FrameEnd U o U' L rm.cells rm.slots)
def up {α : Type} (g : Nat → α) (j : Nat) (v : α) : Nat → α := fun i => if i = j then v else g i
/-- an array of N places: place i holds f i -/
def ArV (Z : State) (h : Heap) (a : Addr) (ty : FieldType) (N : Nat) (f : Nat → Value) : Prop := ∃ cl : Cell, Arr Z h a cl ty ∧ cl.slots.size = N ∧ ∀ i, i < N → cl.slots[i]? = some (f i)
abbrev ArI (Z : State) (h : Heap) (a : Addr) (ty : FieldType) (N : Nat) (g : Nat → Int32) : Prop := ArV Z h a ty N (fun i => .int (g i))
abbrev ArJ (Z : State) (h : Heap) (a : Addr) (N : Nat) (g : Nat → Int64) : Prop := ArV Z h a .long N (fun i => .long (g i))
/-- an index as a natural number -/
def nt (j : Int32) : Nat := j.toInt.toNat
theorem nt_eq {j : Int32} (h : 0 ≤ j.toInt) : j.toInt = (nt j : Int) := by unfold nt; omega
theorem nt_lt {j : Int32} {N : Nat} (h : j.toInt < N) (h0 : 0 < N) : nt j < N := by unfold nt; omega
theorem add1 {x : Int32} (y : Int32) (d : Int) (hd : y.toInt = d) (h1 : -2147483648 ≤ x.toInt + d) (h2 : x.toInt + d < 2147483648) : (x + y).toInt = x.toInt + d := by
  have h := c_iadd x y
  have r := rng32 (x + y)
  omega
theorem sub1 {x : Int32} (y : Int32) (d : Int) (hd : y.toInt = d) (h1 : -2147483648 ≤ x.toInt - d) (h2 : x.toInt - d < 2147483648) : (x - y).toInt = x.toInt - d := by
  have h := c_isub x y
  have r := rng32 (x - y)
  omega
section W
variable {p : Program} {l : Launch} {e : Env} {R : Room} {s : State} {m : MethodId} {args : Array Value} {below : List Frame} {meth : Method} {c : Code} {T : State} {h h' : Heap} {cells slots : Nat} {n0 : Nat} {P : Option Value → Heap → Prop} {k n : Nat} {code : ByteArray} {ml : Nat} {ret : Option FieldType} {own nm : String} {Z : State} {a0 : Array Value} {tabs : List Jvm.Cond}
theorem Goes.of {g g' : JFrame} {T' : State} (st : ∀ target, Steps p.tables e below (T'.setTop g') target → Steps p.tables e below (T.setTop g) target) (K : Goes p e below s n0 P k n T' g') : Goes p e below s n0 P k n T g := by
  obtain ⟨s₂, o, h1, r⟩ := K
  exact ⟨s₂, o, st _ h1, r⟩
theorem Goes.imp {P' : Option Value → Heap → Prop} {g : JFrame} (hp : ∀ v h, P v h → P' v h) (K : Goes p e below s n0 P k n T g) : Goes p e below s n0 P' k n T g := by
  obtain ⟨s₂, o, h1, h2, h3, v, L, h4, h5, h6⟩ := K
  exact ⟨s₂, o, h1, h2, h3, v, L, h4, ⟨h5.1, hp _ _ h5.2⟩, h6⟩
theorem Ct.imp {y : MethodName} {bytes : ByteArray} {maxL : Nat} {rm : Room} {as' : Array Value} {P' : Option Value → Heap → Prop} (hp : ∀ v h, P v h → P' v h) (K : Ct l y bytes maxL ret rm Z as' h n0 P) : Ct l y bytes maxL ret rm Z as' h n0 P' := by
  intro ws p e ha hc hk s m args below hf happ hP hK
  obtain ⟨n, o, h1, h2, h3, v, L, h4, h5, h6⟩ := K ws p e ha hc hk s m args below hf happ hP hK
  exact ⟨n, o, h1, h2, h3, v, L, h4, ⟨h5.1, hp _ _ h5.2⟩, h6⟩
theorem Hr.size (X : Hr p l e R s m args below meth c n0 h cells slots T) : n0 ≤ h.size := by
  obtain ⟨locs, S, eT, N, q⟩ := X
  have q2 : s.heap.size ≤ T.heap.size := S.same.2.1
  rw [eT] at q2
  exact Nat.le_trans q q2
theorem Ct.of {y : MethodName} {bytes : ByteArray} {maxL : Nat} {rm : Room} {as' : Array Value} (hpl : plainFor y = true) (Ls : Array Slot) (hef : ∀ m, entryFrame m as' maxL = mkF m 0 Ls []) (hw : ∀ d ∈ tabs, d.before a0 Z = true) (hn0 : n0 ≤ h.size)
    (K : ∀ p e s m below meth c T, Cx p s m meth c bytes maxL ret y.cls y.name Z a0 tabs → Hr p l e rm s m as' below meth c n0 h 0 0 T → Goes p e below s n0 P rm.cells rm.slots T (mkF m 0 Ls [])) :
    Ct l y bytes maxL ret rm Z as' h n0 P := by
  intro ws
  refine MetFree.of_bodySF hpl hisR ?_
  intro p e s m args below meth c s₁ Bd hml0 hP hK
  obtain ⟨rfl, hZ, hh⟩ := hP
  obtain ⟨s₂, o, h1, r⟩ := K p e s m below meth c s₁ ⟨Bd.exec, Bd.bytes, hml0, Bd.returns, BodyLoose.notSynchronized Bd, findClass_of_methodNamed Bd.named, (name_of_methodNamed Bd.named Bd.method).1, hZ, hw⟩ ⟨[], Stand.of_body Bd, by rw [← hh, Bd.state]; rfl, Fr.nil n0, by rw [hh]; exact hn0⟩
  exact ⟨s₂, o, castTop (hef m) h1, r⟩

theorem w_iadd (X : Hr p l e R s m args below meth c n0 h cells slots T) (C : Cx p s m meth c code ml ret own nm Z a0 tabs) {pc : Nat} {Ls : Array Slot} {x y : Int32} {rest : List Value} (hd : decode code pc = .ok (.iadd, 1)) (K : Goes p e below s n0 P k n T (mkF m (pc + 1) Ls (.int (x + y) :: rest))) : Goes p e below s n0 P k n T (mkF m pc Ls (.int y :: .int x :: rest)) := by
  obtain ⟨locs, S, -, -, -⟩ := X
  exact Goes.of (fun _ kk => XS.iadd S.here C.1 rfl (hb C.2.1 hd) rfl kk) K
theorem w_isub (X : Hr p l e R s m args below meth c n0 h cells slots T) (C : Cx p s m meth c code ml ret own nm Z a0 tabs) {pc : Nat} {Ls : Array Slot} {x y : Int32} {rest : List Value} (hd : decode code pc = .ok (.isub, 1)) (K : Goes p e below s n0 P k n T (mkF m (pc + 1) Ls (.int (x - y) :: rest))) : Goes p e below s n0 P k n T (mkF m pc Ls (.int y :: .int x :: rest)) := by
  obtain ⟨locs, S, -, -, -⟩ := X
  exact Goes.of (fun _ kk => XS.isub S.here C.1 rfl (hb C.2.1 hd) rfl kk) K
theorem w_imul (X : Hr p l e R s m args below meth c n0 h cells slots T) (C : Cx p s m meth c code ml ret own nm Z a0 tabs) {pc : Nat} {Ls : Array Slot} {x y : Int32} {rest : List Value} (hd : decode code pc = .ok (.imul, 1)) (K : Goes p e below s n0 P k n T (mkF m (pc + 1) Ls (.int (x * y) :: rest))) : Goes p e below s n0 P k n T (mkF m pc Ls (.int y :: .int x :: rest)) := by
  obtain ⟨locs, S, -, -, -⟩ := X
  exact Goes.of (fun _ kk => XS.imul S.here C.1 rfl (hb C.2.1 hd) rfl kk) K
theorem w_iand (X : Hr p l e R s m args below meth c n0 h cells slots T) (C : Cx p s m meth c code ml ret own nm Z a0 tabs) {pc : Nat} {Ls : Array Slot} {x y : Int32} {rest : List Value} (hd : decode code pc = .ok (.iand, 1)) (K : Goes p e below s n0 P k n T (mkF m (pc + 1) Ls (.int (x &&& y) :: rest))) : Goes p e below s n0 P k n T (mkF m pc Ls (.int y :: .int x :: rest)) := by
  obtain ⟨locs, S, -, -, -⟩ := X
  exact Goes.of (fun _ kk => XS.iand S.here C.1 rfl (hb C.2.1 hd) rfl kk) K
theorem w_ior (X : Hr p l e R s m args below meth c n0 h cells slots T) (C : Cx p s m meth c code ml ret own nm Z a0 tabs) {pc : Nat} {Ls : Array Slot} {x y : Int32} {rest : List Value} (hd : decode code pc = .ok (.ior, 1)) (K : Goes p e below s n0 P k n T (mkF m (pc + 1) Ls (.int (x ||| y) :: rest))) : Goes p e below s n0 P k n T (mkF m pc Ls (.int y :: .int x :: rest)) := by
  obtain ⟨locs, S, -, -, -⟩ := X
  exact Goes.of (fun _ kk => XS.ior S.here C.1 rfl (hb C.2.1 hd) rfl kk) K
theorem w_ixor (X : Hr p l e R s m args below meth c n0 h cells slots T) (C : Cx p s m meth c code ml ret own nm Z a0 tabs) {pc : Nat} {Ls : Array Slot} {x y : Int32} {rest : List Value} (hd : decode code pc = .ok (.ixor, 1)) (K : Goes p e below s n0 P k n T (mkF m (pc + 1) Ls (.int (x ^^^ y) :: rest))) : Goes p e below s n0 P k n T (mkF m pc Ls (.int y :: .int x :: rest)) := by
  obtain ⟨locs, S, -, -, -⟩ := X
  exact Goes.of (fun _ kk => XS.ixor S.here C.1 rfl (hb C.2.1 hd) rfl kk) K
theorem w_ishl (X : Hr p l e R s m args below meth c n0 h cells slots T) (C : Cx p s m meth c code ml ret own nm Z a0 tabs) {pc : Nat} {Ls : Array Slot} {x y : Int32} {rest : List Value} (hd : decode code pc = .ok (.ishl, 1)) (K : Goes p e below s n0 P k n T (mkF m (pc + 1) Ls (.int (shlI x y) :: rest))) : Goes p e below s n0 P k n T (mkF m pc Ls (.int y :: .int x :: rest)) := by
  obtain ⟨locs, S, -, -, -⟩ := X
  exact Goes.of (fun _ kk => XS.ishl S.here C.1 rfl (hb C.2.1 hd) rfl kk) K
theorem w_ishr (X : Hr p l e R s m args below meth c n0 h cells slots T) (C : Cx p s m meth c code ml ret own nm Z a0 tabs) {pc : Nat} {Ls : Array Slot} {x y : Int32} {rest : List Value} (hd : decode code pc = .ok (.ishr, 1)) (K : Goes p e below s n0 P k n T (mkF m (pc + 1) Ls (.int (shrI x y) :: rest))) : Goes p e below s n0 P k n T (mkF m pc Ls (.int y :: .int x :: rest)) := by
  obtain ⟨locs, S, -, -, -⟩ := X
  exact Goes.of (fun _ kk => XS.ishr S.here C.1 rfl (hb C.2.1 hd) rfl kk) K
theorem w_iushr (X : Hr p l e R s m args below meth c n0 h cells slots T) (C : Cx p s m meth c code ml ret own nm Z a0 tabs) {pc : Nat} {Ls : Array Slot} {x y : Int32} {rest : List Value} (hd : decode code pc = .ok (.iushr, 1)) (K : Goes p e below s n0 P k n T (mkF m (pc + 1) Ls (.int (ushrI x y) :: rest))) : Goes p e below s n0 P k n T (mkF m pc Ls (.int y :: .int x :: rest)) := by
  obtain ⟨locs, S, -, -, -⟩ := X
  exact Goes.of (fun _ kk => XS.iushr S.here C.1 rfl (hb C.2.1 hd) rfl kk) K
theorem w_ladd (X : Hr p l e R s m args below meth c n0 h cells slots T) (C : Cx p s m meth c code ml ret own nm Z a0 tabs) {pc : Nat} {Ls : Array Slot} {x y : Int64} {rest : List Value} (hd : decode code pc = .ok (.ladd, 1)) (K : Goes p e below s n0 P k n T (mkF m (pc + 1) Ls (.long (x + y) :: rest))) : Goes p e below s n0 P k n T (mkF m pc Ls (.long y :: .long x :: rest)) := by
  obtain ⟨locs, S, -, -, -⟩ := X
  exact Goes.of (fun _ kk => XS.ladd S.here C.1 rfl (hb C.2.1 hd) rfl kk) K
theorem w_lsub (X : Hr p l e R s m args below meth c n0 h cells slots T) (C : Cx p s m meth c code ml ret own nm Z a0 tabs) {pc : Nat} {Ls : Array Slot} {x y : Int64} {rest : List Value} (hd : decode code pc = .ok (.lsub, 1)) (K : Goes p e below s n0 P k n T (mkF m (pc + 1) Ls (.long (x - y) :: rest))) : Goes p e below s n0 P k n T (mkF m pc Ls (.long y :: .long x :: rest)) := by
  obtain ⟨locs, S, -, -, -⟩ := X
  exact Goes.of (fun _ kk => XS.lsub S.here C.1 rfl (hb C.2.1 hd) rfl kk) K
theorem w_lmul (X : Hr p l e R s m args below meth c n0 h cells slots T) (C : Cx p s m meth c code ml ret own nm Z a0 tabs) {pc : Nat} {Ls : Array Slot} {x y : Int64} {rest : List Value} (hd : decode code pc = .ok (.lmul, 1)) (K : Goes p e below s n0 P k n T (mkF m (pc + 1) Ls (.long (x * y) :: rest))) : Goes p e below s n0 P k n T (mkF m pc Ls (.long y :: .long x :: rest)) := by
  obtain ⟨locs, S, -, -, -⟩ := X
  exact Goes.of (fun _ kk => XS.lmul S.here C.1 rfl (hb C.2.1 hd) rfl kk) K
theorem w_land (X : Hr p l e R s m args below meth c n0 h cells slots T) (C : Cx p s m meth c code ml ret own nm Z a0 tabs) {pc : Nat} {Ls : Array Slot} {x y : Int64} {rest : List Value} (hd : decode code pc = .ok (.land, 1)) (K : Goes p e below s n0 P k n T (mkF m (pc + 1) Ls (.long (x &&& y) :: rest))) : Goes p e below s n0 P k n T (mkF m pc Ls (.long y :: .long x :: rest)) := by
  obtain ⟨locs, S, -, -, -⟩ := X
  exact Goes.of (fun _ kk => XS.land S.here C.1 rfl (hb C.2.1 hd) rfl kk) K
theorem w_lor (X : Hr p l e R s m args below meth c n0 h cells slots T) (C : Cx p s m meth c code ml ret own nm Z a0 tabs) {pc : Nat} {Ls : Array Slot} {x y : Int64} {rest : List Value} (hd : decode code pc = .ok (.lor, 1)) (K : Goes p e below s n0 P k n T (mkF m (pc + 1) Ls (.long (x ||| y) :: rest))) : Goes p e below s n0 P k n T (mkF m pc Ls (.long y :: .long x :: rest)) := by
  obtain ⟨locs, S, -, -, -⟩ := X
  exact Goes.of (fun _ kk => XS.lor S.here C.1 rfl (hb C.2.1 hd) rfl kk) K
theorem w_lxor (X : Hr p l e R s m args below meth c n0 h cells slots T) (C : Cx p s m meth c code ml ret own nm Z a0 tabs) {pc : Nat} {Ls : Array Slot} {x y : Int64} {rest : List Value} (hd : decode code pc = .ok (.lxor, 1)) (K : Goes p e below s n0 P k n T (mkF m (pc + 1) Ls (.long (x ^^^ y) :: rest))) : Goes p e below s n0 P k n T (mkF m pc Ls (.long y :: .long x :: rest)) := by
  obtain ⟨locs, S, -, -, -⟩ := X
  exact Goes.of (fun _ kk => XS.lxor S.here C.1 rfl (hb C.2.1 hd) rfl kk) K
theorem w_lshl (X : Hr p l e R s m args below meth c n0 h cells slots T) (C : Cx p s m meth c code ml ret own nm Z a0 tabs) {pc : Nat} {Ls : Array Slot} {x : Int64} {y : Int32} {rest : List Value} (hd : decode code pc = .ok (.lshl, 1)) (K : Goes p e below s n0 P k n T (mkF m (pc + 1) Ls (.long (shlJ x y) :: rest))) : Goes p e below s n0 P k n T (mkF m pc Ls (.int y :: .long x :: rest)) := by
  obtain ⟨locs, S, -, -, -⟩ := X
  exact Goes.of (fun _ kk => XS.lshl S.here C.1 rfl (hb C.2.1 hd) rfl kk) K
theorem w_lshr (X : Hr p l e R s m args below meth c n0 h cells slots T) (C : Cx p s m meth c code ml ret own nm Z a0 tabs) {pc : Nat} {Ls : Array Slot} {x : Int64} {y : Int32} {rest : List Value} (hd : decode code pc = .ok (.lshr, 1)) (K : Goes p e below s n0 P k n T (mkF m (pc + 1) Ls (.long (shrJ x y) :: rest))) : Goes p e below s n0 P k n T (mkF m pc Ls (.int y :: .long x :: rest)) := by
  obtain ⟨locs, S, -, -, -⟩ := X
  exact Goes.of (fun _ kk => XS.lshr S.here C.1 rfl (hb C.2.1 hd) rfl kk) K
theorem w_lushr (X : Hr p l e R s m args below meth c n0 h cells slots T) (C : Cx p s m meth c code ml ret own nm Z a0 tabs) {pc : Nat} {Ls : Array Slot} {x : Int64} {y : Int32} {rest : List Value} (hd : decode code pc = .ok (.lushr, 1)) (K : Goes p e below s n0 P k n T (mkF m (pc + 1) Ls (.long (ushrJ x y) :: rest))) : Goes p e below s n0 P k n T (mkF m pc Ls (.int y :: .long x :: rest)) := by
  obtain ⟨locs, S, -, -, -⟩ := X
  exact Goes.of (fun _ kk => XS.lushr S.here C.1 rfl (hb C.2.1 hd) rfl kk) K
theorem w_lcmp (X : Hr p l e R s m args below meth c n0 h cells slots T) (C : Cx p s m meth c code ml ret own nm Z a0 tabs) {pc : Nat} {Ls : Array Slot} {x y : Int64} {rest : List Value} (hd : decode code pc = .ok (.lcmp, 1)) (K : Goes p e below s n0 P k n T (mkF m (pc + 1) Ls (.int (cmpJ x y) :: rest))) : Goes p e below s n0 P k n T (mkF m pc Ls (.long y :: .long x :: rest)) := by
  obtain ⟨locs, S, -, -, -⟩ := X
  exact Goes.of (fun _ kk => XS.lcmp S.here C.1 rfl (hb C.2.1 hd) rfl kk) K
theorem w_i2b (X : Hr p l e R s m args below meth c n0 h cells slots T) (C : Cx p s m meth c code ml ret own nm Z a0 tabs) {pc : Nat} {Ls : Array Slot} {x : Int32} {rest : List Value} (hd : decode code pc = .ok (.i2b, 1)) (K : Goes p e below s n0 P k n T (mkF m (pc + 1) Ls (.int (i8 x) :: rest))) : Goes p e below s n0 P k n T (mkF m pc Ls (.int x :: rest)) := by
  obtain ⟨locs, S, -, -, -⟩ := X
  exact Goes.of (fun _ kk => XS.i2b S.here C.1 rfl (hb C.2.1 hd) rfl kk) K
theorem w_i2c (X : Hr p l e R s m args below meth c n0 h cells slots T) (C : Cx p s m meth c code ml ret own nm Z a0 tabs) {pc : Nat} {Ls : Array Slot} {x : Int32} {rest : List Value} (hd : decode code pc = .ok (.i2c, 1)) (K : Goes p e below s n0 P k n T (mkF m (pc + 1) Ls (.int (i16c x) :: rest))) : Goes p e below s n0 P k n T (mkF m pc Ls (.int x :: rest)) := by
  obtain ⟨locs, S, -, -, -⟩ := X
  exact Goes.of (fun _ kk => XS.i2c S.here C.1 rfl (hb C.2.1 hd) rfl kk) K
theorem w_i2s (X : Hr p l e R s m args below meth c n0 h cells slots T) (C : Cx p s m meth c code ml ret own nm Z a0 tabs) {pc : Nat} {Ls : Array Slot} {x : Int32} {rest : List Value} (hd : decode code pc = .ok (.i2s, 1)) (K : Goes p e below s n0 P k n T (mkF m (pc + 1) Ls (.int (x.toInt16.toInt32) :: rest))) : Goes p e below s n0 P k n T (mkF m pc Ls (.int x :: rest)) := by
  obtain ⟨locs, S, -, -, -⟩ := X
  exact Goes.of (fun _ kk => XS.i2s S.here C.1 rfl (hb C.2.1 hd) rfl kk) K
theorem w_ineg (X : Hr p l e R s m args below meth c n0 h cells slots T) (C : Cx p s m meth c code ml ret own nm Z a0 tabs) {pc : Nat} {Ls : Array Slot} {x : Int32} {rest : List Value} (hd : decode code pc = .ok (.ineg, 1)) (K : Goes p e below s n0 P k n T (mkF m (pc + 1) Ls (.int (-x) :: rest))) : Goes p e below s n0 P k n T (mkF m pc Ls (.int x :: rest)) := by
  obtain ⟨locs, S, -, -, -⟩ := X
  exact Goes.of (fun _ kk => XS.ineg S.here C.1 rfl (hb C.2.1 hd) rfl kk) K
theorem w_i2l (X : Hr p l e R s m args below meth c n0 h cells slots T) (C : Cx p s m meth c code ml ret own nm Z a0 tabs) {pc : Nat} {Ls : Array Slot} {x : Int32} {rest : List Value} (hd : decode code pc = .ok (.i2l, 1)) (K : Goes p e below s n0 P k n T (mkF m (pc + 1) Ls (.long (x.toInt64) :: rest))) : Goes p e below s n0 P k n T (mkF m pc Ls (.int x :: rest)) := by
  obtain ⟨locs, S, -, -, -⟩ := X
  exact Goes.of (fun _ kk => XS.i2l S.here C.1 rfl (hb C.2.1 hd) rfl kk) K
theorem w_l2i (X : Hr p l e R s m args below meth c n0 h cells slots T) (C : Cx p s m meth c code ml ret own nm Z a0 tabs) {pc : Nat} {Ls : Array Slot} {x : Int64} {rest : List Value} (hd : decode code pc = .ok (.l2i, 1)) (K : Goes p e below s n0 P k n T (mkF m (pc + 1) Ls (.int (x.toInt32) :: rest))) : Goes p e below s n0 P k n T (mkF m pc Ls (.long x :: rest)) := by
  obtain ⟨locs, S, -, -, -⟩ := X
  exact Goes.of (fun _ kk => XS.l2i S.here C.1 rfl (hb C.2.1 hd) rfl kk) K
theorem w_lneg (X : Hr p l e R s m args below meth c n0 h cells slots T) (C : Cx p s m meth c code ml ret own nm Z a0 tabs) {pc : Nat} {Ls : Array Slot} {x : Int64} {rest : List Value} (hd : decode code pc = .ok (.lneg, 1)) (K : Goes p e below s n0 P k n T (mkF m (pc + 1) Ls (.long (-x) :: rest))) : Goes p e below s n0 P k n T (mkF m pc Ls (.long x :: rest)) := by
  obtain ⟨locs, S, -, -, -⟩ := X
  exact Goes.of (fun _ kk => XS.lneg S.here C.1 rfl (hb C.2.1 hd) rfl kk) K
theorem w_idiv (X : Hr p l e R s m args below meth c n0 h cells slots T) (C : Cx p s m meth c code ml ret own nm Z a0 tabs) {pc : Nat} {Ls : Array Slot} {x y : Int32} {rest : List Value} (hd : decode code pc = .ok (.idiv, 1)) (hy : y ≠ 0) (K : Goes p e below s n0 P k n T (mkF m (pc + 1) Ls (.int (x / y) :: rest))) : Goes p e below s n0 P k n T (mkF m pc Ls (.int y :: .int x :: rest)) := by
  obtain ⟨locs, S, -, -, -⟩ := X
  exact Goes.of (fun _ kk => XS.idiv S.here C.1 rfl (hb C.2.1 hd) rfl hy kk) K
theorem w_ldiv (X : Hr p l e R s m args below meth c n0 h cells slots T) (C : Cx p s m meth c code ml ret own nm Z a0 tabs) {pc : Nat} {Ls : Array Slot} {x y : Int64} {rest : List Value} (hd : decode code pc = .ok (.ldiv, 1)) (hy : y ≠ 0) (K : Goes p e below s n0 P k n T (mkF m (pc + 1) Ls (.long (x / y) :: rest))) : Goes p e below s n0 P k n T (mkF m pc Ls (.long y :: .long x :: rest)) := by
  obtain ⟨locs, S, -, -, -⟩ := X
  exact Goes.of (fun _ kk => XS.ldiv S.here C.1 rfl (hb C.2.1 hd) rfl hy kk) K
theorem w_irem (X : Hr p l e R s m args below meth c n0 h cells slots T) (C : Cx p s m meth c code ml ret own nm Z a0 tabs) {pc : Nat} {Ls : Array Slot} {x y : Int32} {rest : List Value} (hd : decode code pc = .ok (.irem, 1)) (hy : y ≠ 0) (K : Goes p e below s n0 P k n T (mkF m (pc + 1) Ls (.int (x % y) :: rest))) : Goes p e below s n0 P k n T (mkF m pc Ls (.int y :: .int x :: rest)) := by
  obtain ⟨locs, S, -, -, -⟩ := X
  rw [← irem_eq_mod x y] at K
  exact Goes.of (fun _ kk => XS.irem S.here C.1 rfl (hb C.2.1 hd) rfl hy kk) K
theorem w_lrem (X : Hr p l e R s m args below meth c n0 h cells slots T) (C : Cx p s m meth c code ml ret own nm Z a0 tabs) {pc : Nat} {Ls : Array Slot} {x y : Int64} {rest : List Value} (hd : decode code pc = .ok (.lrem, 1)) (hy : y ≠ 0) (K : Goes p e below s n0 P k n T (mkF m (pc + 1) Ls (.long (x % y) :: rest))) : Goes p e below s n0 P k n T (mkF m pc Ls (.long y :: .long x :: rest)) := by
  obtain ⟨locs, S, -, -, -⟩ := X
  rw [← lrem_mod x y] at K
  exact Goes.of (fun _ kk => XS.lrem S.here C.1 rfl (hb C.2.1 hd) rfl hy kk) K
theorem w_dup (X : Hr p l e R s m args below meth c n0 h cells slots T) (C : Cx p s m meth c code ml ret own nm Z a0 tabs) {pc : Nat} {Ls : Array Slot} {x : Value} {rest : List Value} (hd : decode code pc = .ok (.dup, 1)) (hc : x.category = 1) (K : Goes p e below s n0 P k n T (mkF m (pc + 1) Ls (x :: x :: rest))) : Goes p e below s n0 P k n T (mkF m pc Ls (x :: rest)) := by
  obtain ⟨locs, S, -, -, -⟩ := X
  exact Goes.of (fun _ kk => XS.dup S.here C.1 rfl (hb C.2.1 hd) rfl hc kk) K
theorem w_pop (X : Hr p l e R s m args below meth c n0 h cells slots T) (C : Cx p s m meth c code ml ret own nm Z a0 tabs) {pc : Nat} {Ls : Array Slot} {x : Value} {rest : List Value} (hd : decode code pc = .ok (.pop, 1)) (hc : x.category = 1) (K : Goes p e below s n0 P k n T (mkF m (pc + 1) Ls (rest))) : Goes p e below s n0 P k n T (mkF m pc Ls (x :: rest)) := by
  obtain ⟨locs, S, -, -, -⟩ := X
  exact Goes.of (fun _ kk => XS.pop S.here C.1 rfl (hb C.2.1 hd) rfl hc kk) K
theorem w_dup_x1 (X : Hr p l e R s m args below meth c n0 h cells slots T) (C : Cx p s m meth c code ml ret own nm Z a0 tabs) {pc : Nat} {Ls : Array Slot} {x y : Value} {rest : List Value} (hd : decode code pc = .ok (.dup_x1, 1)) (hc : x.category = 1) (hc' : y.category = 1) (K : Goes p e below s n0 P k n T (mkF m (pc + 1) Ls (x :: y :: x :: rest))) : Goes p e below s n0 P k n T (mkF m pc Ls (x :: y :: rest)) := by
  obtain ⟨locs, S, -, -, -⟩ := X
  exact Goes.of (fun _ kk => XS.dupX1 S.here C.1 rfl (hb C.2.1 hd) rfl hc hc' kk) K
theorem w_dup2 (X : Hr p l e R s m args below meth c n0 h cells slots T) (C : Cx p s m meth c code ml ret own nm Z a0 tabs) {pc : Nat} {Ls : Array Slot} {x y : Value} {rest : List Value} (hd : decode code pc = .ok (.dup2, 1)) (hc : x.category = 1) (hc' : y.category = 1) (K : Goes p e below s n0 P k n T (mkF m (pc + 1) Ls (x :: y :: x :: y :: rest))) : Goes p e below s n0 P k n T (mkF m pc Ls (x :: y :: rest)) := by
  obtain ⟨locs, S, -, -, -⟩ := X
  exact Goes.of (fun _ kk => XT.dup2 S.here C.1 rfl (hb C.2.1 hd) rfl hc hc' kk) K
theorem w_iload (X : Hr p l e R s m args below meth c n0 h cells slots T) (C : Cx p s m meth c code ml ret own nm Z a0 tabs) {pc : Nat} {Ls : Array Slot} {k0 : Nat} {x : Int32} {rest : List Value} (hd : decode code pc = .ok (.iload k0, 2)) (hl : Ls[k0]? = some (.val (.int x))) (K : Goes p e below s n0 P k n T (mkF m (pc + 2) Ls (.int x :: rest))) : Goes p e below s n0 P k n T (mkF m pc Ls rest) := by
  obtain ⟨locs, S, -, -, -⟩ := X
  exact Goes.of (fun _ kk => XS.iload S.here C.1 rfl (hb C.2.1 hd) hl kk) K
theorem w_istore (X : Hr p l e R s m args below meth c n0 h cells slots T) (C : Cx p s m meth c code ml ret own nm Z a0 tabs) {pc : Nat} {Ls : Array Slot} {k0 : Nat} {x : Int32} {rest : List Value} (hd : decode code pc = .ok (.istore k0, 2)) (Ls' : Array Slot) (hl : storeLocals Ls k0 (.int x) = some Ls') (K : Goes p e below s n0 P k n T (mkF m (pc + 2) Ls' rest)) : Goes p e below s n0 P k n T (mkF m pc Ls (.int x :: rest)) := by
  obtain ⟨locs, S, -, -, -⟩ := X
  exact Goes.of (fun _ kk => XS.istore S.here C.1 rfl (hb C.2.1 hd) rfl hl kk) K
theorem w_iloadN (X : Hr p l e R s m args below meth c n0 h cells slots T) (C : Cx p s m meth c code ml ret own nm Z a0 tabs) {pc : Nat} {Ls : Array Slot} {k0 : Fin 4} {x : Int32} {rest : List Value} (hd : decode code pc = .ok (.iload_n k0, 1)) (hl : Ls[k0.val]? = some (.val (.int x))) (K : Goes p e below s n0 P k n T (mkF m (pc + 1) Ls (.int x :: rest))) : Goes p e below s n0 P k n T (mkF m pc Ls rest) := by
  obtain ⟨locs, S, -, -, -⟩ := X
  exact Goes.of (fun _ kk => XS.iloadN S.here C.1 rfl (hb C.2.1 hd) hl kk) K
theorem w_istoreN (X : Hr p l e R s m args below meth c n0 h cells slots T) (C : Cx p s m meth c code ml ret own nm Z a0 tabs) {pc : Nat} {Ls : Array Slot} {k0 : Fin 4} {x : Int32} {rest : List Value} (hd : decode code pc = .ok (.istore_n k0, 1)) (Ls' : Array Slot) (hl : storeLocals Ls k0.val (.int x) = some Ls') (K : Goes p e below s n0 P k n T (mkF m (pc + 1) Ls' rest)) : Goes p e below s n0 P k n T (mkF m pc Ls (.int x :: rest)) := by
  obtain ⟨locs, S, -, -, -⟩ := X
  exact Goes.of (fun _ kk => XS.istoreN S.here C.1 rfl (hb C.2.1 hd) rfl hl kk) K
theorem w_lload (X : Hr p l e R s m args below meth c n0 h cells slots T) (C : Cx p s m meth c code ml ret own nm Z a0 tabs) {pc : Nat} {Ls : Array Slot} {k0 : Nat} {x : Int64} {rest : List Value} (hd : decode code pc = .ok (.lload k0, 2)) (hl : Ls[k0]? = some (.val (.long x))) (K : Goes p e below s n0 P k n T (mkF m (pc + 2) Ls (.long x :: rest))) : Goes p e below s n0 P k n T (mkF m pc Ls rest) := by
  obtain ⟨locs, S, -, -, -⟩ := X
  exact Goes.of (fun _ kk => XS.lload S.here C.1 rfl (hb C.2.1 hd) hl kk) K
theorem w_lstore (X : Hr p l e R s m args below meth c n0 h cells slots T) (C : Cx p s m meth c code ml ret own nm Z a0 tabs) {pc : Nat} {Ls : Array Slot} {k0 : Nat} {x : Int64} {rest : List Value} (hd : decode code pc = .ok (.lstore k0, 2)) (Ls' : Array Slot) (hl : storeLocals Ls k0 (.long x) = some Ls') (K : Goes p e below s n0 P k n T (mkF m (pc + 2) Ls' rest)) : Goes p e below s n0 P k n T (mkF m pc Ls (.long x :: rest)) := by
  obtain ⟨locs, S, -, -, -⟩ := X
  exact Goes.of (fun _ kk => XS.lstore S.here C.1 rfl (hb C.2.1 hd) rfl hl kk) K
theorem w_lloadN (X : Hr p l e R s m args below meth c n0 h cells slots T) (C : Cx p s m meth c code ml ret own nm Z a0 tabs) {pc : Nat} {Ls : Array Slot} {k0 : Fin 4} {x : Int64} {rest : List Value} (hd : decode code pc = .ok (.lload_n k0, 1)) (hl : Ls[k0.val]? = some (.val (.long x))) (K : Goes p e below s n0 P k n T (mkF m (pc + 1) Ls (.long x :: rest))) : Goes p e below s n0 P k n T (mkF m pc Ls rest) := by
  obtain ⟨locs, S, -, -, -⟩ := X
  exact Goes.of (fun _ kk => XS.lloadN S.here C.1 rfl (hb C.2.1 hd) hl kk) K
theorem w_lstoreN (X : Hr p l e R s m args below meth c n0 h cells slots T) (C : Cx p s m meth c code ml ret own nm Z a0 tabs) {pc : Nat} {Ls : Array Slot} {k0 : Fin 4} {x : Int64} {rest : List Value} (hd : decode code pc = .ok (.lstore_n k0, 1)) (Ls' : Array Slot) (hl : storeLocals Ls k0.val (.long x) = some Ls') (K : Goes p e below s n0 P k n T (mkF m (pc + 1) Ls' rest)) : Goes p e below s n0 P k n T (mkF m pc Ls (.long x :: rest)) := by
  obtain ⟨locs, S, -, -, -⟩ := X
  exact Goes.of (fun _ kk => XS.lstoreN S.here C.1 rfl (hb C.2.1 hd) rfl hl kk) K
theorem w_aload (X : Hr p l e R s m args below meth c n0 h cells slots T) (C : Cx p s m meth c code ml ret own nm Z a0 tabs) {pc : Nat} {Ls : Array Slot} {k0 : Nat} {x : Value} {rest : List Value} (hd : decode code pc = .ok (.aload k0, 2)) (hl : Ls[k0]? = some (.val x)) (hv : x.isRef = true) (K : Goes p e below s n0 P k n T (mkF m (pc + 2) Ls (x :: rest))) : Goes p e below s n0 P k n T (mkF m pc Ls rest) := by
  obtain ⟨locs, S, -, -, -⟩ := X
  exact Goes.of (fun _ kk => XS.aload S.here C.1 rfl (hb C.2.1 hd) hl hv kk) K
theorem w_astore (X : Hr p l e R s m args below meth c n0 h cells slots T) (C : Cx p s m meth c code ml ret own nm Z a0 tabs) {pc : Nat} {Ls : Array Slot} {k0 : Nat} {x : Value} {rest : List Value} (hd : decode code pc = .ok (.astore k0, 2)) (Ls' : Array Slot) (hl : storeLocals Ls k0 x = some Ls') (hv : x.isRef = true) (K : Goes p e below s n0 P k n T (mkF m (pc + 2) Ls' rest)) : Goes p e below s n0 P k n T (mkF m pc Ls (x :: rest)) := by
  obtain ⟨locs, S, -, -, -⟩ := X
  exact Goes.of (fun _ kk => XS.astore S.here C.1 rfl (hb C.2.1 hd) rfl hv hl kk) K
theorem w_aloadN (X : Hr p l e R s m args below meth c n0 h cells slots T) (C : Cx p s m meth c code ml ret own nm Z a0 tabs) {pc : Nat} {Ls : Array Slot} {k0 : Fin 4} {x : Value} {rest : List Value} (hd : decode code pc = .ok (.aload_n k0, 1)) (hl : Ls[k0.val]? = some (.val x)) (hv : x.isRef = true) (K : Goes p e below s n0 P k n T (mkF m (pc + 1) Ls (x :: rest))) : Goes p e below s n0 P k n T (mkF m pc Ls rest) := by
  obtain ⟨locs, S, -, -, -⟩ := X
  exact Goes.of (fun _ kk => XS.aloadN S.here C.1 rfl (hb C.2.1 hd) hl hv kk) K
theorem w_astoreN (X : Hr p l e R s m args below meth c n0 h cells slots T) (C : Cx p s m meth c code ml ret own nm Z a0 tabs) {pc : Nat} {Ls : Array Slot} {k0 : Fin 4} {x : Value} {rest : List Value} (hd : decode code pc = .ok (.astore_n k0, 1)) (Ls' : Array Slot) (hl : storeLocals Ls k0.val x = some Ls') (hv : x.isRef = true) (K : Goes p e below s n0 P k n T (mkF m (pc + 1) Ls' rest)) : Goes p e below s n0 P k n T (mkF m pc Ls (x :: rest)) := by
  obtain ⟨locs, S, -, -, -⟩ := X
  exact Goes.of (fun _ kk => XS.astoreN S.here C.1 rfl (hb C.2.1 hd) rfl hv hl kk) K
theorem w_iinc (X : Hr p l e R s m args below meth c n0 h cells slots T) (C : Cx p s m meth c code ml ret own nm Z a0 tabs) {pc : Nat} {Ls : Array Slot} {k0 : Nat} {cst : Int} {x : Int32} {rest : List Value} (hd : decode code pc = .ok (.iinc k0 cst, 3)) (v : Int32) (hv : Int32.ofInt cst = v) (hl : Ls[k0]? = some (.val (.int x))) (Ls' : Array Slot) (hl' : storeLocals Ls k0 (.int (x + v)) = some Ls') (K : Goes p e below s n0 P k n T (mkF m (pc + 3) Ls' rest)) : Goes p e below s n0 P k n T (mkF m pc Ls rest) := by
  obtain ⟨locs, S, -, -, -⟩ := X
  subst hv
  exact Goes.of (fun _ kk => XS.iinc S.here C.1 rfl (hb C.2.1 hd) hl hl' kk) K
theorem w_iconst (X : Hr p l e R s m args below meth c n0 h cells slots T) (C : Cx p s m meth c code ml ret own nm Z a0 tabs) {pc : Nat} {Ls : Array Slot} {i : Int} {rest : List Value} (hd : decode code pc = .ok (.iconst i, 1)) (v : Int32) (hv : Int32.ofInt i = v) (K : Goes p e below s n0 P k n T (mkF m (pc + 1) Ls (.int v :: rest))) : Goes p e below s n0 P k n T (mkF m pc Ls rest) := by
  obtain ⟨locs, S, -, -, -⟩ := X
  subst hv
  exact Goes.of (fun _ kk => XS.iconst S.here C.1 rfl (hb C.2.1 hd) kk) K
theorem w_bipush (X : Hr p l e R s m args below meth c n0 h cells slots T) (C : Cx p s m meth c code ml ret own nm Z a0 tabs) {pc : Nat} {Ls : Array Slot} {i : Int} {rest : List Value} (hd : decode code pc = .ok (.bipush i, 2)) (v : Int32) (hv : (Int8.ofInt i).toInt32 = v) (K : Goes p e below s n0 P k n T (mkF m (pc + 2) Ls (.int v :: rest))) : Goes p e below s n0 P k n T (mkF m pc Ls rest) := by
  obtain ⟨locs, S, -, -, -⟩ := X
  subst hv
  exact Goes.of (fun _ kk => XS.bipush S.here C.1 rfl (hb C.2.1 hd) kk) K
theorem w_sipush (X : Hr p l e R s m args below meth c n0 h cells slots T) (C : Cx p s m meth c code ml ret own nm Z a0 tabs) {pc : Nat} {Ls : Array Slot} {i : Int} {rest : List Value} (hd : decode code pc = .ok (.sipush i, 3)) (v : Int32) (hv : (Int16.ofInt i).toInt32 = v) (K : Goes p e below s n0 P k n T (mkF m (pc + 3) Ls (.int v :: rest))) : Goes p e below s n0 P k n T (mkF m pc Ls rest) := by
  obtain ⟨locs, S, -, -, -⟩ := X
  subst hv
  exact Goes.of (fun _ kk => XS.sipush S.here C.1 rfl (hb C.2.1 hd) kk) K
theorem w_lconst (X : Hr p l e R s m args below meth c n0 h cells slots T) (C : Cx p s m meth c code ml ret own nm Z a0 tabs) {pc : Nat} {Ls : Array Slot} {i : Fin 2} {rest : List Value} (hd : decode code pc = .ok (.lconst i, 1)) (v : Int64) (hv : Int64.ofNat i = v) (K : Goes p e below s n0 P k n T (mkF m (pc + 1) Ls (.long v :: rest))) : Goes p e below s n0 P k n T (mkF m pc Ls rest) := by
  obtain ⟨locs, S, -, -, -⟩ := X
  subst hv
  exact Goes.of (fun _ kk => XS.lconst S.here C.1 rfl (hb C.2.1 hd) kk) K
theorem w_aconst_null (X : Hr p l e R s m args below meth c n0 h cells slots T) (C : Cx p s m meth c code ml ret own nm Z a0 tabs) {pc : Nat} {Ls : Array Slot} {rest : List Value} (hd : decode code pc = .ok (.aconst_null, 1)) (K : Goes p e below s n0 P k n T (mkF m (pc + 1) Ls (.null :: rest))) : Goes p e below s n0 P k n T (mkF m pc Ls rest) := by
  obtain ⟨locs, S, -, -, -⟩ := X
  exact Goes.of (fun _ kk => XS.aconstNull S.here C.1 rfl (hb C.2.1 hd) kk) K
theorem w_ldcI (X : Hr p l e R s m args below meth c n0 h cells slots T) (C : Cx p s m meth c code ml ret own nm Z a0 tabs) {pc index : Nat} {Ls : Array Slot} {v : Int32} {rest : List Value} (hd : decode code pc = .ok (.ldc index, 2)) (i1 : Jvm.Cond.constant own index v ∈ tabs) (K : Goes p e below s n0 P k n T (mkF m (pc + 2) Ls (.int v :: rest))) : Goes p e below s n0 P k n T (mkF m pc Ls rest) := by
  obtain ⟨locs, S, -, -, -⟩ := X
  exact Goes.of (fun _ kk => S.ldcInt C.1 C.2.2.2.2.2.1 (mvT C.2.2.2.2.2.2.2.1 (C.2.2.2.2.2.2.2.2 _ i1)) (g := mkF m pc Ls rest) rfl (hb C.2.1 hd) _ kk) K
theorem w_ldcJ (X : Hr p l e R s m args below meth c n0 h cells slots T) (C : Cx p s m meth c code ml ret own nm Z a0 tabs) {pc index : Nat} {Ls : Array Slot} {v : Int64} {rest : List Value} (hd : decode code pc = .ok (.ldc2_w index, 3)) (i1 : Jvm.Cond.constantLong own index v ∈ tabs) (K : Goes p e below s n0 P k n T (mkF m (pc + 3) Ls (.long v :: rest))) : Goes p e below s n0 P k n T (mkF m pc Ls rest) := by
  obtain ⟨locs, S, -, -, -⟩ := X
  exact Goes.of (fun _ kk => S.ldc2Long C.1 C.2.2.2.2.2.1 (mvT C.2.2.2.2.2.2.2.1 (C.2.2.2.2.2.2.2.2 _ i1)) (g := mkF m pc Ls rest) rfl (hb C.2.1 hd) _ kk) K
theorem w_goto (X : Hr p l e R s m args below meth c n0 h cells slots T) (C : Cx p s m meth c code ml ret own nm Z a0 tabs) {pc : Nat} {Ls : Array Slot} {st : List Value} {o : Int} (hd : decode code pc = .ok (.goto o, 3)) (pc' : Nat) (ho : 0 ≤ (pc : Int) + o ∧ ((pc : Int) + o).toNat = pc') (K : Goes p e below s n0 P k n T (mkF m pc' Ls st)) : Goes p e below s n0 P k n T (mkF m pc Ls st) := by
  obtain ⟨locs, S, -, -, -⟩ := X
  exact Goes.of (fun _ kk => XS.goto S.here C.1 rfl (pc0 := pc) (pc' := pc') rfl (hb C.2.1 hd) ho.1 ho.2 kk) K
theorem w_icmp_lt (X : Hr p l e R s m args below meth c n0 h cells slots T) (C : Cx p s m meth c code ml ret own nm Z a0 tabs) {pc : Nat} {Ls : Array Slot} {x y : Int32} {rest : List Value} {o : Int} (hd : decode code pc = .ok (.if_icmp .lt o, 3)) (pc' : Nat) (ho : 0 ≤ (pc : Int) + o ∧ ((pc : Int) + o).toNat = pc') (Ky : x < y → Goes p e below s n0 P k n T (mkF m pc' Ls rest)) (Kn : ¬ (x < y) → Goes p e below s n0 P k n T (mkF m (pc + 3) Ls rest)) : Goes p e below s n0 P k n T (mkF m pc Ls (.int y :: .int x :: rest)) := by
  obtain ⟨locs, S, -, -, -⟩ := X
  by_cases q : x < y
  · exact Goes.of (fun _ kk => XS.icmpYes S.here C.1 rfl (pc0 := pc) (pc' := pc') rfl (hb C.2.1 hd) rfl (tlt q).1 ho.1 ho.2 kk) (Ky q)
  · exact Goes.of (fun _ kk => XS.icmpNo S.here C.1 rfl (hb C.2.1 hd) rfl (flt q).1 kk) (Kn q)
theorem w_if_lt (X : Hr p l e R s m args below meth c n0 h cells slots T) (C : Cx p s m meth c code ml ret own nm Z a0 tabs) {pc : Nat} {Ls : Array Slot} {x : Int32} {rest : List Value} {o : Int} (hd : decode code pc = .ok (.ifCond .lt o, 3)) (pc' : Nat) (ho : 0 ≤ (pc : Int) + o ∧ ((pc : Int) + o).toNat = pc') (Ky : x < 0 → Goes p e below s n0 P k n T (mkF m pc' Ls rest)) (Kn : ¬ (x < 0) → Goes p e below s n0 P k n T (mkF m (pc + 3) Ls rest)) : Goes p e below s n0 P k n T (mkF m pc Ls (.int x :: rest)) := by
  obtain ⟨locs, S, -, -, -⟩ := X
  by_cases q : x < 0
  · exact Goes.of (fun _ kk => XS.ifYes S.here C.1 rfl (pc0 := pc) (pc' := pc') rfl (hb C.2.1 hd) rfl ((if0 _ _).trans (tlt q).1) ho.1 ho.2 kk) (Ky q)
  · exact Goes.of (fun _ kk => XS.ifNo S.here C.1 rfl (hb C.2.1 hd) rfl ((if0 _ _).trans (flt q).1) kk) (Kn q)
theorem w_icmp_ge (X : Hr p l e R s m args below meth c n0 h cells slots T) (C : Cx p s m meth c code ml ret own nm Z a0 tabs) {pc : Nat} {Ls : Array Slot} {x y : Int32} {rest : List Value} {o : Int} (hd : decode code pc = .ok (.if_icmp .ge o, 3)) (pc' : Nat) (ho : 0 ≤ (pc : Int) + o ∧ ((pc : Int) + o).toNat = pc') (Ky : ¬ (x < y) → Goes p e below s n0 P k n T (mkF m pc' Ls rest)) (Kn : x < y → Goes p e below s n0 P k n T (mkF m (pc + 3) Ls rest)) : Goes p e below s n0 P k n T (mkF m pc Ls (.int y :: .int x :: rest)) := by
  obtain ⟨locs, S, -, -, -⟩ := X
  by_cases q : x < y
  · exact Goes.of (fun _ kk => XS.icmpNo S.here C.1 rfl (hb C.2.1 hd) rfl (tlt q).2.1 kk) (Kn q)
  · exact Goes.of (fun _ kk => XS.icmpYes S.here C.1 rfl (pc0 := pc) (pc' := pc') rfl (hb C.2.1 hd) rfl (flt q).2.1 ho.1 ho.2 kk) (Ky q)
theorem w_if_ge (X : Hr p l e R s m args below meth c n0 h cells slots T) (C : Cx p s m meth c code ml ret own nm Z a0 tabs) {pc : Nat} {Ls : Array Slot} {x : Int32} {rest : List Value} {o : Int} (hd : decode code pc = .ok (.ifCond .ge o, 3)) (pc' : Nat) (ho : 0 ≤ (pc : Int) + o ∧ ((pc : Int) + o).toNat = pc') (Ky : ¬ (x < 0) → Goes p e below s n0 P k n T (mkF m pc' Ls rest)) (Kn : x < 0 → Goes p e below s n0 P k n T (mkF m (pc + 3) Ls rest)) : Goes p e below s n0 P k n T (mkF m pc Ls (.int x :: rest)) := by
  obtain ⟨locs, S, -, -, -⟩ := X
  by_cases q : x < 0
  · exact Goes.of (fun _ kk => XS.ifNo S.here C.1 rfl (hb C.2.1 hd) rfl ((if0 _ _).trans (tlt q).2.1) kk) (Kn q)
  · exact Goes.of (fun _ kk => XS.ifYes S.here C.1 rfl (pc0 := pc) (pc' := pc') rfl (hb C.2.1 hd) rfl ((if0 _ _).trans (flt q).2.1) ho.1 ho.2 kk) (Ky q)
theorem w_icmp_gt (X : Hr p l e R s m args below meth c n0 h cells slots T) (C : Cx p s m meth c code ml ret own nm Z a0 tabs) {pc : Nat} {Ls : Array Slot} {x y : Int32} {rest : List Value} {o : Int} (hd : decode code pc = .ok (.if_icmp .gt o, 3)) (pc' : Nat) (ho : 0 ≤ (pc : Int) + o ∧ ((pc : Int) + o).toNat = pc') (Ky : y < x → Goes p e below s n0 P k n T (mkF m pc' Ls rest)) (Kn : ¬ (y < x) → Goes p e below s n0 P k n T (mkF m (pc + 3) Ls rest)) : Goes p e below s n0 P k n T (mkF m pc Ls (.int y :: .int x :: rest)) := by
  obtain ⟨locs, S, -, -, -⟩ := X
  by_cases q : y < x
  · exact Goes.of (fun _ kk => XS.icmpYes S.here C.1 rfl (pc0 := pc) (pc' := pc') rfl (hb C.2.1 hd) rfl (tlt q).2.2.1 ho.1 ho.2 kk) (Ky q)
  · exact Goes.of (fun _ kk => XS.icmpNo S.here C.1 rfl (hb C.2.1 hd) rfl (flt q).2.2.1 kk) (Kn q)
theorem w_if_gt (X : Hr p l e R s m args below meth c n0 h cells slots T) (C : Cx p s m meth c code ml ret own nm Z a0 tabs) {pc : Nat} {Ls : Array Slot} {x : Int32} {rest : List Value} {o : Int} (hd : decode code pc = .ok (.ifCond .gt o, 3)) (pc' : Nat) (ho : 0 ≤ (pc : Int) + o ∧ ((pc : Int) + o).toNat = pc') (Ky : 0 < x → Goes p e below s n0 P k n T (mkF m pc' Ls rest)) (Kn : ¬ (0 < x) → Goes p e below s n0 P k n T (mkF m (pc + 3) Ls rest)) : Goes p e below s n0 P k n T (mkF m pc Ls (.int x :: rest)) := by
  obtain ⟨locs, S, -, -, -⟩ := X
  by_cases q : 0 < x
  · exact Goes.of (fun _ kk => XS.ifYes S.here C.1 rfl (pc0 := pc) (pc' := pc') rfl (hb C.2.1 hd) rfl ((if0 _ _).trans (tlt q).2.2.1) ho.1 ho.2 kk) (Ky q)
  · exact Goes.of (fun _ kk => XS.ifNo S.here C.1 rfl (hb C.2.1 hd) rfl ((if0 _ _).trans (flt q).2.2.1) kk) (Kn q)
theorem w_icmp_le (X : Hr p l e R s m args below meth c n0 h cells slots T) (C : Cx p s m meth c code ml ret own nm Z a0 tabs) {pc : Nat} {Ls : Array Slot} {x y : Int32} {rest : List Value} {o : Int} (hd : decode code pc = .ok (.if_icmp .le o, 3)) (pc' : Nat) (ho : 0 ≤ (pc : Int) + o ∧ ((pc : Int) + o).toNat = pc') (Ky : ¬ (y < x) → Goes p e below s n0 P k n T (mkF m pc' Ls rest)) (Kn : y < x → Goes p e below s n0 P k n T (mkF m (pc + 3) Ls rest)) : Goes p e below s n0 P k n T (mkF m pc Ls (.int y :: .int x :: rest)) := by
  obtain ⟨locs, S, -, -, -⟩ := X
  by_cases q : y < x
  · exact Goes.of (fun _ kk => XS.icmpNo S.here C.1 rfl (hb C.2.1 hd) rfl (tlt q).2.2.2 kk) (Kn q)
  · exact Goes.of (fun _ kk => XS.icmpYes S.here C.1 rfl (pc0 := pc) (pc' := pc') rfl (hb C.2.1 hd) rfl (flt q).2.2.2 ho.1 ho.2 kk) (Ky q)
theorem w_if_le (X : Hr p l e R s m args below meth c n0 h cells slots T) (C : Cx p s m meth c code ml ret own nm Z a0 tabs) {pc : Nat} {Ls : Array Slot} {x : Int32} {rest : List Value} {o : Int} (hd : decode code pc = .ok (.ifCond .le o, 3)) (pc' : Nat) (ho : 0 ≤ (pc : Int) + o ∧ ((pc : Int) + o).toNat = pc') (Ky : ¬ (0 < x) → Goes p e below s n0 P k n T (mkF m pc' Ls rest)) (Kn : 0 < x → Goes p e below s n0 P k n T (mkF m (pc + 3) Ls rest)) : Goes p e below s n0 P k n T (mkF m pc Ls (.int x :: rest)) := by
  obtain ⟨locs, S, -, -, -⟩ := X
  by_cases q : 0 < x
  · exact Goes.of (fun _ kk => XS.ifNo S.here C.1 rfl (hb C.2.1 hd) rfl ((if0 _ _).trans (tlt q).2.2.2) kk) (Kn q)
  · exact Goes.of (fun _ kk => XS.ifYes S.here C.1 rfl (pc0 := pc) (pc' := pc') rfl (hb C.2.1 hd) rfl ((if0 _ _).trans (flt q).2.2.2) ho.1 ho.2 kk) (Ky q)
theorem w_icmp_eq (X : Hr p l e R s m args below meth c n0 h cells slots T) (C : Cx p s m meth c code ml ret own nm Z a0 tabs) {pc : Nat} {Ls : Array Slot} {x y : Int32} {rest : List Value} {o : Int} (hd : decode code pc = .ok (.if_icmp .eq o, 3)) (pc' : Nat) (ho : 0 ≤ (pc : Int) + o ∧ ((pc : Int) + o).toNat = pc') (Ky : x = y → Goes p e below s n0 P k n T (mkF m pc' Ls rest)) (Kn : ¬ (x = y) → Goes p e below s n0 P k n T (mkF m (pc + 3) Ls rest)) : Goes p e below s n0 P k n T (mkF m pc Ls (.int y :: .int x :: rest)) := by
  obtain ⟨locs, S, -, -, -⟩ := X
  by_cases q : x = y
  · exact Goes.of (fun _ kk => XS.icmpYes S.here C.1 rfl (pc0 := pc) (pc' := pc') rfl (hb C.2.1 hd) rfl (teq q).1 ho.1 ho.2 kk) (Ky q)
  · exact Goes.of (fun _ kk => XS.icmpNo S.here C.1 rfl (hb C.2.1 hd) rfl (feq q).1 kk) (Kn q)
theorem w_if_eq (X : Hr p l e R s m args below meth c n0 h cells slots T) (C : Cx p s m meth c code ml ret own nm Z a0 tabs) {pc : Nat} {Ls : Array Slot} {x : Int32} {rest : List Value} {o : Int} (hd : decode code pc = .ok (.ifCond .eq o, 3)) (pc' : Nat) (ho : 0 ≤ (pc : Int) + o ∧ ((pc : Int) + o).toNat = pc') (Ky : x = 0 → Goes p e below s n0 P k n T (mkF m pc' Ls rest)) (Kn : ¬ (x = 0) → Goes p e below s n0 P k n T (mkF m (pc + 3) Ls rest)) : Goes p e below s n0 P k n T (mkF m pc Ls (.int x :: rest)) := by
  obtain ⟨locs, S, -, -, -⟩ := X
  by_cases q : x = 0
  · exact Goes.of (fun _ kk => XS.ifYes S.here C.1 rfl (pc0 := pc) (pc' := pc') rfl (hb C.2.1 hd) rfl ((if0 _ _).trans (teq q).1) ho.1 ho.2 kk) (Ky q)
  · exact Goes.of (fun _ kk => XS.ifNo S.here C.1 rfl (hb C.2.1 hd) rfl ((if0 _ _).trans (feq q).1) kk) (Kn q)
theorem w_icmp_ne (X : Hr p l e R s m args below meth c n0 h cells slots T) (C : Cx p s m meth c code ml ret own nm Z a0 tabs) {pc : Nat} {Ls : Array Slot} {x y : Int32} {rest : List Value} {o : Int} (hd : decode code pc = .ok (.if_icmp .ne o, 3)) (pc' : Nat) (ho : 0 ≤ (pc : Int) + o ∧ ((pc : Int) + o).toNat = pc') (Ky : ¬ (x = y) → Goes p e below s n0 P k n T (mkF m pc' Ls rest)) (Kn : x = y → Goes p e below s n0 P k n T (mkF m (pc + 3) Ls rest)) : Goes p e below s n0 P k n T (mkF m pc Ls (.int y :: .int x :: rest)) := by
  obtain ⟨locs, S, -, -, -⟩ := X
  by_cases q : x = y
  · exact Goes.of (fun _ kk => XS.icmpNo S.here C.1 rfl (hb C.2.1 hd) rfl (teq q).2 kk) (Kn q)
  · exact Goes.of (fun _ kk => XS.icmpYes S.here C.1 rfl (pc0 := pc) (pc' := pc') rfl (hb C.2.1 hd) rfl (feq q).2 ho.1 ho.2 kk) (Ky q)
theorem w_if_ne (X : Hr p l e R s m args below meth c n0 h cells slots T) (C : Cx p s m meth c code ml ret own nm Z a0 tabs) {pc : Nat} {Ls : Array Slot} {x : Int32} {rest : List Value} {o : Int} (hd : decode code pc = .ok (.ifCond .ne o, 3)) (pc' : Nat) (ho : 0 ≤ (pc : Int) + o ∧ ((pc : Int) + o).toNat = pc') (Ky : ¬ (x = 0) → Goes p e below s n0 P k n T (mkF m pc' Ls rest)) (Kn : x = 0 → Goes p e below s n0 P k n T (mkF m (pc + 3) Ls rest)) : Goes p e below s n0 P k n T (mkF m pc Ls (.int x :: rest)) := by
  obtain ⟨locs, S, -, -, -⟩ := X
  by_cases q : x = 0
  · exact Goes.of (fun _ kk => XS.ifNo S.here C.1 rfl (hb C.2.1 hd) rfl ((if0 _ _).trans (teq q).2) kk) (Kn q)
  · exact Goes.of (fun _ kk => XS.ifYes S.here C.1 rfl (pc0 := pc) (pc' := pc') rfl (hb C.2.1 hd) rfl ((if0 _ _).trans (feq q).2) ho.1 ho.2 kk) (Ky q)
theorem cj_lt (x y : Int64) : cmpJ x y < 0 ↔ x < y := lw_lt x y
theorem cj_gt (x y : Int64) : 0 < cmpJ x y ↔ y < x := lw_gt x y
theorem cj_eq (x y : Int64) : cmpJ x y = 0 ↔ x = y := lw_eq x y
theorem w_ifJ_lt (X : Hr p l e R s m args below meth c n0 h cells slots T) (C : Cx p s m meth c code ml ret own nm Z a0 tabs) {pc : Nat} {Ls : Array Slot} {x y : Int64} {rest : List Value} {o : Int} (hd : decode code pc = .ok (.ifCond .lt o, 3)) (pc' : Nat) (ho : 0 ≤ (pc : Int) + o ∧ ((pc : Int) + o).toNat = pc') (Ky : x < y → Goes p e below s n0 P k n T (mkF m pc' Ls rest)) (Kn : ¬ (x < y) → Goes p e below s n0 P k n T (mkF m (pc + 3) Ls rest)) : Goes p e below s n0 P k n T (mkF m pc Ls (.int (cmpJ x y) :: rest)) :=
  w_if_lt X C hd pc' ho (fun q => Ky ((cj_lt _ _).mp q)) (fun q => Kn (fun r => q ((cj_lt _ _).mpr r)))
theorem w_ifJ_ge (X : Hr p l e R s m args below meth c n0 h cells slots T) (C : Cx p s m meth c code ml ret own nm Z a0 tabs) {pc : Nat} {Ls : Array Slot} {x y : Int64} {rest : List Value} {o : Int} (hd : decode code pc = .ok (.ifCond .ge o, 3)) (pc' : Nat) (ho : 0 ≤ (pc : Int) + o ∧ ((pc : Int) + o).toNat = pc') (Ky : ¬ (x < y) → Goes p e below s n0 P k n T (mkF m pc' Ls rest)) (Kn : x < y → Goes p e below s n0 P k n T (mkF m (pc + 3) Ls rest)) : Goes p e below s n0 P k n T (mkF m pc Ls (.int (cmpJ x y) :: rest)) :=
  w_if_ge X C hd pc' ho (fun q => Ky (fun r => q ((cj_lt _ _).mpr r))) (fun q => Kn ((cj_lt _ _).mp q))
theorem w_ifJ_gt (X : Hr p l e R s m args below meth c n0 h cells slots T) (C : Cx p s m meth c code ml ret own nm Z a0 tabs) {pc : Nat} {Ls : Array Slot} {x y : Int64} {rest : List Value} {o : Int} (hd : decode code pc = .ok (.ifCond .gt o, 3)) (pc' : Nat) (ho : 0 ≤ (pc : Int) + o ∧ ((pc : Int) + o).toNat = pc') (Ky : y < x → Goes p e below s n0 P k n T (mkF m pc' Ls rest)) (Kn : ¬ (y < x) → Goes p e below s n0 P k n T (mkF m (pc + 3) Ls rest)) : Goes p e below s n0 P k n T (mkF m pc Ls (.int (cmpJ x y) :: rest)) :=
  w_if_gt X C hd pc' ho (fun q => Ky ((cj_gt _ _).mp q)) (fun q => Kn (fun r => q ((cj_gt _ _).mpr r)))
theorem w_ifJ_le (X : Hr p l e R s m args below meth c n0 h cells slots T) (C : Cx p s m meth c code ml ret own nm Z a0 tabs) {pc : Nat} {Ls : Array Slot} {x y : Int64} {rest : List Value} {o : Int} (hd : decode code pc = .ok (.ifCond .le o, 3)) (pc' : Nat) (ho : 0 ≤ (pc : Int) + o ∧ ((pc : Int) + o).toNat = pc') (Ky : ¬ (y < x) → Goes p e below s n0 P k n T (mkF m pc' Ls rest)) (Kn : y < x → Goes p e below s n0 P k n T (mkF m (pc + 3) Ls rest)) : Goes p e below s n0 P k n T (mkF m pc Ls (.int (cmpJ x y) :: rest)) :=
  w_if_le X C hd pc' ho (fun q => Ky (fun r => q ((cj_gt _ _).mpr r))) (fun q => Kn ((cj_gt _ _).mp q))
theorem w_ifJ_eq (X : Hr p l e R s m args below meth c n0 h cells slots T) (C : Cx p s m meth c code ml ret own nm Z a0 tabs) {pc : Nat} {Ls : Array Slot} {x y : Int64} {rest : List Value} {o : Int} (hd : decode code pc = .ok (.ifCond .eq o, 3)) (pc' : Nat) (ho : 0 ≤ (pc : Int) + o ∧ ((pc : Int) + o).toNat = pc') (Ky : x = y → Goes p e below s n0 P k n T (mkF m pc' Ls rest)) (Kn : ¬ (x = y) → Goes p e below s n0 P k n T (mkF m (pc + 3) Ls rest)) : Goes p e below s n0 P k n T (mkF m pc Ls (.int (cmpJ x y) :: rest)) :=
  w_if_eq X C hd pc' ho (fun q => Ky ((cj_eq _ _).mp q)) (fun q => Kn (fun r => q ((cj_eq _ _).mpr r)))
theorem w_ifJ_ne (X : Hr p l e R s m args below meth c n0 h cells slots T) (C : Cx p s m meth c code ml ret own nm Z a0 tabs) {pc : Nat} {Ls : Array Slot} {x y : Int64} {rest : List Value} {o : Int} (hd : decode code pc = .ok (.ifCond .ne o, 3)) (pc' : Nat) (ho : 0 ≤ (pc : Int) + o ∧ ((pc : Int) + o).toNat = pc') (Ky : ¬ (x = y) → Goes p e below s n0 P k n T (mkF m pc' Ls rest)) (Kn : x = y → Goes p e below s n0 P k n T (mkF m (pc + 3) Ls rest)) : Goes p e below s n0 P k n T (mkF m pc Ls (.int (cmpJ x y) :: rest)) :=
  w_if_ne X C hd pc' ho (fun q => Ky (fun r => q ((cj_eq _ _).mpr r))) (fun q => Kn ((cj_eq _ _).mp q))
theorem w_ifnull_no (X : Hr p l e R s m args below meth c n0 h cells slots T) (C : Cx p s m meth c code ml ret own nm Z a0 tabs) {pc : Nat} {Ls : Array Slot} {a : Addr} {rest : List Value} {o : Int} (hd : decode code pc = .ok (.ifnull o, 3)) (K : Goes p e below s n0 P k n T (mkF m (pc + 3) Ls rest)) : Goes p e below s n0 P k n T (mkF m pc Ls (.ref a :: rest)) := by
  obtain ⟨locs, S, -, -, -⟩ := X
  exact Goes.of (fun _ kk => XS.ifnullNo S.here C.1 rfl (hb C.2.1 hd) rfl kk) K
theorem w_retI (X : Hr p l e R s m args below meth c n0 h cells slots T) (C : Cx p s m meth c code ml (some .int) own nm Z a0 tabs) {pc : Nat} {Ls : Array Slot} {z : Int32} {rest : List Value} (hd : decode code pc = .ok (.ireturn, 1)) (hP : P (some (.int z)) h) (hk : cells ≤ k := by decide) (hn : slots ≤ n := by decide) : Goes p e below s n0 P k n T (mkF m pc Ls (.int z :: rest)) := by
  obtain ⟨locs, S, eT, N, -⟩ := X
  obtain ⟨fs, hr, hrun, hended, hW, hsame⟩ := S.leave (v := some (.int z)) (fun h => by rw [C.2.2.2.1] at h; cases h) C.2.2.2.2.1
  refine ⟨_, _, retI' S C.1 C.2.2.2.1 (hb C.2.1 hd) hr, hrun, hended, _, _, rfl, ⟨N, ?_⟩, ⟨_, rfl⟩, hW, hsame.mono hk hn⟩
  show P _ T.heap
  rw [eT]
  exact hP
theorem w_ret_boolean (X : Hr p l e R s m args below meth c n0 h cells slots T) (C : Cx p s m meth c code ml (some .boolean) own nm Z a0 tabs) {pc : Nat} {Ls : Array Slot} {z : Int32} {rest : List Value} (hd : decode code pc = .ok (.ireturn, 1)) (hP : P (some (.int (z &&& 1))) h) (hk : cells ≤ k := by decide) (hn : slots ≤ n := by decide) : Goes p e below s n0 P k n T (mkF m pc Ls (.int z :: rest)) := by
  obtain ⟨locs, S, eT, N, -⟩ := X
  obtain ⟨fs, hr, hrun, hended, hW, hsame⟩ := S.leave (v := some (.int (z &&& 1))) (fun h => by rw [C.2.2.2.1] at h; cases h) C.2.2.2.2.1
  refine ⟨_, _, retN S C.1 (t := .boolean) C.2.2.2.1 (by simp) (hb C.2.1 hd) hr, hrun, hended, _, _, rfl, ⟨N, ?_⟩, ⟨_, rfl⟩, hW, hsame.mono hk hn⟩
  show P _ T.heap
  rw [eT]
  exact hP
theorem w_ret_byte (X : Hr p l e R s m args below meth c n0 h cells slots T) (C : Cx p s m meth c code ml (some .byte) own nm Z a0 tabs) {pc : Nat} {Ls : Array Slot} {z : Int32} {rest : List Value} (hd : decode code pc = .ok (.ireturn, 1)) (hP : P (some (.int (i8 z))) h) (hk : cells ≤ k := by decide) (hn : slots ≤ n := by decide) : Goes p e below s n0 P k n T (mkF m pc Ls (.int z :: rest)) := by
  obtain ⟨locs, S, eT, N, -⟩ := X
  obtain ⟨fs, hr, hrun, hended, hW, hsame⟩ := S.leave (v := some (.int (i8 z))) (fun h => by rw [C.2.2.2.1] at h; cases h) C.2.2.2.2.1
  refine ⟨_, _, retN S C.1 (t := .byte) C.2.2.2.1 (by simp) (hb C.2.1 hd) hr, hrun, hended, _, _, rfl, ⟨N, ?_⟩, ⟨_, rfl⟩, hW, hsame.mono hk hn⟩
  show P _ T.heap
  rw [eT]
  exact hP
theorem w_ret_char (X : Hr p l e R s m args below meth c n0 h cells slots T) (C : Cx p s m meth c code ml (some .char) own nm Z a0 tabs) {pc : Nat} {Ls : Array Slot} {z : Int32} {rest : List Value} (hd : decode code pc = .ok (.ireturn, 1)) (hP : P (some (.int (i16c z))) h) (hk : cells ≤ k := by decide) (hn : slots ≤ n := by decide) : Goes p e below s n0 P k n T (mkF m pc Ls (.int z :: rest)) := by
  obtain ⟨locs, S, eT, N, -⟩ := X
  obtain ⟨fs, hr, hrun, hended, hW, hsame⟩ := S.leave (v := some (.int (i16c z))) (fun h => by rw [C.2.2.2.1] at h; cases h) C.2.2.2.2.1
  refine ⟨_, _, retN S C.1 (t := .char) C.2.2.2.1 (by simp) (hb C.2.1 hd) hr, hrun, hended, _, _, rfl, ⟨N, ?_⟩, ⟨_, rfl⟩, hW, hsame.mono hk hn⟩
  show P _ T.heap
  rw [eT]
  exact hP
theorem w_retJ (X : Hr p l e R s m args below meth c n0 h cells slots T) (C : Cx p s m meth c code ml (some .long) own nm Z a0 tabs) {pc : Nat} {Ls : Array Slot} {z : Int64} (hd : decode code pc = .ok (.lreturn, 1)) (hP : P (some (.long z)) h) (hk : cells ≤ k := by decide) (hn : slots ≤ n := by decide) : Goes p e below s n0 P k n T (mkF m pc Ls [.long z]) := by
  obtain ⟨locs, S, eT, N, -⟩ := X
  obtain ⟨fs, hr, hrun, hended, hW, hsame⟩ := S.leave (v := some (.long z)) (fun h => by rw [C.2.2.2.1] at h; cases h) C.2.2.2.2.1
  refine ⟨_, _, S.lreturnOut C.1 C.2.2.2.1 (hb C.2.1 hd) hr, hrun, hended, _, _, rfl, ⟨N, ?_⟩, ⟨_, rfl⟩, hW, hsame.mono hk hn⟩
  show P _ T.heap
  rw [eT]
  exact hP
theorem w_retR (X : Hr p l e R s m args below meth c n0 h cells slots T) (C : Cx p s m meth c code ml ret own nm Z a0 tabs) {pc : Nat} {Ls : Array Slot} {t : FieldType} {a : Addr} {rest : List Value} (ht : t.isReference = true) (hret : ret = some t) (hd : decode code pc = .ok (.areturn, 1)) (hP : P (some (.ref a)) h) (hk : cells ≤ k := by decide) (hn : slots ≤ n := by decide) : Goes p e below s n0 P k n T (mkF m pc Ls (.ref a :: rest)) := by
  subst hret
  obtain ⟨locs, S, eT, N, -⟩ := X
  obtain ⟨fs, hr, hrun, hended, hW, hsame⟩ := S.leave (v := some (.ref a)) (fun h => by rw [C.2.2.2.1] at h; cases h) C.2.2.2.2.1
  refine ⟨_, _, retOut S C.1 C.2.2.2.1 (by cases t <;> rfl) (Or.inr (Or.inr (Or.inr (Or.inr ⟨rfl, ht, rfl⟩)))) (hb C.2.1 hd) hr, hrun, hended, _, _, rfl, ⟨N, ?_⟩, ⟨_, rfl⟩, hW, hsame.mono hk hn⟩
  show P _ T.heap
  rw [eT]
  exact hP
theorem w_retV (X : Hr p l e R s m args below meth c n0 h cells slots T) (C : Cx p s m meth c code ml none own nm Z a0 tabs) {pc : Nat} {Ls : Array Slot} (hd : decode code pc = .ok (.return_, 1)) (hP : P none h) (hk : cells ≤ k := by decide) (hn : slots ≤ n := by decide) : Goes p e below s n0 P k n T (mkF m pc Ls []) := by
  obtain ⟨locs, S, eT, N, -⟩ := X
  obtain ⟨fs, hr, hrun, hended, hW, hsame⟩ := S.leave (v := none) (fun _ => rfl) C.2.2.2.2.1
  refine ⟨_, _, S.returnOut C.1 C.2.2.2.1 (hb C.2.1 hd) hr, hrun, hended, _, _, rfl, ⟨N, ?_⟩, ⟨_, rfl⟩, hW, hsame.mono hk hn⟩
  show P _ T.heap
  rw [eT]
  exact hP
theorem w_callS (X : Hr p l e R s m args below meth c n0 h cells slots T) (C : Cx p s m meth c code ml ret own nm Z a0 tabs) {pc index : Nat} {Ls : Array Slot} {y : MethodName} {bytes : ByteArray} {maxL : Nat} {rt : Option FieldType} {rm : Room} {P' : Option Value → Heap → Prop} {argsL rest st : List Value} (hd : decode code pc = .ok (.invokestatic index, 3)) (i1 : Jvm.Cond.methodLink own index y ∈ tabs) (i2 : Jvm.Cond.static y ∈ tabs) (i3 : Jvm.Cond.initialized y.cls ∈ tabs) (i4 : Jvm.Cond.code y bytes maxL rt ∈ tabs) (hy : y.cls ≠ "java/lang/invoke/MethodHandle" ∧ y.cls ≠ "java/lang/invoke/VarHandle") {W : Nat} (hM : Ct l y bytes maxL rt rm Z argsL.toArray h n0 P') (hls : Ls.size = ml) (hlen : ∃ ps r, parseMethodDescriptor y.desc = some ⟨ps, r⟩ ∧ argsL.length = ps.length) (hst : st = argsL.reverse ++ rest) (hW : (rest.map fun v => v.category).sum ≤ W) (hf : rm.frames + 1 ≤ R.frames) (hl : W + (maxL + 11) + rm.locals ≤ R.locals) (hc : cells + rm.cells ≤ R.cells) (hs : slots + rm.slots ≤ R.slots)
    (K : ∀ v T', P' v T'.heap → Hr p l e R s m args below meth c n0 T'.heap (cells + rm.cells) (slots + rm.slots) T' → Goes p e below s n0 P k n T' (mkF m (pc + 3) Ls (v.toList ++ rest))) : Goes p e below s n0 P k n T (mkF m pc Ls st) := by
  obtain ⟨locs, S, eT, N, q0⟩ := X
  obtain ⟨ps, r, hp1, hp2⟩ := hlen
  have hZ := C.2.2.2.2.2.2.2.1
  have hw := C.2.2.2.2.2.2.2.2
  obtain ⟨v, _, ⟨T', L', k', n'⟩, -, X', ⟨Lc, hQ, l1, l2, l3⟩, stp⟩ := Jvm.LawKit.callS S C.1 (y := y) C.2.2.2.2.2.1 (mvT hZ (hw _ i1)) (mvT hZ (hw _ i2)) (mvT hZ (hw _ i3)) (mvT hZ (hw _ i4)) hy (backOf (W := W) (Q := fun v hp L => Fr n0 L ∧ P' v hp) (hM []) C.2.2.2.2.2.2.2.1 (C.2.2.2.2.2.2.2.2 _ i4) (C.2.2.2.2.2.2.2.2 _ i3) hf hl) (g := mkF m pc Ls st) rfl (by rw [C.2.2.1]; exact hls) (argsL := argsL) (rest := rest) (lenOf hp1 hp2) hst (by show 2 * 0 + _ ≤ _; rw [Nat.mul_zero, Nat.zero_add]; exact hW) (hb C.2.1 hd) (fun _ _ => ⟨rfl, eT, hc, hs⟩)
  dsimp only [Pt.U, Pt.locs, Pt.cells, Pt.slots] at X' l1 l2 l3 stp hQ
  subst l1 l2 l3
  exact Goes.of stp (K v T' hQ.2 ⟨_, X', rfl, Fr.app N hQ.1, q0⟩)
theorem w_callI (X : Hr p l e R s m args below meth c n0 h cells slots T) (C : Cx p s m meth c code ml ret own nm Z a0 tabs) {pc index : Nat} {Ls : Array Slot} {y : MethodName} {bytes : ByteArray} {maxL : Nat} {rm : Room} {P' : Option Value → Heap → Prop} {a : Addr} {argsL rest st : List Value} (hd : decode code pc = .ok (.invokespecial index, 3)) (i1 : Jvm.Cond.methodLink own index y ∈ tabs) (i2 : Jvm.Cond.instanceMethod y ∈ tabs) (i3 : Jvm.Cond.initialized y.cls ∈ tabs) (i4 : Jvm.Cond.code y bytes maxL none ∈ tabs) (hn1 : y.name = "<init>") (hy : y.cls ≠ "java/lang/invoke/MethodHandle" ∧ y.cls ≠ "java/lang/invoke/VarHandle") {W : Nat} (hM : Ct l y bytes maxL none rm Z (.ref a :: argsL).toArray h n0 P') (hls : Ls.size = ml) (hlen : ∃ ps r, parseMethodDescriptor y.desc = some ⟨ps, r⟩ ∧ argsL.length = ps.length) (hst : st = argsL.reverse ++ .ref a :: rest) (hW : (rest.map fun v => v.category).sum ≤ W) (hf : rm.frames + 1 ≤ R.frames) (hl : W + (maxL + 11) + rm.locals ≤ R.locals) (hc : cells + rm.cells ≤ R.cells) (hs : slots + rm.slots ≤ R.slots)
    (K : ∀ v T', P' v T'.heap → Hr p l e R s m args below meth c n0 T'.heap (cells + rm.cells) (slots + rm.slots) T' → Goes p e below s n0 P k n T' (mkF m (pc + 3) Ls (v.toList ++ rest))) : Goes p e below s n0 P k n T (mkF m pc Ls st) := by
  obtain ⟨locs, S, eT, N, q0⟩ := X
  obtain ⟨ps, r, hp1, hp2⟩ := hlen
  have hZ := C.2.2.2.2.2.2.2.1
  have hw := C.2.2.2.2.2.2.2.2
  obtain ⟨v, _, ⟨T', L', k', n'⟩, -, X', ⟨Lc, hQ, l1, l2, l3⟩, stp⟩ := S.specialBack C.1 (y := y) hn1 C.2.2.2.2.2.1 (mvT hZ (hw _ i1)) (mvT hZ (hw _ i2)) (mvT hZ (hw _ i4)) hy (backOf (W := W) (Q := fun v hp L => Fr n0 L ∧ P' v hp) (hM []) C.2.2.2.2.2.2.2.1 (C.2.2.2.2.2.2.2.2 _ i4) (C.2.2.2.2.2.2.2.2 _ i3) hf hl) (g := mkF m pc Ls st) rfl (by rw [C.2.2.1]; exact hls) (Steps.refl _) (a := a) (argsL := argsL) (rest := rest) (lenOf hp1 hp2) hst (by show 2 * 0 + _ ≤ _; rw [Nat.mul_zero, Nat.zero_add]; exact hW) (hb C.2.1 hd) (fun _ _ => ⟨rfl, eT, hc, hs⟩)
  dsimp only [Pt.U, Pt.locs, Pt.cells, Pt.slots] at X' l1 l2 l3 stp hQ
  subst l1 l2 l3
  exact Goes.of (fun _ kk => stp.trans kk) (K v T' hQ.2 ⟨_, X', rfl, Fr.app N hQ.1, q0⟩)
theorem w_callV (X : Hr p l e R s m args below meth c n0 h cells slots T) (C : Cx p s m meth c code ml ret own nm Z a0 tabs) {pc index : Nat} {Ls : Array Slot} {y : MethodName} {bytes : ByteArray} {maxL : Nat} {rt : Option FieldType} {rm : Room} {P' : Option Value → Heap → Prop} {a : Addr} {argsL rest st : List Value} (hd : decode code pc = .ok (.invokevirtual index, 3)) (i1 : Jvm.Cond.methodLink own index y ∈ tabs) (i2 : Jvm.Cond.instanceMethod y ∈ tabs) (i3 : Jvm.Cond.initialized y.cls ∈ tabs) (i4 : Jvm.Cond.code y bytes maxL rt ∈ tabs) (i5 : Jvm.Cond.declares y ∈ tabs) (i6 : Jvm.Cond.selects y.cls y y ∈ tabs) (E : Exa Z h a y.cls) (hy : y.cls ≠ "java/lang/invoke/MethodHandle" ∧ y.cls ≠ "java/lang/invoke/VarHandle") {W : Nat} (hM : Ct l y bytes maxL rt rm Z (.ref a :: argsL).toArray h n0 P') (hls : Ls.size = ml) (hlen : ∃ ps r, parseMethodDescriptor y.desc = some ⟨ps, r⟩ ∧ argsL.length = ps.length) (hst : st = argsL.reverse ++ .ref a :: rest) (hW : (rest.map fun v => v.category).sum ≤ W) (hf : rm.frames + 1 ≤ R.frames) (hl : W + (maxL + 11) + rm.locals ≤ R.locals) (hc : cells + rm.cells ≤ R.cells) (hs : slots + rm.slots ≤ R.slots)
    (K : ∀ v T', P' v T'.heap → Hr p l e R s m args below meth c n0 T'.heap (cells + rm.cells) (slots + rm.slots) T' → Goes p e below s n0 P k n T' (mkF m (pc + 3) Ls (v.toList ++ rest))) : Goes p e below s n0 P k n T (mkF m pc Ls st) := by
  obtain ⟨locs, S, eT, N, q0⟩ := X
  obtain ⟨ps, r, hp1, hp2⟩ := hlen
  have hZ := C.2.2.2.2.2.2.2.1
  have hw := C.2.2.2.2.2.2.2.2
  obtain ⟨cB, kB, qa, qb, qc⟩ := isOf hZ eT E
  obtain ⟨v, _, ⟨T', L', k', n'⟩, -, X', ⟨Lc, hQ, l1, l2, l3⟩, stp⟩ := S.virtualBack C.1 (y := y) (z := y) C.2.2.2.2.2.1 (mvT hZ (hw _ i1)) (mvT hZ (hw _ i5)) (notFace_of_selects (args := #[]) (mvT hZ (hw _ i6))) (mvT hZ (hw _ i6)) (mvT hZ (hw _ i2)) hy (backOf (W := W) (Q := fun v hp L => Fr n0 L ∧ P' v hp) (hM []) C.2.2.2.2.2.2.2.1 (C.2.2.2.2.2.2.2.2 _ i4) (C.2.2.2.2.2.2.2.2 _ i3) hf hl) qa qc (g := mkF m pc Ls st) rfl (by rw [C.2.2.1]; exact hls) (Steps.refl _) (argsL := argsL) (rest := rest) (lenOf hp1 hp2) hst (by show 2 * 0 + _ ≤ _; rw [Nat.mul_zero, Nat.zero_add]; exact hW) (hb C.2.1 hd) (fun _ _ => ⟨rfl, eT, hc, hs⟩)
  dsimp only [Pt.U, Pt.locs, Pt.cells, Pt.slots] at X' l1 l2 l3 stp hQ
  subst l1 l2 l3
  exact Goes.of (fun _ kk => stp.trans kk) (K v T' hQ.2 ⟨_, X', rfl, Fr.app N hQ.1, q0⟩)
theorem w_callP (X : Hr p l e R s m args below meth c n0 h cells slots T) (C : Cx p s m meth c code ml ret own nm Z a0 tabs) {pc index : Nat} {Ls : Array Slot} {y : MethodName} {bytes : ByteArray} {maxL : Nat} {rt : Option FieldType} {rm : Room} {w : Value} {argsL rest st : List Value} {W : Nat} (hd : decode code pc = .ok (.invokestatic index, 3)) (i1 : Jvm.Cond.methodLink own index y ∈ tabs) (i2 : Jvm.Cond.static y ∈ tabs) (i3 : Jvm.Cond.initialized y.cls ∈ tabs) (i4 : Jvm.Cond.code y bytes maxL rt ∈ tabs) (hy : y.cls ≠ "java/lang/invoke/MethodHandle" ∧ y.cls ≠ "java/lang/invoke/VarHandle") (hM : Ct l y bytes maxL rt rm Z argsL.toArray h n0 (fun v hp => v = some w ∧ hp = h)) (hr0 : rm.cells = 0) (hr1 : rm.slots = 0) (hls : Ls.size = ml) (hlen : ∃ ps r, parseMethodDescriptor y.desc = some ⟨ps, r⟩ ∧ argsL.length = ps.length) (hst : st = argsL.reverse ++ rest) (hW : (rest.map fun v => v.category).sum ≤ W) (hf : rm.frames + 1 ≤ R.frames) (hl : W + (maxL + 11) + rm.locals ≤ R.locals) (hc : cells ≤ R.cells) (hs : slots ≤ R.slots)
    (K : ∀ T', Hr p l e R s m args below meth c n0 h cells slots T' → Goes p e below s n0 P k n T' (mkF m (pc + 3) Ls (w :: rest))) : Goes p e below s n0 P k n T (mkF m pc Ls st) := by
  refine w_callS X C hd i1 i2 i3 i4 hy hM hls hlen hst hW hf hl (by rw [hr0]; exact hc) (by rw [hr1]; exact hs) ?_
  rintro v T' ⟨rfl, e1⟩ X'
  rw [e1, hr0, hr1] at X'
  exact K T' X'
theorem w_initO (X : Hr p l e R s m args below meth c n0 h cells slots T) (C : Cx p s m meth c code ml ret own nm Z a0 tabs) {pc index : Nat} {Ls : Array Slot} {a : Addr} {rest : List Value} (hd : decode code pc = .ok (.invokespecial index, 3)) (i1 : Jvm.Cond.methodLink own index Lib.objectInit ∈ tabs) (i2 : Jvm.Cond.instanceMethod Lib.objectInit ∈ tabs) (i3 : Jvm.Cond.code Lib.objectInit ⟨#[0xb1]⟩ 1 none ∈ tabs) (hls : Ls.size = ml) {W : Nat} (hW : (rest.map fun v => v.category).sum ≤ W) (hf : 1 ≤ R.frames) (hl : W + 12 ≤ R.locals)
    (K : ∀ T', Hr p l e R s m args below meth c n0 h cells slots T' → Goes p e below s n0 P k n T' (mkF m (pc + 3) Ls rest)) : Goes p e below s n0 P k n T (mkF m pc Ls (.ref a :: rest)) := by
  obtain ⟨locs, S, eT, N, q0⟩ := X
  have hZ := C.2.2.2.2.2.2.2.1
  have hw := C.2.2.2.2.2.2.2.2
  obtain ⟨T', X', e', st⟩ := initO S C.1 hZ C.2.2.2.2.2.1 (hw _ i1) (hw _ i2) (hw _ i3) eT (g := mkF m pc Ls (.ref a :: rest)) rfl (by rw [C.2.2.1]; exact hls) rfl (hb C.2.1 hd) hf (W := W) (by show 2 * 0 + _ ≤ _; rw [Nat.mul_zero, Nat.zero_add]; exact hW) hl
  exact Goes.of st (K T' ⟨_, X', e', N, q0⟩)
theorem w_getfield (X : Hr p l e R s m args below meth c n0 h cells slots T) (C : Cx p s m meth c code ml ret own nm Z a0 tabs) {pc index : Nat} {Ls : Array Slot} {O nf d : String} {a : Addr} {v : Value} {rest : List Value} (hd : decode code pc = .ok (.getfield index, 3)) (i1 : Jvm.Cond.fieldLink own index O nf d ∈ tabs) (F : Fld Z h a O nf d v)
    (K : ∀ T', Hr p l e R s m args below meth c n0 h cells slots T' → Goes p e below s n0 P k n T' (mkF m (pc + 3) Ls (v :: rest))) : Goes p e below s n0 P k n T (mkF m pc Ls (.ref a :: rest)) := by
  obtain ⟨locs, S, eT, N, q0⟩ := X
  obtain ⟨T', X', e', st⟩ := getF S C.1 C.2.2.2.2.2.2.2.1 C.2.2.2.2.2.1 (host := "") (Or.inl (C.2.2.2.2.2.2.2.2 _ i1)) Via.refl eT F (g := mkF m pc Ls (.ref a :: rest)) rfl rfl (hb C.2.1 hd)
  exact Goes.of st (K T' ⟨_, X', e', N, q0⟩)
theorem w_putfield (X : Hr p l e R s m args below meth c n0 h cells slots T) (C : Cx p s m meth c code ml ret own nm Z a0 tabs) {pc index kk0 : Nat} {Ls : Array Slot} {O nf d Cc : String} {ty : FieldType} {a : Addr} {v old : Value} {rest : List Value} (hd : decode code pc = .ok (.putfield index, 3)) (i1 : Jvm.Cond.fieldLink own index O nf d ∈ tabs) (F : Fld Z h a O nf d old) (E : Exa Z h a Cc) (i2 : Jvm.Cond.lays Cc O nf d ∈ tabs ∨ (Jvm.Cond.laysFinal Cc O nf d ∈ tabs ∧ own = O ∧ nm = "<init>")) (i3 : Jvm.Cond.instantiable Cc kk0 ∈ tabs) (hty : parseFieldDescriptor d = some ty) (hnw : narrow ty v = v) (hft : fits ty v = true) (ha : n0 ≤ a)
    (K : ∀ T' h', Hr p l e R s m args below meth c n0 h' cells slots T' → Wr h h' a (Jvm.RoadKit.slotOf Z O nf d) v → Fld Z h' a O nf d v → Exa Z h' a Cc → Goes p e below s n0 P k n T' (mkF m (pc + 3) Ls rest)) : Goes p e below s n0 P k n T (mkF m pc Ls (v :: .ref a :: rest)) := by
  obtain ⟨locs, S, eT, N, q0⟩ := X
  have hw := C.2.2.2.2.2.2.2.2
  obtain ⟨T', h', X', e', W', st⟩ := putF S C.1 C.2.2.2.2.2.2.2.1 C.2.2.2.2.2.1 (host := "") (Or.inl (hw _ i1)) Via.refl eT F E (i2.imp (fun q => hw _ q) (fun q => ⟨hw _ q.1, q.2.1, by rw [C.2.2.2.2.2.2.1]; exact q.2.2⟩)) (hw _ i3) hty hnw hft (g := mkF m pc Ls (v :: .ref a :: rest)) rfl rfl (hb C.2.1 hd)
  exact Goes.of st (K T' h' ⟨_, X', e', Fr.snoc X' N ha, q0⟩ W' (F.same W') (E.wr W'))
theorem w_new (X : Hr p l e R s m args below meth c n0 h cells slots T) (C : Cx p s m meth c code ml ret own nm Z a0 tabs) {pc index nn : Nat} {Ls : Array Slot} {Cc : String} {rest : List Value} (hd : decode code pc = .ok (.new index, 3)) (i1 : Jvm.Cond.classLink own index Cc ∈ tabs) (i2 : Jvm.Cond.instantiable Cc nn ∈ tabs) (i3 : Jvm.Cond.initialized Cc ∈ tabs) (hc : cells + 1 ≤ R.cells) (hl : slots + nn ≤ R.slots)
    (K : ∀ T' h' a, a = h.size → n0 ≤ a → Hr p l e R s m args below meth c n0 h' (cells + 1) (slots + nn) T' → Ext h h' → Exa Z h' a Cc → (∀ {O nf d : String} {ty : FieldType}, (Jvm.Cond.lays Cc O nf d ∈ tabs ∨ Jvm.Cond.laysFinal Cc O nf d ∈ tabs) → parseFieldDescriptor d = some ty → Fld Z h' a O nf d (defaultValue ty)) → Goes p e below s n0 P k n T' (mkF m (pc + 3) Ls (.ref a :: rest))) : Goes p e below s n0 P k n T (mkF m pc Ls rest) := by
  have hsz := X.size
  obtain ⟨locs, S, eT, N, q0⟩ := X
  have hw := C.2.2.2.2.2.2.2.2
  obtain ⟨T', h', X', e', E', A', D', -, st⟩ := newO S C.1 C.2.2.2.2.2.2.2.1 C.2.2.2.2.2.1 (hw _ i1) (hw _ i2) (hw _ i3) eT (g := mkF m pc Ls rest) rfl (hb C.2.1 hd) hc hl
  exact Goes.of st (K T' h' h.size rfl hsz ⟨_, X', e', N, q0⟩ E' A' (fun q ht => D' (q.imp (fun z => hw _ z) (fun z => hw _ z)) ht))
theorem ArV.lt {a : Addr} {ty : FieldType} {N : Nat} {f : Nat → Value} (A : ArV Z h a ty N f) : a < h.size := by obtain ⟨cl, A, -⟩ := A; exact A.lt
theorem ArV.ext {a : Addr} {ty : FieldType} {N : Nat} {f : Nat → Value} (A : ArV Z h a ty N f) (E : Ext h h') : ArV Z h' a ty N f := by obtain ⟨cl, A, r⟩ := A; exact ⟨cl, A.ext E, r⟩
theorem ArV.other {a b : Addr} {ty : FieldType} {N sl : Nat} {v : Value} {f : Nat → Value} (A : ArV Z h b ty N f) (W : Wr h h' a sl v) (q : b ≠ a) : ArV Z h' b ty N f := by obtain ⟨cl, A, r⟩ := A; exact ⟨cl, A.other W q, r⟩
theorem ArV.keep {a : Addr} {ty : FieldType} {N : Nat} {f : Nat → Value} {ws : List Addr} (A : ArV Z h a ty N f) (K : Keep h h' ws) (q : a ∉ ws) : ArV Z h' a ty N f := by obtain ⟨c, A, r⟩ := A; exact ⟨c, ⟨K.2.1 a c A.1 q, A.2⟩, r⟩
theorem ArV.congr {a : Addr} {ty : FieldType} {N : Nat} {f f' : Nat → Value} (A : ArV Z h a ty N f) (q : ∀ i, i < N → f' i = f i) : ArV Z h a ty N f' := by obtain ⟨c, A, r1, r2⟩ := A; exact ⟨c, A, r1, fun i hi => by rw [q i hi]; exact r2 i hi⟩
theorem ArV.same {a : Addr} {ty : FieldType} {N j : Nat} {v : Value} {f : Nat → Value} (A : ArV Z h a ty N f) (W : Wr h h' a j v) : ArV Z h' a ty N (up f j v) := by
  obtain ⟨c, A, r1, r2⟩ := A
  refine ⟨_, A.same W, by rw [sz_set]; exact r1, fun i hi => ?_⟩
  unfold up
  by_cases q : i = j
  · subst q; simp [Cell.setSlot, r1, hi]
  · simp only [q, if_false, Cell.setSlot]
    rw [Array.getElem?_setIfInBounds_ne (fun z => q z.symm)]
    exact r2 i hi
theorem up_int (g : Nat → Int32) (j : Nat) (x : Int32) : (fun i => Value.int (up g j x i)) = up (fun i => Value.int (g i)) j (.int x) := by
  funext i; unfold up; split <;> rfl
theorem up_long (g : Nat → Int64) (j : Nat) (x : Int64) : (fun i => Value.long (up g j x i)) = up (fun i => Value.long (g i)) j (.long x) := by
  funext i; unfold up; split <;> rfl
theorem in_of {a : Addr} {ty : FieldType} {N i : Nat} {j : Int32} {cl : Cell} (hi : j.toInt = i) (hN : i < N) (r1 : cl.slots.size = N) : ¬ (j < 0 ∨ cl.slots.size ≤ j.toNatClampNeg) ∧ j.toNatClampNeg = i := by
  have e0 : (0 : Int32).toInt = 0 := rfl
  have e1 : j.toNatClampNeg = i := by simp only [Int32.toNatClampNeg, hi]; omega
  refine ⟨?_, e1⟩
  rw [e1, r1, Int32.lt_iff_toInt_lt, e0]; omega
theorem w_baload (X : Hr p l e R s m args below meth c n0 h cells slots T) (C : Cx p s m meth c code ml ret own nm Z a0 tabs) {pc N : Nat} {Ls : Array Slot} {a : Addr} {g : Nat → Int32} {j : Int32} {rest : List Value} (hd : decode code pc = .ok (.baload, 1)) (A : ArI Z h a .byte N g) (i : Nat) (hi : j.toInt = i) (hN : i < N) (K : Goes p e below s n0 P k n T (mkF m (pc + 1) Ls (.int (g i) :: rest))) : Goes p e below s n0 P k n T (mkF m pc Ls (.int j :: .ref a :: rest)) := by
  obtain ⟨locs, S, eT, N0, q0⟩ := X
  obtain ⟨cl, Ar, r1, r2⟩ := A
  obtain ⟨hin, e1⟩ := in_of (a := a) (ty := .byte) hi hN r1
  exact Goes.of (fun _ kk => S.baloadBytes C.1 (j := j) (v := .int (g i)) (by rw [eT]; exact Ar.1) (State.isArrayOf_alike C.2.2.2.2.2.2.2.1.alike Ar.2.1) Ar.2.2 hin (by rw [e1]; exact r2 i hN) (g := mkF m pc Ls (.int j :: .ref a :: rest)) rfl rfl (hb C.2.1 hd) _ kk) K
theorem w_iaload (X : Hr p l e R s m args below meth c n0 h cells slots T) (C : Cx p s m meth c code ml ret own nm Z a0 tabs) {pc N : Nat} {Ls : Array Slot} {a : Addr} {g : Nat → Int32} {j : Int32} {rest : List Value} (hd : decode code pc = .ok (.iaload, 1)) (A : ArI Z h a .int N g) (i : Nat) (hi : j.toInt = i) (hN : i < N) (K : Goes p e below s n0 P k n T (mkF m (pc + 1) Ls (.int (g i) :: rest))) : Goes p e below s n0 P k n T (mkF m pc Ls (.int j :: .ref a :: rest)) := by
  obtain ⟨locs, S, eT, N0, q0⟩ := X
  obtain ⟨cl, Ar, r1, r2⟩ := A
  obtain ⟨hin, e1⟩ := in_of (a := a) (ty := .int) hi hN r1
  exact Goes.of (fun _ kk => S.iaload C.1 (j := j) (v := .int (g i)) (by rw [eT]; exact Ar.1) (State.isArrayOf_alike C.2.2.2.2.2.2.2.1.alike Ar.2.1) Ar.2.2 hin (by rw [e1]; exact r2 i hN) (g := mkF m pc Ls (.int j :: .ref a :: rest)) rfl rfl (hb C.2.1 hd) _ kk) K
theorem w_laload (X : Hr p l e R s m args below meth c n0 h cells slots T) (C : Cx p s m meth c code ml ret own nm Z a0 tabs) {pc N : Nat} {Ls : Array Slot} {a : Addr} {g : Nat → Int64} {j : Int32} {rest : List Value} (hd : decode code pc = .ok (.laload, 1)) (A : ArJ Z h a N g) (i : Nat) (hi : j.toInt = i) (hN : i < N) (K : Goes p e below s n0 P k n T (mkF m (pc + 1) Ls (.long (g i) :: rest))) : Goes p e below s n0 P k n T (mkF m pc Ls (.int j :: .ref a :: rest)) := by
  obtain ⟨locs, S, eT, N0, q0⟩ := X
  obtain ⟨cl, Ar, r1, r2⟩ := A
  obtain ⟨hin, e1⟩ := in_of (a := a) (ty := .long) hi hN r1
  exact Goes.of (fun _ kk => S.laload C.1 (j := j) (v := .long (g i)) (by rw [eT]; exact Ar.1) (State.isArrayOf_alike C.2.2.2.2.2.2.2.1.alike Ar.2.1) Ar.2.2 hin (by rw [e1]; exact r2 i hN) (g := mkF m pc Ls (.int j :: .ref a :: rest)) rfl rfl (hb C.2.1 hd) _ kk) K
theorem w_bastore (X : Hr p l e R s m args below meth c n0 h cells slots T) (C : Cx p s m meth c code ml ret own nm Z a0 tabs) {pc N : Nat} {Ls : Array Slot} {a : Addr} {g : Nat → Int32} {j : Int32} {x : Int32} {rest : List Value} (hd : decode code pc = .ok (.bastore, 1)) (A : ArI Z h a .byte N g) (i : Nat) (hi : j.toInt = i) (hN : i < N) (ha : n0 ≤ a)
    (K : ∀ T' h', Hr p l e R s m args below meth c n0 h' cells slots T' → Wr h h' a i (.int (i8 x)) → ArI Z h' a .byte N (up g i (i8 x)) → Goes p e below s n0 P k n T' (mkF m (pc + 1) Ls rest)) : Goes p e below s n0 P k n T (mkF m pc Ls (.int x :: .int j :: .ref a :: rest)) := by
  obtain ⟨locs, S, eT, N0, q0⟩ := X
  obtain ⟨cl, Ar, r1, r2⟩ := A
  obtain ⟨hin, e1⟩ := in_of (a := a) (ty := .byte) hi hN r1
  obtain ⟨T', h', X', e', W', st⟩ := stB S C.1 C.2.2.2.2.2.2.2.1 eT Ar (j := j) hin (g := mkF m pc Ls (.int x :: .int j :: .ref a :: rest)) rfl rfl (hb C.2.1 hd)
  rw [e1] at W'
  refine Goes.of st (K T' h' ⟨_, X', e', Fr.snoc X' N0 ha, q0⟩ W' ?_)
  have q := ArV.same ⟨cl, Ar, r1, r2⟩ W'
  rw [← (show (fun i_1 => Value.int (up g i (i8 x) i_1)) = up (fun i => Value.int (g i)) i (.int (nar .byte x)) from up_int g i (i8 x))] at q
  exact q
theorem w_iastore (X : Hr p l e R s m args below meth c n0 h cells slots T) (C : Cx p s m meth c code ml ret own nm Z a0 tabs) {pc N : Nat} {Ls : Array Slot} {a : Addr} {g : Nat → Int32} {j : Int32} {x : Int32} {rest : List Value} (hd : decode code pc = .ok (.iastore, 1)) (A : ArI Z h a .int N g) (i : Nat) (hi : j.toInt = i) (hN : i < N) (ha : n0 ≤ a)
    (K : ∀ T' h', Hr p l e R s m args below meth c n0 h' cells slots T' → Wr h h' a i (.int (x)) → ArI Z h' a .int N (up g i (x)) → Goes p e below s n0 P k n T' (mkF m (pc + 1) Ls rest)) : Goes p e below s n0 P k n T (mkF m pc Ls (.int x :: .int j :: .ref a :: rest)) := by
  obtain ⟨locs, S, eT, N0, q0⟩ := X
  obtain ⟨cl, Ar, r1, r2⟩ := A
  obtain ⟨hin, e1⟩ := in_of (a := a) (ty := .int) hi hN r1
  obtain ⟨T', h', X', e', W', st⟩ := stI S C.1 C.2.2.2.2.2.2.2.1 eT Ar (j := j) hin (g := mkF m pc Ls (.int x :: .int j :: .ref a :: rest)) rfl rfl (hb C.2.1 hd)
  rw [e1] at W'
  refine Goes.of st (K T' h' ⟨_, X', e', Fr.snoc X' N0 ha, q0⟩ W' ?_)
  have q := ArV.same ⟨cl, Ar, r1, r2⟩ W'
  rw [← up_int] at q
  exact q
theorem w_lastore (X : Hr p l e R s m args below meth c n0 h cells slots T) (C : Cx p s m meth c code ml ret own nm Z a0 tabs) {pc N : Nat} {Ls : Array Slot} {a : Addr} {g : Nat → Int64} {j : Int32} {x : Int64} {rest : List Value} (hd : decode code pc = .ok (.lastore, 1)) (A : ArJ Z h a N g) (i : Nat) (hi : j.toInt = i) (hN : i < N) (ha : n0 ≤ a)
    (K : ∀ T' h', Hr p l e R s m args below meth c n0 h' cells slots T' → Wr h h' a i (.long (x)) → ArJ Z h' a N (up g i (x)) → Goes p e below s n0 P k n T' (mkF m (pc + 1) Ls rest)) : Goes p e below s n0 P k n T (mkF m pc Ls (.long x :: .int j :: .ref a :: rest)) := by
  obtain ⟨locs, S, eT, N0, q0⟩ := X
  obtain ⟨cl, Ar, r1, r2⟩ := A
  obtain ⟨hin, e1⟩ := in_of (a := a) (ty := .long) hi hN r1
  obtain ⟨T', h', X', e', W', st⟩ := stJ S C.1 C.2.2.2.2.2.2.2.1 eT Ar (j := j) hin (g := mkF m pc Ls (.long x :: .int j :: .ref a :: rest)) rfl rfl (hb C.2.1 hd)
  rw [e1] at W'
  refine Goes.of st (K T' h' ⟨_, X', e', Fr.snoc X' N0 ha, q0⟩ W' ?_)
  have q := ArV.same ⟨cl, Ar, r1, r2⟩ W'
  rw [← up_long] at q
  exact q
theorem w_arraylength (X : Hr p l e R s m args below meth c n0 h cells slots T) (C : Cx p s m meth c code ml ret own nm Z a0 tabs) {pc N : Nat} {Ls : Array Slot} {a : Addr} {ty : FieldType} {f : Nat → Value} {rest : List Value} (hd : decode code pc = .ok (.arraylength, 1)) (A : ArV Z h a ty N f) (K : Goes p e below s n0 P k n T (mkF m (pc + 1) Ls (.int N.toInt32 :: rest))) : Goes p e below s n0 P k n T (mkF m pc Ls (.ref a :: rest)) := by
  obtain ⟨locs, S, eT, N0, q0⟩ := X
  obtain ⟨cl, Ar, r1, r2⟩ := A
  subst r1
  exact Goes.of (fun _ kk => S.arraylength C.1 (by rw [eT]; exact Ar.1) (State.isArrayOf_alike C.2.2.2.2.2.2.2.1.alike Ar.2.1) (g := mkF m pc Ls (.ref a :: rest)) rfl rfl (hb C.2.1 hd) _ kk) K
theorem w_new_byte (X : Hr p l e R s m args below meth c n0 h cells slots T) (C : Cx p s m meth c code ml ret own nm Z a0 tabs) {pc : Nat} {Ls : Array Slot} {sz : Int32} {rest : List Value} (hd : decode code pc = .ok (.newarray .byte, 2)) (i1 : Jvm.Cond.arrayClass .byte ∈ tabs) (N : Nat) (hN : sz.toInt = N) (cap : Nat) (hcap : N ≤ cap) (hbig : cap * 8 ≤ 536870912) (hc : cells + 1 ≤ R.cells) (hl : slots + cap ≤ R.slots)
    (K : ∀ T' h' a, a = h.size → n0 ≤ a → Hr p l e R s m args below meth c n0 h' (cells + 1) (slots + cap) T' → Ext h h' → ArI Z h' a .byte N (fun _ => 0) → Goes p e below s n0 P k n T' (mkF m (pc + 2) Ls (.ref a :: rest))) : Goes p e below s n0 P k n T (mkF m pc Ls (.int sz :: rest)) := by
  have hsz := X.size
  obtain ⟨locs, S, eT, N0, q0⟩ := X
  have hw := C.2.2.2.2.2.2.2.2
  have e1 : sz.toNatClampNeg = N := by simp only [Int32.toNatClampNeg, hN]; omega
  have e2 : ¬ sz < 0 := by
    have e0 : (0 : Int32).toInt = 0 := rfl
    rw [Int32.lt_iff_toInt_lt, e0]; omega
  obtain ⟨T', h', kk', X', e', E', A', st⟩ := newP S C.1 C.2.2.2.2.2.2.2.1 (aty := .byte) (hw _ i1) eT (g := mkF m pc Ls (.int sz :: rest)) rfl (hb C.2.1 hd) rfl e2 (cap := cap) (by rw [e1]; exact hcap) hbig hc hl
  refine Goes.of st (K T' h' h.size rfl hsz ⟨_, X', e', N0, q0⟩ E' ⟨_, A', by rw [sz_new]; exact e1, fun i hi => ?_⟩)
  simp [newA, e1, hi, newarray.typeOf, defaultValue]
theorem w_new_int (X : Hr p l e R s m args below meth c n0 h cells slots T) (C : Cx p s m meth c code ml ret own nm Z a0 tabs) {pc : Nat} {Ls : Array Slot} {sz : Int32} {rest : List Value} (hd : decode code pc = .ok (.newarray .int, 2)) (i1 : Jvm.Cond.arrayClass .int ∈ tabs) (N : Nat) (hN : sz.toInt = N) (cap : Nat) (hcap : N ≤ cap) (hbig : cap * 8 ≤ 536870912) (hc : cells + 1 ≤ R.cells) (hl : slots + cap ≤ R.slots)
    (K : ∀ T' h' a, a = h.size → n0 ≤ a → Hr p l e R s m args below meth c n0 h' (cells + 1) (slots + cap) T' → Ext h h' → ArI Z h' a .int N (fun _ => 0) → Goes p e below s n0 P k n T' (mkF m (pc + 2) Ls (.ref a :: rest))) : Goes p e below s n0 P k n T (mkF m pc Ls (.int sz :: rest)) := by
  have hsz := X.size
  obtain ⟨locs, S, eT, N0, q0⟩ := X
  have hw := C.2.2.2.2.2.2.2.2
  have e1 : sz.toNatClampNeg = N := by simp only [Int32.toNatClampNeg, hN]; omega
  have e2 : ¬ sz < 0 := by
    have e0 : (0 : Int32).toInt = 0 := rfl
    rw [Int32.lt_iff_toInt_lt, e0]; omega
  obtain ⟨T', h', kk', X', e', E', A', st⟩ := newP S C.1 C.2.2.2.2.2.2.2.1 (aty := .int) (hw _ i1) eT (g := mkF m pc Ls (.int sz :: rest)) rfl (hb C.2.1 hd) rfl e2 (cap := cap) (by rw [e1]; exact hcap) hbig hc hl
  refine Goes.of st (K T' h' h.size rfl hsz ⟨_, X', e', N0, q0⟩ E' ⟨_, A', by rw [sz_new]; exact e1, fun i hi => ?_⟩)
  simp [newA, e1, hi, newarray.typeOf, defaultValue]
theorem w_new_long (X : Hr p l e R s m args below meth c n0 h cells slots T) (C : Cx p s m meth c code ml ret own nm Z a0 tabs) {pc : Nat} {Ls : Array Slot} {sz : Int32} {rest : List Value} (hd : decode code pc = .ok (.newarray .long, 2)) (i1 : Jvm.Cond.arrayClass .long ∈ tabs) (N : Nat) (hN : sz.toInt = N) (cap : Nat) (hcap : N ≤ cap) (hbig : cap * 8 ≤ 536870912) (hc : cells + 1 ≤ R.cells) (hl : slots + cap ≤ R.slots)
    (K : ∀ T' h' a, a = h.size → n0 ≤ a → Hr p l e R s m args below meth c n0 h' (cells + 1) (slots + cap) T' → Ext h h' → ArJ Z h' a N (fun _ => 0) → Goes p e below s n0 P k n T' (mkF m (pc + 2) Ls (.ref a :: rest))) : Goes p e below s n0 P k n T (mkF m pc Ls (.int sz :: rest)) := by
  have hsz := X.size
  obtain ⟨locs, S, eT, N0, q0⟩ := X
  have hw := C.2.2.2.2.2.2.2.2
  have e1 : sz.toNatClampNeg = N := by simp only [Int32.toNatClampNeg, hN]; omega
  have e2 : ¬ sz < 0 := by
    have e0 : (0 : Int32).toInt = 0 := rfl
    rw [Int32.lt_iff_toInt_lt, e0]; omega
  obtain ⟨T', h', kk', X', e', E', A', st⟩ := newP S C.1 C.2.2.2.2.2.2.2.1 (aty := .long) (hw _ i1) eT (g := mkF m pc Ls (.int sz :: rest)) rfl (hb C.2.1 hd) rfl e2 (cap := cap) (by rw [e1]; exact hcap) hbig hc hl
  refine Goes.of st (K T' h' h.size rfl hsz ⟨_, X', e', N0, q0⟩ E' ⟨_, A', by rw [sz_new]; exact e1, fun i hi => ?_⟩)
  simp [newA, e1, hi, newarray.typeOf, defaultValue]
end W
end Jvm.OwnW
namespace Jvm.Pilot.@@N@@
open Jvm Jvm.ClassFile Sem Op Lib Jvm.Free Jvm.Stand Jvm.LawKit Jvm.RoadKit Bundle Jvm.OwnW Jvm.Pilot.@@N@@.Jvm.D
theorem pn_0 : plainName "com/example/tracebed/tracebed/io/RdfTerminalsIsNameBasePinLaw" = true := by first | (simp [plainName, overriddenIn]; done) | decide +kernel
theorem pn_1 : plainName "com/example/tracebed/tracebed/io/RdfTerminals" = true := by first | (simp [plainName, overriddenIn]; done) | decide +kernel
theorem pd_0 : parseMethodDescriptor "(III)Z" = some ⟨[.int, .int, .int], some .boolean⟩ := by decide +kernel
theorem pd_1 : parseMethodDescriptor "(I)Z" = some ⟨[.int], some .boolean⟩ := by decide +kernel
def f1_189 (x0 : Int32) : Int32 := (0 : Int32)
def f1_185 (x0 : Int32) : Int32 := (1 : Int32)
def f1_173 (x0 : Int32) : Int32 := (if x0 < (65536 : Int32) then (f1_189 x0) else (if (983039 : Int32) < x0 then (f1_189 x0) else (f1_185 x0)))
def f1_161 (x0 : Int32) : Int32 := (if x0 < (65008 : Int32) then (f1_173 x0) else (if (65533 : Int32) < x0 then (f1_173 x0) else (f1_185 x0)))
def f1_149 (x0 : Int32) : Int32 := (if x0 < (63744 : Int32) then (f1_161 x0) else (if (64975 : Int32) < x0 then (f1_161 x0) else (f1_185 x0)))
def f1_136 (x0 : Int32) : Int32 := (if x0 < (12289 : Int32) then (f1_149 x0) else (if (55295 : Int32) < x0 then (f1_149 x0) else (f1_185 x0)))
def f1_122 (x0 : Int32) : Int32 := (if x0 < (11264 : Int32) then (f1_136 x0) else (if (12271 : Int32) < x0 then (f1_136 x0) else (f1_185 x0)))
def f1_108 (x0 : Int32) : Int32 := (if x0 < (8304 : Int32) then (f1_122 x0) else (if (8591 : Int32) < x0 then (f1_122 x0) else (f1_185 x0)))
def f1_94 (x0 : Int32) : Int32 := (if x0 < (8204 : Int32) then (f1_108 x0) else (if (8205 : Int32) < x0 then (f1_108 x0) else (f1_185 x0)))
def f1_80 (x0 : Int32) : Int32 := (if x0 < (895 : Int32) then (f1_94 x0) else (if (8191 : Int32) < x0 then (f1_94 x0) else (f1_185 x0)))
def f1_66 (x0 : Int32) : Int32 := (if x0 < (880 : Int32) then (f1_80 x0) else (if (893 : Int32) < x0 then (f1_80 x0) else (f1_185 x0)))
def f1_52 (x0 : Int32) : Int32 := (if x0 < (248 : Int32) then (f1_66 x0) else (if (767 : Int32) < x0 then (f1_66 x0) else (f1_185 x0)))
def f1_38 (x0 : Int32) : Int32 := (if x0 < (216 : Int32) then (f1_52 x0) else (if (246 : Int32) < x0 then (f1_52 x0) else (f1_185 x0)))
def f1_24 (x0 : Int32) : Int32 := (if x0 < (192 : Int32) then (f1_38 x0) else (if (214 : Int32) < x0 then (f1_38 x0) else (f1_185 x0)))
def f1_12 (x0 : Int32) : Int32 := (if x0 < (97 : Int32) then (f1_24 x0) else (if (122 : Int32) < x0 then (f1_24 x0) else (f1_185 x0)))
def f1 (x0 : Int32) : Int32 := (if x0 < (65 : Int32) then (f1_12 x0) else (if (90 : Int32) < x0 then (f1_12 x0) else (f1_185 x0)))
theorem d1_0 : decode prog_54_method_2_code 0 = .ok (.iload_n 0, 1) := by decide +kernel
theorem d1_1 : decode prog_54_method_2_code 1 = .ok (.bipush 65, 2) := by decide +kernel
theorem d1_3 : decode prog_54_method_2_code 3 = .ok (.if_icmp .lt 9, 3) := by decide +kernel
theorem d1_6 : decode prog_54_method_2_code 6 = .ok (.iload_n 0, 1) := by decide +kernel
theorem d1_7 : decode prog_54_method_2_code 7 = .ok (.bipush 90, 2) := by decide +kernel
theorem d1_9 : decode prog_54_method_2_code 9 = .ok (.if_icmp .le 176, 3) := by decide +kernel
theorem d1_12 : decode prog_54_method_2_code 12 = .ok (.iload_n 0, 1) := by decide +kernel
theorem d1_13 : decode prog_54_method_2_code 13 = .ok (.bipush 97, 2) := by decide +kernel
theorem d1_15 : decode prog_54_method_2_code 15 = .ok (.if_icmp .lt 9, 3) := by decide +kernel
theorem d1_18 : decode prog_54_method_2_code 18 = .ok (.iload_n 0, 1) := by decide +kernel
theorem d1_19 : decode prog_54_method_2_code 19 = .ok (.bipush 122, 2) := by decide +kernel
theorem d1_21 : decode prog_54_method_2_code 21 = .ok (.if_icmp .le 164, 3) := by decide +kernel
theorem d1_24 : decode prog_54_method_2_code 24 = .ok (.iload_n 0, 1) := by decide +kernel
theorem d1_25 : decode prog_54_method_2_code 25 = .ok (.sipush 192, 3) := by decide +kernel
theorem d1_28 : decode prog_54_method_2_code 28 = .ok (.if_icmp .lt 10, 3) := by decide +kernel
theorem d1_31 : decode prog_54_method_2_code 31 = .ok (.iload_n 0, 1) := by decide +kernel
theorem d1_32 : decode prog_54_method_2_code 32 = .ok (.sipush 214, 3) := by decide +kernel
theorem d1_35 : decode prog_54_method_2_code 35 = .ok (.if_icmp .le 150, 3) := by decide +kernel
theorem d1_38 : decode prog_54_method_2_code 38 = .ok (.iload_n 0, 1) := by decide +kernel
theorem d1_39 : decode prog_54_method_2_code 39 = .ok (.sipush 216, 3) := by decide +kernel
theorem d1_42 : decode prog_54_method_2_code 42 = .ok (.if_icmp .lt 10, 3) := by decide +kernel
theorem d1_45 : decode prog_54_method_2_code 45 = .ok (.iload_n 0, 1) := by decide +kernel
theorem d1_46 : decode prog_54_method_2_code 46 = .ok (.sipush 246, 3) := by decide +kernel
theorem d1_49 : decode prog_54_method_2_code 49 = .ok (.if_icmp .le 136, 3) := by decide +kernel
theorem d1_52 : decode prog_54_method_2_code 52 = .ok (.iload_n 0, 1) := by decide +kernel
theorem d1_53 : decode prog_54_method_2_code 53 = .ok (.sipush 248, 3) := by decide +kernel
theorem d1_56 : decode prog_54_method_2_code 56 = .ok (.if_icmp .lt 10, 3) := by decide +kernel
theorem d1_59 : decode prog_54_method_2_code 59 = .ok (.iload_n 0, 1) := by decide +kernel
theorem d1_60 : decode prog_54_method_2_code 60 = .ok (.sipush 767, 3) := by decide +kernel
theorem d1_63 : decode prog_54_method_2_code 63 = .ok (.if_icmp .le 122, 3) := by decide +kernel
theorem d1_66 : decode prog_54_method_2_code 66 = .ok (.iload_n 0, 1) := by decide +kernel
theorem d1_67 : decode prog_54_method_2_code 67 = .ok (.sipush 880, 3) := by decide +kernel
theorem d1_70 : decode prog_54_method_2_code 70 = .ok (.if_icmp .lt 10, 3) := by decide +kernel
theorem d1_73 : decode prog_54_method_2_code 73 = .ok (.iload_n 0, 1) := by decide +kernel
theorem d1_74 : decode prog_54_method_2_code 74 = .ok (.sipush 893, 3) := by decide +kernel
theorem d1_77 : decode prog_54_method_2_code 77 = .ok (.if_icmp .le 108, 3) := by decide +kernel
theorem d1_80 : decode prog_54_method_2_code 80 = .ok (.iload_n 0, 1) := by decide +kernel
theorem d1_81 : decode prog_54_method_2_code 81 = .ok (.sipush 895, 3) := by decide +kernel
theorem d1_84 : decode prog_54_method_2_code 84 = .ok (.if_icmp .lt 10, 3) := by decide +kernel
theorem d1_87 : decode prog_54_method_2_code 87 = .ok (.iload_n 0, 1) := by decide +kernel
theorem d1_88 : decode prog_54_method_2_code 88 = .ok (.sipush 8191, 3) := by decide +kernel
theorem d1_91 : decode prog_54_method_2_code 91 = .ok (.if_icmp .le 94, 3) := by decide +kernel
theorem d1_94 : decode prog_54_method_2_code 94 = .ok (.iload_n 0, 1) := by decide +kernel
theorem d1_95 : decode prog_54_method_2_code 95 = .ok (.sipush 8204, 3) := by decide +kernel
theorem d1_98 : decode prog_54_method_2_code 98 = .ok (.if_icmp .lt 10, 3) := by decide +kernel
theorem d1_101 : decode prog_54_method_2_code 101 = .ok (.iload_n 0, 1) := by decide +kernel
theorem d1_102 : decode prog_54_method_2_code 102 = .ok (.sipush 8205, 3) := by decide +kernel
theorem d1_105 : decode prog_54_method_2_code 105 = .ok (.if_icmp .le 80, 3) := by decide +kernel
theorem d1_108 : decode prog_54_method_2_code 108 = .ok (.iload_n 0, 1) := by decide +kernel
theorem d1_109 : decode prog_54_method_2_code 109 = .ok (.sipush 8304, 3) := by decide +kernel
theorem d1_112 : decode prog_54_method_2_code 112 = .ok (.if_icmp .lt 10, 3) := by decide +kernel
theorem d1_115 : decode prog_54_method_2_code 115 = .ok (.iload_n 0, 1) := by decide +kernel
theorem d1_116 : decode prog_54_method_2_code 116 = .ok (.sipush 8591, 3) := by decide +kernel
theorem d1_119 : decode prog_54_method_2_code 119 = .ok (.if_icmp .le 66, 3) := by decide +kernel
theorem d1_122 : decode prog_54_method_2_code 122 = .ok (.iload_n 0, 1) := by decide +kernel
theorem d1_123 : decode prog_54_method_2_code 123 = .ok (.sipush 11264, 3) := by decide +kernel
theorem d1_126 : decode prog_54_method_2_code 126 = .ok (.if_icmp .lt 10, 3) := by decide +kernel
theorem d1_129 : decode prog_54_method_2_code 129 = .ok (.iload_n 0, 1) := by decide +kernel
theorem d1_130 : decode prog_54_method_2_code 130 = .ok (.sipush 12271, 3) := by decide +kernel
theorem d1_133 : decode prog_54_method_2_code 133 = .ok (.if_icmp .le 52, 3) := by decide +kernel
theorem d1_136 : decode prog_54_method_2_code 136 = .ok (.iload_n 0, 1) := by decide +kernel
theorem d1_137 : decode prog_54_method_2_code 137 = .ok (.sipush 12289, 3) := by decide +kernel
theorem d1_140 : decode prog_54_method_2_code 140 = .ok (.if_icmp .lt 9, 3) := by decide +kernel
theorem d1_143 : decode prog_54_method_2_code 143 = .ok (.iload_n 0, 1) := by decide +kernel
theorem d1_144 : decode prog_54_method_2_code 144 = .ok (.ldc 7, 2) := by decide +kernel
theorem d1_146 : decode prog_54_method_2_code 146 = .ok (.if_icmp .le 39, 3) := by decide +kernel
theorem d1_149 : decode prog_54_method_2_code 149 = .ok (.iload_n 0, 1) := by decide +kernel
theorem d1_150 : decode prog_54_method_2_code 150 = .ok (.ldc 8, 2) := by decide +kernel
theorem d1_152 : decode prog_54_method_2_code 152 = .ok (.if_icmp .lt 9, 3) := by decide +kernel
theorem d1_155 : decode prog_54_method_2_code 155 = .ok (.iload_n 0, 1) := by decide +kernel
theorem d1_156 : decode prog_54_method_2_code 156 = .ok (.ldc 9, 2) := by decide +kernel
theorem d1_158 : decode prog_54_method_2_code 158 = .ok (.if_icmp .le 27, 3) := by decide +kernel
theorem d1_161 : decode prog_54_method_2_code 161 = .ok (.iload_n 0, 1) := by decide +kernel
theorem d1_162 : decode prog_54_method_2_code 162 = .ok (.ldc 10, 2) := by decide +kernel
theorem d1_164 : decode prog_54_method_2_code 164 = .ok (.if_icmp .lt 9, 3) := by decide +kernel
theorem d1_167 : decode prog_54_method_2_code 167 = .ok (.iload_n 0, 1) := by decide +kernel
theorem d1_168 : decode prog_54_method_2_code 168 = .ok (.ldc 11, 2) := by decide +kernel
theorem d1_170 : decode prog_54_method_2_code 170 = .ok (.if_icmp .le 15, 3) := by decide +kernel
theorem d1_173 : decode prog_54_method_2_code 173 = .ok (.iload_n 0, 1) := by decide +kernel
theorem d1_174 : decode prog_54_method_2_code 174 = .ok (.ldc 12, 2) := by decide +kernel
theorem d1_176 : decode prog_54_method_2_code 176 = .ok (.if_icmp .lt 13, 3) := by decide +kernel
theorem d1_179 : decode prog_54_method_2_code 179 = .ok (.iload_n 0, 1) := by decide +kernel
theorem d1_180 : decode prog_54_method_2_code 180 = .ok (.ldc 13, 2) := by decide +kernel
theorem d1_182 : decode prog_54_method_2_code 182 = .ok (.if_icmp .gt 7, 3) := by decide +kernel
theorem d1_185 : decode prog_54_method_2_code 185 = .ok (.iconst 1, 1) := by decide +kernel
theorem d1_186 : decode prog_54_method_2_code 186 = .ok (.goto 4, 3) := by decide +kernel
theorem d1_189 : decode prog_54_method_2_code 189 = .ok (.iconst 0, 1) := by decide +kernel
theorem d1_190 : decode prog_54_method_2_code 190 = .ok (.ireturn, 1) := by decide +kernel
set_option maxRecDepth 65536 in
set_option maxHeartbeats 4000000 in
theorem b1_189 {p : Program} {l : Launch} {e : Env} {s : State} {m : MethodId} {args : Array Value} {below : List Frame} {meth : Method} {c : Code} {T : State} {h : Heap} {n0 : Nat} {P : Option Value → Heap → Prop} {Z : State} {a0 : Array Value} (X : Hr p l e ({ frames := 0, cells := 0, slots := 0, locals := 0 } : Room) s m args below meth c n0 h 0 0 T) (C : Cx p s m meth c prog_54_method_2_code 1 (some .boolean) "com/example/tracebed/tracebed/io/RdfTerminals" "isNameBase" Z a0 tables_1) (x0 : Int32) (hP : P (some (.int (f1_189 x0))) h) : Goes p e below s n0 P 0 0 T (mkF m 189 #[.val (.int x0)] []) := by
  refine w_iconst (pc := 189) X C d1_189 (0 : Int32) rfl ?_
  exact w_ret_boolean (pc := 190) X C d1_190 (by unfold f1_189 at hP; exact hP)
set_option maxRecDepth 65536 in
set_option maxHeartbeats 4000000 in
theorem b1_185 {p : Program} {l : Launch} {e : Env} {s : State} {m : MethodId} {args : Array Value} {below : List Frame} {meth : Method} {c : Code} {T : State} {h : Heap} {n0 : Nat} {P : Option Value → Heap → Prop} {Z : State} {a0 : Array Value} (X : Hr p l e ({ frames := 0, cells := 0, slots := 0, locals := 0 } : Room) s m args below meth c n0 h 0 0 T) (C : Cx p s m meth c prog_54_method_2_code 1 (some .boolean) "com/example/tracebed/tracebed/io/RdfTerminals" "isNameBase" Z a0 tables_1) (x0 : Int32) (hP : P (some (.int (f1_185 x0))) h) : Goes p e below s n0 P 0 0 T (mkF m 185 #[.val (.int x0)] []) := by
  refine w_iconst (pc := 185) X C d1_185 (1 : Int32) rfl ?_
  refine w_goto (pc := 186) X C d1_186 190 (by decide) ?_
  exact w_ret_boolean (pc := 190) X C d1_190 (by unfold f1_185 at hP; exact hP)
set_option maxRecDepth 65536 in
set_option maxHeartbeats 4000000 in
theorem b1_173 {p : Program} {l : Launch} {e : Env} {s : State} {m : MethodId} {args : Array Value} {below : List Frame} {meth : Method} {c : Code} {T : State} {h : Heap} {n0 : Nat} {P : Option Value → Heap → Prop} {Z : State} {a0 : Array Value} (X : Hr p l e ({ frames := 0, cells := 0, slots := 0, locals := 0 } : Room) s m args below meth c n0 h 0 0 T) (C : Cx p s m meth c prog_54_method_2_code 1 (some .boolean) "com/example/tracebed/tracebed/io/RdfTerminals" "isNameBase" Z a0 tables_1) (x0 : Int32) (hP : P (some (.int (f1_173 x0))) h) : Goes p e below s n0 P 0 0 T (mkF m 173 #[.val (.int x0)] []) := by
  refine w_iloadN (pc := 173) X C d1_173 rfl ?_
  refine w_ldcI (pc := 174) X C d1_174 (v := (65536 : Int32)) (List.mem_of_getElem? (i := 6) rfl) ?_
  refine w_icmp_lt (pc := 176) X C d1_176 189 (by decide) (fun q27 => ?_) (fun q27 => ?_)
  · -- yes
    exact b1_189 X C (x0) (by unfold f1_173 at hP; rw [if_pos q27] at hP; exact hP)
  · -- no
    refine w_iloadN (pc := 179) X C d1_179 rfl ?_
    refine w_ldcI (pc := 180) X C d1_180 (v := (983039 : Int32)) (List.mem_of_getElem? (i := 24) rfl) ?_
    refine w_icmp_gt (pc := 182) X C d1_182 189 (by decide) (fun q28 => ?_) (fun q28 => ?_)
    · -- yes
      exact b1_189 X C (x0) (by unfold f1_173 at hP; rw [if_neg q27, if_pos q28] at hP; exact hP)
    · -- no
      exact b1_185 X C (x0) (by unfold f1_173 at hP; rw [if_neg q27, if_neg q28] at hP; exact hP)
set_option maxRecDepth 65536 in
set_option maxHeartbeats 4000000 in
theorem b1_161 {p : Program} {l : Launch} {e : Env} {s : State} {m : MethodId} {args : Array Value} {below : List Frame} {meth : Method} {c : Code} {T : State} {h : Heap} {n0 : Nat} {P : Option Value → Heap → Prop} {Z : State} {a0 : Array Value} (X : Hr p l e ({ frames := 0, cells := 0, slots := 0, locals := 0 } : Room) s m args below meth c n0 h 0 0 T) (C : Cx p s m meth c prog_54_method_2_code 1 (some .boolean) "com/example/tracebed/tracebed/io/RdfTerminals" "isNameBase" Z a0 tables_1) (x0 : Int32) (hP : P (some (.int (f1_161 x0))) h) : Goes p e below s n0 P 0 0 T (mkF m 161 #[.val (.int x0)] []) := by
  refine w_iloadN (pc := 161) X C d1_161 rfl ?_
  refine w_ldcI (pc := 162) X C d1_162 (v := (65008 : Int32)) (List.mem_of_getElem? (i := 5) rfl) ?_
  refine w_icmp_lt (pc := 164) X C d1_164 173 (by decide) (fun q25 => ?_) (fun q25 => ?_)
  · -- yes
    exact b1_173 X C (x0) (by unfold f1_161 at hP; rw [if_pos q25] at hP; exact hP)
  · -- no
    refine w_iloadN (pc := 167) X C d1_167 rfl ?_
    refine w_ldcI (pc := 168) X C d1_168 (v := (65533 : Int32)) (List.mem_of_getElem? (i := 23) rfl) ?_
    refine w_icmp_le (pc := 170) X C d1_170 185 (by decide) (fun q26 => ?_) (fun q26 => ?_)
    · -- yes
      exact b1_185 X C (x0) (by unfold f1_161 at hP; rw [if_neg q25, if_neg q26] at hP; exact hP)
    · -- no
      exact b1_173 X C (x0) (by unfold f1_161 at hP; rw [if_neg q25, if_pos q26] at hP; exact hP)
set_option maxRecDepth 65536 in
set_option maxHeartbeats 4000000 in
theorem b1_149 {p : Program} {l : Launch} {e : Env} {s : State} {m : MethodId} {args : Array Value} {below : List Frame} {meth : Method} {c : Code} {T : State} {h : Heap} {n0 : Nat} {P : Option Value → Heap → Prop} {Z : State} {a0 : Array Value} (X : Hr p l e ({ frames := 0, cells := 0, slots := 0, locals := 0 } : Room) s m args below meth c n0 h 0 0 T) (C : Cx p s m meth c prog_54_method_2_code 1 (some .boolean) "com/example/tracebed/tracebed/io/RdfTerminals" "isNameBase" Z a0 tables_1) (x0 : Int32) (hP : P (some (.int (f1_149 x0))) h) : Goes p e below s n0 P 0 0 T (mkF m 149 #[.val (.int x0)] []) := by
  refine w_iloadN (pc := 149) X C d1_149 rfl ?_
  refine w_ldcI (pc := 150) X C d1_150 (v := (63744 : Int32)) (List.mem_of_getElem? (i := 4) rfl) ?_
  refine w_icmp_lt (pc := 152) X C d1_152 161 (by decide) (fun q23 => ?_) (fun q23 => ?_)
  · -- yes
    exact b1_161 X C (x0) (by unfold f1_149 at hP; rw [if_pos q23] at hP; exact hP)
  · -- no
    refine w_iloadN (pc := 155) X C d1_155 rfl ?_
    refine w_ldcI (pc := 156) X C d1_156 (v := (64975 : Int32)) (List.mem_of_getElem? (i := 22) rfl) ?_
    refine w_icmp_le (pc := 158) X C d1_158 185 (by decide) (fun q24 => ?_) (fun q24 => ?_)
    · -- yes
      exact b1_185 X C (x0) (by unfold f1_149 at hP; rw [if_neg q23, if_neg q24] at hP; exact hP)
    · -- no
      exact b1_161 X C (x0) (by unfold f1_149 at hP; rw [if_neg q23, if_pos q24] at hP; exact hP)
set_option maxRecDepth 65536 in
set_option maxHeartbeats 4000000 in
theorem b1_136 {p : Program} {l : Launch} {e : Env} {s : State} {m : MethodId} {args : Array Value} {below : List Frame} {meth : Method} {c : Code} {T : State} {h : Heap} {n0 : Nat} {P : Option Value → Heap → Prop} {Z : State} {a0 : Array Value} (X : Hr p l e ({ frames := 0, cells := 0, slots := 0, locals := 0 } : Room) s m args below meth c n0 h 0 0 T) (C : Cx p s m meth c prog_54_method_2_code 1 (some .boolean) "com/example/tracebed/tracebed/io/RdfTerminals" "isNameBase" Z a0 tables_1) (x0 : Int32) (hP : P (some (.int (f1_136 x0))) h) : Goes p e below s n0 P 0 0 T (mkF m 136 #[.val (.int x0)] []) := by
  refine w_iloadN (pc := 136) X C d1_136 rfl ?_
  refine w_sipush (pc := 137) X C d1_137 (12289 : Int32) rfl ?_
  refine w_icmp_lt (pc := 140) X C d1_140 149 (by decide) (fun q21 => ?_) (fun q21 => ?_)
  · -- yes
    exact b1_149 X C (x0) (by unfold f1_136 at hP; rw [if_pos q21] at hP; exact hP)
  · -- no
    refine w_iloadN (pc := 143) X C d1_143 rfl ?_
    refine w_ldcI (pc := 144) X C d1_144 (v := (55295 : Int32)) (List.mem_of_getElem? (i := 21) rfl) ?_
    refine w_icmp_le (pc := 146) X C d1_146 185 (by decide) (fun q22 => ?_) (fun q22 => ?_)
    · -- yes
      exact b1_185 X C (x0) (by unfold f1_136 at hP; rw [if_neg q21, if_neg q22] at hP; exact hP)
    · -- no
      exact b1_149 X C (x0) (by unfold f1_136 at hP; rw [if_neg q21, if_pos q22] at hP; exact hP)
set_option maxRecDepth 65536 in
set_option maxHeartbeats 4000000 in
theorem b1_122 {p : Program} {l : Launch} {e : Env} {s : State} {m : MethodId} {args : Array Value} {below : List Frame} {meth : Method} {c : Code} {T : State} {h : Heap} {n0 : Nat} {P : Option Value → Heap → Prop} {Z : State} {a0 : Array Value} (X : Hr p l e ({ frames := 0, cells := 0, slots := 0, locals := 0 } : Room) s m args below meth c n0 h 0 0 T) (C : Cx p s m meth c prog_54_method_2_code 1 (some .boolean) "com/example/tracebed/tracebed/io/RdfTerminals" "isNameBase" Z a0 tables_1) (x0 : Int32) (hP : P (some (.int (f1_122 x0))) h) : Goes p e below s n0 P 0 0 T (mkF m 122 #[.val (.int x0)] []) := by
  refine w_iloadN (pc := 122) X C d1_122 rfl ?_
  refine w_sipush (pc := 123) X C d1_123 (11264 : Int32) rfl ?_
  refine w_icmp_lt (pc := 126) X C d1_126 136 (by decide) (fun q19 => ?_) (fun q19 => ?_)
  · -- yes
    exact b1_136 X C (x0) (by unfold f1_122 at hP; rw [if_pos q19] at hP; exact hP)
  · -- no
    refine w_iloadN (pc := 129) X C d1_129 rfl ?_
    refine w_sipush (pc := 130) X C d1_130 (12271 : Int32) rfl ?_
    refine w_icmp_le (pc := 133) X C d1_133 185 (by decide) (fun q20 => ?_) (fun q20 => ?_)
    · -- yes
      exact b1_185 X C (x0) (by unfold f1_122 at hP; rw [if_neg q19, if_neg q20] at hP; exact hP)
    · -- no
      exact b1_136 X C (x0) (by unfold f1_122 at hP; rw [if_neg q19, if_pos q20] at hP; exact hP)
set_option maxRecDepth 65536 in
set_option maxHeartbeats 4000000 in
theorem b1_108 {p : Program} {l : Launch} {e : Env} {s : State} {m : MethodId} {args : Array Value} {below : List Frame} {meth : Method} {c : Code} {T : State} {h : Heap} {n0 : Nat} {P : Option Value → Heap → Prop} {Z : State} {a0 : Array Value} (X : Hr p l e ({ frames := 0, cells := 0, slots := 0, locals := 0 } : Room) s m args below meth c n0 h 0 0 T) (C : Cx p s m meth c prog_54_method_2_code 1 (some .boolean) "com/example/tracebed/tracebed/io/RdfTerminals" "isNameBase" Z a0 tables_1) (x0 : Int32) (hP : P (some (.int (f1_108 x0))) h) : Goes p e below s n0 P 0 0 T (mkF m 108 #[.val (.int x0)] []) := by
  refine w_iloadN (pc := 108) X C d1_108 rfl ?_
  refine w_sipush (pc := 109) X C d1_109 (8304 : Int32) rfl ?_
  refine w_icmp_lt (pc := 112) X C d1_112 122 (by decide) (fun q17 => ?_) (fun q17 => ?_)
  · -- yes
    exact b1_122 X C (x0) (by unfold f1_108 at hP; rw [if_pos q17] at hP; exact hP)
  · -- no
    refine w_iloadN (pc := 115) X C d1_115 rfl ?_
    refine w_sipush (pc := 116) X C d1_116 (8591 : Int32) rfl ?_
    refine w_icmp_le (pc := 119) X C d1_119 185 (by decide) (fun q18 => ?_) (fun q18 => ?_)
    · -- yes
      exact b1_185 X C (x0) (by unfold f1_108 at hP; rw [if_neg q17, if_neg q18] at hP; exact hP)
    · -- no
      exact b1_122 X C (x0) (by unfold f1_108 at hP; rw [if_neg q17, if_pos q18] at hP; exact hP)
set_option maxRecDepth 65536 in
set_option maxHeartbeats 4000000 in
theorem b1_94 {p : Program} {l : Launch} {e : Env} {s : State} {m : MethodId} {args : Array Value} {below : List Frame} {meth : Method} {c : Code} {T : State} {h : Heap} {n0 : Nat} {P : Option Value → Heap → Prop} {Z : State} {a0 : Array Value} (X : Hr p l e ({ frames := 0, cells := 0, slots := 0, locals := 0 } : Room) s m args below meth c n0 h 0 0 T) (C : Cx p s m meth c prog_54_method_2_code 1 (some .boolean) "com/example/tracebed/tracebed/io/RdfTerminals" "isNameBase" Z a0 tables_1) (x0 : Int32) (hP : P (some (.int (f1_94 x0))) h) : Goes p e below s n0 P 0 0 T (mkF m 94 #[.val (.int x0)] []) := by
  refine w_iloadN (pc := 94) X C d1_94 rfl ?_
  refine w_sipush (pc := 95) X C d1_95 (8204 : Int32) rfl ?_
  refine w_icmp_lt (pc := 98) X C d1_98 108 (by decide) (fun q15 => ?_) (fun q15 => ?_)
  · -- yes
    exact b1_108 X C (x0) (by unfold f1_94 at hP; rw [if_pos q15] at hP; exact hP)
  · -- no
    refine w_iloadN (pc := 101) X C d1_101 rfl ?_
    refine w_sipush (pc := 102) X C d1_102 (8205 : Int32) rfl ?_
    refine w_icmp_le (pc := 105) X C d1_105 185 (by decide) (fun q16 => ?_) (fun q16 => ?_)
    · -- yes
      exact b1_185 X C (x0) (by unfold f1_94 at hP; rw [if_neg q15, if_neg q16] at hP; exact hP)
    · -- no
      exact b1_108 X C (x0) (by unfold f1_94 at hP; rw [if_neg q15, if_pos q16] at hP; exact hP)
set_option maxRecDepth 65536 in
set_option maxHeartbeats 4000000 in
theorem b1_80 {p : Program} {l : Launch} {e : Env} {s : State} {m : MethodId} {args : Array Value} {below : List Frame} {meth : Method} {c : Code} {T : State} {h : Heap} {n0 : Nat} {P : Option Value → Heap → Prop} {Z : State} {a0 : Array Value} (X : Hr p l e ({ frames := 0, cells := 0, slots := 0, locals := 0 } : Room) s m args below meth c n0 h 0 0 T) (C : Cx p s m meth c prog_54_method_2_code 1 (some .boolean) "com/example/tracebed/tracebed/io/RdfTerminals" "isNameBase" Z a0 tables_1) (x0 : Int32) (hP : P (some (.int (f1_80 x0))) h) : Goes p e below s n0 P 0 0 T (mkF m 80 #[.val (.int x0)] []) := by
  refine w_iloadN (pc := 80) X C d1_80 rfl ?_
  refine w_sipush (pc := 81) X C d1_81 (895 : Int32) rfl ?_
  refine w_icmp_lt (pc := 84) X C d1_84 94 (by decide) (fun q13 => ?_) (fun q13 => ?_)
  · -- yes
    exact b1_94 X C (x0) (by unfold f1_80 at hP; rw [if_pos q13] at hP; exact hP)
  · -- no
    refine w_iloadN (pc := 87) X C d1_87 rfl ?_
    refine w_sipush (pc := 88) X C d1_88 (8191 : Int32) rfl ?_
    refine w_icmp_le (pc := 91) X C d1_91 185 (by decide) (fun q14 => ?_) (fun q14 => ?_)
    · -- yes
      exact b1_185 X C (x0) (by unfold f1_80 at hP; rw [if_neg q13, if_neg q14] at hP; exact hP)
    · -- no
      exact b1_94 X C (x0) (by unfold f1_80 at hP; rw [if_neg q13, if_pos q14] at hP; exact hP)
set_option maxRecDepth 65536 in
set_option maxHeartbeats 4000000 in
theorem b1_66 {p : Program} {l : Launch} {e : Env} {s : State} {m : MethodId} {args : Array Value} {below : List Frame} {meth : Method} {c : Code} {T : State} {h : Heap} {n0 : Nat} {P : Option Value → Heap → Prop} {Z : State} {a0 : Array Value} (X : Hr p l e ({ frames := 0, cells := 0, slots := 0, locals := 0 } : Room) s m args below meth c n0 h 0 0 T) (C : Cx p s m meth c prog_54_method_2_code 1 (some .boolean) "com/example/tracebed/tracebed/io/RdfTerminals" "isNameBase" Z a0 tables_1) (x0 : Int32) (hP : P (some (.int (f1_66 x0))) h) : Goes p e below s n0 P 0 0 T (mkF m 66 #[.val (.int x0)] []) := by
  refine w_iloadN (pc := 66) X C d1_66 rfl ?_
  refine w_sipush (pc := 67) X C d1_67 (880 : Int32) rfl ?_
  refine w_icmp_lt (pc := 70) X C d1_70 80 (by decide) (fun q11 => ?_) (fun q11 => ?_)
  · -- yes
    exact b1_80 X C (x0) (by unfold f1_66 at hP; rw [if_pos q11] at hP; exact hP)
  · -- no
    refine w_iloadN (pc := 73) X C d1_73 rfl ?_
    refine w_sipush (pc := 74) X C d1_74 (893 : Int32) rfl ?_
    refine w_icmp_le (pc := 77) X C d1_77 185 (by decide) (fun q12 => ?_) (fun q12 => ?_)
    · -- yes
      exact b1_185 X C (x0) (by unfold f1_66 at hP; rw [if_neg q11, if_neg q12] at hP; exact hP)
    · -- no
      exact b1_80 X C (x0) (by unfold f1_66 at hP; rw [if_neg q11, if_pos q12] at hP; exact hP)
set_option maxRecDepth 65536 in
set_option maxHeartbeats 4000000 in
theorem b1_52 {p : Program} {l : Launch} {e : Env} {s : State} {m : MethodId} {args : Array Value} {below : List Frame} {meth : Method} {c : Code} {T : State} {h : Heap} {n0 : Nat} {P : Option Value → Heap → Prop} {Z : State} {a0 : Array Value} (X : Hr p l e ({ frames := 0, cells := 0, slots := 0, locals := 0 } : Room) s m args below meth c n0 h 0 0 T) (C : Cx p s m meth c prog_54_method_2_code 1 (some .boolean) "com/example/tracebed/tracebed/io/RdfTerminals" "isNameBase" Z a0 tables_1) (x0 : Int32) (hP : P (some (.int (f1_52 x0))) h) : Goes p e below s n0 P 0 0 T (mkF m 52 #[.val (.int x0)] []) := by
  refine w_iloadN (pc := 52) X C d1_52 rfl ?_
  refine w_sipush (pc := 53) X C d1_53 (248 : Int32) rfl ?_
  refine w_icmp_lt (pc := 56) X C d1_56 66 (by decide) (fun q9 => ?_) (fun q9 => ?_)
  · -- yes
    exact b1_66 X C (x0) (by unfold f1_52 at hP; rw [if_pos q9] at hP; exact hP)
  · -- no
    refine w_iloadN (pc := 59) X C d1_59 rfl ?_
    refine w_sipush (pc := 60) X C d1_60 (767 : Int32) rfl ?_
    refine w_icmp_le (pc := 63) X C d1_63 185 (by decide) (fun q10 => ?_) (fun q10 => ?_)
    · -- yes
      exact b1_185 X C (x0) (by unfold f1_52 at hP; rw [if_neg q9, if_neg q10] at hP; exact hP)
    · -- no
      exact b1_66 X C (x0) (by unfold f1_52 at hP; rw [if_neg q9, if_pos q10] at hP; exact hP)
set_option maxRecDepth 65536 in
set_option maxHeartbeats 4000000 in
theorem b1_38 {p : Program} {l : Launch} {e : Env} {s : State} {m : MethodId} {args : Array Value} {below : List Frame} {meth : Method} {c : Code} {T : State} {h : Heap} {n0 : Nat} {P : Option Value → Heap → Prop} {Z : State} {a0 : Array Value} (X : Hr p l e ({ frames := 0, cells := 0, slots := 0, locals := 0 } : Room) s m args below meth c n0 h 0 0 T) (C : Cx p s m meth c prog_54_method_2_code 1 (some .boolean) "com/example/tracebed/tracebed/io/RdfTerminals" "isNameBase" Z a0 tables_1) (x0 : Int32) (hP : P (some (.int (f1_38 x0))) h) : Goes p e below s n0 P 0 0 T (mkF m 38 #[.val (.int x0)] []) := by
  refine w_iloadN (pc := 38) X C d1_38 rfl ?_
  refine w_sipush (pc := 39) X C d1_39 (216 : Int32) rfl ?_
  refine w_icmp_lt (pc := 42) X C d1_42 52 (by decide) (fun q7 => ?_) (fun q7 => ?_)
  · -- yes
    exact b1_52 X C (x0) (by unfold f1_38 at hP; rw [if_pos q7] at hP; exact hP)
  · -- no
    refine w_iloadN (pc := 45) X C d1_45 rfl ?_
    refine w_sipush (pc := 46) X C d1_46 (246 : Int32) rfl ?_
    refine w_icmp_le (pc := 49) X C d1_49 185 (by decide) (fun q8 => ?_) (fun q8 => ?_)
    · -- yes
      exact b1_185 X C (x0) (by unfold f1_38 at hP; rw [if_neg q7, if_neg q8] at hP; exact hP)
    · -- no
      exact b1_52 X C (x0) (by unfold f1_38 at hP; rw [if_neg q7, if_pos q8] at hP; exact hP)
set_option maxRecDepth 65536 in
set_option maxHeartbeats 4000000 in
theorem b1_24 {p : Program} {l : Launch} {e : Env} {s : State} {m : MethodId} {args : Array Value} {below : List Frame} {meth : Method} {c : Code} {T : State} {h : Heap} {n0 : Nat} {P : Option Value → Heap → Prop} {Z : State} {a0 : Array Value} (X : Hr p l e ({ frames := 0, cells := 0, slots := 0, locals := 0 } : Room) s m args below meth c n0 h 0 0 T) (C : Cx p s m meth c prog_54_method_2_code 1 (some .boolean) "com/example/tracebed/tracebed/io/RdfTerminals" "isNameBase" Z a0 tables_1) (x0 : Int32) (hP : P (some (.int (f1_24 x0))) h) : Goes p e below s n0 P 0 0 T (mkF m 24 #[.val (.int x0)] []) := by
  refine w_iloadN (pc := 24) X C d1_24 rfl ?_
  refine w_sipush (pc := 25) X C d1_25 (192 : Int32) rfl ?_
  refine w_icmp_lt (pc := 28) X C d1_28 38 (by decide) (fun q5 => ?_) (fun q5 => ?_)
  · -- yes
    exact b1_38 X C (x0) (by unfold f1_24 at hP; rw [if_pos q5] at hP; exact hP)
  · -- no
    refine w_iloadN (pc := 31) X C d1_31 rfl ?_
    refine w_sipush (pc := 32) X C d1_32 (214 : Int32) rfl ?_
    refine w_icmp_le (pc := 35) X C d1_35 185 (by decide) (fun q6 => ?_) (fun q6 => ?_)
    · -- yes
      exact b1_185 X C (x0) (by unfold f1_24 at hP; rw [if_neg q5, if_neg q6] at hP; exact hP)
    · -- no
      exact b1_38 X C (x0) (by unfold f1_24 at hP; rw [if_neg q5, if_pos q6] at hP; exact hP)
set_option maxRecDepth 65536 in
set_option maxHeartbeats 4000000 in
theorem b1_12 {p : Program} {l : Launch} {e : Env} {s : State} {m : MethodId} {args : Array Value} {below : List Frame} {meth : Method} {c : Code} {T : State} {h : Heap} {n0 : Nat} {P : Option Value → Heap → Prop} {Z : State} {a0 : Array Value} (X : Hr p l e ({ frames := 0, cells := 0, slots := 0, locals := 0 } : Room) s m args below meth c n0 h 0 0 T) (C : Cx p s m meth c prog_54_method_2_code 1 (some .boolean) "com/example/tracebed/tracebed/io/RdfTerminals" "isNameBase" Z a0 tables_1) (x0 : Int32) (hP : P (some (.int (f1_12 x0))) h) : Goes p e below s n0 P 0 0 T (mkF m 12 #[.val (.int x0)] []) := by
  refine w_iloadN (pc := 12) X C d1_12 rfl ?_
  refine w_bipush (pc := 13) X C d1_13 (97 : Int32) rfl ?_
  refine w_icmp_lt (pc := 15) X C d1_15 24 (by decide) (fun q3 => ?_) (fun q3 => ?_)
  · -- yes
    exact b1_24 X C (x0) (by unfold f1_12 at hP; rw [if_pos q3] at hP; exact hP)
  · -- no
    refine w_iloadN (pc := 18) X C d1_18 rfl ?_
    refine w_bipush (pc := 19) X C d1_19 (122 : Int32) rfl ?_
    refine w_icmp_le (pc := 21) X C d1_21 185 (by decide) (fun q4 => ?_) (fun q4 => ?_)
    · -- yes
      exact b1_185 X C (x0) (by unfold f1_12 at hP; rw [if_neg q3, if_neg q4] at hP; exact hP)
    · -- no
      exact b1_24 X C (x0) (by unfold f1_12 at hP; rw [if_neg q3, if_pos q4] at hP; exact hP)
set_option maxRecDepth 65536 in
set_option maxHeartbeats 4000000 in
theorem b1_0 {p : Program} {l : Launch} {e : Env} {s : State} {m : MethodId} {args : Array Value} {below : List Frame} {meth : Method} {c : Code} {T : State} {h : Heap} {n0 : Nat} {P : Option Value → Heap → Prop} {Z : State} {a0 : Array Value} (X : Hr p l e ({ frames := 0, cells := 0, slots := 0, locals := 0 } : Room) s m args below meth c n0 h 0 0 T) (C : Cx p s m meth c prog_54_method_2_code 1 (some .boolean) "com/example/tracebed/tracebed/io/RdfTerminals" "isNameBase" Z a0 tables_1) (x0 : Int32) (hP : P (some (.int (f1 x0))) h) : Goes p e below s n0 P 0 0 T (mkF m 0 #[.val (.int x0)] []) := by
  refine w_iloadN (pc := 0) X C d1_0 rfl ?_
  refine w_bipush (pc := 1) X C d1_1 (65 : Int32) rfl ?_
  refine w_icmp_lt (pc := 3) X C d1_3 12 (by decide) (fun q1 => ?_) (fun q1 => ?_)
  · -- yes
    exact b1_12 X C (x0) (by unfold f1 at hP; rw [if_pos q1] at hP; exact hP)
  · -- no
    refine w_iloadN (pc := 6) X C d1_6 rfl ?_
    refine w_bipush (pc := 7) X C d1_7 (90 : Int32) rfl ?_
    refine w_icmp_le (pc := 9) X C d1_9 185 (by decide) (fun q2 => ?_) (fun q2 => ?_)
    · -- yes
      exact b1_185 X C (x0) (by unfold f1 at hP; rw [if_neg q1, if_neg q2] at hP; exact hP)
    · -- no
      exact b1_12 X C (x0) (by unfold f1 at hP; rw [if_neg q1, if_pos q2] at hP; exact hP)
theorem ct1 (l : Launch) {Z : State} {a0 : Array Value} (hw : ∀ d ∈ tables_1, d.before a0 Z = true) (h : Heap) {n0 : Nat} (hn : n0 ≤ h.size) (x0 : Int32) : Ct l (⟨"com/example/tracebed/tracebed/io/RdfTerminals", "isNameBase", "(I)Z"⟩ : MethodName) prog_54_method_2_code 1 (some .boolean) ({ frames := 0, cells := 0, slots := 0, locals := 0 } : Room) Z #[(.int x0)] h n0 (fun v h' => v = some (.int (f1 x0)) ∧ h' = h) :=
  Ct.of (plainFor_of_name pn_1) #[.val (.int x0)] (fun m => by first | (simp [entryFrame, mkF, argsToLocals, Value.category]; done) | rfl) hw hn (fun p e s m below meth c T C X => b1_0 X C x0 ⟨rfl, rfl⟩)
def f3_14 (x0 : Int32) (x1 : Int32) (x2 : Int32) : Int32 := (0 : Int32)
def f3 (x0 : Int32) (x1 : Int32) (x2 : Int32) : Int32 := (if x0 < x1 then (f3_14 x0 x1 x2) else (if x2 < x0 then (f3_14 x0 x1 x2) else (1 : Int32)))
theorem d3_0 : decode method_2_code 0 = .ok (.iload_n 0, 1) := by decide +kernel
theorem d3_1 : decode method_2_code 1 = .ok (.iload_n 1, 1) := by decide +kernel
theorem d3_2 : decode method_2_code 2 = .ok (.if_icmp .lt 12, 3) := by decide +kernel
theorem d3_5 : decode method_2_code 5 = .ok (.iload_n 0, 1) := by decide +kernel
theorem d3_6 : decode method_2_code 6 = .ok (.iload_n 2, 1) := by decide +kernel
theorem d3_7 : decode method_2_code 7 = .ok (.if_icmp .gt 7, 3) := by decide +kernel
theorem d3_10 : decode method_2_code 10 = .ok (.iconst 1, 1) := by decide +kernel
theorem d3_11 : decode method_2_code 11 = .ok (.goto 4, 3) := by decide +kernel
theorem d3_14 : decode method_2_code 14 = .ok (.iconst 0, 1) := by decide +kernel
theorem d3_15 : decode method_2_code 15 = .ok (.ireturn, 1) := by decide +kernel
set_option maxRecDepth 65536 in
set_option maxHeartbeats 4000000 in
theorem b3_14 {p : Program} {l : Launch} {e : Env} {s : State} {m : MethodId} {args : Array Value} {below : List Frame} {meth : Method} {c : Code} {T : State} {h : Heap} {n0 : Nat} {P : Option Value → Heap → Prop} {Z : State} {a0 : Array Value} (X : Hr p l e ({ frames := 0, cells := 0, slots := 0, locals := 0 } : Room) s m args below meth c n0 h 0 0 T) (C : Cx p s m meth c method_2_code 3 (some .boolean) "com/example/tracebed/tracebed/io/RdfTerminalsIsNameBasePinLaw" "in" Z a0 tables_1) (x0 : Int32) (x1 : Int32) (x2 : Int32) (hP : P (some (.int (f3_14 x0 x1 x2))) h) : Goes p e below s n0 P 0 0 T (mkF m 14 #[.val (.int x0), .val (.int x1), .val (.int x2)] []) := by
  refine w_iconst (pc := 14) X C d3_14 (0 : Int32) rfl ?_
  exact w_ret_boolean (pc := 15) X C d3_15 (by unfold f3_14 at hP; exact hP)
set_option maxRecDepth 65536 in
set_option maxHeartbeats 4000000 in
theorem b3_0 {p : Program} {l : Launch} {e : Env} {s : State} {m : MethodId} {args : Array Value} {below : List Frame} {meth : Method} {c : Code} {T : State} {h : Heap} {n0 : Nat} {P : Option Value → Heap → Prop} {Z : State} {a0 : Array Value} (X : Hr p l e ({ frames := 0, cells := 0, slots := 0, locals := 0 } : Room) s m args below meth c n0 h 0 0 T) (C : Cx p s m meth c method_2_code 3 (some .boolean) "com/example/tracebed/tracebed/io/RdfTerminalsIsNameBasePinLaw" "in" Z a0 tables_1) (x0 : Int32) (x1 : Int32) (x2 : Int32) (hP : P (some (.int (f3 x0 x1 x2))) h) : Goes p e below s n0 P 0 0 T (mkF m 0 #[.val (.int x0), .val (.int x1), .val (.int x2)] []) := by
  refine w_iloadN (pc := 0) X C d3_0 rfl ?_
  refine w_iloadN (pc := 1) X C d3_1 rfl ?_
  refine w_icmp_lt (pc := 2) X C d3_2 14 (by decide) (fun q1 => ?_) (fun q1 => ?_)
  · -- yes
    exact b3_14 X C (x0) (x1) (x2) (by unfold f3 at hP; rw [if_pos q1] at hP; exact hP)
  · -- no
    refine w_iloadN (pc := 5) X C d3_5 rfl ?_
    refine w_iloadN (pc := 6) X C d3_6 rfl ?_
    refine w_icmp_gt (pc := 7) X C d3_7 14 (by decide) (fun q2 => ?_) (fun q2 => ?_)
    · -- yes
      exact b3_14 X C (x0) (x1) (x2) (by unfold f3 at hP; rw [if_neg q1, if_pos q2] at hP; exact hP)
    · -- no
      refine w_iconst (pc := 10) X C d3_10 (1 : Int32) rfl ?_
      refine w_goto (pc := 11) X C d3_11 15 (by decide) ?_
      exact w_ret_boolean (pc := 15) X C d3_15 (by unfold f3 at hP; rw [if_neg q1, if_neg q2] at hP; exact hP)
theorem ct3 (l : Launch) {Z : State} {a0 : Array Value} (hw : ∀ d ∈ tables_1, d.before a0 Z = true) (h : Heap) {n0 : Nat} (hn : n0 ≤ h.size) (x0 : Int32) (x1 : Int32) (x2 : Int32) : Ct l (⟨"com/example/tracebed/tracebed/io/RdfTerminalsIsNameBasePinLaw", "in", "(III)Z"⟩ : MethodName) method_2_code 3 (some .boolean) ({ frames := 0, cells := 0, slots := 0, locals := 0 } : Room) Z #[(.int x0), (.int x1), (.int x2)] h n0 (fun v h' => v = some (.int (f3 x0 x1 x2)) ∧ h' = h) :=
  Ct.of (plainFor_of_name pn_0) #[.val (.int x0), .val (.int x1), .val (.int x2)] (fun m => by first | (simp [entryFrame, mkF, argsToLocals, Value.category]; done) | rfl) hw hn (fun p e s m below meth c T C X => b3_0 X C x0 x1 x2 ⟨rfl, rfl⟩)
def f2_64 (x0 : Int32) : Int32 := (1 : Int32)
def f2 (x0 : Int32) : Int32 := (if x0 < (65 : Int32) then (1 : Int32) else (if (983039 : Int32) < x0 then (1 : Int32) else (if (f3 x0 (91 : Int32) (96 : Int32)) = 0 then (if (f3 x0 (123 : Int32) (191 : Int32)) = 0 then (if x0 = (215 : Int32) then (f2_64 x0) else (if x0 = (247 : Int32) then (f2_64 x0) else (if x0 = (894 : Int32) then (f2_64 x0) else (if (f3 x0 (768 : Int32) (879 : Int32)) = 0 then (if (f3 x0 (8192 : Int32) (8203 : Int32)) = 0 then (if (f3 x0 (8206 : Int32) (8303 : Int32)) = 0 then (if (f3 x0 (8592 : Int32) (11263 : Int32)) = 0 then (if (f3 x0 (12272 : Int32) (12288 : Int32)) = 0 then (if (f3 x0 (55296 : Int32) (63743 : Int32)) = 0 then (if (f3 x0 (64976 : Int32) (65007 : Int32)) = 0 then (if (f3 x0 (65534 : Int32) (65535 : Int32)) = 0 then (0 : Int32) else (1 : Int32)) else (1 : Int32)) else (1 : Int32)) else (1 : Int32)) else (1 : Int32)) else (1 : Int32)) else (1 : Int32)) else (1 : Int32))))) else (1 : Int32)) else (1 : Int32))))
theorem d2_0 : decode method_3_code 0 = .ok (.iload_n 0, 1) := by decide +kernel
theorem d2_1 : decode method_3_code 1 = .ok (.bipush 65, 2) := by decide +kernel
theorem d2_3 : decode method_3_code 3 = .ok (.if_icmp .ge 5, 3) := by decide +kernel
theorem d2_6 : decode method_3_code 6 = .ok (.iconst 1, 1) := by decide +kernel
theorem d2_7 : decode method_3_code 7 = .ok (.ireturn, 1) := by decide +kernel
theorem d2_8 : decode method_3_code 8 = .ok (.iload_n 0, 1) := by decide +kernel
theorem d2_9 : decode method_3_code 9 = .ok (.ldc 7, 2) := by decide +kernel
theorem d2_11 : decode method_3_code 11 = .ok (.if_icmp .le 5, 3) := by decide +kernel
theorem d2_14 : decode method_3_code 14 = .ok (.iconst 1, 1) := by decide +kernel
theorem d2_15 : decode method_3_code 15 = .ok (.ireturn, 1) := by decide +kernel
theorem d2_16 : decode method_3_code 16 = .ok (.iload_n 0, 1) := by decide +kernel
theorem d2_17 : decode method_3_code 17 = .ok (.bipush 91, 2) := by decide +kernel
theorem d2_19 : decode method_3_code 19 = .ok (.bipush 96, 2) := by decide +kernel
theorem d2_21 : decode method_3_code 21 = .ok (.invokestatic 8, 3) := by decide +kernel
theorem d2_24 : decode method_3_code 24 = .ok (.ifCond .eq 5, 3) := by decide +kernel
theorem d2_27 : decode method_3_code 27 = .ok (.iconst 1, 1) := by decide +kernel
theorem d2_28 : decode method_3_code 28 = .ok (.ireturn, 1) := by decide +kernel
theorem d2_29 : decode method_3_code 29 = .ok (.iload_n 0, 1) := by decide +kernel
theorem d2_30 : decode method_3_code 30 = .ok (.bipush 123, 2) := by decide +kernel
theorem d2_32 : decode method_3_code 32 = .ok (.sipush 191, 3) := by decide +kernel
theorem d2_35 : decode method_3_code 35 = .ok (.invokestatic 8, 3) := by decide +kernel
theorem d2_38 : decode method_3_code 38 = .ok (.ifCond .eq 5, 3) := by decide +kernel
theorem d2_41 : decode method_3_code 41 = .ok (.iconst 1, 1) := by decide +kernel
theorem d2_42 : decode method_3_code 42 = .ok (.ireturn, 1) := by decide +kernel
theorem d2_43 : decode method_3_code 43 = .ok (.iload_n 0, 1) := by decide +kernel
theorem d2_44 : decode method_3_code 44 = .ok (.sipush 215, 3) := by decide +kernel
theorem d2_47 : decode method_3_code 47 = .ok (.if_icmp .eq 17, 3) := by decide +kernel
theorem d2_50 : decode method_3_code 50 = .ok (.iload_n 0, 1) := by decide +kernel
theorem d2_51 : decode method_3_code 51 = .ok (.sipush 247, 3) := by decide +kernel
theorem d2_54 : decode method_3_code 54 = .ok (.if_icmp .eq 10, 3) := by decide +kernel
theorem d2_57 : decode method_3_code 57 = .ok (.iload_n 0, 1) := by decide +kernel
theorem d2_58 : decode method_3_code 58 = .ok (.sipush 894, 3) := by decide +kernel
theorem d2_61 : decode method_3_code 61 = .ok (.if_icmp .ne 5, 3) := by decide +kernel
theorem d2_64 : decode method_3_code 64 = .ok (.iconst 1, 1) := by decide +kernel
theorem d2_65 : decode method_3_code 65 = .ok (.ireturn, 1) := by decide +kernel
theorem d2_66 : decode method_3_code 66 = .ok (.iload_n 0, 1) := by decide +kernel
theorem d2_67 : decode method_3_code 67 = .ok (.sipush 768, 3) := by decide +kernel
theorem d2_70 : decode method_3_code 70 = .ok (.sipush 879, 3) := by decide +kernel
theorem d2_73 : decode method_3_code 73 = .ok (.invokestatic 8, 3) := by decide +kernel
theorem d2_76 : decode method_3_code 76 = .ok (.ifCond .eq 5, 3) := by decide +kernel
theorem d2_79 : decode method_3_code 79 = .ok (.iconst 1, 1) := by decide +kernel
theorem d2_80 : decode method_3_code 80 = .ok (.ireturn, 1) := by decide +kernel
theorem d2_81 : decode method_3_code 81 = .ok (.iload_n 0, 1) := by decide +kernel
theorem d2_82 : decode method_3_code 82 = .ok (.sipush 8192, 3) := by decide +kernel
theorem d2_85 : decode method_3_code 85 = .ok (.sipush 8203, 3) := by decide +kernel
theorem d2_88 : decode method_3_code 88 = .ok (.invokestatic 8, 3) := by decide +kernel
theorem d2_91 : decode method_3_code 91 = .ok (.ifCond .eq 5, 3) := by decide +kernel
theorem d2_94 : decode method_3_code 94 = .ok (.iconst 1, 1) := by decide +kernel
theorem d2_95 : decode method_3_code 95 = .ok (.ireturn, 1) := by decide +kernel
theorem d2_96 : decode method_3_code 96 = .ok (.iload_n 0, 1) := by decide +kernel
theorem d2_97 : decode method_3_code 97 = .ok (.sipush 8206, 3) := by decide +kernel
theorem d2_100 : decode method_3_code 100 = .ok (.sipush 8303, 3) := by decide +kernel
theorem d2_103 : decode method_3_code 103 = .ok (.invokestatic 8, 3) := by decide +kernel
theorem d2_106 : decode method_3_code 106 = .ok (.ifCond .eq 5, 3) := by decide +kernel
theorem d2_109 : decode method_3_code 109 = .ok (.iconst 1, 1) := by decide +kernel
theorem d2_110 : decode method_3_code 110 = .ok (.ireturn, 1) := by decide +kernel
theorem d2_111 : decode method_3_code 111 = .ok (.iload_n 0, 1) := by decide +kernel
theorem d2_112 : decode method_3_code 112 = .ok (.sipush 8592, 3) := by decide +kernel
theorem d2_115 : decode method_3_code 115 = .ok (.sipush 11263, 3) := by decide +kernel
theorem d2_118 : decode method_3_code 118 = .ok (.invokestatic 8, 3) := by decide +kernel
theorem d2_121 : decode method_3_code 121 = .ok (.ifCond .eq 5, 3) := by decide +kernel
theorem d2_124 : decode method_3_code 124 = .ok (.iconst 1, 1) := by decide +kernel
theorem d2_125 : decode method_3_code 125 = .ok (.ireturn, 1) := by decide +kernel
theorem d2_126 : decode method_3_code 126 = .ok (.iload_n 0, 1) := by decide +kernel
theorem d2_127 : decode method_3_code 127 = .ok (.sipush 12272, 3) := by decide +kernel
theorem d2_130 : decode method_3_code 130 = .ok (.sipush 12288, 3) := by decide +kernel
theorem d2_133 : decode method_3_code 133 = .ok (.invokestatic 8, 3) := by decide +kernel
theorem d2_136 : decode method_3_code 136 = .ok (.ifCond .eq 5, 3) := by decide +kernel
theorem d2_139 : decode method_3_code 139 = .ok (.iconst 1, 1) := by decide +kernel
theorem d2_140 : decode method_3_code 140 = .ok (.ireturn, 1) := by decide +kernel
theorem d2_141 : decode method_3_code 141 = .ok (.iload_n 0, 1) := by decide +kernel
theorem d2_142 : decode method_3_code 142 = .ok (.ldc 14, 2) := by decide +kernel
theorem d2_144 : decode method_3_code 144 = .ok (.ldc 15, 2) := by decide +kernel
theorem d2_146 : decode method_3_code 146 = .ok (.invokestatic 8, 3) := by decide +kernel
theorem d2_149 : decode method_3_code 149 = .ok (.ifCond .eq 5, 3) := by decide +kernel
theorem d2_152 : decode method_3_code 152 = .ok (.iconst 1, 1) := by decide +kernel
theorem d2_153 : decode method_3_code 153 = .ok (.ireturn, 1) := by decide +kernel
theorem d2_154 : decode method_3_code 154 = .ok (.iload_n 0, 1) := by decide +kernel
theorem d2_155 : decode method_3_code 155 = .ok (.ldc 16, 2) := by decide +kernel
theorem d2_157 : decode method_3_code 157 = .ok (.ldc 17, 2) := by decide +kernel
theorem d2_159 : decode method_3_code 159 = .ok (.invokestatic 8, 3) := by decide +kernel
theorem d2_162 : decode method_3_code 162 = .ok (.ifCond .eq 5, 3) := by decide +kernel
theorem d2_165 : decode method_3_code 165 = .ok (.iconst 1, 1) := by decide +kernel
theorem d2_166 : decode method_3_code 166 = .ok (.ireturn, 1) := by decide +kernel
theorem d2_167 : decode method_3_code 167 = .ok (.iload_n 0, 1) := by decide +kernel
theorem d2_168 : decode method_3_code 168 = .ok (.ldc 18, 2) := by decide +kernel
theorem d2_170 : decode method_3_code 170 = .ok (.ldc 19, 2) := by decide +kernel
theorem d2_172 : decode method_3_code 172 = .ok (.invokestatic 8, 3) := by decide +kernel
theorem d2_175 : decode method_3_code 175 = .ok (.ifCond .eq 5, 3) := by decide +kernel
theorem d2_178 : decode method_3_code 178 = .ok (.iconst 1, 1) := by decide +kernel
theorem d2_179 : decode method_3_code 179 = .ok (.ireturn, 1) := by decide +kernel
theorem d2_180 : decode method_3_code 180 = .ok (.iconst 0, 1) := by decide +kernel
theorem d2_181 : decode method_3_code 181 = .ok (.ireturn, 1) := by decide +kernel
set_option maxRecDepth 65536 in
set_option maxHeartbeats 4000000 in
theorem b2_64 {p : Program} {l : Launch} {e : Env} {s : State} {m : MethodId} {args : Array Value} {below : List Frame} {meth : Method} {c : Code} {T : State} {h : Heap} {n0 : Nat} {P : Option Value → Heap → Prop} {Z : State} {a0 : Array Value} (X : Hr p l e ({ frames := 1, cells := 0, slots := 0, locals := 14 } : Room) s m args below meth c n0 h 0 0 T) (C : Cx p s m meth c method_3_code 1 (some .boolean) "com/example/tracebed/tracebed/io/RdfTerminalsIsNameBasePinLaw" "gap" Z a0 tables_1) (x0 : Int32) (hP : P (some (.int (f2_64 x0))) h) : Goes p e below s n0 P 0 0 T (mkF m 64 #[.val (.int x0)] []) := by
  refine w_iconst (pc := 64) X C d2_64 (1 : Int32) rfl ?_
  exact w_ret_boolean (pc := 65) X C d2_65 (by unfold f2_64 at hP; exact hP)
set_option maxRecDepth 65536 in
set_option maxHeartbeats 4000000 in
theorem b2_0 {p : Program} {l : Launch} {e : Env} {s : State} {m : MethodId} {args : Array Value} {below : List Frame} {meth : Method} {c : Code} {T : State} {h : Heap} {n0 : Nat} {P : Option Value → Heap → Prop} {Z : State} {a0 : Array Value} (X : Hr p l e ({ frames := 1, cells := 0, slots := 0, locals := 14 } : Room) s m args below meth c n0 h 0 0 T) (C : Cx p s m meth c method_3_code 1 (some .boolean) "com/example/tracebed/tracebed/io/RdfTerminalsIsNameBasePinLaw" "gap" Z a0 tables_1) (x0 : Int32) (hP : P (some (.int (f2 x0))) h) : Goes p e below s n0 P 0 0 T (mkF m 0 #[.val (.int x0)] []) := by
  refine w_iloadN (pc := 0) X C d2_0 rfl ?_
  refine w_bipush (pc := 1) X C d2_1 (65 : Int32) rfl ?_
  refine w_icmp_ge (pc := 3) X C d2_3 8 (by decide) (fun q1 => ?_) (fun q1 => ?_)
  · -- yes
    refine w_iloadN (pc := 8) X C d2_8 rfl ?_
    refine w_ldcI (pc := 9) X C d2_9 (v := (983039 : Int32)) (List.mem_of_getElem? (i := 11) rfl) ?_
    refine w_icmp_le (pc := 11) X C d2_11 16 (by decide) (fun q2 => ?_) (fun q2 => ?_)
    · -- yes
      refine w_iloadN (pc := 16) X C d2_16 rfl ?_
      refine w_bipush (pc := 17) X C d2_17 (91 : Int32) rfl ?_
      refine w_bipush (pc := 19) X C d2_19 (96 : Int32) rfl ?_
      refine w_callP (pc := 21) X C (y := (⟨"com/example/tracebed/tracebed/io/RdfTerminalsIsNameBasePinLaw", "in", "(III)Z"⟩ : MethodName)) (bytes := method_2_code) (maxL := 3) (rt := some .boolean) (argsL := [(.int x0), (.int (91 : Int32)), (.int (96 : Int32))]) (rest := []) (w := .int (f3 x0 (91 : Int32) (96 : Int32))) (W := 0) d2_21 (List.mem_of_getElem? (i := 12) rfl) (List.mem_of_getElem? (i := 13) rfl) (List.mem_of_getElem? (i := 9) rfl) (List.mem_of_getElem? (i := 14) rfl) (by decide) (ct3 l C.2.2.2.2.2.2.2.2 _ X.size (x0) ((91 : Int32)) ((96 : Int32))) rfl rfl rfl ⟨_, _, pd_0, rfl⟩ rfl (Nat.le_of_eq rfl) (by decide) (by decide) (by decide) (by decide) (fun T4 X3 => ?_)
      refine w_if_eq (pc := 24) X3 C d2_24 29 (by decide) (fun q5 => ?_) (fun q5 => ?_)
      · -- yes
        refine w_iloadN (pc := 29) X3 C d2_29 rfl ?_
        refine w_bipush (pc := 30) X3 C d2_30 (123 : Int32) rfl ?_
        refine w_sipush (pc := 32) X3 C d2_32 (191 : Int32) rfl ?_
        refine w_callP (pc := 35) X3 C (y := (⟨"com/example/tracebed/tracebed/io/RdfTerminalsIsNameBasePinLaw", "in", "(III)Z"⟩ : MethodName)) (bytes := method_2_code) (maxL := 3) (rt := some .boolean) (argsL := [(.int x0), (.int (123 : Int32)), (.int (191 : Int32))]) (rest := []) (w := .int (f3 x0 (123 : Int32) (191 : Int32))) (W := 0) d2_35 (List.mem_of_getElem? (i := 12) rfl) (List.mem_of_getElem? (i := 13) rfl) (List.mem_of_getElem? (i := 9) rfl) (List.mem_of_getElem? (i := 14) rfl) (by decide) (ct3 l C.2.2.2.2.2.2.2.2 _ X3.size (x0) ((123 : Int32)) ((191 : Int32))) rfl rfl rfl ⟨_, _, pd_0, rfl⟩ rfl (Nat.le_of_eq rfl) (by decide) (by decide) (by decide) (by decide) (fun T7 X6 => ?_)
        refine w_if_eq (pc := 38) X6 C d2_38 43 (by decide) (fun q8 => ?_) (fun q8 => ?_)
        · -- yes
          refine w_iloadN (pc := 43) X6 C d2_43 rfl ?_
          refine w_sipush (pc := 44) X6 C d2_44 (215 : Int32) rfl ?_
          refine w_icmp_eq (pc := 47) X6 C d2_47 64 (by decide) (fun q9 => ?_) (fun q9 => ?_)
          · -- yes
            exact b2_64 X6 C (x0) (by unfold f2 at hP; rw [if_neg q1, if_neg q2, if_pos q5, if_pos q8, if_pos q9] at hP; exact hP)
          · -- no
            refine w_iloadN (pc := 50) X6 C d2_50 rfl ?_
            refine w_sipush (pc := 51) X6 C d2_51 (247 : Int32) rfl ?_
            refine w_icmp_eq (pc := 54) X6 C d2_54 64 (by decide) (fun q10 => ?_) (fun q10 => ?_)
            · -- yes
              exact b2_64 X6 C (x0) (by unfold f2 at hP; rw [if_neg q1, if_neg q2, if_pos q5, if_pos q8, if_neg q9, if_pos q10] at hP; exact hP)
            · -- no
              refine w_iloadN (pc := 57) X6 C d2_57 rfl ?_
              refine w_sipush (pc := 58) X6 C d2_58 (894 : Int32) rfl ?_
              refine w_icmp_ne (pc := 61) X6 C d2_61 66 (by decide) (fun q11 => ?_) (fun q11 => ?_)
              · -- yes
                refine w_iloadN (pc := 66) X6 C d2_66 rfl ?_
                refine w_sipush (pc := 67) X6 C d2_67 (768 : Int32) rfl ?_
                refine w_sipush (pc := 70) X6 C d2_70 (879 : Int32) rfl ?_
                refine w_callP (pc := 73) X6 C (y := (⟨"com/example/tracebed/tracebed/io/RdfTerminalsIsNameBasePinLaw", "in", "(III)Z"⟩ : MethodName)) (bytes := method_2_code) (maxL := 3) (rt := some .boolean) (argsL := [(.int x0), (.int (768 : Int32)), (.int (879 : Int32))]) (rest := []) (w := .int (f3 x0 (768 : Int32) (879 : Int32))) (W := 0) d2_73 (List.mem_of_getElem? (i := 12) rfl) (List.mem_of_getElem? (i := 13) rfl) (List.mem_of_getElem? (i := 9) rfl) (List.mem_of_getElem? (i := 14) rfl) (by decide) (ct3 l C.2.2.2.2.2.2.2.2 _ X6.size (x0) ((768 : Int32)) ((879 : Int32))) rfl rfl rfl ⟨_, _, pd_0, rfl⟩ rfl (Nat.le_of_eq rfl) (by decide) (by decide) (by decide) (by decide) (fun T13 X12 => ?_)
                refine w_if_eq (pc := 76) X12 C d2_76 81 (by decide) (fun q14 => ?_) (fun q14 => ?_)
                · -- yes
                  refine w_iloadN (pc := 81) X12 C d2_81 rfl ?_
                  refine w_sipush (pc := 82) X12 C d2_82 (8192 : Int32) rfl ?_
                  refine w_sipush (pc := 85) X12 C d2_85 (8203 : Int32) rfl ?_
                  refine w_callP (pc := 88) X12 C (y := (⟨"com/example/tracebed/tracebed/io/RdfTerminalsIsNameBasePinLaw", "in", "(III)Z"⟩ : MethodName)) (bytes := method_2_code) (maxL := 3) (rt := some .boolean) (argsL := [(.int x0), (.int (8192 : Int32)), (.int (8203 : Int32))]) (rest := []) (w := .int (f3 x0 (8192 : Int32) (8203 : Int32))) (W := 0) d2_88 (List.mem_of_getElem? (i := 12) rfl) (List.mem_of_getElem? (i := 13) rfl) (List.mem_of_getElem? (i := 9) rfl) (List.mem_of_getElem? (i := 14) rfl) (by decide) (ct3 l C.2.2.2.2.2.2.2.2 _ X12.size (x0) ((8192 : Int32)) ((8203 : Int32))) rfl rfl rfl ⟨_, _, pd_0, rfl⟩ rfl (Nat.le_of_eq rfl) (by decide) (by decide) (by decide) (by decide) (fun T16 X15 => ?_)
                  refine w_if_eq (pc := 91) X15 C d2_91 96 (by decide) (fun q17 => ?_) (fun q17 => ?_)
                  · -- yes
                    refine w_iloadN (pc := 96) X15 C d2_96 rfl ?_
                    refine w_sipush (pc := 97) X15 C d2_97 (8206 : Int32) rfl ?_
                    refine w_sipush (pc := 100) X15 C d2_100 (8303 : Int32) rfl ?_
                    refine w_callP (pc := 103) X15 C (y := (⟨"com/example/tracebed/tracebed/io/RdfTerminalsIsNameBasePinLaw", "in", "(III)Z"⟩ : MethodName)) (bytes := method_2_code) (maxL := 3) (rt := some .boolean) (argsL := [(.int x0), (.int (8206 : Int32)), (.int (8303 : Int32))]) (rest := []) (w := .int (f3 x0 (8206 : Int32) (8303 : Int32))) (W := 0) d2_103 (List.mem_of_getElem? (i := 12) rfl) (List.mem_of_getElem? (i := 13) rfl) (List.mem_of_getElem? (i := 9) rfl) (List.mem_of_getElem? (i := 14) rfl) (by decide) (ct3 l C.2.2.2.2.2.2.2.2 _ X15.size (x0) ((8206 : Int32)) ((8303 : Int32))) rfl rfl rfl ⟨_, _, pd_0, rfl⟩ rfl (Nat.le_of_eq rfl) (by decide) (by decide) (by decide) (by decide) (fun T19 X18 => ?_)
                    refine w_if_eq (pc := 106) X18 C d2_106 111 (by decide) (fun q20 => ?_) (fun q20 => ?_)
                    · -- yes
                      refine w_iloadN (pc := 111) X18 C d2_111 rfl ?_
                      refine w_sipush (pc := 112) X18 C d2_112 (8592 : Int32) rfl ?_
                      refine w_sipush (pc := 115) X18 C d2_115 (11263 : Int32) rfl ?_
                      refine w_callP (pc := 118) X18 C (y := (⟨"com/example/tracebed/tracebed/io/RdfTerminalsIsNameBasePinLaw", "in", "(III)Z"⟩ : MethodName)) (bytes := method_2_code) (maxL := 3) (rt := some .boolean) (argsL := [(.int x0), (.int (8592 : Int32)), (.int (11263 : Int32))]) (rest := []) (w := .int (f3 x0 (8592 : Int32) (11263 : Int32))) (W := 0) d2_118 (List.mem_of_getElem? (i := 12) rfl) (List.mem_of_getElem? (i := 13) rfl) (List.mem_of_getElem? (i := 9) rfl) (List.mem_of_getElem? (i := 14) rfl) (by decide) (ct3 l C.2.2.2.2.2.2.2.2 _ X18.size (x0) ((8592 : Int32)) ((11263 : Int32))) rfl rfl rfl ⟨_, _, pd_0, rfl⟩ rfl (Nat.le_of_eq rfl) (by decide) (by decide) (by decide) (by decide) (fun T22 X21 => ?_)
                      refine w_if_eq (pc := 121) X21 C d2_121 126 (by decide) (fun q23 => ?_) (fun q23 => ?_)
                      · -- yes
                        refine w_iloadN (pc := 126) X21 C d2_126 rfl ?_
                        refine w_sipush (pc := 127) X21 C d2_127 (12272 : Int32) rfl ?_
                        refine w_sipush (pc := 130) X21 C d2_130 (12288 : Int32) rfl ?_
                        refine w_callP (pc := 133) X21 C (y := (⟨"com/example/tracebed/tracebed/io/RdfTerminalsIsNameBasePinLaw", "in", "(III)Z"⟩ : MethodName)) (bytes := method_2_code) (maxL := 3) (rt := some .boolean) (argsL := [(.int x0), (.int (12272 : Int32)), (.int (12288 : Int32))]) (rest := []) (w := .int (f3 x0 (12272 : Int32) (12288 : Int32))) (W := 0) d2_133 (List.mem_of_getElem? (i := 12) rfl) (List.mem_of_getElem? (i := 13) rfl) (List.mem_of_getElem? (i := 9) rfl) (List.mem_of_getElem? (i := 14) rfl) (by decide) (ct3 l C.2.2.2.2.2.2.2.2 _ X21.size (x0) ((12272 : Int32)) ((12288 : Int32))) rfl rfl rfl ⟨_, _, pd_0, rfl⟩ rfl (Nat.le_of_eq rfl) (by decide) (by decide) (by decide) (by decide) (fun T25 X24 => ?_)
                        refine w_if_eq (pc := 136) X24 C d2_136 141 (by decide) (fun q26 => ?_) (fun q26 => ?_)
                        · -- yes
                          refine w_iloadN (pc := 141) X24 C d2_141 rfl ?_
                          refine w_ldcI (pc := 142) X24 C d2_142 (v := (55296 : Int32)) (List.mem_of_getElem? (i := 15) rfl) ?_
                          refine w_ldcI (pc := 144) X24 C d2_144 (v := (63743 : Int32)) (List.mem_of_getElem? (i := 16) rfl) ?_
                          refine w_callP (pc := 146) X24 C (y := (⟨"com/example/tracebed/tracebed/io/RdfTerminalsIsNameBasePinLaw", "in", "(III)Z"⟩ : MethodName)) (bytes := method_2_code) (maxL := 3) (rt := some .boolean) (argsL := [(.int x0), (.int (55296 : Int32)), (.int (63743 : Int32))]) (rest := []) (w := .int (f3 x0 (55296 : Int32) (63743 : Int32))) (W := 0) d2_146 (List.mem_of_getElem? (i := 12) rfl) (List.mem_of_getElem? (i := 13) rfl) (List.mem_of_getElem? (i := 9) rfl) (List.mem_of_getElem? (i := 14) rfl) (by decide) (ct3 l C.2.2.2.2.2.2.2.2 _ X24.size (x0) ((55296 : Int32)) ((63743 : Int32))) rfl rfl rfl ⟨_, _, pd_0, rfl⟩ rfl (Nat.le_of_eq rfl) (by decide) (by decide) (by decide) (by decide) (fun T28 X27 => ?_)
                          refine w_if_eq (pc := 149) X27 C d2_149 154 (by decide) (fun q29 => ?_) (fun q29 => ?_)
                          · -- yes
                            refine w_iloadN (pc := 154) X27 C d2_154 rfl ?_
                            refine w_ldcI (pc := 155) X27 C d2_155 (v := (64976 : Int32)) (List.mem_of_getElem? (i := 17) rfl) ?_
                            refine w_ldcI (pc := 157) X27 C d2_157 (v := (65007 : Int32)) (List.mem_of_getElem? (i := 18) rfl) ?_
                            refine w_callP (pc := 159) X27 C (y := (⟨"com/example/tracebed/tracebed/io/RdfTerminalsIsNameBasePinLaw", "in", "(III)Z"⟩ : MethodName)) (bytes := method_2_code) (maxL := 3) (rt := some .boolean) (argsL := [(.int x0), (.int (64976 : Int32)), (.int (65007 : Int32))]) (rest := []) (w := .int (f3 x0 (64976 : Int32) (65007 : Int32))) (W := 0) d2_159 (List.mem_of_getElem? (i := 12) rfl) (List.mem_of_getElem? (i := 13) rfl) (List.mem_of_getElem? (i := 9) rfl) (List.mem_of_getElem? (i := 14) rfl) (by decide) (ct3 l C.2.2.2.2.2.2.2.2 _ X27.size (x0) ((64976 : Int32)) ((65007 : Int32))) rfl rfl rfl ⟨_, _, pd_0, rfl⟩ rfl (Nat.le_of_eq rfl) (by decide) (by decide) (by decide) (by decide) (fun T31 X30 => ?_)
                            refine w_if_eq (pc := 162) X30 C d2_162 167 (by decide) (fun q32 => ?_) (fun q32 => ?_)
                            · -- yes
                              refine w_iloadN (pc := 167) X30 C d2_167 rfl ?_
                              refine w_ldcI (pc := 168) X30 C d2_168 (v := (65534 : Int32)) (List.mem_of_getElem? (i := 19) rfl) ?_
                              refine w_ldcI (pc := 170) X30 C d2_170 (v := (65535 : Int32)) (List.mem_of_getElem? (i := 20) rfl) ?_
                              refine w_callP (pc := 172) X30 C (y := (⟨"com/example/tracebed/tracebed/io/RdfTerminalsIsNameBasePinLaw", "in", "(III)Z"⟩ : MethodName)) (bytes := method_2_code) (maxL := 3) (rt := some .boolean) (argsL := [(.int x0), (.int (65534 : Int32)), (.int (65535 : Int32))]) (rest := []) (w := .int (f3 x0 (65534 : Int32) (65535 : Int32))) (W := 0) d2_172 (List.mem_of_getElem? (i := 12) rfl) (List.mem_of_getElem? (i := 13) rfl) (List.mem_of_getElem? (i := 9) rfl) (List.mem_of_getElem? (i := 14) rfl) (by decide) (ct3 l C.2.2.2.2.2.2.2.2 _ X30.size (x0) ((65534 : Int32)) ((65535 : Int32))) rfl rfl rfl ⟨_, _, pd_0, rfl⟩ rfl (Nat.le_of_eq rfl) (by decide) (by decide) (by decide) (by decide) (fun T34 X33 => ?_)
                              refine w_if_eq (pc := 175) X33 C d2_175 180 (by decide) (fun q35 => ?_) (fun q35 => ?_)
                              · -- yes
                                refine w_iconst (pc := 180) X33 C d2_180 (0 : Int32) rfl ?_
                                exact w_ret_boolean (pc := 181) X33 C d2_181 (by unfold f2 at hP; rw [if_neg q1, if_neg q2, if_pos q5, if_pos q8, if_neg q9, if_neg q10, if_neg q11, if_pos q14, if_pos q17, if_pos q20, if_pos q23, if_pos q26, if_pos q29, if_pos q32, if_pos q35] at hP; exact hP)
                              · -- no
                                refine w_iconst (pc := 178) X33 C d2_178 (1 : Int32) rfl ?_
                                exact w_ret_boolean (pc := 179) X33 C d2_179 (by unfold f2 at hP; rw [if_neg q1, if_neg q2, if_pos q5, if_pos q8, if_neg q9, if_neg q10, if_neg q11, if_pos q14, if_pos q17, if_pos q20, if_pos q23, if_pos q26, if_pos q29, if_pos q32, if_neg q35] at hP; exact hP)
                            · -- no
                              refine w_iconst (pc := 165) X30 C d2_165 (1 : Int32) rfl ?_
                              exact w_ret_boolean (pc := 166) X30 C d2_166 (by unfold f2 at hP; rw [if_neg q1, if_neg q2, if_pos q5, if_pos q8, if_neg q9, if_neg q10, if_neg q11, if_pos q14, if_pos q17, if_pos q20, if_pos q23, if_pos q26, if_pos q29, if_neg q32] at hP; exact hP)
                          · -- no
                            refine w_iconst (pc := 152) X27 C d2_152 (1 : Int32) rfl ?_
                            exact w_ret_boolean (pc := 153) X27 C d2_153 (by unfold f2 at hP; rw [if_neg q1, if_neg q2, if_pos q5, if_pos q8, if_neg q9, if_neg q10, if_neg q11, if_pos q14, if_pos q17, if_pos q20, if_pos q23, if_pos q26, if_neg q29] at hP; exact hP)
                        · -- no
                          refine w_iconst (pc := 139) X24 C d2_139 (1 : Int32) rfl ?_
                          exact w_ret_boolean (pc := 140) X24 C d2_140 (by unfold f2 at hP; rw [if_neg q1, if_neg q2, if_pos q5, if_pos q8, if_neg q9, if_neg q10, if_neg q11, if_pos q14, if_pos q17, if_pos q20, if_pos q23, if_neg q26] at hP; exact hP)
                      · -- no
                        refine w_iconst (pc := 124) X21 C d2_124 (1 : Int32) rfl ?_
                        exact w_ret_boolean (pc := 125) X21 C d2_125 (by unfold f2 at hP; rw [if_neg q1, if_neg q2, if_pos q5, if_pos q8, if_neg q9, if_neg q10, if_neg q11, if_pos q14, if_pos q17, if_pos q20, if_neg q23] at hP; exact hP)
                    · -- no
                      refine w_iconst (pc := 109) X18 C d2_109 (1 : Int32) rfl ?_
                      exact w_ret_boolean (pc := 110) X18 C d2_110 (by unfold f2 at hP; rw [if_neg q1, if_neg q2, if_pos q5, if_pos q8, if_neg q9, if_neg q10, if_neg q11, if_pos q14, if_pos q17, if_neg q20] at hP; exact hP)
                  · -- no
                    refine w_iconst (pc := 94) X15 C d2_94 (1 : Int32) rfl ?_
                    exact w_ret_boolean (pc := 95) X15 C d2_95 (by unfold f2 at hP; rw [if_neg q1, if_neg q2, if_pos q5, if_pos q8, if_neg q9, if_neg q10, if_neg q11, if_pos q14, if_neg q17] at hP; exact hP)
                · -- no
                  refine w_iconst (pc := 79) X12 C d2_79 (1 : Int32) rfl ?_
                  exact w_ret_boolean (pc := 80) X12 C d2_80 (by unfold f2 at hP; rw [if_neg q1, if_neg q2, if_pos q5, if_pos q8, if_neg q9, if_neg q10, if_neg q11, if_neg q14] at hP; exact hP)
              · -- no
                exact b2_64 X6 C (x0) (by unfold f2 at hP; rw [if_neg q1, if_neg q2, if_pos q5, if_pos q8, if_neg q9, if_neg q10, if_pos q11] at hP; exact hP)
        · -- no
          refine w_iconst (pc := 41) X6 C d2_41 (1 : Int32) rfl ?_
          exact w_ret_boolean (pc := 42) X6 C d2_42 (by unfold f2 at hP; rw [if_neg q1, if_neg q2, if_pos q5, if_neg q8] at hP; exact hP)
      · -- no
        refine w_iconst (pc := 27) X3 C d2_27 (1 : Int32) rfl ?_
        exact w_ret_boolean (pc := 28) X3 C d2_28 (by unfold f2 at hP; rw [if_neg q1, if_neg q2, if_neg q5] at hP; exact hP)
    · -- no
      refine w_iconst (pc := 14) X C d2_14 (1 : Int32) rfl ?_
      exact w_ret_boolean (pc := 15) X C d2_15 (by unfold f2 at hP; rw [if_neg q1, if_pos q2] at hP; exact hP)
  · -- no
    refine w_iconst (pc := 6) X C d2_6 (1 : Int32) rfl ?_
    exact w_ret_boolean (pc := 7) X C d2_7 (by unfold f2 at hP; rw [if_pos q1] at hP; exact hP)
theorem ct2 (l : Launch) {Z : State} {a0 : Array Value} (hw : ∀ d ∈ tables_1, d.before a0 Z = true) (h : Heap) {n0 : Nat} (hn : n0 ≤ h.size) (x0 : Int32) : Ct l (⟨"com/example/tracebed/tracebed/io/RdfTerminalsIsNameBasePinLaw", "gap", "(I)Z"⟩ : MethodName) method_3_code 1 (some .boolean) ({ frames := 1, cells := 0, slots := 0, locals := 14 } : Room) Z #[(.int x0)] h n0 (fun v h' => v = some (.int (f2 x0)) ∧ h' = h) :=
  Ct.of (plainFor_of_name pn_0) #[.val (.int x0)] (fun m => by first | (simp [entryFrame, mkF, argsToLocals, Value.category]; done) | rfl) hw hn (fun p e s m below meth c T C X => b2_0 X C x0 ⟨rfl, rfl⟩)
theorem own_lt (x y : Int32) : (x < y) = (x.toInt < y.toInt) := propext Int32.lt_iff_toInt_lt
theorem own_eq (x y : Int32) : (x = y) = (x.toInt = y.toInt) := propext Int32.toInt_inj.symm
theorem own_l0 : (0 : Int32).toInt = 0 := rfl
theorem own_l1 : (1 : Int32).toInt = 1 := rfl
theorem own_l65 : (65 : Int32).toInt = 65 := rfl
theorem own_l90 : (90 : Int32).toInt = 90 := rfl
theorem own_l91 : (91 : Int32).toInt = 91 := rfl
theorem own_l96 : (96 : Int32).toInt = 96 := rfl
theorem own_l97 : (97 : Int32).toInt = 97 := rfl
theorem own_l122 : (122 : Int32).toInt = 122 := rfl
theorem own_l123 : (123 : Int32).toInt = 123 := rfl
theorem own_l191 : (191 : Int32).toInt = 191 := rfl
theorem own_l192 : (192 : Int32).toInt = 192 := rfl
theorem own_l214 : (214 : Int32).toInt = 214 := rfl
theorem own_l215 : (215 : Int32).toInt = 215 := rfl
theorem own_l216 : (216 : Int32).toInt = 216 := rfl
theorem own_l246 : (246 : Int32).toInt = 246 := rfl
theorem own_l247 : (247 : Int32).toInt = 247 := rfl
theorem own_l248 : (248 : Int32).toInt = 248 := rfl
theorem own_l767 : (767 : Int32).toInt = 767 := rfl
theorem own_l768 : (768 : Int32).toInt = 768 := rfl
theorem own_l879 : (879 : Int32).toInt = 879 := rfl
theorem own_l880 : (880 : Int32).toInt = 880 := rfl
theorem own_l893 : (893 : Int32).toInt = 893 := rfl
theorem own_l894 : (894 : Int32).toInt = 894 := rfl
theorem own_l895 : (895 : Int32).toInt = 895 := rfl
theorem own_l8191 : (8191 : Int32).toInt = 8191 := rfl
theorem own_l8192 : (8192 : Int32).toInt = 8192 := rfl
theorem own_l8203 : (8203 : Int32).toInt = 8203 := rfl
theorem own_l8204 : (8204 : Int32).toInt = 8204 := rfl
theorem own_l8205 : (8205 : Int32).toInt = 8205 := rfl
theorem own_l8206 : (8206 : Int32).toInt = 8206 := rfl
theorem own_l8303 : (8303 : Int32).toInt = 8303 := rfl
theorem own_l8304 : (8304 : Int32).toInt = 8304 := rfl
theorem own_l8591 : (8591 : Int32).toInt = 8591 := rfl
theorem own_l8592 : (8592 : Int32).toInt = 8592 := rfl
theorem own_l11263 : (11263 : Int32).toInt = 11263 := rfl
theorem own_l11264 : (11264 : Int32).toInt = 11264 := rfl
theorem own_l12271 : (12271 : Int32).toInt = 12271 := rfl
theorem own_l12272 : (12272 : Int32).toInt = 12272 := rfl
theorem own_l12288 : (12288 : Int32).toInt = 12288 := rfl
theorem own_l12289 : (12289 : Int32).toInt = 12289 := rfl
theorem own_l55295 : (55295 : Int32).toInt = 55295 := rfl
theorem own_l55296 : (55296 : Int32).toInt = 55296 := rfl
theorem own_l63743 : (63743 : Int32).toInt = 63743 := rfl
theorem own_l63744 : (63744 : Int32).toInt = 63744 := rfl
theorem own_l64975 : (64975 : Int32).toInt = 64975 := rfl
theorem own_l64976 : (64976 : Int32).toInt = 64976 := rfl
theorem own_l65007 : (65007 : Int32).toInt = 65007 := rfl
theorem own_l65008 : (65008 : Int32).toInt = 65008 := rfl
theorem own_l65533 : (65533 : Int32).toInt = 65533 := rfl
theorem own_l65534 : (65534 : Int32).toInt = 65534 := rfl
theorem own_l65535 : (65535 : Int32).toInt = 65535 := rfl
theorem own_l65536 : (65536 : Int32).toInt = 65536 := rfl
theorem own_l983039 : (983039 : Int32).toInt = 983039 := rfl
theorem own_r173 (c : Int32) : f1_173 c = if ((65536 ≤ c.toInt ∧ c.toInt ≤ 983039)) then 1 else 0 := by
  unfold f1_173
  simp only [own_lt, own_l0, own_l1, own_l65, own_l90, own_l91, own_l96, own_l97, own_l122, own_l123, own_l191, own_l192, own_l214, own_l215, own_l216, own_l246, own_l247, own_l248, own_l767, own_l768, own_l879, own_l880, own_l893, own_l894, own_l895, own_l8191, own_l8192, own_l8203, own_l8204, own_l8205, own_l8206, own_l8303, own_l8304, own_l8591, own_l8592, own_l11263, own_l11264, own_l12271, own_l12272, own_l12288, own_l12289, own_l55295, own_l55296, own_l63743, own_l63744, own_l64975, own_l64976, own_l65007, own_l65008, own_l65533, own_l65534, own_l65535, own_l65536, own_l983039, f1_185, f1_189]
  generalize c.toInt = n
  repeat' split
  all_goals first | rfl | omega
theorem own_r161 (c : Int32) : f1_161 c = if ((65008 ≤ c.toInt ∧ c.toInt ≤ 65533) ∨ (65536 ≤ c.toInt ∧ c.toInt ≤ 983039)) then 1 else 0 := by
  unfold f1_161
  simp only [own_lt, own_l0, own_l1, own_l65, own_l90, own_l91, own_l96, own_l97, own_l122, own_l123, own_l191, own_l192, own_l214, own_l215, own_l216, own_l246, own_l247, own_l248, own_l767, own_l768, own_l879, own_l880, own_l893, own_l894, own_l895, own_l8191, own_l8192, own_l8203, own_l8204, own_l8205, own_l8206, own_l8303, own_l8304, own_l8591, own_l8592, own_l11263, own_l11264, own_l12271, own_l12272, own_l12288, own_l12289, own_l55295, own_l55296, own_l63743, own_l63744, own_l64975, own_l64976, own_l65007, own_l65008, own_l65533, own_l65534, own_l65535, own_l65536, own_l983039, f1_185, f1_189, own_r173]
  generalize c.toInt = n
  repeat' split
  all_goals first | rfl | omega
theorem own_r149 (c : Int32) : f1_149 c = if ((63744 ≤ c.toInt ∧ c.toInt ≤ 64975) ∨ (65008 ≤ c.toInt ∧ c.toInt ≤ 65533) ∨ (65536 ≤ c.toInt ∧ c.toInt ≤ 983039)) then 1 else 0 := by
  unfold f1_149
  simp only [own_lt, own_l0, own_l1, own_l65, own_l90, own_l91, own_l96, own_l97, own_l122, own_l123, own_l191, own_l192, own_l214, own_l215, own_l216, own_l246, own_l247, own_l248, own_l767, own_l768, own_l879, own_l880, own_l893, own_l894, own_l895, own_l8191, own_l8192, own_l8203, own_l8204, own_l8205, own_l8206, own_l8303, own_l8304, own_l8591, own_l8592, own_l11263, own_l11264, own_l12271, own_l12272, own_l12288, own_l12289, own_l55295, own_l55296, own_l63743, own_l63744, own_l64975, own_l64976, own_l65007, own_l65008, own_l65533, own_l65534, own_l65535, own_l65536, own_l983039, f1_185, f1_189, own_r161]
  generalize c.toInt = n
  repeat' split
  all_goals first | rfl | omega
theorem own_r136 (c : Int32) : f1_136 c = if ((12289 ≤ c.toInt ∧ c.toInt ≤ 55295) ∨ (63744 ≤ c.toInt ∧ c.toInt ≤ 64975) ∨ (65008 ≤ c.toInt ∧ c.toInt ≤ 65533) ∨ (65536 ≤ c.toInt ∧ c.toInt ≤ 983039)) then 1 else 0 := by
  unfold f1_136
  simp only [own_lt, own_l0, own_l1, own_l65, own_l90, own_l91, own_l96, own_l97, own_l122, own_l123, own_l191, own_l192, own_l214, own_l215, own_l216, own_l246, own_l247, own_l248, own_l767, own_l768, own_l879, own_l880, own_l893, own_l894, own_l895, own_l8191, own_l8192, own_l8203, own_l8204, own_l8205, own_l8206, own_l8303, own_l8304, own_l8591, own_l8592, own_l11263, own_l11264, own_l12271, own_l12272, own_l12288, own_l12289, own_l55295, own_l55296, own_l63743, own_l63744, own_l64975, own_l64976, own_l65007, own_l65008, own_l65533, own_l65534, own_l65535, own_l65536, own_l983039, f1_185, f1_189, own_r149]
  generalize c.toInt = n
  repeat' split
  all_goals first | rfl | omega
theorem own_r122 (c : Int32) : f1_122 c = if ((11264 ≤ c.toInt ∧ c.toInt ≤ 12271) ∨ (12289 ≤ c.toInt ∧ c.toInt ≤ 55295) ∨ (63744 ≤ c.toInt ∧ c.toInt ≤ 64975) ∨ (65008 ≤ c.toInt ∧ c.toInt ≤ 65533) ∨ (65536 ≤ c.toInt ∧ c.toInt ≤ 983039)) then 1 else 0 := by
  unfold f1_122
  simp only [own_lt, own_l0, own_l1, own_l65, own_l90, own_l91, own_l96, own_l97, own_l122, own_l123, own_l191, own_l192, own_l214, own_l215, own_l216, own_l246, own_l247, own_l248, own_l767, own_l768, own_l879, own_l880, own_l893, own_l894, own_l895, own_l8191, own_l8192, own_l8203, own_l8204, own_l8205, own_l8206, own_l8303, own_l8304, own_l8591, own_l8592, own_l11263, own_l11264, own_l12271, own_l12272, own_l12288, own_l12289, own_l55295, own_l55296, own_l63743, own_l63744, own_l64975, own_l64976, own_l65007, own_l65008, own_l65533, own_l65534, own_l65535, own_l65536, own_l983039, f1_185, f1_189, own_r136]
  generalize c.toInt = n
  repeat' split
  all_goals first | rfl | omega
theorem own_r108 (c : Int32) : f1_108 c = if ((8304 ≤ c.toInt ∧ c.toInt ≤ 8591) ∨ (11264 ≤ c.toInt ∧ c.toInt ≤ 12271) ∨ (12289 ≤ c.toInt ∧ c.toInt ≤ 55295) ∨ (63744 ≤ c.toInt ∧ c.toInt ≤ 64975) ∨ (65008 ≤ c.toInt ∧ c.toInt ≤ 65533) ∨ (65536 ≤ c.toInt ∧ c.toInt ≤ 983039)) then 1 else 0 := by
  unfold f1_108
  simp only [own_lt, own_l0, own_l1, own_l65, own_l90, own_l91, own_l96, own_l97, own_l122, own_l123, own_l191, own_l192, own_l214, own_l215, own_l216, own_l246, own_l247, own_l248, own_l767, own_l768, own_l879, own_l880, own_l893, own_l894, own_l895, own_l8191, own_l8192, own_l8203, own_l8204, own_l8205, own_l8206, own_l8303, own_l8304, own_l8591, own_l8592, own_l11263, own_l11264, own_l12271, own_l12272, own_l12288, own_l12289, own_l55295, own_l55296, own_l63743, own_l63744, own_l64975, own_l64976, own_l65007, own_l65008, own_l65533, own_l65534, own_l65535, own_l65536, own_l983039, f1_185, f1_189, own_r122]
  generalize c.toInt = n
  repeat' split
  all_goals first | rfl | omega
theorem own_r94 (c : Int32) : f1_94 c = if ((8204 ≤ c.toInt ∧ c.toInt ≤ 8205) ∨ (8304 ≤ c.toInt ∧ c.toInt ≤ 8591) ∨ (11264 ≤ c.toInt ∧ c.toInt ≤ 12271) ∨ (12289 ≤ c.toInt ∧ c.toInt ≤ 55295) ∨ (63744 ≤ c.toInt ∧ c.toInt ≤ 64975) ∨ (65008 ≤ c.toInt ∧ c.toInt ≤ 65533) ∨ (65536 ≤ c.toInt ∧ c.toInt ≤ 983039)) then 1 else 0 := by
  unfold f1_94
  simp only [own_lt, own_l0, own_l1, own_l65, own_l90, own_l91, own_l96, own_l97, own_l122, own_l123, own_l191, own_l192, own_l214, own_l215, own_l216, own_l246, own_l247, own_l248, own_l767, own_l768, own_l879, own_l880, own_l893, own_l894, own_l895, own_l8191, own_l8192, own_l8203, own_l8204, own_l8205, own_l8206, own_l8303, own_l8304, own_l8591, own_l8592, own_l11263, own_l11264, own_l12271, own_l12272, own_l12288, own_l12289, own_l55295, own_l55296, own_l63743, own_l63744, own_l64975, own_l64976, own_l65007, own_l65008, own_l65533, own_l65534, own_l65535, own_l65536, own_l983039, f1_185, f1_189, own_r108]
  generalize c.toInt = n
  repeat' split
  all_goals first | rfl | omega
theorem own_r80 (c : Int32) : f1_80 c = if ((895 ≤ c.toInt ∧ c.toInt ≤ 8191) ∨ (8204 ≤ c.toInt ∧ c.toInt ≤ 8205) ∨ (8304 ≤ c.toInt ∧ c.toInt ≤ 8591) ∨ (11264 ≤ c.toInt ∧ c.toInt ≤ 12271) ∨ (12289 ≤ c.toInt ∧ c.toInt ≤ 55295) ∨ (63744 ≤ c.toInt ∧ c.toInt ≤ 64975) ∨ (65008 ≤ c.toInt ∧ c.toInt ≤ 65533) ∨ (65536 ≤ c.toInt ∧ c.toInt ≤ 983039)) then 1 else 0 := by
  unfold f1_80
  simp only [own_lt, own_l0, own_l1, own_l65, own_l90, own_l91, own_l96, own_l97, own_l122, own_l123, own_l191, own_l192, own_l214, own_l215, own_l216, own_l246, own_l247, own_l248, own_l767, own_l768, own_l879, own_l880, own_l893, own_l894, own_l895, own_l8191, own_l8192, own_l8203, own_l8204, own_l8205, own_l8206, own_l8303, own_l8304, own_l8591, own_l8592, own_l11263, own_l11264, own_l12271, own_l12272, own_l12288, own_l12289, own_l55295, own_l55296, own_l63743, own_l63744, own_l64975, own_l64976, own_l65007, own_l65008, own_l65533, own_l65534, own_l65535, own_l65536, own_l983039, f1_185, f1_189, own_r94]
  generalize c.toInt = n
  repeat' split
  all_goals first | rfl | omega
theorem own_r66 (c : Int32) : f1_66 c = if ((880 ≤ c.toInt ∧ c.toInt ≤ 893) ∨ (895 ≤ c.toInt ∧ c.toInt ≤ 8191) ∨ (8204 ≤ c.toInt ∧ c.toInt ≤ 8205) ∨ (8304 ≤ c.toInt ∧ c.toInt ≤ 8591) ∨ (11264 ≤ c.toInt ∧ c.toInt ≤ 12271) ∨ (12289 ≤ c.toInt ∧ c.toInt ≤ 55295) ∨ (63744 ≤ c.toInt ∧ c.toInt ≤ 64975) ∨ (65008 ≤ c.toInt ∧ c.toInt ≤ 65533) ∨ (65536 ≤ c.toInt ∧ c.toInt ≤ 983039)) then 1 else 0 := by
  unfold f1_66
  simp only [own_lt, own_l0, own_l1, own_l65, own_l90, own_l91, own_l96, own_l97, own_l122, own_l123, own_l191, own_l192, own_l214, own_l215, own_l216, own_l246, own_l247, own_l248, own_l767, own_l768, own_l879, own_l880, own_l893, own_l894, own_l895, own_l8191, own_l8192, own_l8203, own_l8204, own_l8205, own_l8206, own_l8303, own_l8304, own_l8591, own_l8592, own_l11263, own_l11264, own_l12271, own_l12272, own_l12288, own_l12289, own_l55295, own_l55296, own_l63743, own_l63744, own_l64975, own_l64976, own_l65007, own_l65008, own_l65533, own_l65534, own_l65535, own_l65536, own_l983039, f1_185, f1_189, own_r80]
  generalize c.toInt = n
  repeat' split
  all_goals first | rfl | omega
theorem own_r52 (c : Int32) : f1_52 c = if ((248 ≤ c.toInt ∧ c.toInt ≤ 767) ∨ (880 ≤ c.toInt ∧ c.toInt ≤ 893) ∨ (895 ≤ c.toInt ∧ c.toInt ≤ 8191) ∨ (8204 ≤ c.toInt ∧ c.toInt ≤ 8205) ∨ (8304 ≤ c.toInt ∧ c.toInt ≤ 8591) ∨ (11264 ≤ c.toInt ∧ c.toInt ≤ 12271) ∨ (12289 ≤ c.toInt ∧ c.toInt ≤ 55295) ∨ (63744 ≤ c.toInt ∧ c.toInt ≤ 64975) ∨ (65008 ≤ c.toInt ∧ c.toInt ≤ 65533) ∨ (65536 ≤ c.toInt ∧ c.toInt ≤ 983039)) then 1 else 0 := by
  unfold f1_52
  simp only [own_lt, own_l0, own_l1, own_l65, own_l90, own_l91, own_l96, own_l97, own_l122, own_l123, own_l191, own_l192, own_l214, own_l215, own_l216, own_l246, own_l247, own_l248, own_l767, own_l768, own_l879, own_l880, own_l893, own_l894, own_l895, own_l8191, own_l8192, own_l8203, own_l8204, own_l8205, own_l8206, own_l8303, own_l8304, own_l8591, own_l8592, own_l11263, own_l11264, own_l12271, own_l12272, own_l12288, own_l12289, own_l55295, own_l55296, own_l63743, own_l63744, own_l64975, own_l64976, own_l65007, own_l65008, own_l65533, own_l65534, own_l65535, own_l65536, own_l983039, f1_185, f1_189, own_r66]
  generalize c.toInt = n
  repeat' split
  all_goals first | rfl | omega
theorem own_r38 (c : Int32) : f1_38 c = if ((216 ≤ c.toInt ∧ c.toInt ≤ 246) ∨ (248 ≤ c.toInt ∧ c.toInt ≤ 767) ∨ (880 ≤ c.toInt ∧ c.toInt ≤ 893) ∨ (895 ≤ c.toInt ∧ c.toInt ≤ 8191) ∨ (8204 ≤ c.toInt ∧ c.toInt ≤ 8205) ∨ (8304 ≤ c.toInt ∧ c.toInt ≤ 8591) ∨ (11264 ≤ c.toInt ∧ c.toInt ≤ 12271) ∨ (12289 ≤ c.toInt ∧ c.toInt ≤ 55295) ∨ (63744 ≤ c.toInt ∧ c.toInt ≤ 64975) ∨ (65008 ≤ c.toInt ∧ c.toInt ≤ 65533) ∨ (65536 ≤ c.toInt ∧ c.toInt ≤ 983039)) then 1 else 0 := by
  unfold f1_38
  simp only [own_lt, own_l0, own_l1, own_l65, own_l90, own_l91, own_l96, own_l97, own_l122, own_l123, own_l191, own_l192, own_l214, own_l215, own_l216, own_l246, own_l247, own_l248, own_l767, own_l768, own_l879, own_l880, own_l893, own_l894, own_l895, own_l8191, own_l8192, own_l8203, own_l8204, own_l8205, own_l8206, own_l8303, own_l8304, own_l8591, own_l8592, own_l11263, own_l11264, own_l12271, own_l12272, own_l12288, own_l12289, own_l55295, own_l55296, own_l63743, own_l63744, own_l64975, own_l64976, own_l65007, own_l65008, own_l65533, own_l65534, own_l65535, own_l65536, own_l983039, f1_185, f1_189, own_r52]
  generalize c.toInt = n
  repeat' split
  all_goals first | rfl | omega
theorem own_r24 (c : Int32) : f1_24 c = if ((192 ≤ c.toInt ∧ c.toInt ≤ 214) ∨ (216 ≤ c.toInt ∧ c.toInt ≤ 246) ∨ (248 ≤ c.toInt ∧ c.toInt ≤ 767) ∨ (880 ≤ c.toInt ∧ c.toInt ≤ 893) ∨ (895 ≤ c.toInt ∧ c.toInt ≤ 8191) ∨ (8204 ≤ c.toInt ∧ c.toInt ≤ 8205) ∨ (8304 ≤ c.toInt ∧ c.toInt ≤ 8591) ∨ (11264 ≤ c.toInt ∧ c.toInt ≤ 12271) ∨ (12289 ≤ c.toInt ∧ c.toInt ≤ 55295) ∨ (63744 ≤ c.toInt ∧ c.toInt ≤ 64975) ∨ (65008 ≤ c.toInt ∧ c.toInt ≤ 65533) ∨ (65536 ≤ c.toInt ∧ c.toInt ≤ 983039)) then 1 else 0 := by
  unfold f1_24
  simp only [own_lt, own_l0, own_l1, own_l65, own_l90, own_l91, own_l96, own_l97, own_l122, own_l123, own_l191, own_l192, own_l214, own_l215, own_l216, own_l246, own_l247, own_l248, own_l767, own_l768, own_l879, own_l880, own_l893, own_l894, own_l895, own_l8191, own_l8192, own_l8203, own_l8204, own_l8205, own_l8206, own_l8303, own_l8304, own_l8591, own_l8592, own_l11263, own_l11264, own_l12271, own_l12272, own_l12288, own_l12289, own_l55295, own_l55296, own_l63743, own_l63744, own_l64975, own_l64976, own_l65007, own_l65008, own_l65533, own_l65534, own_l65535, own_l65536, own_l983039, f1_185, f1_189, own_r38]
  generalize c.toInt = n
  repeat' split
  all_goals first | rfl | omega
theorem own_r12 (c : Int32) : f1_12 c = if ((97 ≤ c.toInt ∧ c.toInt ≤ 122) ∨ (192 ≤ c.toInt ∧ c.toInt ≤ 214) ∨ (216 ≤ c.toInt ∧ c.toInt ≤ 246) ∨ (248 ≤ c.toInt ∧ c.toInt ≤ 767) ∨ (880 ≤ c.toInt ∧ c.toInt ≤ 893) ∨ (895 ≤ c.toInt ∧ c.toInt ≤ 8191) ∨ (8204 ≤ c.toInt ∧ c.toInt ≤ 8205) ∨ (8304 ≤ c.toInt ∧ c.toInt ≤ 8591) ∨ (11264 ≤ c.toInt ∧ c.toInt ≤ 12271) ∨ (12289 ≤ c.toInt ∧ c.toInt ≤ 55295) ∨ (63744 ≤ c.toInt ∧ c.toInt ≤ 64975) ∨ (65008 ≤ c.toInt ∧ c.toInt ≤ 65533) ∨ (65536 ≤ c.toInt ∧ c.toInt ≤ 983039)) then 1 else 0 := by
  unfold f1_12
  simp only [own_lt, own_l0, own_l1, own_l65, own_l90, own_l91, own_l96, own_l97, own_l122, own_l123, own_l191, own_l192, own_l214, own_l215, own_l216, own_l246, own_l247, own_l248, own_l767, own_l768, own_l879, own_l880, own_l893, own_l894, own_l895, own_l8191, own_l8192, own_l8203, own_l8204, own_l8205, own_l8206, own_l8303, own_l8304, own_l8591, own_l8592, own_l11263, own_l11264, own_l12271, own_l12272, own_l12288, own_l12289, own_l55295, own_l55296, own_l63743, own_l63744, own_l64975, own_l64976, own_l65007, own_l65008, own_l65533, own_l65534, own_l65535, own_l65536, own_l983039, f1_185, f1_189, own_r24]
  generalize c.toInt = n
  repeat' split
  all_goals first | rfl | omega
theorem own_r0 (c : Int32) : f1 c = if ((65 ≤ c.toInt ∧ c.toInt ≤ 90) ∨ (97 ≤ c.toInt ∧ c.toInt ≤ 122) ∨ (192 ≤ c.toInt ∧ c.toInt ≤ 214) ∨ (216 ≤ c.toInt ∧ c.toInt ≤ 246) ∨ (248 ≤ c.toInt ∧ c.toInt ≤ 767) ∨ (880 ≤ c.toInt ∧ c.toInt ≤ 893) ∨ (895 ≤ c.toInt ∧ c.toInt ≤ 8191) ∨ (8204 ≤ c.toInt ∧ c.toInt ≤ 8205) ∨ (8304 ≤ c.toInt ∧ c.toInt ≤ 8591) ∨ (11264 ≤ c.toInt ∧ c.toInt ≤ 12271) ∨ (12289 ≤ c.toInt ∧ c.toInt ≤ 55295) ∨ (63744 ≤ c.toInt ∧ c.toInt ≤ 64975) ∨ (65008 ≤ c.toInt ∧ c.toInt ≤ 65533) ∨ (65536 ≤ c.toInt ∧ c.toInt ≤ 983039)) then 1 else 0 := by
  unfold f1
  simp only [own_lt, own_l0, own_l1, own_l65, own_l90, own_l91, own_l96, own_l97, own_l122, own_l123, own_l191, own_l192, own_l214, own_l215, own_l216, own_l246, own_l247, own_l248, own_l767, own_l768, own_l879, own_l880, own_l893, own_l894, own_l895, own_l8191, own_l8192, own_l8203, own_l8204, own_l8205, own_l8206, own_l8303, own_l8304, own_l8591, own_l8592, own_l11263, own_l11264, own_l12271, own_l12272, own_l12288, own_l12289, own_l55295, own_l55296, own_l63743, own_l63744, own_l64975, own_l64976, own_l65007, own_l65008, own_l65533, own_l65534, own_l65535, own_l65536, own_l983039, f1_185, f1_189, own_r12]
  generalize c.toInt = n
  repeat' split
  all_goals first | rfl | omega
theorem own_i (c a b : Int32) : f3 c a b = if (a.toInt ≤ c.toInt ∧ c.toInt ≤ b.toInt) then 1 else 0 := by
  unfold f3 f3_14
  simp only [own_lt]
  repeat' split
  all_goals first | rfl | omega
theorem own_z (p : Prop) [Decidable p] : ((if p then (1 : Int32) else 0) = 0) = ¬ p := by
  by_cases h : p <;> simp [h]
theorem own_no0 (c : Int32) (h1 : ¬ (f2 c = 0)) (h2 : ¬ (f1 c = (0 : Int32))) : False := by
  rw [own_r0, own_z] at h2
  have h3 := Decidable.not_not.mp h2
  clear h2
  apply h1
  unfold f2 f2_64
  simp only [own_lt, own_eq c, own_i, own_z, ite_not, own_l0, own_l1, own_l65, own_l90, own_l91, own_l96, own_l97, own_l122, own_l123, own_l191, own_l192, own_l214, own_l215, own_l216, own_l246, own_l247, own_l248, own_l767, own_l768, own_l879, own_l880, own_l893, own_l894, own_l895, own_l8191, own_l8192, own_l8203, own_l8204, own_l8205, own_l8206, own_l8303, own_l8304, own_l8591, own_l8592, own_l11263, own_l11264, own_l12271, own_l12272, own_l12288, own_l12289, own_l55295, own_l55296, own_l63743, own_l63744, own_l64975, own_l64976, own_l65007, own_l65008, own_l65533, own_l65534, own_l65535, own_l65536, own_l983039]
  revert h3
  generalize c.toInt = n
  intro h3
  rw [if_neg (show ¬ (n < 65) by omega)]
  rw [if_neg (show ¬ (983039 < n) by omega)]
  rw [if_neg (show ¬ (91 ≤ n ∧ n ≤ 96) by omega)]
  rw [if_neg (show ¬ (123 ≤ n ∧ n ≤ 191) by omega)]
  rw [if_neg (show ¬ (n = 215) by omega)]
  rw [if_neg (show ¬ (n = 247) by omega)]
  rw [if_neg (show ¬ (n = 894) by omega)]
  rw [if_neg (show ¬ (768 ≤ n ∧ n ≤ 879) by omega)]
  rw [if_neg (show ¬ (8192 ≤ n ∧ n ≤ 8203) by omega)]
  rw [if_neg (show ¬ (8206 ≤ n ∧ n ≤ 8303) by omega)]
  rw [if_neg (show ¬ (8592 ≤ n ∧ n ≤ 11263) by omega)]
  rw [if_neg (show ¬ (12272 ≤ n ∧ n ≤ 12288) by omega)]
  rw [if_neg (show ¬ (55296 ≤ n ∧ n ≤ 63743) by omega)]
  rw [if_neg (show ¬ (64976 ≤ n ∧ n ≤ 65007) by omega)]
  rw [if_neg (show ¬ (65534 ≤ n ∧ n ≤ 65535) by omega)]
theorem own_no1 (c : Int32) (h1 : f2 c = 0) (h2 : ¬ (f1 c = (1 : Int32))) : False := by
  rw [own_r0] at h2
  by_cases hR : (65 ≤ c.toInt ∧ c.toInt ≤ 90) ∨ (97 ≤ c.toInt ∧ c.toInt ≤ 122) ∨ (192 ≤ c.toInt ∧ c.toInt ≤ 214) ∨ (216 ≤ c.toInt ∧ c.toInt ≤ 246) ∨ (248 ≤ c.toInt ∧ c.toInt ≤ 767) ∨ (880 ≤ c.toInt ∧ c.toInt ≤ 893) ∨ (895 ≤ c.toInt ∧ c.toInt ≤ 8191) ∨ (8204 ≤ c.toInt ∧ c.toInt ≤ 8205) ∨ (8304 ≤ c.toInt ∧ c.toInt ≤ 8591) ∨ (11264 ≤ c.toInt ∧ c.toInt ≤ 12271) ∨ (12289 ≤ c.toInt ∧ c.toInt ≤ 55295) ∨ (63744 ≤ c.toInt ∧ c.toInt ≤ 64975) ∨ (65008 ≤ c.toInt ∧ c.toInt ≤ 65533) ∨ (65536 ≤ c.toInt ∧ c.toInt ≤ 983039)
  · exact h2 (if_pos hR)
  · clear h2
    revert h1 hR
    unfold f2 f2_64
    simp only [own_lt, own_eq c, own_i, own_z, ite_not, own_l0, own_l1, own_l65, own_l90, own_l91, own_l96, own_l97, own_l122, own_l123, own_l191, own_l192, own_l214, own_l215, own_l216, own_l246, own_l247, own_l248, own_l767, own_l768, own_l879, own_l880, own_l893, own_l894, own_l895, own_l8191, own_l8192, own_l8203, own_l8204, own_l8205, own_l8206, own_l8303, own_l8304, own_l8591, own_l8592, own_l11263, own_l11264, own_l12271, own_l12272, own_l12288, own_l12289, own_l55295, own_l55296, own_l63743, own_l63744, own_l64975, own_l64976, own_l65007, own_l65008, own_l65533, own_l65534, own_l65535, own_l65536, own_l983039]
    generalize c.toInt = n
    intro h1 hR
    by_cases k0 : n < 65
    · rw [if_pos k0] at h1; exact absurd h1 (by decide)
    rw [if_neg k0] at h1
    by_cases k1 : 983039 < n
    · rw [if_pos k1] at h1; exact absurd h1 (by decide)
    rw [if_neg k1] at h1
    by_cases k2 : 91 ≤ n ∧ n ≤ 96
    · rw [if_pos k2] at h1; exact absurd h1 (by decide)
    rw [if_neg k2] at h1
    by_cases k3 : 123 ≤ n ∧ n ≤ 191
    · rw [if_pos k3] at h1; exact absurd h1 (by decide)
    rw [if_neg k3] at h1
    by_cases k4 : n = 215
    · rw [if_pos k4] at h1; exact absurd h1 (by decide)
    rw [if_neg k4] at h1
    by_cases k5 : n = 247
    · rw [if_pos k5] at h1; exact absurd h1 (by decide)
    rw [if_neg k5] at h1
    by_cases k6 : n = 894
    · rw [if_pos k6] at h1; exact absurd h1 (by decide)
    rw [if_neg k6] at h1
    by_cases k7 : 768 ≤ n ∧ n ≤ 879
    · rw [if_pos k7] at h1; exact absurd h1 (by decide)
    rw [if_neg k7] at h1
    by_cases k8 : 8192 ≤ n ∧ n ≤ 8203
    · rw [if_pos k8] at h1; exact absurd h1 (by decide)
    rw [if_neg k8] at h1
    by_cases k9 : 8206 ≤ n ∧ n ≤ 8303
    · rw [if_pos k9] at h1; exact absurd h1 (by decide)
    rw [if_neg k9] at h1
    by_cases k10 : 8592 ≤ n ∧ n ≤ 11263
    · rw [if_pos k10] at h1; exact absurd h1 (by decide)
    rw [if_neg k10] at h1
    by_cases k11 : 12272 ≤ n ∧ n ≤ 12288
    · rw [if_pos k11] at h1; exact absurd h1 (by decide)
    rw [if_neg k11] at h1
    by_cases k12 : 55296 ≤ n ∧ n ≤ 63743
    · rw [if_pos k12] at h1; exact absurd h1 (by decide)
    rw [if_neg k12] at h1
    by_cases k13 : 64976 ≤ n ∧ n ≤ 65007
    · rw [if_pos k13] at h1; exact absurd h1 (by decide)
    rw [if_neg k13] at h1
    by_cases k14 : 65534 ≤ n ∧ n ≤ 65535
    · rw [if_pos k14] at h1; exact absurd h1 (by decide)
    rw [if_neg k14] at h1
    omega
set_option maxRecDepth 65536 in
set_option maxHeartbeats 40000000 in
theorem law_walk {p : Program} {l : Launch} {e : Env} {s : State} {m : MethodId} {args : Array Value} {below : List Frame} {meth : Method} {c : Code} {T : State} {h : Heap} {n0 : Nat} {Z : State} {a0 : Array Value} (X : Hr p l e room_1 s m args below meth c n0 h 0 0 T) (C : Cx p s m meth c code maxLocals ret "com/example/tracebed/tracebed/io/RdfTerminalsIsNameBasePinLaw" "law" Z a0 tables_1) (x0 : Int32) : Goes p e below s n0 (fun v _ => v = some (.int 1)) room_1.cells room_1.slots T (mkF m 0 #[.val (.int x0)] []) := by
  refine w_iloadN (pc := 0) X C at_0 rfl ?_
  refine w_callP (pc := 1) X C (y := (⟨"com/example/tracebed/tracebed/io/RdfTerminals", "isNameBase", "(I)Z"⟩ : MethodName)) (bytes := prog_54_method_2_code) (maxL := 1) (rt := some .boolean) (argsL := [(.int x0)]) (rest := []) (w := .int (f1 x0)) (W := 0) at_1 (List.mem_of_getElem? (i := 0) rfl) (List.mem_of_getElem? (i := 1) rfl) (List.mem_of_getElem? (i := 2) rfl) (List.mem_of_getElem? (i := 3) rfl) (by decide) (ct1 l C.2.2.2.2.2.2.2.2 _ X.size (x0)) rfl rfl rfl ⟨_, _, pd_1, rfl⟩ rfl (Nat.le_of_eq rfl) (by decide) (by decide) (by decide) (by decide) (fun T2 X1 => ?_)
  refine w_iloadN (pc := 4) X1 C at_4 rfl ?_
  refine w_callP (pc := 5) X1 C (y := (⟨"com/example/tracebed/tracebed/io/RdfTerminalsIsNameBasePinLaw", "gap", "(I)Z"⟩ : MethodName)) (bytes := method_3_code) (maxL := 1) (rt := some .boolean) (argsL := [(.int x0)]) (rest := [(.int (f1 x0))]) (w := .int (f2 x0)) (W := 1) at_5 (List.mem_of_getElem? (i := 7) rfl) (List.mem_of_getElem? (i := 8) rfl) (List.mem_of_getElem? (i := 9) rfl) (List.mem_of_getElem? (i := 10) rfl) (by decide) (ct2 l C.2.2.2.2.2.2.2.2 _ X1.size (x0)) rfl rfl rfl ⟨_, _, pd_1, rfl⟩ rfl (Nat.le_of_eq rfl) (by decide) (by decide) (by decide) (by decide) (fun T4 X3 => ?_)
  refine w_if_ne (pc := 8) X3 C at_8 15 (by decide) (fun q5 => ?_) (fun q5 => ?_)
  · -- yes
    refine w_iconst (pc := 15) X3 C at_15 (0 : Int32) rfl ?_
    refine w_icmp_ne (pc := 16) X3 C at_16 23 (by decide) (fun q6 => ?_) (fun q6 => ?_)
    · -- yes
      refine w_iconst (pc := 23) X3 C at_23 (0 : Int32) rfl ?_
      exfalso
      exact own_no0 x0 q5 q6
    · -- no
      refine w_iconst (pc := 19) X3 C at_19 (1 : Int32) rfl ?_
      refine w_goto (pc := 20) X3 C at_20 24 (by decide) ?_
      exact w_ret_boolean (pc := 24) X3 C at_24 rfl
  · -- no
    refine w_iconst (pc := 11) X3 C at_11 (1 : Int32) rfl ?_
    refine w_goto (pc := 12) X3 C at_12 16 (by decide) ?_
    refine w_icmp_ne (pc := 16) X3 C at_16 23 (by decide) (fun q7 => ?_) (fun q7 => ?_)
    · -- yes
      refine w_iconst (pc := 23) X3 C at_23 (0 : Int32) rfl ?_
      exfalso
      exact own_no1 x0 q5 q7
    · -- no
      refine w_iconst (pc := 19) X3 C at_19 (1 : Int32) rfl ?_
      refine w_goto (pc := 20) X3 C at_20 24 (by decide) ?_
      exact w_ret_boolean (pc := 24) X3 C at_24 rfl
set_option maxRecDepth 65536 in
theorem law_ct (l : Launch) {Z : State} {a0 : Array Value} (hw : ∀ d ∈ tables_1, d.before a0 Z = true) (h : Heap) {n0 : Nat} (hn : n0 ≤ h.size) (x0 : Int32) : Ct l x code maxLocals ret room_1 Z #[(.int x0)] h n0 (fun v _ => v = some (.int 1)) :=
  Ct.of (plainFor_of_name pn_0) #[.val (.int x0)] (fun m => by first | (simp [entryFrame, mkF, argsToLocals, Value.category, maxLocals]; done) | rfl) hw hn (fun p e s m below meth c T C X => law_walk X C x0)
set_option maxRecDepth 65536 in
set_option maxHeartbeats 40000000 in
theorem comes_1 {Post : Tables → Env → Array Value → State → Outcome → State → Prop} (hpost : ∀ tb e args s v u, (limb_1_1.after args s (.returned v) u = true ∧ limb_1_2.after args s (.returned v) u = true ∧ True) → FrameEnd s (.returned v) u (Jvm.fieldLocs frame_1_writes args s ++ Jvm.arrayLocs frame_1_arrays args s ++ Jvm.staticLocs frame_1_statics s) 0 0 → Post tb e args s (.returned v) u) :
    ArmFor flags0 classFile x code maxLocals ret World_1 tables_1 room_1 Calls_1 rest_1 Pre_1 Post := by
  intro l hfl _ _ p e ha hc hk s m args below hf hA hF happ hP
  obtain ⟨hcalls, hrest, hpre⟩ := hP
  obtain ⟨-, -, -, hnamed, -, -, -, hat⟩ := (Spec.applies_iff hf).mp happ
  obtain ⟨hg, hn⟩ := and_e (Cond.before_iff.mp (show (Jvm.Cond.and given_1 narrow_1).before args s = true from hpre))
  obtain ⟨g1, g2⟩ := and_e hg
  obtain ⟨w0, rfl⟩ : ∃ w0 : Value, args = #[w0] := by
    have hs : args.size = 1 := by simpa [Cond.value, given_1] using g1
    obtain ⟨L⟩ := args
    match L, hs with
    | [w0], _ => exact ⟨w0, rfl⟩
  have hw := fun d (hd : d ∈ tables_1) => atoms_spec (ws := Jvm.Cond.code x code maxLocals ret :: tables_1) hat d (List.mem_cons_of_mem _ hd)
  obtain ⟨i0, ei0⟩ := is_v g2
  obtain rfl : w0 = (.int i0) := Option.some.inj ei0
  obtain ⟨n, o, h1, h2, h3, _, L, rfl, ⟨N, rfl⟩, hq⟩ := law_ct l hw s.heap (Nat.le_refl _) i0 tables_1 p e ha hc hk s m _ below hf ((Spec.applies_iff_loose hf).mp happ).1 ⟨rfl, State.Warmed39.refl s, rfl⟩ trivial
  refine ⟨n, _, h1, h2, h3, hpost _ _ _ _ _ _ ⟨Cond.after_iff.mpr rfl, Cond.after_iff.mpr (eq_i res_at (Term.int_eval (1)) rfl), trivial⟩ ⟨hq.1, hq.2.1, (hq.2.2.sift fun y hy => Or.inr (N y hy)).mono (by decide) (by decide)⟩⟩
theorem main_1_1 : Claimed_1_1 := comes_1 fun _ _ _ _ _ _ h hF => ⟨h.1, hF⟩
theorem main_1_2 : Claimed_1_2 := comes_1 fun _ _ _ _ _ _ h hF => ⟨h.2.1, hF⟩
end Jvm.Pilot.@@N@@
namespace Jvm.Pilot.@@N@@
open Jvm Jvm.ClassFile Sem Op Lib Jvm.Free Jvm.Stand Jvm.Pilot.@@N@@.Jvm.D
/-! MADE BY PROGRAM (witnessworld.py) out of the Statement's table words and the real class files: 9 classes; the members and pool entries that the words name. The judged class is class 1, her method 3. -/
namespace start1
open Jvm.ClassFile
def u (s : String) : CpInfo := .utf8 (stringToUtf16 s)
/-- a pool by its gaps: so many unusable entries, then the entry; so many at the end -/
def gap : Nat → List CpInfo → List CpInfo
  | 0, r => r
  | n + 1, r => .unusable :: gap n r
def poolList (es : List (Nat × CpInfo)) (last : Nat) : List CpInfo := es.foldr (fun e r => gap e.1 (e.2 :: r)) (gap last [])
def pool (es : List (Nat × CpInfo)) (last : Nat) : Array CpInfo := ⟨poolList es last⟩
def fileOf (pool : Array CpInfo) (this : Nat) (attrs : Array Attribute := #[]) (ms : Array MethodInfo := #[]) (fl : Nat := 33) (sup : Nat := 0) (ifs : Array Nat := #[]) (fds : Array FieldInfo := #[]) : ClassFile where
  minorVersion := 0
  majorVersion := 65
  constantPool := pool
  accessFlags := fl
  thisClass := this
  superClass := sup
  interfaces := ifs
  fields := fds
  methods := ms
  attributes := attrs
def plain (name : String) (sup : Option ClassId) : Class where
  name := name
  kind := .ordinary
  loader := none
  accessFlags := 33
  super := sup
  interfaces := #[]
  cf := none
  fields := #[]
  methods := #[]
  instanceTypes := #[]
  staticTypes := #[]
  resolved := #[]
  callSites := []
  init := .initialized
  statics := none
  mirror := none

def pool0 : Array CpInfo := pool [(5, u "<init>"), (0, u "()V"), (1, .class_ 10), (1, u "java/lang/Object")] 113

def k0m0 : Method := { name := "<init>", desc := "()V", sig := { parameters := [], returnType := none }, accessFlags := 1, code := none }
/-- java/lang/Object -/
def k0 : Class := { plain "java/lang/Object" none with
  accessFlags := 33
  interfaces := #[]
  cf := some (fileOf pool0 8 #[] #[{ accessFlags := 1, nameIndex := 5, descriptorIndex := 6, attributes := #[] }] 33 0 #[] #[])
  fields := #[]
  methods := #[k0m0]
  instanceTypes := #[]
  staticTypes := #[]
  resolved := Array.replicate 124 none
  statics := none }

def pool1 : Array CpInfo := pool [(2, .class_ 4), (1, u "java/lang/Object"), (0, u "<init>"), (0, u "()V"), (0, .integer 983039), (0, .methodref 9 10), (0, .class_ 11), (0, .nameAndType 12 13), (0, u "com/example/tracebed/tracebed/io/RdfTerminalsIsNameBasePinLaw"), (0, u "in"), (0, u "(III)Z"), (0, .integer 55296), (0, .integer 63743), (0, .integer 64976), (0, .integer 65007), (0, .integer 65534), (0, .integer 65535), (0, .methodref 21 22), (0, .class_ 23), (0, .nameAndType 24 25), (0, u "com/example/tracebed/tracebed/io/RdfTerminals"), (0, u "isNameBase"), (0, u "(I)Z"), (0, .methodref 9 27), (0, .nameAndType 28 25), (0, u "gap"), (3, u "law")] 2

def k1m0 : Method := { name := "<init>", desc := "()V", sig := { parameters := [], returnType := none }, accessFlags := 2, code := none }
def k1c1 : Code := { maxStack := 2, maxLocals := 3, code := method_2_code, exceptionTable := #[], attributes := #[] }
def k1m1 : Method := { name := "in", desc := "(III)Z", sig := { parameters := [.int, .int, .int], returnType := some .boolean }, accessFlags := 10, code := some k1c1 }
def k1c2 : Code := { maxStack := 3, maxLocals := 1, code := method_3_code, exceptionTable := #[], attributes := #[] }
def k1m2 : Method := { name := "gap", desc := "(I)Z", sig := { parameters := [.int], returnType := some .boolean }, accessFlags := 10, code := some k1c2 }
def k1c3 : Code := { maxStack := 2, maxLocals := 1, code := code, exceptionTable := #[], attributes := #[] }
def k1m3 : Method := { name := "law", desc := "(I)Z", sig := { parameters := [.int], returnType := some .boolean }, accessFlags := 9, code := some k1c3 }
/-- com/example/tracebed/tracebed/io/RdfTerminalsIsNameBasePinLaw -/
def k1 : Class := { plain "com/example/tracebed/tracebed/io/RdfTerminalsIsNameBasePinLaw" (some 0) with
  accessFlags := 49
  interfaces := #[]
  cf := some (fileOf pool1 9 #[] #[{ accessFlags := 2, nameIndex := 5, descriptorIndex := 6, attributes := #[] }, { accessFlags := 10, nameIndex := 12, descriptorIndex := 13, attributes := #[] }, { accessFlags := 10, nameIndex := 28, descriptorIndex := 25, attributes := #[] }, { accessFlags := 9, nameIndex := 32, descriptorIndex := 25, attributes := #[] }] 49 2 #[] #[])
  fields := #[]
  methods := #[k1m0, k1m1, k1m2, k1m3]
  instanceTypes := #[]
  staticTypes := #[]
  resolved := Array.replicate 35 none
  statics := none }

def pool2 : Array CpInfo := pool [(2, .class_ 4), (1, u "java/lang/Object"), (0, u "<init>"), (0, u "()V"), (0, .integer 55295), (0, .integer 63744), (0, .integer 64975), (0, .integer 65008), (0, .integer 65533), (0, .integer 65536), (0, .integer 983039), (1, .class_ 17), (1, u "com/example/tracebed/tracebed/io/RdfTerminals"), (0, u "isNameBase"), (0, u "(I)Z"), (35, u "ESCAPE_LETTERS"), (0, u "Ljava/lang/String;"), (1, u "ESCAPED")] 10

def k2m0 : Method := { name := "<init>", desc := "()V", sig := { parameters := [], returnType := none }, accessFlags := 2, code := none }
def k2c1 : Code := { maxStack := 2, maxLocals := 1, code := prog_54_method_2_code, exceptionTable := #[], attributes := #[] }
def k2m1 : Method := { name := "isNameBase", desc := "(I)Z", sig := { parameters := [.int], returnType := some .boolean }, accessFlags := 9, code := some k2c1 }
/-- com/example/tracebed/tracebed/io/RdfTerminals -/
def k2 : Class := { plain "com/example/tracebed/tracebed/io/RdfTerminals" (some 0) with
  accessFlags := 49
  interfaces := #[]
  cf := some (fileOf pool2 15 #[] #[{ accessFlags := 2, nameIndex := 5, descriptorIndex := 6, attributes := #[] }, { accessFlags := 9, nameIndex := 18, descriptorIndex := 19, attributes := #[] }] 49 2 #[] #[{ accessFlags := 26, nameIndex := 55, descriptorIndex := 56, attributes := #[] }, { accessFlags := 26, nameIndex := 58, descriptorIndex := 56, attributes := #[] }])
  fields := #[{ name := "ESCAPE_LETTERS", type := (.object "java/lang/String"), accessFlags := 26, slot := 0, constantValue := 0 }, { name := "ESCAPED", type := (.object "java/lang/String"), accessFlags := 26, slot := 1, constantValue := 0 }]
  methods := #[k2m0, k2m1]
  instanceTypes := #[]
  staticTypes := #[(.object "java/lang/String"), (.object "java/lang/String")]
  resolved := Array.replicate 69 none
  statics := none }

def pool3 : Array CpInfo := pool [(1, u "java/lang/Cloneable"), (0, .class_ 1), (0, u "java/lang/Object"), (0, .class_ 3)] 3

/-- java/lang/Cloneable -/
def k3 : Class := { plain "java/lang/Cloneable" (some 0) with
  accessFlags := 1537
  interfaces := #[]
  cf := some (fileOf pool3 2 #[] #[] 1537 4 #[] #[])
  fields := #[]
  methods := #[]
  instanceTypes := #[]
  staticTypes := #[]
  resolved := Array.replicate 8 none
  statics := none }

def pool4 : Array CpInfo := pool [(1, u "java/io/Serializable"), (0, .class_ 1), (0, u "java/lang/Object"), (0, .class_ 3)] 3

/-- java/io/Serializable -/
def k4 : Class := { plain "java/io/Serializable" (some 0) with
  accessFlags := 1537
  interfaces := #[]
  cf := some (fileOf pool4 2 #[] #[] 1537 4 #[] #[])
  fields := #[]
  methods := #[]
  instanceTypes := #[]
  staticTypes := #[]
  resolved := Array.replicate 8 none
  statics := none }

/-- the primitive byte -/
def k5 : Class := { plain "byte" none with kind := .primitive 'B', accessFlags := 0x411 }
/-- [B -/
def k6 : Class := { plain "[B" (some 0) with kind := .array 5 .byte, interfaces := #[3, 4], accessFlags := 1041 }

/-- the primitive int -/
def k7 : Class := { plain "int" none with kind := .primitive 'I', accessFlags := 0x411 }
/-- [I -/
def k8 : Class := { plain "[I" (some 0) with kind := .array 7 .int, interfaces := #[3, 4], accessFlags := 1041 }

def heap : Heap := #[]
def classes : Array Class := #[k0, k1, k2, k3, k4, k5, k6, k7, k8]
def interned : List (Array UInt16 × Addr) := []
def slotsUsed : Nat := 0
def theMethod : MethodId := ⟨1, 3⟩
def args0 : Array Value := #[.int 5]
def aboutOver (below : List Frame) : State where
  vm := { classes := classes, interned := interned.toArray }
  heap := heap
  slotsUsed := slotsUsed
  threads := #[{ frames := .invoking theMethod args0 :: below }]
def below0 : List Frame := [.native { method := ⟨0, 0⟩, args := #[] }]
def about1 : State := aboutOver below0
def p0 : Program := .bare "" "" ""
def e0 : Env := launch0.env 0 0 0
theorem w_frames : about1.frames = Frame.invoking theMethod args0 :: below0 := rfl
set_option maxRecDepth 65536 in
theorem w_args : argsFit about1.vm theMethod args0 = true := by decide +kernel
set_option maxRecDepth 65536 in
theorem w_heap : heapFits about1 = true := by decide +kernel
set_option maxRecDepth 65536 in
theorem w_runnable : about1.curStatus? = some .runnable := by decide +kernel
set_option maxRecDepth 65536 in
theorem w_alone : about1.alone = true := by decide +kernel
set_option maxRecDepth 65536 in
theorem w_named : about1.methodNamed? x = some theMethod := by decide +kernel
set_option maxRecDepth 65536 in
theorem w_hears : about1.hears theMethod below0 = true := by decide +kernel
set_option maxRecDepth 65536 in
theorem w_ripe : about1.ripe theMethod args0 below0 = true := by decide +kernel
theorem w_running : about1.status = .running := rfl
set_option maxRecDepth 65536 in
theorem w_room : about1.hasRoom e0.platform room_1 = true :=
  launch0.hasRoom_least _ room_1 (by decide +kernel) (by decide +kernel) (by decide +kernel) (by decide +kernel) (by decide +kernel) (by decide +kernel)
theorem allAtoms_all (ts : List Jvm.Cond) (a : Array Jvm.Value) (st : Jvm.State) : (allAtoms ts).before a st = ts.all (fun c => c.before a st) := by
  induction ts with
  | nil => rfl
  | cons c t ih =>
    show (Jvm.Cond.and c (allAtoms t)).before a st = _
    rw [Jvm.Cond.before_and, ih, List.all_cons]
def words1 : List Jvm.Cond := Jvm.Cond.code x code maxLocals ret :: tables_1
/-- a 'code' word, met by the world's own term for the bytes: nothing is compared byte by byte -/
theorem code_word {y : MethodName} {bytes : ByteArray} {mx : Nat} {rt : Option FieldType} {a : Array Value} {s : State} {m : MethodId} {meth : Method} {c : Code} (h1 : s.methodNamed? y = some m) (h2 : s.vm.method? m = some meth) (h3 : meth.code = some c) (h4 : c.code = bytes)
    (h5 : (c.maxLocals == mx && c.exceptionTable.isEmpty && decide (c.maxStack ≤ mostOperands) && decide (meth.sig.returnType = rt) && !meth.locks && decide (parseMethodDescriptor y.desc = some meth.sig)) = true) : (Jvm.Cond.code y bytes mx rt).before a s = true := by
  simp only [Bool.and_eq_true, beq_iff_eq, Bool.not_eq_true', decide_eq_true_eq] at h5
  obtain ⟨⟨⟨⟨⟨g1, g2⟩, g3⟩, g4⟩, g5⟩, g6⟩ := h5
  simp [Cond.before, Cond.holds, Cond.value, h1, h2, h3, h4, g1, g2, g3, g4, g5, g6]
def isCode : Jvm.Cond → Bool
  | .code _ _ _ _ => true
  | _ => false
theorem all_split {L : List Jvm.Cond} {P : Jvm.Cond → Bool} (h1 : L.all (fun c => isCode c || P c) = true) (h2 : ∀ c ∈ L.filter isCode, P c = true) : L.all P = true := by
  refine List.all_eq_true.mpr fun c hc => ?_
  have h := List.all_eq_true.mp h1 c hc
  rcases Bool.eq_false_or_eq_true (isCode c) with hi | hi
  · exact h2 c (List.mem_filter.mpr ⟨hc, hi⟩)
  · simpa [hi] using h
set_option maxRecDepth 65536 in
theorem w_c0 : (Jvm.Cond.code x code maxLocals ret).before args0 about1 = true := code_word (m := ⟨1, 3⟩) (meth := k1m3) (c := k1c3) (by decide +kernel) rfl rfl rfl (by decide +kernel)
set_option maxRecDepth 65536 in
theorem w_c1 : (Jvm.Cond.code ({ cls := "com/example/tracebed/tracebed/io/RdfTerminals", name := "isNameBase", desc := "(I)Z" } : Jvm.MethodName) prog_54_method_2_code (1 : Nat) (Option.some Jvm.ClassFile.FieldType.boolean)).before args0 about1 = true := code_word (m := ⟨2, 1⟩) (meth := k2m1) (c := k2c1) (by decide +kernel) rfl rfl rfl (by decide +kernel)
set_option maxRecDepth 65536 in
theorem w_c2 : (Jvm.Cond.code ({ cls := "com/example/tracebed/tracebed/io/RdfTerminalsIsNameBasePinLaw", name := "gap", desc := "(I)Z" } : Jvm.MethodName) method_3_code (1 : Nat) (Option.some Jvm.ClassFile.FieldType.boolean)).before args0 about1 = true := code_word (m := ⟨1, 2⟩) (meth := k1m2) (c := k1c2) (by decide +kernel) rfl rfl rfl (by decide +kernel)
set_option maxRecDepth 65536 in
theorem w_c3 : (Jvm.Cond.code ({ cls := "com/example/tracebed/tracebed/io/RdfTerminalsIsNameBasePinLaw", name := "in", desc := "(III)Z" } : Jvm.MethodName) method_2_code (3 : Nat) (Option.some Jvm.ClassFile.FieldType.boolean)).before args0 about1 = true := code_word (m := ⟨1, 1⟩) (meth := k1m1) (c := k1c1) (by decide +kernel) rfl rfl rfl (by decide +kernel)
def codes1 : List Jvm.Cond := [Jvm.Cond.code x code maxLocals ret, Jvm.Cond.code ({ cls := "com/example/tracebed/tracebed/io/RdfTerminals", name := "isNameBase", desc := "(I)Z" } : Jvm.MethodName) prog_54_method_2_code (1 : Nat) (Option.some Jvm.ClassFile.FieldType.boolean), Jvm.Cond.code ({ cls := "com/example/tracebed/tracebed/io/RdfTerminalsIsNameBasePinLaw", name := "gap", desc := "(I)Z" } : Jvm.MethodName) method_3_code (1 : Nat) (Option.some Jvm.ClassFile.FieldType.boolean), Jvm.Cond.code ({ cls := "com/example/tracebed/tracebed/io/RdfTerminalsIsNameBasePinLaw", name := "in", desc := "(III)Z" } : Jvm.MethodName) method_2_code (3 : Nat) (Option.some Jvm.ClassFile.FieldType.boolean)]
set_option maxRecDepth 65536 in
theorem codes_eq : words1.filter isCode = codes1 := rfl
theorem w_codes : ∀ c ∈ words1.filter isCode, c.before args0 about1 = true := by
  rw [codes_eq]
  intro c hc
  simp only [codes1, List.mem_cons, List.not_mem_nil, or_false] at hc
  rcases hc with rfl | rfl | rfl | rfl
  · exact w_c0
  · exact w_c1
  · exact w_c2
  · exact w_c3
set_option maxRecDepth 65536 in
theorem w_t1 : (words1.take 24).all (fun c => isCode c || c.before args0 about1) = true := by decide +kernel
set_option maxRecDepth 65536 in
theorem w_t2 : (words1.drop 24).all (fun c => isCode c || c.before args0 about1) = true := by decide +kernel
theorem w_tables : (allAtoms (Jvm.Cond.code x code maxLocals ret :: tables_1)).before args0 about1 = true := by
  rw [allAtoms_all]
  show words1.all (fun c => c.before args0 about1) = true
  refine all_split ?_ w_codes
  rw [← List.take_append_drop 24 words1, List.all_append, w_t1, w_t2]
  rfl
set_option maxRecDepth 65536 in
theorem w_case : (Jvm.Cond.and given_1 narrow_1).before args0 about1 = true := by decide +kernel
theorem w_applies : (headSpec (Jvm.Cond.code x code maxLocals ret :: tables_1) room_1).applies x e0.platform about1 = true :=
  (Spec.applies_iff w_frames).mpr ⟨w_running, w_runnable, w_alone, w_named, w_hears, w_ripe, w_room, w_tables⟩
theorem atStart : AtStart classFile x code maxLocals ret World_1 tables_1 room_1 Calls_1 rest_1 Pre_1 launch0 p0 e0 about1 theMethod args0 below0 :=
  ⟨lists_1, trivial, launch0.admits_env _ _ _, launch0.least_env, fairChoices_fair.cas, fairChoices_fair.clock, w_frames, w_args, w_heap, w_applies, trivial, trivial, w_case⟩
end start1
theorem witness_1 : WitnessClaimed_1 := ⟨start1.p0, start1.e0, start1.about1, start1.theMethod, start1.args0, start1.below0, start1.atStart⟩
end Jvm.Pilot.@@N@@
