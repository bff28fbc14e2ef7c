import JvmDerived
import JvmDerived.Pilot.@@N@@Statement
import JvmDerived.Pilot.@@N@@Code
set_option linter.unusedVariables false
set_option linter.unusedSimpArgs false
namespace Jvm.OwnW
open Sem ClassFile Op Lib Jvm.Stand Jvm.Free Jvm.LawKit Jvm.RoadKit
theorem retI' {p : Program} {l : Launch} {e : Env} {R : Room} {s : State} {m : MethodId} {args : Array Value} {below : List Frame} {meth : Method} {c : Code} {T : State} {locs : List Loc} {cells slots : Nat} (X : Stand p l e R s m args below meth c T locs cells slots) (hx : p.tables.exec = Jvm.exec) {pc : Nat} {Ls : Array Slot} {z : Int32} {rest : List Value} (hret : meth.sig.returnType = some .int) (hd : decode c.code pc = .ok (.ireturn, 1)) {fs : List Frame}
    (hl : ∀ (f : JFrame) (acts : List Action), f.method = m → f.locked = none → f.entered = [] → (doReturn e (T.setTop f) acts (some (.int z))).1 = T.setFrames fs) : Steps p.tables e below (T.setTop (mkF m pc Ls (.int z :: rest))) (T.setFrames fs) :=
  retOut X hx hret rfl (Or.inl ⟨rfl, Or.inl rfl, z, rfl⟩) hd hl
end Jvm.OwnW
namespace Jvm.OwnW
open Sem ClassFile Op Lib Jvm.Stand Jvm.Free Jvm.LawKit Jvm.RoadKit
def ushrI (x y : Int32) : Int32 := (x.toUInt32 >>> (y &&& 31).toUInt32).toInt32
def shlI (x y : Int32) : Int32 := x <<< (y &&& 31)
def shrI (x y : Int32) : Int32 := x >>> (y &&& 31)
def shlJ (x : Int64) (y : Int32) : Int64 := x <<< (y &&& 0x3f).toInt64
def shrJ (x : Int64) (y : Int32) : Int64 := x >>> (y &&& 0x3f).toInt64
def ushrJ (x : Int64) (y : Int32) : Int64 := (x.toUInt64 >>> (y &&& 0x3f).toInt64.toUInt64).toInt64
def cmpJ (x y : Int64) : Int32 := if x > y then 1 else if x = y then 0 else -1
def i8 (x : Int32) : Int32 := x.toInt8.toInt32
def i16c (x : Int32) : Int32 := x.toUInt32.toUInt16.toUInt32.toInt32
/-- from T with g on top the run comes to its end, and P says of what it returns and of the heap -/
def Goes (p : Program) (e : Env) (below : List Frame) (s : State) (n0 : Nat) (P : Option Value → Heap → Prop) (k n : Nat) (T : State) (g : JFrame) : Prop :=
  ∃ s₂ o, Steps p.tables e below (T.setTop g) s₂ ∧ s₂.status = .running ∧ Ended s₂ below o ∧ ∃ v L, o = .returned v ∧ (Fr n0 L ∧ P v s₂.heap) ∧ FrameEnd s o s₂ L k n
/-- where a walk stands: nothing old is written, the heap is h -/
def Hr (p : Program) (l : Launch) (e : Env) (R : Room) (s : State) (m : MethodId) (args : Array Value) (below : List Frame) (meth : Method) (c : Code) (n0 : Nat) (h : Heap) (cells slots : Nat) (T : State) : Prop :=
  ∃ locs, Stand p l e R s m args below meth c T locs cells slots ∧ T.heap = h ∧ Fr n0 locs ∧ n0 ≤ s.heap.size
/-- what stays through a body -/
def Cx (p : Program) (s : State) (m : MethodId) (meth : Method) (c : Code) (code : ByteArray) (ml : Nat) (ret : Option FieldType) (own nm : String) (Z : State) (a0 : Array Value) (tabs : List Jvm.Cond) : Prop :=
  p.tables.exec = Jvm.exec ∧ c.code = code ∧ c.maxLocals = ml ∧ meth.sig.returnType = ret ∧ meth.locks = false ∧ s.vm.findClass own = some m.cls ∧ meth.name = nm ∧ Z.Warmed39 s.vm ∧ ∀ d ∈ tabs, d.before a0 Z = true
/-- a body's contract: called with these arguments at this heap it returns, nothing old is written, and P says the rest -/
def Ct (l : Launch) (y : MethodName) (bytes : ByteArray) (maxL : Nat) (ret : Option FieldType) (rm : Room) (Z : State) (as' : Array Value) (h : Heap) (n0 : Nat) (P : Option Value → Heap → Prop) : Prop :=
  ∀ ws, MetFree l y (head1 (Jvm.Cond.code y bytes maxL ret :: ws) rm) (fun a U => a = as' ∧ Z.Warmed39 U.vm ∧ U.heap = h) (fun _ _ _ _ _ => True) (fun _ U o U' => ∃ v L, o = .returned v ∧ (Fr n0 L ∧ P v U'.heap) ∧ FrameEnd U o U' L rm.cells rm.slots)
def up {α : Type} (g : Nat → α) (j : Nat) (v : α) : Nat → α := fun i => if i = j then v else g i
/-- an array of N places: place i holds f i -/
def ArV (Z : State) (h : Heap) (a : Addr) (ty : FieldType) (N : Nat) (f : Nat → Value) : Prop := ∃ cl : Cell, Arr Z h a cl ty ∧ cl.slots.size = N ∧ ∀ i, i < N → cl.slots[i]? = some (f i)
abbrev ArI (Z : State) (h : Heap) (a : Addr) (ty : FieldType) (N : Nat) (g : Nat → Int32) : Prop := ArV Z h a ty N (fun i => .int (g i))
abbrev ArJ (Z : State) (h : Heap) (a : Addr) (N : Nat) (g : Nat → Int64) : Prop := ArV Z h a .long N (fun i => .long (g i))
/-- an index as a natural number -/
def nt (j : Int32) : Nat := j.toInt.toNat
theorem nt_eq {j : Int32} (h : 0 ≤ j.toInt) : j.toInt = (nt j : Int) := by unfold nt; omega
theorem nt_lt {j : Int32} {N : Nat} (h : j.toInt < N) (h0 : 0 < N) : nt j < N := by unfold nt; omega
theorem add1 {x : Int32} (y : Int32) (d : Int) (hd : y.toInt = d) (h1 : -2147483648 ≤ x.toInt + d) (h2 : x.toInt + d < 2147483648) : (x + y).toInt = x.toInt + d := by
  have h := c_iadd x y
  have r := rng32 (x + y)
  omega
theorem sub1 {x : Int32} (y : Int32) (d : Int) (hd : y.toInt = d) (h1 : -2147483648 ≤ x.toInt - d) (h2 : x.toInt - d < 2147483648) : (x - y).toInt = x.toInt - d := by
  have h := c_isub x y
  have r := rng32 (x - y)
  omega
section W
variable {p : Program} {l : Launch} {e : Env} {R : Room} {s : State} {m : MethodId} {args : Array Value} {below : List Frame} {meth : Method} {c : Code} {T : State} {h h' : Heap} {cells slots : Nat} {n0 : Nat} {P : Option Value → Heap → Prop} {k n : Nat} {code : ByteArray} {ml : Nat} {ret : Option FieldType} {own nm : String} {Z : State} {a0 : Array Value} {tabs : List Jvm.Cond}
theorem Goes.of {g g' : JFrame} {T' : State} (st : ∀ target, Steps p.tables e below (T'.setTop g') target → Steps p.tables e below (T.setTop g) target) (K : Goes p e below s n0 P k n T' g') : Goes p e below s n0 P k n T g := by
  obtain ⟨s₂, o, h1, r⟩ := K
  exact ⟨s₂, o, st _ h1, r⟩
theorem Goes.imp {P' : Option Value → Heap → Prop} {g : JFrame} (hp : ∀ v h, P v h → P' v h) (K : Goes p e below s n0 P k n T g) : Goes p e below s n0 P' k n T g := by
  obtain ⟨s₂, o, h1, h2, h3, v, L, h4, h5, h6⟩ := K
  exact ⟨s₂, o, h1, h2, h3, v, L, h4, ⟨h5.1, hp _ _ h5.2⟩, h6⟩
theorem Ct.imp {y : MethodName} {bytes : ByteArray} {maxL : Nat} {rm : Room} {as' : Array Value} {P' : Option Value → Heap → Prop} (hp : ∀ v h, P v h → P' v h) (K : Ct l y bytes maxL ret rm Z as' h n0 P) : Ct l y bytes maxL ret rm Z as' h n0 P' := by
  intro ws p e ha hc hk s m args below hf happ hP hK
  obtain ⟨n, o, h1, h2, h3, v, L, h4, h5, h6⟩ := K ws p e ha hc hk s m args below hf happ hP hK
  exact ⟨n, o, h1, h2, h3, v, L, h4, ⟨h5.1, hp _ _ h5.2⟩, h6⟩
theorem Hr.size (X : Hr p l e R s m args below meth c n0 h cells slots T) : n0 ≤ h.size := by
  obtain ⟨locs, S, eT, N, q⟩ := X
  have q2 : s.heap.size ≤ T.heap.size := S.same.2.1
  rw [eT] at q2
  exact Nat.le_trans q q2
theorem Ct.of {y : MethodName} {bytes : ByteArray} {maxL : Nat} {rm : Room} {as' : Array Value} (hpl : plainFor y = true) (Ls : Array Slot) (hef : ∀ m, entryFrame m as' maxL = mkF m 0 Ls []) (hw : ∀ d ∈ tabs, d.before a0 Z = true) (hn0 : n0 ≤ h.size)
    (K : ∀ p e s m below meth c T, Cx p s m meth c bytes maxL ret y.cls y.name Z a0 tabs → Hr p l e rm s m as' below meth c n0 h 0 0 T → Goes p e below s n0 P rm.cells rm.slots T (mkF m 0 Ls [])) :
    Ct l y bytes maxL ret rm Z as' h n0 P := by
  intro ws
  refine MetFree.of_bodySF hpl hisR ?_
  intro p e s m args below meth c s₁ Bd hml0 hP hK
  obtain ⟨rfl, hZ, hh⟩ := hP
  obtain ⟨s₂, o, h1, r⟩ := K p e s m below meth c s₁ ⟨Bd.exec, Bd.bytes, hml0, Bd.returns, BodyLoose.notSynchronized Bd, findClass_of_methodNamed Bd.named, (name_of_methodNamed Bd.named Bd.method).1, hZ, hw⟩ ⟨[], Stand.of_body Bd, by rw [← hh, Bd.state]; rfl, Fr.nil n0, by rw [hh]; exact hn0⟩
  exact ⟨s₂, o, castTop (hef m) h1, r⟩

theorem w_iadd (X : Hr p l e R s m args below meth c n0 h cells slots T) (C : Cx p s m meth c code ml ret own nm Z a0 tabs) {pc : Nat} {Ls : Array Slot} {x y : Int32} {rest : List Value} (hd : decode code pc = .ok (.iadd, 1)) (K : Goes p e below s n0 P k n T (mkF m (pc + 1) Ls (.int (x + y) :: rest))) : Goes p e below s n0 P k n T (mkF m pc Ls (.int y :: .int x :: rest)) := by
  obtain ⟨locs, S, -, -, -⟩ := X
  exact Goes.of (fun _ kk => XS.iadd S.here C.1 rfl (hb C.2.1 hd) rfl kk) K
theorem w_isub (X : Hr p l e R s m args below meth c n0 h cells slots T) (C : Cx p s m meth c code ml ret own nm Z a0 tabs) {pc : Nat} {Ls : Array Slot} {x y : Int32} {rest : List Value} (hd : decode code pc = .ok (.isub, 1)) (K : Goes p e below s n0 P k n T (mkF m (pc + 1) Ls (.int (x - y) :: rest))) : Goes p e below s n0 P k n T (mkF m pc Ls (.int y :: .int x :: rest)) := by
  obtain ⟨locs, S, -, -, -⟩ := X
  exact Goes.of (fun _ kk => XS.isub S.here C.1 rfl (hb C.2.1 hd) rfl kk) K
theorem w_imul (X : Hr p l e R s m args below meth c n0 h cells slots T) (C : Cx p s m meth c code ml ret own nm Z a0 tabs) {pc : Nat} {Ls : Array Slot} {x y : Int32} {rest : List Value} (hd : decode code pc = .ok (.imul, 1)) (K : Goes p e below s n0 P k n T (mkF m (pc + 1) Ls (.int (x * y) :: rest))) : Goes p e below s n0 P k n T (mkF m pc Ls (.int y :: .int x :: rest)) := by
  obtain ⟨locs, S, -, -, -⟩ := X
  exact Goes.of (fun _ kk => XS.imul S.here C.1 rfl (hb C.2.1 hd) rfl kk) K
theorem w_iand (X : Hr p l e R s m args below meth c n0 h cells slots T) (C : Cx p s m meth c code ml ret own nm Z a0 tabs) {pc : Nat} {Ls : Array Slot} {x y : Int32} {rest : List Value} (hd : decode code pc = .ok (.iand, 1)) (K : Goes p e below s n0 P k n T (mkF m (pc + 1) Ls (.int (x &&& y) :: rest))) : Goes p e below s n0 P k n T (mkF m pc Ls (.int y :: .int x :: rest)) := by
  obtain ⟨locs, S, -, -, -⟩ := X
  exact Goes.of (fun _ kk => XS.iand S.here C.1 rfl (hb C.2.1 hd) rfl kk) K
theorem w_ior (X : Hr p l e R s m args below meth c n0 h cells slots T) (C : Cx p s m meth c code ml ret own nm Z a0 tabs) {pc : Nat} {Ls : Array Slot} {x y : Int32} {rest : List Value} (hd : decode code pc = .ok (.ior, 1)) (K : Goes p e below s n0 P k n T (mkF m (pc + 1) Ls (.int (x ||| y) :: rest))) : Goes p e below s n0 P k n T (mkF m pc Ls (.int y :: .int x :: rest)) := by
  obtain ⟨locs, S, -, -, -⟩ := X
  exact Goes.of (fun _ kk => XS.ior S.here C.1 rfl (hb C.2.1 hd) rfl kk) K
theorem w_ixor (X : Hr p l e R s m args below meth c n0 h cells slots T) (C : Cx p s m meth c code ml ret own nm Z a0 tabs) {pc : Nat} {Ls : Array Slot} {x y : Int32} {rest : List Value} (hd : decode code pc = .ok (.ixor, 1)) (K : Goes p e below s n0 P k n T (mkF m (pc + 1) Ls (.int (x ^^^ y) :: rest))) : Goes p e below s n0 P k n T (mkF m pc Ls (.int y :: .int x :: rest)) := by
  obtain ⟨locs, S, -, -, -⟩ := X
  exact Goes.of (fun _ kk => XS.ixor S.here C.1 rfl (hb C.2.1 hd) rfl kk) K
theorem w_ishl (X : Hr p l e R s m args below meth c n0 h cells slots T) (C : Cx p s m meth c code ml ret own nm Z a0 tabs) {pc : Nat} {Ls : Array Slot} {x y : Int32} {rest : List Value} (hd : decode code pc = .ok (.ishl, 1)) (K : Goes p e below s n0 P k n T (mkF m (pc + 1) Ls (.int (shlI x y) :: rest))) : Goes p e below s n0 P k n T (mkF m pc Ls (.int y :: .int x :: rest)) := by
  obtain ⟨locs, S, -, -, -⟩ := X
  exact Goes.of (fun _ kk => XS.ishl S.here C.1 rfl (hb C.2.1 hd) rfl kk) K
theorem w_ishr (X : Hr p l e R s m args below meth c n0 h cells slots T) (C : Cx p s m meth c code ml ret own nm Z a0 tabs) {pc : Nat} {Ls : Array Slot} {x y : Int32} {rest : List Value} (hd : decode code pc = .ok (.ishr, 1)) (K : Goes p e below s n0 P k n T (mkF m (pc + 1) Ls (.int (shrI x y) :: rest))) : Goes p e below s n0 P k n T (mkF m pc Ls (.int y :: .int x :: rest)) := by
  obtain ⟨locs, S, -, -, -⟩ := X
  exact Goes.of (fun _ kk => XS.ishr S.here C.1 rfl (hb C.2.1 hd) rfl kk) K
theorem w_iushr (X : Hr p l e R s m args below meth c n0 h cells slots T) (C : Cx p s m meth c code ml ret own nm Z a0 tabs) {pc : Nat} {Ls : Array Slot} {x y : Int32} {rest : List Value} (hd : decode code pc = .ok (.iushr, 1)) (K : Goes p e below s n0 P k n T (mkF m (pc + 1) Ls (.int (ushrI x y) :: rest))) : Goes p e below s n0 P k n T (mkF m pc Ls (.int y :: .int x :: rest)) := by
  obtain ⟨locs, S, -, -, -⟩ := X
  exact Goes.of (fun _ kk => XS.iushr S.here C.1 rfl (hb C.2.1 hd) rfl kk) K
theorem w_ladd (X : Hr p l e R s m args below meth c n0 h cells slots T) (C : Cx p s m meth c code ml ret own nm Z a0 tabs) {pc : Nat} {Ls : Array Slot} {x y : Int64} {rest : List Value} (hd : decode code pc = .ok (.ladd, 1)) (K : Goes p e below s n0 P k n T (mkF m (pc + 1) Ls (.long (x + y) :: rest))) : Goes p e below s n0 P k n T (mkF m pc Ls (.long y :: .long x :: rest)) := by
  obtain ⟨locs, S, -, -, -⟩ := X
  exact Goes.of (fun _ kk => XS.ladd S.here C.1 rfl (hb C.2.1 hd) rfl kk) K
theorem w_lsub (X : Hr p l e R s m args below meth c n0 h cells slots T) (C : Cx p s m meth c code ml ret own nm Z a0 tabs) {pc : Nat} {Ls : Array Slot} {x y : Int64} {rest : List Value} (hd : decode code pc = .ok (.lsub, 1)) (K : Goes p e below s n0 P k n T (mkF m (pc + 1) Ls (.long (x - y) :: rest))) : Goes p e below s n0 P k n T (mkF m pc Ls (.long y :: .long x :: rest)) := by
  obtain ⟨locs, S, -, -, -⟩ := X
  exact Goes.of (fun _ kk => XS.lsub S.here C.1 rfl (hb C.2.1 hd) rfl kk) K
theorem w_lmul (X : Hr p l e R s m args below meth c n0 h cells slots T) (C : Cx p s m meth c code ml ret own nm Z a0 tabs) {pc : Nat} {Ls : Array Slot} {x y : Int64} {rest : List Value} (hd : decode code pc = .ok (.lmul, 1)) (K : Goes p e below s n0 P k n T (mkF m (pc + 1) Ls (.long (x * y) :: rest))) : Goes p e below s n0 P k n T (mkF m pc Ls (.long y :: .long x :: rest)) := by
  obtain ⟨locs, S, -, -, -⟩ := X
  exact Goes.of (fun _ kk => XS.lmul S.here C.1 rfl (hb C.2.1 hd) rfl kk) K
theorem w_land (X : Hr p l e R s m args below meth c n0 h cells slots T) (C : Cx p s m meth c code ml ret own nm Z a0 tabs) {pc : Nat} {Ls : Array Slot} {x y : Int64} {rest : List Value} (hd : decode code pc = .ok (.land, 1)) (K : Goes p e below s n0 P k n T (mkF m (pc + 1) Ls (.long (x &&& y) :: rest))) : Goes p e below s n0 P k n T (mkF m pc Ls (.long y :: .long x :: rest)) := by
  obtain ⟨locs, S, -, -, -⟩ := X
  exact Goes.of (fun _ kk => XS.land S.here C.1 rfl (hb C.2.1 hd) rfl kk) K
theorem w_lor (X : Hr p l e R s m args below meth c n0 h cells slots T) (C : Cx p s m meth c code ml ret own nm Z a0 tabs) {pc : Nat} {Ls : Array Slot} {x y : Int64} {rest : List Value} (hd : decode code pc = .ok (.lor, 1)) (K : Goes p e below s n0 P k n T (mkF m (pc + 1) Ls (.long (x ||| y) :: rest))) : Goes p e below s n0 P k n T (mkF m pc Ls (.long y :: .long x :: rest)) := by
  obtain ⟨locs, S, -, -, -⟩ := X
  exact Goes.of (fun _ kk => XS.lor S.here C.1 rfl (hb C.2.1 hd) rfl kk) K
theorem w_lxor (X : Hr p l e R s m args below meth c n0 h cells slots T) (C : Cx p s m meth c code ml ret own nm Z a0 tabs) {pc : Nat} {Ls : Array Slot} {x y : Int64} {rest : List Value} (hd : decode code pc = .ok (.lxor, 1)) (K : Goes p e below s n0 P k n T (mkF m (pc + 1) Ls (.long (x ^^^ y) :: rest))) : Goes p e below s n0 P k n T (mkF m pc Ls (.long y :: .long x :: rest)) := by
  obtain ⟨locs, S, -, -, -⟩ := X
  exact Goes.of (fun _ kk => XS.lxor S.here C.1 rfl (hb C.2.1 hd) rfl kk) K
theorem w_lshl (X : Hr p l e R s m args below meth c n0 h cells slots T) (C : Cx p s m meth c code ml ret own nm Z a0 tabs) {pc : Nat} {Ls : Array Slot} {x : Int64} {y : Int32} {rest : List Value} (hd : decode code pc = .ok (.lshl, 1)) (K : Goes p e below s n0 P k n T (mkF m (pc + 1) Ls (.long (shlJ x y) :: rest))) : Goes p e below s n0 P k n T (mkF m pc Ls (.int y :: .long x :: rest)) := by
  obtain ⟨locs, S, -, -, -⟩ := X
  exact Goes.of (fun _ kk => XS.lshl S.here C.1 rfl (hb C.2.1 hd) rfl kk) K
theorem w_lshr (X : Hr p l e R s m args below meth c n0 h cells slots T) (C : Cx p s m meth c code ml ret own nm Z a0 tabs) {pc : Nat} {Ls : Array Slot} {x : Int64} {y : Int32} {rest : List Value} (hd : decode code pc = .ok (.lshr, 1)) (K : Goes p e below s n0 P k n T (mkF m (pc + 1) Ls (.long (shrJ x y) :: rest))) : Goes p e below s n0 P k n T (mkF m pc Ls (.int y :: .long x :: rest)) := by
  obtain ⟨locs, S, -, -, -⟩ := X
  exact Goes.of (fun _ kk => XS.lshr S.here C.1 rfl (hb C.2.1 hd) rfl kk) K
theorem w_lushr (X : Hr p l e R s m args below meth c n0 h cells slots T) (C : Cx p s m meth c code ml ret own nm Z a0 tabs) {pc : Nat} {Ls : Array Slot} {x : Int64} {y : Int32} {rest : List Value} (hd : decode code pc = .ok (.lushr, 1)) (K : Goes p e below s n0 P k n T (mkF m (pc + 1) Ls (.long (ushrJ x y) :: rest))) : Goes p e below s n0 P k n T (mkF m pc Ls (.int y :: .long x :: rest)) := by
  obtain ⟨locs, S, -, -, -⟩ := X
  exact Goes.of (fun _ kk => XS.lushr S.here C.1 rfl (hb C.2.1 hd) rfl kk) K
theorem w_lcmp (X : Hr p l e R s m args below meth c n0 h cells slots T) (C : Cx p s m meth c code ml ret own nm Z a0 tabs) {pc : Nat} {Ls : Array Slot} {x y : Int64} {rest : List Value} (hd : decode code pc = .ok (.lcmp, 1)) (K : Goes p e below s n0 P k n T (mkF m (pc + 1) Ls (.int (cmpJ x y) :: rest))) : Goes p e below s n0 P k n T (mkF m pc Ls (.long y :: .long x :: rest)) := by
  obtain ⟨locs, S, -, -, -⟩ := X
  exact Goes.of (fun _ kk => XS.lcmp S.here C.1 rfl (hb C.2.1 hd) rfl kk) K
theorem w_i2b (X : Hr p l e R s m args below meth c n0 h cells slots T) (C : Cx p s m meth c code ml ret own nm Z a0 tabs) {pc : Nat} {Ls : Array Slot} {x : Int32} {rest : List Value} (hd : decode code pc = .ok (.i2b, 1)) (K : Goes p e below s n0 P k n T (mkF m (pc + 1) Ls (.int (i8 x) :: rest))) : Goes p e below s n0 P k n T (mkF m pc Ls (.int x :: rest)) := by
  obtain ⟨locs, S, -, -, -⟩ := X
  exact Goes.of (fun _ kk => XS.i2b S.here C.1 rfl (hb C.2.1 hd) rfl kk) K
theorem w_i2c (X : Hr p l e R s m args below meth c n0 h cells slots T) (C : Cx p s m meth c code ml ret own nm Z a0 tabs) {pc : Nat} {Ls : Array Slot} {x : Int32} {rest : List Value} (hd : decode code pc = .ok (.i2c, 1)) (K : Goes p e below s n0 P k n T (mkF m (pc + 1) Ls (.int (i16c x) :: rest))) : Goes p e below s n0 P k n T (mkF m pc Ls (.int x :: rest)) := by
  obtain ⟨locs, S, -, -, -⟩ := X
  exact Goes.of (fun _ kk => XS.i2c S.here C.1 rfl (hb C.2.1 hd) rfl kk) K
theorem w_i2s (X : Hr p l e R s m args below meth c n0 h cells slots T) (C : Cx p s m meth c code ml ret own nm Z a0 tabs) {pc : Nat} {Ls : Array Slot} {x : Int32} {rest : List Value} (hd : decode code pc = .ok (.i2s, 1)) (K : Goes p e below s n0 P k n T (mkF m (pc + 1) Ls (.int (x.toInt16.toInt32) :: rest))) : Goes p e below s n0 P k n T (mkF m pc Ls (.int x :: rest)) := by
  obtain ⟨locs, S, -, -, -⟩ := X
  exact Goes.of (fun _ kk => XS.i2s S.here C.1 rfl (hb C.2.1 hd) rfl kk) K
theorem w_ineg (X : Hr p l e R s m args below meth c n0 h cells slots T) (C : Cx p s m meth c code ml ret own nm Z a0 tabs) {pc : Nat} {Ls : Array Slot} {x : Int32} {rest : List Value} (hd : decode code pc = .ok (.ineg, 1)) (K : Goes p e below s n0 P k n T (mkF m (pc + 1) Ls (.int (-x) :: rest))) : Goes p e below s n0 P k n T (mkF m pc Ls (.int x :: rest)) := by
  obtain ⟨locs, S, -, -, -⟩ := X
  exact Goes.of (fun _ kk => XS.ineg S.here C.1 rfl (hb C.2.1 hd) rfl kk) K
theorem w_i2l (X : Hr p l e R s m args below meth c n0 h cells slots T) (C : Cx p s m meth c code ml ret own nm Z a0 tabs) {pc : Nat} {Ls : Array Slot} {x : Int32} {rest : List Value} (hd : decode code pc = .ok (.i2l, 1)) (K : Goes p e below s n0 P k n T (mkF m (pc + 1) Ls (.long (x.toInt64) :: rest))) : Goes p e below s n0 P k n T (mkF m pc Ls (.int x :: rest)) := by
  obtain ⟨locs, S, -, -, -⟩ := X
  exact Goes.of (fun _ kk => XS.i2l S.here C.1 rfl (hb C.2.1 hd) rfl kk) K
theorem w_l2i (X : Hr p l e R s m args below meth c n0 h cells slots T) (C : Cx p s m meth c code ml ret own nm Z a0 tabs) {pc : Nat} {Ls : Array Slot} {x : Int64} {rest : List Value} (hd : decode code pc = .ok (.l2i, 1)) (K : Goes p e below s n0 P k n T (mkF m (pc + 1) Ls (.int (x.toInt32) :: rest))) : Goes p e below s n0 P k n T (mkF m pc Ls (.long x :: rest)) := by
  obtain ⟨locs, S, -, -, -⟩ := X
  exact Goes.of (fun _ kk => XS.l2i S.here C.1 rfl (hb C.2.1 hd) rfl kk) K
theorem w_lneg (X : Hr p l e R s m args below meth c n0 h cells slots T) (C : Cx p s m meth c code ml ret own nm Z a0 tabs) {pc : Nat} {Ls : Array Slot} {x : Int64} {rest : List Value} (hd : decode code pc = .ok (.lneg, 1)) (K : Goes p e below s n0 P k n T (mkF m (pc + 1) Ls (.long (-x) :: rest))) : Goes p e below s n0 P k n T (mkF m pc Ls (.long x :: rest)) := by
  obtain ⟨locs, S, -, -, -⟩ := X
  exact Goes.of (fun _ kk => XS.lneg S.here C.1 rfl (hb C.2.1 hd) rfl kk) K
theorem w_idiv (X : Hr p l e R s m args below meth c n0 h cells slots T) (C : Cx p s m meth c code ml ret own nm Z a0 tabs) {pc : Nat} {Ls : Array Slot} {x y : Int32} {rest : List Value} (hd : decode code pc = .ok (.idiv, 1)) (hy : y ≠ 0) (K : Goes p e below s n0 P k n T (mkF m (pc + 1) Ls (.int (x / y) :: rest))) : Goes p e below s n0 P k n T (mkF m pc Ls (.int y :: .int x :: rest)) := by
  obtain ⟨locs, S, -, -, -⟩ := X
  exact Goes.of (fun _ kk => XS.idiv S.here C.1 rfl (hb C.2.1 hd) rfl hy kk) K
theorem w_ldiv (X : Hr p l e R s m args below meth c n0 h cells slots T) (C : Cx p s m meth c code ml ret own nm Z a0 tabs) {pc : Nat} {Ls : Array Slot} {x y : Int64} {rest : List Value} (hd : decode code pc = .ok (.ldiv, 1)) (hy : y ≠ 0) (K : Goes p e below s n0 P k n T (mkF m (pc + 1) Ls (.long (x / y) :: rest))) : Goes p e below s n0 P k n T (mkF m pc Ls (.long y :: .long x :: rest)) := by
  obtain ⟨locs, S, -, -, -⟩ := X
  exact Goes.of (fun _ kk => XS.ldiv S.here C.1 rfl (hb C.2.1 hd) rfl hy kk) K
theorem w_irem (X : Hr p l e R s m args below meth c n0 h cells slots T) (C : Cx p s m meth c code ml ret own nm Z a0 tabs) {pc : Nat} {Ls : Array Slot} {x y : Int32} {rest : List Value} (hd : decode code pc = .ok (.irem, 1)) (hy : y ≠ 0) (K : Goes p e below s n0 P k n T (mkF m (pc + 1) Ls (.int (x % y) :: rest))) : Goes p e below s n0 P k n T (mkF m pc Ls (.int y :: .int x :: rest)) := by
  obtain ⟨locs, S, -, -, -⟩ := X
  rw [← irem_eq_mod x y] at K
  exact Goes.of (fun _ kk => XS.irem S.here C.1 rfl (hb C.2.1 hd) rfl hy kk) K
theorem w_lrem (X : Hr p l e R s m args below meth c n0 h cells slots T) (C : Cx p s m meth c code ml ret own nm Z a0 tabs) {pc : Nat} {Ls : Array Slot} {x y : Int64} {rest : List Value} (hd : decode code pc = .ok (.lrem, 1)) (hy : y ≠ 0) (K : Goes p e below s n0 P k n T (mkF m (pc + 1) Ls (.long (x % y) :: rest))) : Goes p e below s n0 P k n T (mkF m pc Ls (.long y :: .long x :: rest)) := by
  obtain ⟨locs, S, -, -, -⟩ := X
  rw [← lrem_mod x y] at K
  exact Goes.of (fun _ kk => XS.lrem S.here C.1 rfl (hb C.2.1 hd) rfl hy kk) K
theorem w_dup (X : Hr p l e R s m args below meth c n0 h cells slots T) (C : Cx p s m meth c code ml ret own nm Z a0 tabs) {pc : Nat} {Ls : Array Slot} {x : Value} {rest : List Value} (hd : decode code pc = .ok (.dup, 1)) (hc : x.category = 1) (K : Goes p e below s n0 P k n T (mkF m (pc + 1) Ls (x :: x :: rest))) : Goes p e below s n0 P k n T (mkF m pc Ls (x :: rest)) := by
  obtain ⟨locs, S, -, -, -⟩ := X
  exact Goes.of (fun _ kk => XS.dup S.here C.1 rfl (hb C.2.1 hd) rfl hc kk) K
theorem w_pop (X : Hr p l e R s m args below meth c n0 h cells slots T) (C : Cx p s m meth c code ml ret own nm Z a0 tabs) {pc : Nat} {Ls : Array Slot} {x : Value} {rest : List Value} (hd : decode code pc = .ok (.pop, 1)) (hc : x.category = 1) (K : Goes p e below s n0 P k n T (mkF m (pc + 1) Ls (rest))) : Goes p e below s n0 P k n T (mkF m pc Ls (x :: rest)) := by
  obtain ⟨locs, S, -, -, -⟩ := X
  exact Goes.of (fun _ kk => XS.pop S.here C.1 rfl (hb C.2.1 hd) rfl hc kk) K
theorem w_dup_x1 (X : Hr p l e R s m args below meth c n0 h cells slots T) (C : Cx p s m meth c code ml ret own nm Z a0 tabs) {pc : Nat} {Ls : Array Slot} {x y : Value} {rest : List Value} (hd : decode code pc = .ok (.dup_x1, 1)) (hc : x.category = 1) (hc' : y.category = 1) (K : Goes p e below s n0 P k n T (mkF m (pc + 1) Ls (x :: y :: x :: rest))) : Goes p e below s n0 P k n T (mkF m pc Ls (x :: y :: rest)) := by
  obtain ⟨locs, S, -, -, -⟩ := X
  exact Goes.of (fun _ kk => XS.dupX1 S.here C.1 rfl (hb C.2.1 hd) rfl hc hc' kk) K
theorem w_dup2 (X : Hr p l e R s m args below meth c n0 h cells slots T) (C : Cx p s m meth c code ml ret own nm Z a0 tabs) {pc : Nat} {Ls : Array Slot} {x y : Value} {rest : List Value} (hd : decode code pc = .ok (.dup2, 1)) (hc : x.category = 1) (hc' : y.category = 1) (K : Goes p e below s n0 P k n T (mkF m (pc + 1) Ls (x :: y :: x :: y :: rest))) : Goes p e below s n0 P k n T (mkF m pc Ls (x :: y :: rest)) := by
  obtain ⟨locs, S, -, -, -⟩ := X
  exact Goes.of (fun _ kk => XT.dup2 S.here C.1 rfl (hb C.2.1 hd) rfl hc hc' kk) K
theorem w_iload (X : Hr p l e R s m args below meth c n0 h cells slots T) (C : Cx p s m meth c code ml ret own nm Z a0 tabs) {pc : Nat} {Ls : Array Slot} {k0 : Nat} {x : Int32} {rest : List Value} (hd : decode code pc = .ok (.iload k0, 2)) (hl : Ls[k0]? = some (.val (.int x))) (K : Goes p e below s n0 P k n T (mkF m (pc + 2) Ls (.int x :: rest))) : Goes p e below s n0 P k n T (mkF m pc Ls rest) := by
  obtain ⟨locs, S, -, -, -⟩ := X
  exact Goes.of (fun _ kk => XS.iload S.here C.1 rfl (hb C.2.1 hd) hl kk) K
theorem w_istore (X : Hr p l e R s m args below meth c n0 h cells slots T) (C : Cx p s m meth c code ml ret own nm Z a0 tabs) {pc : Nat} {Ls : Array Slot} {k0 : Nat} {x : Int32} {rest : List Value} (hd : decode code pc = .ok (.istore k0, 2)) (Ls' : Array Slot) (hl : storeLocals Ls k0 (.int x) = some Ls') (K : Goes p e below s n0 P k n T (mkF m (pc + 2) Ls' rest)) : Goes p e below s n0 P k n T (mkF m pc Ls (.int x :: rest)) := by
  obtain ⟨locs, S, -, -, -⟩ := X
  exact Goes.of (fun _ kk => XS.istore S.here C.1 rfl (hb C.2.1 hd) rfl hl kk) K
theorem w_iloadN (X : Hr p l e R s m args below meth c n0 h cells slots T) (C : Cx p s m meth c code ml ret own nm Z a0 tabs) {pc : Nat} {Ls : Array Slot} {k0 : Fin 4} {x : Int32} {rest : List Value} (hd : decode code pc = .ok (.iload_n k0, 1)) (hl : Ls[k0.val]? = some (.val (.int x))) (K : Goes p e below s n0 P k n T (mkF m (pc + 1) Ls (.int x :: rest))) : Goes p e below s n0 P k n T (mkF m pc Ls rest) := by
  obtain ⟨locs, S, -, -, -⟩ := X
  exact Goes.of (fun _ kk => XS.iloadN S.here C.1 rfl (hb C.2.1 hd) hl kk) K
theorem w_istoreN (X : Hr p l e R s m args below meth c n0 h cells slots T) (C : Cx p s m meth c code ml ret own nm Z a0 tabs) {pc : Nat} {Ls : Array Slot} {k0 : Fin 4} {x : Int32} {rest : List Value} (hd : decode code pc = .ok (.istore_n k0, 1)) (Ls' : Array Slot) (hl : storeLocals Ls k0.val (.int x) = some Ls') (K : Goes p e below s n0 P k n T (mkF m (pc + 1) Ls' rest)) : Goes p e below s n0 P k n T (mkF m pc Ls (.int x :: rest)) := by
  obtain ⟨locs, S, -, -, -⟩ := X
  exact Goes.of (fun _ kk => XS.istoreN S.here C.1 rfl (hb C.2.1 hd) rfl hl kk) K
theorem w_lload (X : Hr p l e R s m args below meth c n0 h cells slots T) (C : Cx p s m meth c code ml ret own nm Z a0 tabs) {pc : Nat} {Ls : Array Slot} {k0 : Nat} {x : Int64} {rest : List Value} (hd : decode code pc = .ok (.lload k0, 2)) (hl : Ls[k0]? = some (.val (.long x))) (K : Goes p e below s n0 P k n T (mkF m (pc + 2) Ls (.long x :: rest))) : Goes p e below s n0 P k n T (mkF m pc Ls rest) := by
  obtain ⟨locs, S, -, -, -⟩ := X
  exact Goes.of (fun _ kk => XS.lload S.here C.1 rfl (hb C.2.1 hd) hl kk) K
theorem w_lstore (X : Hr p l e R s m args below meth c n0 h cells slots T) (C : Cx p s m meth c code ml ret own nm Z a0 tabs) {pc : Nat} {Ls : Array Slot} {k0 : Nat} {x : Int64} {rest : List Value} (hd : decode code pc = .ok (.lstore k0, 2)) (Ls' : Array Slot) (hl : storeLocals Ls k0 (.long x) = some Ls') (K : Goes p e below s n0 P k n T (mkF m (pc + 2) Ls' rest)) : Goes p e below s n0 P k n T (mkF m pc Ls (.long x :: rest)) := by
  obtain ⟨locs, S, -, -, -⟩ := X
  exact Goes.of (fun _ kk => XS.lstore S.here C.1 rfl (hb C.2.1 hd) rfl hl kk) K
theorem w_lloadN (X : Hr p l e R s m args below meth c n0 h cells slots T) (C : Cx p s m meth c code ml ret own nm Z a0 tabs) {pc : Nat} {Ls : Array Slot} {k0 : Fin 4} {x : Int64} {rest : List Value} (hd : decode code pc = .ok (.lload_n k0, 1)) (hl : Ls[k0.val]? = some (.val (.long x))) (K : Goes p e below s n0 P k n T (mkF m (pc + 1) Ls (.long x :: rest))) : Goes p e below s n0 P k n T (mkF m pc Ls rest) := by
  obtain ⟨locs, S, -, -, -⟩ := X
  exact Goes.of (fun _ kk => XS.lloadN S.here C.1 rfl (hb C.2.1 hd) hl kk) K
theorem w_lstoreN (X : Hr p l e R s m args below meth c n0 h cells slots T) (C : Cx p s m meth c code ml ret own nm Z a0 tabs) {pc : Nat} {Ls : Array Slot} {k0 : Fin 4} {x : Int64} {rest : List Value} (hd : decode code pc = .ok (.lstore_n k0, 1)) (Ls' : Array Slot) (hl : storeLocals Ls k0.val (.long x) = some Ls') (K : Goes p e below s n0 P k n T (mkF m (pc + 1) Ls' rest)) : Goes p e below s n0 P k n T (mkF m pc Ls (.long x :: rest)) := by
  obtain ⟨locs, S, -, -, -⟩ := X
  exact Goes.of (fun _ kk => XS.lstoreN S.here C.1 rfl (hb C.2.1 hd) rfl hl kk) K
theorem w_aload (X : Hr p l e R s m args below meth c n0 h cells slots T) (C : Cx p s m meth c code ml ret own nm Z a0 tabs) {pc : Nat} {Ls : Array Slot} {k0 : Nat} {x : Value} {rest : List Value} (hd : decode code pc = .ok (.aload k0, 2)) (hl : Ls[k0]? = some (.val x)) (hv : x.isRef = true) (K : Goes p e below s n0 P k n T (mkF m (pc + 2) Ls (x :: rest))) : Goes p e below s n0 P k n T (mkF m pc Ls rest) := by
  obtain ⟨locs, S, -, -, -⟩ := X
  exact Goes.of (fun _ kk => XS.aload S.here C.1 rfl (hb C.2.1 hd) hl hv kk) K
theorem w_astore (X : Hr p l e R s m args below meth c n0 h cells slots T) (C : Cx p s m meth c code ml ret own nm Z a0 tabs) {pc : Nat} {Ls : Array Slot} {k0 : Nat} {x : Value} {rest : List Value} (hd : decode code pc = .ok (.astore k0, 2)) (Ls' : Array Slot) (hl : storeLocals Ls k0 x = some Ls') (hv : x.isRef = true) (K : Goes p e below s n0 P k n T (mkF m (pc + 2) Ls' rest)) : Goes p e below s n0 P k n T (mkF m pc Ls (x :: rest)) := by
  obtain ⟨locs, S, -, -, -⟩ := X
  exact Goes.of (fun _ kk => XS.astore S.here C.1 rfl (hb C.2.1 hd) rfl hv hl kk) K
theorem w_aloadN (X : Hr p l e R s m args below meth c n0 h cells slots T) (C : Cx p s m meth c code ml ret own nm Z a0 tabs) {pc : Nat} {Ls : Array Slot} {k0 : Fin 4} {x : Value} {rest : List Value} (hd : decode code pc = .ok (.aload_n k0, 1)) (hl : Ls[k0.val]? = some (.val x)) (hv : x.isRef = true) (K : Goes p e below s n0 P k n T (mkF m (pc + 1) Ls (x :: rest))) : Goes p e below s n0 P k n T (mkF m pc Ls rest) := by
  obtain ⟨locs, S, -, -, -⟩ := X
  exact Goes.of (fun _ kk => XS.aloadN S.here C.1 rfl (hb C.2.1 hd) hl hv kk) K
theorem w_astoreN (X : Hr p l e R s m args below meth c n0 h cells slots T) (C : Cx p s m meth c code ml ret own nm Z a0 tabs) {pc : Nat} {Ls : Array Slot} {k0 : Fin 4} {x : Value} {rest : List Value} (hd : decode code pc = .ok (.astore_n k0, 1)) (Ls' : Array Slot) (hl : storeLocals Ls k0.val x = some Ls') (hv : x.isRef = true) (K : Goes p e below s n0 P k n T (mkF m (pc + 1) Ls' rest)) : Goes p e below s n0 P k n T (mkF m pc Ls (x :: rest)) := by
  obtain ⟨locs, S, -, -, -⟩ := X
  exact Goes.of (fun _ kk => XS.astoreN S.here C.1 rfl (hb C.2.1 hd) rfl hv hl kk) K
theorem w_iinc (X : Hr p l e R s m args below meth c n0 h cells slots T) (C : Cx p s m meth c code ml ret own nm Z a0 tabs) {pc : Nat} {Ls : Array Slot} {k0 : Nat} {cst : Int} {x : Int32} {rest : List Value} (hd : decode code pc = .ok (.iinc k0 cst, 3)) (v : Int32) (hv : Int32.ofInt cst = v) (hl : Ls[k0]? = some (.val (.int x))) (Ls' : Array Slot) (hl' : storeLocals Ls k0 (.int (x + v)) = some Ls') (K : Goes p e below s n0 P k n T (mkF m (pc + 3) Ls' rest)) : Goes p e below s n0 P k n T (mkF m pc Ls rest) := by
  obtain ⟨locs, S, -, -, -⟩ := X
  subst hv
  exact Goes.of (fun _ kk => XS.iinc S.here C.1 rfl (hb C.2.1 hd) hl hl' kk) K
theorem w_iconst (X : Hr p l e R s m args below meth c n0 h cells slots T) (C : Cx p s m meth c code ml ret own nm Z a0 tabs) {pc : Nat} {Ls : Array Slot} {i : Int} {rest : List Value} (hd : decode code pc = .ok (.iconst i, 1)) (v : Int32) (hv : Int32.ofInt i = v) (K : Goes p e below s n0 P k n T (mkF m (pc + 1) Ls (.int v :: rest))) : Goes p e below s n0 P k n T (mkF m pc Ls rest) := by
  obtain ⟨locs, S, -, -, -⟩ := X
  subst hv
  exact Goes.of (fun _ kk => XS.iconst S.here C.1 rfl (hb C.2.1 hd) kk) K
theorem w_bipush (X : Hr p l e R s m args below meth c n0 h cells slots T) (C : Cx p s m meth c code ml ret own nm Z a0 tabs) {pc : Nat} {Ls : Array Slot} {i : Int} {rest : List Value} (hd : decode code pc = .ok (.bipush i, 2)) (v : Int32) (hv : (Int8.ofInt i).toInt32 = v) (K : Goes p e below s n0 P k n T (mkF m (pc + 2) Ls (.int v :: rest))) : Goes p e below s n0 P k n T (mkF m pc Ls rest) := by
  obtain ⟨locs, S, -, -, -⟩ := X
  subst hv
  exact Goes.of (fun _ kk => XS.bipush S.here C.1 rfl (hb C.2.1 hd) kk) K
theorem w_sipush (X : Hr p l e R s m args below meth c n0 h cells slots T) (C : Cx p s m meth c code ml ret own nm Z a0 tabs) {pc : Nat} {Ls : Array Slot} {i : Int} {rest : List Value} (hd : decode code pc = .ok (.sipush i, 3)) (v : Int32) (hv : (Int16.ofInt i).toInt32 = v) (K : Goes p e below s n0 P k n T (mkF m (pc + 3) Ls (.int v :: rest))) : Goes p e below s n0 P k n T (mkF m pc Ls rest) := by
  obtain ⟨locs, S, -, -, -⟩ := X
  subst hv
  exact Goes.of (fun _ kk => XS.sipush S.here C.1 rfl (hb C.2.1 hd) kk) K
theorem w_lconst (X : Hr p l e R s m args below meth c n0 h cells slots T) (C : Cx p s m meth c code ml ret own nm Z a0 tabs) {pc : Nat} {Ls : Array Slot} {i : Fin 2} {rest : List Value} (hd : decode code pc = .ok (.lconst i, 1)) (v : Int64) (hv : Int64.ofNat i = v) (K : Goes p e below s n0 P k n T (mkF m (pc + 1) Ls (.long v :: rest))) : Goes p e below s n0 P k n T (mkF m pc Ls rest) := by
  obtain ⟨locs, S, -, -, -⟩ := X
  subst hv
  exact Goes.of (fun _ kk => XS.lconst S.here C.1 rfl (hb C.2.1 hd) kk) K
theorem w_aconst_null (X : Hr p l e R s m args below meth c n0 h cells slots T) (C : Cx p s m meth c code ml ret own nm Z a0 tabs) {pc : Nat} {Ls : Array Slot} {rest : List Value} (hd : decode code pc = .ok (.aconst_null, 1)) (K : Goes p e below s n0 P k n T (mkF m (pc + 1) Ls (.null :: rest))) : Goes p e below s n0 P k n T (mkF m pc Ls rest) := by
  obtain ⟨locs, S, -, -, -⟩ := X
  exact Goes.of (fun _ kk => XS.aconstNull S.here C.1 rfl (hb C.2.1 hd) kk) K
theorem w_ldcI (X : Hr p l e R s m args below meth c n0 h cells slots T) (C : Cx p s m meth c code ml ret own nm Z a0 tabs) {pc index : Nat} {Ls : Array Slot} {v : Int32} {rest : List Value} (hd : decode code pc = .ok (.ldc index, 2)) (i1 : Jvm.Cond.constant own index v ∈ tabs) (K : Goes p e below s n0 P k n T (mkF m (pc + 2) Ls (.int v :: rest))) : Goes p e below s n0 P k n T (mkF m pc Ls rest) := by
  obtain ⟨locs, S, -, -, -⟩ := X
  exact Goes.of (fun _ kk => S.ldcInt C.1 C.2.2.2.2.2.1 (mvT C.2.2.2.2.2.2.2.1 (C.2.2.2.2.2.2.2.2 _ i1)) (g := mkF m pc Ls rest) rfl (hb C.2.1 hd) _ kk) K
theorem w_ldcJ (X : Hr p l e R s m args below meth c n0 h cells slots T) (C : Cx p s m meth c code ml ret own nm Z a0 tabs) {pc index : Nat} {Ls : Array Slot} {v : Int64} {rest : List Value} (hd : decode code pc = .ok (.ldc2_w index, 3)) (i1 : Jvm.Cond.constantLong own index v ∈ tabs) (K : Goes p e below s n0 P k n T (mkF m (pc + 3) Ls (.long v :: rest))) : Goes p e below s n0 P k n T (mkF m pc Ls rest) := by
  obtain ⟨locs, S, -, -, -⟩ := X
  exact Goes.of (fun _ kk => S.ldc2Long C.1 C.2.2.2.2.2.1 (mvT C.2.2.2.2.2.2.2.1 (C.2.2.2.2.2.2.2.2 _ i1)) (g := mkF m pc Ls rest) rfl (hb C.2.1 hd) _ kk) K
theorem w_goto (X : Hr p l e R s m args below meth c n0 h cells slots T) (C : Cx p s m meth c code ml ret own nm Z a0 tabs) {pc : Nat} {Ls : Array Slot} {st : List Value} {o : Int} (hd : decode code pc = .ok (.goto o, 3)) (pc' : Nat) (ho : 0 ≤ (pc : Int) + o ∧ ((pc : Int) + o).toNat = pc') (K : Goes p e below s n0 P k n T (mkF m pc' Ls st)) : Goes p e below s n0 P k n T (mkF m pc Ls st) := by
  obtain ⟨locs, S, -, -, -⟩ := X
  exact Goes.of (fun _ kk => XS.goto S.here C.1 rfl (pc0 := pc) (pc' := pc') rfl (hb C.2.1 hd) ho.1 ho.2 kk) K
theorem w_icmp_lt (X : Hr p l e R s m args below meth c n0 h cells slots T) (C : Cx p s m meth c code ml ret own nm Z a0 tabs) {pc : Nat} {Ls : Array Slot} {x y : Int32} {rest : List Value} {o : Int} (hd : decode code pc = .ok (.if_icmp .lt o, 3)) (pc' : Nat) (ho : 0 ≤ (pc : Int) + o ∧ ((pc : Int) + o).toNat = pc') (Ky : x < y → Goes p e below s n0 P k n T (mkF m pc' Ls rest)) (Kn : ¬ (x < y) → Goes p e below s n0 P k n T (mkF m (pc + 3) Ls rest)) : Goes p e below s n0 P k n T (mkF m pc Ls (.int y :: .int x :: rest)) := by
  obtain ⟨locs, S, -, -, -⟩ := X
  by_cases q : x < y
  · exact Goes.of (fun _ kk => XS.icmpYes S.here C.1 rfl (pc0 := pc) (pc' := pc') rfl (hb C.2.1 hd) rfl (tlt q).1 ho.1 ho.2 kk) (Ky q)
  · exact Goes.of (fun _ kk => XS.icmpNo S.here C.1 rfl (hb C.2.1 hd) rfl (flt q).1 kk) (Kn q)
theorem w_if_lt (X : Hr p l e R s m args below meth c n0 h cells slots T) (C : Cx p s m meth c code ml ret own nm Z a0 tabs) {pc : Nat} {Ls : Array Slot} {x : Int32} {rest : List Value} {o : Int} (hd : decode code pc = .ok (.ifCond .lt o, 3)) (pc' : Nat) (ho : 0 ≤ (pc : Int) + o ∧ ((pc : Int) + o).toNat = pc') (Ky : x < 0 → Goes p e below s n0 P k n T (mkF m pc' Ls rest)) (Kn : ¬ (x < 0) → Goes p e below s n0 P k n T (mkF m (pc + 3) Ls rest)) : Goes p e below s n0 P k n T (mkF m pc Ls (.int x :: rest)) := by
  obtain ⟨locs, S, -, -, -⟩ := X
  by_cases q : x < 0
  · exact Goes.of (fun _ kk => XS.ifYes S.here C.1 rfl (pc0 := pc) (pc' := pc') rfl (hb C.2.1 hd) rfl ((if0 _ _).trans (tlt q).1) ho.1 ho.2 kk) (Ky q)
  · exact Goes.of (fun _ kk => XS.ifNo S.here C.1 rfl (hb C.2.1 hd) rfl ((if0 _ _).trans (flt q).1) kk) (Kn q)
theorem w_icmp_ge (X : Hr p l e R s m args below meth c n0 h cells slots T) (C : Cx p s m meth c code ml ret own nm Z a0 tabs) {pc : Nat} {Ls : Array Slot} {x y : Int32} {rest : List Value} {o : Int} (hd : decode code pc = .ok (.if_icmp .ge o, 3)) (pc' : Nat) (ho : 0 ≤ (pc : Int) + o ∧ ((pc : Int) + o).toNat = pc') (Ky : ¬ (x < y) → Goes p e below s n0 P k n T (mkF m pc' Ls rest)) (Kn : x < y → Goes p e below s n0 P k n T (mkF m (pc + 3) Ls rest)) : Goes p e below s n0 P k n T (mkF m pc Ls (.int y :: .int x :: rest)) := by
  obtain ⟨locs, S, -, -, -⟩ := X
  by_cases q : x < y
  · exact Goes.of (fun _ kk => XS.icmpNo S.here C.1 rfl (hb C.2.1 hd) rfl (tlt q).2.1 kk) (Kn q)
  · exact Goes.of (fun _ kk => XS.icmpYes S.here C.1 rfl (pc0 := pc) (pc' := pc') rfl (hb C.2.1 hd) rfl (flt q).2.1 ho.1 ho.2 kk) (Ky q)
theorem w_if_ge (X : Hr p l e R s m args below meth c n0 h cells slots T) (C : Cx p s m meth c code ml ret own nm Z a0 tabs) {pc : Nat} {Ls : Array Slot} {x : Int32} {rest : List Value} {o : Int} (hd : decode code pc = .ok (.ifCond .ge o, 3)) (pc' : Nat) (ho : 0 ≤ (pc : Int) + o ∧ ((pc : Int) + o).toNat = pc') (Ky : ¬ (x < 0) → Goes p e below s n0 P k n T (mkF m pc' Ls rest)) (Kn : x < 0 → Goes p e below s n0 P k n T (mkF m (pc + 3) Ls rest)) : Goes p e below s n0 P k n T (mkF m pc Ls (.int x :: rest)) := by
  obtain ⟨locs, S, -, -, -⟩ := X
  by_cases q : x < 0
  · exact Goes.of (fun _ kk => XS.ifNo S.here C.1 rfl (hb C.2.1 hd) rfl ((if0 _ _).trans (tlt q).2.1) kk) (Kn q)
  · exact Goes.of (fun _ kk => XS.ifYes S.here C.1 rfl (pc0 := pc) (pc' := pc') rfl (hb C.2.1 hd) rfl ((if0 _ _).trans (flt q).2.1) ho.1 ho.2 kk) (Ky q)
theorem w_icmp_gt (X : Hr p l e R s m args below meth c n0 h cells slots T) (C : Cx p s m meth c code ml ret own nm Z a0 tabs) {pc : Nat} {Ls : Array Slot} {x y : Int32} {rest : List Value} {o : Int} (hd : decode code pc = .ok (.if_icmp .gt o, 3)) (pc' : Nat) (ho : 0 ≤ (pc : Int) + o ∧ ((pc : Int) + o).toNat = pc') (Ky : y < x → Goes p e below s n0 P k n T (mkF m pc' Ls rest)) (Kn : ¬ (y < x) → Goes p e below s n0 P k n T (mkF m (pc + 3) Ls rest)) : Goes p e below s n0 P k n T (mkF m pc Ls (.int y :: .int x :: rest)) := by
  obtain ⟨locs, S, -, -, -⟩ := X
  by_cases q : y < x
  · exact Goes.of (fun _ kk => XS.icmpYes S.here C.1 rfl (pc0 := pc) (pc' := pc') rfl (hb C.2.1 hd) rfl (tlt q).2.2.1 ho.1 ho.2 kk) (Ky q)
  · exact Goes.of (fun _ kk => XS.icmpNo S.here C.1 rfl (hb C.2.1 hd) rfl (flt q).2.2.1 kk) (Kn q)
theorem w_if_gt (X : Hr p l e R s m args below meth c n0 h cells slots T) (C : Cx p s m meth c code ml ret own nm Z a0 tabs) {pc : Nat} {Ls : Array Slot} {x : Int32} {rest : List Value} {o : Int} (hd : decode code pc = .ok (.ifCond .gt o, 3)) (pc' : Nat) (ho : 0 ≤ (pc : Int) + o ∧ ((pc : Int) + o).toNat = pc') (Ky : 0 < x → Goes p e below s n0 P k n T (mkF m pc' Ls rest)) (Kn : ¬ (0 < x) → Goes p e below s n0 P k n T (mkF m (pc + 3) Ls rest)) : Goes p e below s n0 P k n T (mkF m pc Ls (.int x :: rest)) := by
  obtain ⟨locs, S, -, -, -⟩ := X
  by_cases q : 0 < x
  · exact Goes.of (fun _ kk => XS.ifYes S.here C.1 rfl (pc0 := pc) (pc' := pc') rfl (hb C.2.1 hd) rfl ((if0 _ _).trans (tlt q).2.2.1) ho.1 ho.2 kk) (Ky q)
  · exact Goes.of (fun _ kk => XS.ifNo S.here C.1 rfl (hb C.2.1 hd) rfl ((if0 _ _).trans (flt q).2.2.1) kk) (Kn q)
theorem w_icmp_le (X : Hr p l e R s m args below meth c n0 h cells slots T) (C : Cx p s m meth c code ml ret own nm Z a0 tabs) {pc : Nat} {Ls : Array Slot} {x y : Int32} {rest : List Value} {o : Int} (hd : decode code pc = .ok (.if_icmp .le o, 3)) (pc' : Nat) (ho : 0 ≤ (pc : Int) + o ∧ ((pc : Int) + o).toNat = pc') (Ky : ¬ (y < x) → Goes p e below s n0 P k n T (mkF m pc' Ls rest)) (Kn : y < x → Goes p e below s n0 P k n T (mkF m (pc + 3) Ls rest)) : Goes p e below s n0 P k n T (mkF m pc Ls (.int y :: .int x :: rest)) := by
  obtain ⟨locs, S, -, -, -⟩ := X
  by_cases q : y < x
  · exact Goes.of (fun _ kk => XS.icmpNo S.here C.1 rfl (hb C.2.1 hd) rfl (tlt q).2.2.2 kk) (Kn q)
  · exact Goes.of (fun _ kk => XS.icmpYes S.here C.1 rfl (pc0 := pc) (pc' := pc') rfl (hb C.2.1 hd) rfl (flt q).2.2.2 ho.1 ho.2 kk) (Ky q)
theorem w_if_le (X : Hr p l e R s m args below meth c n0 h cells slots T) (C : Cx p s m meth c code ml ret own nm Z a0 tabs) {pc : Nat} {Ls : Array Slot} {x : Int32} {rest : List Value} {o : Int} (hd : decode code pc = .ok (.ifCond .le o, 3)) (pc' : Nat) (ho : 0 ≤ (pc : Int) + o ∧ ((pc : Int) + o).toNat = pc') (Ky : ¬ (0 < x) → Goes p e below s n0 P k n T (mkF m pc' Ls rest)) (Kn : 0 < x → Goes p e below s n0 P k n T (mkF m (pc + 3) Ls rest)) : Goes p e below s n0 P k n T (mkF m pc Ls (.int x :: rest)) := by
  obtain ⟨locs, S, -, -, -⟩ := X
  by_cases q : 0 < x
  · exact Goes.of (fun _ kk => XS.ifNo S.here C.1 rfl (hb C.2.1 hd) rfl ((if0 _ _).trans (tlt q).2.2.2) kk) (Kn q)
  · exact Goes.of (fun _ kk => XS.ifYes S.here C.1 rfl (pc0 := pc) (pc' := pc') rfl (hb C.2.1 hd) rfl ((if0 _ _).trans (flt q).2.2.2) ho.1 ho.2 kk) (Ky q)
theorem w_icmp_eq (X : Hr p l e R s m args below meth c n0 h cells slots T) (C : Cx p s m meth c code ml ret own nm Z a0 tabs) {pc : Nat} {Ls : Array Slot} {x y : Int32} {rest : List Value} {o : Int} (hd : decode code pc = .ok (.if_icmp .eq o, 3)) (pc' : Nat) (ho : 0 ≤ (pc : Int) + o ∧ ((pc : Int) + o).toNat = pc') (Ky : x = y → Goes p e below s n0 P k n T (mkF m pc' Ls rest)) (Kn : ¬ (x = y) → Goes p e below s n0 P k n T (mkF m (pc + 3) Ls rest)) : Goes p e below s n0 P k n T (mkF m pc Ls (.int y :: .int x :: rest)) := by
  obtain ⟨locs, S, -, -, -⟩ := X
  by_cases q : x = y
  · exact Goes.of (fun _ kk => XS.icmpYes S.here C.1 rfl (pc0 := pc) (pc' := pc') rfl (hb C.2.1 hd) rfl (teq q).1 ho.1 ho.2 kk) (Ky q)
  · exact Goes.of (fun _ kk => XS.icmpNo S.here C.1 rfl (hb C.2.1 hd) rfl (feq q).1 kk) (Kn q)
theorem w_if_eq (X : Hr p l e R s m args below meth c n0 h cells slots T) (C : Cx p s m meth c code ml ret own nm Z a0 tabs) {pc : Nat} {Ls : Array Slot} {x : Int32} {rest : List Value} {o : Int} (hd : decode code pc = .ok (.ifCond .eq o, 3)) (pc' : Nat) (ho : 0 ≤ (pc : Int) + o ∧ ((pc : Int) + o).toNat = pc') (Ky : x = 0 → Goes p e below s n0 P k n T (mkF m pc' Ls rest)) (Kn : ¬ (x = 0) → Goes p e below s n0 P k n T (mkF m (pc + 3) Ls rest)) : Goes p e below s n0 P k n T (mkF m pc Ls (.int x :: rest)) := by
  obtain ⟨locs, S, -, -, -⟩ := X
  by_cases q : x = 0
  · exact Goes.of (fun _ kk => XS.ifYes S.here C.1 rfl (pc0 := pc) (pc' := pc') rfl (hb C.2.1 hd) rfl ((if0 _ _).trans (teq q).1) ho.1 ho.2 kk) (Ky q)
  · exact Goes.of (fun _ kk => XS.ifNo S.here C.1 rfl (hb C.2.1 hd) rfl ((if0 _ _).trans (feq q).1) kk) (Kn q)
theorem w_icmp_ne (X : Hr p l e R s m args below meth c n0 h cells slots T) (C : Cx p s m meth c code ml ret own nm Z a0 tabs) {pc : Nat} {Ls : Array Slot} {x y : Int32} {rest : List Value} {o : Int} (hd : decode code pc = .ok (.if_icmp .ne o, 3)) (pc' : Nat) (ho : 0 ≤ (pc : Int) + o ∧ ((pc : Int) + o).toNat = pc') (Ky : ¬ (x = y) → Goes p e below s n0 P k n T (mkF m pc' Ls rest)) (Kn : x = y → Goes p e below s n0 P k n T (mkF m (pc + 3) Ls rest)) : Goes p e below s n0 P k n T (mkF m pc Ls (.int y :: .int x :: rest)) := by
  obtain ⟨locs, S, -, -, -⟩ := X
  by_cases q : x = y
  · exact Goes.of (fun _ kk => XS.icmpNo S.here C.1 rfl (hb C.2.1 hd) rfl (teq q).2 kk) (Kn q)
  · exact Goes.of (fun _ kk => XS.icmpYes S.here C.1 rfl (pc0 := pc) (pc' := pc') rfl (hb C.2.1 hd) rfl (feq q).2 ho.1 ho.2 kk) (Ky q)
theorem w_if_ne (X : Hr p l e R s m args below meth c n0 h cells slots T) (C : Cx p s m meth c code ml ret own nm Z a0 tabs) {pc : Nat} {Ls : Array Slot} {x : Int32} {rest : List Value} {o : Int} (hd : decode code pc = .ok (.ifCond .ne o, 3)) (pc' : Nat) (ho : 0 ≤ (pc : Int) + o ∧ ((pc : Int) + o).toNat = pc') (Ky : ¬ (x = 0) → Goes p e below s n0 P k n T (mkF m pc' Ls rest)) (Kn : x = 0 → Goes p e below s n0 P k n T (mkF m (pc + 3) Ls rest)) : Goes p e below s n0 P k n T (mkF m pc Ls (.int x :: rest)) := by
  obtain ⟨locs, S, -, -, -⟩ := X
  by_cases q : x = 0
  · exact Goes.of (fun _ kk => XS.ifNo S.here C.1 rfl (hb C.2.1 hd) rfl ((if0 _ _).trans (teq q).2) kk) (Kn q)
  · exact Goes.of (fun _ kk => XS.ifYes S.here C.1 rfl (pc0 := pc) (pc' := pc') rfl (hb C.2.1 hd) rfl ((if0 _ _).trans (feq q).2) ho.1 ho.2 kk) (Ky q)
theorem cj_lt (x y : Int64) : cmpJ x y < 0 ↔ x < y := lw_lt x y
theorem cj_gt (x y : Int64) : 0 < cmpJ x y ↔ y < x := lw_gt x y
theorem cj_eq (x y : Int64) : cmpJ x y = 0 ↔ x = y := lw_eq x y
theorem w_ifJ_lt (X : Hr p l e R s m args below meth c n0 h cells slots T) (C : Cx p s m meth c code ml ret own nm Z a0 tabs) {pc : Nat} {Ls : Array Slot} {x y : Int64} {rest : List Value} {o : Int} (hd : decode code pc = .ok (.ifCond .lt o, 3)) (pc' : Nat) (ho : 0 ≤ (pc : Int) + o ∧ ((pc : Int) + o).toNat = pc') (Ky : x < y → Goes p e below s n0 P k n T (mkF m pc' Ls rest)) (Kn : ¬ (x < y) → Goes p e below s n0 P k n T (mkF m (pc + 3) Ls rest)) : Goes p e below s n0 P k n T (mkF m pc Ls (.int (cmpJ x y) :: rest)) :=
  w_if_lt X C hd pc' ho (fun q => Ky ((cj_lt _ _).mp q)) (fun q => Kn (fun r => q ((cj_lt _ _).mpr r)))
theorem w_ifJ_ge (X : Hr p l e R s m args below meth c n0 h cells slots T) (C : Cx p s m meth c code ml ret own nm Z a0 tabs) {pc : Nat} {Ls : Array Slot} {x y : Int64} {rest : List Value} {o : Int} (hd : decode code pc = .ok (.ifCond .ge o, 3)) (pc' : Nat) (ho : 0 ≤ (pc : Int) + o ∧ ((pc : Int) + o).toNat = pc') (Ky : ¬ (x < y) → Goes p e below s n0 P k n T (mkF m pc' Ls rest)) (Kn : x < y → Goes p e below s n0 P k n T (mkF m (pc + 3) Ls rest)) : Goes p e below s n0 P k n T (mkF m pc Ls (.int (cmpJ x y) :: rest)) :=
  w_if_ge X C hd pc' ho (fun q => Ky (fun r => q ((cj_lt _ _).mpr r))) (fun q => Kn ((cj_lt _ _).mp q))
theorem w_ifJ_gt (X : Hr p l e R s m args below meth c n0 h cells slots T) (C : Cx p s m meth c code ml ret own nm Z a0 tabs) {pc : Nat} {Ls : Array Slot} {x y : Int64} {rest : List Value} {o : Int} (hd : decode code pc = .ok (.ifCond .gt o, 3)) (pc' : Nat) (ho : 0 ≤ (pc : Int) + o ∧ ((pc : Int) + o).toNat = pc') (Ky : y < x → Goes p e below s n0 P k n T (mkF m pc' Ls rest)) (Kn : ¬ (y < x) → Goes p e below s n0 P k n T (mkF m (pc + 3) Ls rest)) : Goes p e below s n0 P k n T (mkF m pc Ls (.int (cmpJ x y) :: rest)) :=
  w_if_gt X C hd pc' ho (fun q => Ky ((cj_gt _ _).mp q)) (fun q => Kn (fun r => q ((cj_gt _ _).mpr r)))
theorem w_ifJ_le (X : Hr p l e R s m args below meth c n0 h cells slots T) (C : Cx p s m meth c code ml ret own nm Z a0 tabs) {pc : Nat} {Ls : Array Slot} {x y : Int64} {rest : List Value} {o : Int} (hd : decode code pc = .ok (.ifCond .le o, 3)) (pc' : Nat) (ho : 0 ≤ (pc : Int) + o ∧ ((pc : Int) + o).toNat = pc') (Ky : ¬ (y < x) → Goes p e below s n0 P k n T (mkF m pc' Ls rest)) (Kn : y < x → Goes p e below s n0 P k n T (mkF m (pc + 3) Ls rest)) : Goes p e below s n0 P k n T (mkF m pc Ls (.int (cmpJ x y) :: rest)) :=
  w_if_le X C hd pc' ho (fun q => Ky (fun r => q ((cj_gt _ _).mpr r))) (fun q => Kn ((cj_gt _ _).mp q))
theorem w_ifJ_eq (X : Hr p l e R s m args below meth c n0 h cells slots T) (C : Cx p s m meth c code ml ret own nm Z a0 tabs) {pc : Nat} {Ls : Array Slot} {x y : Int64} {rest : List Value} {o : Int} (hd : decode code pc = .ok (.ifCond .eq o, 3)) (pc' : Nat) (ho : 0 ≤ (pc : Int) + o ∧ ((pc : Int) + o).toNat = pc') (Ky : x = y → Goes p e below s n0 P k n T (mkF m pc' Ls rest)) (Kn : ¬ (x = y) → Goes p e below s n0 P k n T (mkF m (pc + 3) Ls rest)) : Goes p e below s n0 P k n T (mkF m pc Ls (.int (cmpJ x y) :: rest)) :=
  w_if_eq X C hd pc' ho (fun q => Ky ((cj_eq _ _).mp q)) (fun q => Kn (fun r => q ((cj_eq _ _).mpr r)))
theorem w_ifJ_ne (X : Hr p l e R s m args below meth c n0 h cells slots T) (C : Cx p s m meth c code ml ret own nm Z a0 tabs) {pc : Nat} {Ls : Array Slot} {x y : Int64} {rest : List Value} {o : Int} (hd : decode code pc = .ok (.ifCond .ne o, 3)) (pc' : Nat) (ho : 0 ≤ (pc : Int) + o ∧ ((pc : Int) + o).toNat = pc') (Ky : ¬ (x = y) → Goes p e below s n0 P k n T (mkF m pc' Ls rest)) (Kn : x = y → Goes p e below s n0 P k n T (mkF m (pc + 3) Ls rest)) : Goes p e below s n0 P k n T (mkF m pc Ls (.int (cmpJ x y) :: rest)) :=
  w_if_ne X C hd pc' ho (fun q => Ky (fun r => q ((cj_eq _ _).mpr r))) (fun q => Kn ((cj_eq _ _).mp q))
theorem w_ifnull_no (X : Hr p l e R s m args below meth c n0 h cells slots T) (C : Cx p s m meth c code ml ret own nm Z a0 tabs) {pc : Nat} {Ls : Array Slot} {a : Addr} {rest : List Value} {o : Int} (hd : decode code pc = .ok (.ifnull o, 3)) (K : Goes p e below s n0 P k n T (mkF m (pc + 3) Ls rest)) : Goes p e below s n0 P k n T (mkF m pc Ls (.ref a :: rest)) := by
  obtain ⟨locs, S, -, -, -⟩ := X
  exact Goes.of (fun _ kk => XS.ifnullNo S.here C.1 rfl (hb C.2.1 hd) rfl kk) K
theorem w_retI (X : Hr p l e R s m args below meth c n0 h cells slots T) (C : Cx p s m meth c code ml (some .int) own nm Z a0 tabs) {pc : Nat} {Ls : Array Slot} {z : Int32} {rest : List Value} (hd : decode code pc = .ok (.ireturn, 1)) (hP : P (some (.int z)) h) (hk : cells ≤ k := by decide) (hn : slots ≤ n := by decide) : Goes p e below s n0 P k n T (mkF m pc Ls (.int z :: rest)) := by
  obtain ⟨locs, S, eT, N, -⟩ := X
  obtain ⟨fs, hr, hrun, hended, hW, hsame⟩ := S.leave (v := some (.int z)) (fun h => by rw [C.2.2.2.1] at h; cases h) C.2.2.2.2.1
  refine ⟨_, _, retI' S C.1 C.2.2.2.1 (hb C.2.1 hd) hr, hrun, hended, _, _, rfl, ⟨N, ?_⟩, ⟨_, rfl⟩, hW, hsame.mono hk hn⟩
  show P _ T.heap
  rw [eT]
  exact hP
theorem w_ret_boolean (X : Hr p l e R s m args below meth c n0 h cells slots T) (C : Cx p s m meth c code ml (some .boolean) own nm Z a0 tabs) {pc : Nat} {Ls : Array Slot} {z : Int32} {rest : List Value} (hd : decode code pc = .ok (.ireturn, 1)) (hP : P (some (.int (z &&& 1))) h) (hk : cells ≤ k := by decide) (hn : slots ≤ n := by decide) : Goes p e below s n0 P k n T (mkF m pc Ls (.int z :: rest)) := by
  obtain ⟨locs, S, eT, N, -⟩ := X
  obtain ⟨fs, hr, hrun, hended, hW, hsame⟩ := S.leave (v := some (.int (z &&& 1))) (fun h => by rw [C.2.2.2.1] at h; cases h) C.2.2.2.2.1
  refine ⟨_, _, retN S C.1 (t := .boolean) C.2.2.2.1 (by simp) (hb C.2.1 hd) hr, hrun, hended, _, _, rfl, ⟨N, ?_⟩, ⟨_, rfl⟩, hW, hsame.mono hk hn⟩
  show P _ T.heap
  rw [eT]
  exact hP
theorem w_ret_byte (X : Hr p l e R s m args below meth c n0 h cells slots T) (C : Cx p s m meth c code ml (some .byte) own nm Z a0 tabs) {pc : Nat} {Ls : Array Slot} {z : Int32} {rest : List Value} (hd : decode code pc = .ok (.ireturn, 1)) (hP : P (some (.int (i8 z))) h) (hk : cells ≤ k := by decide) (hn : slots ≤ n := by decide) : Goes p e below s n0 P k n T (mkF m pc Ls (.int z :: rest)) := by
  obtain ⟨locs, S, eT, N, -⟩ := X
  obtain ⟨fs, hr, hrun, hended, hW, hsame⟩ := S.leave (v := some (.int (i8 z))) (fun h => by rw [C.2.2.2.1] at h; cases h) C.2.2.2.2.1
  refine ⟨_, _, retN S C.1 (t := .byte) C.2.2.2.1 (by simp) (hb C.2.1 hd) hr, hrun, hended, _, _, rfl, ⟨N, ?_⟩, ⟨_, rfl⟩, hW, hsame.mono hk hn⟩
  show P _ T.heap
  rw [eT]
  exact hP
theorem w_ret_char (X : Hr p l e R s m args below meth c n0 h cells slots T) (C : Cx p s m meth c code ml (some .char) own nm Z a0 tabs) {pc : Nat} {Ls : Array Slot} {z : Int32} {rest : List Value} (hd : decode code pc = .ok (.ireturn, 1)) (hP : P (some (.int (i16c z))) h) (hk : cells ≤ k := by decide) (hn : slots ≤ n := by decide) : Goes p e below s n0 P k n T (mkF m pc Ls (.int z :: rest)) := by
  obtain ⟨locs, S, eT, N, -⟩ := X
  obtain ⟨fs, hr, hrun, hended, hW, hsame⟩ := S.leave (v := some (.int (i16c z))) (fun h => by rw [C.2.2.2.1] at h; cases h) C.2.2.2.2.1
  refine ⟨_, _, retN S C.1 (t := .char) C.2.2.2.1 (by simp) (hb C.2.1 hd) hr, hrun, hended, _, _, rfl, ⟨N, ?_⟩, ⟨_, rfl⟩, hW, hsame.mono hk hn⟩
  show P _ T.heap
  rw [eT]
  exact hP
theorem w_retJ (X : Hr p l e R s m args below meth c n0 h cells slots T) (C : Cx p s m meth c code ml (some .long) own nm Z a0 tabs) {pc : Nat} {Ls : Array Slot} {z : Int64} (hd : decode code pc = .ok (.lreturn, 1)) (hP : P (some (.long z)) h) (hk : cells ≤ k := by decide) (hn : slots ≤ n := by decide) : Goes p e below s n0 P k n T (mkF m pc Ls [.long z]) := by
  obtain ⟨locs, S, eT, N, -⟩ := X
  obtain ⟨fs, hr, hrun, hended, hW, hsame⟩ := S.leave (v := some (.long z)) (fun h => by rw [C.2.2.2.1] at h; cases h) C.2.2.2.2.1
  refine ⟨_, _, S.lreturnOut C.1 C.2.2.2.1 (hb C.2.1 hd) hr, hrun, hended, _, _, rfl, ⟨N, ?_⟩, ⟨_, rfl⟩, hW, hsame.mono hk hn⟩
  show P _ T.heap
  rw [eT]
  exact hP
theorem w_retR (X : Hr p l e R s m args below meth c n0 h cells slots T) (C : Cx p s m meth c code ml ret own nm Z a0 tabs) {pc : Nat} {Ls : Array Slot} {t : FieldType} {a : Addr} {rest : List Value} (ht : t.isReference = true) (hret : ret = some t) (hd : decode code pc = .ok (.areturn, 1)) (hP : P (some (.ref a)) h) (hk : cells ≤ k := by decide) (hn : slots ≤ n := by decide) : Goes p e below s n0 P k n T (mkF m pc Ls (.ref a :: rest)) := by
  subst hret
  obtain ⟨locs, S, eT, N, -⟩ := X
  obtain ⟨fs, hr, hrun, hended, hW, hsame⟩ := S.leave (v := some (.ref a)) (fun h => by rw [C.2.2.2.1] at h; cases h) C.2.2.2.2.1
  refine ⟨_, _, retOut S C.1 C.2.2.2.1 (by cases t <;> rfl) (Or.inr (Or.inr (Or.inr (Or.inr ⟨rfl, ht, rfl⟩)))) (hb C.2.1 hd) hr, hrun, hended, _, _, rfl, ⟨N, ?_⟩, ⟨_, rfl⟩, hW, hsame.mono hk hn⟩
  show P _ T.heap
  rw [eT]
  exact hP
theorem w_retV (X : Hr p l e R s m args below meth c n0 h cells slots T) (C : Cx p s m meth c code ml none own nm Z a0 tabs) {pc : Nat} {Ls : Array Slot} (hd : decode code pc = .ok (.return_, 1)) (hP : P none h) (hk : cells ≤ k := by decide) (hn : slots ≤ n := by decide) : Goes p e below s n0 P k n T (mkF m pc Ls []) := by
  obtain ⟨locs, S, eT, N, -⟩ := X
  obtain ⟨fs, hr, hrun, hended, hW, hsame⟩ := S.leave (v := none) (fun _ => rfl) C.2.2.2.2.1
  refine ⟨_, _, S.returnOut C.1 C.2.2.2.1 (hb C.2.1 hd) hr, hrun, hended, _, _, rfl, ⟨N, ?_⟩, ⟨_, rfl⟩, hW, hsame.mono hk hn⟩
  show P _ T.heap
  rw [eT]
  exact hP
theorem w_callS (X : Hr p l e R s m args below meth c n0 h cells slots T) (C : Cx p s m meth c code ml ret own nm Z a0 tabs) {pc index : Nat} {Ls : Array Slot} {y : MethodName} {bytes : ByteArray} {maxL : Nat} {rt : Option FieldType} {rm : Room} {P' : Option Value → Heap → Prop} {argsL rest st : List Value} (hd : decode code pc = .ok (.invokestatic index, 3)) (i1 : Jvm.Cond.methodLink own index y ∈ tabs) (i2 : Jvm.Cond.static y ∈ tabs) (i3 : Jvm.Cond.initialized y.cls ∈ tabs) (i4 : Jvm.Cond.code y bytes maxL rt ∈ tabs) (hy : y.cls ≠ "java/lang/invoke/MethodHandle" ∧ y.cls ≠ "java/lang/invoke/VarHandle") {W : Nat} (hM : Ct l y bytes maxL rt rm Z argsL.toArray h n0 P') (hls : Ls.size = ml) (hlen : ∃ ps r, parseMethodDescriptor y.desc = some ⟨ps, r⟩ ∧ argsL.length = ps.length) (hst : st = argsL.reverse ++ rest) (hW : (rest.map fun v => v.category).sum ≤ W) (hf : rm.frames + 1 ≤ R.frames) (hl : W + (maxL + 11) + rm.locals ≤ R.locals) (hc : cells + rm.cells ≤ R.cells) (hs : slots + rm.slots ≤ R.slots)
    (K : ∀ v T', P' v T'.heap → Hr p l e R s m args below meth c n0 T'.heap (cells + rm.cells) (slots + rm.slots) T' → Goes p e below s n0 P k n T' (mkF m (pc + 3) Ls (v.toList ++ rest))) : Goes p e below s n0 P k n T (mkF m pc Ls st) := by
  obtain ⟨locs, S, eT, N, q0⟩ := X
  obtain ⟨ps, r, hp1, hp2⟩ := hlen
  have hZ := C.2.2.2.2.2.2.2.1
  have hw := C.2.2.2.2.2.2.2.2
  obtain ⟨v, _, ⟨T', L', k', n'⟩, -, X', ⟨Lc, hQ, l1, l2, l3⟩, stp⟩ := Jvm.LawKit.callS S C.1 (y := y) C.2.2.2.2.2.1 (mvT hZ (hw _ i1)) (mvT hZ (hw _ i2)) (mvT hZ (hw _ i3)) (mvT hZ (hw _ i4)) hy (backOf (W := W) (Q := fun v hp L => Fr n0 L ∧ P' v hp) (hM []) C.2.2.2.2.2.2.2.1 (C.2.2.2.2.2.2.2.2 _ i4) (C.2.2.2.2.2.2.2.2 _ i3) hf hl) (g := mkF m pc Ls st) rfl (by rw [C.2.2.1]; exact hls) (argsL := argsL) (rest := rest) (lenOf hp1 hp2) hst (by show 2 * 0 + _ ≤ _; rw [Nat.mul_zero, Nat.zero_add]; exact hW) (hb C.2.1 hd) (fun _ _ => ⟨rfl, eT, hc, hs⟩)
  dsimp only [Pt.U, Pt.locs, Pt.cells, Pt.slots] at X' l1 l2 l3 stp hQ
  subst l1 l2 l3
  exact Goes.of stp (K v T' hQ.2 ⟨_, X', rfl, Fr.app N hQ.1, q0⟩)
theorem w_callI (X : Hr p l e R s m args below meth c n0 h cells slots T) (C : Cx p s m meth c code ml ret own nm Z a0 tabs) {pc index : Nat} {Ls : Array Slot} {y : MethodName} {bytes : ByteArray} {maxL : Nat} {rm : Room} {P' : Option Value → Heap → Prop} {a : Addr} {argsL rest st : List Value} (hd : decode code pc = .ok (.invokespecial index, 3)) (i1 : Jvm.Cond.methodLink own index y ∈ tabs) (i2 : Jvm.Cond.instanceMethod y ∈ tabs) (i3 : Jvm.Cond.initialized y.cls ∈ tabs) (i4 : Jvm.Cond.code y bytes maxL none ∈ tabs) (hn1 : y.name = "<init>") (hy : y.cls ≠ "java/lang/invoke/MethodHandle" ∧ y.cls ≠ "java/lang/invoke/VarHandle") {W : Nat} (hM : Ct l y bytes maxL none rm Z (.ref a :: argsL).toArray h n0 P') (hls : Ls.size = ml) (hlen : ∃ ps r, parseMethodDescriptor y.desc = some ⟨ps, r⟩ ∧ argsL.length = ps.length) (hst : st = argsL.reverse ++ .ref a :: rest) (hW : (rest.map fun v => v.category).sum ≤ W) (hf : rm.frames + 1 ≤ R.frames) (hl : W + (maxL + 11) + rm.locals ≤ R.locals) (hc : cells + rm.cells ≤ R.cells) (hs : slots + rm.slots ≤ R.slots)
    (K : ∀ v T', P' v T'.heap → Hr p l e R s m args below meth c n0 T'.heap (cells + rm.cells) (slots + rm.slots) T' → Goes p e below s n0 P k n T' (mkF m (pc + 3) Ls (v.toList ++ rest))) : Goes p e below s n0 P k n T (mkF m pc Ls st) := by
  obtain ⟨locs, S, eT, N, q0⟩ := X
  obtain ⟨ps, r, hp1, hp2⟩ := hlen
  have hZ := C.2.2.2.2.2.2.2.1
  have hw := C.2.2.2.2.2.2.2.2
  obtain ⟨v, _, ⟨T', L', k', n'⟩, -, X', ⟨Lc, hQ, l1, l2, l3⟩, stp⟩ := S.specialBack C.1 (y := y) hn1 C.2.2.2.2.2.1 (mvT hZ (hw _ i1)) (mvT hZ (hw _ i2)) (mvT hZ (hw _ i4)) hy (backOf (W := W) (Q := fun v hp L => Fr n0 L ∧ P' v hp) (hM []) C.2.2.2.2.2.2.2.1 (C.2.2.2.2.2.2.2.2 _ i4) (C.2.2.2.2.2.2.2.2 _ i3) hf hl) (g := mkF m pc Ls st) rfl (by rw [C.2.2.1]; exact hls) (Steps.refl _) (a := a) (argsL := argsL) (rest := rest) (lenOf hp1 hp2) hst (by show 2 * 0 + _ ≤ _; rw [Nat.mul_zero, Nat.zero_add]; exact hW) (hb C.2.1 hd) (fun _ _ => ⟨rfl, eT, hc, hs⟩)
  dsimp only [Pt.U, Pt.locs, Pt.cells, Pt.slots] at X' l1 l2 l3 stp hQ
  subst l1 l2 l3
  exact Goes.of (fun _ kk => stp.trans kk) (K v T' hQ.2 ⟨_, X', rfl, Fr.app N hQ.1, q0⟩)
theorem w_callV (X : Hr p l e R s m args below meth c n0 h cells slots T) (C : Cx p s m meth c code ml ret own nm Z a0 tabs) {pc index : Nat} {Ls : Array Slot} {y : MethodName} {bytes : ByteArray} {maxL : Nat} {rt : Option FieldType} {rm : Room} {P' : Option Value → Heap → Prop} {a : Addr} {argsL rest st : List Value} (hd : decode code pc = .ok (.invokevirtual index, 3)) (i1 : Jvm.Cond.methodLink own index y ∈ tabs) (i2 : Jvm.Cond.instanceMethod y ∈ tabs) (i3 : Jvm.Cond.initialized y.cls ∈ tabs) (i4 : Jvm.Cond.code y bytes maxL rt ∈ tabs) (i5 : Jvm.Cond.declares y ∈ tabs) (i6 : Jvm.Cond.selects y.cls y y ∈ tabs) (E : Exa Z h a y.cls) (hy : y.cls ≠ "java/lang/invoke/MethodHandle" ∧ y.cls ≠ "java/lang/invoke/VarHandle") {W : Nat} (hM : Ct l y bytes maxL rt rm Z (.ref a :: argsL).toArray h n0 P') (hls : Ls.size = ml) (hlen : ∃ ps r, parseMethodDescriptor y.desc = some ⟨ps, r⟩ ∧ argsL.length = ps.length) (hst : st = argsL.reverse ++ .ref a :: rest) (hW : (rest.map fun v => v.category).sum ≤ W) (hf : rm.frames + 1 ≤ R.frames) (hl : W + (maxL + 11) + rm.locals ≤ R.locals) (hc : cells + rm.cells ≤ R.cells) (hs : slots + rm.slots ≤ R.slots)
    (K : ∀ v T', P' v T'.heap → Hr p l e R s m args below meth c n0 T'.heap (cells + rm.cells) (slots + rm.slots) T' → Goes p e below s n0 P k n T' (mkF m (pc + 3) Ls (v.toList ++ rest))) : Goes p e below s n0 P k n T (mkF m pc Ls st) := by
  obtain ⟨locs, S, eT, N, q0⟩ := X
  obtain ⟨ps, r, hp1, hp2⟩ := hlen
  have hZ := C.2.2.2.2.2.2.2.1
  have hw := C.2.2.2.2.2.2.2.2
  obtain ⟨cB, kB, qa, qb, qc⟩ := isOf hZ eT E
  obtain ⟨v, _, ⟨T', L', k', n'⟩, -, X', ⟨Lc, hQ, l1, l2, l3⟩, stp⟩ := S.virtualBack C.1 (y := y) (z := y) C.2.2.2.2.2.1 (mvT hZ (hw _ i1)) (mvT hZ (hw _ i5)) (notFace_of_selects (args := #[]) (mvT hZ (hw _ i6))) (mvT hZ (hw _ i6)) (mvT hZ (hw _ i2)) hy (backOf (W := W) (Q := fun v hp L => Fr n0 L ∧ P' v hp) (hM []) C.2.2.2.2.2.2.2.1 (C.2.2.2.2.2.2.2.2 _ i4) (C.2.2.2.2.2.2.2.2 _ i3) hf hl) qa qc (g := mkF m pc Ls st) rfl (by rw [C.2.2.1]; exact hls) (Steps.refl _) (argsL := argsL) (rest := rest) (lenOf hp1 hp2) hst (by show 2 * 0 + _ ≤ _; rw [Nat.mul_zero, Nat.zero_add]; exact hW) (hb C.2.1 hd) (fun _ _ => ⟨rfl, eT, hc, hs⟩)
  dsimp only [Pt.U, Pt.locs, Pt.cells, Pt.slots] at X' l1 l2 l3 stp hQ
  subst l1 l2 l3
  exact Goes.of (fun _ kk => stp.trans kk) (K v T' hQ.2 ⟨_, X', rfl, Fr.app N hQ.1, q0⟩)
theorem w_callP (X : Hr p l e R s m args below meth c n0 h cells slots T) (C : Cx p s m meth c code ml ret own nm Z a0 tabs) {pc index : Nat} {Ls : Array Slot} {y : MethodName} {bytes : ByteArray} {maxL : Nat} {rt : Option FieldType} {rm : Room} {w : Value} {argsL rest st : List Value} {W : Nat} (hd : decode code pc = .ok (.invokestatic index, 3)) (i1 : Jvm.Cond.methodLink own index y ∈ tabs) (i2 : Jvm.Cond.static y ∈ tabs) (i3 : Jvm.Cond.initialized y.cls ∈ tabs) (i4 : Jvm.Cond.code y bytes maxL rt ∈ tabs) (hy : y.cls ≠ "java/lang/invoke/MethodHandle" ∧ y.cls ≠ "java/lang/invoke/VarHandle") (hM : Ct l y bytes maxL rt rm Z argsL.toArray h n0 (fun v hp => v = some w ∧ hp = h)) (hr0 : rm.cells = 0) (hr1 : rm.slots = 0) (hls : Ls.size = ml) (hlen : ∃ ps r, parseMethodDescriptor y.desc = some ⟨ps, r⟩ ∧ argsL.length = ps.length) (hst : st = argsL.reverse ++ rest) (hW : (rest.map fun v => v.category).sum ≤ W) (hf : rm.frames + 1 ≤ R.frames) (hl : W + (maxL + 11) + rm.locals ≤ R.locals) (hc : cells ≤ R.cells) (hs : slots ≤ R.slots)
    (K : ∀ T', Hr p l e R s m args below meth c n0 h cells slots T' → Goes p e below s n0 P k n T' (mkF m (pc + 3) Ls (w :: rest))) : Goes p e below s n0 P k n T (mkF m pc Ls st) := by
  refine w_callS X C hd i1 i2 i3 i4 hy hM hls hlen hst hW hf hl (by rw [hr0]; exact hc) (by rw [hr1]; exact hs) ?_
  rintro v T' ⟨rfl, e1⟩ X'
  rw [e1, hr0, hr1] at X'
  exact K T' X'
theorem w_initO (X : Hr p l e R s m args below meth c n0 h cells slots T) (C : Cx p s m meth c code ml ret own nm Z a0 tabs) {pc index : Nat} {Ls : Array Slot} {a : Addr} {rest : List Value} (hd : decode code pc = .ok (.invokespecial index, 3)) (i1 : Jvm.Cond.methodLink own index Lib.objectInit ∈ tabs) (i2 : Jvm.Cond.instanceMethod Lib.objectInit ∈ tabs) (i3 : Jvm.Cond.code Lib.objectInit ⟨#[0xb1]⟩ 1 none ∈ tabs) (hls : Ls.size = ml) {W : Nat} (hW : (rest.map fun v => v.category).sum ≤ W) (hf : 1 ≤ R.frames) (hl : W + 12 ≤ R.locals)
    (K : ∀ T', Hr p l e R s m args below meth c n0 h cells slots T' → Goes p e below s n0 P k n T' (mkF m (pc + 3) Ls rest)) : Goes p e below s n0 P k n T (mkF m pc Ls (.ref a :: rest)) := by
  obtain ⟨locs, S, eT, N, q0⟩ := X
  have hZ := C.2.2.2.2.2.2.2.1
  have hw := C.2.2.2.2.2.2.2.2
  obtain ⟨T', X', e', st⟩ := initO S C.1 hZ C.2.2.2.2.2.1 (hw _ i1) (hw _ i2) (hw _ i3) eT (g := mkF m pc Ls (.ref a :: rest)) rfl (by rw [C.2.2.1]; exact hls) rfl (hb C.2.1 hd) hf (W := W) (by show 2 * 0 + _ ≤ _; rw [Nat.mul_zero, Nat.zero_add]; exact hW) hl
  exact Goes.of st (K T' ⟨_, X', e', N, q0⟩)
theorem w_getfield (X : Hr p l e R s m args below meth c n0 h cells slots T) (C : Cx p s m meth c code ml ret own nm Z a0 tabs) {pc index : Nat} {Ls : Array Slot} {O nf d : String} {a : Addr} {v : Value} {rest : List Value} (hd : decode code pc = .ok (.getfield index, 3)) (i1 : Jvm.Cond.fieldLink own index O nf d ∈ tabs) (F : Fld Z h a O nf d v)
    (K : ∀ T', Hr p l e R s m args below meth c n0 h cells slots T' → Goes p e below s n0 P k n T' (mkF m (pc + 3) Ls (v :: rest))) : Goes p e below s n0 P k n T (mkF m pc Ls (.ref a :: rest)) := by
  obtain ⟨locs, S, eT, N, q0⟩ := X
  obtain ⟨T', X', e', st⟩ := getF S C.1 C.2.2.2.2.2.2.2.1 C.2.2.2.2.2.1 (host := "") (Or.inl (C.2.2.2.2.2.2.2.2 _ i1)) Via.refl eT F (g := mkF m pc Ls (.ref a :: rest)) rfl rfl (hb C.2.1 hd)
  exact Goes.of st (K T' ⟨_, X', e', N, q0⟩)
theorem w_putfield (X : Hr p l e R s m args below meth c n0 h cells slots T) (C : Cx p s m meth c code ml ret own nm Z a0 tabs) {pc index kk0 : Nat} {Ls : Array Slot} {O nf d Cc : String} {ty : FieldType} {a : Addr} {v old : Value} {rest : List Value} (hd : decode code pc = .ok (.putfield index, 3)) (i1 : Jvm.Cond.fieldLink own index O nf d ∈ tabs) (F : Fld Z h a O nf d old) (E : Exa Z h a Cc) (i2 : Jvm.Cond.lays Cc O nf d ∈ tabs ∨ (Jvm.Cond.laysFinal Cc O nf d ∈ tabs ∧ own = O ∧ nm = "<init>")) (i3 : Jvm.Cond.instantiable Cc kk0 ∈ tabs) (hty : parseFieldDescriptor d = some ty) (hnw : narrow ty v = v) (hft : fits ty v = true) (ha : n0 ≤ a)
    (K : ∀ T' h', Hr p l e R s m args below meth c n0 h' cells slots T' → Wr h h' a (Jvm.RoadKit.slotOf Z O nf d) v → Fld Z h' a O nf d v → Exa Z h' a Cc → Goes p e below s n0 P k n T' (mkF m (pc + 3) Ls rest)) : Goes p e below s n0 P k n T (mkF m pc Ls (v :: .ref a :: rest)) := by
  obtain ⟨locs, S, eT, N, q0⟩ := X
  have hw := C.2.2.2.2.2.2.2.2
  obtain ⟨T', h', X', e', W', st⟩ := putF S C.1 C.2.2.2.2.2.2.2.1 C.2.2.2.2.2.1 (host := "") (Or.inl (hw _ i1)) Via.refl eT F E (i2.imp (fun q => hw _ q) (fun q => ⟨hw _ q.1, q.2.1, by rw [C.2.2.2.2.2.2.1]; exact q.2.2⟩)) (hw _ i3) hty hnw hft (g := mkF m pc Ls (v :: .ref a :: rest)) rfl rfl (hb C.2.1 hd)
  exact Goes.of st (K T' h' ⟨_, X', e', Fr.snoc X' N ha, q0⟩ W' (F.same W') (E.wr W'))
theorem w_new (X : Hr p l e R s m args below meth c n0 h cells slots T) (C : Cx p s m meth c code ml ret own nm Z a0 tabs) {pc index nn : Nat} {Ls : Array Slot} {Cc : String} {rest : List Value} (hd : decode code pc = .ok (.new index, 3)) (i1 : Jvm.Cond.classLink own index Cc ∈ tabs) (i2 : Jvm.Cond.instantiable Cc nn ∈ tabs) (i3 : Jvm.Cond.initialized Cc ∈ tabs) (hc : cells + 1 ≤ R.cells) (hl : slots + nn ≤ R.slots)
    (K : ∀ T' h' a, a = h.size → n0 ≤ a → Hr p l e R s m args below meth c n0 h' (cells + 1) (slots + nn) T' → Ext h h' → Exa Z h' a Cc → (∀ {O nf d : String} {ty : FieldType}, (Jvm.Cond.lays Cc O nf d ∈ tabs ∨ Jvm.Cond.laysFinal Cc O nf d ∈ tabs) → parseFieldDescriptor d = some ty → Fld Z h' a O nf d (defaultValue ty)) → Goes p e below s n0 P k n T' (mkF m (pc + 3) Ls (.ref a :: rest))) : Goes p e below s n0 P k n T (mkF m pc Ls rest) := by
  have hsz := X.size
  obtain ⟨locs, S, eT, N, q0⟩ := X
  have hw := C.2.2.2.2.2.2.2.2
  obtain ⟨T', h', X', e', E', A', D', -, st⟩ := newO S C.1 C.2.2.2.2.2.2.2.1 C.2.2.2.2.2.1 (hw _ i1) (hw _ i2) (hw _ i3) eT (g := mkF m pc Ls rest) rfl (hb C.2.1 hd) hc hl
  exact Goes.of st (K T' h' h.size rfl hsz ⟨_, X', e', N, q0⟩ E' A' (fun q ht => D' (q.imp (fun z => hw _ z) (fun z => hw _ z)) ht))
theorem ArV.lt {a : Addr} {ty : FieldType} {N : Nat} {f : Nat → Value} (A : ArV Z h a ty N f) : a < h.size := by obtain ⟨cl, A, -⟩ := A; exact A.lt
theorem ArV.ext {a : Addr} {ty : FieldType} {N : Nat} {f : Nat → Value} (A : ArV Z h a ty N f) (E : Ext h h') : ArV Z h' a ty N f := by obtain ⟨cl, A, r⟩ := A; exact ⟨cl, A.ext E, r⟩
theorem ArV.other {a b : Addr} {ty : FieldType} {N sl : Nat} {v : Value} {f : Nat → Value} (A : ArV Z h b ty N f) (W : Wr h h' a sl v) (q : b ≠ a) : ArV Z h' b ty N f := by obtain ⟨cl, A, r⟩ := A; exact ⟨cl, A.other W q, r⟩
theorem ArV.keep {a : Addr} {ty : FieldType} {N : Nat} {f : Nat → Value} {ws : List Addr} (A : ArV Z h a ty N f) (K : Keep h h' ws) (q : a ∉ ws) : ArV Z h' a ty N f := by obtain ⟨c, A, r⟩ := A; exact ⟨c, ⟨K.2.1 a c A.1 q, A.2⟩, r⟩
theorem ArV.congr {a : Addr} {ty : FieldType} {N : Nat} {f f' : Nat → Value} (A : ArV Z h a ty N f) (q : ∀ i, i < N → f' i = f i) : ArV Z h a ty N f' := by obtain ⟨c, A, r1, r2⟩ := A; exact ⟨c, A, r1, fun i hi => by rw [q i hi]; exact r2 i hi⟩
theorem ArV.same {a : Addr} {ty : FieldType} {N j : Nat} {v : Value} {f : Nat → Value} (A : ArV Z h a ty N f) (W : Wr h h' a j v) : ArV Z h' a ty N (up f j v) := by
  obtain ⟨c, A, r1, r2⟩ := A
  refine ⟨_, A.same W, by rw [sz_set]; exact r1, fun i hi => ?_⟩
  unfold up
  by_cases q : i = j
  · subst q; simp [Cell.setSlot, r1, hi]
  · simp only [q, if_false, Cell.setSlot]
    rw [Array.getElem?_setIfInBounds_ne (fun z => q z.symm)]
    exact r2 i hi
theorem up_int (g : Nat → Int32) (j : Nat) (x : Int32) : (fun i => Value.int (up g j x i)) = up (fun i => Value.int (g i)) j (.int x) := by
  funext i; unfold up; split <;> rfl
theorem up_long (g : Nat → Int64) (j : Nat) (x : Int64) : (fun i => Value.long (up g j x i)) = up (fun i => Value.long (g i)) j (.long x) := by
  funext i; unfold up; split <;> rfl
theorem in_of {a : Addr} {ty : FieldType} {N i : Nat} {j : Int32} {cl : Cell} (hi : j.toInt = i) (hN : i < N) (r1 : cl.slots.size = N) : ¬ (j < 0 ∨ cl.slots.size ≤ j.toNatClampNeg) ∧ j.toNatClampNeg = i := by
  have e0 : (0 : Int32).toInt = 0 := rfl
  have e1 : j.toNatClampNeg = i := by simp only [Int32.toNatClampNeg, hi]; omega
  refine ⟨?_, e1⟩
  rw [e1, r1, Int32.lt_iff_toInt_lt, e0]; omega
theorem w_baload (X : Hr p l e R s m args below meth c n0 h cells slots T) (C : Cx p s m meth c code ml ret own nm Z a0 tabs) {pc N : Nat} {Ls : Array Slot} {a : Addr} {g : Nat → Int32} {j : Int32} {rest : List Value} (hd : decode code pc = .ok (.baload, 1)) (A : ArI Z h a .byte N g) (i : Nat) (hi : j.toInt = i) (hN : i < N) (K : Goes p e below s n0 P k n T (mkF m (pc + 1) Ls (.int (g i) :: rest))) : Goes p e below s n0 P k n T (mkF m pc Ls (.int j :: .ref a :: rest)) := by
  obtain ⟨locs, S, eT, N0, q0⟩ := X
  obtain ⟨cl, Ar, r1, r2⟩ := A
  obtain ⟨hin, e1⟩ := in_of (a := a) (ty := .byte) hi hN r1
  exact Goes.of (fun _ kk => S.baloadBytes C.1 (j := j) (v := .int (g i)) (by rw [eT]; exact Ar.1) (State.isArrayOf_alike C.2.2.2.2.2.2.2.1.alike Ar.2.1) Ar.2.2 hin (by rw [e1]; exact r2 i hN) (g := mkF m pc Ls (.int j :: .ref a :: rest)) rfl rfl (hb C.2.1 hd) _ kk) K
theorem w_iaload (X : Hr p l e R s m args below meth c n0 h cells slots T) (C : Cx p s m meth c code ml ret own nm Z a0 tabs) {pc N : Nat} {Ls : Array Slot} {a : Addr} {g : Nat → Int32} {j : Int32} {rest : List Value} (hd : decode code pc = .ok (.iaload, 1)) (A : ArI Z h a .int N g) (i : Nat) (hi : j.toInt = i) (hN : i < N) (K : Goes p e below s n0 P k n T (mkF m (pc + 1) Ls (.int (g i) :: rest))) : Goes p e below s n0 P k n T (mkF m pc Ls (.int j :: .ref a :: rest)) := by
  obtain ⟨locs, S, eT, N0, q0⟩ := X
  obtain ⟨cl, Ar, r1, r2⟩ := A
  obtain ⟨hin, e1⟩ := in_of (a := a) (ty := .int) hi hN r1
  exact Goes.of (fun _ kk => S.iaload C.1 (j := j) (v := .int (g i)) (by rw [eT]; exact Ar.1) (State.isArrayOf_alike C.2.2.2.2.2.2.2.1.alike Ar.2.1) Ar.2.2 hin (by rw [e1]; exact r2 i hN) (g := mkF m pc Ls (.int j :: .ref a :: rest)) rfl rfl (hb C.2.1 hd) _ kk) K
theorem w_laload (X : Hr p l e R s m args below meth c n0 h cells slots T) (C : Cx p s m meth c code ml ret own nm Z a0 tabs) {pc N : Nat} {Ls : Array Slot} {a : Addr} {g : Nat → Int64} {j : Int32} {rest : List Value} (hd : decode code pc = .ok (.laload, 1)) (A : ArJ Z h a N g) (i : Nat) (hi : j.toInt = i) (hN : i < N) (K : Goes p e below s n0 P k n T (mkF m (pc + 1) Ls (.long (g i) :: rest))) : Goes p e below s n0 P k n T (mkF m pc Ls (.int j :: .ref a :: rest)) := by
  obtain ⟨locs, S, eT, N0, q0⟩ := X
  obtain ⟨cl, Ar, r1, r2⟩ := A
  obtain ⟨hin, e1⟩ := in_of (a := a) (ty := .long) hi hN r1
  exact Goes.of (fun _ kk => S.laload C.1 (j := j) (v := .long (g i)) (by rw [eT]; exact Ar.1) (State.isArrayOf_alike C.2.2.2.2.2.2.2.1.alike Ar.2.1) Ar.2.2 hin (by rw [e1]; exact r2 i hN) (g := mkF m pc Ls (.int j :: .ref a :: rest)) rfl rfl (hb C.2.1 hd) _ kk) K
theorem w_bastore (X : Hr p l e R s m args below meth c n0 h cells slots T) (C : Cx p s m meth c code ml ret own nm Z a0 tabs) {pc N : Nat} {Ls : Array Slot} {a : Addr} {g : Nat → Int32} {j : Int32} {x : Int32} {rest : List Value} (hd : decode code pc = .ok (.bastore, 1)) (A : ArI Z h a .byte N g) (i : Nat) (hi : j.toInt = i) (hN : i < N) (ha : n0 ≤ a)
    (K : ∀ T' h', Hr p l e R s m args below meth c n0 h' cells slots T' → Wr h h' a i (.int (i8 x)) → ArI Z h' a .byte N (up g i (i8 x)) → Goes p e below s n0 P k n T' (mkF m (pc + 1) Ls rest)) : Goes p e below s n0 P k n T (mkF m pc Ls (.int x :: .int j :: .ref a :: rest)) := by
  obtain ⟨locs, S, eT, N0, q0⟩ := X
  obtain ⟨cl, Ar, r1, r2⟩ := A
  obtain ⟨hin, e1⟩ := in_of (a := a) (ty := .byte) hi hN r1
  obtain ⟨T', h', X', e', W', st⟩ := stB S C.1 C.2.2.2.2.2.2.2.1 eT Ar (j := j) hin (g := mkF m pc Ls (.int x :: .int j :: .ref a :: rest)) rfl rfl (hb C.2.1 hd)
  rw [e1] at W'
  refine Goes.of st (K T' h' ⟨_, X', e', Fr.snoc X' N0 ha, q0⟩ W' ?_)
  have q := ArV.same ⟨cl, Ar, r1, r2⟩ W'
  rw [← (show (fun i_1 => Value.int (up g i (i8 x) i_1)) = up (fun i => Value.int (g i)) i (.int (nar .byte x)) from up_int g i (i8 x))] at q
  exact q
theorem w_iastore (X : Hr p l e R s m args below meth c n0 h cells slots T) (C : Cx p s m meth c code ml ret own nm Z a0 tabs) {pc N : Nat} {Ls : Array Slot} {a : Addr} {g : Nat → Int32} {j : Int32} {x : Int32} {rest : List Value} (hd : decode code pc = .ok (.iastore, 1)) (A : ArI Z h a .int N g) (i : Nat) (hi : j.toInt = i) (hN : i < N) (ha : n0 ≤ a)
    (K : ∀ T' h', Hr p l e R s m args below meth c n0 h' cells slots T' → Wr h h' a i (.int (x)) → ArI Z h' a .int N (up g i (x)) → Goes p e below s n0 P k n T' (mkF m (pc + 1) Ls rest)) : Goes p e below s n0 P k n T (mkF m pc Ls (.int x :: .int j :: .ref a :: rest)) := by
  obtain ⟨locs, S, eT, N0, q0⟩ := X
  obtain ⟨cl, Ar, r1, r2⟩ := A
  obtain ⟨hin, e1⟩ := in_of (a := a) (ty := .int) hi hN r1
  obtain ⟨T', h', X', e', W', st⟩ := stI S C.1 C.2.2.2.2.2.2.2.1 eT Ar (j := j) hin (g := mkF m pc Ls (.int x :: .int j :: .ref a :: rest)) rfl rfl (hb C.2.1 hd)
  rw [e1] at W'
  refine Goes.of st (K T' h' ⟨_, X', e', Fr.snoc X' N0 ha, q0⟩ W' ?_)
  have q := ArV.same ⟨cl, Ar, r1, r2⟩ W'
  rw [← up_int] at q
  exact q
theorem w_lastore (X : Hr p l e R s m args below meth c n0 h cells slots T) (C : Cx p s m meth c code ml ret own nm Z a0 tabs) {pc N : Nat} {Ls : Array Slot} {a : Addr} {g : Nat → Int64} {j : Int32} {x : Int64} {rest : List Value} (hd : decode code pc = .ok (.lastore, 1)) (A : ArJ Z h a N g) (i : Nat) (hi : j.toInt = i) (hN : i < N) (ha : n0 ≤ a)
    (K : ∀ T' h', Hr p l e R s m args below meth c n0 h' cells slots T' → Wr h h' a i (.long (x)) → ArJ Z h' a N (up g i (x)) → Goes p e below s n0 P k n T' (mkF m (pc + 1) Ls rest)) : Goes p e below s n0 P k n T (mkF m pc Ls (.long x :: .int j :: .ref a :: rest)) := by
  obtain ⟨locs, S, eT, N0, q0⟩ := X
  obtain ⟨cl, Ar, r1, r2⟩ := A
  obtain ⟨hin, e1⟩ := in_of (a := a) (ty := .long) hi hN r1
  obtain ⟨T', h', X', e', W', st⟩ := stJ S C.1 C.2.2.2.2.2.2.2.1 eT Ar (j := j) hin (g := mkF m pc Ls (.long x :: .int j :: .ref a :: rest)) rfl rfl (hb C.2.1 hd)
  rw [e1] at W'
  refine Goes.of st (K T' h' ⟨_, X', e', Fr.snoc X' N0 ha, q0⟩ W' ?_)
  have q := ArV.same ⟨cl, Ar, r1, r2⟩ W'
  rw [← up_long] at q
  exact q
theorem w_arraylength (X : Hr p l e R s m args below meth c n0 h cells slots T) (C : Cx p s m meth c code ml ret own nm Z a0 tabs) {pc N : Nat} {Ls : Array Slot} {a : Addr} {ty : FieldType} {f : Nat → Value} {rest : List Value} (hd : decode code pc = .ok (.arraylength, 1)) (A : ArV Z h a ty N f) (K : Goes p e below s n0 P k n T (mkF m (pc + 1) Ls (.int N.toInt32 :: rest))) : Goes p e below s n0 P k n T (mkF m pc Ls (.ref a :: rest)) := by
  obtain ⟨locs, S, eT, N0, q0⟩ := X
  obtain ⟨cl, Ar, r1, r2⟩ := A
  subst r1
  exact Goes.of (fun _ kk => S.arraylength C.1 (by rw [eT]; exact Ar.1) (State.isArrayOf_alike C.2.2.2.2.2.2.2.1.alike Ar.2.1) (g := mkF m pc Ls (.ref a :: rest)) rfl rfl (hb C.2.1 hd) _ kk) K
theorem w_new_byte (X : Hr p l e R s m args below meth c n0 h cells slots T) (C : Cx p s m meth c code ml ret own nm Z a0 tabs) {pc : Nat} {Ls : Array Slot} {sz : Int32} {rest : List Value} (hd : decode code pc = .ok (.newarray .byte, 2)) (i1 : Jvm.Cond.arrayClass .byte ∈ tabs) (N : Nat) (hN : sz.toInt = N) (cap : Nat) (hcap : N ≤ cap) (hbig : cap * 8 ≤ 536870912) (hc : cells + 1 ≤ R.cells) (hl : slots + cap ≤ R.slots)
    (K : ∀ T' h' a, a = h.size → n0 ≤ a → Hr p l e R s m args below meth c n0 h' (cells + 1) (slots + cap) T' → Ext h h' → ArI Z h' a .byte N (fun _ => 0) → Goes p e below s n0 P k n T' (mkF m (pc + 2) Ls (.ref a :: rest))) : Goes p e below s n0 P k n T (mkF m pc Ls (.int sz :: rest)) := by
  have hsz := X.size
  obtain ⟨locs, S, eT, N0, q0⟩ := X
  have hw := C.2.2.2.2.2.2.2.2
  have e1 : sz.toNatClampNeg = N := by simp only [Int32.toNatClampNeg, hN]; omega
  have e2 : ¬ sz < 0 := by
    have e0 : (0 : Int32).toInt = 0 := rfl
    rw [Int32.lt_iff_toInt_lt, e0]; omega
  obtain ⟨T', h', kk', X', e', E', A', st⟩ := newP S C.1 C.2.2.2.2.2.2.2.1 (aty := .byte) (hw _ i1) eT (g := mkF m pc Ls (.int sz :: rest)) rfl (hb C.2.1 hd) rfl e2 (cap := cap) (by rw [e1]; exact hcap) hbig hc hl
  refine Goes.of st (K T' h' h.size rfl hsz ⟨_, X', e', N0, q0⟩ E' ⟨_, A', by rw [sz_new]; exact e1, fun i hi => ?_⟩)
  simp [newA, e1, hi, newarray.typeOf, defaultValue]
theorem w_new_int (X : Hr p l e R s m args below meth c n0 h cells slots T) (C : Cx p s m meth c code ml ret own nm Z a0 tabs) {pc : Nat} {Ls : Array Slot} {sz : Int32} {rest : List Value} (hd : decode code pc = .ok (.newarray .int, 2)) (i1 : Jvm.Cond.arrayClass .int ∈ tabs) (N : Nat) (hN : sz.toInt = N) (cap : Nat) (hcap : N ≤ cap) (hbig : cap * 8 ≤ 536870912) (hc : cells + 1 ≤ R.cells) (hl : slots + cap ≤ R.slots)
    (K : ∀ T' h' a, a = h.size → n0 ≤ a → Hr p l e R s m args below meth c n0 h' (cells + 1) (slots + cap) T' → Ext h h' → ArI Z h' a .int N (fun _ => 0) → Goes p e below s n0 P k n T' (mkF m (pc + 2) Ls (.ref a :: rest))) : Goes p e below s n0 P k n T (mkF m pc Ls (.int sz :: rest)) := by
  have hsz := X.size
  obtain ⟨locs, S, eT, N0, q0⟩ := X
  have hw := C.2.2.2.2.2.2.2.2
  have e1 : sz.toNatClampNeg = N := by simp only [Int32.toNatClampNeg, hN]; omega
  have e2 : ¬ sz < 0 := by
    have e0 : (0 : Int32).toInt = 0 := rfl
    rw [Int32.lt_iff_toInt_lt, e0]; omega
  obtain ⟨T', h', kk', X', e', E', A', st⟩ := newP S C.1 C.2.2.2.2.2.2.2.1 (aty := .int) (hw _ i1) eT (g := mkF m pc Ls (.int sz :: rest)) rfl (hb C.2.1 hd) rfl e2 (cap := cap) (by rw [e1]; exact hcap) hbig hc hl
  refine Goes.of st (K T' h' h.size rfl hsz ⟨_, X', e', N0, q0⟩ E' ⟨_, A', by rw [sz_new]; exact e1, fun i hi => ?_⟩)
  simp [newA, e1, hi, newarray.typeOf, defaultValue]
theorem w_new_long (X : Hr p l e R s m args below meth c n0 h cells slots T) (C : Cx p s m meth c code ml ret own nm Z a0 tabs) {pc : Nat} {Ls : Array Slot} {sz : Int32} {rest : List Value} (hd : decode code pc = .ok (.newarray .long, 2)) (i1 : Jvm.Cond.arrayClass .long ∈ tabs) (N : Nat) (hN : sz.toInt = N) (cap : Nat) (hcap : N ≤ cap) (hbig : cap * 8 ≤ 536870912) (hc : cells + 1 ≤ R.cells) (hl : slots + cap ≤ R.slots)
    (K : ∀ T' h' a, a = h.size → n0 ≤ a → Hr p l e R s m args below meth c n0 h' (cells + 1) (slots + cap) T' → Ext h h' → ArJ Z h' a N (fun _ => 0) → Goes p e below s n0 P k n T' (mkF m (pc + 2) Ls (.ref a :: rest))) : Goes p e below s n0 P k n T (mkF m pc Ls (.int sz :: rest)) := by
  have hsz := X.size
  obtain ⟨locs, S, eT, N0, q0⟩ := X
  have hw := C.2.2.2.2.2.2.2.2
  have e1 : sz.toNatClampNeg = N := by simp only [Int32.toNatClampNeg, hN]; omega
  have e2 : ¬ sz < 0 := by
    have e0 : (0 : Int32).toInt = 0 := rfl
    rw [Int32.lt_iff_toInt_lt, e0]; omega
  obtain ⟨T', h', kk', X', e', E', A', st⟩ := newP S C.1 C.2.2.2.2.2.2.2.1 (aty := .long) (hw _ i1) eT (g := mkF m pc Ls (.int sz :: rest)) rfl (hb C.2.1 hd) rfl e2 (cap := cap) (by rw [e1]; exact hcap) hbig hc hl
  refine Goes.of st (K T' h' h.size rfl hsz ⟨_, X', e', N0, q0⟩ E' ⟨_, A', by rw [sz_new]; exact e1, fun i hi => ?_⟩)
  simp [newA, e1, hi, newarray.typeOf, defaultValue]
end W
end Jvm.OwnW
namespace Jvm.Pilot.@@N@@
open Jvm Jvm.ClassFile Sem Op Lib Jvm.Free Jvm.Stand Jvm.LawKit Jvm.RoadKit Bundle Jvm.OwnW Jvm.Pilot.@@N@@.Jvm.D
theorem pn_0 : plainName "com/example/tracebed/tracebed/store/DictionaryHashPinLaw" = true := by first | (simp [plainName, overriddenIn]; done) | decide +kernel
theorem pn_1 : plainName "com/example/tracebed/tracebed/store/Dictionary" = true := by first | (simp [plainName, overriddenIn]; done) | decide +kernel
theorem pd_0 : parseMethodDescriptor "(JI)B" = some ⟨[.long, .int], some .byte⟩ := by decide +kernel
theorem pd_1 : parseMethodDescriptor "(I)I" = some ⟨[.int], some .int⟩ := by decide +kernel
theorem pd_2 : parseMethodDescriptor "([BIJ)V" = some ⟨[(.array .byte), .int, .long], none⟩ := by decide +kernel
theorem pd_3 : parseMethodDescriptor "([B)I" = some ⟨[(.array .byte)], some .int⟩ := by decide +kernel
theorem pd_4 : parseMethodDescriptor "(IIJ)I" = some ⟨[.int, .int, .long], some .int⟩ := by decide +kernel
def f5 (x0 : Int64) (x2 : Int32) : Int32 := (i8 (i8 ((ushrJ x0 ((8 : Int32) * x2))).toInt32))
theorem d5_0 : decode method_3_code 0 = .ok (.lload_n 0, 1) := by decide +kernel
theorem d5_1 : decode method_3_code 1 = .ok (.bipush 8, 2) := by decide +kernel
theorem d5_3 : decode method_3_code 3 = .ok (.iload_n 2, 1) := by decide +kernel
theorem d5_4 : decode method_3_code 4 = .ok (.imul, 1) := by decide +kernel
theorem d5_5 : decode method_3_code 5 = .ok (.lushr, 1) := by decide +kernel
theorem d5_6 : decode method_3_code 6 = .ok (.l2i, 1) := by decide +kernel
theorem d5_7 : decode method_3_code 7 = .ok (.i2b, 1) := by decide +kernel
theorem d5_8 : decode method_3_code 8 = .ok (.ireturn, 1) := by decide +kernel
set_option maxRecDepth 65536 in
set_option maxHeartbeats 4000000 in
theorem b5_0 {p : Program} {l : Launch} {e : Env} {s : State} {m : MethodId} {args : Array Value} {below : List Frame} {meth : Method} {c : Code} {T : State} {h : Heap} {n0 : Nat} {P : Option Value → Heap → Prop} {Z : State} {a0 : Array Value} (X : Hr p l e ({ frames := 0, cells := 0, slots := 0, locals := 0 } : Room) s m args below meth c n0 h 0 0 T) (C : Cx p s m meth c method_3_code 3 (some .byte) "com/example/tracebed/tracebed/store/DictionaryHashPinLaw" "at" Z a0 tables_1) (x0 : Int64) (x2 : Int32) (hP : P (some (.int (f5 x0 x2))) h) : Goes p e below s n0 P 0 0 T (mkF m 0 #[.val (.long x0), .second, .val (.int x2)] []) := by
  refine w_lloadN (pc := 0) X C d5_0 rfl ?_
  refine w_bipush (pc := 1) X C d5_1 (8 : Int32) rfl ?_
  refine w_iloadN (pc := 3) X C d5_3 rfl ?_
  refine w_imul (pc := 4) X C d5_4 ?_
  refine w_lushr (pc := 5) X C d5_5 ?_
  refine w_l2i (pc := 6) X C d5_6 ?_
  refine w_i2b (pc := 7) X C d5_7 ?_
  exact w_ret_byte (pc := 8) X C d5_8 (by unfold f5 at hP; exact hP)
theorem ct5 (l : Launch) {Z : State} {a0 : Array Value} (hw : ∀ d ∈ tables_1, d.before a0 Z = true) (h : Heap) {n0 : Nat} (hn : n0 ≤ h.size) (x0 : Int64) (x2 : Int32) : Ct l (⟨"com/example/tracebed/tracebed/store/DictionaryHashPinLaw", "at", "(JI)B"⟩ : MethodName) method_3_code 3 (some .byte) ({ frames := 0, cells := 0, slots := 0, locals := 0 } : Room) Z #[(.long x0), (.int x2)] h n0 (fun v h' => v = some (.int (f5 x0 x2)) ∧ h' = h) :=
  Ct.of (plainFor_of_name pn_0) #[.val (.long x0), .second, .val (.int x2)] (fun m => by first | (simp [entryFrame, mkF, argsToLocals, Value.category]; done) | rfl) hw hn (fun p e s m below meth c T C X => b5_0 X C x0 x2 ⟨rfl, rfl⟩)
def f6 (x0 : Int32) : Int32 := (if x0 = 0 then (1 : Int32) else (if x0 = (1 : Int32) then (31 : Int32) else (if x0 = (2 : Int32) then (961 : Int32) else (if x0 = (3 : Int32) then (29791 : Int32) else (if x0 = (4 : Int32) then (923521 : Int32) else (if x0 = (5 : Int32) then (28629151 : Int32) else (if x0 = (6 : Int32) then (887503681 : Int32) else (1742810335 : Int32))))))))
theorem d6_0 : decode method_5_code 0 = .ok (.iload_n 0, 1) := by decide +kernel
theorem d6_1 : decode method_5_code 1 = .ok (.ifCond .ne 5, 3) := by decide +kernel
theorem d6_4 : decode method_5_code 4 = .ok (.iconst 1, 1) := by decide +kernel
theorem d6_5 : decode method_5_code 5 = .ok (.ireturn, 1) := by decide +kernel
theorem d6_6 : decode method_5_code 6 = .ok (.iload_n 0, 1) := by decide +kernel
theorem d6_7 : decode method_5_code 7 = .ok (.iconst 1, 1) := by decide +kernel
theorem d6_8 : decode method_5_code 8 = .ok (.if_icmp .ne 6, 3) := by decide +kernel
theorem d6_11 : decode method_5_code 11 = .ok (.bipush 31, 2) := by decide +kernel
theorem d6_13 : decode method_5_code 13 = .ok (.ireturn, 1) := by decide +kernel
theorem d6_14 : decode method_5_code 14 = .ok (.iload_n 0, 1) := by decide +kernel
theorem d6_15 : decode method_5_code 15 = .ok (.iconst 2, 1) := by decide +kernel
theorem d6_16 : decode method_5_code 16 = .ok (.if_icmp .ne 7, 3) := by decide +kernel
theorem d6_19 : decode method_5_code 19 = .ok (.sipush 961, 3) := by decide +kernel
theorem d6_22 : decode method_5_code 22 = .ok (.ireturn, 1) := by decide +kernel
theorem d6_23 : decode method_5_code 23 = .ok (.iload_n 0, 1) := by decide +kernel
theorem d6_24 : decode method_5_code 24 = .ok (.iconst 3, 1) := by decide +kernel
theorem d6_25 : decode method_5_code 25 = .ok (.if_icmp .ne 7, 3) := by decide +kernel
theorem d6_28 : decode method_5_code 28 = .ok (.sipush 29791, 3) := by decide +kernel
theorem d6_31 : decode method_5_code 31 = .ok (.ireturn, 1) := by decide +kernel
theorem d6_32 : decode method_5_code 32 = .ok (.iload_n 0, 1) := by decide +kernel
theorem d6_33 : decode method_5_code 33 = .ok (.iconst 4, 1) := by decide +kernel
theorem d6_34 : decode method_5_code 34 = .ok (.if_icmp .ne 6, 3) := by decide +kernel
theorem d6_37 : decode method_5_code 37 = .ok (.ldc 32, 2) := by decide +kernel
theorem d6_39 : decode method_5_code 39 = .ok (.ireturn, 1) := by decide +kernel
theorem d6_40 : decode method_5_code 40 = .ok (.iload_n 0, 1) := by decide +kernel
theorem d6_41 : decode method_5_code 41 = .ok (.iconst 5, 1) := by decide +kernel
theorem d6_42 : decode method_5_code 42 = .ok (.if_icmp .ne 6, 3) := by decide +kernel
theorem d6_45 : decode method_5_code 45 = .ok (.ldc 33, 2) := by decide +kernel
theorem d6_47 : decode method_5_code 47 = .ok (.ireturn, 1) := by decide +kernel
theorem d6_48 : decode method_5_code 48 = .ok (.iload_n 0, 1) := by decide +kernel
theorem d6_49 : decode method_5_code 49 = .ok (.bipush 6, 2) := by decide +kernel
theorem d6_51 : decode method_5_code 51 = .ok (.if_icmp .ne 6, 3) := by decide +kernel
theorem d6_54 : decode method_5_code 54 = .ok (.ldc 34, 2) := by decide +kernel
theorem d6_56 : decode method_5_code 56 = .ok (.ireturn, 1) := by decide +kernel
theorem d6_57 : decode method_5_code 57 = .ok (.ldc 35, 2) := by decide +kernel
theorem d6_59 : decode method_5_code 59 = .ok (.ireturn, 1) := by decide +kernel
set_option maxRecDepth 65536 in
set_option maxHeartbeats 4000000 in
theorem b6_0 {p : Program} {l : Launch} {e : Env} {s : State} {m : MethodId} {args : Array Value} {below : List Frame} {meth : Method} {c : Code} {T : State} {h : Heap} {n0 : Nat} {P : Option Value → Heap → Prop} {Z : State} {a0 : Array Value} (X : Hr p l e ({ frames := 0, cells := 0, slots := 0, locals := 0 } : Room) s m args below meth c n0 h 0 0 T) (C : Cx p s m meth c method_5_code 1 (some .int) "com/example/tracebed/tracebed/store/DictionaryHashPinLaw" "power" Z a0 tables_1) (x0 : Int32) (hP : P (some (.int (f6 x0))) h) : Goes p e below s n0 P 0 0 T (mkF m 0 #[.val (.int x0)] []) := by
  refine w_iloadN (pc := 0) X C d6_0 rfl ?_
  refine w_if_ne (pc := 1) X C d6_1 6 (by decide) (fun q1 => ?_) (fun q1 => ?_)
  · -- yes
    refine w_iloadN (pc := 6) X C d6_6 rfl ?_
    refine w_iconst (pc := 7) X C d6_7 (1 : Int32) rfl ?_
    refine w_icmp_ne (pc := 8) X C d6_8 14 (by decide) (fun q2 => ?_) (fun q2 => ?_)
    · -- yes
      refine w_iloadN (pc := 14) X C d6_14 rfl ?_
      refine w_iconst (pc := 15) X C d6_15 (2 : Int32) rfl ?_
      refine w_icmp_ne (pc := 16) X C d6_16 23 (by decide) (fun q3 => ?_) (fun q3 => ?_)
      · -- yes
        refine w_iloadN (pc := 23) X C d6_23 rfl ?_
        refine w_iconst (pc := 24) X C d6_24 (3 : Int32) rfl ?_
        refine w_icmp_ne (pc := 25) X C d6_25 32 (by decide) (fun q4 => ?_) (fun q4 => ?_)
        · -- yes
          refine w_iloadN (pc := 32) X C d6_32 rfl ?_
          refine w_iconst (pc := 33) X C d6_33 (4 : Int32) rfl ?_
          refine w_icmp_ne (pc := 34) X C d6_34 40 (by decide) (fun q5 => ?_) (fun q5 => ?_)
          · -- yes
            refine w_iloadN (pc := 40) X C d6_40 rfl ?_
            refine w_iconst (pc := 41) X C d6_41 (5 : Int32) rfl ?_
            refine w_icmp_ne (pc := 42) X C d6_42 48 (by decide) (fun q6 => ?_) (fun q6 => ?_)
            · -- yes
              refine w_iloadN (pc := 48) X C d6_48 rfl ?_
              refine w_bipush (pc := 49) X C d6_49 (6 : Int32) rfl ?_
              refine w_icmp_ne (pc := 51) X C d6_51 57 (by decide) (fun q7 => ?_) (fun q7 => ?_)
              · -- yes
                refine w_ldcI (pc := 57) X C d6_57 (v := (1742810335 : Int32)) (List.mem_of_getElem? (i := 29) rfl) ?_
                exact w_retI (pc := 59) X C d6_59 (by unfold f6 at hP; rw [if_neg q1, if_neg q2, if_neg q3, if_neg q4, if_neg q5, if_neg q6, if_neg q7] at hP; exact hP)
              · -- no
                refine w_ldcI (pc := 54) X C d6_54 (v := (887503681 : Int32)) (List.mem_of_getElem? (i := 26) rfl) ?_
                exact w_retI (pc := 56) X C d6_56 (by unfold f6 at hP; rw [if_neg q1, if_neg q2, if_neg q3, if_neg q4, if_neg q5, if_neg q6, if_pos q7] at hP; exact hP)
            · -- no
              refine w_ldcI (pc := 45) X C d6_45 (v := (28629151 : Int32)) (List.mem_of_getElem? (i := 27) rfl) ?_
              exact w_retI (pc := 47) X C d6_47 (by unfold f6 at hP; rw [if_neg q1, if_neg q2, if_neg q3, if_neg q4, if_neg q5, if_pos q6] at hP; exact hP)
          · -- no
            refine w_ldcI (pc := 37) X C d6_37 (v := (923521 : Int32)) (List.mem_of_getElem? (i := 28) rfl) ?_
            exact w_retI (pc := 39) X C d6_39 (by unfold f6 at hP; rw [if_neg q1, if_neg q2, if_neg q3, if_neg q4, if_pos q5] at hP; exact hP)
        · -- no
          refine w_sipush (pc := 28) X C d6_28 (29791 : Int32) rfl ?_
          exact w_retI (pc := 31) X C d6_31 (by unfold f6 at hP; rw [if_neg q1, if_neg q2, if_neg q3, if_pos q4] at hP; exact hP)
      · -- no
        refine w_sipush (pc := 19) X C d6_19 (961 : Int32) rfl ?_
        exact w_retI (pc := 22) X C d6_22 (by unfold f6 at hP; rw [if_neg q1, if_neg q2, if_pos q3] at hP; exact hP)
    · -- no
      refine w_bipush (pc := 11) X C d6_11 (31 : Int32) rfl ?_
      exact w_retI (pc := 13) X C d6_13 (by unfold f6 at hP; rw [if_neg q1, if_pos q2] at hP; exact hP)
  · -- no
    refine w_iconst (pc := 4) X C d6_4 (1 : Int32) rfl ?_
    exact w_retI (pc := 5) X C d6_5 (by unfold f6 at hP; rw [if_pos q1] at hP; exact hP)
theorem ct6 (l : Launch) {Z : State} {a0 : Array Value} (hw : ∀ d ∈ tables_1, d.before a0 Z = true) (h : Heap) {n0 : Nat} (hn : n0 ≤ h.size) (x0 : Int32) : Ct l (⟨"com/example/tracebed/tracebed/store/DictionaryHashPinLaw", "power", "(I)I"⟩ : MethodName) method_5_code 1 (some .int) ({ frames := 0, cells := 0, slots := 0, locals := 0 } : Room) Z #[(.int x0)] h n0 (fun v h' => v = some (.int (f6 x0)) ∧ h' = h) :=
  Ct.of (plainFor_of_name pn_0) #[.val (.int x0)] (fun m => by first | (simp [entryFrame, mkF, argsToLocals, Value.category]; done) | rfl) hw hn (fun p e s m below meth c T C X => b6_0 X C x0 ⟨rfl, rfl⟩)
def f4 (x0 : Int32) : Int32 := ((((((x0 ^^^ (ushrI x0 (16 : Int32))) * (2127672349 : Int32)) ^^^ (ushrI ((x0 ^^^ (ushrI x0 (16 : Int32))) * (2127672349 : Int32)) (13 : Int32))) ^^^ (ushrI ((x0 ^^^ (ushrI x0 (16 : Int32))) * (2127672349 : Int32)) (26 : Int32))) * (-1513385405 : Int32)) ^^^ (ushrI (((((x0 ^^^ (ushrI x0 (16 : Int32))) * (2127672349 : Int32)) ^^^ (ushrI ((x0 ^^^ (ushrI x0 (16 : Int32))) * (2127672349 : Int32)) (13 : Int32))) ^^^ (ushrI ((x0 ^^^ (ushrI x0 (16 : Int32))) * (2127672349 : Int32)) (26 : Int32))) * (-1513385405 : Int32)) (16 : Int32)))
theorem d4_0 : decode method_7_code 0 = .ok (.iload_n 0, 1) := by decide +kernel
theorem d4_1 : decode method_7_code 1 = .ok (.iload_n 0, 1) := by decide +kernel
theorem d4_2 : decode method_7_code 2 = .ok (.bipush 16, 2) := by decide +kernel
theorem d4_4 : decode method_7_code 4 = .ok (.iushr, 1) := by decide +kernel
theorem d4_5 : decode method_7_code 5 = .ok (.ixor, 1) := by decide +kernel
theorem d4_6 : decode method_7_code 6 = .ok (.istore_n 1, 1) := by decide +kernel
theorem d4_7 : decode method_7_code 7 = .ok (.iload_n 1, 1) := by decide +kernel
theorem d4_8 : decode method_7_code 8 = .ok (.ldc 39, 2) := by decide +kernel
theorem d4_10 : decode method_7_code 10 = .ok (.imul, 1) := by decide +kernel
theorem d4_11 : decode method_7_code 11 = .ok (.istore_n 1, 1) := by decide +kernel
theorem d4_12 : decode method_7_code 12 = .ok (.iload_n 1, 1) := by decide +kernel
theorem d4_13 : decode method_7_code 13 = .ok (.iload_n 1, 1) := by decide +kernel
theorem d4_14 : decode method_7_code 14 = .ok (.bipush 13, 2) := by decide +kernel
theorem d4_16 : decode method_7_code 16 = .ok (.iushr, 1) := by decide +kernel
theorem d4_17 : decode method_7_code 17 = .ok (.ixor, 1) := by decide +kernel
theorem d4_18 : decode method_7_code 18 = .ok (.iload_n 1, 1) := by decide +kernel
theorem d4_19 : decode method_7_code 19 = .ok (.bipush 26, 2) := by decide +kernel
theorem d4_21 : decode method_7_code 21 = .ok (.iushr, 1) := by decide +kernel
theorem d4_22 : decode method_7_code 22 = .ok (.ixor, 1) := by decide +kernel
theorem d4_23 : decode method_7_code 23 = .ok (.istore_n 1, 1) := by decide +kernel
theorem d4_24 : decode method_7_code 24 = .ok (.iload_n 1, 1) := by decide +kernel
theorem d4_25 : decode method_7_code 25 = .ok (.ldc 40, 2) := by decide +kernel
theorem d4_27 : decode method_7_code 27 = .ok (.imul, 1) := by decide +kernel
theorem d4_28 : decode method_7_code 28 = .ok (.istore_n 1, 1) := by decide +kernel
theorem d4_29 : decode method_7_code 29 = .ok (.iload_n 1, 1) := by decide +kernel
theorem d4_30 : decode method_7_code 30 = .ok (.iload_n 1, 1) := by decide +kernel
theorem d4_31 : decode method_7_code 31 = .ok (.bipush 16, 2) := by decide +kernel
theorem d4_33 : decode method_7_code 33 = .ok (.iushr, 1) := by decide +kernel
theorem d4_34 : decode method_7_code 34 = .ok (.ixor, 1) := by decide +kernel
theorem d4_35 : decode method_7_code 35 = .ok (.ireturn, 1) := by decide +kernel
set_option maxRecDepth 65536 in
set_option maxHeartbeats 4000000 in
theorem b4_0 {p : Program} {l : Launch} {e : Env} {s : State} {m : MethodId} {args : Array Value} {below : List Frame} {meth : Method} {c : Code} {T : State} {h : Heap} {n0 : Nat} {P : Option Value → Heap → Prop} {Z : State} {a0 : Array Value} (X : Hr p l e ({ frames := 0, cells := 0, slots := 0, locals := 0 } : Room) s m args below meth c n0 h 0 0 T) (C : Cx p s m meth c method_7_code 2 (some .int) "com/example/tracebed/tracebed/store/DictionaryHashPinLaw" "unmix" Z a0 tables_1) (x0 : Int32) (hP : P (some (.int (f4 x0))) h) : Goes p e below s n0 P 0 0 T (mkF m 0 #[.val (.int x0), .unset] []) := by
  refine w_iloadN (pc := 0) X C d4_0 rfl ?_
  refine w_iloadN (pc := 1) X C d4_1 rfl ?_
  refine w_bipush (pc := 2) X C d4_2 (16 : Int32) rfl ?_
  refine w_iushr (pc := 4) X C d4_4 ?_
  refine w_ixor (pc := 5) X C d4_5 ?_
  refine w_istoreN (pc := 6) X C d4_6 #[.val (.int x0), .val (.int (x0 ^^^ (ushrI x0 (16 : Int32))))] rfl ?_
  refine w_iloadN (pc := 7) X C d4_7 rfl ?_
  refine w_ldcI (pc := 8) X C d4_8 (v := (2127672349 : Int32)) (List.mem_of_getElem? (i := 18) rfl) ?_
  refine w_imul (pc := 10) X C d4_10 ?_
  refine w_istoreN (pc := 11) X C d4_11 #[.val (.int x0), .val (.int ((x0 ^^^ (ushrI x0 (16 : Int32))) * (2127672349 : Int32)))] rfl ?_
  refine w_iloadN (pc := 12) X C d4_12 rfl ?_
  refine w_iloadN (pc := 13) X C d4_13 rfl ?_
  refine w_bipush (pc := 14) X C d4_14 (13 : Int32) rfl ?_
  refine w_iushr (pc := 16) X C d4_16 ?_
  refine w_ixor (pc := 17) X C d4_17 ?_
  refine w_iloadN (pc := 18) X C d4_18 rfl ?_
  refine w_bipush (pc := 19) X C d4_19 (26 : Int32) rfl ?_
  refine w_iushr (pc := 21) X C d4_21 ?_
  refine w_ixor (pc := 22) X C d4_22 ?_
  refine w_istoreN (pc := 23) X C d4_23 #[.val (.int x0), .val (.int ((((x0 ^^^ (ushrI x0 (16 : Int32))) * (2127672349 : Int32)) ^^^ (ushrI ((x0 ^^^ (ushrI x0 (16 : Int32))) * (2127672349 : Int32)) (13 : Int32))) ^^^ (ushrI ((x0 ^^^ (ushrI x0 (16 : Int32))) * (2127672349 : Int32)) (26 : Int32))))] rfl ?_
  refine w_iloadN (pc := 24) X C d4_24 rfl ?_
  refine w_ldcI (pc := 25) X C d4_25 (v := (-1513385405 : Int32)) (List.mem_of_getElem? (i := 19) rfl) ?_
  refine w_imul (pc := 27) X C d4_27 ?_
  refine w_istoreN (pc := 28) X C d4_28 #[.val (.int x0), .val (.int (((((x0 ^^^ (ushrI x0 (16 : Int32))) * (2127672349 : Int32)) ^^^ (ushrI ((x0 ^^^ (ushrI x0 (16 : Int32))) * (2127672349 : Int32)) (13 : Int32))) ^^^ (ushrI ((x0 ^^^ (ushrI x0 (16 : Int32))) * (2127672349 : Int32)) (26 : Int32))) * (-1513385405 : Int32)))] rfl ?_
  refine w_iloadN (pc := 29) X C d4_29 rfl ?_
  refine w_iloadN (pc := 30) X C d4_30 rfl ?_
  refine w_bipush (pc := 31) X C d4_31 (16 : Int32) rfl ?_
  refine w_iushr (pc := 33) X C d4_33 ?_
  refine w_ixor (pc := 34) X C d4_34 ?_
  exact w_retI (pc := 35) X C d4_35 (by unfold f4 at hP; exact hP)
theorem ct4 (l : Launch) {Z : State} {a0 : Array Value} (hw : ∀ d ∈ tables_1, d.before a0 Z = true) (h : Heap) {n0 : Nat} (hn : n0 ≤ h.size) (x0 : Int32) : Ct l (⟨"com/example/tracebed/tracebed/store/DictionaryHashPinLaw", "unmix", "(I)I"⟩ : MethodName) method_7_code 2 (some .int) ({ frames := 0, cells := 0, slots := 0, locals := 0 } : Room) Z #[(.int x0)] h n0 (fun v h' => v = some (.int (f4 x0)) ∧ h' = h) :=
  Ct.of (plainFor_of_name pn_0) #[.val (.int x0), .unset] (fun m => by first | (simp [entryFrame, mkF, argsToLocals, Value.category]; done) | rfl) hw hn (fun p e s m below meth c T C X => b4_0 X C x0 ⟨rfl, rfl⟩)
def f3 (x0 : Int32) (x1 : Int32) (x2 : Int64) : Int32 := (if x1 < x0 then ((f5 x2 x1) * (f6 ((x0 - (1 : Int32)) - x1))) else (0 : Int32))
theorem d3_0 : decode method_6_code 0 = .ok (.iload_n 1, 1) := by decide +kernel
theorem d3_1 : decode method_6_code 1 = .ok (.iload_n 0, 1) := by decide +kernel
theorem d3_2 : decode method_6_code 2 = .ok (.if_icmp .ge 20, 3) := by decide +kernel
theorem d3_5 : decode method_6_code 5 = .ok (.lload_n 2, 1) := by decide +kernel
theorem d3_6 : decode method_6_code 6 = .ok (.iload_n 1, 1) := by decide +kernel
theorem d3_7 : decode method_6_code 7 = .ok (.invokestatic 28, 3) := by decide +kernel
theorem d3_10 : decode method_6_code 10 = .ok (.iload_n 0, 1) := by decide +kernel
theorem d3_11 : decode method_6_code 11 = .ok (.iconst 1, 1) := by decide +kernel
theorem d3_12 : decode method_6_code 12 = .ok (.isub, 1) := by decide +kernel
theorem d3_13 : decode method_6_code 13 = .ok (.iload_n 1, 1) := by decide +kernel
theorem d3_14 : decode method_6_code 14 = .ok (.isub, 1) := by decide +kernel
theorem d3_15 : decode method_6_code 15 = .ok (.invokestatic 36, 3) := by decide +kernel
theorem d3_18 : decode method_6_code 18 = .ok (.imul, 1) := by decide +kernel
theorem d3_19 : decode method_6_code 19 = .ok (.goto 4, 3) := by decide +kernel
theorem d3_22 : decode method_6_code 22 = .ok (.iconst 0, 1) := by decide +kernel
theorem d3_23 : decode method_6_code 23 = .ok (.ireturn, 1) := by decide +kernel
set_option maxRecDepth 65536 in
set_option maxHeartbeats 4000000 in
theorem b3_0 {p : Program} {l : Launch} {e : Env} {s : State} {m : MethodId} {args : Array Value} {below : List Frame} {meth : Method} {c : Code} {T : State} {h : Heap} {n0 : Nat} {P : Option Value → Heap → Prop} {Z : State} {a0 : Array Value} (X : Hr p l e ({ frames := 1, cells := 0, slots := 0, locals := 14 } : Room) s m args below meth c n0 h 0 0 T) (C : Cx p s m meth c method_6_code 4 (some .int) "com/example/tracebed/tracebed/store/DictionaryHashPinLaw" "term" Z a0 tables_1) (x0 : Int32) (x1 : Int32) (x2 : Int64) (hP : P (some (.int (f3 x0 x1 x2))) h) : Goes p e below s n0 P 0 0 T (mkF m 0 #[.val (.int x0), .val (.int x1), .val (.long x2), .second] []) := by
  refine w_iloadN (pc := 0) X C d3_0 rfl ?_
  refine w_iloadN (pc := 1) X C d3_1 rfl ?_
  refine w_icmp_ge (pc := 2) X C d3_2 22 (by decide) (fun q1 => ?_) (fun q1 => ?_)
  · -- yes
    refine w_iconst (pc := 22) X C d3_22 (0 : Int32) rfl ?_
    exact w_retI (pc := 23) X C d3_23 (by unfold f3 at hP; rw [if_neg q1] at hP; exact hP)
  · -- no
    refine w_lloadN (pc := 5) X C d3_5 rfl ?_
    refine w_iloadN (pc := 6) X C d3_6 rfl ?_
    refine w_callP (pc := 7) X C (y := (⟨"com/example/tracebed/tracebed/store/DictionaryHashPinLaw", "at", "(JI)B"⟩ : MethodName)) (bytes := method_3_code) (maxL := 3) (rt := some .byte) (argsL := [(.long x2), (.int x1)]) (rest := []) (w := .int (f5 x2 x1)) (W := 0) d3_7 (List.mem_of_getElem? (i := 20) rfl) (List.mem_of_getElem? (i := 21) rfl) (List.mem_of_getElem? (i := 4) rfl) (List.mem_of_getElem? (i := 22) rfl) (by decide) (ct5 l C.2.2.2.2.2.2.2.2 _ X.size (x2) (x1)) rfl rfl rfl ⟨_, _, pd_0, rfl⟩ rfl (Nat.le_of_eq rfl) (by decide) (by decide) (by decide) (by decide) (fun T3 X2 => ?_)
    refine w_iloadN (pc := 10) X2 C d3_10 rfl ?_
    refine w_iconst (pc := 11) X2 C d3_11 (1 : Int32) rfl ?_
    refine w_isub (pc := 12) X2 C d3_12 ?_
    refine w_iloadN (pc := 13) X2 C d3_13 rfl ?_
    refine w_isub (pc := 14) X2 C d3_14 ?_
    refine w_callP (pc := 15) X2 C (y := (⟨"com/example/tracebed/tracebed/store/DictionaryHashPinLaw", "power", "(I)I"⟩ : MethodName)) (bytes := method_5_code) (maxL := 1) (rt := some .int) (argsL := [(.int ((x0 - (1 : Int32)) - x1))]) (rest := [(.int (f5 x2 x1))]) (w := .int (f6 ((x0 - (1 : Int32)) - x1))) (W := 1) d3_15 (List.mem_of_getElem? (i := 23) rfl) (List.mem_of_getElem? (i := 24) rfl) (List.mem_of_getElem? (i := 4) rfl) (List.mem_of_getElem? (i := 25) rfl) (by decide) (ct6 l C.2.2.2.2.2.2.2.2 _ X2.size (((x0 - (1 : Int32)) - x1))) rfl rfl rfl ⟨_, _, pd_1, rfl⟩ rfl (Nat.le_of_eq rfl) (by decide) (by decide) (by decide) (by decide) (fun T5 X4 => ?_)
    refine w_imul (pc := 18) X4 C d3_18 ?_
    refine w_goto (pc := 19) X4 C d3_19 23 (by decide) ?_
    exact w_retI (pc := 23) X4 C d3_23 (by unfold f3 at hP; rw [if_pos q1] at hP; exact hP)
theorem ct3 (l : Launch) {Z : State} {a0 : Array Value} (hw : ∀ d ∈ tables_1, d.before a0 Z = true) (h : Heap) {n0 : Nat} (hn : n0 ≤ h.size) (x0 : Int32) (x1 : Int32) (x2 : Int64) : Ct l (⟨"com/example/tracebed/tracebed/store/DictionaryHashPinLaw", "term", "(IIJ)I"⟩ : MethodName) method_6_code 4 (some .int) ({ frames := 1, cells := 0, slots := 0, locals := 14 } : Room) Z #[(.int x0), (.int x1), (.long x2)] h n0 (fun v h' => v = some (.int (f3 x0 x1 x2)) ∧ h' = h) :=
  Ct.of (plainFor_of_name pn_0) #[.val (.int x0), .val (.int x1), .val (.long x2), .second] (fun m => by first | (simp [entryFrame, mkF, argsToLocals, Value.category]; done) | rfl) hw hn (fun p e s m below meth c T C X => b3_0 X C x0 x1 x2 ⟨rfl, rfl⟩)
theorem d1_0 : decode method_4_code 0 = .ok (.iload_n 1, 1) := by decide +kernel
theorem d1_1 : decode method_4_code 1 = .ok (.aload_n 0, 1) := by decide +kernel
theorem d1_2 : decode method_4_code 2 = .ok (.arraylength, 1) := by decide +kernel
theorem d1_3 : decode method_4_code 3 = .ok (.if_icmp .ge 11, 3) := by decide +kernel
theorem d1_6 : decode method_4_code 6 = .ok (.aload_n 0, 1) := by decide +kernel
theorem d1_7 : decode method_4_code 7 = .ok (.iload_n 1, 1) := by decide +kernel
theorem d1_8 : decode method_4_code 8 = .ok (.lload_n 2, 1) := by decide +kernel
theorem d1_9 : decode method_4_code 9 = .ok (.iload_n 1, 1) := by decide +kernel
theorem d1_10 : decode method_4_code 10 = .ok (.invokestatic 28, 3) := by decide +kernel
theorem d1_13 : decode method_4_code 13 = .ok (.bastore, 1) := by decide +kernel
theorem d1_14 : decode method_4_code 14 = .ok (.return_, 1) := by decide +kernel
set_option maxRecDepth 65536 in
set_option maxHeartbeats 40000000 in
theorem bw1 {p : Program} {l : Launch} {e : Env} {s : State} {m : MethodId} {args : Array Value} {below : List Frame} {meth : Method} {c : Code} {T : State} {h : Heap} {n0 : Nat} {Z : State} {a0 : Array Value} (X : Hr p l e ({ frames := 1, cells := 0, slots := 0, locals := 16 } : Room) s m args below meth c n0 h 0 0 T) (C : Cx p s m meth c method_4_code 4 none "com/example/tracebed/tracebed/store/DictionaryHashPinLaw" "put" Z a0 tables_1) (x0 : Addr) (x1 : Int32) (x2 : Int64) (N : Nat) (g : Nat → Int32) (A0 : ArI Z h x0 .byte N g) (hN : N ≤ 8) (h1 : 0 ≤ x1.toInt) (g0 : n0 ≤ x0) : Goes p e below s n0 (fun v h' => v = none ∧ Keep h h' [x0] ∧ ArI Z h' x0 .byte N (if x1 < Nat.toInt32 N then up g (nt x1) (i8 (f5 x2 x1)) else g)) 0 0 T (mkF m 0 #[.val (.ref x0), .val (.int x1), .val (.long x2), .second] []) := by
  refine w_iloadN (pc := 0) X C d1_0 rfl ?_
  refine w_aloadN (pc := 1) X C d1_1 rfl rfl ?_
  refine w_arraylength (pc := 2) X C d1_2 A0 ?_
  refine w_icmp_ge (pc := 3) X C d1_3 14 (by decide) (fun q1 => ?_) (fun q1 => ?_)
  · -- yes
    exact w_retV (pc := 14) X C d1_14 ⟨rfl, Keep.refl h [x0], by rw [if_neg q1]; exact A0⟩
  · -- no
    refine w_aloadN (pc := 6) X C d1_6 rfl rfl ?_
    refine w_iloadN (pc := 7) X C d1_7 rfl ?_
    refine w_lloadN (pc := 8) X C d1_8 rfl ?_
    refine w_iloadN (pc := 9) X C d1_9 rfl ?_
    refine w_callP (pc := 10) X C (y := (⟨"com/example/tracebed/tracebed/store/DictionaryHashPinLaw", "at", "(JI)B"⟩ : MethodName)) (bytes := method_3_code) (maxL := 3) (rt := some .byte) (argsL := [(.long x2), (.int x1)]) (rest := [(.int x1), (.ref x0)]) (w := .int (f5 x2 x1)) (W := 2) d1_10 (List.mem_of_getElem? (i := 20) rfl) (List.mem_of_getElem? (i := 21) rfl) (List.mem_of_getElem? (i := 4) rfl) (List.mem_of_getElem? (i := 22) rfl) (by decide) (ct5 l C.2.2.2.2.2.2.2.2 _ X.size (x2) (x1)) rfl rfl rfl ⟨_, _, pd_0, rfl⟩ rfl (Nat.le_of_eq rfl) (by decide) (by decide) (by decide) (by decide) (fun T3 X2 => ?_)
    have lq := Int32.lt_iff_toInt_lt.mp q1
    rw [len_toInt (by omega)] at lq
    refine w_bastore (pc := 13) X2 C d1_13 A0 (nt x1) (nt_eq h1) (nt_lt lq (by omega)) g0 (fun T4 h4 X4 W4 A4 => ?_)
    obtain ⟨g4, hg4⟩ : ∃ z, z = up g (nt x1) (i8 (f5 x2 x1)) := ⟨_, rfl⟩
    rw [← hg4] at A4
    have K5 : Keep h h4 [x0] := (Keep.refl h [x0]).wr W4 (Or.inl (List.mem_of_getElem? (i := 0) rfl))
    exact w_retV (pc := 14) X4 C d1_14 ⟨rfl, K5, by rw [if_pos q1, ← hg4]; exact A4⟩
theorem ct1 (l : Launch) {Z : State} {a0 : Array Value} (hw : ∀ d ∈ tables_1, d.before a0 Z = true) (h : Heap) {n0 : Nat} (hn : n0 ≤ h.size) (x0 : Addr) (x1 : Int32) (x2 : Int64) (N : Nat) (g : Nat → Int32) (A0 : ArI Z h x0 .byte N g) (hN : N ≤ 8) (h1 : 0 ≤ x1.toInt) (g0 : n0 ≤ x0) : Ct l (⟨"com/example/tracebed/tracebed/store/DictionaryHashPinLaw", "put", "([BIJ)V"⟩ : MethodName) method_4_code 4 none ({ frames := 1, cells := 0, slots := 0, locals := 16 } : Room) Z #[(.ref x0), (.int x1), (.long x2)] h n0 (fun v h' => v = none ∧ Keep h h' [x0] ∧ ArI Z h' x0 .byte N (if x1 < Nat.toInt32 N then up g (nt x1) (i8 (f5 x2 x1)) else g)) :=
  Ct.of (plainFor_of_name pn_0) #[.val (.ref x0), .val (.int x1), .val (.long x2), .second] (fun m => by first | (simp [entryFrame, mkF, argsToLocals, Value.category]; done) | rfl) hw hn (fun p e s m below meth c T C X => bw1 X C x0 x1 x2 N g A0 hN h1 g0)
def F2_10 (x3 : Int32) (g_x0 : Nat → Int32) : Nat → Int32 → Int32 → Int32
  | 0, x1, x4 => (((((x1 ^^^ (ushrI x1 (16 : Int32))) * (-2048144789 : Int32)) ^^^ (ushrI ((x1 ^^^ (ushrI x1 (16 : Int32))) * (-2048144789 : Int32)) (13 : Int32))) * (-1028477387 : Int32)) ^^^ (ushrI ((((x1 ^^^ (ushrI x1 (16 : Int32))) * (-2048144789 : Int32)) ^^^ (ushrI ((x1 ^^^ (ushrI x1 (16 : Int32))) * (-2048144789 : Int32)) (13 : Int32))) * (-1028477387 : Int32)) (16 : Int32)))
  | k + 1, x1, x4 => (if x4 < x3 then (F2_10 x3 g_x0 k (((31 : Int32) * x1) + (g_x0 (nt x4))) (x4 + (1 : Int32))) else (((((x1 ^^^ (ushrI x1 (16 : Int32))) * (-2048144789 : Int32)) ^^^ (ushrI ((x1 ^^^ (ushrI x1 (16 : Int32))) * (-2048144789 : Int32)) (13 : Int32))) * (-1028477387 : Int32)) ^^^ (ushrI ((((x1 ^^^ (ushrI x1 (16 : Int32))) * (-2048144789 : Int32)) ^^^ (ushrI ((x1 ^^^ (ushrI x1 (16 : Int32))) * (-2048144789 : Int32)) (13 : Int32))) * (-1028477387 : Int32)) (16 : Int32))))
theorem F2_10_z (x3 : Int32) (g_x0 : Nat → Int32) (x1 : Int32) (x4 : Int32) : F2_10 x3 g_x0 0 x1 x4 = (((((x1 ^^^ (ushrI x1 (16 : Int32))) * (-2048144789 : Int32)) ^^^ (ushrI ((x1 ^^^ (ushrI x1 (16 : Int32))) * (-2048144789 : Int32)) (13 : Int32))) * (-1028477387 : Int32)) ^^^ (ushrI ((((x1 ^^^ (ushrI x1 (16 : Int32))) * (-2048144789 : Int32)) ^^^ (ushrI ((x1 ^^^ (ushrI x1 (16 : Int32))) * (-2048144789 : Int32)) (13 : Int32))) * (-1028477387 : Int32)) (16 : Int32))) := rfl
theorem F2_10_s (x3 : Int32) (g_x0 : Nat → Int32) (k : Nat) (x1 : Int32) (x4 : Int32) : F2_10 x3 g_x0 (k + 1) x1 x4 = (if x4 < x3 then (F2_10 x3 g_x0 k (((31 : Int32) * x1) + (g_x0 (nt x4))) (x4 + (1 : Int32))) else (((((x1 ^^^ (ushrI x1 (16 : Int32))) * (-2048144789 : Int32)) ^^^ (ushrI ((x1 ^^^ (ushrI x1 (16 : Int32))) * (-2048144789 : Int32)) (13 : Int32))) * (-1028477387 : Int32)) ^^^ (ushrI ((((x1 ^^^ (ushrI x1 (16 : Int32))) * (-2048144789 : Int32)) ^^^ (ushrI ((x1 ^^^ (ushrI x1 (16 : Int32))) * (-2048144789 : Int32)) (13 : Int32))) * (-1028477387 : Int32)) (16 : Int32)))) := rfl
def f2 (N : Nat) (g_x0 : Nat → Int32) : Int32 := (F2_10 (Nat.toInt32 N) g_x0 8 (0 : Int32) (0 : Int32))
theorem d2_0 : decode prog_129_method_11_code 0 = .ok (.iconst 0, 1) := by decide +kernel
theorem d2_1 : decode prog_129_method_11_code 1 = .ok (.istore_n 1, 1) := by decide +kernel
theorem d2_2 : decode prog_129_method_11_code 2 = .ok (.aload_n 0, 1) := by decide +kernel
theorem d2_3 : decode prog_129_method_11_code 3 = .ok (.astore_n 2, 1) := by decide +kernel
theorem d2_4 : decode prog_129_method_11_code 4 = .ok (.aload_n 2, 1) := by decide +kernel
theorem d2_5 : decode prog_129_method_11_code 5 = .ok (.arraylength, 1) := by decide +kernel
theorem d2_6 : decode prog_129_method_11_code 6 = .ok (.istore_n 3, 1) := by decide +kernel
theorem d2_7 : decode prog_129_method_11_code 7 = .ok (.iconst 0, 1) := by decide +kernel
theorem d2_8 : decode prog_129_method_11_code 8 = .ok (.istore 4, 2) := by decide +kernel
theorem d2_10 : decode prog_129_method_11_code 10 = .ok (.iload 4, 2) := by decide +kernel
theorem d2_12 : decode prog_129_method_11_code 12 = .ok (.iload_n 3, 1) := by decide +kernel
theorem d2_13 : decode prog_129_method_11_code 13 = .ok (.if_icmp .ge 23, 3) := by decide +kernel
theorem d2_16 : decode prog_129_method_11_code 16 = .ok (.aload_n 2, 1) := by decide +kernel
theorem d2_17 : decode prog_129_method_11_code 17 = .ok (.iload 4, 2) := by decide +kernel
theorem d2_19 : decode prog_129_method_11_code 19 = .ok (.baload, 1) := by decide +kernel
theorem d2_20 : decode prog_129_method_11_code 20 = .ok (.istore 5, 2) := by decide +kernel
theorem d2_22 : decode prog_129_method_11_code 22 = .ok (.bipush 31, 2) := by decide +kernel
theorem d2_24 : decode prog_129_method_11_code 24 = .ok (.iload_n 1, 1) := by decide +kernel
theorem d2_25 : decode prog_129_method_11_code 25 = .ok (.imul, 1) := by decide +kernel
theorem d2_26 : decode prog_129_method_11_code 26 = .ok (.iload 5, 2) := by decide +kernel
theorem d2_28 : decode prog_129_method_11_code 28 = .ok (.iadd, 1) := by decide +kernel
theorem d2_29 : decode prog_129_method_11_code 29 = .ok (.istore_n 1, 1) := by decide +kernel
theorem d2_30 : decode prog_129_method_11_code 30 = .ok (.iinc 4 1, 3) := by decide +kernel
theorem d2_33 : decode prog_129_method_11_code 33 = .ok (.goto (-23), 3) := by decide +kernel
theorem d2_36 : decode prog_129_method_11_code 36 = .ok (.iload_n 1, 1) := by decide +kernel
theorem d2_37 : decode prog_129_method_11_code 37 = .ok (.iload_n 1, 1) := by decide +kernel
theorem d2_38 : decode prog_129_method_11_code 38 = .ok (.bipush 16, 2) := by decide +kernel
theorem d2_40 : decode prog_129_method_11_code 40 = .ok (.iushr, 1) := by decide +kernel
theorem d2_41 : decode prog_129_method_11_code 41 = .ok (.ixor, 1) := by decide +kernel
theorem d2_42 : decode prog_129_method_11_code 42 = .ok (.istore_n 1, 1) := by decide +kernel
theorem d2_43 : decode prog_129_method_11_code 43 = .ok (.iload_n 1, 1) := by decide +kernel
theorem d2_44 : decode prog_129_method_11_code 44 = .ok (.ldc 129, 2) := by decide +kernel
theorem d2_46 : decode prog_129_method_11_code 46 = .ok (.imul, 1) := by decide +kernel
theorem d2_47 : decode prog_129_method_11_code 47 = .ok (.istore_n 1, 1) := by decide +kernel
theorem d2_48 : decode prog_129_method_11_code 48 = .ok (.iload_n 1, 1) := by decide +kernel
theorem d2_49 : decode prog_129_method_11_code 49 = .ok (.iload_n 1, 1) := by decide +kernel
theorem d2_50 : decode prog_129_method_11_code 50 = .ok (.bipush 13, 2) := by decide +kernel
theorem d2_52 : decode prog_129_method_11_code 52 = .ok (.iushr, 1) := by decide +kernel
theorem d2_53 : decode prog_129_method_11_code 53 = .ok (.ixor, 1) := by decide +kernel
theorem d2_54 : decode prog_129_method_11_code 54 = .ok (.istore_n 1, 1) := by decide +kernel
theorem d2_55 : decode prog_129_method_11_code 55 = .ok (.iload_n 1, 1) := by decide +kernel
theorem d2_56 : decode prog_129_method_11_code 56 = .ok (.ldc 130, 2) := by decide +kernel
theorem d2_58 : decode prog_129_method_11_code 58 = .ok (.imul, 1) := by decide +kernel
theorem d2_59 : decode prog_129_method_11_code 59 = .ok (.istore_n 1, 1) := by decide +kernel
theorem d2_60 : decode prog_129_method_11_code 60 = .ok (.iload_n 1, 1) := by decide +kernel
theorem d2_61 : decode prog_129_method_11_code 61 = .ok (.iload_n 1, 1) := by decide +kernel
theorem d2_62 : decode prog_129_method_11_code 62 = .ok (.bipush 16, 2) := by decide +kernel
theorem d2_64 : decode prog_129_method_11_code 64 = .ok (.iushr, 1) := by decide +kernel
theorem d2_65 : decode prog_129_method_11_code 65 = .ok (.ixor, 1) := by decide +kernel
theorem d2_66 : decode prog_129_method_11_code 66 = .ok (.ireturn, 1) := by decide +kernel
theorem os2_20 {z0 : Value} {z1 : Value} {z2 : Value} {z3 : Value} {z4 : Value} {x5 : Slot} {v : Int32} (h : One x5) : storeLocals #[.val z0, .val z1, .val z2, .val z3, .val z4, x5] 5 (.int v) = some #[.val z0, .val z1, .val z2, .val z3, .val z4, .val (.int v)] := by
  rcases h with rfl | ⟨w, rfl, hw⟩
  · rfl
  · cases w <;> first | rfl | (simp [Value.category] at hw)
set_option maxRecDepth 65536 in
set_option maxHeartbeats 40000000 in
theorem lp2_10 {p : Program} {l : Launch} {e : Env} {s : State} {m : MethodId} {args : Array Value} {below : List Frame} {meth : Method} {c : Code} {h : Heap} {n0 : Nat} {P : Option Value → Heap → Prop} {Z : State} {a0 : Array Value} (C : Cx p s m meth c prog_129_method_11_code 6 (some .int) "com/example/tracebed/tracebed/store/Dictionary" "hash" Z a0 tables_1) (x0 : Addr) (x3 : Int32) (N : Nat) (g_x0 : Nat → Int32) (A_x0 : ArI Z h x0 .byte N g_x0) (hN : N ≤ 8) : ∀ (k : Nat) (x1 : Int32) (x4 : Int32) (x5 : Slot), 0 ≤ x4.toInt → One x5 → x3.toInt ≤ N → x3.toInt - x4.toInt ≤ k → ∀ T, Hr p l e ({ frames := 0, cells := 0, slots := 0, locals := 0 } : Room) s m args below meth c n0 h 0 0 T → P (some (.int (F2_10 x3 g_x0 k x1 x4))) h → Goes p e below s n0 P 0 0 T (mkF m 10 #[.val (.ref x0), .val (.int x1), .val (.ref x0), .val (.int x3), .val (.int x4), x5] []) := by
  intro k
  induction k with
  | zero =>
    intro x1 x4 x5 h0 o_x5 h3 hk T X hP
    refine w_iload (pc := 10) X C d2_10 rfl ?_
    refine w_iloadN (pc := 12) X C d2_12 rfl ?_
    refine w_icmp_ge (pc := 13) X C d2_13 36 (by decide) (fun q1 => ?_) (fun q1 => absurd q1 (fun z => absurd (Int32.lt_iff_toInt_lt.mp z) (by omega)))
    refine w_iloadN (pc := 36) X C d2_36 rfl ?_
    refine w_iloadN (pc := 37) X C d2_37 rfl ?_
    refine w_bipush (pc := 38) X C d2_38 (16 : Int32) rfl ?_
    refine w_iushr (pc := 40) X C d2_40 ?_
    refine w_ixor (pc := 41) X C d2_41 ?_
    refine w_istoreN (pc := 42) X C d2_42 #[.val (.ref x0), .val (.int (x1 ^^^ (ushrI x1 (16 : Int32)))), .val (.ref x0), .val (.int x3), .val (.int x4), x5] rfl ?_
    refine w_iloadN (pc := 43) X C d2_43 rfl ?_
    refine w_ldcI (pc := 44) X C d2_44 (v := (-2048144789 : Int32)) (List.mem_of_getElem? (i := 10) rfl) ?_
    refine w_imul (pc := 46) X C d2_46 ?_
    refine w_istoreN (pc := 47) X C d2_47 #[.val (.ref x0), .val (.int ((x1 ^^^ (ushrI x1 (16 : Int32))) * (-2048144789 : Int32))), .val (.ref x0), .val (.int x3), .val (.int x4), x5] rfl ?_
    refine w_iloadN (pc := 48) X C d2_48 rfl ?_
    refine w_iloadN (pc := 49) X C d2_49 rfl ?_
    refine w_bipush (pc := 50) X C d2_50 (13 : Int32) rfl ?_
    refine w_iushr (pc := 52) X C d2_52 ?_
    refine w_ixor (pc := 53) X C d2_53 ?_
    refine w_istoreN (pc := 54) X C d2_54 #[.val (.ref x0), .val (.int (((x1 ^^^ (ushrI x1 (16 : Int32))) * (-2048144789 : Int32)) ^^^ (ushrI ((x1 ^^^ (ushrI x1 (16 : Int32))) * (-2048144789 : Int32)) (13 : Int32)))), .val (.ref x0), .val (.int x3), .val (.int x4), x5] rfl ?_
    refine w_iloadN (pc := 55) X C d2_55 rfl ?_
    refine w_ldcI (pc := 56) X C d2_56 (v := (-1028477387 : Int32)) (List.mem_of_getElem? (i := 11) rfl) ?_
    refine w_imul (pc := 58) X C d2_58 ?_
    refine w_istoreN (pc := 59) X C d2_59 #[.val (.ref x0), .val (.int ((((x1 ^^^ (ushrI x1 (16 : Int32))) * (-2048144789 : Int32)) ^^^ (ushrI ((x1 ^^^ (ushrI x1 (16 : Int32))) * (-2048144789 : Int32)) (13 : Int32))) * (-1028477387 : Int32))), .val (.ref x0), .val (.int x3), .val (.int x4), x5] rfl ?_
    refine w_iloadN (pc := 60) X C d2_60 rfl ?_
    refine w_iloadN (pc := 61) X C d2_61 rfl ?_
    refine w_bipush (pc := 62) X C d2_62 (16 : Int32) rfl ?_
    refine w_iushr (pc := 64) X C d2_64 ?_
    refine w_ixor (pc := 65) X C d2_65 ?_
    exact w_retI (pc := 66) X C d2_66 (by rw [F2_10_z] at hP; exact hP)
  | succ k ih =>
    intro x1 x4 x5 h0 o_x5 h3 hk T X hP
    refine w_iload (pc := 10) X C d2_10 rfl ?_
    refine w_iloadN (pc := 12) X C d2_12 rfl ?_
    refine w_icmp_ge (pc := 13) X C d2_13 36 (by decide) (fun q2 => ?_) (fun q2 => ?_)
    · -- yes
      refine w_iloadN (pc := 36) X C d2_36 rfl ?_
      refine w_iloadN (pc := 37) X C d2_37 rfl ?_
      refine w_bipush (pc := 38) X C d2_38 (16 : Int32) rfl ?_
      refine w_iushr (pc := 40) X C d2_40 ?_
      refine w_ixor (pc := 41) X C d2_41 ?_
      refine w_istoreN (pc := 42) X C d2_42 #[.val (.ref x0), .val (.int (x1 ^^^ (ushrI x1 (16 : Int32)))), .val (.ref x0), .val (.int x3), .val (.int x4), x5] rfl ?_
      refine w_iloadN (pc := 43) X C d2_43 rfl ?_
      refine w_ldcI (pc := 44) X C d2_44 (v := (-2048144789 : Int32)) (List.mem_of_getElem? (i := 10) rfl) ?_
      refine w_imul (pc := 46) X C d2_46 ?_
      refine w_istoreN (pc := 47) X C d2_47 #[.val (.ref x0), .val (.int ((x1 ^^^ (ushrI x1 (16 : Int32))) * (-2048144789 : Int32))), .val (.ref x0), .val (.int x3), .val (.int x4), x5] rfl ?_
      refine w_iloadN (pc := 48) X C d2_48 rfl ?_
      refine w_iloadN (pc := 49) X C d2_49 rfl ?_
      refine w_bipush (pc := 50) X C d2_50 (13 : Int32) rfl ?_
      refine w_iushr (pc := 52) X C d2_52 ?_
      refine w_ixor (pc := 53) X C d2_53 ?_
      refine w_istoreN (pc := 54) X C d2_54 #[.val (.ref x0), .val (.int (((x1 ^^^ (ushrI x1 (16 : Int32))) * (-2048144789 : Int32)) ^^^ (ushrI ((x1 ^^^ (ushrI x1 (16 : Int32))) * (-2048144789 : Int32)) (13 : Int32)))), .val (.ref x0), .val (.int x3), .val (.int x4), x5] rfl ?_
      refine w_iloadN (pc := 55) X C d2_55 rfl ?_
      refine w_ldcI (pc := 56) X C d2_56 (v := (-1028477387 : Int32)) (List.mem_of_getElem? (i := 11) rfl) ?_
      refine w_imul (pc := 58) X C d2_58 ?_
      refine w_istoreN (pc := 59) X C d2_59 #[.val (.ref x0), .val (.int ((((x1 ^^^ (ushrI x1 (16 : Int32))) * (-2048144789 : Int32)) ^^^ (ushrI ((x1 ^^^ (ushrI x1 (16 : Int32))) * (-2048144789 : Int32)) (13 : Int32))) * (-1028477387 : Int32))), .val (.ref x0), .val (.int x3), .val (.int x4), x5] rfl ?_
      refine w_iloadN (pc := 60) X C d2_60 rfl ?_
      refine w_iloadN (pc := 61) X C d2_61 rfl ?_
      refine w_bipush (pc := 62) X C d2_62 (16 : Int32) rfl ?_
      refine w_iushr (pc := 64) X C d2_64 ?_
      refine w_ixor (pc := 65) X C d2_65 ?_
      exact w_retI (pc := 66) X C d2_66 (by rw [F2_10_s, if_neg q2] at hP; exact hP)
    · -- no
      refine w_aloadN (pc := 16) X C d2_16 rfl rfl ?_
      refine w_iload (pc := 17) X C d2_17 rfl ?_
      have lq := Int32.lt_iff_toInt_lt.mp q2
      refine w_baload (pc := 19) X C d2_19 A_x0 (nt x4) (nt_eq h0) (nt_lt (by omega) (by omega)) ?_
      refine w_istore (pc := 20) X C d2_20 #[.val (.ref x0), .val (.int x1), .val (.ref x0), .val (.int x3), .val (.int x4), .val (.int (g_x0 (nt x4)))] (os2_20 o_x5) ?_
      refine w_bipush (pc := 22) X C d2_22 (31 : Int32) rfl ?_
      refine w_iloadN (pc := 24) X C d2_24 rfl ?_
      refine w_imul (pc := 25) X C d2_25 ?_
      refine w_iload (pc := 26) X C d2_26 rfl ?_
      refine w_iadd (pc := 28) X C d2_28 ?_
      refine w_istoreN (pc := 29) X C d2_29 #[.val (.ref x0), .val (.int (((31 : Int32) * x1) + (g_x0 (nt x4)))), .val (.ref x0), .val (.int x3), .val (.int x4), .val (.int (g_x0 (nt x4)))] rfl ?_
      refine w_iinc (pc := 30) X C d2_30 (1 : Int32) rfl rfl #[.val (.ref x0), .val (.int (((31 : Int32) * x1) + (g_x0 (nt x4)))), .val (.ref x0), .val (.int x3), .val (.int (x4 + (1 : Int32))), .val (.int (g_x0 (nt x4)))] rfl ?_
      refine w_goto (pc := 33) X C d2_33 10 (by decide) ?_
      have lq_n := Int32.lt_iff_toInt_lt.mp q2
      have e1 : (x4 + (1 : Int32)).toInt = x4.toInt + 1 := add1 _ 1 rfl (by omega) (by omega)
      exact ih ((((31 : Int32) * x1) + (g_x0 (nt x4)))) ((x4 + (1 : Int32))) ((.val (.int (g_x0 (nt x4))))) (by omega) (One.val rfl) h3 (by omega) _ X (by rw [F2_10_s, if_pos q2] at hP; exact hP)
set_option maxRecDepth 65536 in
set_option maxHeartbeats 4000000 in
theorem b2_0 {p : Program} {l : Launch} {e : Env} {s : State} {m : MethodId} {args : Array Value} {below : List Frame} {meth : Method} {c : Code} {T : State} {h : Heap} {n0 : Nat} {P : Option Value → Heap → Prop} {Z : State} {a0 : Array Value} (X : Hr p l e ({ frames := 0, cells := 0, slots := 0, locals := 0 } : Room) s m args below meth c n0 h 0 0 T) (C : Cx p s m meth c prog_129_method_11_code 6 (some .int) "com/example/tracebed/tracebed/store/Dictionary" "hash" Z a0 tables_1) (x0 : Addr) (N : Nat) (g_x0 : Nat → Int32) (A_x0 : ArI Z h x0 .byte N g_x0) (hN : N ≤ 8) (hP : P (some (.int (f2 N g_x0))) h) : Goes p e below s n0 P 0 0 T (mkF m 0 #[.val (.ref x0), .unset, .unset, .unset, .unset, .unset] []) := by
  refine w_iconst (pc := 0) X C d2_0 (0 : Int32) rfl ?_
  refine w_istoreN (pc := 1) X C d2_1 #[.val (.ref x0), .val (.int (0 : Int32)), .unset, .unset, .unset, .unset] rfl ?_
  refine w_aloadN (pc := 2) X C d2_2 rfl rfl ?_
  refine w_astoreN (pc := 3) X C d2_3 #[.val (.ref x0), .val (.int (0 : Int32)), .val (.ref x0), .unset, .unset, .unset] rfl rfl ?_
  refine w_aloadN (pc := 4) X C d2_4 rfl rfl ?_
  refine w_arraylength (pc := 5) X C d2_5 A_x0 ?_
  refine w_istoreN (pc := 6) X C d2_6 #[.val (.ref x0), .val (.int (0 : Int32)), .val (.ref x0), .val (.int (Nat.toInt32 N)), .unset, .unset] rfl ?_
  refine w_iconst (pc := 7) X C d2_7 (0 : Int32) rfl ?_
  refine w_istore (pc := 8) X C d2_8 #[.val (.ref x0), .val (.int (0 : Int32)), .val (.ref x0), .val (.int (Nat.toInt32 N)), .val (.int (0 : Int32)), .unset] rfl ?_
  exact lp2_10 C (x0) ((Nat.toInt32 N)) N g_x0 A_x0 hN 8 ((0 : Int32)) ((0 : Int32)) ((.unset)) (by decide) One.u (by rw [len_toInt (by omega)]; exact Int.le_refl _) (by rw [len_toInt (by omega)]; show (N : Int) - 0 ≤ _; omega) _ X (by unfold f2 at hP; exact hP)
theorem ct2 (l : Launch) {Z : State} {a0 : Array Value} (hw : ∀ d ∈ tables_1, d.before a0 Z = true) (h : Heap) {n0 : Nat} (hn : n0 ≤ h.size) (x0 : Addr) (N : Nat) (g_x0 : Nat → Int32) (A_x0 : ArI Z h x0 .byte N g_x0) (hN : N ≤ 8) : Ct l (⟨"com/example/tracebed/tracebed/store/Dictionary", "hash", "([B)I"⟩ : MethodName) prog_129_method_11_code 6 (some .int) ({ frames := 0, cells := 0, slots := 0, locals := 0 } : Room) Z #[(.ref x0)] h n0 (fun v h' => v = some (.int (f2 N g_x0)) ∧ h' = h) :=
  Ct.of (plainFor_of_name pn_1) #[.val (.ref x0), .unset, .unset, .unset, .unset, .unset] (fun m => by first | (simp [entryFrame, mkF, argsToLocals, Value.category]; done) | rfl) hw hn (fun p e s m below meth c T C X => b2_0 X C x0 N g_x0 A_x0 hN ⟨rfl, rfl⟩)
theorem own_m9 (x : Int32) : 0 ≤ ((x &&& (2147483647 : Int32)) % (9 : Int32)).toInt ∧ ((x &&& (2147483647 : Int32)) % (9 : Int32)).toInt ≤ 8 := by
  have h0 := c_and x (2147483647 : Int32) (by decide)
  have h1 := (c_irem (x &&& (2147483647 : Int32)) (9 : Int32) 9 rfl).1 h0.1
  omega
theorem own_nine (x : Int32) (h0 : 0 ≤ x.toInt) (h8 : x.toInt ≤ 8) : x = 0 ∨ x = 1 ∨ x = 2 ∨ x = 3 ∨ x = 4 ∨ x = 5 ∨ x = 6 ∨ x = 7 ∨ x = 8 := by
  have e0 : (0 : Int32).toInt = 0 := rfl
  have e1 : (1 : Int32).toInt = 1 := rfl
  have e2 : (2 : Int32).toInt = 2 := rfl
  have e3 : (3 : Int32).toInt = 3 := rfl
  have e4 : (4 : Int32).toInt = 4 := rfl
  have e5 : (5 : Int32).toInt = 5 := rfl
  have e6 : (6 : Int32).toInt = 6 := rfl
  have e7 : (7 : Int32).toInt = 7 := rfl
  have e8 : (8 : Int32).toInt = 8 := rfl
  simp only [← Int32.toInt_inj, e0, e1, e2, e3, e4, e5, e6, e7, e8]
  omega
theorem own_n0 : nt (0 : Int32) = 0 := rfl
theorem own_n1 : nt (1 : Int32) = 1 := rfl
theorem own_n2 : nt (2 : Int32) = 2 := rfl
theorem own_n3 : nt (3 : Int32) = 3 := rfl
theorem own_n4 : nt (4 : Int32) = 4 := rfl
theorem own_n5 : nt (5 : Int32) = 5 := rfl
theorem own_n6 : nt (6 : Int32) = 6 := rfl
theorem own_n7 : nt (7 : Int32) = 7 := rfl
theorem own_n8 : nt (8 : Int32) = 8 := rfl
theorem own_bv16 (x : Int32) : (ushrI x (16 : Int32)).toBitVec = x.toBitVec >>> 16 := rfl
theorem own_bv13 (x : Int32) : (ushrI x (13 : Int32)).toBitVec = x.toBitVec >>> 13 := rfl
theorem own_bv26 (x : Int32) : (ushrI x (26 : Int32)).toBitVec = x.toBitVec >>> 26 := rfl
theorem own_x16 (x : Int32) : (x ^^^ ushrI x (16 : Int32)) ^^^ ushrI (x ^^^ ushrI x (16 : Int32)) (16 : Int32) = x := by
  apply Int32.toBitVec_inj.mp
  simp only [Int32.toBitVec_xor, own_bv16]
  generalize x.toBitVec = b
  apply BitVec.eq_of_getLsbD_eq
  intro i hi
  simp only [BitVec.getLsbD_xor, BitVec.getLsbD_ushiftRight]
  have : b.getLsbD (16 + (16 + i)) = false := BitVec.getLsbD_of_ge b _ (by omega)
  rw [this]
  cases b.getLsbD i <;> cases b.getLsbD (16 + i) <;> rfl
theorem own_x13 (x : Int32) : ((x ^^^ ushrI x (13 : Int32)) ^^^ ushrI (x ^^^ ushrI x (13 : Int32)) (13 : Int32)) ^^^ ushrI (x ^^^ ushrI x (13 : Int32)) (26 : Int32) = x := by
  apply Int32.toBitVec_inj.mp
  simp only [Int32.toBitVec_xor, own_bv13, own_bv26]
  generalize x.toBitVec = b
  apply BitVec.eq_of_getLsbD_eq
  intro i hi
  simp only [BitVec.getLsbD_xor, BitVec.getLsbD_ushiftRight]
  have e1 : b.getLsbD (13 + (13 + i)) = b.getLsbD (26 + i) := by congr 1; omega
  have e2 : b.getLsbD (13 + (26 + i)) = false := BitVec.getLsbD_of_ge b _ (by omega)
  rw [e1, e2]
  cases b.getLsbD i <;> cases b.getLsbD (13 + i) <;> cases b.getLsbD (26 + i) <;> rfl
theorem own_mul1 (x : Int32) : x * (-2048144789 : Int32) * (-1513385405 : Int32) = x := by
  rw [Int32.mul_assoc, show (-2048144789 : Int32) * (-1513385405 : Int32) = 1 from by decide, Int32.mul_one]
theorem own_mul2 (x : Int32) : x * (-1028477387 : Int32) * (2127672349 : Int32) = x := by
  rw [Int32.mul_assoc, show (-1028477387 : Int32) * (2127672349 : Int32) = 1 from by decide, Int32.mul_one]
theorem own_unmix (n : Int32) (g : Nat → Int32) (x i : Int32) : f4 (F2_10 n g 0 x i) = x := by
  rw [F2_10_z]
  unfold f4
  simp only [own_x16, own_mul2, own_x13, own_mul1]
theorem own_end (n : Int32) (g : Nat → Int32) (k : Nat) (x i : Int32) (h : ¬ (i < n)) : F2_10 n g k x i = F2_10 n g 0 x i := by
  cases k with
  | zero => rfl
  | succ k => rw [F2_10_s, if_neg h]; rfl
theorem own_step (n : Int32) (g : Nat → Int32) (k : Nat) (x i : Int32) (h : i < n) : F2_10 n g (k + 1) x i = F2_10 n g k ((31 : Int32) * x + g (nt i)) (i + 1) := by
  rw [F2_10_s, if_pos h]
theorem own_i8 (v : Int32) : i8 (i8 v) = i8 v := by
  unfold i8; simp
theorem own_at (b : Int64) (i : Int32) : i8 (f5 b i) = f5 b i := by
  unfold f5; rw [own_i8, own_i8]
theorem own_c0 (b : Int64) {g1 g2 g3 g4 g5 g6 g7 g8 : Nat → Int32} (h0 : g1 = (if (0 : Int32) < Nat.toInt32 (nt (0 : Int32)) then up (fun _ => 0) (nt (0 : Int32)) (i8 (f5 b (0 : Int32))) else (fun _ => 0))) (h1 : g2 = (if (1 : Int32) < Nat.toInt32 (nt (0 : Int32)) then up g1 (nt (1 : Int32)) (i8 (f5 b (1 : Int32))) else g1)) (h2 : g3 = (if (2 : Int32) < Nat.toInt32 (nt (0 : Int32)) then up g2 (nt (2 : Int32)) (i8 (f5 b (2 : Int32))) else g2)) (h3 : g4 = (if (3 : Int32) < Nat.toInt32 (nt (0 : Int32)) then up g3 (nt (3 : Int32)) (i8 (f5 b (3 : Int32))) else g3)) (h4 : g5 = (if (4 : Int32) < Nat.toInt32 (nt (0 : Int32)) then up g4 (nt (4 : Int32)) (i8 (f5 b (4 : Int32))) else g4)) (h5 : g6 = (if (5 : Int32) < Nat.toInt32 (nt (0 : Int32)) then up g5 (nt (5 : Int32)) (i8 (f5 b (5 : Int32))) else g5)) (h6 : g7 = (if (6 : Int32) < Nat.toInt32 (nt (0 : Int32)) then up g6 (nt (6 : Int32)) (i8 (f5 b (6 : Int32))) else g6)) (h7 : g8 = (if (7 : Int32) < Nat.toInt32 (nt (0 : Int32)) then up g7 (nt (7 : Int32)) (i8 (f5 b (7 : Int32))) else g7)) : f4 (f2 (nt (0 : Int32)) g8) = ((((((((f3 (0 : Int32) (0 : Int32) b) + (f3 (0 : Int32) (1 : Int32) b)) + (f3 (0 : Int32) (2 : Int32) b)) + (f3 (0 : Int32) (3 : Int32) b)) + (f3 (0 : Int32) (4 : Int32) b)) + (f3 (0 : Int32) (5 : Int32) b)) + (f3 (0 : Int32) (6 : Int32) b)) + (f3 (0 : Int32) (7 : Int32) b)) := by
  unfold f2
  rw [show Nat.toInt32 (nt (0 : Int32)) = (0 : Int32) from rfl]
  rw [own_end _ _ _ _ _ (by decide), own_unmix]
  unfold f3 f6
  simp +decide only [if_true, if_false]
theorem own_c1 (b : Int64) {g1 g2 g3 g4 g5 g6 g7 g8 : Nat → Int32} (h0 : g1 = (if (0 : Int32) < Nat.toInt32 (nt (1 : Int32)) then up (fun _ => 0) (nt (0 : Int32)) (i8 (f5 b (0 : Int32))) else (fun _ => 0))) (h1 : g2 = (if (1 : Int32) < Nat.toInt32 (nt (1 : Int32)) then up g1 (nt (1 : Int32)) (i8 (f5 b (1 : Int32))) else g1)) (h2 : g3 = (if (2 : Int32) < Nat.toInt32 (nt (1 : Int32)) then up g2 (nt (2 : Int32)) (i8 (f5 b (2 : Int32))) else g2)) (h3 : g4 = (if (3 : Int32) < Nat.toInt32 (nt (1 : Int32)) then up g3 (nt (3 : Int32)) (i8 (f5 b (3 : Int32))) else g3)) (h4 : g5 = (if (4 : Int32) < Nat.toInt32 (nt (1 : Int32)) then up g4 (nt (4 : Int32)) (i8 (f5 b (4 : Int32))) else g4)) (h5 : g6 = (if (5 : Int32) < Nat.toInt32 (nt (1 : Int32)) then up g5 (nt (5 : Int32)) (i8 (f5 b (5 : Int32))) else g5)) (h6 : g7 = (if (6 : Int32) < Nat.toInt32 (nt (1 : Int32)) then up g6 (nt (6 : Int32)) (i8 (f5 b (6 : Int32))) else g6)) (h7 : g8 = (if (7 : Int32) < Nat.toInt32 (nt (1 : Int32)) then up g7 (nt (7 : Int32)) (i8 (f5 b (7 : Int32))) else g7)) : f4 (f2 (nt (1 : Int32)) g8) = ((((((((f3 (1 : Int32) (0 : Int32) b) + (f3 (1 : Int32) (1 : Int32) b)) + (f3 (1 : Int32) (2 : Int32) b)) + (f3 (1 : Int32) (3 : Int32) b)) + (f3 (1 : Int32) (4 : Int32) b)) + (f3 (1 : Int32) (5 : Int32) b)) + (f3 (1 : Int32) (6 : Int32) b)) + (f3 (1 : Int32) (7 : Int32) b)) := by
  have k0 : g8 (nt (0 : Int32)) = f5 b (0 : Int32) := by
    simp +decide only [h7, h6, h5, h4, h3, h2, h1, h0, up, own_at, if_true, if_false]
  unfold f2
  rw [show Nat.toInt32 (nt (1 : Int32)) = (1 : Int32) from rfl]
  rw [own_step _ _ _ _ (0 : Int32) (by decide), k0, show (0 : Int32) + 1 = 1 from rfl]
  rw [own_end _ _ _ _ _ (by decide), own_unmix]
  unfold f3 f6
  simp +decide only [if_true, if_false]
  generalize f5 b (0 : Int32) = a0
  grind
theorem own_c2 (b : Int64) {g1 g2 g3 g4 g5 g6 g7 g8 : Nat → Int32} (h0 : g1 = (if (0 : Int32) < Nat.toInt32 (nt (2 : Int32)) then up (fun _ => 0) (nt (0 : Int32)) (i8 (f5 b (0 : Int32))) else (fun _ => 0))) (h1 : g2 = (if (1 : Int32) < Nat.toInt32 (nt (2 : Int32)) then up g1 (nt (1 : Int32)) (i8 (f5 b (1 : Int32))) else g1)) (h2 : g3 = (if (2 : Int32) < Nat.toInt32 (nt (2 : Int32)) then up g2 (nt (2 : Int32)) (i8 (f5 b (2 : Int32))) else g2)) (h3 : g4 = (if (3 : Int32) < Nat.toInt32 (nt (2 : Int32)) then up g3 (nt (3 : Int32)) (i8 (f5 b (3 : Int32))) else g3)) (h4 : g5 = (if (4 : Int32) < Nat.toInt32 (nt (2 : Int32)) then up g4 (nt (4 : Int32)) (i8 (f5 b (4 : Int32))) else g4)) (h5 : g6 = (if (5 : Int32) < Nat.toInt32 (nt (2 : Int32)) then up g5 (nt (5 : Int32)) (i8 (f5 b (5 : Int32))) else g5)) (h6 : g7 = (if (6 : Int32) < Nat.toInt32 (nt (2 : Int32)) then up g6 (nt (6 : Int32)) (i8 (f5 b (6 : Int32))) else g6)) (h7 : g8 = (if (7 : Int32) < Nat.toInt32 (nt (2 : Int32)) then up g7 (nt (7 : Int32)) (i8 (f5 b (7 : Int32))) else g7)) : f4 (f2 (nt (2 : Int32)) g8) = ((((((((f3 (2 : Int32) (0 : Int32) b) + (f3 (2 : Int32) (1 : Int32) b)) + (f3 (2 : Int32) (2 : Int32) b)) + (f3 (2 : Int32) (3 : Int32) b)) + (f3 (2 : Int32) (4 : Int32) b)) + (f3 (2 : Int32) (5 : Int32) b)) + (f3 (2 : Int32) (6 : Int32) b)) + (f3 (2 : Int32) (7 : Int32) b)) := by
  have k0 : g8 (nt (0 : Int32)) = f5 b (0 : Int32) := by
    simp +decide only [h7, h6, h5, h4, h3, h2, h1, h0, up, own_at, if_true, if_false]
  have k1 : g8 (nt (1 : Int32)) = f5 b (1 : Int32) := by
    simp +decide only [h7, h6, h5, h4, h3, h2, h1, h0, up, own_at, if_true, if_false]
  unfold f2
  rw [show Nat.toInt32 (nt (2 : Int32)) = (2 : Int32) from rfl]
  rw [own_step _ _ _ _ (0 : Int32) (by decide), k0, show (0 : Int32) + 1 = 1 from rfl]
  rw [own_step _ _ _ _ (1 : Int32) (by decide), k1, show (1 : Int32) + 1 = 2 from rfl]
  rw [own_end _ _ _ _ _ (by decide), own_unmix]
  unfold f3 f6
  simp +decide only [if_true, if_false]
  generalize f5 b (0 : Int32) = a0
  generalize f5 b (1 : Int32) = a1
  grind
theorem own_c3 (b : Int64) {g1 g2 g3 g4 g5 g6 g7 g8 : Nat → Int32} (h0 : g1 = (if (0 : Int32) < Nat.toInt32 (nt (3 : Int32)) then up (fun _ => 0) (nt (0 : Int32)) (i8 (f5 b (0 : Int32))) else (fun _ => 0))) (h1 : g2 = (if (1 : Int32) < Nat.toInt32 (nt (3 : Int32)) then up g1 (nt (1 : Int32)) (i8 (f5 b (1 : Int32))) else g1)) (h2 : g3 = (if (2 : Int32) < Nat.toInt32 (nt (3 : Int32)) then up g2 (nt (2 : Int32)) (i8 (f5 b (2 : Int32))) else g2)) (h3 : g4 = (if (3 : Int32) < Nat.toInt32 (nt (3 : Int32)) then up g3 (nt (3 : Int32)) (i8 (f5 b (3 : Int32))) else g3)) (h4 : g5 = (if (4 : Int32) < Nat.toInt32 (nt (3 : Int32)) then up g4 (nt (4 : Int32)) (i8 (f5 b (4 : Int32))) else g4)) (h5 : g6 = (if (5 : Int32) < Nat.toInt32 (nt (3 : Int32)) then up g5 (nt (5 : Int32)) (i8 (f5 b (5 : Int32))) else g5)) (h6 : g7 = (if (6 : Int32) < Nat.toInt32 (nt (3 : Int32)) then up g6 (nt (6 : Int32)) (i8 (f5 b (6 : Int32))) else g6)) (h7 : g8 = (if (7 : Int32) < Nat.toInt32 (nt (3 : Int32)) then up g7 (nt (7 : Int32)) (i8 (f5 b (7 : Int32))) else g7)) : f4 (f2 (nt (3 : Int32)) g8) = ((((((((f3 (3 : Int32) (0 : Int32) b) + (f3 (3 : Int32) (1 : Int32) b)) + (f3 (3 : Int32) (2 : Int32) b)) + (f3 (3 : Int32) (3 : Int32) b)) + (f3 (3 : Int32) (4 : Int32) b)) + (f3 (3 : Int32) (5 : Int32) b)) + (f3 (3 : Int32) (6 : Int32) b)) + (f3 (3 : Int32) (7 : Int32) b)) := by
  have k0 : g8 (nt (0 : Int32)) = f5 b (0 : Int32) := by
    simp +decide only [h7, h6, h5, h4, h3, h2, h1, h0, up, own_at, if_true, if_false]
  have k1 : g8 (nt (1 : Int32)) = f5 b (1 : Int32) := by
    simp +decide only [h7, h6, h5, h4, h3, h2, h1, h0, up, own_at, if_true, if_false]
  have k2 : g8 (nt (2 : Int32)) = f5 b (2 : Int32) := by
    simp +decide only [h7, h6, h5, h4, h3, h2, h1, h0, up, own_at, if_true, if_false]
  unfold f2
  rw [show Nat.toInt32 (nt (3 : Int32)) = (3 : Int32) from rfl]
  rw [own_step _ _ _ _ (0 : Int32) (by decide), k0, show (0 : Int32) + 1 = 1 from rfl]
  rw [own_step _ _ _ _ (1 : Int32) (by decide), k1, show (1 : Int32) + 1 = 2 from rfl]
  rw [own_step _ _ _ _ (2 : Int32) (by decide), k2, show (2 : Int32) + 1 = 3 from rfl]
  rw [own_end _ _ _ _ _ (by decide), own_unmix]
  unfold f3 f6
  simp +decide only [if_true, if_false]
  generalize f5 b (0 : Int32) = a0
  generalize f5 b (1 : Int32) = a1
  generalize f5 b (2 : Int32) = a2
  grind
theorem own_c4 (b : Int64) {g1 g2 g3 g4 g5 g6 g7 g8 : Nat → Int32} (h0 : g1 = (if (0 : Int32) < Nat.toInt32 (nt (4 : Int32)) then up (fun _ => 0) (nt (0 : Int32)) (i8 (f5 b (0 : Int32))) else (fun _ => 0))) (h1 : g2 = (if (1 : Int32) < Nat.toInt32 (nt (4 : Int32)) then up g1 (nt (1 : Int32)) (i8 (f5 b (1 : Int32))) else g1)) (h2 : g3 = (if (2 : Int32) < Nat.toInt32 (nt (4 : Int32)) then up g2 (nt (2 : Int32)) (i8 (f5 b (2 : Int32))) else g2)) (h3 : g4 = (if (3 : Int32) < Nat.toInt32 (nt (4 : Int32)) then up g3 (nt (3 : Int32)) (i8 (f5 b (3 : Int32))) else g3)) (h4 : g5 = (if (4 : Int32) < Nat.toInt32 (nt (4 : Int32)) then up g4 (nt (4 : Int32)) (i8 (f5 b (4 : Int32))) else g4)) (h5 : g6 = (if (5 : Int32) < Nat.toInt32 (nt (4 : Int32)) then up g5 (nt (5 : Int32)) (i8 (f5 b (5 : Int32))) else g5)) (h6 : g7 = (if (6 : Int32) < Nat.toInt32 (nt (4 : Int32)) then up g6 (nt (6 : Int32)) (i8 (f5 b (6 : Int32))) else g6)) (h7 : g8 = (if (7 : Int32) < Nat.toInt32 (nt (4 : Int32)) then up g7 (nt (7 : Int32)) (i8 (f5 b (7 : Int32))) else g7)) : f4 (f2 (nt (4 : Int32)) g8) = ((((((((f3 (4 : Int32) (0 : Int32) b) + (f3 (4 : Int32) (1 : Int32) b)) + (f3 (4 : Int32) (2 : Int32) b)) + (f3 (4 : Int32) (3 : Int32) b)) + (f3 (4 : Int32) (4 : Int32) b)) + (f3 (4 : Int32) (5 : Int32) b)) + (f3 (4 : Int32) (6 : Int32) b)) + (f3 (4 : Int32) (7 : Int32) b)) := by
  have k0 : g8 (nt (0 : Int32)) = f5 b (0 : Int32) := by
    simp +decide only [h7, h6, h5, h4, h3, h2, h1, h0, up, own_at, if_true, if_false]
  have k1 : g8 (nt (1 : Int32)) = f5 b (1 : Int32) := by
    simp +decide only [h7, h6, h5, h4, h3, h2, h1, h0, up, own_at, if_true, if_false]
  have k2 : g8 (nt (2 : Int32)) = f5 b (2 : Int32) := by
    simp +decide only [h7, h6, h5, h4, h3, h2, h1, h0, up, own_at, if_true, if_false]
  have k3 : g8 (nt (3 : Int32)) = f5 b (3 : Int32) := by
    simp +decide only [h7, h6, h5, h4, h3, h2, h1, h0, up, own_at, if_true, if_false]
  unfold f2
  rw [show Nat.toInt32 (nt (4 : Int32)) = (4 : Int32) from rfl]
  rw [own_step _ _ _ _ (0 : Int32) (by decide), k0, show (0 : Int32) + 1 = 1 from rfl]
  rw [own_step _ _ _ _ (1 : Int32) (by decide), k1, show (1 : Int32) + 1 = 2 from rfl]
  rw [own_step _ _ _ _ (2 : Int32) (by decide), k2, show (2 : Int32) + 1 = 3 from rfl]
  rw [own_step _ _ _ _ (3 : Int32) (by decide), k3, show (3 : Int32) + 1 = 4 from rfl]
  rw [own_end _ _ _ _ _ (by decide), own_unmix]
  unfold f3 f6
  simp +decide only [if_true, if_false]
  generalize f5 b (0 : Int32) = a0
  generalize f5 b (1 : Int32) = a1
  generalize f5 b (2 : Int32) = a2
  generalize f5 b (3 : Int32) = a3
  grind
theorem own_c5 (b : Int64) {g1 g2 g3 g4 g5 g6 g7 g8 : Nat → Int32} (h0 : g1 = (if (0 : Int32) < Nat.toInt32 (nt (5 : Int32)) then up (fun _ => 0) (nt (0 : Int32)) (i8 (f5 b (0 : Int32))) else (fun _ => 0))) (h1 : g2 = (if (1 : Int32) < Nat.toInt32 (nt (5 : Int32)) then up g1 (nt (1 : Int32)) (i8 (f5 b (1 : Int32))) else g1)) (h2 : g3 = (if (2 : Int32) < Nat.toInt32 (nt (5 : Int32)) then up g2 (nt (2 : Int32)) (i8 (f5 b (2 : Int32))) else g2)) (h3 : g4 = (if (3 : Int32) < Nat.toInt32 (nt (5 : Int32)) then up g3 (nt (3 : Int32)) (i8 (f5 b (3 : Int32))) else g3)) (h4 : g5 = (if (4 : Int32) < Nat.toInt32 (nt (5 : Int32)) then up g4 (nt (4 : Int32)) (i8 (f5 b (4 : Int32))) else g4)) (h5 : g6 = (if (5 : Int32) < Nat.toInt32 (nt (5 : Int32)) then up g5 (nt (5 : Int32)) (i8 (f5 b (5 : Int32))) else g5)) (h6 : g7 = (if (6 : Int32) < Nat.toInt32 (nt (5 : Int32)) then up g6 (nt (6 : Int32)) (i8 (f5 b (6 : Int32))) else g6)) (h7 : g8 = (if (7 : Int32) < Nat.toInt32 (nt (5 : Int32)) then up g7 (nt (7 : Int32)) (i8 (f5 b (7 : Int32))) else g7)) : f4 (f2 (nt (5 : Int32)) g8) = ((((((((f3 (5 : Int32) (0 : Int32) b) + (f3 (5 : Int32) (1 : Int32) b)) + (f3 (5 : Int32) (2 : Int32) b)) + (f3 (5 : Int32) (3 : Int32) b)) + (f3 (5 : Int32) (4 : Int32) b)) + (f3 (5 : Int32) (5 : Int32) b)) + (f3 (5 : Int32) (6 : Int32) b)) + (f3 (5 : Int32) (7 : Int32) b)) := by
  have k0 : g8 (nt (0 : Int32)) = f5 b (0 : Int32) := by
    simp +decide only [h7, h6, h5, h4, h3, h2, h1, h0, up, own_at, if_true, if_false]
  have k1 : g8 (nt (1 : Int32)) = f5 b (1 : Int32) := by
    simp +decide only [h7, h6, h5, h4, h3, h2, h1, h0, up, own_at, if_true, if_false]
  have k2 : g8 (nt (2 : Int32)) = f5 b (2 : Int32) := by
    simp +decide only [h7, h6, h5, h4, h3, h2, h1, h0, up, own_at, if_true, if_false]
  have k3 : g8 (nt (3 : Int32)) = f5 b (3 : Int32) := by
    simp +decide only [h7, h6, h5, h4, h3, h2, h1, h0, up, own_at, if_true, if_false]
  have k4 : g8 (nt (4 : Int32)) = f5 b (4 : Int32) := by
    simp +decide only [h7, h6, h5, h4, h3, h2, h1, h0, up, own_at, if_true, if_false]
  unfold f2
  rw [show Nat.toInt32 (nt (5 : Int32)) = (5 : Int32) from rfl]
  rw [own_step _ _ _ _ (0 : Int32) (by decide), k0, show (0 : Int32) + 1 = 1 from rfl]
  rw [own_step _ _ _ _ (1 : Int32) (by decide), k1, show (1 : Int32) + 1 = 2 from rfl]
  rw [own_step _ _ _ _ (2 : Int32) (by decide), k2, show (2 : Int32) + 1 = 3 from rfl]
  rw [own_step _ _ _ _ (3 : Int32) (by decide), k3, show (3 : Int32) + 1 = 4 from rfl]
  rw [own_step _ _ _ _ (4 : Int32) (by decide), k4, show (4 : Int32) + 1 = 5 from rfl]
  rw [own_end _ _ _ _ _ (by decide), own_unmix]
  unfold f3 f6
  simp +decide only [if_true, if_false]
  generalize f5 b (0 : Int32) = a0
  generalize f5 b (1 : Int32) = a1
  generalize f5 b (2 : Int32) = a2
  generalize f5 b (3 : Int32) = a3
  generalize f5 b (4 : Int32) = a4
  grind
theorem own_c6 (b : Int64) {g1 g2 g3 g4 g5 g6 g7 g8 : Nat → Int32} (h0 : g1 = (if (0 : Int32) < Nat.toInt32 (nt (6 : Int32)) then up (fun _ => 0) (nt (0 : Int32)) (i8 (f5 b (0 : Int32))) else (fun _ => 0))) (h1 : g2 = (if (1 : Int32) < Nat.toInt32 (nt (6 : Int32)) then up g1 (nt (1 : Int32)) (i8 (f5 b (1 : Int32))) else g1)) (h2 : g3 = (if (2 : Int32) < Nat.toInt32 (nt (6 : Int32)) then up g2 (nt (2 : Int32)) (i8 (f5 b (2 : Int32))) else g2)) (h3 : g4 = (if (3 : Int32) < Nat.toInt32 (nt (6 : Int32)) then up g3 (nt (3 : Int32)) (i8 (f5 b (3 : Int32))) else g3)) (h4 : g5 = (if (4 : Int32) < Nat.toInt32 (nt (6 : Int32)) then up g4 (nt (4 : Int32)) (i8 (f5 b (4 : Int32))) else g4)) (h5 : g6 = (if (5 : Int32) < Nat.toInt32 (nt (6 : Int32)) then up g5 (nt (5 : Int32)) (i8 (f5 b (5 : Int32))) else g5)) (h6 : g7 = (if (6 : Int32) < Nat.toInt32 (nt (6 : Int32)) then up g6 (nt (6 : Int32)) (i8 (f5 b (6 : Int32))) else g6)) (h7 : g8 = (if (7 : Int32) < Nat.toInt32 (nt (6 : Int32)) then up g7 (nt (7 : Int32)) (i8 (f5 b (7 : Int32))) else g7)) : f4 (f2 (nt (6 : Int32)) g8) = ((((((((f3 (6 : Int32) (0 : Int32) b) + (f3 (6 : Int32) (1 : Int32) b)) + (f3 (6 : Int32) (2 : Int32) b)) + (f3 (6 : Int32) (3 : Int32) b)) + (f3 (6 : Int32) (4 : Int32) b)) + (f3 (6 : Int32) (5 : Int32) b)) + (f3 (6 : Int32) (6 : Int32) b)) + (f3 (6 : Int32) (7 : Int32) b)) := by
  have k0 : g8 (nt (0 : Int32)) = f5 b (0 : Int32) := by
    simp +decide only [h7, h6, h5, h4, h3, h2, h1, h0, up, own_at, if_true, if_false]
  have k1 : g8 (nt (1 : Int32)) = f5 b (1 : Int32) := by
    simp +decide only [h7, h6, h5, h4, h3, h2, h1, h0, up, own_at, if_true, if_false]
  have k2 : g8 (nt (2 : Int32)) = f5 b (2 : Int32) := by
    simp +decide only [h7, h6, h5, h4, h3, h2, h1, h0, up, own_at, if_true, if_false]
  have k3 : g8 (nt (3 : Int32)) = f5 b (3 : Int32) := by
    simp +decide only [h7, h6, h5, h4, h3, h2, h1, h0, up, own_at, if_true, if_false]
  have k4 : g8 (nt (4 : Int32)) = f5 b (4 : Int32) := by
    simp +decide only [h7, h6, h5, h4, h3, h2, h1, h0, up, own_at, if_true, if_false]
  have k5 : g8 (nt (5 : Int32)) = f5 b (5 : Int32) := by
    simp +decide only [h7, h6, h5, h4, h3, h2, h1, h0, up, own_at, if_true, if_false]
  unfold f2
  rw [show Nat.toInt32 (nt (6 : Int32)) = (6 : Int32) from rfl]
  rw [own_step _ _ _ _ (0 : Int32) (by decide), k0, show (0 : Int32) + 1 = 1 from rfl]
  rw [own_step _ _ _ _ (1 : Int32) (by decide), k1, show (1 : Int32) + 1 = 2 from rfl]
  rw [own_step _ _ _ _ (2 : Int32) (by decide), k2, show (2 : Int32) + 1 = 3 from rfl]
  rw [own_step _ _ _ _ (3 : Int32) (by decide), k3, show (3 : Int32) + 1 = 4 from rfl]
  rw [own_step _ _ _ _ (4 : Int32) (by decide), k4, show (4 : Int32) + 1 = 5 from rfl]
  rw [own_step _ _ _ _ (5 : Int32) (by decide), k5, show (5 : Int32) + 1 = 6 from rfl]
  rw [own_end _ _ _ _ _ (by decide), own_unmix]
  unfold f3 f6
  simp +decide only [if_true, if_false]
  generalize f5 b (0 : Int32) = a0
  generalize f5 b (1 : Int32) = a1
  generalize f5 b (2 : Int32) = a2
  generalize f5 b (3 : Int32) = a3
  generalize f5 b (4 : Int32) = a4
  generalize f5 b (5 : Int32) = a5
  grind
theorem own_c7 (b : Int64) {g1 g2 g3 g4 g5 g6 g7 g8 : Nat → Int32} (h0 : g1 = (if (0 : Int32) < Nat.toInt32 (nt (7 : Int32)) then up (fun _ => 0) (nt (0 : Int32)) (i8 (f5 b (0 : Int32))) else (fun _ => 0))) (h1 : g2 = (if (1 : Int32) < Nat.toInt32 (nt (7 : Int32)) then up g1 (nt (1 : Int32)) (i8 (f5 b (1 : Int32))) else g1)) (h2 : g3 = (if (2 : Int32) < Nat.toInt32 (nt (7 : Int32)) then up g2 (nt (2 : Int32)) (i8 (f5 b (2 : Int32))) else g2)) (h3 : g4 = (if (3 : Int32) < Nat.toInt32 (nt (7 : Int32)) then up g3 (nt (3 : Int32)) (i8 (f5 b (3 : Int32))) else g3)) (h4 : g5 = (if (4 : Int32) < Nat.toInt32 (nt (7 : Int32)) then up g4 (nt (4 : Int32)) (i8 (f5 b (4 : Int32))) else g4)) (h5 : g6 = (if (5 : Int32) < Nat.toInt32 (nt (7 : Int32)) then up g5 (nt (5 : Int32)) (i8 (f5 b (5 : Int32))) else g5)) (h6 : g7 = (if (6 : Int32) < Nat.toInt32 (nt (7 : Int32)) then up g6 (nt (6 : Int32)) (i8 (f5 b (6 : Int32))) else g6)) (h7 : g8 = (if (7 : Int32) < Nat.toInt32 (nt (7 : Int32)) then up g7 (nt (7 : Int32)) (i8 (f5 b (7 : Int32))) else g7)) : f4 (f2 (nt (7 : Int32)) g8) = ((((((((f3 (7 : Int32) (0 : Int32) b) + (f3 (7 : Int32) (1 : Int32) b)) + (f3 (7 : Int32) (2 : Int32) b)) + (f3 (7 : Int32) (3 : Int32) b)) + (f3 (7 : Int32) (4 : Int32) b)) + (f3 (7 : Int32) (5 : Int32) b)) + (f3 (7 : Int32) (6 : Int32) b)) + (f3 (7 : Int32) (7 : Int32) b)) := by
  have k0 : g8 (nt (0 : Int32)) = f5 b (0 : Int32) := by
    simp +decide only [h7, h6, h5, h4, h3, h2, h1, h0, up, own_at, if_true, if_false]
  have k1 : g8 (nt (1 : Int32)) = f5 b (1 : Int32) := by
    simp +decide only [h7, h6, h5, h4, h3, h2, h1, h0, up, own_at, if_true, if_false]
  have k2 : g8 (nt (2 : Int32)) = f5 b (2 : Int32) := by
    simp +decide only [h7, h6, h5, h4, h3, h2, h1, h0, up, own_at, if_true, if_false]
  have k3 : g8 (nt (3 : Int32)) = f5 b (3 : Int32) := by
    simp +decide only [h7, h6, h5, h4, h3, h2, h1, h0, up, own_at, if_true, if_false]
  have k4 : g8 (nt (4 : Int32)) = f5 b (4 : Int32) := by
    simp +decide only [h7, h6, h5, h4, h3, h2, h1, h0, up, own_at, if_true, if_false]
  have k5 : g8 (nt (5 : Int32)) = f5 b (5 : Int32) := by
    simp +decide only [h7, h6, h5, h4, h3, h2, h1, h0, up, own_at, if_true, if_false]
  have k6 : g8 (nt (6 : Int32)) = f5 b (6 : Int32) := by
    simp +decide only [h7, h6, h5, h4, h3, h2, h1, h0, up, own_at, if_true, if_false]
  unfold f2
  rw [show Nat.toInt32 (nt (7 : Int32)) = (7 : Int32) from rfl]
  rw [own_step _ _ _ _ (0 : Int32) (by decide), k0, show (0 : Int32) + 1 = 1 from rfl]
  rw [own_step _ _ _ _ (1 : Int32) (by decide), k1, show (1 : Int32) + 1 = 2 from rfl]
  rw [own_step _ _ _ _ (2 : Int32) (by decide), k2, show (2 : Int32) + 1 = 3 from rfl]
  rw [own_step _ _ _ _ (3 : Int32) (by decide), k3, show (3 : Int32) + 1 = 4 from rfl]
  rw [own_step _ _ _ _ (4 : Int32) (by decide), k4, show (4 : Int32) + 1 = 5 from rfl]
  rw [own_step _ _ _ _ (5 : Int32) (by decide), k5, show (5 : Int32) + 1 = 6 from rfl]
  rw [own_step _ _ _ _ (6 : Int32) (by decide), k6, show (6 : Int32) + 1 = 7 from rfl]
  rw [own_end _ _ _ _ _ (by decide), own_unmix]
  unfold f3 f6
  simp +decide only [if_true, if_false]
  generalize f5 b (0 : Int32) = a0
  generalize f5 b (1 : Int32) = a1
  generalize f5 b (2 : Int32) = a2
  generalize f5 b (3 : Int32) = a3
  generalize f5 b (4 : Int32) = a4
  generalize f5 b (5 : Int32) = a5
  generalize f5 b (6 : Int32) = a6
  grind
theorem own_c8 (b : Int64) {g1 g2 g3 g4 g5 g6 g7 g8 : Nat → Int32} (h0 : g1 = (if (0 : Int32) < Nat.toInt32 (nt (8 : Int32)) then up (fun _ => 0) (nt (0 : Int32)) (i8 (f5 b (0 : Int32))) else (fun _ => 0))) (h1 : g2 = (if (1 : Int32) < Nat.toInt32 (nt (8 : Int32)) then up g1 (nt (1 : Int32)) (i8 (f5 b (1 : Int32))) else g1)) (h2 : g3 = (if (2 : Int32) < Nat.toInt32 (nt (8 : Int32)) then up g2 (nt (2 : Int32)) (i8 (f5 b (2 : Int32))) else g2)) (h3 : g4 = (if (3 : Int32) < Nat.toInt32 (nt (8 : Int32)) then up g3 (nt (3 : Int32)) (i8 (f5 b (3 : Int32))) else g3)) (h4 : g5 = (if (4 : Int32) < Nat.toInt32 (nt (8 : Int32)) then up g4 (nt (4 : Int32)) (i8 (f5 b (4 : Int32))) else g4)) (h5 : g6 = (if (5 : Int32) < Nat.toInt32 (nt (8 : Int32)) then up g5 (nt (5 : Int32)) (i8 (f5 b (5 : Int32))) else g5)) (h6 : g7 = (if (6 : Int32) < Nat.toInt32 (nt (8 : Int32)) then up g6 (nt (6 : Int32)) (i8 (f5 b (6 : Int32))) else g6)) (h7 : g8 = (if (7 : Int32) < Nat.toInt32 (nt (8 : Int32)) then up g7 (nt (7 : Int32)) (i8 (f5 b (7 : Int32))) else g7)) : f4 (f2 (nt (8 : Int32)) g8) = ((((((((f3 (8 : Int32) (0 : Int32) b) + (f3 (8 : Int32) (1 : Int32) b)) + (f3 (8 : Int32) (2 : Int32) b)) + (f3 (8 : Int32) (3 : Int32) b)) + (f3 (8 : Int32) (4 : Int32) b)) + (f3 (8 : Int32) (5 : Int32) b)) + (f3 (8 : Int32) (6 : Int32) b)) + (f3 (8 : Int32) (7 : Int32) b)) := by
  have k0 : g8 (nt (0 : Int32)) = f5 b (0 : Int32) := by
    simp +decide only [h7, h6, h5, h4, h3, h2, h1, h0, up, own_at, if_true, if_false]
  have k1 : g8 (nt (1 : Int32)) = f5 b (1 : Int32) := by
    simp +decide only [h7, h6, h5, h4, h3, h2, h1, h0, up, own_at, if_true, if_false]
  have k2 : g8 (nt (2 : Int32)) = f5 b (2 : Int32) := by
    simp +decide only [h7, h6, h5, h4, h3, h2, h1, h0, up, own_at, if_true, if_false]
  have k3 : g8 (nt (3 : Int32)) = f5 b (3 : Int32) := by
    simp +decide only [h7, h6, h5, h4, h3, h2, h1, h0, up, own_at, if_true, if_false]
  have k4 : g8 (nt (4 : Int32)) = f5 b (4 : Int32) := by
    simp +decide only [h7, h6, h5, h4, h3, h2, h1, h0, up, own_at, if_true, if_false]
  have k5 : g8 (nt (5 : Int32)) = f5 b (5 : Int32) := by
    simp +decide only [h7, h6, h5, h4, h3, h2, h1, h0, up, own_at, if_true, if_false]
  have k6 : g8 (nt (6 : Int32)) = f5 b (6 : Int32) := by
    simp +decide only [h7, h6, h5, h4, h3, h2, h1, h0, up, own_at, if_true, if_false]
  have k7 : g8 (nt (7 : Int32)) = f5 b (7 : Int32) := by
    simp +decide only [h7, h6, h5, h4, h3, h2, h1, h0, up, own_at, if_true, if_false]
  unfold f2
  rw [show Nat.toInt32 (nt (8 : Int32)) = (8 : Int32) from rfl]
  rw [own_step _ _ _ _ (0 : Int32) (by decide), k0, show (0 : Int32) + 1 = 1 from rfl]
  rw [own_step _ _ _ _ (1 : Int32) (by decide), k1, show (1 : Int32) + 1 = 2 from rfl]
  rw [own_step _ _ _ _ (2 : Int32) (by decide), k2, show (2 : Int32) + 1 = 3 from rfl]
  rw [own_step _ _ _ _ (3 : Int32) (by decide), k3, show (3 : Int32) + 1 = 4 from rfl]
  rw [own_step _ _ _ _ (4 : Int32) (by decide), k4, show (4 : Int32) + 1 = 5 from rfl]
  rw [own_step _ _ _ _ (5 : Int32) (by decide), k5, show (5 : Int32) + 1 = 6 from rfl]
  rw [own_step _ _ _ _ (6 : Int32) (by decide), k6, show (6 : Int32) + 1 = 7 from rfl]
  rw [own_step _ _ _ _ (7 : Int32) (by decide), k7, show (7 : Int32) + 1 = 8 from rfl]
  rw [own_unmix]
  unfold f3 f6
  simp +decide only [if_true, if_false]
  generalize f5 b (0 : Int32) = a0
  generalize f5 b (1 : Int32) = a1
  generalize f5 b (2 : Int32) = a2
  generalize f5 b (3 : Int32) = a3
  generalize f5 b (4 : Int32) = a4
  generalize f5 b (5 : Int32) = a5
  generalize f5 b (6 : Int32) = a6
  generalize f5 b (7 : Int32) = a7
  grind
theorem own_val (b : Int64) (n : Int32) (h0 : 0 ≤ n.toInt) (hn8 : n.toInt ≤ 8) {g1 g2 g3 g4 g5 g6 g7 g8 : Nat → Int32} (hh0 : g1 = (if (0 : Int32) < Nat.toInt32 (nt n) then up (fun _ => 0) (nt (0 : Int32)) (i8 (f5 b (0 : Int32))) else (fun _ => 0))) (h1 : g2 = (if (1 : Int32) < Nat.toInt32 (nt n) then up g1 (nt (1 : Int32)) (i8 (f5 b (1 : Int32))) else g1)) (h2 : g3 = (if (2 : Int32) < Nat.toInt32 (nt n) then up g2 (nt (2 : Int32)) (i8 (f5 b (2 : Int32))) else g2)) (h3 : g4 = (if (3 : Int32) < Nat.toInt32 (nt n) then up g3 (nt (3 : Int32)) (i8 (f5 b (3 : Int32))) else g3)) (h4 : g5 = (if (4 : Int32) < Nat.toInt32 (nt n) then up g4 (nt (4 : Int32)) (i8 (f5 b (4 : Int32))) else g4)) (h5 : g6 = (if (5 : Int32) < Nat.toInt32 (nt n) then up g5 (nt (5 : Int32)) (i8 (f5 b (5 : Int32))) else g5)) (h6 : g7 = (if (6 : Int32) < Nat.toInt32 (nt n) then up g6 (nt (6 : Int32)) (i8 (f5 b (6 : Int32))) else g6)) (h7 : g8 = (if (7 : Int32) < Nat.toInt32 (nt n) then up g7 (nt (7 : Int32)) (i8 (f5 b (7 : Int32))) else g7)) : f4 (f2 (nt n) g8) = ((((((((f3 n (0 : Int32) b) + (f3 n (1 : Int32) b)) + (f3 n (2 : Int32) b)) + (f3 n (3 : Int32) b)) + (f3 n (4 : Int32) b)) + (f3 n (5 : Int32) b)) + (f3 n (6 : Int32) b)) + (f3 n (7 : Int32) b)) := by
  rcases own_nine n h0 hn8 with rfl | rfl | rfl | rfl | rfl | rfl | rfl | rfl | rfl
  · exact own_c0 b hh0 h1 h2 h3 h4 h5 h6 h7
  · exact own_c1 b hh0 h1 h2 h3 h4 h5 h6 h7
  · exact own_c2 b hh0 h1 h2 h3 h4 h5 h6 h7
  · exact own_c3 b hh0 h1 h2 h3 h4 h5 h6 h7
  · exact own_c4 b hh0 h1 h2 h3 h4 h5 h6 h7
  · exact own_c5 b hh0 h1 h2 h3 h4 h5 h6 h7
  · exact own_c6 b hh0 h1 h2 h3 h4 h5 h6 h7
  · exact own_c7 b hh0 h1 h2 h3 h4 h5 h6 h7
  · exact own_c8 b hh0 h1 h2 h3 h4 h5 h6 h7
set_option maxRecDepth 65536 in
set_option maxHeartbeats 40000000 in
theorem law_walk {p : Program} {l : Launch} {e : Env} {s : State} {m : MethodId} {args : Array Value} {below : List Frame} {meth : Method} {c : Code} {T : State} {h : Heap} {n0 : Nat} {Z : State} {a0 : Array Value} (X : Hr p l e room_1 s m args below meth c n0 h 0 0 T) (C : Cx p s m meth c code maxLocals ret "com/example/tracebed/tracebed/store/DictionaryHashPinLaw" "law" Z a0 tables_1) (x0 : Int32) (x1 : Int64) : Goes p e below s n0 (fun v _ => v = some (.int 1)) room_1.cells room_1.slots T (mkF m 0 #[.val (.int x0), .val (.long x1), .second, .unset, .unset, .unset, .unset] []) := by
  refine w_iloadN (pc := 0) X C at_0 rfl ?_
  refine w_ldcI (pc := 1) X C at_1 (v := (2147483647 : Int32)) (List.mem_of_getElem? (i := 0) rfl) ?_
  refine w_iand (pc := 3) X C at_3 ?_
  refine w_bipush (pc := 4) X C at_4 (9 : Int32) rfl ?_
  refine w_irem (pc := 6) X C at_6 (by decide) ?_
  obtain ⟨n, e_n⟩ : ∃ z, z = ((x0 &&& (2147483647 : Int32)) % (9 : Int32)) := ⟨_, rfl⟩
  rw [← e_n]
  have hn0 : 0 ≤ n.toInt := by rw [e_n]; exact (own_m9 x0).1
  have hn8 : n.toInt ≤ 8 := by rw [e_n]; exact (own_m9 x0).2
  have hnt : nt n ≤ 8 := by unfold nt; omega
  refine w_istoreN (pc := 7) X C at_7 #[.val (.int x0), .val (.long x1), .second, .val (.int n), .unset, .unset, .unset] rfl ?_
  refine w_iloadN (pc := 8) X C at_8 rfl ?_
  refine w_new_byte (pc := 9) X C at_9 (List.mem_of_getElem? (i := 1) rfl) (nt n) (nt_eq hn0) 8 (by unfold nt; omega) (by decide) (by decide) (by decide) (fun T1 h1 a1 ha1 hb1 X1 E1 A1 => ?_)
  refine w_astore (pc := 11) X1 C at_11 #[.val (.int x0), .val (.long x1), .second, .val (.int n), .val (.ref a1), .unset, .unset] rfl rfl ?_
  refine w_aload (pc := 13) X1 C at_13 rfl rfl ?_
  refine w_iconst (pc := 15) X1 C at_15 (0 : Int32) rfl ?_
  refine w_lloadN (pc := 16) X1 C at_16 rfl ?_
  refine w_callS (pc := 17) X1 C (y := (⟨"com/example/tracebed/tracebed/store/DictionaryHashPinLaw", "put", "([BIJ)V"⟩ : MethodName)) (bytes := method_4_code) (maxL := 4) (rt := none) (argsL := [(.ref a1), (.int (0 : Int32)), (.long x1)]) (rest := []) (W := 0) at_17 (List.mem_of_getElem? (i := 2) rfl) (List.mem_of_getElem? (i := 3) rfl) (List.mem_of_getElem? (i := 4) rfl) (List.mem_of_getElem? (i := 5) rfl) (by decide) (ct1 l C.2.2.2.2.2.2.2.2 _ X1.size (a1) ((0 : Int32)) (x1) (nt n) (fun _ => 0) A1 hnt (by decide) hb1) rfl ⟨_, _, pd_2, rfl⟩ rfl (Nat.le_of_eq rfl) (by decide) (by decide) (by decide) (by decide) (fun v2 T2 P2 X2 => ?_)
  obtain ⟨rfl, K2, A2⟩ := P2
  obtain ⟨g2, hg2⟩ : ∃ z, z = (if (0 : Int32) < Nat.toInt32 (nt n) then up (fun _ => 0) (nt (0 : Int32)) (i8 (f5 x1 (0 : Int32))) else (fun _ => 0)) := ⟨_, rfl⟩
  rw [← hg2] at A2
  refine w_aload (pc := 20) X2 C at_20 rfl rfl ?_
  refine w_iconst (pc := 22) X2 C at_22 (1 : Int32) rfl ?_
  refine w_lloadN (pc := 23) X2 C at_23 rfl ?_
  refine w_callS (pc := 24) X2 C (y := (⟨"com/example/tracebed/tracebed/store/DictionaryHashPinLaw", "put", "([BIJ)V"⟩ : MethodName)) (bytes := method_4_code) (maxL := 4) (rt := none) (argsL := [(.ref a1), (.int (1 : Int32)), (.long x1)]) (rest := []) (W := 0) at_24 (List.mem_of_getElem? (i := 2) rfl) (List.mem_of_getElem? (i := 3) rfl) (List.mem_of_getElem? (i := 4) rfl) (List.mem_of_getElem? (i := 5) rfl) (by decide) (ct1 l C.2.2.2.2.2.2.2.2 _ X2.size (a1) ((1 : Int32)) (x1) (nt n) g2 A2 hnt (by decide) hb1) rfl ⟨_, _, pd_2, rfl⟩ rfl (Nat.le_of_eq rfl) (by decide) (by decide) (by decide) (by decide) (fun v3 T3 P3 X3 => ?_)
  obtain ⟨rfl, K3, A3⟩ := P3
  obtain ⟨g3, hg3⟩ : ∃ z, z = (if (1 : Int32) < Nat.toInt32 (nt n) then up g2 (nt (1 : Int32)) (i8 (f5 x1 (1 : Int32))) else g2) := ⟨_, rfl⟩
  rw [← hg3] at A3
  refine w_aload (pc := 27) X3 C at_27 rfl rfl ?_
  refine w_iconst (pc := 29) X3 C at_29 (2 : Int32) rfl ?_
  refine w_lloadN (pc := 30) X3 C at_30 rfl ?_
  refine w_callS (pc := 31) X3 C (y := (⟨"com/example/tracebed/tracebed/store/DictionaryHashPinLaw", "put", "([BIJ)V"⟩ : MethodName)) (bytes := method_4_code) (maxL := 4) (rt := none) (argsL := [(.ref a1), (.int (2 : Int32)), (.long x1)]) (rest := []) (W := 0) at_31 (List.mem_of_getElem? (i := 2) rfl) (List.mem_of_getElem? (i := 3) rfl) (List.mem_of_getElem? (i := 4) rfl) (List.mem_of_getElem? (i := 5) rfl) (by decide) (ct1 l C.2.2.2.2.2.2.2.2 _ X3.size (a1) ((2 : Int32)) (x1) (nt n) g3 A3 hnt (by decide) hb1) rfl ⟨_, _, pd_2, rfl⟩ rfl (Nat.le_of_eq rfl) (by decide) (by decide) (by decide) (by decide) (fun v4 T4 P4 X4 => ?_)
  obtain ⟨rfl, K4, A4⟩ := P4
  obtain ⟨g4, hg4⟩ : ∃ z, z = (if (2 : Int32) < Nat.toInt32 (nt n) then up g3 (nt (2 : Int32)) (i8 (f5 x1 (2 : Int32))) else g3) := ⟨_, rfl⟩
  rw [← hg4] at A4
  refine w_aload (pc := 34) X4 C at_34 rfl rfl ?_
  refine w_iconst (pc := 36) X4 C at_36 (3 : Int32) rfl ?_
  refine w_lloadN (pc := 37) X4 C at_37 rfl ?_
  refine w_callS (pc := 38) X4 C (y := (⟨"com/example/tracebed/tracebed/store/DictionaryHashPinLaw", "put", "([BIJ)V"⟩ : MethodName)) (bytes := method_4_code) (maxL := 4) (rt := none) (argsL := [(.ref a1), (.int (3 : Int32)), (.long x1)]) (rest := []) (W := 0) at_38 (List.mem_of_getElem? (i := 2) rfl) (List.mem_of_getElem? (i := 3) rfl) (List.mem_of_getElem? (i := 4) rfl) (List.mem_of_getElem? (i := 5) rfl) (by decide) (ct1 l C.2.2.2.2.2.2.2.2 _ X4.size (a1) ((3 : Int32)) (x1) (nt n) g4 A4 hnt (by decide) hb1) rfl ⟨_, _, pd_2, rfl⟩ rfl (Nat.le_of_eq rfl) (by decide) (by decide) (by decide) (by decide) (fun v5 T5 P5 X5 => ?_)
  obtain ⟨rfl, K5, A5⟩ := P5
  obtain ⟨g5, hg5⟩ : ∃ z, z = (if (3 : Int32) < Nat.toInt32 (nt n) then up g4 (nt (3 : Int32)) (i8 (f5 x1 (3 : Int32))) else g4) := ⟨_, rfl⟩
  rw [← hg5] at A5
  refine w_aload (pc := 41) X5 C at_41 rfl rfl ?_
  refine w_iconst (pc := 43) X5 C at_43 (4 : Int32) rfl ?_
  refine w_lloadN (pc := 44) X5 C at_44 rfl ?_
  refine w_callS (pc := 45) X5 C (y := (⟨"com/example/tracebed/tracebed/store/DictionaryHashPinLaw", "put", "([BIJ)V"⟩ : MethodName)) (bytes := method_4_code) (maxL := 4) (rt := none) (argsL := [(.ref a1), (.int (4 : Int32)), (.long x1)]) (rest := []) (W := 0) at_45 (List.mem_of_getElem? (i := 2) rfl) (List.mem_of_getElem? (i := 3) rfl) (List.mem_of_getElem? (i := 4) rfl) (List.mem_of_getElem? (i := 5) rfl) (by decide) (ct1 l C.2.2.2.2.2.2.2.2 _ X5.size (a1) ((4 : Int32)) (x1) (nt n) g5 A5 hnt (by decide) hb1) rfl ⟨_, _, pd_2, rfl⟩ rfl (Nat.le_of_eq rfl) (by decide) (by decide) (by decide) (by decide) (fun v6 T6 P6 X6 => ?_)
  obtain ⟨rfl, K6, A6⟩ := P6
  obtain ⟨g6, hg6⟩ : ∃ z, z = (if (4 : Int32) < Nat.toInt32 (nt n) then up g5 (nt (4 : Int32)) (i8 (f5 x1 (4 : Int32))) else g5) := ⟨_, rfl⟩
  rw [← hg6] at A6
  refine w_aload (pc := 48) X6 C at_48 rfl rfl ?_
  refine w_iconst (pc := 50) X6 C at_50 (5 : Int32) rfl ?_
  refine w_lloadN (pc := 51) X6 C at_51 rfl ?_
  refine w_callS (pc := 52) X6 C (y := (⟨"com/example/tracebed/tracebed/store/DictionaryHashPinLaw", "put", "([BIJ)V"⟩ : MethodName)) (bytes := method_4_code) (maxL := 4) (rt := none) (argsL := [(.ref a1), (.int (5 : Int32)), (.long x1)]) (rest := []) (W := 0) at_52 (List.mem_of_getElem? (i := 2) rfl) (List.mem_of_getElem? (i := 3) rfl) (List.mem_of_getElem? (i := 4) rfl) (List.mem_of_getElem? (i := 5) rfl) (by decide) (ct1 l C.2.2.2.2.2.2.2.2 _ X6.size (a1) ((5 : Int32)) (x1) (nt n) g6 A6 hnt (by decide) hb1) rfl ⟨_, _, pd_2, rfl⟩ rfl (Nat.le_of_eq rfl) (by decide) (by decide) (by decide) (by decide) (fun v7 T7 P7 X7 => ?_)
  obtain ⟨rfl, K7, A7⟩ := P7
  obtain ⟨g7, hg7⟩ : ∃ z, z = (if (5 : Int32) < Nat.toInt32 (nt n) then up g6 (nt (5 : Int32)) (i8 (f5 x1 (5 : Int32))) else g6) := ⟨_, rfl⟩
  rw [← hg7] at A7
  refine w_aload (pc := 55) X7 C at_55 rfl rfl ?_
  refine w_bipush (pc := 57) X7 C at_57 (6 : Int32) rfl ?_
  refine w_lloadN (pc := 59) X7 C at_59 rfl ?_
  refine w_callS (pc := 60) X7 C (y := (⟨"com/example/tracebed/tracebed/store/DictionaryHashPinLaw", "put", "([BIJ)V"⟩ : MethodName)) (bytes := method_4_code) (maxL := 4) (rt := none) (argsL := [(.ref a1), (.int (6 : Int32)), (.long x1)]) (rest := []) (W := 0) at_60 (List.mem_of_getElem? (i := 2) rfl) (List.mem_of_getElem? (i := 3) rfl) (List.mem_of_getElem? (i := 4) rfl) (List.mem_of_getElem? (i := 5) rfl) (by decide) (ct1 l C.2.2.2.2.2.2.2.2 _ X7.size (a1) ((6 : Int32)) (x1) (nt n) g7 A7 hnt (by decide) hb1) rfl ⟨_, _, pd_2, rfl⟩ rfl (Nat.le_of_eq rfl) (by decide) (by decide) (by decide) (by decide) (fun v8 T8 P8 X8 => ?_)
  obtain ⟨rfl, K8, A8⟩ := P8
  obtain ⟨g8, hg8⟩ : ∃ z, z = (if (6 : Int32) < Nat.toInt32 (nt n) then up g7 (nt (6 : Int32)) (i8 (f5 x1 (6 : Int32))) else g7) := ⟨_, rfl⟩
  rw [← hg8] at A8
  refine w_aload (pc := 63) X8 C at_63 rfl rfl ?_
  refine w_bipush (pc := 65) X8 C at_65 (7 : Int32) rfl ?_
  refine w_lloadN (pc := 67) X8 C at_67 rfl ?_
  refine w_callS (pc := 68) X8 C (y := (⟨"com/example/tracebed/tracebed/store/DictionaryHashPinLaw", "put", "([BIJ)V"⟩ : MethodName)) (bytes := method_4_code) (maxL := 4) (rt := none) (argsL := [(.ref a1), (.int (7 : Int32)), (.long x1)]) (rest := []) (W := 0) at_68 (List.mem_of_getElem? (i := 2) rfl) (List.mem_of_getElem? (i := 3) rfl) (List.mem_of_getElem? (i := 4) rfl) (List.mem_of_getElem? (i := 5) rfl) (by decide) (ct1 l C.2.2.2.2.2.2.2.2 _ X8.size (a1) ((7 : Int32)) (x1) (nt n) g8 A8 hnt (by decide) hb1) rfl ⟨_, _, pd_2, rfl⟩ rfl (Nat.le_of_eq rfl) (by decide) (by decide) (by decide) (by decide) (fun v9 T9 P9 X9 => ?_)
  obtain ⟨rfl, K9, A9⟩ := P9
  obtain ⟨g9, hg9⟩ : ∃ z, z = (if (7 : Int32) < Nat.toInt32 (nt n) then up g8 (nt (7 : Int32)) (i8 (f5 x1 (7 : Int32))) else g8) := ⟨_, rfl⟩
  rw [← hg9] at A9
  refine w_aload (pc := 71) X9 C at_71 rfl rfl ?_
  refine w_callP (pc := 73) X9 C (y := (⟨"com/example/tracebed/tracebed/store/Dictionary", "hash", "([B)I"⟩ : MethodName)) (bytes := prog_129_method_11_code) (maxL := 6) (rt := some .int) (argsL := [(.ref a1)]) (rest := []) (w := .int (f2  (nt n) g9)) (W := 0) at_73 (List.mem_of_getElem? (i := 6) rfl) (List.mem_of_getElem? (i := 7) rfl) (List.mem_of_getElem? (i := 8) rfl) (List.mem_of_getElem? (i := 9) rfl) (by decide) (ct2 l C.2.2.2.2.2.2.2.2 _ X9.size (a1) (nt n) g9 A9 hnt) rfl rfl rfl ⟨_, _, pd_3, rfl⟩ rfl (Nat.le_of_eq rfl) (by decide) (by decide) (by decide) (by decide) (fun T11 X10 => ?_)
  refine w_istore (pc := 76) X10 C at_76 #[.val (.int x0), .val (.long x1), .second, .val (.int n), .val (.ref a1), .val (.int (f2 (nt n) g9)), .unset] rfl ?_
  refine w_iloadN (pc := 78) X10 C at_78 rfl ?_
  refine w_iconst (pc := 79) X10 C at_79 (0 : Int32) rfl ?_
  refine w_lloadN (pc := 80) X10 C at_80 rfl ?_
  refine w_callP (pc := 81) X10 C (y := (⟨"com/example/tracebed/tracebed/store/DictionaryHashPinLaw", "term", "(IIJ)I"⟩ : MethodName)) (bytes := method_6_code) (maxL := 4) (rt := some .int) (argsL := [(.int n), (.int (0 : Int32)), (.long x1)]) (rest := []) (w := .int (f3 n (0 : Int32) x1)) (W := 0) at_81 (List.mem_of_getElem? (i := 12) rfl) (List.mem_of_getElem? (i := 13) rfl) (List.mem_of_getElem? (i := 4) rfl) (List.mem_of_getElem? (i := 14) rfl) (by decide) (ct3 l C.2.2.2.2.2.2.2.2 _ X10.size (n) ((0 : Int32)) (x1)) rfl rfl rfl ⟨_, _, pd_4, rfl⟩ rfl (Nat.le_of_eq rfl) (by decide) (by decide) (by decide) (by decide) (fun T13 X12 => ?_)
  refine w_iloadN (pc := 84) X12 C at_84 rfl ?_
  refine w_iconst (pc := 85) X12 C at_85 (1 : Int32) rfl ?_
  refine w_lloadN (pc := 86) X12 C at_86 rfl ?_
  refine w_callP (pc := 87) X12 C (y := (⟨"com/example/tracebed/tracebed/store/DictionaryHashPinLaw", "term", "(IIJ)I"⟩ : MethodName)) (bytes := method_6_code) (maxL := 4) (rt := some .int) (argsL := [(.int n), (.int (1 : Int32)), (.long x1)]) (rest := [(.int (f3 n (0 : Int32) x1))]) (w := .int (f3 n (1 : Int32) x1)) (W := 1) at_87 (List.mem_of_getElem? (i := 12) rfl) (List.mem_of_getElem? (i := 13) rfl) (List.mem_of_getElem? (i := 4) rfl) (List.mem_of_getElem? (i := 14) rfl) (by decide) (ct3 l C.2.2.2.2.2.2.2.2 _ X12.size (n) ((1 : Int32)) (x1)) rfl rfl rfl ⟨_, _, pd_4, rfl⟩ rfl (Nat.le_of_eq rfl) (by decide) (by decide) (by decide) (by decide) (fun T15 X14 => ?_)
  refine w_iadd (pc := 90) X14 C at_90 ?_
  refine w_iloadN (pc := 91) X14 C at_91 rfl ?_
  refine w_iconst (pc := 92) X14 C at_92 (2 : Int32) rfl ?_
  refine w_lloadN (pc := 93) X14 C at_93 rfl ?_
  refine w_callP (pc := 94) X14 C (y := (⟨"com/example/tracebed/tracebed/store/DictionaryHashPinLaw", "term", "(IIJ)I"⟩ : MethodName)) (bytes := method_6_code) (maxL := 4) (rt := some .int) (argsL := [(.int n), (.int (2 : Int32)), (.long x1)]) (rest := [(.int ((f3 n (0 : Int32) x1) + (f3 n (1 : Int32) x1)))]) (w := .int (f3 n (2 : Int32) x1)) (W := 1) at_94 (List.mem_of_getElem? (i := 12) rfl) (List.mem_of_getElem? (i := 13) rfl) (List.mem_of_getElem? (i := 4) rfl) (List.mem_of_getElem? (i := 14) rfl) (by decide) (ct3 l C.2.2.2.2.2.2.2.2 _ X14.size (n) ((2 : Int32)) (x1)) rfl rfl rfl ⟨_, _, pd_4, rfl⟩ rfl (Nat.le_of_eq rfl) (by decide) (by decide) (by decide) (by decide) (fun T17 X16 => ?_)
  refine w_iadd (pc := 97) X16 C at_97 ?_
  refine w_iloadN (pc := 98) X16 C at_98 rfl ?_
  refine w_iconst (pc := 99) X16 C at_99 (3 : Int32) rfl ?_
  refine w_lloadN (pc := 100) X16 C at_100 rfl ?_
  refine w_callP (pc := 101) X16 C (y := (⟨"com/example/tracebed/tracebed/store/DictionaryHashPinLaw", "term", "(IIJ)I"⟩ : MethodName)) (bytes := method_6_code) (maxL := 4) (rt := some .int) (argsL := [(.int n), (.int (3 : Int32)), (.long x1)]) (rest := [(.int (((f3 n (0 : Int32) x1) + (f3 n (1 : Int32) x1)) + (f3 n (2 : Int32) x1)))]) (w := .int (f3 n (3 : Int32) x1)) (W := 1) at_101 (List.mem_of_getElem? (i := 12) rfl) (List.mem_of_getElem? (i := 13) rfl) (List.mem_of_getElem? (i := 4) rfl) (List.mem_of_getElem? (i := 14) rfl) (by decide) (ct3 l C.2.2.2.2.2.2.2.2 _ X16.size (n) ((3 : Int32)) (x1)) rfl rfl rfl ⟨_, _, pd_4, rfl⟩ rfl (Nat.le_of_eq rfl) (by decide) (by decide) (by decide) (by decide) (fun T19 X18 => ?_)
  refine w_iadd (pc := 104) X18 C at_104 ?_
  refine w_iloadN (pc := 105) X18 C at_105 rfl ?_
  refine w_iconst (pc := 106) X18 C at_106 (4 : Int32) rfl ?_
  refine w_lloadN (pc := 107) X18 C at_107 rfl ?_
  refine w_callP (pc := 108) X18 C (y := (⟨"com/example/tracebed/tracebed/store/DictionaryHashPinLaw", "term", "(IIJ)I"⟩ : MethodName)) (bytes := method_6_code) (maxL := 4) (rt := some .int) (argsL := [(.int n), (.int (4 : Int32)), (.long x1)]) (rest := [(.int ((((f3 n (0 : Int32) x1) + (f3 n (1 : Int32) x1)) + (f3 n (2 : Int32) x1)) + (f3 n (3 : Int32) x1)))]) (w := .int (f3 n (4 : Int32) x1)) (W := 1) at_108 (List.mem_of_getElem? (i := 12) rfl) (List.mem_of_getElem? (i := 13) rfl) (List.mem_of_getElem? (i := 4) rfl) (List.mem_of_getElem? (i := 14) rfl) (by decide) (ct3 l C.2.2.2.2.2.2.2.2 _ X18.size (n) ((4 : Int32)) (x1)) rfl rfl rfl ⟨_, _, pd_4, rfl⟩ rfl (Nat.le_of_eq rfl) (by decide) (by decide) (by decide) (by decide) (fun T21 X20 => ?_)
  refine w_iadd (pc := 111) X20 C at_111 ?_
  refine w_iloadN (pc := 112) X20 C at_112 rfl ?_
  refine w_iconst (pc := 113) X20 C at_113 (5 : Int32) rfl ?_
  refine w_lloadN (pc := 114) X20 C at_114 rfl ?_
  refine w_callP (pc := 115) X20 C (y := (⟨"com/example/tracebed/tracebed/store/DictionaryHashPinLaw", "term", "(IIJ)I"⟩ : MethodName)) (bytes := method_6_code) (maxL := 4) (rt := some .int) (argsL := [(.int n), (.int (5 : Int32)), (.long x1)]) (rest := [(.int (((((f3 n (0 : Int32) x1) + (f3 n (1 : Int32) x1)) + (f3 n (2 : Int32) x1)) + (f3 n (3 : Int32) x1)) + (f3 n (4 : Int32) x1)))]) (w := .int (f3 n (5 : Int32) x1)) (W := 1) at_115 (List.mem_of_getElem? (i := 12) rfl) (List.mem_of_getElem? (i := 13) rfl) (List.mem_of_getElem? (i := 4) rfl) (List.mem_of_getElem? (i := 14) rfl) (by decide) (ct3 l C.2.2.2.2.2.2.2.2 _ X20.size (n) ((5 : Int32)) (x1)) rfl rfl rfl ⟨_, _, pd_4, rfl⟩ rfl (Nat.le_of_eq rfl) (by decide) (by decide) (by decide) (by decide) (fun T23 X22 => ?_)
  refine w_iadd (pc := 118) X22 C at_118 ?_
  refine w_iloadN (pc := 119) X22 C at_119 rfl ?_
  refine w_bipush (pc := 120) X22 C at_120 (6 : Int32) rfl ?_
  refine w_lloadN (pc := 122) X22 C at_122 rfl ?_
  refine w_callP (pc := 123) X22 C (y := (⟨"com/example/tracebed/tracebed/store/DictionaryHashPinLaw", "term", "(IIJ)I"⟩ : MethodName)) (bytes := method_6_code) (maxL := 4) (rt := some .int) (argsL := [(.int n), (.int (6 : Int32)), (.long x1)]) (rest := [(.int ((((((f3 n (0 : Int32) x1) + (f3 n (1 : Int32) x1)) + (f3 n (2 : Int32) x1)) + (f3 n (3 : Int32) x1)) + (f3 n (4 : Int32) x1)) + (f3 n (5 : Int32) x1)))]) (w := .int (f3 n (6 : Int32) x1)) (W := 1) at_123 (List.mem_of_getElem? (i := 12) rfl) (List.mem_of_getElem? (i := 13) rfl) (List.mem_of_getElem? (i := 4) rfl) (List.mem_of_getElem? (i := 14) rfl) (by decide) (ct3 l C.2.2.2.2.2.2.2.2 _ X22.size (n) ((6 : Int32)) (x1)) rfl rfl rfl ⟨_, _, pd_4, rfl⟩ rfl (Nat.le_of_eq rfl) (by decide) (by decide) (by decide) (by decide) (fun T25 X24 => ?_)
  refine w_iadd (pc := 126) X24 C at_126 ?_
  refine w_iloadN (pc := 127) X24 C at_127 rfl ?_
  refine w_bipush (pc := 128) X24 C at_128 (7 : Int32) rfl ?_
  refine w_lloadN (pc := 130) X24 C at_130 rfl ?_
  refine w_callP (pc := 131) X24 C (y := (⟨"com/example/tracebed/tracebed/store/DictionaryHashPinLaw", "term", "(IIJ)I"⟩ : MethodName)) (bytes := method_6_code) (maxL := 4) (rt := some .int) (argsL := [(.int n), (.int (7 : Int32)), (.long x1)]) (rest := [(.int (((((((f3 n (0 : Int32) x1) + (f3 n (1 : Int32) x1)) + (f3 n (2 : Int32) x1)) + (f3 n (3 : Int32) x1)) + (f3 n (4 : Int32) x1)) + (f3 n (5 : Int32) x1)) + (f3 n (6 : Int32) x1)))]) (w := .int (f3 n (7 : Int32) x1)) (W := 1) at_131 (List.mem_of_getElem? (i := 12) rfl) (List.mem_of_getElem? (i := 13) rfl) (List.mem_of_getElem? (i := 4) rfl) (List.mem_of_getElem? (i := 14) rfl) (by decide) (ct3 l C.2.2.2.2.2.2.2.2 _ X24.size (n) ((7 : Int32)) (x1)) rfl rfl rfl ⟨_, _, pd_4, rfl⟩ rfl (Nat.le_of_eq rfl) (by decide) (by decide) (by decide) (by decide) (fun T27 X26 => ?_)
  refine w_iadd (pc := 134) X26 C at_134 ?_
  refine w_istore (pc := 135) X26 C at_135 #[.val (.int x0), .val (.long x1), .second, .val (.int n), .val (.ref a1), .val (.int (f2 (nt n) g9)), .val (.int ((((((((f3 n (0 : Int32) x1) + (f3 n (1 : Int32) x1)) + (f3 n (2 : Int32) x1)) + (f3 n (3 : Int32) x1)) + (f3 n (4 : Int32) x1)) + (f3 n (5 : Int32) x1)) + (f3 n (6 : Int32) x1)) + (f3 n (7 : Int32) x1)))] rfl ?_
  refine w_iload (pc := 137) X26 C at_137 rfl ?_
  refine w_callP (pc := 139) X26 C (y := (⟨"com/example/tracebed/tracebed/store/DictionaryHashPinLaw", "unmix", "(I)I"⟩ : MethodName)) (bytes := method_7_code) (maxL := 2) (rt := some .int) (argsL := [(.int (f2 (nt n) g9))]) (rest := []) (w := .int (f4 (f2 (nt n) g9))) (W := 0) at_139 (List.mem_of_getElem? (i := 15) rfl) (List.mem_of_getElem? (i := 16) rfl) (List.mem_of_getElem? (i := 4) rfl) (List.mem_of_getElem? (i := 17) rfl) (by decide) (ct4 l C.2.2.2.2.2.2.2.2 _ X26.size ((f2 (nt n) g9))) rfl rfl rfl ⟨_, _, pd_1, rfl⟩ rfl (Nat.le_of_eq rfl) (by decide) (by decide) (by decide) (by decide) (fun T29 X28 => ?_)
  refine w_iload (pc := 142) X28 C at_142 rfl ?_
  refine w_icmp_ne (pc := 144) X28 C at_144 151 (by decide) (fun q30 => absurd (own_val x1 n hn0 hn8 hg2 hg3 hg4 hg5 hg6 hg7 hg8 hg9) q30) (fun q30 => ?_)
  refine w_iconst (pc := 147) X28 C at_147 (1 : Int32) rfl ?_
  refine w_goto (pc := 148) X28 C at_148 152 (by decide) ?_
  exact w_ret_boolean (pc := 152) X28 C at_152 rfl
set_option maxRecDepth 65536 in
theorem law_ct (l : Launch) {Z : State} {a0 : Array Value} (hw : ∀ d ∈ tables_1, d.before a0 Z = true) (h : Heap) {n0 : Nat} (hn : n0 ≤ h.size) (x0 : Int32) (x1 : Int64) : Ct l x code maxLocals ret room_1 Z #[(.int x0), (.long x1)] h n0 (fun v _ => v = some (.int 1)) :=
  Ct.of (plainFor_of_name pn_0) #[.val (.int x0), .val (.long x1), .second, .unset, .unset, .unset, .unset] (fun m => by first | (simp [entryFrame, mkF, argsToLocals, Value.category, maxLocals]; done) | rfl) hw hn (fun p e s m below meth c T C X => law_walk X C x0 x1)
set_option maxRecDepth 65536 in
set_option maxHeartbeats 40000000 in
theorem comes_1 {Post : Tables → Env → Array Value → State → Outcome → State → Prop} (hpost : ∀ tb e args s v u, (limb_1_1.after args s (.returned v) u = true ∧ limb_1_2.after args s (.returned v) u = true ∧ True) → FrameEnd s (.returned v) u (Jvm.fieldLocs frame_1_writes args s ++ Jvm.arrayLocs frame_1_arrays args s ++ Jvm.staticLocs frame_1_statics s) 16 128 → Post tb e args s (.returned v) u) :
    ArmFor flags0 classFile x code maxLocals ret World_1 tables_1 room_1 Calls_1 rest_1 Pre_1 Post := by
  intro l hfl _ _ p e ha hc hk s m args below hf hA hF happ hP
  obtain ⟨hcalls, hrest, hpre⟩ := hP
  obtain ⟨-, -, -, hnamed, -, -, -, hat⟩ := (Spec.applies_iff hf).mp happ
  obtain ⟨hg, hn⟩ := and_e (Cond.before_iff.mp (show (Jvm.Cond.and given_1 narrow_1).before args s = true from hpre))
  obtain ⟨g1, g2⟩ := and_e hg
  obtain ⟨g3, g4⟩ := and_e g2
  obtain ⟨w0, w1, rfl⟩ : ∃ w0 w1 : Value, args = #[w0, w1] := by
    have hs : args.size = 2 := by simpa [Cond.value, given_1] using g1
    obtain ⟨L⟩ := args
    match L, hs with
    | [w0, w1], _ => exact ⟨w0, w1, rfl⟩
  have hw := fun d (hd : d ∈ tables_1) => atoms_spec (ws := Jvm.Cond.code x code maxLocals ret :: tables_1) hat d (List.mem_cons_of_mem _ hd)
  obtain ⟨i0, ei0⟩ := is_v g3
  obtain rfl : w0 = (.int i0) := Option.some.inj ei0
  obtain ⟨i1, ei1⟩ := isL_v g4
  obtain rfl : w1 = (.long i1) := Option.some.inj ei1
  obtain ⟨n, o, h1, h2, h3, _, L, rfl, ⟨N, rfl⟩, hq⟩ := law_ct l hw s.heap (Nat.le_refl _) i0 i1 tables_1 p e ha hc hk s m _ below hf ((Spec.applies_iff_loose hf).mp happ).1 ⟨rfl, State.Warmed39.refl s, rfl⟩ trivial
  refine ⟨n, _, h1, h2, h3, hpost _ _ _ _ _ _ ⟨Cond.after_iff.mpr rfl, Cond.after_iff.mpr (eq_i res_at (Term.int_eval (1)) rfl), trivial⟩ ⟨hq.1, hq.2.1, (hq.2.2.sift fun y hy => Or.inr (N y hy)).mono (by decide) (by decide)⟩⟩
theorem main_1_1 : Claimed_1_1 := comes_1 fun _ _ _ _ _ _ h hF => ⟨h.1, hF⟩
theorem main_1_2 : Claimed_1_2 := comes_1 fun _ _ _ _ _ _ h hF => ⟨h.2.1, hF⟩
end Jvm.Pilot.@@N@@
namespace Jvm.Pilot.@@N@@
open Jvm Jvm.ClassFile Sem Op Lib Jvm.Free Jvm.Stand Jvm.Pilot.@@N@@.Jvm.D
/-! MADE BY PROGRAM (witnessworld.py) out of the Statement's table words and the real class files: 9 classes; the members and pool entries that the words name. The judged class is class 1, her method 1. -/
namespace start1
open Jvm.ClassFile
def u (s : String) : CpInfo := .utf8 (stringToUtf16 s)
/-- a pool by its gaps: so many unusable entries, then the entry; so many at the end -/
def gap : Nat → List CpInfo → List CpInfo
  | 0, r => r
  | n + 1, r => .unusable :: gap n r
def poolList (es : List (Nat × CpInfo)) (last : Nat) : List CpInfo := es.foldr (fun e r => gap e.1 (e.2 :: r)) (gap last [])
def pool (es : List (Nat × CpInfo)) (last : Nat) : Array CpInfo := ⟨poolList es last⟩
def fileOf (pool : Array CpInfo) (this : Nat) (attrs : Array Attribute := #[]) (ms : Array MethodInfo := #[]) (fl : Nat := 33) (sup : Nat := 0) (ifs : Array Nat := #[]) (fds : Array FieldInfo := #[]) : ClassFile where
  minorVersion := 0
  majorVersion := 65
  constantPool := pool
  accessFlags := fl
  thisClass := this
  superClass := sup
  interfaces := ifs
  fields := fds
  methods := ms
  attributes := attrs
def plain (name : String) (sup : Option ClassId) : Class where
  name := name
  kind := .ordinary
  loader := none
  accessFlags := 33
  super := sup
  interfaces := #[]
  cf := none
  fields := #[]
  methods := #[]
  instanceTypes := #[]
  staticTypes := #[]
  resolved := #[]
  callSites := []
  init := .initialized
  statics := none
  mirror := none

def pool0 : Array CpInfo := pool [(5, u "<init>"), (0, u "()V"), (1, .class_ 10), (1, u "java/lang/Object")] 113

def k0m0 : Method := { name := "<init>", desc := "()V", sig := { parameters := [], returnType := none }, accessFlags := 1, code := none }
/-- java/lang/Object -/
def k0 : Class := { plain "java/lang/Object" none with
  accessFlags := 33
  interfaces := #[]
  cf := some (fileOf pool0 8 #[] #[{ accessFlags := 1, nameIndex := 5, descriptorIndex := 6, attributes := #[] }] 33 0 #[] #[])
  fields := #[]
  methods := #[k0m0]
  instanceTypes := #[]
  staticTypes := #[]
  resolved := Array.replicate 124 none
  statics := none }

def pool1 : Array CpInfo := pool [(2, .class_ 4), (1, u "java/lang/Object"), (0, u "<init>"), (0, u "()V"), (0, .integer 2147483647), (0, .methodref 9 10), (0, .class_ 11), (0, .nameAndType 12 13), (0, u "com/example/tracebed/tracebed/store/DictionaryHashPinLaw"), (0, u "put"), (0, u "([BIJ)V"), (0, .methodref 15 16), (0, .class_ 17), (0, .nameAndType 18 19), (0, u "com/example/tracebed/tracebed/store/Dictionary"), (0, u "hash"), (0, u "([B)I"), (0, .methodref 9 21), (0, .nameAndType 22 23), (0, u "term"), (0, u "(IIJ)I"), (0, .methodref 9 25), (0, .nameAndType 26 27), (0, u "unmix"), (0, u "(I)I"), (0, .methodref 9 29), (0, .nameAndType 30 31), (0, u "at"), (0, u "(JI)B"), (0, .integer 923521), (0, .integer 28629151), (0, .integer 887503681), (0, .integer 1742810335), (0, .methodref 9 37), (0, .nameAndType 38 27), (0, u "power"), (0, .integer 2127672349), (0, .integer 2781581891), (2, u "law"), (0, u "(IJ)Z")] 5

def k1m0 : Method := { name := "<init>", desc := "()V", sig := { parameters := [], returnType := none }, accessFlags := 1, code := none }
def k1c1 : Code := { maxStack := 5, maxLocals := 7, code := code, exceptionTable := #[], attributes := #[] }
def k1m1 : Method := { name := "law", desc := "(IJ)Z", sig := { parameters := [.int, .long], returnType := some .boolean }, accessFlags := 9, code := some k1c1 }
def k1c2 : Code := { maxStack := 4, maxLocals := 3, code := method_3_code, exceptionTable := #[], attributes := #[] }
def k1m2 : Method := { name := "at", desc := "(JI)B", sig := { parameters := [.long, .int], returnType := some .byte }, accessFlags := 10, code := some k1c2 }
def k1c3 : Code := { maxStack := 5, maxLocals := 4, code := method_4_code, exceptionTable := #[], attributes := #[] }
def k1m3 : Method := { name := "put", desc := "([BIJ)V", sig := { parameters := [(.array .byte), .int, .long], returnType := none }, accessFlags := 10, code := some k1c3 }
def k1c4 : Code := { maxStack := 2, maxLocals := 1, code := method_5_code, exceptionTable := #[], attributes := #[] }
def k1m4 : Method := { name := "power", desc := "(I)I", sig := { parameters := [.int], returnType := some .int }, accessFlags := 10, code := some k1c4 }
def k1c5 : Code := { maxStack := 3, maxLocals := 4, code := method_6_code, exceptionTable := #[], attributes := #[] }
def k1m5 : Method := { name := "term", desc := "(IIJ)I", sig := { parameters := [.int, .int, .long], returnType := some .int }, accessFlags := 10, code := some k1c5 }
def k1c6 : Code := { maxStack := 3, maxLocals := 2, code := method_7_code, exceptionTable := #[], attributes := #[] }
def k1m6 : Method := { name := "unmix", desc := "(I)I", sig := { parameters := [.int], returnType := some .int }, accessFlags := 10, code := some k1c6 }
/-- com/example/tracebed/tracebed/store/DictionaryHashPinLaw -/
def k1 : Class := { plain "com/example/tracebed/tracebed/store/DictionaryHashPinLaw" (some 0) with
  accessFlags := 49
  interfaces := #[]
  cf := some (fileOf pool1 9 #[] #[{ accessFlags := 1, nameIndex := 5, descriptorIndex := 6, attributes := #[] }, { accessFlags := 9, nameIndex := 43, descriptorIndex := 44, attributes := #[] }, { accessFlags := 10, nameIndex := 30, descriptorIndex := 31, attributes := #[] }, { accessFlags := 10, nameIndex := 12, descriptorIndex := 13, attributes := #[] }, { accessFlags := 10, nameIndex := 38, descriptorIndex := 27, attributes := #[] }, { accessFlags := 10, nameIndex := 22, descriptorIndex := 23, attributes := #[] }, { accessFlags := 10, nameIndex := 26, descriptorIndex := 27, attributes := #[] }] 49 2 #[] #[])
  fields := #[]
  methods := #[k1m0, k1m1, k1m2, k1m3, k1m4, k1m5, k1m6]
  instanceTypes := #[]
  staticTypes := #[]
  resolved := Array.replicate 50 none
  statics := none }

def pool2 : Array CpInfo := pool [(2, .class_ 4), (1, u "java/lang/Object"), (0, u "<init>"), (0, u "()V"), (4, .class_ 13), (1, u "com/example/tracebed/tracebed/store/Dictionary"), (0, u "blocks"), (0, u "Ljava/util/List;"), (2, u "newer"), (2, u "slots"), (0, u "[I"), (2, u "hashes"), (2, u "inBlocks"), (0, u "I"), (20, u "hash"), (0, u "([B)I"), (77, .integer 2246822507), (0, .integer 3266489909), (0, u "FIRST_SLOTS")] 31

def k2m0 : Method := { name := "<init>", desc := "()V", sig := { parameters := [], returnType := none }, accessFlags := 0, code := none }
def k2c1 : Code := { maxStack := 3, maxLocals := 6, code := prog_129_method_11_code, exceptionTable := #[], attributes := #[] }
def k2m1 : Method := { name := "hash", desc := "([B)I", sig := { parameters := [(.array .byte)], returnType := some .int }, accessFlags := 8, code := some k2c1 }
/-- com/example/tracebed/tracebed/store/Dictionary -/
def k2 : Class := { plain "com/example/tracebed/tracebed/store/Dictionary" (some 0) with
  accessFlags := 48
  interfaces := #[]
  cf := some (fileOf pool2 11 #[] #[{ accessFlags := 0, nameIndex := 5, descriptorIndex := 6, attributes := #[] }, { accessFlags := 8, nameIndex := 50, descriptorIndex := 51, attributes := #[] }] 48 2 #[] #[{ accessFlags := 26, nameIndex := 131, descriptorIndex := 29, attributes := #[] }, { accessFlags := 18, nameIndex := 14, descriptorIndex := 15, attributes := #[] }, { accessFlags := 2, nameIndex := 28, descriptorIndex := 29, attributes := #[] }, { accessFlags := 18, nameIndex := 18, descriptorIndex := 15, attributes := #[] }, { accessFlags := 2, nameIndex := 21, descriptorIndex := 22, attributes := #[] }, { accessFlags := 2, nameIndex := 25, descriptorIndex := 22, attributes := #[] }])
  fields := #[{ name := "FIRST_SLOTS", type := .int, accessFlags := 26, slot := 0, constantValue := 0 }, { name := "blocks", type := (.object "java/util/List"), accessFlags := 18, slot := 0, constantValue := 0 }, { name := "inBlocks", type := .int, accessFlags := 2, slot := 1, constantValue := 0 }, { name := "newer", type := (.object "java/util/List"), accessFlags := 18, slot := 2, constantValue := 0 }, { name := "slots", type := (.array .int), accessFlags := 2, slot := 3, constantValue := 0 }, { name := "hashes", type := (.array .int), accessFlags := 2, slot := 4, constantValue := 0 }]
  methods := #[k2m0, k2m1]
  instanceTypes := #[(.object "java/util/List"), .int, (.object "java/util/List"), (.array .int), (.array .int)]
  staticTypes := #[.int]
  resolved := Array.replicate 163 none
  statics := none }

def pool3 : Array CpInfo := pool [(1, u "java/lang/Cloneable"), (0, .class_ 1), (0, u "java/lang/Object"), (0, .class_ 3)] 3

/-- java/lang/Cloneable -/
def k3 : Class := { plain "java/lang/Cloneable" (some 0) with
  accessFlags := 1537
  interfaces := #[]
  cf := some (fileOf pool3 2 #[] #[] 1537 4 #[] #[])
  fields := #[]
  methods := #[]
  instanceTypes := #[]
  staticTypes := #[]
  resolved := Array.replicate 8 none
  statics := none }

def pool4 : Array CpInfo := pool [(1, u "java/io/Serializable"), (0, .class_ 1), (0, u "java/lang/Object"), (0, .class_ 3)] 3

/-- java/io/Serializable -/
def k4 : Class := { plain "java/io/Serializable" (some 0) with
  accessFlags := 1537
  interfaces := #[]
  cf := some (fileOf pool4 2 #[] #[] 1537 4 #[] #[])
  fields := #[]
  methods := #[]
  instanceTypes := #[]
  staticTypes := #[]
  resolved := Array.replicate 8 none
  statics := none }

/-- the primitive byte -/
def k5 : Class := { plain "byte" none with kind := .primitive 'B', accessFlags := 0x411 }
/-- [B -/
def k6 : Class := { plain "[B" (some 0) with kind := .array 5 .byte, interfaces := #[3, 4], accessFlags := 1041 }

/-- the primitive int -/
def k7 : Class := { plain "int" none with kind := .primitive 'I', accessFlags := 0x411 }
/-- [I -/
def k8 : Class := { plain "[I" (some 0) with kind := .array 7 .int, interfaces := #[3, 4], accessFlags := 1041 }

def heap : Heap := #[]
def classes : Array Class := #[k0, k1, k2, k3, k4, k5, k6, k7, k8]
def interned : List (Array UInt16 × Addr) := []
def slotsUsed : Nat := 0
def theMethod : MethodId := ⟨1, 1⟩
def args0 : Array Value := #[.int 5, .long 3]
def aboutOver (below : List Frame) : State where
  vm := { classes := classes, interned := interned.toArray }
  heap := heap
  slotsUsed := slotsUsed
  threads := #[{ frames := .invoking theMethod args0 :: below }]
def below0 : List Frame := [.native { method := ⟨0, 0⟩, args := #[] }]
def about1 : State := aboutOver below0
def p0 : Program := .bare "" "" ""
def e0 : Env := launch0.env 0 0 0
theorem w_frames : about1.frames = Frame.invoking theMethod args0 :: below0 := rfl
set_option maxRecDepth 65536 in
theorem w_args : argsFit about1.vm theMethod args0 = true := by decide +kernel
set_option maxRecDepth 65536 in
theorem w_heap : heapFits about1 = true := by decide +kernel
set_option maxRecDepth 65536 in
theorem w_runnable : about1.curStatus? = some .runnable := by decide +kernel
set_option maxRecDepth 65536 in
theorem w_alone : about1.alone = true := by decide +kernel
set_option maxRecDepth 65536 in
theorem w_named : about1.methodNamed? x = some theMethod := by decide +kernel
set_option maxRecDepth 65536 in
theorem w_hears : about1.hears theMethod below0 = true := by decide +kernel
set_option maxRecDepth 65536 in
theorem w_ripe : about1.ripe theMethod args0 below0 = true := by decide +kernel
theorem w_running : about1.status = .running := rfl
set_option maxRecDepth 65536 in
theorem w_room : about1.hasRoom e0.platform room_1 = true :=
  launch0.hasRoom_least _ room_1 (by decide +kernel) (by decide +kernel) (by decide +kernel) (by decide +kernel) (by decide +kernel) (by decide +kernel)
theorem allAtoms_all (ts : List Jvm.Cond) (a : Array Jvm.Value) (st : Jvm.State) : (allAtoms ts).before a st = ts.all (fun c => c.before a st) := by
  induction ts with
  | nil => rfl
  | cons c t ih =>
    show (Jvm.Cond.and c (allAtoms t)).before a st = _
    rw [Jvm.Cond.before_and, ih, List.all_cons]
def words1 : List Jvm.Cond := Jvm.Cond.code x code maxLocals ret :: tables_1
/-- a 'code' word, met by the world's own term for the bytes: nothing is compared byte by byte -/
theorem code_word {y : MethodName} {bytes : ByteArray} {mx : Nat} {rt : Option FieldType} {a : Array Value} {s : State} {m : MethodId} {meth : Method} {c : Code} (h1 : s.methodNamed? y = some m) (h2 : s.vm.method? m = some meth) (h3 : meth.code = some c) (h4 : c.code = bytes)
    (h5 : (c.maxLocals == mx && c.exceptionTable.isEmpty && decide (c.maxStack ≤ mostOperands) && decide (meth.sig.returnType = rt) && !meth.locks && decide (parseMethodDescriptor y.desc = some meth.sig)) = true) : (Jvm.Cond.code y bytes mx rt).before a s = true := by
  simp only [Bool.and_eq_true, beq_iff_eq, Bool.not_eq_true', decide_eq_true_eq] at h5
  obtain ⟨⟨⟨⟨⟨g1, g2⟩, g3⟩, g4⟩, g5⟩, g6⟩ := h5
  simp [Cond.before, Cond.holds, Cond.value, h1, h2, h3, h4, g1, g2, g3, g4, g5, g6]
def isCode : Jvm.Cond → Bool
  | .code _ _ _ _ => true
  | _ => false
theorem all_split {L : List Jvm.Cond} {P : Jvm.Cond → Bool} (h1 : L.all (fun c => isCode c || P c) = true) (h2 : ∀ c ∈ L.filter isCode, P c = true) : L.all P = true := by
  refine List.all_eq_true.mpr fun c hc => ?_
  have h := List.all_eq_true.mp h1 c hc
  rcases Bool.eq_false_or_eq_true (isCode c) with hi | hi
  · exact h2 c (List.mem_filter.mpr ⟨hc, hi⟩)
  · simpa [hi] using h
set_option maxRecDepth 65536 in
theorem w_c0 : (Jvm.Cond.code x code maxLocals ret).before args0 about1 = true := code_word (m := ⟨1, 1⟩) (meth := k1m1) (c := k1c1) (by decide +kernel) rfl rfl rfl (by decide +kernel)
set_option maxRecDepth 65536 in
theorem w_c1 : (Jvm.Cond.code ({ cls := "com/example/tracebed/tracebed/store/DictionaryHashPinLaw", name := "put", desc := "([BIJ)V" } : Jvm.MethodName) method_4_code (4 : Nat) (Option.none : Option Jvm.ClassFile.FieldType)).before args0 about1 = true := code_word (m := ⟨1, 3⟩) (meth := k1m3) (c := k1c3) (by decide +kernel) rfl rfl rfl (by decide +kernel)
set_option maxRecDepth 65536 in
theorem w_c2 : (Jvm.Cond.code ({ cls := "com/example/tracebed/tracebed/store/Dictionary", name := "hash", desc := "([B)I" } : Jvm.MethodName) prog_129_method_11_code (6 : Nat) (Option.some Jvm.ClassFile.FieldType.int)).before args0 about1 = true := code_word (m := ⟨2, 1⟩) (meth := k2m1) (c := k2c1) (by decide +kernel) rfl rfl rfl (by decide +kernel)
set_option maxRecDepth 65536 in
theorem w_c3 : (Jvm.Cond.code ({ cls := "com/example/tracebed/tracebed/store/DictionaryHashPinLaw", name := "term", desc := "(IIJ)I" } : Jvm.MethodName) method_6_code (4 : Nat) (Option.some Jvm.ClassFile.FieldType.int)).before args0 about1 = true := code_word (m := ⟨1, 5⟩) (meth := k1m5) (c := k1c5) (by decide +kernel) rfl rfl rfl (by decide +kernel)
set_option maxRecDepth 65536 in
theorem w_c4 : (Jvm.Cond.code ({ cls := "com/example/tracebed/tracebed/store/DictionaryHashPinLaw", name := "unmix", desc := "(I)I" } : Jvm.MethodName) method_7_code (2 : Nat) (Option.some Jvm.ClassFile.FieldType.int)).before args0 about1 = true := code_word (m := ⟨1, 6⟩) (meth := k1m6) (c := k1c6) (by decide +kernel) rfl rfl rfl (by decide +kernel)
set_option maxRecDepth 65536 in
theorem w_c5 : (Jvm.Cond.code ({ cls := "com/example/tracebed/tracebed/store/DictionaryHashPinLaw", name := "at", desc := "(JI)B" } : Jvm.MethodName) method_3_code (3 : Nat) (Option.some Jvm.ClassFile.FieldType.byte)).before args0 about1 = true := code_word (m := ⟨1, 2⟩) (meth := k1m2) (c := k1c2) (by decide +kernel) rfl rfl rfl (by decide +kernel)
set_option maxRecDepth 65536 in
theorem w_c6 : (Jvm.Cond.code ({ cls := "com/example/tracebed/tracebed/store/DictionaryHashPinLaw", name := "power", desc := "(I)I" } : Jvm.MethodName) method_5_code (1 : Nat) (Option.some Jvm.ClassFile.FieldType.int)).before args0 about1 = true := code_word (m := ⟨1, 4⟩) (meth := k1m4) (c := k1c4) (by decide +kernel) rfl rfl rfl (by decide +kernel)
def codes1 : List Jvm.Cond := [Jvm.Cond.code x code maxLocals ret, Jvm.Cond.code ({ cls := "com/example/tracebed/tracebed/store/DictionaryHashPinLaw", name := "put", desc := "([BIJ)V" } : Jvm.MethodName) method_4_code (4 : Nat) (Option.none : Option Jvm.ClassFile.FieldType), Jvm.Cond.code ({ cls := "com/example/tracebed/tracebed/store/Dictionary", name := "hash", desc := "([B)I" } : Jvm.MethodName) prog_129_method_11_code (6 : Nat) (Option.some Jvm.ClassFile.FieldType.int), Jvm.Cond.code ({ cls := "com/example/tracebed/tracebed/store/DictionaryHashPinLaw", name := "term", desc := "(IIJ)I" } : Jvm.MethodName) method_6_code (4 : Nat) (Option.some Jvm.ClassFile.FieldType.int), Jvm.Cond.code ({ cls := "com/example/tracebed/tracebed/store/DictionaryHashPinLaw", name := "unmix", desc := "(I)I" } : Jvm.MethodName) method_7_code (2 : Nat) (Option.some Jvm.ClassFile.FieldType.int), Jvm.Cond.code ({ cls := "com/example/tracebed/tracebed/store/DictionaryHashPinLaw", name := "at", desc := "(JI)B" } : Jvm.MethodName) method_3_code (3 : Nat) (Option.some Jvm.ClassFile.FieldType.byte), Jvm.Cond.code ({ cls := "com/example/tracebed/tracebed/store/DictionaryHashPinLaw", name := "power", desc := "(I)I" } : Jvm.MethodName) method_5_code (1 : Nat) (Option.some Jvm.ClassFile.FieldType.int)]
set_option maxRecDepth 65536 in
theorem codes_eq : words1.filter isCode = codes1 := rfl
theorem w_codes : ∀ c ∈ words1.filter isCode, c.before args0 about1 = true := by
  rw [codes_eq]
  intro c hc
  simp only [codes1, List.mem_cons, List.not_mem_nil, or_false] at hc
  rcases hc with rfl | rfl | rfl | rfl | rfl | rfl | rfl
  · exact w_c0
  · exact w_c1
  · exact w_c2
  · exact w_c3
  · exact w_c4
  · exact w_c5
  · exact w_c6
set_option maxRecDepth 65536 in
theorem w_t1 : (words1.take 24).all (fun c => isCode c || c.before args0 about1) = true := by decide +kernel
set_option maxRecDepth 65536 in
theorem w_t2 : (words1.drop 24).all (fun c => isCode c || c.before args0 about1) = true := by decide +kernel
theorem w_tables : (allAtoms (Jvm.Cond.code x code maxLocals ret :: tables_1)).before args0 about1 = true := by
  rw [allAtoms_all]
  show words1.all (fun c => c.before args0 about1) = true
  refine all_split ?_ w_codes
  rw [← List.take_append_drop 24 words1, List.all_append, w_t1, w_t2]
  rfl
set_option maxRecDepth 65536 in
theorem w_case : (Jvm.Cond.and given_1 narrow_1).before args0 about1 = true := by decide +kernel
theorem w_applies : (headSpec (Jvm.Cond.code x code maxLocals ret :: tables_1) room_1).applies x e0.platform about1 = true :=
  (Spec.applies_iff w_frames).mpr ⟨w_running, w_runnable, w_alone, w_named, w_hears, w_ripe, w_room, w_tables⟩
theorem atStart : AtStart classFile x code maxLocals ret World_1 tables_1 room_1 Calls_1 rest_1 Pre_1 launch0 p0 e0 about1 theMethod args0 below0 :=
  ⟨lists_1, trivial, launch0.admits_env _ _ _, launch0.least_env, fairChoices_fair.cas, fairChoices_fair.clock, w_frames, w_args, w_heap, w_applies, trivial, trivial, w_case⟩
end start1
theorem witness_1 : WitnessClaimed_1 := ⟨start1.p0, start1.e0, start1.about1, start1.theMethod, start1.args0, start1.below0, start1.atStart⟩
end Jvm.Pilot.@@N@@
