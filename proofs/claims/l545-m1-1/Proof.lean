import JvmDerived
import JvmDerived.Pilot.@@N@@Statement
import JvmDerived.Pilot.@@N@@Code
set_option linter.unusedVariables false
set_option linter.unusedSimpArgs false
namespace Jvm.OwnW
open Sem ClassFile Op Lib Jvm.Stand Jvm.Free Jvm.LawKit Jvm.RoadKit
theorem retI' {p : Program} {l : Launch} {e : Env} {R : Room} {s : State} {m : MethodId} {args : Array Value} {below : List Frame} {meth : Method} {c : Code} {T : State} {locs : List Loc} {cells slots : Nat} (X : Stand p l e R s m args below meth c T locs cells slots) (hx : p.tables.exec = Jvm.exec) {pc : Nat} {Ls : Array Slot} {z : Int32} {rest : List Value} (hret : meth.sig.returnType = some .int) (hd : decode c.code pc = .ok (.ireturn, 1)) {fs : List Frame}
    (hl : ∀ (f : JFrame) (acts : List Action), f.method = m → f.locked = none → f.entered = [] → (doReturn e (T.setTop f) acts (some (.int z))).1 = T.setFrames fs) : Steps p.tables e below (T.setTop (mkF m pc Ls (.int z :: rest))) (T.setFrames fs) :=
  retOut X hx hret rfl (Or.inl ⟨rfl, Or.inl rfl, z, rfl⟩) hd hl
end Jvm.OwnW
namespace Jvm.OwnW
open Sem ClassFile Op Lib Jvm.Stand Jvm.Free Jvm.LawKit Jvm.RoadKit
def ushrI (x y : Int32) : Int32 := (x.toUInt32 >>> (y &&& 31).toUInt32).toInt32
def shlI (x y : Int32) : Int32 := x <<< (y &&& 31)
def shrI (x y : Int32) : Int32 := x >>> (y &&& 31)
def shlJ (x : Int64) (y : Int32) : Int64 := x <<< (y &&& 0x3f).toInt64
def shrJ (x : Int64) (y : Int32) : Int64 := x >>> (y &&& 0x3f).toInt64
def ushrJ (x : Int64) (y : Int32) : Int64 := (x.toUInt64 >>> (y &&& 0x3f).toInt64.toUInt64).toInt64
def cmpJ (x y : Int64) : Int32 := if x > y then 1 else if x = y then 0 else -1
def i8 (x : Int32) : Int32 := x.toInt8.toInt32
def i16c (x : Int32) : Int32 := x.toUInt32.toUInt16.toUInt32.toInt32
/-- from T with g on top the run comes to its end, and P says of what it returns and of the heap -/
def Goes (p : Program) (e : Env) (below : List Frame) (s : State) (n0 : Nat) (P : Option Value → Heap → Prop) (k n : Nat) (T : State) (g : JFrame) : Prop :=
  ∃ s₂ o, Steps p.tables e below (T.setTop g) s₂ ∧ s₂.status = .running ∧ Ended s₂ below o ∧ ∃ v L, o = .returned v ∧ (Fr n0 L ∧ P v s₂.heap) ∧ FrameEnd s o s₂ L k n
/-- where a walk stands: nothing old is written, the heap is h -/
def Hr (p : Program) (l : Launch) (e : Env) (R : Room) (s : State) (m : MethodId) (args : Array Value) (below : List Frame) (meth : Method) (c : Code) (n0 : Nat) (h : Heap) (cells slots : Nat) (T : State) : Prop :=
  ∃ locs, Stand p l e R s m args below meth c T locs cells slots ∧ T.heap = h ∧ Fr n0 locs ∧ n0 ≤ s.heap.size
/-- what stays through a body -/
def Cx (p : Program) (s : State) (m : MethodId) (meth : Method) (c : Code) (code : ByteArray) (ml : Nat) (ret : Option FieldType) (own nm : String) (Z : State) (a0 : Array Value) (tabs : List Jvm.Cond) : Prop :=
  p.tables.exec = Jvm.exec ∧ c.code = code ∧ c.maxLocals = ml ∧ meth.sig.returnType = ret ∧ meth.locks = false ∧ s.vm.findClass own = some m.cls ∧ meth.name = nm ∧ Z.Warmed39 s.vm ∧ ∀ d ∈ tabs, d.before a0 Z = true
/-- a body's contract: called with these arguments at this heap it returns, nothing old is written, and P says the rest -/
def Ct (l : Launch) (y : MethodName) (bytes : ByteArray) (maxL : Nat) (ret : Option FieldType) (rm : Room) (Z : State) (as' : Array Value) (h : Heap) (n0 : Nat) (P : Option Value → Heap → Prop) : Prop :=
  ∀ ws, MetFree l y (head1 (Jvm.Cond.code y bytes maxL ret :: ws) rm) (fun a U => a = as' ∧ Z.Warmed39 U.vm ∧ U.heap = h) (fun _ _ _ _ _ => True) (fun _ U o U' => ∃ v L, o = .returned v ∧ (Fr n0 L ∧ P v U'.heap) ∧ FrameEnd U o U' L rm.cells rm.slots)
def up {α : Type} (g : Nat → α) (j : Nat) (v : α) : Nat → α := fun i => if i = j then v else g i
/-- an array of N places: place i holds f i -/
def ArV (Z : State) (h : Heap) (a : Addr) (ty : FieldType) (N : Nat) (f : Nat → Value) : Prop := ∃ cl : Cell, Arr Z h a cl ty ∧ cl.slots.size = N ∧ ∀ i, i < N → cl.slots[i]? = some (f i)
abbrev ArI (Z : State) (h : Heap) (a : Addr) (ty : FieldType) (N : Nat) (g : Nat → Int32) : Prop := ArV Z h a ty N (fun i => .int (g i))
abbrev ArJ (Z : State) (h : Heap) (a : Addr) (N : Nat) (g : Nat → Int64) : Prop := ArV Z h a .long N (fun i => .long (g i))
/-- an index as a natural number -/
def nt (j : Int32) : Nat := j.toInt.toNat
theorem nt_eq {j : Int32} (h : 0 ≤ j.toInt) : j.toInt = (nt j : Int) := by unfold nt; omega
theorem nt_lt {j : Int32} {N : Nat} (h : j.toInt < N) (h0 : 0 < N) : nt j < N := by unfold nt; omega
theorem add1 {x : Int32} (y : Int32) (d : Int) (hd : y.toInt = d) (h1 : -2147483648 ≤ x.toInt + d) (h2 : x.toInt + d < 2147483648) : (x + y).toInt = x.toInt + d := by
  have h := c_iadd x y
  have r := rng32 (x + y)
  omega
theorem sub1 {x : Int32} (y : Int32) (d : Int) (hd : y.toInt = d) (h1 : -2147483648 ≤ x.toInt - d) (h2 : x.toInt - d < 2147483648) : (x - y).toInt = x.toInt - d := by
  have h := c_isub x y
  have r := rng32 (x - y)
  omega
section W
variable {p : Program} {l : Launch} {e : Env} {R : Room} {s : State} {m : MethodId} {args : Array Value} {below : List Frame} {meth : Method} {c : Code} {T : State} {h h' : Heap} {cells slots : Nat} {n0 : Nat} {P : Option Value → Heap → Prop} {k n : Nat} {code : ByteArray} {ml : Nat} {ret : Option FieldType} {own nm : String} {Z : State} {a0 : Array Value} {tabs : List Jvm.Cond}
theorem Goes.of {g g' : JFrame} {T' : State} (st : ∀ target, Steps p.tables e below (T'.setTop g') target → Steps p.tables e below (T.setTop g) target) (K : Goes p e below s n0 P k n T' g') : Goes p e below s n0 P k n T g := by
  obtain ⟨s₂, o, h1, r⟩ := K
  exact ⟨s₂, o, st _ h1, r⟩
theorem Goes.imp {P' : Option Value → Heap → Prop} {g : JFrame} (hp : ∀ v h, P v h → P' v h) (K : Goes p e below s n0 P k n T g) : Goes p e below s n0 P' k n T g := by
  obtain ⟨s₂, o, h1, h2, h3, v, L, h4, h5, h6⟩ := K
  exact ⟨s₂, o, h1, h2, h3, v, L, h4, ⟨h5.1, hp _ _ h5.2⟩, h6⟩
theorem Ct.imp {y : MethodName} {bytes : ByteArray} {maxL : Nat} {rm : Room} {as' : Array Value} {P' : Option Value → Heap → Prop} (hp : ∀ v h, P v h → P' v h) (K : Ct l y bytes maxL ret rm Z as' h n0 P) : Ct l y bytes maxL ret rm Z as' h n0 P' := by
  intro ws p e ha hc hk s m args below hf happ hP hK
  obtain ⟨n, o, h1, h2, h3, v, L, h4, h5, h6⟩ := K ws p e ha hc hk s m args below hf happ hP hK
  exact ⟨n, o, h1, h2, h3, v, L, h4, ⟨h5.1, hp _ _ h5.2⟩, h6⟩
theorem Hr.size (X : Hr p l e R s m args below meth c n0 h cells slots T) : n0 ≤ h.size := by
  obtain ⟨locs, S, eT, N, q⟩ := X
  have q2 : s.heap.size ≤ T.heap.size := S.same.2.1
  rw [eT] at q2
  exact Nat.le_trans q q2
theorem Ct.of {y : MethodName} {bytes : ByteArray} {maxL : Nat} {rm : Room} {as' : Array Value} (hpl : plainFor y = true) (Ls : Array Slot) (hef : ∀ m, entryFrame m as' maxL = mkF m 0 Ls []) (hw : ∀ d ∈ tabs, d.before a0 Z = true) (hn0 : n0 ≤ h.size)
    (K : ∀ p e s m below meth c T, Cx p s m meth c bytes maxL ret y.cls y.name Z a0 tabs → Hr p l e rm s m as' below meth c n0 h 0 0 T → Goes p e below s n0 P rm.cells rm.slots T (mkF m 0 Ls [])) :
    Ct l y bytes maxL ret rm Z as' h n0 P := by
  intro ws
  refine MetFree.of_bodySF hpl hisR ?_
  intro p e s m args below meth c s₁ Bd hml0 hP hK
  obtain ⟨rfl, hZ, hh⟩ := hP
  obtain ⟨s₂, o, h1, r⟩ := K p e s m below meth c s₁ ⟨Bd.exec, Bd.bytes, hml0, Bd.returns, BodyLoose.notSynchronized Bd, findClass_of_methodNamed Bd.named, (name_of_methodNamed Bd.named Bd.method).1, hZ, hw⟩ ⟨[], Stand.of_body Bd, by rw [← hh, Bd.state]; rfl, Fr.nil n0, by rw [hh]; exact hn0⟩
  exact ⟨s₂, o, castTop (hef m) h1, r⟩

theorem w_iadd (X : Hr p l e R s m args below meth c n0 h cells slots T) (C : Cx p s m meth c code ml ret own nm Z a0 tabs) {pc : Nat} {Ls : Array Slot} {x y : Int32} {rest : List Value} (hd : decode code pc = .ok (.iadd, 1)) (K : Goes p e below s n0 P k n T (mkF m (pc + 1) Ls (.int (x + y) :: rest))) : Goes p e below s n0 P k n T (mkF m pc Ls (.int y :: .int x :: rest)) := by
  obtain ⟨locs, S, -, -, -⟩ := X
  exact Goes.of (fun _ kk => XS.iadd S.here C.1 rfl (hb C.2.1 hd) rfl kk) K
theorem w_isub (X : Hr p l e R s m args below meth c n0 h cells slots T) (C : Cx p s m meth c code ml ret own nm Z a0 tabs) {pc : Nat} {Ls : Array Slot} {x y : Int32} {rest : List Value} (hd : decode code pc = .ok (.isub, 1)) (K : Goes p e below s n0 P k n T (mkF m (pc + 1) Ls (.int (x - y) :: rest))) : Goes p e below s n0 P k n T (mkF m pc Ls (.int y :: .int x :: rest)) := by
  obtain ⟨locs, S, -, -, -⟩ := X
  exact Goes.of (fun _ kk => XS.isub S.here C.1 rfl (hb C.2.1 hd) rfl kk) K
theorem w_imul (X : Hr p l e R s m args below meth c n0 h cells slots T) (C : Cx p s m meth c code ml ret own nm Z a0 tabs) {pc : Nat} {Ls : Array Slot} {x y : Int32} {rest : List Value} (hd : decode code pc = .ok (.imul, 1)) (K : Goes p e below s n0 P k n T (mkF m (pc + 1) Ls (.int (x * y) :: rest))) : Goes p e below s n0 P k n T (mkF m pc Ls (.int y :: .int x :: rest)) := by
  obtain ⟨locs, S, -, -, -⟩ := X
  exact Goes.of (fun _ kk => XS.imul S.here C.1 rfl (hb C.2.1 hd) rfl kk) K
theorem w_iand (X : Hr p l e R s m args below meth c n0 h cells slots T) (C : Cx p s m meth c code ml ret own nm Z a0 tabs) {pc : Nat} {Ls : Array Slot} {x y : Int32} {rest : List Value} (hd : decode code pc = .ok (.iand, 1)) (K : Goes p e below s n0 P k n T (mkF m (pc + 1) Ls (.int (x &&& y) :: rest))) : Goes p e below s n0 P k n T (mkF m pc Ls (.int y :: .int x :: rest)) := by
  obtain ⟨locs, S, -, -, -⟩ := X
  exact Goes.of (fun _ kk => XS.iand S.here C.1 rfl (hb C.2.1 hd) rfl kk) K
theorem w_ior (X : Hr p l e R s m args below meth c n0 h cells slots T) (C : Cx p s m meth c code ml ret own nm Z a0 tabs) {pc : Nat} {Ls : Array Slot} {x y : Int32} {rest : List Value} (hd : decode code pc = .ok (.ior, 1)) (K : Goes p e below s n0 P k n T (mkF m (pc + 1) Ls (.int (x ||| y) :: rest))) : Goes p e below s n0 P k n T (mkF m pc Ls (.int y :: .int x :: rest)) := by
  obtain ⟨locs, S, -, -, -⟩ := X
  exact Goes.of (fun _ kk => XS.ior S.here C.1 rfl (hb C.2.1 hd) rfl kk) K
theorem w_ixor (X : Hr p l e R s m args below meth c n0 h cells slots T) (C : Cx p s m meth c code ml ret own nm Z a0 tabs) {pc : Nat} {Ls : Array Slot} {x y : Int32} {rest : List Value} (hd : decode code pc = .ok (.ixor, 1)) (K : Goes p e below s n0 P k n T (mkF m (pc + 1) Ls (.int (x ^^^ y) :: rest))) : Goes p e below s n0 P k n T (mkF m pc Ls (.int y :: .int x :: rest)) := by
  obtain ⟨locs, S, -, -, -⟩ := X
  exact Goes.of (fun _ kk => XS.ixor S.here C.1 rfl (hb C.2.1 hd) rfl kk) K
theorem w_ishl (X : Hr p l e R s m args below meth c n0 h cells slots T) (C : Cx p s m meth c code ml ret own nm Z a0 tabs) {pc : Nat} {Ls : Array Slot} {x y : Int32} {rest : List Value} (hd : decode code pc = .ok (.ishl, 1)) (K : Goes p e below s n0 P k n T (mkF m (pc + 1) Ls (.int (shlI x y) :: rest))) : Goes p e below s n0 P k n T (mkF m pc Ls (.int y :: .int x :: rest)) := by
  obtain ⟨locs, S, -, -, -⟩ := X
  exact Goes.of (fun _ kk => XS.ishl S.here C.1 rfl (hb C.2.1 hd) rfl kk) K
theorem w_ishr (X : Hr p l e R s m args below meth c n0 h cells slots T) (C : Cx p s m meth c code ml ret own nm Z a0 tabs) {pc : Nat} {Ls : Array Slot} {x y : Int32} {rest : List Value} (hd : decode code pc = .ok (.ishr, 1)) (K : Goes p e below s n0 P k n T (mkF m (pc + 1) Ls (.int (shrI x y) :: rest))) : Goes p e below s n0 P k n T (mkF m pc Ls (.int y :: .int x :: rest)) := by
  obtain ⟨locs, S, -, -, -⟩ := X
  exact Goes.of (fun _ kk => XS.ishr S.here C.1 rfl (hb C.2.1 hd) rfl kk) K
theorem w_iushr (X : Hr p l e R s m args below meth c n0 h cells slots T) (C : Cx p s m meth c code ml ret own nm Z a0 tabs) {pc : Nat} {Ls : Array Slot} {x y : Int32} {rest : List Value} (hd : decode code pc = .ok (.iushr, 1)) (K : Goes p e below s n0 P k n T (mkF m (pc + 1) Ls (.int (ushrI x y) :: rest))) : Goes p e below s n0 P k n T (mkF m pc Ls (.int y :: .int x :: rest)) := by
  obtain ⟨locs, S, -, -, -⟩ := X
  exact Goes.of (fun _ kk => XS.iushr S.here C.1 rfl (hb C.2.1 hd) rfl kk) K
theorem w_ladd (X : Hr p l e R s m args below meth c n0 h cells slots T) (C : Cx p s m meth c code ml ret own nm Z a0 tabs) {pc : Nat} {Ls : Array Slot} {x y : Int64} {rest : List Value} (hd : decode code pc = .ok (.ladd, 1)) (K : Goes p e below s n0 P k n T (mkF m (pc + 1) Ls (.long (x + y) :: rest))) : Goes p e below s n0 P k n T (mkF m pc Ls (.long y :: .long x :: rest)) := by
  obtain ⟨locs, S, -, -, -⟩ := X
  exact Goes.of (fun _ kk => XS.ladd S.here C.1 rfl (hb C.2.1 hd) rfl kk) K
theorem w_lsub (X : Hr p l e R s m args below meth c n0 h cells slots T) (C : Cx p s m meth c code ml ret own nm Z a0 tabs) {pc : Nat} {Ls : Array Slot} {x y : Int64} {rest : List Value} (hd : decode code pc = .ok (.lsub, 1)) (K : Goes p e below s n0 P k n T (mkF m (pc + 1) Ls (.long (x - y) :: rest))) : Goes p e below s n0 P k n T (mkF m pc Ls (.long y :: .long x :: rest)) := by
  obtain ⟨locs, S, -, -, -⟩ := X
  exact Goes.of (fun _ kk => XS.lsub S.here C.1 rfl (hb C.2.1 hd) rfl kk) K
theorem w_lmul (X : Hr p l e R s m args below meth c n0 h cells slots T) (C : Cx p s m meth c code ml ret own nm Z a0 tabs) {pc : Nat} {Ls : Array Slot} {x y : Int64} {rest : List Value} (hd : decode code pc = .ok (.lmul, 1)) (K : Goes p e below s n0 P k n T (mkF m (pc + 1) Ls (.long (x * y) :: rest))) : Goes p e below s n0 P k n T (mkF m pc Ls (.long y :: .long x :: rest)) := by
  obtain ⟨locs, S, -, -, -⟩ := X
  exact Goes.of (fun _ kk => XS.lmul S.here C.1 rfl (hb C.2.1 hd) rfl kk) K
theorem w_land (X : Hr p l e R s m args below meth c n0 h cells slots T) (C : Cx p s m meth c code ml ret own nm Z a0 tabs) {pc : Nat} {Ls : Array Slot} {x y : Int64} {rest : List Value} (hd : decode code pc = .ok (.land, 1)) (K : Goes p e below s n0 P k n T (mkF m (pc + 1) Ls (.long (x &&& y) :: rest))) : Goes p e below s n0 P k n T (mkF m pc Ls (.long y :: .long x :: rest)) := by
  obtain ⟨locs, S, -, -, -⟩ := X
  exact Goes.of (fun _ kk => XS.land S.here C.1 rfl (hb C.2.1 hd) rfl kk) K
theorem w_lor (X : Hr p l e R s m args below meth c n0 h cells slots T) (C : Cx p s m meth c code ml ret own nm Z a0 tabs) {pc : Nat} {Ls : Array Slot} {x y : Int64} {rest : List Value} (hd : decode code pc = .ok (.lor, 1)) (K : Goes p e below s n0 P k n T (mkF m (pc + 1) Ls (.long (x ||| y) :: rest))) : Goes p e below s n0 P k n T (mkF m pc Ls (.long y :: .long x :: rest)) := by
  obtain ⟨locs, S, -, -, -⟩ := X
  exact Goes.of (fun _ kk => XS.lor S.here C.1 rfl (hb C.2.1 hd) rfl kk) K
theorem w_lxor (X : Hr p l e R s m args below meth c n0 h cells slots T) (C : Cx p s m meth c code ml ret own nm Z a0 tabs) {pc : Nat} {Ls : Array Slot} {x y : Int64} {rest : List Value} (hd : decode code pc = .ok (.lxor, 1)) (K : Goes p e below s n0 P k n T (mkF m (pc + 1) Ls (.long (x ^^^ y) :: rest))) : Goes p e below s n0 P k n T (mkF m pc Ls (.long y :: .long x :: rest)) := by
  obtain ⟨locs, S, -, -, -⟩ := X
  exact Goes.of (fun _ kk => XS.lxor S.here C.1 rfl (hb C.2.1 hd) rfl kk) K
theorem w_lshl (X : Hr p l e R s m args below meth c n0 h cells slots T) (C : Cx p s m meth c code ml ret own nm Z a0 tabs) {pc : Nat} {Ls : Array Slot} {x : Int64} {y : Int32} {rest : List Value} (hd : decode code pc = .ok (.lshl, 1)) (K : Goes p e below s n0 P k n T (mkF m (pc + 1) Ls (.long (shlJ x y) :: rest))) : Goes p e below s n0 P k n T (mkF m pc Ls (.int y :: .long x :: rest)) := by
  obtain ⟨locs, S, -, -, -⟩ := X
  exact Goes.of (fun _ kk => XS.lshl S.here C.1 rfl (hb C.2.1 hd) rfl kk) K
theorem w_lshr (X : Hr p l e R s m args below meth c n0 h cells slots T) (C : Cx p s m meth c code ml ret own nm Z a0 tabs) {pc : Nat} {Ls : Array Slot} {x : Int64} {y : Int32} {rest : List Value} (hd : decode code pc = .ok (.lshr, 1)) (K : Goes p e below s n0 P k n T (mkF m (pc + 1) Ls (.long (shrJ x y) :: rest))) : Goes p e below s n0 P k n T (mkF m pc Ls (.int y :: .long x :: rest)) := by
  obtain ⟨locs, S, -, -, -⟩ := X
  exact Goes.of (fun _ kk => XS.lshr S.here C.1 rfl (hb C.2.1 hd) rfl kk) K
theorem w_lushr (X : Hr p l e R s m args below meth c n0 h cells slots T) (C : Cx p s m meth c code ml ret own nm Z a0 tabs) {pc : Nat} {Ls : Array Slot} {x : Int64} {y : Int32} {rest : List Value} (hd : decode code pc = .ok (.lushr, 1)) (K : Goes p e below s n0 P k n T (mkF m (pc + 1) Ls (.long (ushrJ x y) :: rest))) : Goes p e below s n0 P k n T (mkF m pc Ls (.int y :: .long x :: rest)) := by
  obtain ⟨locs, S, -, -, -⟩ := X
  exact Goes.of (fun _ kk => XS.lushr S.here C.1 rfl (hb C.2.1 hd) rfl kk) K
theorem w_lcmp (X : Hr p l e R s m args below meth c n0 h cells slots T) (C : Cx p s m meth c code ml ret own nm Z a0 tabs) {pc : Nat} {Ls : Array Slot} {x y : Int64} {rest : List Value} (hd : decode code pc = .ok (.lcmp, 1)) (K : Goes p e below s n0 P k n T (mkF m (pc + 1) Ls (.int (cmpJ x y) :: rest))) : Goes p e below s n0 P k n T (mkF m pc Ls (.long y :: .long x :: rest)) := by
  obtain ⟨locs, S, -, -, -⟩ := X
  exact Goes.of (fun _ kk => XS.lcmp S.here C.1 rfl (hb C.2.1 hd) rfl kk) K
theorem w_i2b (X : Hr p l e R s m args below meth c n0 h cells slots T) (C : Cx p s m meth c code ml ret own nm Z a0 tabs) {pc : Nat} {Ls : Array Slot} {x : Int32} {rest : List Value} (hd : decode code pc = .ok (.i2b, 1)) (K : Goes p e below s n0 P k n T (mkF m (pc + 1) Ls (.int (i8 x) :: rest))) : Goes p e below s n0 P k n T (mkF m pc Ls (.int x :: rest)) := by
  obtain ⟨locs, S, -, -, -⟩ := X
  exact Goes.of (fun _ kk => XS.i2b S.here C.1 rfl (hb C.2.1 hd) rfl kk) K
theorem w_i2c (X : Hr p l e R s m args below meth c n0 h cells slots T) (C : Cx p s m meth c code ml ret own nm Z a0 tabs) {pc : Nat} {Ls : Array Slot} {x : Int32} {rest : List Value} (hd : decode code pc = .ok (.i2c, 1)) (K : Goes p e below s n0 P k n T (mkF m (pc + 1) Ls (.int (i16c x) :: rest))) : Goes p e below s n0 P k n T (mkF m pc Ls (.int x :: rest)) := by
  obtain ⟨locs, S, -, -, -⟩ := X
  exact Goes.of (fun _ kk => XS.i2c S.here C.1 rfl (hb C.2.1 hd) rfl kk) K
theorem w_i2s (X : Hr p l e R s m args below meth c n0 h cells slots T) (C : Cx p s m meth c code ml ret own nm Z a0 tabs) {pc : Nat} {Ls : Array Slot} {x : Int32} {rest : List Value} (hd : decode code pc = .ok (.i2s, 1)) (K : Goes p e below s n0 P k n T (mkF m (pc + 1) Ls (.int (x.toInt16.toInt32) :: rest))) : Goes p e below s n0 P k n T (mkF m pc Ls (.int x :: rest)) := by
  obtain ⟨locs, S, -, -, -⟩ := X
  exact Goes.of (fun _ kk => XS.i2s S.here C.1 rfl (hb C.2.1 hd) rfl kk) K
theorem w_ineg (X : Hr p l e R s m args below meth c n0 h cells slots T) (C : Cx p s m meth c code ml ret own nm Z a0 tabs) {pc : Nat} {Ls : Array Slot} {x : Int32} {rest : List Value} (hd : decode code pc = .ok (.ineg, 1)) (K : Goes p e below s n0 P k n T (mkF m (pc + 1) Ls (.int (-x) :: rest))) : Goes p e below s n0 P k n T (mkF m pc Ls (.int x :: rest)) := by
  obtain ⟨locs, S, -, -, -⟩ := X
  exact Goes.of (fun _ kk => XS.ineg S.here C.1 rfl (hb C.2.1 hd) rfl kk) K
theorem w_i2l (X : Hr p l e R s m args below meth c n0 h cells slots T) (C : Cx p s m meth c code ml ret own nm Z a0 tabs) {pc : Nat} {Ls : Array Slot} {x : Int32} {rest : List Value} (hd : decode code pc = .ok (.i2l, 1)) (K : Goes p e below s n0 P k n T (mkF m (pc + 1) Ls (.long (x.toInt64) :: rest))) : Goes p e below s n0 P k n T (mkF m pc Ls (.int x :: rest)) := by
  obtain ⟨locs, S, -, -, -⟩ := X
  exact Goes.of (fun _ kk => XS.i2l S.here C.1 rfl (hb C.2.1 hd) rfl kk) K
theorem w_l2i (X : Hr p l e R s m args below meth c n0 h cells slots T) (C : Cx p s m meth c code ml ret own nm Z a0 tabs) {pc : Nat} {Ls : Array Slot} {x : Int64} {rest : List Value} (hd : decode code pc = .ok (.l2i, 1)) (K : Goes p e below s n0 P k n T (mkF m (pc + 1) Ls (.int (x.toInt32) :: rest))) : Goes p e below s n0 P k n T (mkF m pc Ls (.long x :: rest)) := by
  obtain ⟨locs, S, -, -, -⟩ := X
  exact Goes.of (fun _ kk => XS.l2i S.here C.1 rfl (hb C.2.1 hd) rfl kk) K
theorem w_lneg (X : Hr p l e R s m args below meth c n0 h cells slots T) (C : Cx p s m meth c code ml ret own nm Z a0 tabs) {pc : Nat} {Ls : Array Slot} {x : Int64} {rest : List Value} (hd : decode code pc = .ok (.lneg, 1)) (K : Goes p e below s n0 P k n T (mkF m (pc + 1) Ls (.long (-x) :: rest))) : Goes p e below s n0 P k n T (mkF m pc Ls (.long x :: rest)) := by
  obtain ⟨locs, S, -, -, -⟩ := X
  exact Goes.of (fun _ kk => XS.lneg S.here C.1 rfl (hb C.2.1 hd) rfl kk) K
theorem w_idiv (X : Hr p l e R s m args below meth c n0 h cells slots T) (C : Cx p s m meth c code ml ret own nm Z a0 tabs) {pc : Nat} {Ls : Array Slot} {x y : Int32} {rest : List Value} (hd : decode code pc = .ok (.idiv, 1)) (hy : y ≠ 0) (K : Goes p e below s n0 P k n T (mkF m (pc + 1) Ls (.int (x / y) :: rest))) : Goes p e below s n0 P k n T (mkF m pc Ls (.int y :: .int x :: rest)) := by
  obtain ⟨locs, S, -, -, -⟩ := X
  exact Goes.of (fun _ kk => XS.idiv S.here C.1 rfl (hb C.2.1 hd) rfl hy kk) K
theorem w_ldiv (X : Hr p l e R s m args below meth c n0 h cells slots T) (C : Cx p s m meth c code ml ret own nm Z a0 tabs) {pc : Nat} {Ls : Array Slot} {x y : Int64} {rest : List Value} (hd : decode code pc = .ok (.ldiv, 1)) (hy : y ≠ 0) (K : Goes p e below s n0 P k n T (mkF m (pc + 1) Ls (.long (x / y) :: rest))) : Goes p e below s n0 P k n T (mkF m pc Ls (.long y :: .long x :: rest)) := by
  obtain ⟨locs, S, -, -, -⟩ := X
  exact Goes.of (fun _ kk => XS.ldiv S.here C.1 rfl (hb C.2.1 hd) rfl hy kk) K
theorem w_irem (X : Hr p l e R s m args below meth c n0 h cells slots T) (C : Cx p s m meth c code ml ret own nm Z a0 tabs) {pc : Nat} {Ls : Array Slot} {x y : Int32} {rest : List Value} (hd : decode code pc = .ok (.irem, 1)) (hy : y ≠ 0) (K : Goes p e below s n0 P k n T (mkF m (pc + 1) Ls (.int (x % y) :: rest))) : Goes p e below s n0 P k n T (mkF m pc Ls (.int y :: .int x :: rest)) := by
  obtain ⟨locs, S, -, -, -⟩ := X
  rw [← irem_eq_mod x y] at K
  exact Goes.of (fun _ kk => XS.irem S.here C.1 rfl (hb C.2.1 hd) rfl hy kk) K
theorem w_lrem (X : Hr p l e R s m args below meth c n0 h cells slots T) (C : Cx p s m meth c code ml ret own nm Z a0 tabs) {pc : Nat} {Ls : Array Slot} {x y : Int64} {rest : List Value} (hd : decode code pc = .ok (.lrem, 1)) (hy : y ≠ 0) (K : Goes p e below s n0 P k n T (mkF m (pc + 1) Ls (.long (x % y) :: rest))) : Goes p e below s n0 P k n T (mkF m pc Ls (.long y :: .long x :: rest)) := by
  obtain ⟨locs, S, -, -, -⟩ := X
  rw [← lrem_mod x y] at K
  exact Goes.of (fun _ kk => XS.lrem S.here C.1 rfl (hb C.2.1 hd) rfl hy kk) K
theorem w_dup (X : Hr p l e R s m args below meth c n0 h cells slots T) (C : Cx p s m meth c code ml ret own nm Z a0 tabs) {pc : Nat} {Ls : Array Slot} {x : Value} {rest : List Value} (hd : decode code pc = .ok (.dup, 1)) (hc : x.category = 1) (K : Goes p e below s n0 P k n T (mkF m (pc + 1) Ls (x :: x :: rest))) : Goes p e below s n0 P k n T (mkF m pc Ls (x :: rest)) := by
  obtain ⟨locs, S, -, -, -⟩ := X
  exact Goes.of (fun _ kk => XS.dup S.here C.1 rfl (hb C.2.1 hd) rfl hc kk) K
theorem w_pop (X : Hr p l e R s m args below meth c n0 h cells slots T) (C : Cx p s m meth c code ml ret own nm Z a0 tabs) {pc : Nat} {Ls : Array Slot} {x : Value} {rest : List Value} (hd : decode code pc = .ok (.pop, 1)) (hc : x.category = 1) (K : Goes p e below s n0 P k n T (mkF m (pc + 1) Ls (rest))) : Goes p e below s n0 P k n T (mkF m pc Ls (x :: rest)) := by
  obtain ⟨locs, S, -, -, -⟩ := X
  exact Goes.of (fun _ kk => XS.pop S.here C.1 rfl (hb C.2.1 hd) rfl hc kk) K
theorem w_dup_x1 (X : Hr p l e R s m args below meth c n0 h cells slots T) (C : Cx p s m meth c code ml ret own nm Z a0 tabs) {pc : Nat} {Ls : Array Slot} {x y : Value} {rest : List Value} (hd : decode code pc = .ok (.dup_x1, 1)) (hc : x.category = 1) (hc' : y.category = 1) (K : Goes p e below s n0 P k n T (mkF m (pc + 1) Ls (x :: y :: x :: rest))) : Goes p e below s n0 P k n T (mkF m pc Ls (x :: y :: rest)) := by
  obtain ⟨locs, S, -, -, -⟩ := X
  exact Goes.of (fun _ kk => XS.dupX1 S.here C.1 rfl (hb C.2.1 hd) rfl hc hc' kk) K
theorem w_dup2 (X : Hr p l e R s m args below meth c n0 h cells slots T) (C : Cx p s m meth c code ml ret own nm Z a0 tabs) {pc : Nat} {Ls : Array Slot} {x y : Value} {rest : List Value} (hd : decode code pc = .ok (.dup2, 1)) (hc : x.category = 1) (hc' : y.category = 1) (K : Goes p e below s n0 P k n T (mkF m (pc + 1) Ls (x :: y :: x :: y :: rest))) : Goes p e below s n0 P k n T (mkF m pc Ls (x :: y :: rest)) := by
  obtain ⟨locs, S, -, -, -⟩ := X
  exact Goes.of (fun _ kk => XT.dup2 S.here C.1 rfl (hb C.2.1 hd) rfl hc hc' kk) K
theorem w_iload (X : Hr p l e R s m args below meth c n0 h cells slots T) (C : Cx p s m meth c code ml ret own nm Z a0 tabs) {pc : Nat} {Ls : Array Slot} {k0 : Nat} {x : Int32} {rest : List Value} (hd : decode code pc = .ok (.iload k0, 2)) (hl : Ls[k0]? = some (.val (.int x))) (K : Goes p e below s n0 P k n T (mkF m (pc + 2) Ls (.int x :: rest))) : Goes p e below s n0 P k n T (mkF m pc Ls rest) := by
  obtain ⟨locs, S, -, -, -⟩ := X
  exact Goes.of (fun _ kk => XS.iload S.here C.1 rfl (hb C.2.1 hd) hl kk) K
theorem w_istore (X : Hr p l e R s m args below meth c n0 h cells slots T) (C : Cx p s m meth c code ml ret own nm Z a0 tabs) {pc : Nat} {Ls : Array Slot} {k0 : Nat} {x : Int32} {rest : List Value} (hd : decode code pc = .ok (.istore k0, 2)) (Ls' : Array Slot) (hl : storeLocals Ls k0 (.int x) = some Ls') (K : Goes p e below s n0 P k n T (mkF m (pc + 2) Ls' rest)) : Goes p e below s n0 P k n T (mkF m pc Ls (.int x :: rest)) := by
  obtain ⟨locs, S, -, -, -⟩ := X
  exact Goes.of (fun _ kk => XS.istore S.here C.1 rfl (hb C.2.1 hd) rfl hl kk) K
theorem w_iloadN (X : Hr p l e R s m args below meth c n0 h cells slots T) (C : Cx p s m meth c code ml ret own nm Z a0 tabs) {pc : Nat} {Ls : Array Slot} {k0 : Fin 4} {x : Int32} {rest : List Value} (hd : decode code pc = .ok (.iload_n k0, 1)) (hl : Ls[k0.val]? = some (.val (.int x))) (K : Goes p e below s n0 P k n T (mkF m (pc + 1) Ls (.int x :: rest))) : Goes p e below s n0 P k n T (mkF m pc Ls rest) := by
  obtain ⟨locs, S, -, -, -⟩ := X
  exact Goes.of (fun _ kk => XS.iloadN S.here C.1 rfl (hb C.2.1 hd) hl kk) K
theorem w_istoreN (X : Hr p l e R s m args below meth c n0 h cells slots T) (C : Cx p s m meth c code ml ret own nm Z a0 tabs) {pc : Nat} {Ls : Array Slot} {k0 : Fin 4} {x : Int32} {rest : List Value} (hd : decode code pc = .ok (.istore_n k0, 1)) (Ls' : Array Slot) (hl : storeLocals Ls k0.val (.int x) = some Ls') (K : Goes p e below s n0 P k n T (mkF m (pc + 1) Ls' rest)) : Goes p e below s n0 P k n T (mkF m pc Ls (.int x :: rest)) := by
  obtain ⟨locs, S, -, -, -⟩ := X
  exact Goes.of (fun _ kk => XS.istoreN S.here C.1 rfl (hb C.2.1 hd) rfl hl kk) K
theorem w_lload (X : Hr p l e R s m args below meth c n0 h cells slots T) (C : Cx p s m meth c code ml ret own nm Z a0 tabs) {pc : Nat} {Ls : Array Slot} {k0 : Nat} {x : Int64} {rest : List Value} (hd : decode code pc = .ok (.lload k0, 2)) (hl : Ls[k0]? = some (.val (.long x))) (K : Goes p e below s n0 P k n T (mkF m (pc + 2) Ls (.long x :: rest))) : Goes p e below s n0 P k n T (mkF m pc Ls rest) := by
  obtain ⟨locs, S, -, -, -⟩ := X
  exact Goes.of (fun _ kk => XS.lload S.here C.1 rfl (hb C.2.1 hd) hl kk) K
theorem w_lstore (X : Hr p l e R s m args below meth c n0 h cells slots T) (C : Cx p s m meth c code ml ret own nm Z a0 tabs) {pc : Nat} {Ls : Array Slot} {k0 : Nat} {x : Int64} {rest : List Value} (hd : decode code pc = .ok (.lstore k0, 2)) (Ls' : Array Slot) (hl : storeLocals Ls k0 (.long x) = some Ls') (K : Goes p e below s n0 P k n T (mkF m (pc + 2) Ls' rest)) : Goes p e below s n0 P k n T (mkF m pc Ls (.long x :: rest)) := by
  obtain ⟨locs, S, -, -, -⟩ := X
  exact Goes.of (fun _ kk => XS.lstore S.here C.1 rfl (hb C.2.1 hd) rfl hl kk) K
theorem w_lloadN (X : Hr p l e R s m args below meth c n0 h cells slots T) (C : Cx p s m meth c code ml ret own nm Z a0 tabs) {pc : Nat} {Ls : Array Slot} {k0 : Fin 4} {x : Int64} {rest : List Value} (hd : decode code pc = .ok (.lload_n k0, 1)) (hl : Ls[k0.val]? = some (.val (.long x))) (K : Goes p e below s n0 P k n T (mkF m (pc + 1) Ls (.long x :: rest))) : Goes p e below s n0 P k n T (mkF m pc Ls rest) := by
  obtain ⟨locs, S, -, -, -⟩ := X
  exact Goes.of (fun _ kk => XS.lloadN S.here C.1 rfl (hb C.2.1 hd) hl kk) K
theorem w_lstoreN (X : Hr p l e R s m args below meth c n0 h cells slots T) (C : Cx p s m meth c code ml ret own nm Z a0 tabs) {pc : Nat} {Ls : Array Slot} {k0 : Fin 4} {x : Int64} {rest : List Value} (hd : decode code pc = .ok (.lstore_n k0, 1)) (Ls' : Array Slot) (hl : storeLocals Ls k0.val (.long x) = some Ls') (K : Goes p e below s n0 P k n T (mkF m (pc + 1) Ls' rest)) : Goes p e below s n0 P k n T (mkF m pc Ls (.long x :: rest)) := by
  obtain ⟨locs, S, -, -, -⟩ := X
  exact Goes.of (fun _ kk => XS.lstoreN S.here C.1 rfl (hb C.2.1 hd) rfl hl kk) K
theorem w_aload (X : Hr p l e R s m args below meth c n0 h cells slots T) (C : Cx p s m meth c code ml ret own nm Z a0 tabs) {pc : Nat} {Ls : Array Slot} {k0 : Nat} {x : Value} {rest : List Value} (hd : decode code pc = .ok (.aload k0, 2)) (hl : Ls[k0]? = some (.val x)) (hv : x.isRef = true) (K : Goes p e below s n0 P k n T (mkF m (pc + 2) Ls (x :: rest))) : Goes p e below s n0 P k n T (mkF m pc Ls rest) := by
  obtain ⟨locs, S, -, -, -⟩ := X
  exact Goes.of (fun _ kk => XS.aload S.here C.1 rfl (hb C.2.1 hd) hl hv kk) K
theorem w_astore (X : Hr p l e R s m args below meth c n0 h cells slots T) (C : Cx p s m meth c code ml ret own nm Z a0 tabs) {pc : Nat} {Ls : Array Slot} {k0 : Nat} {x : Value} {rest : List Value} (hd : decode code pc = .ok (.astore k0, 2)) (Ls' : Array Slot) (hl : storeLocals Ls k0 x = some Ls') (hv : x.isRef = true) (K : Goes p e below s n0 P k n T (mkF m (pc + 2) Ls' rest)) : Goes p e below s n0 P k n T (mkF m pc Ls (x :: rest)) := by
  obtain ⟨locs, S, -, -, -⟩ := X
  exact Goes.of (fun _ kk => XS.astore S.here C.1 rfl (hb C.2.1 hd) rfl hv hl kk) K
theorem w_aloadN (X : Hr p l e R s m args below meth c n0 h cells slots T) (C : Cx p s m meth c code ml ret own nm Z a0 tabs) {pc : Nat} {Ls : Array Slot} {k0 : Fin 4} {x : Value} {rest : List Value} (hd : decode code pc = .ok (.aload_n k0, 1)) (hl : Ls[k0.val]? = some (.val x)) (hv : x.isRef = true) (K : Goes p e below s n0 P k n T (mkF m (pc + 1) Ls (x :: rest))) : Goes p e below s n0 P k n T (mkF m pc Ls rest) := by
  obtain ⟨locs, S, -, -, -⟩ := X
  exact Goes.of (fun _ kk => XS.aloadN S.here C.1 rfl (hb C.2.1 hd) hl hv kk) K
theorem w_astoreN (X : Hr p l e R s m args below meth c n0 h cells slots T) (C : Cx p s m meth c code ml ret own nm Z a0 tabs) {pc : Nat} {Ls : Array Slot} {k0 : Fin 4} {x : Value} {rest : List Value} (hd : decode code pc = .ok (.astore_n k0, 1)) (Ls' : Array Slot) (hl : storeLocals Ls k0.val x = some Ls') (hv : x.isRef = true) (K : Goes p e below s n0 P k n T (mkF m (pc + 1) Ls' rest)) : Goes p e below s n0 P k n T (mkF m pc Ls (x :: rest)) := by
  obtain ⟨locs, S, -, -, -⟩ := X
  exact Goes.of (fun _ kk => XS.astoreN S.here C.1 rfl (hb C.2.1 hd) rfl hv hl kk) K
theorem w_iinc (X : Hr p l e R s m args below meth c n0 h cells slots T) (C : Cx p s m meth c code ml ret own nm Z a0 tabs) {pc : Nat} {Ls : Array Slot} {k0 : Nat} {cst : Int} {x : Int32} {rest : List Value} (hd : decode code pc = .ok (.iinc k0 cst, 3)) (v : Int32) (hv : Int32.ofInt cst = v) (hl : Ls[k0]? = some (.val (.int x))) (Ls' : Array Slot) (hl' : storeLocals Ls k0 (.int (x + v)) = some Ls') (K : Goes p e below s n0 P k n T (mkF m (pc + 3) Ls' rest)) : Goes p e below s n0 P k n T (mkF m pc Ls rest) := by
  obtain ⟨locs, S, -, -, -⟩ := X
  subst hv
  exact Goes.of (fun _ kk => XS.iinc S.here C.1 rfl (hb C.2.1 hd) hl hl' kk) K
theorem w_iconst (X : Hr p l e R s m args below meth c n0 h cells slots T) (C : Cx p s m meth c code ml ret own nm Z a0 tabs) {pc : Nat} {Ls : Array Slot} {i : Int} {rest : List Value} (hd : decode code pc = .ok (.iconst i, 1)) (v : Int32) (hv : Int32.ofInt i = v) (K : Goes p e below s n0 P k n T (mkF m (pc + 1) Ls (.int v :: rest))) : Goes p e below s n0 P k n T (mkF m pc Ls rest) := by
  obtain ⟨locs, S, -, -, -⟩ := X
  subst hv
  exact Goes.of (fun _ kk => XS.iconst S.here C.1 rfl (hb C.2.1 hd) kk) K
theorem w_bipush (X : Hr p l e R s m args below meth c n0 h cells slots T) (C : Cx p s m meth c code ml ret own nm Z a0 tabs) {pc : Nat} {Ls : Array Slot} {i : Int} {rest : List Value} (hd : decode code pc = .ok (.bipush i, 2)) (v : Int32) (hv : (Int8.ofInt i).toInt32 = v) (K : Goes p e below s n0 P k n T (mkF m (pc + 2) Ls (.int v :: rest))) : Goes p e below s n0 P k n T (mkF m pc Ls rest) := by
  obtain ⟨locs, S, -, -, -⟩ := X
  subst hv
  exact Goes.of (fun _ kk => XS.bipush S.here C.1 rfl (hb C.2.1 hd) kk) K
theorem w_sipush (X : Hr p l e R s m args below meth c n0 h cells slots T) (C : Cx p s m meth c code ml ret own nm Z a0 tabs) {pc : Nat} {Ls : Array Slot} {i : Int} {rest : List Value} (hd : decode code pc = .ok (.sipush i, 3)) (v : Int32) (hv : (Int16.ofInt i).toInt32 = v) (K : Goes p e below s n0 P k n T (mkF m (pc + 3) Ls (.int v :: rest))) : Goes p e below s n0 P k n T (mkF m pc Ls rest) := by
  obtain ⟨locs, S, -, -, -⟩ := X
  subst hv
  exact Goes.of (fun _ kk => XS.sipush S.here C.1 rfl (hb C.2.1 hd) kk) K
theorem w_lconst (X : Hr p l e R s m args below meth c n0 h cells slots T) (C : Cx p s m meth c code ml ret own nm Z a0 tabs) {pc : Nat} {Ls : Array Slot} {i : Fin 2} {rest : List Value} (hd : decode code pc = .ok (.lconst i, 1)) (v : Int64) (hv : Int64.ofNat i = v) (K : Goes p e below s n0 P k n T (mkF m (pc + 1) Ls (.long v :: rest))) : Goes p e below s n0 P k n T (mkF m pc Ls rest) := by
  obtain ⟨locs, S, -, -, -⟩ := X
  subst hv
  exact Goes.of (fun _ kk => XS.lconst S.here C.1 rfl (hb C.2.1 hd) kk) K
theorem w_aconst_null (X : Hr p l e R s m args below meth c n0 h cells slots T) (C : Cx p s m meth c code ml ret own nm Z a0 tabs) {pc : Nat} {Ls : Array Slot} {rest : List Value} (hd : decode code pc = .ok (.aconst_null, 1)) (K : Goes p e below s n0 P k n T (mkF m (pc + 1) Ls (.null :: rest))) : Goes p e below s n0 P k n T (mkF m pc Ls rest) := by
  obtain ⟨locs, S, -, -, -⟩ := X
  exact Goes.of (fun _ kk => XS.aconstNull S.here C.1 rfl (hb C.2.1 hd) kk) K
theorem w_ldcI (X : Hr p l e R s m args below meth c n0 h cells slots T) (C : Cx p s m meth c code ml ret own nm Z a0 tabs) {pc index : Nat} {Ls : Array Slot} {v : Int32} {rest : List Value} (hd : decode code pc = .ok (.ldc index, 2)) (i1 : Jvm.Cond.constant own index v ∈ tabs) (K : Goes p e below s n0 P k n T (mkF m (pc + 2) Ls (.int v :: rest))) : Goes p e below s n0 P k n T (mkF m pc Ls rest) := by
  obtain ⟨locs, S, -, -, -⟩ := X
  exact Goes.of (fun _ kk => S.ldcInt C.1 C.2.2.2.2.2.1 (mvT C.2.2.2.2.2.2.2.1 (C.2.2.2.2.2.2.2.2 _ i1)) (g := mkF m pc Ls rest) rfl (hb C.2.1 hd) _ kk) K
theorem w_ldcJ (X : Hr p l e R s m args below meth c n0 h cells slots T) (C : Cx p s m meth c code ml ret own nm Z a0 tabs) {pc index : Nat} {Ls : Array Slot} {v : Int64} {rest : List Value} (hd : decode code pc = .ok (.ldc2_w index, 3)) (i1 : Jvm.Cond.constantLong own index v ∈ tabs) (K : Goes p e below s n0 P k n T (mkF m (pc + 3) Ls (.long v :: rest))) : Goes p e below s n0 P k n T (mkF m pc Ls rest) := by
  obtain ⟨locs, S, -, -, -⟩ := X
  exact Goes.of (fun _ kk => S.ldc2Long C.1 C.2.2.2.2.2.1 (mvT C.2.2.2.2.2.2.2.1 (C.2.2.2.2.2.2.2.2 _ i1)) (g := mkF m pc Ls rest) rfl (hb C.2.1 hd) _ kk) K
theorem w_goto (X : Hr p l e R s m args below meth c n0 h cells slots T) (C : Cx p s m meth c code ml ret own nm Z a0 tabs) {pc : Nat} {Ls : Array Slot} {st : List Value} {o : Int} (hd : decode code pc = .ok (.goto o, 3)) (pc' : Nat) (ho : 0 ≤ (pc : Int) + o ∧ ((pc : Int) + o).toNat = pc') (K : Goes p e below s n0 P k n T (mkF m pc' Ls st)) : Goes p e below s n0 P k n T (mkF m pc Ls st) := by
  obtain ⟨locs, S, -, -, -⟩ := X
  exact Goes.of (fun _ kk => XS.goto S.here C.1 rfl (pc0 := pc) (pc' := pc') rfl (hb C.2.1 hd) ho.1 ho.2 kk) K
theorem w_icmp_lt (X : Hr p l e R s m args below meth c n0 h cells slots T) (C : Cx p s m meth c code ml ret own nm Z a0 tabs) {pc : Nat} {Ls : Array Slot} {x y : Int32} {rest : List Value} {o : Int} (hd : decode code pc = .ok (.if_icmp .lt o, 3)) (pc' : Nat) (ho : 0 ≤ (pc : Int) + o ∧ ((pc : Int) + o).toNat = pc') (Ky : x < y → Goes p e below s n0 P k n T (mkF m pc' Ls rest)) (Kn : ¬ (x < y) → Goes p e below s n0 P k n T (mkF m (pc + 3) Ls rest)) : Goes p e below s n0 P k n T (mkF m pc Ls (.int y :: .int x :: rest)) := by
  obtain ⟨locs, S, -, -, -⟩ := X
  by_cases q : x < y
  · exact Goes.of (fun _ kk => XS.icmpYes S.here C.1 rfl (pc0 := pc) (pc' := pc') rfl (hb C.2.1 hd) rfl (tlt q).1 ho.1 ho.2 kk) (Ky q)
  · exact Goes.of (fun _ kk => XS.icmpNo S.here C.1 rfl (hb C.2.1 hd) rfl (flt q).1 kk) (Kn q)
theorem w_if_lt (X : Hr p l e R s m args below meth c n0 h cells slots T) (C : Cx p s m meth c code ml ret own nm Z a0 tabs) {pc : Nat} {Ls : Array Slot} {x : Int32} {rest : List Value} {o : Int} (hd : decode code pc = .ok (.ifCond .lt o, 3)) (pc' : Nat) (ho : 0 ≤ (pc : Int) + o ∧ ((pc : Int) + o).toNat = pc') (Ky : x < 0 → Goes p e below s n0 P k n T (mkF m pc' Ls rest)) (Kn : ¬ (x < 0) → Goes p e below s n0 P k n T (mkF m (pc + 3) Ls rest)) : Goes p e below s n0 P k n T (mkF m pc Ls (.int x :: rest)) := by
  obtain ⟨locs, S, -, -, -⟩ := X
  by_cases q : x < 0
  · exact Goes.of (fun _ kk => XS.ifYes S.here C.1 rfl (pc0 := pc) (pc' := pc') rfl (hb C.2.1 hd) rfl ((if0 _ _).trans (tlt q).1) ho.1 ho.2 kk) (Ky q)
  · exact Goes.of (fun _ kk => XS.ifNo S.here C.1 rfl (hb C.2.1 hd) rfl ((if0 _ _).trans (flt q).1) kk) (Kn q)
theorem w_icmp_ge (X : Hr p l e R s m args below meth c n0 h cells slots T) (C : Cx p s m meth c code ml ret own nm Z a0 tabs) {pc : Nat} {Ls : Array Slot} {x y : Int32} {rest : List Value} {o : Int} (hd : decode code pc = .ok (.if_icmp .ge o, 3)) (pc' : Nat) (ho : 0 ≤ (pc : Int) + o ∧ ((pc : Int) + o).toNat = pc') (Ky : ¬ (x < y) → Goes p e below s n0 P k n T (mkF m pc' Ls rest)) (Kn : x < y → Goes p e below s n0 P k n T (mkF m (pc + 3) Ls rest)) : Goes p e below s n0 P k n T (mkF m pc Ls (.int y :: .int x :: rest)) := by
  obtain ⟨locs, S, -, -, -⟩ := X
  by_cases q : x < y
  · exact Goes.of (fun _ kk => XS.icmpNo S.here C.1 rfl (hb C.2.1 hd) rfl (tlt q).2.1 kk) (Kn q)
  · exact Goes.of (fun _ kk => XS.icmpYes S.here C.1 rfl (pc0 := pc) (pc' := pc') rfl (hb C.2.1 hd) rfl (flt q).2.1 ho.1 ho.2 kk) (Ky q)
theorem w_if_ge (X : Hr p l e R s m args below meth c n0 h cells slots T) (C : Cx p s m meth c code ml ret own nm Z a0 tabs) {pc : Nat} {Ls : Array Slot} {x : Int32} {rest : List Value} {o : Int} (hd : decode code pc = .ok (.ifCond .ge o, 3)) (pc' : Nat) (ho : 0 ≤ (pc : Int) + o ∧ ((pc : Int) + o).toNat = pc') (Ky : ¬ (x < 0) → Goes p e below s n0 P k n T (mkF m pc' Ls rest)) (Kn : x < 0 → Goes p e below s n0 P k n T (mkF m (pc + 3) Ls rest)) : Goes p e below s n0 P k n T (mkF m pc Ls (.int x :: rest)) := by
  obtain ⟨locs, S, -, -, -⟩ := X
  by_cases q : x < 0
  · exact Goes.of (fun _ kk => XS.ifNo S.here C.1 rfl (hb C.2.1 hd) rfl ((if0 _ _).trans (tlt q).2.1) kk) (Kn q)
  · exact Goes.of (fun _ kk => XS.ifYes S.here C.1 rfl (pc0 := pc) (pc' := pc') rfl (hb C.2.1 hd) rfl ((if0 _ _).trans (flt q).2.1) ho.1 ho.2 kk) (Ky q)
theorem w_icmp_gt (X : Hr p l e R s m args below meth c n0 h cells slots T) (C : Cx p s m meth c code ml ret own nm Z a0 tabs) {pc : Nat} {Ls : Array Slot} {x y : Int32} {rest : List Value} {o : Int} (hd : decode code pc = .ok (.if_icmp .gt o, 3)) (pc' : Nat) (ho : 0 ≤ (pc : Int) + o ∧ ((pc : Int) + o).toNat = pc') (Ky : y < x → Goes p e below s n0 P k n T (mkF m pc' Ls rest)) (Kn : ¬ (y < x) → Goes p e below s n0 P k n T (mkF m (pc + 3) Ls rest)) : Goes p e below s n0 P k n T (mkF m pc Ls (.int y :: .int x :: rest)) := by
  obtain ⟨locs, S, -, -, -⟩ := X
  by_cases q : y < x
  · exact Goes.of (fun _ kk => XS.icmpYes S.here C.1 rfl (pc0 := pc) (pc' := pc') rfl (hb C.2.1 hd) rfl (tlt q).2.2.1 ho.1 ho.2 kk) (Ky q)
  · exact Goes.of (fun _ kk => XS.icmpNo S.here C.1 rfl (hb C.2.1 hd) rfl (flt q).2.2.1 kk) (Kn q)
theorem w_if_gt (X : Hr p l e R s m args below meth c n0 h cells slots T) (C : Cx p s m meth c code ml ret own nm Z a0 tabs) {pc : Nat} {Ls : Array Slot} {x : Int32} {rest : List Value} {o : Int} (hd : decode code pc = .ok (.ifCond .gt o, 3)) (pc' : Nat) (ho : 0 ≤ (pc : Int) + o ∧ ((pc : Int) + o).toNat = pc') (Ky : 0 < x → Goes p e below s n0 P k n T (mkF m pc' Ls rest)) (Kn : ¬ (0 < x) → Goes p e below s n0 P k n T (mkF m (pc + 3) Ls rest)) : Goes p e below s n0 P k n T (mkF m pc Ls (.int x :: rest)) := by
  obtain ⟨locs, S, -, -, -⟩ := X
  by_cases q : 0 < x
  · exact Goes.of (fun _ kk => XS.ifYes S.here C.1 rfl (pc0 := pc) (pc' := pc') rfl (hb C.2.1 hd) rfl ((if0 _ _).trans (tlt q).2.2.1) ho.1 ho.2 kk) (Ky q)
  · exact Goes.of (fun _ kk => XS.ifNo S.here C.1 rfl (hb C.2.1 hd) rfl ((if0 _ _).trans (flt q).2.2.1) kk) (Kn q)
theorem w_icmp_le (X : Hr p l e R s m args below meth c n0 h cells slots T) (C : Cx p s m meth c code ml ret own nm Z a0 tabs) {pc : Nat} {Ls : Array Slot} {x y : Int32} {rest : List Value} {o : Int} (hd : decode code pc = .ok (.if_icmp .le o, 3)) (pc' : Nat) (ho : 0 ≤ (pc : Int) + o ∧ ((pc : Int) + o).toNat = pc') (Ky : ¬ (y < x) → Goes p e below s n0 P k n T (mkF m pc' Ls rest)) (Kn : y < x → Goes p e below s n0 P k n T (mkF m (pc + 3) Ls rest)) : Goes p e below s n0 P k n T (mkF m pc Ls (.int y :: .int x :: rest)) := by
  obtain ⟨locs, S, -, -, -⟩ := X
  by_cases q : y < x
  · exact Goes.of (fun _ kk => XS.icmpNo S.here C.1 rfl (hb C.2.1 hd) rfl (tlt q).2.2.2 kk) (Kn q)
  · exact Goes.of (fun _ kk => XS.icmpYes S.here C.1 rfl (pc0 := pc) (pc' := pc') rfl (hb C.2.1 hd) rfl (flt q).2.2.2 ho.1 ho.2 kk) (Ky q)
theorem w_if_le (X : Hr p l e R s m args below meth c n0 h cells slots T) (C : Cx p s m meth c code ml ret own nm Z a0 tabs) {pc : Nat} {Ls : Array Slot} {x : Int32} {rest : List Value} {o : Int} (hd : decode code pc = .ok (.ifCond .le o, 3)) (pc' : Nat) (ho : 0 ≤ (pc : Int) + o ∧ ((pc : Int) + o).toNat = pc') (Ky : ¬ (0 < x) → Goes p e below s n0 P k n T (mkF m pc' Ls rest)) (Kn : 0 < x → Goes p e below s n0 P k n T (mkF m (pc + 3) Ls rest)) : Goes p e below s n0 P k n T (mkF m pc Ls (.int x :: rest)) := by
  obtain ⟨locs, S, -, -, -⟩ := X
  by_cases q : 0 < x
  · exact Goes.of (fun _ kk => XS.ifNo S.here C.1 rfl (hb C.2.1 hd) rfl ((if0 _ _).trans (tlt q).2.2.2) kk) (Kn q)
  · exact Goes.of (fun _ kk => XS.ifYes S.here C.1 rfl (pc0 := pc) (pc' := pc') rfl (hb C.2.1 hd) rfl ((if0 _ _).trans (flt q).2.2.2) ho.1 ho.2 kk) (Ky q)
theorem w_icmp_eq (X : Hr p l e R s m args below meth c n0 h cells slots T) (C : Cx p s m meth c code ml ret own nm Z a0 tabs) {pc : Nat} {Ls : Array Slot} {x y : Int32} {rest : List Value} {o : Int} (hd : decode code pc = .ok (.if_icmp .eq o, 3)) (pc' : Nat) (ho : 0 ≤ (pc : Int) + o ∧ ((pc : Int) + o).toNat = pc') (Ky : x = y → Goes p e below s n0 P k n T (mkF m pc' Ls rest)) (Kn : ¬ (x = y) → Goes p e below s n0 P k n T (mkF m (pc + 3) Ls rest)) : Goes p e below s n0 P k n T (mkF m pc Ls (.int y :: .int x :: rest)) := by
  obtain ⟨locs, S, -, -, -⟩ := X
  by_cases q : x = y
  · exact Goes.of (fun _ kk => XS.icmpYes S.here C.1 rfl (pc0 := pc) (pc' := pc') rfl (hb C.2.1 hd) rfl (teq q).1 ho.1 ho.2 kk) (Ky q)
  · exact Goes.of (fun _ kk => XS.icmpNo S.here C.1 rfl (hb C.2.1 hd) rfl (feq q).1 kk) (Kn q)
theorem w_if_eq (X : Hr p l e R s m args below meth c n0 h cells slots T) (C : Cx p s m meth c code ml ret own nm Z a0 tabs) {pc : Nat} {Ls : Array Slot} {x : Int32} {rest : List Value} {o : Int} (hd : decode code pc = .ok (.ifCond .eq o, 3)) (pc' : Nat) (ho : 0 ≤ (pc : Int) + o ∧ ((pc : Int) + o).toNat = pc') (Ky : x = 0 → Goes p e below s n0 P k n T (mkF m pc' Ls rest)) (Kn : ¬ (x = 0) → Goes p e below s n0 P k n T (mkF m (pc + 3) Ls rest)) : Goes p e below s n0 P k n T (mkF m pc Ls (.int x :: rest)) := by
  obtain ⟨locs, S, -, -, -⟩ := X
  by_cases q : x = 0
  · exact Goes.of (fun _ kk => XS.ifYes S.here C.1 rfl (pc0 := pc) (pc' := pc') rfl (hb C.2.1 hd) rfl ((if0 _ _).trans (teq q).1) ho.1 ho.2 kk) (Ky q)
  · exact Goes.of (fun _ kk => XS.ifNo S.here C.1 rfl (hb C.2.1 hd) rfl ((if0 _ _).trans (feq q).1) kk) (Kn q)
theorem w_icmp_ne (X : Hr p l e R s m args below meth c n0 h cells slots T) (C : Cx p s m meth c code ml ret own nm Z a0 tabs) {pc : Nat} {Ls : Array Slot} {x y : Int32} {rest : List Value} {o : Int} (hd : decode code pc = .ok (.if_icmp .ne o, 3)) (pc' : Nat) (ho : 0 ≤ (pc : Int) + o ∧ ((pc : Int) + o).toNat = pc') (Ky : ¬ (x = y) → Goes p e below s n0 P k n T (mkF m pc' Ls rest)) (Kn : x = y → Goes p e below s n0 P k n T (mkF m (pc + 3) Ls rest)) : Goes p e below s n0 P k n T (mkF m pc Ls (.int y :: .int x :: rest)) := by
  obtain ⟨locs, S, -, -, -⟩ := X
  by_cases q : x = y
  · exact Goes.of (fun _ kk => XS.icmpNo S.here C.1 rfl (hb C.2.1 hd) rfl (teq q).2 kk) (Kn q)
  · exact Goes.of (fun _ kk => XS.icmpYes S.here C.1 rfl (pc0 := pc) (pc' := pc') rfl (hb C.2.1 hd) rfl (feq q).2 ho.1 ho.2 kk) (Ky q)
theorem w_if_ne (X : Hr p l e R s m args below meth c n0 h cells slots T) (C : Cx p s m meth c code ml ret own nm Z a0 tabs) {pc : Nat} {Ls : Array Slot} {x : Int32} {rest : List Value} {o : Int} (hd : decode code pc = .ok (.ifCond .ne o, 3)) (pc' : Nat) (ho : 0 ≤ (pc : Int) + o ∧ ((pc : Int) + o).toNat = pc') (Ky : ¬ (x = 0) → Goes p e below s n0 P k n T (mkF m pc' Ls rest)) (Kn : x = 0 → Goes p e below s n0 P k n T (mkF m (pc + 3) Ls rest)) : Goes p e below s n0 P k n T (mkF m pc Ls (.int x :: rest)) := by
  obtain ⟨locs, S, -, -, -⟩ := X
  by_cases q : x = 0
  · exact Goes.of (fun _ kk => XS.ifNo S.here C.1 rfl (hb C.2.1 hd) rfl ((if0 _ _).trans (teq q).2) kk) (Kn q)
  · exact Goes.of (fun _ kk => XS.ifYes S.here C.1 rfl (pc0 := pc) (pc' := pc') rfl (hb C.2.1 hd) rfl ((if0 _ _).trans (feq q).2) ho.1 ho.2 kk) (Ky q)
theorem cj_lt (x y : Int64) : cmpJ x y < 0 ↔ x < y := lw_lt x y
theorem cj_gt (x y : Int64) : 0 < cmpJ x y ↔ y < x := lw_gt x y
theorem cj_eq (x y : Int64) : cmpJ x y = 0 ↔ x = y := lw_eq x y
theorem w_ifJ_lt (X : Hr p l e R s m args below meth c n0 h cells slots T) (C : Cx p s m meth c code ml ret own nm Z a0 tabs) {pc : Nat} {Ls : Array Slot} {x y : Int64} {rest : List Value} {o : Int} (hd : decode code pc = .ok (.ifCond .lt o, 3)) (pc' : Nat) (ho : 0 ≤ (pc : Int) + o ∧ ((pc : Int) + o).toNat = pc') (Ky : x < y → Goes p e below s n0 P k n T (mkF m pc' Ls rest)) (Kn : ¬ (x < y) → Goes p e below s n0 P k n T (mkF m (pc + 3) Ls rest)) : Goes p e below s n0 P k n T (mkF m pc Ls (.int (cmpJ x y) :: rest)) :=
  w_if_lt X C hd pc' ho (fun q => Ky ((cj_lt _ _).mp q)) (fun q => Kn (fun r => q ((cj_lt _ _).mpr r)))
theorem w_ifJ_ge (X : Hr p l e R s m args below meth c n0 h cells slots T) (C : Cx p s m meth c code ml ret own nm Z a0 tabs) {pc : Nat} {Ls : Array Slot} {x y : Int64} {rest : List Value} {o : Int} (hd : decode code pc = .ok (.ifCond .ge o, 3)) (pc' : Nat) (ho : 0 ≤ (pc : Int) + o ∧ ((pc : Int) + o).toNat = pc') (Ky : ¬ (x < y) → Goes p e below s n0 P k n T (mkF m pc' Ls rest)) (Kn : x < y → Goes p e below s n0 P k n T (mkF m (pc + 3) Ls rest)) : Goes p e below s n0 P k n T (mkF m pc Ls (.int (cmpJ x y) :: rest)) :=
  w_if_ge X C hd pc' ho (fun q => Ky (fun r => q ((cj_lt _ _).mpr r))) (fun q => Kn ((cj_lt _ _).mp q))
theorem w_ifJ_gt (X : Hr p l e R s m args below meth c n0 h cells slots T) (C : Cx p s m meth c code ml ret own nm Z a0 tabs) {pc : Nat} {Ls : Array Slot} {x y : Int64} {rest : List Value} {o : Int} (hd : decode code pc = .ok (.ifCond .gt o, 3)) (pc' : Nat) (ho : 0 ≤ (pc : Int) + o ∧ ((pc : Int) + o).toNat = pc') (Ky : y < x → Goes p e below s n0 P k n T (mkF m pc' Ls rest)) (Kn : ¬ (y < x) → Goes p e below s n0 P k n T (mkF m (pc + 3) Ls rest)) : Goes p e below s n0 P k n T (mkF m pc Ls (.int (cmpJ x y) :: rest)) :=
  w_if_gt X C hd pc' ho (fun q => Ky ((cj_gt _ _).mp q)) (fun q => Kn (fun r => q ((cj_gt _ _).mpr r)))
theorem w_ifJ_le (X : Hr p l e R s m args below meth c n0 h cells slots T) (C : Cx p s m meth c code ml ret own nm Z a0 tabs) {pc : Nat} {Ls : Array Slot} {x y : Int64} {rest : List Value} {o : Int} (hd : decode code pc = .ok (.ifCond .le o, 3)) (pc' : Nat) (ho : 0 ≤ (pc : Int) + o ∧ ((pc : Int) + o).toNat = pc') (Ky : ¬ (y < x) → Goes p e below s n0 P k n T (mkF m pc' Ls rest)) (Kn : y < x → Goes p e below s n0 P k n T (mkF m (pc + 3) Ls rest)) : Goes p e below s n0 P k n T (mkF m pc Ls (.int (cmpJ x y) :: rest)) :=
  w_if_le X C hd pc' ho (fun q => Ky (fun r => q ((cj_gt _ _).mpr r))) (fun q => Kn ((cj_gt _ _).mp q))
theorem w_ifJ_eq (X : Hr p l e R s m args below meth c n0 h cells slots T) (C : Cx p s m meth c code ml ret own nm Z a0 tabs) {pc : Nat} {Ls : Array Slot} {x y : Int64} {rest : List Value} {o : Int} (hd : decode code pc = .ok (.ifCond .eq o, 3)) (pc' : Nat) (ho : 0 ≤ (pc : Int) + o ∧ ((pc : Int) + o).toNat = pc') (Ky : x = y → Goes p e below s n0 P k n T (mkF m pc' Ls rest)) (Kn : ¬ (x = y) → Goes p e below s n0 P k n T (mkF m (pc + 3) Ls rest)) : Goes p e below s n0 P k n T (mkF m pc Ls (.int (cmpJ x y) :: rest)) :=
  w_if_eq X C hd pc' ho (fun q => Ky ((cj_eq _ _).mp q)) (fun q => Kn (fun r => q ((cj_eq _ _).mpr r)))
theorem w_ifJ_ne (X : Hr p l e R s m args below meth c n0 h cells slots T) (C : Cx p s m meth c code ml ret own nm Z a0 tabs) {pc : Nat} {Ls : Array Slot} {x y : Int64} {rest : List Value} {o : Int} (hd : decode code pc = .ok (.ifCond .ne o, 3)) (pc' : Nat) (ho : 0 ≤ (pc : Int) + o ∧ ((pc : Int) + o).toNat = pc') (Ky : ¬ (x = y) → Goes p e below s n0 P k n T (mkF m pc' Ls rest)) (Kn : x = y → Goes p e below s n0 P k n T (mkF m (pc + 3) Ls rest)) : Goes p e below s n0 P k n T (mkF m pc Ls (.int (cmpJ x y) :: rest)) :=
  w_if_ne X C hd pc' ho (fun q => Ky (fun r => q ((cj_eq _ _).mpr r))) (fun q => Kn ((cj_eq _ _).mp q))
theorem w_ifnull_no (X : Hr p l e R s m args below meth c n0 h cells slots T) (C : Cx p s m meth c code ml ret own nm Z a0 tabs) {pc : Nat} {Ls : Array Slot} {a : Addr} {rest : List Value} {o : Int} (hd : decode code pc = .ok (.ifnull o, 3)) (K : Goes p e below s n0 P k n T (mkF m (pc + 3) Ls rest)) : Goes p e below s n0 P k n T (mkF m pc Ls (.ref a :: rest)) := by
  obtain ⟨locs, S, -, -, -⟩ := X
  exact Goes.of (fun _ kk => XS.ifnullNo S.here C.1 rfl (hb C.2.1 hd) rfl kk) K
theorem w_retI (X : Hr p l e R s m args below meth c n0 h cells slots T) (C : Cx p s m meth c code ml (some .int) own nm Z a0 tabs) {pc : Nat} {Ls : Array Slot} {z : Int32} {rest : List Value} (hd : decode code pc = .ok (.ireturn, 1)) (hP : P (some (.int z)) h) (hk : cells ≤ k := by decide) (hn : slots ≤ n := by decide) : Goes p e below s n0 P k n T (mkF m pc Ls (.int z :: rest)) := by
  obtain ⟨locs, S, eT, N, -⟩ := X
  obtain ⟨fs, hr, hrun, hended, hW, hsame⟩ := S.leave (v := some (.int z)) (fun h => by rw [C.2.2.2.1] at h; cases h) C.2.2.2.2.1
  refine ⟨_, _, retI' S C.1 C.2.2.2.1 (hb C.2.1 hd) hr, hrun, hended, _, _, rfl, ⟨N, ?_⟩, ⟨_, rfl⟩, hW, hsame.mono hk hn⟩
  show P _ T.heap
  rw [eT]
  exact hP
theorem w_ret_boolean (X : Hr p l e R s m args below meth c n0 h cells slots T) (C : Cx p s m meth c code ml (some .boolean) own nm Z a0 tabs) {pc : Nat} {Ls : Array Slot} {z : Int32} {rest : List Value} (hd : decode code pc = .ok (.ireturn, 1)) (hP : P (some (.int (z &&& 1))) h) (hk : cells ≤ k := by decide) (hn : slots ≤ n := by decide) : Goes p e below s n0 P k n T (mkF m pc Ls (.int z :: rest)) := by
  obtain ⟨locs, S, eT, N, -⟩ := X
  obtain ⟨fs, hr, hrun, hended, hW, hsame⟩ := S.leave (v := some (.int (z &&& 1))) (fun h => by rw [C.2.2.2.1] at h; cases h) C.2.2.2.2.1
  refine ⟨_, _, retN S C.1 (t := .boolean) C.2.2.2.1 (by simp) (hb C.2.1 hd) hr, hrun, hended, _, _, rfl, ⟨N, ?_⟩, ⟨_, rfl⟩, hW, hsame.mono hk hn⟩
  show P _ T.heap
  rw [eT]
  exact hP
theorem w_ret_byte (X : Hr p l e R s m args below meth c n0 h cells slots T) (C : Cx p s m meth c code ml (some .byte) own nm Z a0 tabs) {pc : Nat} {Ls : Array Slot} {z : Int32} {rest : List Value} (hd : decode code pc = .ok (.ireturn, 1)) (hP : P (some (.int (i8 z))) h) (hk : cells ≤ k := by decide) (hn : slots ≤ n := by decide) : Goes p e below s n0 P k n T (mkF m pc Ls (.int z :: rest)) := by
  obtain ⟨locs, S, eT, N, -⟩ := X
  obtain ⟨fs, hr, hrun, hended, hW, hsame⟩ := S.leave (v := some (.int (i8 z))) (fun h => by rw [C.2.2.2.1] at h; cases h) C.2.2.2.2.1
  refine ⟨_, _, retN S C.1 (t := .byte) C.2.2.2.1 (by simp) (hb C.2.1 hd) hr, hrun, hended, _, _, rfl, ⟨N, ?_⟩, ⟨_, rfl⟩, hW, hsame.mono hk hn⟩
  show P _ T.heap
  rw [eT]
  exact hP
theorem w_ret_char (X : Hr p l e R s m args below meth c n0 h cells slots T) (C : Cx p s m meth c code ml (some .char) own nm Z a0 tabs) {pc : Nat} {Ls : Array Slot} {z : Int32} {rest : List Value} (hd : decode code pc = .ok (.ireturn, 1)) (hP : P (some (.int (i16c z))) h) (hk : cells ≤ k := by decide) (hn : slots ≤ n := by decide) : Goes p e below s n0 P k n T (mkF m pc Ls (.int z :: rest)) := by
  obtain ⟨locs, S, eT, N, -⟩ := X
  obtain ⟨fs, hr, hrun, hended, hW, hsame⟩ := S.leave (v := some (.int (i16c z))) (fun h => by rw [C.2.2.2.1] at h; cases h) C.2.2.2.2.1
  refine ⟨_, _, retN S C.1 (t := .char) C.2.2.2.1 (by simp) (hb C.2.1 hd) hr, hrun, hended, _, _, rfl, ⟨N, ?_⟩, ⟨_, rfl⟩, hW, hsame.mono hk hn⟩
  show P _ T.heap
  rw [eT]
  exact hP
theorem w_retJ (X : Hr p l e R s m args below meth c n0 h cells slots T) (C : Cx p s m meth c code ml (some .long) own nm Z a0 tabs) {pc : Nat} {Ls : Array Slot} {z : Int64} (hd : decode code pc = .ok (.lreturn, 1)) (hP : P (some (.long z)) h) (hk : cells ≤ k := by decide) (hn : slots ≤ n := by decide) : Goes p e below s n0 P k n T (mkF m pc Ls [.long z]) := by
  obtain ⟨locs, S, eT, N, -⟩ := X
  obtain ⟨fs, hr, hrun, hended, hW, hsame⟩ := S.leave (v := some (.long z)) (fun h => by rw [C.2.2.2.1] at h; cases h) C.2.2.2.2.1
  refine ⟨_, _, S.lreturnOut C.1 C.2.2.2.1 (hb C.2.1 hd) hr, hrun, hended, _, _, rfl, ⟨N, ?_⟩, ⟨_, rfl⟩, hW, hsame.mono hk hn⟩
  show P _ T.heap
  rw [eT]
  exact hP
theorem w_retR (X : Hr p l e R s m args below meth c n0 h cells slots T) (C : Cx p s m meth c code ml ret own nm Z a0 tabs) {pc : Nat} {Ls : Array Slot} {t : FieldType} {a : Addr} {rest : List Value} (ht : t.isReference = true) (hret : ret = some t) (hd : decode code pc = .ok (.areturn, 1)) (hP : P (some (.ref a)) h) (hk : cells ≤ k := by decide) (hn : slots ≤ n := by decide) : Goes p e below s n0 P k n T (mkF m pc Ls (.ref a :: rest)) := by
  subst hret
  obtain ⟨locs, S, eT, N, -⟩ := X
  obtain ⟨fs, hr, hrun, hended, hW, hsame⟩ := S.leave (v := some (.ref a)) (fun h => by rw [C.2.2.2.1] at h; cases h) C.2.2.2.2.1
  refine ⟨_, _, retOut S C.1 C.2.2.2.1 (by cases t <;> rfl) (Or.inr (Or.inr (Or.inr (Or.inr ⟨rfl, ht, rfl⟩)))) (hb C.2.1 hd) hr, hrun, hended, _, _, rfl, ⟨N, ?_⟩, ⟨_, rfl⟩, hW, hsame.mono hk hn⟩
  show P _ T.heap
  rw [eT]
  exact hP
theorem w_retV (X : Hr p l e R s m args below meth c n0 h cells slots T) (C : Cx p s m meth c code ml none own nm Z a0 tabs) {pc : Nat} {Ls : Array Slot} (hd : decode code pc = .ok (.return_, 1)) (hP : P none h) (hk : cells ≤ k := by decide) (hn : slots ≤ n := by decide) : Goes p e below s n0 P k n T (mkF m pc Ls []) := by
  obtain ⟨locs, S, eT, N, -⟩ := X
  obtain ⟨fs, hr, hrun, hended, hW, hsame⟩ := S.leave (v := none) (fun _ => rfl) C.2.2.2.2.1
  refine ⟨_, _, S.returnOut C.1 C.2.2.2.1 (hb C.2.1 hd) hr, hrun, hended, _, _, rfl, ⟨N, ?_⟩, ⟨_, rfl⟩, hW, hsame.mono hk hn⟩
  show P _ T.heap
  rw [eT]
  exact hP
theorem w_callS (X : Hr p l e R s m args below meth c n0 h cells slots T) (C : Cx p s m meth c code ml ret own nm Z a0 tabs) {pc index : Nat} {Ls : Array Slot} {y : MethodName} {bytes : ByteArray} {maxL : Nat} {rt : Option FieldType} {rm : Room} {P' : Option Value → Heap → Prop} {argsL rest st : List Value} (hd : decode code pc = .ok (.invokestatic index, 3)) (i1 : Jvm.Cond.methodLink own index y ∈ tabs) (i2 : Jvm.Cond.static y ∈ tabs) (i3 : Jvm.Cond.initialized y.cls ∈ tabs) (i4 : Jvm.Cond.code y bytes maxL rt ∈ tabs) (hy : y.cls ≠ "java/lang/invoke/MethodHandle" ∧ y.cls ≠ "java/lang/invoke/VarHandle") {W : Nat} (hM : Ct l y bytes maxL rt rm Z argsL.toArray h n0 P') (hls : Ls.size = ml) (hlen : ∃ ps r, parseMethodDescriptor y.desc = some ⟨ps, r⟩ ∧ argsL.length = ps.length) (hst : st = argsL.reverse ++ rest) (hW : (rest.map fun v => v.category).sum ≤ W) (hf : rm.frames + 1 ≤ R.frames) (hl : W + (maxL + 11) + rm.locals ≤ R.locals) (hc : cells + rm.cells ≤ R.cells) (hs : slots + rm.slots ≤ R.slots)
    (K : ∀ v T', P' v T'.heap → Hr p l e R s m args below meth c n0 T'.heap (cells + rm.cells) (slots + rm.slots) T' → Goes p e below s n0 P k n T' (mkF m (pc + 3) Ls (v.toList ++ rest))) : Goes p e below s n0 P k n T (mkF m pc Ls st) := by
  obtain ⟨locs, S, eT, N, q0⟩ := X
  obtain ⟨ps, r, hp1, hp2⟩ := hlen
  have hZ := C.2.2.2.2.2.2.2.1
  have hw := C.2.2.2.2.2.2.2.2
  obtain ⟨v, _, ⟨T', L', k', n'⟩, -, X', ⟨Lc, hQ, l1, l2, l3⟩, stp⟩ := Jvm.LawKit.callS S C.1 (y := y) C.2.2.2.2.2.1 (mvT hZ (hw _ i1)) (mvT hZ (hw _ i2)) (mvT hZ (hw _ i3)) (mvT hZ (hw _ i4)) hy (backOf (W := W) (Q := fun v hp L => Fr n0 L ∧ P' v hp) (hM []) C.2.2.2.2.2.2.2.1 (C.2.2.2.2.2.2.2.2 _ i4) (C.2.2.2.2.2.2.2.2 _ i3) hf hl) (g := mkF m pc Ls st) rfl (by rw [C.2.2.1]; exact hls) (argsL := argsL) (rest := rest) (lenOf hp1 hp2) hst (by show 2 * 0 + _ ≤ _; rw [Nat.mul_zero, Nat.zero_add]; exact hW) (hb C.2.1 hd) (fun _ _ => ⟨rfl, eT, hc, hs⟩)
  dsimp only [Pt.U, Pt.locs, Pt.cells, Pt.slots] at X' l1 l2 l3 stp hQ
  subst l1 l2 l3
  exact Goes.of stp (K v T' hQ.2 ⟨_, X', rfl, Fr.app N hQ.1, q0⟩)
theorem w_callI (X : Hr p l e R s m args below meth c n0 h cells slots T) (C : Cx p s m meth c code ml ret own nm Z a0 tabs) {pc index : Nat} {Ls : Array Slot} {y : MethodName} {bytes : ByteArray} {maxL : Nat} {rm : Room} {P' : Option Value → Heap → Prop} {a : Addr} {argsL rest st : List Value} (hd : decode code pc = .ok (.invokespecial index, 3)) (i1 : Jvm.Cond.methodLink own index y ∈ tabs) (i2 : Jvm.Cond.instanceMethod y ∈ tabs) (i3 : Jvm.Cond.initialized y.cls ∈ tabs) (i4 : Jvm.Cond.code y bytes maxL none ∈ tabs) (hn1 : y.name = "<init>") (hy : y.cls ≠ "java/lang/invoke/MethodHandle" ∧ y.cls ≠ "java/lang/invoke/VarHandle") {W : Nat} (hM : Ct l y bytes maxL none rm Z (.ref a :: argsL).toArray h n0 P') (hls : Ls.size = ml) (hlen : ∃ ps r, parseMethodDescriptor y.desc = some ⟨ps, r⟩ ∧ argsL.length = ps.length) (hst : st = argsL.reverse ++ .ref a :: rest) (hW : (rest.map fun v => v.category).sum ≤ W) (hf : rm.frames + 1 ≤ R.frames) (hl : W + (maxL + 11) + rm.locals ≤ R.locals) (hc : cells + rm.cells ≤ R.cells) (hs : slots + rm.slots ≤ R.slots)
    (K : ∀ v T', P' v T'.heap → Hr p l e R s m args below meth c n0 T'.heap (cells + rm.cells) (slots + rm.slots) T' → Goes p e below s n0 P k n T' (mkF m (pc + 3) Ls (v.toList ++ rest))) : Goes p e below s n0 P k n T (mkF m pc Ls st) := by
  obtain ⟨locs, S, eT, N, q0⟩ := X
  obtain ⟨ps, r, hp1, hp2⟩ := hlen
  have hZ := C.2.2.2.2.2.2.2.1
  have hw := C.2.2.2.2.2.2.2.2
  obtain ⟨v, _, ⟨T', L', k', n'⟩, -, X', ⟨Lc, hQ, l1, l2, l3⟩, stp⟩ := S.specialBack C.1 (y := y) hn1 C.2.2.2.2.2.1 (mvT hZ (hw _ i1)) (mvT hZ (hw _ i2)) (mvT hZ (hw _ i4)) hy (backOf (W := W) (Q := fun v hp L => Fr n0 L ∧ P' v hp) (hM []) C.2.2.2.2.2.2.2.1 (C.2.2.2.2.2.2.2.2 _ i4) (C.2.2.2.2.2.2.2.2 _ i3) hf hl) (g := mkF m pc Ls st) rfl (by rw [C.2.2.1]; exact hls) (Steps.refl _) (a := a) (argsL := argsL) (rest := rest) (lenOf hp1 hp2) hst (by show 2 * 0 + _ ≤ _; rw [Nat.mul_zero, Nat.zero_add]; exact hW) (hb C.2.1 hd) (fun _ _ => ⟨rfl, eT, hc, hs⟩)
  dsimp only [Pt.U, Pt.locs, Pt.cells, Pt.slots] at X' l1 l2 l3 stp hQ
  subst l1 l2 l3
  exact Goes.of (fun _ kk => stp.trans kk) (K v T' hQ.2 ⟨_, X', rfl, Fr.app N hQ.1, q0⟩)
theorem w_callV (X : Hr p l e R s m args below meth c n0 h cells slots T) (C : Cx p s m meth c code ml ret own nm Z a0 tabs) {pc index : Nat} {Ls : Array Slot} {y : MethodName} {bytes : ByteArray} {maxL : Nat} {rt : Option FieldType} {rm : Room} {P' : Option Value → Heap → Prop} {a : Addr} {argsL rest st : List Value} (hd : decode code pc = .ok (.invokevirtual index, 3)) (i1 : Jvm.Cond.methodLink own index y ∈ tabs) (i2 : Jvm.Cond.instanceMethod y ∈ tabs) (i3 : Jvm.Cond.initialized y.cls ∈ tabs) (i4 : Jvm.Cond.code y bytes maxL rt ∈ tabs) (i5 : Jvm.Cond.declares y ∈ tabs) (i6 : Jvm.Cond.selects y.cls y y ∈ tabs) (E : Exa Z h a y.cls) (hy : y.cls ≠ "java/lang/invoke/MethodHandle" ∧ y.cls ≠ "java/lang/invoke/VarHandle") {W : Nat} (hM : Ct l y bytes maxL rt rm Z (.ref a :: argsL).toArray h n0 P') (hls : Ls.size = ml) (hlen : ∃ ps r, parseMethodDescriptor y.desc = some ⟨ps, r⟩ ∧ argsL.length = ps.length) (hst : st = argsL.reverse ++ .ref a :: rest) (hW : (rest.map fun v => v.category).sum ≤ W) (hf : rm.frames + 1 ≤ R.frames) (hl : W + (maxL + 11) + rm.locals ≤ R.locals) (hc : cells + rm.cells ≤ R.cells) (hs : slots + rm.slots ≤ R.slots)
    (K : ∀ v T', P' v T'.heap → Hr p l e R s m args below meth c n0 T'.heap (cells + rm.cells) (slots + rm.slots) T' → Goes p e below s n0 P k n T' (mkF m (pc + 3) Ls (v.toList ++ rest))) : Goes p e below s n0 P k n T (mkF m pc Ls st) := by
  obtain ⟨locs, S, eT, N, q0⟩ := X
  obtain ⟨ps, r, hp1, hp2⟩ := hlen
  have hZ := C.2.2.2.2.2.2.2.1
  have hw := C.2.2.2.2.2.2.2.2
  obtain ⟨cB, kB, qa, qb, qc⟩ := isOf hZ eT E
  obtain ⟨v, _, ⟨T', L', k', n'⟩, -, X', ⟨Lc, hQ, l1, l2, l3⟩, stp⟩ := S.virtualBack C.1 (y := y) (z := y) C.2.2.2.2.2.1 (mvT hZ (hw _ i1)) (mvT hZ (hw _ i5)) (notFace_of_selects (args := #[]) (mvT hZ (hw _ i6))) (mvT hZ (hw _ i6)) (mvT hZ (hw _ i2)) hy (backOf (W := W) (Q := fun v hp L => Fr n0 L ∧ P' v hp) (hM []) C.2.2.2.2.2.2.2.1 (C.2.2.2.2.2.2.2.2 _ i4) (C.2.2.2.2.2.2.2.2 _ i3) hf hl) qa qc (g := mkF m pc Ls st) rfl (by rw [C.2.2.1]; exact hls) (Steps.refl _) (argsL := argsL) (rest := rest) (lenOf hp1 hp2) hst (by show 2 * 0 + _ ≤ _; rw [Nat.mul_zero, Nat.zero_add]; exact hW) (hb C.2.1 hd) (fun _ _ => ⟨rfl, eT, hc, hs⟩)
  dsimp only [Pt.U, Pt.locs, Pt.cells, Pt.slots] at X' l1 l2 l3 stp hQ
  subst l1 l2 l3
  exact Goes.of (fun _ kk => stp.trans kk) (K v T' hQ.2 ⟨_, X', rfl, Fr.app N hQ.1, q0⟩)
theorem w_callP (X : Hr p l e R s m args below meth c n0 h cells slots T) (C : Cx p s m meth c code ml ret own nm Z a0 tabs) {pc index : Nat} {Ls : Array Slot} {y : MethodName} {bytes : ByteArray} {maxL : Nat} {rt : Option FieldType} {rm : Room} {w : Value} {argsL rest st : List Value} {W : Nat} (hd : decode code pc = .ok (.invokestatic index, 3)) (i1 : Jvm.Cond.methodLink own index y ∈ tabs) (i2 : Jvm.Cond.static y ∈ tabs) (i3 : Jvm.Cond.initialized y.cls ∈ tabs) (i4 : Jvm.Cond.code y bytes maxL rt ∈ tabs) (hy : y.cls ≠ "java/lang/invoke/MethodHandle" ∧ y.cls ≠ "java/lang/invoke/VarHandle") (hM : Ct l y bytes maxL rt rm Z argsL.toArray h n0 (fun v hp => v = some w ∧ hp = h)) (hr0 : rm.cells = 0) (hr1 : rm.slots = 0) (hls : Ls.size = ml) (hlen : ∃ ps r, parseMethodDescriptor y.desc = some ⟨ps, r⟩ ∧ argsL.length = ps.length) (hst : st = argsL.reverse ++ rest) (hW : (rest.map fun v => v.category).sum ≤ W) (hf : rm.frames + 1 ≤ R.frames) (hl : W + (maxL + 11) + rm.locals ≤ R.locals) (hc : cells ≤ R.cells) (hs : slots ≤ R.slots)
    (K : ∀ T', Hr p l e R s m args below meth c n0 h cells slots T' → Goes p e below s n0 P k n T' (mkF m (pc + 3) Ls (w :: rest))) : Goes p e below s n0 P k n T (mkF m pc Ls st) := by
  refine w_callS X C hd i1 i2 i3 i4 hy hM hls hlen hst hW hf hl (by rw [hr0]; exact hc) (by rw [hr1]; exact hs) ?_
  rintro v T' ⟨rfl, e1⟩ X'
  rw [e1, hr0, hr1] at X'
  exact K T' X'
theorem w_initO (X : Hr p l e R s m args below meth c n0 h cells slots T) (C : Cx p s m meth c code ml ret own nm Z a0 tabs) {pc index : Nat} {Ls : Array Slot} {a : Addr} {rest : List Value} (hd : decode code pc = .ok (.invokespecial index, 3)) (i1 : Jvm.Cond.methodLink own index Lib.objectInit ∈ tabs) (i2 : Jvm.Cond.instanceMethod Lib.objectInit ∈ tabs) (i3 : Jvm.Cond.code Lib.objectInit ⟨#[0xb1]⟩ 1 none ∈ tabs) (hls : Ls.size = ml) {W : Nat} (hW : (rest.map fun v => v.category).sum ≤ W) (hf : 1 ≤ R.frames) (hl : W + 12 ≤ R.locals)
    (K : ∀ T', Hr p l e R s m args below meth c n0 h cells slots T' → Goes p e below s n0 P k n T' (mkF m (pc + 3) Ls rest)) : Goes p e below s n0 P k n T (mkF m pc Ls (.ref a :: rest)) := by
  obtain ⟨locs, S, eT, N, q0⟩ := X
  have hZ := C.2.2.2.2.2.2.2.1
  have hw := C.2.2.2.2.2.2.2.2
  obtain ⟨T', X', e', st⟩ := initO S C.1 hZ C.2.2.2.2.2.1 (hw _ i1) (hw _ i2) (hw _ i3) eT (g := mkF m pc Ls (.ref a :: rest)) rfl (by rw [C.2.2.1]; exact hls) rfl (hb C.2.1 hd) hf (W := W) (by show 2 * 0 + _ ≤ _; rw [Nat.mul_zero, Nat.zero_add]; exact hW) hl
  exact Goes.of st (K T' ⟨_, X', e', N, q0⟩)
theorem w_getfield (X : Hr p l e R s m args below meth c n0 h cells slots T) (C : Cx p s m meth c code ml ret own nm Z a0 tabs) {pc index : Nat} {Ls : Array Slot} {O nf d : String} {a : Addr} {v : Value} {rest : List Value} (hd : decode code pc = .ok (.getfield index, 3)) (i1 : Jvm.Cond.fieldLink own index O nf d ∈ tabs) (F : Fld Z h a O nf d v)
    (K : ∀ T', Hr p l e R s m args below meth c n0 h cells slots T' → Goes p e below s n0 P k n T' (mkF m (pc + 3) Ls (v :: rest))) : Goes p e below s n0 P k n T (mkF m pc Ls (.ref a :: rest)) := by
  obtain ⟨locs, S, eT, N, q0⟩ := X
  obtain ⟨T', X', e', st⟩ := getF S C.1 C.2.2.2.2.2.2.2.1 C.2.2.2.2.2.1 (host := "") (Or.inl (C.2.2.2.2.2.2.2.2 _ i1)) Via.refl eT F (g := mkF m pc Ls (.ref a :: rest)) rfl rfl (hb C.2.1 hd)
  exact Goes.of st (K T' ⟨_, X', e', N, q0⟩)
theorem w_putfield (X : Hr p l e R s m args below meth c n0 h cells slots T) (C : Cx p s m meth c code ml ret own nm Z a0 tabs) {pc index kk0 : Nat} {Ls : Array Slot} {O nf d Cc : String} {ty : FieldType} {a : Addr} {v old : Value} {rest : List Value} (hd : decode code pc = .ok (.putfield index, 3)) (i1 : Jvm.Cond.fieldLink own index O nf d ∈ tabs) (F : Fld Z h a O nf d old) (E : Exa Z h a Cc) (i2 : Jvm.Cond.lays Cc O nf d ∈ tabs ∨ (Jvm.Cond.laysFinal Cc O nf d ∈ tabs ∧ own = O ∧ nm = "<init>")) (i3 : Jvm.Cond.instantiable Cc kk0 ∈ tabs) (hty : parseFieldDescriptor d = some ty) (hnw : narrow ty v = v) (hft : fits ty v = true) (ha : n0 ≤ a)
    (K : ∀ T' h', Hr p l e R s m args below meth c n0 h' cells slots T' → Wr h h' a (Jvm.RoadKit.slotOf Z O nf d) v → Fld Z h' a O nf d v → Exa Z h' a Cc → Goes p e below s n0 P k n T' (mkF m (pc + 3) Ls rest)) : Goes p e below s n0 P k n T (mkF m pc Ls (v :: .ref a :: rest)) := by
  obtain ⟨locs, S, eT, N, q0⟩ := X
  have hw := C.2.2.2.2.2.2.2.2
  obtain ⟨T', h', X', e', W', st⟩ := putF S C.1 C.2.2.2.2.2.2.2.1 C.2.2.2.2.2.1 (host := "") (Or.inl (hw _ i1)) Via.refl eT F E (i2.imp (fun q => hw _ q) (fun q => ⟨hw _ q.1, q.2.1, by rw [C.2.2.2.2.2.2.1]; exact q.2.2⟩)) (hw _ i3) hty hnw hft (g := mkF m pc Ls (v :: .ref a :: rest)) rfl rfl (hb C.2.1 hd)
  exact Goes.of st (K T' h' ⟨_, X', e', Fr.snoc X' N ha, q0⟩ W' (F.same W') (E.wr W'))
theorem w_new (X : Hr p l e R s m args below meth c n0 h cells slots T) (C : Cx p s m meth c code ml ret own nm Z a0 tabs) {pc index nn : Nat} {Ls : Array Slot} {Cc : String} {rest : List Value} (hd : decode code pc = .ok (.new index, 3)) (i1 : Jvm.Cond.classLink own index Cc ∈ tabs) (i2 : Jvm.Cond.instantiable Cc nn ∈ tabs) (i3 : Jvm.Cond.initialized Cc ∈ tabs) (hc : cells + 1 ≤ R.cells) (hl : slots + nn ≤ R.slots)
    (K : ∀ T' h' a, a = h.size → n0 ≤ a → Hr p l e R s m args below meth c n0 h' (cells + 1) (slots + nn) T' → Ext h h' → Exa Z h' a Cc → (∀ {O nf d : String} {ty : FieldType}, (Jvm.Cond.lays Cc O nf d ∈ tabs ∨ Jvm.Cond.laysFinal Cc O nf d ∈ tabs) → parseFieldDescriptor d = some ty → Fld Z h' a O nf d (defaultValue ty)) → Goes p e below s n0 P k n T' (mkF m (pc + 3) Ls (.ref a :: rest))) : Goes p e below s n0 P k n T (mkF m pc Ls rest) := by
  have hsz := X.size
  obtain ⟨locs, S, eT, N, q0⟩ := X
  have hw := C.2.2.2.2.2.2.2.2
  obtain ⟨T', h', X', e', E', A', D', -, st⟩ := newO S C.1 C.2.2.2.2.2.2.2.1 C.2.2.2.2.2.1 (hw _ i1) (hw _ i2) (hw _ i3) eT (g := mkF m pc Ls rest) rfl (hb C.2.1 hd) hc hl
  exact Goes.of st (K T' h' h.size rfl hsz ⟨_, X', e', N, q0⟩ E' A' (fun q ht => D' (q.imp (fun z => hw _ z) (fun z => hw _ z)) ht))
theorem ArV.lt {a : Addr} {ty : FieldType} {N : Nat} {f : Nat → Value} (A : ArV Z h a ty N f) : a < h.size := by obtain ⟨cl, A, -⟩ := A; exact A.lt
theorem ArV.ext {a : Addr} {ty : FieldType} {N : Nat} {f : Nat → Value} (A : ArV Z h a ty N f) (E : Ext h h') : ArV Z h' a ty N f := by obtain ⟨cl, A, r⟩ := A; exact ⟨cl, A.ext E, r⟩
theorem ArV.other {a b : Addr} {ty : FieldType} {N sl : Nat} {v : Value} {f : Nat → Value} (A : ArV Z h b ty N f) (W : Wr h h' a sl v) (q : b ≠ a) : ArV Z h' b ty N f := by obtain ⟨cl, A, r⟩ := A; exact ⟨cl, A.other W q, r⟩
theorem ArV.keep {a : Addr} {ty : FieldType} {N : Nat} {f : Nat → Value} {ws : List Addr} (A : ArV Z h a ty N f) (K : Keep h h' ws) (q : a ∉ ws) : ArV Z h' a ty N f := by obtain ⟨c, A, r⟩ := A; exact ⟨c, ⟨K.2.1 a c A.1 q, A.2⟩, r⟩
theorem ArV.congr {a : Addr} {ty : FieldType} {N : Nat} {f f' : Nat → Value} (A : ArV Z h a ty N f) (q : ∀ i, i < N → f' i = f i) : ArV Z h a ty N f' := by obtain ⟨c, A, r1, r2⟩ := A; exact ⟨c, A, r1, fun i hi => by rw [q i hi]; exact r2 i hi⟩
theorem ArV.same {a : Addr} {ty : FieldType} {N j : Nat} {v : Value} {f : Nat → Value} (A : ArV Z h a ty N f) (W : Wr h h' a j v) : ArV Z h' a ty N (up f j v) := by
  obtain ⟨c, A, r1, r2⟩ := A
  refine ⟨_, A.same W, by rw [sz_set]; exact r1, fun i hi => ?_⟩
  unfold up
  by_cases q : i = j
  · subst q; simp [Cell.setSlot, r1, hi]
  · simp only [q, if_false, Cell.setSlot]
    rw [Array.getElem?_setIfInBounds_ne (fun z => q z.symm)]
    exact r2 i hi
theorem up_int (g : Nat → Int32) (j : Nat) (x : Int32) : (fun i => Value.int (up g j x i)) = up (fun i => Value.int (g i)) j (.int x) := by
  funext i; unfold up; split <;> rfl
theorem up_long (g : Nat → Int64) (j : Nat) (x : Int64) : (fun i => Value.long (up g j x i)) = up (fun i => Value.long (g i)) j (.long x) := by
  funext i; unfold up; split <;> rfl
theorem in_of {a : Addr} {ty : FieldType} {N i : Nat} {j : Int32} {cl : Cell} (hi : j.toInt = i) (hN : i < N) (r1 : cl.slots.size = N) : ¬ (j < 0 ∨ cl.slots.size ≤ j.toNatClampNeg) ∧ j.toNatClampNeg = i := by
  have e0 : (0 : Int32).toInt = 0 := rfl
  have e1 : j.toNatClampNeg = i := by simp only [Int32.toNatClampNeg, hi]; omega
  refine ⟨?_, e1⟩
  rw [e1, r1, Int32.lt_iff_toInt_lt, e0]; omega
theorem w_baload (X : Hr p l e R s m args below meth c n0 h cells slots T) (C : Cx p s m meth c code ml ret own nm Z a0 tabs) {pc N : Nat} {Ls : Array Slot} {a : Addr} {g : Nat → Int32} {j : Int32} {rest : List Value} (hd : decode code pc = .ok (.baload, 1)) (A : ArI Z h a .byte N g) (i : Nat) (hi : j.toInt = i) (hN : i < N) (K : Goes p e below s n0 P k n T (mkF m (pc + 1) Ls (.int (g i) :: rest))) : Goes p e below s n0 P k n T (mkF m pc Ls (.int j :: .ref a :: rest)) := by
  obtain ⟨locs, S, eT, N0, q0⟩ := X
  obtain ⟨cl, Ar, r1, r2⟩ := A
  obtain ⟨hin, e1⟩ := in_of (a := a) (ty := .byte) hi hN r1
  exact Goes.of (fun _ kk => S.baloadBytes C.1 (j := j) (v := .int (g i)) (by rw [eT]; exact Ar.1) (State.isArrayOf_alike C.2.2.2.2.2.2.2.1.alike Ar.2.1) Ar.2.2 hin (by rw [e1]; exact r2 i hN) (g := mkF m pc Ls (.int j :: .ref a :: rest)) rfl rfl (hb C.2.1 hd) _ kk) K
theorem w_iaload (X : Hr p l e R s m args below meth c n0 h cells slots T) (C : Cx p s m meth c code ml ret own nm Z a0 tabs) {pc N : Nat} {Ls : Array Slot} {a : Addr} {g : Nat → Int32} {j : Int32} {rest : List Value} (hd : decode code pc = .ok (.iaload, 1)) (A : ArI Z h a .int N g) (i : Nat) (hi : j.toInt = i) (hN : i < N) (K : Goes p e below s n0 P k n T (mkF m (pc + 1) Ls (.int (g i) :: rest))) : Goes p e below s n0 P k n T (mkF m pc Ls (.int j :: .ref a :: rest)) := by
  obtain ⟨locs, S, eT, N0, q0⟩ := X
  obtain ⟨cl, Ar, r1, r2⟩ := A
  obtain ⟨hin, e1⟩ := in_of (a := a) (ty := .int) hi hN r1
  exact Goes.of (fun _ kk => S.iaload C.1 (j := j) (v := .int (g i)) (by rw [eT]; exact Ar.1) (State.isArrayOf_alike C.2.2.2.2.2.2.2.1.alike Ar.2.1) Ar.2.2 hin (by rw [e1]; exact r2 i hN) (g := mkF m pc Ls (.int j :: .ref a :: rest)) rfl rfl (hb C.2.1 hd) _ kk) K
theorem w_laload (X : Hr p l e R s m args below meth c n0 h cells slots T) (C : Cx p s m meth c code ml ret own nm Z a0 tabs) {pc N : Nat} {Ls : Array Slot} {a : Addr} {g : Nat → Int64} {j : Int32} {rest : List Value} (hd : decode code pc = .ok (.laload, 1)) (A : ArJ Z h a N g) (i : Nat) (hi : j.toInt = i) (hN : i < N) (K : Goes p e below s n0 P k n T (mkF m (pc + 1) Ls (.long (g i) :: rest))) : Goes p e below s n0 P k n T (mkF m pc Ls (.int j :: .ref a :: rest)) := by
  obtain ⟨locs, S, eT, N0, q0⟩ := X
  obtain ⟨cl, Ar, r1, r2⟩ := A
  obtain ⟨hin, e1⟩ := in_of (a := a) (ty := .long) hi hN r1
  exact Goes.of (fun _ kk => S.laload C.1 (j := j) (v := .long (g i)) (by rw [eT]; exact Ar.1) (State.isArrayOf_alike C.2.2.2.2.2.2.2.1.alike Ar.2.1) Ar.2.2 hin (by rw [e1]; exact r2 i hN) (g := mkF m pc Ls (.int j :: .ref a :: rest)) rfl rfl (hb C.2.1 hd) _ kk) K
theorem w_bastore (X : Hr p l e R s m args below meth c n0 h cells slots T) (C : Cx p s m meth c code ml ret own nm Z a0 tabs) {pc N : Nat} {Ls : Array Slot} {a : Addr} {g : Nat → Int32} {j : Int32} {x : Int32} {rest : List Value} (hd : decode code pc = .ok (.bastore, 1)) (A : ArI Z h a .byte N g) (i : Nat) (hi : j.toInt = i) (hN : i < N) (ha : n0 ≤ a)
    (K : ∀ T' h', Hr p l e R s m args below meth c n0 h' cells slots T' → Wr h h' a i (.int (i8 x)) → ArI Z h' a .byte N (up g i (i8 x)) → Goes p e below s n0 P k n T' (mkF m (pc + 1) Ls rest)) : Goes p e below s n0 P k n T (mkF m pc Ls (.int x :: .int j :: .ref a :: rest)) := by
  obtain ⟨locs, S, eT, N0, q0⟩ := X
  obtain ⟨cl, Ar, r1, r2⟩ := A
  obtain ⟨hin, e1⟩ := in_of (a := a) (ty := .byte) hi hN r1
  obtain ⟨T', h', X', e', W', st⟩ := stB S C.1 C.2.2.2.2.2.2.2.1 eT Ar (j := j) hin (g := mkF m pc Ls (.int x :: .int j :: .ref a :: rest)) rfl rfl (hb C.2.1 hd)
  rw [e1] at W'
  refine Goes.of st (K T' h' ⟨_, X', e', Fr.snoc X' N0 ha, q0⟩ W' ?_)
  have q := ArV.same ⟨cl, Ar, r1, r2⟩ W'
  rw [← (show (fun i_1 => Value.int (up g i (i8 x) i_1)) = up (fun i => Value.int (g i)) i (.int (nar .byte x)) from up_int g i (i8 x))] at q
  exact q
theorem w_iastore (X : Hr p l e R s m args below meth c n0 h cells slots T) (C : Cx p s m meth c code ml ret own nm Z a0 tabs) {pc N : Nat} {Ls : Array Slot} {a : Addr} {g : Nat → Int32} {j : Int32} {x : Int32} {rest : List Value} (hd : decode code pc = .ok (.iastore, 1)) (A : ArI Z h a .int N g) (i : Nat) (hi : j.toInt = i) (hN : i < N) (ha : n0 ≤ a)
    (K : ∀ T' h', Hr p l e R s m args below meth c n0 h' cells slots T' → Wr h h' a i (.int (x)) → ArI Z h' a .int N (up g i (x)) → Goes p e below s n0 P k n T' (mkF m (pc + 1) Ls rest)) : Goes p e below s n0 P k n T (mkF m pc Ls (.int x :: .int j :: .ref a :: rest)) := by
  obtain ⟨locs, S, eT, N0, q0⟩ := X
  obtain ⟨cl, Ar, r1, r2⟩ := A
  obtain ⟨hin, e1⟩ := in_of (a := a) (ty := .int) hi hN r1
  obtain ⟨T', h', X', e', W', st⟩ := stI S C.1 C.2.2.2.2.2.2.2.1 eT Ar (j := j) hin (g := mkF m pc Ls (.int x :: .int j :: .ref a :: rest)) rfl rfl (hb C.2.1 hd)
  rw [e1] at W'
  refine Goes.of st (K T' h' ⟨_, X', e', Fr.snoc X' N0 ha, q0⟩ W' ?_)
  have q := ArV.same ⟨cl, Ar, r1, r2⟩ W'
  rw [← up_int] at q
  exact q
theorem w_lastore (X : Hr p l e R s m args below meth c n0 h cells slots T) (C : Cx p s m meth c code ml ret own nm Z a0 tabs) {pc N : Nat} {Ls : Array Slot} {a : Addr} {g : Nat → Int64} {j : Int32} {x : Int64} {rest : List Value} (hd : decode code pc = .ok (.lastore, 1)) (A : ArJ Z h a N g) (i : Nat) (hi : j.toInt = i) (hN : i < N) (ha : n0 ≤ a)
    (K : ∀ T' h', Hr p l e R s m args below meth c n0 h' cells slots T' → Wr h h' a i (.long (x)) → ArJ Z h' a N (up g i (x)) → Goes p e below s n0 P k n T' (mkF m (pc + 1) Ls rest)) : Goes p e below s n0 P k n T (mkF m pc Ls (.long x :: .int j :: .ref a :: rest)) := by
  obtain ⟨locs, S, eT, N0, q0⟩ := X
  obtain ⟨cl, Ar, r1, r2⟩ := A
  obtain ⟨hin, e1⟩ := in_of (a := a) (ty := .long) hi hN r1
  obtain ⟨T', h', X', e', W', st⟩ := stJ S C.1 C.2.2.2.2.2.2.2.1 eT Ar (j := j) hin (g := mkF m pc Ls (.long x :: .int j :: .ref a :: rest)) rfl rfl (hb C.2.1 hd)
  rw [e1] at W'
  refine Goes.of st (K T' h' ⟨_, X', e', Fr.snoc X' N0 ha, q0⟩ W' ?_)
  have q := ArV.same ⟨cl, Ar, r1, r2⟩ W'
  rw [← up_long] at q
  exact q
theorem w_arraylength (X : Hr p l e R s m args below meth c n0 h cells slots T) (C : Cx p s m meth c code ml ret own nm Z a0 tabs) {pc N : Nat} {Ls : Array Slot} {a : Addr} {ty : FieldType} {f : Nat → Value} {rest : List Value} (hd : decode code pc = .ok (.arraylength, 1)) (A : ArV Z h a ty N f) (K : Goes p e below s n0 P k n T (mkF m (pc + 1) Ls (.int N.toInt32 :: rest))) : Goes p e below s n0 P k n T (mkF m pc Ls (.ref a :: rest)) := by
  obtain ⟨locs, S, eT, N0, q0⟩ := X
  obtain ⟨cl, Ar, r1, r2⟩ := A
  subst r1
  exact Goes.of (fun _ kk => S.arraylength C.1 (by rw [eT]; exact Ar.1) (State.isArrayOf_alike C.2.2.2.2.2.2.2.1.alike Ar.2.1) (g := mkF m pc Ls (.ref a :: rest)) rfl rfl (hb C.2.1 hd) _ kk) K
theorem w_new_byte (X : Hr p l e R s m args below meth c n0 h cells slots T) (C : Cx p s m meth c code ml ret own nm Z a0 tabs) {pc : Nat} {Ls : Array Slot} {sz : Int32} {rest : List Value} (hd : decode code pc = .ok (.newarray .byte, 2)) (i1 : Jvm.Cond.arrayClass .byte ∈ tabs) (N : Nat) (hN : sz.toInt = N) (cap : Nat) (hcap : N ≤ cap) (hbig : cap * 8 ≤ 536870912) (hc : cells + 1 ≤ R.cells) (hl : slots + cap ≤ R.slots)
    (K : ∀ T' h' a, a = h.size → n0 ≤ a → Hr p l e R s m args below meth c n0 h' (cells + 1) (slots + cap) T' → Ext h h' → ArI Z h' a .byte N (fun _ => 0) → Goes p e below s n0 P k n T' (mkF m (pc + 2) Ls (.ref a :: rest))) : Goes p e below s n0 P k n T (mkF m pc Ls (.int sz :: rest)) := by
  have hsz := X.size
  obtain ⟨locs, S, eT, N0, q0⟩ := X
  have hw := C.2.2.2.2.2.2.2.2
  have e1 : sz.toNatClampNeg = N := by simp only [Int32.toNatClampNeg, hN]; omega
  have e2 : ¬ sz < 0 := by
    have e0 : (0 : Int32).toInt = 0 := rfl
    rw [Int32.lt_iff_toInt_lt, e0]; omega
  obtain ⟨T', h', kk', X', e', E', A', st⟩ := newP S C.1 C.2.2.2.2.2.2.2.1 (aty := .byte) (hw _ i1) eT (g := mkF m pc Ls (.int sz :: rest)) rfl (hb C.2.1 hd) rfl e2 (cap := cap) (by rw [e1]; exact hcap) hbig hc hl
  refine Goes.of st (K T' h' h.size rfl hsz ⟨_, X', e', N0, q0⟩ E' ⟨_, A', by rw [sz_new]; exact e1, fun i hi => ?_⟩)
  simp [newA, e1, hi, newarray.typeOf, defaultValue]
theorem w_new_int (X : Hr p l e R s m args below meth c n0 h cells slots T) (C : Cx p s m meth c code ml ret own nm Z a0 tabs) {pc : Nat} {Ls : Array Slot} {sz : Int32} {rest : List Value} (hd : decode code pc = .ok (.newarray .int, 2)) (i1 : Jvm.Cond.arrayClass .int ∈ tabs) (N : Nat) (hN : sz.toInt = N) (cap : Nat) (hcap : N ≤ cap) (hbig : cap * 8 ≤ 536870912) (hc : cells + 1 ≤ R.cells) (hl : slots + cap ≤ R.slots)
    (K : ∀ T' h' a, a = h.size → n0 ≤ a → Hr p l e R s m args below meth c n0 h' (cells + 1) (slots + cap) T' → Ext h h' → ArI Z h' a .int N (fun _ => 0) → Goes p e below s n0 P k n T' (mkF m (pc + 2) Ls (.ref a :: rest))) : Goes p e below s n0 P k n T (mkF m pc Ls (.int sz :: rest)) := by
  have hsz := X.size
  obtain ⟨locs, S, eT, N0, q0⟩ := X
  have hw := C.2.2.2.2.2.2.2.2
  have e1 : sz.toNatClampNeg = N := by simp only [Int32.toNatClampNeg, hN]; omega
  have e2 : ¬ sz < 0 := by
    have e0 : (0 : Int32).toInt = 0 := rfl
    rw [Int32.lt_iff_toInt_lt, e0]; omega
  obtain ⟨T', h', kk', X', e', E', A', st⟩ := newP S C.1 C.2.2.2.2.2.2.2.1 (aty := .int) (hw _ i1) eT (g := mkF m pc Ls (.int sz :: rest)) rfl (hb C.2.1 hd) rfl e2 (cap := cap) (by rw [e1]; exact hcap) hbig hc hl
  refine Goes.of st (K T' h' h.size rfl hsz ⟨_, X', e', N0, q0⟩ E' ⟨_, A', by rw [sz_new]; exact e1, fun i hi => ?_⟩)
  simp [newA, e1, hi, newarray.typeOf, defaultValue]
theorem w_new_long (X : Hr p l e R s m args below meth c n0 h cells slots T) (C : Cx p s m meth c code ml ret own nm Z a0 tabs) {pc : Nat} {Ls : Array Slot} {sz : Int32} {rest : List Value} (hd : decode code pc = .ok (.newarray .long, 2)) (i1 : Jvm.Cond.arrayClass .long ∈ tabs) (N : Nat) (hN : sz.toInt = N) (cap : Nat) (hcap : N ≤ cap) (hbig : cap * 8 ≤ 536870912) (hc : cells + 1 ≤ R.cells) (hl : slots + cap ≤ R.slots)
    (K : ∀ T' h' a, a = h.size → n0 ≤ a → Hr p l e R s m args below meth c n0 h' (cells + 1) (slots + cap) T' → Ext h h' → ArJ Z h' a N (fun _ => 0) → Goes p e below s n0 P k n T' (mkF m (pc + 2) Ls (.ref a :: rest))) : Goes p e below s n0 P k n T (mkF m pc Ls (.int sz :: rest)) := by
  have hsz := X.size
  obtain ⟨locs, S, eT, N0, q0⟩ := X
  have hw := C.2.2.2.2.2.2.2.2
  have e1 : sz.toNatClampNeg = N := by simp only [Int32.toNatClampNeg, hN]; omega
  have e2 : ¬ sz < 0 := by
    have e0 : (0 : Int32).toInt = 0 := rfl
    rw [Int32.lt_iff_toInt_lt, e0]; omega
  obtain ⟨T', h', kk', X', e', E', A', st⟩ := newP S C.1 C.2.2.2.2.2.2.2.1 (aty := .long) (hw _ i1) eT (g := mkF m pc Ls (.int sz :: rest)) rfl (hb C.2.1 hd) rfl e2 (cap := cap) (by rw [e1]; exact hcap) hbig hc hl
  refine Goes.of st (K T' h' h.size rfl hsz ⟨_, X', e', N0, q0⟩ E' ⟨_, A', by rw [sz_new]; exact e1, fun i hi => ?_⟩)
  simp [newA, e1, hi, newarray.typeOf, defaultValue]
end W
end Jvm.OwnW
namespace Jvm.Pilot.@@N@@
open Jvm Jvm.ClassFile Sem Op Lib Jvm.Free Jvm.Stand Jvm.LawKit Jvm.RoadKit Bundle Jvm.OwnW Jvm.Pilot.@@N@@.Jvm.D
theorem pn_0 : plainName "com/example/hengbiao/hengbiao/server/RequestHeadEndPinLaw" = true := by first | (simp [plainName, overriddenIn]; done) | decide +kernel
theorem pn_1 : plainName "com/example/hengbiao/hengbiao/server/RequestHead" = true := by first | (simp [plainName, overriddenIn]; done) | decide +kernel
theorem pd_0 : parseMethodDescriptor "(IIJ)B" = some ⟨[.int, .int, .long], some .byte⟩ := by decide +kernel
theorem pd_1 : parseMethodDescriptor "([BII)I" = some ⟨[(.array .byte), .int, .int], some .int⟩ := by decide +kernel
theorem pd_2 : parseMethodDescriptor "([BIII)I" = some ⟨[(.array .byte), .int, .int, .int], some .int⟩ := by decide +kernel
def f1_20 (x0 : Int32) (x1 : Int32) (x2 : Int64) (x4 : Int32) : Int32 := (i8 (10 : Int32))
def f1 (x0 : Int32) (x1 : Int32) (x2 : Int64) : Int32 := (if ((ushrI x0 ((2 : Int32) * x1)) &&& (3 : Int32)) = 0 then (f1_20 x0 x1 x2 ((ushrI x0 ((2 : Int32) * x1)) &&& (3 : Int32))) else (if ((ushrI x0 ((2 : Int32) * x1)) &&& (3 : Int32)) = (2 : Int32) then (f1_20 x0 x1 x2 ((ushrI x0 ((2 : Int32) * x1)) &&& (3 : Int32))) else (if ((ushrI x0 ((2 : Int32) * x1)) &&& (3 : Int32)) = (1 : Int32) then (i8 (13 : Int32)) else (i8 (i8 ((ushrJ x2 ((8 : Int32) * x1))).toInt32)))))
theorem d1_0 : decode method_3_code 0 = .ok (.iload_n 0, 1) := by decide +kernel
theorem d1_1 : decode method_3_code 1 = .ok (.iconst 2, 1) := by decide +kernel
theorem d1_2 : decode method_3_code 2 = .ok (.iload_n 1, 1) := by decide +kernel
theorem d1_3 : decode method_3_code 3 = .ok (.imul, 1) := by decide +kernel
theorem d1_4 : decode method_3_code 4 = .ok (.iushr, 1) := by decide +kernel
theorem d1_5 : decode method_3_code 5 = .ok (.iconst 3, 1) := by decide +kernel
theorem d1_6 : decode method_3_code 6 = .ok (.iand, 1) := by decide +kernel
theorem d1_7 : decode method_3_code 7 = .ok (.istore 4, 2) := by decide +kernel
theorem d1_9 : decode method_3_code 9 = .ok (.iload 4, 2) := by decide +kernel
theorem d1_11 : decode method_3_code 11 = .ok (.ifCond .eq 9, 3) := by decide +kernel
theorem d1_14 : decode method_3_code 14 = .ok (.iload 4, 2) := by decide +kernel
theorem d1_16 : decode method_3_code 16 = .ok (.iconst 2, 1) := by decide +kernel
theorem d1_17 : decode method_3_code 17 = .ok (.if_icmp .ne 6, 3) := by decide +kernel
theorem d1_20 : decode method_3_code 20 = .ok (.bipush 10, 2) := by decide +kernel
theorem d1_22 : decode method_3_code 22 = .ok (.ireturn, 1) := by decide +kernel
theorem d1_23 : decode method_3_code 23 = .ok (.iload 4, 2) := by decide +kernel
theorem d1_25 : decode method_3_code 25 = .ok (.iconst 1, 1) := by decide +kernel
theorem d1_26 : decode method_3_code 26 = .ok (.if_icmp .ne 6, 3) := by decide +kernel
theorem d1_29 : decode method_3_code 29 = .ok (.bipush 13, 2) := by decide +kernel
theorem d1_31 : decode method_3_code 31 = .ok (.ireturn, 1) := by decide +kernel
theorem d1_32 : decode method_3_code 32 = .ok (.lload_n 2, 1) := by decide +kernel
theorem d1_33 : decode method_3_code 33 = .ok (.bipush 8, 2) := by decide +kernel
theorem d1_35 : decode method_3_code 35 = .ok (.iload_n 1, 1) := by decide +kernel
theorem d1_36 : decode method_3_code 36 = .ok (.imul, 1) := by decide +kernel
theorem d1_37 : decode method_3_code 37 = .ok (.lushr, 1) := by decide +kernel
theorem d1_38 : decode method_3_code 38 = .ok (.l2i, 1) := by decide +kernel
theorem d1_39 : decode method_3_code 39 = .ok (.i2b, 1) := by decide +kernel
theorem d1_40 : decode method_3_code 40 = .ok (.ireturn, 1) := by decide +kernel
set_option maxRecDepth 65536 in
set_option maxHeartbeats 4000000 in
theorem b1_20 {p : Program} {l : Launch} {e : Env} {s : State} {m : MethodId} {args : Array Value} {below : List Frame} {meth : Method} {c : Code} {T : State} {h : Heap} {n0 : Nat} {P : Option Value → Heap → Prop} {Z : State} {a0 : Array Value} (X : Hr p l e ({ frames := 0, cells := 0, slots := 0, locals := 0 } : Room) s m args below meth c n0 h 0 0 T) (C : Cx p s m meth c method_3_code 5 (some .byte) "com/example/hengbiao/hengbiao/server/RequestHeadEndPinLaw" "pick" Z a0 tables_1) (x0 : Int32) (x1 : Int32) (x2 : Int64) (x4 : Int32) (hP : P (some (.int (f1_20 x0 x1 x2 x4))) h) : Goes p e below s n0 P 0 0 T (mkF m 20 #[.val (.int x0), .val (.int x1), .val (.long x2), .second, .val (.int x4)] []) := by
  refine w_bipush (pc := 20) X C d1_20 (10 : Int32) rfl ?_
  exact w_ret_byte (pc := 22) X C d1_22 (by unfold f1_20 at hP; exact hP)
set_option maxRecDepth 65536 in
set_option maxHeartbeats 4000000 in
theorem b1_0 {p : Program} {l : Launch} {e : Env} {s : State} {m : MethodId} {args : Array Value} {below : List Frame} {meth : Method} {c : Code} {T : State} {h : Heap} {n0 : Nat} {P : Option Value → Heap → Prop} {Z : State} {a0 : Array Value} (X : Hr p l e ({ frames := 0, cells := 0, slots := 0, locals := 0 } : Room) s m args below meth c n0 h 0 0 T) (C : Cx p s m meth c method_3_code 5 (some .byte) "com/example/hengbiao/hengbiao/server/RequestHeadEndPinLaw" "pick" Z a0 tables_1) (x0 : Int32) (x1 : Int32) (x2 : Int64) (hP : P (some (.int (f1 x0 x1 x2))) h) : Goes p e below s n0 P 0 0 T (mkF m 0 #[.val (.int x0), .val (.int x1), .val (.long x2), .second, .unset] []) := by
  refine w_iloadN (pc := 0) X C d1_0 rfl ?_
  refine w_iconst (pc := 1) X C d1_1 (2 : Int32) rfl ?_
  refine w_iloadN (pc := 2) X C d1_2 rfl ?_
  refine w_imul (pc := 3) X C d1_3 ?_
  refine w_iushr (pc := 4) X C d1_4 ?_
  refine w_iconst (pc := 5) X C d1_5 (3 : Int32) rfl ?_
  refine w_iand (pc := 6) X C d1_6 ?_
  refine w_istore (pc := 7) X C d1_7 #[.val (.int x0), .val (.int x1), .val (.long x2), .second, .val (.int ((ushrI x0 ((2 : Int32) * x1)) &&& (3 : Int32)))] rfl ?_
  refine w_iload (pc := 9) X C d1_9 rfl ?_
  refine w_if_eq (pc := 11) X C d1_11 20 (by decide) (fun q1 => ?_) (fun q1 => ?_)
  · -- yes
    exact b1_20 X C (x0) (x1) (x2) (((ushrI x0 ((2 : Int32) * x1)) &&& (3 : Int32))) (by unfold f1 at hP; rw [if_pos q1] at hP; exact hP)
  · -- no
    refine w_iload (pc := 14) X C d1_14 rfl ?_
    refine w_iconst (pc := 16) X C d1_16 (2 : Int32) rfl ?_
    refine w_icmp_ne (pc := 17) X C d1_17 23 (by decide) (fun q2 => ?_) (fun q2 => ?_)
    · -- yes
      refine w_iload (pc := 23) X C d1_23 rfl ?_
      refine w_iconst (pc := 25) X C d1_25 (1 : Int32) rfl ?_
      refine w_icmp_ne (pc := 26) X C d1_26 32 (by decide) (fun q3 => ?_) (fun q3 => ?_)
      · -- yes
        refine w_lloadN (pc := 32) X C d1_32 rfl ?_
        refine w_bipush (pc := 33) X C d1_33 (8 : Int32) rfl ?_
        refine w_iloadN (pc := 35) X C d1_35 rfl ?_
        refine w_imul (pc := 36) X C d1_36 ?_
        refine w_lushr (pc := 37) X C d1_37 ?_
        refine w_l2i (pc := 38) X C d1_38 ?_
        refine w_i2b (pc := 39) X C d1_39 ?_
        exact w_ret_byte (pc := 40) X C d1_40 (by unfold f1 at hP; rw [if_neg q1, if_neg q2, if_neg q3] at hP; exact hP)
      · -- no
        refine w_bipush (pc := 29) X C d1_29 (13 : Int32) rfl ?_
        exact w_ret_byte (pc := 31) X C d1_31 (by unfold f1 at hP; rw [if_neg q1, if_neg q2, if_pos q3] at hP; exact hP)
    · -- no
      exact b1_20 X C (x0) (x1) (x2) (((ushrI x0 ((2 : Int32) * x1)) &&& (3 : Int32))) (by unfold f1 at hP; rw [if_neg q1, if_pos q2] at hP; exact hP)
theorem ct1 (l : Launch) {Z : State} {a0 : Array Value} (hw : ∀ d ∈ tables_1, d.before a0 Z = true) (h : Heap) {n0 : Nat} (hn : n0 ≤ h.size) (x0 : Int32) (x1 : Int32) (x2 : Int64) : Ct l (⟨"com/example/hengbiao/hengbiao/server/RequestHeadEndPinLaw", "pick", "(IIJ)B"⟩ : MethodName) method_3_code 5 (some .byte) ({ frames := 0, cells := 0, slots := 0, locals := 0 } : Room) Z #[(.int x0), (.int x1), (.long x2)] h n0 (fun v h' => v = some (.int (f1 x0 x1 x2)) ∧ h' = h) :=
  Ct.of (plainFor_of_name pn_0) #[.val (.int x0), .val (.int x1), .val (.long x2), .second, .unset] (fun m => by first | (simp [entryFrame, mkF, argsToLocals, Value.category]; done) | rfl) hw hn (fun p e s m below meth c T C X => b1_0 X C x0 x1 x2 ⟨rfl, rfl⟩)
def f3_75 (x1 : Int32) (x2 : Int32) (x3 : Int32) (g_x0 : Nat → Int32) : Int32 := (-1 : Int32)
def f3_36 (x1 : Int32) (x2 : Int32) (x3 : Int32) (g_x0 : Nat → Int32) : Int32 := (if (x3 + (2 : Int32)) < x2 then (if (g_x0 (nt x3)) = (10 : Int32) then (if (g_x0 (nt (x3 + (1 : Int32)))) = (13 : Int32) then (if (g_x0 (nt (x3 + (2 : Int32)))) = (10 : Int32) then (x3 + (3 : Int32)) else (f3_75 x1 x2 x3 g_x0)) else (f3_75 x1 x2 x3 g_x0)) else (f3_75 x1 x2 x3 g_x0)) else (f3_75 x1 x2 x3 g_x0))
def f3 (x1 : Int32) (x2 : Int32) (x3 : Int32) (g_x0 : Nat → Int32) : Int32 := (if x3 < x1 then (-1 : Int32) else (if (x3 + (1 : Int32)) < x2 then (if (g_x0 (nt x3)) = (10 : Int32) then (if (g_x0 (nt (x3 + (1 : Int32)))) = (10 : Int32) then (x3 + (2 : Int32)) else (f3_36 x1 x2 x3 g_x0)) else (f3_36 x1 x2 x3 g_x0)) else (f3_36 x1 x2 x3 g_x0)))
theorem d3_0 : decode method_4_code 0 = .ok (.iload_n 3, 1) := by decide +kernel
theorem d3_1 : decode method_4_code 1 = .ok (.iload_n 1, 1) := by decide +kernel
theorem d3_2 : decode method_4_code 2 = .ok (.if_icmp .ge 5, 3) := by decide +kernel
theorem d3_5 : decode method_4_code 5 = .ok (.iconst (-1), 1) := by decide +kernel
theorem d3_6 : decode method_4_code 6 = .ok (.ireturn, 1) := by decide +kernel
theorem d3_7 : decode method_4_code 7 = .ok (.iload_n 3, 1) := by decide +kernel
theorem d3_8 : decode method_4_code 8 = .ok (.iconst 1, 1) := by decide +kernel
theorem d3_9 : decode method_4_code 9 = .ok (.iadd, 1) := by decide +kernel
theorem d3_10 : decode method_4_code 10 = .ok (.iload_n 2, 1) := by decide +kernel
theorem d3_11 : decode method_4_code 11 = .ok (.if_icmp .ge 25, 3) := by decide +kernel
theorem d3_14 : decode method_4_code 14 = .ok (.aload_n 0, 1) := by decide +kernel
theorem d3_15 : decode method_4_code 15 = .ok (.iload_n 3, 1) := by decide +kernel
theorem d3_16 : decode method_4_code 16 = .ok (.baload, 1) := by decide +kernel
theorem d3_17 : decode method_4_code 17 = .ok (.bipush 10, 2) := by decide +kernel
theorem d3_19 : decode method_4_code 19 = .ok (.if_icmp .ne 17, 3) := by decide +kernel
theorem d3_22 : decode method_4_code 22 = .ok (.aload_n 0, 1) := by decide +kernel
theorem d3_23 : decode method_4_code 23 = .ok (.iload_n 3, 1) := by decide +kernel
theorem d3_24 : decode method_4_code 24 = .ok (.iconst 1, 1) := by decide +kernel
theorem d3_25 : decode method_4_code 25 = .ok (.iadd, 1) := by decide +kernel
theorem d3_26 : decode method_4_code 26 = .ok (.baload, 1) := by decide +kernel
theorem d3_27 : decode method_4_code 27 = .ok (.bipush 10, 2) := by decide +kernel
theorem d3_29 : decode method_4_code 29 = .ok (.if_icmp .ne 7, 3) := by decide +kernel
theorem d3_32 : decode method_4_code 32 = .ok (.iload_n 3, 1) := by decide +kernel
theorem d3_33 : decode method_4_code 33 = .ok (.iconst 2, 1) := by decide +kernel
theorem d3_34 : decode method_4_code 34 = .ok (.iadd, 1) := by decide +kernel
theorem d3_35 : decode method_4_code 35 = .ok (.ireturn, 1) := by decide +kernel
theorem d3_36 : decode method_4_code 36 = .ok (.iload_n 3, 1) := by decide +kernel
theorem d3_37 : decode method_4_code 37 = .ok (.iconst 2, 1) := by decide +kernel
theorem d3_38 : decode method_4_code 38 = .ok (.iadd, 1) := by decide +kernel
theorem d3_39 : decode method_4_code 39 = .ok (.iload_n 2, 1) := by decide +kernel
theorem d3_40 : decode method_4_code 40 = .ok (.if_icmp .ge 35, 3) := by decide +kernel
theorem d3_43 : decode method_4_code 43 = .ok (.aload_n 0, 1) := by decide +kernel
theorem d3_44 : decode method_4_code 44 = .ok (.iload_n 3, 1) := by decide +kernel
theorem d3_45 : decode method_4_code 45 = .ok (.baload, 1) := by decide +kernel
theorem d3_46 : decode method_4_code 46 = .ok (.bipush 10, 2) := by decide +kernel
theorem d3_48 : decode method_4_code 48 = .ok (.if_icmp .ne 27, 3) := by decide +kernel
theorem d3_51 : decode method_4_code 51 = .ok (.aload_n 0, 1) := by decide +kernel
theorem d3_52 : decode method_4_code 52 = .ok (.iload_n 3, 1) := by decide +kernel
theorem d3_53 : decode method_4_code 53 = .ok (.iconst 1, 1) := by decide +kernel
theorem d3_54 : decode method_4_code 54 = .ok (.iadd, 1) := by decide +kernel
theorem d3_55 : decode method_4_code 55 = .ok (.baload, 1) := by decide +kernel
theorem d3_56 : decode method_4_code 56 = .ok (.bipush 13, 2) := by decide +kernel
theorem d3_58 : decode method_4_code 58 = .ok (.if_icmp .ne 17, 3) := by decide +kernel
theorem d3_61 : decode method_4_code 61 = .ok (.aload_n 0, 1) := by decide +kernel
theorem d3_62 : decode method_4_code 62 = .ok (.iload_n 3, 1) := by decide +kernel
theorem d3_63 : decode method_4_code 63 = .ok (.iconst 2, 1) := by decide +kernel
theorem d3_64 : decode method_4_code 64 = .ok (.iadd, 1) := by decide +kernel
theorem d3_65 : decode method_4_code 65 = .ok (.baload, 1) := by decide +kernel
theorem d3_66 : decode method_4_code 66 = .ok (.bipush 10, 2) := by decide +kernel
theorem d3_68 : decode method_4_code 68 = .ok (.if_icmp .ne 7, 3) := by decide +kernel
theorem d3_71 : decode method_4_code 71 = .ok (.iload_n 3, 1) := by decide +kernel
theorem d3_72 : decode method_4_code 72 = .ok (.iconst 3, 1) := by decide +kernel
theorem d3_73 : decode method_4_code 73 = .ok (.iadd, 1) := by decide +kernel
theorem d3_74 : decode method_4_code 74 = .ok (.ireturn, 1) := by decide +kernel
theorem d3_75 : decode method_4_code 75 = .ok (.iconst (-1), 1) := by decide +kernel
theorem d3_76 : decode method_4_code 76 = .ok (.ireturn, 1) := by decide +kernel
set_option maxRecDepth 65536 in
set_option maxHeartbeats 4000000 in
theorem b3_75 {p : Program} {l : Launch} {e : Env} {s : State} {m : MethodId} {args : Array Value} {below : List Frame} {meth : Method} {c : Code} {T : State} {h : Heap} {n0 : Nat} {P : Option Value → Heap → Prop} {Z : State} {a0 : Array Value} (X : Hr p l e ({ frames := 0, cells := 0, slots := 0, locals := 0 } : Room) s m args below meth c n0 h 0 0 T) (C : Cx p s m meth c method_4_code 4 (some .int) "com/example/hengbiao/hengbiao/server/RequestHeadEndPinLaw" "matchAt" Z a0 tables_1) (x0 : Addr) (x1 : Int32) (x2 : Int32) (x3 : Int32) (g_x0 : Nat → Int32) (A_x0 : ArI Z h x0 .byte 6 g_x0) (hx : 0 ≤ x3.toInt ∧ x3.toInt ≤ 5) (he : x2.toInt ≤ 6) (hP : P (some (.int (f3_75 x1 x2 x3 g_x0))) h) : Goes p e below s n0 P 0 0 T (mkF m 75 #[.val (.ref x0), .val (.int x1), .val (.int x2), .val (.int x3)] []) := by
  refine w_iconst (pc := 75) X C d3_75 (-1 : Int32) rfl ?_
  exact w_retI (pc := 76) X C d3_76 (by unfold f3_75 at hP; exact hP)
set_option maxRecDepth 65536 in
set_option maxHeartbeats 4000000 in
theorem b3_36 {p : Program} {l : Launch} {e : Env} {s : State} {m : MethodId} {args : Array Value} {below : List Frame} {meth : Method} {c : Code} {T : State} {h : Heap} {n0 : Nat} {P : Option Value → Heap → Prop} {Z : State} {a0 : Array Value} (X : Hr p l e ({ frames := 0, cells := 0, slots := 0, locals := 0 } : Room) s m args below meth c n0 h 0 0 T) (C : Cx p s m meth c method_4_code 4 (some .int) "com/example/hengbiao/hengbiao/server/RequestHeadEndPinLaw" "matchAt" Z a0 tables_1) (x0 : Addr) (x1 : Int32) (x2 : Int32) (x3 : Int32) (g_x0 : Nat → Int32) (A_x0 : ArI Z h x0 .byte 6 g_x0) (hx : 0 ≤ x3.toInt ∧ x3.toInt ≤ 5) (he : x2.toInt ≤ 6) (hP : P (some (.int (f3_36 x1 x2 x3 g_x0))) h) : Goes p e below s n0 P 0 0 T (mkF m 36 #[.val (.ref x0), .val (.int x1), .val (.int x2), .val (.int x3)] []) := by
  refine w_iloadN (pc := 36) X C d3_36 rfl ?_
  refine w_iconst (pc := 37) X C d3_37 (2 : Int32) rfl ?_
  refine w_iadd (pc := 38) X C d3_38 ?_
  refine w_iloadN (pc := 39) X C d3_39 rfl ?_
  refine w_icmp_ge (pc := 40) X C d3_40 75 (by decide) (fun q9 => ?_) (fun q9 => ?_)
  · -- yes
    exact b3_75 X C (x0) (x1) (x2) (x3) g_x0 A_x0 hx he (by unfold f3_36 at hP; rw [if_neg q9] at hP; exact hP)
  · -- no
    refine w_aloadN (pc := 43) X C d3_43 rfl rfl ?_
    refine w_iloadN (pc := 44) X C d3_44 rfl ?_
    have lq9_45 := Int32.lt_iff_toInt_lt.mp q9
    have e_10 := add1 (x := x3) (2 : Int32) 2 rfl (by omega) (by omega)
    have b_11 : 0 ≤ (x3).toInt ∧ (x3).toInt < 6 := by omega
    refine w_baload (pc := 45) X C d3_45 A_x0 (nt x3) (nt_eq b_11.1) (nt_lt b_11.2 (by omega)) ?_
    refine w_bipush (pc := 46) X C d3_46 (10 : Int32) rfl ?_
    refine w_icmp_ne (pc := 48) X C d3_48 75 (by decide) (fun q12 => ?_) (fun q12 => ?_)
    · -- yes
      exact b3_75 X C (x0) (x1) (x2) (x3) g_x0 A_x0 hx he (by unfold f3_36 at hP; rw [if_pos q9, if_neg q12] at hP; exact hP)
    · -- no
      refine w_aloadN (pc := 51) X C d3_51 rfl rfl ?_
      refine w_iloadN (pc := 52) X C d3_52 rfl ?_
      refine w_iconst (pc := 53) X C d3_53 (1 : Int32) rfl ?_
      refine w_iadd (pc := 54) X C d3_54 ?_
      have lq9_55 := Int32.lt_iff_toInt_lt.mp q9
      have e_13 := add1 (x := x3) (2 : Int32) 2 rfl (by omega) (by omega)
      have e_14 := add1 (x := x3) (1 : Int32) 1 rfl (by omega) (by omega)
      have b_15 : 0 ≤ ((x3 + (1 : Int32))).toInt ∧ ((x3 + (1 : Int32))).toInt < 6 := by omega
      refine w_baload (pc := 55) X C d3_55 A_x0 (nt (x3 + (1 : Int32))) (nt_eq b_15.1) (nt_lt b_15.2 (by omega)) ?_
      refine w_bipush (pc := 56) X C d3_56 (13 : Int32) rfl ?_
      refine w_icmp_ne (pc := 58) X C d3_58 75 (by decide) (fun q16 => ?_) (fun q16 => ?_)
      · -- yes
        exact b3_75 X C (x0) (x1) (x2) (x3) g_x0 A_x0 hx he (by unfold f3_36 at hP; rw [if_pos q9, if_pos q12, if_neg q16] at hP; exact hP)
      · -- no
        refine w_aloadN (pc := 61) X C d3_61 rfl rfl ?_
        refine w_iloadN (pc := 62) X C d3_62 rfl ?_
        refine w_iconst (pc := 63) X C d3_63 (2 : Int32) rfl ?_
        refine w_iadd (pc := 64) X C d3_64 ?_
        have lq9_65 := Int32.lt_iff_toInt_lt.mp q9
        have e_17 := add1 (x := x3) (2 : Int32) 2 rfl (by omega) (by omega)
        have b_18 : 0 ≤ ((x3 + (2 : Int32))).toInt ∧ ((x3 + (2 : Int32))).toInt < 6 := by omega
        refine w_baload (pc := 65) X C d3_65 A_x0 (nt (x3 + (2 : Int32))) (nt_eq b_18.1) (nt_lt b_18.2 (by omega)) ?_
        refine w_bipush (pc := 66) X C d3_66 (10 : Int32) rfl ?_
        refine w_icmp_ne (pc := 68) X C d3_68 75 (by decide) (fun q19 => ?_) (fun q19 => ?_)
        · -- yes
          exact b3_75 X C (x0) (x1) (x2) (x3) g_x0 A_x0 hx he (by unfold f3_36 at hP; rw [if_pos q9, if_pos q12, if_pos q16, if_neg q19] at hP; exact hP)
        · -- no
          refine w_iloadN (pc := 71) X C d3_71 rfl ?_
          refine w_iconst (pc := 72) X C d3_72 (3 : Int32) rfl ?_
          refine w_iadd (pc := 73) X C d3_73 ?_
          exact w_retI (pc := 74) X C d3_74 (by unfold f3_36 at hP; rw [if_pos q9, if_pos q12, if_pos q16, if_pos q19] at hP; exact hP)
set_option maxRecDepth 65536 in
set_option maxHeartbeats 4000000 in
theorem b3_0 {p : Program} {l : Launch} {e : Env} {s : State} {m : MethodId} {args : Array Value} {below : List Frame} {meth : Method} {c : Code} {T : State} {h : Heap} {n0 : Nat} {P : Option Value → Heap → Prop} {Z : State} {a0 : Array Value} (X : Hr p l e ({ frames := 0, cells := 0, slots := 0, locals := 0 } : Room) s m args below meth c n0 h 0 0 T) (C : Cx p s m meth c method_4_code 4 (some .int) "com/example/hengbiao/hengbiao/server/RequestHeadEndPinLaw" "matchAt" Z a0 tables_1) (x0 : Addr) (x1 : Int32) (x2 : Int32) (x3 : Int32) (g_x0 : Nat → Int32) (A_x0 : ArI Z h x0 .byte 6 g_x0) (hx : 0 ≤ x3.toInt ∧ x3.toInt ≤ 5) (he : x2.toInt ≤ 6) (hP : P (some (.int (f3 x1 x2 x3 g_x0))) h) : Goes p e below s n0 P 0 0 T (mkF m 0 #[.val (.ref x0), .val (.int x1), .val (.int x2), .val (.int x3)] []) := by
  refine w_iloadN (pc := 0) X C d3_0 rfl ?_
  refine w_iloadN (pc := 1) X C d3_1 rfl ?_
  refine w_icmp_ge (pc := 2) X C d3_2 7 (by decide) (fun q1 => ?_) (fun q1 => ?_)
  · -- yes
    refine w_iloadN (pc := 7) X C d3_7 rfl ?_
    refine w_iconst (pc := 8) X C d3_8 (1 : Int32) rfl ?_
    refine w_iadd (pc := 9) X C d3_9 ?_
    refine w_iloadN (pc := 10) X C d3_10 rfl ?_
    refine w_icmp_ge (pc := 11) X C d3_11 36 (by decide) (fun q2 => ?_) (fun q2 => ?_)
    · -- yes
      exact b3_36 X C (x0) (x1) (x2) (x3) g_x0 A_x0 hx he (by unfold f3 at hP; rw [if_neg q1, if_neg q2] at hP; exact hP)
    · -- no
      refine w_aloadN (pc := 14) X C d3_14 rfl rfl ?_
      refine w_iloadN (pc := 15) X C d3_15 rfl ?_
      have lq2_16 := Int32.lt_iff_toInt_lt.mp q2
      have e_3 := add1 (x := x3) (1 : Int32) 1 rfl (by omega) (by omega)
      have b_4 : 0 ≤ (x3).toInt ∧ (x3).toInt < 6 := by omega
      refine w_baload (pc := 16) X C d3_16 A_x0 (nt x3) (nt_eq b_4.1) (nt_lt b_4.2 (by omega)) ?_
      refine w_bipush (pc := 17) X C d3_17 (10 : Int32) rfl ?_
      refine w_icmp_ne (pc := 19) X C d3_19 36 (by decide) (fun q5 => ?_) (fun q5 => ?_)
      · -- yes
        exact b3_36 X C (x0) (x1) (x2) (x3) g_x0 A_x0 hx he (by unfold f3 at hP; rw [if_neg q1, if_pos q2, if_neg q5] at hP; exact hP)
      · -- no
        refine w_aloadN (pc := 22) X C d3_22 rfl rfl ?_
        refine w_iloadN (pc := 23) X C d3_23 rfl ?_
        refine w_iconst (pc := 24) X C d3_24 (1 : Int32) rfl ?_
        refine w_iadd (pc := 25) X C d3_25 ?_
        have lq2_26 := Int32.lt_iff_toInt_lt.mp q2
        have e_6 := add1 (x := x3) (1 : Int32) 1 rfl (by omega) (by omega)
        have b_7 : 0 ≤ ((x3 + (1 : Int32))).toInt ∧ ((x3 + (1 : Int32))).toInt < 6 := by omega
        refine w_baload (pc := 26) X C d3_26 A_x0 (nt (x3 + (1 : Int32))) (nt_eq b_7.1) (nt_lt b_7.2 (by omega)) ?_
        refine w_bipush (pc := 27) X C d3_27 (10 : Int32) rfl ?_
        refine w_icmp_ne (pc := 29) X C d3_29 36 (by decide) (fun q8 => ?_) (fun q8 => ?_)
        · -- yes
          exact b3_36 X C (x0) (x1) (x2) (x3) g_x0 A_x0 hx he (by unfold f3 at hP; rw [if_neg q1, if_pos q2, if_pos q5, if_neg q8] at hP; exact hP)
        · -- no
          refine w_iloadN (pc := 32) X C d3_32 rfl ?_
          refine w_iconst (pc := 33) X C d3_33 (2 : Int32) rfl ?_
          refine w_iadd (pc := 34) X C d3_34 ?_
          exact w_retI (pc := 35) X C d3_35 (by unfold f3 at hP; rw [if_neg q1, if_pos q2, if_pos q5, if_pos q8] at hP; exact hP)
  · -- no
    refine w_iconst (pc := 5) X C d3_5 (-1 : Int32) rfl ?_
    exact w_retI (pc := 6) X C d3_6 (by unfold f3 at hP; rw [if_pos q1] at hP; exact hP)
theorem ct3 (l : Launch) {Z : State} {a0 : Array Value} (hw : ∀ d ∈ tables_1, d.before a0 Z = true) (h : Heap) {n0 : Nat} (hn : n0 ≤ h.size) (x0 : Addr) (x1 : Int32) (x2 : Int32) (x3 : Int32) (g_x0 : Nat → Int32) (A_x0 : ArI Z h x0 .byte 6 g_x0) (hx : 0 ≤ x3.toInt ∧ x3.toInt ≤ 5) (he : x2.toInt ≤ 6) : Ct l (⟨"com/example/hengbiao/hengbiao/server/RequestHeadEndPinLaw", "matchAt", "([BIII)I"⟩ : MethodName) method_4_code 4 (some .int) ({ frames := 0, cells := 0, slots := 0, locals := 0 } : Room) Z #[(.ref x0), (.int x1), (.int x2), (.int x3)] h n0 (fun v h' => v = some (.int (f3 x1 x2 x3 g_x0)) ∧ h' = h) :=
  Ct.of (plainFor_of_name pn_0) #[.val (.ref x0), .val (.int x1), .val (.int x2), .val (.int x3)] (fun m => by first | (simp [entryFrame, mkF, argsToLocals, Value.category]; done) | rfl) hw hn (fun p e s m below meth c T C X => b3_0 X C x0 x1 x2 x3 g_x0 A_x0 hx he ⟨rfl, rfl⟩)
def F2_2 (x1 : Int32) (x2 : Int32) (g_x0 : Nat → Int32) : Nat → Int32 → Int32
  | 0, x3 => (-1 : Int32)
  | k + 1, x3 => (if x3 < x2 then (if (g_x0 (nt x3)) = (10 : Int32) then (if (x3 + (1 : Int32)) < x2 then (if (g_x0 (nt (x3 + (1 : Int32)))) = (13 : Int32) then (if (x3 + (2 : Int32)) < x2 then (if (g_x0 (nt (x3 + (2 : Int32)))) = (10 : Int32) then ((x3 + (2 : Int32)) + (1 : Int32)) else (F2_2 x1 x2 g_x0 k (x3 + (1 : Int32)))) else (F2_2 x1 x2 g_x0 k (x3 + (1 : Int32)))) else (if (x3 + (1 : Int32)) < x2 then (if (g_x0 (nt (x3 + (1 : Int32)))) = (10 : Int32) then ((x3 + (1 : Int32)) + (1 : Int32)) else (F2_2 x1 x2 g_x0 k (x3 + (1 : Int32)))) else (F2_2 x1 x2 g_x0 k (x3 + (1 : Int32))))) else (if (x3 + (1 : Int32)) < x2 then (if (g_x0 (nt (x3 + (1 : Int32)))) = (10 : Int32) then ((x3 + (1 : Int32)) + (1 : Int32)) else (F2_2 x1 x2 g_x0 k (x3 + (1 : Int32)))) else (F2_2 x1 x2 g_x0 k (x3 + (1 : Int32))))) else (F2_2 x1 x2 g_x0 k (x3 + (1 : Int32)))) else (-1 : Int32))
theorem F2_2_z (x1 : Int32) (x2 : Int32) (g_x0 : Nat → Int32) (x3 : Int32) : F2_2 x1 x2 g_x0 0 x3 = (-1 : Int32) := rfl
theorem F2_2_s (x1 : Int32) (x2 : Int32) (g_x0 : Nat → Int32) (k : Nat) (x3 : Int32) : F2_2 x1 x2 g_x0 (k + 1) x3 = (if x3 < x2 then (if (g_x0 (nt x3)) = (10 : Int32) then (if (x3 + (1 : Int32)) < x2 then (if (g_x0 (nt (x3 + (1 : Int32)))) = (13 : Int32) then (if (x3 + (2 : Int32)) < x2 then (if (g_x0 (nt (x3 + (2 : Int32)))) = (10 : Int32) then ((x3 + (2 : Int32)) + (1 : Int32)) else (F2_2 x1 x2 g_x0 k (x3 + (1 : Int32)))) else (F2_2 x1 x2 g_x0 k (x3 + (1 : Int32)))) else (if (x3 + (1 : Int32)) < x2 then (if (g_x0 (nt (x3 + (1 : Int32)))) = (10 : Int32) then ((x3 + (1 : Int32)) + (1 : Int32)) else (F2_2 x1 x2 g_x0 k (x3 + (1 : Int32)))) else (F2_2 x1 x2 g_x0 k (x3 + (1 : Int32))))) else (if (x3 + (1 : Int32)) < x2 then (if (g_x0 (nt (x3 + (1 : Int32)))) = (10 : Int32) then ((x3 + (1 : Int32)) + (1 : Int32)) else (F2_2 x1 x2 g_x0 k (x3 + (1 : Int32)))) else (F2_2 x1 x2 g_x0 k (x3 + (1 : Int32))))) else (F2_2 x1 x2 g_x0 k (x3 + (1 : Int32)))) else (-1 : Int32)) := rfl
def f2 (x1 : Int32) (x2 : Int32) (g_x0 : Nat → Int32) : Int32 := (F2_2 x1 x2 g_x0 6 x1)
theorem d2_0 : decode prog_79_method_2_code 0 = .ok (.iload_n 1, 1) := by decide +kernel
theorem d2_1 : decode prog_79_method_2_code 1 = .ok (.istore_n 3, 1) := by decide +kernel
theorem d2_2 : decode prog_79_method_2_code 2 = .ok (.iload_n 3, 1) := by decide +kernel
theorem d2_3 : decode prog_79_method_2_code 3 = .ok (.iload_n 2, 1) := by decide +kernel
theorem d2_4 : decode prog_79_method_2_code 4 = .ok (.if_icmp .ge 65, 3) := by decide +kernel
theorem d2_7 : decode prog_79_method_2_code 7 = .ok (.aload_n 0, 1) := by decide +kernel
theorem d2_8 : decode prog_79_method_2_code 8 = .ok (.iload_n 3, 1) := by decide +kernel
theorem d2_9 : decode prog_79_method_2_code 9 = .ok (.baload, 1) := by decide +kernel
theorem d2_10 : decode prog_79_method_2_code 10 = .ok (.bipush 10, 2) := by decide +kernel
theorem d2_12 : decode prog_79_method_2_code 12 = .ok (.if_icmp .ne 51, 3) := by decide +kernel
theorem d2_15 : decode prog_79_method_2_code 15 = .ok (.iload_n 3, 1) := by decide +kernel
theorem d2_16 : decode prog_79_method_2_code 16 = .ok (.iconst 1, 1) := by decide +kernel
theorem d2_17 : decode prog_79_method_2_code 17 = .ok (.iadd, 1) := by decide +kernel
theorem d2_18 : decode prog_79_method_2_code 18 = .ok (.iload_n 2, 1) := by decide +kernel
theorem d2_19 : decode prog_79_method_2_code 19 = .ok (.if_icmp .ge 19, 3) := by decide +kernel
theorem d2_22 : decode prog_79_method_2_code 22 = .ok (.aload_n 0, 1) := by decide +kernel
theorem d2_23 : decode prog_79_method_2_code 23 = .ok (.iload_n 3, 1) := by decide +kernel
theorem d2_24 : decode prog_79_method_2_code 24 = .ok (.iconst 1, 1) := by decide +kernel
theorem d2_25 : decode prog_79_method_2_code 25 = .ok (.iadd, 1) := by decide +kernel
theorem d2_26 : decode prog_79_method_2_code 26 = .ok (.baload, 1) := by decide +kernel
theorem d2_27 : decode prog_79_method_2_code 27 = .ok (.bipush 13, 2) := by decide +kernel
theorem d2_29 : decode prog_79_method_2_code 29 = .ok (.if_icmp .ne 9, 3) := by decide +kernel
theorem d2_32 : decode prog_79_method_2_code 32 = .ok (.iload_n 3, 1) := by decide +kernel
theorem d2_33 : decode prog_79_method_2_code 33 = .ok (.iconst 2, 1) := by decide +kernel
theorem d2_34 : decode prog_79_method_2_code 34 = .ok (.iadd, 1) := by decide +kernel
theorem d2_35 : decode prog_79_method_2_code 35 = .ok (.goto 6, 3) := by decide +kernel
theorem d2_38 : decode prog_79_method_2_code 38 = .ok (.iload_n 3, 1) := by decide +kernel
theorem d2_39 : decode prog_79_method_2_code 39 = .ok (.iconst 1, 1) := by decide +kernel
theorem d2_40 : decode prog_79_method_2_code 40 = .ok (.iadd, 1) := by decide +kernel
theorem d2_41 : decode prog_79_method_2_code 41 = .ok (.istore 4, 2) := by decide +kernel
theorem d2_43 : decode prog_79_method_2_code 43 = .ok (.iload 4, 2) := by decide +kernel
theorem d2_45 : decode prog_79_method_2_code 45 = .ok (.iload_n 2, 1) := by decide +kernel
theorem d2_46 : decode prog_79_method_2_code 46 = .ok (.if_icmp .ge 17, 3) := by decide +kernel
theorem d2_49 : decode prog_79_method_2_code 49 = .ok (.aload_n 0, 1) := by decide +kernel
theorem d2_50 : decode prog_79_method_2_code 50 = .ok (.iload 4, 2) := by decide +kernel
theorem d2_52 : decode prog_79_method_2_code 52 = .ok (.baload, 1) := by decide +kernel
theorem d2_53 : decode prog_79_method_2_code 53 = .ok (.bipush 10, 2) := by decide +kernel
theorem d2_55 : decode prog_79_method_2_code 55 = .ok (.if_icmp .ne 8, 3) := by decide +kernel
theorem d2_58 : decode prog_79_method_2_code 58 = .ok (.iload 4, 2) := by decide +kernel
theorem d2_60 : decode prog_79_method_2_code 60 = .ok (.iconst 1, 1) := by decide +kernel
theorem d2_61 : decode prog_79_method_2_code 61 = .ok (.iadd, 1) := by decide +kernel
theorem d2_62 : decode prog_79_method_2_code 62 = .ok (.ireturn, 1) := by decide +kernel
theorem d2_63 : decode prog_79_method_2_code 63 = .ok (.iinc 3 1, 3) := by decide +kernel
theorem d2_66 : decode prog_79_method_2_code 66 = .ok (.goto (-64), 3) := by decide +kernel
theorem d2_69 : decode prog_79_method_2_code 69 = .ok (.iconst (-1), 1) := by decide +kernel
theorem d2_70 : decode prog_79_method_2_code 70 = .ok (.ireturn, 1) := by decide +kernel
theorem os2_41 {z0 : Value} {z1 : Value} {z2 : Value} {z3 : Value} {x4 : Slot} {v : Int32} (h : One x4) : storeLocals #[.val z0, .val z1, .val z2, .val z3, x4] 4 (.int v) = some #[.val z0, .val z1, .val z2, .val z3, .val (.int v)] := by
  rcases h with rfl | ⟨w, rfl, hw⟩
  · rfl
  · cases w <;> first | rfl | (simp [Value.category] at hw)
set_option maxRecDepth 65536 in
set_option maxHeartbeats 40000000 in
theorem lp2_2 {p : Program} {l : Launch} {e : Env} {s : State} {m : MethodId} {args : Array Value} {below : List Frame} {meth : Method} {c : Code} {h : Heap} {n0 : Nat} {P : Option Value → Heap → Prop} {Z : State} {a0 : Array Value} (C : Cx p s m meth c prog_79_method_2_code 5 (some .int) "com/example/hengbiao/hengbiao/server/RequestHead" "end" Z a0 tables_1) (x0 : Addr) (x1 : Int32) (x2 : Int32) (g_x0 : Nat → Int32) (A_x0 : ArI Z h x0 .byte 6 g_x0) (ha : 0 ≤ x1.toInt) (hb : x2.toInt ≤ 6) : ∀ (k : Nat) (x3 : Int32) (x4 : Slot), 0 ≤ x3.toInt → One x4 → x2.toInt - x3.toInt ≤ k → ∀ T, Hr p l e ({ frames := 0, cells := 0, slots := 0, locals := 0 } : Room) s m args below meth c n0 h 0 0 T → P (some (.int (F2_2 x1 x2 g_x0 k x3))) h → Goes p e below s n0 P 0 0 T (mkF m 2 #[.val (.ref x0), .val (.int x1), .val (.int x2), .val (.int x3), x4] []) := by
  intro k
  induction k with
  | zero =>
    intro x3 x4 h0 o_x4 hk T X hP
    refine w_iloadN (pc := 2) X C d2_2 rfl ?_
    refine w_iloadN (pc := 3) X C d2_3 rfl ?_
    refine w_icmp_ge (pc := 4) X C d2_4 69 (by decide) (fun q1 => ?_) (fun q1 => absurd q1 (fun z => absurd (Int32.lt_iff_toInt_lt.mp z) (by omega)))
    refine w_iconst (pc := 69) X C d2_69 (-1 : Int32) rfl ?_
    exact w_retI (pc := 70) X C d2_70 (by rw [F2_2_z] at hP; exact hP)
  | succ k ih =>
    intro x3 x4 h0 o_x4 hk T X hP
    refine w_iloadN (pc := 2) X C d2_2 rfl ?_
    refine w_iloadN (pc := 3) X C d2_3 rfl ?_
    refine w_icmp_ge (pc := 4) X C d2_4 69 (by decide) (fun q2 => ?_) (fun q2 => ?_)
    · -- yes
      refine w_iconst (pc := 69) X C d2_69 (-1 : Int32) rfl ?_
      exact w_retI (pc := 70) X C d2_70 (by rw [F2_2_s, if_neg q2] at hP; exact hP)
    · -- no
      refine w_aloadN (pc := 7) X C d2_7 rfl rfl ?_
      refine w_iloadN (pc := 8) X C d2_8 rfl ?_
      have lq2_9 := Int32.lt_iff_toInt_lt.mp q2
      have b_3 : 0 ≤ (x3).toInt ∧ (x3).toInt < 6 := by omega
      refine w_baload (pc := 9) X C d2_9 A_x0 (nt x3) (nt_eq b_3.1) (nt_lt b_3.2 (by omega)) ?_
      refine w_bipush (pc := 10) X C d2_10 (10 : Int32) rfl ?_
      refine w_icmp_ne (pc := 12) X C d2_12 63 (by decide) (fun q4 => ?_) (fun q4 => ?_)
      · -- yes
        refine w_iinc (pc := 63) X C d2_63 (1 : Int32) rfl rfl #[.val (.ref x0), .val (.int x1), .val (.int x2), .val (.int (x3 + (1 : Int32))), x4] rfl ?_
        refine w_goto (pc := 66) X C d2_66 2 (by decide) ?_
        have lq_n := Int32.lt_iff_toInt_lt.mp q2
        have e1 : (x3 + (1 : Int32)).toInt = x3.toInt + 1 := add1 _ 1 rfl (by omega) (by omega)
        exact ih ((x3 + (1 : Int32))) ((x4)) (by omega) o_x4 (by omega) _ X (by rw [F2_2_s, if_pos q2, if_neg q4] at hP; exact hP)
      · -- no
        refine w_iloadN (pc := 15) X C d2_15 rfl ?_
        refine w_iconst (pc := 16) X C d2_16 (1 : Int32) rfl ?_
        refine w_iadd (pc := 17) X C d2_17 ?_
        refine w_iloadN (pc := 18) X C d2_18 rfl ?_
        refine w_icmp_ge (pc := 19) X C d2_19 38 (by decide) (fun q5 => ?_) (fun q5 => ?_)
        · -- yes
          refine w_iloadN (pc := 38) X C d2_38 rfl ?_
          refine w_iconst (pc := 39) X C d2_39 (1 : Int32) rfl ?_
          refine w_iadd (pc := 40) X C d2_40 ?_
          refine w_istore (pc := 41) X C d2_41 #[.val (.ref x0), .val (.int x1), .val (.int x2), .val (.int x3), .val (.int (x3 + (1 : Int32)))] (os2_41 o_x4) ?_
          refine w_iload (pc := 43) X C d2_43 rfl ?_
          refine w_iloadN (pc := 45) X C d2_45 rfl ?_
          refine w_icmp_ge (pc := 46) X C d2_46 63 (by decide) (fun q6 => ?_) (fun q6 => ?_)
          · -- yes
            refine w_iinc (pc := 63) X C d2_63 (1 : Int32) rfl rfl #[.val (.ref x0), .val (.int x1), .val (.int x2), .val (.int (x3 + (1 : Int32))), .val (.int (x3 + (1 : Int32)))] rfl ?_
            refine w_goto (pc := 66) X C d2_66 2 (by decide) ?_
            have lq_n := Int32.lt_iff_toInt_lt.mp q2
            have e1 : (x3 + (1 : Int32)).toInt = x3.toInt + 1 := add1 _ 1 rfl (by omega) (by omega)
            exact ih ((x3 + (1 : Int32))) ((.val (.int (x3 + (1 : Int32))))) (by omega) (One.val rfl) (by omega) _ X (by rw [F2_2_s, if_pos q2, if_pos q4, if_neg q5, if_neg q6] at hP; exact hP)
          · -- no
            refine w_aloadN (pc := 49) X C d2_49 rfl rfl ?_
            refine w_iload (pc := 50) X C d2_50 rfl ?_
            have lq2_52 := Int32.lt_iff_toInt_lt.mp q2
            have lq6_52 := Int32.lt_iff_toInt_lt.mp q6
            have e_7 := add1 (x := x3) (1 : Int32) 1 rfl (by omega) (by omega)
            have b_8 : 0 ≤ ((x3 + (1 : Int32))).toInt ∧ ((x3 + (1 : Int32))).toInt < 6 := by omega
            refine w_baload (pc := 52) X C d2_52 A_x0 (nt (x3 + (1 : Int32))) (nt_eq b_8.1) (nt_lt b_8.2 (by omega)) ?_
            refine w_bipush (pc := 53) X C d2_53 (10 : Int32) rfl ?_
            refine w_icmp_ne (pc := 55) X C d2_55 63 (by decide) (fun q9 => ?_) (fun q9 => ?_)
            · -- yes
              refine w_iinc (pc := 63) X C d2_63 (1 : Int32) rfl rfl #[.val (.ref x0), .val (.int x1), .val (.int x2), .val (.int (x3 + (1 : Int32))), .val (.int (x3 + (1 : Int32)))] rfl ?_
              refine w_goto (pc := 66) X C d2_66 2 (by decide) ?_
              have lq_n := Int32.lt_iff_toInt_lt.mp q2
              have e1 : (x3 + (1 : Int32)).toInt = x3.toInt + 1 := add1 _ 1 rfl (by omega) (by omega)
              exact ih ((x3 + (1 : Int32))) ((.val (.int (x3 + (1 : Int32))))) (by omega) (One.val rfl) (by omega) _ X (by rw [F2_2_s, if_pos q2, if_pos q4, if_neg q5, if_pos q6, if_neg q9] at hP; exact hP)
            · -- no
              refine w_iload (pc := 58) X C d2_58 rfl ?_
              refine w_iconst (pc := 60) X C d2_60 (1 : Int32) rfl ?_
              refine w_iadd (pc := 61) X C d2_61 ?_
              exact w_retI (pc := 62) X C d2_62 (by rw [F2_2_s, if_pos q2, if_pos q4, if_neg q5, if_pos q6, if_pos q9] at hP; exact hP)
        · -- no
          refine w_aloadN (pc := 22) X C d2_22 rfl rfl ?_
          refine w_iloadN (pc := 23) X C d2_23 rfl ?_
          refine w_iconst (pc := 24) X C d2_24 (1 : Int32) rfl ?_
          refine w_iadd (pc := 25) X C d2_25 ?_
          have lq2_26 := Int32.lt_iff_toInt_lt.mp q2
          have lq5_26 := Int32.lt_iff_toInt_lt.mp q5
          have e_10 := add1 (x := x3) (1 : Int32) 1 rfl (by omega) (by omega)
          have b_11 : 0 ≤ ((x3 + (1 : Int32))).toInt ∧ ((x3 + (1 : Int32))).toInt < 6 := by omega
          refine w_baload (pc := 26) X C d2_26 A_x0 (nt (x3 + (1 : Int32))) (nt_eq b_11.1) (nt_lt b_11.2 (by omega)) ?_
          refine w_bipush (pc := 27) X C d2_27 (13 : Int32) rfl ?_
          refine w_icmp_ne (pc := 29) X C d2_29 38 (by decide) (fun q12 => ?_) (fun q12 => ?_)
          · -- yes
            refine w_iloadN (pc := 38) X C d2_38 rfl ?_
            refine w_iconst (pc := 39) X C d2_39 (1 : Int32) rfl ?_
            refine w_iadd (pc := 40) X C d2_40 ?_
            refine w_istore (pc := 41) X C d2_41 #[.val (.ref x0), .val (.int x1), .val (.int x2), .val (.int x3), .val (.int (x3 + (1 : Int32)))] (os2_41 o_x4) ?_
            refine w_iload (pc := 43) X C d2_43 rfl ?_
            refine w_iloadN (pc := 45) X C d2_45 rfl ?_
            refine w_icmp_ge (pc := 46) X C d2_46 63 (by decide) (fun q13 => ?_) (fun q13 => ?_)
            · -- yes
              refine w_iinc (pc := 63) X C d2_63 (1 : Int32) rfl rfl #[.val (.ref x0), .val (.int x1), .val (.int x2), .val (.int (x3 + (1 : Int32))), .val (.int (x3 + (1 : Int32)))] rfl ?_
              refine w_goto (pc := 66) X C d2_66 2 (by decide) ?_
              have lq_n := Int32.lt_iff_toInt_lt.mp q2
              have e1 : (x3 + (1 : Int32)).toInt = x3.toInt + 1 := add1 _ 1 rfl (by omega) (by omega)
              exact ih ((x3 + (1 : Int32))) ((.val (.int (x3 + (1 : Int32))))) (by omega) (One.val rfl) (by omega) _ X (by rw [F2_2_s, if_pos q2, if_pos q4, if_pos q5, if_neg q12, if_neg q13] at hP; exact hP)
            · -- no
              refine w_aloadN (pc := 49) X C d2_49 rfl rfl ?_
              refine w_iload (pc := 50) X C d2_50 rfl ?_
              have lq2_52 := Int32.lt_iff_toInt_lt.mp q2
              have lq5_52 := Int32.lt_iff_toInt_lt.mp q5
              have lq13_52 := Int32.lt_iff_toInt_lt.mp q13
              have e_14 := add1 (x := x3) (1 : Int32) 1 rfl (by omega) (by omega)
              have b_15 : 0 ≤ ((x3 + (1 : Int32))).toInt ∧ ((x3 + (1 : Int32))).toInt < 6 := by omega
              refine w_baload (pc := 52) X C d2_52 A_x0 (nt (x3 + (1 : Int32))) (nt_eq b_15.1) (nt_lt b_15.2 (by omega)) ?_
              refine w_bipush (pc := 53) X C d2_53 (10 : Int32) rfl ?_
              refine w_icmp_ne (pc := 55) X C d2_55 63 (by decide) (fun q16 => ?_) (fun q16 => ?_)
              · -- yes
                refine w_iinc (pc := 63) X C d2_63 (1 : Int32) rfl rfl #[.val (.ref x0), .val (.int x1), .val (.int x2), .val (.int (x3 + (1 : Int32))), .val (.int (x3 + (1 : Int32)))] rfl ?_
                refine w_goto (pc := 66) X C d2_66 2 (by decide) ?_
                have lq_n := Int32.lt_iff_toInt_lt.mp q2
                have e1 : (x3 + (1 : Int32)).toInt = x3.toInt + 1 := add1 _ 1 rfl (by omega) (by omega)
                exact ih ((x3 + (1 : Int32))) ((.val (.int (x3 + (1 : Int32))))) (by omega) (One.val rfl) (by omega) _ X (by rw [F2_2_s, if_pos q2, if_pos q4, if_pos q5, if_neg q12, if_pos q13, if_neg q16] at hP; exact hP)
              · -- no
                refine w_iload (pc := 58) X C d2_58 rfl ?_
                refine w_iconst (pc := 60) X C d2_60 (1 : Int32) rfl ?_
                refine w_iadd (pc := 61) X C d2_61 ?_
                exact w_retI (pc := 62) X C d2_62 (by rw [F2_2_s, if_pos q2, if_pos q4, if_pos q5, if_neg q12, if_pos q13, if_pos q16] at hP; exact hP)
          · -- no
            refine w_iloadN (pc := 32) X C d2_32 rfl ?_
            refine w_iconst (pc := 33) X C d2_33 (2 : Int32) rfl ?_
            refine w_iadd (pc := 34) X C d2_34 ?_
            refine w_goto (pc := 35) X C d2_35 41 (by decide) ?_
            refine w_istore (pc := 41) X C d2_41 #[.val (.ref x0), .val (.int x1), .val (.int x2), .val (.int x3), .val (.int (x3 + (2 : Int32)))] (os2_41 o_x4) ?_
            refine w_iload (pc := 43) X C d2_43 rfl ?_
            refine w_iloadN (pc := 45) X C d2_45 rfl ?_
            refine w_icmp_ge (pc := 46) X C d2_46 63 (by decide) (fun q17 => ?_) (fun q17 => ?_)
            · -- yes
              refine w_iinc (pc := 63) X C d2_63 (1 : Int32) rfl rfl #[.val (.ref x0), .val (.int x1), .val (.int x2), .val (.int (x3 + (1 : Int32))), .val (.int (x3 + (2 : Int32)))] rfl ?_
              refine w_goto (pc := 66) X C d2_66 2 (by decide) ?_
              have lq_n := Int32.lt_iff_toInt_lt.mp q2
              have e1 : (x3 + (1 : Int32)).toInt = x3.toInt + 1 := add1 _ 1 rfl (by omega) (by omega)
              exact ih ((x3 + (1 : Int32))) ((.val (.int (x3 + (2 : Int32))))) (by omega) (One.val rfl) (by omega) _ X (by rw [F2_2_s, if_pos q2, if_pos q4, if_pos q5, if_pos q12, if_neg q17] at hP; exact hP)
            · -- no
              refine w_aloadN (pc := 49) X C d2_49 rfl rfl ?_
              refine w_iload (pc := 50) X C d2_50 rfl ?_
              have lq2_52 := Int32.lt_iff_toInt_lt.mp q2
              have lq5_52 := Int32.lt_iff_toInt_lt.mp q5
              have lq17_52 := Int32.lt_iff_toInt_lt.mp q17
              have e_18 := add1 (x := x3) (1 : Int32) 1 rfl (by omega) (by omega)
              have e_19 := add1 (x := x3) (2 : Int32) 2 rfl (by omega) (by omega)
              have b_20 : 0 ≤ ((x3 + (2 : Int32))).toInt ∧ ((x3 + (2 : Int32))).toInt < 6 := by omega
              refine w_baload (pc := 52) X C d2_52 A_x0 (nt (x3 + (2 : Int32))) (nt_eq b_20.1) (nt_lt b_20.2 (by omega)) ?_
              refine w_bipush (pc := 53) X C d2_53 (10 : Int32) rfl ?_
              refine w_icmp_ne (pc := 55) X C d2_55 63 (by decide) (fun q21 => ?_) (fun q21 => ?_)
              · -- yes
                refine w_iinc (pc := 63) X C d2_63 (1 : Int32) rfl rfl #[.val (.ref x0), .val (.int x1), .val (.int x2), .val (.int (x3 + (1 : Int32))), .val (.int (x3 + (2 : Int32)))] rfl ?_
                refine w_goto (pc := 66) X C d2_66 2 (by decide) ?_
                have lq_n := Int32.lt_iff_toInt_lt.mp q2
                have e1 : (x3 + (1 : Int32)).toInt = x3.toInt + 1 := add1 _ 1 rfl (by omega) (by omega)
                exact ih ((x3 + (1 : Int32))) ((.val (.int (x3 + (2 : Int32))))) (by omega) (One.val rfl) (by omega) _ X (by rw [F2_2_s, if_pos q2, if_pos q4, if_pos q5, if_pos q12, if_pos q17, if_neg q21] at hP; exact hP)
              · -- no
                refine w_iload (pc := 58) X C d2_58 rfl ?_
                refine w_iconst (pc := 60) X C d2_60 (1 : Int32) rfl ?_
                refine w_iadd (pc := 61) X C d2_61 ?_
                exact w_retI (pc := 62) X C d2_62 (by rw [F2_2_s, if_pos q2, if_pos q4, if_pos q5, if_pos q12, if_pos q17, if_pos q21] at hP; exact hP)
set_option maxRecDepth 65536 in
set_option maxHeartbeats 4000000 in
theorem b2_0 {p : Program} {l : Launch} {e : Env} {s : State} {m : MethodId} {args : Array Value} {below : List Frame} {meth : Method} {c : Code} {T : State} {h : Heap} {n0 : Nat} {P : Option Value → Heap → Prop} {Z : State} {a0 : Array Value} (X : Hr p l e ({ frames := 0, cells := 0, slots := 0, locals := 0 } : Room) s m args below meth c n0 h 0 0 T) (C : Cx p s m meth c prog_79_method_2_code 5 (some .int) "com/example/hengbiao/hengbiao/server/RequestHead" "end" Z a0 tables_1) (x0 : Addr) (x1 : Int32) (x2 : Int32) (g_x0 : Nat → Int32) (A_x0 : ArI Z h x0 .byte 6 g_x0) (ha : 0 ≤ x1.toInt) (hb : x2.toInt ≤ 6) (hP : P (some (.int (f2 x1 x2 g_x0))) h) : Goes p e below s n0 P 0 0 T (mkF m 0 #[.val (.ref x0), .val (.int x1), .val (.int x2), .unset, .unset] []) := by
  refine w_iloadN (pc := 0) X C d2_0 rfl ?_
  refine w_istoreN (pc := 1) X C d2_1 #[.val (.ref x0), .val (.int x1), .val (.int x2), .val (.int x1), .unset] rfl ?_
  exact lp2_2 C (x0) (x1) (x2) g_x0 A_x0 ha hb 6 (x1) ((.unset)) ha One.u (by omega) _ X (by unfold f2 at hP; exact hP)
theorem ct2 (l : Launch) {Z : State} {a0 : Array Value} (hw : ∀ d ∈ tables_1, d.before a0 Z = true) (h : Heap) {n0 : Nat} (hn : n0 ≤ h.size) (x0 : Addr) (x1 : Int32) (x2 : Int32) (g_x0 : Nat → Int32) (A_x0 : ArI Z h x0 .byte 6 g_x0) (ha : 0 ≤ x1.toInt) (hb : x2.toInt ≤ 6) : Ct l (⟨"com/example/hengbiao/hengbiao/server/RequestHead", "end", "([BII)I"⟩ : MethodName) prog_79_method_2_code 5 (some .int) ({ frames := 0, cells := 0, slots := 0, locals := 0 } : Room) Z #[(.ref x0), (.int x1), (.int x2)] h n0 (fun v h' => v = some (.int (f2 x1 x2 g_x0)) ∧ h' = h) :=
  Ct.of (plainFor_of_name pn_1) #[.val (.ref x0), .val (.int x1), .val (.int x2), .unset, .unset] (fun m => by first | (simp [entryFrame, mkF, argsToLocals, Value.category]; done) | rfl) hw hn (fun p e s m below meth c T C X => b2_0 X C x0 x1 x2 g_x0 A_x0 ha hb ⟨rfl, rfl⟩)
theorem own_m7 (x : Int32) : 0 ≤ ((x &&& (2147483647 : Int32)) % (7 : Int32)).toInt ∧ ((x &&& (2147483647 : Int32)) % (7 : Int32)).toInt ≤ 6 := by
  have h0 := c_and x (2147483647 : Int32) (by decide)
  have h1 := (c_irem (x &&& (2147483647 : Int32)) (7 : Int32) 7 rfl).1 h0.1
  omega
theorem own_sev (x : Int32) (h0 : 0 ≤ x.toInt) (h4 : x.toInt ≤ 6) : x = 0 ∨ x = 1 ∨ x = 2 ∨ x = 3 ∨ x = 4 ∨ x = 5 ∨ x = 6 := by
  have e0 : (0 : Int32).toInt = 0 := rfl
  have e1 : (1 : Int32).toInt = 1 := rfl
  have e2 : (2 : Int32).toInt = 2 := rfl
  have e3 : (3 : Int32).toInt = 3 := rfl
  have e4 : (4 : Int32).toInt = 4 := rfl
  have e5 : (5 : Int32).toInt = 5 := rfl
  have e6 : (6 : Int32).toInt = 6 := rfl
  simp only [← Int32.toInt_inj, e0, e1, e2, e3, e4, e5, e6]
  omega
theorem own_n0 : nt (0 : Int32) = 0 := rfl
theorem own_n1 : nt (1 : Int32) = 1 := rfl
theorem own_n2 : nt (2 : Int32) = 2 := rfl
theorem own_n3 : nt (3 : Int32) = 3 := rfl
theorem own_n4 : nt (4 : Int32) = 4 := rfl
theorem own_n5 : nt (5 : Int32) = 5 := rfl
theorem own_n6 : nt (6 : Int32) = 6 := rfl
theorem own_done (fr to : Int32) (g : Nat → Int32) (k : Nat) (i : Int32) (h : ¬ (i < to)) : F2_2 fr to g k i = -1 := by
  cases k with
  | zero => rfl
  | succ k => rw [F2_2_s, if_neg h]
theorem own_lo (fr to : Int32) (g : Nat → Int32) (i : Int32) (h : i < fr) : f3 fr to i g = -1 := by
  unfold f3; rw [if_pos h]
theorem own_st (fr to : Int32) (g : Nat → Int32) (k : Nat) (i : Int32) (h0 : 0 ≤ i.toInt) (h5 : i.toInt ≤ 5) (hf : ¬ (i < fr)) : F2_2 fr to g (k + 1) i = if f3 fr to i g < 0 then F2_2 fr to g k (i + 1) else f3 fr to i g := by
  have e2 : (i + (1 : Int32)) + (1 : Int32) = i + (2 : Int32) := by rw [Int32.add_assoc]; rfl
  have e3 : (i + (2 : Int32)) + (1 : Int32) = i + (3 : Int32) := by rw [Int32.add_assoc]; rfl
  have z0 : (0 : Int32).toInt = 0 := rfl
  have t1 := add1 (x := i) (1 : Int32) 1 rfl (by omega) (by omega)
  have t2 := add1 (x := i) (2 : Int32) 2 rfl (by omega) (by omega)
  have t3 := add1 (x := i) (3 : Int32) 3 rfl (by omega) (by omega)
  have n2 : ¬ (i + (2 : Int32) < 0) := by rw [Int32.lt_iff_toInt_lt]; omega
  have n3 : ¬ (i + (3 : Int32) < 0) := by rw [Int32.lt_iff_toInt_lt]; omega
  have nm : (-1 : Int32) < 0 := by decide
  have a21 : i + (2 : Int32) < to → i + (1 : Int32) < to := by rw [Int32.lt_iff_toInt_lt, Int32.lt_iff_toInt_lt]; omega
  have a10 : i + (1 : Int32) < to → i < to := by rw [Int32.lt_iff_toInt_lt, Int32.lt_iff_toInt_lt]; omega
  unfold f3 f3_36 f3_75
  rw [if_neg hf]
  by_cases hi : i < to
  · rw [F2_2_s, if_pos hi]
    by_cases a1 : i + (1 : Int32) < to
    · by_cases a2 : i + (2 : Int32) < to <;> by_cases b0 : g (nt i) = (10 : Int32) <;> by_cases b1 : g (nt (i + (1 : Int32))) = (13 : Int32) <;> by_cases c1 : g (nt (i + (1 : Int32))) = (10 : Int32) <;> by_cases b2 : g (nt (i + (2 : Int32))) = (10 : Int32) <;> first | exact absurd (b1.symm.trans c1) (by decide) | simp +decide only [a1, a2, b0, b1, c1, b2, n2, n3, nm, e2, e3, if_true, if_false]
    · have a2 : ¬ (i + (2 : Int32) < to) := fun z => a1 (a21 z)
      by_cases b0 : g (nt i) = (10 : Int32) <;> simp +decide only [a1, a2, b0, nm, if_true, if_false]
  · have a1 : ¬ (i + (1 : Int32) < to) := fun z => hi (a10 z)
    have a2 : ¬ (i + (2 : Int32) < to) := fun z => a1 (a21 z)
    rw [own_done _ _ _ _ _ hi, if_neg a1, if_neg a2, if_pos nm, own_done _ _ _ _ _ a1]
theorem own_v0 (to : Int32) (g : Nat → Int32) (t6 : to.toInt ≤ 6) : f2 (0 : Int32) to g = (if (f3 (0 : Int32) to (0 : Int32) g) < 0 then (if (f3 (0 : Int32) to (1 : Int32) g) < 0 then (if (f3 (0 : Int32) to (2 : Int32) g) < 0 then (if (f3 (0 : Int32) to (3 : Int32) g) < 0 then (if (f3 (0 : Int32) to (4 : Int32) g) < 0 then (if (f3 (0 : Int32) to (5 : Int32) g) < 0 then (-1 : Int32) else (f3 (0 : Int32) to (5 : Int32) g)) else (f3 (0 : Int32) to (4 : Int32) g)) else (f3 (0 : Int32) to (3 : Int32) g)) else (f3 (0 : Int32) to (2 : Int32) g)) else (f3 (0 : Int32) to (1 : Int32) g)) else (f3 (0 : Int32) to (0 : Int32) g)) := by
  have z6 : (6 : Int32).toInt = 6 := rfl
  unfold f2
  rw [own_st (0 : Int32) to g _ (0 : Int32) (by decide) (by decide) (by decide), show (0 : Int32) + 1 = 1 from rfl]
  rw [own_st (0 : Int32) to g _ (1 : Int32) (by decide) (by decide) (by decide), show (1 : Int32) + 1 = 2 from rfl]
  rw [own_st (0 : Int32) to g _ (2 : Int32) (by decide) (by decide) (by decide), show (2 : Int32) + 1 = 3 from rfl]
  rw [own_st (0 : Int32) to g _ (3 : Int32) (by decide) (by decide) (by decide), show (3 : Int32) + 1 = 4 from rfl]
  rw [own_st (0 : Int32) to g _ (4 : Int32) (by decide) (by decide) (by decide), show (4 : Int32) + 1 = 5 from rfl]
  rw [own_st (0 : Int32) to g _ (5 : Int32) (by decide) (by decide) (by decide), show (5 : Int32) + 1 = 6 from rfl]
  rw [own_done _ _ _ _ (6 : Int32) (by rw [Int32.lt_iff_toInt_lt]; omega)]
theorem own_v1 (to : Int32) (g : Nat → Int32) (t6 : to.toInt ≤ 6) : f2 (1 : Int32) to g = (if (f3 (1 : Int32) to (0 : Int32) g) < 0 then (if (f3 (1 : Int32) to (1 : Int32) g) < 0 then (if (f3 (1 : Int32) to (2 : Int32) g) < 0 then (if (f3 (1 : Int32) to (3 : Int32) g) < 0 then (if (f3 (1 : Int32) to (4 : Int32) g) < 0 then (if (f3 (1 : Int32) to (5 : Int32) g) < 0 then (-1 : Int32) else (f3 (1 : Int32) to (5 : Int32) g)) else (f3 (1 : Int32) to (4 : Int32) g)) else (f3 (1 : Int32) to (3 : Int32) g)) else (f3 (1 : Int32) to (2 : Int32) g)) else (f3 (1 : Int32) to (1 : Int32) g)) else (f3 (1 : Int32) to (0 : Int32) g)) := by
  have z6 : (6 : Int32).toInt = 6 := rfl
  unfold f2
  rw [own_st (1 : Int32) to g _ (1 : Int32) (by decide) (by decide) (by decide), show (1 : Int32) + 1 = 2 from rfl]
  rw [own_st (1 : Int32) to g _ (2 : Int32) (by decide) (by decide) (by decide), show (2 : Int32) + 1 = 3 from rfl]
  rw [own_st (1 : Int32) to g _ (3 : Int32) (by decide) (by decide) (by decide), show (3 : Int32) + 1 = 4 from rfl]
  rw [own_st (1 : Int32) to g _ (4 : Int32) (by decide) (by decide) (by decide), show (4 : Int32) + 1 = 5 from rfl]
  rw [own_st (1 : Int32) to g _ (5 : Int32) (by decide) (by decide) (by decide), show (5 : Int32) + 1 = 6 from rfl]
  rw [own_done _ _ _ _ (6 : Int32) (by rw [Int32.lt_iff_toInt_lt]; omega)]
  rw [own_lo (1 : Int32) to g (0 : Int32) (by decide), if_pos (show (-1 : Int32) < 0 by decide)]
theorem own_v2 (to : Int32) (g : Nat → Int32) (t6 : to.toInt ≤ 6) : f2 (2 : Int32) to g = (if (f3 (2 : Int32) to (0 : Int32) g) < 0 then (if (f3 (2 : Int32) to (1 : Int32) g) < 0 then (if (f3 (2 : Int32) to (2 : Int32) g) < 0 then (if (f3 (2 : Int32) to (3 : Int32) g) < 0 then (if (f3 (2 : Int32) to (4 : Int32) g) < 0 then (if (f3 (2 : Int32) to (5 : Int32) g) < 0 then (-1 : Int32) else (f3 (2 : Int32) to (5 : Int32) g)) else (f3 (2 : Int32) to (4 : Int32) g)) else (f3 (2 : Int32) to (3 : Int32) g)) else (f3 (2 : Int32) to (2 : Int32) g)) else (f3 (2 : Int32) to (1 : Int32) g)) else (f3 (2 : Int32) to (0 : Int32) g)) := by
  have z6 : (6 : Int32).toInt = 6 := rfl
  unfold f2
  rw [own_st (2 : Int32) to g _ (2 : Int32) (by decide) (by decide) (by decide), show (2 : Int32) + 1 = 3 from rfl]
  rw [own_st (2 : Int32) to g _ (3 : Int32) (by decide) (by decide) (by decide), show (3 : Int32) + 1 = 4 from rfl]
  rw [own_st (2 : Int32) to g _ (4 : Int32) (by decide) (by decide) (by decide), show (4 : Int32) + 1 = 5 from rfl]
  rw [own_st (2 : Int32) to g _ (5 : Int32) (by decide) (by decide) (by decide), show (5 : Int32) + 1 = 6 from rfl]
  rw [own_done _ _ _ _ (6 : Int32) (by rw [Int32.lt_iff_toInt_lt]; omega)]
  rw [own_lo (2 : Int32) to g (0 : Int32) (by decide), if_pos (show (-1 : Int32) < 0 by decide)]
  rw [own_lo (2 : Int32) to g (1 : Int32) (by decide), if_pos (show (-1 : Int32) < 0 by decide)]
theorem own_v3 (to : Int32) (g : Nat → Int32) (t6 : to.toInt ≤ 6) : f2 (3 : Int32) to g = (if (f3 (3 : Int32) to (0 : Int32) g) < 0 then (if (f3 (3 : Int32) to (1 : Int32) g) < 0 then (if (f3 (3 : Int32) to (2 : Int32) g) < 0 then (if (f3 (3 : Int32) to (3 : Int32) g) < 0 then (if (f3 (3 : Int32) to (4 : Int32) g) < 0 then (if (f3 (3 : Int32) to (5 : Int32) g) < 0 then (-1 : Int32) else (f3 (3 : Int32) to (5 : Int32) g)) else (f3 (3 : Int32) to (4 : Int32) g)) else (f3 (3 : Int32) to (3 : Int32) g)) else (f3 (3 : Int32) to (2 : Int32) g)) else (f3 (3 : Int32) to (1 : Int32) g)) else (f3 (3 : Int32) to (0 : Int32) g)) := by
  have z6 : (6 : Int32).toInt = 6 := rfl
  unfold f2
  rw [own_st (3 : Int32) to g _ (3 : Int32) (by decide) (by decide) (by decide), show (3 : Int32) + 1 = 4 from rfl]
  rw [own_st (3 : Int32) to g _ (4 : Int32) (by decide) (by decide) (by decide), show (4 : Int32) + 1 = 5 from rfl]
  rw [own_st (3 : Int32) to g _ (5 : Int32) (by decide) (by decide) (by decide), show (5 : Int32) + 1 = 6 from rfl]
  rw [own_done _ _ _ _ (6 : Int32) (by rw [Int32.lt_iff_toInt_lt]; omega)]
  rw [own_lo (3 : Int32) to g (0 : Int32) (by decide), if_pos (show (-1 : Int32) < 0 by decide)]
  rw [own_lo (3 : Int32) to g (1 : Int32) (by decide), if_pos (show (-1 : Int32) < 0 by decide)]
  rw [own_lo (3 : Int32) to g (2 : Int32) (by decide), if_pos (show (-1 : Int32) < 0 by decide)]
theorem own_v4 (to : Int32) (g : Nat → Int32) (t6 : to.toInt ≤ 6) : f2 (4 : Int32) to g = (if (f3 (4 : Int32) to (0 : Int32) g) < 0 then (if (f3 (4 : Int32) to (1 : Int32) g) < 0 then (if (f3 (4 : Int32) to (2 : Int32) g) < 0 then (if (f3 (4 : Int32) to (3 : Int32) g) < 0 then (if (f3 (4 : Int32) to (4 : Int32) g) < 0 then (if (f3 (4 : Int32) to (5 : Int32) g) < 0 then (-1 : Int32) else (f3 (4 : Int32) to (5 : Int32) g)) else (f3 (4 : Int32) to (4 : Int32) g)) else (f3 (4 : Int32) to (3 : Int32) g)) else (f3 (4 : Int32) to (2 : Int32) g)) else (f3 (4 : Int32) to (1 : Int32) g)) else (f3 (4 : Int32) to (0 : Int32) g)) := by
  have z6 : (6 : Int32).toInt = 6 := rfl
  unfold f2
  rw [own_st (4 : Int32) to g _ (4 : Int32) (by decide) (by decide) (by decide), show (4 : Int32) + 1 = 5 from rfl]
  rw [own_st (4 : Int32) to g _ (5 : Int32) (by decide) (by decide) (by decide), show (5 : Int32) + 1 = 6 from rfl]
  rw [own_done _ _ _ _ (6 : Int32) (by rw [Int32.lt_iff_toInt_lt]; omega)]
  rw [own_lo (4 : Int32) to g (0 : Int32) (by decide), if_pos (show (-1 : Int32) < 0 by decide)]
  rw [own_lo (4 : Int32) to g (1 : Int32) (by decide), if_pos (show (-1 : Int32) < 0 by decide)]
  rw [own_lo (4 : Int32) to g (2 : Int32) (by decide), if_pos (show (-1 : Int32) < 0 by decide)]
  rw [own_lo (4 : Int32) to g (3 : Int32) (by decide), if_pos (show (-1 : Int32) < 0 by decide)]
theorem own_v5 (to : Int32) (g : Nat → Int32) (t6 : to.toInt ≤ 6) : f2 (5 : Int32) to g = (if (f3 (5 : Int32) to (0 : Int32) g) < 0 then (if (f3 (5 : Int32) to (1 : Int32) g) < 0 then (if (f3 (5 : Int32) to (2 : Int32) g) < 0 then (if (f3 (5 : Int32) to (3 : Int32) g) < 0 then (if (f3 (5 : Int32) to (4 : Int32) g) < 0 then (if (f3 (5 : Int32) to (5 : Int32) g) < 0 then (-1 : Int32) else (f3 (5 : Int32) to (5 : Int32) g)) else (f3 (5 : Int32) to (4 : Int32) g)) else (f3 (5 : Int32) to (3 : Int32) g)) else (f3 (5 : Int32) to (2 : Int32) g)) else (f3 (5 : Int32) to (1 : Int32) g)) else (f3 (5 : Int32) to (0 : Int32) g)) := by
  have z6 : (6 : Int32).toInt = 6 := rfl
  unfold f2
  rw [own_st (5 : Int32) to g _ (5 : Int32) (by decide) (by decide) (by decide), show (5 : Int32) + 1 = 6 from rfl]
  rw [own_done _ _ _ _ (6 : Int32) (by rw [Int32.lt_iff_toInt_lt]; omega)]
  rw [own_lo (5 : Int32) to g (0 : Int32) (by decide), if_pos (show (-1 : Int32) < 0 by decide)]
  rw [own_lo (5 : Int32) to g (1 : Int32) (by decide), if_pos (show (-1 : Int32) < 0 by decide)]
  rw [own_lo (5 : Int32) to g (2 : Int32) (by decide), if_pos (show (-1 : Int32) < 0 by decide)]
  rw [own_lo (5 : Int32) to g (3 : Int32) (by decide), if_pos (show (-1 : Int32) < 0 by decide)]
  rw [own_lo (5 : Int32) to g (4 : Int32) (by decide), if_pos (show (-1 : Int32) < 0 by decide)]
theorem own_v6 (to : Int32) (g : Nat → Int32) (t6 : to.toInt ≤ 6) : f2 (6 : Int32) to g = (if (f3 (6 : Int32) to (0 : Int32) g) < 0 then (if (f3 (6 : Int32) to (1 : Int32) g) < 0 then (if (f3 (6 : Int32) to (2 : Int32) g) < 0 then (if (f3 (6 : Int32) to (3 : Int32) g) < 0 then (if (f3 (6 : Int32) to (4 : Int32) g) < 0 then (if (f3 (6 : Int32) to (5 : Int32) g) < 0 then (-1 : Int32) else (f3 (6 : Int32) to (5 : Int32) g)) else (f3 (6 : Int32) to (4 : Int32) g)) else (f3 (6 : Int32) to (3 : Int32) g)) else (f3 (6 : Int32) to (2 : Int32) g)) else (f3 (6 : Int32) to (1 : Int32) g)) else (f3 (6 : Int32) to (0 : Int32) g)) := by
  have z6 : (6 : Int32).toInt = 6 := rfl
  unfold f2
  rw [own_done _ _ _ _ (6 : Int32) (by rw [Int32.lt_iff_toInt_lt]; omega)]
  rw [own_lo (6 : Int32) to g (0 : Int32) (by decide), if_pos (show (-1 : Int32) < 0 by decide)]
  rw [own_lo (6 : Int32) to g (1 : Int32) (by decide), if_pos (show (-1 : Int32) < 0 by decide)]
  rw [own_lo (6 : Int32) to g (2 : Int32) (by decide), if_pos (show (-1 : Int32) < 0 by decide)]
  rw [own_lo (6 : Int32) to g (3 : Int32) (by decide), if_pos (show (-1 : Int32) < 0 by decide)]
  rw [own_lo (6 : Int32) to g (4 : Int32) (by decide), if_pos (show (-1 : Int32) < 0 by decide)]
  rw [own_lo (6 : Int32) to g (5 : Int32) (by decide), if_pos (show (-1 : Int32) < 0 by decide)]
theorem own_val (fr to : Int32) (g : Nat → Int32) (h0 : 0 ≤ fr.toInt) (h6 : fr.toInt ≤ 6) (t0 : 0 ≤ to.toInt) (t6 : to.toInt ≤ 6) : f2 fr to g = (if (f3 fr to (0 : Int32) g) < 0 then (if (f3 fr to (1 : Int32) g) < 0 then (if (f3 fr to (2 : Int32) g) < 0 then (if (f3 fr to (3 : Int32) g) < 0 then (if (f3 fr to (4 : Int32) g) < 0 then (if (f3 fr to (5 : Int32) g) < 0 then (-1 : Int32) else (f3 fr to (5 : Int32) g)) else (f3 fr to (4 : Int32) g)) else (f3 fr to (3 : Int32) g)) else (f3 fr to (2 : Int32) g)) else (f3 fr to (1 : Int32) g)) else (f3 fr to (0 : Int32) g)) := by
  rcases own_sev fr h0 h6 with rfl | rfl | rfl | rfl | rfl | rfl | rfl
  · exact own_v0 to g t6
  · exact own_v1 to g t6
  · exact own_v2 to g t6
  · exact own_v3 to g t6
  · exact own_v4 to g t6
  · exact own_v5 to g t6
  · exact own_v6 to g t6

set_option maxRecDepth 65536 in
set_option maxHeartbeats 40000000 in
theorem law_walk {p : Program} {l : Launch} {e : Env} {s : State} {m : MethodId} {args : Array Value} {below : List Frame} {meth : Method} {c : Code} {T : State} {h : Heap} {n0 : Nat} {Z : State} {a0 : Array Value} (X : Hr p l e room_1 s m args below meth c n0 h 0 0 T) (C : Cx p s m meth c code maxLocals ret "com/example/hengbiao/hengbiao/server/RequestHeadEndPinLaw" "law" Z a0 tables_1) (x0 : Int32) (x1 : Int64) (x2 : Int32) (x3 : Int32) : Goes p e below s n0 (fun v _ => v = some (.int 1)) room_1.cells room_1.slots T (mkF m 0 #[.val (.int x0), .val (.long x1), .second, .val (.int x2), .val (.int x3), .unset, .unset, .unset, .unset, .unset, .unset] []) := by
  have hfrom := (own_m7 x2).1
  have hfrom6 := (own_m7 x2).2
  have hto0 := (own_m7 x3).1
  have hto := (own_m7 x3).2
  refine w_bipush (pc := 0) X C at_0 (6 : Int32) rfl ?_
  refine w_new_byte (pc := 2) X C at_2 (List.mem_of_getElem? (i := 0) rfl) 6 rfl 6 (by decide) (by decide) (by decide) (by decide) (fun T1 h1 a1 ha1 hb1 X1 E1 A1 => ?_)
  refine w_astore (pc := 4) X1 C at_4 #[.val (.int x0), .val (.long x1), .second, .val (.int x2), .val (.int x3), .val (.ref a1), .unset, .unset, .unset, .unset, .unset] rfl rfl ?_
  refine w_aload (pc := 6) X1 C at_6 rfl rfl ?_
  refine w_iconst (pc := 8) X1 C at_8 (0 : Int32) rfl ?_
  refine w_iloadN (pc := 9) X1 C at_9 rfl ?_
  refine w_iconst (pc := 10) X1 C at_10 (0 : Int32) rfl ?_
  refine w_lloadN (pc := 11) X1 C at_11 rfl ?_
  refine w_callP (pc := 12) X1 C (y := (⟨"com/example/hengbiao/hengbiao/server/RequestHeadEndPinLaw", "pick", "(IIJ)B"⟩ : MethodName)) (bytes := method_3_code) (maxL := 5) (rt := some .byte) (argsL := [(.int x0), (.int (0 : Int32)), (.long x1)]) (rest := [(.int (0 : Int32)), (.ref a1)]) (w := .int (f1 x0 (0 : Int32) x1)) (W := 2) at_12 (List.mem_of_getElem? (i := 1) rfl) (List.mem_of_getElem? (i := 2) rfl) (List.mem_of_getElem? (i := 3) rfl) (List.mem_of_getElem? (i := 4) rfl) (by decide) (ct1 l C.2.2.2.2.2.2.2.2 _ X1.size (x0) ((0 : Int32)) (x1)) rfl rfl rfl ⟨_, _, pd_0, rfl⟩ rfl (Nat.le_of_eq rfl) (by decide) (by decide) (by decide) (by decide) (fun T3 X2 => ?_)
  refine w_bastore (pc := 15) X2 C at_15 A1 0 rfl (by decide) hb1 (fun T4 h4 X4 W4 A4 => ?_)
  obtain ⟨g4, hg4⟩ : ∃ z, z = up (fun _ => 0) 0 (i8 (f1 x0 (0 : Int32) x1)) := ⟨_, rfl⟩
  rw [← hg4] at A4
  refine w_aload (pc := 16) X4 C at_16 rfl rfl ?_
  refine w_iconst (pc := 18) X4 C at_18 (1 : Int32) rfl ?_
  refine w_iloadN (pc := 19) X4 C at_19 rfl ?_
  refine w_iconst (pc := 20) X4 C at_20 (1 : Int32) rfl ?_
  refine w_lloadN (pc := 21) X4 C at_21 rfl ?_
  refine w_callP (pc := 22) X4 C (y := (⟨"com/example/hengbiao/hengbiao/server/RequestHeadEndPinLaw", "pick", "(IIJ)B"⟩ : MethodName)) (bytes := method_3_code) (maxL := 5) (rt := some .byte) (argsL := [(.int x0), (.int (1 : Int32)), (.long x1)]) (rest := [(.int (1 : Int32)), (.ref a1)]) (w := .int (f1 x0 (1 : Int32) x1)) (W := 2) at_22 (List.mem_of_getElem? (i := 1) rfl) (List.mem_of_getElem? (i := 2) rfl) (List.mem_of_getElem? (i := 3) rfl) (List.mem_of_getElem? (i := 4) rfl) (by decide) (ct1 l C.2.2.2.2.2.2.2.2 _ X4.size (x0) ((1 : Int32)) (x1)) rfl rfl rfl ⟨_, _, pd_0, rfl⟩ rfl (Nat.le_of_eq rfl) (by decide) (by decide) (by decide) (by decide) (fun T6 X5 => ?_)
  refine w_bastore (pc := 25) X5 C at_25 A4 1 rfl (by decide) hb1 (fun T7 h7 X7 W7 A7 => ?_)
  obtain ⟨g7, hg7⟩ : ∃ z, z = up g4 1 (i8 (f1 x0 (1 : Int32) x1)) := ⟨_, rfl⟩
  rw [← hg7] at A7
  refine w_aload (pc := 26) X7 C at_26 rfl rfl ?_
  refine w_iconst (pc := 28) X7 C at_28 (2 : Int32) rfl ?_
  refine w_iloadN (pc := 29) X7 C at_29 rfl ?_
  refine w_iconst (pc := 30) X7 C at_30 (2 : Int32) rfl ?_
  refine w_lloadN (pc := 31) X7 C at_31 rfl ?_
  refine w_callP (pc := 32) X7 C (y := (⟨"com/example/hengbiao/hengbiao/server/RequestHeadEndPinLaw", "pick", "(IIJ)B"⟩ : MethodName)) (bytes := method_3_code) (maxL := 5) (rt := some .byte) (argsL := [(.int x0), (.int (2 : Int32)), (.long x1)]) (rest := [(.int (2 : Int32)), (.ref a1)]) (w := .int (f1 x0 (2 : Int32) x1)) (W := 2) at_32 (List.mem_of_getElem? (i := 1) rfl) (List.mem_of_getElem? (i := 2) rfl) (List.mem_of_getElem? (i := 3) rfl) (List.mem_of_getElem? (i := 4) rfl) (by decide) (ct1 l C.2.2.2.2.2.2.2.2 _ X7.size (x0) ((2 : Int32)) (x1)) rfl rfl rfl ⟨_, _, pd_0, rfl⟩ rfl (Nat.le_of_eq rfl) (by decide) (by decide) (by decide) (by decide) (fun T9 X8 => ?_)
  refine w_bastore (pc := 35) X8 C at_35 A7 2 rfl (by decide) hb1 (fun T10 h10 X10 W10 A10 => ?_)
  obtain ⟨g10, hg10⟩ : ∃ z, z = up g7 2 (i8 (f1 x0 (2 : Int32) x1)) := ⟨_, rfl⟩
  rw [← hg10] at A10
  refine w_aload (pc := 36) X10 C at_36 rfl rfl ?_
  refine w_iconst (pc := 38) X10 C at_38 (3 : Int32) rfl ?_
  refine w_iloadN (pc := 39) X10 C at_39 rfl ?_
  refine w_iconst (pc := 40) X10 C at_40 (3 : Int32) rfl ?_
  refine w_lloadN (pc := 41) X10 C at_41 rfl ?_
  refine w_callP (pc := 42) X10 C (y := (⟨"com/example/hengbiao/hengbiao/server/RequestHeadEndPinLaw", "pick", "(IIJ)B"⟩ : MethodName)) (bytes := method_3_code) (maxL := 5) (rt := some .byte) (argsL := [(.int x0), (.int (3 : Int32)), (.long x1)]) (rest := [(.int (3 : Int32)), (.ref a1)]) (w := .int (f1 x0 (3 : Int32) x1)) (W := 2) at_42 (List.mem_of_getElem? (i := 1) rfl) (List.mem_of_getElem? (i := 2) rfl) (List.mem_of_getElem? (i := 3) rfl) (List.mem_of_getElem? (i := 4) rfl) (by decide) (ct1 l C.2.2.2.2.2.2.2.2 _ X10.size (x0) ((3 : Int32)) (x1)) rfl rfl rfl ⟨_, _, pd_0, rfl⟩ rfl (Nat.le_of_eq rfl) (by decide) (by decide) (by decide) (by decide) (fun T12 X11 => ?_)
  refine w_bastore (pc := 45) X11 C at_45 A10 3 rfl (by decide) hb1 (fun T13 h13 X13 W13 A13 => ?_)
  obtain ⟨g13, hg13⟩ : ∃ z, z = up g10 3 (i8 (f1 x0 (3 : Int32) x1)) := ⟨_, rfl⟩
  rw [← hg13] at A13
  refine w_aload (pc := 46) X13 C at_46 rfl rfl ?_
  refine w_iconst (pc := 48) X13 C at_48 (4 : Int32) rfl ?_
  refine w_iloadN (pc := 49) X13 C at_49 rfl ?_
  refine w_iconst (pc := 50) X13 C at_50 (4 : Int32) rfl ?_
  refine w_lloadN (pc := 51) X13 C at_51 rfl ?_
  refine w_callP (pc := 52) X13 C (y := (⟨"com/example/hengbiao/hengbiao/server/RequestHeadEndPinLaw", "pick", "(IIJ)B"⟩ : MethodName)) (bytes := method_3_code) (maxL := 5) (rt := some .byte) (argsL := [(.int x0), (.int (4 : Int32)), (.long x1)]) (rest := [(.int (4 : Int32)), (.ref a1)]) (w := .int (f1 x0 (4 : Int32) x1)) (W := 2) at_52 (List.mem_of_getElem? (i := 1) rfl) (List.mem_of_getElem? (i := 2) rfl) (List.mem_of_getElem? (i := 3) rfl) (List.mem_of_getElem? (i := 4) rfl) (by decide) (ct1 l C.2.2.2.2.2.2.2.2 _ X13.size (x0) ((4 : Int32)) (x1)) rfl rfl rfl ⟨_, _, pd_0, rfl⟩ rfl (Nat.le_of_eq rfl) (by decide) (by decide) (by decide) (by decide) (fun T15 X14 => ?_)
  refine w_bastore (pc := 55) X14 C at_55 A13 4 rfl (by decide) hb1 (fun T16 h16 X16 W16 A16 => ?_)
  obtain ⟨g16, hg16⟩ : ∃ z, z = up g13 4 (i8 (f1 x0 (4 : Int32) x1)) := ⟨_, rfl⟩
  rw [← hg16] at A16
  refine w_aload (pc := 56) X16 C at_56 rfl rfl ?_
  refine w_iconst (pc := 58) X16 C at_58 (5 : Int32) rfl ?_
  refine w_iloadN (pc := 59) X16 C at_59 rfl ?_
  refine w_iconst (pc := 60) X16 C at_60 (5 : Int32) rfl ?_
  refine w_lloadN (pc := 61) X16 C at_61 rfl ?_
  refine w_callP (pc := 62) X16 C (y := (⟨"com/example/hengbiao/hengbiao/server/RequestHeadEndPinLaw", "pick", "(IIJ)B"⟩ : MethodName)) (bytes := method_3_code) (maxL := 5) (rt := some .byte) (argsL := [(.int x0), (.int (5 : Int32)), (.long x1)]) (rest := [(.int (5 : Int32)), (.ref a1)]) (w := .int (f1 x0 (5 : Int32) x1)) (W := 2) at_62 (List.mem_of_getElem? (i := 1) rfl) (List.mem_of_getElem? (i := 2) rfl) (List.mem_of_getElem? (i := 3) rfl) (List.mem_of_getElem? (i := 4) rfl) (by decide) (ct1 l C.2.2.2.2.2.2.2.2 _ X16.size (x0) ((5 : Int32)) (x1)) rfl rfl rfl ⟨_, _, pd_0, rfl⟩ rfl (Nat.le_of_eq rfl) (by decide) (by decide) (by decide) (by decide) (fun T18 X17 => ?_)
  refine w_bastore (pc := 65) X17 C at_65 A16 5 rfl (by decide) hb1 (fun T19 h19 X19 W19 A19 => ?_)
  obtain ⟨g19, hg19⟩ : ∃ z, z = up g16 5 (i8 (f1 x0 (5 : Int32) x1)) := ⟨_, rfl⟩
  rw [← hg19] at A19
  refine w_iloadN (pc := 66) X19 C at_66 rfl ?_
  refine w_ldcI (pc := 67) X19 C at_67 (v := (2147483647 : Int32)) (List.mem_of_getElem? (i := 5) rfl) ?_
  refine w_iand (pc := 69) X19 C at_69 ?_
  refine w_bipush (pc := 70) X19 C at_70 (7 : Int32) rfl ?_
  refine w_irem (pc := 72) X19 C at_72 (by decide) ?_
  refine w_istore (pc := 73) X19 C at_73 #[.val (.int x0), .val (.long x1), .second, .val (.int x2), .val (.int x3), .val (.ref a1), .val (.int ((x2 &&& (2147483647 : Int32)) % (7 : Int32))), .unset, .unset, .unset, .unset] rfl ?_
  refine w_iload (pc := 75) X19 C at_75 rfl ?_
  refine w_ldcI (pc := 77) X19 C at_77 (v := (2147483647 : Int32)) (List.mem_of_getElem? (i := 5) rfl) ?_
  refine w_iand (pc := 79) X19 C at_79 ?_
  refine w_bipush (pc := 80) X19 C at_80 (7 : Int32) rfl ?_
  refine w_irem (pc := 82) X19 C at_82 (by decide) ?_
  refine w_istore (pc := 83) X19 C at_83 #[.val (.int x0), .val (.long x1), .second, .val (.int x2), .val (.int x3), .val (.ref a1), .val (.int ((x2 &&& (2147483647 : Int32)) % (7 : Int32))), .val (.int ((x3 &&& (2147483647 : Int32)) % (7 : Int32))), .unset, .unset, .unset] rfl ?_
  refine w_aload (pc := 85) X19 C at_85 rfl rfl ?_
  refine w_iload (pc := 87) X19 C at_87 rfl ?_
  refine w_iload (pc := 89) X19 C at_89 rfl ?_
  refine w_callP (pc := 91) X19 C (y := (⟨"com/example/hengbiao/hengbiao/server/RequestHead", "end", "([BII)I"⟩ : MethodName)) (bytes := prog_79_method_2_code) (maxL := 5) (rt := some .int) (argsL := [(.ref a1), (.int ((x2 &&& (2147483647 : Int32)) % (7 : Int32))), (.int ((x3 &&& (2147483647 : Int32)) % (7 : Int32)))]) (rest := []) (w := .int (f2 ((x2 &&& (2147483647 : Int32)) % (7 : Int32)) ((x3 &&& (2147483647 : Int32)) % (7 : Int32)) g19)) (W := 0) at_91 (List.mem_of_getElem? (i := 6) rfl) (List.mem_of_getElem? (i := 7) rfl) (List.mem_of_getElem? (i := 8) rfl) (List.mem_of_getElem? (i := 9) rfl) (by decide) (ct2 l C.2.2.2.2.2.2.2.2 _ X19.size (a1) (((x2 &&& (2147483647 : Int32)) % (7 : Int32))) (((x3 &&& (2147483647 : Int32)) % (7 : Int32))) g19 A19 hfrom hto) rfl rfl rfl ⟨_, _, pd_1, rfl⟩ rfl (Nat.le_of_eq rfl) (by decide) (by decide) (by decide) (by decide) (fun T21 X20 => ?_)
  refine w_istore (pc := 94) X20 C at_94 #[.val (.int x0), .val (.long x1), .second, .val (.int x2), .val (.int x3), .val (.ref a1), .val (.int ((x2 &&& (2147483647 : Int32)) % (7 : Int32))), .val (.int ((x3 &&& (2147483647 : Int32)) % (7 : Int32))), .val (.int (f2 ((x2 &&& (2147483647 : Int32)) % (7 : Int32)) ((x3 &&& (2147483647 : Int32)) % (7 : Int32)) g19)), .unset, .unset] rfl ?_
  refine w_iconst (pc := 96) X20 C at_96 (-1 : Int32) rfl ?_
  refine w_istore (pc := 97) X20 C at_97 #[.val (.int x0), .val (.long x1), .second, .val (.int x2), .val (.int x3), .val (.ref a1), .val (.int ((x2 &&& (2147483647 : Int32)) % (7 : Int32))), .val (.int ((x3 &&& (2147483647 : Int32)) % (7 : Int32))), .val (.int (f2 ((x2 &&& (2147483647 : Int32)) % (7 : Int32)) ((x3 &&& (2147483647 : Int32)) % (7 : Int32)) g19)), .val (.int (-1 : Int32)), .unset] rfl ?_
  refine w_aload (pc := 99) X20 C at_99 rfl rfl ?_
  refine w_iload (pc := 101) X20 C at_101 rfl ?_
  refine w_iload (pc := 103) X20 C at_103 rfl ?_
  refine w_iconst (pc := 105) X20 C at_105 (5 : Int32) rfl ?_
  refine w_callP (pc := 106) X20 C (y := (⟨"com/example/hengbiao/hengbiao/server/RequestHeadEndPinLaw", "matchAt", "([BIII)I"⟩ : MethodName)) (bytes := method_4_code) (maxL := 4) (rt := some .int) (argsL := [(.ref a1), (.int ((x2 &&& (2147483647 : Int32)) % (7 : Int32))), (.int ((x3 &&& (2147483647 : Int32)) % (7 : Int32))), (.int (5 : Int32))]) (rest := []) (w := .int (f3 ((x2 &&& (2147483647 : Int32)) % (7 : Int32)) ((x3 &&& (2147483647 : Int32)) % (7 : Int32)) (5 : Int32) g19)) (W := 0) at_106 (List.mem_of_getElem? (i := 10) rfl) (List.mem_of_getElem? (i := 11) rfl) (List.mem_of_getElem? (i := 3) rfl) (List.mem_of_getElem? (i := 12) rfl) (by decide) (ct3 l C.2.2.2.2.2.2.2.2 _ X20.size (a1) (((x2 &&& (2147483647 : Int32)) % (7 : Int32))) (((x3 &&& (2147483647 : Int32)) % (7 : Int32))) ((5 : Int32)) g19 A19 ⟨by decide, by decide⟩ hto) rfl rfl rfl ⟨_, _, pd_2, rfl⟩ rfl (Nat.le_of_eq rfl) (by decide) (by decide) (by decide) (by decide) (fun T23 X22 => ?_)
  refine w_istore (pc := 109) X22 C at_109 #[.val (.int x0), .val (.long x1), .second, .val (.int x2), .val (.int x3), .val (.ref a1), .val (.int ((x2 &&& (2147483647 : Int32)) % (7 : Int32))), .val (.int ((x3 &&& (2147483647 : Int32)) % (7 : Int32))), .val (.int (f2 ((x2 &&& (2147483647 : Int32)) % (7 : Int32)) ((x3 &&& (2147483647 : Int32)) % (7 : Int32)) g19)), .val (.int (-1 : Int32)), .val (.int (f3 ((x2 &&& (2147483647 : Int32)) % (7 : Int32)) ((x3 &&& (2147483647 : Int32)) % (7 : Int32)) (5 : Int32) g19))] rfl ?_
  refine w_iload (pc := 111) X22 C at_111 rfl ?_
  suffices key25 : Goes p e below s n0 (fun v _ => v = some (.int 1)) room_1.cells room_1.slots T23 (mkF m 120 #[.val (.int x0), .val (.long x1), .second, .val (.int x2), .val (.int x3), .val (.ref a1), .val (.int ((x2 &&& (2147483647 : Int32)) % (7 : Int32))), .val (.int ((x3 &&& (2147483647 : Int32)) % (7 : Int32))), .val (.int (f2 ((x2 &&& (2147483647 : Int32)) % (7 : Int32)) ((x3 &&& (2147483647 : Int32)) % (7 : Int32)) g19)), .val (.int (if (f3 ((x2 &&& (2147483647 : Int32)) % (7 : Int32)) ((x3 &&& (2147483647 : Int32)) % (7 : Int32)) (5 : Int32) g19) < 0 then (-1 : Int32) else (f3 ((x2 &&& (2147483647 : Int32)) % (7 : Int32)) ((x3 &&& (2147483647 : Int32)) % (7 : Int32)) (5 : Int32) g19))), .val (.int (f3 ((x2 &&& (2147483647 : Int32)) % (7 : Int32)) ((x3 &&& (2147483647 : Int32)) % (7 : Int32)) (5 : Int32) g19))] []) by
    refine w_if_lt (pc := 113) X22 C at_113 120 (by decide) (fun q24 => ?_) (fun q24 => ?_)
    · skip
      rw [if_pos q24] at key25
      exact key25
    · skip
      refine w_iload (pc := 116) X22 C at_116 rfl ?_
      refine w_istore (pc := 118) X22 C at_118 #[.val (.int x0), .val (.long x1), .second, .val (.int x2), .val (.int x3), .val (.ref a1), .val (.int ((x2 &&& (2147483647 : Int32)) % (7 : Int32))), .val (.int ((x3 &&& (2147483647 : Int32)) % (7 : Int32))), .val (.int (f2 ((x2 &&& (2147483647 : Int32)) % (7 : Int32)) ((x3 &&& (2147483647 : Int32)) % (7 : Int32)) g19)), .val (.int (f3 ((x2 &&& (2147483647 : Int32)) % (7 : Int32)) ((x3 &&& (2147483647 : Int32)) % (7 : Int32)) (5 : Int32) g19)), .val (.int (f3 ((x2 &&& (2147483647 : Int32)) % (7 : Int32)) ((x3 &&& (2147483647 : Int32)) % (7 : Int32)) (5 : Int32) g19))] rfl ?_
      rw [if_neg q24] at key25
      exact key25
  refine w_aload (pc := 120) X22 C at_120 rfl rfl ?_
  refine w_iload (pc := 122) X22 C at_122 rfl ?_
  refine w_iload (pc := 124) X22 C at_124 rfl ?_
  refine w_iconst (pc := 126) X22 C at_126 (4 : Int32) rfl ?_
  refine w_callP (pc := 127) X22 C (y := (⟨"com/example/hengbiao/hengbiao/server/RequestHeadEndPinLaw", "matchAt", "([BIII)I"⟩ : MethodName)) (bytes := method_4_code) (maxL := 4) (rt := some .int) (argsL := [(.ref a1), (.int ((x2 &&& (2147483647 : Int32)) % (7 : Int32))), (.int ((x3 &&& (2147483647 : Int32)) % (7 : Int32))), (.int (4 : Int32))]) (rest := []) (w := .int (f3 ((x2 &&& (2147483647 : Int32)) % (7 : Int32)) ((x3 &&& (2147483647 : Int32)) % (7 : Int32)) (4 : Int32) g19)) (W := 0) at_127 (List.mem_of_getElem? (i := 10) rfl) (List.mem_of_getElem? (i := 11) rfl) (List.mem_of_getElem? (i := 3) rfl) (List.mem_of_getElem? (i := 12) rfl) (by decide) (ct3 l C.2.2.2.2.2.2.2.2 _ X22.size (a1) (((x2 &&& (2147483647 : Int32)) % (7 : Int32))) (((x3 &&& (2147483647 : Int32)) % (7 : Int32))) ((4 : Int32)) g19 A19 ⟨by decide, by decide⟩ hto) rfl rfl rfl ⟨_, _, pd_2, rfl⟩ rfl (Nat.le_of_eq rfl) (by decide) (by decide) (by decide) (by decide) (fun T27 X26 => ?_)
  refine w_istore (pc := 130) X26 C at_130 #[.val (.int x0), .val (.long x1), .second, .val (.int x2), .val (.int x3), .val (.ref a1), .val (.int ((x2 &&& (2147483647 : Int32)) % (7 : Int32))), .val (.int ((x3 &&& (2147483647 : Int32)) % (7 : Int32))), .val (.int (f2 ((x2 &&& (2147483647 : Int32)) % (7 : Int32)) ((x3 &&& (2147483647 : Int32)) % (7 : Int32)) g19)), .val (.int (if (f3 ((x2 &&& (2147483647 : Int32)) % (7 : Int32)) ((x3 &&& (2147483647 : Int32)) % (7 : Int32)) (5 : Int32) g19) < 0 then (-1 : Int32) else (f3 ((x2 &&& (2147483647 : Int32)) % (7 : Int32)) ((x3 &&& (2147483647 : Int32)) % (7 : Int32)) (5 : Int32) g19))), .val (.int (f3 ((x2 &&& (2147483647 : Int32)) % (7 : Int32)) ((x3 &&& (2147483647 : Int32)) % (7 : Int32)) (4 : Int32) g19))] rfl ?_
  refine w_iload (pc := 132) X26 C at_132 rfl ?_
  suffices key29 : Goes p e below s n0 (fun v _ => v = some (.int 1)) room_1.cells room_1.slots T27 (mkF m 141 #[.val (.int x0), .val (.long x1), .second, .val (.int x2), .val (.int x3), .val (.ref a1), .val (.int ((x2 &&& (2147483647 : Int32)) % (7 : Int32))), .val (.int ((x3 &&& (2147483647 : Int32)) % (7 : Int32))), .val (.int (f2 ((x2 &&& (2147483647 : Int32)) % (7 : Int32)) ((x3 &&& (2147483647 : Int32)) % (7 : Int32)) g19)), .val (.int (if (f3 ((x2 &&& (2147483647 : Int32)) % (7 : Int32)) ((x3 &&& (2147483647 : Int32)) % (7 : Int32)) (4 : Int32) g19) < 0 then (if (f3 ((x2 &&& (2147483647 : Int32)) % (7 : Int32)) ((x3 &&& (2147483647 : Int32)) % (7 : Int32)) (5 : Int32) g19) < 0 then (-1 : Int32) else (f3 ((x2 &&& (2147483647 : Int32)) % (7 : Int32)) ((x3 &&& (2147483647 : Int32)) % (7 : Int32)) (5 : Int32) g19)) else (f3 ((x2 &&& (2147483647 : Int32)) % (7 : Int32)) ((x3 &&& (2147483647 : Int32)) % (7 : Int32)) (4 : Int32) g19))), .val (.int (f3 ((x2 &&& (2147483647 : Int32)) % (7 : Int32)) ((x3 &&& (2147483647 : Int32)) % (7 : Int32)) (4 : Int32) g19))] []) by
    refine w_if_lt (pc := 134) X26 C at_134 141 (by decide) (fun q28 => ?_) (fun q28 => ?_)
    · skip
      rw [if_pos q28] at key29
      exact key29
    · skip
      refine w_iload (pc := 137) X26 C at_137 rfl ?_
      refine w_istore (pc := 139) X26 C at_139 #[.val (.int x0), .val (.long x1), .second, .val (.int x2), .val (.int x3), .val (.ref a1), .val (.int ((x2 &&& (2147483647 : Int32)) % (7 : Int32))), .val (.int ((x3 &&& (2147483647 : Int32)) % (7 : Int32))), .val (.int (f2 ((x2 &&& (2147483647 : Int32)) % (7 : Int32)) ((x3 &&& (2147483647 : Int32)) % (7 : Int32)) g19)), .val (.int (f3 ((x2 &&& (2147483647 : Int32)) % (7 : Int32)) ((x3 &&& (2147483647 : Int32)) % (7 : Int32)) (4 : Int32) g19)), .val (.int (f3 ((x2 &&& (2147483647 : Int32)) % (7 : Int32)) ((x3 &&& (2147483647 : Int32)) % (7 : Int32)) (4 : Int32) g19))] rfl ?_
      rw [if_neg q28] at key29
      exact key29
  refine w_aload (pc := 141) X26 C at_141 rfl rfl ?_
  refine w_iload (pc := 143) X26 C at_143 rfl ?_
  refine w_iload (pc := 145) X26 C at_145 rfl ?_
  refine w_iconst (pc := 147) X26 C at_147 (3 : Int32) rfl ?_
  refine w_callP (pc := 148) X26 C (y := (⟨"com/example/hengbiao/hengbiao/server/RequestHeadEndPinLaw", "matchAt", "([BIII)I"⟩ : MethodName)) (bytes := method_4_code) (maxL := 4) (rt := some .int) (argsL := [(.ref a1), (.int ((x2 &&& (2147483647 : Int32)) % (7 : Int32))), (.int ((x3 &&& (2147483647 : Int32)) % (7 : Int32))), (.int (3 : Int32))]) (rest := []) (w := .int (f3 ((x2 &&& (2147483647 : Int32)) % (7 : Int32)) ((x3 &&& (2147483647 : Int32)) % (7 : Int32)) (3 : Int32) g19)) (W := 0) at_148 (List.mem_of_getElem? (i := 10) rfl) (List.mem_of_getElem? (i := 11) rfl) (List.mem_of_getElem? (i := 3) rfl) (List.mem_of_getElem? (i := 12) rfl) (by decide) (ct3 l C.2.2.2.2.2.2.2.2 _ X26.size (a1) (((x2 &&& (2147483647 : Int32)) % (7 : Int32))) (((x3 &&& (2147483647 : Int32)) % (7 : Int32))) ((3 : Int32)) g19 A19 ⟨by decide, by decide⟩ hto) rfl rfl rfl ⟨_, _, pd_2, rfl⟩ rfl (Nat.le_of_eq rfl) (by decide) (by decide) (by decide) (by decide) (fun T31 X30 => ?_)
  refine w_istore (pc := 151) X30 C at_151 #[.val (.int x0), .val (.long x1), .second, .val (.int x2), .val (.int x3), .val (.ref a1), .val (.int ((x2 &&& (2147483647 : Int32)) % (7 : Int32))), .val (.int ((x3 &&& (2147483647 : Int32)) % (7 : Int32))), .val (.int (f2 ((x2 &&& (2147483647 : Int32)) % (7 : Int32)) ((x3 &&& (2147483647 : Int32)) % (7 : Int32)) g19)), .val (.int (if (f3 ((x2 &&& (2147483647 : Int32)) % (7 : Int32)) ((x3 &&& (2147483647 : Int32)) % (7 : Int32)) (4 : Int32) g19) < 0 then (if (f3 ((x2 &&& (2147483647 : Int32)) % (7 : Int32)) ((x3 &&& (2147483647 : Int32)) % (7 : Int32)) (5 : Int32) g19) < 0 then (-1 : Int32) else (f3 ((x2 &&& (2147483647 : Int32)) % (7 : Int32)) ((x3 &&& (2147483647 : Int32)) % (7 : Int32)) (5 : Int32) g19)) else (f3 ((x2 &&& (2147483647 : Int32)) % (7 : Int32)) ((x3 &&& (2147483647 : Int32)) % (7 : Int32)) (4 : Int32) g19))), .val (.int (f3 ((x2 &&& (2147483647 : Int32)) % (7 : Int32)) ((x3 &&& (2147483647 : Int32)) % (7 : Int32)) (3 : Int32) g19))] rfl ?_
  refine w_iload (pc := 153) X30 C at_153 rfl ?_
  suffices key33 : Goes p e below s n0 (fun v _ => v = some (.int 1)) room_1.cells room_1.slots T31 (mkF m 162 #[.val (.int x0), .val (.long x1), .second, .val (.int x2), .val (.int x3), .val (.ref a1), .val (.int ((x2 &&& (2147483647 : Int32)) % (7 : Int32))), .val (.int ((x3 &&& (2147483647 : Int32)) % (7 : Int32))), .val (.int (f2 ((x2 &&& (2147483647 : Int32)) % (7 : Int32)) ((x3 &&& (2147483647 : Int32)) % (7 : Int32)) g19)), .val (.int (if (f3 ((x2 &&& (2147483647 : Int32)) % (7 : Int32)) ((x3 &&& (2147483647 : Int32)) % (7 : Int32)) (3 : Int32) g19) < 0 then (if (f3 ((x2 &&& (2147483647 : Int32)) % (7 : Int32)) ((x3 &&& (2147483647 : Int32)) % (7 : Int32)) (4 : Int32) g19) < 0 then (if (f3 ((x2 &&& (2147483647 : Int32)) % (7 : Int32)) ((x3 &&& (2147483647 : Int32)) % (7 : Int32)) (5 : Int32) g19) < 0 then (-1 : Int32) else (f3 ((x2 &&& (2147483647 : Int32)) % (7 : Int32)) ((x3 &&& (2147483647 : Int32)) % (7 : Int32)) (5 : Int32) g19)) else (f3 ((x2 &&& (2147483647 : Int32)) % (7 : Int32)) ((x3 &&& (2147483647 : Int32)) % (7 : Int32)) (4 : Int32) g19)) else (f3 ((x2 &&& (2147483647 : Int32)) % (7 : Int32)) ((x3 &&& (2147483647 : Int32)) % (7 : Int32)) (3 : Int32) g19))), .val (.int (f3 ((x2 &&& (2147483647 : Int32)) % (7 : Int32)) ((x3 &&& (2147483647 : Int32)) % (7 : Int32)) (3 : Int32) g19))] []) by
    refine w_if_lt (pc := 155) X30 C at_155 162 (by decide) (fun q32 => ?_) (fun q32 => ?_)
    · skip
      rw [if_pos q32] at key33
      exact key33
    · skip
      refine w_iload (pc := 158) X30 C at_158 rfl ?_
      refine w_istore (pc := 160) X30 C at_160 #[.val (.int x0), .val (.long x1), .second, .val (.int x2), .val (.int x3), .val (.ref a1), .val (.int ((x2 &&& (2147483647 : Int32)) % (7 : Int32))), .val (.int ((x3 &&& (2147483647 : Int32)) % (7 : Int32))), .val (.int (f2 ((x2 &&& (2147483647 : Int32)) % (7 : Int32)) ((x3 &&& (2147483647 : Int32)) % (7 : Int32)) g19)), .val (.int (f3 ((x2 &&& (2147483647 : Int32)) % (7 : Int32)) ((x3 &&& (2147483647 : Int32)) % (7 : Int32)) (3 : Int32) g19)), .val (.int (f3 ((x2 &&& (2147483647 : Int32)) % (7 : Int32)) ((x3 &&& (2147483647 : Int32)) % (7 : Int32)) (3 : Int32) g19))] rfl ?_
      rw [if_neg q32] at key33
      exact key33
  refine w_aload (pc := 162) X30 C at_162 rfl rfl ?_
  refine w_iload (pc := 164) X30 C at_164 rfl ?_
  refine w_iload (pc := 166) X30 C at_166 rfl ?_
  refine w_iconst (pc := 168) X30 C at_168 (2 : Int32) rfl ?_
  refine w_callP (pc := 169) X30 C (y := (⟨"com/example/hengbiao/hengbiao/server/RequestHeadEndPinLaw", "matchAt", "([BIII)I"⟩ : MethodName)) (bytes := method_4_code) (maxL := 4) (rt := some .int) (argsL := [(.ref a1), (.int ((x2 &&& (2147483647 : Int32)) % (7 : Int32))), (.int ((x3 &&& (2147483647 : Int32)) % (7 : Int32))), (.int (2 : Int32))]) (rest := []) (w := .int (f3 ((x2 &&& (2147483647 : Int32)) % (7 : Int32)) ((x3 &&& (2147483647 : Int32)) % (7 : Int32)) (2 : Int32) g19)) (W := 0) at_169 (List.mem_of_getElem? (i := 10) rfl) (List.mem_of_getElem? (i := 11) rfl) (List.mem_of_getElem? (i := 3) rfl) (List.mem_of_getElem? (i := 12) rfl) (by decide) (ct3 l C.2.2.2.2.2.2.2.2 _ X30.size (a1) (((x2 &&& (2147483647 : Int32)) % (7 : Int32))) (((x3 &&& (2147483647 : Int32)) % (7 : Int32))) ((2 : Int32)) g19 A19 ⟨by decide, by decide⟩ hto) rfl rfl rfl ⟨_, _, pd_2, rfl⟩ rfl (Nat.le_of_eq rfl) (by decide) (by decide) (by decide) (by decide) (fun T35 X34 => ?_)
  refine w_istore (pc := 172) X34 C at_172 #[.val (.int x0), .val (.long x1), .second, .val (.int x2), .val (.int x3), .val (.ref a1), .val (.int ((x2 &&& (2147483647 : Int32)) % (7 : Int32))), .val (.int ((x3 &&& (2147483647 : Int32)) % (7 : Int32))), .val (.int (f2 ((x2 &&& (2147483647 : Int32)) % (7 : Int32)) ((x3 &&& (2147483647 : Int32)) % (7 : Int32)) g19)), .val (.int (if (f3 ((x2 &&& (2147483647 : Int32)) % (7 : Int32)) ((x3 &&& (2147483647 : Int32)) % (7 : Int32)) (3 : Int32) g19) < 0 then (if (f3 ((x2 &&& (2147483647 : Int32)) % (7 : Int32)) ((x3 &&& (2147483647 : Int32)) % (7 : Int32)) (4 : Int32) g19) < 0 then (if (f3 ((x2 &&& (2147483647 : Int32)) % (7 : Int32)) ((x3 &&& (2147483647 : Int32)) % (7 : Int32)) (5 : Int32) g19) < 0 then (-1 : Int32) else (f3 ((x2 &&& (2147483647 : Int32)) % (7 : Int32)) ((x3 &&& (2147483647 : Int32)) % (7 : Int32)) (5 : Int32) g19)) else (f3 ((x2 &&& (2147483647 : Int32)) % (7 : Int32)) ((x3 &&& (2147483647 : Int32)) % (7 : Int32)) (4 : Int32) g19)) else (f3 ((x2 &&& (2147483647 : Int32)) % (7 : Int32)) ((x3 &&& (2147483647 : Int32)) % (7 : Int32)) (3 : Int32) g19))), .val (.int (f3 ((x2 &&& (2147483647 : Int32)) % (7 : Int32)) ((x3 &&& (2147483647 : Int32)) % (7 : Int32)) (2 : Int32) g19))] rfl ?_
  refine w_iload (pc := 174) X34 C at_174 rfl ?_
  suffices key37 : Goes p e below s n0 (fun v _ => v = some (.int 1)) room_1.cells room_1.slots T35 (mkF m 183 #[.val (.int x0), .val (.long x1), .second, .val (.int x2), .val (.int x3), .val (.ref a1), .val (.int ((x2 &&& (2147483647 : Int32)) % (7 : Int32))), .val (.int ((x3 &&& (2147483647 : Int32)) % (7 : Int32))), .val (.int (f2 ((x2 &&& (2147483647 : Int32)) % (7 : Int32)) ((x3 &&& (2147483647 : Int32)) % (7 : Int32)) g19)), .val (.int (if (f3 ((x2 &&& (2147483647 : Int32)) % (7 : Int32)) ((x3 &&& (2147483647 : Int32)) % (7 : Int32)) (2 : Int32) g19) < 0 then (if (f3 ((x2 &&& (2147483647 : Int32)) % (7 : Int32)) ((x3 &&& (2147483647 : Int32)) % (7 : Int32)) (3 : Int32) g19) < 0 then (if (f3 ((x2 &&& (2147483647 : Int32)) % (7 : Int32)) ((x3 &&& (2147483647 : Int32)) % (7 : Int32)) (4 : Int32) g19) < 0 then (if (f3 ((x2 &&& (2147483647 : Int32)) % (7 : Int32)) ((x3 &&& (2147483647 : Int32)) % (7 : Int32)) (5 : Int32) g19) < 0 then (-1 : Int32) else (f3 ((x2 &&& (2147483647 : Int32)) % (7 : Int32)) ((x3 &&& (2147483647 : Int32)) % (7 : Int32)) (5 : Int32) g19)) else (f3 ((x2 &&& (2147483647 : Int32)) % (7 : Int32)) ((x3 &&& (2147483647 : Int32)) % (7 : Int32)) (4 : Int32) g19)) else (f3 ((x2 &&& (2147483647 : Int32)) % (7 : Int32)) ((x3 &&& (2147483647 : Int32)) % (7 : Int32)) (3 : Int32) g19)) else (f3 ((x2 &&& (2147483647 : Int32)) % (7 : Int32)) ((x3 &&& (2147483647 : Int32)) % (7 : Int32)) (2 : Int32) g19))), .val (.int (f3 ((x2 &&& (2147483647 : Int32)) % (7 : Int32)) ((x3 &&& (2147483647 : Int32)) % (7 : Int32)) (2 : Int32) g19))] []) by
    refine w_if_lt (pc := 176) X34 C at_176 183 (by decide) (fun q36 => ?_) (fun q36 => ?_)
    · skip
      rw [if_pos q36] at key37
      exact key37
    · skip
      refine w_iload (pc := 179) X34 C at_179 rfl ?_
      refine w_istore (pc := 181) X34 C at_181 #[.val (.int x0), .val (.long x1), .second, .val (.int x2), .val (.int x3), .val (.ref a1), .val (.int ((x2 &&& (2147483647 : Int32)) % (7 : Int32))), .val (.int ((x3 &&& (2147483647 : Int32)) % (7 : Int32))), .val (.int (f2 ((x2 &&& (2147483647 : Int32)) % (7 : Int32)) ((x3 &&& (2147483647 : Int32)) % (7 : Int32)) g19)), .val (.int (f3 ((x2 &&& (2147483647 : Int32)) % (7 : Int32)) ((x3 &&& (2147483647 : Int32)) % (7 : Int32)) (2 : Int32) g19)), .val (.int (f3 ((x2 &&& (2147483647 : Int32)) % (7 : Int32)) ((x3 &&& (2147483647 : Int32)) % (7 : Int32)) (2 : Int32) g19))] rfl ?_
      rw [if_neg q36] at key37
      exact key37
  refine w_aload (pc := 183) X34 C at_183 rfl rfl ?_
  refine w_iload (pc := 185) X34 C at_185 rfl ?_
  refine w_iload (pc := 187) X34 C at_187 rfl ?_
  refine w_iconst (pc := 189) X34 C at_189 (1 : Int32) rfl ?_
  refine w_callP (pc := 190) X34 C (y := (⟨"com/example/hengbiao/hengbiao/server/RequestHeadEndPinLaw", "matchAt", "([BIII)I"⟩ : MethodName)) (bytes := method_4_code) (maxL := 4) (rt := some .int) (argsL := [(.ref a1), (.int ((x2 &&& (2147483647 : Int32)) % (7 : Int32))), (.int ((x3 &&& (2147483647 : Int32)) % (7 : Int32))), (.int (1 : Int32))]) (rest := []) (w := .int (f3 ((x2 &&& (2147483647 : Int32)) % (7 : Int32)) ((x3 &&& (2147483647 : Int32)) % (7 : Int32)) (1 : Int32) g19)) (W := 0) at_190 (List.mem_of_getElem? (i := 10) rfl) (List.mem_of_getElem? (i := 11) rfl) (List.mem_of_getElem? (i := 3) rfl) (List.mem_of_getElem? (i := 12) rfl) (by decide) (ct3 l C.2.2.2.2.2.2.2.2 _ X34.size (a1) (((x2 &&& (2147483647 : Int32)) % (7 : Int32))) (((x3 &&& (2147483647 : Int32)) % (7 : Int32))) ((1 : Int32)) g19 A19 ⟨by decide, by decide⟩ hto) rfl rfl rfl ⟨_, _, pd_2, rfl⟩ rfl (Nat.le_of_eq rfl) (by decide) (by decide) (by decide) (by decide) (fun T39 X38 => ?_)
  refine w_istore (pc := 193) X38 C at_193 #[.val (.int x0), .val (.long x1), .second, .val (.int x2), .val (.int x3), .val (.ref a1), .val (.int ((x2 &&& (2147483647 : Int32)) % (7 : Int32))), .val (.int ((x3 &&& (2147483647 : Int32)) % (7 : Int32))), .val (.int (f2 ((x2 &&& (2147483647 : Int32)) % (7 : Int32)) ((x3 &&& (2147483647 : Int32)) % (7 : Int32)) g19)), .val (.int (if (f3 ((x2 &&& (2147483647 : Int32)) % (7 : Int32)) ((x3 &&& (2147483647 : Int32)) % (7 : Int32)) (2 : Int32) g19) < 0 then (if (f3 ((x2 &&& (2147483647 : Int32)) % (7 : Int32)) ((x3 &&& (2147483647 : Int32)) % (7 : Int32)) (3 : Int32) g19) < 0 then (if (f3 ((x2 &&& (2147483647 : Int32)) % (7 : Int32)) ((x3 &&& (2147483647 : Int32)) % (7 : Int32)) (4 : Int32) g19) < 0 then (if (f3 ((x2 &&& (2147483647 : Int32)) % (7 : Int32)) ((x3 &&& (2147483647 : Int32)) % (7 : Int32)) (5 : Int32) g19) < 0 then (-1 : Int32) else (f3 ((x2 &&& (2147483647 : Int32)) % (7 : Int32)) ((x3 &&& (2147483647 : Int32)) % (7 : Int32)) (5 : Int32) g19)) else (f3 ((x2 &&& (2147483647 : Int32)) % (7 : Int32)) ((x3 &&& (2147483647 : Int32)) % (7 : Int32)) (4 : Int32) g19)) else (f3 ((x2 &&& (2147483647 : Int32)) % (7 : Int32)) ((x3 &&& (2147483647 : Int32)) % (7 : Int32)) (3 : Int32) g19)) else (f3 ((x2 &&& (2147483647 : Int32)) % (7 : Int32)) ((x3 &&& (2147483647 : Int32)) % (7 : Int32)) (2 : Int32) g19))), .val (.int (f3 ((x2 &&& (2147483647 : Int32)) % (7 : Int32)) ((x3 &&& (2147483647 : Int32)) % (7 : Int32)) (1 : Int32) g19))] rfl ?_
  refine w_iload (pc := 195) X38 C at_195 rfl ?_
  suffices key41 : Goes p e below s n0 (fun v _ => v = some (.int 1)) room_1.cells room_1.slots T39 (mkF m 204 #[.val (.int x0), .val (.long x1), .second, .val (.int x2), .val (.int x3), .val (.ref a1), .val (.int ((x2 &&& (2147483647 : Int32)) % (7 : Int32))), .val (.int ((x3 &&& (2147483647 : Int32)) % (7 : Int32))), .val (.int (f2 ((x2 &&& (2147483647 : Int32)) % (7 : Int32)) ((x3 &&& (2147483647 : Int32)) % (7 : Int32)) g19)), .val (.int (if (f3 ((x2 &&& (2147483647 : Int32)) % (7 : Int32)) ((x3 &&& (2147483647 : Int32)) % (7 : Int32)) (1 : Int32) g19) < 0 then (if (f3 ((x2 &&& (2147483647 : Int32)) % (7 : Int32)) ((x3 &&& (2147483647 : Int32)) % (7 : Int32)) (2 : Int32) g19) < 0 then (if (f3 ((x2 &&& (2147483647 : Int32)) % (7 : Int32)) ((x3 &&& (2147483647 : Int32)) % (7 : Int32)) (3 : Int32) g19) < 0 then (if (f3 ((x2 &&& (2147483647 : Int32)) % (7 : Int32)) ((x3 &&& (2147483647 : Int32)) % (7 : Int32)) (4 : Int32) g19) < 0 then (if (f3 ((x2 &&& (2147483647 : Int32)) % (7 : Int32)) ((x3 &&& (2147483647 : Int32)) % (7 : Int32)) (5 : Int32) g19) < 0 then (-1 : Int32) else (f3 ((x2 &&& (2147483647 : Int32)) % (7 : Int32)) ((x3 &&& (2147483647 : Int32)) % (7 : Int32)) (5 : Int32) g19)) else (f3 ((x2 &&& (2147483647 : Int32)) % (7 : Int32)) ((x3 &&& (2147483647 : Int32)) % (7 : Int32)) (4 : Int32) g19)) else (f3 ((x2 &&& (2147483647 : Int32)) % (7 : Int32)) ((x3 &&& (2147483647 : Int32)) % (7 : Int32)) (3 : Int32) g19)) else (f3 ((x2 &&& (2147483647 : Int32)) % (7 : Int32)) ((x3 &&& (2147483647 : Int32)) % (7 : Int32)) (2 : Int32) g19)) else (f3 ((x2 &&& (2147483647 : Int32)) % (7 : Int32)) ((x3 &&& (2147483647 : Int32)) % (7 : Int32)) (1 : Int32) g19))), .val (.int (f3 ((x2 &&& (2147483647 : Int32)) % (7 : Int32)) ((x3 &&& (2147483647 : Int32)) % (7 : Int32)) (1 : Int32) g19))] []) by
    refine w_if_lt (pc := 197) X38 C at_197 204 (by decide) (fun q40 => ?_) (fun q40 => ?_)
    · skip
      rw [if_pos q40] at key41
      exact key41
    · skip
      refine w_iload (pc := 200) X38 C at_200 rfl ?_
      refine w_istore (pc := 202) X38 C at_202 #[.val (.int x0), .val (.long x1), .second, .val (.int x2), .val (.int x3), .val (.ref a1), .val (.int ((x2 &&& (2147483647 : Int32)) % (7 : Int32))), .val (.int ((x3 &&& (2147483647 : Int32)) % (7 : Int32))), .val (.int (f2 ((x2 &&& (2147483647 : Int32)) % (7 : Int32)) ((x3 &&& (2147483647 : Int32)) % (7 : Int32)) g19)), .val (.int (f3 ((x2 &&& (2147483647 : Int32)) % (7 : Int32)) ((x3 &&& (2147483647 : Int32)) % (7 : Int32)) (1 : Int32) g19)), .val (.int (f3 ((x2 &&& (2147483647 : Int32)) % (7 : Int32)) ((x3 &&& (2147483647 : Int32)) % (7 : Int32)) (1 : Int32) g19))] rfl ?_
      rw [if_neg q40] at key41
      exact key41
  refine w_aload (pc := 204) X38 C at_204 rfl rfl ?_
  refine w_iload (pc := 206) X38 C at_206 rfl ?_
  refine w_iload (pc := 208) X38 C at_208 rfl ?_
  refine w_iconst (pc := 210) X38 C at_210 (0 : Int32) rfl ?_
  refine w_callP (pc := 211) X38 C (y := (⟨"com/example/hengbiao/hengbiao/server/RequestHeadEndPinLaw", "matchAt", "([BIII)I"⟩ : MethodName)) (bytes := method_4_code) (maxL := 4) (rt := some .int) (argsL := [(.ref a1), (.int ((x2 &&& (2147483647 : Int32)) % (7 : Int32))), (.int ((x3 &&& (2147483647 : Int32)) % (7 : Int32))), (.int (0 : Int32))]) (rest := []) (w := .int (f3 ((x2 &&& (2147483647 : Int32)) % (7 : Int32)) ((x3 &&& (2147483647 : Int32)) % (7 : Int32)) (0 : Int32) g19)) (W := 0) at_211 (List.mem_of_getElem? (i := 10) rfl) (List.mem_of_getElem? (i := 11) rfl) (List.mem_of_getElem? (i := 3) rfl) (List.mem_of_getElem? (i := 12) rfl) (by decide) (ct3 l C.2.2.2.2.2.2.2.2 _ X38.size (a1) (((x2 &&& (2147483647 : Int32)) % (7 : Int32))) (((x3 &&& (2147483647 : Int32)) % (7 : Int32))) ((0 : Int32)) g19 A19 ⟨by decide, by decide⟩ hto) rfl rfl rfl ⟨_, _, pd_2, rfl⟩ rfl (Nat.le_of_eq rfl) (by decide) (by decide) (by decide) (by decide) (fun T43 X42 => ?_)
  refine w_istore (pc := 214) X42 C at_214 #[.val (.int x0), .val (.long x1), .second, .val (.int x2), .val (.int x3), .val (.ref a1), .val (.int ((x2 &&& (2147483647 : Int32)) % (7 : Int32))), .val (.int ((x3 &&& (2147483647 : Int32)) % (7 : Int32))), .val (.int (f2 ((x2 &&& (2147483647 : Int32)) % (7 : Int32)) ((x3 &&& (2147483647 : Int32)) % (7 : Int32)) g19)), .val (.int (if (f3 ((x2 &&& (2147483647 : Int32)) % (7 : Int32)) ((x3 &&& (2147483647 : Int32)) % (7 : Int32)) (1 : Int32) g19) < 0 then (if (f3 ((x2 &&& (2147483647 : Int32)) % (7 : Int32)) ((x3 &&& (2147483647 : Int32)) % (7 : Int32)) (2 : Int32) g19) < 0 then (if (f3 ((x2 &&& (2147483647 : Int32)) % (7 : Int32)) ((x3 &&& (2147483647 : Int32)) % (7 : Int32)) (3 : Int32) g19) < 0 then (if (f3 ((x2 &&& (2147483647 : Int32)) % (7 : Int32)) ((x3 &&& (2147483647 : Int32)) % (7 : Int32)) (4 : Int32) g19) < 0 then (if (f3 ((x2 &&& (2147483647 : Int32)) % (7 : Int32)) ((x3 &&& (2147483647 : Int32)) % (7 : Int32)) (5 : Int32) g19) < 0 then (-1 : Int32) else (f3 ((x2 &&& (2147483647 : Int32)) % (7 : Int32)) ((x3 &&& (2147483647 : Int32)) % (7 : Int32)) (5 : Int32) g19)) else (f3 ((x2 &&& (2147483647 : Int32)) % (7 : Int32)) ((x3 &&& (2147483647 : Int32)) % (7 : Int32)) (4 : Int32) g19)) else (f3 ((x2 &&& (2147483647 : Int32)) % (7 : Int32)) ((x3 &&& (2147483647 : Int32)) % (7 : Int32)) (3 : Int32) g19)) else (f3 ((x2 &&& (2147483647 : Int32)) % (7 : Int32)) ((x3 &&& (2147483647 : Int32)) % (7 : Int32)) (2 : Int32) g19)) else (f3 ((x2 &&& (2147483647 : Int32)) % (7 : Int32)) ((x3 &&& (2147483647 : Int32)) % (7 : Int32)) (1 : Int32) g19))), .val (.int (f3 ((x2 &&& (2147483647 : Int32)) % (7 : Int32)) ((x3 &&& (2147483647 : Int32)) % (7 : Int32)) (0 : Int32) g19))] rfl ?_
  refine w_iload (pc := 216) X42 C at_216 rfl ?_
  suffices key45 : Goes p e below s n0 (fun v _ => v = some (.int 1)) room_1.cells room_1.slots T43 (mkF m 225 #[.val (.int x0), .val (.long x1), .second, .val (.int x2), .val (.int x3), .val (.ref a1), .val (.int ((x2 &&& (2147483647 : Int32)) % (7 : Int32))), .val (.int ((x3 &&& (2147483647 : Int32)) % (7 : Int32))), .val (.int (f2 ((x2 &&& (2147483647 : Int32)) % (7 : Int32)) ((x3 &&& (2147483647 : Int32)) % (7 : Int32)) g19)), .val (.int (if (f3 ((x2 &&& (2147483647 : Int32)) % (7 : Int32)) ((x3 &&& (2147483647 : Int32)) % (7 : Int32)) (0 : Int32) g19) < 0 then (if (f3 ((x2 &&& (2147483647 : Int32)) % (7 : Int32)) ((x3 &&& (2147483647 : Int32)) % (7 : Int32)) (1 : Int32) g19) < 0 then (if (f3 ((x2 &&& (2147483647 : Int32)) % (7 : Int32)) ((x3 &&& (2147483647 : Int32)) % (7 : Int32)) (2 : Int32) g19) < 0 then (if (f3 ((x2 &&& (2147483647 : Int32)) % (7 : Int32)) ((x3 &&& (2147483647 : Int32)) % (7 : Int32)) (3 : Int32) g19) < 0 then (if (f3 ((x2 &&& (2147483647 : Int32)) % (7 : Int32)) ((x3 &&& (2147483647 : Int32)) % (7 : Int32)) (4 : Int32) g19) < 0 then (if (f3 ((x2 &&& (2147483647 : Int32)) % (7 : Int32)) ((x3 &&& (2147483647 : Int32)) % (7 : Int32)) (5 : Int32) g19) < 0 then (-1 : Int32) else (f3 ((x2 &&& (2147483647 : Int32)) % (7 : Int32)) ((x3 &&& (2147483647 : Int32)) % (7 : Int32)) (5 : Int32) g19)) else (f3 ((x2 &&& (2147483647 : Int32)) % (7 : Int32)) ((x3 &&& (2147483647 : Int32)) % (7 : Int32)) (4 : Int32) g19)) else (f3 ((x2 &&& (2147483647 : Int32)) % (7 : Int32)) ((x3 &&& (2147483647 : Int32)) % (7 : Int32)) (3 : Int32) g19)) else (f3 ((x2 &&& (2147483647 : Int32)) % (7 : Int32)) ((x3 &&& (2147483647 : Int32)) % (7 : Int32)) (2 : Int32) g19)) else (f3 ((x2 &&& (2147483647 : Int32)) % (7 : Int32)) ((x3 &&& (2147483647 : Int32)) % (7 : Int32)) (1 : Int32) g19)) else (f3 ((x2 &&& (2147483647 : Int32)) % (7 : Int32)) ((x3 &&& (2147483647 : Int32)) % (7 : Int32)) (0 : Int32) g19))), .val (.int (f3 ((x2 &&& (2147483647 : Int32)) % (7 : Int32)) ((x3 &&& (2147483647 : Int32)) % (7 : Int32)) (0 : Int32) g19))] []) by
    refine w_if_lt (pc := 218) X42 C at_218 225 (by decide) (fun q44 => ?_) (fun q44 => ?_)
    · skip
      rw [if_pos q44] at key45
      exact key45
    · skip
      refine w_iload (pc := 221) X42 C at_221 rfl ?_
      refine w_istore (pc := 223) X42 C at_223 #[.val (.int x0), .val (.long x1), .second, .val (.int x2), .val (.int x3), .val (.ref a1), .val (.int ((x2 &&& (2147483647 : Int32)) % (7 : Int32))), .val (.int ((x3 &&& (2147483647 : Int32)) % (7 : Int32))), .val (.int (f2 ((x2 &&& (2147483647 : Int32)) % (7 : Int32)) ((x3 &&& (2147483647 : Int32)) % (7 : Int32)) g19)), .val (.int (f3 ((x2 &&& (2147483647 : Int32)) % (7 : Int32)) ((x3 &&& (2147483647 : Int32)) % (7 : Int32)) (0 : Int32) g19)), .val (.int (f3 ((x2 &&& (2147483647 : Int32)) % (7 : Int32)) ((x3 &&& (2147483647 : Int32)) % (7 : Int32)) (0 : Int32) g19))] rfl ?_
      rw [if_neg q44] at key45
      exact key45
  refine w_iload (pc := 225) X42 C at_225 rfl ?_
  refine w_iload (pc := 227) X42 C at_227 rfl ?_
  refine w_icmp_ne (pc := 229) X42 C at_229 236 (by decide) (fun q46 => absurd (own_val _ _ _ hfrom hfrom6 hto0 hto) q46) (fun q46 => ?_)
  refine w_iconst (pc := 232) X42 C at_232 (1 : Int32) rfl ?_
  refine w_goto (pc := 233) X42 C at_233 237 (by decide) ?_
  exact w_ret_boolean (pc := 237) X42 C at_237 rfl
set_option maxRecDepth 65536 in
theorem law_ct (l : Launch) {Z : State} {a0 : Array Value} (hw : ∀ d ∈ tables_1, d.before a0 Z = true) (h : Heap) {n0 : Nat} (hn : n0 ≤ h.size) (x0 : Int32) (x1 : Int64) (x2 : Int32) (x3 : Int32) : Ct l x code maxLocals ret room_1 Z #[(.int x0), (.long x1), (.int x2), (.int x3)] h n0 (fun v _ => v = some (.int 1)) :=
  Ct.of (plainFor_of_name pn_0) #[.val (.int x0), .val (.long x1), .second, .val (.int x2), .val (.int x3), .unset, .unset, .unset, .unset, .unset, .unset] (fun m => by first | (simp [entryFrame, mkF, argsToLocals, Value.category, maxLocals]; done) | rfl) hw hn (fun p e s m below meth c T C X => law_walk X C x0 x1 x2 x3)
set_option maxRecDepth 65536 in
set_option maxHeartbeats 40000000 in
theorem comes_1 {Post : Tables → Env → Array Value → State → Outcome → State → Prop} (hpost : ∀ tb e args s v u, (limb_1_1.after args s (.returned v) u = true ∧ limb_1_2.after args s (.returned v) u = true ∧ True) → FrameEnd s (.returned v) u (Jvm.fieldLocs frame_1_writes args s ++ Jvm.arrayLocs frame_1_arrays args s ++ Jvm.staticLocs frame_1_statics s) 16 128 → Post tb e args s (.returned v) u) :
    ArmFor flags0 classFile x code maxLocals ret World_1 tables_1 room_1 Calls_1 rest_1 Pre_1 Post := by
  intro l hfl _ _ p e ha hc hk s m args below hf hA hF happ hP
  obtain ⟨hcalls, hrest, hpre⟩ := hP
  obtain ⟨-, -, -, hnamed, -, -, -, hat⟩ := (Spec.applies_iff hf).mp happ
  obtain ⟨hg, hn⟩ := and_e (Cond.before_iff.mp (show (Jvm.Cond.and given_1 narrow_1).before args s = true from hpre))
  obtain ⟨g1, g2⟩ := and_e hg
  obtain ⟨g3, g4⟩ := and_e g2
  obtain ⟨g5, g6⟩ := and_e g4
  obtain ⟨g7, g8⟩ := and_e g6
  obtain ⟨w0, w1, w2, w3, rfl⟩ : ∃ w0 w1 w2 w3 : Value, args = #[w0, w1, w2, w3] := by
    have hs : args.size = 4 := by simpa [Cond.value, given_1] using g1
    obtain ⟨L⟩ := args
    match L, hs with
    | [w0, w1, w2, w3], _ => exact ⟨w0, w1, w2, w3, rfl⟩
  have hw := fun d (hd : d ∈ tables_1) => atoms_spec (ws := Jvm.Cond.code x code maxLocals ret :: tables_1) hat d (List.mem_cons_of_mem _ hd)
  obtain ⟨i0, ei0⟩ := is_v g3
  obtain rfl : w0 = (.int i0) := Option.some.inj ei0
  obtain ⟨i1, ei1⟩ := isL_v g5
  obtain rfl : w1 = (.long i1) := Option.some.inj ei1
  obtain ⟨i2, ei2⟩ := is_v g7
  obtain rfl : w2 = (.int i2) := Option.some.inj ei2
  obtain ⟨i3, ei3⟩ := is_v g8
  obtain rfl : w3 = (.int i3) := Option.some.inj ei3
  obtain ⟨n, o, h1, h2, h3, _, L, rfl, ⟨N, rfl⟩, hq⟩ := law_ct l hw s.heap (Nat.le_refl _) i0 i1 i2 i3 tables_1 p e ha hc hk s m _ below hf ((Spec.applies_iff_loose hf).mp happ).1 ⟨rfl, State.Warmed39.refl s, rfl⟩ trivial
  refine ⟨n, _, h1, h2, h3, hpost _ _ _ _ _ _ ⟨Cond.after_iff.mpr rfl, Cond.after_iff.mpr (eq_i res_at (Term.int_eval (1)) rfl), trivial⟩ ⟨hq.1, hq.2.1, (hq.2.2.sift fun y hy => Or.inr (N y hy)).mono (by decide) (by decide)⟩⟩
theorem main_1_1 : Claimed_1_1 := comes_1 fun _ _ _ _ _ _ h hF => ⟨h.1, hF⟩
theorem main_1_2 : Claimed_1_2 := comes_1 fun _ _ _ _ _ _ h hF => ⟨h.2.1, hF⟩
end Jvm.Pilot.@@N@@
namespace Jvm.Pilot.@@N@@
open Jvm Jvm.ClassFile Sem Op Lib Jvm.Free Jvm.Stand Jvm.Pilot.@@N@@.Jvm.D
/-! MADE BY PROGRAM (witnessworld.py) out of the Statement's table words and the real class files: 9 classes; the members and pool entries that the words name. The judged class is class 1, her method 1. -/
namespace start1
open Jvm.ClassFile
def u (s : String) : CpInfo := .utf8 (stringToUtf16 s)
/-- a pool by its gaps: so many unusable entries, then the entry; so many at the end -/
def gap : Nat → List CpInfo → List CpInfo
  | 0, r => r
  | n + 1, r => .unusable :: gap n r
def poolList (es : List (Nat × CpInfo)) (last : Nat) : List CpInfo := es.foldr (fun e r => gap e.1 (e.2 :: r)) (gap last [])
def pool (es : List (Nat × CpInfo)) (last : Nat) : Array CpInfo := ⟨poolList es last⟩
def fileOf (pool : Array CpInfo) (this : Nat) (attrs : Array Attribute := #[]) (ms : Array MethodInfo := #[]) (fl : Nat := 33) (sup : Nat := 0) (ifs : Array Nat := #[]) (fds : Array FieldInfo := #[]) : ClassFile where
  minorVersion := 0
  majorVersion := 65
  constantPool := pool
  accessFlags := fl
  thisClass := this
  superClass := sup
  interfaces := ifs
  fields := fds
  methods := ms
  attributes := attrs
def plain (name : String) (sup : Option ClassId) : Class where
  name := name
  kind := .ordinary
  loader := none
  accessFlags := 33
  super := sup
  interfaces := #[]
  cf := none
  fields := #[]
  methods := #[]
  instanceTypes := #[]
  staticTypes := #[]
  resolved := #[]
  callSites := []
  init := .initialized
  statics := none
  mirror := none

def pool0 : Array CpInfo := pool [(5, u "<init>"), (0, u "()V"), (1, .class_ 10), (1, u "java/lang/Object")] 113

def k0m0 : Method := { name := "<init>", desc := "()V", sig := { parameters := [], returnType := none }, accessFlags := 1, code := none }
/-- java/lang/Object -/
def k0 : Class := { plain "java/lang/Object" none with
  accessFlags := 33
  interfaces := #[]
  cf := some (fileOf pool0 8 #[] #[{ accessFlags := 1, nameIndex := 5, descriptorIndex := 6, attributes := #[] }] 33 0 #[] #[])
  fields := #[]
  methods := #[k0m0]
  instanceTypes := #[]
  staticTypes := #[]
  resolved := Array.replicate 124 none
  statics := none }

def pool1 : Array CpInfo := pool [(2, .class_ 4), (1, u "java/lang/Object"), (0, u "<init>"), (0, u "()V"), (0, .methodref 8 9), (0, .class_ 10), (0, .nameAndType 11 12), (0, u "com/example/hengbiao/hengbiao/server/RequestHeadEndPinLaw"), (0, u "pick"), (0, u "(IIJ)B"), (0, .integer 2147483647), (0, .methodref 15 16), (0, .class_ 17), (0, .nameAndType 18 19), (0, u "com/example/hengbiao/hengbiao/server/RequestHead"), (0, u "end"), (0, u "([BII)I"), (0, .methodref 8 21), (0, .nameAndType 22 23), (0, u "matchAt"), (0, u "([BIII)I"), (2, u "law"), (0, u "(IJII)Z")] 5

def k1m0 : Method := { name := "<init>", desc := "()V", sig := { parameters := [], returnType := none }, accessFlags := 1, code := none }
def k1c1 : Code := { maxStack := 6, maxLocals := 11, code := code, exceptionTable := #[], attributes := #[] }
def k1m1 : Method := { name := "law", desc := "(IJII)Z", sig := { parameters := [.int, .long, .int, .int], returnType := some .boolean }, accessFlags := 9, code := some k1c1 }
def k1c2 : Code := { maxStack := 4, maxLocals := 5, code := method_3_code, exceptionTable := #[], attributes := #[] }
def k1m2 : Method := { name := "pick", desc := "(IIJ)B", sig := { parameters := [.int, .int, .long], returnType := some .byte }, accessFlags := 10, code := some k1c2 }
def k1c3 : Code := { maxStack := 3, maxLocals := 4, code := method_4_code, exceptionTable := #[], attributes := #[] }
def k1m3 : Method := { name := "matchAt", desc := "([BIII)I", sig := { parameters := [(.array .byte), .int, .int, .int], returnType := some .int }, accessFlags := 10, code := some k1c3 }
/-- com/example/hengbiao/hengbiao/server/RequestHeadEndPinLaw -/
def k1 : Class := { plain "com/example/hengbiao/hengbiao/server/RequestHeadEndPinLaw" (some 0) with
  accessFlags := 49
  interfaces := #[]
  cf := some (fileOf pool1 8 #[] #[{ accessFlags := 1, nameIndex := 5, descriptorIndex := 6, attributes := #[] }, { accessFlags := 9, nameIndex := 26, descriptorIndex := 27, attributes := #[] }, { accessFlags := 10, nameIndex := 11, descriptorIndex := 12, attributes := #[] }, { accessFlags := 10, nameIndex := 22, descriptorIndex := 23, attributes := #[] }] 49 2 #[] #[])
  fields := #[]
  methods := #[k1m0, k1m1, k1m2, k1m3]
  instanceTypes := #[]
  staticTypes := #[]
  resolved := Array.replicate 33 none
  statics := none }

def pool2 : Array CpInfo := pool [(2, .class_ 4), (1, u "java/lang/Object"), (3, .class_ 10), (1, u "com/example/hengbiao/hengbiao/server/RequestHead"), (0, u "method"), (0, u "Ljava/lang/String;"), (2, u "target"), (2, u "http11"), (0, u "Z"), (2, u "fields"), (0, u "Ljava/util/Map;"), (16, u "path"), (5, u "query"), (23, u "chunked"), (7, u "length"), (3, u "J"), (218, u "TOKEN_MARKS"), (1, u "MAX_LENGTH_DIGITS"), (0, u "I"), (1, u "BAD_REQUEST_LINE"), (7, u "end"), (0, u "([BII)I")] 55

def k2c0 : Code := { maxStack := 3, maxLocals := 5, code := prog_79_method_2_code, exceptionTable := #[], attributes := #[] }
def k2m0 : Method := { name := "end", desc := "([BII)I", sig := { parameters := [(.array .byte), .int, .int], returnType := some .int }, accessFlags := 8, code := some k2c0 }
/-- com/example/hengbiao/hengbiao/server/RequestHead -/
def k2 : Class := { plain "com/example/hengbiao/hengbiao/server/RequestHead" (some 0) with
  accessFlags := 48
  interfaces := #[]
  cf := some (fileOf pool2 8 #[] #[{ accessFlags := 8, nameIndex := 314, descriptorIndex := 315, attributes := #[] }] 48 2 #[] #[{ accessFlags := 26, nameIndex := 301, descriptorIndex := 12, attributes := #[] }, { accessFlags := 26, nameIndex := 303, descriptorIndex := 304, attributes := #[] }, { accessFlags := 26, nameIndex := 306, descriptorIndex := 12, attributes := #[] }, { accessFlags := 18, nameIndex := 11, descriptorIndex := 12, attributes := #[] }, { accessFlags := 18, nameIndex := 15, descriptorIndex := 12, attributes := #[] }, { accessFlags := 18, nameIndex := 40, descriptorIndex := 12, attributes := #[] }, { accessFlags := 18, nameIndex := 46, descriptorIndex := 12, attributes := #[] }, { accessFlags := 18, nameIndex := 18, descriptorIndex := 19, attributes := #[] }, { accessFlags := 18, nameIndex := 22, descriptorIndex := 23, attributes := #[] }, { accessFlags := 18, nameIndex := 78, descriptorIndex := 82, attributes := #[] }, { accessFlags := 18, nameIndex := 70, descriptorIndex := 19, attributes := #[] }])
  fields := #[{ name := "TOKEN_MARKS", type := (.object "java/lang/String"), accessFlags := 26, slot := 0, constantValue := 0 }, { name := "MAX_LENGTH_DIGITS", type := .int, accessFlags := 26, slot := 1, constantValue := 0 }, { name := "BAD_REQUEST_LINE", type := (.object "java/lang/String"), accessFlags := 26, slot := 2, constantValue := 0 }, { name := "method", type := (.object "java/lang/String"), accessFlags := 18, slot := 0, constantValue := 0 }, { name := "target", type := (.object "java/lang/String"), accessFlags := 18, slot := 1, constantValue := 0 }, { name := "path", type := (.object "java/lang/String"), accessFlags := 18, slot := 2, constantValue := 0 }, { name := "query", type := (.object "java/lang/String"), accessFlags := 18, slot := 3, constantValue := 0 }, { name := "http11", type := .boolean, accessFlags := 18, slot := 4, constantValue := 0 }, { name := "fields", type := (.object "java/util/Map"), accessFlags := 18, slot := 5, constantValue := 0 }, { name := "length", type := .long, accessFlags := 18, slot := 6, constantValue := 0 }, { name := "chunked", type := .boolean, accessFlags := 18, slot := 7, constantValue := 0 }]
  methods := #[k2m0]
  instanceTypes := #[(.object "java/lang/String"), (.object "java/lang/String"), (.object "java/lang/String"), (.object "java/lang/String"), .boolean, (.object "java/util/Map"), .long, .boolean]
  staticTypes := #[(.object "java/lang/String"), .int, (.object "java/lang/String")]
  resolved := Array.replicate 371 none
  statics := none }

def pool3 : Array CpInfo := pool [(1, u "java/lang/Cloneable"), (0, .class_ 1), (0, u "java/lang/Object"), (0, .class_ 3)] 3

/-- java/lang/Cloneable -/
def k3 : Class := { plain "java/lang/Cloneable" (some 0) with
  accessFlags := 1537
  interfaces := #[]
  cf := some (fileOf pool3 2 #[] #[] 1537 4 #[] #[])
  fields := #[]
  methods := #[]
  instanceTypes := #[]
  staticTypes := #[]
  resolved := Array.replicate 8 none
  statics := none }

def pool4 : Array CpInfo := pool [(1, u "java/io/Serializable"), (0, .class_ 1), (0, u "java/lang/Object"), (0, .class_ 3)] 3

/-- java/io/Serializable -/
def k4 : Class := { plain "java/io/Serializable" (some 0) with
  accessFlags := 1537
  interfaces := #[]
  cf := some (fileOf pool4 2 #[] #[] 1537 4 #[] #[])
  fields := #[]
  methods := #[]
  instanceTypes := #[]
  staticTypes := #[]
  resolved := Array.replicate 8 none
  statics := none }

/-- the primitive byte -/
def k5 : Class := { plain "byte" none with kind := .primitive 'B', accessFlags := 0x411 }
/-- [B -/
def k6 : Class := { plain "[B" (some 0) with kind := .array 5 .byte, interfaces := #[3, 4], accessFlags := 1041 }

/-- the primitive int -/
def k7 : Class := { plain "int" none with kind := .primitive 'I', accessFlags := 0x411 }
/-- [I -/
def k8 : Class := { plain "[I" (some 0) with kind := .array 7 .int, interfaces := #[3, 4], accessFlags := 1041 }

def heap : Heap := #[]
def classes : Array Class := #[k0, k1, k2, k3, k4, k5, k6, k7, k8]
def interned : List (Array UInt16 × Addr) := []
def slotsUsed : Nat := 0
def theMethod : MethodId := ⟨1, 1⟩
def args0 : Array Value := #[.int 5, .long 3, .int 2, .int 4]
def aboutOver (below : List Frame) : State where
  vm := { classes := classes, interned := interned.toArray }
  heap := heap
  slotsUsed := slotsUsed
  threads := #[{ frames := .invoking theMethod args0 :: below }]
def below0 : List Frame := [.native { method := ⟨0, 0⟩, args := #[] }]
def about1 : State := aboutOver below0
def p0 : Program := .bare "" "" ""
def e0 : Env := launch0.env 0 0 0
theorem w_frames : about1.frames = Frame.invoking theMethod args0 :: below0 := rfl
set_option maxRecDepth 65536 in
theorem w_args : argsFit about1.vm theMethod args0 = true := by decide +kernel
set_option maxRecDepth 65536 in
theorem w_heap : heapFits about1 = true := by decide +kernel
set_option maxRecDepth 65536 in
theorem w_runnable : about1.curStatus? = some .runnable := by decide +kernel
set_option maxRecDepth 65536 in
theorem w_alone : about1.alone = true := by decide +kernel
set_option maxRecDepth 65536 in
theorem w_named : about1.methodNamed? x = some theMethod := by decide +kernel
set_option maxRecDepth 65536 in
theorem w_hears : about1.hears theMethod below0 = true := by decide +kernel
set_option maxRecDepth 65536 in
theorem w_ripe : about1.ripe theMethod args0 below0 = true := by decide +kernel
theorem w_running : about1.status = .running := rfl
set_option maxRecDepth 65536 in
theorem w_room : about1.hasRoom e0.platform room_1 = true :=
  launch0.hasRoom_least _ room_1 (by decide +kernel) (by decide +kernel) (by decide +kernel) (by decide +kernel) (by decide +kernel) (by decide +kernel)
theorem allAtoms_all (ts : List Jvm.Cond) (a : Array Jvm.Value) (st : Jvm.State) : (allAtoms ts).before a st = ts.all (fun c => c.before a st) := by
  induction ts with
  | nil => rfl
  | cons c t ih =>
    show (Jvm.Cond.and c (allAtoms t)).before a st = _
    rw [Jvm.Cond.before_and, ih, List.all_cons]
def words1 : List Jvm.Cond := Jvm.Cond.code x code maxLocals ret :: tables_1
/-- a 'code' word, met by the world's own term for the bytes: nothing is compared byte by byte -/
theorem code_word {y : MethodName} {bytes : ByteArray} {mx : Nat} {rt : Option FieldType} {a : Array Value} {s : State} {m : MethodId} {meth : Method} {c : Code} (h1 : s.methodNamed? y = some m) (h2 : s.vm.method? m = some meth) (h3 : meth.code = some c) (h4 : c.code = bytes)
    (h5 : (c.maxLocals == mx && c.exceptionTable.isEmpty && decide (c.maxStack ≤ mostOperands) && decide (meth.sig.returnType = rt) && !meth.locks && decide (parseMethodDescriptor y.desc = some meth.sig)) = true) : (Jvm.Cond.code y bytes mx rt).before a s = true := by
  simp only [Bool.and_eq_true, beq_iff_eq, Bool.not_eq_true', decide_eq_true_eq] at h5
  obtain ⟨⟨⟨⟨⟨g1, g2⟩, g3⟩, g4⟩, g5⟩, g6⟩ := h5
  simp [Cond.before, Cond.holds, Cond.value, h1, h2, h3, h4, g1, g2, g3, g4, g5, g6]
def isCode : Jvm.Cond → Bool
  | .code _ _ _ _ => true
  | _ => false
theorem all_split {L : List Jvm.Cond} {P : Jvm.Cond → Bool} (h1 : L.all (fun c => isCode c || P c) = true) (h2 : ∀ c ∈ L.filter isCode, P c = true) : L.all P = true := by
  refine List.all_eq_true.mpr fun c hc => ?_
  have h := List.all_eq_true.mp h1 c hc
  rcases Bool.eq_false_or_eq_true (isCode c) with hi | hi
  · exact h2 c (List.mem_filter.mpr ⟨hc, hi⟩)
  · simpa [hi] using h
set_option maxRecDepth 65536 in
theorem w_c0 : (Jvm.Cond.code x code maxLocals ret).before args0 about1 = true := code_word (m := ⟨1, 1⟩) (meth := k1m1) (c := k1c1) (by decide +kernel) rfl rfl rfl (by decide +kernel)
set_option maxRecDepth 65536 in
theorem w_c1 : (Jvm.Cond.code ({ cls := "com/example/hengbiao/hengbiao/server/RequestHeadEndPinLaw", name := "pick", desc := "(IIJ)B" } : Jvm.MethodName) method_3_code (5 : Nat) (Option.some Jvm.ClassFile.FieldType.byte)).before args0 about1 = true := code_word (m := ⟨1, 2⟩) (meth := k1m2) (c := k1c2) (by decide +kernel) rfl rfl rfl (by decide +kernel)
set_option maxRecDepth 65536 in
theorem w_c2 : (Jvm.Cond.code ({ cls := "com/example/hengbiao/hengbiao/server/RequestHead", name := "end", desc := "([BII)I" } : Jvm.MethodName) prog_79_method_2_code (5 : Nat) (Option.some Jvm.ClassFile.FieldType.int)).before args0 about1 = true := code_word (m := ⟨2, 0⟩) (meth := k2m0) (c := k2c0) (by decide +kernel) rfl rfl rfl (by decide +kernel)
set_option maxRecDepth 65536 in
theorem w_c3 : (Jvm.Cond.code ({ cls := "com/example/hengbiao/hengbiao/server/RequestHeadEndPinLaw", name := "matchAt", desc := "([BIII)I" } : Jvm.MethodName) method_4_code (4 : Nat) (Option.some Jvm.ClassFile.FieldType.int)).before args0 about1 = true := code_word (m := ⟨1, 3⟩) (meth := k1m3) (c := k1c3) (by decide +kernel) rfl rfl rfl (by decide +kernel)
def codes1 : List Jvm.Cond := [Jvm.Cond.code x code maxLocals ret, Jvm.Cond.code ({ cls := "com/example/hengbiao/hengbiao/server/RequestHeadEndPinLaw", name := "pick", desc := "(IIJ)B" } : Jvm.MethodName) method_3_code (5 : Nat) (Option.some Jvm.ClassFile.FieldType.byte), Jvm.Cond.code ({ cls := "com/example/hengbiao/hengbiao/server/RequestHead", name := "end", desc := "([BII)I" } : Jvm.MethodName) prog_79_method_2_code (5 : Nat) (Option.some Jvm.ClassFile.FieldType.int), Jvm.Cond.code ({ cls := "com/example/hengbiao/hengbiao/server/RequestHeadEndPinLaw", name := "matchAt", desc := "([BIII)I" } : Jvm.MethodName) method_4_code (4 : Nat) (Option.some Jvm.ClassFile.FieldType.int)]
set_option maxRecDepth 65536 in
theorem codes_eq : words1.filter isCode = codes1 := rfl
theorem w_codes : ∀ c ∈ words1.filter isCode, c.before args0 about1 = true := by
  rw [codes_eq]
  intro c hc
  simp only [codes1, List.mem_cons, List.not_mem_nil, or_false] at hc
  rcases hc with rfl | rfl | rfl | rfl
  · exact w_c0
  · exact w_c1
  · exact w_c2
  · exact w_c3
set_option maxRecDepth 65536 in
theorem w_t1 : words1.all (fun c => isCode c || c.before args0 about1) = true := by decide +kernel
theorem w_tables : (allAtoms (Jvm.Cond.code x code maxLocals ret :: tables_1)).before args0 about1 = true := by
  rw [allAtoms_all]
  show words1.all (fun c => c.before args0 about1) = true
  refine all_split ?_ w_codes
  rw [w_t1]
set_option maxRecDepth 65536 in
theorem w_case : (Jvm.Cond.and given_1 narrow_1).before args0 about1 = true := by decide +kernel
theorem w_applies : (headSpec (Jvm.Cond.code x code maxLocals ret :: tables_1) room_1).applies x e0.platform about1 = true :=
  (Spec.applies_iff w_frames).mpr ⟨w_running, w_runnable, w_alone, w_named, w_hears, w_ripe, w_room, w_tables⟩
theorem atStart : AtStart classFile x code maxLocals ret World_1 tables_1 room_1 Calls_1 rest_1 Pre_1 launch0 p0 e0 about1 theMethod args0 below0 :=
  ⟨lists_1, trivial, launch0.admits_env _ _ _, launch0.least_env, fairChoices_fair.cas, fairChoices_fair.clock, w_frames, w_args, w_heap, w_applies, trivial, trivial, w_case⟩
end start1
theorem witness_1 : WitnessClaimed_1 := ⟨start1.p0, start1.e0, start1.about1, start1.theMethod, start1.args0, start1.below0, start1.atStart⟩
end Jvm.Pilot.@@N@@
