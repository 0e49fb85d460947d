import JvmDerived
import JvmDerived.Pilot.@@N@@Statement
import JvmDerived.Pilot.@@N@@Code
set_option linter.unusedVariables false
set_option linter.unusedSimpArgs false
namespace Jvm.Pilot.@@N@@
open Jvm Jvm.ClassFile Sem Op Lib Jvm.Free Jvm.Stand Jvm.LawKit Jvm.RoadKit Bundle Jvm.Pilot.@@N@@.Jvm.D
abbrev iI (x : Int32) : Value := .int x
abbrev jJ (x : Int64) : Value := .long x
theorem wm {d : Jvm.Cond} (i : Nat) (h : tables_1[i]? = some d) : d ∈ tables_1 := List.mem_of_getElem? h
namespace Own
section Eng
/-- from the frame g over the heap h, with k cells and n slots made so far, every standing run ends as Fn says, having written at or above n0 alone -/
def Goes (p : Program) (l : Launch) (e : Env) (R : Room) (s : State) (m : MethodId) (args : Array Value) (below : List Frame) (meth : Method) (c : Code) (n0 mc ms : Nat) (Fn : Option Value → Heap → Prop) (h : Heap) (k n : Nat) (g : JFrame) : Prop :=
  ∀ (T : State) (locs : List Loc), Stand p l e R s m args below meth c T locs k n → Fr n0 locs → T.heap = h →
    ∃ (s₂ : State) (o : Outcome), Steps p.tables e below (T.setTop g) s₂ ∧ s₂.status = .running ∧ Ended s₂ below o ∧ ∃ (v : Option Value) (L : List Loc), o = .returned v ∧ (Fn v s₂.heap ∧ Fr n0 L) ∧ FrameEnd s o s₂ L mc ms
/-- the contract of a method at one list of arguments and one heap -/
def Does (l : Launch) (y : MethodName) (bytes : ByteArray) (maxL : Nat) (ret : Option FieldType) (ws : List Jvm.Cond) (rm : Room) (Z : State) (as' : Array Value) (h0 : Heap) (n0 : Nat) (Fn : Option Value → Heap → Prop) : Prop :=
  MetFree l y (head1 (Jvm.Cond.code y bytes maxL ret :: ws) rm) (fun a U => a = as' ∧ Z.Warmed39 U.vm ∧ U.heap = h0) (fun _ _ _ _ _ => True) (fun _ U o U' => ∃ v L, o = .returned v ∧ (Fn v U'.heap ∧ Fr n0 L) ∧ FrameEnd U o U' L rm.cells rm.slots)
variable {p : Program} {l : Launch} {e : Env} {R : Room} {s : State} {m : MethodId} {args : Array Value} {below : List Frame} {meth : Method} {c : Code} {n0 mc ms : Nat} {Fn : Option Value → Heap → Prop} {h : Heap} {k n : Nat}
theorem doesOf {y : MethodName} {bytes : ByteArray} {maxL : Nat} {ret : Option FieldType} {ws : List Jvm.Cond} {rm : Room} {Z : State} {as' : Array Value} {h0 : Heap} (hy : plainFor y = true)
    (body : ∀ (p : Program) (e : Env) (s : State) (m : MethodId) (below : List Frame) (meth : Method) (c : Code), p.tables.exec = Jvm.exec → c.code = bytes → c.maxLocals = maxL → meth.sig.returnType = ret → meth.locks = false → s.vm.findClass y.cls = some m.cls → meth.name = y.name → Z.Warmed39 s.vm →
      Goes p l e rm s m as' below meth c n0 rm.cells rm.slots Fn h0 0 0 (entryFrame m as' maxL)) : Does l y bytes maxL ret ws rm Z as' h0 n0 Fn := by
  refine MetFree.of_bodySF hy hisR ?_
  intro p e s m args below meth c s₁ Bd hml hP _
  obtain ⟨rfl, hZ, hh⟩ := hP
  have e0 : s₁.heap = h0 := by rw [← hh, Bd.state]; rfl
  obtain ⟨s₂, o, h1, h2, h3, h4⟩ := body p e s m below meth c Bd.exec Bd.bytes hml Bd.returns Bd.notSynchronized (findClass_of_methodNamed Bd.named) (name_of_methodNamed Bd.named Bd.method).1 hZ s₁ [] (Stand.of_body Bd) (Fr.nil n0) e0
  exact ⟨s₂, o, h1, h2, h3, h4⟩
theorem Goes.pure {g g' : JFrame} (st : ∀ (T : State) (locs : List Loc) (t : State), Stand p l e R s m args below meth c T locs k n → Steps p.tables e below (T.setTop g') t → Steps p.tables e below (T.setTop g) t) (K : Goes p l e R s m args below meth c n0 mc ms Fn h k n g') : Goes p l e R s m args below meth c n0 mc ms Fn h k n g := fun T locs X N eT => by
  obtain ⟨s₂, o, hs, r⟩ := K T locs X N eT
  exact ⟨s₂, o, st T locs s₂ X hs, r⟩
theorem Goes.move {g g' : JFrame} {k' n' : Nat} {Pr : Heap → Prop} (st : ∀ (T : State) (locs : List Loc), Stand p l e R s m args below meth c T locs k n → Fr n0 locs → T.heap = h → ∃ (T' : State) (locs' : List Loc), Stand p l e R s m args below meth c T' locs' k' n' ∧ Fr n0 locs' ∧ Pr T'.heap ∧ ∀ t, Steps p.tables e below (T'.setTop g') t → Steps p.tables e below (T.setTop g) t)
    (K : ∀ h', Pr h' → Goes p l e R s m args below meth c n0 mc ms Fn h' k' n' g') : Goes p l e R s m args below meth c n0 mc ms Fn h k n g := fun T locs X N eT => by
  obtain ⟨T', locs', X', N', hP, st'⟩ := st T locs X N eT
  obtain ⟨s₂, o, hs, r⟩ := K T'.heap hP T' locs' X' N' rfl
  exact ⟨s₂, o, st' s₂ hs, r⟩
theorem Goes.join {g : JFrame} (g' : JFrame) (K1 : Goes p l e R s m args below meth c n0 mc ms Fn h k n g' → Goes p l e R s m args below meth c n0 mc ms Fn h k n g) (K2 : Goes p l e R s m args below meth c n0 mc ms Fn h k n g') : Goes p l e R s m args below meth c n0 mc ms Fn h k n g := K1 K2
theorem Goes.cast {g g' : JFrame} (q : g = g') (K : Goes p l e R s m args below meth c n0 mc ms Fn h k n g') : Goes p l e R s m args below meth c n0 mc ms Fn h k n g := q ▸ K
theorem Goes.fin {Fn' : Option Value → Heap → Prop} {g : JFrame} (q : ∀ v h, Fn v h → Fn' v h) (K : Goes p l e R s m args below meth c n0 mc ms Fn h k n g) : Goes p l e R s m args below meth c n0 mc ms Fn' h k n g := fun T locs X N eT => by
  obtain ⟨s₂, o, h1, h2, h3, v, L, h4, ⟨h5, h6⟩, h7⟩ := K T locs X N eT
  exact ⟨s₂, o, h1, h2, h3, v, L, h4, ⟨q _ _ h5, h6⟩, h7⟩

theorem iadd (hx : p.tables.exec = Jvm.exec) {pc pc' : Nat} {Ls : Array Slot} {x y : Int32} {rest : List Value} (hd : decode c.code pc = .ok (.iadd, 1)) (hp : pc + 1 = pc') (K : Goes p l e R s m args below meth c n0 mc ms Fn h k n (mkF m pc' Ls (.int (x + y) :: rest))) : Goes p l e R s m args below meth c n0 mc ms Fn h k n (mkF m pc Ls (.int y :: .int x :: rest)) := by
  subst hp; exact K.pure fun T locs t X hs => XS.iadd X.here hx rfl hd rfl hs
theorem isub (hx : p.tables.exec = Jvm.exec) {pc pc' : Nat} {Ls : Array Slot} {x y : Int32} {rest : List Value} (hd : decode c.code pc = .ok (.isub, 1)) (hp : pc + 1 = pc') (K : Goes p l e R s m args below meth c n0 mc ms Fn h k n (mkF m pc' Ls (.int (x - y) :: rest))) : Goes p l e R s m args below meth c n0 mc ms Fn h k n (mkF m pc Ls (.int y :: .int x :: rest)) := by
  subst hp; exact K.pure fun T locs t X hs => XS.isub X.here hx rfl hd rfl hs
theorem imul (hx : p.tables.exec = Jvm.exec) {pc pc' : Nat} {Ls : Array Slot} {x y : Int32} {rest : List Value} (hd : decode c.code pc = .ok (.imul, 1)) (hp : pc + 1 = pc') (K : Goes p l e R s m args below meth c n0 mc ms Fn h k n (mkF m pc' Ls (.int (x * y) :: rest))) : Goes p l e R s m args below meth c n0 mc ms Fn h k n (mkF m pc Ls (.int y :: .int x :: rest)) := by
  subst hp; exact K.pure fun T locs t X hs => XS.imul X.here hx rfl hd rfl hs
theorem iand (hx : p.tables.exec = Jvm.exec) {pc pc' : Nat} {Ls : Array Slot} {x y : Int32} {rest : List Value} (hd : decode c.code pc = .ok (.iand, 1)) (hp : pc + 1 = pc') (K : Goes p l e R s m args below meth c n0 mc ms Fn h k n (mkF m pc' Ls (.int (x &&& y) :: rest))) : Goes p l e R s m args below meth c n0 mc ms Fn h k n (mkF m pc Ls (.int y :: .int x :: rest)) := by
  subst hp; exact K.pure fun T locs t X hs => XS.iand X.here hx rfl hd rfl hs
theorem ior (hx : p.tables.exec = Jvm.exec) {pc pc' : Nat} {Ls : Array Slot} {x y : Int32} {rest : List Value} (hd : decode c.code pc = .ok (.ior, 1)) (hp : pc + 1 = pc') (K : Goes p l e R s m args below meth c n0 mc ms Fn h k n (mkF m pc' Ls (.int (x ||| y) :: rest))) : Goes p l e R s m args below meth c n0 mc ms Fn h k n (mkF m pc Ls (.int y :: .int x :: rest)) := by
  subst hp; exact K.pure fun T locs t X hs => XS.ior X.here hx rfl hd rfl hs
theorem ixor (hx : p.tables.exec = Jvm.exec) {pc pc' : Nat} {Ls : Array Slot} {x y : Int32} {rest : List Value} (hd : decode c.code pc = .ok (.ixor, 1)) (hp : pc + 1 = pc') (K : Goes p l e R s m args below meth c n0 mc ms Fn h k n (mkF m pc' Ls (.int (x ^^^ y) :: rest))) : Goes p l e R s m args below meth c n0 mc ms Fn h k n (mkF m pc Ls (.int y :: .int x :: rest)) := by
  subst hp; exact K.pure fun T locs t X hs => XS.ixor X.here hx rfl hd rfl hs
theorem ishl (hx : p.tables.exec = Jvm.exec) {pc pc' : Nat} {Ls : Array Slot} {x y : Int32} {rest : List Value} (hd : decode c.code pc = .ok (.ishl, 1)) (hp : pc + 1 = pc') (K : Goes p l e R s m args below meth c n0 mc ms Fn h k n (mkF m pc' Ls (.int (x <<< (y &&& 31)) :: rest))) : Goes p l e R s m args below meth c n0 mc ms Fn h k n (mkF m pc Ls (.int y :: .int x :: rest)) := by
  subst hp; exact K.pure fun T locs t X hs => XS.ishl X.here hx rfl hd rfl hs
theorem ishr (hx : p.tables.exec = Jvm.exec) {pc pc' : Nat} {Ls : Array Slot} {x y : Int32} {rest : List Value} (hd : decode c.code pc = .ok (.ishr, 1)) (hp : pc + 1 = pc') (K : Goes p l e R s m args below meth c n0 mc ms Fn h k n (mkF m pc' Ls (.int (x >>> (y &&& 31)) :: rest))) : Goes p l e R s m args below meth c n0 mc ms Fn h k n (mkF m pc Ls (.int y :: .int x :: rest)) := by
  subst hp; exact K.pure fun T locs t X hs => XS.ishr X.here hx rfl hd rfl hs
theorem iushr (hx : p.tables.exec = Jvm.exec) {pc pc' : Nat} {Ls : Array Slot} {x y : Int32} {rest : List Value} (hd : decode c.code pc = .ok (.iushr, 1)) (hp : pc + 1 = pc') (K : Goes p l e R s m args below meth c n0 mc ms Fn h k n (mkF m pc' Ls (.int ((x.toUInt32 >>> (y &&& 31).toUInt32).toInt32) :: rest))) : Goes p l e R s m args below meth c n0 mc ms Fn h k n (mkF m pc Ls (.int y :: .int x :: rest)) := by
  subst hp; exact K.pure fun T locs t X hs => XS.iushr X.here hx rfl hd rfl hs
theorem ladd (hx : p.tables.exec = Jvm.exec) {pc pc' : Nat} {Ls : Array Slot} {x y : Int64} {rest : List Value} (hd : decode c.code pc = .ok (.ladd, 1)) (hp : pc + 1 = pc') (K : Goes p l e R s m args below meth c n0 mc ms Fn h k n (mkF m pc' Ls (.long (x + y) :: rest))) : Goes p l e R s m args below meth c n0 mc ms Fn h k n (mkF m pc Ls (.long y :: .long x :: rest)) := by
  subst hp; exact K.pure fun T locs t X hs => XS.ladd X.here hx rfl hd rfl hs
theorem lsub (hx : p.tables.exec = Jvm.exec) {pc pc' : Nat} {Ls : Array Slot} {x y : Int64} {rest : List Value} (hd : decode c.code pc = .ok (.lsub, 1)) (hp : pc + 1 = pc') (K : Goes p l e R s m args below meth c n0 mc ms Fn h k n (mkF m pc' Ls (.long (x - y) :: rest))) : Goes p l e R s m args below meth c n0 mc ms Fn h k n (mkF m pc Ls (.long y :: .long x :: rest)) := by
  subst hp; exact K.pure fun T locs t X hs => XS.lsub X.here hx rfl hd rfl hs
theorem lmul (hx : p.tables.exec = Jvm.exec) {pc pc' : Nat} {Ls : Array Slot} {x y : Int64} {rest : List Value} (hd : decode c.code pc = .ok (.lmul, 1)) (hp : pc + 1 = pc') (K : Goes p l e R s m args below meth c n0 mc ms Fn h k n (mkF m pc' Ls (.long (x * y) :: rest))) : Goes p l e R s m args below meth c n0 mc ms Fn h k n (mkF m pc Ls (.long y :: .long x :: rest)) := by
  subst hp; exact K.pure fun T locs t X hs => XS.lmul X.here hx rfl hd rfl hs
theorem land (hx : p.tables.exec = Jvm.exec) {pc pc' : Nat} {Ls : Array Slot} {x y : Int64} {rest : List Value} (hd : decode c.code pc = .ok (.land, 1)) (hp : pc + 1 = pc') (K : Goes p l e R s m args below meth c n0 mc ms Fn h k n (mkF m pc' Ls (.long (x &&& y) :: rest))) : Goes p l e R s m args below meth c n0 mc ms Fn h k n (mkF m pc Ls (.long y :: .long x :: rest)) := by
  subst hp; exact K.pure fun T locs t X hs => XS.land X.here hx rfl hd rfl hs
theorem lor (hx : p.tables.exec = Jvm.exec) {pc pc' : Nat} {Ls : Array Slot} {x y : Int64} {rest : List Value} (hd : decode c.code pc = .ok (.lor, 1)) (hp : pc + 1 = pc') (K : Goes p l e R s m args below meth c n0 mc ms Fn h k n (mkF m pc' Ls (.long (x ||| y) :: rest))) : Goes p l e R s m args below meth c n0 mc ms Fn h k n (mkF m pc Ls (.long y :: .long x :: rest)) := by
  subst hp; exact K.pure fun T locs t X hs => XS.lor X.here hx rfl hd rfl hs
theorem lxor (hx : p.tables.exec = Jvm.exec) {pc pc' : Nat} {Ls : Array Slot} {x y : Int64} {rest : List Value} (hd : decode c.code pc = .ok (.lxor, 1)) (hp : pc + 1 = pc') (K : Goes p l e R s m args below meth c n0 mc ms Fn h k n (mkF m pc' Ls (.long (x ^^^ y) :: rest))) : Goes p l e R s m args below meth c n0 mc ms Fn h k n (mkF m pc Ls (.long y :: .long x :: rest)) := by
  subst hp; exact K.pure fun T locs t X hs => XS.lxor X.here hx rfl hd rfl hs
theorem lshl (hx : p.tables.exec = Jvm.exec) {pc pc' : Nat} {Ls : Array Slot} {x : Int64} {y : Int32} {rest : List Value} (hd : decode c.code pc = .ok (.lshl, 1)) (hp : pc + 1 = pc') (K : Goes p l e R s m args below meth c n0 mc ms Fn h k n (mkF m pc' Ls (.long (x <<< (y &&& 0x3f).toInt64) :: rest))) : Goes p l e R s m args below meth c n0 mc ms Fn h k n (mkF m pc Ls (.int y :: .long x :: rest)) := by
  subst hp; exact K.pure fun T locs t X hs => XS.lshl X.here hx rfl hd rfl hs
theorem lshr (hx : p.tables.exec = Jvm.exec) {pc pc' : Nat} {Ls : Array Slot} {x : Int64} {y : Int32} {rest : List Value} (hd : decode c.code pc = .ok (.lshr, 1)) (hp : pc + 1 = pc') (K : Goes p l e R s m args below meth c n0 mc ms Fn h k n (mkF m pc' Ls (.long (x >>> (y &&& 0x3f).toInt64) :: rest))) : Goes p l e R s m args below meth c n0 mc ms Fn h k n (mkF m pc Ls (.int y :: .long x :: rest)) := by
  subst hp; exact K.pure fun T locs t X hs => XS.lshr X.here hx rfl hd rfl hs
theorem lushr (hx : p.tables.exec = Jvm.exec) {pc pc' : Nat} {Ls : Array Slot} {x : Int64} {y : Int32} {rest : List Value} (hd : decode c.code pc = .ok (.lushr, 1)) (hp : pc + 1 = pc') (K : Goes p l e R s m args below meth c n0 mc ms Fn h k n (mkF m pc' Ls (.long ((x.toUInt64 >>> (y &&& 0x3f).toInt64.toUInt64).toInt64) :: rest))) : Goes p l e R s m args below meth c n0 mc ms Fn h k n (mkF m pc Ls (.int y :: .long x :: rest)) := by
  subst hp; exact K.pure fun T locs t X hs => XS.lushr X.here hx rfl hd rfl hs
theorem lcmp (hx : p.tables.exec = Jvm.exec) {pc pc' : Nat} {Ls : Array Slot} {x y : Int64} {rest : List Value} (hd : decode c.code pc = .ok (.lcmp, 1)) (hp : pc + 1 = pc') (K : Goes p l e R s m args below meth c n0 mc ms Fn h k n (mkF m pc' Ls (.int (lcmpW x y) :: rest))) : Goes p l e R s m args below meth c n0 mc ms Fn h k n (mkF m pc Ls (.long y :: .long x :: rest)) := by
  subst hp; exact K.pure fun T locs t X hs => XS.lcmp X.here hx rfl hd rfl hs
theorem idiv (hx : p.tables.exec = Jvm.exec) {pc pc' : Nat} {Ls : Array Slot} {x y : Int32} {rest : List Value} (hd : decode c.code pc = .ok (.idiv, 1)) (hp : pc + 1 = pc') (hy : y ≠ 0) (K : Goes p l e R s m args below meth c n0 mc ms Fn h k n (mkF m pc' Ls (.int (x / y) :: rest))) : Goes p l e R s m args below meth c n0 mc ms Fn h k n (mkF m pc Ls (.int y :: .int x :: rest)) := by
  subst hp; exact K.pure fun T locs t X hs => XS.idiv X.here hx rfl hd rfl hy hs
theorem irem (hx : p.tables.exec = Jvm.exec) {pc pc' : Nat} {Ls : Array Slot} {x y : Int32} {rest : List Value} (hd : decode c.code pc = .ok (.irem, 1)) (hp : pc + 1 = pc') (hy : y ≠ 0) (K : Goes p l e R s m args below meth c n0 mc ms Fn h k n (mkF m pc' Ls (.int (x % y) :: rest))) : Goes p l e R s m args below meth c n0 mc ms Fn h k n (mkF m pc Ls (.int y :: .int x :: rest)) := by
  subst hp; exact K.pure fun T locs t X hs => iremM X hx rfl hd rfl hy hs
theorem ldiv (hx : p.tables.exec = Jvm.exec) {pc pc' : Nat} {Ls : Array Slot} {x y : Int64} {rest : List Value} (hd : decode c.code pc = .ok (.ldiv, 1)) (hp : pc + 1 = pc') (hy : y ≠ 0) (K : Goes p l e R s m args below meth c n0 mc ms Fn h k n (mkF m pc' Ls (.long (x / y) :: rest))) : Goes p l e R s m args below meth c n0 mc ms Fn h k n (mkF m pc Ls (.long y :: .long x :: rest)) := by
  subst hp; exact K.pure fun T locs t X hs => XS.ldiv X.here hx rfl hd rfl hy hs
theorem lrem (hx : p.tables.exec = Jvm.exec) {pc pc' : Nat} {Ls : Array Slot} {x y : Int64} {rest : List Value} (hd : decode c.code pc = .ok (.lrem, 1)) (hp : pc + 1 = pc') (hy : y ≠ 0) (K : Goes p l e R s m args below meth c n0 mc ms Fn h k n (mkF m pc' Ls (.long (x % y) :: rest))) : Goes p l e R s m args below meth c n0 mc ms Fn h k n (mkF m pc Ls (.long y :: .long x :: rest)) := by
  subst hp; exact K.pure fun T locs t X hs => XS.lrem X.here hx rfl hd rfl hy (by rw [lrem_mod]; exact hs)
theorem ineg (hx : p.tables.exec = Jvm.exec) {pc pc' : Nat} {Ls : Array Slot} {x : Int32} {rest : List Value} (hd : decode c.code pc = .ok (.ineg, 1)) (hp : pc + 1 = pc') (K : Goes p l e R s m args below meth c n0 mc ms Fn h k n (mkF m pc' Ls (.int (-x) :: rest))) : Goes p l e R s m args below meth c n0 mc ms Fn h k n (mkF m pc Ls (.int x :: rest)) := by
  subst hp; exact K.pure fun T locs t X hs => XS.ineg X.here hx rfl hd rfl hs
theorem lneg (hx : p.tables.exec = Jvm.exec) {pc pc' : Nat} {Ls : Array Slot} {x : Int64} {rest : List Value} (hd : decode c.code pc = .ok (.lneg, 1)) (hp : pc + 1 = pc') (K : Goes p l e R s m args below meth c n0 mc ms Fn h k n (mkF m pc' Ls (.long (-x) :: rest))) : Goes p l e R s m args below meth c n0 mc ms Fn h k n (mkF m pc Ls (.long x :: rest)) := by
  subst hp; exact K.pure fun T locs t X hs => XS.lneg X.here hx rfl hd rfl hs
theorem i2l (hx : p.tables.exec = Jvm.exec) {pc pc' : Nat} {Ls : Array Slot} {x : Int32} {rest : List Value} (hd : decode c.code pc = .ok (.i2l, 1)) (hp : pc + 1 = pc') (K : Goes p l e R s m args below meth c n0 mc ms Fn h k n (mkF m pc' Ls (.long (x.toInt64) :: rest))) : Goes p l e R s m args below meth c n0 mc ms Fn h k n (mkF m pc Ls (.int x :: rest)) := by
  subst hp; exact K.pure fun T locs t X hs => XS.i2l X.here hx rfl hd rfl hs
theorem l2i (hx : p.tables.exec = Jvm.exec) {pc pc' : Nat} {Ls : Array Slot} {x : Int64} {rest : List Value} (hd : decode c.code pc = .ok (.l2i, 1)) (hp : pc + 1 = pc') (K : Goes p l e R s m args below meth c n0 mc ms Fn h k n (mkF m pc' Ls (.int (x.toInt32) :: rest))) : Goes p l e R s m args below meth c n0 mc ms Fn h k n (mkF m pc Ls (.long x :: rest)) := by
  subst hp; exact K.pure fun T locs t X hs => XS.l2i X.here hx rfl hd rfl hs
theorem i2b (hx : p.tables.exec = Jvm.exec) {pc pc' : Nat} {Ls : Array Slot} {x : Int32} {rest : List Value} (hd : decode c.code pc = .ok (.i2b, 1)) (hp : pc + 1 = pc') (K : Goes p l e R s m args below meth c n0 mc ms Fn h k n (mkF m pc' Ls (.int (x.toInt8.toInt32) :: rest))) : Goes p l e R s m args below meth c n0 mc ms Fn h k n (mkF m pc Ls (.int x :: rest)) := by
  subst hp; exact K.pure fun T locs t X hs => XS.i2b X.here hx rfl hd rfl hs
theorem i2s (hx : p.tables.exec = Jvm.exec) {pc pc' : Nat} {Ls : Array Slot} {x : Int32} {rest : List Value} (hd : decode c.code pc = .ok (.i2s, 1)) (hp : pc + 1 = pc') (K : Goes p l e R s m args below meth c n0 mc ms Fn h k n (mkF m pc' Ls (.int (x.toInt16.toInt32) :: rest))) : Goes p l e R s m args below meth c n0 mc ms Fn h k n (mkF m pc Ls (.int x :: rest)) := by
  subst hp; exact K.pure fun T locs t X hs => XS.i2s X.here hx rfl hd rfl hs
theorem i2c (hx : p.tables.exec = Jvm.exec) {pc pc' : Nat} {Ls : Array Slot} {x : Int32} {rest : List Value} (hd : decode c.code pc = .ok (.i2c, 1)) (hp : pc + 1 = pc') (K : Goes p l e R s m args below meth c n0 mc ms Fn h k n (mkF m pc' Ls (.int (x.toUInt32.toUInt16.toUInt32.toInt32) :: rest))) : Goes p l e R s m args below meth c n0 mc ms Fn h k n (mkF m pc Ls (.int x :: rest)) := by
  subst hp; exact K.pure fun T locs t X hs => XS.i2c X.here hx rfl hd rfl hs
theorem iload (hx : p.tables.exec = Jvm.exec) {pc pc' i : Nat} {Ls : Array Slot} (x : Int32) {rest : List Value} (hd : decode c.code pc = .ok (.iload i, 2)) (hp : pc + 2 = pc') (hl : Ls[i]? = some (.val (.int x))) (K : Goes p l e R s m args below meth c n0 mc ms Fn h k n (mkF m pc' Ls (.int x :: rest))) : Goes p l e R s m args below meth c n0 mc ms Fn h k n (mkF m pc Ls rest) := by
  subst hp; exact K.pure fun T locs t X hs => XS.iload X.here hx rfl hd hl hs
theorem iloadN (hx : p.tables.exec = Jvm.exec) {pc pc' : Nat} {i : Fin 4} {Ls : Array Slot} (x : Int32) {rest : List Value} (hd : decode c.code pc = .ok (.iload_n i, 1)) (hp : pc + 1 = pc') (hl : Ls[i.val]? = some (.val (.int x))) (K : Goes p l e R s m args below meth c n0 mc ms Fn h k n (mkF m pc' Ls (.int x :: rest))) : Goes p l e R s m args below meth c n0 mc ms Fn h k n (mkF m pc Ls rest) := by
  subst hp; exact K.pure fun T locs t X hs => XS.iloadN X.here hx rfl hd hl hs
theorem lload (hx : p.tables.exec = Jvm.exec) {pc pc' i : Nat} {Ls : Array Slot} (x : Int64) {rest : List Value} (hd : decode c.code pc = .ok (.lload i, 2)) (hp : pc + 2 = pc') (hl : Ls[i]? = some (.val (.long x))) (K : Goes p l e R s m args below meth c n0 mc ms Fn h k n (mkF m pc' Ls (.long x :: rest))) : Goes p l e R s m args below meth c n0 mc ms Fn h k n (mkF m pc Ls rest) := by
  subst hp; exact K.pure fun T locs t X hs => XS.lload X.here hx rfl hd hl hs
theorem lloadN (hx : p.tables.exec = Jvm.exec) {pc pc' : Nat} {i : Fin 4} {Ls : Array Slot} (x : Int64) {rest : List Value} (hd : decode c.code pc = .ok (.lload_n i, 1)) (hp : pc + 1 = pc') (hl : Ls[i.val]? = some (.val (.long x))) (K : Goes p l e R s m args below meth c n0 mc ms Fn h k n (mkF m pc' Ls (.long x :: rest))) : Goes p l e R s m args below meth c n0 mc ms Fn h k n (mkF m pc Ls rest) := by
  subst hp; exact K.pure fun T locs t X hs => XS.lloadN X.here hx rfl hd hl hs
theorem aload (hx : p.tables.exec = Jvm.exec) {pc pc' i : Nat} {Ls : Array Slot} (x : Value) {rest : List Value} (hd : decode c.code pc = .ok (.aload i, 2)) (hp : pc + 2 = pc') (hl : Ls[i]? = some (.val x)) (hv : x.isRef = true) (K : Goes p l e R s m args below meth c n0 mc ms Fn h k n (mkF m pc' Ls (x :: rest))) : Goes p l e R s m args below meth c n0 mc ms Fn h k n (mkF m pc Ls rest) := by
  subst hp; exact K.pure fun T locs t X hs => XS.aload X.here hx rfl hd hl hv hs
theorem aloadN (hx : p.tables.exec = Jvm.exec) {pc pc' : Nat} {i : Fin 4} {Ls : Array Slot} (x : Value) {rest : List Value} (hd : decode c.code pc = .ok (.aload_n i, 1)) (hp : pc + 1 = pc') (hl : Ls[i.val]? = some (.val x)) (hv : x.isRef = true) (K : Goes p l e R s m args below meth c n0 mc ms Fn h k n (mkF m pc' Ls (x :: rest))) : Goes p l e R s m args below meth c n0 mc ms Fn h k n (mkF m pc Ls rest) := by
  subst hp; exact K.pure fun T locs t X hs => XS.aloadN X.here hx rfl hd hl hv hs
theorem istore (hx : p.tables.exec = Jvm.exec) {pc pc' i : Nat} {Ls : Array Slot} {x : Int32} (z : Int32) (hz : z = x) {rest : List Value} (Ls' : Array Slot) (hd : decode c.code pc = .ok (.istore i, 2)) (hp : pc + 2 = pc') (hl : storeLocals Ls i (.int z) = some Ls') (K : Goes p l e R s m args below meth c n0 mc ms Fn h k n (mkF m pc' Ls' rest)) : Goes p l e R s m args below meth c n0 mc ms Fn h k n (mkF m pc Ls (.int x :: rest)) := by
  subst hp hz; exact K.pure fun T locs t X hs => XS.istore X.here hx rfl hd rfl hl hs
theorem istoreN (hx : p.tables.exec = Jvm.exec) {pc pc' : Nat} {i : Fin 4} {Ls : Array Slot} {x : Int32} (z : Int32) (hz : z = x) {rest : List Value} (Ls' : Array Slot) (hd : decode c.code pc = .ok (.istore_n i, 1)) (hp : pc + 1 = pc') (hl : storeLocals Ls i.val (.int z) = some Ls') (K : Goes p l e R s m args below meth c n0 mc ms Fn h k n (mkF m pc' Ls' rest)) : Goes p l e R s m args below meth c n0 mc ms Fn h k n (mkF m pc Ls (.int x :: rest)) := by
  subst hp hz; exact K.pure fun T locs t X hs => XS.istoreN X.here hx rfl hd rfl hl hs
theorem lstore (hx : p.tables.exec = Jvm.exec) {pc pc' i : Nat} {Ls : Array Slot} {x : Int64} (z : Int64) (hz : z = x) {rest : List Value} (Ls' : Array Slot) (hd : decode c.code pc = .ok (.lstore i, 2)) (hp : pc + 2 = pc') (hl : storeLocals Ls i (.long z) = some Ls') (K : Goes p l e R s m args below meth c n0 mc ms Fn h k n (mkF m pc' Ls' rest)) : Goes p l e R s m args below meth c n0 mc ms Fn h k n (mkF m pc Ls (.long x :: rest)) := by
  subst hp hz; exact K.pure fun T locs t X hs => XS.lstore X.here hx rfl hd rfl hl hs
theorem lstoreN (hx : p.tables.exec = Jvm.exec) {pc pc' : Nat} {i : Fin 4} {Ls : Array Slot} {x : Int64} (z : Int64) (hz : z = x) {rest : List Value} (Ls' : Array Slot) (hd : decode c.code pc = .ok (.lstore_n i, 1)) (hp : pc + 1 = pc') (hl : storeLocals Ls i.val (.long z) = some Ls') (K : Goes p l e R s m args below meth c n0 mc ms Fn h k n (mkF m pc' Ls' rest)) : Goes p l e R s m args below meth c n0 mc ms Fn h k n (mkF m pc Ls (.long x :: rest)) := by
  subst hp hz; exact K.pure fun T locs t X hs => XS.lstoreN X.here hx rfl hd rfl hl hs
theorem astore (hx : p.tables.exec = Jvm.exec) {pc pc' i : Nat} {Ls : Array Slot} {x : Value} {rest : List Value} (Ls' : Array Slot) (hd : decode c.code pc = .ok (.astore i, 2)) (hp : pc + 2 = pc') (hv : x.isRef = true) (hl : storeLocals Ls i x = some Ls') (K : Goes p l e R s m args below meth c n0 mc ms Fn h k n (mkF m pc' Ls' rest)) : Goes p l e R s m args below meth c n0 mc ms Fn h k n (mkF m pc Ls (x :: rest)) := by
  subst hp; exact K.pure fun T locs t X hs => XS.astore X.here hx rfl hd rfl hv hl hs
theorem astoreN (hx : p.tables.exec = Jvm.exec) {pc pc' : Nat} {i : Fin 4} {Ls : Array Slot} {x : Value} {rest : List Value} (Ls' : Array Slot) (hd : decode c.code pc = .ok (.astore_n i, 1)) (hp : pc + 1 = pc') (hv : x.isRef = true) (hl : storeLocals Ls i.val x = some Ls') (K : Goes p l e R s m args below meth c n0 mc ms Fn h k n (mkF m pc' Ls' rest)) : Goes p l e R s m args below meth c n0 mc ms Fn h k n (mkF m pc Ls (x :: rest)) := by
  subst hp; exact K.pure fun T locs t X hs => XS.astoreN X.here hx rfl hd rfl hv hl hs
theorem iinc (hx : p.tables.exec = Jvm.exec) {pc pc' i : Nat} {ct : Int} {Ls : Array Slot} {x : Int32} (z : Int32) {rest : List Value} (Ls' : Array Slot) (hd : decode c.code pc = .ok (.iinc i ct, 3)) (hp : pc + 3 = pc') (hl : Ls[i]? = some (.val (.int x))) (hz : z = x + Int32.ofInt ct) (hl' : storeLocals Ls i (.int z) = some Ls') (K : Goes p l e R s m args below meth c n0 mc ms Fn h k n (mkF m pc' Ls' rest)) : Goes p l e R s m args below meth c n0 mc ms Fn h k n (mkF m pc Ls rest) := by
  subst hp hz; exact K.pure fun T locs t X hs => XS.iinc X.here hx rfl hd hl hl' hs
theorem iconst (hx : p.tables.exec = Jvm.exec) {pc pc' : Nat} {i : Int} {Ls : Array Slot} (z : Int32) {rest : List Value} (hd : decode c.code pc = .ok (.iconst i, 1)) (hp : pc + 1 = pc') (hz : Int32.ofInt i = z) (K : Goes p l e R s m args below meth c n0 mc ms Fn h k n (mkF m pc' Ls (.int z :: rest))) : Goes p l e R s m args below meth c n0 mc ms Fn h k n (mkF m pc Ls rest) := by
  subst hp hz; exact K.pure fun T locs t X hs => XS.iconst X.here hx rfl hd hs
theorem bipush (hx : p.tables.exec = Jvm.exec) {pc pc' : Nat} {i : Int} {Ls : Array Slot} (z : Int32) {rest : List Value} (hd : decode c.code pc = .ok (.bipush i, 2)) (hp : pc + 2 = pc') (hz : (Int8.ofInt i).toInt32 = z) (K : Goes p l e R s m args below meth c n0 mc ms Fn h k n (mkF m pc' Ls (.int z :: rest))) : Goes p l e R s m args below meth c n0 mc ms Fn h k n (mkF m pc Ls rest) := by
  subst hp hz; exact K.pure fun T locs t X hs => XS.bipush X.here hx rfl hd hs
theorem sipush (hx : p.tables.exec = Jvm.exec) {pc pc' : Nat} {i : Int} {Ls : Array Slot} (z : Int32) {rest : List Value} (hd : decode c.code pc = .ok (.sipush i, 3)) (hp : pc + 3 = pc') (hz : (Int16.ofInt i).toInt32 = z) (K : Goes p l e R s m args below meth c n0 mc ms Fn h k n (mkF m pc' Ls (.int z :: rest))) : Goes p l e R s m args below meth c n0 mc ms Fn h k n (mkF m pc Ls rest) := by
  subst hp hz; exact K.pure fun T locs t X hs => XS.sipush X.here hx rfl hd hs
theorem lconst (hx : p.tables.exec = Jvm.exec) {pc pc' : Nat} {i : Fin 2} {Ls : Array Slot} (z : Int64) {rest : List Value} (hd : decode c.code pc = .ok (.lconst i, 1)) (hp : pc + 1 = pc') (hz : Int64.ofNat i = z) (K : Goes p l e R s m args below meth c n0 mc ms Fn h k n (mkF m pc' Ls (.long z :: rest))) : Goes p l e R s m args below meth c n0 mc ms Fn h k n (mkF m pc Ls rest) := by
  subst hp hz; exact K.pure fun T locs t X hs => XS.lconst X.here hx rfl hd hs
theorem aconstNull (hx : p.tables.exec = Jvm.exec) {pc pc' : Nat} {Ls : Array Slot} {rest : List Value} (hd : decode c.code pc = .ok (.aconst_null, 1)) (hp : pc + 1 = pc') (K : Goes p l e R s m args below meth c n0 mc ms Fn h k n (mkF m pc' Ls (.null :: rest))) : Goes p l e R s m args below meth c n0 mc ms Fn h k n (mkF m pc Ls rest) := by
  subst hp; exact K.pure fun T locs t X hs => XS.aconstNull X.here hx rfl hd hs
theorem dup (hx : p.tables.exec = Jvm.exec) {pc pc' : Nat} {Ls : Array Slot} {x : Value} {rest : List Value} (hd : decode c.code pc = .ok (.dup, 1)) (hp : pc + 1 = pc') (hc : x.category = 1) (K : Goes p l e R s m args below meth c n0 mc ms Fn h k n (mkF m pc' Ls (x :: x :: rest))) : Goes p l e R s m args below meth c n0 mc ms Fn h k n (mkF m pc Ls (x :: rest)) := by
  subst hp; exact K.pure fun T locs t X hs => XS.dup X.here hx rfl hd rfl hc hs
theorem pop (hx : p.tables.exec = Jvm.exec) {pc pc' : Nat} {Ls : Array Slot} {x : Value} {rest : List Value} (hd : decode c.code pc = .ok (.pop, 1)) (hp : pc + 1 = pc') (hc : x.category = 1) (K : Goes p l e R s m args below meth c n0 mc ms Fn h k n (mkF m pc' Ls rest)) : Goes p l e R s m args below meth c n0 mc ms Fn h k n (mkF m pc Ls (x :: rest)) := by
  subst hp; exact K.pure fun T locs t X hs => XS.pop X.here hx rfl hd rfl hc hs
theorem dupX1 (hx : p.tables.exec = Jvm.exec) {pc pc' : Nat} {Ls : Array Slot} {x y : Value} {rest : List Value} (hd : decode c.code pc = .ok (.dup_x1, 1)) (hp : pc + 1 = pc') (hc : x.category = 1) (hc' : y.category = 1) (K : Goes p l e R s m args below meth c n0 mc ms Fn h k n (mkF m pc' Ls (x :: y :: x :: rest))) : Goes p l e R s m args below meth c n0 mc ms Fn h k n (mkF m pc Ls (x :: y :: rest)) := by
  subst hp; exact K.pure fun T locs t X hs => XS.dupX1 X.here hx rfl hd rfl hc hc' hs
theorem dup2 (hx : p.tables.exec = Jvm.exec) {pc pc' : Nat} {Ls : Array Slot} {x y : Value} {rest : List Value} (hd : decode c.code pc = .ok (.dup2, 1)) (hp : pc + 1 = pc') (hc : x.category = 1) (hc' : y.category = 1) (K : Goes p l e R s m args below meth c n0 mc ms Fn h k n (mkF m pc' Ls (x :: y :: x :: y :: rest))) : Goes p l e R s m args below meth c n0 mc ms Fn h k n (mkF m pc Ls (x :: y :: rest)) := by
  subst hp; exact K.pure fun T locs t X hs => XT.dup2 X.here hx rfl hd rfl hc hc' hs
theorem dup2L (hx : p.tables.exec = Jvm.exec) {pc pc' : Nat} {Ls : Array Slot} {x : Int64} {rest : List Value} (hd : decode c.code pc = .ok (.dup2, 1)) (hp : pc + 1 = pc') (K : Goes p l e R s m args below meth c n0 mc ms Fn h k n (mkF m pc' Ls (.long x :: .long x :: rest))) : Goes p l e R s m args below meth c n0 mc ms Fn h k n (mkF m pc Ls (.long x :: rest)) := by
  subst hp; exact K.pure fun T locs t X hs => XT.dup2L X.here hx rfl hd rfl hs
theorem goto (hx : p.tables.exec = Jvm.exec) {pc pc' : Nat} {o : Int} {Ls : Array Slot} {st : List Value} (hd : decode c.code pc = .ok (.goto o, 3)) (ho : 0 ≤ (pc : Int) + o) (hp : ((pc : Int) + o).toNat = pc') (K : Goes p l e R s m args below meth c n0 mc ms Fn h k n (mkF m pc' Ls st)) : Goes p l e R s m args below meth c n0 mc ms Fn h k n (mkF m pc Ls st) :=
  K.pure fun T locs t X hs => XS.goto X.here hx rfl rfl hd ho hp hs
theorem ifF (hx : p.tables.exec = Jvm.exec) {Pr : Prop} [Decidable Pr] {cd : ClassFile.Cond} {x : Int32} (hq : ifCond.holds cd x = decide Pr) {pc pcN pcT : Nat} {o : Int} {Ls : Array Slot} {rest : List Value} (hd : decode c.code pc = .ok (.ifCond cd o, 3)) (hn : pc + 3 = pcN) (ho : 0 ≤ (pc : Int) + o) (hp : ((pc : Int) + o).toNat = pcT)
    (KT : Pr → Goes p l e R s m args below meth c n0 mc ms Fn h k n (mkF m pcT Ls rest)) (KN : ¬ Pr → Goes p l e R s m args below meth c n0 mc ms Fn h k n (mkF m pcN Ls rest)) : Goes p l e R s m args below meth c n0 mc ms Fn h k n (mkF m pc Ls (.int x :: rest)) := by
  subst hn
  by_cases hP : Pr
  · exact (KT hP).pure fun T locs t X hs => XS.ifYes X.here hx rfl rfl hd rfl (by rw [hq]; exact decide_eq_true hP) ho hp hs
  · exact (KN hP).pure fun T locs t X hs => XS.ifNo X.here hx rfl hd rfl (by rw [hq]; exact decide_eq_false hP) hs
theorem icmpF (hx : p.tables.exec = Jvm.exec) {Pr : Prop} [Decidable Pr] {cd : ClassFile.Cond} {x y : Int32} (hq : if_icmp.holds cd x y = decide Pr) {pc pcN pcT : Nat} {o : Int} {Ls : Array Slot} {rest : List Value} (hd : decode c.code pc = .ok (.if_icmp cd o, 3)) (hn : pc + 3 = pcN) (ho : 0 ≤ (pc : Int) + o) (hp : ((pc : Int) + o).toNat = pcT)
    (KT : Pr → Goes p l e R s m args below meth c n0 mc ms Fn h k n (mkF m pcT Ls rest)) (KN : ¬ Pr → Goes p l e R s m args below meth c n0 mc ms Fn h k n (mkF m pcN Ls rest)) : Goes p l e R s m args below meth c n0 mc ms Fn h k n (mkF m pc Ls (.int y :: .int x :: rest)) := by
  subst hn
  by_cases hP : Pr
  · exact (KT hP).pure fun T locs t X hs => XS.icmpYes X.here hx rfl rfl hd rfl (by rw [hq]; exact decide_eq_true hP) ho hp hs
  · exact (KN hP).pure fun T locs t X hs => XS.icmpNo X.here hx rfl hd rfl (by rw [hq]; exact decide_eq_false hP) hs
theorem ifFn (hx : p.tables.exec = Jvm.exec) {Pr : Prop} [Decidable Pr] {cd : ClassFile.Cond} {x : Int32} (hq : ifCond.holds cd x = decide (¬ Pr)) {pc pcN pcT : Nat} {o : Int} {Ls : Array Slot} {rest : List Value} (hd : decode c.code pc = .ok (.ifCond cd o, 3)) (hn : pc + 3 = pcN) (ho : 0 ≤ (pc : Int) + o) (hp : ((pc : Int) + o).toNat = pcT)
    (KT : ¬ Pr → Goes p l e R s m args below meth c n0 mc ms Fn h k n (mkF m pcT Ls rest)) (KN : Pr → Goes p l e R s m args below meth c n0 mc ms Fn h k n (mkF m pcN Ls rest)) : Goes p l e R s m args below meth c n0 mc ms Fn h k n (mkF m pc Ls (.int x :: rest)) := ifF hx hq hd hn ho hp KT fun q => KN (Decidable.of_not_not q)
theorem icmpFn (hx : p.tables.exec = Jvm.exec) {Pr : Prop} [Decidable Pr] {cd : ClassFile.Cond} {x y : Int32} (hq : if_icmp.holds cd x y = decide (¬ Pr)) {pc pcN pcT : Nat} {o : Int} {Ls : Array Slot} {rest : List Value} (hd : decode c.code pc = .ok (.if_icmp cd o, 3)) (hn : pc + 3 = pcN) (ho : 0 ≤ (pc : Int) + o) (hp : ((pc : Int) + o).toNat = pcT)
    (KT : ¬ Pr → Goes p l e R s m args below meth c n0 mc ms Fn h k n (mkF m pcT Ls rest)) (KN : Pr → Goes p l e R s m args below meth c n0 mc ms Fn h k n (mkF m pcN Ls rest)) : Goes p l e R s m args below meth c n0 mc ms Fn h k n (mkF m pc Ls (.int y :: .int x :: rest)) := icmpF hx hq hd hn ho hp KT fun q => KN (Decidable.of_not_not q)
theorem q_eq (x y : Int32) : if_icmp.holds .eq x y = decide (x = y) := by by_cases q : x = y <;> simp [if_icmp.holds, q]
theorem q_ne (x y : Int32) : if_icmp.holds .ne x y = decide (¬ x = y) := by by_cases q : x = y <;> simp [if_icmp.holds, q]
theorem q_lt (x y : Int32) : if_icmp.holds .lt x y = decide (x < y) := by by_cases q : x < y <;> simp [q, (tlt ·), (flt ·)]
theorem q_ge (x y : Int32) : if_icmp.holds .ge x y = decide (¬ x < y) := by by_cases q : x < y <;> simp [q, (tlt ·), (flt ·)]
theorem q_gt (x y : Int32) : if_icmp.holds .gt x y = decide (y < x) := by by_cases q : y < x <;> simp [q, (tlt ·), (flt ·)]
theorem q_le (x y : Int32) : if_icmp.holds .le x y = decide (¬ y < x) := by by_cases q : y < x <;> simp [q, (tlt ·), (flt ·)]
theorem z_eq (x : Int32) : ifCond.holds .eq x = decide (x = 0) := (if0 _ _).trans (q_eq x 0)
theorem z_ne (x : Int32) : ifCond.holds .ne x = decide (¬ x = 0) := (if0 _ _).trans (q_ne x 0)
theorem z_lt (x : Int32) : ifCond.holds .lt x = decide (x < 0) := (if0 _ _).trans (q_lt x 0)
theorem z_ge (x : Int32) : ifCond.holds .ge x = decide (¬ x < 0) := (if0 _ _).trans (q_ge x 0)
theorem z_gt (x : Int32) : ifCond.holds .gt x = decide (0 < x) := (if0 _ _).trans (q_gt x 0)
theorem z_le (x : Int32) : ifCond.holds .le x = decide (¬ 0 < x) := (if0 _ _).trans (q_le x 0)
theorem w_eq (x y : Int64) : ifCond.holds .eq (lcmpW x y) = decide (x = y) := (z_eq _).trans (by simp only [lw_eq])
theorem w_ne (x y : Int64) : ifCond.holds .ne (lcmpW x y) = decide (¬ x = y) := (z_ne _).trans (by simp only [lw_eq])
theorem w_lt (x y : Int64) : ifCond.holds .lt (lcmpW x y) = decide (x < y) := (z_lt _).trans (by simp only [lw_lt])
theorem w_ge (x y : Int64) : ifCond.holds .ge (lcmpW x y) = decide (¬ x < y) := (z_ge _).trans (by simp only [lw_lt])
theorem w_gt (x y : Int64) : ifCond.holds .gt (lcmpW x y) = decide (y < x) := (z_gt _).trans (by simp only [lw_gt])
theorem w_le (x y : Int64) : ifCond.holds .le (lcmpW x y) = decide (¬ y < x) := (z_le _).trans (by simp only [lw_gt])
theorem ifnullN (hx : p.tables.exec = Jvm.exec) {pc pcN : Nat} {o : Int} {a : Addr} {Ls : Array Slot} {rest : List Value} (hd : decode c.code pc = .ok (.ifnull o, 3)) (hn : pc + 3 = pcN) (K : Goes p l e R s m args below meth c n0 mc ms Fn h k n (mkF m pcN Ls rest)) : Goes p l e R s m args below meth c n0 mc ms Fn h k n (mkF m pc Ls (.ref a :: rest)) := by
  subst hn; exact K.pure fun T locs t X hs => XS.ifnullNo X.here hx rfl hd rfl hs
theorem ifnullY (hx : p.tables.exec = Jvm.exec) {pc pcT : Nat} {o : Int} {Ls : Array Slot} {rest : List Value} (hd : decode c.code pc = .ok (.ifnull o, 3)) (ho : 0 ≤ (pc : Int) + o) (hp : ((pc : Int) + o).toNat = pcT) (K : Goes p l e R s m args below meth c n0 mc ms Fn h k n (mkF m pcT Ls rest)) : Goes p l e R s m args below meth c n0 mc ms Fn h k n (mkF m pc Ls (.null :: rest)) :=
  K.pure fun T locs t X hs => XS.ifnullYes X.here hx rfl rfl hd rfl ho hp hs
theorem ifnonnullN (hx : p.tables.exec = Jvm.exec) {pc pcN : Nat} {o : Int} {Ls : Array Slot} {rest : List Value} (hd : decode c.code pc = .ok (.ifnonnull o, 3)) (hn : pc + 3 = pcN) (K : Goes p l e R s m args below meth c n0 mc ms Fn h k n (mkF m pcN Ls rest)) : Goes p l e R s m args below meth c n0 mc ms Fn h k n (mkF m pc Ls (.null :: rest)) := by
  subst hn; exact K.pure fun T locs t X hs => XS.ifnonnullNo X.here hx rfl hd rfl hs
theorem ifnonnullY (hx : p.tables.exec = Jvm.exec) {pc pcT : Nat} {o : Int} {a : Addr} {Ls : Array Slot} {rest : List Value} (hd : decode c.code pc = .ok (.ifnonnull o, 3)) (ho : 0 ≤ (pc : Int) + o) (hp : ((pc : Int) + o).toNat = pcT) (K : Goes p l e R s m args below meth c n0 mc ms Fn h k n (mkF m pcT Ls rest)) : Goes p l e R s m args below meth c n0 mc ms Fn h k n (mkF m pc Ls (.ref a :: rest)) :=
  K.pure fun T locs t X hs => XS.ifnonnullYes X.here hx rfl rfl hd rfl ho hp hs
theorem ldc (hx : p.tables.exec = Jvm.exec) {Z : State} (hZ : Z.Warmed39 s.vm) {a0 : Array Value} {own : String} (hown : s.vm.findClass own = some m.cls) {pc pc' i : Nat} {Ls : Array Slot} (z : Int32) {rest : List Value} (hd : decode c.code pc = .ok (.ldc i, 2)) (hp : pc + 2 = pc') (w : (Jvm.Cond.constant own i z).before a0 Z = true) (K : Goes p l e R s m args below meth c n0 mc ms Fn h k n (mkF m pc' Ls (.int z :: rest))) : Goes p l e R s m args below meth c n0 mc ms Fn h k n (mkF m pc Ls rest) := by
  subst hp; exact K.pure fun T locs t X hs => X.ldcInt hx hown (mvT hZ w) (g := mkF m pc Ls rest) rfl hd t hs
theorem ldc2 (hx : p.tables.exec = Jvm.exec) {Z : State} (hZ : Z.Warmed39 s.vm) {a0 : Array Value} {own : String} (hown : s.vm.findClass own = some m.cls) {pc pc' i : Nat} {Ls : Array Slot} (z : Int64) {rest : List Value} (hd : decode c.code pc = .ok (.ldc2_w i, 3)) (hp : pc + 3 = pc') (w : (Jvm.Cond.constantLong own i z).before a0 Z = true) (K : Goes p l e R s m args below meth c n0 mc ms Fn h k n (mkF m pc' Ls (.long z :: rest))) : Goes p l e R s m args below meth c n0 mc ms Fn h k n (mkF m pc Ls rest) := by
  subst hp; exact K.pure fun T locs t X hs => X.ldc2Long hx hown (mvT hZ w) (g := mkF m pc Ls rest) rfl hd t hs
/-- the end of a walk -/
theorem endOf {v : Option Value} {g : JFrame} (hlk : meth.locks = false) (hv : meth.sig.returnType = none → v = none)
    (st : ∀ (T : State) (locs : List Loc) (fs : List Frame), Stand p l e R s m args below meth c T locs k n → (∀ (f : JFrame) (acts : List Action), f.method = m → f.locked = none → f.entered = [] → (doReturn e (T.setTop f) acts v).1 = T.setFrames fs) → Steps p.tables e below (T.setTop g) (T.setFrames fs))
    (hk : k ≤ mc) (hn : n ≤ ms) (hF : Fn v h) : Goes p l e R s m args below meth c n0 mc ms Fn h k n g := fun T locs X N eT => by
  obtain ⟨fs, hr, hrun, hended, hW, hsame⟩ := X.leave hv hlk
  refine ⟨_, _, st T locs fs X hr, hrun, hended, v, locs, rfl, ⟨?_, N⟩, ⟨_, rfl⟩, hW, hsame.mono hk hn⟩
  show Fn v T.heap
  rw [eT]; exact hF
theorem retI (hx : p.tables.exec = Jvm.exec) (hret : meth.sig.returnType = some .int) (hlk : meth.locks = false) {pc : Nat} {Ls : Array Slot} {z : Int32} {rest : List Value} (hd : decode c.code pc = .ok (.ireturn, 1)) (hk : k ≤ mc) (hn : n ≤ ms) (hF : Fn (some (.int z)) h) : Goes p l e R s m args below meth c n0 mc ms Fn h k n (mkF m pc Ls (.int z :: rest)) :=
  endOf hlk (fun q => by rw [hret] at q; cases q) (fun T locs fs X hr => retOut X hx hret rfl (Or.inl ⟨rfl, Or.inl rfl, _, rfl⟩) hd hr) hk hn hF
theorem retL (hx : p.tables.exec = Jvm.exec) (hret : meth.sig.returnType = some .long) (hlk : meth.locks = false) {pc : Nat} {Ls : Array Slot} {z : Int64} {rest : List Value} (hd : decode c.code pc = .ok (.lreturn, 1)) (hk : k ≤ mc) (hn : n ≤ ms) (hF : Fn (some (.long z)) h) : Goes p l e R s m args below meth c n0 mc ms Fn h k n (mkF m pc Ls (.long z :: rest)) :=
  endOf hlk (fun q => by rw [hret] at q; cases q) (fun T locs fs X hr => retOut X hx hret rfl (Or.inr (Or.inl ⟨rfl, rfl, _, rfl⟩)) hd hr) hk hn hF
theorem retA (hx : p.tables.exec = Jvm.exec) {ty : FieldType} (hret : meth.sig.returnType = some ty) (hty : ty.isReference = true) (hlk : meth.locks = false) {pc : Nat} {Ls : Array Slot} {w : Value} {rest : List Value} (hw : w.isRef = true) (hnr : narrow ty w = w) (hd : decode c.code pc = .ok (.areturn, 1)) (hk : k ≤ mc) (hn : n ≤ ms) (hF : Fn (some w) h) : Goes p l e R s m args below meth c n0 mc ms Fn h k n (mkF m pc Ls (w :: rest)) :=
  endOf hlk (fun q => by rw [hret] at q; cases q) (fun T locs fs X hr => retOut X hx hret hnr (Or.inr (Or.inr (Or.inr (Or.inr ⟨rfl, hty, hw⟩)))) hd hr) hk hn hF
theorem retS (hx : p.tables.exec = Jvm.exec) {ty : FieldType} (hret : meth.sig.returnType = some ty) (hty : ty = .boolean ∨ ty = .byte ∨ ty = .char ∨ ty = .short) (hlk : meth.locks = false) {pc : Nat} {Ls : Array Slot} {z : Int32} {rest : List Value} (hd : decode c.code pc = .ok (.ireturn, 1)) (hk : k ≤ mc) (hn : n ≤ ms) (hF : Fn (some (.int (nar ty z))) h) : Goes p l e R s m args below meth c n0 mc ms Fn h k n (mkF m pc Ls (.int z :: rest)) :=
  endOf hlk (fun q => by rw [hret] at q; cases q) (fun T locs fs X hr => retN X hx hret hty hd hr) hk hn hF
theorem retV (hx : p.tables.exec = Jvm.exec) (hret : meth.sig.returnType = none) (hlk : meth.locks = false) {pc : Nat} {Ls : Array Slot} (hd : decode c.code pc = .ok (.return_, 1)) (hk : k ≤ mc) (hn : n ≤ ms) (hF : Fn none h) : Goes p l e R s m args below meth c n0 mc ms Fn h k n (mkF m pc Ls []) :=
  endOf hlk (fun _ => rfl) (fun T locs fs X hr => X.returnOut hx hret hd hr) hk hn hF
/-- a static method by its contract -/
theorem callS (hx : p.tables.exec = Jvm.exec) {Z : State} (hZ : Z.Warmed39 s.vm) {a0 : Array Value} {own : String} (hown : s.vm.findClass own = some m.cls) {i : Nat} {y : MethodName} {bytes : ByteArray} {maxL : Nat} {ret : Option FieldType} {rm : Room} {F : Option Value → Heap → Prop} {argsL rest : List Value}
    (w1 : (Jvm.Cond.methodLink own i y).before a0 Z = true) (w2 : (Jvm.Cond.static y).before a0 Z = true) (w3 : (Jvm.Cond.initialized y.cls).before a0 Z = true) (w4 : (Jvm.Cond.code y bytes maxL ret).before a0 Z = true) (hy : y.cls ≠ "java/lang/invoke/MethodHandle" ∧ y.cls ≠ "java/lang/invoke/VarHandle")
    {sg : ClassFile.MethodDescriptor} (hsg : parseMethodDescriptor y.desc = some sg) (hlen : argsL.length = sg.parameters.length) {pc pc' : Nat} {Ls : Array Slot} {W : Nat} (hW : (rest.map fun v => v.category).sum ≤ W) (hf : rm.frames + 1 ≤ R.frames) (hl : W + (maxL + 11) + rm.locals ≤ R.locals) (hcl : k + rm.cells ≤ R.cells) (hsl : n + rm.slots ≤ R.slots)
    {k' n' : Nat} (hk' : k + rm.cells = k') (hn' : n + rm.slots = n') (hml : Ls.size = c.maxLocals) (st : List Value) (hst : st = argsL.reverse ++ rest) (hd : decode c.code pc = .ok (.invokestatic i, 3)) (hp : pc + 3 = pc') (D : Does l y bytes maxL ret [] rm Z argsL.toArray h n0 F)
    (K : ∀ v h', F v h' → Goes p l e R s m args below meth c n0 mc ms Fn h' k' n' (mkF m pc' Ls (v.toList ++ rest))) : Goes p l e R s m args below meth c n0 mc ms Fn h k n (mkF m pc Ls st) := fun T locs X N eT => by
  subst hp hst hk' hn'
  obtain ⟨v, _, ⟨T', L', k', n'⟩, -, X', ⟨Lc, hQ, l1, y1, z1⟩, st⟩ := Jvm.LawKit.callS X hx (y := y) hown (mvT hZ w1) (mvT hZ w2) (mvT hZ w3) (mvT hZ w4) hy (backOf (W := W) (Q := fun v h' L => F v h' ∧ Fr n0 L) D hZ w4 w3 hf hl) (g := mkF m pc Ls (argsL.reverse ++ rest)) rfl hml (argsL := argsL) (rest := rest) (lenOf hsg hlen) rfl (by show 2 * 0 + _ ≤ _; omega) hd (fun _ _ => ⟨rfl, eT, hcl, hsl⟩)
  dsimp only [Pt.U, Pt.locs, Pt.cells, Pt.slots] at X' l1 y1 z1 st hQ
  subst l1 y1 z1
  obtain ⟨s₂, o, hs, r⟩ := K v T'.heap hQ.1 T' _ X' (N.app hQ.2) rfl
  exact ⟨s₂, o, st _ hs, r⟩
theorem vI {x : Int32} (z : Int32) (q : x = z) {pc : Nat} {Ls : Array Slot} {rest : List Value} (K : Goes p l e R s m args below meth c n0 mc ms Fn h k n (mkF m pc Ls (.int z :: rest))) : Goes p l e R s m args below meth c n0 mc ms Fn h k n (mkF m pc Ls (.int x :: rest)) := by subst q; exact K
theorem vL {x : Int64} (z : Int64) (q : x = z) {pc : Nat} {Ls : Array Slot} {rest : List Value} (K : Goes p l e R s m args below meth c n0 mc ms Fn h k n (mkF m pc Ls (.long z :: rest))) : Goes p l e R s m args below meth c n0 mc ms Fn h k n (mkF m pc Ls (.long x :: rest)) := by subst q; exact K
theorem bool1 {z : Int32} (q : z = 1) : (some (Value.int (nar .boolean z)) : Option Value) = some (.int 1) := by subst q; rfl
end Eng
end Own
namespace Own
section EngH
def FldC (Z : State) (C nm d : String) (v : Value) (cell : Cell) : Prop := ∃ (cf : ClassId) (kk : Class) (i : Nat) (f : Field), Z.fieldFound? C nm d = some (cf, kk, i, f) ∧ f.isStatic = false ∧ cell.vm ≠ .unknown ∧ cell.vm.isStatics = false ∧ Z.vm.assignable cell.cls cf = true ∧ cell.slots[f.slot]? = some v
def ExaC (Z : State) (C : String) (cell : Cell) : Prop := ∃ kk : Class, Z.vm.findClass C = some cell.cls ∧ Z.vm.classes[cell.cls]? = some kk ∧ cell.vm.isStatics = false ∧ (kk.kind = .ordinary → cell.slots.size = kk.instanceTypes.size)
/-- an object of just the class C with these fields (declaring class, name, descriptor) at these values -/
def ObjC (Z : State) (C : String) (fs : List ((String × String × String) × Value)) (cell : Cell) : Prop := ExaC Z C cell ∧ (∀ f ∈ fs, FldC Z f.1.1 f.1.2.1 f.1.2.2 f.2 cell) ∧ (fs.map fun f => Jvm.RoadKit.slotOf Z f.1.1 f.1.2.1 f.1.2.2).Nodup
/-- an array of the kind ty with these values -/
def ArrC (Z : State) (ty : FieldType) (vs : List Value) (cell : Cell) : Prop := Z.isArrayOf cell ty ∧ cell.vm ≠ .unknown ∧ cell.slots.toList = vs ∧ ∀ v ∈ vs, fits ty v = true
/-- the cells at these places, all at or above n0 and unlike, are as said -/
def Owns (n0 : Nat) (h : Heap) (os : List (Addr × (Cell → Prop))) : Prop := n0 ≤ h.size ∧ (os.map Prod.fst).Nodup ∧ ∀ o ∈ os, n0 ≤ o.1 ∧ ∃ cell, h[o.1]? = some cell ∧ o.2 cell
variable {p : Program} {l : Launch} {e : Env} {R : Room} {s : State} {m : MethodId} {args : Array Value} {below : List Frame} {meth : Method} {c : Code} {n0 mc ms : Nat} {Fn : Option Value → Heap → Prop} {h h' : Heap} {k n : Nat} {Z : State} {a0 : Array Value} {os : List (Addr × (Cell → Prop))} {a : Addr}
theorem Owns.nil (q : n0 ≤ h.size) : Owns n0 h [] := ⟨q, List.nodup_nil, fun _ z => nomatch z⟩
theorem Owns.at (O : Owns n0 h os) {i : Nat} {P : Cell → Prop} (hi : os[i]? = some (a, P)) : n0 ≤ a ∧ ∃ cell, h[a]? = some cell ∧ P cell := O.2.2 (a, P) (List.mem_of_getElem? hi)
theorem Owns.lt (O : Owns n0 h os) {o : Addr × (Cell → Prop)} (ho : o ∈ os) : o.1 < h.size := by obtain ⟨-, cell, q, -⟩ := O.2.2 o ho; exact (Array.getElem?_eq_some_iff.mp q).1
theorem Owns.push {P : Cell → Prop} (O : Owns n0 h os) (E : Ext h h') (q : ∃ cell, h'[h.size]? = some cell ∧ P cell) : Owns n0 h' ((h.size, P) :: os) := by
  refine ⟨Nat.le_trans O.1 E.1, ?_, ?_⟩
  · rw [List.map_cons, List.nodup_cons]
    refine ⟨fun z => ?_, O.2.1⟩
    obtain ⟨o, ho, e1⟩ := List.mem_map.mp z
    exact absurd (O.lt ho) (by rw [e1]; exact Nat.lt_irrefl _)
  · intro o ho
    rcases List.mem_cons.mp ho with rfl | ho
    · exact ⟨O.1, q⟩
    · obtain ⟨q1, cell, q2, q3⟩ := O.2.2 o ho
      exact ⟨q1, cell, E.2 _ _ q2, q3⟩
theorem nodup_at {os : List (Addr × (Cell → Prop))} (hN : (os.map Prod.fst).Nodup) {i j : Nat} {P Q : Cell → Prop} (hi : os[i]? = some (a, P)) (hj : os[j]? = some (a, Q)) : i = j := by
  have h1 : (os.map Prod.fst)[i]? = some a := by rw [List.getElem?_map, hi]; rfl
  have h2 : (os.map Prod.fst)[j]? = some a := by rw [List.getElem?_map, hj]; rfl
  obtain ⟨l1, e1⟩ := List.getElem?_eq_some_iff.mp h1
  obtain ⟨l2, e2⟩ := List.getElem?_eq_some_iff.mp h2
  exact (List.getElem_inj hN).mp (e1.trans e2.symm)
/-- the cell at one owned place is another one now; all others stay -/
theorem Owns.upd {P P' : Cell → Prop} (O : Owns n0 h os) {i : Nat} (hi : os[i]? = some (a, P)) (hs : h.size ≤ h'.size) (ho : ∀ x cell, h[x]? = some cell → x ≠ a → h'[x]? = some cell) (ha : ∃ cell, h'[a]? = some cell ∧ P' cell) : Owns n0 h' (os.set i (a, P')) := by
  have hlt : i < os.length := (List.getElem?_eq_some_iff.mp hi).1
  refine ⟨Nat.le_trans O.1 hs, ?_, ?_⟩
  · have e1 : (os.set i (a, P')).map Prod.fst = os.map Prod.fst := by
      rw [List.map_set]
      refine List.ext_getElem? fun j => ?_
      rw [List.getElem?_set]
      split
      · next q => subst q; rw [List.getElem?_map, hi]; simp [hlt]
      · rfl
    rw [e1]; exact O.2.1
  · intro o hm
    obtain ⟨j, hj⟩ := List.getElem?_of_mem hm
    rw [List.getElem?_set] at hj
    split at hj
    · simp only [hlt, if_true, Option.some.injEq] at hj
      subst hj
      exact ⟨(O.at hi).1, ha⟩
    · next q =>
      obtain ⟨oa, oP⟩ := o
      obtain ⟨q1, cell, q2, q3⟩ := O.at hj
      refine ⟨q1, cell, ho _ _ q2 fun z => ?_, q3⟩
      subst z
      exact q (nodup_at O.2.1 hi hj)
theorem wr_get {sl : Nat} {v : Value} (W : Wr h h' a sl v) : h.size ≤ h'.size ∧ (∀ x cell, h[x]? = some cell → x ≠ a → h'[x]? = some cell) ∧ ∀ cell, h[a]? = some cell → h'[a]? = some (cell.setSlot sl v) := by
  obtain ⟨cell, h1, h2, h3, rfl⟩ := W
  refine ⟨by simp, fun x cx hx hne => ?_, fun c' hc' => ?_⟩
  · rw [Array.getElem?_setIfInBounds_ne (Ne.symm hne)]; exact hx
  · cases h1.symm.trans hc'
    have := (Array.getElem?_eq_some_iff.mp h1).1
    simp [this]
theorem Owns.wr {P P' : Cell → Prop} {sl : Nat} {v : Value} (O : Owns n0 h os) {i : Nat} (hi : os[i]? = some (a, P)) (W : Wr h h' a sl v) (q : ∀ cell, P cell → P' (cell.setSlot sl v)) : Owns n0 h' (os.set i (a, P')) := by
  obtain ⟨w1, w2, w3⟩ := wr_get W
  obtain ⟨-, cell, q1, q2⟩ := O.at hi
  exact O.upd hi w1 w2 ⟨_, w3 _ q1, q _ q2⟩
/-- the i-th object is brought to the front -/
theorem Owns.pick (O : Owns n0 h os) (i : Nat) {o : Addr × (Cell → Prop)} (hi : os[i]? = some o) : Owns n0 h (o :: os.eraseIdx i) := by
  have hlt : i < os.length := (List.getElem?_eq_some_iff.mp hi).1
  have hp : os.Perm (o :: os.eraseIdx i) := by
    have h2 : os[i] = o := (List.getElem?_eq_some_iff.mp hi).2
    have h3 : os = os.take i ++ o :: os.drop (i + 1) := by rw [← h2, List.getElem_cons_drop, List.take_append_drop]
    rw [List.eraseIdx_eq_take_drop_succ]
    conv => lhs; rw [h3]
    exact List.perm_middle
  exact ⟨O.1, (hp.map Prod.fst).nodup_iff.mp O.2.1, fun z hz => O.2.2 z (hp.mem_iff.mpr hz)⟩
theorem Owns.cast {os' : List (Addr × (Cell → Prop))} (O : Owns n0 h os) (q : os = os') : Owns n0 h os' := q ▸ O
theorem Owns.tail {o : Addr × (Cell → Prop)} (O : Owns n0 h (o :: os)) : Owns n0 h os := ⟨O.1, by have h1 := O.2.1; rw [List.map_cons, List.nodup_cons] at h1; exact h1.2, fun z hz => O.2.2 z (List.mem_cons_of_mem _ hz)⟩
theorem fld_of {C nm d : String} {v : Value} {cell : Cell} (q : h[a]? = some cell) (F : FldC Z C nm d v cell) : Fld Z h a C nm d v := by obtain ⟨cf, kk, i, f, r⟩ := F; exact ⟨cell, cf, kk, i, f, q, r⟩
theorem exa_of {C : String} {cell : Cell} (q : h[a]? = some cell) (F : ExaC Z C cell) : Exa Z h a C := by obtain ⟨kk, r⟩ := F; exact ⟨cell, kk, q, r⟩
theorem fldC_of {C nm d : String} {v : Value} {cell : Cell} (q : h[a]? = some cell) (F : Fld Z h a C nm d v) : FldC Z C nm d v cell := by obtain ⟨c', cf, kk, i, f, q', r⟩ := F; cases q.symm.trans q'; exact ⟨cf, kk, i, f, r⟩
theorem exaC_of {C : String} {cell : Cell} (q : h[a]? = some cell) (F : Exa Z h a C) : ExaC Z C cell := by obtain ⟨c', kk, q', r⟩ := F; cases q.symm.trans q'; exact ⟨kk, r⟩
theorem Owns.fld {C : String} {fs : List ((String × String × String) × Value)} (O : Owns n0 h os) {i j : Nat} (hi : os[i]? = some (a, ObjC Z C fs)) {C' nm d : String} {v : Value} (hj : fs[j]? = some ((C', nm, d), v)) : Fld Z h a C' nm d v := by
  obtain ⟨-, cell, q1, q2⟩ := O.at hi
  exact fld_of q1 (q2.2.1 _ (List.mem_of_getElem? hj))
theorem Owns.exa {C : String} {fs : List ((String × String × String) × Value)} (O : Owns n0 h os) {i : Nat} (hi : os[i]? = some (a, ObjC Z C fs)) : Exa Z h a C := by
  obtain ⟨-, cell, q1, q2⟩ := O.at hi
  exact exa_of q1 q2.1
theorem getfield (hx : p.tables.exec = Jvm.exec) (hZ : Z.Warmed39 s.vm) {own : String} (hown : s.vm.findClass own = some m.cls) (O : Owns n0 h os) (i j : Nat) {C C' nm d : String} {fs : List ((String × String × String) × Value)} (hi : os[i]? = some (a, ObjC Z C fs)) {v : Value} (hj : fs[j]? = some ((C', nm, d), v))
    {pc pc' idx : Nat} {Ls : Array Slot} {rest : List Value} (w : (Jvm.Cond.fieldLink own idx C' nm d).before a0 Z = true) (hd : decode c.code pc = .ok (.getfield idx, 3)) (hp : pc + 3 = pc') (K : Goes p l e R s m args below meth c n0 mc ms Fn h k n (mkF m pc' Ls (v :: rest))) : Goes p l e R s m args below meth c n0 mc ms Fn h k n (mkF m pc Ls (.ref a :: rest)) := by
  subst hp
  refine Goes.move (Pr := fun h' => h' = h) (k' := k) (n' := n) (g' := mkF m (pc + 3) Ls (v :: rest)) (fun T locs X N eT => ?_) (fun h' q => by rw [q]; exact K)
  obtain ⟨T', X', e', st⟩ := getF X hx hZ hown (host := "") (Or.inl w) Via.refl eT (O.fld hi hj) (g := mkF m pc Ls (.ref a :: rest)) rfl rfl hd
  exact ⟨T', locs, X', N, e', st⟩
theorem obj_set {C : String} {fs : List ((String × String × String) × Value)} {j : Nat} {C' nm d : String} {old v : Value} (hj : fs[j]? = some ((C', nm, d), old)) {cell : Cell} (q : ObjC Z C fs cell) : ObjC Z C (fs.set j ((C', nm, d), v)) (cell.setSlot (Jvm.RoadKit.slotOf Z C' nm d) v) := by
  obtain ⟨q1, q2, q3⟩ := q
  have hq : (#[cell] : Heap)[0]? = some cell := rfl
  have F0 := q2 _ (List.mem_of_getElem? hj)
  have hst : cell.vm.isStatics = false := by obtain ⟨_, _, _, _, _, _, _, r, _⟩ := F0; exact r
  have hsl : Jvm.RoadKit.slotOf Z C' nm d < cell.slots.size := by
    obtain ⟨cf, kk, i, f, r1, -, -, -, -, r2⟩ := F0
    have e1 : Jvm.RoadKit.slotOf Z C' nm d = f.slot := by simp [Jvm.RoadKit.slotOf, r1]
    rw [e1]; exact (Array.getElem?_eq_some_iff.mp r2).1
  have W : Wr #[cell] #[cell.setSlot (Jvm.RoadKit.slotOf Z C' nm d) v] 0 (Jvm.RoadKit.slotOf Z C' nm d) v := ⟨cell, hq, hst, hsl, by simp⟩
  have hq' : (#[cell.setSlot (Jvm.RoadKit.slotOf Z C' nm d) v] : Heap)[0]? = some (cell.setSlot (Jvm.RoadKit.slotOf Z C' nm d) v) := rfl
  have hlt : j < fs.length := (List.getElem?_eq_some_iff.mp hj).1
  have hslots : (fs.set j ((C', nm, d), v)).map (fun f => Jvm.RoadKit.slotOf Z f.1.1 f.1.2.1 f.1.2.2) = fs.map (fun f => Jvm.RoadKit.slotOf Z f.1.1 f.1.2.1 f.1.2.2) := by
    rw [List.map_set]
    refine List.ext_getElem? fun i => ?_
    rw [List.getElem?_set]
    split
    · next z => subst z; rw [List.getElem?_map, hj]; simp [hlt]
    · rfl
  refine ⟨exaC_of hq' ((exa_of hq q1).wr W), fun f hf => ?_, by rw [hslots]; exact q3⟩
  obtain ⟨i, hi⟩ := List.getElem?_of_mem hf
  rw [List.getElem?_set] at hi
  split at hi
  · simp only [hlt, if_true, Option.some.injEq] at hi
    subst hi
    exact fldC_of hq' ((fld_of hq F0).same W)
  · next z =>
    refine fldC_of hq' ((fld_of hq (q2 f (List.mem_of_getElem? hi))).other W (Or.inr fun y => z ?_))
    have h1 : (fs.map (fun f => Jvm.RoadKit.slotOf Z f.1.1 f.1.2.1 f.1.2.2))[i]? = some (Jvm.RoadKit.slotOf Z f.1.1 f.1.2.1 f.1.2.2) := by rw [List.getElem?_map, hi]; rfl
    have h2 : (fs.map (fun f => Jvm.RoadKit.slotOf Z f.1.1 f.1.2.1 f.1.2.2))[j]? = some (Jvm.RoadKit.slotOf Z C' nm d) := by rw [List.getElem?_map, hj]; rfl
    obtain ⟨l1, e1⟩ := List.getElem?_eq_some_iff.mp h1
    obtain ⟨l2, e2⟩ := List.getElem?_eq_some_iff.mp h2
    exact ((List.getElem_inj q3).mp (e1.trans (y.trans e2.symm))).symm
theorem putfield (hx : p.tables.exec = Jvm.exec) (hZ : Z.Warmed39 s.vm) {own : String} (hown : s.vm.findClass own = some m.cls) (O : Owns n0 h os) (i j : Nat) {C C' nm d : String} {fs : List ((String × String × String) × Value)} (hi : os[i]? = some (a, ObjC Z C fs)) {old v : Value} (hj : fs[j]? = some ((C', nm, d), old))
    {pc pc' idx kk : Nat} {Ls : Array Slot} {rest : List Value} (w : (Jvm.Cond.fieldLink own idx C' nm d).before a0 Z = true) (L : (Jvm.Cond.lays C C' nm d).before a0 Z = true ∨ ((Jvm.Cond.laysFinal C C' nm d).before a0 Z = true ∧ own = C' ∧ meth.name = "<init>")) (wi : (Jvm.Cond.instantiable C kk).before a0 Z = true)
    {ty : FieldType} (hty : parseFieldDescriptor d = some ty) (hnr : narrow ty v = v) (hf : fits ty v = true) (os' : List (Addr × (Cell → Prop))) (hos : os.set i (a, ObjC Z C (fs.set j ((C', nm, d), v))) = os')
    (hd : decode c.code pc = .ok (.putfield idx, 3)) (hp : pc + 3 = pc') (K : ∀ h', Owns n0 h' os' → Goes p l e R s m args below meth c n0 mc ms Fn h' k n (mkF m pc' Ls rest)) : Goes p l e R s m args below meth c n0 mc ms Fn h k n (mkF m pc Ls (v :: .ref a :: rest)) := by
  subst hp hos
  refine Goes.move (Pr := fun h' => Owns n0 h' (os.set i (a, ObjC Z C (fs.set j ((C', nm, d), v))))) (fun T locs X N eT => ?_) K
  obtain ⟨T', h', X', e', W, st⟩ := putF X hx hZ hown (host := "") (Or.inl w) Via.refl eT (O.fld hi hj) (O.exa hi) L wi hty hnr hf (g := mkF m pc Ls (v :: .ref a :: rest)) rfl rfl hd
  exact ⟨T', _, X', Fr.snoc X' N (O.at hi).1, by rw [e']; exact O.wr hi W fun cell q => obj_set hj q, st⟩
theorem nodup_slots {C : String} : ∀ {fs : List ((String × String × String) × Value)}, (∀ f ∈ fs, Laid Z a0 C f.1.1 f.1.2.1 f.1.2.2 ∧ ∃ ty, parseFieldDescriptor f.1.2.2 = some ty ∧ defaultValue ty = f.2) → (fs.map fun f => f.1.2.1).Nodup → (fs.map fun f => Jvm.RoadKit.slotOf Z f.1.1 f.1.2.1 f.1.2.2).Nodup
  | [], _, _ => List.nodup_nil
  | f :: fs, hL, hN => by
    rw [List.map_cons, List.nodup_cons] at hN ⊢
    refine ⟨fun z => ?_, nodup_slots (fun g hg => hL g (List.mem_cons_of_mem _ hg)) hN.2⟩
    obtain ⟨g, hg, e1⟩ := List.mem_map.mp z
    obtain ⟨L1, d1⟩ := hL f List.mem_cons_self
    obtain ⟨L2, d2⟩ := hL g (List.mem_cons_of_mem _ hg)
    obtain ⟨t1, t1', -⟩ := d1
    obtain ⟨t2, t2', -⟩ := d2
    exact slot_ne L1 L2 (fun q => hN.1 (List.mem_map.mpr ⟨g, hg, q.symm⟩)) t1' t2' e1.symm
theorem newobj (hx : p.tables.exec = Jvm.exec) (hZ : Z.Warmed39 s.vm) {own : String} (hown : s.vm.findClass own = some m.cls) (O : Owns n0 h os) {C : String} {idx kk : Nat} (w1 : (Jvm.Cond.classLink own idx C).before a0 Z = true) (w2 : (Jvm.Cond.instantiable C kk).before a0 Z = true) (w3 : (Jvm.Cond.initialized C).before a0 Z = true)
    (fs : List ((String × String × String) × Value)) (hL : ∀ f ∈ fs, Laid Z a0 C f.1.1 f.1.2.1 f.1.2.2 ∧ ∃ ty, parseFieldDescriptor f.1.2.2 = some ty ∧ defaultValue ty = f.2) (hN : (fs.map fun f => f.1.2.1).Nodup) {k' n' : Nat} (hk' : k + 1 = k') (hn' : n + kk = n') (hc : k' ≤ R.cells) (hl : n' ≤ R.slots)
    {pc pc' : Nat} {Ls : Array Slot} {rest : List Value} (hd : decode c.code pc = .ok (.new idx, 3)) (hp : pc + 3 = pc') (K : ∀ a h', Owns n0 h' ((a, ObjC Z C fs) :: os) → Goes p l e R s m args below meth c n0 mc ms Fn h' k' n' (mkF m pc' Ls (.ref a :: rest))) : Goes p l e R s m args below meth c n0 mc ms Fn h k n (mkF m pc Ls rest) := by
  subst hp hk' hn'
  refine Goes.move (Pr := fun h' => Owns n0 h' ((h.size, ObjC Z C fs) :: os)) (fun T locs X N eT => ?_) (fun h' q => K _ _ q)
  obtain ⟨T', h', X', e', E, A, D, ⟨cell, q1, -, -⟩, st⟩ := newO X hx hZ hown w1 w2 w3 eT (g := mkF m pc Ls rest) rfl hd hc hl
  refine ⟨T', locs, X', N, ?_, st⟩
  rw [e']
  refine O.push E ⟨cell, q1, exaC_of q1 A, fun f hf => ?_, nodup_slots hL hN⟩
  obtain ⟨L1, d1⟩ := hL f hf
  obtain ⟨t1, t1', t1''⟩ := d1
  have := D L1 t1'
  rw [t1''] at this
  exact fldC_of q1 this
theorem idx_ok {j : Int32} {i len : Nat} (hj : j.toInt = (i : Int)) (hi : i < len) : ¬ (j < 0 ∨ len ≤ j.toNatClampNeg) ∧ j.toNatClampNeg = i := by
  have h0 : ¬ j < 0 := fun q => by have := Int32.lt_iff_toInt_lt.mp q; rw [hj] at this; have h1 : (0 : Int32).toInt = 0 := by decide
                                   omega
  have h1 : j.toNatClampNeg = i := by have := nat_of h0; omega
  exact ⟨fun q => by rcases q with q | q
                     · exact h0 q
                     · omega, h1⟩
theorem newarr (hx : p.tables.exec = Jvm.exec) (hZ : Z.Warmed39 s.vm) (O : Owns n0 h os) {aty : ArrayType} (w : (Jvm.Cond.arrayClass (newarray.typeOf aty)).before a0 Z = true) {z : Int32} (len : Nat) (hz : z.toInt = (len : Int)) (vs : List Value) (hvs : List.replicate len (defaultValue (newarray.typeOf aty)) = vs) (hfit : fits (newarray.typeOf aty) (defaultValue (newarray.typeOf aty)) = true) {cap : Nat} (hcap : len ≤ cap) (hbg : cap * 8 ≤ 536870912) {k' n' : Nat} (hk' : k + 1 = k') (hn' : n + cap = n') (hc : k' ≤ R.cells) (hl : n' ≤ R.slots)
    {pc pc' : Nat} {Ls : Array Slot} {rest : List Value} (hd : decode c.code pc = .ok (.newarray aty, 2)) (hp : pc + 2 = pc') (K : ∀ a h', Owns n0 h' ((a, ArrC Z (newarray.typeOf aty) vs) :: os) → Goes p l e R s m args below meth c n0 mc ms Fn h' k' n' (mkF m pc' Ls (.ref a :: rest))) : Goes p l e R s m args below meth c n0 mc ms Fn h k n (mkF m pc Ls (.int z :: rest)) := by
  subst hp hk' hn' hvs
  have hz0 : ¬ z < 0 := fun q => by have := Int32.lt_iff_toInt_lt.mp q; rw [hz] at this; have h1 : (0 : Int32).toInt = 0 := by decide
                                    omega
  have hz1 : z.toNatClampNeg = len := by have := nat_of hz0; omega
  refine Goes.move (Pr := fun h' => Owns n0 h' ((h.size, ArrC Z (newarray.typeOf aty) (List.replicate len (defaultValue (newarray.typeOf aty)))) :: os)) (fun T locs X N eT => ?_) (fun h' q => K _ _ q)
  obtain ⟨T', h', cA, X', e', E, A, st⟩ := newP X hx hZ w eT (g := mkF m pc Ls (.int z :: rest)) rfl hd rfl hz0 (cap := cap) (by omega) hbg hc hl
  refine ⟨T', locs, X', N, ?_, st⟩
  rw [e']
  refine O.push E ⟨_, A.1, A.2.1, A.2.2, by simp [newA, hz1], fun v hv => ?_⟩
  rw [(List.mem_replicate.mp hv).2]; exact hfit
theorem arrlen (hx : p.tables.exec = Jvm.exec) (hZ : Z.Warmed39 s.vm) (O : Owns n0 h os) (i : Nat) {ty : FieldType} {vs : List Value} (hi : os[i]? = some (a, ArrC Z ty vs)) (z : Int32) (hz : vs.length.toInt32 = z) {pc pc' : Nat} {Ls : Array Slot} {rest : List Value} (hd : decode c.code pc = .ok (.arraylength, 1)) (hp : pc + 1 = pc')
    (K : Goes p l e R s m args below meth c n0 mc ms Fn h k n (mkF m pc' Ls (.int z :: rest))) : Goes p l e R s m args below meth c n0 mc ms Fn h k n (mkF m pc Ls (.ref a :: rest)) := fun T locs X N eT => by
  subst hp hz
  obtain ⟨-, cell, q1, q2, q3, q4, q5⟩ := O.at hi
  obtain ⟨s₂, o, hs, r⟩ := K T locs X N eT
  refine ⟨s₂, o, ?_, r⟩
  refine X.arraylength hx (by rw [eT]; exact q1) (State.isArrayOf_alike hZ.alike q2) (g := mkF m pc Ls (.ref a :: rest)) rfl rfl hd _ ?_
  have e1 : cell.slots.size = vs.length := by rw [← q4, Array.length_toList]
  rw [e1]; exact hs
theorem iaload (hx : p.tables.exec = Jvm.exec) (hZ : Z.Warmed39 s.vm) (O : Owns n0 h os) (i j : Nat) {vs : List Value} (hi : os[i]? = some (a, ArrC Z .int vs)) {jj : Int32} (hj : jj.toInt = (j : Int)) {v : Value} (hv : vs[j]? = some v) {pc pc' : Nat} {Ls : Array Slot} {rest : List Value} (hd : decode c.code pc = .ok (.iaload, 1)) (hp : pc + 1 = pc')
    (K : Goes p l e R s m args below meth c n0 mc ms Fn h k n (mkF m pc' Ls (v :: rest))) : Goes p l e R s m args below meth c n0 mc ms Fn h k n (mkF m pc Ls (.int jj :: .ref a :: rest)) := fun T locs X N eT => by
  subst hp
  obtain ⟨-, cell, q1, q2, q3, q4, q5⟩ := O.at hi
  have e1 : cell.slots.size = vs.length := by rw [← q4, Array.length_toList]
  obtain ⟨hin, hjn⟩ := idx_ok hj (len := cell.slots.size) (by rw [e1]; exact (List.getElem?_eq_some_iff.mp hv).1)
  obtain ⟨s₂, o, hs, r⟩ := K T locs X N eT
  refine ⟨s₂, o, X.iaload hx (by rw [eT]; exact q1) (State.isArrayOf_alike hZ.alike q2) q3 hin (by rw [hjn, ← Array.getElem?_toList, q4]; exact hv) (g := mkF m pc Ls (.int jj :: .ref a :: rest)) rfl rfl hd _ hs, r⟩
theorem laload (hx : p.tables.exec = Jvm.exec) (hZ : Z.Warmed39 s.vm) (O : Owns n0 h os) (i j : Nat) {vs : List Value} (hi : os[i]? = some (a, ArrC Z .long vs)) {jj : Int32} (hj : jj.toInt = (j : Int)) {v : Value} (hv : vs[j]? = some v) {pc pc' : Nat} {Ls : Array Slot} {rest : List Value} (hd : decode c.code pc = .ok (.laload, 1)) (hp : pc + 1 = pc')
    (K : Goes p l e R s m args below meth c n0 mc ms Fn h k n (mkF m pc' Ls (v :: rest))) : Goes p l e R s m args below meth c n0 mc ms Fn h k n (mkF m pc Ls (.int jj :: .ref a :: rest)) := fun T locs X N eT => by
  subst hp
  obtain ⟨-, cell, q1, q2, q3, q4, q5⟩ := O.at hi
  have e1 : cell.slots.size = vs.length := by rw [← q4, Array.length_toList]
  obtain ⟨hin, hjn⟩ := idx_ok hj (len := cell.slots.size) (by rw [e1]; exact (List.getElem?_eq_some_iff.mp hv).1)
  obtain ⟨s₂, o, hs, r⟩ := K T locs X N eT
  refine ⟨s₂, o, X.laload hx (by rw [eT]; exact q1) (State.isArrayOf_alike hZ.alike q2) q3 hin (by rw [hjn, ← Array.getElem?_toList, q4]; exact hv) (g := mkF m pc Ls (.int jj :: .ref a :: rest)) rfl rfl hd _ hs, r⟩
theorem caload (hx : p.tables.exec = Jvm.exec) (hZ : Z.Warmed39 s.vm) (O : Owns n0 h os) (i j : Nat) {vs : List Value} (hi : os[i]? = some (a, ArrC Z .char vs)) {jj : Int32} (hj : jj.toInt = (j : Int)) {v : Value} (hv : vs[j]? = some v) {pc pc' : Nat} {Ls : Array Slot} {rest : List Value} (hd : decode c.code pc = .ok (.caload, 1)) (hp : pc + 1 = pc')
    (K : Goes p l e R s m args below meth c n0 mc ms Fn h k n (mkF m pc' Ls (v :: rest))) : Goes p l e R s m args below meth c n0 mc ms Fn h k n (mkF m pc Ls (.int jj :: .ref a :: rest)) := fun T locs X N eT => by
  subst hp
  obtain ⟨-, cell, q1, q2, q3, q4, q5⟩ := O.at hi
  have e1 : cell.slots.size = vs.length := by rw [← q4, Array.length_toList]
  obtain ⟨hin, hjn⟩ := idx_ok hj (len := cell.slots.size) (by rw [e1]; exact (List.getElem?_eq_some_iff.mp hv).1)
  obtain ⟨s₂, o, hs, r⟩ := K T locs X N eT
  refine ⟨s₂, o, X.caload hx (by rw [eT]; exact q1) (State.isArrayOf_alike hZ.alike q2) q3 hin (by rw [hjn, ← Array.getElem?_toList, q4]; exact hv) (g := mkF m pc Ls (.int jj :: .ref a :: rest)) rfl rfl hd _ hs, r⟩
theorem iastore (hx : p.tables.exec = Jvm.exec) (hZ : Z.Warmed39 s.vm) (O : Owns n0 h os) (i j : Nat) {vs : List Value} (hi : os[i]? = some (a, ArrC Z .int vs)) {jj : Int32} (hj : jj.toInt = (j : Int)) (hv : j < vs.length) {x : Int32} (os' : List (Addr × (Cell → Prop))) (hos : os.set i (a, ArrC Z .int (vs.set j (.int x))) = os') {pc pc' : Nat} {Ls : Array Slot} {rest : List Value} (hd : decode c.code pc = .ok (.iastore, 1)) (hp : pc + 1 = pc')
    (K : ∀ h', Owns n0 h' os' → Goes p l e R s m args below meth c n0 mc ms Fn h' k n (mkF m pc' Ls rest)) : Goes p l e R s m args below meth c n0 mc ms Fn h k n (mkF m pc Ls (.int x :: .int jj :: .ref a :: rest)) := by
  subst hp hos
  refine Goes.move (Pr := fun h' => Owns n0 h' (os.set i (a, ArrC Z .int (vs.set j (.int x))))) (fun T locs X N eT => ?_) K
  obtain ⟨q0, cell, q1, q2, q3, q4, q5⟩ := O.at hi
  have e1 : cell.slots.size = vs.length := by rw [← q4, Array.length_toList]
  obtain ⟨hin, hjn⟩ := idx_ok hj (len := cell.slots.size) (by rw [e1]; exact hv)
  obtain ⟨T', h', X', e', W, st'⟩ := stI X hx hZ eT ⟨q1, q2, q3⟩ hin (g := mkF m pc Ls (.int x :: .int jj :: .ref a :: rest)) rfl rfl hd
  refine ⟨T', _, X', Fr.snoc X' N q0, ?_, st'⟩
  rw [e']
  rw [hjn] at W
  obtain ⟨w1, w2, w3⟩ := wr_get W
  exact O.upd hi w1 w2 ⟨_, w3 _ q1, q2, q3, by simp [Cell.setSlot, Array.toList_setIfInBounds, q4], fun v hv' => by
    rcases List.mem_or_eq_of_mem_set hv' with z | z
    · exact q5 v z
    · rw [z]; exact rfl⟩
theorem lastore (hx : p.tables.exec = Jvm.exec) (hZ : Z.Warmed39 s.vm) (O : Owns n0 h os) (i j : Nat) {vs : List Value} (hi : os[i]? = some (a, ArrC Z .long vs)) {jj : Int32} (hj : jj.toInt = (j : Int)) (hv : j < vs.length) {x : Int64} (os' : List (Addr × (Cell → Prop))) (hos : os.set i (a, ArrC Z .long (vs.set j (.long x))) = os') {pc pc' : Nat} {Ls : Array Slot} {rest : List Value} (hd : decode c.code pc = .ok (.lastore, 1)) (hp : pc + 1 = pc')
    (K : ∀ h', Owns n0 h' os' → Goes p l e R s m args below meth c n0 mc ms Fn h' k n (mkF m pc' Ls rest)) : Goes p l e R s m args below meth c n0 mc ms Fn h k n (mkF m pc Ls (.long x :: .int jj :: .ref a :: rest)) := by
  subst hp hos
  refine Goes.move (Pr := fun h' => Owns n0 h' (os.set i (a, ArrC Z .long (vs.set j (.long x))))) (fun T locs X N eT => ?_) K
  obtain ⟨q0, cell, q1, q2, q3, q4, q5⟩ := O.at hi
  have e1 : cell.slots.size = vs.length := by rw [← q4, Array.length_toList]
  obtain ⟨hin, hjn⟩ := idx_ok hj (len := cell.slots.size) (by rw [e1]; exact hv)
  obtain ⟨T', h', X', e', W, st'⟩ := stJ X hx hZ eT ⟨q1, q2, q3⟩ hin (g := mkF m pc Ls (.long x :: .int jj :: .ref a :: rest)) rfl rfl hd
  refine ⟨T', _, X', Fr.snoc X' N q0, ?_, st'⟩
  rw [e']
  rw [hjn] at W
  obtain ⟨w1, w2, w3⟩ := wr_get W
  exact O.upd hi w1 w2 ⟨_, w3 _ q1, q2, q3, by simp [Cell.setSlot, Array.toList_setIfInBounds, q4], fun v hv' => by
    rcases List.mem_or_eq_of_mem_set hv' with z | z
    · exact q5 v z
    · rw [z]; exact rfl⟩
theorem castore (hx : p.tables.exec = Jvm.exec) (hZ : Z.Warmed39 s.vm) (O : Owns n0 h os) (i j : Nat) {vs : List Value} (hi : os[i]? = some (a, ArrC Z .char vs)) {jj : Int32} (hj : jj.toInt = (j : Int)) (hv : j < vs.length) {x : Int32} (os' : List (Addr × (Cell → Prop))) (hos : os.set i (a, ArrC Z .char (vs.set j (.int (nar .char x)))) = os') {pc pc' : Nat} {Ls : Array Slot} {rest : List Value} (hd : decode c.code pc = .ok (.castore, 1)) (hp : pc + 1 = pc')
    (K : ∀ h', Owns n0 h' os' → Goes p l e R s m args below meth c n0 mc ms Fn h' k n (mkF m pc' Ls rest)) : Goes p l e R s m args below meth c n0 mc ms Fn h k n (mkF m pc Ls (.int x :: .int jj :: .ref a :: rest)) := by
  subst hp hos
  refine Goes.move (Pr := fun h' => Owns n0 h' (os.set i (a, ArrC Z .char (vs.set j (.int (nar .char x)))))) (fun T locs X N eT => ?_) K
  obtain ⟨q0, cell, q1, q2, q3, q4, q5⟩ := O.at hi
  have e1 : cell.slots.size = vs.length := by rw [← q4, Array.length_toList]
  obtain ⟨hin, hjn⟩ := idx_ok hj (len := cell.slots.size) (by rw [e1]; exact hv)
  obtain ⟨T', h', X', e', W, st'⟩ := stC X hx hZ eT ⟨q1, q2, q3⟩ hin (g := mkF m pc Ls (.int x :: .int jj :: .ref a :: rest)) rfl rfl hd
  refine ⟨T', _, X', Fr.snoc X' N q0, ?_, st'⟩
  rw [e']
  rw [hjn] at W
  obtain ⟨w1, w2, w3⟩ := wr_get W
  exact O.upd hi w1 w2 ⟨_, w3 _ q1, q2, q3, by simp [Cell.setSlot, Array.toList_setIfInBounds, q4], fun v hv' => by
    rcases List.mem_or_eq_of_mem_set hv' with z | z
    · exact q5 v z
    · rw [z]; exact fits_nar_char x⟩
theorem initobj (hx : p.tables.exec = Jvm.exec) (hZ : Z.Warmed39 s.vm) {own : String} (hown : s.vm.findClass own = some m.cls) {idx : Nat} (w1 : (Jvm.Cond.methodLink own idx Lib.objectInit).before a0 Z = true) (w2 : (Jvm.Cond.instanceMethod Lib.objectInit).before a0 Z = true) (w3 : (Jvm.Cond.code Lib.objectInit ⟨#[0xb1]⟩ 1 none).before a0 Z = true)
    {pc pc' : Nat} {Ls : Array Slot} {rest : List Value} (hml : Ls.size = c.maxLocals) {W : Nat} (hW : (rest.map fun v => v.category).sum ≤ W) (hf : 1 ≤ R.frames) (hl : W + 12 ≤ R.locals) (hd : decode c.code pc = .ok (.invokespecial idx, 3)) (hp : pc + 3 = pc') (K : Goes p l e R s m args below meth c n0 mc ms Fn h k n (mkF m pc' Ls rest)) : Goes p l e R s m args below meth c n0 mc ms Fn h k n (mkF m pc Ls (.ref a :: rest)) := by
  subst hp
  refine Goes.move (Pr := fun h' => h' = h) (k' := k) (n' := n) (g' := mkF m (pc + 3) Ls rest) (fun T locs X N eT => ?_) (fun h' q => by rw [q]; exact K)
  obtain ⟨T', X', e', st⟩ := initO X hx hZ hown w1 w2 w3 eT (g := mkF m pc Ls (.ref a :: rest)) rfl hml rfl hd hf (W := W) (by show 2 * 0 + _ ≤ _; omega) hl
  exact ⟨T', locs, X', N, e', st⟩
/-- a constructor by its contract -/
theorem callI (hx : p.tables.exec = Jvm.exec) (hZ : Z.Warmed39 s.vm) {own : String} (hown : s.vm.findClass own = some m.cls) {i : Nat} {y : MethodName} (hyn : y.name = "<init>") {bytes : ByteArray} {maxL : Nat} {rm : Room} {F : Option Value → Heap → Prop} {argsL rest : List Value}
    (w1 : (Jvm.Cond.methodLink own i y).before a0 Z = true) (w2 : (Jvm.Cond.instanceMethod y).before a0 Z = true) (w3 : (Jvm.Cond.initialized y.cls).before a0 Z = true) (w4 : (Jvm.Cond.code y bytes maxL none).before a0 Z = true) (hy : y.cls ≠ "java/lang/invoke/MethodHandle" ∧ y.cls ≠ "java/lang/invoke/VarHandle")
    {sg : ClassFile.MethodDescriptor} (hsg : parseMethodDescriptor y.desc = some sg) (hlen : argsL.length = sg.parameters.length) {pc pc' : Nat} {Ls : Array Slot} {W : Nat} (hW : (rest.map fun v => v.category).sum ≤ W) (hf : rm.frames + 1 ≤ R.frames) (hl : W + (maxL + 11) + rm.locals ≤ R.locals) (hcl : k + rm.cells ≤ R.cells) (hsl : n + rm.slots ≤ R.slots)
    {k' n' : Nat} (hk' : k + rm.cells = k') (hn' : n + rm.slots = n') (hml : Ls.size = c.maxLocals) (st : List Value) (hst : st = argsL.reverse ++ .ref a :: rest) (hd : decode c.code pc = .ok (.invokespecial i, 3)) (hp : pc + 3 = pc') (D : Does l y bytes maxL none [] rm Z (.ref a :: argsL).toArray h n0 F)
    (K : ∀ v h', F v h' → Goes p l e R s m args below meth c n0 mc ms Fn h' k' n' (mkF m pc' Ls (v.toList ++ rest))) : Goes p l e R s m args below meth c n0 mc ms Fn h k n (mkF m pc Ls st) := fun T locs X N eT => by
  subst hp hst hk' hn'
  obtain ⟨v, _, ⟨T', L', k', n'⟩, -, X', ⟨Lc, hQ, l1, y1, z1⟩, st⟩ := X.specialBack hx (y := y) hyn hown (mvT hZ w1) (mvT hZ w2) (mvT hZ w4) hy (backOf (W := W) (Q := fun v h' L => F v h' ∧ Fr n0 L) D hZ w4 w3 hf hl) (g := mkF m pc Ls (argsL.reverse ++ .ref a :: rest)) rfl hml (Steps.refl _) (a := a) (argsL := argsL) (rest := rest) (lenOf hsg hlen) rfl (by show 2 * 0 + _ ≤ _; omega) hd (fun _ _ => ⟨rfl, eT, hcl, hsl⟩)
  dsimp only [Pt.U, Pt.locs, Pt.cells, Pt.slots] at X' l1 y1 z1 st hQ
  subst l1 y1 z1
  obtain ⟨s₂, o, hs, r⟩ := K v T'.heap hQ.1 T' _ X' (N.app hQ.2) rfl
  exact ⟨s₂, o, st.trans hs, r⟩
/-- an instance method by its contract: the receiver is just of the class C -/
theorem callV (hx : p.tables.exec = Jvm.exec) (hZ : Z.Warmed39 s.vm) {own C : String} (hown : s.vm.findClass own = some m.cls) {i : Nat} {y : MethodName} {bytes : ByteArray} {maxL : Nat} {ret : Option FieldType} {rm : Room} {F : Option Value → Heap → Prop} {argsL rest : List Value} (E : Exa Z h a C)
    (w1 : (Jvm.Cond.methodLink own i y).before a0 Z = true) (w2 : (Jvm.Cond.declares y).before a0 Z = true) (w5 : (Jvm.Cond.selects C y y).before a0 Z = true) (w6 : (Jvm.Cond.instanceMethod y).before a0 Z = true) (w3 : (Jvm.Cond.initialized y.cls).before a0 Z = true) (w4 : (Jvm.Cond.code y bytes maxL ret).before a0 Z = true) (hy : y.cls ≠ "java/lang/invoke/MethodHandle" ∧ y.cls ≠ "java/lang/invoke/VarHandle")
    {sg : ClassFile.MethodDescriptor} (hsg : parseMethodDescriptor y.desc = some sg) (hlen : argsL.length = sg.parameters.length) {pc pc' : Nat} {Ls : Array Slot} {W : Nat} (hW : (rest.map fun v => v.category).sum ≤ W) (hf : rm.frames + 1 ≤ R.frames) (hl : W + (maxL + 11) + rm.locals ≤ R.locals) (hcl : k + rm.cells ≤ R.cells) (hsl : n + rm.slots ≤ R.slots)
    {k' n' : Nat} (hk' : k + rm.cells = k') (hn' : n + rm.slots = n') (hml : Ls.size = c.maxLocals) (st : List Value) (hst : st = argsL.reverse ++ .ref a :: rest) (hd : decode c.code pc = .ok (.invokevirtual i, 3)) (hp : pc + 3 = pc') (D : Does l y bytes maxL ret [] rm Z (.ref a :: argsL).toArray h n0 F)
    (K : ∀ v h', F v h' → Goes p l e R s m args below meth c n0 mc ms Fn h' k' n' (mkF m pc' Ls (v.toList ++ rest))) : Goes p l e R s m args below meth c n0 mc ms Fn h k n (mkF m pc Ls st) := fun T locs X N eT => by
  subst hp hst hk' hn'
  obtain ⟨cq, kq, qa, qb, qc⟩ := isOf hZ eT E
  obtain ⟨v, _, ⟨T', L', k', n'⟩, -, X', ⟨Lc, hQ, l1, y1, z1⟩, st⟩ := X.virtualBack hx (y := y) (z := y) hown (mvT hZ w1) (mvT hZ w2) (notFace_of_selects (args := #[]) (mvT hZ w5)) (mvT hZ w5) (mvT hZ w6) hy (backOf (W := W) (Q := fun v h' L => F v h' ∧ Fr n0 L) D hZ w4 w3 hf hl) qa qc (g := mkF m pc Ls (argsL.reverse ++ .ref a :: rest)) rfl hml (Steps.refl _) (argsL := argsL) (rest := rest) (lenOf hsg hlen) rfl (by show 2 * 0 + _ ≤ _; omega) hd (fun _ _ => ⟨rfl, eT, hcl, hsl⟩)
  dsimp only [Pt.U, Pt.locs, Pt.cells, Pt.slots] at X' l1 y1 z1 st hQ
  subst l1 y1 z1
  obtain ⟨s₂, o, hs, r⟩ := K v T'.heap hQ.1 T' _ X' (N.app hQ.2) rfl
  exact ⟨s₂, o, st.trans hs, r⟩
/-- a private method (by invokevirtual) by its contract -/
theorem callP (hx : p.tables.exec = Jvm.exec) (hZ : Z.Warmed39 s.vm) {own C : String} (hown : s.vm.findClass own = some m.cls) {i : Nat} {y : MethodName} {bytes : ByteArray} {maxL : Nat} {ret : Option FieldType} {rm : Room} {F : Option Value → Heap → Prop} {argsL rest : List Value} (E : Exa Z h a C)
    (w1 : (Jvm.Cond.methodLink own i y).before a0 Z = true) (w2 : (Jvm.Cond.instanceMethod y).before a0 Z = true) {ki : Nat} (wi : (Jvm.Cond.instantiable y.cls ki).before a0 Z = true) (w6 : (Jvm.Cond.privateMethod y).before a0 Z = true) (w3 : (Jvm.Cond.initialized y.cls).before a0 Z = true) (w4 : (Jvm.Cond.code y bytes maxL ret).before a0 Z = true) (hy : y.cls ≠ "java/lang/invoke/MethodHandle" ∧ y.cls ≠ "java/lang/invoke/VarHandle")
    {sg : ClassFile.MethodDescriptor} (hsg : parseMethodDescriptor y.desc = some sg) (hlen : argsL.length = sg.parameters.length) {pc pc' : Nat} {Ls : Array Slot} {W : Nat} (hW : (rest.map fun v => v.category).sum ≤ W) (hf : rm.frames + 1 ≤ R.frames) (hl : W + (maxL + 11) + rm.locals ≤ R.locals) (hcl : k + rm.cells ≤ R.cells) (hsl : n + rm.slots ≤ R.slots)
    {k' n' : Nat} (hk' : k + rm.cells = k') (hn' : n + rm.slots = n') (hml : Ls.size = c.maxLocals) (st : List Value) (hst : st = argsL.reverse ++ .ref a :: rest) (hd : decode c.code pc = .ok (.invokevirtual i, 3)) (hp : pc + 3 = pc') (D : Does l y bytes maxL ret [] rm Z (.ref a :: argsL).toArray h n0 F)
    (K : ∀ v h', F v h' → Goes p l e R s m args below meth c n0 mc ms Fn h' k' n' (mkF m pc' Ls (v.toList ++ rest))) : Goes p l e R s m args below meth c n0 mc ms Fn h k n (mkF m pc Ls st) := fun T locs X N eT => by
  subst hp hst hk' hn'
  obtain ⟨cq, qa, qb⟩ := E.cell
  have hpriv : s.PrivateAt y := Cond.privateMethod_at (mvP hZ w6 (args := #[]))
  obtain ⟨_, _, i1, i2, -, i3, -, -⟩ := Cond.instantiable_spec (mvT hZ wi : (Jvm.Cond.instantiable y.cls ki).before args s = true)
  have hsel : (Jvm.Cond.selects y.cls y y).before args s = true := selects_self_of_private i1 i2 (Bool.or_eq_false_iff.mp i3).1 hpriv (mvT hZ w2) hy
  obtain ⟨v, _, ⟨T', L', k', n'⟩, -, X', ⟨Lc, hQ, l1, y1, z1⟩, st⟩ := X.privateBack hx (y := y) hown (mvT hZ w1) (mvT hZ w2) hsel hpriv (mvT hZ w4) hy (backOf (W := W) (Q := fun v h' L => F v h' ∧ Fr n0 L) D hZ w4 w3 hf hl) (g := mkF m pc Ls (argsL.reverse ++ .ref a :: rest)) rfl hml (Steps.refl _) (a := a) (by rw [eT]; exact qa) qb (argsL := argsL) (rest := rest) (lenOf hsg hlen) rfl (by show 2 * 0 + _ ≤ _; omega) hd (fun _ _ => ⟨rfl, eT, hcl, hsl⟩)
  dsimp only [Pt.U, Pt.locs, Pt.cells, Pt.slots] at X' l1 y1 z1 st hQ
  subst l1 y1 z1
  obtain ⟨s₂, o, hs, r⟩ := K v T'.heap hQ.1 T' _ X' (N.app hQ.2) rfl
  exact ⟨s₂, o, st.trans hs, r⟩
end EngH
end Own
namespace Own
section EngX
variable {p : Program} {l : Launch} {e : Env} {R : Room} {s : State} {m : MethodId} {args : Array Value} {below : List Frame} {meth : Method} {c : Code} {n0 mc ms : Nat} {Fn : Option Value → Heap → Prop} {h h' : Heap} {k n : Nat} {Z : State} {a0 : Array Value} {os : List (Addr × (Cell → Prop))} {a : Addr}
theorem newarrR (hx : p.tables.exec = Jvm.exec) (hZ : Z.Warmed39 s.vm) {own : String} (hown : s.vm.findClass own = some m.cls) (O : Owns n0 h os) {C : String} {idx : Nat} (w1 : (Jvm.Cond.classLink own idx C).before a0 Z = true) (w2 : (Jvm.Cond.arrayOver (.object C)).before a0 Z = true) {z : Int32} (len : Nat) (hz : z.toInt = (len : Int)) (vs : List Value) (hvs : List.replicate len Value.null = vs) {cap : Nat} (hcap : len ≤ cap) (hbg : cap * 8 ≤ 536870912) {k' n' : Nat} (hk' : k + 1 = k') (hn' : n + cap = n') (hc : k' ≤ R.cells) (hl : n' ≤ R.slots)
    {pc pc' : Nat} {Ls : Array Slot} {rest : List Value} (hd : decode c.code pc = .ok (.anewarray idx, 3)) (hp : pc + 3 = pc') (K : ∀ a h', Owns n0 h' ((a, ArrC Z (.object C) vs) :: os) → Goes p l e R s m args below meth c n0 mc ms Fn h' k' n' (mkF m pc' Ls (.ref a :: rest))) : Goes p l e R s m args below meth c n0 mc ms Fn h k n (mkF m pc Ls (.int z :: rest)) := by
  subst hp hk' hn' hvs
  have hz0 : ¬ z < 0 := fun q => by have := Int32.lt_iff_toInt_lt.mp q; rw [hz] at this; have h1 : (0 : Int32).toInt = 0 := by decide
                                    omega
  have hz1 : z.toNatClampNeg = len := by have := nat_of hz0; omega
  refine Goes.move (Pr := fun h' => Owns n0 h' ((h.size, ArrC Z (.object C) (List.replicate len Value.null)) :: os)) (fun T locs X N eT => ?_) (fun h' q => K _ _ q)
  obtain ⟨T', h', cA, X', e', E, A, -, st⟩ := newR X hx hZ hown w1 w2 eT (g := mkF m pc Ls (.int z :: rest)) rfl hd rfl hz0 (cap := cap) (by omega) hbg hc hl
  refine ⟨T', locs, X', N, ?_, st⟩
  rw [e']
  refine O.push E ⟨_, A.1, A.2.1, A.2.2, by simp [newA, hz1, defaultValue], fun v hv => ?_⟩
  rw [(List.mem_replicate.mp hv).2]; rfl
theorem aastoreN (hx : p.tables.exec = Jvm.exec) (hZ : Z.Warmed39 s.vm) (O : Owns n0 h os) (i j : Nat) {C : String} {vs : List Value} (hi : os[i]? = some (a, ArrC Z (.object C) vs)) {jj : Int32} (hj : jj.toInt = (j : Int)) (hv : j < vs.length) (os' : List (Addr × (Cell → Prop))) (hos : os.set i (a, ArrC Z (.object C) (vs.set j .null)) = os') {pc pc' : Nat} {Ls : Array Slot} {rest : List Value} (hd : decode c.code pc = .ok (.aastore, 1)) (hp : pc + 1 = pc')
    (K : ∀ h', Owns n0 h' os' → Goes p l e R s m args below meth c n0 mc ms Fn h' k n (mkF m pc' Ls rest)) : Goes p l e R s m args below meth c n0 mc ms Fn h k n (mkF m pc Ls (.null :: .int jj :: .ref a :: rest)) := by
  subst hp hos
  refine Goes.move (Pr := fun h' => Owns n0 h' (os.set i (a, ArrC Z (.object C) (vs.set j .null)))) (fun T locs X N eT => ?_) K
  obtain ⟨q0, cell, q1, q2, q3, q4, q5⟩ := O.at hi
  have e1 : cell.slots.size = vs.length := by rw [← q4, Array.length_toList]
  obtain ⟨hin, hjn⟩ := idx_ok hj (len := cell.slots.size) (by rw [e1]; exact hv)
  obtain ⟨T', h', X', e', W, st'⟩ := stR X hx hZ eT ⟨q1, q2, q3⟩ hin rfl (Or.inl rfl) (g := mkF m pc Ls (.null :: .int jj :: .ref a :: rest)) rfl rfl hd
  refine ⟨T', _, X', Fr.snoc X' N q0, ?_, st'⟩
  rw [e']
  rw [hjn] at W
  obtain ⟨w1, w2, w3⟩ := wr_get W
  exact O.upd hi w1 w2 ⟨_, w3 _ q1, q2, q3, by simp [Cell.setSlot, Array.toList_setIfInBounds, q4], fun v hv' => by
    rcases List.mem_or_eq_of_mem_set hv' with z | z
    · exact q5 v z
    · rw [z]; rfl⟩
theorem tn {j : Int32} {i : Nat} (hj : j.toInt = (i : Int)) : ¬ j < 0 ∧ j.toNatClampNeg = i := by
  have h0 : ¬ j < 0 := fun q => by have := Int32.lt_iff_toInt_lt.mp q; rw [hj] at this; have h1 : (0 : Int32).toInt = 0 := by decide
                                   omega
  exact ⟨h0, by have := nat_of h0; omega⟩
theorem arv_of {ty : FieldType} {vs : List Value} {cell : Cell} {dv : Value} (q1 : h[a]? = some cell) (q : ArrC Z ty vs cell) (hl : vs.length < 2147483648) : Arv Z h a cell.cls ty vs.length.toInt32 vs dv := by
  obtain ⟨q2, q3, q4, q5⟩ := q
  have e1 : cell.slots.size = vs.length := by rw [← q4, Array.length_toList]
  have e2 : vs.length.toInt32.toInt = (vs.length : Int) := len_toInt (by omega)
  obtain ⟨n0, e3⟩ := tn e2
  refine ⟨cell, ⟨q1, q2, q3⟩, rfl, by omega, n0, fun i hi => ?_, fun i hi => ?_⟩
  · rw [← Array.getElem?_toList, q4, List.getD_eq_getElem?_getD, List.getElem?_eq_getElem (by omega)]; rfl
  · rw [List.getD_eq_getElem?_getD, List.getElem?_eq_getElem (by omega)]; exact q5 _ (List.getElem_mem _)
theorem arrC_of {ty : FieldType} {vs : List Value} {dv : Value} {kc : ClassId} {z : Int32} (F : Arv Z h a kc ty z vs dv) (hl : vs.length = z.toNatClampNeg) : ∃ cell, h[a]? = some cell ∧ ArrC Z ty vs cell := by
  obtain ⟨cell, A, -, S, -, H, Gf⟩ := F
  refine ⟨cell, A.1, A.2.1, A.2.2, ?_, fun v hv => ?_⟩
  · refine List.ext_getElem? fun i => ?_
    by_cases hi : i < cell.slots.size
    · rw [Array.getElem?_toList, H i hi, List.getD_eq_getElem?_getD, List.getElem?_eq_getElem (by omega)]; rfl
    · rw [Array.getElem?_toList, Array.getElem?_eq_none (by omega), List.getElem?_eq_none (by omega)]
  · obtain ⟨i, hi⟩ := List.getElem?_of_mem hv
    have hlt := (List.getElem?_eq_some_iff.mp hi).1
    have := Gf i (by omega)
    rw [List.getD_eq_getElem?_getD, hi] at this
    exact this
/-- System.arraycopy from the i-th owned array to the j-th, both of one primitive kind -/
theorem acopy (hx : p.tables.exec = Jvm.exec) (hZ : Z.Warmed39 s.vm) {own : String} (hown : s.vm.findClass own = some m.cls) {idx : Nat} (w1 : (Jvm.Cond.methodLink own idx Jvm.Stand.acN).before a0 Z = true) (w2 : (Jvm.Cond.native Jvm.Stand.acN).before a0 Z = true) (w3 : (Jvm.Cond.static Jvm.Stand.acN).before a0 Z = true) (w4 : (Jvm.Cond.initialized "java/lang/System").before a0 Z = true)
    (O : Owns n0 h os) (i j : Nat) {b : Addr} {ty : FieldType} {vs vd : List Value} (hi : os[i]? = some (a, ArrC Z ty vs)) (hj : os[j]? = some (b, ArrC Z ty vd)) (hty : refKind ty = false) {sp dp nn : Int32} (spn dpn nnn : Nat) (h1 : sp.toInt = (spn : Int)) (h2 : dp.toInt = (dpn : Int)) (h3 : nn.toInt = (nnn : Int)) (h4 : spn + nnn ≤ vs.length) (h5 : dpn + nnn ≤ vd.length) (hb1 : vs.length < 2147483648) (hb2 : vd.length < 2147483648)
    (res : List Value) (hres : vd.take dpn ++ ((List.range nnn).map fun t => vs.getD (spn + t) .null) ++ vd.drop (dpn + nnn) = res) (os' : List (Addr × (Cell → Prop))) (hos : os.set j (b, ArrC Z ty res) = os')
    {pc pc' : Nat} {Ls : Array Slot} {rest : List Value} (hml : Ls.size = c.maxLocals) {W : Nat} (hW : (rest.map fun v => v.category).sum ≤ W) (hf : 1 ≤ R.frames) (hlo : W + (nativeFrameWords "java/lang/System" "arraycopy" 5 + 11) ≤ R.locals) (hd : decode c.code pc = .ok (.invokestatic idx, 3)) (hp : pc + 3 = pc')
    (K : ∀ h', Owns n0 h' os' → Goes p l e R s m args below meth c n0 mc ms Fn h' k n (mkF m pc' Ls rest)) : Goes p l e R s m args below meth c n0 mc ms Fn h k n (mkF m pc Ls (.int nn :: .int dp :: .ref b :: .int sp :: .ref a :: rest)) := by
  subst hp hos hres
  obtain ⟨-, ca, qa1, qa2⟩ := O.at hi
  obtain ⟨gb, cb, qb1, qb2⟩ := O.at hj
  have A : Arv Z h a ca.cls ty vs.length.toInt32 vs .null := arv_of qa1 qa2 hb1
  have B : Arv Z h b cb.cls ty vd.length.toInt32 vd .null := arv_of qb1 qb2 hb2
  obtain ⟨t1, u1⟩ := tn h1
  obtain ⟨t2, u2⟩ := tn h2
  obtain ⟨t3, u3⟩ := tn h3
  obtain ⟨-, va⟩ := tn (show vs.length.toInt32.toInt = (vs.length : Int) from len_toInt (by omega))
  obtain ⟨-, vb⟩ := tn (show vd.length.toInt32.toInt = (vd.length : Int) from len_toInt (by omega))
  refine Goes.move (Pr := fun h' => Owns n0 h' (os.set j (b, ArrC Z ty (vd.take dpn ++ ((List.range nnn).map fun t => vs.getD (spn + t) .null) ++ vd.drop (dpn + nnn))))) (fun T locs X N eT => ?_) K
  obtain ⟨T', h', L', X', e', N', Kp, F, st⟩ := cpA X hx hZ hown w1 w2 w3 w4 eT A B (Or.inl ⟨rfl, hty⟩) t1 t2 t3 (by rw [u1, u3, va]; exact h4) (by rw [u2, u3, vb]; exact h5) rfl (by rw [u2, u3]; exact h5) N gb (g := mkF m pc Ls (.int nn :: .int dp :: .ref b :: .int sp :: .ref a :: rest)) rfl hml rfl hd hf (W := W) (by show 2 * 0 + _ ≤ _; omega) hlo
  refine ⟨T', L', X', N', ?_, st⟩
  rw [e']
  rw [u1, u2, u3] at F
  refine O.upd hj Kp.1 (fun x cell hc hne => Kp.2.1 x cell hc (fun q => hne (List.mem_singleton.mp q))) (arrC_of F ?_)
  rw [vb]
  simp only [List.length_append, List.length_take, List.length_map, List.length_range, List.length_drop]
  omega
theorem ldcW (hx : p.tables.exec = Jvm.exec) (hZ : Z.Warmed39 s.vm) {own : String} (hown : s.vm.findClass own = some m.cls) {pc pc' i : Nat} {Ls : Array Slot} (z : Int32) {rest : List Value} (hd : decode c.code pc = .ok (.ldc_w i, 3)) (hp : pc + 3 = pc') (w : (Jvm.Cond.constant own i z).before a0 Z = true) (K : Goes p l e R s m args below meth c n0 mc ms Fn h k n (mkF m pc' Ls (.int z :: rest))) : Goes p l e R s m args below meth c n0 mc ms Fn h k n (mkF m pc Ls rest) := by
  subst hp; exact K.pure fun T locs t X hs => X.ldcWInt hx hown (mvT hZ w) (g := mkF m pc Ls rest) rfl hd t hs
end EngX
end Own
theorem own_tl {nn : Nat} (hn : nn < 2147483648) : nn.toInt32.toInt = (nn : Int) := len_toInt (by omega)
/-! the packing in plain numbers -/
def shx (x : Int32) (s : Nat) : Int64 := ((x - (1 : Int32)).toInt64 <<< (s.toInt32 &&& 0x3f).toInt64)
def rdx (u : Int64) (s b : Nat) : Int32 := (((u.toUInt64 >>> (s.toInt32 &&& 0x3f).toInt64.toUInt64).toInt64 &&& (((1 : Int64) <<< (b.toInt32 &&& 0x3f).toInt64) - (1 : Int64))).toInt32 + (1 : Int32))
theorem own_amt : ∀ s : Fin 64, (((s.val).toInt32 &&& (0x3f : Int32)).toInt64.toBitVec.smod 64).toNat = s.val ∧ (((s.val).toInt32 &&& (0x3f : Int32)).toInt64.toUInt64.toBitVec % 64).toNat = s.val := by decide +kernel
theorem own_msk : ∀ b : Fin 32, ((((1 : Int64) <<< ((b.val).toInt32 &&& (0x3f : Int32)).toInt64) - (1 : Int64))).toBitVec.toNat = 2 ^ b.val - 1 := by decide +kernel
theorem own_i2lN {x : Int32} {y : Nat} (hx : x.toInt = (y : Int)) : x.toInt64.toBitVec.toNat = y := by
  have h1 : x.toInt64.toInt = (y : Int) := by rw [Int32.toInt_toInt64]; exact hx
  have h2 : x.toInt64.toBitVec.toInt = (y : Int) := h1
  rw [BitVec.toInt_eq_toNat_cond] at h2
  have := x.toInt64.toBitVec.isLt
  split at h2 <;> omega
theorem shx_nat {x : Int32} {y s b : Nat} (hx : (x - (1 : Int32)).toInt = (y : Int)) (hs : s + b ≤ 64) (hs2 : s < 64) (hy : y < 2 ^ b) : (shx x s).toBitVec.toNat = y <<< s := by
  unfold shx
  have a1 : ((s.toInt32 &&& (0x3f : Int32)).toInt64.toBitVec.smod 64).toNat = s := (own_amt ⟨s, hs2⟩).1
  rw [Int64.toBitVec_shiftLeft, BitVec.shiftLeft_eq', a1, BitVec.toNat_shiftLeft, own_i2lN hx, Nat.shiftLeft_eq]
  refine Nat.mod_eq_of_lt (Nat.lt_of_lt_of_le (Nat.mul_lt_mul_of_pos_right hy (Nat.two_pow_pos s)) ?_)
  rw [← Nat.pow_add]
  exact Nat.pow_le_pow_right (by omega) (by omega)
theorem rdx_back {u : Int64} {x : Int32} {y s b : Nat} (hx : (x - (1 : Int32)).toInt = (y : Int)) (hs : s < 64) (hb : b ≤ 31) (hu : (u.toBitVec.toNat >>> s) % 2 ^ b = y) : rdx u s b = x := by
  have e : ((u.toUInt64 >>> (s.toInt32 &&& 0x3f).toInt64.toUInt64).toInt64 &&& (((1 : Int64) <<< (b.toInt32 &&& 0x3f).toInt64) - (1 : Int64))) = (x - (1 : Int32)).toInt64 := by
    apply Int64.toBitVec_inj.mp
    apply BitVec.eq_of_toNat_eq
    have a1 : ((s.toInt32 &&& (0x3f : Int32)).toInt64.toUInt64.toBitVec % 64).toNat = s := (own_amt ⟨s, hs⟩).2
    have a2 : ((((1 : Int64) <<< (b.toInt32 &&& (0x3f : Int32)).toInt64) - (1 : Int64))).toBitVec.toNat = 2 ^ b - 1 := own_msk ⟨b, by omega⟩
    rw [own_i2lN hx, Int64.toBitVec_and, BitVec.toNat_and, a2, Nat.and_two_pow_sub_one_eq_mod]
    have e2 : (u.toUInt64 >>> (s.toInt32 &&& 0x3f).toInt64.toUInt64).toInt64.toBitVec = u.toBitVec >>> ((s.toInt32 &&& 0x3f).toInt64.toUInt64.toBitVec % 64) := by
      show (u.toUInt64 >>> (s.toInt32 &&& 0x3f).toInt64.toUInt64).toBitVec = _
      rw [UInt64.toBitVec_shiftRight]; rfl
    rw [e2, BitVec.ushiftRight_eq', a1, BitVec.toNat_ushiftRight]
    exact hu
  unfold rdx
  rw [e, Int32.toInt32_toInt64]
  apply Int32.toBitVec_inj.mp
  simp
theorem tb_lo {y b i : Nat} (hy : y < 2 ^ b) (h : b ≤ i) : y.testBit i = false := Nat.testBit_lt_two_pow (Nat.lt_of_lt_of_le hy (Nat.pow_le_pow_right (by omega) h))
theorem plain1 {y0 y1 y2 b0 b1 b2 : Nat} (h0 : y0 < 2 ^ b0) (h1 : y1 < 2 ^ b1) (h2 : y2 < 2 ^ b2) :
    ((y0 <<< 0 ||| y1 <<< (0 + b0)) ||| y2 <<< (0 + b0 + b1)) >>> 0 % 2 ^ b0 = y0 ∧ ((y0 <<< 0 ||| y1 <<< (0 + b0)) ||| y2 <<< (0 + b0 + b1)) >>> (0 + b0) % 2 ^ b1 = y1 ∧ ((y0 <<< 0 ||| y1 <<< (0 + b0)) ||| y2 <<< (0 + b0 + b1)) >>> (0 + b0 + b1) % 2 ^ b2 = y2 := by
  refine ⟨Nat.eq_of_testBit_eq fun i => ?_, Nat.eq_of_testBit_eq fun i => ?_, Nat.eq_of_testBit_eq fun i => ?_⟩
  all_goals simp only [Nat.testBit_mod_two_pow, Nat.testBit_shiftRight, Nat.testBit_or, Nat.testBit_shiftLeft, Nat.zero_add]
  · by_cases q : i < b0
    · simp [q, show ¬ b0 ≤ i by omega, show ¬ b0 + b1 ≤ i by omega]
    · simp [q, tb_lo h0 (show b0 ≤ i by omega)]
  · by_cases q : i < b1
    · simp [q, tb_lo h0 (show b0 ≤ b0 + i by omega), show ¬ b1 ≤ i by omega]
    · simp [q, tb_lo h1 (show b1 ≤ i by omega)]
  · by_cases q : i < b2
    · simp [q, tb_lo h0 (show b0 ≤ b0 + b1 + i by omega), show b0 ≤ b0 + b1 + i by omega, show b0 + b1 + i - b0 = b1 + i by omega, tb_lo h1 (show b1 ≤ b1 + i by omega)]
    · simp [q, tb_lo h2 (show b2 ≤ i by omega)]
theorem plain2 {y0 y1 b0 b1 : Nat} (h0 : y0 < 2 ^ b0) (h1 : y1 < 2 ^ b1) :
    (y0 <<< 0 ||| y1 <<< (0 + b0)) >>> 0 % 2 ^ b0 = y0 ∧ (y0 <<< 0 ||| y1 <<< (0 + b0)) >>> (0 + b0) % 2 ^ b1 = y1 := by
  have h := plain1 (y2 := 0) (b2 := 0) h0 h1 (by decide)
  simp only [Nat.zero_shiftLeft, Nat.or_zero] at h
  exact ⟨h.1, h.2.1⟩
def pkA (x0 x1 x2 : Int32) (s0 s1 s2 : Nat) : Int64 := ((((0 : Int64) ||| shx x0 s0) ||| shx x1 s1) ||| shx x2 s2)
def pkB (x0 x1 : Int32) (s0 s1 : Nat) : Int64 := (((0 : Int64) ||| shx x0 s0) ||| shx x1 s1)
def pkC (x : Int32) (s : Nat) : Int64 := ((0 : Int64) ||| shx x s)
theorem law1 {x0 x1 x2 : Int32} {y0 y1 y2 b0 b1 b2 : Nat} (e0 : (x0 - (1 : Int32)).toInt = (y0 : Int)) (e1 : (x1 - (1 : Int32)).toInt = (y1 : Int)) (e2 : (x2 - (1 : Int32)).toInt = (y2 : Int)) (h0 : y0 < 2 ^ b0) (h1 : y1 < 2 ^ b1) (h2 : y2 < 2 ^ b2) (c0 : b0 ≤ 31) (c1 : b1 ≤ 31) (c2 : b2 ≤ 31) (hb : 0 + b0 + b1 + b2 ≤ 64) :
    rdx (pkA x0 x1 x2 0 (0 + b0) (0 + b0 + b1)) 0 b0 = x0 ∧ rdx (pkA x0 x1 x2 0 (0 + b0) (0 + b0 + b1)) (0 + b0) b1 = x1 ∧ rdx (pkA x0 x1 x2 0 (0 + b0) (0 + b0 + b1)) (0 + b0 + b1) b2 = x2 := by
  have hU : (pkA x0 x1 x2 0 (0 + b0) (0 + b0 + b1)).toBitVec.toNat = (y0 <<< 0 ||| y1 <<< (0 + b0)) ||| y2 <<< (0 + b0 + b1) := by
    unfold pkA
    rw [Int64.toBitVec_or, BitVec.toNat_or, Int64.toBitVec_or, BitVec.toNat_or, Int64.toBitVec_or, BitVec.toNat_or, shx_nat e0 (b := b0) (by omega) (by omega) h0, shx_nat e1 (b := b1) (by omega) (by omega) h1, shx_nat e2 (b := b2) (by omega) (by omega) h2]
    simp
  obtain ⟨p0, p1, p2⟩ := plain1 h0 h1 h2
  exact ⟨rdx_back e0 (by omega) c0 (by rw [hU]; exact p0), rdx_back e1 (by omega) c1 (by rw [hU]; exact p1), rdx_back e2 (by omega) c2 (by rw [hU]; exact p2)⟩
theorem law2 {x0 x1 x2 : Int32} {y0 y1 y2 b0 b1 b2 : Nat} (e0 : (x0 - (1 : Int32)).toInt = (y0 : Int)) (e1 : (x1 - (1 : Int32)).toInt = (y1 : Int)) (e2 : (x2 - (1 : Int32)).toInt = (y2 : Int)) (h0 : y0 < 2 ^ b0) (h1 : y1 < 2 ^ b1) (h2 : y2 < 2 ^ b2) (c0 : b0 ≤ 31) (c1 : b1 ≤ 31) (c2 : b2 ≤ 31) :
    rdx (pkB x0 x1 0 (0 + b0)) 0 b0 = x0 ∧ rdx (pkB x0 x1 0 (0 + b0)) (0 + b0) b1 = x1 ∧ rdx (pkC x2 0) 0 b2 = x2 := by
  have hU : (pkB x0 x1 0 (0 + b0)).toBitVec.toNat = y0 <<< 0 ||| y1 <<< (0 + b0) := by
    unfold pkB
    rw [Int64.toBitVec_or, BitVec.toNat_or, Int64.toBitVec_or, BitVec.toNat_or, shx_nat e0 (b := b0) (by omega) (by omega) h0, shx_nat e1 (b := b1) (by omega) (by omega) h1]
    simp
  have hV : (pkC x2 0).toBitVec.toNat = y2 := by
    unfold pkC
    rw [Int64.toBitVec_or, BitVec.toNat_or, shx_nat e2 (b := b2) (by omega) (by omega) h2]
    simp
  obtain ⟨p0, p1⟩ := plain2 h0 h1
  exact ⟨rdx_back e0 (by omega) c0 (by rw [hU]; exact p0), rdx_back e1 (by omega) c1 (by rw [hU]; exact p1), rdx_back e2 (by omega) c2 (by rw [hV, Nat.shiftRight_zero]; exact Nat.mod_eq_of_lt h2)⟩

/-! the leading zeros -/
def ush (x k : Int32) : Int32 := (x.toUInt32 >>> (k &&& 31).toUInt32).toInt32
def sgX (thr k x : Int32) : Int32 := if x < thr then x else ush x k
def sgN (thr k x n : Int32) : Int32 := if x < thr then n else n + k
def nlzP (x : Int32) : Int32 :=
  let x1 := sgX 65536 16 x; let n1 := (if x < (65536 : Int32) then (31 : Int32) else (15 : Int32))
  let x2 := sgX 256 8 x1; let n2 := sgN 256 (-8) x1 n1
  let x3 := sgX 16 4 x2; let n3 := sgN 16 (-4) x2 n2
  let x4 := sgX 4 2 x3; let n4 := sgN 4 (-2) x3 n3
  n4 - ush x4 1
def nlz (x : Int32) : Int32 := if (0 : Int32) < x then nlzP x else if x = (0 : Int32) then (32 : Int32) else (0 : Int32)
theorem own_amt5 : ∀ s : Fin 32, (((s.val).toInt32 &&& (31 : Int32)).toUInt32.toBitVec % 32).toNat = s.val := by decide +kernel
theorem own_nonneg {x : Int32} {a : Nat} (hx : x.toInt = (a : Int)) : x.toBitVec.toNat = a := by
  have h2 : x.toBitVec.toInt = (a : Int) := hx
  rw [BitVec.toInt_eq_toNat_cond] at h2
  have := x.toBitVec.isLt
  split at h2 <;> omega
theorem ush_toInt {x : Int32} {a : Nat} (hx : x.toInt = (a : Int)) (k : Nat) (h0 : 0 < k) (hk : k < 32) : (ush x k.toInt32).toInt = ((a / 2 ^ k : Nat) : Int) := by
  have a1 : ((k.toInt32 &&& (31 : Int32)).toUInt32.toBitVec % 32).toNat = k := own_amt5 ⟨k, hk⟩
  have e2 : (ush x k.toInt32).toBitVec = x.toBitVec >>> ((k.toInt32 &&& 31).toUInt32.toBitVec % 32) := by
    show (x.toUInt32 >>> (k.toInt32 &&& 31).toUInt32).toBitVec = _
    rw [UInt32.toBitVec_shiftRight]; rfl
  have e3 : (ush x k.toInt32).toBitVec.toNat = a / 2 ^ k := by
    rw [e2, BitVec.ushiftRight_eq', a1, BitVec.toNat_ushiftRight, own_nonneg hx, Nat.shiftRight_eq_div_pow]
  show (ush x k.toInt32).toBitVec.toInt = _
  rw [BitVec.toInt_eq_toNat_cond, e3]
  have r := rng32 x
  have hp2 : 2 ^ 1 ≤ 2 ^ k := Nat.pow_le_pow_right (by omega) h0
  have hle : a / 2 ^ k ≤ a / 2 := Nat.div_le_div_left (by omega) (by omega)
  split <;> omega
def SgI (a0 K : Nat) (x n : Int32) : Prop := ∃ a t : Nat, x.toInt = (a : Int) ∧ n.toInt = 31 - (t : Int) ∧ 1 ≤ a ∧ a < 2 ^ K ∧ a * 2 ^ t ≤ a0 ∧ a0 < (a + 1) * 2 ^ t
theorem t_le {a0 a t : Nat} (h1 : 1 ≤ a) (h2 : a * 2 ^ t ≤ a0) (h : a0 < 2147483648) : t ≤ 30 := by
  apply Classical.byContradiction
  intro q
  have : 2 ^ 31 ≤ 2 ^ t := Nat.pow_le_pow_right (by omega) (by omega)
  have := Nat.le_mul_of_pos_left (2 ^ t) h1
  omega
theorem sg_step {a0 j : Nat} {x n thr k kn : Int32} (h : SgI a0 (2 * j) x n) (hj : 0 < j) (hj2 : j < 32) (ht : thr.toInt = ((2 ^ j : Nat) : Int)) (hk : k = j.toInt32) (hkn : kn.toInt = -(j : Int)) (h31 : a0 < 2147483648) : SgI a0 j (sgX thr k x) (sgN thr kn x n) := by
  obtain ⟨a, t, ha, hn, h1, h2, h3, h4⟩ := h
  unfold sgX sgN
  by_cases q : x < thr
  · rw [if_pos q, if_pos q]
    have := Int32.lt_iff_toInt_lt.mp q
    rw [ha, ht] at this
    exact ⟨a, t, ha, hn, h1, by omega, h3, h4⟩
  · rw [if_neg q, if_neg q]
    have q1 : ¬ x.toInt < thr.toInt := fun z => q (Int32.lt_iff_toInt_lt.mpr z)
    rw [ha, ht] at q1
    have q2 : 2 ^ j ≤ a := by omega
    have hp := Nat.two_pow_pos j
    have tl := t_le h1 h3 h31
    refine ⟨a / 2 ^ j, t + j, by rw [hk]; exact ush_toInt ha j hj hj2, ?_, (Nat.one_le_div_iff hp).mpr q2, ?_, ?_, ?_⟩
    · have e := c_iadd n kn
      have r := rng32 (n + kn)
      rw [hn, hkn] at e
      omega
    · rw [Nat.div_lt_iff_lt_mul hp, ← Nat.pow_add, ← Nat.two_mul]; exact h2
    · rw [Nat.add_comm, Nat.pow_add, ← Nat.mul_assoc]
      exact Nat.le_trans (Nat.mul_le_mul_right _ (Nat.div_mul_le_self a _)) h3
    · rw [Nat.add_comm t j, Nat.pow_add, ← Nat.mul_assoc]
      refine Nat.lt_of_lt_of_le h4 (Nat.mul_le_mul_right _ ?_)
      have := Nat.lt_div_mul_add hp (a := a)
      rw [Nat.add_mul, Nat.one_mul]; omega
theorem nlz_spec {x : Int32} {a0 : Nat} (hx : x.toInt = (a0 : Int)) : ∃ b : Nat, b ≤ 31 ∧ (32 : Int32) - nlz x = b.toInt32 ∧ a0 < 2 ^ b := by
  have r := rng32 x
  have z0 : (0 : Int32).toInt = 0 := by decide
  unfold nlz
  by_cases q : (0 : Int32) < x
  · rw [if_pos q]
    have q1 := Int32.lt_iff_toInt_lt.mp q
    rw [z0, hx] at q1
    have i0 : SgI a0 (2 * 16) x 31 := ⟨a0, 0, hx, by decide, by omega, by omega, by omega, by omega⟩
    have i1 := sg_step (thr := 65536) (k := 16) (kn := -16) i0 (by decide) (by decide) (by decide) (by decide) (by decide) (by omega)
    have e15 : sgN 65536 (-16) x 31 = (if x < (65536 : Int32) then (31 : Int32) else (15 : Int32)) := by
      unfold sgN; rw [show (31 : Int32) + (-16) = 15 from by decide]
    rw [e15] at i1
    have i2 := sg_step (j := 8) (thr := 256) (k := 8) (kn := -8) i1 (by decide) (by decide) (by decide) (by decide) (by decide) (by omega)
    have i3 := sg_step (j := 4) (thr := 16) (k := 4) (kn := -4) i2 (by decide) (by decide) (by decide) (by decide) (by decide) (by omega)
    have i4 := sg_step (j := 2) (thr := 4) (k := 2) (kn := -2) i3 (by decide) (by decide) (by decide) (by decide) (by decide) (by omega)
    unfold nlzP
    dsimp only
    revert i4
    generalize sgX 4 2 _ = x4
    generalize sgN 4 (-2) _ _ = n4
    rintro ⟨a, t, ha, hn, h1, h2, h3, h4⟩
    have tl := t_le h1 h3 (by omega)
    have u := ush_toInt ha 1 (by decide) (by decide)
    have u' : (ush x4 (1 : Int32)).toInt = ((a / 2 : Nat) : Int) := u
    have hb : t + 1 + a / 2 ≤ 31 := by
      apply Classical.byContradiction
      intro z
      have hp : 2 ^ 31 ≤ 2 ^ (t + a / 2) := Nat.pow_le_pow_right (by omega) (by omega)
      have hq : 2 ^ (t + a / 2) ≤ a * 2 ^ t := by
        rw [Nat.add_comm, Nat.pow_add]
        refine Nat.mul_le_mul_right _ ?_
        have : a = 1 ∨ a = 2 ∨ a = 3 := by omega
        rcases this with rfl | rfl | rfl <;> decide
      omega
    refine ⟨t + 1 + a / 2, hb, Int32.toInt_inj.mp ?_, ?_⟩
    · have e1 := c_isub n4 (ush x4 1)
      have e2 := c_isub 32 (n4 - ush x4 1)
      have r2 := rng32 (32 - (n4 - ush x4 1))
      have t32 : (32 : Int32).toInt = 32 := by decide
      rw [hn, u'] at e1
      rw [t32] at e2
      rw [own_tl (nn := t + 1 + a / 2) (by omega)]
      omega
    · refine Nat.lt_of_lt_of_le h4 ?_
      rw [Nat.add_assoc, Nat.pow_add 2 t, Nat.mul_comm (2 ^ t)]
      refine Nat.mul_le_mul_right _ ?_
      have : a = 1 ∨ a = 2 ∨ a = 3 := by omega
      rcases this with rfl | rfl | rfl <;> decide
  · rw [if_neg q]
    have q1 : ¬ (0 : Int32).toInt < x.toInt := fun z => q (Int32.lt_iff_toInt_lt.mpr z)
    rw [z0, hx] at q1
    have : a0 = 0 := by omega
    subst this
    have : x = 0 := Int32.toInt_inj.mp (by rw [hx, z0]; rfl)
    rw [if_pos this]
    exact ⟨0, by omega, by decide, by decide⟩

/-! windows, buffers, the table's slots -/
def fWin (p : Int32) : Int32 := if (p &&& (2147483647 : Int32)) = (0 : Int32) then (1 : Int32) else (p &&& (2147483647 : Int32))
def fBuf (q : Int64) (k w : Int32) : Int32 := ((((q.toUInt64 >>> (k &&& 0x3f).toInt64.toUInt64).toInt64.toInt32 &&& (2147483647 : Int32)) % w) + (1 : Int32))
def mx (z : Int64) (k : Int32) (c : Int64) : Int64 := ((z ^^^ (z.toUInt64 >>> (k &&& 0x3f).toInt64.toUInt64).toInt64) * c)
def fMix (q : Int64) : Int64 := (mx (mx q 30 (-4658895280553007687)) 27 (-7723592293110705685) ^^^ ((mx (mx q 30 (-4658895280553007687)) 27 (-7723592293110705685)).toUInt64 >>> ((31 : Int32) &&& 0x3f).toInt64.toUInt64).toInt64)
theorem own_win {w p : Int32} (h : w = fWin p) : 1 ≤ w.toInt := by
  have M := c_and p (2147483647 : Int32) (by decide)
  have z0 : (0 : Int32).toInt = 0 := by decide
  have z1 : (1 : Int32).toInt = 1 := by decide
  rw [h]; unfold fWin
  split
  · rw [z1]; omega
  · next q =>
    have : (p &&& (2147483647 : Int32)).toInt ≠ 0 := fun e => q (Int32.toInt_inj.mp (by rw [e, z0]))
    omega
theorem own_wnz {w : Int32} (h : 1 ≤ w.toInt) : ¬ w = 0 := fun q => by rw [q, show (0 : Int32).toInt = 0 from by decide] at h; omega
theorem own_w1 {w : Int32} (h : 1 ≤ w.toInt) : (w - (1 : Int32)).toInt = w.toInt - 1 := by
  have e := c_isub w 1
  have r := rng32 w
  have r2 := rng32 (w - 1)
  have z1 : (1 : Int32).toInt = 1 := by decide
  rw [z1] at e
  omega
theorem own_bt {w : Int32} (h : 1 ≤ w.toInt) : ∃ b : Nat, b ≤ 31 ∧ ((32 : Int32) - (nlz (w - (1 : Int32)))) = b.toInt32 ∧ (w - (1 : Int32)).toInt < ((2 ^ b : Nat) : Int) := by
  have e := own_w1 h
  have hx : (w - (1 : Int32)).toInt = ((w.toInt - 1).toNat : Int) := by omega
  obtain ⟨b, h1, h2, h3⟩ := nlz_spec hx
  exact ⟨b, h1, h2, by rw [hx]; exact Int.ofNat_lt.mpr h3⟩
theorem own_buf {w : Int32} {b : Nat} (h : 1 ≤ w.toInt) (hb : (w - (1 : Int32)).toInt < ((2 ^ b : Nat) : Int)) (q : Int64) (k : Int32) : ∃ y : Nat, (fBuf q k w - (1 : Int32)).toInt = (y : Int) ∧ y < 2 ^ b := by
  unfold fBuf
  generalize (q.toUInt64 >>> (k &&& 0x3f).toInt64.toUInt64).toInt64.toInt32 = x
  have M := c_and x (2147483647 : Int32) (by decide)
  have e1 := (c_irem (x &&& (2147483647 : Int32)) w w.toInt rfl).1 M.1
  have b1 := Int.emod_nonneg (x &&& (2147483647 : Int32)).toInt (show w.toInt ≠ 0 by omega)
  have b2 := Int.emod_lt_of_pos (x &&& (2147483647 : Int32)).toInt (show (0 : Int) < w.toInt by omega)
  have e2 : ((x &&& (2147483647 : Int32)) % w + (1 : Int32) - (1 : Int32)) = (x &&& (2147483647 : Int32)) % w := by
    apply Int32.toBitVec_inj.mp; simp
  rw [e2]
  rw [own_w1 h] at hb
  exact ⟨((x &&& (2147483647 : Int32)) % w).toInt.toNat, by omega, by omega⟩
theorem own_home (x : Int64) : ∃ pos : Nat, pos < 1024 ∧ (x &&& (1023 : Int64)).toInt32 = pos.toInt32 := by
  have h := c_maskL x 1023 10 (by decide) (by decide)
  have e := Int64.toInt_toInt32 (x &&& 1023)
  have e2 := Int.bmod_emod (x := (x &&& 1023).toInt) (m := 2 ^ 32)
  have r := rng32 (x &&& 1023).toInt32
  refine ⟨(x &&& 1023).toInt.toNat, by omega, Int32.toInt_inj.mp ?_⟩
  rw [own_tl (by omega)]
  rw [← e] at e2
  omega
theorem own_wrapF : ∀ s : Fin 1024, ((s.val).toInt32 + (1 : Int32)) &&& (1023 : Int32) = ((s.val + 1) % 1024).toInt32 := by decide +kernel
theorem own_wrap {s : Nat} (h : s < 1024) : ((s.toInt32 + (1 : Int32)) &&& (1023 : Int32)) = ((s + 1) % 1024).toInt32 := own_wrapF ⟨s, h⟩
theorem own_free {TB : List Int32} (h : 1 ≤ TB.count (-1)) : ∃ f, f < TB.length ∧ TB.getD f 0 = (-1 : Int32) := by
  obtain ⟨i, hi, e⟩ := List.getElem_of_mem (List.count_pos_iff.mp (show 0 < TB.count (-1) by omega))
  exact ⟨i, hi, by rw [List.getD_eq_getElem?_getD, List.getElem?_eq_getElem hi]; exact e⟩
theorem own_count {TB : List Int32} {j k : Nat} {v : Int32} (hj : j < TB.length) (h : k + 1 ≤ TB.count (-1)) : k ≤ (TB.set j v).count (-1) := by
  rw [List.count_set hj]
  split <;> split <;> omega
def fl (i : Nat) : List Int32 := List.replicate i (-1 : Int32) ++ List.replicate (1024 - i) (0 : Int32)
theorem fl_len {i : Nat} (h : i ≤ 1024) : (fl i).length = 1024 := by unfold fl; simp; omega
theorem fl_set {i : Nat} (h : i < 1024) : (fl i).set i (-1) = fl (i + 1) := by
  unfold fl
  rw [List.set_append_right _ _ (by simp), List.length_replicate, Nat.sub_self, show 1024 - i = (1024 - (i + 1)) + 1 by omega, List.replicate_succ, List.set_cons_zero, List.replicate_succ', List.append_assoc]
  rfl
theorem fl_count : 2 ≤ (fl 1024).count (-1) := by unfold fl; rw [Nat.sub_self, List.replicate_zero, List.append_nil, List.count_replicate_self]; decide
def cpy {α : Type} (l : List α) (d : Nat) (xs : List α) (e : Nat) : List α := l.take d ++ xs ++ l.drop e
theorem cpy_len {α : Type} {l xs : List α} {d e n : Nat} (h : l.length = n) (hd : d ≤ n) (he : e ≤ n) (hx : d + xs.length = e) : (cpy l d xs e).length = n := by
  unfold cpy; simp; omega
theorem cpy_at {α : Type} {l xs : List α} {d e k : Nat} {v : α} (hd : d ≤ l.length) (hk : xs[k]? = some v) : (cpy l d xs e)[d + k]? = some v := by
  have := (List.getElem?_eq_some_iff.mp hk).1
  unfold cpy
  rw [List.append_assoc, List.getElem?_append_right (by simp; omega), List.length_take, Nat.min_eq_left hd, Nat.add_sub_cancel_left, List.getElem?_append_left this]
  exact hk
theorem cpy_lo {α : Type} {l xs : List α} {d e j : Nat} (hd : d ≤ l.length) (hj : j < d) : (cpy l d xs e)[j]? = l[j]? := by
  unfold cpy
  rw [List.append_assoc, List.getElem?_append_left (by simp; omega), List.getElem?_take_of_lt hj]
theorem own_le64 {n : Nat} (h : n ≤ 64) : ¬ (64 : Int32) < n.toInt32 := fun q => by
  have := Int32.lt_iff_toInt_lt.mp q
  rw [own_tl (by omega), show (64 : Int32).toInt = 64 from by decide] at this
  omega
theorem own_gt64 {n : Nat} (h : ¬ n ≤ 64) (h2 : n ≤ 1000) : (64 : Int32) < n.toInt32 := by
  apply Int32.lt_iff_toInt_lt.mpr
  rw [own_tl (by omega), show (64 : Int32).toInt = 64 from by decide]
  omega
theorem own_add2 (a b : Nat) : a.toInt32 + b.toInt32 = (a + b).toInt32 := (Int32.ofNat_add a b).symm
theorem own_succ (b : Nat) : (b + 1).toInt32 = b.toInt32 + (1 : Int32) := Int32.ofNat_add b 1
theorem own_same {sm x0 x1 x2 y0 y1 y2 : Int32} (h : sm = (if x0 = y0 then (if x1 = y1 then (if x2 = y2 then (1 : Int32) else (0 : Int32)) else (0 : Int32)) else (0 : Int32))) : (sm = (1 : Int32) ∧ x0 = y0 ∧ x1 = y1 ∧ x2 = y2) ∨ sm = (0 : Int32) := by
  split at h
  · next e0 =>
    split at h
    · next e1 =>
      split at h
      · next e2 => exact Or.inl ⟨h, e0, e1, e2⟩
      · exact Or.inr h
    · exact Or.inr h
  · exact Or.inr h
theorem own_fill_lt {i : Nat} (h : i < 1024) : i.toInt32 < (1024 : Int32) := by
  apply Int32.lt_iff_toInt_lt.mpr
  rw [own_tl (by omega), show (1024 : Int32).toInt = 1024 from by decide]
  omega

theorem own_tb_at {TB : List Int32} {i : Nat} (hi : i < TB.length) : (TB.map Value.int)[i]? = some (.int (TB.getD i 0)) := by
  rw [List.getElem?_map, List.getD_eq_getElem?_getD, List.getElem?_eq_getElem hi]; rfl
theorem own_fl0 : List.replicate 1024 (Value.int (0 : Int32)) = (fl 0).map Value.int := by unfold fl; rw [List.replicate_zero, List.nil_append, List.map_replicate]
abbrev PSo (Z : State) (x0 x1 x2 x3 x4 x5 x6 x7 : Value) : Cell → Prop := Own.ObjC Z "com/example/cuesheet/cuesheet/core/PackedStates" [(("com/example/cuesheet/cuesheet/core/PackedStates", "table", "Lcom/example/cuesheet/cuesheet/core/StateTable;"), x0), (("com/example/cuesheet/cuesheet/core/PackedStates", "word", "[I"), x1), (("com/example/cuesheet/cuesheet/core/PackedStates", "shift", "[I"), x2), (("com/example/cuesheet/cuesheet/core/PackedStates", "bits", "[I"), x3), (("com/example/cuesheet/cuesheet/core/PackedStates", "words", "I"), x4), (("com/example/cuesheet/cuesheet/core/PackedStates", "packed", "[J"), x5), (("com/example/cuesheet/cuesheet/core/PackedStates", "stored", "[J"), x6), (("com/example/cuesheet/cuesheet/core/PackedStates", "size", "I"), x7)]
abbrev STo (Z : State) (x0 x1 x2 : Value) : Cell → Prop := Own.ObjC Z "com/example/cuesheet/cuesheet/core/StateTable" [(("com/example/cuesheet/cuesheet/core/StateTable", "summaries", "[J"), x0), (("com/example/cuesheet/cuesheet/core/StateTable", "slots", "[I"), x1), (("com/example/cuesheet/cuesheet/core/StateTable", "size", "I"), x2)]
theorem d1_0 : decode method_2_code 0 = .ok (.iload_n 0, 1) := by decide +kernel
theorem d1_1 : decode method_2_code 1 = .ok (.ldc 7, 2) := by decide +kernel
theorem d1_3 : decode method_2_code 3 = .ok (.iand, 1) := by decide +kernel
theorem d1_4 : decode method_2_code 4 = .ok (.istore_n 1, 1) := by decide +kernel
theorem d1_5 : decode method_2_code 5 = .ok (.iload_n 1, 1) := by decide +kernel
theorem d1_6 : decode method_2_code 6 = .ok (.ifCond .ne 7, 3) := by decide +kernel
theorem d1_9 : decode method_2_code 9 = .ok (.iconst 1, 1) := by decide +kernel
theorem d1_10 : decode method_2_code 10 = .ok (.goto 4, 3) := by decide +kernel
theorem d1_13 : decode method_2_code 13 = .ok (.iload_n 1, 1) := by decide +kernel
theorem d1_14 : decode method_2_code 14 = .ok (.ireturn, 1) := by decide +kernel
theorem pn0 : plainFor (⟨"com/example/cuesheet/cuesheet/core/PackedStatesReadPinLaw", "win", "(I)I"⟩ : MethodName) = true := by first | exact plainFor_of_name (by simp [plainName, overriddenIn]; done) | decide +kernel
theorem ef1 (m : MethodId) (x0 : Int32) : entryFrame m #[(.int x0)] 2 = mkF m 0 #[.val (.int x0), .unset] [] := by first | (simp [entryFrame, mkF, argsToLocals, Value.category]; done) | rfl
set_option maxRecDepth 65536 in
set_option maxHeartbeats 40000000 in
theorem rm1 (l : Launch) (Z : State) (a0 : Array Value) (hw : ∀ d ∈ tables_1, d.before a0 Z = true) (p0 : Int32) (h0 : Heap) (n0 : Nat)   : Own.Does l (⟨"com/example/cuesheet/cuesheet/core/PackedStatesReadPinLaw", "win", "(I)I"⟩ : MethodName) method_2_code 2 (some .int) [] ({ frames := 0, cells := 0, slots := 0, locals := 0 } : Room) Z #[(.int p0)] h0 n0 (fun v h => v = some (.int (fWin p0)) ∧ h = h0) := by
  refine Own.doesOf pn0 ?_
  intro p e s m below meth c hx hby hml hret hlk hown hnm hZ
  refine Own.Goes.cast (ef1 m p0) ?_
  refine Own.iloadN hx p0 (hb hby d1_0) rfl rfl ?_
  refine Own.ldc hx hZ hown (2147483647 : Int32) (hb hby d1_1) rfl (hw _ (wm 4 rfl)) ?_
  refine Own.iand hx (hb hby d1_3) rfl ?_
  obtain ⟨v1, h_v1⟩ : ∃ z : Int32, z = (p0 &&& (2147483647 : Int32)) := ⟨_, rfl⟩
  refine Own.istoreN hx v1 h_v1 #[.val (.int p0), .val (.int v1)] (hb hby d1_4) rfl rfl ?_
  refine Own.iloadN hx v1 (hb hby d1_5) rfl rfl ?_
  obtain ⟨v3, h_v3⟩ : ∃ z : Int32, z = (if v1 = (0 : Int32) then (1 : Int32) else v1) := ⟨_, rfl⟩
  refine Own.Goes.join (mkF m 14 #[.val (.int p0), .val (.int v1)] [(.int v3)]) (fun kJ4 => ?_) ?_
  · refine Own.ifFn hx (Own.z_ne v1) (hb hby d1_6) (pcN := 9) rfl (by decide) (pcT := 13) rfl (fun hc2 => ?_) (fun hc2 => ?_)
    · refine Own.iloadN hx v1 (hb hby d1_13) rfl rfl ?_
      try simp only [if_neg hc2] at h_v3
      subst h_v3
      exact kJ4
    · refine Own.iconst hx (1 : Int32) (hb hby d1_9) rfl (by decide) ?_
      refine Own.goto hx (hb hby d1_10) (by decide) (pc' := 14) rfl ?_
      try simp only [if_pos hc2] at h_v3
      subst h_v3
      exact kJ4
  exact Own.retI hx hret hlk (hb hby d1_14) (by decide) (by decide) ⟨by subst h_v3 h_v1; simp only [fWin], rfl⟩

theorem d2_0 : decode method_3_code 0 = .ok (.lload_n 0, 1) := by decide +kernel
theorem d2_1 : decode method_3_code 1 = .ok (.iload_n 2, 1) := by decide +kernel
theorem d2_2 : decode method_3_code 2 = .ok (.lushr, 1) := by decide +kernel
theorem d2_3 : decode method_3_code 3 = .ok (.l2i, 1) := by decide +kernel
theorem d2_4 : decode method_3_code 4 = .ok (.istore 4, 2) := by decide +kernel
theorem d2_6 : decode method_3_code 6 = .ok (.iload 4, 2) := by decide +kernel
theorem d2_8 : decode method_3_code 8 = .ok (.ldc 7, 2) := by decide +kernel
theorem d2_10 : decode method_3_code 10 = .ok (.iand, 1) := by decide +kernel
theorem d2_11 : decode method_3_code 11 = .ok (.iload_n 3, 1) := by decide +kernel
theorem d2_12 : decode method_3_code 12 = .ok (.irem, 1) := by decide +kernel
theorem d2_13 : decode method_3_code 13 = .ok (.iconst 1, 1) := by decide +kernel
theorem d2_14 : decode method_3_code 14 = .ok (.iadd, 1) := by decide +kernel
theorem d2_15 : decode method_3_code 15 = .ok (.ireturn, 1) := by decide +kernel
theorem pn1 : plainFor (⟨"com/example/cuesheet/cuesheet/core/PackedStatesReadPinLaw", "buf", "(JII)I"⟩ : MethodName) = true := by first | exact plainFor_of_name (by simp [plainName, overriddenIn]; done) | decide +kernel
theorem ef2 (m : MethodId) (x0 : Int64) (x1 : Int32) (x2 : Int32) : entryFrame m #[(.long x0), (.int x1), (.int x2)] 5 = mkF m 0 #[.val (.long x0), .second, .val (.int x1), .val (.int x2), .unset] [] := by first | (simp [entryFrame, mkF, argsToLocals, Value.category]; done) | rfl
set_option maxRecDepth 65536 in
set_option maxHeartbeats 40000000 in
theorem rm2 (l : Launch) (Z : State) (a0 : Array Value) (hw : ∀ d ∈ tables_1, d.before a0 Z = true) (q0 : Int64) (p1 : Int32) (p2 : Int32) (h0 : Heap) (n0 : Nat)  (hnz : ¬ p2 = 0) : Own.Does l (⟨"com/example/cuesheet/cuesheet/core/PackedStatesReadPinLaw", "buf", "(JII)I"⟩ : MethodName) method_3_code 5 (some .int) [] ({ frames := 0, cells := 0, slots := 0, locals := 0 } : Room) Z #[(.long q0), (.int p1), (.int p2)] h0 n0 (fun v h => v = some (.int (fBuf q0 p1 p2)) ∧ h = h0) := by
  refine Own.doesOf pn1 ?_
  intro p e s m below meth c hx hby hml hret hlk hown hnm hZ
  refine Own.Goes.cast (ef2 m q0 p1 p2) ?_
  refine Own.lloadN hx q0 (hb hby d2_0) rfl rfl ?_
  refine Own.iloadN hx p1 (hb hby d2_1) rfl rfl ?_
  refine Own.lushr hx (hb hby d2_2) rfl ?_
  refine Own.l2i hx (hb hby d2_3) rfl ?_
  obtain ⟨v1, h_v1⟩ : ∃ z : Int32, z = (q0.toUInt64 >>> (p1 &&& 0x3f).toInt64.toUInt64).toInt64.toInt32 := ⟨_, rfl⟩
  refine Own.istore hx v1 h_v1 #[.val (.long q0), .second, .val (.int p1), .val (.int p2), .val (.int v1)] (hb hby d2_4) rfl rfl ?_
  refine Own.iload hx v1 (hb hby d2_6) rfl rfl ?_
  refine Own.ldc hx hZ hown (2147483647 : Int32) (hb hby d2_8) rfl (hw _ (wm 4 rfl)) ?_
  refine Own.iand hx (hb hby d2_10) rfl ?_
  refine Own.iloadN hx p2 (hb hby d2_11) rfl rfl ?_
  refine Own.irem hx (hb hby d2_12) rfl hnz ?_
  refine Own.iconst hx (1 : Int32) (hb hby d2_13) rfl (by decide) ?_
  refine Own.iadd hx (hb hby d2_14) rfl ?_
  exact Own.retI hx hret hlk (hb hby d2_15) (by decide) (by decide) ⟨by subst h_v1; rfl, rfl⟩

theorem d13_0 : decode prog_14_method_7_code 0 = .ok (.lload_n 0, 1) := by decide +kernel
theorem d13_1 : decode prog_14_method_7_code 1 = .ok (.lstore_n 2, 1) := by decide +kernel
theorem d13_2 : decode prog_14_method_7_code 2 = .ok (.lload_n 2, 1) := by decide +kernel
theorem d13_3 : decode prog_14_method_7_code 3 = .ok (.lload_n 2, 1) := by decide +kernel
theorem d13_4 : decode prog_14_method_7_code 4 = .ok (.bipush 30, 2) := by decide +kernel
theorem d13_6 : decode prog_14_method_7_code 6 = .ok (.lushr, 1) := by decide +kernel
theorem d13_7 : decode prog_14_method_7_code 7 = .ok (.lxor, 1) := by decide +kernel
theorem d13_8 : decode prog_14_method_7_code 8 = .ok (.ldc2_w 52, 3) := by decide +kernel
theorem d13_11 : decode prog_14_method_7_code 11 = .ok (.lmul, 1) := by decide +kernel
theorem d13_12 : decode prog_14_method_7_code 12 = .ok (.lstore_n 2, 1) := by decide +kernel
theorem d13_13 : decode prog_14_method_7_code 13 = .ok (.lload_n 2, 1) := by decide +kernel
theorem d13_14 : decode prog_14_method_7_code 14 = .ok (.lload_n 2, 1) := by decide +kernel
theorem d13_15 : decode prog_14_method_7_code 15 = .ok (.bipush 27, 2) := by decide +kernel
theorem d13_17 : decode prog_14_method_7_code 17 = .ok (.lushr, 1) := by decide +kernel
theorem d13_18 : decode prog_14_method_7_code 18 = .ok (.lxor, 1) := by decide +kernel
theorem d13_19 : decode prog_14_method_7_code 19 = .ok (.ldc2_w 54, 3) := by decide +kernel
theorem d13_22 : decode prog_14_method_7_code 22 = .ok (.lmul, 1) := by decide +kernel
theorem d13_23 : decode prog_14_method_7_code 23 = .ok (.lstore_n 2, 1) := by decide +kernel
theorem d13_24 : decode prog_14_method_7_code 24 = .ok (.lload_n 2, 1) := by decide +kernel
theorem d13_25 : decode prog_14_method_7_code 25 = .ok (.lload_n 2, 1) := by decide +kernel
theorem d13_26 : decode prog_14_method_7_code 26 = .ok (.bipush 31, 2) := by decide +kernel
theorem d13_28 : decode prog_14_method_7_code 28 = .ok (.lushr, 1) := by decide +kernel
theorem d13_29 : decode prog_14_method_7_code 29 = .ok (.lxor, 1) := by decide +kernel
theorem d13_30 : decode prog_14_method_7_code 30 = .ok (.lreturn, 1) := by decide +kernel
theorem pn2 : plainFor (⟨"com/example/cuesheet/cuesheet/core/StateTable", "mix", "(J)J"⟩ : MethodName) = true := by first | exact plainFor_of_name (by simp [plainName, overriddenIn]; done) | decide +kernel
theorem ef13 (m : MethodId) (x0 : Int64) : entryFrame m #[(.long x0)] 4 = mkF m 0 #[.val (.long x0), .second, .unset, .unset] [] := by first | (simp [entryFrame, mkF, argsToLocals, Value.category]; done) | rfl
set_option maxRecDepth 65536 in
set_option maxHeartbeats 40000000 in
theorem rm13 (l : Launch) (Z : State) (a0 : Array Value) (hw : ∀ d ∈ tables_1, d.before a0 Z = true) (q0 : Int64) (h0 : Heap) (n0 : Nat)   : Own.Does l (⟨"com/example/cuesheet/cuesheet/core/StateTable", "mix", "(J)J"⟩ : MethodName) prog_14_method_7_code 4 (some .long) [] ({ frames := 0, cells := 0, slots := 0, locals := 0 } : Room) Z #[(.long q0)] h0 n0 (fun v h => v = some (.long (fMix q0)) ∧ h = h0) := by
  refine Own.doesOf pn2 ?_
  intro p e s m below meth c hx hby hml hret hlk hown hnm hZ
  refine Own.Goes.cast (ef13 m q0) ?_
  refine Own.lloadN hx q0 (hb hby d13_0) rfl rfl ?_
  refine Own.lstoreN hx q0 rfl #[.val (.long q0), .second, .val (.long q0), .second] (hb hby d13_1) rfl rfl ?_
  refine Own.lloadN hx q0 (hb hby d13_2) rfl rfl ?_
  refine Own.lloadN hx q0 (hb hby d13_3) rfl rfl ?_
  refine Own.bipush hx (30 : Int32) (hb hby d13_4) rfl (by decide) ?_
  refine Own.lushr hx (hb hby d13_6) rfl ?_
  refine Own.lxor hx (hb hby d13_7) rfl ?_
  refine Own.ldc2 hx hZ hown (-4658895280553007687 : Int64) (hb hby d13_8) rfl (hw _ (wm 81 rfl)) ?_
  refine Own.lmul hx (hb hby d13_11) rfl ?_
  obtain ⟨v1, h_v1⟩ : ∃ z : Int64, z = ((q0 ^^^ (q0.toUInt64 >>> ((30 : Int32) &&& 0x3f).toInt64.toUInt64).toInt64) * (-4658895280553007687 : Int64)) := ⟨_, rfl⟩
  refine Own.lstoreN hx v1 h_v1 #[.val (.long q0), .second, .val (.long v1), .second] (hb hby d13_12) rfl rfl ?_
  refine Own.lloadN hx v1 (hb hby d13_13) rfl rfl ?_
  refine Own.lloadN hx v1 (hb hby d13_14) rfl rfl ?_
  refine Own.bipush hx (27 : Int32) (hb hby d13_15) rfl (by decide) ?_
  refine Own.lushr hx (hb hby d13_17) rfl ?_
  refine Own.lxor hx (hb hby d13_18) rfl ?_
  refine Own.ldc2 hx hZ hown (-7723592293110705685 : Int64) (hb hby d13_19) rfl (hw _ (wm 82 rfl)) ?_
  refine Own.lmul hx (hb hby d13_22) rfl ?_
  obtain ⟨v2, h_v2⟩ : ∃ z : Int64, z = ((v1 ^^^ (v1.toUInt64 >>> ((27 : Int32) &&& 0x3f).toInt64.toUInt64).toInt64) * (-7723592293110705685 : Int64)) := ⟨_, rfl⟩
  refine Own.lstoreN hx v2 h_v2 #[.val (.long q0), .second, .val (.long v2), .second] (hb hby d13_23) rfl rfl ?_
  refine Own.lloadN hx v2 (hb hby d13_24) rfl rfl ?_
  refine Own.lloadN hx v2 (hb hby d13_25) rfl rfl ?_
  refine Own.bipush hx (31 : Int32) (hb hby d13_26) rfl (by decide) ?_
  refine Own.lushr hx (hb hby d13_28) rfl ?_
  refine Own.lxor hx (hb hby d13_29) rfl ?_
  exact Own.retL hx hret hlk (hb hby d13_30) (by decide) (by decide) ⟨by subst h_v2 h_v1; rfl, rfl⟩

theorem d8_0 : decode jdk_33_method_47_code 0 = .ok (.iload_n 0, 1) := by decide +kernel
theorem d8_1 : decode jdk_33_method_47_code 1 = .ok (.ifCond .gt 14, 3) := by decide +kernel
theorem d8_4 : decode jdk_33_method_47_code 4 = .ok (.iload_n 0, 1) := by decide +kernel
theorem d8_5 : decode jdk_33_method_47_code 5 = .ok (.ifCond .ne 8, 3) := by decide +kernel
theorem d8_8 : decode jdk_33_method_47_code 8 = .ok (.bipush 32, 2) := by decide +kernel
theorem d8_10 : decode jdk_33_method_47_code 10 = .ok (.goto 4, 3) := by decide +kernel
theorem d8_13 : decode jdk_33_method_47_code 13 = .ok (.iconst 0, 1) := by decide +kernel
theorem d8_14 : decode jdk_33_method_47_code 14 = .ok (.ireturn, 1) := by decide +kernel
theorem d8_15 : decode jdk_33_method_47_code 15 = .ok (.bipush 31, 2) := by decide +kernel
theorem d8_17 : decode jdk_33_method_47_code 17 = .ok (.istore_n 1, 1) := by decide +kernel
theorem d8_18 : decode jdk_33_method_47_code 18 = .ok (.iload_n 0, 1) := by decide +kernel
theorem d8_19 : decode jdk_33_method_47_code 19 = .ok (.ldc_w 264, 3) := by decide +kernel
theorem d8_22 : decode jdk_33_method_47_code 22 = .ok (.if_icmp .lt 11, 3) := by decide +kernel
theorem d8_25 : decode jdk_33_method_47_code 25 = .ok (.iinc 1 (-16), 3) := by decide +kernel
theorem d8_28 : decode jdk_33_method_47_code 28 = .ok (.iload_n 0, 1) := by decide +kernel
theorem d8_29 : decode jdk_33_method_47_code 29 = .ok (.bipush 16, 2) := by decide +kernel
theorem d8_31 : decode jdk_33_method_47_code 31 = .ok (.iushr, 1) := by decide +kernel
theorem d8_32 : decode jdk_33_method_47_code 32 = .ok (.istore_n 0, 1) := by decide +kernel
theorem d8_33 : decode jdk_33_method_47_code 33 = .ok (.iload_n 0, 1) := by decide +kernel
theorem d8_34 : decode jdk_33_method_47_code 34 = .ok (.sipush 256, 3) := by decide +kernel
theorem d8_37 : decode jdk_33_method_47_code 37 = .ok (.if_icmp .lt 11, 3) := by decide +kernel
theorem d8_40 : decode jdk_33_method_47_code 40 = .ok (.iinc 1 (-8), 3) := by decide +kernel
theorem d8_43 : decode jdk_33_method_47_code 43 = .ok (.iload_n 0, 1) := by decide +kernel
theorem d8_44 : decode jdk_33_method_47_code 44 = .ok (.bipush 8, 2) := by decide +kernel
theorem d8_46 : decode jdk_33_method_47_code 46 = .ok (.iushr, 1) := by decide +kernel
theorem d8_47 : decode jdk_33_method_47_code 47 = .ok (.istore_n 0, 1) := by decide +kernel
theorem d8_48 : decode jdk_33_method_47_code 48 = .ok (.iload_n 0, 1) := by decide +kernel
theorem d8_49 : decode jdk_33_method_47_code 49 = .ok (.bipush 16, 2) := by decide +kernel
theorem d8_51 : decode jdk_33_method_47_code 51 = .ok (.if_icmp .lt 10, 3) := by decide +kernel
theorem d8_54 : decode jdk_33_method_47_code 54 = .ok (.iinc 1 (-4), 3) := by decide +kernel
theorem d8_57 : decode jdk_33_method_47_code 57 = .ok (.iload_n 0, 1) := by decide +kernel
theorem d8_58 : decode jdk_33_method_47_code 58 = .ok (.iconst 4, 1) := by decide +kernel
theorem d8_59 : decode jdk_33_method_47_code 59 = .ok (.iushr, 1) := by decide +kernel
theorem d8_60 : decode jdk_33_method_47_code 60 = .ok (.istore_n 0, 1) := by decide +kernel
theorem d8_61 : decode jdk_33_method_47_code 61 = .ok (.iload_n 0, 1) := by decide +kernel
theorem d8_62 : decode jdk_33_method_47_code 62 = .ok (.iconst 4, 1) := by decide +kernel
theorem d8_63 : decode jdk_33_method_47_code 63 = .ok (.if_icmp .lt 10, 3) := by decide +kernel
theorem d8_66 : decode jdk_33_method_47_code 66 = .ok (.iinc 1 (-2), 3) := by decide +kernel
theorem d8_69 : decode jdk_33_method_47_code 69 = .ok (.iload_n 0, 1) := by decide +kernel
theorem d8_70 : decode jdk_33_method_47_code 70 = .ok (.iconst 2, 1) := by decide +kernel
theorem d8_71 : decode jdk_33_method_47_code 71 = .ok (.iushr, 1) := by decide +kernel
theorem d8_72 : decode jdk_33_method_47_code 72 = .ok (.istore_n 0, 1) := by decide +kernel
theorem d8_73 : decode jdk_33_method_47_code 73 = .ok (.iload_n 1, 1) := by decide +kernel
theorem d8_74 : decode jdk_33_method_47_code 74 = .ok (.iload_n 0, 1) := by decide +kernel
theorem d8_75 : decode jdk_33_method_47_code 75 = .ok (.iconst 1, 1) := by decide +kernel
theorem d8_76 : decode jdk_33_method_47_code 76 = .ok (.iushr, 1) := by decide +kernel
theorem d8_77 : decode jdk_33_method_47_code 77 = .ok (.isub, 1) := by decide +kernel
theorem d8_78 : decode jdk_33_method_47_code 78 = .ok (.ireturn, 1) := by decide +kernel
theorem pn3 : plainFor (⟨"java/lang/Integer", "numberOfLeadingZeros", "(I)I"⟩ : MethodName) = true := by first | exact plainFor_of_name (by simp [plainName, overriddenIn]; done) | decide +kernel
theorem ef8 (m : MethodId) (x0 : Int32) : entryFrame m #[(.int x0)] 2 = mkF m 0 #[.val (.int x0), .unset] [] := by first | (simp [entryFrame, mkF, argsToLocals, Value.category]; done) | rfl
set_option maxRecDepth 65536 in
set_option maxHeartbeats 40000000 in
theorem rm8 (l : Launch) (Z : State) (a0 : Array Value) (hw : ∀ d ∈ tables_1, d.before a0 Z = true) (p0 : Int32) (h0 : Heap) (n0 : Nat)   : Own.Does l (⟨"java/lang/Integer", "numberOfLeadingZeros", "(I)I"⟩ : MethodName) jdk_33_method_47_code 2 (some .int) [] ({ frames := 0, cells := 0, slots := 0, locals := 0 } : Room) Z #[(.int p0)] h0 n0 (fun v h => v = some (.int (nlz p0)) ∧ h = h0) := by
  refine Own.doesOf pn3 ?_
  intro p e s m below meth c hx hby hml hret hlk hown hnm hZ
  refine Own.Goes.cast (ef8 m p0) ?_
  refine Own.iloadN hx p0 (hb hby d8_0) rfl rfl ?_
  refine Own.ifF hx (Own.z_gt p0) (hb hby d8_1) (pcN := 4) rfl (by decide) (pcT := 15) rfl (fun hc1 => ?_) (fun hc1 => ?_)
  · refine Own.bipush hx (31 : Int32) (hb hby d8_15) rfl (by decide) ?_
    refine Own.istoreN hx (31 : Int32) rfl #[.val (.int p0), .val (.int (31 : Int32))] (hb hby d8_17) rfl rfl ?_
    refine Own.iloadN hx p0 (hb hby d8_18) rfl rfl ?_
    refine Own.ldcW hx hZ hown (65536 : Int32) (hb hby d8_19) rfl (hw _ (wm 49 rfl)) ?_
    obtain ⟨xz0, h_xz0⟩ : ∃ z : Int32, z = (if p0 < (65536 : Int32) then p0 else (p0.toUInt32 >>> ((16 : Int32) &&& 31).toUInt32).toInt32) := ⟨_, rfl⟩
    obtain ⟨nz0, h_nz0⟩ : ∃ z : Int32, z = (if p0 < (65536 : Int32) then (31 : Int32) else (15 : Int32)) := ⟨_, rfl⟩
    refine Own.Goes.join (mkF m 33 #[.val (.int xz0), .val (.int nz0)] []) (fun kJ3 => ?_) ?_
    · refine Own.icmpF hx (Own.q_lt p0 (65536 : Int32)) (hb hby d8_22) (pcN := 25) rfl (by decide) (pcT := 33) rfl (fun hc2 => ?_) (fun hc2 => ?_)
      · try simp only [if_pos hc1, if_pos hc2] at h_xz0
        try simp only [if_pos hc1, if_pos hc2] at h_nz0
        subst h_xz0 h_nz0
        exact kJ3
      · refine Own.iinc hx (15 : Int32) #[.val (.int p0), .val (.int (15 : Int32))] (hb hby d8_25) rfl rfl (by decide) rfl ?_
        refine Own.iloadN hx p0 (hb hby d8_28) rfl rfl ?_
        refine Own.bipush hx (16 : Int32) (hb hby d8_29) rfl (by decide) ?_
        refine Own.iushr hx (hb hby d8_31) rfl ?_
        refine Own.istoreN hx (p0.toUInt32 >>> ((16 : Int32) &&& 31).toUInt32).toInt32 rfl #[.val (.int (p0.toUInt32 >>> ((16 : Int32) &&& 31).toUInt32).toInt32), .val (.int (15 : Int32))] (hb hby d8_32) rfl rfl ?_
        try simp only [if_pos hc1, if_neg hc2] at h_xz0
        try simp only [if_pos hc1, if_neg hc2] at h_nz0
        subst h_xz0 h_nz0
        exact kJ3
    refine Own.iloadN hx xz0 (hb hby d8_33) rfl rfl ?_
    refine Own.sipush hx (256 : Int32) (hb hby d8_34) rfl (by decide) ?_
    obtain ⟨xz1, h_xz1⟩ : ∃ z : Int32, z = (if xz0 < (256 : Int32) then xz0 else (xz0.toUInt32 >>> ((8 : Int32) &&& 31).toUInt32).toInt32) := ⟨_, rfl⟩
    obtain ⟨nz1, h_nz1⟩ : ∃ z : Int32, z = (if xz0 < (256 : Int32) then nz0 else (nz0 + (-8 : Int32))) := ⟨_, rfl⟩
    refine Own.Goes.join (mkF m 48 #[.val (.int xz1), .val (.int nz1)] []) (fun kJ5 => ?_) ?_
    · refine Own.icmpF hx (Own.q_lt xz0 (256 : Int32)) (hb hby d8_37) (pcN := 40) rfl (by decide) (pcT := 48) rfl (fun hc4 => ?_) (fun hc4 => ?_)
      · try simp only [if_pos hc1, if_pos hc4] at h_xz1
        try simp only [if_pos hc1, if_pos hc4] at h_nz1
        subst h_xz1 h_nz1
        exact kJ5
      · refine Own.iinc hx (nz0 + (-8 : Int32)) #[.val (.int xz0), .val (.int (nz0 + (-8 : Int32)))] (hb hby d8_40) rfl rfl rfl rfl ?_
        refine Own.iloadN hx xz0 (hb hby d8_43) rfl rfl ?_
        refine Own.bipush hx (8 : Int32) (hb hby d8_44) rfl (by decide) ?_
        refine Own.iushr hx (hb hby d8_46) rfl ?_
        refine Own.istoreN hx (xz0.toUInt32 >>> ((8 : Int32) &&& 31).toUInt32).toInt32 rfl #[.val (.int (xz0.toUInt32 >>> ((8 : Int32) &&& 31).toUInt32).toInt32), .val (.int (nz0 + (-8 : Int32)))] (hb hby d8_47) rfl rfl ?_
        try simp only [if_pos hc1, if_neg hc4] at h_xz1
        try simp only [if_pos hc1, if_neg hc4] at h_nz1
        subst h_xz1 h_nz1
        exact kJ5
    refine Own.iloadN hx xz1 (hb hby d8_48) rfl rfl ?_
    refine Own.bipush hx (16 : Int32) (hb hby d8_49) rfl (by decide) ?_
    obtain ⟨xz2, h_xz2⟩ : ∃ z : Int32, z = (if xz1 < (16 : Int32) then xz1 else (xz1.toUInt32 >>> ((4 : Int32) &&& 31).toUInt32).toInt32) := ⟨_, rfl⟩
    obtain ⟨nz2, h_nz2⟩ : ∃ z : Int32, z = (if xz1 < (16 : Int32) then nz1 else (nz1 + (-4 : Int32))) := ⟨_, rfl⟩
    refine Own.Goes.join (mkF m 61 #[.val (.int xz2), .val (.int nz2)] []) (fun kJ7 => ?_) ?_
    · refine Own.icmpF hx (Own.q_lt xz1 (16 : Int32)) (hb hby d8_51) (pcN := 54) rfl (by decide) (pcT := 61) rfl (fun hc6 => ?_) (fun hc6 => ?_)
      · try simp only [if_pos hc1, if_pos hc6] at h_xz2
        try simp only [if_pos hc1, if_pos hc6] at h_nz2
        subst h_xz2 h_nz2
        exact kJ7
      · refine Own.iinc hx (nz1 + (-4 : Int32)) #[.val (.int xz1), .val (.int (nz1 + (-4 : Int32)))] (hb hby d8_54) rfl rfl rfl rfl ?_
        refine Own.iloadN hx xz1 (hb hby d8_57) rfl rfl ?_
        refine Own.iconst hx (4 : Int32) (hb hby d8_58) rfl (by decide) ?_
        refine Own.iushr hx (hb hby d8_59) rfl ?_
        refine Own.istoreN hx (xz1.toUInt32 >>> ((4 : Int32) &&& 31).toUInt32).toInt32 rfl #[.val (.int (xz1.toUInt32 >>> ((4 : Int32) &&& 31).toUInt32).toInt32), .val (.int (nz1 + (-4 : Int32)))] (hb hby d8_60) rfl rfl ?_
        try simp only [if_pos hc1, if_neg hc6] at h_xz2
        try simp only [if_pos hc1, if_neg hc6] at h_nz2
        subst h_xz2 h_nz2
        exact kJ7
    refine Own.iloadN hx xz2 (hb hby d8_61) rfl rfl ?_
    refine Own.iconst hx (4 : Int32) (hb hby d8_62) rfl (by decide) ?_
    obtain ⟨xz3, h_xz3⟩ : ∃ z : Int32, z = (if xz2 < (4 : Int32) then xz2 else (xz2.toUInt32 >>> ((2 : Int32) &&& 31).toUInt32).toInt32) := ⟨_, rfl⟩
    obtain ⟨nz3, h_nz3⟩ : ∃ z : Int32, z = (if xz2 < (4 : Int32) then nz2 else (nz2 + (-2 : Int32))) := ⟨_, rfl⟩
    refine Own.Goes.join (mkF m 73 #[.val (.int xz3), .val (.int nz3)] []) (fun kJ9 => ?_) ?_
    · refine Own.icmpF hx (Own.q_lt xz2 (4 : Int32)) (hb hby d8_63) (pcN := 66) rfl (by decide) (pcT := 73) rfl (fun hc8 => ?_) (fun hc8 => ?_)
      · try simp only [if_pos hc1, if_pos hc8] at h_xz3
        try simp only [if_pos hc1, if_pos hc8] at h_nz3
        subst h_xz3 h_nz3
        exact kJ9
      · refine Own.iinc hx (nz2 + (-2 : Int32)) #[.val (.int xz2), .val (.int (nz2 + (-2 : Int32)))] (hb hby d8_66) rfl rfl rfl rfl ?_
        refine Own.iloadN hx xz2 (hb hby d8_69) rfl rfl ?_
        refine Own.iconst hx (2 : Int32) (hb hby d8_70) rfl (by decide) ?_
        refine Own.iushr hx (hb hby d8_71) rfl ?_
        refine Own.istoreN hx (xz2.toUInt32 >>> ((2 : Int32) &&& 31).toUInt32).toInt32 rfl #[.val (.int (xz2.toUInt32 >>> ((2 : Int32) &&& 31).toUInt32).toInt32), .val (.int (nz2 + (-2 : Int32)))] (hb hby d8_72) rfl rfl ?_
        try simp only [if_pos hc1, if_neg hc8] at h_xz3
        try simp only [if_pos hc1, if_neg hc8] at h_nz3
        subst h_xz3 h_nz3
        exact kJ9
    refine Own.iloadN hx nz3 (hb hby d8_73) rfl rfl ?_
    refine Own.iloadN hx xz3 (hb hby d8_74) rfl rfl ?_
    refine Own.iconst hx (1 : Int32) (hb hby d8_75) rfl (by decide) ?_
    refine Own.iushr hx (hb hby d8_76) rfl ?_
    refine Own.isub hx (hb hby d8_77) rfl ?_
    exact Own.retI hx hret hlk (hb hby d8_78) (by decide) (by decide) ⟨by subst h_nz3 h_xz3 h_nz2 h_xz2 h_nz1 h_xz1 h_nz0 h_xz0; unfold nlz; rw [if_pos hc1]; rfl, rfl⟩
  · refine Own.iloadN hx p0 (hb hby d8_4) rfl rfl ?_
    obtain ⟨v11, h_v11⟩ : ∃ z : Int32, z = (if p0 = (0 : Int32) then (32 : Int32) else (0 : Int32)) := ⟨_, rfl⟩
    refine Own.Goes.join (mkF m 14 #[.val (.int p0), .unset] [(.int v11)]) (fun kJ12 => ?_) ?_
    · refine Own.ifFn hx (Own.z_ne p0) (hb hby d8_5) (pcN := 8) rfl (by decide) (pcT := 13) rfl (fun hc10 => ?_) (fun hc10 => ?_)
      · refine Own.iconst hx (0 : Int32) (hb hby d8_13) rfl (by decide) ?_
        try simp only [if_neg hc1, if_neg hc10] at h_v11
        subst h_v11
        exact kJ12
      · refine Own.bipush hx (32 : Int32) (hb hby d8_8) rfl (by decide) ?_
        refine Own.goto hx (hb hby d8_10) (by decide) (pc' := 14) rfl ?_
        try simp only [if_neg hc1, if_pos hc10] at h_v11
        subst h_v11
        exact kJ12
    exact Own.retI hx hret hlk (hb hby d8_14) (by decide) (by decide) ⟨by subst h_v11; unfold nlz; rw [if_neg hc1], rfl⟩

theorem d7_5 : decode jdk_65_method_103_code 5 = .ok (.iload_n 2, 1) := by decide +kernel
theorem d7_6 : decode jdk_65_method_103_code 6 = .ok (.iload_n 3, 1) := by decide +kernel
theorem d7_7 : decode jdk_65_method_103_code 7 = .ok (.if_icmp .ge 13, 3) := by decide +kernel
theorem d7_20 : decode jdk_65_method_103_code 20 = .ok (.return_, 1) := by decide +kernel
theorem d7_10 : decode jdk_65_method_103_code 10 = .ok (.aload_n 0, 1) := by decide +kernel
theorem d7_11 : decode jdk_65_method_103_code 11 = .ok (.iload_n 2, 1) := by decide +kernel
theorem d7_12 : decode jdk_65_method_103_code 12 = .ok (.iload_n 1, 1) := by decide +kernel
theorem d7_13 : decode jdk_65_method_103_code 13 = .ok (.iastore, 1) := by decide +kernel
theorem d7_14 : decode jdk_65_method_103_code 14 = .ok (.iinc 2 1, 3) := by decide +kernel
theorem d7_17 : decode jdk_65_method_103_code 17 = .ok (.goto (-12), 3) := by decide +kernel
set_option maxRecDepth 65536 in
set_option maxHeartbeats 40000000 in
theorem fill_loop {p : Program} {l : Launch} {e : Env} {R : Room} {s : State} {m : MethodId} {args : Array Value} {below : List Frame} {meth : Method} {c : Code} {n0 mc ms : Nat} {k n : Nat} {Z : State} {a0 : Array Value} (hw : ∀ d ∈ tables_1, d.before a0 Z = true) (hx : p.tables.exec = Jvm.exec) (hby : c.code = jdk_65_method_103_code) (hml : c.maxLocals = 4) (hown : s.vm.findClass "java/util/Arrays" = some m.cls) (hZ : Z.Warmed39 s.vm) (hret : meth.sig.returnType = none) (hlk : meth.locks = false) (hk : k ≤ mc) (hn' : n ≤ ms) {fr : List (Addr × (Cell → Prop))} {o0 : Addr} :
    ∀ d i (h : Heap), i + d = 1024 → Own.Owns n0 h ((o0, Own.ArrC Z .int ((fl i).map Value.int)) :: fr) → Own.Goes p l e R s m args below meth c n0 mc ms (fun v h => v = none ∧ Own.Owns n0 h ((o0, Own.ArrC Z .int ((fl 1024).map Value.int)) :: fr)) h k n (mkF m 5 #[.val (.ref o0), .val (.int (-1 : Int32)), .val (.int i.toInt32), .val (.int (1024 : Int32))] []) := by
  intro d
  induction d with
  | zero =>
    intro i h hd O
    obtain rfl : i = 1024 := by omega
    refine Own.iloadN hx (1024 : Nat).toInt32 (hb hby d7_5) rfl rfl ?_
    refine Own.iloadN hx (1024 : Int32) (hb hby d7_6) rfl rfl ?_
    have hc1 : ¬ ((1024 : Nat).toInt32 < (1024 : Int32)) := (by decide)
    refine Own.icmpFn hx (Own.q_ge (1024 : Nat).toInt32 (1024 : Int32)) (hb hby d7_7) (pcN := 10) rfl (by decide) (pcT := 20) rfl (fun _ => ?_) (fun q => absurd q hc1)
    exact Own.retV hx hret hlk (hb hby d7_20) hk hn' ⟨rfl, O⟩
  | succ d ih =>
    intro i h hd O
    have hi : i < 1024 := by omega
    refine Own.iloadN hx i.toInt32 (hb hby d7_5) rfl rfl ?_
    refine Own.iloadN hx (1024 : Int32) (hb hby d7_6) rfl rfl ?_
    have hc1 : i.toInt32 < (1024 : Int32) := own_fill_lt hi
    refine Own.icmpFn hx (Own.q_ge i.toInt32 (1024 : Int32)) (hb hby d7_7) (pcN := 10) rfl (by decide) (pcT := 20) rfl (fun q => absurd hc1 q) (fun _ => ?_)
    refine Own.aloadN hx (.ref o0) (hb hby d7_10) rfl rfl rfl ?_
    refine Own.iloadN hx i.toInt32 (hb hby d7_11) rfl rfl ?_
    refine Own.iloadN hx (-1 : Int32) (hb hby d7_12) rfl rfl ?_
    refine Own.iastore hx hZ O 0 i rfl (own_tl (by omega)) (by rw [List.length_map, fl_len (by omega)]; exact hi) ((o0, Own.ArrC Z .int ((fl (i + 1)).map Value.int)) :: fr) (by rw [← fl_set hi, List.map_set]; rfl) (hb hby d7_13) rfl ?_
    intro h3 O4
    refine Own.iinc hx (i.toInt32 + (1 : Int32)) #[.val (.ref o0), .val (.int (-1 : Int32)), .val (.int (i.toInt32 + (1 : Int32))), .val (.int (1024 : Int32))] (hb hby d7_14) rfl rfl rfl rfl ?_
    refine Own.goto hx (hb hby d7_17) (by decide) (pc' := 5) rfl ?_
    have hih := ih (i + 1) h3 (by omega) O4
    rw [own_succ] at hih; exact hih
theorem d7_0 : decode jdk_65_method_103_code 0 = .ok (.iconst 0, 1) := by decide +kernel
theorem d7_1 : decode jdk_65_method_103_code 1 = .ok (.istore_n 2, 1) := by decide +kernel
theorem d7_2 : decode jdk_65_method_103_code 2 = .ok (.aload_n 0, 1) := by decide +kernel
theorem d7_3 : decode jdk_65_method_103_code 3 = .ok (.arraylength, 1) := by decide +kernel
theorem d7_4 : decode jdk_65_method_103_code 4 = .ok (.istore_n 3, 1) := by decide +kernel
theorem pn4 : plainFor (⟨"java/util/Arrays", "fill", "([II)V"⟩ : MethodName) = true := by first | exact plainFor_of_name (by simp [plainName, overriddenIn]; done) | decide +kernel
theorem ef7 (m : MethodId) (x0 : Addr) (x1 : Int32) : entryFrame m #[(.ref x0), (.int x1)] 4 = mkF m 0 #[.val (.ref x0), .val (.int x1), .unset, .unset] [] := by first | (simp [entryFrame, mkF, argsToLocals, Value.category]; done) | rfl
set_option maxRecDepth 65536 in
set_option maxHeartbeats 40000000 in
theorem rm7 (l : Launch) (Z : State) (a0 : Array Value) (hw : ∀ d ∈ tables_1, d.before a0 Z = true) (o0 : Addr) (h0 : Heap) (n0 : Nat)  (fr : List (Addr × (Cell → Prop))) (O0 : Own.Owns n0 h0 ((o0, Own.ArrC Z .int ((fl 0).map Value.int)) :: fr))  : Own.Does l (⟨"java/util/Arrays", "fill", "([II)V"⟩ : MethodName) jdk_65_method_103_code 4 none [] ({ frames := 0, cells := 0, slots := 0, locals := 0 } : Room) Z #[(.ref o0), (.int (-1 : Int32))] h0 n0 (fun v h => v = none ∧ Own.Owns n0 h ((o0, Own.ArrC Z .int ((fl 1024).map Value.int)) :: fr)) := by
  refine Own.doesOf pn4 ?_
  intro p e s m below meth c hx hby hml hret hlk hown hnm hZ
  refine Own.Goes.cast (ef7 m o0 (-1 : Int32)) ?_
  refine Own.iconst hx (0 : Int32) (hb hby d7_0) rfl (by decide) ?_
  refine Own.istoreN hx (0 : Int32) rfl #[.val (.ref o0), .val (.int (-1 : Int32)), .val (.int (0 : Int32)), .unset] (hb hby d7_1) rfl rfl ?_
  refine Own.aloadN hx (.ref o0) (hb hby d7_2) rfl rfl rfl ?_
  refine Own.arrlen hx hZ O0 0 rfl (1024 : Int32) (by rw [List.length_map, fl_len (by decide)]; rfl) (hb hby d7_3) rfl ?_
  refine Own.istoreN hx (1024 : Int32) rfl #[.val (.ref o0), .val (.int (-1 : Int32)), .val (.int (0 : Int32)), .val (.int (1024 : Int32))] (hb hby d7_4) rfl rfl ?_
  exact fill_loop hw hx hby hml hown hZ hret hlk (by decide) (by decide) 1024 0 _ rfl O0

theorem pd0 : parseMethodDescriptor "([II)V" = some ⟨[(.array .int), .int], none⟩ := by decide +kernel
theorem d6_0 : decode prog_14_method_6_code 0 = .ok (.iload_n 0, 1) := by decide +kernel
theorem d6_1 : decode prog_14_method_6_code 1 = .ok (.newarray .int, 2) := by decide +kernel
theorem d6_3 : decode prog_14_method_6_code 3 = .ok (.astore_n 1, 1) := by decide +kernel
theorem d6_4 : decode prog_14_method_6_code 4 = .ok (.aload_n 1, 1) := by decide +kernel
theorem d6_5 : decode prog_14_method_6_code 5 = .ok (.iconst (-1), 1) := by decide +kernel
theorem d6_6 : decode prog_14_method_6_code 6 = .ok (.invokestatic 46, 3) := by decide +kernel
theorem d6_9 : decode prog_14_method_6_code 9 = .ok (.aload_n 1, 1) := by decide +kernel
theorem d6_10 : decode prog_14_method_6_code 10 = .ok (.areturn, 1) := by decide +kernel
theorem pn5 : plainFor (⟨"com/example/cuesheet/cuesheet/core/StateTable", "filled", "(I)[I"⟩ : MethodName) = true := by first | exact plainFor_of_name (by simp [plainName, overriddenIn]; done) | decide +kernel
theorem ef6 (m : MethodId) (x0 : Int32) : entryFrame m #[(.int x0)] 2 = mkF m 0 #[.val (.int x0), .unset] [] := by first | (simp [entryFrame, mkF, argsToLocals, Value.category]; done) | rfl
set_option maxRecDepth 65536 in
set_option maxHeartbeats 40000000 in
theorem rm6 (l : Launch) (Z : State) (a0 : Array Value) (hw : ∀ d ∈ tables_1, d.before a0 Z = true)  (h0 : Heap) (n0 : Nat)  (fr : List (Addr × (Cell → Prop))) (O0 : Own.Owns n0 h0 (fr))  : Own.Does l (⟨"com/example/cuesheet/cuesheet/core/StateTable", "filled", "(I)[I"⟩ : MethodName) prog_14_method_6_code 2 (some (.array .int)) [] ({ frames := 1, cells := 1, slots := 1024, locals := 15 } : Room) Z #[(.int (1024 : Int32))] h0 n0 (fun v h => ∃ r, v = some (.ref r) ∧ Own.Owns n0 h ((r, Own.ArrC Z .int ((fl 1024).map Value.int)) :: fr)) := by
  refine Own.doesOf pn5 ?_
  intro p e s m below meth c hx hby hml hret hlk hown hnm hZ
  refine Own.Goes.cast (ef6 m (1024 : Int32)) ?_
  refine Own.iloadN hx (1024 : Int32) (hb hby d6_0) rfl rfl ?_
  refine Own.newarr hx hZ O0 (aty := .int) (hw _ (wm 5 rfl)) 1024 (by decide) ((fl 0).map Value.int) own_fl0 rfl (cap := 1024) (by decide) (by decide) (k' := 1) (n' := 1024) rfl rfl (by decide) (by decide) (hb hby d6_1) (pc' := 3) rfl ?_
  intro a1 h2 O3
  refine Own.astoreN hx #[.val (.int (1024 : Int32)), .val (.ref a1)] (hb hby d6_3) rfl rfl rfl ?_
  refine Own.aloadN hx (.ref a1) (hb hby d6_4) rfl rfl rfl ?_
  refine Own.iconst hx (-1 : Int32) (hb hby d6_5) rfl (by decide) ?_
  refine Own.callS hx hZ hown (hw _ (wm 31 rfl)) (hw _ (wm 32 rfl)) (hw _ (wm 33 rfl)) (hw _ (wm 34 rfl)) (by decide) pd0 (argsL := [(.ref a1), (.int (-1 : Int32))]) (rest := []) rfl (W := 0) (Nat.le_of_eq rfl) (rm := ({ frames := 0, cells := 0, slots := 0, locals := 0 } : Room)) (by decide) (by decide) (by decide) (by decide) (k' := 1) (n' := 1024) rfl rfl (by rw [hml]; rfl) [(.int (-1 : Int32)), (.ref a1)] rfl (hb hby d6_6) (pc' := 9) rfl (rm7 l Z a0 hw a1 h2 n0 (fr) O3) ?_
  rintro _ h4 ⟨rfl, O5⟩
  show Own.Goes _ _ _ _ _ _ _ _ _ _ _ _ _ _ _ _ _ (mkF m 9 #[.val (.int (1024 : Int32)), .val (.ref a1)] [])
  refine Own.aloadN hx (.ref a1) (hb hby d6_9) rfl rfl rfl ?_
  exact Own.retA hx hret rfl hlk rfl rfl (hb hby d6_10) (by decide) (by decide) ⟨a1, rfl, O5⟩

theorem pd1 : parseMethodDescriptor "(I)[I" = some ⟨[.int], some (.array .int)⟩ := by decide +kernel
theorem d5_0 : decode prog_14_method_1_code 0 = .ok (.aload_n 0, 1) := by decide +kernel
theorem d5_1 : decode prog_14_method_1_code 1 = .ok (.invokespecial 1, 3) := by decide +kernel
theorem d5_4 : decode prog_14_method_1_code 4 = .ok (.aload_n 0, 1) := by decide +kernel
theorem d5_5 : decode prog_14_method_1_code 5 = .ok (.sipush 1024, 3) := by decide +kernel
theorem d5_8 : decode prog_14_method_1_code 8 = .ok (.newarray .long, 2) := by decide +kernel
theorem d5_10 : decode prog_14_method_1_code 10 = .ok (.putfield 7, 3) := by decide +kernel
theorem d5_13 : decode prog_14_method_1_code 13 = .ok (.aload_n 0, 1) := by decide +kernel
theorem d5_14 : decode prog_14_method_1_code 14 = .ok (.sipush 1024, 3) := by decide +kernel
theorem d5_17 : decode prog_14_method_1_code 17 = .ok (.invokestatic 13, 3) := by decide +kernel
theorem d5_20 : decode prog_14_method_1_code 20 = .ok (.putfield 17, 3) := by decide +kernel
theorem d5_23 : decode prog_14_method_1_code 23 = .ok (.return_, 1) := by decide +kernel
theorem pn6 : plainFor (⟨"com/example/cuesheet/cuesheet/core/StateTable", "<init>", "()V"⟩ : MethodName) = true := by first | exact plainFor_of_name (by simp [plainName, overriddenIn]; done) | decide +kernel
theorem ef5 (m : MethodId) (x0 : Addr) : entryFrame m #[(.ref x0)] 1 = mkF m 0 #[.val (.ref x0)] [] := by first | (simp [entryFrame, mkF, argsToLocals, Value.category]; done) | rfl
set_option maxRecDepth 65536 in
set_option maxHeartbeats 40000000 in
theorem rm5 (l : Launch) (Z : State) (a0 : Array Value) (hw : ∀ d ∈ tables_1, d.before a0 Z = true) (o0 : Addr) (h0 : Heap) (n0 : Nat)  (fr : List (Addr × (Cell → Prop))) (O0 : Own.Owns n0 h0 ((o0, STo Z .null .null (iI 0)) :: fr))  : Own.Does l (⟨"com/example/cuesheet/cuesheet/core/StateTable", "<init>", "()V"⟩ : MethodName) prog_14_method_1_code 1 none [] ({ frames := 2, cells := 2, slots := 2048, locals := 29 } : Room) Z #[(.ref o0)] h0 n0 (fun v h => ∃ ra rb, v = none ∧ Own.Owns n0 h ((o0, STo Z (.ref ra) (.ref rb) (iI 0)) :: (ra, Own.ArrC Z .long (List.replicate 1024 (Value.long (0 : Int64)))) :: (rb, Own.ArrC Z .int ((fl 1024).map Value.int)) :: fr)) := by
  refine Own.doesOf pn6 ?_
  intro p e s m below meth c hx hby hml hret hlk hown hnm hZ
  refine Own.Goes.cast (ef5 m o0) ?_
  refine Own.aloadN hx (.ref o0) (hb hby d5_0) rfl rfl rfl ?_
  refine Own.initobj hx hZ hown (hw _ (wm 24 rfl)) (hw _ (wm 16 rfl)) (hw _ (wm 17 rfl)) (by rw [hml]; rfl) (W := 0) (Nat.le_of_eq rfl) (by decide) (by decide) (hb hby d5_1) rfl ?_
  refine Own.aloadN hx (.ref o0) (hb hby d5_4) rfl rfl rfl ?_
  refine Own.sipush hx (1024 : Int32) (hb hby d5_5) rfl (by decide) ?_
  refine Own.newarr hx hZ O0 (aty := .long) (hw _ (wm 25 rfl)) 1024 (by decide) (List.replicate 1024 (Value.long (0 : Int64))) rfl rfl (cap := 1024) (by decide) (by decide) (k' := 1) (n' := 1024) rfl rfl (by decide) (by decide) (hb hby d5_8) (pc' := 10) rfl ?_
  intro a1 h2 O3
  refine Own.putfield hx hZ hown O3 1 0 rfl rfl (hw _ (wm 26 rfl)) (Or.inl (hw _ (wm 27 rfl))) (hw _ (wm 19 rfl)) (ty := (.array .long)) (by decide) rfl rfl ((a1, Own.ArrC Z .long (List.replicate 1024 (Value.long (0 : Int64)))) :: (o0, STo Z (.ref a1) .null (iI 0)) :: fr) rfl (hb hby d5_10) rfl ?_
  intro h4 O5
  refine Own.aloadN hx (.ref o0) (hb hby d5_13) rfl rfl rfl ?_
  refine Own.sipush hx (1024 : Int32) (hb hby d5_14) rfl (by decide) ?_
  refine Own.callS hx hZ hown (hw _ (wm 28 rfl)) (hw _ (wm 29 rfl)) (hw _ (wm 20 rfl)) (hw _ (wm 30 rfl)) (by decide) pd1 (argsL := [(.int (1024 : Int32))]) (rest := [(.ref o0)]) rfl (W := 1) (Nat.le_of_eq rfl) (rm := ({ frames := 1, cells := 1, slots := 1024, locals := 15 } : Room)) (by decide) (by decide) (by decide) (by decide) (k' := 2) (n' := 2048) rfl rfl (by rw [hml]; rfl) [(.int (1024 : Int32)), (.ref o0)] rfl (hb hby d5_17) (pc' := 20) rfl (rm6 l Z a0 hw h4 n0 ((a1, Own.ArrC Z .long (List.replicate 1024 (Value.long (0 : Int64)))) :: (o0, STo Z (.ref a1) .null (iI 0)) :: fr) O5) ?_
  rintro _ h7 ⟨rf6, rfl, O8⟩
  show Own.Goes _ _ _ _ _ _ _ _ _ _ _ _ _ _ _ _ _ (mkF m 20 #[.val (.ref o0)] [(.ref rf6), (.ref o0)])
  refine Own.putfield hx hZ hown O8 2 1 rfl rfl (hw _ (wm 35 rfl)) (Or.inl (hw _ (wm 36 rfl))) (hw _ (wm 19 rfl)) (ty := (.array .int)) (by decide) rfl rfl ((rf6, Own.ArrC Z .int ((fl 1024).map Value.int)) :: (a1, Own.ArrC Z .long (List.replicate 1024 (Value.long (0 : Int64)))) :: (o0, STo Z (.ref a1) (.ref rf6) (iI 0)) :: fr) rfl (hb hby d5_20) rfl ?_
  intro h9 O10
  have O11 : Own.Owns n0 h9 ((a1, Own.ArrC Z .long (List.replicate 1024 (Value.long (0 : Int64)))) :: (rf6, Own.ArrC Z .int ((fl 1024).map Value.int)) :: (o0, STo Z (.ref a1) (.ref rf6) (iI 0)) :: fr) := O10.pick 1 rfl
  have O12 : Own.Owns n0 h9 ((o0, STo Z (.ref a1) (.ref rf6) (iI 0)) :: (a1, Own.ArrC Z .long (List.replicate 1024 (Value.long (0 : Int64)))) :: (rf6, Own.ArrC Z .int ((fl 1024).map Value.int)) :: fr) := O11.pick 2 rfl
  exact Own.retV hx hret hlk (hb hby d5_23) (by decide) (by decide) ⟨a1, rf6, rfl, O12⟩

theorem pd2 : parseMethodDescriptor "()V" = some ⟨[], none⟩ := by decide +kernel
theorem pd3 : parseMethodDescriptor "(I)I" = some ⟨[.int], some .int⟩ := by decide +kernel
theorem d3_0 : decode prog_12_method_1_code 0 = .ok (.aload_n 0, 1) := by decide +kernel
theorem d3_1 : decode prog_12_method_1_code 1 = .ok (.invokespecial 1, 3) := by decide +kernel
theorem d3_4 : decode prog_12_method_1_code 4 = .ok (.aload_n 0, 1) := by decide +kernel
theorem d3_5 : decode prog_12_method_1_code 5 = .ok (.new 7, 3) := by decide +kernel
theorem d3_8 : decode prog_12_method_1_code 8 = .ok (.dup, 1) := by decide +kernel
theorem d3_9 : decode prog_12_method_1_code 9 = .ok (.invokespecial 9, 3) := by decide +kernel
theorem d3_12 : decode prog_12_method_1_code 12 = .ok (.putfield 10, 3) := by decide +kernel
theorem d3_15 : decode prog_12_method_1_code 15 = .ok (.aload_n 0, 1) := by decide +kernel
theorem d3_16 : decode prog_12_method_1_code 16 = .ok (.aload_n 1, 1) := by decide +kernel
theorem d3_17 : decode prog_12_method_1_code 17 = .ok (.arraylength, 1) := by decide +kernel
theorem d3_18 : decode prog_12_method_1_code 18 = .ok (.newarray .int, 2) := by decide +kernel
theorem d3_20 : decode prog_12_method_1_code 20 = .ok (.putfield 16, 3) := by decide +kernel
theorem d3_23 : decode prog_12_method_1_code 23 = .ok (.aload_n 0, 1) := by decide +kernel
theorem d3_24 : decode prog_12_method_1_code 24 = .ok (.aload_n 1, 1) := by decide +kernel
theorem d3_25 : decode prog_12_method_1_code 25 = .ok (.arraylength, 1) := by decide +kernel
theorem d3_26 : decode prog_12_method_1_code 26 = .ok (.newarray .int, 2) := by decide +kernel
theorem d3_28 : decode prog_12_method_1_code 28 = .ok (.putfield 20, 3) := by decide +kernel
theorem d3_31 : decode prog_12_method_1_code 31 = .ok (.aload_n 0, 1) := by decide +kernel
theorem d3_32 : decode prog_12_method_1_code 32 = .ok (.aload_n 1, 1) := by decide +kernel
theorem d3_33 : decode prog_12_method_1_code 33 = .ok (.arraylength, 1) := by decide +kernel
theorem d3_34 : decode prog_12_method_1_code 34 = .ok (.newarray .int, 2) := by decide +kernel
theorem d3_36 : decode prog_12_method_1_code 36 = .ok (.putfield 23, 3) := by decide +kernel
theorem d3_39 : decode prog_12_method_1_code 39 = .ok (.iconst 0, 1) := by decide +kernel
theorem d3_40 : decode prog_12_method_1_code 40 = .ok (.istore_n 2, 1) := by decide +kernel
theorem d3_41 : decode prog_12_method_1_code 41 = .ok (.iconst 0, 1) := by decide +kernel
theorem d3_42 : decode prog_12_method_1_code 42 = .ok (.istore_n 3, 1) := by decide +kernel
theorem d3_43 : decode prog_12_method_1_code 43 = .ok (.iconst 0, 1) := by decide +kernel
theorem d3_44 : decode prog_12_method_1_code 44 = .ok (.istore 4, 2) := by decide +kernel
theorem d3_46 : decode prog_12_method_1_code 46 = .ok (.iload 4, 2) := by decide +kernel
theorem d3_48 : decode prog_12_method_1_code 48 = .ok (.aload_n 1, 1) := by decide +kernel
theorem d3_49 : decode prog_12_method_1_code 49 = .ok (.arraylength, 1) := by decide +kernel
theorem d3_50 : decode prog_12_method_1_code 50 = .ok (.if_icmp .ge 73, 3) := by decide +kernel
theorem d3_53 : decode prog_12_method_1_code 53 = .ok (.aload_n 0, 1) := by decide +kernel
theorem d3_54 : decode prog_12_method_1_code 54 = .ok (.getfield 23, 3) := by decide +kernel
theorem d3_57 : decode prog_12_method_1_code 57 = .ok (.iload 4, 2) := by decide +kernel
theorem d3_59 : decode prog_12_method_1_code 59 = .ok (.bipush 32, 2) := by decide +kernel
theorem d3_61 : decode prog_12_method_1_code 61 = .ok (.aload_n 1, 1) := by decide +kernel
theorem d3_62 : decode prog_12_method_1_code 62 = .ok (.iload 4, 2) := by decide +kernel
theorem d3_64 : decode prog_12_method_1_code 64 = .ok (.iaload, 1) := by decide +kernel
theorem d3_65 : decode prog_12_method_1_code 65 = .ok (.iconst 1, 1) := by decide +kernel
theorem d3_66 : decode prog_12_method_1_code 66 = .ok (.isub, 1) := by decide +kernel
theorem d3_67 : decode prog_12_method_1_code 67 = .ok (.invokestatic 28, 3) := by decide +kernel
theorem d3_70 : decode prog_12_method_1_code 70 = .ok (.isub, 1) := by decide +kernel
theorem d3_71 : decode prog_12_method_1_code 71 = .ok (.iastore, 1) := by decide +kernel
theorem d3_72 : decode prog_12_method_1_code 72 = .ok (.iload_n 3, 1) := by decide +kernel
theorem d3_73 : decode prog_12_method_1_code 73 = .ok (.aload_n 0, 1) := by decide +kernel
theorem d3_74 : decode prog_12_method_1_code 74 = .ok (.getfield 23, 3) := by decide +kernel
theorem d3_77 : decode prog_12_method_1_code 77 = .ok (.iload 4, 2) := by decide +kernel
theorem d3_79 : decode prog_12_method_1_code 79 = .ok (.iaload, 1) := by decide +kernel
theorem d3_80 : decode prog_12_method_1_code 80 = .ok (.iadd, 1) := by decide +kernel
theorem d3_81 : decode prog_12_method_1_code 81 = .ok (.bipush 64, 2) := by decide +kernel
theorem d3_83 : decode prog_12_method_1_code 83 = .ok (.if_icmp .le 8, 3) := by decide +kernel
theorem d3_91 : decode prog_12_method_1_code 91 = .ok (.aload_n 0, 1) := by decide +kernel
theorem d3_92 : decode prog_12_method_1_code 92 = .ok (.getfield 16, 3) := by decide +kernel
theorem d3_95 : decode prog_12_method_1_code 95 = .ok (.iload 4, 2) := by decide +kernel
theorem d3_97 : decode prog_12_method_1_code 97 = .ok (.iload_n 2, 1) := by decide +kernel
theorem d3_98 : decode prog_12_method_1_code 98 = .ok (.iastore, 1) := by decide +kernel
theorem d3_99 : decode prog_12_method_1_code 99 = .ok (.aload_n 0, 1) := by decide +kernel
theorem d3_100 : decode prog_12_method_1_code 100 = .ok (.getfield 20, 3) := by decide +kernel
theorem d3_103 : decode prog_12_method_1_code 103 = .ok (.iload 4, 2) := by decide +kernel
theorem d3_105 : decode prog_12_method_1_code 105 = .ok (.iload_n 3, 1) := by decide +kernel
theorem d3_106 : decode prog_12_method_1_code 106 = .ok (.iastore, 1) := by decide +kernel
theorem d3_107 : decode prog_12_method_1_code 107 = .ok (.iload_n 3, 1) := by decide +kernel
theorem d3_108 : decode prog_12_method_1_code 108 = .ok (.aload_n 0, 1) := by decide +kernel
theorem d3_109 : decode prog_12_method_1_code 109 = .ok (.getfield 23, 3) := by decide +kernel
theorem d3_112 : decode prog_12_method_1_code 112 = .ok (.iload 4, 2) := by decide +kernel
theorem d3_114 : decode prog_12_method_1_code 114 = .ok (.iaload, 1) := by decide +kernel
theorem d3_115 : decode prog_12_method_1_code 115 = .ok (.iadd, 1) := by decide +kernel
theorem d3_116 : decode prog_12_method_1_code 116 = .ok (.istore_n 3, 1) := by decide +kernel
theorem d3_117 : decode prog_12_method_1_code 117 = .ok (.iinc 4 1, 3) := by decide +kernel
theorem d3_120 : decode prog_12_method_1_code 120 = .ok (.goto (-74), 3) := by decide +kernel
theorem d3_123 : decode prog_12_method_1_code 123 = .ok (.aload_n 0, 1) := by decide +kernel
theorem d3_124 : decode prog_12_method_1_code 124 = .ok (.iload_n 2, 1) := by decide +kernel
theorem d3_125 : decode prog_12_method_1_code 125 = .ok (.iconst 1, 1) := by decide +kernel
theorem d3_126 : decode prog_12_method_1_code 126 = .ok (.iadd, 1) := by decide +kernel
theorem d3_127 : decode prog_12_method_1_code 127 = .ok (.putfield 34, 3) := by decide +kernel
theorem d3_130 : decode prog_12_method_1_code 130 = .ok (.aload_n 0, 1) := by decide +kernel
theorem d3_131 : decode prog_12_method_1_code 131 = .ok (.aload_n 0, 1) := by decide +kernel
theorem d3_132 : decode prog_12_method_1_code 132 = .ok (.getfield 34, 3) := by decide +kernel
theorem d3_135 : decode prog_12_method_1_code 135 = .ok (.newarray .long, 2) := by decide +kernel
theorem d3_137 : decode prog_12_method_1_code 137 = .ok (.putfield 38, 3) := by decide +kernel
theorem d3_140 : decode prog_12_method_1_code 140 = .ok (.aload_n 0, 1) := by decide +kernel
theorem d3_141 : decode prog_12_method_1_code 141 = .ok (.bipush 64, 2) := by decide +kernel
theorem d3_143 : decode prog_12_method_1_code 143 = .ok (.aload_n 0, 1) := by decide +kernel
theorem d3_144 : decode prog_12_method_1_code 144 = .ok (.getfield 34, 3) := by decide +kernel
theorem d3_147 : decode prog_12_method_1_code 147 = .ok (.imul, 1) := by decide +kernel
theorem d3_148 : decode prog_12_method_1_code 148 = .ok (.newarray .long, 2) := by decide +kernel
theorem d3_150 : decode prog_12_method_1_code 150 = .ok (.putfield 42, 3) := by decide +kernel
theorem d3_153 : decode prog_12_method_1_code 153 = .ok (.return_, 1) := by decide +kernel
theorem pn7 : plainFor (⟨"com/example/cuesheet/cuesheet/core/PackedStates", "<init>", "([I)V"⟩ : MethodName) = true := by first | exact plainFor_of_name (by simp [plainName, overriddenIn]; done) | decide +kernel
theorem ef3_1 (m : MethodId) (x0 : Addr) (x1 : Addr) : entryFrame m #[(.ref x0), (.ref x1)] 5 = mkF m 0 #[.val (.ref x0), .val (.ref x1), .unset, .unset, .unset] [] := by first | (simp [entryFrame, mkF, argsToLocals, Value.category]; done) | rfl
set_option maxRecDepth 65536 in
set_option maxHeartbeats 40000000 in
theorem rm3_1 (l : Launch) (Z : State) (a0 : Array Value) (hw : ∀ d ∈ tables_1, d.before a0 Z = true) (o0 : Addr) (ow : Addr) (h0 : Heap) (n0 : Nat) (w0 w1 w2 : Int32) (b0 b1 b2 : Nat) (hb0 : b0 ≤ 31) (eb0 : ((32 : Int32) - (nlz (w0 - (1 : Int32)))) = b0.toInt32) (hb1 : b1 ≤ 31) (eb1 : ((32 : Int32) - (nlz (w1 - (1 : Int32)))) = b1.toInt32) (hb2 : b2 ≤ 31) (eb2 : ((32 : Int32) - (nlz (w2 - (1 : Int32)))) = b2.toInt32) (hW : 0 + b0 + b1 + b2 ≤ 64) (fr : List (Addr × (Cell → Prop))) (O0 : Own.Owns n0 h0 ((o0, PSo Z .null .null .null .null (iI 0) .null .null (iI 0)) :: (ow, Own.ArrC Z .int [(.int w0), (.int w1), (.int w2)]) :: fr))  : Own.Does l (⟨"com/example/cuesheet/cuesheet/core/PackedStates", "<init>", "([I)V"⟩ : MethodName) prog_12_method_1_code 5 none [] ({ frames := 3, cells := 8, slots := 2125, locals := 43 } : Room) Z #[(.ref o0), (.ref ow)] h0 n0 (fun v h => ∃ ot ra rb owd osh obt opk osd, v = none ∧ Own.Owns n0 h ((o0, PSo Z (.ref ot) (.ref owd) (.ref osh) (.ref obt) (iI 1) (.ref opk) (.ref osd) (iI 0)) :: (opk, Own.ArrC Z .long [(jJ 0)]) :: (owd, Own.ArrC Z .int [(iI 0), (iI 0), (iI 0)]) :: (osh, Own.ArrC Z .int [(.int (0 : Nat).toInt32), (.int (0 + b0).toInt32), (.int (0 + b0 + b1).toInt32)]) :: (osd, Own.ArrC Z .long (List.replicate 64 (Value.long (0 : Int64)))) :: (ot, STo Z (.ref ra) (.ref rb) (iI 0)) :: (ra, Own.ArrC Z .long (List.replicate 1024 (Value.long (0 : Int64)))) :: (rb, Own.ArrC Z .int ((fl 1024).map Value.int)) :: (obt, Own.ArrC Z .int [(.int b0.toInt32), (.int b1.toInt32), (.int b2.toInt32)]) :: (ow, Own.ArrC Z .int [(.int w0), (.int w1), (.int w2)]) :: fr)) := by
  refine Own.doesOf pn7 ?_
  intro p e s m below meth c hx hby hml hret hlk hown hnm hZ
  refine Own.Goes.cast (ef3_1 m o0 ow) ?_
  refine Own.aloadN hx (.ref o0) (hb hby d3_0) rfl rfl rfl ?_
  refine Own.initobj hx hZ hown (hw _ (wm 15 rfl)) (hw _ (wm 16 rfl)) (hw _ (wm 17 rfl)) (by rw [hml]; rfl) (W := 0) (Nat.le_of_eq rfl) (by decide) (by decide) (hb hby d3_1) rfl ?_
  refine Own.aloadN hx (.ref o0) (hb hby d3_4) rfl rfl rfl ?_
  refine Own.newobj hx hZ hown O0 (hw _ (wm 18 rfl)) (hw _ (wm 19 rfl)) (hw _ (wm 20 rfl)) [(("com/example/cuesheet/cuesheet/core/StateTable", "summaries", "[J"), .null), (("com/example/cuesheet/cuesheet/core/StateTable", "slots", "[I"), .null), (("com/example/cuesheet/cuesheet/core/StateTable", "size", "I"), (.int (0 : Int32)))] (by intro f hf; simp only [List.mem_cons, List.not_mem_nil, or_false] at hf; rcases hf with rfl | rfl | rfl; exact ⟨Or.inl (hw _ (wm 27 rfl)), (.array .long), by decide, rfl⟩; exact ⟨Or.inl (hw _ (wm 36 rfl)), (.array .int), by decide, rfl⟩; exact ⟨Or.inl (hw _ (wm 89 rfl)), .int, by decide, rfl⟩) (by decide) (k' := 1) (n' := 3) rfl rfl (by decide) (by decide) (hb hby d3_5) (pc' := 8) rfl ?_
  intro a1 h2 O3
  refine Own.dup hx (hb hby d3_8) rfl rfl ?_
  refine Own.callI hx hZ hown rfl (hw _ (wm 21 rfl)) (hw _ (wm 22 rfl)) (hw _ (wm 20 rfl)) (hw _ (wm 23 rfl)) (by decide) pd2 (argsL := []) (rest := [(.ref a1), (.ref o0)]) rfl (W := 2) (Nat.le_of_eq rfl) (rm := ({ frames := 2, cells := 2, slots := 2048, locals := 29 } : Room)) (by decide) (by decide) (by decide) (by decide) (k' := 3) (n' := 2051) rfl rfl (by rw [hml]; rfl) [(.ref a1), (.ref a1), (.ref o0)] rfl (hb hby d3_9) (pc' := 12) rfl (rm5 l Z a0 hw a1 h2 n0 ((o0, PSo Z .null .null .null .null (iI 0) .null .null (iI 0)) :: (ow, Own.ArrC Z .int [(.int w0), (.int w1), (.int w2)]) :: fr) O3) ?_
  rintro _ h6 ⟨ra4, rb5, rfl, O7⟩
  show Own.Goes _ _ _ _ _ _ _ _ _ _ _ _ _ _ _ _ _ (mkF m 12 #[.val (.ref o0), .val (.ref ow), .unset, .unset, .unset] [(.ref a1), (.ref o0)])
  refine Own.putfield hx hZ hown O7 3 0 rfl rfl (hw _ (wm 37 rfl)) (Or.inr ⟨(hw _ (wm 38 rfl)), rfl, hnm⟩) (hw _ (wm 10 rfl)) (ty := (.object "com/example/cuesheet/cuesheet/core/StateTable")) (by decide) rfl rfl ((a1, STo Z (.ref ra4) (.ref rb5) (iI 0)) :: (ra4, Own.ArrC Z .long (List.replicate 1024 (Value.long (0 : Int64)))) :: (rb5, Own.ArrC Z .int ((fl 1024).map Value.int)) :: (o0, PSo Z (.ref a1) .null .null .null (iI 0) .null .null (iI 0)) :: (ow, Own.ArrC Z .int [(.int w0), (.int w1), (.int w2)]) :: fr) rfl (hb hby d3_12) rfl ?_
  intro h8 O9
  refine Own.aloadN hx (.ref o0) (hb hby d3_15) rfl rfl rfl ?_
  refine Own.aloadN hx (.ref ow) (hb hby d3_16) rfl rfl rfl ?_
  refine Own.arrlen hx hZ O9 4 rfl (3 : Int32) rfl (hb hby d3_17) rfl ?_
  refine Own.newarr hx hZ O9 (aty := .int) (hw _ (wm 5 rfl)) 3 (by decide) [(.int (0 : Int32)), (.int (0 : Int32)), (.int (0 : Int32))] rfl rfl (cap := 3) (by decide) (by decide) (k' := 4) (n' := 2054) rfl rfl (by decide) (by decide) (hb hby d3_18) (pc' := 20) rfl ?_
  intro a10 h11 O12
  refine Own.putfield hx hZ hown O12 4 1 rfl rfl (hw _ (wm 39 rfl)) (Or.inr ⟨(hw _ (wm 40 rfl)), rfl, hnm⟩) (hw _ (wm 10 rfl)) (ty := (.array .int)) (by decide) rfl rfl ((a10, Own.ArrC Z .int [(iI 0), (iI 0), (iI 0)]) :: (a1, STo Z (.ref ra4) (.ref rb5) (iI 0)) :: (ra4, Own.ArrC Z .long (List.replicate 1024 (Value.long (0 : Int64)))) :: (rb5, Own.ArrC Z .int ((fl 1024).map Value.int)) :: (o0, PSo Z (.ref a1) (.ref a10) .null .null (iI 0) .null .null (iI 0)) :: (ow, Own.ArrC Z .int [(.int w0), (.int w1), (.int w2)]) :: fr) rfl (hb hby d3_20) rfl ?_
  intro h13 O14
  refine Own.aloadN hx (.ref o0) (hb hby d3_23) rfl rfl rfl ?_
  refine Own.aloadN hx (.ref ow) (hb hby d3_24) rfl rfl rfl ?_
  refine Own.arrlen hx hZ O14 5 rfl (3 : Int32) rfl (hb hby d3_25) rfl ?_
  refine Own.newarr hx hZ O14 (aty := .int) (hw _ (wm 5 rfl)) 3 (by decide) [(.int (0 : Int32)), (.int (0 : Int32)), (.int (0 : Int32))] rfl rfl (cap := 3) (by decide) (by decide) (k' := 5) (n' := 2057) rfl rfl (by decide) (by decide) (hb hby d3_26) (pc' := 28) rfl ?_
  intro a15 h16 O17
  refine Own.putfield hx hZ hown O17 5 2 rfl rfl (hw _ (wm 41 rfl)) (Or.inr ⟨(hw _ (wm 42 rfl)), rfl, hnm⟩) (hw _ (wm 10 rfl)) (ty := (.array .int)) (by decide) rfl rfl ((a15, Own.ArrC Z .int [(iI 0), (iI 0), (iI 0)]) :: (a10, Own.ArrC Z .int [(iI 0), (iI 0), (iI 0)]) :: (a1, STo Z (.ref ra4) (.ref rb5) (iI 0)) :: (ra4, Own.ArrC Z .long (List.replicate 1024 (Value.long (0 : Int64)))) :: (rb5, Own.ArrC Z .int ((fl 1024).map Value.int)) :: (o0, PSo Z (.ref a1) (.ref a10) (.ref a15) .null (iI 0) .null .null (iI 0)) :: (ow, Own.ArrC Z .int [(.int w0), (.int w1), (.int w2)]) :: fr) rfl (hb hby d3_28) rfl ?_
  intro h18 O19
  refine Own.aloadN hx (.ref o0) (hb hby d3_31) rfl rfl rfl ?_
  refine Own.aloadN hx (.ref ow) (hb hby d3_32) rfl rfl rfl ?_
  refine Own.arrlen hx hZ O19 6 rfl (3 : Int32) rfl (hb hby d3_33) rfl ?_
  refine Own.newarr hx hZ O19 (aty := .int) (hw _ (wm 5 rfl)) 3 (by decide) [(.int (0 : Int32)), (.int (0 : Int32)), (.int (0 : Int32))] rfl rfl (cap := 3) (by decide) (by decide) (k' := 6) (n' := 2060) rfl rfl (by decide) (by decide) (hb hby d3_34) (pc' := 36) rfl ?_
  intro a20 h21 O22
  refine Own.putfield hx hZ hown O22 6 3 rfl rfl (hw _ (wm 43 rfl)) (Or.inr ⟨(hw _ (wm 44 rfl)), rfl, hnm⟩) (hw _ (wm 10 rfl)) (ty := (.array .int)) (by decide) rfl rfl ((a20, Own.ArrC Z .int [(iI 0), (iI 0), (iI 0)]) :: (a15, Own.ArrC Z .int [(iI 0), (iI 0), (iI 0)]) :: (a10, Own.ArrC Z .int [(iI 0), (iI 0), (iI 0)]) :: (a1, STo Z (.ref ra4) (.ref rb5) (iI 0)) :: (ra4, Own.ArrC Z .long (List.replicate 1024 (Value.long (0 : Int64)))) :: (rb5, Own.ArrC Z .int ((fl 1024).map Value.int)) :: (o0, PSo Z (.ref a1) (.ref a10) (.ref a15) (.ref a20) (iI 0) .null .null (iI 0)) :: (ow, Own.ArrC Z .int [(.int w0), (.int w1), (.int w2)]) :: fr) rfl (hb hby d3_36) rfl ?_
  intro h23 O24
  refine Own.iconst hx (0 : Int32) (hb hby d3_39) rfl (by decide) ?_
  refine Own.istoreN hx (0 : Int32) rfl #[.val (.ref o0), .val (.ref ow), .val (.int (0 : Int32)), .unset, .unset] (hb hby d3_40) rfl rfl ?_
  refine Own.iconst hx (0 : Int32) (hb hby d3_41) rfl (by decide) ?_
  refine Own.vI (0 : Nat).toInt32 rfl ?_
  refine Own.istoreN hx (0 : Nat).toInt32 rfl #[.val (.ref o0), .val (.ref ow), .val (.int (0 : Int32)), .val (.int (0 : Nat).toInt32), .unset] (hb hby d3_42) rfl rfl ?_
  refine Own.iconst hx (0 : Int32) (hb hby d3_43) rfl (by decide) ?_
  refine Own.istore hx (0 : Int32) rfl #[.val (.ref o0), .val (.ref ow), .val (.int (0 : Int32)), .val (.int (0 : Nat).toInt32), .val (.int (0 : Int32))] (hb hby d3_44) rfl rfl ?_
  refine Own.iload hx (0 : Int32) (hb hby d3_46) rfl rfl ?_
  refine Own.aloadN hx (.ref ow) (hb hby d3_48) rfl rfl rfl ?_
  refine Own.arrlen hx hZ O24 7 rfl (3 : Int32) rfl (hb hby d3_49) rfl ?_
  have hc25 : (0 : Int32) < (3 : Int32) := by decide
  refine Own.icmpFn hx (Own.q_ge (0 : Int32) (3 : Int32)) (hb hby d3_50) (pcN := 53) rfl (by decide) (pcT := 123) rfl (fun q => absurd hc25 q) (fun _ => ?_)
  refine Own.aloadN hx (.ref o0) (hb hby d3_53) rfl rfl rfl ?_
  refine Own.getfield hx hZ hown O24 6 3 rfl rfl (hw _ (wm 43 rfl)) (hb hby d3_54) rfl ?_
  refine Own.iload hx (0 : Int32) (hb hby d3_57) rfl rfl ?_
  refine Own.bipush hx (32 : Int32) (hb hby d3_59) rfl (by decide) ?_
  refine Own.aloadN hx (.ref ow) (hb hby d3_61) rfl rfl rfl ?_
  refine Own.iload hx (0 : Int32) (hb hby d3_62) rfl rfl ?_
  refine Own.iaload hx hZ O24 7 0 rfl (by decide) (v := (.int w0)) rfl (hb hby d3_64) rfl ?_
  refine Own.iconst hx (1 : Int32) (hb hby d3_65) rfl (by decide) ?_
  refine Own.isub hx (hb hby d3_66) rfl ?_
  refine Own.callS hx hZ hown (hw _ (wm 45 rfl)) (hw _ (wm 46 rfl)) (hw _ (wm 47 rfl)) (hw _ (wm 48 rfl)) (by decide) pd3 (argsL := [(.int (w0 - (1 : Int32)))]) (rest := [(.int (32 : Int32)), (.int (0 : Int32)), (.ref a20)]) rfl (W := 3) (Nat.le_of_eq rfl) (rm := ({ frames := 0, cells := 0, slots := 0, locals := 0 } : Room)) (by decide) (by decide) (by decide) (by decide) (k' := 6) (n' := 2060) rfl rfl (by rw [hml]; rfl) [(.int (w0 - (1 : Int32))), (.int (32 : Int32)), (.int (0 : Int32)), (.ref a20)] rfl (hb hby d3_67) (pc' := 70) rfl (rm8 l Z a0 hw (w0 - (1 : Int32)) h23 n0) ?_
  rintro _ h' ⟨rfl, eh⟩
  rw [eh]; clear eh h'
  show Own.Goes _ _ _ _ _ _ _ _ _ _ _ _ _ _ _ _ _ (mkF m 70 #[.val (.ref o0), .val (.ref ow), .val (.int (0 : Int32)), .val (.int (0 : Nat).toInt32), .val (.int (0 : Int32))] [(.int (nlz (w0 - (1 : Int32)))), (.int (32 : Int32)), (.int (0 : Int32)), (.ref a20)])
  refine Own.isub hx (hb hby d3_70) rfl ?_
  refine Own.vI b0.toInt32 eb0 ?_
  refine Own.iastore hx hZ O24 0 0 rfl (by decide) (by exact (show 0 < 3 by decide)) ((a20, Own.ArrC Z .int [(.int b0.toInt32), (iI 0), (iI 0)]) :: (a15, Own.ArrC Z .int [(iI 0), (iI 0), (iI 0)]) :: (a10, Own.ArrC Z .int [(iI 0), (iI 0), (iI 0)]) :: (a1, STo Z (.ref ra4) (.ref rb5) (iI 0)) :: (ra4, Own.ArrC Z .long (List.replicate 1024 (Value.long (0 : Int64)))) :: (rb5, Own.ArrC Z .int ((fl 1024).map Value.int)) :: (o0, PSo Z (.ref a1) (.ref a10) (.ref a15) (.ref a20) (iI 0) .null .null (iI 0)) :: (ow, Own.ArrC Z .int [(.int w0), (.int w1), (.int w2)]) :: fr) rfl (hb hby d3_71) rfl ?_
  intro h27 O28
  refine Own.iloadN hx (0 : Nat).toInt32 (hb hby d3_72) rfl rfl ?_
  refine Own.aloadN hx (.ref o0) (hb hby d3_73) rfl rfl rfl ?_
  refine Own.getfield hx hZ hown O28 6 3 rfl rfl (hw _ (wm 43 rfl)) (hb hby d3_74) rfl ?_
  refine Own.iload hx (0 : Int32) (hb hby d3_77) rfl rfl ?_
  refine Own.iaload hx hZ O28 0 0 rfl (by decide) (v := (.int b0.toInt32)) rfl (hb hby d3_79) rfl ?_
  refine Own.iadd hx (hb hby d3_80) rfl ?_
  refine Own.vI (0 + b0).toInt32 (own_add2 _ _) ?_
  refine Own.bipush hx (64 : Int32) (hb hby d3_81) rfl (by decide) ?_
  have hc29 : ¬ ((64 : Int32) < (0 + b0).toInt32) := own_le64 (by omega)
  refine Own.icmpFn hx (Own.q_le (0 + b0).toInt32 (64 : Int32)) (hb hby d3_83) (pcN := 86) rfl (by decide) (pcT := 91) rfl (fun _ => ?_) (fun q => absurd q hc29)
  refine Own.aloadN hx (.ref o0) (hb hby d3_91) rfl rfl rfl ?_
  refine Own.getfield hx hZ hown O28 6 1 rfl rfl (hw _ (wm 39 rfl)) (hb hby d3_92) rfl ?_
  refine Own.iload hx (0 : Int32) (hb hby d3_95) rfl rfl ?_
  refine Own.iloadN hx (0 : Int32) (hb hby d3_97) rfl rfl ?_
  refine Own.iastore hx hZ O28 2 0 rfl (by decide) (by exact (show 0 < 3 by decide)) ((a20, Own.ArrC Z .int [(.int b0.toInt32), (iI 0), (iI 0)]) :: (a15, Own.ArrC Z .int [(iI 0), (iI 0), (iI 0)]) :: (a10, Own.ArrC Z .int [(iI 0), (iI 0), (iI 0)]) :: (a1, STo Z (.ref ra4) (.ref rb5) (iI 0)) :: (ra4, Own.ArrC Z .long (List.replicate 1024 (Value.long (0 : Int64)))) :: (rb5, Own.ArrC Z .int ((fl 1024).map Value.int)) :: (o0, PSo Z (.ref a1) (.ref a10) (.ref a15) (.ref a20) (iI 0) .null .null (iI 0)) :: (ow, Own.ArrC Z .int [(.int w0), (.int w1), (.int w2)]) :: fr) rfl (hb hby d3_98) rfl ?_
  intro h31 O32
  refine Own.aloadN hx (.ref o0) (hb hby d3_99) rfl rfl rfl ?_
  refine Own.getfield hx hZ hown O32 6 2 rfl rfl (hw _ (wm 41 rfl)) (hb hby d3_100) rfl ?_
  refine Own.iload hx (0 : Int32) (hb hby d3_103) rfl rfl ?_
  refine Own.iloadN hx (0 : Nat).toInt32 (hb hby d3_105) rfl rfl ?_
  refine Own.iastore hx hZ O32 1 0 rfl (by decide) (by exact (show 0 < 3 by decide)) ((a20, Own.ArrC Z .int [(.int b0.toInt32), (iI 0), (iI 0)]) :: (a15, Own.ArrC Z .int [(.int (0 : Nat).toInt32), (iI 0), (iI 0)]) :: (a10, Own.ArrC Z .int [(iI 0), (iI 0), (iI 0)]) :: (a1, STo Z (.ref ra4) (.ref rb5) (iI 0)) :: (ra4, Own.ArrC Z .long (List.replicate 1024 (Value.long (0 : Int64)))) :: (rb5, Own.ArrC Z .int ((fl 1024).map Value.int)) :: (o0, PSo Z (.ref a1) (.ref a10) (.ref a15) (.ref a20) (iI 0) .null .null (iI 0)) :: (ow, Own.ArrC Z .int [(.int w0), (.int w1), (.int w2)]) :: fr) rfl (hb hby d3_106) rfl ?_
  intro h33 O34
  refine Own.iloadN hx (0 : Nat).toInt32 (hb hby d3_107) rfl rfl ?_
  refine Own.aloadN hx (.ref o0) (hb hby d3_108) rfl rfl rfl ?_
  refine Own.getfield hx hZ hown O34 6 3 rfl rfl (hw _ (wm 43 rfl)) (hb hby d3_109) rfl ?_
  refine Own.iload hx (0 : Int32) (hb hby d3_112) rfl rfl ?_
  refine Own.iaload hx hZ O34 0 0 rfl (by decide) (v := (.int b0.toInt32)) rfl (hb hby d3_114) rfl ?_
  refine Own.iadd hx (hb hby d3_115) rfl ?_
  refine Own.vI (0 + b0).toInt32 (own_add2 _ _) ?_
  refine Own.istoreN hx (0 + b0).toInt32 rfl #[.val (.ref o0), .val (.ref ow), .val (.int (0 : Int32)), .val (.int (0 + b0).toInt32), .val (.int (0 : Int32))] (hb hby d3_116) rfl rfl ?_
  refine Own.iinc hx (1 : Int32) #[.val (.ref o0), .val (.ref ow), .val (.int (0 : Int32)), .val (.int (0 + b0).toInt32), .val (.int (1 : Int32))] (hb hby d3_117) rfl rfl (by decide) rfl ?_
  refine Own.goto hx (hb hby d3_120) (by decide) (pc' := 46) rfl ?_
  refine Own.iload hx (1 : Int32) (hb hby d3_46) rfl rfl ?_
  refine Own.aloadN hx (.ref ow) (hb hby d3_48) rfl rfl rfl ?_
  refine Own.arrlen hx hZ O34 7 rfl (3 : Int32) rfl (hb hby d3_49) rfl ?_
  have hc35 : (1 : Int32) < (3 : Int32) := by decide
  refine Own.icmpFn hx (Own.q_ge (1 : Int32) (3 : Int32)) (hb hby d3_50) (pcN := 53) rfl (by decide) (pcT := 123) rfl (fun q => absurd hc35 q) (fun _ => ?_)
  refine Own.aloadN hx (.ref o0) (hb hby d3_53) rfl rfl rfl ?_
  refine Own.getfield hx hZ hown O34 6 3 rfl rfl (hw _ (wm 43 rfl)) (hb hby d3_54) rfl ?_
  refine Own.iload hx (1 : Int32) (hb hby d3_57) rfl rfl ?_
  refine Own.bipush hx (32 : Int32) (hb hby d3_59) rfl (by decide) ?_
  refine Own.aloadN hx (.ref ow) (hb hby d3_61) rfl rfl rfl ?_
  refine Own.iload hx (1 : Int32) (hb hby d3_62) rfl rfl ?_
  refine Own.iaload hx hZ O34 7 1 rfl (by decide) (v := (.int w1)) rfl (hb hby d3_64) rfl ?_
  refine Own.iconst hx (1 : Int32) (hb hby d3_65) rfl (by decide) ?_
  refine Own.isub hx (hb hby d3_66) rfl ?_
  refine Own.callS hx hZ hown (hw _ (wm 45 rfl)) (hw _ (wm 46 rfl)) (hw _ (wm 47 rfl)) (hw _ (wm 48 rfl)) (by decide) pd3 (argsL := [(.int (w1 - (1 : Int32)))]) (rest := [(.int (32 : Int32)), (.int (1 : Int32)), (.ref a20)]) rfl (W := 3) (Nat.le_of_eq rfl) (rm := ({ frames := 0, cells := 0, slots := 0, locals := 0 } : Room)) (by decide) (by decide) (by decide) (by decide) (k' := 6) (n' := 2060) rfl rfl (by rw [hml]; rfl) [(.int (w1 - (1 : Int32))), (.int (32 : Int32)), (.int (1 : Int32)), (.ref a20)] rfl (hb hby d3_67) (pc' := 70) rfl (rm8 l Z a0 hw (w1 - (1 : Int32)) h33 n0) ?_
  rintro _ h' ⟨rfl, eh⟩
  rw [eh]; clear eh h'
  show Own.Goes _ _ _ _ _ _ _ _ _ _ _ _ _ _ _ _ _ (mkF m 70 #[.val (.ref o0), .val (.ref ow), .val (.int (0 : Int32)), .val (.int (0 + b0).toInt32), .val (.int (1 : Int32))] [(.int (nlz (w1 - (1 : Int32)))), (.int (32 : Int32)), (.int (1 : Int32)), (.ref a20)])
  refine Own.isub hx (hb hby d3_70) rfl ?_
  refine Own.vI b1.toInt32 eb1 ?_
  refine Own.iastore hx hZ O34 0 1 rfl (by decide) (by exact (show 1 < 3 by decide)) ((a20, Own.ArrC Z .int [(.int b0.toInt32), (.int b1.toInt32), (iI 0)]) :: (a15, Own.ArrC Z .int [(.int (0 : Nat).toInt32), (iI 0), (iI 0)]) :: (a10, Own.ArrC Z .int [(iI 0), (iI 0), (iI 0)]) :: (a1, STo Z (.ref ra4) (.ref rb5) (iI 0)) :: (ra4, Own.ArrC Z .long (List.replicate 1024 (Value.long (0 : Int64)))) :: (rb5, Own.ArrC Z .int ((fl 1024).map Value.int)) :: (o0, PSo Z (.ref a1) (.ref a10) (.ref a15) (.ref a20) (iI 0) .null .null (iI 0)) :: (ow, Own.ArrC Z .int [(.int w0), (.int w1), (.int w2)]) :: fr) rfl (hb hby d3_71) rfl ?_
  intro h37 O38
  refine Own.iloadN hx (0 + b0).toInt32 (hb hby d3_72) rfl rfl ?_
  refine Own.aloadN hx (.ref o0) (hb hby d3_73) rfl rfl rfl ?_
  refine Own.getfield hx hZ hown O38 6 3 rfl rfl (hw _ (wm 43 rfl)) (hb hby d3_74) rfl ?_
  refine Own.iload hx (1 : Int32) (hb hby d3_77) rfl rfl ?_
  refine Own.iaload hx hZ O38 0 1 rfl (by decide) (v := (.int b1.toInt32)) rfl (hb hby d3_79) rfl ?_
  refine Own.iadd hx (hb hby d3_80) rfl ?_
  refine Own.vI (0 + b0 + b1).toInt32 (own_add2 _ _) ?_
  refine Own.bipush hx (64 : Int32) (hb hby d3_81) rfl (by decide) ?_
  have hc39 : ¬ ((64 : Int32) < (0 + b0 + b1).toInt32) := own_le64 (by omega)
  refine Own.icmpFn hx (Own.q_le (0 + b0 + b1).toInt32 (64 : Int32)) (hb hby d3_83) (pcN := 86) rfl (by decide) (pcT := 91) rfl (fun _ => ?_) (fun q => absurd q hc39)
  refine Own.aloadN hx (.ref o0) (hb hby d3_91) rfl rfl rfl ?_
  refine Own.getfield hx hZ hown O38 6 1 rfl rfl (hw _ (wm 39 rfl)) (hb hby d3_92) rfl ?_
  refine Own.iload hx (1 : Int32) (hb hby d3_95) rfl rfl ?_
  refine Own.iloadN hx (0 : Int32) (hb hby d3_97) rfl rfl ?_
  refine Own.iastore hx hZ O38 2 1 rfl (by decide) (by exact (show 1 < 3 by decide)) ((a20, Own.ArrC Z .int [(.int b0.toInt32), (.int b1.toInt32), (iI 0)]) :: (a15, Own.ArrC Z .int [(.int (0 : Nat).toInt32), (iI 0), (iI 0)]) :: (a10, Own.ArrC Z .int [(iI 0), (iI 0), (iI 0)]) :: (a1, STo Z (.ref ra4) (.ref rb5) (iI 0)) :: (ra4, Own.ArrC Z .long (List.replicate 1024 (Value.long (0 : Int64)))) :: (rb5, Own.ArrC Z .int ((fl 1024).map Value.int)) :: (o0, PSo Z (.ref a1) (.ref a10) (.ref a15) (.ref a20) (iI 0) .null .null (iI 0)) :: (ow, Own.ArrC Z .int [(.int w0), (.int w1), (.int w2)]) :: fr) rfl (hb hby d3_98) rfl ?_
  intro h41 O42
  refine Own.aloadN hx (.ref o0) (hb hby d3_99) rfl rfl rfl ?_
  refine Own.getfield hx hZ hown O42 6 2 rfl rfl (hw _ (wm 41 rfl)) (hb hby d3_100) rfl ?_
  refine Own.iload hx (1 : Int32) (hb hby d3_103) rfl rfl ?_
  refine Own.iloadN hx (0 + b0).toInt32 (hb hby d3_105) rfl rfl ?_
  refine Own.iastore hx hZ O42 1 1 rfl (by decide) (by exact (show 1 < 3 by decide)) ((a20, Own.ArrC Z .int [(.int b0.toInt32), (.int b1.toInt32), (iI 0)]) :: (a15, Own.ArrC Z .int [(.int (0 : Nat).toInt32), (.int (0 + b0).toInt32), (iI 0)]) :: (a10, Own.ArrC Z .int [(iI 0), (iI 0), (iI 0)]) :: (a1, STo Z (.ref ra4) (.ref rb5) (iI 0)) :: (ra4, Own.ArrC Z .long (List.replicate 1024 (Value.long (0 : Int64)))) :: (rb5, Own.ArrC Z .int ((fl 1024).map Value.int)) :: (o0, PSo Z (.ref a1) (.ref a10) (.ref a15) (.ref a20) (iI 0) .null .null (iI 0)) :: (ow, Own.ArrC Z .int [(.int w0), (.int w1), (.int w2)]) :: fr) rfl (hb hby d3_106) rfl ?_
  intro h43 O44
  refine Own.iloadN hx (0 + b0).toInt32 (hb hby d3_107) rfl rfl ?_
  refine Own.aloadN hx (.ref o0) (hb hby d3_108) rfl rfl rfl ?_
  refine Own.getfield hx hZ hown O44 6 3 rfl rfl (hw _ (wm 43 rfl)) (hb hby d3_109) rfl ?_
  refine Own.iload hx (1 : Int32) (hb hby d3_112) rfl rfl ?_
  refine Own.iaload hx hZ O44 0 1 rfl (by decide) (v := (.int b1.toInt32)) rfl (hb hby d3_114) rfl ?_
  refine Own.iadd hx (hb hby d3_115) rfl ?_
  refine Own.vI (0 + b0 + b1).toInt32 (own_add2 _ _) ?_
  refine Own.istoreN hx (0 + b0 + b1).toInt32 rfl #[.val (.ref o0), .val (.ref ow), .val (.int (0 : Int32)), .val (.int (0 + b0 + b1).toInt32), .val (.int (1 : Int32))] (hb hby d3_116) rfl rfl ?_
  refine Own.iinc hx (2 : Int32) #[.val (.ref o0), .val (.ref ow), .val (.int (0 : Int32)), .val (.int (0 + b0 + b1).toInt32), .val (.int (2 : Int32))] (hb hby d3_117) rfl rfl (by decide) rfl ?_
  refine Own.goto hx (hb hby d3_120) (by decide) (pc' := 46) rfl ?_
  refine Own.iload hx (2 : Int32) (hb hby d3_46) rfl rfl ?_
  refine Own.aloadN hx (.ref ow) (hb hby d3_48) rfl rfl rfl ?_
  refine Own.arrlen hx hZ O44 7 rfl (3 : Int32) rfl (hb hby d3_49) rfl ?_
  have hc45 : (2 : Int32) < (3 : Int32) := by decide
  refine Own.icmpFn hx (Own.q_ge (2 : Int32) (3 : Int32)) (hb hby d3_50) (pcN := 53) rfl (by decide) (pcT := 123) rfl (fun q => absurd hc45 q) (fun _ => ?_)
  refine Own.aloadN hx (.ref o0) (hb hby d3_53) rfl rfl rfl ?_
  refine Own.getfield hx hZ hown O44 6 3 rfl rfl (hw _ (wm 43 rfl)) (hb hby d3_54) rfl ?_
  refine Own.iload hx (2 : Int32) (hb hby d3_57) rfl rfl ?_
  refine Own.bipush hx (32 : Int32) (hb hby d3_59) rfl (by decide) ?_
  refine Own.aloadN hx (.ref ow) (hb hby d3_61) rfl rfl rfl ?_
  refine Own.iload hx (2 : Int32) (hb hby d3_62) rfl rfl ?_
  refine Own.iaload hx hZ O44 7 2 rfl (by decide) (v := (.int w2)) rfl (hb hby d3_64) rfl ?_
  refine Own.iconst hx (1 : Int32) (hb hby d3_65) rfl (by decide) ?_
  refine Own.isub hx (hb hby d3_66) rfl ?_
  refine Own.callS hx hZ hown (hw _ (wm 45 rfl)) (hw _ (wm 46 rfl)) (hw _ (wm 47 rfl)) (hw _ (wm 48 rfl)) (by decide) pd3 (argsL := [(.int (w2 - (1 : Int32)))]) (rest := [(.int (32 : Int32)), (.int (2 : Int32)), (.ref a20)]) rfl (W := 3) (Nat.le_of_eq rfl) (rm := ({ frames := 0, cells := 0, slots := 0, locals := 0 } : Room)) (by decide) (by decide) (by decide) (by decide) (k' := 6) (n' := 2060) rfl rfl (by rw [hml]; rfl) [(.int (w2 - (1 : Int32))), (.int (32 : Int32)), (.int (2 : Int32)), (.ref a20)] rfl (hb hby d3_67) (pc' := 70) rfl (rm8 l Z a0 hw (w2 - (1 : Int32)) h43 n0) ?_
  rintro _ h' ⟨rfl, eh⟩
  rw [eh]; clear eh h'
  show Own.Goes _ _ _ _ _ _ _ _ _ _ _ _ _ _ _ _ _ (mkF m 70 #[.val (.ref o0), .val (.ref ow), .val (.int (0 : Int32)), .val (.int (0 + b0 + b1).toInt32), .val (.int (2 : Int32))] [(.int (nlz (w2 - (1 : Int32)))), (.int (32 : Int32)), (.int (2 : Int32)), (.ref a20)])
  refine Own.isub hx (hb hby d3_70) rfl ?_
  refine Own.vI b2.toInt32 eb2 ?_
  refine Own.iastore hx hZ O44 0 2 rfl (by decide) (by exact (show 2 < 3 by decide)) ((a20, Own.ArrC Z .int [(.int b0.toInt32), (.int b1.toInt32), (.int b2.toInt32)]) :: (a15, Own.ArrC Z .int [(.int (0 : Nat).toInt32), (.int (0 + b0).toInt32), (iI 0)]) :: (a10, Own.ArrC Z .int [(iI 0), (iI 0), (iI 0)]) :: (a1, STo Z (.ref ra4) (.ref rb5) (iI 0)) :: (ra4, Own.ArrC Z .long (List.replicate 1024 (Value.long (0 : Int64)))) :: (rb5, Own.ArrC Z .int ((fl 1024).map Value.int)) :: (o0, PSo Z (.ref a1) (.ref a10) (.ref a15) (.ref a20) (iI 0) .null .null (iI 0)) :: (ow, Own.ArrC Z .int [(.int w0), (.int w1), (.int w2)]) :: fr) rfl (hb hby d3_71) rfl ?_
  intro h47 O48
  refine Own.iloadN hx (0 + b0 + b1).toInt32 (hb hby d3_72) rfl rfl ?_
  refine Own.aloadN hx (.ref o0) (hb hby d3_73) rfl rfl rfl ?_
  refine Own.getfield hx hZ hown O48 6 3 rfl rfl (hw _ (wm 43 rfl)) (hb hby d3_74) rfl ?_
  refine Own.iload hx (2 : Int32) (hb hby d3_77) rfl rfl ?_
  refine Own.iaload hx hZ O48 0 2 rfl (by decide) (v := (.int b2.toInt32)) rfl (hb hby d3_79) rfl ?_
  refine Own.iadd hx (hb hby d3_80) rfl ?_
  refine Own.vI (0 + b0 + b1 + b2).toInt32 (own_add2 _ _) ?_
  refine Own.bipush hx (64 : Int32) (hb hby d3_81) rfl (by decide) ?_
  have hc49 : ¬ ((64 : Int32) < (0 + b0 + b1 + b2).toInt32) := own_le64 (by omega)
  refine Own.icmpFn hx (Own.q_le (0 + b0 + b1 + b2).toInt32 (64 : Int32)) (hb hby d3_83) (pcN := 86) rfl (by decide) (pcT := 91) rfl (fun _ => ?_) (fun q => absurd q hc49)
  refine Own.aloadN hx (.ref o0) (hb hby d3_91) rfl rfl rfl ?_
  refine Own.getfield hx hZ hown O48 6 1 rfl rfl (hw _ (wm 39 rfl)) (hb hby d3_92) rfl ?_
  refine Own.iload hx (2 : Int32) (hb hby d3_95) rfl rfl ?_
  refine Own.iloadN hx (0 : Int32) (hb hby d3_97) rfl rfl ?_
  refine Own.iastore hx hZ O48 2 2 rfl (by decide) (by exact (show 2 < 3 by decide)) ((a20, Own.ArrC Z .int [(.int b0.toInt32), (.int b1.toInt32), (.int b2.toInt32)]) :: (a15, Own.ArrC Z .int [(.int (0 : Nat).toInt32), (.int (0 + b0).toInt32), (iI 0)]) :: (a10, Own.ArrC Z .int [(iI 0), (iI 0), (iI 0)]) :: (a1, STo Z (.ref ra4) (.ref rb5) (iI 0)) :: (ra4, Own.ArrC Z .long (List.replicate 1024 (Value.long (0 : Int64)))) :: (rb5, Own.ArrC Z .int ((fl 1024).map Value.int)) :: (o0, PSo Z (.ref a1) (.ref a10) (.ref a15) (.ref a20) (iI 0) .null .null (iI 0)) :: (ow, Own.ArrC Z .int [(.int w0), (.int w1), (.int w2)]) :: fr) rfl (hb hby d3_98) rfl ?_
  intro h51 O52
  refine Own.aloadN hx (.ref o0) (hb hby d3_99) rfl rfl rfl ?_
  refine Own.getfield hx hZ hown O52 6 2 rfl rfl (hw _ (wm 41 rfl)) (hb hby d3_100) rfl ?_
  refine Own.iload hx (2 : Int32) (hb hby d3_103) rfl rfl ?_
  refine Own.iloadN hx (0 + b0 + b1).toInt32 (hb hby d3_105) rfl rfl ?_
  refine Own.iastore hx hZ O52 1 2 rfl (by decide) (by exact (show 2 < 3 by decide)) ((a20, Own.ArrC Z .int [(.int b0.toInt32), (.int b1.toInt32), (.int b2.toInt32)]) :: (a15, Own.ArrC Z .int [(.int (0 : Nat).toInt32), (.int (0 + b0).toInt32), (.int (0 + b0 + b1).toInt32)]) :: (a10, Own.ArrC Z .int [(iI 0), (iI 0), (iI 0)]) :: (a1, STo Z (.ref ra4) (.ref rb5) (iI 0)) :: (ra4, Own.ArrC Z .long (List.replicate 1024 (Value.long (0 : Int64)))) :: (rb5, Own.ArrC Z .int ((fl 1024).map Value.int)) :: (o0, PSo Z (.ref a1) (.ref a10) (.ref a15) (.ref a20) (iI 0) .null .null (iI 0)) :: (ow, Own.ArrC Z .int [(.int w0), (.int w1), (.int w2)]) :: fr) rfl (hb hby d3_106) rfl ?_
  intro h53 O54
  refine Own.iloadN hx (0 + b0 + b1).toInt32 (hb hby d3_107) rfl rfl ?_
  refine Own.aloadN hx (.ref o0) (hb hby d3_108) rfl rfl rfl ?_
  refine Own.getfield hx hZ hown O54 6 3 rfl rfl (hw _ (wm 43 rfl)) (hb hby d3_109) rfl ?_
  refine Own.iload hx (2 : Int32) (hb hby d3_112) rfl rfl ?_
  refine Own.iaload hx hZ O54 0 2 rfl (by decide) (v := (.int b2.toInt32)) rfl (hb hby d3_114) rfl ?_
  refine Own.iadd hx (hb hby d3_115) rfl ?_
  refine Own.vI (0 + b0 + b1 + b2).toInt32 (own_add2 _ _) ?_
  refine Own.istoreN hx (0 + b0 + b1 + b2).toInt32 rfl #[.val (.ref o0), .val (.ref ow), .val (.int (0 : Int32)), .val (.int (0 + b0 + b1 + b2).toInt32), .val (.int (2 : Int32))] (hb hby d3_116) rfl rfl ?_
  refine Own.iinc hx (3 : Int32) #[.val (.ref o0), .val (.ref ow), .val (.int (0 : Int32)), .val (.int (0 + b0 + b1 + b2).toInt32), .val (.int (3 : Int32))] (hb hby d3_117) rfl rfl (by decide) rfl ?_
  refine Own.goto hx (hb hby d3_120) (by decide) (pc' := 46) rfl ?_
  refine Own.iload hx (3 : Int32) (hb hby d3_46) rfl rfl ?_
  refine Own.aloadN hx (.ref ow) (hb hby d3_48) rfl rfl rfl ?_
  refine Own.arrlen hx hZ O54 7 rfl (3 : Int32) rfl (hb hby d3_49) rfl ?_
  have hc55 : ¬ ((3 : Int32) < (3 : Int32)) := by decide
  refine Own.icmpFn hx (Own.q_ge (3 : Int32) (3 : Int32)) (hb hby d3_50) (pcN := 53) rfl (by decide) (pcT := 123) rfl (fun _ => ?_) (fun q => absurd q hc55)
  refine Own.aloadN hx (.ref o0) (hb hby d3_123) rfl rfl rfl ?_
  refine Own.iloadN hx (0 : Int32) (hb hby d3_124) rfl rfl ?_
  refine Own.iconst hx (1 : Int32) (hb hby d3_125) rfl (by decide) ?_
  refine Own.iadd hx (hb hby d3_126) rfl ?_
  refine Own.vI (1 : Int32) (by decide) ?_
  refine Own.putfield hx hZ hown O54 6 4 rfl rfl (hw _ (wm 50 rfl)) (Or.inr ⟨(hw _ (wm 51 rfl)), rfl, hnm⟩) (hw _ (wm 10 rfl)) (ty := .int) (by decide) rfl rfl ((a20, Own.ArrC Z .int [(.int b0.toInt32), (.int b1.toInt32), (.int b2.toInt32)]) :: (a15, Own.ArrC Z .int [(.int (0 : Nat).toInt32), (.int (0 + b0).toInt32), (.int (0 + b0 + b1).toInt32)]) :: (a10, Own.ArrC Z .int [(iI 0), (iI 0), (iI 0)]) :: (a1, STo Z (.ref ra4) (.ref rb5) (iI 0)) :: (ra4, Own.ArrC Z .long (List.replicate 1024 (Value.long (0 : Int64)))) :: (rb5, Own.ArrC Z .int ((fl 1024).map Value.int)) :: (o0, PSo Z (.ref a1) (.ref a10) (.ref a15) (.ref a20) (iI 1) .null .null (iI 0)) :: (ow, Own.ArrC Z .int [(.int w0), (.int w1), (.int w2)]) :: fr) rfl (hb hby d3_127) rfl ?_
  intro h57 O58
  refine Own.aloadN hx (.ref o0) (hb hby d3_130) rfl rfl rfl ?_
  refine Own.aloadN hx (.ref o0) (hb hby d3_131) rfl rfl rfl ?_
  refine Own.getfield hx hZ hown O58 6 4 rfl rfl (hw _ (wm 50 rfl)) (hb hby d3_132) rfl ?_
  refine Own.newarr hx hZ O58 (aty := .long) (hw _ (wm 25 rfl)) 1 (by decide) [(.long (0 : Int64))] rfl rfl (cap := 1) (by decide) (by decide) (k' := 7) (n' := 2061) rfl rfl (by decide) (by decide) (hb hby d3_135) (pc' := 137) rfl ?_
  intro a59 h60 O61
  refine Own.putfield hx hZ hown O61 7 5 rfl rfl (hw _ (wm 52 rfl)) (Or.inr ⟨(hw _ (wm 53 rfl)), rfl, hnm⟩) (hw _ (wm 10 rfl)) (ty := (.array .long)) (by decide) rfl rfl ((a59, Own.ArrC Z .long [(jJ 0)]) :: (a20, Own.ArrC Z .int [(.int b0.toInt32), (.int b1.toInt32), (.int b2.toInt32)]) :: (a15, Own.ArrC Z .int [(.int (0 : Nat).toInt32), (.int (0 + b0).toInt32), (.int (0 + b0 + b1).toInt32)]) :: (a10, Own.ArrC Z .int [(iI 0), (iI 0), (iI 0)]) :: (a1, STo Z (.ref ra4) (.ref rb5) (iI 0)) :: (ra4, Own.ArrC Z .long (List.replicate 1024 (Value.long (0 : Int64)))) :: (rb5, Own.ArrC Z .int ((fl 1024).map Value.int)) :: (o0, PSo Z (.ref a1) (.ref a10) (.ref a15) (.ref a20) (iI 1) (.ref a59) .null (iI 0)) :: (ow, Own.ArrC Z .int [(.int w0), (.int w1), (.int w2)]) :: fr) rfl (hb hby d3_137) rfl ?_
  intro h62 O63
  refine Own.aloadN hx (.ref o0) (hb hby d3_140) rfl rfl rfl ?_
  refine Own.bipush hx (64 : Int32) (hb hby d3_141) rfl (by decide) ?_
  refine Own.aloadN hx (.ref o0) (hb hby d3_143) rfl rfl rfl ?_
  refine Own.getfield hx hZ hown O63 7 4 rfl rfl (hw _ (wm 50 rfl)) (hb hby d3_144) rfl ?_
  refine Own.imul hx (hb hby d3_147) rfl ?_
  refine Own.vI (64 : Int32) (by decide) ?_
  refine Own.newarr hx hZ O63 (aty := .long) (hw _ (wm 25 rfl)) 64 (by decide) (List.replicate 64 (Value.long (0 : Int64))) rfl rfl (cap := 64) (by decide) (by decide) (k' := 8) (n' := 2125) rfl rfl (by decide) (by decide) (hb hby d3_148) (pc' := 150) rfl ?_
  intro a64 h65 O66
  refine Own.putfield hx hZ hown O66 8 6 rfl rfl (hw _ (wm 54 rfl)) (Or.inl (hw _ (wm 55 rfl))) (hw _ (wm 10 rfl)) (ty := (.array .long)) (by decide) rfl rfl ((a64, Own.ArrC Z .long (List.replicate 64 (Value.long (0 : Int64)))) :: (a59, Own.ArrC Z .long [(jJ 0)]) :: (a20, Own.ArrC Z .int [(.int b0.toInt32), (.int b1.toInt32), (.int b2.toInt32)]) :: (a15, Own.ArrC Z .int [(.int (0 : Nat).toInt32), (.int (0 + b0).toInt32), (.int (0 + b0 + b1).toInt32)]) :: (a10, Own.ArrC Z .int [(iI 0), (iI 0), (iI 0)]) :: (a1, STo Z (.ref ra4) (.ref rb5) (iI 0)) :: (ra4, Own.ArrC Z .long (List.replicate 1024 (Value.long (0 : Int64)))) :: (rb5, Own.ArrC Z .int ((fl 1024).map Value.int)) :: (o0, PSo Z (.ref a1) (.ref a10) (.ref a15) (.ref a20) (iI 1) (.ref a59) (.ref a64) (iI 0)) :: (ow, Own.ArrC Z .int [(.int w0), (.int w1), (.int w2)]) :: fr) rfl (hb hby d3_150) rfl ?_
  intro h67 O68
  have O69 : Own.Owns n0 h67 ((ow, Own.ArrC Z .int [(.int w0), (.int w1), (.int w2)]) :: (a64, Own.ArrC Z .long (List.replicate 64 (Value.long (0 : Int64)))) :: (a59, Own.ArrC Z .long [(jJ 0)]) :: (a20, Own.ArrC Z .int [(.int b0.toInt32), (.int b1.toInt32), (.int b2.toInt32)]) :: (a15, Own.ArrC Z .int [(.int (0 : Nat).toInt32), (.int (0 + b0).toInt32), (.int (0 + b0 + b1).toInt32)]) :: (a10, Own.ArrC Z .int [(iI 0), (iI 0), (iI 0)]) :: (a1, STo Z (.ref ra4) (.ref rb5) (iI 0)) :: (ra4, Own.ArrC Z .long (List.replicate 1024 (Value.long (0 : Int64)))) :: (rb5, Own.ArrC Z .int ((fl 1024).map Value.int)) :: (o0, PSo Z (.ref a1) (.ref a10) (.ref a15) (.ref a20) (iI 1) (.ref a59) (.ref a64) (iI 0)) :: fr) := O68.pick 9 rfl
  have O70 : Own.Owns n0 h67 ((a20, Own.ArrC Z .int [(.int b0.toInt32), (.int b1.toInt32), (.int b2.toInt32)]) :: (ow, Own.ArrC Z .int [(.int w0), (.int w1), (.int w2)]) :: (a64, Own.ArrC Z .long (List.replicate 64 (Value.long (0 : Int64)))) :: (a59, Own.ArrC Z .long [(jJ 0)]) :: (a15, Own.ArrC Z .int [(.int (0 : Nat).toInt32), (.int (0 + b0).toInt32), (.int (0 + b0 + b1).toInt32)]) :: (a10, Own.ArrC Z .int [(iI 0), (iI 0), (iI 0)]) :: (a1, STo Z (.ref ra4) (.ref rb5) (iI 0)) :: (ra4, Own.ArrC Z .long (List.replicate 1024 (Value.long (0 : Int64)))) :: (rb5, Own.ArrC Z .int ((fl 1024).map Value.int)) :: (o0, PSo Z (.ref a1) (.ref a10) (.ref a15) (.ref a20) (iI 1) (.ref a59) (.ref a64) (iI 0)) :: fr) := O69.pick 3 rfl
  have O71 : Own.Owns n0 h67 ((rb5, Own.ArrC Z .int ((fl 1024).map Value.int)) :: (a20, Own.ArrC Z .int [(.int b0.toInt32), (.int b1.toInt32), (.int b2.toInt32)]) :: (ow, Own.ArrC Z .int [(.int w0), (.int w1), (.int w2)]) :: (a64, Own.ArrC Z .long (List.replicate 64 (Value.long (0 : Int64)))) :: (a59, Own.ArrC Z .long [(jJ 0)]) :: (a15, Own.ArrC Z .int [(.int (0 : Nat).toInt32), (.int (0 + b0).toInt32), (.int (0 + b0 + b1).toInt32)]) :: (a10, Own.ArrC Z .int [(iI 0), (iI 0), (iI 0)]) :: (a1, STo Z (.ref ra4) (.ref rb5) (iI 0)) :: (ra4, Own.ArrC Z .long (List.replicate 1024 (Value.long (0 : Int64)))) :: (o0, PSo Z (.ref a1) (.ref a10) (.ref a15) (.ref a20) (iI 1) (.ref a59) (.ref a64) (iI 0)) :: fr) := O70.pick 8 rfl
  have O72 : Own.Owns n0 h67 ((ra4, Own.ArrC Z .long (List.replicate 1024 (Value.long (0 : Int64)))) :: (rb5, Own.ArrC Z .int ((fl 1024).map Value.int)) :: (a20, Own.ArrC Z .int [(.int b0.toInt32), (.int b1.toInt32), (.int b2.toInt32)]) :: (ow, Own.ArrC Z .int [(.int w0), (.int w1), (.int w2)]) :: (a64, Own.ArrC Z .long (List.replicate 64 (Value.long (0 : Int64)))) :: (a59, Own.ArrC Z .long [(jJ 0)]) :: (a15, Own.ArrC Z .int [(.int (0 : Nat).toInt32), (.int (0 + b0).toInt32), (.int (0 + b0 + b1).toInt32)]) :: (a10, Own.ArrC Z .int [(iI 0), (iI 0), (iI 0)]) :: (a1, STo Z (.ref ra4) (.ref rb5) (iI 0)) :: (o0, PSo Z (.ref a1) (.ref a10) (.ref a15) (.ref a20) (iI 1) (.ref a59) (.ref a64) (iI 0)) :: fr) := O71.pick 8 rfl
  have O73 : Own.Owns n0 h67 ((a1, STo Z (.ref ra4) (.ref rb5) (iI 0)) :: (ra4, Own.ArrC Z .long (List.replicate 1024 (Value.long (0 : Int64)))) :: (rb5, Own.ArrC Z .int ((fl 1024).map Value.int)) :: (a20, Own.ArrC Z .int [(.int b0.toInt32), (.int b1.toInt32), (.int b2.toInt32)]) :: (ow, Own.ArrC Z .int [(.int w0), (.int w1), (.int w2)]) :: (a64, Own.ArrC Z .long (List.replicate 64 (Value.long (0 : Int64)))) :: (a59, Own.ArrC Z .long [(jJ 0)]) :: (a15, Own.ArrC Z .int [(.int (0 : Nat).toInt32), (.int (0 + b0).toInt32), (.int (0 + b0 + b1).toInt32)]) :: (a10, Own.ArrC Z .int [(iI 0), (iI 0), (iI 0)]) :: (o0, PSo Z (.ref a1) (.ref a10) (.ref a15) (.ref a20) (iI 1) (.ref a59) (.ref a64) (iI 0)) :: fr) := O72.pick 8 rfl
  have O74 : Own.Owns n0 h67 ((a64, Own.ArrC Z .long (List.replicate 64 (Value.long (0 : Int64)))) :: (a1, STo Z (.ref ra4) (.ref rb5) (iI 0)) :: (ra4, Own.ArrC Z .long (List.replicate 1024 (Value.long (0 : Int64)))) :: (rb5, Own.ArrC Z .int ((fl 1024).map Value.int)) :: (a20, Own.ArrC Z .int [(.int b0.toInt32), (.int b1.toInt32), (.int b2.toInt32)]) :: (ow, Own.ArrC Z .int [(.int w0), (.int w1), (.int w2)]) :: (a59, Own.ArrC Z .long [(jJ 0)]) :: (a15, Own.ArrC Z .int [(.int (0 : Nat).toInt32), (.int (0 + b0).toInt32), (.int (0 + b0 + b1).toInt32)]) :: (a10, Own.ArrC Z .int [(iI 0), (iI 0), (iI 0)]) :: (o0, PSo Z (.ref a1) (.ref a10) (.ref a15) (.ref a20) (iI 1) (.ref a59) (.ref a64) (iI 0)) :: fr) := O73.pick 5 rfl
  have O75 : Own.Owns n0 h67 ((a15, Own.ArrC Z .int [(.int (0 : Nat).toInt32), (.int (0 + b0).toInt32), (.int (0 + b0 + b1).toInt32)]) :: (a64, Own.ArrC Z .long (List.replicate 64 (Value.long (0 : Int64)))) :: (a1, STo Z (.ref ra4) (.ref rb5) (iI 0)) :: (ra4, Own.ArrC Z .long (List.replicate 1024 (Value.long (0 : Int64)))) :: (rb5, Own.ArrC Z .int ((fl 1024).map Value.int)) :: (a20, Own.ArrC Z .int [(.int b0.toInt32), (.int b1.toInt32), (.int b2.toInt32)]) :: (ow, Own.ArrC Z .int [(.int w0), (.int w1), (.int w2)]) :: (a59, Own.ArrC Z .long [(jJ 0)]) :: (a10, Own.ArrC Z .int [(iI 0), (iI 0), (iI 0)]) :: (o0, PSo Z (.ref a1) (.ref a10) (.ref a15) (.ref a20) (iI 1) (.ref a59) (.ref a64) (iI 0)) :: fr) := O74.pick 7 rfl
  have O76 : Own.Owns n0 h67 ((a10, Own.ArrC Z .int [(iI 0), (iI 0), (iI 0)]) :: (a15, Own.ArrC Z .int [(.int (0 : Nat).toInt32), (.int (0 + b0).toInt32), (.int (0 + b0 + b1).toInt32)]) :: (a64, Own.ArrC Z .long (List.replicate 64 (Value.long (0 : Int64)))) :: (a1, STo Z (.ref ra4) (.ref rb5) (iI 0)) :: (ra4, Own.ArrC Z .long (List.replicate 1024 (Value.long (0 : Int64)))) :: (rb5, Own.ArrC Z .int ((fl 1024).map Value.int)) :: (a20, Own.ArrC Z .int [(.int b0.toInt32), (.int b1.toInt32), (.int b2.toInt32)]) :: (ow, Own.ArrC Z .int [(.int w0), (.int w1), (.int w2)]) :: (a59, Own.ArrC Z .long [(jJ 0)]) :: (o0, PSo Z (.ref a1) (.ref a10) (.ref a15) (.ref a20) (iI 1) (.ref a59) (.ref a64) (iI 0)) :: fr) := O75.pick 8 rfl
  have O77 : Own.Owns n0 h67 ((a59, Own.ArrC Z .long [(jJ 0)]) :: (a10, Own.ArrC Z .int [(iI 0), (iI 0), (iI 0)]) :: (a15, Own.ArrC Z .int [(.int (0 : Nat).toInt32), (.int (0 + b0).toInt32), (.int (0 + b0 + b1).toInt32)]) :: (a64, Own.ArrC Z .long (List.replicate 64 (Value.long (0 : Int64)))) :: (a1, STo Z (.ref ra4) (.ref rb5) (iI 0)) :: (ra4, Own.ArrC Z .long (List.replicate 1024 (Value.long (0 : Int64)))) :: (rb5, Own.ArrC Z .int ((fl 1024).map Value.int)) :: (a20, Own.ArrC Z .int [(.int b0.toInt32), (.int b1.toInt32), (.int b2.toInt32)]) :: (ow, Own.ArrC Z .int [(.int w0), (.int w1), (.int w2)]) :: (o0, PSo Z (.ref a1) (.ref a10) (.ref a15) (.ref a20) (iI 1) (.ref a59) (.ref a64) (iI 0)) :: fr) := O76.pick 8 rfl
  have O78 : Own.Owns n0 h67 ((o0, PSo Z (.ref a1) (.ref a10) (.ref a15) (.ref a20) (iI 1) (.ref a59) (.ref a64) (iI 0)) :: (a59, Own.ArrC Z .long [(jJ 0)]) :: (a10, Own.ArrC Z .int [(iI 0), (iI 0), (iI 0)]) :: (a15, Own.ArrC Z .int [(.int (0 : Nat).toInt32), (.int (0 + b0).toInt32), (.int (0 + b0 + b1).toInt32)]) :: (a64, Own.ArrC Z .long (List.replicate 64 (Value.long (0 : Int64)))) :: (a1, STo Z (.ref ra4) (.ref rb5) (iI 0)) :: (ra4, Own.ArrC Z .long (List.replicate 1024 (Value.long (0 : Int64)))) :: (rb5, Own.ArrC Z .int ((fl 1024).map Value.int)) :: (a20, Own.ArrC Z .int [(.int b0.toInt32), (.int b1.toInt32), (.int b2.toInt32)]) :: (ow, Own.ArrC Z .int [(.int w0), (.int w1), (.int w2)]) :: fr) := O77.pick 9 rfl
  exact Own.retV hx hret hlk (hb hby d3_153) (by decide) (by decide) ⟨a1, ra4, rb5, a10, a15, a20, a59, a64, rfl, O78⟩

theorem d3_86 : decode prog_12_method_1_code 86 = .ok (.iinc 2 1, 3) := by decide +kernel
theorem d3_89 : decode prog_12_method_1_code 89 = .ok (.iconst 0, 1) := by decide +kernel
theorem d3_90 : decode prog_12_method_1_code 90 = .ok (.istore_n 3, 1) := by decide +kernel
theorem ef3_2 (m : MethodId) (x0 : Addr) (x1 : Addr) : entryFrame m #[(.ref x0), (.ref x1)] 5 = mkF m 0 #[.val (.ref x0), .val (.ref x1), .unset, .unset, .unset] [] := by first | (simp [entryFrame, mkF, argsToLocals, Value.category]; done) | rfl
set_option maxRecDepth 65536 in
set_option maxHeartbeats 40000000 in
theorem rm3_2 (l : Launch) (Z : State) (a0 : Array Value) (hw : ∀ d ∈ tables_1, d.before a0 Z = true) (o0 : Addr) (ow : Addr) (h0 : Heap) (n0 : Nat) (w0 w1 w2 : Int32) (b0 b1 b2 : Nat) (hb0 : b0 ≤ 31) (eb0 : ((32 : Int32) - (nlz (w0 - (1 : Int32)))) = b0.toInt32) (hb1 : b1 ≤ 31) (eb1 : ((32 : Int32) - (nlz (w1 - (1 : Int32)))) = b1.toInt32) (hb2 : b2 ≤ 31) (eb2 : ((32 : Int32) - (nlz (w2 - (1 : Int32)))) = b2.toInt32) (hW : ¬ 0 + b0 + b1 + b2 ≤ 64) (fr : List (Addr × (Cell → Prop))) (O0 : Own.Owns n0 h0 ((o0, PSo Z .null .null .null .null (iI 0) .null .null (iI 0)) :: (ow, Own.ArrC Z .int [(.int w0), (.int w1), (.int w2)]) :: fr))  : Own.Does l (⟨"com/example/cuesheet/cuesheet/core/PackedStates", "<init>", "([I)V"⟩ : MethodName) prog_12_method_1_code 5 none [] ({ frames := 3, cells := 8, slots := 2190, locals := 43 } : Room) Z #[(.ref o0), (.ref ow)] h0 n0 (fun v h => ∃ ot ra rb owd osh obt opk osd, v = none ∧ Own.Owns n0 h ((o0, PSo Z (.ref ot) (.ref owd) (.ref osh) (.ref obt) (iI 2) (.ref opk) (.ref osd) (iI 0)) :: (opk, Own.ArrC Z .long [(jJ 0), (jJ 0)]) :: (owd, Own.ArrC Z .int [(iI 0), (iI 0), (iI 1)]) :: (osh, Own.ArrC Z .int [(.int (0 : Nat).toInt32), (.int (0 + b0).toInt32), (.int (0 : Nat).toInt32)]) :: (osd, Own.ArrC Z .long (List.replicate 128 (Value.long (0 : Int64)))) :: (ot, STo Z (.ref ra) (.ref rb) (iI 0)) :: (ra, Own.ArrC Z .long (List.replicate 1024 (Value.long (0 : Int64)))) :: (rb, Own.ArrC Z .int ((fl 1024).map Value.int)) :: (obt, Own.ArrC Z .int [(.int b0.toInt32), (.int b1.toInt32), (.int b2.toInt32)]) :: (ow, Own.ArrC Z .int [(.int w0), (.int w1), (.int w2)]) :: fr)) := by
  refine Own.doesOf pn7 ?_
  intro p e s m below meth c hx hby hml hret hlk hown hnm hZ
  refine Own.Goes.cast (ef3_2 m o0 ow) ?_
  refine Own.aloadN hx (.ref o0) (hb hby d3_0) rfl rfl rfl ?_
  refine Own.initobj hx hZ hown (hw _ (wm 15 rfl)) (hw _ (wm 16 rfl)) (hw _ (wm 17 rfl)) (by rw [hml]; rfl) (W := 0) (Nat.le_of_eq rfl) (by decide) (by decide) (hb hby d3_1) rfl ?_
  refine Own.aloadN hx (.ref o0) (hb hby d3_4) rfl rfl rfl ?_
  refine Own.newobj hx hZ hown O0 (hw _ (wm 18 rfl)) (hw _ (wm 19 rfl)) (hw _ (wm 20 rfl)) [(("com/example/cuesheet/cuesheet/core/StateTable", "summaries", "[J"), .null), (("com/example/cuesheet/cuesheet/core/StateTable", "slots", "[I"), .null), (("com/example/cuesheet/cuesheet/core/StateTable", "size", "I"), (.int (0 : Int32)))] (by intro f hf; simp only [List.mem_cons, List.not_mem_nil, or_false] at hf; rcases hf with rfl | rfl | rfl; exact ⟨Or.inl (hw _ (wm 27 rfl)), (.array .long), by decide, rfl⟩; exact ⟨Or.inl (hw _ (wm 36 rfl)), (.array .int), by decide, rfl⟩; exact ⟨Or.inl (hw _ (wm 89 rfl)), .int, by decide, rfl⟩) (by decide) (k' := 1) (n' := 3) rfl rfl (by decide) (by decide) (hb hby d3_5) (pc' := 8) rfl ?_
  intro a1 h2 O3
  refine Own.dup hx (hb hby d3_8) rfl rfl ?_
  refine Own.callI hx hZ hown rfl (hw _ (wm 21 rfl)) (hw _ (wm 22 rfl)) (hw _ (wm 20 rfl)) (hw _ (wm 23 rfl)) (by decide) pd2 (argsL := []) (rest := [(.ref a1), (.ref o0)]) rfl (W := 2) (Nat.le_of_eq rfl) (rm := ({ frames := 2, cells := 2, slots := 2048, locals := 29 } : Room)) (by decide) (by decide) (by decide) (by decide) (k' := 3) (n' := 2051) rfl rfl (by rw [hml]; rfl) [(.ref a1), (.ref a1), (.ref o0)] rfl (hb hby d3_9) (pc' := 12) rfl (rm5 l Z a0 hw a1 h2 n0 ((o0, PSo Z .null .null .null .null (iI 0) .null .null (iI 0)) :: (ow, Own.ArrC Z .int [(.int w0), (.int w1), (.int w2)]) :: fr) O3) ?_
  rintro _ h6 ⟨ra4, rb5, rfl, O7⟩
  show Own.Goes _ _ _ _ _ _ _ _ _ _ _ _ _ _ _ _ _ (mkF m 12 #[.val (.ref o0), .val (.ref ow), .unset, .unset, .unset] [(.ref a1), (.ref o0)])
  refine Own.putfield hx hZ hown O7 3 0 rfl rfl (hw _ (wm 37 rfl)) (Or.inr ⟨(hw _ (wm 38 rfl)), rfl, hnm⟩) (hw _ (wm 10 rfl)) (ty := (.object "com/example/cuesheet/cuesheet/core/StateTable")) (by decide) rfl rfl ((a1, STo Z (.ref ra4) (.ref rb5) (iI 0)) :: (ra4, Own.ArrC Z .long (List.replicate 1024 (Value.long (0 : Int64)))) :: (rb5, Own.ArrC Z .int ((fl 1024).map Value.int)) :: (o0, PSo Z (.ref a1) .null .null .null (iI 0) .null .null (iI 0)) :: (ow, Own.ArrC Z .int [(.int w0), (.int w1), (.int w2)]) :: fr) rfl (hb hby d3_12) rfl ?_
  intro h8 O9
  refine Own.aloadN hx (.ref o0) (hb hby d3_15) rfl rfl rfl ?_
  refine Own.aloadN hx (.ref ow) (hb hby d3_16) rfl rfl rfl ?_
  refine Own.arrlen hx hZ O9 4 rfl (3 : Int32) rfl (hb hby d3_17) rfl ?_
  refine Own.newarr hx hZ O9 (aty := .int) (hw _ (wm 5 rfl)) 3 (by decide) [(.int (0 : Int32)), (.int (0 : Int32)), (.int (0 : Int32))] rfl rfl (cap := 3) (by decide) (by decide) (k' := 4) (n' := 2054) rfl rfl (by decide) (by decide) (hb hby d3_18) (pc' := 20) rfl ?_
  intro a10 h11 O12
  refine Own.putfield hx hZ hown O12 4 1 rfl rfl (hw _ (wm 39 rfl)) (Or.inr ⟨(hw _ (wm 40 rfl)), rfl, hnm⟩) (hw _ (wm 10 rfl)) (ty := (.array .int)) (by decide) rfl rfl ((a10, Own.ArrC Z .int [(iI 0), (iI 0), (iI 0)]) :: (a1, STo Z (.ref ra4) (.ref rb5) (iI 0)) :: (ra4, Own.ArrC Z .long (List.replicate 1024 (Value.long (0 : Int64)))) :: (rb5, Own.ArrC Z .int ((fl 1024).map Value.int)) :: (o0, PSo Z (.ref a1) (.ref a10) .null .null (iI 0) .null .null (iI 0)) :: (ow, Own.ArrC Z .int [(.int w0), (.int w1), (.int w2)]) :: fr) rfl (hb hby d3_20) rfl ?_
  intro h13 O14
  refine Own.aloadN hx (.ref o0) (hb hby d3_23) rfl rfl rfl ?_
  refine Own.aloadN hx (.ref ow) (hb hby d3_24) rfl rfl rfl ?_
  refine Own.arrlen hx hZ O14 5 rfl (3 : Int32) rfl (hb hby d3_25) rfl ?_
  refine Own.newarr hx hZ O14 (aty := .int) (hw _ (wm 5 rfl)) 3 (by decide) [(.int (0 : Int32)), (.int (0 : Int32)), (.int (0 : Int32))] rfl rfl (cap := 3) (by decide) (by decide) (k' := 5) (n' := 2057) rfl rfl (by decide) (by decide) (hb hby d3_26) (pc' := 28) rfl ?_
  intro a15 h16 O17
  refine Own.putfield hx hZ hown O17 5 2 rfl rfl (hw _ (wm 41 rfl)) (Or.inr ⟨(hw _ (wm 42 rfl)), rfl, hnm⟩) (hw _ (wm 10 rfl)) (ty := (.array .int)) (by decide) rfl rfl ((a15, Own.ArrC Z .int [(iI 0), (iI 0), (iI 0)]) :: (a10, Own.ArrC Z .int [(iI 0), (iI 0), (iI 0)]) :: (a1, STo Z (.ref ra4) (.ref rb5) (iI 0)) :: (ra4, Own.ArrC Z .long (List.replicate 1024 (Value.long (0 : Int64)))) :: (rb5, Own.ArrC Z .int ((fl 1024).map Value.int)) :: (o0, PSo Z (.ref a1) (.ref a10) (.ref a15) .null (iI 0) .null .null (iI 0)) :: (ow, Own.ArrC Z .int [(.int w0), (.int w1), (.int w2)]) :: fr) rfl (hb hby d3_28) rfl ?_
  intro h18 O19
  refine Own.aloadN hx (.ref o0) (hb hby d3_31) rfl rfl rfl ?_
  refine Own.aloadN hx (.ref ow) (hb hby d3_32) rfl rfl rfl ?_
  refine Own.arrlen hx hZ O19 6 rfl (3 : Int32) rfl (hb hby d3_33) rfl ?_
  refine Own.newarr hx hZ O19 (aty := .int) (hw _ (wm 5 rfl)) 3 (by decide) [(.int (0 : Int32)), (.int (0 : Int32)), (.int (0 : Int32))] rfl rfl (cap := 3) (by decide) (by decide) (k' := 6) (n' := 2060) rfl rfl (by decide) (by decide) (hb hby d3_34) (pc' := 36) rfl ?_
  intro a20 h21 O22
  refine Own.putfield hx hZ hown O22 6 3 rfl rfl (hw _ (wm 43 rfl)) (Or.inr ⟨(hw _ (wm 44 rfl)), rfl, hnm⟩) (hw _ (wm 10 rfl)) (ty := (.array .int)) (by decide) rfl rfl ((a20, Own.ArrC Z .int [(iI 0), (iI 0), (iI 0)]) :: (a15, Own.ArrC Z .int [(iI 0), (iI 0), (iI 0)]) :: (a10, Own.ArrC Z .int [(iI 0), (iI 0), (iI 0)]) :: (a1, STo Z (.ref ra4) (.ref rb5) (iI 0)) :: (ra4, Own.ArrC Z .long (List.replicate 1024 (Value.long (0 : Int64)))) :: (rb5, Own.ArrC Z .int ((fl 1024).map Value.int)) :: (o0, PSo Z (.ref a1) (.ref a10) (.ref a15) (.ref a20) (iI 0) .null .null (iI 0)) :: (ow, Own.ArrC Z .int [(.int w0), (.int w1), (.int w2)]) :: fr) rfl (hb hby d3_36) rfl ?_
  intro h23 O24
  refine Own.iconst hx (0 : Int32) (hb hby d3_39) rfl (by decide) ?_
  refine Own.istoreN hx (0 : Int32) rfl #[.val (.ref o0), .val (.ref ow), .val (.int (0 : Int32)), .unset, .unset] (hb hby d3_40) rfl rfl ?_
  refine Own.iconst hx (0 : Int32) (hb hby d3_41) rfl (by decide) ?_
  refine Own.vI (0 : Nat).toInt32 rfl ?_
  refine Own.istoreN hx (0 : Nat).toInt32 rfl #[.val (.ref o0), .val (.ref ow), .val (.int (0 : Int32)), .val (.int (0 : Nat).toInt32), .unset] (hb hby d3_42) rfl rfl ?_
  refine Own.iconst hx (0 : Int32) (hb hby d3_43) rfl (by decide) ?_
  refine Own.istore hx (0 : Int32) rfl #[.val (.ref o0), .val (.ref ow), .val (.int (0 : Int32)), .val (.int (0 : Nat).toInt32), .val (.int (0 : Int32))] (hb hby d3_44) rfl rfl ?_
  refine Own.iload hx (0 : Int32) (hb hby d3_46) rfl rfl ?_
  refine Own.aloadN hx (.ref ow) (hb hby d3_48) rfl rfl rfl ?_
  refine Own.arrlen hx hZ O24 7 rfl (3 : Int32) rfl (hb hby d3_49) rfl ?_
  have hc25 : (0 : Int32) < (3 : Int32) := by decide
  refine Own.icmpFn hx (Own.q_ge (0 : Int32) (3 : Int32)) (hb hby d3_50) (pcN := 53) rfl (by decide) (pcT := 123) rfl (fun q => absurd hc25 q) (fun _ => ?_)
  refine Own.aloadN hx (.ref o0) (hb hby d3_53) rfl rfl rfl ?_
  refine Own.getfield hx hZ hown O24 6 3 rfl rfl (hw _ (wm 43 rfl)) (hb hby d3_54) rfl ?_
  refine Own.iload hx (0 : Int32) (hb hby d3_57) rfl rfl ?_
  refine Own.bipush hx (32 : Int32) (hb hby d3_59) rfl (by decide) ?_
  refine Own.aloadN hx (.ref ow) (hb hby d3_61) rfl rfl rfl ?_
  refine Own.iload hx (0 : Int32) (hb hby d3_62) rfl rfl ?_
  refine Own.iaload hx hZ O24 7 0 rfl (by decide) (v := (.int w0)) rfl (hb hby d3_64) rfl ?_
  refine Own.iconst hx (1 : Int32) (hb hby d3_65) rfl (by decide) ?_
  refine Own.isub hx (hb hby d3_66) rfl ?_
  refine Own.callS hx hZ hown (hw _ (wm 45 rfl)) (hw _ (wm 46 rfl)) (hw _ (wm 47 rfl)) (hw _ (wm 48 rfl)) (by decide) pd3 (argsL := [(.int (w0 - (1 : Int32)))]) (rest := [(.int (32 : Int32)), (.int (0 : Int32)), (.ref a20)]) rfl (W := 3) (Nat.le_of_eq rfl) (rm := ({ frames := 0, cells := 0, slots := 0, locals := 0 } : Room)) (by decide) (by decide) (by decide) (by decide) (k' := 6) (n' := 2060) rfl rfl (by rw [hml]; rfl) [(.int (w0 - (1 : Int32))), (.int (32 : Int32)), (.int (0 : Int32)), (.ref a20)] rfl (hb hby d3_67) (pc' := 70) rfl (rm8 l Z a0 hw (w0 - (1 : Int32)) h23 n0) ?_
  rintro _ h' ⟨rfl, eh⟩
  rw [eh]; clear eh h'
  show Own.Goes _ _ _ _ _ _ _ _ _ _ _ _ _ _ _ _ _ (mkF m 70 #[.val (.ref o0), .val (.ref ow), .val (.int (0 : Int32)), .val (.int (0 : Nat).toInt32), .val (.int (0 : Int32))] [(.int (nlz (w0 - (1 : Int32)))), (.int (32 : Int32)), (.int (0 : Int32)), (.ref a20)])
  refine Own.isub hx (hb hby d3_70) rfl ?_
  refine Own.vI b0.toInt32 eb0 ?_
  refine Own.iastore hx hZ O24 0 0 rfl (by decide) (by exact (show 0 < 3 by decide)) ((a20, Own.ArrC Z .int [(.int b0.toInt32), (iI 0), (iI 0)]) :: (a15, Own.ArrC Z .int [(iI 0), (iI 0), (iI 0)]) :: (a10, Own.ArrC Z .int [(iI 0), (iI 0), (iI 0)]) :: (a1, STo Z (.ref ra4) (.ref rb5) (iI 0)) :: (ra4, Own.ArrC Z .long (List.replicate 1024 (Value.long (0 : Int64)))) :: (rb5, Own.ArrC Z .int ((fl 1024).map Value.int)) :: (o0, PSo Z (.ref a1) (.ref a10) (.ref a15) (.ref a20) (iI 0) .null .null (iI 0)) :: (ow, Own.ArrC Z .int [(.int w0), (.int w1), (.int w2)]) :: fr) rfl (hb hby d3_71) rfl ?_
  intro h27 O28
  refine Own.iloadN hx (0 : Nat).toInt32 (hb hby d3_72) rfl rfl ?_
  refine Own.aloadN hx (.ref o0) (hb hby d3_73) rfl rfl rfl ?_
  refine Own.getfield hx hZ hown O28 6 3 rfl rfl (hw _ (wm 43 rfl)) (hb hby d3_74) rfl ?_
  refine Own.iload hx (0 : Int32) (hb hby d3_77) rfl rfl ?_
  refine Own.iaload hx hZ O28 0 0 rfl (by decide) (v := (.int b0.toInt32)) rfl (hb hby d3_79) rfl ?_
  refine Own.iadd hx (hb hby d3_80) rfl ?_
  refine Own.vI (0 + b0).toInt32 (own_add2 _ _) ?_
  refine Own.bipush hx (64 : Int32) (hb hby d3_81) rfl (by decide) ?_
  have hc29 : ¬ ((64 : Int32) < (0 + b0).toInt32) := own_le64 (by omega)
  refine Own.icmpFn hx (Own.q_le (0 + b0).toInt32 (64 : Int32)) (hb hby d3_83) (pcN := 86) rfl (by decide) (pcT := 91) rfl (fun _ => ?_) (fun q => absurd q hc29)
  refine Own.aloadN hx (.ref o0) (hb hby d3_91) rfl rfl rfl ?_
  refine Own.getfield hx hZ hown O28 6 1 rfl rfl (hw _ (wm 39 rfl)) (hb hby d3_92) rfl ?_
  refine Own.iload hx (0 : Int32) (hb hby d3_95) rfl rfl ?_
  refine Own.iloadN hx (0 : Int32) (hb hby d3_97) rfl rfl ?_
  refine Own.iastore hx hZ O28 2 0 rfl (by decide) (by exact (show 0 < 3 by decide)) ((a20, Own.ArrC Z .int [(.int b0.toInt32), (iI 0), (iI 0)]) :: (a15, Own.ArrC Z .int [(iI 0), (iI 0), (iI 0)]) :: (a10, Own.ArrC Z .int [(iI 0), (iI 0), (iI 0)]) :: (a1, STo Z (.ref ra4) (.ref rb5) (iI 0)) :: (ra4, Own.ArrC Z .long (List.replicate 1024 (Value.long (0 : Int64)))) :: (rb5, Own.ArrC Z .int ((fl 1024).map Value.int)) :: (o0, PSo Z (.ref a1) (.ref a10) (.ref a15) (.ref a20) (iI 0) .null .null (iI 0)) :: (ow, Own.ArrC Z .int [(.int w0), (.int w1), (.int w2)]) :: fr) rfl (hb hby d3_98) rfl ?_
  intro h31 O32
  refine Own.aloadN hx (.ref o0) (hb hby d3_99) rfl rfl rfl ?_
  refine Own.getfield hx hZ hown O32 6 2 rfl rfl (hw _ (wm 41 rfl)) (hb hby d3_100) rfl ?_
  refine Own.iload hx (0 : Int32) (hb hby d3_103) rfl rfl ?_
  refine Own.iloadN hx (0 : Nat).toInt32 (hb hby d3_105) rfl rfl ?_
  refine Own.iastore hx hZ O32 1 0 rfl (by decide) (by exact (show 0 < 3 by decide)) ((a20, Own.ArrC Z .int [(.int b0.toInt32), (iI 0), (iI 0)]) :: (a15, Own.ArrC Z .int [(.int (0 : Nat).toInt32), (iI 0), (iI 0)]) :: (a10, Own.ArrC Z .int [(iI 0), (iI 0), (iI 0)]) :: (a1, STo Z (.ref ra4) (.ref rb5) (iI 0)) :: (ra4, Own.ArrC Z .long (List.replicate 1024 (Value.long (0 : Int64)))) :: (rb5, Own.ArrC Z .int ((fl 1024).map Value.int)) :: (o0, PSo Z (.ref a1) (.ref a10) (.ref a15) (.ref a20) (iI 0) .null .null (iI 0)) :: (ow, Own.ArrC Z .int [(.int w0), (.int w1), (.int w2)]) :: fr) rfl (hb hby d3_106) rfl ?_
  intro h33 O34
  refine Own.iloadN hx (0 : Nat).toInt32 (hb hby d3_107) rfl rfl ?_
  refine Own.aloadN hx (.ref o0) (hb hby d3_108) rfl rfl rfl ?_
  refine Own.getfield hx hZ hown O34 6 3 rfl rfl (hw _ (wm 43 rfl)) (hb hby d3_109) rfl ?_
  refine Own.iload hx (0 : Int32) (hb hby d3_112) rfl rfl ?_
  refine Own.iaload hx hZ O34 0 0 rfl (by decide) (v := (.int b0.toInt32)) rfl (hb hby d3_114) rfl ?_
  refine Own.iadd hx (hb hby d3_115) rfl ?_
  refine Own.vI (0 + b0).toInt32 (own_add2 _ _) ?_
  refine Own.istoreN hx (0 + b0).toInt32 rfl #[.val (.ref o0), .val (.ref ow), .val (.int (0 : Int32)), .val (.int (0 + b0).toInt32), .val (.int (0 : Int32))] (hb hby d3_116) rfl rfl ?_
  refine Own.iinc hx (1 : Int32) #[.val (.ref o0), .val (.ref ow), .val (.int (0 : Int32)), .val (.int (0 + b0).toInt32), .val (.int (1 : Int32))] (hb hby d3_117) rfl rfl (by decide) rfl ?_
  refine Own.goto hx (hb hby d3_120) (by decide) (pc' := 46) rfl ?_
  refine Own.iload hx (1 : Int32) (hb hby d3_46) rfl rfl ?_
  refine Own.aloadN hx (.ref ow) (hb hby d3_48) rfl rfl rfl ?_
  refine Own.arrlen hx hZ O34 7 rfl (3 : Int32) rfl (hb hby d3_49) rfl ?_
  have hc35 : (1 : Int32) < (3 : Int32) := by decide
  refine Own.icmpFn hx (Own.q_ge (1 : Int32) (3 : Int32)) (hb hby d3_50) (pcN := 53) rfl (by decide) (pcT := 123) rfl (fun q => absurd hc35 q) (fun _ => ?_)
  refine Own.aloadN hx (.ref o0) (hb hby d3_53) rfl rfl rfl ?_
  refine Own.getfield hx hZ hown O34 6 3 rfl rfl (hw _ (wm 43 rfl)) (hb hby d3_54) rfl ?_
  refine Own.iload hx (1 : Int32) (hb hby d3_57) rfl rfl ?_
  refine Own.bipush hx (32 : Int32) (hb hby d3_59) rfl (by decide) ?_
  refine Own.aloadN hx (.ref ow) (hb hby d3_61) rfl rfl rfl ?_
  refine Own.iload hx (1 : Int32) (hb hby d3_62) rfl rfl ?_
  refine Own.iaload hx hZ O34 7 1 rfl (by decide) (v := (.int w1)) rfl (hb hby d3_64) rfl ?_
  refine Own.iconst hx (1 : Int32) (hb hby d3_65) rfl (by decide) ?_
  refine Own.isub hx (hb hby d3_66) rfl ?_
  refine Own.callS hx hZ hown (hw _ (wm 45 rfl)) (hw _ (wm 46 rfl)) (hw _ (wm 47 rfl)) (hw _ (wm 48 rfl)) (by decide) pd3 (argsL := [(.int (w1 - (1 : Int32)))]) (rest := [(.int (32 : Int32)), (.int (1 : Int32)), (.ref a20)]) rfl (W := 3) (Nat.le_of_eq rfl) (rm := ({ frames := 0, cells := 0, slots := 0, locals := 0 } : Room)) (by decide) (by decide) (by decide) (by decide) (k' := 6) (n' := 2060) rfl rfl (by rw [hml]; rfl) [(.int (w1 - (1 : Int32))), (.int (32 : Int32)), (.int (1 : Int32)), (.ref a20)] rfl (hb hby d3_67) (pc' := 70) rfl (rm8 l Z a0 hw (w1 - (1 : Int32)) h33 n0) ?_
  rintro _ h' ⟨rfl, eh⟩
  rw [eh]; clear eh h'
  show Own.Goes _ _ _ _ _ _ _ _ _ _ _ _ _ _ _ _ _ (mkF m 70 #[.val (.ref o0), .val (.ref ow), .val (.int (0 : Int32)), .val (.int (0 + b0).toInt32), .val (.int (1 : Int32))] [(.int (nlz (w1 - (1 : Int32)))), (.int (32 : Int32)), (.int (1 : Int32)), (.ref a20)])
  refine Own.isub hx (hb hby d3_70) rfl ?_
  refine Own.vI b1.toInt32 eb1 ?_
  refine Own.iastore hx hZ O34 0 1 rfl (by decide) (by exact (show 1 < 3 by decide)) ((a20, Own.ArrC Z .int [(.int b0.toInt32), (.int b1.toInt32), (iI 0)]) :: (a15, Own.ArrC Z .int [(.int (0 : Nat).toInt32), (iI 0), (iI 0)]) :: (a10, Own.ArrC Z .int [(iI 0), (iI 0), (iI 0)]) :: (a1, STo Z (.ref ra4) (.ref rb5) (iI 0)) :: (ra4, Own.ArrC Z .long (List.replicate 1024 (Value.long (0 : Int64)))) :: (rb5, Own.ArrC Z .int ((fl 1024).map Value.int)) :: (o0, PSo Z (.ref a1) (.ref a10) (.ref a15) (.ref a20) (iI 0) .null .null (iI 0)) :: (ow, Own.ArrC Z .int [(.int w0), (.int w1), (.int w2)]) :: fr) rfl (hb hby d3_71) rfl ?_
  intro h37 O38
  refine Own.iloadN hx (0 + b0).toInt32 (hb hby d3_72) rfl rfl ?_
  refine Own.aloadN hx (.ref o0) (hb hby d3_73) rfl rfl rfl ?_
  refine Own.getfield hx hZ hown O38 6 3 rfl rfl (hw _ (wm 43 rfl)) (hb hby d3_74) rfl ?_
  refine Own.iload hx (1 : Int32) (hb hby d3_77) rfl rfl ?_
  refine Own.iaload hx hZ O38 0 1 rfl (by decide) (v := (.int b1.toInt32)) rfl (hb hby d3_79) rfl ?_
  refine Own.iadd hx (hb hby d3_80) rfl ?_
  refine Own.vI (0 + b0 + b1).toInt32 (own_add2 _ _) ?_
  refine Own.bipush hx (64 : Int32) (hb hby d3_81) rfl (by decide) ?_
  have hc39 : ¬ ((64 : Int32) < (0 + b0 + b1).toInt32) := own_le64 (by omega)
  refine Own.icmpFn hx (Own.q_le (0 + b0 + b1).toInt32 (64 : Int32)) (hb hby d3_83) (pcN := 86) rfl (by decide) (pcT := 91) rfl (fun _ => ?_) (fun q => absurd q hc39)
  refine Own.aloadN hx (.ref o0) (hb hby d3_91) rfl rfl rfl ?_
  refine Own.getfield hx hZ hown O38 6 1 rfl rfl (hw _ (wm 39 rfl)) (hb hby d3_92) rfl ?_
  refine Own.iload hx (1 : Int32) (hb hby d3_95) rfl rfl ?_
  refine Own.iloadN hx (0 : Int32) (hb hby d3_97) rfl rfl ?_
  refine Own.iastore hx hZ O38 2 1 rfl (by decide) (by exact (show 1 < 3 by decide)) ((a20, Own.ArrC Z .int [(.int b0.toInt32), (.int b1.toInt32), (iI 0)]) :: (a15, Own.ArrC Z .int [(.int (0 : Nat).toInt32), (iI 0), (iI 0)]) :: (a10, Own.ArrC Z .int [(iI 0), (iI 0), (iI 0)]) :: (a1, STo Z (.ref ra4) (.ref rb5) (iI 0)) :: (ra4, Own.ArrC Z .long (List.replicate 1024 (Value.long (0 : Int64)))) :: (rb5, Own.ArrC Z .int ((fl 1024).map Value.int)) :: (o0, PSo Z (.ref a1) (.ref a10) (.ref a15) (.ref a20) (iI 0) .null .null (iI 0)) :: (ow, Own.ArrC Z .int [(.int w0), (.int w1), (.int w2)]) :: fr) rfl (hb hby d3_98) rfl ?_
  intro h41 O42
  refine Own.aloadN hx (.ref o0) (hb hby d3_99) rfl rfl rfl ?_
  refine Own.getfield hx hZ hown O42 6 2 rfl rfl (hw _ (wm 41 rfl)) (hb hby d3_100) rfl ?_
  refine Own.iload hx (1 : Int32) (hb hby d3_103) rfl rfl ?_
  refine Own.iloadN hx (0 + b0).toInt32 (hb hby d3_105) rfl rfl ?_
  refine Own.iastore hx hZ O42 1 1 rfl (by decide) (by exact (show 1 < 3 by decide)) ((a20, Own.ArrC Z .int [(.int b0.toInt32), (.int b1.toInt32), (iI 0)]) :: (a15, Own.ArrC Z .int [(.int (0 : Nat).toInt32), (.int (0 + b0).toInt32), (iI 0)]) :: (a10, Own.ArrC Z .int [(iI 0), (iI 0), (iI 0)]) :: (a1, STo Z (.ref ra4) (.ref rb5) (iI 0)) :: (ra4, Own.ArrC Z .long (List.replicate 1024 (Value.long (0 : Int64)))) :: (rb5, Own.ArrC Z .int ((fl 1024).map Value.int)) :: (o0, PSo Z (.ref a1) (.ref a10) (.ref a15) (.ref a20) (iI 0) .null .null (iI 0)) :: (ow, Own.ArrC Z .int [(.int w0), (.int w1), (.int w2)]) :: fr) rfl (hb hby d3_106) rfl ?_
  intro h43 O44
  refine Own.iloadN hx (0 + b0).toInt32 (hb hby d3_107) rfl rfl ?_
  refine Own.aloadN hx (.ref o0) (hb hby d3_108) rfl rfl rfl ?_
  refine Own.getfield hx hZ hown O44 6 3 rfl rfl (hw _ (wm 43 rfl)) (hb hby d3_109) rfl ?_
  refine Own.iload hx (1 : Int32) (hb hby d3_112) rfl rfl ?_
  refine Own.iaload hx hZ O44 0 1 rfl (by decide) (v := (.int b1.toInt32)) rfl (hb hby d3_114) rfl ?_
  refine Own.iadd hx (hb hby d3_115) rfl ?_
  refine Own.vI (0 + b0 + b1).toInt32 (own_add2 _ _) ?_
  refine Own.istoreN hx (0 + b0 + b1).toInt32 rfl #[.val (.ref o0), .val (.ref ow), .val (.int (0 : Int32)), .val (.int (0 + b0 + b1).toInt32), .val (.int (1 : Int32))] (hb hby d3_116) rfl rfl ?_
  refine Own.iinc hx (2 : Int32) #[.val (.ref o0), .val (.ref ow), .val (.int (0 : Int32)), .val (.int (0 + b0 + b1).toInt32), .val (.int (2 : Int32))] (hb hby d3_117) rfl rfl (by decide) rfl ?_
  refine Own.goto hx (hb hby d3_120) (by decide) (pc' := 46) rfl ?_
  refine Own.iload hx (2 : Int32) (hb hby d3_46) rfl rfl ?_
  refine Own.aloadN hx (.ref ow) (hb hby d3_48) rfl rfl rfl ?_
  refine Own.arrlen hx hZ O44 7 rfl (3 : Int32) rfl (hb hby d3_49) rfl ?_
  have hc45 : (2 : Int32) < (3 : Int32) := by decide
  refine Own.icmpFn hx (Own.q_ge (2 : Int32) (3 : Int32)) (hb hby d3_50) (pcN := 53) rfl (by decide) (pcT := 123) rfl (fun q => absurd hc45 q) (fun _ => ?_)
  refine Own.aloadN hx (.ref o0) (hb hby d3_53) rfl rfl rfl ?_
  refine Own.getfield hx hZ hown O44 6 3 rfl rfl (hw _ (wm 43 rfl)) (hb hby d3_54) rfl ?_
  refine Own.iload hx (2 : Int32) (hb hby d3_57) rfl rfl ?_
  refine Own.bipush hx (32 : Int32) (hb hby d3_59) rfl (by decide) ?_
  refine Own.aloadN hx (.ref ow) (hb hby d3_61) rfl rfl rfl ?_
  refine Own.iload hx (2 : Int32) (hb hby d3_62) rfl rfl ?_
  refine Own.iaload hx hZ O44 7 2 rfl (by decide) (v := (.int w2)) rfl (hb hby d3_64) rfl ?_
  refine Own.iconst hx (1 : Int32) (hb hby d3_65) rfl (by decide) ?_
  refine Own.isub hx (hb hby d3_66) rfl ?_
  refine Own.callS hx hZ hown (hw _ (wm 45 rfl)) (hw _ (wm 46 rfl)) (hw _ (wm 47 rfl)) (hw _ (wm 48 rfl)) (by decide) pd3 (argsL := [(.int (w2 - (1 : Int32)))]) (rest := [(.int (32 : Int32)), (.int (2 : Int32)), (.ref a20)]) rfl (W := 3) (Nat.le_of_eq rfl) (rm := ({ frames := 0, cells := 0, slots := 0, locals := 0 } : Room)) (by decide) (by decide) (by decide) (by decide) (k' := 6) (n' := 2060) rfl rfl (by rw [hml]; rfl) [(.int (w2 - (1 : Int32))), (.int (32 : Int32)), (.int (2 : Int32)), (.ref a20)] rfl (hb hby d3_67) (pc' := 70) rfl (rm8 l Z a0 hw (w2 - (1 : Int32)) h43 n0) ?_
  rintro _ h' ⟨rfl, eh⟩
  rw [eh]; clear eh h'
  show Own.Goes _ _ _ _ _ _ _ _ _ _ _ _ _ _ _ _ _ (mkF m 70 #[.val (.ref o0), .val (.ref ow), .val (.int (0 : Int32)), .val (.int (0 + b0 + b1).toInt32), .val (.int (2 : Int32))] [(.int (nlz (w2 - (1 : Int32)))), (.int (32 : Int32)), (.int (2 : Int32)), (.ref a20)])
  refine Own.isub hx (hb hby d3_70) rfl ?_
  refine Own.vI b2.toInt32 eb2 ?_
  refine Own.iastore hx hZ O44 0 2 rfl (by decide) (by exact (show 2 < 3 by decide)) ((a20, Own.ArrC Z .int [(.int b0.toInt32), (.int b1.toInt32), (.int b2.toInt32)]) :: (a15, Own.ArrC Z .int [(.int (0 : Nat).toInt32), (.int (0 + b0).toInt32), (iI 0)]) :: (a10, Own.ArrC Z .int [(iI 0), (iI 0), (iI 0)]) :: (a1, STo Z (.ref ra4) (.ref rb5) (iI 0)) :: (ra4, Own.ArrC Z .long (List.replicate 1024 (Value.long (0 : Int64)))) :: (rb5, Own.ArrC Z .int ((fl 1024).map Value.int)) :: (o0, PSo Z (.ref a1) (.ref a10) (.ref a15) (.ref a20) (iI 0) .null .null (iI 0)) :: (ow, Own.ArrC Z .int [(.int w0), (.int w1), (.int w2)]) :: fr) rfl (hb hby d3_71) rfl ?_
  intro h47 O48
  refine Own.iloadN hx (0 + b0 + b1).toInt32 (hb hby d3_72) rfl rfl ?_
  refine Own.aloadN hx (.ref o0) (hb hby d3_73) rfl rfl rfl ?_
  refine Own.getfield hx hZ hown O48 6 3 rfl rfl (hw _ (wm 43 rfl)) (hb hby d3_74) rfl ?_
  refine Own.iload hx (2 : Int32) (hb hby d3_77) rfl rfl ?_
  refine Own.iaload hx hZ O48 0 2 rfl (by decide) (v := (.int b2.toInt32)) rfl (hb hby d3_79) rfl ?_
  refine Own.iadd hx (hb hby d3_80) rfl ?_
  refine Own.vI (0 + b0 + b1 + b2).toInt32 (own_add2 _ _) ?_
  refine Own.bipush hx (64 : Int32) (hb hby d3_81) rfl (by decide) ?_
  have hc49 : (64 : Int32) < (0 + b0 + b1 + b2).toInt32 := own_gt64 hW (by omega)
  refine Own.icmpFn hx (Own.q_le (0 + b0 + b1 + b2).toInt32 (64 : Int32)) (hb hby d3_83) (pcN := 86) rfl (by decide) (pcT := 91) rfl (fun q => absurd hc49 q) (fun _ => ?_)
  refine Own.iinc hx (1 : Int32) #[.val (.ref o0), .val (.ref ow), .val (.int (1 : Int32)), .val (.int (0 + b0 + b1).toInt32), .val (.int (2 : Int32))] (hb hby d3_86) rfl rfl (by decide) rfl ?_
  refine Own.iconst hx (0 : Int32) (hb hby d3_89) rfl (by decide) ?_
  refine Own.vI (0 : Nat).toInt32 rfl ?_
  refine Own.istoreN hx (0 : Nat).toInt32 rfl #[.val (.ref o0), .val (.ref ow), .val (.int (1 : Int32)), .val (.int (0 : Nat).toInt32), .val (.int (2 : Int32))] (hb hby d3_90) rfl rfl ?_
  refine Own.aloadN hx (.ref o0) (hb hby d3_91) rfl rfl rfl ?_
  refine Own.getfield hx hZ hown O48 6 1 rfl rfl (hw _ (wm 39 rfl)) (hb hby d3_92) rfl ?_
  refine Own.iload hx (2 : Int32) (hb hby d3_95) rfl rfl ?_
  refine Own.iloadN hx (1 : Int32) (hb hby d3_97) rfl rfl ?_
  refine Own.iastore hx hZ O48 2 2 rfl (by decide) (by exact (show 2 < 3 by decide)) ((a20, Own.ArrC Z .int [(.int b0.toInt32), (.int b1.toInt32), (.int b2.toInt32)]) :: (a15, Own.ArrC Z .int [(.int (0 : Nat).toInt32), (.int (0 + b0).toInt32), (iI 0)]) :: (a10, Own.ArrC Z .int [(iI 0), (iI 0), (iI 1)]) :: (a1, STo Z (.ref ra4) (.ref rb5) (iI 0)) :: (ra4, Own.ArrC Z .long (List.replicate 1024 (Value.long (0 : Int64)))) :: (rb5, Own.ArrC Z .int ((fl 1024).map Value.int)) :: (o0, PSo Z (.ref a1) (.ref a10) (.ref a15) (.ref a20) (iI 0) .null .null (iI 0)) :: (ow, Own.ArrC Z .int [(.int w0), (.int w1), (.int w2)]) :: fr) rfl (hb hby d3_98) rfl ?_
  intro h51 O52
  refine Own.aloadN hx (.ref o0) (hb hby d3_99) rfl rfl rfl ?_
  refine Own.getfield hx hZ hown O52 6 2 rfl rfl (hw _ (wm 41 rfl)) (hb hby d3_100) rfl ?_
  refine Own.iload hx (2 : Int32) (hb hby d3_103) rfl rfl ?_
  refine Own.iloadN hx (0 : Nat).toInt32 (hb hby d3_105) rfl rfl ?_
  refine Own.iastore hx hZ O52 1 2 rfl (by decide) (by exact (show 2 < 3 by decide)) ((a20, Own.ArrC Z .int [(.int b0.toInt32), (.int b1.toInt32), (.int b2.toInt32)]) :: (a15, Own.ArrC Z .int [(.int (0 : Nat).toInt32), (.int (0 + b0).toInt32), (.int (0 : Nat).toInt32)]) :: (a10, Own.ArrC Z .int [(iI 0), (iI 0), (iI 1)]) :: (a1, STo Z (.ref ra4) (.ref rb5) (iI 0)) :: (ra4, Own.ArrC Z .long (List.replicate 1024 (Value.long (0 : Int64)))) :: (rb5, Own.ArrC Z .int ((fl 1024).map Value.int)) :: (o0, PSo Z (.ref a1) (.ref a10) (.ref a15) (.ref a20) (iI 0) .null .null (iI 0)) :: (ow, Own.ArrC Z .int [(.int w0), (.int w1), (.int w2)]) :: fr) rfl (hb hby d3_106) rfl ?_
  intro h53 O54
  refine Own.iloadN hx (0 : Nat).toInt32 (hb hby d3_107) rfl rfl ?_
  refine Own.aloadN hx (.ref o0) (hb hby d3_108) rfl rfl rfl ?_
  refine Own.getfield hx hZ hown O54 6 3 rfl rfl (hw _ (wm 43 rfl)) (hb hby d3_109) rfl ?_
  refine Own.iload hx (2 : Int32) (hb hby d3_112) rfl rfl ?_
  refine Own.iaload hx hZ O54 0 2 rfl (by decide) (v := (.int b2.toInt32)) rfl (hb hby d3_114) rfl ?_
  refine Own.iadd hx (hb hby d3_115) rfl ?_
  refine Own.vI (0 + b2).toInt32 (own_add2 _ _) ?_
  refine Own.istoreN hx (0 + b2).toInt32 rfl #[.val (.ref o0), .val (.ref ow), .val (.int (1 : Int32)), .val (.int (0 + b2).toInt32), .val (.int (2 : Int32))] (hb hby d3_116) rfl rfl ?_
  refine Own.iinc hx (3 : Int32) #[.val (.ref o0), .val (.ref ow), .val (.int (1 : Int32)), .val (.int (0 + b2).toInt32), .val (.int (3 : Int32))] (hb hby d3_117) rfl rfl (by decide) rfl ?_
  refine Own.goto hx (hb hby d3_120) (by decide) (pc' := 46) rfl ?_
  refine Own.iload hx (3 : Int32) (hb hby d3_46) rfl rfl ?_
  refine Own.aloadN hx (.ref ow) (hb hby d3_48) rfl rfl rfl ?_
  refine Own.arrlen hx hZ O54 7 rfl (3 : Int32) rfl (hb hby d3_49) rfl ?_
  have hc55 : ¬ ((3 : Int32) < (3 : Int32)) := by decide
  refine Own.icmpFn hx (Own.q_ge (3 : Int32) (3 : Int32)) (hb hby d3_50) (pcN := 53) rfl (by decide) (pcT := 123) rfl (fun _ => ?_) (fun q => absurd q hc55)
  refine Own.aloadN hx (.ref o0) (hb hby d3_123) rfl rfl rfl ?_
  refine Own.iloadN hx (1 : Int32) (hb hby d3_124) rfl rfl ?_
  refine Own.iconst hx (1 : Int32) (hb hby d3_125) rfl (by decide) ?_
  refine Own.iadd hx (hb hby d3_126) rfl ?_
  refine Own.vI (2 : Int32) (by decide) ?_
  refine Own.putfield hx hZ hown O54 6 4 rfl rfl (hw _ (wm 50 rfl)) (Or.inr ⟨(hw _ (wm 51 rfl)), rfl, hnm⟩) (hw _ (wm 10 rfl)) (ty := .int) (by decide) rfl rfl ((a20, Own.ArrC Z .int [(.int b0.toInt32), (.int b1.toInt32), (.int b2.toInt32)]) :: (a15, Own.ArrC Z .int [(.int (0 : Nat).toInt32), (.int (0 + b0).toInt32), (.int (0 : Nat).toInt32)]) :: (a10, Own.ArrC Z .int [(iI 0), (iI 0), (iI 1)]) :: (a1, STo Z (.ref ra4) (.ref rb5) (iI 0)) :: (ra4, Own.ArrC Z .long (List.replicate 1024 (Value.long (0 : Int64)))) :: (rb5, Own.ArrC Z .int ((fl 1024).map Value.int)) :: (o0, PSo Z (.ref a1) (.ref a10) (.ref a15) (.ref a20) (iI 2) .null .null (iI 0)) :: (ow, Own.ArrC Z .int [(.int w0), (.int w1), (.int w2)]) :: fr) rfl (hb hby d3_127) rfl ?_
  intro h57 O58
  refine Own.aloadN hx (.ref o0) (hb hby d3_130) rfl rfl rfl ?_
  refine Own.aloadN hx (.ref o0) (hb hby d3_131) rfl rfl rfl ?_
  refine Own.getfield hx hZ hown O58 6 4 rfl rfl (hw _ (wm 50 rfl)) (hb hby d3_132) rfl ?_
  refine Own.newarr hx hZ O58 (aty := .long) (hw _ (wm 25 rfl)) 2 (by decide) [(.long (0 : Int64)), (.long (0 : Int64))] rfl rfl (cap := 2) (by decide) (by decide) (k' := 7) (n' := 2062) rfl rfl (by decide) (by decide) (hb hby d3_135) (pc' := 137) rfl ?_
  intro a59 h60 O61
  refine Own.putfield hx hZ hown O61 7 5 rfl rfl (hw _ (wm 52 rfl)) (Or.inr ⟨(hw _ (wm 53 rfl)), rfl, hnm⟩) (hw _ (wm 10 rfl)) (ty := (.array .long)) (by decide) rfl rfl ((a59, Own.ArrC Z .long [(jJ 0), (jJ 0)]) :: (a20, Own.ArrC Z .int [(.int b0.toInt32), (.int b1.toInt32), (.int b2.toInt32)]) :: (a15, Own.ArrC Z .int [(.int (0 : Nat).toInt32), (.int (0 + b0).toInt32), (.int (0 : Nat).toInt32)]) :: (a10, Own.ArrC Z .int [(iI 0), (iI 0), (iI 1)]) :: (a1, STo Z (.ref ra4) (.ref rb5) (iI 0)) :: (ra4, Own.ArrC Z .long (List.replicate 1024 (Value.long (0 : Int64)))) :: (rb5, Own.ArrC Z .int ((fl 1024).map Value.int)) :: (o0, PSo Z (.ref a1) (.ref a10) (.ref a15) (.ref a20) (iI 2) (.ref a59) .null (iI 0)) :: (ow, Own.ArrC Z .int [(.int w0), (.int w1), (.int w2)]) :: fr) rfl (hb hby d3_137) rfl ?_
  intro h62 O63
  refine Own.aloadN hx (.ref o0) (hb hby d3_140) rfl rfl rfl ?_
  refine Own.bipush hx (64 : Int32) (hb hby d3_141) rfl (by decide) ?_
  refine Own.aloadN hx (.ref o0) (hb hby d3_143) rfl rfl rfl ?_
  refine Own.getfield hx hZ hown O63 7 4 rfl rfl (hw _ (wm 50 rfl)) (hb hby d3_144) rfl ?_
  refine Own.imul hx (hb hby d3_147) rfl ?_
  refine Own.vI (128 : Int32) (by decide) ?_
  refine Own.newarr hx hZ O63 (aty := .long) (hw _ (wm 25 rfl)) 128 (by decide) (List.replicate 128 (Value.long (0 : Int64))) rfl rfl (cap := 128) (by decide) (by decide) (k' := 8) (n' := 2190) rfl rfl (by decide) (by decide) (hb hby d3_148) (pc' := 150) rfl ?_
  intro a64 h65 O66
  refine Own.putfield hx hZ hown O66 8 6 rfl rfl (hw _ (wm 54 rfl)) (Or.inl (hw _ (wm 55 rfl))) (hw _ (wm 10 rfl)) (ty := (.array .long)) (by decide) rfl rfl ((a64, Own.ArrC Z .long (List.replicate 128 (Value.long (0 : Int64)))) :: (a59, Own.ArrC Z .long [(jJ 0), (jJ 0)]) :: (a20, Own.ArrC Z .int [(.int b0.toInt32), (.int b1.toInt32), (.int b2.toInt32)]) :: (a15, Own.ArrC Z .int [(.int (0 : Nat).toInt32), (.int (0 + b0).toInt32), (.int (0 : Nat).toInt32)]) :: (a10, Own.ArrC Z .int [(iI 0), (iI 0), (iI 1)]) :: (a1, STo Z (.ref ra4) (.ref rb5) (iI 0)) :: (ra4, Own.ArrC Z .long (List.replicate 1024 (Value.long (0 : Int64)))) :: (rb5, Own.ArrC Z .int ((fl 1024).map Value.int)) :: (o0, PSo Z (.ref a1) (.ref a10) (.ref a15) (.ref a20) (iI 2) (.ref a59) (.ref a64) (iI 0)) :: (ow, Own.ArrC Z .int [(.int w0), (.int w1), (.int w2)]) :: fr) rfl (hb hby d3_150) rfl ?_
  intro h67 O68
  have O69 : Own.Owns n0 h67 ((ow, Own.ArrC Z .int [(.int w0), (.int w1), (.int w2)]) :: (a64, Own.ArrC Z .long (List.replicate 128 (Value.long (0 : Int64)))) :: (a59, Own.ArrC Z .long [(jJ 0), (jJ 0)]) :: (a20, Own.ArrC Z .int [(.int b0.toInt32), (.int b1.toInt32), (.int b2.toInt32)]) :: (a15, Own.ArrC Z .int [(.int (0 : Nat).toInt32), (.int (0 + b0).toInt32), (.int (0 : Nat).toInt32)]) :: (a10, Own.ArrC Z .int [(iI 0), (iI 0), (iI 1)]) :: (a1, STo Z (.ref ra4) (.ref rb5) (iI 0)) :: (ra4, Own.ArrC Z .long (List.replicate 1024 (Value.long (0 : Int64)))) :: (rb5, Own.ArrC Z .int ((fl 1024).map Value.int)) :: (o0, PSo Z (.ref a1) (.ref a10) (.ref a15) (.ref a20) (iI 2) (.ref a59) (.ref a64) (iI 0)) :: fr) := O68.pick 9 rfl
  have O70 : Own.Owns n0 h67 ((a20, Own.ArrC Z .int [(.int b0.toInt32), (.int b1.toInt32), (.int b2.toInt32)]) :: (ow, Own.ArrC Z .int [(.int w0), (.int w1), (.int w2)]) :: (a64, Own.ArrC Z .long (List.replicate 128 (Value.long (0 : Int64)))) :: (a59, Own.ArrC Z .long [(jJ 0), (jJ 0)]) :: (a15, Own.ArrC Z .int [(.int (0 : Nat).toInt32), (.int (0 + b0).toInt32), (.int (0 : Nat).toInt32)]) :: (a10, Own.ArrC Z .int [(iI 0), (iI 0), (iI 1)]) :: (a1, STo Z (.ref ra4) (.ref rb5) (iI 0)) :: (ra4, Own.ArrC Z .long (List.replicate 1024 (Value.long (0 : Int64)))) :: (rb5, Own.ArrC Z .int ((fl 1024).map Value.int)) :: (o0, PSo Z (.ref a1) (.ref a10) (.ref a15) (.ref a20) (iI 2) (.ref a59) (.ref a64) (iI 0)) :: fr) := O69.pick 3 rfl
  have O71 : Own.Owns n0 h67 ((rb5, Own.ArrC Z .int ((fl 1024).map Value.int)) :: (a20, Own.ArrC Z .int [(.int b0.toInt32), (.int b1.toInt32), (.int b2.toInt32)]) :: (ow, Own.ArrC Z .int [(.int w0), (.int w1), (.int w2)]) :: (a64, Own.ArrC Z .long (List.replicate 128 (Value.long (0 : Int64)))) :: (a59, Own.ArrC Z .long [(jJ 0), (jJ 0)]) :: (a15, Own.ArrC Z .int [(.int (0 : Nat).toInt32), (.int (0 + b0).toInt32), (.int (0 : Nat).toInt32)]) :: (a10, Own.ArrC Z .int [(iI 0), (iI 0), (iI 1)]) :: (a1, STo Z (.ref ra4) (.ref rb5) (iI 0)) :: (ra4, Own.ArrC Z .long (List.replicate 1024 (Value.long (0 : Int64)))) :: (o0, PSo Z (.ref a1) (.ref a10) (.ref a15) (.ref a20) (iI 2) (.ref a59) (.ref a64) (iI 0)) :: fr) := O70.pick 8 rfl
  have O72 : Own.Owns n0 h67 ((ra4, Own.ArrC Z .long (List.replicate 1024 (Value.long (0 : Int64)))) :: (rb5, Own.ArrC Z .int ((fl 1024).map Value.int)) :: (a20, Own.ArrC Z .int [(.int b0.toInt32), (.int b1.toInt32), (.int b2.toInt32)]) :: (ow, Own.ArrC Z .int [(.int w0), (.int w1), (.int w2)]) :: (a64, Own.ArrC Z .long (List.replicate 128 (Value.long (0 : Int64)))) :: (a59, Own.ArrC Z .long [(jJ 0), (jJ 0)]) :: (a15, Own.ArrC Z .int [(.int (0 : Nat).toInt32), (.int (0 + b0).toInt32), (.int (0 : Nat).toInt32)]) :: (a10, Own.ArrC Z .int [(iI 0), (iI 0), (iI 1)]) :: (a1, STo Z (.ref ra4) (.ref rb5) (iI 0)) :: (o0, PSo Z (.ref a1) (.ref a10) (.ref a15) (.ref a20) (iI 2) (.ref a59) (.ref a64) (iI 0)) :: fr) := O71.pick 8 rfl
  have O73 : Own.Owns n0 h67 ((a1, STo Z (.ref ra4) (.ref rb5) (iI 0)) :: (ra4, Own.ArrC Z .long (List.replicate 1024 (Value.long (0 : Int64)))) :: (rb5, Own.ArrC Z .int ((fl 1024).map Value.int)) :: (a20, Own.ArrC Z .int [(.int b0.toInt32), (.int b1.toInt32), (.int b2.toInt32)]) :: (ow, Own.ArrC Z .int [(.int w0), (.int w1), (.int w2)]) :: (a64, Own.ArrC Z .long (List.replicate 128 (Value.long (0 : Int64)))) :: (a59, Own.ArrC Z .long [(jJ 0), (jJ 0)]) :: (a15, Own.ArrC Z .int [(.int (0 : Nat).toInt32), (.int (0 + b0).toInt32), (.int (0 : Nat).toInt32)]) :: (a10, Own.ArrC Z .int [(iI 0), (iI 0), (iI 1)]) :: (o0, PSo Z (.ref a1) (.ref a10) (.ref a15) (.ref a20) (iI 2) (.ref a59) (.ref a64) (iI 0)) :: fr) := O72.pick 8 rfl
  have O74 : Own.Owns n0 h67 ((a64, Own.ArrC Z .long (List.replicate 128 (Value.long (0 : Int64)))) :: (a1, STo Z (.ref ra4) (.ref rb5) (iI 0)) :: (ra4, Own.ArrC Z .long (List.replicate 1024 (Value.long (0 : Int64)))) :: (rb5, Own.ArrC Z .int ((fl 1024).map Value.int)) :: (a20, Own.ArrC Z .int [(.int b0.toInt32), (.int b1.toInt32), (.int b2.toInt32)]) :: (ow, Own.ArrC Z .int [(.int w0), (.int w1), (.int w2)]) :: (a59, Own.ArrC Z .long [(jJ 0), (jJ 0)]) :: (a15, Own.ArrC Z .int [(.int (0 : Nat).toInt32), (.int (0 + b0).toInt32), (.int (0 : Nat).toInt32)]) :: (a10, Own.ArrC Z .int [(iI 0), (iI 0), (iI 1)]) :: (o0, PSo Z (.ref a1) (.ref a10) (.ref a15) (.ref a20) (iI 2) (.ref a59) (.ref a64) (iI 0)) :: fr) := O73.pick 5 rfl
  have O75 : Own.Owns n0 h67 ((a15, Own.ArrC Z .int [(.int (0 : Nat).toInt32), (.int (0 + b0).toInt32), (.int (0 : Nat).toInt32)]) :: (a64, Own.ArrC Z .long (List.replicate 128 (Value.long (0 : Int64)))) :: (a1, STo Z (.ref ra4) (.ref rb5) (iI 0)) :: (ra4, Own.ArrC Z .long (List.replicate 1024 (Value.long (0 : Int64)))) :: (rb5, Own.ArrC Z .int ((fl 1024).map Value.int)) :: (a20, Own.ArrC Z .int [(.int b0.toInt32), (.int b1.toInt32), (.int b2.toInt32)]) :: (ow, Own.ArrC Z .int [(.int w0), (.int w1), (.int w2)]) :: (a59, Own.ArrC Z .long [(jJ 0), (jJ 0)]) :: (a10, Own.ArrC Z .int [(iI 0), (iI 0), (iI 1)]) :: (o0, PSo Z (.ref a1) (.ref a10) (.ref a15) (.ref a20) (iI 2) (.ref a59) (.ref a64) (iI 0)) :: fr) := O74.pick 7 rfl
  have O76 : Own.Owns n0 h67 ((a10, Own.ArrC Z .int [(iI 0), (iI 0), (iI 1)]) :: (a15, Own.ArrC Z .int [(.int (0 : Nat).toInt32), (.int (0 + b0).toInt32), (.int (0 : Nat).toInt32)]) :: (a64, Own.ArrC Z .long (List.replicate 128 (Value.long (0 : Int64)))) :: (a1, STo Z (.ref ra4) (.ref rb5) (iI 0)) :: (ra4, Own.ArrC Z .long (List.replicate 1024 (Value.long (0 : Int64)))) :: (rb5, Own.ArrC Z .int ((fl 1024).map Value.int)) :: (a20, Own.ArrC Z .int [(.int b0.toInt32), (.int b1.toInt32), (.int b2.toInt32)]) :: (ow, Own.ArrC Z .int [(.int w0), (.int w1), (.int w2)]) :: (a59, Own.ArrC Z .long [(jJ 0), (jJ 0)]) :: (o0, PSo Z (.ref a1) (.ref a10) (.ref a15) (.ref a20) (iI 2) (.ref a59) (.ref a64) (iI 0)) :: fr) := O75.pick 8 rfl
  have O77 : Own.Owns n0 h67 ((a59, Own.ArrC Z .long [(jJ 0), (jJ 0)]) :: (a10, Own.ArrC Z .int [(iI 0), (iI 0), (iI 1)]) :: (a15, Own.ArrC Z .int [(.int (0 : Nat).toInt32), (.int (0 + b0).toInt32), (.int (0 : Nat).toInt32)]) :: (a64, Own.ArrC Z .long (List.replicate 128 (Value.long (0 : Int64)))) :: (a1, STo Z (.ref ra4) (.ref rb5) (iI 0)) :: (ra4, Own.ArrC Z .long (List.replicate 1024 (Value.long (0 : Int64)))) :: (rb5, Own.ArrC Z .int ((fl 1024).map Value.int)) :: (a20, Own.ArrC Z .int [(.int b0.toInt32), (.int b1.toInt32), (.int b2.toInt32)]) :: (ow, Own.ArrC Z .int [(.int w0), (.int w1), (.int w2)]) :: (o0, PSo Z (.ref a1) (.ref a10) (.ref a15) (.ref a20) (iI 2) (.ref a59) (.ref a64) (iI 0)) :: fr) := O76.pick 8 rfl
  have O78 : Own.Owns n0 h67 ((o0, PSo Z (.ref a1) (.ref a10) (.ref a15) (.ref a20) (iI 2) (.ref a59) (.ref a64) (iI 0)) :: (a59, Own.ArrC Z .long [(jJ 0), (jJ 0)]) :: (a10, Own.ArrC Z .int [(iI 0), (iI 0), (iI 1)]) :: (a15, Own.ArrC Z .int [(.int (0 : Nat).toInt32), (.int (0 + b0).toInt32), (.int (0 : Nat).toInt32)]) :: (a64, Own.ArrC Z .long (List.replicate 128 (Value.long (0 : Int64)))) :: (a1, STo Z (.ref ra4) (.ref rb5) (iI 0)) :: (ra4, Own.ArrC Z .long (List.replicate 1024 (Value.long (0 : Int64)))) :: (rb5, Own.ArrC Z .int ((fl 1024).map Value.int)) :: (a20, Own.ArrC Z .int [(.int b0.toInt32), (.int b1.toInt32), (.int b2.toInt32)]) :: (ow, Own.ArrC Z .int [(.int w0), (.int w1), (.int w2)]) :: fr) := O77.pick 9 rfl
  exact Own.retV hx hret hlk (hb hby d3_153) (by decide) (by decide) ⟨a1, ra4, rb5, a10, a15, a20, a59, a64, rfl, O78⟩

theorem d11_0 : decode jdk_65_method_101_code 0 = .ok (.iconst 0, 1) := by decide +kernel
theorem d11_1 : decode jdk_65_method_101_code 1 = .ok (.istore_n 3, 1) := by decide +kernel
theorem d11_2 : decode jdk_65_method_101_code 2 = .ok (.aload_n 0, 1) := by decide +kernel
theorem d11_3 : decode jdk_65_method_101_code 3 = .ok (.arraylength, 1) := by decide +kernel
theorem d11_4 : decode jdk_65_method_101_code 4 = .ok (.istore 4, 2) := by decide +kernel
theorem d11_6 : decode jdk_65_method_101_code 6 = .ok (.iload_n 3, 1) := by decide +kernel
theorem d11_7 : decode jdk_65_method_101_code 7 = .ok (.iload 4, 2) := by decide +kernel
theorem d11_9 : decode jdk_65_method_101_code 9 = .ok (.if_icmp .ge 13, 3) := by decide +kernel
theorem d11_12 : decode jdk_65_method_101_code 12 = .ok (.aload_n 0, 1) := by decide +kernel
theorem d11_13 : decode jdk_65_method_101_code 13 = .ok (.iload_n 3, 1) := by decide +kernel
theorem d11_14 : decode jdk_65_method_101_code 14 = .ok (.lload_n 1, 1) := by decide +kernel
theorem d11_15 : decode jdk_65_method_101_code 15 = .ok (.lastore, 1) := by decide +kernel
theorem d11_16 : decode jdk_65_method_101_code 16 = .ok (.iinc 3 1, 3) := by decide +kernel
theorem d11_19 : decode jdk_65_method_101_code 19 = .ok (.goto (-13), 3) := by decide +kernel
theorem d11_22 : decode jdk_65_method_101_code 22 = .ok (.return_, 1) := by decide +kernel
theorem pn8 : plainFor (⟨"java/util/Arrays", "fill", "([JJ)V"⟩ : MethodName) = true := by first | exact plainFor_of_name (by simp [plainName, overriddenIn]; done) | decide +kernel
theorem ef11_1 (m : MethodId) (x0 : Addr) (x1 : Int64) : entryFrame m #[(.ref x0), (.long x1)] 5 = mkF m 0 #[.val (.ref x0), .val (.long x1), .second, .unset, .unset] [] := by first | (simp [entryFrame, mkF, argsToLocals, Value.category]; done) | rfl
set_option maxRecDepth 65536 in
set_option maxHeartbeats 40000000 in
theorem rm11_1 (l : Launch) (Z : State) (a0 : Array Value) (hw : ∀ d ∈ tables_1, d.before a0 Z = true) (o0 : Addr) (h0 : Heap) (n0 : Nat)  (pv0 : Int64) (fr : List (Addr × (Cell → Prop))) (O0 : Own.Owns n0 h0 ((o0, Own.ArrC Z .long [(.long pv0)]) :: fr))  : Own.Does l (⟨"java/util/Arrays", "fill", "([JJ)V"⟩ : MethodName) jdk_65_method_101_code 5 none [] ({ frames := 0, cells := 0, slots := 0, locals := 0 } : Room) Z #[(.ref o0), (.long (0 : Int64))] h0 n0 (fun v h => v = none ∧ Own.Owns n0 h ((o0, Own.ArrC Z .long [(jJ 0)]) :: fr)) := by
  refine Own.doesOf pn8 ?_
  intro p e s m below meth c hx hby hml hret hlk hown hnm hZ
  refine Own.Goes.cast (ef11_1 m o0 (0 : Int64)) ?_
  refine Own.iconst hx (0 : Int32) (hb hby d11_0) rfl (by decide) ?_
  refine Own.istoreN hx (0 : Int32) rfl #[.val (.ref o0), .val (.long (0 : Int64)), .second, .val (.int (0 : Int32)), .unset] (hb hby d11_1) rfl rfl ?_
  refine Own.aloadN hx (.ref o0) (hb hby d11_2) rfl rfl rfl ?_
  refine Own.arrlen hx hZ O0 0 rfl (1 : Int32) rfl (hb hby d11_3) rfl ?_
  refine Own.istore hx (1 : Int32) rfl #[.val (.ref o0), .val (.long (0 : Int64)), .second, .val (.int (0 : Int32)), .val (.int (1 : Int32))] (hb hby d11_4) rfl rfl ?_
  refine Own.iloadN hx (0 : Int32) (hb hby d11_6) rfl rfl ?_
  refine Own.iload hx (1 : Int32) (hb hby d11_7) rfl rfl ?_
  have hc1 : (0 : Int32) < (1 : Int32) := by decide
  refine Own.icmpFn hx (Own.q_ge (0 : Int32) (1 : Int32)) (hb hby d11_9) (pcN := 12) rfl (by decide) (pcT := 22) rfl (fun q => absurd hc1 q) (fun _ => ?_)
  refine Own.aloadN hx (.ref o0) (hb hby d11_12) rfl rfl rfl ?_
  refine Own.iloadN hx (0 : Int32) (hb hby d11_13) rfl rfl ?_
  refine Own.lloadN hx (0 : Int64) (hb hby d11_14) rfl rfl ?_
  refine Own.lastore hx hZ O0 0 0 rfl (by decide) (by exact (show 0 < 1 by decide)) ((o0, Own.ArrC Z .long [(jJ 0)]) :: fr) rfl (hb hby d11_15) rfl ?_
  intro h3 O4
  refine Own.iinc hx (1 : Int32) #[.val (.ref o0), .val (.long (0 : Int64)), .second, .val (.int (1 : Int32)), .val (.int (1 : Int32))] (hb hby d11_16) rfl rfl (by decide) rfl ?_
  refine Own.goto hx (hb hby d11_19) (by decide) (pc' := 6) rfl ?_
  refine Own.iloadN hx (1 : Int32) (hb hby d11_6) rfl rfl ?_
  refine Own.iload hx (1 : Int32) (hb hby d11_7) rfl rfl ?_
  have hc5 : ¬ ((1 : Int32) < (1 : Int32)) := by decide
  refine Own.icmpFn hx (Own.q_ge (1 : Int32) (1 : Int32)) (hb hby d11_9) (pcN := 12) rfl (by decide) (pcT := 22) rfl (fun _ => ?_) (fun q => absurd q hc5)
  exact Own.retV hx hret hlk (hb hby d11_22) (by decide) (by decide) ⟨rfl, O4⟩

theorem pd4 : parseMethodDescriptor "([JJ)V" = some ⟨[(.array .long), .long], none⟩ := by decide +kernel
theorem d10_0 : decode prog_12_method_7_code 0 = .ok (.aload_n 0, 1) := by decide +kernel
theorem d10_1 : decode prog_12_method_7_code 1 = .ok (.getfield 38, 3) := by decide +kernel
theorem d10_4 : decode prog_12_method_7_code 4 = .ok (.lconst 0, 1) := by decide +kernel
theorem d10_5 : decode prog_12_method_7_code 5 = .ok (.invokestatic 80, 3) := by decide +kernel
theorem d10_8 : decode prog_12_method_7_code 8 = .ok (.iconst 0, 1) := by decide +kernel
theorem d10_9 : decode prog_12_method_7_code 9 = .ok (.istore_n 2, 1) := by decide +kernel
theorem d10_10 : decode prog_12_method_7_code 10 = .ok (.iload_n 2, 1) := by decide +kernel
theorem d10_11 : decode prog_12_method_7_code 11 = .ok (.aload_n 1, 1) := by decide +kernel
theorem d10_12 : decode prog_12_method_7_code 12 = .ok (.arraylength, 1) := by decide +kernel
theorem d10_13 : decode prog_12_method_7_code 13 = .ok (.if_icmp .ge 36, 3) := by decide +kernel
theorem d10_16 : decode prog_12_method_7_code 16 = .ok (.aload_n 0, 1) := by decide +kernel
theorem d10_17 : decode prog_12_method_7_code 17 = .ok (.getfield 38, 3) := by decide +kernel
theorem d10_20 : decode prog_12_method_7_code 20 = .ok (.aload_n 0, 1) := by decide +kernel
theorem d10_21 : decode prog_12_method_7_code 21 = .ok (.getfield 16, 3) := by decide +kernel
theorem d10_24 : decode prog_12_method_7_code 24 = .ok (.iload_n 2, 1) := by decide +kernel
theorem d10_25 : decode prog_12_method_7_code 25 = .ok (.iaload, 1) := by decide +kernel
theorem d10_26 : decode prog_12_method_7_code 26 = .ok (.dup2, 1) := by decide +kernel
theorem d10_27 : decode prog_12_method_7_code 27 = .ok (.laload, 1) := by decide +kernel
theorem d10_28 : decode prog_12_method_7_code 28 = .ok (.aload_n 1, 1) := by decide +kernel
theorem d10_29 : decode prog_12_method_7_code 29 = .ok (.iload_n 2, 1) := by decide +kernel
theorem d10_30 : decode prog_12_method_7_code 30 = .ok (.iaload, 1) := by decide +kernel
theorem d10_31 : decode prog_12_method_7_code 31 = .ok (.iconst 1, 1) := by decide +kernel
theorem d10_32 : decode prog_12_method_7_code 32 = .ok (.isub, 1) := by decide +kernel
theorem d10_33 : decode prog_12_method_7_code 33 = .ok (.i2l, 1) := by decide +kernel
theorem d10_34 : decode prog_12_method_7_code 34 = .ok (.aload_n 0, 1) := by decide +kernel
theorem d10_35 : decode prog_12_method_7_code 35 = .ok (.getfield 20, 3) := by decide +kernel
theorem d10_38 : decode prog_12_method_7_code 38 = .ok (.iload_n 2, 1) := by decide +kernel
theorem d10_39 : decode prog_12_method_7_code 39 = .ok (.iaload, 1) := by decide +kernel
theorem d10_40 : decode prog_12_method_7_code 40 = .ok (.lshl, 1) := by decide +kernel
theorem d10_41 : decode prog_12_method_7_code 41 = .ok (.lor, 1) := by decide +kernel
theorem d10_42 : decode prog_12_method_7_code 42 = .ok (.lastore, 1) := by decide +kernel
theorem d10_43 : decode prog_12_method_7_code 43 = .ok (.iinc 2 1, 3) := by decide +kernel
theorem d10_46 : decode prog_12_method_7_code 46 = .ok (.goto (-36), 3) := by decide +kernel
theorem d10_49 : decode prog_12_method_7_code 49 = .ok (.return_, 1) := by decide +kernel
theorem pn9 : plainFor (⟨"com/example/cuesheet/cuesheet/core/PackedStates", "pack", "([I)V"⟩ : MethodName) = true := by first | exact plainFor_of_name (by simp [plainName, overriddenIn]; done) | decide +kernel
theorem ef10_1 (m : MethodId) (x0 : Addr) (x1 : Addr) : entryFrame m #[(.ref x0), (.ref x1)] 3 = mkF m 0 #[.val (.ref x0), .val (.ref x1), .unset] [] := by first | (simp [entryFrame, mkF, argsToLocals, Value.category]; done) | rfl
set_option maxRecDepth 65536 in
set_option maxHeartbeats 40000000 in
theorem rm10_1 (l : Launch) (Z : State) (a0 : Array Value) (hw : ∀ d ∈ tables_1, d.before a0 Z = true) (o0 : Addr) (ox : Addr) (h0 : Heap) (n0 : Nat) (ot ra rb owd osh obt opk osd : Addr) (sz : Int32) (pv0 : Int64) (x0 x1 x2 : Int32) (s0 s1 s2 : Nat) (fr : List (Addr × (Cell → Prop))) (O0 : Own.Owns n0 h0 ((o0, PSo Z (.ref ot) (.ref owd) (.ref osh) (.ref obt) (iI 1) (.ref opk) (.ref osd) (.int sz)) :: (opk, Own.ArrC Z .long [(.long pv0)]) :: (owd, Own.ArrC Z .int [(iI 0), (iI 0), (iI 0)]) :: (osh, Own.ArrC Z .int [(.int s0.toInt32), (.int s1.toInt32), (.int s2.toInt32)]) :: (ox, Own.ArrC Z .int [(.int x0), (.int x1), (.int x2)]) :: fr))  : Own.Does l (⟨"com/example/cuesheet/cuesheet/core/PackedStates", "pack", "([I)V"⟩ : MethodName) prog_12_method_7_code 3 none [] ({ frames := 1, cells := 0, slots := 0, locals := 16 } : Room) Z #[(.ref o0), (.ref ox)] h0 n0 (fun v h => v = none ∧ Own.Owns n0 h ((o0, PSo Z (.ref ot) (.ref owd) (.ref osh) (.ref obt) (iI 1) (.ref opk) (.ref osd) (.int sz)) :: (opk, Own.ArrC Z .long [(.long (pkA x0 x1 x2 s0 s1 s2))]) :: (owd, Own.ArrC Z .int [(iI 0), (iI 0), (iI 0)]) :: (osh, Own.ArrC Z .int [(.int s0.toInt32), (.int s1.toInt32), (.int s2.toInt32)]) :: (ox, Own.ArrC Z .int [(.int x0), (.int x1), (.int x2)]) :: fr)) := by
  refine Own.doesOf pn9 ?_
  intro p e s m below meth c hx hby hml hret hlk hown hnm hZ
  refine Own.Goes.cast (ef10_1 m o0 ox) ?_
  refine Own.aloadN hx (.ref o0) (hb hby d10_0) rfl rfl rfl ?_
  refine Own.getfield hx hZ hown O0 0 5 rfl rfl (hw _ (wm 52 rfl)) (hb hby d10_1) rfl ?_
  refine Own.lconst hx (0 : Int64) (hb hby d10_4) rfl (by decide) ?_
  have O1 : Own.Owns n0 h0 ((opk, Own.ArrC Z .long [(.long pv0)]) :: (o0, PSo Z (.ref ot) (.ref owd) (.ref osh) (.ref obt) (iI 1) (.ref opk) (.ref osd) (.int sz)) :: (owd, Own.ArrC Z .int [(iI 0), (iI 0), (iI 0)]) :: (osh, Own.ArrC Z .int [(.int s0.toInt32), (.int s1.toInt32), (.int s2.toInt32)]) :: (ox, Own.ArrC Z .int [(.int x0), (.int x1), (.int x2)]) :: fr) := O0.pick 1 rfl
  refine Own.callS hx hZ hown (hw _ (wm 65 rfl)) (hw _ (wm 66 rfl)) (hw _ (wm 33 rfl)) (hw _ (wm 67 rfl)) (by decide) pd4 (argsL := [(.ref opk), (.long (0 : Int64))]) (rest := []) rfl (W := 0) (Nat.le_of_eq rfl) (rm := ({ frames := 0, cells := 0, slots := 0, locals := 0 } : Room)) (by decide) (by decide) (by decide) (by decide) (k' := 0) (n' := 0) rfl rfl (by rw [hml]; rfl) [(.long (0 : Int64)), (.ref opk)] rfl (hb hby d10_5) (pc' := 8) rfl (rm11_1 l Z a0 hw opk h0 n0 pv0 ((o0, PSo Z (.ref ot) (.ref owd) (.ref osh) (.ref obt) (iI 1) (.ref opk) (.ref osd) (.int sz)) :: (owd, Own.ArrC Z .int [(iI 0), (iI 0), (iI 0)]) :: (osh, Own.ArrC Z .int [(.int s0.toInt32), (.int s1.toInt32), (.int s2.toInt32)]) :: (ox, Own.ArrC Z .int [(.int x0), (.int x1), (.int x2)]) :: fr) O1) ?_
  rintro _ h2 ⟨rfl, O3⟩
  show Own.Goes _ _ _ _ _ _ _ _ _ _ _ _ _ _ _ _ _ (mkF m 8 #[.val (.ref o0), .val (.ref ox), .unset] [])
  refine Own.iconst hx (0 : Int32) (hb hby d10_8) rfl (by decide) ?_
  refine Own.istoreN hx (0 : Int32) rfl #[.val (.ref o0), .val (.ref ox), .val (.int (0 : Int32))] (hb hby d10_9) rfl rfl ?_
  refine Own.iloadN hx (0 : Int32) (hb hby d10_10) rfl rfl ?_
  refine Own.aloadN hx (.ref ox) (hb hby d10_11) rfl rfl rfl ?_
  refine Own.arrlen hx hZ O3 4 rfl (3 : Int32) rfl (hb hby d10_12) rfl ?_
  have hc4 : (0 : Int32) < (3 : Int32) := by decide
  refine Own.icmpFn hx (Own.q_ge (0 : Int32) (3 : Int32)) (hb hby d10_13) (pcN := 16) rfl (by decide) (pcT := 49) rfl (fun q => absurd hc4 q) (fun _ => ?_)
  refine Own.aloadN hx (.ref o0) (hb hby d10_16) rfl rfl rfl ?_
  refine Own.getfield hx hZ hown O3 1 5 rfl rfl (hw _ (wm 52 rfl)) (hb hby d10_17) rfl ?_
  refine Own.aloadN hx (.ref o0) (hb hby d10_20) rfl rfl rfl ?_
  refine Own.getfield hx hZ hown O3 1 1 rfl rfl (hw _ (wm 39 rfl)) (hb hby d10_21) rfl ?_
  refine Own.iloadN hx (0 : Int32) (hb hby d10_24) rfl rfl ?_
  refine Own.iaload hx hZ O3 2 0 rfl (by decide) (v := (.int (0 : Int32))) rfl (hb hby d10_25) rfl ?_
  refine Own.dup2 hx (hb hby d10_26) rfl rfl rfl ?_
  refine Own.laload hx hZ O3 0 0 rfl (by decide) (v := (.long (0 : Int64))) rfl (hb hby d10_27) rfl ?_
  refine Own.aloadN hx (.ref ox) (hb hby d10_28) rfl rfl rfl ?_
  refine Own.iloadN hx (0 : Int32) (hb hby d10_29) rfl rfl ?_
  refine Own.iaload hx hZ O3 4 0 rfl (by decide) (v := (.int x0)) rfl (hb hby d10_30) rfl ?_
  refine Own.iconst hx (1 : Int32) (hb hby d10_31) rfl (by decide) ?_
  refine Own.isub hx (hb hby d10_32) rfl ?_
  refine Own.i2l hx (hb hby d10_33) rfl ?_
  refine Own.aloadN hx (.ref o0) (hb hby d10_34) rfl rfl rfl ?_
  refine Own.getfield hx hZ hown O3 1 2 rfl rfl (hw _ (wm 41 rfl)) (hb hby d10_35) rfl ?_
  refine Own.iloadN hx (0 : Int32) (hb hby d10_38) rfl rfl ?_
  refine Own.iaload hx hZ O3 3 0 rfl (by decide) (v := (.int s0.toInt32)) rfl (hb hby d10_39) rfl ?_
  refine Own.lshl hx (hb hby d10_40) rfl ?_
  refine Own.lor hx (hb hby d10_41) rfl ?_
  refine Own.lastore hx hZ O3 0 0 rfl (by decide) (by exact (show 0 < 1 by decide)) ((opk, Own.ArrC Z .long [(.long ((0 : Int64) ||| ((x0 - (1 : Int32)).toInt64 <<< (s0.toInt32 &&& 0x3f).toInt64)))]) :: (o0, PSo Z (.ref ot) (.ref owd) (.ref osh) (.ref obt) (iI 1) (.ref opk) (.ref osd) (.int sz)) :: (owd, Own.ArrC Z .int [(iI 0), (iI 0), (iI 0)]) :: (osh, Own.ArrC Z .int [(.int s0.toInt32), (.int s1.toInt32), (.int s2.toInt32)]) :: (ox, Own.ArrC Z .int [(.int x0), (.int x1), (.int x2)]) :: fr) rfl (hb hby d10_42) rfl ?_
  intro h6 O7
  refine Own.iinc hx (1 : Int32) #[.val (.ref o0), .val (.ref ox), .val (.int (1 : Int32))] (hb hby d10_43) rfl rfl (by decide) rfl ?_
  refine Own.goto hx (hb hby d10_46) (by decide) (pc' := 10) rfl ?_
  refine Own.iloadN hx (1 : Int32) (hb hby d10_10) rfl rfl ?_
  refine Own.aloadN hx (.ref ox) (hb hby d10_11) rfl rfl rfl ?_
  refine Own.arrlen hx hZ O7 4 rfl (3 : Int32) rfl (hb hby d10_12) rfl ?_
  have hc8 : (1 : Int32) < (3 : Int32) := by decide
  refine Own.icmpFn hx (Own.q_ge (1 : Int32) (3 : Int32)) (hb hby d10_13) (pcN := 16) rfl (by decide) (pcT := 49) rfl (fun q => absurd hc8 q) (fun _ => ?_)
  refine Own.aloadN hx (.ref o0) (hb hby d10_16) rfl rfl rfl ?_
  refine Own.getfield hx hZ hown O7 1 5 rfl rfl (hw _ (wm 52 rfl)) (hb hby d10_17) rfl ?_
  refine Own.aloadN hx (.ref o0) (hb hby d10_20) rfl rfl rfl ?_
  refine Own.getfield hx hZ hown O7 1 1 rfl rfl (hw _ (wm 39 rfl)) (hb hby d10_21) rfl ?_
  refine Own.iloadN hx (1 : Int32) (hb hby d10_24) rfl rfl ?_
  refine Own.iaload hx hZ O7 2 1 rfl (by decide) (v := (.int (0 : Int32))) rfl (hb hby d10_25) rfl ?_
  refine Own.dup2 hx (hb hby d10_26) rfl rfl rfl ?_
  refine Own.laload hx hZ O7 0 0 rfl (by decide) (v := (.long ((0 : Int64) ||| ((x0 - (1 : Int32)).toInt64 <<< (s0.toInt32 &&& 0x3f).toInt64)))) rfl (hb hby d10_27) rfl ?_
  refine Own.aloadN hx (.ref ox) (hb hby d10_28) rfl rfl rfl ?_
  refine Own.iloadN hx (1 : Int32) (hb hby d10_29) rfl rfl ?_
  refine Own.iaload hx hZ O7 4 1 rfl (by decide) (v := (.int x1)) rfl (hb hby d10_30) rfl ?_
  refine Own.iconst hx (1 : Int32) (hb hby d10_31) rfl (by decide) ?_
  refine Own.isub hx (hb hby d10_32) rfl ?_
  refine Own.i2l hx (hb hby d10_33) rfl ?_
  refine Own.aloadN hx (.ref o0) (hb hby d10_34) rfl rfl rfl ?_
  refine Own.getfield hx hZ hown O7 1 2 rfl rfl (hw _ (wm 41 rfl)) (hb hby d10_35) rfl ?_
  refine Own.iloadN hx (1 : Int32) (hb hby d10_38) rfl rfl ?_
  refine Own.iaload hx hZ O7 3 1 rfl (by decide) (v := (.int s1.toInt32)) rfl (hb hby d10_39) rfl ?_
  refine Own.lshl hx (hb hby d10_40) rfl ?_
  refine Own.lor hx (hb hby d10_41) rfl ?_
  refine Own.lastore hx hZ O7 0 0 rfl (by decide) (by exact (show 0 < 1 by decide)) ((opk, Own.ArrC Z .long [(.long (((0 : Int64) ||| ((x0 - (1 : Int32)).toInt64 <<< (s0.toInt32 &&& 0x3f).toInt64)) ||| ((x1 - (1 : Int32)).toInt64 <<< (s1.toInt32 &&& 0x3f).toInt64)))]) :: (o0, PSo Z (.ref ot) (.ref owd) (.ref osh) (.ref obt) (iI 1) (.ref opk) (.ref osd) (.int sz)) :: (owd, Own.ArrC Z .int [(iI 0), (iI 0), (iI 0)]) :: (osh, Own.ArrC Z .int [(.int s0.toInt32), (.int s1.toInt32), (.int s2.toInt32)]) :: (ox, Own.ArrC Z .int [(.int x0), (.int x1), (.int x2)]) :: fr) rfl (hb hby d10_42) rfl ?_
  intro h10 O11
  refine Own.iinc hx (2 : Int32) #[.val (.ref o0), .val (.ref ox), .val (.int (2 : Int32))] (hb hby d10_43) rfl rfl (by decide) rfl ?_
  refine Own.goto hx (hb hby d10_46) (by decide) (pc' := 10) rfl ?_
  refine Own.iloadN hx (2 : Int32) (hb hby d10_10) rfl rfl ?_
  refine Own.aloadN hx (.ref ox) (hb hby d10_11) rfl rfl rfl ?_
  refine Own.arrlen hx hZ O11 4 rfl (3 : Int32) rfl (hb hby d10_12) rfl ?_
  have hc12 : (2 : Int32) < (3 : Int32) := by decide
  refine Own.icmpFn hx (Own.q_ge (2 : Int32) (3 : Int32)) (hb hby d10_13) (pcN := 16) rfl (by decide) (pcT := 49) rfl (fun q => absurd hc12 q) (fun _ => ?_)
  refine Own.aloadN hx (.ref o0) (hb hby d10_16) rfl rfl rfl ?_
  refine Own.getfield hx hZ hown O11 1 5 rfl rfl (hw _ (wm 52 rfl)) (hb hby d10_17) rfl ?_
  refine Own.aloadN hx (.ref o0) (hb hby d10_20) rfl rfl rfl ?_
  refine Own.getfield hx hZ hown O11 1 1 rfl rfl (hw _ (wm 39 rfl)) (hb hby d10_21) rfl ?_
  refine Own.iloadN hx (2 : Int32) (hb hby d10_24) rfl rfl ?_
  refine Own.iaload hx hZ O11 2 2 rfl (by decide) (v := (.int (0 : Int32))) rfl (hb hby d10_25) rfl ?_
  refine Own.dup2 hx (hb hby d10_26) rfl rfl rfl ?_
  refine Own.laload hx hZ O11 0 0 rfl (by decide) (v := (.long (((0 : Int64) ||| ((x0 - (1 : Int32)).toInt64 <<< (s0.toInt32 &&& 0x3f).toInt64)) ||| ((x1 - (1 : Int32)).toInt64 <<< (s1.toInt32 &&& 0x3f).toInt64)))) rfl (hb hby d10_27) rfl ?_
  refine Own.aloadN hx (.ref ox) (hb hby d10_28) rfl rfl rfl ?_
  refine Own.iloadN hx (2 : Int32) (hb hby d10_29) rfl rfl ?_
  refine Own.iaload hx hZ O11 4 2 rfl (by decide) (v := (.int x2)) rfl (hb hby d10_30) rfl ?_
  refine Own.iconst hx (1 : Int32) (hb hby d10_31) rfl (by decide) ?_
  refine Own.isub hx (hb hby d10_32) rfl ?_
  refine Own.i2l hx (hb hby d10_33) rfl ?_
  refine Own.aloadN hx (.ref o0) (hb hby d10_34) rfl rfl rfl ?_
  refine Own.getfield hx hZ hown O11 1 2 rfl rfl (hw _ (wm 41 rfl)) (hb hby d10_35) rfl ?_
  refine Own.iloadN hx (2 : Int32) (hb hby d10_38) rfl rfl ?_
  refine Own.iaload hx hZ O11 3 2 rfl (by decide) (v := (.int s2.toInt32)) rfl (hb hby d10_39) rfl ?_
  refine Own.lshl hx (hb hby d10_40) rfl ?_
  refine Own.lor hx (hb hby d10_41) rfl ?_
  refine Own.lastore hx hZ O11 0 0 rfl (by decide) (by exact (show 0 < 1 by decide)) ((opk, Own.ArrC Z .long [(.long ((((0 : Int64) ||| ((x0 - (1 : Int32)).toInt64 <<< (s0.toInt32 &&& 0x3f).toInt64)) ||| ((x1 - (1 : Int32)).toInt64 <<< (s1.toInt32 &&& 0x3f).toInt64)) ||| ((x2 - (1 : Int32)).toInt64 <<< (s2.toInt32 &&& 0x3f).toInt64)))]) :: (o0, PSo Z (.ref ot) (.ref owd) (.ref osh) (.ref obt) (iI 1) (.ref opk) (.ref osd) (.int sz)) :: (owd, Own.ArrC Z .int [(iI 0), (iI 0), (iI 0)]) :: (osh, Own.ArrC Z .int [(.int s0.toInt32), (.int s1.toInt32), (.int s2.toInt32)]) :: (ox, Own.ArrC Z .int [(.int x0), (.int x1), (.int x2)]) :: fr) rfl (hb hby d10_42) rfl ?_
  intro h14 O15
  refine Own.iinc hx (3 : Int32) #[.val (.ref o0), .val (.ref ox), .val (.int (3 : Int32))] (hb hby d10_43) rfl rfl (by decide) rfl ?_
  refine Own.goto hx (hb hby d10_46) (by decide) (pc' := 10) rfl ?_
  refine Own.iloadN hx (3 : Int32) (hb hby d10_10) rfl rfl ?_
  refine Own.aloadN hx (.ref ox) (hb hby d10_11) rfl rfl rfl ?_
  refine Own.arrlen hx hZ O15 4 rfl (3 : Int32) rfl (hb hby d10_12) rfl ?_
  have hc16 : ¬ ((3 : Int32) < (3 : Int32)) := by decide
  refine Own.icmpFn hx (Own.q_ge (3 : Int32) (3 : Int32)) (hb hby d10_13) (pcN := 16) rfl (by decide) (pcT := 49) rfl (fun _ => ?_) (fun q => absurd q hc16)
  have O18 : Own.Owns n0 h14 ((ox, Own.ArrC Z .int [(.int x0), (.int x1), (.int x2)]) :: (opk, Own.ArrC Z .long [(.long ((((0 : Int64) ||| ((x0 - (1 : Int32)).toInt64 <<< (s0.toInt32 &&& 0x3f).toInt64)) ||| ((x1 - (1 : Int32)).toInt64 <<< (s1.toInt32 &&& 0x3f).toInt64)) ||| ((x2 - (1 : Int32)).toInt64 <<< (s2.toInt32 &&& 0x3f).toInt64)))]) :: (o0, PSo Z (.ref ot) (.ref owd) (.ref osh) (.ref obt) (iI 1) (.ref opk) (.ref osd) (.int sz)) :: (owd, Own.ArrC Z .int [(iI 0), (iI 0), (iI 0)]) :: (osh, Own.ArrC Z .int [(.int s0.toInt32), (.int s1.toInt32), (.int s2.toInt32)]) :: fr) := O15.pick 4 rfl
  have O19 : Own.Owns n0 h14 ((osh, Own.ArrC Z .int [(.int s0.toInt32), (.int s1.toInt32), (.int s2.toInt32)]) :: (ox, Own.ArrC Z .int [(.int x0), (.int x1), (.int x2)]) :: (opk, Own.ArrC Z .long [(.long ((((0 : Int64) ||| ((x0 - (1 : Int32)).toInt64 <<< (s0.toInt32 &&& 0x3f).toInt64)) ||| ((x1 - (1 : Int32)).toInt64 <<< (s1.toInt32 &&& 0x3f).toInt64)) ||| ((x2 - (1 : Int32)).toInt64 <<< (s2.toInt32 &&& 0x3f).toInt64)))]) :: (o0, PSo Z (.ref ot) (.ref owd) (.ref osh) (.ref obt) (iI 1) (.ref opk) (.ref osd) (.int sz)) :: (owd, Own.ArrC Z .int [(iI 0), (iI 0), (iI 0)]) :: fr) := O18.pick 4 rfl
  have O20 : Own.Owns n0 h14 ((owd, Own.ArrC Z .int [(iI 0), (iI 0), (iI 0)]) :: (osh, Own.ArrC Z .int [(.int s0.toInt32), (.int s1.toInt32), (.int s2.toInt32)]) :: (ox, Own.ArrC Z .int [(.int x0), (.int x1), (.int x2)]) :: (opk, Own.ArrC Z .long [(.long ((((0 : Int64) ||| ((x0 - (1 : Int32)).toInt64 <<< (s0.toInt32 &&& 0x3f).toInt64)) ||| ((x1 - (1 : Int32)).toInt64 <<< (s1.toInt32 &&& 0x3f).toInt64)) ||| ((x2 - (1 : Int32)).toInt64 <<< (s2.toInt32 &&& 0x3f).toInt64)))]) :: (o0, PSo Z (.ref ot) (.ref owd) (.ref osh) (.ref obt) (iI 1) (.ref opk) (.ref osd) (.int sz)) :: fr) := O19.pick 4 rfl
  have O21 : Own.Owns n0 h14 ((opk, Own.ArrC Z .long [(.long ((((0 : Int64) ||| ((x0 - (1 : Int32)).toInt64 <<< (s0.toInt32 &&& 0x3f).toInt64)) ||| ((x1 - (1 : Int32)).toInt64 <<< (s1.toInt32 &&& 0x3f).toInt64)) ||| ((x2 - (1 : Int32)).toInt64 <<< (s2.toInt32 &&& 0x3f).toInt64)))]) :: (owd, Own.ArrC Z .int [(iI 0), (iI 0), (iI 0)]) :: (osh, Own.ArrC Z .int [(.int s0.toInt32), (.int s1.toInt32), (.int s2.toInt32)]) :: (ox, Own.ArrC Z .int [(.int x0), (.int x1), (.int x2)]) :: (o0, PSo Z (.ref ot) (.ref owd) (.ref osh) (.ref obt) (iI 1) (.ref opk) (.ref osd) (.int sz)) :: fr) := O20.pick 3 rfl
  have O22 : Own.Owns n0 h14 ((o0, PSo Z (.ref ot) (.ref owd) (.ref osh) (.ref obt) (iI 1) (.ref opk) (.ref osd) (.int sz)) :: (opk, Own.ArrC Z .long [(.long ((((0 : Int64) ||| ((x0 - (1 : Int32)).toInt64 <<< (s0.toInt32 &&& 0x3f).toInt64)) ||| ((x1 - (1 : Int32)).toInt64 <<< (s1.toInt32 &&& 0x3f).toInt64)) ||| ((x2 - (1 : Int32)).toInt64 <<< (s2.toInt32 &&& 0x3f).toInt64)))]) :: (owd, Own.ArrC Z .int [(iI 0), (iI 0), (iI 0)]) :: (osh, Own.ArrC Z .int [(.int s0.toInt32), (.int s1.toInt32), (.int s2.toInt32)]) :: (ox, Own.ArrC Z .int [(.int x0), (.int x1), (.int x2)]) :: fr) := O21.pick 4 rfl
  exact Own.retV hx hret hlk (hb hby d10_49) (by decide) (by decide) ⟨rfl, O22⟩

theorem pd5 : parseMethodDescriptor "(J)J" = some ⟨[.long], some .long⟩ := by decide +kernel
theorem d12_0 : decode prog_12_method_8_code 0 = .ok (.lconst 0, 1) := by decide +kernel
theorem d12_1 : decode prog_12_method_8_code 1 = .ok (.lstore_n 1, 1) := by decide +kernel
theorem d12_2 : decode prog_12_method_8_code 2 = .ok (.aload_n 0, 1) := by decide +kernel
theorem d12_3 : decode prog_12_method_8_code 3 = .ok (.getfield 38, 3) := by decide +kernel
theorem d12_6 : decode prog_12_method_8_code 6 = .ok (.astore_n 3, 1) := by decide +kernel
theorem d12_7 : decode prog_12_method_8_code 7 = .ok (.aload_n 3, 1) := by decide +kernel
theorem d12_8 : decode prog_12_method_8_code 8 = .ok (.arraylength, 1) := by decide +kernel
theorem d12_9 : decode prog_12_method_8_code 9 = .ok (.istore 4, 2) := by decide +kernel
theorem d12_11 : decode prog_12_method_8_code 11 = .ok (.iconst 0, 1) := by decide +kernel
theorem d12_12 : decode prog_12_method_8_code 12 = .ok (.istore 5, 2) := by decide +kernel
theorem d12_14 : decode prog_12_method_8_code 14 = .ok (.iload 5, 2) := by decide +kernel
theorem d12_16 : decode prog_12_method_8_code 16 = .ok (.iload 4, 2) := by decide +kernel
theorem d12_18 : decode prog_12_method_8_code 18 = .ok (.if_icmp .ge 23, 3) := by decide +kernel
theorem d12_21 : decode prog_12_method_8_code 21 = .ok (.aload_n 3, 1) := by decide +kernel
theorem d12_22 : decode prog_12_method_8_code 22 = .ok (.iload 5, 2) := by decide +kernel
theorem d12_24 : decode prog_12_method_8_code 24 = .ok (.laload, 1) := by decide +kernel
theorem d12_25 : decode prog_12_method_8_code 25 = .ok (.lstore 6, 2) := by decide +kernel
theorem d12_27 : decode prog_12_method_8_code 27 = .ok (.lload_n 1, 1) := by decide +kernel
theorem d12_28 : decode prog_12_method_8_code 28 = .ok (.lload 6, 2) := by decide +kernel
theorem d12_30 : decode prog_12_method_8_code 30 = .ok (.ladd, 1) := by decide +kernel
theorem d12_31 : decode prog_12_method_8_code 31 = .ok (.invokestatic 84, 3) := by decide +kernel
theorem d12_34 : decode prog_12_method_8_code 34 = .ok (.lstore_n 1, 1) := by decide +kernel
theorem d12_35 : decode prog_12_method_8_code 35 = .ok (.iinc 5 1, 3) := by decide +kernel
theorem d12_38 : decode prog_12_method_8_code 38 = .ok (.goto (-24), 3) := by decide +kernel
theorem d12_41 : decode prog_12_method_8_code 41 = .ok (.lload_n 1, 1) := by decide +kernel
theorem d12_42 : decode prog_12_method_8_code 42 = .ok (.lreturn, 1) := by decide +kernel
theorem pn10 : plainFor (⟨"com/example/cuesheet/cuesheet/core/PackedStates", "summary", "()J"⟩ : MethodName) = true := by first | exact plainFor_of_name (by simp [plainName, overriddenIn]; done) | decide +kernel
theorem ef12_1 (m : MethodId) (x0 : Addr) : entryFrame m #[(.ref x0)] 8 = mkF m 0 #[.val (.ref x0), .unset, .unset, .unset, .unset, .unset, .unset, .unset] [] := by first | (simp [entryFrame, mkF, argsToLocals, Value.category]; done) | rfl
set_option maxRecDepth 65536 in
set_option maxHeartbeats 40000000 in
theorem rm12_1 (l : Launch) (Z : State) (a0 : Array Value) (hw : ∀ d ∈ tables_1, d.before a0 Z = true) (o0 : Addr) (h0 : Heap) (n0 : Nat) (ot ra rb owd osh obt opk osd : Addr) (sz : Int32) (pv0 : Int64) (fr : List (Addr × (Cell → Prop))) (O0 : Own.Owns n0 h0 ((o0, PSo Z (.ref ot) (.ref owd) (.ref osh) (.ref obt) (iI 1) (.ref opk) (.ref osd) (.int sz)) :: (opk, Own.ArrC Z .long [(.long pv0)]) :: fr))  : Own.Does l (⟨"com/example/cuesheet/cuesheet/core/PackedStates", "summary", "()J"⟩ : MethodName) prog_12_method_8_code 8 (some .long) [] ({ frames := 1, cells := 0, slots := 0, locals := 15 } : Room) Z #[(.ref o0)] h0 n0 (fun v h => v = some (.long (fMix ((0 : Int64) + pv0))) ∧ h = h0) := by
  refine Own.doesOf pn10 ?_
  intro p e s m below meth c hx hby hml hret hlk hown hnm hZ
  refine Own.Goes.cast (ef12_1 m o0) ?_
  refine Own.lconst hx (0 : Int64) (hb hby d12_0) rfl (by decide) ?_
  refine Own.lstoreN hx (0 : Int64) rfl #[.val (.ref o0), .val (.long (0 : Int64)), .second, .unset, .unset, .unset, .unset, .unset] (hb hby d12_1) rfl rfl ?_
  refine Own.aloadN hx (.ref o0) (hb hby d12_2) rfl rfl rfl ?_
  refine Own.getfield hx hZ hown O0 0 5 rfl rfl (hw _ (wm 52 rfl)) (hb hby d12_3) rfl ?_
  refine Own.astoreN hx #[.val (.ref o0), .val (.long (0 : Int64)), .second, .val (.ref opk), .unset, .unset, .unset, .unset] (hb hby d12_6) rfl rfl rfl ?_
  refine Own.aloadN hx (.ref opk) (hb hby d12_7) rfl rfl rfl ?_
  refine Own.arrlen hx hZ O0 1 rfl (1 : Int32) rfl (hb hby d12_8) rfl ?_
  refine Own.istore hx (1 : Int32) rfl #[.val (.ref o0), .val (.long (0 : Int64)), .second, .val (.ref opk), .val (.int (1 : Int32)), .unset, .unset, .unset] (hb hby d12_9) rfl rfl ?_
  refine Own.iconst hx (0 : Int32) (hb hby d12_11) rfl (by decide) ?_
  refine Own.istore hx (0 : Int32) rfl #[.val (.ref o0), .val (.long (0 : Int64)), .second, .val (.ref opk), .val (.int (1 : Int32)), .val (.int (0 : Int32)), .unset, .unset] (hb hby d12_12) rfl rfl ?_
  refine Own.iload hx (0 : Int32) (hb hby d12_14) rfl rfl ?_
  refine Own.iload hx (1 : Int32) (hb hby d12_16) rfl rfl ?_
  have hc1 : (0 : Int32) < (1 : Int32) := by decide
  refine Own.icmpFn hx (Own.q_ge (0 : Int32) (1 : Int32)) (hb hby d12_18) (pcN := 21) rfl (by decide) (pcT := 41) rfl (fun q => absurd hc1 q) (fun _ => ?_)
  refine Own.aloadN hx (.ref opk) (hb hby d12_21) rfl rfl rfl ?_
  refine Own.iload hx (0 : Int32) (hb hby d12_22) rfl rfl ?_
  refine Own.laload hx hZ O0 1 0 rfl (by decide) (v := (.long pv0)) rfl (hb hby d12_24) rfl ?_
  refine Own.lstore hx pv0 rfl #[.val (.ref o0), .val (.long (0 : Int64)), .second, .val (.ref opk), .val (.int (1 : Int32)), .val (.int (0 : Int32)), .val (.long pv0), .second] (hb hby d12_25) rfl rfl ?_
  refine Own.lloadN hx (0 : Int64) (hb hby d12_27) rfl rfl ?_
  refine Own.lload hx pv0 (hb hby d12_28) rfl rfl ?_
  refine Own.ladd hx (hb hby d12_30) rfl ?_
  refine Own.callS hx hZ hown (hw _ (wm 78 rfl)) (hw _ (wm 79 rfl)) (hw _ (wm 20 rfl)) (hw _ (wm 80 rfl)) (by decide) pd5 (argsL := [(.long ((0 : Int64) + pv0))]) (rest := []) rfl (W := 0) (Nat.le_of_eq rfl) (rm := ({ frames := 0, cells := 0, slots := 0, locals := 0 } : Room)) (by decide) (by decide) (by decide) (by decide) (k' := 0) (n' := 0) rfl rfl (by rw [hml]; rfl) [(.long ((0 : Int64) + pv0))] rfl (hb hby d12_31) (pc' := 34) rfl (rm13 l Z a0 hw ((0 : Int64) + pv0) h0 n0) ?_
  rintro _ h' ⟨rfl, eh⟩
  rw [eh]; clear eh h'
  show Own.Goes _ _ _ _ _ _ _ _ _ _ _ _ _ _ _ _ _ (mkF m 34 #[.val (.ref o0), .val (.long (0 : Int64)), .second, .val (.ref opk), .val (.int (1 : Int32)), .val (.int (0 : Int32)), .val (.long pv0), .second] [(.long (fMix ((0 : Int64) + pv0)))])
  obtain ⟨v3, h_v3⟩ : ∃ z : Int64, z = (fMix ((0 : Int64) + pv0)) := ⟨_, rfl⟩
  refine Own.lstoreN hx v3 h_v3 #[.val (.ref o0), .val (.long v3), .second, .val (.ref opk), .val (.int (1 : Int32)), .val (.int (0 : Int32)), .val (.long pv0), .second] (hb hby d12_34) rfl rfl ?_
  refine Own.iinc hx (1 : Int32) #[.val (.ref o0), .val (.long v3), .second, .val (.ref opk), .val (.int (1 : Int32)), .val (.int (1 : Int32)), .val (.long pv0), .second] (hb hby d12_35) rfl rfl (by decide) rfl ?_
  refine Own.goto hx (hb hby d12_38) (by decide) (pc' := 14) rfl ?_
  refine Own.iload hx (1 : Int32) (hb hby d12_14) rfl rfl ?_
  refine Own.iload hx (1 : Int32) (hb hby d12_16) rfl rfl ?_
  have hc4 : ¬ ((1 : Int32) < (1 : Int32)) := by decide
  refine Own.icmpFn hx (Own.q_ge (1 : Int32) (1 : Int32)) (hb hby d12_18) (pcN := 21) rfl (by decide) (pcT := 41) rfl (fun _ => ?_) (fun q => absurd q hc4)
  refine Own.lloadN hx v3 (hb hby d12_41) rfl rfl ?_
  exact Own.retL hx hret hlk (hb hby d12_42) (by decide) (by decide) ⟨by subst h_v3; rfl, rfl⟩

theorem ef11_2 (m : MethodId) (x0 : Addr) (x1 : Int64) : entryFrame m #[(.ref x0), (.long x1)] 5 = mkF m 0 #[.val (.ref x0), .val (.long x1), .second, .unset, .unset] [] := by first | (simp [entryFrame, mkF, argsToLocals, Value.category]; done) | rfl
set_option maxRecDepth 65536 in
set_option maxHeartbeats 40000000 in
theorem rm11_2 (l : Launch) (Z : State) (a0 : Array Value) (hw : ∀ d ∈ tables_1, d.before a0 Z = true) (o0 : Addr) (h0 : Heap) (n0 : Nat)  (pv0 pv1 : Int64) (fr : List (Addr × (Cell → Prop))) (O0 : Own.Owns n0 h0 ((o0, Own.ArrC Z .long [(.long pv0), (.long pv1)]) :: fr))  : Own.Does l (⟨"java/util/Arrays", "fill", "([JJ)V"⟩ : MethodName) jdk_65_method_101_code 5 none [] ({ frames := 0, cells := 0, slots := 0, locals := 0 } : Room) Z #[(.ref o0), (.long (0 : Int64))] h0 n0 (fun v h => v = none ∧ Own.Owns n0 h ((o0, Own.ArrC Z .long [(jJ 0), (jJ 0)]) :: fr)) := by
  refine Own.doesOf pn8 ?_
  intro p e s m below meth c hx hby hml hret hlk hown hnm hZ
  refine Own.Goes.cast (ef11_2 m o0 (0 : Int64)) ?_
  refine Own.iconst hx (0 : Int32) (hb hby d11_0) rfl (by decide) ?_
  refine Own.istoreN hx (0 : Int32) rfl #[.val (.ref o0), .val (.long (0 : Int64)), .second, .val (.int (0 : Int32)), .unset] (hb hby d11_1) rfl rfl ?_
  refine Own.aloadN hx (.ref o0) (hb hby d11_2) rfl rfl rfl ?_
  refine Own.arrlen hx hZ O0 0 rfl (2 : Int32) rfl (hb hby d11_3) rfl ?_
  refine Own.istore hx (2 : Int32) rfl #[.val (.ref o0), .val (.long (0 : Int64)), .second, .val (.int (0 : Int32)), .val (.int (2 : Int32))] (hb hby d11_4) rfl rfl ?_
  refine Own.iloadN hx (0 : Int32) (hb hby d11_6) rfl rfl ?_
  refine Own.iload hx (2 : Int32) (hb hby d11_7) rfl rfl ?_
  have hc1 : (0 : Int32) < (2 : Int32) := by decide
  refine Own.icmpFn hx (Own.q_ge (0 : Int32) (2 : Int32)) (hb hby d11_9) (pcN := 12) rfl (by decide) (pcT := 22) rfl (fun q => absurd hc1 q) (fun _ => ?_)
  refine Own.aloadN hx (.ref o0) (hb hby d11_12) rfl rfl rfl ?_
  refine Own.iloadN hx (0 : Int32) (hb hby d11_13) rfl rfl ?_
  refine Own.lloadN hx (0 : Int64) (hb hby d11_14) rfl rfl ?_
  refine Own.lastore hx hZ O0 0 0 rfl (by decide) (by exact (show 0 < 2 by decide)) ((o0, Own.ArrC Z .long [(jJ 0), (.long pv1)]) :: fr) rfl (hb hby d11_15) rfl ?_
  intro h3 O4
  refine Own.iinc hx (1 : Int32) #[.val (.ref o0), .val (.long (0 : Int64)), .second, .val (.int (1 : Int32)), .val (.int (2 : Int32))] (hb hby d11_16) rfl rfl (by decide) rfl ?_
  refine Own.goto hx (hb hby d11_19) (by decide) (pc' := 6) rfl ?_
  refine Own.iloadN hx (1 : Int32) (hb hby d11_6) rfl rfl ?_
  refine Own.iload hx (2 : Int32) (hb hby d11_7) rfl rfl ?_
  have hc5 : (1 : Int32) < (2 : Int32) := by decide
  refine Own.icmpFn hx (Own.q_ge (1 : Int32) (2 : Int32)) (hb hby d11_9) (pcN := 12) rfl (by decide) (pcT := 22) rfl (fun q => absurd hc5 q) (fun _ => ?_)
  refine Own.aloadN hx (.ref o0) (hb hby d11_12) rfl rfl rfl ?_
  refine Own.iloadN hx (1 : Int32) (hb hby d11_13) rfl rfl ?_
  refine Own.lloadN hx (0 : Int64) (hb hby d11_14) rfl rfl ?_
  refine Own.lastore hx hZ O4 0 1 rfl (by decide) (by exact (show 1 < 2 by decide)) ((o0, Own.ArrC Z .long [(jJ 0), (jJ 0)]) :: fr) rfl (hb hby d11_15) rfl ?_
  intro h7 O8
  refine Own.iinc hx (2 : Int32) #[.val (.ref o0), .val (.long (0 : Int64)), .second, .val (.int (2 : Int32)), .val (.int (2 : Int32))] (hb hby d11_16) rfl rfl (by decide) rfl ?_
  refine Own.goto hx (hb hby d11_19) (by decide) (pc' := 6) rfl ?_
  refine Own.iloadN hx (2 : Int32) (hb hby d11_6) rfl rfl ?_
  refine Own.iload hx (2 : Int32) (hb hby d11_7) rfl rfl ?_
  have hc9 : ¬ ((2 : Int32) < (2 : Int32)) := by decide
  refine Own.icmpFn hx (Own.q_ge (2 : Int32) (2 : Int32)) (hb hby d11_9) (pcN := 12) rfl (by decide) (pcT := 22) rfl (fun _ => ?_) (fun q => absurd q hc9)
  exact Own.retV hx hret hlk (hb hby d11_22) (by decide) (by decide) ⟨rfl, O8⟩

theorem ef10_2 (m : MethodId) (x0 : Addr) (x1 : Addr) : entryFrame m #[(.ref x0), (.ref x1)] 3 = mkF m 0 #[.val (.ref x0), .val (.ref x1), .unset] [] := by first | (simp [entryFrame, mkF, argsToLocals, Value.category]; done) | rfl
set_option maxRecDepth 65536 in
set_option maxHeartbeats 40000000 in
theorem rm10_2 (l : Launch) (Z : State) (a0 : Array Value) (hw : ∀ d ∈ tables_1, d.before a0 Z = true) (o0 : Addr) (ox : Addr) (h0 : Heap) (n0 : Nat) (ot ra rb owd osh obt opk osd : Addr) (sz : Int32) (pv0 pv1 : Int64) (x0 x1 x2 : Int32) (s0 s1 s2 : Nat) (fr : List (Addr × (Cell → Prop))) (O0 : Own.Owns n0 h0 ((o0, PSo Z (.ref ot) (.ref owd) (.ref osh) (.ref obt) (iI 2) (.ref opk) (.ref osd) (.int sz)) :: (opk, Own.ArrC Z .long [(.long pv0), (.long pv1)]) :: (owd, Own.ArrC Z .int [(iI 0), (iI 0), (iI 1)]) :: (osh, Own.ArrC Z .int [(.int s0.toInt32), (.int s1.toInt32), (.int s2.toInt32)]) :: (ox, Own.ArrC Z .int [(.int x0), (.int x1), (.int x2)]) :: fr))  : Own.Does l (⟨"com/example/cuesheet/cuesheet/core/PackedStates", "pack", "([I)V"⟩ : MethodName) prog_12_method_7_code 3 none [] ({ frames := 1, cells := 0, slots := 0, locals := 16 } : Room) Z #[(.ref o0), (.ref ox)] h0 n0 (fun v h => v = none ∧ Own.Owns n0 h ((o0, PSo Z (.ref ot) (.ref owd) (.ref osh) (.ref obt) (iI 2) (.ref opk) (.ref osd) (.int sz)) :: (opk, Own.ArrC Z .long [(.long (pkB x0 x1 s0 s1)), (.long (pkC x2 s2))]) :: (owd, Own.ArrC Z .int [(iI 0), (iI 0), (iI 1)]) :: (osh, Own.ArrC Z .int [(.int s0.toInt32), (.int s1.toInt32), (.int s2.toInt32)]) :: (ox, Own.ArrC Z .int [(.int x0), (.int x1), (.int x2)]) :: fr)) := by
  refine Own.doesOf pn9 ?_
  intro p e s m below meth c hx hby hml hret hlk hown hnm hZ
  refine Own.Goes.cast (ef10_2 m o0 ox) ?_
  refine Own.aloadN hx (.ref o0) (hb hby d10_0) rfl rfl rfl ?_
  refine Own.getfield hx hZ hown O0 0 5 rfl rfl (hw _ (wm 52 rfl)) (hb hby d10_1) rfl ?_
  refine Own.lconst hx (0 : Int64) (hb hby d10_4) rfl (by decide) ?_
  have O1 : Own.Owns n0 h0 ((opk, Own.ArrC Z .long [(.long pv0), (.long pv1)]) :: (o0, PSo Z (.ref ot) (.ref owd) (.ref osh) (.ref obt) (iI 2) (.ref opk) (.ref osd) (.int sz)) :: (owd, Own.ArrC Z .int [(iI 0), (iI 0), (iI 1)]) :: (osh, Own.ArrC Z .int [(.int s0.toInt32), (.int s1.toInt32), (.int s2.toInt32)]) :: (ox, Own.ArrC Z .int [(.int x0), (.int x1), (.int x2)]) :: fr) := O0.pick 1 rfl
  refine Own.callS hx hZ hown (hw _ (wm 65 rfl)) (hw _ (wm 66 rfl)) (hw _ (wm 33 rfl)) (hw _ (wm 67 rfl)) (by decide) pd4 (argsL := [(.ref opk), (.long (0 : Int64))]) (rest := []) rfl (W := 0) (Nat.le_of_eq rfl) (rm := ({ frames := 0, cells := 0, slots := 0, locals := 0 } : Room)) (by decide) (by decide) (by decide) (by decide) (k' := 0) (n' := 0) rfl rfl (by rw [hml]; rfl) [(.long (0 : Int64)), (.ref opk)] rfl (hb hby d10_5) (pc' := 8) rfl (rm11_2 l Z a0 hw opk h0 n0 pv0 pv1 ((o0, PSo Z (.ref ot) (.ref owd) (.ref osh) (.ref obt) (iI 2) (.ref opk) (.ref osd) (.int sz)) :: (owd, Own.ArrC Z .int [(iI 0), (iI 0), (iI 1)]) :: (osh, Own.ArrC Z .int [(.int s0.toInt32), (.int s1.toInt32), (.int s2.toInt32)]) :: (ox, Own.ArrC Z .int [(.int x0), (.int x1), (.int x2)]) :: fr) O1) ?_
  rintro _ h2 ⟨rfl, O3⟩
  show Own.Goes _ _ _ _ _ _ _ _ _ _ _ _ _ _ _ _ _ (mkF m 8 #[.val (.ref o0), .val (.ref ox), .unset] [])
  refine Own.iconst hx (0 : Int32) (hb hby d10_8) rfl (by decide) ?_
  refine Own.istoreN hx (0 : Int32) rfl #[.val (.ref o0), .val (.ref ox), .val (.int (0 : Int32))] (hb hby d10_9) rfl rfl ?_
  refine Own.iloadN hx (0 : Int32) (hb hby d10_10) rfl rfl ?_
  refine Own.aloadN hx (.ref ox) (hb hby d10_11) rfl rfl rfl ?_
  refine Own.arrlen hx hZ O3 4 rfl (3 : Int32) rfl (hb hby d10_12) rfl ?_
  have hc4 : (0 : Int32) < (3 : Int32) := by decide
  refine Own.icmpFn hx (Own.q_ge (0 : Int32) (3 : Int32)) (hb hby d10_13) (pcN := 16) rfl (by decide) (pcT := 49) rfl (fun q => absurd hc4 q) (fun _ => ?_)
  refine Own.aloadN hx (.ref o0) (hb hby d10_16) rfl rfl rfl ?_
  refine Own.getfield hx hZ hown O3 1 5 rfl rfl (hw _ (wm 52 rfl)) (hb hby d10_17) rfl ?_
  refine Own.aloadN hx (.ref o0) (hb hby d10_20) rfl rfl rfl ?_
  refine Own.getfield hx hZ hown O3 1 1 rfl rfl (hw _ (wm 39 rfl)) (hb hby d10_21) rfl ?_
  refine Own.iloadN hx (0 : Int32) (hb hby d10_24) rfl rfl ?_
  refine Own.iaload hx hZ O3 2 0 rfl (by decide) (v := (.int (0 : Int32))) rfl (hb hby d10_25) rfl ?_
  refine Own.dup2 hx (hb hby d10_26) rfl rfl rfl ?_
  refine Own.laload hx hZ O3 0 0 rfl (by decide) (v := (.long (0 : Int64))) rfl (hb hby d10_27) rfl ?_
  refine Own.aloadN hx (.ref ox) (hb hby d10_28) rfl rfl rfl ?_
  refine Own.iloadN hx (0 : Int32) (hb hby d10_29) rfl rfl ?_
  refine Own.iaload hx hZ O3 4 0 rfl (by decide) (v := (.int x0)) rfl (hb hby d10_30) rfl ?_
  refine Own.iconst hx (1 : Int32) (hb hby d10_31) rfl (by decide) ?_
  refine Own.isub hx (hb hby d10_32) rfl ?_
  refine Own.i2l hx (hb hby d10_33) rfl ?_
  refine Own.aloadN hx (.ref o0) (hb hby d10_34) rfl rfl rfl ?_
  refine Own.getfield hx hZ hown O3 1 2 rfl rfl (hw _ (wm 41 rfl)) (hb hby d10_35) rfl ?_
  refine Own.iloadN hx (0 : Int32) (hb hby d10_38) rfl rfl ?_
  refine Own.iaload hx hZ O3 3 0 rfl (by decide) (v := (.int s0.toInt32)) rfl (hb hby d10_39) rfl ?_
  refine Own.lshl hx (hb hby d10_40) rfl ?_
  refine Own.lor hx (hb hby d10_41) rfl ?_
  refine Own.lastore hx hZ O3 0 0 rfl (by decide) (by exact (show 0 < 2 by decide)) ((opk, Own.ArrC Z .long [(.long ((0 : Int64) ||| ((x0 - (1 : Int32)).toInt64 <<< (s0.toInt32 &&& 0x3f).toInt64))), (jJ 0)]) :: (o0, PSo Z (.ref ot) (.ref owd) (.ref osh) (.ref obt) (iI 2) (.ref opk) (.ref osd) (.int sz)) :: (owd, Own.ArrC Z .int [(iI 0), (iI 0), (iI 1)]) :: (osh, Own.ArrC Z .int [(.int s0.toInt32), (.int s1.toInt32), (.int s2.toInt32)]) :: (ox, Own.ArrC Z .int [(.int x0), (.int x1), (.int x2)]) :: fr) rfl (hb hby d10_42) rfl ?_
  intro h6 O7
  refine Own.iinc hx (1 : Int32) #[.val (.ref o0), .val (.ref ox), .val (.int (1 : Int32))] (hb hby d10_43) rfl rfl (by decide) rfl ?_
  refine Own.goto hx (hb hby d10_46) (by decide) (pc' := 10) rfl ?_
  refine Own.iloadN hx (1 : Int32) (hb hby d10_10) rfl rfl ?_
  refine Own.aloadN hx (.ref ox) (hb hby d10_11) rfl rfl rfl ?_
  refine Own.arrlen hx hZ O7 4 rfl (3 : Int32) rfl (hb hby d10_12) rfl ?_
  have hc8 : (1 : Int32) < (3 : Int32) := by decide
  refine Own.icmpFn hx (Own.q_ge (1 : Int32) (3 : Int32)) (hb hby d10_13) (pcN := 16) rfl (by decide) (pcT := 49) rfl (fun q => absurd hc8 q) (fun _ => ?_)
  refine Own.aloadN hx (.ref o0) (hb hby d10_16) rfl rfl rfl ?_
  refine Own.getfield hx hZ hown O7 1 5 rfl rfl (hw _ (wm 52 rfl)) (hb hby d10_17) rfl ?_
  refine Own.aloadN hx (.ref o0) (hb hby d10_20) rfl rfl rfl ?_
  refine Own.getfield hx hZ hown O7 1 1 rfl rfl (hw _ (wm 39 rfl)) (hb hby d10_21) rfl ?_
  refine Own.iloadN hx (1 : Int32) (hb hby d10_24) rfl rfl ?_
  refine Own.iaload hx hZ O7 2 1 rfl (by decide) (v := (.int (0 : Int32))) rfl (hb hby d10_25) rfl ?_
  refine Own.dup2 hx (hb hby d10_26) rfl rfl rfl ?_
  refine Own.laload hx hZ O7 0 0 rfl (by decide) (v := (.long ((0 : Int64) ||| ((x0 - (1 : Int32)).toInt64 <<< (s0.toInt32 &&& 0x3f).toInt64)))) rfl (hb hby d10_27) rfl ?_
  refine Own.aloadN hx (.ref ox) (hb hby d10_28) rfl rfl rfl ?_
  refine Own.iloadN hx (1 : Int32) (hb hby d10_29) rfl rfl ?_
  refine Own.iaload hx hZ O7 4 1 rfl (by decide) (v := (.int x1)) rfl (hb hby d10_30) rfl ?_
  refine Own.iconst hx (1 : Int32) (hb hby d10_31) rfl (by decide) ?_
  refine Own.isub hx (hb hby d10_32) rfl ?_
  refine Own.i2l hx (hb hby d10_33) rfl ?_
  refine Own.aloadN hx (.ref o0) (hb hby d10_34) rfl rfl rfl ?_
  refine Own.getfield hx hZ hown O7 1 2 rfl rfl (hw _ (wm 41 rfl)) (hb hby d10_35) rfl ?_
  refine Own.iloadN hx (1 : Int32) (hb hby d10_38) rfl rfl ?_
  refine Own.iaload hx hZ O7 3 1 rfl (by decide) (v := (.int s1.toInt32)) rfl (hb hby d10_39) rfl ?_
  refine Own.lshl hx (hb hby d10_40) rfl ?_
  refine Own.lor hx (hb hby d10_41) rfl ?_
  refine Own.lastore hx hZ O7 0 0 rfl (by decide) (by exact (show 0 < 2 by decide)) ((opk, Own.ArrC Z .long [(.long (((0 : Int64) ||| ((x0 - (1 : Int32)).toInt64 <<< (s0.toInt32 &&& 0x3f).toInt64)) ||| ((x1 - (1 : Int32)).toInt64 <<< (s1.toInt32 &&& 0x3f).toInt64))), (jJ 0)]) :: (o0, PSo Z (.ref ot) (.ref owd) (.ref osh) (.ref obt) (iI 2) (.ref opk) (.ref osd) (.int sz)) :: (owd, Own.ArrC Z .int [(iI 0), (iI 0), (iI 1)]) :: (osh, Own.ArrC Z .int [(.int s0.toInt32), (.int s1.toInt32), (.int s2.toInt32)]) :: (ox, Own.ArrC Z .int [(.int x0), (.int x1), (.int x2)]) :: fr) rfl (hb hby d10_42) rfl ?_
  intro h10 O11
  refine Own.iinc hx (2 : Int32) #[.val (.ref o0), .val (.ref ox), .val (.int (2 : Int32))] (hb hby d10_43) rfl rfl (by decide) rfl ?_
  refine Own.goto hx (hb hby d10_46) (by decide) (pc' := 10) rfl ?_
  refine Own.iloadN hx (2 : Int32) (hb hby d10_10) rfl rfl ?_
  refine Own.aloadN hx (.ref ox) (hb hby d10_11) rfl rfl rfl ?_
  refine Own.arrlen hx hZ O11 4 rfl (3 : Int32) rfl (hb hby d10_12) rfl ?_
  have hc12 : (2 : Int32) < (3 : Int32) := by decide
  refine Own.icmpFn hx (Own.q_ge (2 : Int32) (3 : Int32)) (hb hby d10_13) (pcN := 16) rfl (by decide) (pcT := 49) rfl (fun q => absurd hc12 q) (fun _ => ?_)
  refine Own.aloadN hx (.ref o0) (hb hby d10_16) rfl rfl rfl ?_
  refine Own.getfield hx hZ hown O11 1 5 rfl rfl (hw _ (wm 52 rfl)) (hb hby d10_17) rfl ?_
  refine Own.aloadN hx (.ref o0) (hb hby d10_20) rfl rfl rfl ?_
  refine Own.getfield hx hZ hown O11 1 1 rfl rfl (hw _ (wm 39 rfl)) (hb hby d10_21) rfl ?_
  refine Own.iloadN hx (2 : Int32) (hb hby d10_24) rfl rfl ?_
  refine Own.iaload hx hZ O11 2 2 rfl (by decide) (v := (.int (1 : Int32))) rfl (hb hby d10_25) rfl ?_
  refine Own.dup2 hx (hb hby d10_26) rfl rfl rfl ?_
  refine Own.laload hx hZ O11 0 1 rfl (by decide) (v := (.long (0 : Int64))) rfl (hb hby d10_27) rfl ?_
  refine Own.aloadN hx (.ref ox) (hb hby d10_28) rfl rfl rfl ?_
  refine Own.iloadN hx (2 : Int32) (hb hby d10_29) rfl rfl ?_
  refine Own.iaload hx hZ O11 4 2 rfl (by decide) (v := (.int x2)) rfl (hb hby d10_30) rfl ?_
  refine Own.iconst hx (1 : Int32) (hb hby d10_31) rfl (by decide) ?_
  refine Own.isub hx (hb hby d10_32) rfl ?_
  refine Own.i2l hx (hb hby d10_33) rfl ?_
  refine Own.aloadN hx (.ref o0) (hb hby d10_34) rfl rfl rfl ?_
  refine Own.getfield hx hZ hown O11 1 2 rfl rfl (hw _ (wm 41 rfl)) (hb hby d10_35) rfl ?_
  refine Own.iloadN hx (2 : Int32) (hb hby d10_38) rfl rfl ?_
  refine Own.iaload hx hZ O11 3 2 rfl (by decide) (v := (.int s2.toInt32)) rfl (hb hby d10_39) rfl ?_
  refine Own.lshl hx (hb hby d10_40) rfl ?_
  refine Own.lor hx (hb hby d10_41) rfl ?_
  refine Own.lastore hx hZ O11 0 1 rfl (by decide) (by exact (show 1 < 2 by decide)) ((opk, Own.ArrC Z .long [(.long (((0 : Int64) ||| ((x0 - (1 : Int32)).toInt64 <<< (s0.toInt32 &&& 0x3f).toInt64)) ||| ((x1 - (1 : Int32)).toInt64 <<< (s1.toInt32 &&& 0x3f).toInt64))), (.long ((0 : Int64) ||| ((x2 - (1 : Int32)).toInt64 <<< (s2.toInt32 &&& 0x3f).toInt64)))]) :: (o0, PSo Z (.ref ot) (.ref owd) (.ref osh) (.ref obt) (iI 2) (.ref opk) (.ref osd) (.int sz)) :: (owd, Own.ArrC Z .int [(iI 0), (iI 0), (iI 1)]) :: (osh, Own.ArrC Z .int [(.int s0.toInt32), (.int s1.toInt32), (.int s2.toInt32)]) :: (ox, Own.ArrC Z .int [(.int x0), (.int x1), (.int x2)]) :: fr) rfl (hb hby d10_42) rfl ?_
  intro h14 O15
  refine Own.iinc hx (3 : Int32) #[.val (.ref o0), .val (.ref ox), .val (.int (3 : Int32))] (hb hby d10_43) rfl rfl (by decide) rfl ?_
  refine Own.goto hx (hb hby d10_46) (by decide) (pc' := 10) rfl ?_
  refine Own.iloadN hx (3 : Int32) (hb hby d10_10) rfl rfl ?_
  refine Own.aloadN hx (.ref ox) (hb hby d10_11) rfl rfl rfl ?_
  refine Own.arrlen hx hZ O15 4 rfl (3 : Int32) rfl (hb hby d10_12) rfl ?_
  have hc16 : ¬ ((3 : Int32) < (3 : Int32)) := by decide
  refine Own.icmpFn hx (Own.q_ge (3 : Int32) (3 : Int32)) (hb hby d10_13) (pcN := 16) rfl (by decide) (pcT := 49) rfl (fun _ => ?_) (fun q => absurd q hc16)
  have O18 : Own.Owns n0 h14 ((ox, Own.ArrC Z .int [(.int x0), (.int x1), (.int x2)]) :: (opk, Own.ArrC Z .long [(.long (((0 : Int64) ||| ((x0 - (1 : Int32)).toInt64 <<< (s0.toInt32 &&& 0x3f).toInt64)) ||| ((x1 - (1 : Int32)).toInt64 <<< (s1.toInt32 &&& 0x3f).toInt64))), (.long ((0 : Int64) ||| ((x2 - (1 : Int32)).toInt64 <<< (s2.toInt32 &&& 0x3f).toInt64)))]) :: (o0, PSo Z (.ref ot) (.ref owd) (.ref osh) (.ref obt) (iI 2) (.ref opk) (.ref osd) (.int sz)) :: (owd, Own.ArrC Z .int [(iI 0), (iI 0), (iI 1)]) :: (osh, Own.ArrC Z .int [(.int s0.toInt32), (.int s1.toInt32), (.int s2.toInt32)]) :: fr) := O15.pick 4 rfl
  have O19 : Own.Owns n0 h14 ((osh, Own.ArrC Z .int [(.int s0.toInt32), (.int s1.toInt32), (.int s2.toInt32)]) :: (ox, Own.ArrC Z .int [(.int x0), (.int x1), (.int x2)]) :: (opk, Own.ArrC Z .long [(.long (((0 : Int64) ||| ((x0 - (1 : Int32)).toInt64 <<< (s0.toInt32 &&& 0x3f).toInt64)) ||| ((x1 - (1 : Int32)).toInt64 <<< (s1.toInt32 &&& 0x3f).toInt64))), (.long ((0 : Int64) ||| ((x2 - (1 : Int32)).toInt64 <<< (s2.toInt32 &&& 0x3f).toInt64)))]) :: (o0, PSo Z (.ref ot) (.ref owd) (.ref osh) (.ref obt) (iI 2) (.ref opk) (.ref osd) (.int sz)) :: (owd, Own.ArrC Z .int [(iI 0), (iI 0), (iI 1)]) :: fr) := O18.pick 4 rfl
  have O20 : Own.Owns n0 h14 ((owd, Own.ArrC Z .int [(iI 0), (iI 0), (iI 1)]) :: (osh, Own.ArrC Z .int [(.int s0.toInt32), (.int s1.toInt32), (.int s2.toInt32)]) :: (ox, Own.ArrC Z .int [(.int x0), (.int x1), (.int x2)]) :: (opk, Own.ArrC Z .long [(.long (((0 : Int64) ||| ((x0 - (1 : Int32)).toInt64 <<< (s0.toInt32 &&& 0x3f).toInt64)) ||| ((x1 - (1 : Int32)).toInt64 <<< (s1.toInt32 &&& 0x3f).toInt64))), (.long ((0 : Int64) ||| ((x2 - (1 : Int32)).toInt64 <<< (s2.toInt32 &&& 0x3f).toInt64)))]) :: (o0, PSo Z (.ref ot) (.ref owd) (.ref osh) (.ref obt) (iI 2) (.ref opk) (.ref osd) (.int sz)) :: fr) := O19.pick 4 rfl
  have O21 : Own.Owns n0 h14 ((opk, Own.ArrC Z .long [(.long (((0 : Int64) ||| ((x0 - (1 : Int32)).toInt64 <<< (s0.toInt32 &&& 0x3f).toInt64)) ||| ((x1 - (1 : Int32)).toInt64 <<< (s1.toInt32 &&& 0x3f).toInt64))), (.long ((0 : Int64) ||| ((x2 - (1 : Int32)).toInt64 <<< (s2.toInt32 &&& 0x3f).toInt64)))]) :: (owd, Own.ArrC Z .int [(iI 0), (iI 0), (iI 1)]) :: (osh, Own.ArrC Z .int [(.int s0.toInt32), (.int s1.toInt32), (.int s2.toInt32)]) :: (ox, Own.ArrC Z .int [(.int x0), (.int x1), (.int x2)]) :: (o0, PSo Z (.ref ot) (.ref owd) (.ref osh) (.ref obt) (iI 2) (.ref opk) (.ref osd) (.int sz)) :: fr) := O20.pick 3 rfl
  have O22 : Own.Owns n0 h14 ((o0, PSo Z (.ref ot) (.ref owd) (.ref osh) (.ref obt) (iI 2) (.ref opk) (.ref osd) (.int sz)) :: (opk, Own.ArrC Z .long [(.long (((0 : Int64) ||| ((x0 - (1 : Int32)).toInt64 <<< (s0.toInt32 &&& 0x3f).toInt64)) ||| ((x1 - (1 : Int32)).toInt64 <<< (s1.toInt32 &&& 0x3f).toInt64))), (.long ((0 : Int64) ||| ((x2 - (1 : Int32)).toInt64 <<< (s2.toInt32 &&& 0x3f).toInt64)))]) :: (owd, Own.ArrC Z .int [(iI 0), (iI 0), (iI 1)]) :: (osh, Own.ArrC Z .int [(.int s0.toInt32), (.int s1.toInt32), (.int s2.toInt32)]) :: (ox, Own.ArrC Z .int [(.int x0), (.int x1), (.int x2)]) :: fr) := O21.pick 4 rfl
  exact Own.retV hx hret hlk (hb hby d10_49) (by decide) (by decide) ⟨rfl, O22⟩

theorem ef12_2 (m : MethodId) (x0 : Addr) : entryFrame m #[(.ref x0)] 8 = mkF m 0 #[.val (.ref x0), .unset, .unset, .unset, .unset, .unset, .unset, .unset] [] := by first | (simp [entryFrame, mkF, argsToLocals, Value.category]; done) | rfl
set_option maxRecDepth 65536 in
set_option maxHeartbeats 40000000 in
theorem rm12_2 (l : Launch) (Z : State) (a0 : Array Value) (hw : ∀ d ∈ tables_1, d.before a0 Z = true) (o0 : Addr) (h0 : Heap) (n0 : Nat) (ot ra rb owd osh obt opk osd : Addr) (sz : Int32) (pv0 pv1 : Int64) (fr : List (Addr × (Cell → Prop))) (O0 : Own.Owns n0 h0 ((o0, PSo Z (.ref ot) (.ref owd) (.ref osh) (.ref obt) (iI 2) (.ref opk) (.ref osd) (.int sz)) :: (opk, Own.ArrC Z .long [(.long pv0), (.long pv1)]) :: fr))  : Own.Does l (⟨"com/example/cuesheet/cuesheet/core/PackedStates", "summary", "()J"⟩ : MethodName) prog_12_method_8_code 8 (some .long) [] ({ frames := 1, cells := 0, slots := 0, locals := 15 } : Room) Z #[(.ref o0)] h0 n0 (fun v h => v = some (.long (fMix ((fMix ((0 : Int64) + pv0)) + pv1))) ∧ h = h0) := by
  refine Own.doesOf pn10 ?_
  intro p e s m below meth c hx hby hml hret hlk hown hnm hZ
  refine Own.Goes.cast (ef12_2 m o0) ?_
  refine Own.lconst hx (0 : Int64) (hb hby d12_0) rfl (by decide) ?_
  refine Own.lstoreN hx (0 : Int64) rfl #[.val (.ref o0), .val (.long (0 : Int64)), .second, .unset, .unset, .unset, .unset, .unset] (hb hby d12_1) rfl rfl ?_
  refine Own.aloadN hx (.ref o0) (hb hby d12_2) rfl rfl rfl ?_
  refine Own.getfield hx hZ hown O0 0 5 rfl rfl (hw _ (wm 52 rfl)) (hb hby d12_3) rfl ?_
  refine Own.astoreN hx #[.val (.ref o0), .val (.long (0 : Int64)), .second, .val (.ref opk), .unset, .unset, .unset, .unset] (hb hby d12_6) rfl rfl rfl ?_
  refine Own.aloadN hx (.ref opk) (hb hby d12_7) rfl rfl rfl ?_
  refine Own.arrlen hx hZ O0 1 rfl (2 : Int32) rfl (hb hby d12_8) rfl ?_
  refine Own.istore hx (2 : Int32) rfl #[.val (.ref o0), .val (.long (0 : Int64)), .second, .val (.ref opk), .val (.int (2 : Int32)), .unset, .unset, .unset] (hb hby d12_9) rfl rfl ?_
  refine Own.iconst hx (0 : Int32) (hb hby d12_11) rfl (by decide) ?_
  refine Own.istore hx (0 : Int32) rfl #[.val (.ref o0), .val (.long (0 : Int64)), .second, .val (.ref opk), .val (.int (2 : Int32)), .val (.int (0 : Int32)), .unset, .unset] (hb hby d12_12) rfl rfl ?_
  refine Own.iload hx (0 : Int32) (hb hby d12_14) rfl rfl ?_
  refine Own.iload hx (2 : Int32) (hb hby d12_16) rfl rfl ?_
  have hc1 : (0 : Int32) < (2 : Int32) := by decide
  refine Own.icmpFn hx (Own.q_ge (0 : Int32) (2 : Int32)) (hb hby d12_18) (pcN := 21) rfl (by decide) (pcT := 41) rfl (fun q => absurd hc1 q) (fun _ => ?_)
  refine Own.aloadN hx (.ref opk) (hb hby d12_21) rfl rfl rfl ?_
  refine Own.iload hx (0 : Int32) (hb hby d12_22) rfl rfl ?_
  refine Own.laload hx hZ O0 1 0 rfl (by decide) (v := (.long pv0)) rfl (hb hby d12_24) rfl ?_
  refine Own.lstore hx pv0 rfl #[.val (.ref o0), .val (.long (0 : Int64)), .second, .val (.ref opk), .val (.int (2 : Int32)), .val (.int (0 : Int32)), .val (.long pv0), .second] (hb hby d12_25) rfl rfl ?_
  refine Own.lloadN hx (0 : Int64) (hb hby d12_27) rfl rfl ?_
  refine Own.lload hx pv0 (hb hby d12_28) rfl rfl ?_
  refine Own.ladd hx (hb hby d12_30) rfl ?_
  refine Own.callS hx hZ hown (hw _ (wm 78 rfl)) (hw _ (wm 79 rfl)) (hw _ (wm 20 rfl)) (hw _ (wm 80 rfl)) (by decide) pd5 (argsL := [(.long ((0 : Int64) + pv0))]) (rest := []) rfl (W := 0) (Nat.le_of_eq rfl) (rm := ({ frames := 0, cells := 0, slots := 0, locals := 0 } : Room)) (by decide) (by decide) (by decide) (by decide) (k' := 0) (n' := 0) rfl rfl (by rw [hml]; rfl) [(.long ((0 : Int64) + pv0))] rfl (hb hby d12_31) (pc' := 34) rfl (rm13 l Z a0 hw ((0 : Int64) + pv0) h0 n0) ?_
  rintro _ h' ⟨rfl, eh⟩
  rw [eh]; clear eh h'
  show Own.Goes _ _ _ _ _ _ _ _ _ _ _ _ _ _ _ _ _ (mkF m 34 #[.val (.ref o0), .val (.long (0 : Int64)), .second, .val (.ref opk), .val (.int (2 : Int32)), .val (.int (0 : Int32)), .val (.long pv0), .second] [(.long (fMix ((0 : Int64) + pv0)))])
  obtain ⟨v3, h_v3⟩ : ∃ z : Int64, z = (fMix ((0 : Int64) + pv0)) := ⟨_, rfl⟩
  refine Own.lstoreN hx v3 h_v3 #[.val (.ref o0), .val (.long v3), .second, .val (.ref opk), .val (.int (2 : Int32)), .val (.int (0 : Int32)), .val (.long pv0), .second] (hb hby d12_34) rfl rfl ?_
  refine Own.iinc hx (1 : Int32) #[.val (.ref o0), .val (.long v3), .second, .val (.ref opk), .val (.int (2 : Int32)), .val (.int (1 : Int32)), .val (.long pv0), .second] (hb hby d12_35) rfl rfl (by decide) rfl ?_
  refine Own.goto hx (hb hby d12_38) (by decide) (pc' := 14) rfl ?_
  refine Own.iload hx (1 : Int32) (hb hby d12_14) rfl rfl ?_
  refine Own.iload hx (2 : Int32) (hb hby d12_16) rfl rfl ?_
  have hc4 : (1 : Int32) < (2 : Int32) := by decide
  refine Own.icmpFn hx (Own.q_ge (1 : Int32) (2 : Int32)) (hb hby d12_18) (pcN := 21) rfl (by decide) (pcT := 41) rfl (fun q => absurd hc4 q) (fun _ => ?_)
  refine Own.aloadN hx (.ref opk) (hb hby d12_21) rfl rfl rfl ?_
  refine Own.iload hx (1 : Int32) (hb hby d12_22) rfl rfl ?_
  refine Own.laload hx hZ O0 1 1 rfl (by decide) (v := (.long pv1)) rfl (hb hby d12_24) rfl ?_
  refine Own.lstore hx pv1 rfl #[.val (.ref o0), .val (.long v3), .second, .val (.ref opk), .val (.int (2 : Int32)), .val (.int (1 : Int32)), .val (.long pv1), .second] (hb hby d12_25) rfl rfl ?_
  refine Own.lloadN hx v3 (hb hby d12_27) rfl rfl ?_
  refine Own.lload hx pv1 (hb hby d12_28) rfl rfl ?_
  refine Own.ladd hx (hb hby d12_30) rfl ?_
  refine Own.callS hx hZ hown (hw _ (wm 78 rfl)) (hw _ (wm 79 rfl)) (hw _ (wm 20 rfl)) (hw _ (wm 80 rfl)) (by decide) pd5 (argsL := [(.long (v3 + pv1))]) (rest := []) rfl (W := 0) (Nat.le_of_eq rfl) (rm := ({ frames := 0, cells := 0, slots := 0, locals := 0 } : Room)) (by decide) (by decide) (by decide) (by decide) (k' := 0) (n' := 0) rfl rfl (by rw [hml]; rfl) [(.long (v3 + pv1))] rfl (hb hby d12_31) (pc' := 34) rfl (rm13 l Z a0 hw (v3 + pv1) h0 n0) ?_
  rintro _ h' ⟨rfl, eh⟩
  rw [eh]; clear eh h'
  show Own.Goes _ _ _ _ _ _ _ _ _ _ _ _ _ _ _ _ _ (mkF m 34 #[.val (.ref o0), .val (.long v3), .second, .val (.ref opk), .val (.int (2 : Int32)), .val (.int (1 : Int32)), .val (.long pv1), .second] [(.long (fMix (v3 + pv1)))])
  obtain ⟨v6, h_v6⟩ : ∃ z : Int64, z = (fMix (v3 + pv1)) := ⟨_, rfl⟩
  refine Own.lstoreN hx v6 h_v6 #[.val (.ref o0), .val (.long v6), .second, .val (.ref opk), .val (.int (2 : Int32)), .val (.int (1 : Int32)), .val (.long pv1), .second] (hb hby d12_34) rfl rfl ?_
  refine Own.iinc hx (2 : Int32) #[.val (.ref o0), .val (.long v6), .second, .val (.ref opk), .val (.int (2 : Int32)), .val (.int (2 : Int32)), .val (.long pv1), .second] (hb hby d12_35) rfl rfl (by decide) rfl ?_
  refine Own.goto hx (hb hby d12_38) (by decide) (pc' := 14) rfl ?_
  refine Own.iload hx (2 : Int32) (hb hby d12_14) rfl rfl ?_
  refine Own.iload hx (2 : Int32) (hb hby d12_16) rfl rfl ?_
  have hc7 : ¬ ((2 : Int32) < (2 : Int32)) := by decide
  refine Own.icmpFn hx (Own.q_ge (2 : Int32) (2 : Int32)) (hb hby d12_18) (pcN := 21) rfl (by decide) (pcT := 41) rfl (fun _ => ?_) (fun q => absurd q hc7)
  refine Own.lloadN hx v6 (hb hby d12_41) rfl rfl ?_
  exact Own.retL hx hret hlk (hb hby d12_42) (by decide) (by decide) ⟨by subst h_v6 h_v3; rfl, rfl⟩

theorem d15_0 : decode prog_14_method_4_code 0 = .ok (.lload_n 1, 1) := by decide +kernel
theorem d15_1 : decode prog_14_method_4_code 1 = .ok (.invokestatic 38, 3) := by decide +kernel
theorem d15_4 : decode prog_14_method_4_code 4 = .ok (.aload_n 0, 1) := by decide +kernel
theorem d15_5 : decode prog_14_method_4_code 5 = .ok (.getfield 17, 3) := by decide +kernel
theorem d15_8 : decode prog_14_method_4_code 8 = .ok (.arraylength, 1) := by decide +kernel
theorem d15_9 : decode prog_14_method_4_code 9 = .ok (.iconst 1, 1) := by decide +kernel
theorem d15_10 : decode prog_14_method_4_code 10 = .ok (.isub, 1) := by decide +kernel
theorem d15_11 : decode prog_14_method_4_code 11 = .ok (.i2l, 1) := by decide +kernel
theorem d15_12 : decode prog_14_method_4_code 12 = .ok (.land, 1) := by decide +kernel
theorem d15_13 : decode prog_14_method_4_code 13 = .ok (.l2i, 1) := by decide +kernel
theorem d15_14 : decode prog_14_method_4_code 14 = .ok (.ireturn, 1) := by decide +kernel
theorem pn11 : plainFor (⟨"com/example/cuesheet/cuesheet/core/StateTable", "home", "(J)I"⟩ : MethodName) = true := by first | exact plainFor_of_name (by simp [plainName, overriddenIn]; done) | decide +kernel
theorem ef15 (m : MethodId) (x0 : Addr) (x1 : Int64) : entryFrame m #[(.ref x0), (.long x1)] 3 = mkF m 0 #[.val (.ref x0), .val (.long x1), .second] [] := by first | (simp [entryFrame, mkF, argsToLocals, Value.category]; done) | rfl
set_option maxRecDepth 65536 in
set_option maxHeartbeats 40000000 in
theorem rm15 (l : Launch) (Z : State) (a0 : Array Value) (hw : ∀ d ∈ tables_1, d.before a0 Z = true) (o0 : Addr) (q1 : Int64) (h0 : Heap) (n0 : Nat) (oa ob : Addr) (sz : Int32) (TB : List Int32) (hTB : TB.length = 1024) (fr : List (Addr × (Cell → Prop))) (O0 : Own.Owns n0 h0 ((o0, STo Z (.ref oa) (.ref ob) (.int sz)) :: (ob, Own.ArrC Z .int (TB.map Value.int)) :: fr))  : Own.Does l (⟨"com/example/cuesheet/cuesheet/core/StateTable", "home", "(J)I"⟩ : MethodName) prog_14_method_4_code 3 (some .int) [] ({ frames := 1, cells := 0, slots := 0, locals := 15 } : Room) Z #[(.ref o0), (.long q1)] h0 n0 (fun v h => v = some (.int (fMix q1 &&& (1023 : Int64)).toInt32) ∧ h = h0) := by
  refine Own.doesOf pn11 ?_
  intro p e s m below meth c hx hby hml hret hlk hown hnm hZ
  refine Own.Goes.cast (ef15 m o0 q1) ?_
  refine Own.lloadN hx q1 (hb hby d15_0) rfl rfl ?_
  refine Own.callS hx hZ hown (hw _ (wm 94 rfl)) (hw _ (wm 79 rfl)) (hw _ (wm 20 rfl)) (hw _ (wm 80 rfl)) (by decide) pd5 (argsL := [(.long q1)]) (rest := []) rfl (W := 0) (Nat.le_of_eq rfl) (rm := ({ frames := 0, cells := 0, slots := 0, locals := 0 } : Room)) (by decide) (by decide) (by decide) (by decide) (k' := 0) (n' := 0) rfl rfl (by rw [hml]; rfl) [(.long q1)] rfl (hb hby d15_1) (pc' := 4) rfl (rm13 l Z a0 hw q1 h0 n0) ?_
  rintro _ h' ⟨rfl, eh⟩
  rw [eh]; clear eh h'
  show Own.Goes _ _ _ _ _ _ _ _ _ _ _ _ _ _ _ _ _ (mkF m 4 #[.val (.ref o0), .val (.long q1), .second] [(.long (fMix q1))])
  refine Own.aloadN hx (.ref o0) (hb hby d15_4) rfl rfl rfl ?_
  refine Own.getfield hx hZ hown O0 0 1 rfl rfl (hw _ (wm 35 rfl)) (hb hby d15_5) rfl ?_
  refine Own.arrlen hx hZ O0 1 rfl (1024 : Int32) (by rw [List.length_map, hTB]; rfl) (hb hby d15_8) rfl ?_
  refine Own.iconst hx (1 : Int32) (hb hby d15_9) rfl (by decide) ?_
  refine Own.isub hx (hb hby d15_10) rfl ?_
  refine Own.vI (1023 : Int32) (by decide) ?_
  refine Own.i2l hx (hb hby d15_11) rfl ?_
  refine Own.vL (1023 : Int64) (by decide) ?_
  refine Own.land hx (hb hby d15_12) rfl ?_
  refine Own.l2i hx (hb hby d15_13) rfl ?_
  exact Own.retI hx hret hlk (hb hby d15_14) (by decide) (by decide) ⟨by rfl, rfl⟩

theorem d14_27 : decode prog_14_method_2_code 27 = .ok (.aload_n 0, 1) := by decide +kernel
theorem d14_28 : decode prog_14_method_2_code 28 = .ok (.getfield 17, 3) := by decide +kernel
theorem d14_31 : decode prog_14_method_2_code 31 = .ok (.iload 4, 2) := by decide +kernel
theorem d14_33 : decode prog_14_method_2_code 33 = .ok (.iaload, 1) := by decide +kernel
theorem d14_34 : decode prog_14_method_2_code 34 = .ok (.iconst (-1), 1) := by decide +kernel
theorem d14_35 : decode prog_14_method_2_code 35 = .ok (.if_icmp .eq 20, 3) := by decide +kernel
theorem d14_55 : decode prog_14_method_2_code 55 = .ok (.aload_n 0, 1) := by decide +kernel
theorem d14_56 : decode prog_14_method_2_code 56 = .ok (.getfield 7, 3) := by decide +kernel
theorem d14_59 : decode prog_14_method_2_code 59 = .ok (.iload 4, 2) := by decide +kernel
theorem d14_61 : decode prog_14_method_2_code 61 = .ok (.lload_n 1, 1) := by decide +kernel
theorem d14_62 : decode prog_14_method_2_code 62 = .ok (.lastore, 1) := by decide +kernel
theorem d14_63 : decode prog_14_method_2_code 63 = .ok (.aload_n 0, 1) := by decide +kernel
theorem d14_64 : decode prog_14_method_2_code 64 = .ok (.getfield 17, 3) := by decide +kernel
theorem d14_67 : decode prog_14_method_2_code 67 = .ok (.iload 4, 2) := by decide +kernel
theorem d14_69 : decode prog_14_method_2_code 69 = .ok (.iload_n 3, 1) := by decide +kernel
theorem d14_70 : decode prog_14_method_2_code 70 = .ok (.iastore, 1) := by decide +kernel
theorem d14_71 : decode prog_14_method_2_code 71 = .ok (.aload_n 0, 1) := by decide +kernel
theorem d14_72 : decode prog_14_method_2_code 72 = .ok (.dup, 1) := by decide +kernel
theorem d14_73 : decode prog_14_method_2_code 73 = .ok (.getfield 21, 3) := by decide +kernel
theorem d14_76 : decode prog_14_method_2_code 76 = .ok (.iconst 1, 1) := by decide +kernel
theorem d14_77 : decode prog_14_method_2_code 77 = .ok (.iadd, 1) := by decide +kernel
theorem d14_78 : decode prog_14_method_2_code 78 = .ok (.putfield 21, 3) := by decide +kernel
theorem d14_81 : decode prog_14_method_2_code 81 = .ok (.return_, 1) := by decide +kernel
theorem d14_38 : decode prog_14_method_2_code 38 = .ok (.iload 4, 2) := by decide +kernel
theorem d14_40 : decode prog_14_method_2_code 40 = .ok (.iconst 1, 1) := by decide +kernel
theorem d14_41 : decode prog_14_method_2_code 41 = .ok (.iadd, 1) := by decide +kernel
theorem d14_42 : decode prog_14_method_2_code 42 = .ok (.aload_n 0, 1) := by decide +kernel
theorem d14_43 : decode prog_14_method_2_code 43 = .ok (.getfield 17, 3) := by decide +kernel
theorem d14_46 : decode prog_14_method_2_code 46 = .ok (.arraylength, 1) := by decide +kernel
theorem d14_47 : decode prog_14_method_2_code 47 = .ok (.iconst 1, 1) := by decide +kernel
theorem d14_48 : decode prog_14_method_2_code 48 = .ok (.isub, 1) := by decide +kernel
theorem d14_49 : decode prog_14_method_2_code 49 = .ok (.iand, 1) := by decide +kernel
theorem d14_50 : decode prog_14_method_2_code 50 = .ok (.istore 4, 2) := by decide +kernel
theorem d14_52 : decode prog_14_method_2_code 52 = .ok (.goto (-25), 3) := by decide +kernel
set_option maxRecDepth 65536 in
set_option maxHeartbeats 40000000 in
theorem probe_loop {p : Program} {l : Launch} {e : Env} {R : Room} {s : State} {m : MethodId} {args : Array Value} {below : List Frame} {meth : Method} {c : Code} {n0 mc ms : Nat} {k n : Nat} {Z : State} {a0 : Array Value} (hw : ∀ d ∈ tables_1, d.before a0 Z = true) (hx : p.tables.exec = Jvm.exec) (hby : c.code = prog_14_method_2_code) (hml : c.maxLocals = 5) (hown : s.vm.findClass "com/example/cuesheet/cuesheet/core/StateTable" = some m.cls) (hZ : Z.Warmed39 s.vm) (hret : meth.sig.returnType = none) (hlk : meth.locks = false) (hk : k ≤ mc) (hn' : n ≤ ms) {fr : List (Addr × (Cell → Prop))} {o0 oa ob : Addr} {q1 : Int64} {p2 sz : Int32} {SM : List Value} {TB : List Int32} {f : Nat} (hSM : SM.length = 1024) (hTB : TB.length = 1024) (hf : f < 1024) (hff : TB.getD f 0 = (-1 : Int32)) :
    ∀ d pos (h : Heap), pos < 1024 → (f + 1024 - pos) % 1024 = d → Own.Owns n0 h ((o0, STo Z (.ref oa) (.ref ob) (.int sz)) :: (oa, Own.ArrC Z .long SM) :: (ob, Own.ArrC Z .int (TB.map Value.int)) :: fr) → Own.Goes p l e R s m args below meth c n0 mc ms (fun v h => ∃ j, j < 1024 ∧ v = none ∧ Own.Owns n0 h ((o0, STo Z (.ref oa) (.ref ob) (.int (sz + (1 : Int32)))) :: (oa, Own.ArrC Z .long (SM.set j (.long q1))) :: (ob, Own.ArrC Z .int ((TB.set j p2).map Value.int)) :: fr)) h k n (mkF m 27 #[.val (.ref o0), .val (.long q1), .second, .val (.int p2), .val (.int pos.toInt32)] []) := by
  intro d
  induction d using Nat.strongRecOn with
  | ind d ih =>
  intro pos h hpos hd O
  by_cases hE : (TB.getD pos 0) = (-1 : Int32)
  · skip
    refine Own.aloadN hx (.ref o0) (hb hby d14_27) rfl rfl rfl ?_
    refine Own.getfield hx hZ hown O 0 1 rfl rfl (hw _ (wm 35 rfl)) (hb hby d14_28) rfl ?_
    refine Own.iload hx pos.toInt32 (hb hby d14_31) rfl rfl ?_
    refine Own.iaload hx hZ O 2 pos rfl (own_tl (by omega)) (v := (.int (TB.getD pos 0))) (own_tb_at (by omega)) (hb hby d14_33) rfl ?_
    refine Own.iconst hx (-1 : Int32) (hb hby d14_34) rfl (by decide) ?_
    have hc1 : (TB.getD pos 0) = (-1 : Int32) := hE
    refine Own.icmpF hx (Own.q_eq (TB.getD pos 0) (-1 : Int32)) (hb hby d14_35) (pcN := 38) rfl (by decide) (pcT := 55) rfl (fun _ => ?_) (fun q => absurd hc1 q)
    refine Own.aloadN hx (.ref o0) (hb hby d14_55) rfl rfl rfl ?_
    refine Own.getfield hx hZ hown O 0 0 rfl rfl (hw _ (wm 26 rfl)) (hb hby d14_56) rfl ?_
    refine Own.iload hx pos.toInt32 (hb hby d14_59) rfl rfl ?_
    refine Own.lloadN hx q1 (hb hby d14_61) rfl rfl ?_
    refine Own.lastore hx hZ O 1 pos rfl (own_tl (by omega)) (by rw [hSM]; exact hpos) ((o0, STo Z (.ref oa) (.ref ob) (.int sz)) :: (oa, Own.ArrC Z .long (SM.set pos (.long q1))) :: (ob, Own.ArrC Z .int (TB.map Value.int)) :: fr) rfl (hb hby d14_62) rfl ?_
    intro h3 O4
    refine Own.aloadN hx (.ref o0) (hb hby d14_63) rfl rfl rfl ?_
    refine Own.getfield hx hZ hown O4 0 1 rfl rfl (hw _ (wm 35 rfl)) (hb hby d14_64) rfl ?_
    refine Own.iload hx pos.toInt32 (hb hby d14_67) rfl rfl ?_
    refine Own.iloadN hx p2 (hb hby d14_69) rfl rfl ?_
    refine Own.iastore hx hZ O4 2 pos rfl (own_tl (by omega)) (by rw [List.length_map, hTB]; exact hpos) ((o0, STo Z (.ref oa) (.ref ob) (.int sz)) :: (oa, Own.ArrC Z .long (SM.set pos (.long q1))) :: (ob, Own.ArrC Z .int ((TB.set pos p2).map Value.int)) :: fr) (by rw [List.map_set]; rfl) (hb hby d14_70) rfl ?_
    intro h5 O6
    refine Own.aloadN hx (.ref o0) (hb hby d14_71) rfl rfl rfl ?_
    refine Own.dup hx (hb hby d14_72) rfl rfl ?_
    refine Own.getfield hx hZ hown O6 0 2 rfl rfl (hw _ (wm 88 rfl)) (hb hby d14_73) rfl ?_
    refine Own.iconst hx (1 : Int32) (hb hby d14_76) rfl (by decide) ?_
    refine Own.iadd hx (hb hby d14_77) rfl ?_
    refine Own.putfield hx hZ hown O6 0 2 rfl rfl (hw _ (wm 88 rfl)) (Or.inl (hw _ (wm 89 rfl))) (hw _ (wm 19 rfl)) (ty := .int) (by decide) rfl rfl ((o0, STo Z (.ref oa) (.ref ob) (.int (sz + (1 : Int32)))) :: (oa, Own.ArrC Z .long (SM.set pos (.long q1))) :: (ob, Own.ArrC Z .int ((TB.set pos p2).map Value.int)) :: fr) rfl (hb hby d14_78) rfl ?_
    intro h7 O8
    exact Own.retV hx hret hlk (hb hby d14_81) hk hn' ⟨pos, hpos, rfl, O8⟩
  · have hne : f ≠ pos := fun z => hE (z ▸ hff)
    refine Own.aloadN hx (.ref o0) (hb hby d14_27) rfl rfl rfl ?_
    refine Own.getfield hx hZ hown O 0 1 rfl rfl (hw _ (wm 35 rfl)) (hb hby d14_28) rfl ?_
    refine Own.iload hx pos.toInt32 (hb hby d14_31) rfl rfl ?_
    refine Own.iaload hx hZ O 2 pos rfl (own_tl (by omega)) (v := (.int (TB.getD pos 0))) (own_tb_at (by omega)) (hb hby d14_33) rfl ?_
    refine Own.iconst hx (-1 : Int32) (hb hby d14_34) rfl (by decide) ?_
    have hc1 : ¬ ((TB.getD pos 0) = (-1 : Int32)) := hE
    refine Own.icmpF hx (Own.q_eq (TB.getD pos 0) (-1 : Int32)) (hb hby d14_35) (pcN := 38) rfl (by decide) (pcT := 55) rfl (fun q => absurd q hc1) (fun _ => ?_)
    refine Own.iload hx pos.toInt32 (hb hby d14_38) rfl rfl ?_
    refine Own.iconst hx (1 : Int32) (hb hby d14_40) rfl (by decide) ?_
    refine Own.iadd hx (hb hby d14_41) rfl ?_
    refine Own.aloadN hx (.ref o0) (hb hby d14_42) rfl rfl rfl ?_
    refine Own.getfield hx hZ hown O 0 1 rfl rfl (hw _ (wm 35 rfl)) (hb hby d14_43) rfl ?_
    refine Own.arrlen hx hZ O 2 rfl (1024 : Int32) (by rw [List.length_map, hTB]; rfl) (hb hby d14_46) rfl ?_
    refine Own.iconst hx (1 : Int32) (hb hby d14_47) rfl (by decide) ?_
    refine Own.isub hx (hb hby d14_48) rfl ?_
    refine Own.vI (1023 : Int32) (by decide) ?_
    refine Own.iand hx (hb hby d14_49) rfl ?_
    refine Own.istore hx ((pos.toInt32 + (1 : Int32)) &&& (1023 : Int32)) rfl #[.val (.ref o0), .val (.long q1), .second, .val (.int p2), .val (.int ((pos.toInt32 + (1 : Int32)) &&& (1023 : Int32)))] (hb hby d14_50) rfl rfl ?_
    refine Own.goto hx (hb hby d14_52) (by decide) (pc' := 27) rfl ?_
    have hih := ih ((f + 1024 - (pos + 1) % 1024) % 1024) (by omega) ((pos + 1) % 1024) h (by omega) rfl O
    rw [own_wrap hpos]; exact hih
theorem pd6 : parseMethodDescriptor "(J)I" = some ⟨[.long], some .int⟩ := by decide +kernel
theorem d14_0 : decode prog_14_method_2_code 0 = .ok (.iconst 2, 1) := by decide +kernel
theorem d14_1 : decode prog_14_method_2_code 1 = .ok (.aload_n 0, 1) := by decide +kernel
theorem d14_2 : decode prog_14_method_2_code 2 = .ok (.getfield 21, 3) := by decide +kernel
theorem d14_5 : decode prog_14_method_2_code 5 = .ok (.iconst 1, 1) := by decide +kernel
theorem d14_6 : decode prog_14_method_2_code 6 = .ok (.iadd, 1) := by decide +kernel
theorem d14_7 : decode prog_14_method_2_code 7 = .ok (.imul, 1) := by decide +kernel
theorem d14_8 : decode prog_14_method_2_code 8 = .ok (.aload_n 0, 1) := by decide +kernel
theorem d14_9 : decode prog_14_method_2_code 9 = .ok (.getfield 17, 3) := by decide +kernel
theorem d14_12 : decode prog_14_method_2_code 12 = .ok (.arraylength, 1) := by decide +kernel
theorem d14_13 : decode prog_14_method_2_code 13 = .ok (.if_icmp .le 7, 3) := by decide +kernel
theorem d14_20 : decode prog_14_method_2_code 20 = .ok (.aload_n 0, 1) := by decide +kernel
theorem d14_21 : decode prog_14_method_2_code 21 = .ok (.lload_n 1, 1) := by decide +kernel
theorem d14_22 : decode prog_14_method_2_code 22 = .ok (.invokevirtual 28, 3) := by decide +kernel
theorem d14_25 : decode prog_14_method_2_code 25 = .ok (.istore 4, 2) := by decide +kernel
theorem pn12 : plainFor (⟨"com/example/cuesheet/cuesheet/core/StateTable", "add", "(JI)V"⟩ : MethodName) = true := by first | exact plainFor_of_name (by simp [plainName, overriddenIn]; done) | decide +kernel
theorem ef14 (m : MethodId) (x0 : Addr) (x1 : Int64) (x2 : Int32) : entryFrame m #[(.ref x0), (.long x1), (.int x2)] 5 = mkF m 0 #[.val (.ref x0), .val (.long x1), .second, .val (.int x2), .unset] [] := by first | (simp [entryFrame, mkF, argsToLocals, Value.category]; done) | rfl
set_option maxRecDepth 65536 in
set_option maxHeartbeats 40000000 in
theorem rm14 (l : Launch) (Z : State) (a0 : Array Value) (hw : ∀ d ∈ tables_1, d.before a0 Z = true) (o0 : Addr) (q1 : Int64) (p2 : Int32) (h0 : Heap) (n0 : Nat) (oa ob : Addr) (sz : Int32) (SM : List Value) (TB : List Int32) (hSM : SM.length = 1024) (hTB : TB.length = 1024) (hct : 1 ≤ TB.count (-1)) (htz : ¬ (1024 : Int32) < ((2 : Int32) * (sz + (1 : Int32)))) (fr : List (Addr × (Cell → Prop))) (O0 : Own.Owns n0 h0 ((o0, STo Z (.ref oa) (.ref ob) (.int sz)) :: (oa, Own.ArrC Z .long SM) :: (ob, Own.ArrC Z .int (TB.map Value.int)) :: fr))  : Own.Does l (⟨"com/example/cuesheet/cuesheet/core/StateTable", "add", "(JI)V"⟩ : MethodName) prog_14_method_2_code 5 none [] ({ frames := 2, cells := 0, slots := 0, locals := 29 } : Room) Z #[(.ref o0), (.long q1), (.int p2)] h0 n0 (fun v h => ∃ j, j < 1024 ∧ v = none ∧ Own.Owns n0 h ((o0, STo Z (.ref oa) (.ref ob) (.int (sz + (1 : Int32)))) :: (oa, Own.ArrC Z .long (SM.set j (.long q1))) :: (ob, Own.ArrC Z .int ((TB.set j p2).map Value.int)) :: fr)) := by
  refine Own.doesOf pn12 ?_
  intro p e s m below meth c hx hby hml hret hlk hown hnm hZ
  refine Own.Goes.cast (ef14 m o0 q1 p2) ?_
  refine Own.iconst hx (2 : Int32) (hb hby d14_0) rfl (by decide) ?_
  refine Own.aloadN hx (.ref o0) (hb hby d14_1) rfl rfl rfl ?_
  refine Own.getfield hx hZ hown O0 0 2 rfl rfl (hw _ (wm 88 rfl)) (hb hby d14_2) rfl ?_
  refine Own.iconst hx (1 : Int32) (hb hby d14_5) rfl (by decide) ?_
  refine Own.iadd hx (hb hby d14_6) rfl ?_
  refine Own.imul hx (hb hby d14_7) rfl ?_
  refine Own.aloadN hx (.ref o0) (hb hby d14_8) rfl rfl rfl ?_
  refine Own.getfield hx hZ hown O0 0 1 rfl rfl (hw _ (wm 35 rfl)) (hb hby d14_9) rfl ?_
  refine Own.arrlen hx hZ O0 2 rfl (1024 : Int32) (by rw [List.length_map, hTB]; rfl) (hb hby d14_12) rfl ?_
  have hc1 : ¬ ((1024 : Int32) < ((2 : Int32) * (sz + (1 : Int32)))) := htz
  refine Own.icmpFn hx (Own.q_le ((2 : Int32) * (sz + (1 : Int32))) (1024 : Int32)) (hb hby d14_13) (pcN := 16) rfl (by decide) (pcT := 20) rfl (fun _ => ?_) (fun q => absurd q hc1)
  refine Own.aloadN hx (.ref o0) (hb hby d14_20) rfl rfl rfl ?_
  refine Own.lloadN hx q1 (hb hby d14_21) rfl rfl ?_
  have O3 : Own.Owns n0 h0 ((ob, Own.ArrC Z .int (TB.map Value.int)) :: (o0, STo Z (.ref oa) (.ref ob) (.int sz)) :: (oa, Own.ArrC Z .long SM) :: fr) := O0.pick 2 rfl
  have O4 : Own.Owns n0 h0 ((o0, STo Z (.ref oa) (.ref ob) (.int sz)) :: (ob, Own.ArrC Z .int (TB.map Value.int)) :: (oa, Own.ArrC Z .long SM) :: fr) := O3.pick 1 rfl
  refine Own.callP hx hZ hown (O4.exa (i := 0) rfl) (hw _ (wm 90 rfl)) (hw _ (wm 91 rfl)) (hw _ (wm 19 rfl)) (hw _ (wm 92 rfl)) (hw _ (wm 20 rfl)) (hw _ (wm 93 rfl)) (by decide) pd6 (argsL := [(.long q1)]) (rest := []) rfl (W := 0) (Nat.le_of_eq rfl) (rm := ({ frames := 1, cells := 0, slots := 0, locals := 15 } : Room)) (by decide) (by decide) (by decide) (by decide) (k' := 0) (n' := 0) rfl rfl (by rw [hml]; rfl) [(.long q1), (.ref o0)] rfl (hb hby d14_22) (pc' := 25) rfl (rm15 l Z a0 hw o0 q1 h0 n0 oa ob sz TB hTB ((oa, Own.ArrC Z .long SM) :: fr) O4) ?_
  rintro _ h' ⟨rfl, eh⟩
  rw [eh]; clear eh h'
  show Own.Goes _ _ _ _ _ _ _ _ _ _ _ _ _ _ _ _ _ (mkF m 25 #[.val (.ref o0), .val (.long q1), .second, .val (.int p2), .unset] [(.int (fMix q1 &&& (1023 : Int64)).toInt32)])
  have O5 : Own.Owns n0 h0 ((ob, Own.ArrC Z .int (TB.map Value.int)) :: (o0, STo Z (.ref oa) (.ref ob) (.int sz)) :: (oa, Own.ArrC Z .long SM) :: fr) := O4.pick 1 rfl
  have O6 : Own.Owns n0 h0 ((oa, Own.ArrC Z .long SM) :: (ob, Own.ArrC Z .int (TB.map Value.int)) :: (o0, STo Z (.ref oa) (.ref ob) (.int sz)) :: fr) := O5.pick 2 rfl
  have O7 : Own.Owns n0 h0 ((o0, STo Z (.ref oa) (.ref ob) (.int sz)) :: (oa, Own.ArrC Z .long SM) :: (ob, Own.ArrC Z .int (TB.map Value.int)) :: fr) := O6.pick 2 rfl
  refine Own.istore hx (fMix q1 &&& (1023 : Int64)).toInt32 rfl #[.val (.ref o0), .val (.long q1), .second, .val (.int p2), .val (.int (fMix q1 &&& (1023 : Int64)).toInt32)] (hb hby d14_25) rfl rfl ?_
  obtain ⟨pos, hpos, epos⟩ := own_home (fMix q1)
  obtain ⟨f, hf, hff⟩ := own_free hct
  rw [epos]
  exact probe_loop hw hx hby hml hown hZ hret hlk (by decide) (by decide) hSM hTB (hTB ▸ hf) hff _ pos _ hpos rfl O7

theorem pd7 : parseMethodDescriptor "([I)V" = some ⟨[(.array .int)], none⟩ := by decide +kernel
theorem pd8 : parseMethodDescriptor "()J" = some ⟨[], some .long⟩ := by decide +kernel
theorem pd9 : parseMethodDescriptor "(JI)V" = some ⟨[.long, .int], none⟩ := by decide +kernel
theorem d9_0 : decode prog_12_method_5_code 0 = .ok (.aload_n 0, 1) := by decide +kernel
theorem d9_1 : decode prog_12_method_5_code 1 = .ok (.aload_n 1, 1) := by decide +kernel
theorem d9_2 : decode prog_12_method_5_code 2 = .ok (.invokevirtual 48, 3) := by decide +kernel
theorem d9_5 : decode prog_12_method_5_code 5 = .ok (.aload_n 0, 1) := by decide +kernel
theorem d9_6 : decode prog_12_method_5_code 6 = .ok (.getfield 42, 3) := by decide +kernel
theorem d9_9 : decode prog_12_method_5_code 9 = .ok (.arraylength, 1) := by decide +kernel
theorem d9_10 : decode prog_12_method_5_code 10 = .ok (.aload_n 0, 1) := by decide +kernel
theorem d9_11 : decode prog_12_method_5_code 11 = .ok (.getfield 45, 3) := by decide +kernel
theorem d9_14 : decode prog_12_method_5_code 14 = .ok (.iconst 1, 1) := by decide +kernel
theorem d9_15 : decode prog_12_method_5_code 15 = .ok (.iadd, 1) := by decide +kernel
theorem d9_16 : decode prog_12_method_5_code 16 = .ok (.aload_n 0, 1) := by decide +kernel
theorem d9_17 : decode prog_12_method_5_code 17 = .ok (.getfield 34, 3) := by decide +kernel
theorem d9_20 : decode prog_12_method_5_code 20 = .ok (.imul, 1) := by decide +kernel
theorem d9_21 : decode prog_12_method_5_code 21 = .ok (.if_icmp .ge 21, 3) := by decide +kernel
theorem d9_42 : decode prog_12_method_5_code 42 = .ok (.aload_n 0, 1) := by decide +kernel
theorem d9_43 : decode prog_12_method_5_code 43 = .ok (.getfield 38, 3) := by decide +kernel
theorem d9_46 : decode prog_12_method_5_code 46 = .ok (.iconst 0, 1) := by decide +kernel
theorem d9_47 : decode prog_12_method_5_code 47 = .ok (.aload_n 0, 1) := by decide +kernel
theorem d9_48 : decode prog_12_method_5_code 48 = .ok (.getfield 42, 3) := by decide +kernel
theorem d9_51 : decode prog_12_method_5_code 51 = .ok (.aload_n 0, 1) := by decide +kernel
theorem d9_52 : decode prog_12_method_5_code 52 = .ok (.getfield 45, 3) := by decide +kernel
theorem d9_55 : decode prog_12_method_5_code 55 = .ok (.aload_n 0, 1) := by decide +kernel
theorem d9_56 : decode prog_12_method_5_code 56 = .ok (.getfield 34, 3) := by decide +kernel
theorem d9_59 : decode prog_12_method_5_code 59 = .ok (.imul, 1) := by decide +kernel
theorem d9_60 : decode prog_12_method_5_code 60 = .ok (.aload_n 0, 1) := by decide +kernel
theorem d9_61 : decode prog_12_method_5_code 61 = .ok (.getfield 34, 3) := by decide +kernel
theorem d9_64 : decode prog_12_method_5_code 64 = .ok (.invokestatic 70, 3) := by decide +kernel
theorem d9_67 : decode prog_12_method_5_code 67 = .ok (.aload_n 0, 1) := by decide +kernel
theorem d9_68 : decode prog_12_method_5_code 68 = .ok (.getfield 10, 3) := by decide +kernel
theorem d9_71 : decode prog_12_method_5_code 71 = .ok (.aload_n 0, 1) := by decide +kernel
theorem d9_72 : decode prog_12_method_5_code 72 = .ok (.invokevirtual 52, 3) := by decide +kernel
theorem d9_75 : decode prog_12_method_5_code 75 = .ok (.aload_n 0, 1) := by decide +kernel
theorem d9_76 : decode prog_12_method_5_code 76 = .ok (.getfield 45, 3) := by decide +kernel
theorem d9_79 : decode prog_12_method_5_code 79 = .ok (.invokevirtual 76, 3) := by decide +kernel
theorem d9_82 : decode prog_12_method_5_code 82 = .ok (.aload_n 0, 1) := by decide +kernel
theorem d9_83 : decode prog_12_method_5_code 83 = .ok (.dup, 1) := by decide +kernel
theorem d9_84 : decode prog_12_method_5_code 84 = .ok (.getfield 45, 3) := by decide +kernel
theorem d9_87 : decode prog_12_method_5_code 87 = .ok (.iconst 1, 1) := by decide +kernel
theorem d9_88 : decode prog_12_method_5_code 88 = .ok (.iadd, 1) := by decide +kernel
theorem d9_89 : decode prog_12_method_5_code 89 = .ok (.putfield 45, 3) := by decide +kernel
theorem d9_92 : decode prog_12_method_5_code 92 = .ok (.aload_n 0, 1) := by decide +kernel
theorem d9_93 : decode prog_12_method_5_code 93 = .ok (.getfield 45, 3) := by decide +kernel
theorem d9_96 : decode prog_12_method_5_code 96 = .ok (.iconst 1, 1) := by decide +kernel
theorem d9_97 : decode prog_12_method_5_code 97 = .ok (.isub, 1) := by decide +kernel
theorem d9_98 : decode prog_12_method_5_code 98 = .ok (.ireturn, 1) := by decide +kernel
theorem pn13 : plainFor (⟨"com/example/cuesheet/cuesheet/core/PackedStates", "add", "([I)I"⟩ : MethodName) = true := by first | exact plainFor_of_name (by simp [plainName, overriddenIn]; done) | decide +kernel
theorem ef9_10 (m : MethodId) (x0 : Addr) (x1 : Addr) : entryFrame m #[(.ref x0), (.ref x1)] 2 = mkF m 0 #[.val (.ref x0), .val (.ref x1)] [] := by first | (simp [entryFrame, mkF, argsToLocals, Value.category]; done) | rfl
set_option maxRecDepth 65536 in
set_option maxHeartbeats 40000000 in
theorem rm9_10 (l : Launch) (Z : State) (a0 : Array Value) (hw : ∀ d ∈ tables_1, d.before a0 Z = true) (o0 : Addr) (ox : Addr) (h0 : Heap) (n0 : Nat) (ot ra rb owd osh obt opk osd : Addr) (pv0 : Int64) (x0 x1 x2 : Int32) (s0 s1 s2 : Nat) (tz : Int32) (SL SM : List Value) (TB : List Int32) (hSL : SL.length = 64) (hSM : SM.length = 1024) (hTB : TB.length = 1024) (hct : 2 ≤ TB.count (-1)) (htz : ¬ (1024 : Int32) < ((2 : Int32) * (tz + (1 : Int32)))) (fr : List (Addr × (Cell → Prop))) (O0 : Own.Owns n0 h0 ((o0, PSo Z (.ref ot) (.ref owd) (.ref osh) (.ref obt) (iI 1) (.ref opk) (.ref osd) (iI 0)) :: (opk, Own.ArrC Z .long [(.long pv0)]) :: (owd, Own.ArrC Z .int [(iI 0), (iI 0), (iI 0)]) :: (osh, Own.ArrC Z .int [(.int s0.toInt32), (.int s1.toInt32), (.int s2.toInt32)]) :: (osd, Own.ArrC Z .long SL) :: (ot, STo Z (.ref ra) (.ref rb) (.int tz)) :: (ra, Own.ArrC Z .long SM) :: (rb, Own.ArrC Z .int (TB.map Value.int)) :: (ox, Own.ArrC Z .int [(.int x0), (.int x1), (.int x2)]) :: fr))  : Own.Does l (⟨"com/example/cuesheet/cuesheet/core/PackedStates", "add", "([I)I"⟩ : MethodName) prog_12_method_5_code 2 (some .int) [] ({ frames := 3, cells := 0, slots := 0, locals := 45 } : Room) Z #[(.ref o0), (.ref ox)] h0 n0 (fun v h => ∃ (SL' SM' : List Value) (TB' : List Int32), v = some (.int (0 : Int32)) ∧ SL'.length = 64 ∧ SL'[0]? = some (.long (pkA x0 x1 x2 s0 s1 s2)) ∧ (∀ j, j < 0 → SL'[j]? = SL[j]?) ∧ SM'.length = 1024 ∧ TB'.length = 1024 ∧ 1 ≤ TB'.count (-1) ∧ Own.Owns n0 h ((o0, PSo Z (.ref ot) (.ref owd) (.ref osh) (.ref obt) (iI 1) (.ref opk) (.ref osd) (iI 1)) :: (opk, Own.ArrC Z .long [(.long (pkA x0 x1 x2 s0 s1 s2))]) :: (owd, Own.ArrC Z .int [(iI 0), (iI 0), (iI 0)]) :: (osh, Own.ArrC Z .int [(.int s0.toInt32), (.int s1.toInt32), (.int s2.toInt32)]) :: (osd, Own.ArrC Z .long SL') :: (ot, STo Z (.ref ra) (.ref rb) (.int (tz + (1 : Int32)))) :: (ra, Own.ArrC Z .long SM') :: (rb, Own.ArrC Z .int (TB'.map Value.int)) :: (ox, Own.ArrC Z .int [(.int x0), (.int x1), (.int x2)]) :: fr)) := by
  refine Own.doesOf pn13 ?_
  intro p e s m below meth c hx hby hml hret hlk hown hnm hZ
  refine Own.Goes.cast (ef9_10 m o0 ox) ?_
  refine Own.aloadN hx (.ref o0) (hb hby d9_0) rfl rfl rfl ?_
  refine Own.aloadN hx (.ref ox) (hb hby d9_1) rfl rfl rfl ?_
  have O1 : Own.Owns n0 h0 ((ox, Own.ArrC Z .int [(.int x0), (.int x1), (.int x2)]) :: (o0, PSo Z (.ref ot) (.ref owd) (.ref osh) (.ref obt) (iI 1) (.ref opk) (.ref osd) (iI 0)) :: (opk, Own.ArrC Z .long [(.long pv0)]) :: (owd, Own.ArrC Z .int [(iI 0), (iI 0), (iI 0)]) :: (osh, Own.ArrC Z .int [(.int s0.toInt32), (.int s1.toInt32), (.int s2.toInt32)]) :: (osd, Own.ArrC Z .long SL) :: (ot, STo Z (.ref ra) (.ref rb) (.int tz)) :: (ra, Own.ArrC Z .long SM) :: (rb, Own.ArrC Z .int (TB.map Value.int)) :: fr) := O0.pick 8 rfl
  have O2 : Own.Owns n0 h0 ((osh, Own.ArrC Z .int [(.int s0.toInt32), (.int s1.toInt32), (.int s2.toInt32)]) :: (ox, Own.ArrC Z .int [(.int x0), (.int x1), (.int x2)]) :: (o0, PSo Z (.ref ot) (.ref owd) (.ref osh) (.ref obt) (iI 1) (.ref opk) (.ref osd) (iI 0)) :: (opk, Own.ArrC Z .long [(.long pv0)]) :: (owd, Own.ArrC Z .int [(iI 0), (iI 0), (iI 0)]) :: (osd, Own.ArrC Z .long SL) :: (ot, STo Z (.ref ra) (.ref rb) (.int tz)) :: (ra, Own.ArrC Z .long SM) :: (rb, Own.ArrC Z .int (TB.map Value.int)) :: fr) := O1.pick 4 rfl
  have O3 : Own.Owns n0 h0 ((owd, Own.ArrC Z .int [(iI 0), (iI 0), (iI 0)]) :: (osh, Own.ArrC Z .int [(.int s0.toInt32), (.int s1.toInt32), (.int s2.toInt32)]) :: (ox, Own.ArrC Z .int [(.int x0), (.int x1), (.int x2)]) :: (o0, PSo Z (.ref ot) (.ref owd) (.ref osh) (.ref obt) (iI 1) (.ref opk) (.ref osd) (iI 0)) :: (opk, Own.ArrC Z .long [(.long pv0)]) :: (osd, Own.ArrC Z .long SL) :: (ot, STo Z (.ref ra) (.ref rb) (.int tz)) :: (ra, Own.ArrC Z .long SM) :: (rb, Own.ArrC Z .int (TB.map Value.int)) :: fr) := O2.pick 4 rfl
  have O4 : Own.Owns n0 h0 ((opk, Own.ArrC Z .long [(.long pv0)]) :: (owd, Own.ArrC Z .int [(iI 0), (iI 0), (iI 0)]) :: (osh, Own.ArrC Z .int [(.int s0.toInt32), (.int s1.toInt32), (.int s2.toInt32)]) :: (ox, Own.ArrC Z .int [(.int x0), (.int x1), (.int x2)]) :: (o0, PSo Z (.ref ot) (.ref owd) (.ref osh) (.ref obt) (iI 1) (.ref opk) (.ref osd) (iI 0)) :: (osd, Own.ArrC Z .long SL) :: (ot, STo Z (.ref ra) (.ref rb) (.int tz)) :: (ra, Own.ArrC Z .long SM) :: (rb, Own.ArrC Z .int (TB.map Value.int)) :: fr) := O3.pick 4 rfl
  have O5 : Own.Owns n0 h0 ((o0, PSo Z (.ref ot) (.ref owd) (.ref osh) (.ref obt) (iI 1) (.ref opk) (.ref osd) (iI 0)) :: (opk, Own.ArrC Z .long [(.long pv0)]) :: (owd, Own.ArrC Z .int [(iI 0), (iI 0), (iI 0)]) :: (osh, Own.ArrC Z .int [(.int s0.toInt32), (.int s1.toInt32), (.int s2.toInt32)]) :: (ox, Own.ArrC Z .int [(.int x0), (.int x1), (.int x2)]) :: (osd, Own.ArrC Z .long SL) :: (ot, STo Z (.ref ra) (.ref rb) (.int tz)) :: (ra, Own.ArrC Z .long SM) :: (rb, Own.ArrC Z .int (TB.map Value.int)) :: fr) := O4.pick 4 rfl
  refine Own.callP hx hZ hown (O5.exa (i := 0) rfl) (hw _ (wm 61 rfl)) (hw _ (wm 62 rfl)) (hw _ (wm 10 rfl)) (hw _ (wm 63 rfl)) (hw _ (wm 11 rfl)) (hw _ (wm 64 rfl)) (by decide) pd7 (argsL := [(.ref ox)]) (rest := []) rfl (W := 0) (Nat.le_of_eq rfl) (rm := ({ frames := 1, cells := 0, slots := 0, locals := 16 } : Room)) (by decide) (by decide) (by decide) (by decide) (k' := 0) (n' := 0) rfl rfl (by rw [hml]; rfl) [(.ref ox), (.ref o0)] rfl (hb hby d9_2) (pc' := 5) rfl (rm10_1 l Z a0 hw o0 ox h0 n0 ot ra rb owd osh obt opk osd (0 : Int32) pv0 x0 x1 x2 s0 s1 s2 ((osd, Own.ArrC Z .long SL) :: (ot, STo Z (.ref ra) (.ref rb) (.int tz)) :: (ra, Own.ArrC Z .long SM) :: (rb, Own.ArrC Z .int (TB.map Value.int)) :: fr) O5) ?_
  rintro _ h6 ⟨rfl, O7⟩
  show Own.Goes _ _ _ _ _ _ _ _ _ _ _ _ _ _ _ _ _ (mkF m 5 #[.val (.ref o0), .val (.ref ox)] [])
  refine Own.aloadN hx (.ref o0) (hb hby d9_5) rfl rfl rfl ?_
  refine Own.getfield hx hZ hown O7 0 6 rfl rfl (hw _ (wm 54 rfl)) (hb hby d9_6) rfl ?_
  refine Own.arrlen hx hZ O7 5 rfl (64 : Int32) (by rw [hSL]; rfl) (hb hby d9_9) rfl ?_
  refine Own.aloadN hx (.ref o0) (hb hby d9_10) rfl rfl rfl ?_
  refine Own.getfield hx hZ hown O7 0 7 rfl rfl (hw _ (wm 68 rfl)) (hb hby d9_11) rfl ?_
  refine Own.iconst hx (1 : Int32) (hb hby d9_14) rfl (by decide) ?_
  refine Own.iadd hx (hb hby d9_15) rfl ?_
  refine Own.vI (1 : Int32) (by decide) ?_
  refine Own.aloadN hx (.ref o0) (hb hby d9_16) rfl rfl rfl ?_
  refine Own.getfield hx hZ hown O7 0 4 rfl rfl (hw _ (wm 50 rfl)) (hb hby d9_17) rfl ?_
  refine Own.imul hx (hb hby d9_20) rfl ?_
  refine Own.vI (1 : Int32) (by decide) ?_
  have hc8 : ¬ ((64 : Int32) < (1 : Int32)) := by decide
  refine Own.icmpFn hx (Own.q_ge (64 : Int32) (1 : Int32)) (hb hby d9_21) (pcN := 24) rfl (by decide) (pcT := 42) rfl (fun _ => ?_) (fun q => absurd q hc8)
  refine Own.aloadN hx (.ref o0) (hb hby d9_42) rfl rfl rfl ?_
  refine Own.getfield hx hZ hown O7 0 5 rfl rfl (hw _ (wm 52 rfl)) (hb hby d9_43) rfl ?_
  refine Own.iconst hx (0 : Int32) (hb hby d9_46) rfl (by decide) ?_
  refine Own.aloadN hx (.ref o0) (hb hby d9_47) rfl rfl rfl ?_
  refine Own.getfield hx hZ hown O7 0 6 rfl rfl (hw _ (wm 54 rfl)) (hb hby d9_48) rfl ?_
  refine Own.aloadN hx (.ref o0) (hb hby d9_51) rfl rfl rfl ?_
  refine Own.getfield hx hZ hown O7 0 7 rfl rfl (hw _ (wm 68 rfl)) (hb hby d9_52) rfl ?_
  refine Own.aloadN hx (.ref o0) (hb hby d9_55) rfl rfl rfl ?_
  refine Own.getfield hx hZ hown O7 0 4 rfl rfl (hw _ (wm 50 rfl)) (hb hby d9_56) rfl ?_
  refine Own.imul hx (hb hby d9_59) rfl ?_
  refine Own.vI (0 : Int32) (by decide) ?_
  refine Own.aloadN hx (.ref o0) (hb hby d9_60) rfl rfl rfl ?_
  refine Own.getfield hx hZ hown O7 0 4 rfl rfl (hw _ (wm 50 rfl)) (hb hby d9_61) rfl ?_
  refine Own.acopy hx hZ hown (hw _ (wm 70 rfl)) (hw _ (wm 73 rfl)) (hw _ (wm 71 rfl)) (hw _ (wm 72 rfl)) O7 1 5 rfl rfl rfl 0 0 1 (by decide) (by decide) (by decide) (by exact (show 1 ≤ 1 by decide)) (by rw [hSL]; decide) (by exact (show 1 < 2147483648 by decide)) (by rw [hSL]; decide) (cpy SL 0 [(.long (pkA x0 x1 x2 s0 s1 s2))] 1) rfl ((o0, PSo Z (.ref ot) (.ref owd) (.ref osh) (.ref obt) (iI 1) (.ref opk) (.ref osd) (iI 0)) :: (opk, Own.ArrC Z .long [(.long (pkA x0 x1 x2 s0 s1 s2))]) :: (owd, Own.ArrC Z .int [(iI 0), (iI 0), (iI 0)]) :: (osh, Own.ArrC Z .int [(.int s0.toInt32), (.int s1.toInt32), (.int s2.toInt32)]) :: (ox, Own.ArrC Z .int [(.int x0), (.int x1), (.int x2)]) :: (osd, Own.ArrC Z .long (cpy SL 0 [(.long (pkA x0 x1 x2 s0 s1 s2))] 1)) :: (ot, STo Z (.ref ra) (.ref rb) (.int tz)) :: (ra, Own.ArrC Z .long SM) :: (rb, Own.ArrC Z .int (TB.map Value.int)) :: fr) rfl (by rw [hml]; rfl) (W := 0) (Nat.le_of_eq rfl) (by decide) (by decide) (hb hby d9_64) rfl ?_
  intro h10 O11
  refine Own.aloadN hx (.ref o0) (hb hby d9_67) rfl rfl rfl ?_
  refine Own.getfield hx hZ hown O11 0 0 rfl rfl (hw _ (wm 37 rfl)) (hb hby d9_68) rfl ?_
  refine Own.aloadN hx (.ref o0) (hb hby d9_71) rfl rfl rfl ?_
  have O12 : Own.Owns n0 h10 ((opk, Own.ArrC Z .long [(.long (pkA x0 x1 x2 s0 s1 s2))]) :: (o0, PSo Z (.ref ot) (.ref owd) (.ref osh) (.ref obt) (iI 1) (.ref opk) (.ref osd) (iI 0)) :: (owd, Own.ArrC Z .int [(iI 0), (iI 0), (iI 0)]) :: (osh, Own.ArrC Z .int [(.int s0.toInt32), (.int s1.toInt32), (.int s2.toInt32)]) :: (ox, Own.ArrC Z .int [(.int x0), (.int x1), (.int x2)]) :: (osd, Own.ArrC Z .long (cpy SL 0 [(.long (pkA x0 x1 x2 s0 s1 s2))] 1)) :: (ot, STo Z (.ref ra) (.ref rb) (.int tz)) :: (ra, Own.ArrC Z .long SM) :: (rb, Own.ArrC Z .int (TB.map Value.int)) :: fr) := O11.pick 1 rfl
  have O13 : Own.Owns n0 h10 ((o0, PSo Z (.ref ot) (.ref owd) (.ref osh) (.ref obt) (iI 1) (.ref opk) (.ref osd) (iI 0)) :: (opk, Own.ArrC Z .long [(.long (pkA x0 x1 x2 s0 s1 s2))]) :: (owd, Own.ArrC Z .int [(iI 0), (iI 0), (iI 0)]) :: (osh, Own.ArrC Z .int [(.int s0.toInt32), (.int s1.toInt32), (.int s2.toInt32)]) :: (ox, Own.ArrC Z .int [(.int x0), (.int x1), (.int x2)]) :: (osd, Own.ArrC Z .long (cpy SL 0 [(.long (pkA x0 x1 x2 s0 s1 s2))] 1)) :: (ot, STo Z (.ref ra) (.ref rb) (.int tz)) :: (ra, Own.ArrC Z .long SM) :: (rb, Own.ArrC Z .int (TB.map Value.int)) :: fr) := O12.pick 1 rfl
  refine Own.callP hx hZ hown (O13.exa (i := 0) rfl) (hw _ (wm 74 rfl)) (hw _ (wm 75 rfl)) (hw _ (wm 10 rfl)) (hw _ (wm 76 rfl)) (hw _ (wm 11 rfl)) (hw _ (wm 77 rfl)) (by decide) pd8 (argsL := []) (rest := [(.ref ot)]) rfl (W := 1) (Nat.le_of_eq rfl) (rm := ({ frames := 1, cells := 0, slots := 0, locals := 15 } : Room)) (by decide) (by decide) (by decide) (by decide) (k' := 0) (n' := 0) rfl rfl (by rw [hml]; rfl) [(.ref o0), (.ref ot)] rfl (hb hby d9_72) (pc' := 75) rfl (rm12_1 l Z a0 hw o0 h10 n0 ot ra rb owd osh obt opk osd (0 : Int32) (pkA x0 x1 x2 s0 s1 s2) ((owd, Own.ArrC Z .int [(iI 0), (iI 0), (iI 0)]) :: (osh, Own.ArrC Z .int [(.int s0.toInt32), (.int s1.toInt32), (.int s2.toInt32)]) :: (ox, Own.ArrC Z .int [(.int x0), (.int x1), (.int x2)]) :: (osd, Own.ArrC Z .long (cpy SL 0 [(.long (pkA x0 x1 x2 s0 s1 s2))] 1)) :: (ot, STo Z (.ref ra) (.ref rb) (.int tz)) :: (ra, Own.ArrC Z .long SM) :: (rb, Own.ArrC Z .int (TB.map Value.int)) :: fr) O13) ?_
  rintro _ h' ⟨rfl, eh⟩
  rw [eh]; clear eh h'
  show Own.Goes _ _ _ _ _ _ _ _ _ _ _ _ _ _ _ _ _ (mkF m 75 #[.val (.ref o0), .val (.ref ox)] [(.long (fMix ((0 : Int64) + (pkA x0 x1 x2 s0 s1 s2)))), (.ref ot)])
  refine Own.aloadN hx (.ref o0) (hb hby d9_75) rfl rfl rfl ?_
  refine Own.getfield hx hZ hown O13 0 7 rfl rfl (hw _ (wm 68 rfl)) (hb hby d9_76) rfl ?_
  have O14 : Own.Owns n0 h10 ((rb, Own.ArrC Z .int (TB.map Value.int)) :: (o0, PSo Z (.ref ot) (.ref owd) (.ref osh) (.ref obt) (iI 1) (.ref opk) (.ref osd) (iI 0)) :: (opk, Own.ArrC Z .long [(.long (pkA x0 x1 x2 s0 s1 s2))]) :: (owd, Own.ArrC Z .int [(iI 0), (iI 0), (iI 0)]) :: (osh, Own.ArrC Z .int [(.int s0.toInt32), (.int s1.toInt32), (.int s2.toInt32)]) :: (ox, Own.ArrC Z .int [(.int x0), (.int x1), (.int x2)]) :: (osd, Own.ArrC Z .long (cpy SL 0 [(.long (pkA x0 x1 x2 s0 s1 s2))] 1)) :: (ot, STo Z (.ref ra) (.ref rb) (.int tz)) :: (ra, Own.ArrC Z .long SM) :: fr) := O13.pick 8 rfl
  have O15 : Own.Owns n0 h10 ((ra, Own.ArrC Z .long SM) :: (rb, Own.ArrC Z .int (TB.map Value.int)) :: (o0, PSo Z (.ref ot) (.ref owd) (.ref osh) (.ref obt) (iI 1) (.ref opk) (.ref osd) (iI 0)) :: (opk, Own.ArrC Z .long [(.long (pkA x0 x1 x2 s0 s1 s2))]) :: (owd, Own.ArrC Z .int [(iI 0), (iI 0), (iI 0)]) :: (osh, Own.ArrC Z .int [(.int s0.toInt32), (.int s1.toInt32), (.int s2.toInt32)]) :: (ox, Own.ArrC Z .int [(.int x0), (.int x1), (.int x2)]) :: (osd, Own.ArrC Z .long (cpy SL 0 [(.long (pkA x0 x1 x2 s0 s1 s2))] 1)) :: (ot, STo Z (.ref ra) (.ref rb) (.int tz)) :: fr) := O14.pick 8 rfl
  have O16 : Own.Owns n0 h10 ((ot, STo Z (.ref ra) (.ref rb) (.int tz)) :: (ra, Own.ArrC Z .long SM) :: (rb, Own.ArrC Z .int (TB.map Value.int)) :: (o0, PSo Z (.ref ot) (.ref owd) (.ref osh) (.ref obt) (iI 1) (.ref opk) (.ref osd) (iI 0)) :: (opk, Own.ArrC Z .long [(.long (pkA x0 x1 x2 s0 s1 s2))]) :: (owd, Own.ArrC Z .int [(iI 0), (iI 0), (iI 0)]) :: (osh, Own.ArrC Z .int [(.int s0.toInt32), (.int s1.toInt32), (.int s2.toInt32)]) :: (ox, Own.ArrC Z .int [(.int x0), (.int x1), (.int x2)]) :: (osd, Own.ArrC Z .long (cpy SL 0 [(.long (pkA x0 x1 x2 s0 s1 s2))] 1)) :: fr) := O15.pick 8 rfl
  refine Own.callV hx hZ hown (O16.exa (i := 0) rfl) (hw _ (wm 83 rfl)) (hw _ (wm 84 rfl)) (hw _ (wm 86 rfl)) (hw _ (wm 85 rfl)) (hw _ (wm 20 rfl)) (hw _ (wm 87 rfl)) (by decide) pd9 (argsL := [(.long (fMix ((0 : Int64) + (pkA x0 x1 x2 s0 s1 s2)))), (.int (0 : Int32))]) (rest := []) rfl (W := 0) (Nat.le_of_eq rfl) (rm := ({ frames := 2, cells := 0, slots := 0, locals := 29 } : Room)) (by decide) (by decide) (by decide) (by decide) (k' := 0) (n' := 0) rfl rfl (by rw [hml]; rfl) [(.int (0 : Int32)), (.long (fMix ((0 : Int64) + (pkA x0 x1 x2 s0 s1 s2)))), (.ref ot)] rfl (hb hby d9_79) (pc' := 82) rfl (rm14 l Z a0 hw ot (fMix ((0 : Int64) + (pkA x0 x1 x2 s0 s1 s2))) (0 : Int32) h10 n0 ra rb tz SM TB hSM hTB (Nat.le_trans (by decide) hct) htz ((o0, PSo Z (.ref ot) (.ref owd) (.ref osh) (.ref obt) (iI 1) (.ref opk) (.ref osd) (iI 0)) :: (opk, Own.ArrC Z .long [(.long (pkA x0 x1 x2 s0 s1 s2))]) :: (owd, Own.ArrC Z .int [(iI 0), (iI 0), (iI 0)]) :: (osh, Own.ArrC Z .int [(.int s0.toInt32), (.int s1.toInt32), (.int s2.toInt32)]) :: (ox, Own.ArrC Z .int [(.int x0), (.int x1), (.int x2)]) :: (osd, Own.ArrC Z .long (cpy SL 0 [(.long (pkA x0 x1 x2 s0 s1 s2))] 1)) :: fr) O16) ?_
  rintro _ h17 ⟨j, hj, rfl, O18⟩
  show Own.Goes _ _ _ _ _ _ _ _ _ _ _ _ _ _ _ _ _ (mkF m 82 #[.val (.ref o0), .val (.ref ox)] [])
  refine Own.aloadN hx (.ref o0) (hb hby d9_82) rfl rfl rfl ?_
  refine Own.dup hx (hb hby d9_83) rfl rfl ?_
  refine Own.getfield hx hZ hown O18 3 7 rfl rfl (hw _ (wm 68 rfl)) (hb hby d9_84) rfl ?_
  refine Own.iconst hx (1 : Int32) (hb hby d9_87) rfl (by decide) ?_
  refine Own.iadd hx (hb hby d9_88) rfl ?_
  refine Own.vI (1 : Int32) (by decide) ?_
  refine Own.putfield hx hZ hown O18 3 7 rfl rfl (hw _ (wm 68 rfl)) (Or.inl (hw _ (wm 69 rfl))) (hw _ (wm 10 rfl)) (ty := .int) (by decide) rfl rfl ((ot, STo Z (.ref ra) (.ref rb) (.int (tz + (1 : Int32)))) :: (ra, Own.ArrC Z .long (SM.set j (.long (fMix ((0 : Int64) + (pkA x0 x1 x2 s0 s1 s2)))))) :: (rb, Own.ArrC Z .int ((TB.set j (0 : Int32)).map Value.int)) :: (o0, PSo Z (.ref ot) (.ref owd) (.ref osh) (.ref obt) (iI 1) (.ref opk) (.ref osd) (iI 1)) :: (opk, Own.ArrC Z .long [(.long (pkA x0 x1 x2 s0 s1 s2))]) :: (owd, Own.ArrC Z .int [(iI 0), (iI 0), (iI 0)]) :: (osh, Own.ArrC Z .int [(.int s0.toInt32), (.int s1.toInt32), (.int s2.toInt32)]) :: (ox, Own.ArrC Z .int [(.int x0), (.int x1), (.int x2)]) :: (osd, Own.ArrC Z .long (cpy SL 0 [(.long (pkA x0 x1 x2 s0 s1 s2))] 1)) :: fr) rfl (hb hby d9_89) rfl ?_
  intro h19 O20
  refine Own.aloadN hx (.ref o0) (hb hby d9_92) rfl rfl rfl ?_
  refine Own.getfield hx hZ hown O20 3 7 rfl rfl (hw _ (wm 68 rfl)) (hb hby d9_93) rfl ?_
  refine Own.iconst hx (1 : Int32) (hb hby d9_96) rfl (by decide) ?_
  refine Own.isub hx (hb hby d9_97) rfl ?_
  refine Own.vI (0 : Int32) (by decide) ?_
  have O21 : Own.Owns n0 h19 ((ox, Own.ArrC Z .int [(.int x0), (.int x1), (.int x2)]) :: (ot, STo Z (.ref ra) (.ref rb) (.int (tz + (1 : Int32)))) :: (ra, Own.ArrC Z .long (SM.set j (.long (fMix ((0 : Int64) + (pkA x0 x1 x2 s0 s1 s2)))))) :: (rb, Own.ArrC Z .int ((TB.set j (0 : Int32)).map Value.int)) :: (o0, PSo Z (.ref ot) (.ref owd) (.ref osh) (.ref obt) (iI 1) (.ref opk) (.ref osd) (iI 1)) :: (opk, Own.ArrC Z .long [(.long (pkA x0 x1 x2 s0 s1 s2))]) :: (owd, Own.ArrC Z .int [(iI 0), (iI 0), (iI 0)]) :: (osh, Own.ArrC Z .int [(.int s0.toInt32), (.int s1.toInt32), (.int s2.toInt32)]) :: (osd, Own.ArrC Z .long (cpy SL 0 [(.long (pkA x0 x1 x2 s0 s1 s2))] 1)) :: fr) := O20.pick 7 rfl
  have O22 : Own.Owns n0 h19 ((rb, Own.ArrC Z .int ((TB.set j (0 : Int32)).map Value.int)) :: (ox, Own.ArrC Z .int [(.int x0), (.int x1), (.int x2)]) :: (ot, STo Z (.ref ra) (.ref rb) (.int (tz + (1 : Int32)))) :: (ra, Own.ArrC Z .long (SM.set j (.long (fMix ((0 : Int64) + (pkA x0 x1 x2 s0 s1 s2)))))) :: (o0, PSo Z (.ref ot) (.ref owd) (.ref osh) (.ref obt) (iI 1) (.ref opk) (.ref osd) (iI 1)) :: (opk, Own.ArrC Z .long [(.long (pkA x0 x1 x2 s0 s1 s2))]) :: (owd, Own.ArrC Z .int [(iI 0), (iI 0), (iI 0)]) :: (osh, Own.ArrC Z .int [(.int s0.toInt32), (.int s1.toInt32), (.int s2.toInt32)]) :: (osd, Own.ArrC Z .long (cpy SL 0 [(.long (pkA x0 x1 x2 s0 s1 s2))] 1)) :: fr) := O21.pick 3 rfl
  have O23 : Own.Owns n0 h19 ((ra, Own.ArrC Z .long (SM.set j (.long (fMix ((0 : Int64) + (pkA x0 x1 x2 s0 s1 s2)))))) :: (rb, Own.ArrC Z .int ((TB.set j (0 : Int32)).map Value.int)) :: (ox, Own.ArrC Z .int [(.int x0), (.int x1), (.int x2)]) :: (ot, STo Z (.ref ra) (.ref rb) (.int (tz + (1 : Int32)))) :: (o0, PSo Z (.ref ot) (.ref owd) (.ref osh) (.ref obt) (iI 1) (.ref opk) (.ref osd) (iI 1)) :: (opk, Own.ArrC Z .long [(.long (pkA x0 x1 x2 s0 s1 s2))]) :: (owd, Own.ArrC Z .int [(iI 0), (iI 0), (iI 0)]) :: (osh, Own.ArrC Z .int [(.int s0.toInt32), (.int s1.toInt32), (.int s2.toInt32)]) :: (osd, Own.ArrC Z .long (cpy SL 0 [(.long (pkA x0 x1 x2 s0 s1 s2))] 1)) :: fr) := O22.pick 3 rfl
  have O24 : Own.Owns n0 h19 ((ot, STo Z (.ref ra) (.ref rb) (.int (tz + (1 : Int32)))) :: (ra, Own.ArrC Z .long (SM.set j (.long (fMix ((0 : Int64) + (pkA x0 x1 x2 s0 s1 s2)))))) :: (rb, Own.ArrC Z .int ((TB.set j (0 : Int32)).map Value.int)) :: (ox, Own.ArrC Z .int [(.int x0), (.int x1), (.int x2)]) :: (o0, PSo Z (.ref ot) (.ref owd) (.ref osh) (.ref obt) (iI 1) (.ref opk) (.ref osd) (iI 1)) :: (opk, Own.ArrC Z .long [(.long (pkA x0 x1 x2 s0 s1 s2))]) :: (owd, Own.ArrC Z .int [(iI 0), (iI 0), (iI 0)]) :: (osh, Own.ArrC Z .int [(.int s0.toInt32), (.int s1.toInt32), (.int s2.toInt32)]) :: (osd, Own.ArrC Z .long (cpy SL 0 [(.long (pkA x0 x1 x2 s0 s1 s2))] 1)) :: fr) := O23.pick 3 rfl
  have O25 : Own.Owns n0 h19 ((osd, Own.ArrC Z .long (cpy SL 0 [(.long (pkA x0 x1 x2 s0 s1 s2))] 1)) :: (ot, STo Z (.ref ra) (.ref rb) (.int (tz + (1 : Int32)))) :: (ra, Own.ArrC Z .long (SM.set j (.long (fMix ((0 : Int64) + (pkA x0 x1 x2 s0 s1 s2)))))) :: (rb, Own.ArrC Z .int ((TB.set j (0 : Int32)).map Value.int)) :: (ox, Own.ArrC Z .int [(.int x0), (.int x1), (.int x2)]) :: (o0, PSo Z (.ref ot) (.ref owd) (.ref osh) (.ref obt) (iI 1) (.ref opk) (.ref osd) (iI 1)) :: (opk, Own.ArrC Z .long [(.long (pkA x0 x1 x2 s0 s1 s2))]) :: (owd, Own.ArrC Z .int [(iI 0), (iI 0), (iI 0)]) :: (osh, Own.ArrC Z .int [(.int s0.toInt32), (.int s1.toInt32), (.int s2.toInt32)]) :: fr) := O24.pick 8 rfl
  have O26 : Own.Owns n0 h19 ((osh, Own.ArrC Z .int [(.int s0.toInt32), (.int s1.toInt32), (.int s2.toInt32)]) :: (osd, Own.ArrC Z .long (cpy SL 0 [(.long (pkA x0 x1 x2 s0 s1 s2))] 1)) :: (ot, STo Z (.ref ra) (.ref rb) (.int (tz + (1 : Int32)))) :: (ra, Own.ArrC Z .long (SM.set j (.long (fMix ((0 : Int64) + (pkA x0 x1 x2 s0 s1 s2)))))) :: (rb, Own.ArrC Z .int ((TB.set j (0 : Int32)).map Value.int)) :: (ox, Own.ArrC Z .int [(.int x0), (.int x1), (.int x2)]) :: (o0, PSo Z (.ref ot) (.ref owd) (.ref osh) (.ref obt) (iI 1) (.ref opk) (.ref osd) (iI 1)) :: (opk, Own.ArrC Z .long [(.long (pkA x0 x1 x2 s0 s1 s2))]) :: (owd, Own.ArrC Z .int [(iI 0), (iI 0), (iI 0)]) :: fr) := O25.pick 8 rfl
  have O27 : Own.Owns n0 h19 ((owd, Own.ArrC Z .int [(iI 0), (iI 0), (iI 0)]) :: (osh, Own.ArrC Z .int [(.int s0.toInt32), (.int s1.toInt32), (.int s2.toInt32)]) :: (osd, Own.ArrC Z .long (cpy SL 0 [(.long (pkA x0 x1 x2 s0 s1 s2))] 1)) :: (ot, STo Z (.ref ra) (.ref rb) (.int (tz + (1 : Int32)))) :: (ra, Own.ArrC Z .long (SM.set j (.long (fMix ((0 : Int64) + (pkA x0 x1 x2 s0 s1 s2)))))) :: (rb, Own.ArrC Z .int ((TB.set j (0 : Int32)).map Value.int)) :: (ox, Own.ArrC Z .int [(.int x0), (.int x1), (.int x2)]) :: (o0, PSo Z (.ref ot) (.ref owd) (.ref osh) (.ref obt) (iI 1) (.ref opk) (.ref osd) (iI 1)) :: (opk, Own.ArrC Z .long [(.long (pkA x0 x1 x2 s0 s1 s2))]) :: fr) := O26.pick 8 rfl
  have O28 : Own.Owns n0 h19 ((opk, Own.ArrC Z .long [(.long (pkA x0 x1 x2 s0 s1 s2))]) :: (owd, Own.ArrC Z .int [(iI 0), (iI 0), (iI 0)]) :: (osh, Own.ArrC Z .int [(.int s0.toInt32), (.int s1.toInt32), (.int s2.toInt32)]) :: (osd, Own.ArrC Z .long (cpy SL 0 [(.long (pkA x0 x1 x2 s0 s1 s2))] 1)) :: (ot, STo Z (.ref ra) (.ref rb) (.int (tz + (1 : Int32)))) :: (ra, Own.ArrC Z .long (SM.set j (.long (fMix ((0 : Int64) + (pkA x0 x1 x2 s0 s1 s2)))))) :: (rb, Own.ArrC Z .int ((TB.set j (0 : Int32)).map Value.int)) :: (ox, Own.ArrC Z .int [(.int x0), (.int x1), (.int x2)]) :: (o0, PSo Z (.ref ot) (.ref owd) (.ref osh) (.ref obt) (iI 1) (.ref opk) (.ref osd) (iI 1)) :: fr) := O27.pick 8 rfl
  have O29 : Own.Owns n0 h19 ((o0, PSo Z (.ref ot) (.ref owd) (.ref osh) (.ref obt) (iI 1) (.ref opk) (.ref osd) (iI 1)) :: (opk, Own.ArrC Z .long [(.long (pkA x0 x1 x2 s0 s1 s2))]) :: (owd, Own.ArrC Z .int [(iI 0), (iI 0), (iI 0)]) :: (osh, Own.ArrC Z .int [(.int s0.toInt32), (.int s1.toInt32), (.int s2.toInt32)]) :: (osd, Own.ArrC Z .long (cpy SL 0 [(.long (pkA x0 x1 x2 s0 s1 s2))] 1)) :: (ot, STo Z (.ref ra) (.ref rb) (.int (tz + (1 : Int32)))) :: (ra, Own.ArrC Z .long (SM.set j (.long (fMix ((0 : Int64) + (pkA x0 x1 x2 s0 s1 s2)))))) :: (rb, Own.ArrC Z .int ((TB.set j (0 : Int32)).map Value.int)) :: (ox, Own.ArrC Z .int [(.int x0), (.int x1), (.int x2)]) :: fr) := O28.pick 8 rfl
  exact Own.retI hx hret hlk (hb hby d9_98) (by decide) (by decide) ⟨(cpy SL 0 [(.long (pkA x0 x1 x2 s0 s1 s2))] 1), (SM.set j (.long (fMix ((0 : Int64) + (pkA x0 x1 x2 s0 s1 s2))))), (TB.set j (0 : Int32)), rfl, cpy_len hSL (by decide) (by decide) rfl, cpy_at (d := 0) (k := 0) (by rw [hSL]; decide) rfl, fun j' hj' => cpy_lo (by rw [hSL]; decide) hj', (List.length_set ..).trans hSM, (List.length_set ..).trans hTB, own_count (by rw [hTB]; exact hj) hct, O29⟩

theorem ef9_11 (m : MethodId) (x0 : Addr) (x1 : Addr) : entryFrame m #[(.ref x0), (.ref x1)] 2 = mkF m 0 #[.val (.ref x0), .val (.ref x1)] [] := by first | (simp [entryFrame, mkF, argsToLocals, Value.category]; done) | rfl
set_option maxRecDepth 65536 in
set_option maxHeartbeats 40000000 in
theorem rm9_11 (l : Launch) (Z : State) (a0 : Array Value) (hw : ∀ d ∈ tables_1, d.before a0 Z = true) (o0 : Addr) (ox : Addr) (h0 : Heap) (n0 : Nat) (ot ra rb owd osh obt opk osd : Addr) (pv0 : Int64) (x0 x1 x2 : Int32) (s0 s1 s2 : Nat) (tz : Int32) (SL SM : List Value) (TB : List Int32) (hSL : SL.length = 64) (hSM : SM.length = 1024) (hTB : TB.length = 1024) (hct : 1 ≤ TB.count (-1)) (htz : ¬ (1024 : Int32) < ((2 : Int32) * (tz + (1 : Int32)))) (fr : List (Addr × (Cell → Prop))) (O0 : Own.Owns n0 h0 ((o0, PSo Z (.ref ot) (.ref owd) (.ref osh) (.ref obt) (iI 1) (.ref opk) (.ref osd) (iI 1)) :: (opk, Own.ArrC Z .long [(.long pv0)]) :: (owd, Own.ArrC Z .int [(iI 0), (iI 0), (iI 0)]) :: (osh, Own.ArrC Z .int [(.int s0.toInt32), (.int s1.toInt32), (.int s2.toInt32)]) :: (osd, Own.ArrC Z .long SL) :: (ot, STo Z (.ref ra) (.ref rb) (.int tz)) :: (ra, Own.ArrC Z .long SM) :: (rb, Own.ArrC Z .int (TB.map Value.int)) :: (ox, Own.ArrC Z .int [(.int x0), (.int x1), (.int x2)]) :: fr))  : Own.Does l (⟨"com/example/cuesheet/cuesheet/core/PackedStates", "add", "([I)I"⟩ : MethodName) prog_12_method_5_code 2 (some .int) [] ({ frames := 3, cells := 0, slots := 0, locals := 45 } : Room) Z #[(.ref o0), (.ref ox)] h0 n0 (fun v h => ∃ (SL' SM' : List Value) (TB' : List Int32), v = some (.int (1 : Int32)) ∧ SL'.length = 64 ∧ SL'[1]? = some (.long (pkA x0 x1 x2 s0 s1 s2)) ∧ (∀ j, j < 1 → SL'[j]? = SL[j]?) ∧ SM'.length = 1024 ∧ TB'.length = 1024 ∧ 0 ≤ TB'.count (-1) ∧ Own.Owns n0 h ((o0, PSo Z (.ref ot) (.ref owd) (.ref osh) (.ref obt) (iI 1) (.ref opk) (.ref osd) (iI 2)) :: (opk, Own.ArrC Z .long [(.long (pkA x0 x1 x2 s0 s1 s2))]) :: (owd, Own.ArrC Z .int [(iI 0), (iI 0), (iI 0)]) :: (osh, Own.ArrC Z .int [(.int s0.toInt32), (.int s1.toInt32), (.int s2.toInt32)]) :: (osd, Own.ArrC Z .long SL') :: (ot, STo Z (.ref ra) (.ref rb) (.int (tz + (1 : Int32)))) :: (ra, Own.ArrC Z .long SM') :: (rb, Own.ArrC Z .int (TB'.map Value.int)) :: (ox, Own.ArrC Z .int [(.int x0), (.int x1), (.int x2)]) :: fr)) := by
  refine Own.doesOf pn13 ?_
  intro p e s m below meth c hx hby hml hret hlk hown hnm hZ
  refine Own.Goes.cast (ef9_11 m o0 ox) ?_
  refine Own.aloadN hx (.ref o0) (hb hby d9_0) rfl rfl rfl ?_
  refine Own.aloadN hx (.ref ox) (hb hby d9_1) rfl rfl rfl ?_
  have O1 : Own.Owns n0 h0 ((ox, Own.ArrC Z .int [(.int x0), (.int x1), (.int x2)]) :: (o0, PSo Z (.ref ot) (.ref owd) (.ref osh) (.ref obt) (iI 1) (.ref opk) (.ref osd) (iI 1)) :: (opk, Own.ArrC Z .long [(.long pv0)]) :: (owd, Own.ArrC Z .int [(iI 0), (iI 0), (iI 0)]) :: (osh, Own.ArrC Z .int [(.int s0.toInt32), (.int s1.toInt32), (.int s2.toInt32)]) :: (osd, Own.ArrC Z .long SL) :: (ot, STo Z (.ref ra) (.ref rb) (.int tz)) :: (ra, Own.ArrC Z .long SM) :: (rb, Own.ArrC Z .int (TB.map Value.int)) :: fr) := O0.pick 8 rfl
  have O2 : Own.Owns n0 h0 ((osh, Own.ArrC Z .int [(.int s0.toInt32), (.int s1.toInt32), (.int s2.toInt32)]) :: (ox, Own.ArrC Z .int [(.int x0), (.int x1), (.int x2)]) :: (o0, PSo Z (.ref ot) (.ref owd) (.ref osh) (.ref obt) (iI 1) (.ref opk) (.ref osd) (iI 1)) :: (opk, Own.ArrC Z .long [(.long pv0)]) :: (owd, Own.ArrC Z .int [(iI 0), (iI 0), (iI 0)]) :: (osd, Own.ArrC Z .long SL) :: (ot, STo Z (.ref ra) (.ref rb) (.int tz)) :: (ra, Own.ArrC Z .long SM) :: (rb, Own.ArrC Z .int (TB.map Value.int)) :: fr) := O1.pick 4 rfl
  have O3 : Own.Owns n0 h0 ((owd, Own.ArrC Z .int [(iI 0), (iI 0), (iI 0)]) :: (osh, Own.ArrC Z .int [(.int s0.toInt32), (.int s1.toInt32), (.int s2.toInt32)]) :: (ox, Own.ArrC Z .int [(.int x0), (.int x1), (.int x2)]) :: (o0, PSo Z (.ref ot) (.ref owd) (.ref osh) (.ref obt) (iI 1) (.ref opk) (.ref osd) (iI 1)) :: (opk, Own.ArrC Z .long [(.long pv0)]) :: (osd, Own.ArrC Z .long SL) :: (ot, STo Z (.ref ra) (.ref rb) (.int tz)) :: (ra, Own.ArrC Z .long SM) :: (rb, Own.ArrC Z .int (TB.map Value.int)) :: fr) := O2.pick 4 rfl
  have O4 : Own.Owns n0 h0 ((opk, Own.ArrC Z .long [(.long pv0)]) :: (owd, Own.ArrC Z .int [(iI 0), (iI 0), (iI 0)]) :: (osh, Own.ArrC Z .int [(.int s0.toInt32), (.int s1.toInt32), (.int s2.toInt32)]) :: (ox, Own.ArrC Z .int [(.int x0), (.int x1), (.int x2)]) :: (o0, PSo Z (.ref ot) (.ref owd) (.ref osh) (.ref obt) (iI 1) (.ref opk) (.ref osd) (iI 1)) :: (osd, Own.ArrC Z .long SL) :: (ot, STo Z (.ref ra) (.ref rb) (.int tz)) :: (ra, Own.ArrC Z .long SM) :: (rb, Own.ArrC Z .int (TB.map Value.int)) :: fr) := O3.pick 4 rfl
  have O5 : Own.Owns n0 h0 ((o0, PSo Z (.ref ot) (.ref owd) (.ref osh) (.ref obt) (iI 1) (.ref opk) (.ref osd) (iI 1)) :: (opk, Own.ArrC Z .long [(.long pv0)]) :: (owd, Own.ArrC Z .int [(iI 0), (iI 0), (iI 0)]) :: (osh, Own.ArrC Z .int [(.int s0.toInt32), (.int s1.toInt32), (.int s2.toInt32)]) :: (ox, Own.ArrC Z .int [(.int x0), (.int x1), (.int x2)]) :: (osd, Own.ArrC Z .long SL) :: (ot, STo Z (.ref ra) (.ref rb) (.int tz)) :: (ra, Own.ArrC Z .long SM) :: (rb, Own.ArrC Z .int (TB.map Value.int)) :: fr) := O4.pick 4 rfl
  refine Own.callP hx hZ hown (O5.exa (i := 0) rfl) (hw _ (wm 61 rfl)) (hw _ (wm 62 rfl)) (hw _ (wm 10 rfl)) (hw _ (wm 63 rfl)) (hw _ (wm 11 rfl)) (hw _ (wm 64 rfl)) (by decide) pd7 (argsL := [(.ref ox)]) (rest := []) rfl (W := 0) (Nat.le_of_eq rfl) (rm := ({ frames := 1, cells := 0, slots := 0, locals := 16 } : Room)) (by decide) (by decide) (by decide) (by decide) (k' := 0) (n' := 0) rfl rfl (by rw [hml]; rfl) [(.ref ox), (.ref o0)] rfl (hb hby d9_2) (pc' := 5) rfl (rm10_1 l Z a0 hw o0 ox h0 n0 ot ra rb owd osh obt opk osd (1 : Int32) pv0 x0 x1 x2 s0 s1 s2 ((osd, Own.ArrC Z .long SL) :: (ot, STo Z (.ref ra) (.ref rb) (.int tz)) :: (ra, Own.ArrC Z .long SM) :: (rb, Own.ArrC Z .int (TB.map Value.int)) :: fr) O5) ?_
  rintro _ h6 ⟨rfl, O7⟩
  show Own.Goes _ _ _ _ _ _ _ _ _ _ _ _ _ _ _ _ _ (mkF m 5 #[.val (.ref o0), .val (.ref ox)] [])
  refine Own.aloadN hx (.ref o0) (hb hby d9_5) rfl rfl rfl ?_
  refine Own.getfield hx hZ hown O7 0 6 rfl rfl (hw _ (wm 54 rfl)) (hb hby d9_6) rfl ?_
  refine Own.arrlen hx hZ O7 5 rfl (64 : Int32) (by rw [hSL]; rfl) (hb hby d9_9) rfl ?_
  refine Own.aloadN hx (.ref o0) (hb hby d9_10) rfl rfl rfl ?_
  refine Own.getfield hx hZ hown O7 0 7 rfl rfl (hw _ (wm 68 rfl)) (hb hby d9_11) rfl ?_
  refine Own.iconst hx (1 : Int32) (hb hby d9_14) rfl (by decide) ?_
  refine Own.iadd hx (hb hby d9_15) rfl ?_
  refine Own.vI (2 : Int32) (by decide) ?_
  refine Own.aloadN hx (.ref o0) (hb hby d9_16) rfl rfl rfl ?_
  refine Own.getfield hx hZ hown O7 0 4 rfl rfl (hw _ (wm 50 rfl)) (hb hby d9_17) rfl ?_
  refine Own.imul hx (hb hby d9_20) rfl ?_
  refine Own.vI (2 : Int32) (by decide) ?_
  have hc8 : ¬ ((64 : Int32) < (2 : Int32)) := by decide
  refine Own.icmpFn hx (Own.q_ge (64 : Int32) (2 : Int32)) (hb hby d9_21) (pcN := 24) rfl (by decide) (pcT := 42) rfl (fun _ => ?_) (fun q => absurd q hc8)
  refine Own.aloadN hx (.ref o0) (hb hby d9_42) rfl rfl rfl ?_
  refine Own.getfield hx hZ hown O7 0 5 rfl rfl (hw _ (wm 52 rfl)) (hb hby d9_43) rfl ?_
  refine Own.iconst hx (0 : Int32) (hb hby d9_46) rfl (by decide) ?_
  refine Own.aloadN hx (.ref o0) (hb hby d9_47) rfl rfl rfl ?_
  refine Own.getfield hx hZ hown O7 0 6 rfl rfl (hw _ (wm 54 rfl)) (hb hby d9_48) rfl ?_
  refine Own.aloadN hx (.ref o0) (hb hby d9_51) rfl rfl rfl ?_
  refine Own.getfield hx hZ hown O7 0 7 rfl rfl (hw _ (wm 68 rfl)) (hb hby d9_52) rfl ?_
  refine Own.aloadN hx (.ref o0) (hb hby d9_55) rfl rfl rfl ?_
  refine Own.getfield hx hZ hown O7 0 4 rfl rfl (hw _ (wm 50 rfl)) (hb hby d9_56) rfl ?_
  refine Own.imul hx (hb hby d9_59) rfl ?_
  refine Own.vI (1 : Int32) (by decide) ?_
  refine Own.aloadN hx (.ref o0) (hb hby d9_60) rfl rfl rfl ?_
  refine Own.getfield hx hZ hown O7 0 4 rfl rfl (hw _ (wm 50 rfl)) (hb hby d9_61) rfl ?_
  refine Own.acopy hx hZ hown (hw _ (wm 70 rfl)) (hw _ (wm 73 rfl)) (hw _ (wm 71 rfl)) (hw _ (wm 72 rfl)) O7 1 5 rfl rfl rfl 0 1 1 (by decide) (by decide) (by decide) (by exact (show 1 ≤ 1 by decide)) (by rw [hSL]; decide) (by exact (show 1 < 2147483648 by decide)) (by rw [hSL]; decide) (cpy SL 1 [(.long (pkA x0 x1 x2 s0 s1 s2))] 2) rfl ((o0, PSo Z (.ref ot) (.ref owd) (.ref osh) (.ref obt) (iI 1) (.ref opk) (.ref osd) (iI 1)) :: (opk, Own.ArrC Z .long [(.long (pkA x0 x1 x2 s0 s1 s2))]) :: (owd, Own.ArrC Z .int [(iI 0), (iI 0), (iI 0)]) :: (osh, Own.ArrC Z .int [(.int s0.toInt32), (.int s1.toInt32), (.int s2.toInt32)]) :: (ox, Own.ArrC Z .int [(.int x0), (.int x1), (.int x2)]) :: (osd, Own.ArrC Z .long (cpy SL 1 [(.long (pkA x0 x1 x2 s0 s1 s2))] 2)) :: (ot, STo Z (.ref ra) (.ref rb) (.int tz)) :: (ra, Own.ArrC Z .long SM) :: (rb, Own.ArrC Z .int (TB.map Value.int)) :: fr) rfl (by rw [hml]; rfl) (W := 0) (Nat.le_of_eq rfl) (by decide) (by decide) (hb hby d9_64) rfl ?_
  intro h10 O11
  refine Own.aloadN hx (.ref o0) (hb hby d9_67) rfl rfl rfl ?_
  refine Own.getfield hx hZ hown O11 0 0 rfl rfl (hw _ (wm 37 rfl)) (hb hby d9_68) rfl ?_
  refine Own.aloadN hx (.ref o0) (hb hby d9_71) rfl rfl rfl ?_
  have O12 : Own.Owns n0 h10 ((opk, Own.ArrC Z .long [(.long (pkA x0 x1 x2 s0 s1 s2))]) :: (o0, PSo Z (.ref ot) (.ref owd) (.ref osh) (.ref obt) (iI 1) (.ref opk) (.ref osd) (iI 1)) :: (owd, Own.ArrC Z .int [(iI 0), (iI 0), (iI 0)]) :: (osh, Own.ArrC Z .int [(.int s0.toInt32), (.int s1.toInt32), (.int s2.toInt32)]) :: (ox, Own.ArrC Z .int [(.int x0), (.int x1), (.int x2)]) :: (osd, Own.ArrC Z .long (cpy SL 1 [(.long (pkA x0 x1 x2 s0 s1 s2))] 2)) :: (ot, STo Z (.ref ra) (.ref rb) (.int tz)) :: (ra, Own.ArrC Z .long SM) :: (rb, Own.ArrC Z .int (TB.map Value.int)) :: fr) := O11.pick 1 rfl
  have O13 : Own.Owns n0 h10 ((o0, PSo Z (.ref ot) (.ref owd) (.ref osh) (.ref obt) (iI 1) (.ref opk) (.ref osd) (iI 1)) :: (opk, Own.ArrC Z .long [(.long (pkA x0 x1 x2 s0 s1 s2))]) :: (owd, Own.ArrC Z .int [(iI 0), (iI 0), (iI 0)]) :: (osh, Own.ArrC Z .int [(.int s0.toInt32), (.int s1.toInt32), (.int s2.toInt32)]) :: (ox, Own.ArrC Z .int [(.int x0), (.int x1), (.int x2)]) :: (osd, Own.ArrC Z .long (cpy SL 1 [(.long (pkA x0 x1 x2 s0 s1 s2))] 2)) :: (ot, STo Z (.ref ra) (.ref rb) (.int tz)) :: (ra, Own.ArrC Z .long SM) :: (rb, Own.ArrC Z .int (TB.map Value.int)) :: fr) := O12.pick 1 rfl
  refine Own.callP hx hZ hown (O13.exa (i := 0) rfl) (hw _ (wm 74 rfl)) (hw _ (wm 75 rfl)) (hw _ (wm 10 rfl)) (hw _ (wm 76 rfl)) (hw _ (wm 11 rfl)) (hw _ (wm 77 rfl)) (by decide) pd8 (argsL := []) (rest := [(.ref ot)]) rfl (W := 1) (Nat.le_of_eq rfl) (rm := ({ frames := 1, cells := 0, slots := 0, locals := 15 } : Room)) (by decide) (by decide) (by decide) (by decide) (k' := 0) (n' := 0) rfl rfl (by rw [hml]; rfl) [(.ref o0), (.ref ot)] rfl (hb hby d9_72) (pc' := 75) rfl (rm12_1 l Z a0 hw o0 h10 n0 ot ra rb owd osh obt opk osd (1 : Int32) (pkA x0 x1 x2 s0 s1 s2) ((owd, Own.ArrC Z .int [(iI 0), (iI 0), (iI 0)]) :: (osh, Own.ArrC Z .int [(.int s0.toInt32), (.int s1.toInt32), (.int s2.toInt32)]) :: (ox, Own.ArrC Z .int [(.int x0), (.int x1), (.int x2)]) :: (osd, Own.ArrC Z .long (cpy SL 1 [(.long (pkA x0 x1 x2 s0 s1 s2))] 2)) :: (ot, STo Z (.ref ra) (.ref rb) (.int tz)) :: (ra, Own.ArrC Z .long SM) :: (rb, Own.ArrC Z .int (TB.map Value.int)) :: fr) O13) ?_
  rintro _ h' ⟨rfl, eh⟩
  rw [eh]; clear eh h'
  show Own.Goes _ _ _ _ _ _ _ _ _ _ _ _ _ _ _ _ _ (mkF m 75 #[.val (.ref o0), .val (.ref ox)] [(.long (fMix ((0 : Int64) + (pkA x0 x1 x2 s0 s1 s2)))), (.ref ot)])
  refine Own.aloadN hx (.ref o0) (hb hby d9_75) rfl rfl rfl ?_
  refine Own.getfield hx hZ hown O13 0 7 rfl rfl (hw _ (wm 68 rfl)) (hb hby d9_76) rfl ?_
  have O14 : Own.Owns n0 h10 ((rb, Own.ArrC Z .int (TB.map Value.int)) :: (o0, PSo Z (.ref ot) (.ref owd) (.ref osh) (.ref obt) (iI 1) (.ref opk) (.ref osd) (iI 1)) :: (opk, Own.ArrC Z .long [(.long (pkA x0 x1 x2 s0 s1 s2))]) :: (owd, Own.ArrC Z .int [(iI 0), (iI 0), (iI 0)]) :: (osh, Own.ArrC Z .int [(.int s0.toInt32), (.int s1.toInt32), (.int s2.toInt32)]) :: (ox, Own.ArrC Z .int [(.int x0), (.int x1), (.int x2)]) :: (osd, Own.ArrC Z .long (cpy SL 1 [(.long (pkA x0 x1 x2 s0 s1 s2))] 2)) :: (ot, STo Z (.ref ra) (.ref rb) (.int tz)) :: (ra, Own.ArrC Z .long SM) :: fr) := O13.pick 8 rfl
  have O15 : Own.Owns n0 h10 ((ra, Own.ArrC Z .long SM) :: (rb, Own.ArrC Z .int (TB.map Value.int)) :: (o0, PSo Z (.ref ot) (.ref owd) (.ref osh) (.ref obt) (iI 1) (.ref opk) (.ref osd) (iI 1)) :: (opk, Own.ArrC Z .long [(.long (pkA x0 x1 x2 s0 s1 s2))]) :: (owd, Own.ArrC Z .int [(iI 0), (iI 0), (iI 0)]) :: (osh, Own.ArrC Z .int [(.int s0.toInt32), (.int s1.toInt32), (.int s2.toInt32)]) :: (ox, Own.ArrC Z .int [(.int x0), (.int x1), (.int x2)]) :: (osd, Own.ArrC Z .long (cpy SL 1 [(.long (pkA x0 x1 x2 s0 s1 s2))] 2)) :: (ot, STo Z (.ref ra) (.ref rb) (.int tz)) :: fr) := O14.pick 8 rfl
  have O16 : Own.Owns n0 h10 ((ot, STo Z (.ref ra) (.ref rb) (.int tz)) :: (ra, Own.ArrC Z .long SM) :: (rb, Own.ArrC Z .int (TB.map Value.int)) :: (o0, PSo Z (.ref ot) (.ref owd) (.ref osh) (.ref obt) (iI 1) (.ref opk) (.ref osd) (iI 1)) :: (opk, Own.ArrC Z .long [(.long (pkA x0 x1 x2 s0 s1 s2))]) :: (owd, Own.ArrC Z .int [(iI 0), (iI 0), (iI 0)]) :: (osh, Own.ArrC Z .int [(.int s0.toInt32), (.int s1.toInt32), (.int s2.toInt32)]) :: (ox, Own.ArrC Z .int [(.int x0), (.int x1), (.int x2)]) :: (osd, Own.ArrC Z .long (cpy SL 1 [(.long (pkA x0 x1 x2 s0 s1 s2))] 2)) :: fr) := O15.pick 8 rfl
  refine Own.callV hx hZ hown (O16.exa (i := 0) rfl) (hw _ (wm 83 rfl)) (hw _ (wm 84 rfl)) (hw _ (wm 86 rfl)) (hw _ (wm 85 rfl)) (hw _ (wm 20 rfl)) (hw _ (wm 87 rfl)) (by decide) pd9 (argsL := [(.long (fMix ((0 : Int64) + (pkA x0 x1 x2 s0 s1 s2)))), (.int (1 : Int32))]) (rest := []) rfl (W := 0) (Nat.le_of_eq rfl) (rm := ({ frames := 2, cells := 0, slots := 0, locals := 29 } : Room)) (by decide) (by decide) (by decide) (by decide) (k' := 0) (n' := 0) rfl rfl (by rw [hml]; rfl) [(.int (1 : Int32)), (.long (fMix ((0 : Int64) + (pkA x0 x1 x2 s0 s1 s2)))), (.ref ot)] rfl (hb hby d9_79) (pc' := 82) rfl (rm14 l Z a0 hw ot (fMix ((0 : Int64) + (pkA x0 x1 x2 s0 s1 s2))) (1 : Int32) h10 n0 ra rb tz SM TB hSM hTB (Nat.le_trans (by decide) hct) htz ((o0, PSo Z (.ref ot) (.ref owd) (.ref osh) (.ref obt) (iI 1) (.ref opk) (.ref osd) (iI 1)) :: (opk, Own.ArrC Z .long [(.long (pkA x0 x1 x2 s0 s1 s2))]) :: (owd, Own.ArrC Z .int [(iI 0), (iI 0), (iI 0)]) :: (osh, Own.ArrC Z .int [(.int s0.toInt32), (.int s1.toInt32), (.int s2.toInt32)]) :: (ox, Own.ArrC Z .int [(.int x0), (.int x1), (.int x2)]) :: (osd, Own.ArrC Z .long (cpy SL 1 [(.long (pkA x0 x1 x2 s0 s1 s2))] 2)) :: fr) O16) ?_
  rintro _ h17 ⟨j, hj, rfl, O18⟩
  show Own.Goes _ _ _ _ _ _ _ _ _ _ _ _ _ _ _ _ _ (mkF m 82 #[.val (.ref o0), .val (.ref ox)] [])
  refine Own.aloadN hx (.ref o0) (hb hby d9_82) rfl rfl rfl ?_
  refine Own.dup hx (hb hby d9_83) rfl rfl ?_
  refine Own.getfield hx hZ hown O18 3 7 rfl rfl (hw _ (wm 68 rfl)) (hb hby d9_84) rfl ?_
  refine Own.iconst hx (1 : Int32) (hb hby d9_87) rfl (by decide) ?_
  refine Own.iadd hx (hb hby d9_88) rfl ?_
  refine Own.vI (2 : Int32) (by decide) ?_
  refine Own.putfield hx hZ hown O18 3 7 rfl rfl (hw _ (wm 68 rfl)) (Or.inl (hw _ (wm 69 rfl))) (hw _ (wm 10 rfl)) (ty := .int) (by decide) rfl rfl ((ot, STo Z (.ref ra) (.ref rb) (.int (tz + (1 : Int32)))) :: (ra, Own.ArrC Z .long (SM.set j (.long (fMix ((0 : Int64) + (pkA x0 x1 x2 s0 s1 s2)))))) :: (rb, Own.ArrC Z .int ((TB.set j (1 : Int32)).map Value.int)) :: (o0, PSo Z (.ref ot) (.ref owd) (.ref osh) (.ref obt) (iI 1) (.ref opk) (.ref osd) (iI 2)) :: (opk, Own.ArrC Z .long [(.long (pkA x0 x1 x2 s0 s1 s2))]) :: (owd, Own.ArrC Z .int [(iI 0), (iI 0), (iI 0)]) :: (osh, Own.ArrC Z .int [(.int s0.toInt32), (.int s1.toInt32), (.int s2.toInt32)]) :: (ox, Own.ArrC Z .int [(.int x0), (.int x1), (.int x2)]) :: (osd, Own.ArrC Z .long (cpy SL 1 [(.long (pkA x0 x1 x2 s0 s1 s2))] 2)) :: fr) rfl (hb hby d9_89) rfl ?_
  intro h19 O20
  refine Own.aloadN hx (.ref o0) (hb hby d9_92) rfl rfl rfl ?_
  refine Own.getfield hx hZ hown O20 3 7 rfl rfl (hw _ (wm 68 rfl)) (hb hby d9_93) rfl ?_
  refine Own.iconst hx (1 : Int32) (hb hby d9_96) rfl (by decide) ?_
  refine Own.isub hx (hb hby d9_97) rfl ?_
  refine Own.vI (1 : Int32) (by decide) ?_
  have O21 : Own.Owns n0 h19 ((ox, Own.ArrC Z .int [(.int x0), (.int x1), (.int x2)]) :: (ot, STo Z (.ref ra) (.ref rb) (.int (tz + (1 : Int32)))) :: (ra, Own.ArrC Z .long (SM.set j (.long (fMix ((0 : Int64) + (pkA x0 x1 x2 s0 s1 s2)))))) :: (rb, Own.ArrC Z .int ((TB.set j (1 : Int32)).map Value.int)) :: (o0, PSo Z (.ref ot) (.ref owd) (.ref osh) (.ref obt) (iI 1) (.ref opk) (.ref osd) (iI 2)) :: (opk, Own.ArrC Z .long [(.long (pkA x0 x1 x2 s0 s1 s2))]) :: (owd, Own.ArrC Z .int [(iI 0), (iI 0), (iI 0)]) :: (osh, Own.ArrC Z .int [(.int s0.toInt32), (.int s1.toInt32), (.int s2.toInt32)]) :: (osd, Own.ArrC Z .long (cpy SL 1 [(.long (pkA x0 x1 x2 s0 s1 s2))] 2)) :: fr) := O20.pick 7 rfl
  have O22 : Own.Owns n0 h19 ((rb, Own.ArrC Z .int ((TB.set j (1 : Int32)).map Value.int)) :: (ox, Own.ArrC Z .int [(.int x0), (.int x1), (.int x2)]) :: (ot, STo Z (.ref ra) (.ref rb) (.int (tz + (1 : Int32)))) :: (ra, Own.ArrC Z .long (SM.set j (.long (fMix ((0 : Int64) + (pkA x0 x1 x2 s0 s1 s2)))))) :: (o0, PSo Z (.ref ot) (.ref owd) (.ref osh) (.ref obt) (iI 1) (.ref opk) (.ref osd) (iI 2)) :: (opk, Own.ArrC Z .long [(.long (pkA x0 x1 x2 s0 s1 s2))]) :: (owd, Own.ArrC Z .int [(iI 0), (iI 0), (iI 0)]) :: (osh, Own.ArrC Z .int [(.int s0.toInt32), (.int s1.toInt32), (.int s2.toInt32)]) :: (osd, Own.ArrC Z .long (cpy SL 1 [(.long (pkA x0 x1 x2 s0 s1 s2))] 2)) :: fr) := O21.pick 3 rfl
  have O23 : Own.Owns n0 h19 ((ra, Own.ArrC Z .long (SM.set j (.long (fMix ((0 : Int64) + (pkA x0 x1 x2 s0 s1 s2)))))) :: (rb, Own.ArrC Z .int ((TB.set j (1 : Int32)).map Value.int)) :: (ox, Own.ArrC Z .int [(.int x0), (.int x1), (.int x2)]) :: (ot, STo Z (.ref ra) (.ref rb) (.int (tz + (1 : Int32)))) :: (o0, PSo Z (.ref ot) (.ref owd) (.ref osh) (.ref obt) (iI 1) (.ref opk) (.ref osd) (iI 2)) :: (opk, Own.ArrC Z .long [(.long (pkA x0 x1 x2 s0 s1 s2))]) :: (owd, Own.ArrC Z .int [(iI 0), (iI 0), (iI 0)]) :: (osh, Own.ArrC Z .int [(.int s0.toInt32), (.int s1.toInt32), (.int s2.toInt32)]) :: (osd, Own.ArrC Z .long (cpy SL 1 [(.long (pkA x0 x1 x2 s0 s1 s2))] 2)) :: fr) := O22.pick 3 rfl
  have O24 : Own.Owns n0 h19 ((ot, STo Z (.ref ra) (.ref rb) (.int (tz + (1 : Int32)))) :: (ra, Own.ArrC Z .long (SM.set j (.long (fMix ((0 : Int64) + (pkA x0 x1 x2 s0 s1 s2)))))) :: (rb, Own.ArrC Z .int ((TB.set j (1 : Int32)).map Value.int)) :: (ox, Own.ArrC Z .int [(.int x0), (.int x1), (.int x2)]) :: (o0, PSo Z (.ref ot) (.ref owd) (.ref osh) (.ref obt) (iI 1) (.ref opk) (.ref osd) (iI 2)) :: (opk, Own.ArrC Z .long [(.long (pkA x0 x1 x2 s0 s1 s2))]) :: (owd, Own.ArrC Z .int [(iI 0), (iI 0), (iI 0)]) :: (osh, Own.ArrC Z .int [(.int s0.toInt32), (.int s1.toInt32), (.int s2.toInt32)]) :: (osd, Own.ArrC Z .long (cpy SL 1 [(.long (pkA x0 x1 x2 s0 s1 s2))] 2)) :: fr) := O23.pick 3 rfl
  have O25 : Own.Owns n0 h19 ((osd, Own.ArrC Z .long (cpy SL 1 [(.long (pkA x0 x1 x2 s0 s1 s2))] 2)) :: (ot, STo Z (.ref ra) (.ref rb) (.int (tz + (1 : Int32)))) :: (ra, Own.ArrC Z .long (SM.set j (.long (fMix ((0 : Int64) + (pkA x0 x1 x2 s0 s1 s2)))))) :: (rb, Own.ArrC Z .int ((TB.set j (1 : Int32)).map Value.int)) :: (ox, Own.ArrC Z .int [(.int x0), (.int x1), (.int x2)]) :: (o0, PSo Z (.ref ot) (.ref owd) (.ref osh) (.ref obt) (iI 1) (.ref opk) (.ref osd) (iI 2)) :: (opk, Own.ArrC Z .long [(.long (pkA x0 x1 x2 s0 s1 s2))]) :: (owd, Own.ArrC Z .int [(iI 0), (iI 0), (iI 0)]) :: (osh, Own.ArrC Z .int [(.int s0.toInt32), (.int s1.toInt32), (.int s2.toInt32)]) :: fr) := O24.pick 8 rfl
  have O26 : Own.Owns n0 h19 ((osh, Own.ArrC Z .int [(.int s0.toInt32), (.int s1.toInt32), (.int s2.toInt32)]) :: (osd, Own.ArrC Z .long (cpy SL 1 [(.long (pkA x0 x1 x2 s0 s1 s2))] 2)) :: (ot, STo Z (.ref ra) (.ref rb) (.int (tz + (1 : Int32)))) :: (ra, Own.ArrC Z .long (SM.set j (.long (fMix ((0 : Int64) + (pkA x0 x1 x2 s0 s1 s2)))))) :: (rb, Own.ArrC Z .int ((TB.set j (1 : Int32)).map Value.int)) :: (ox, Own.ArrC Z .int [(.int x0), (.int x1), (.int x2)]) :: (o0, PSo Z (.ref ot) (.ref owd) (.ref osh) (.ref obt) (iI 1) (.ref opk) (.ref osd) (iI 2)) :: (opk, Own.ArrC Z .long [(.long (pkA x0 x1 x2 s0 s1 s2))]) :: (owd, Own.ArrC Z .int [(iI 0), (iI 0), (iI 0)]) :: fr) := O25.pick 8 rfl
  have O27 : Own.Owns n0 h19 ((owd, Own.ArrC Z .int [(iI 0), (iI 0), (iI 0)]) :: (osh, Own.ArrC Z .int [(.int s0.toInt32), (.int s1.toInt32), (.int s2.toInt32)]) :: (osd, Own.ArrC Z .long (cpy SL 1 [(.long (pkA x0 x1 x2 s0 s1 s2))] 2)) :: (ot, STo Z (.ref ra) (.ref rb) (.int (tz + (1 : Int32)))) :: (ra, Own.ArrC Z .long (SM.set j (.long (fMix ((0 : Int64) + (pkA x0 x1 x2 s0 s1 s2)))))) :: (rb, Own.ArrC Z .int ((TB.set j (1 : Int32)).map Value.int)) :: (ox, Own.ArrC Z .int [(.int x0), (.int x1), (.int x2)]) :: (o0, PSo Z (.ref ot) (.ref owd) (.ref osh) (.ref obt) (iI 1) (.ref opk) (.ref osd) (iI 2)) :: (opk, Own.ArrC Z .long [(.long (pkA x0 x1 x2 s0 s1 s2))]) :: fr) := O26.pick 8 rfl
  have O28 : Own.Owns n0 h19 ((opk, Own.ArrC Z .long [(.long (pkA x0 x1 x2 s0 s1 s2))]) :: (owd, Own.ArrC Z .int [(iI 0), (iI 0), (iI 0)]) :: (osh, Own.ArrC Z .int [(.int s0.toInt32), (.int s1.toInt32), (.int s2.toInt32)]) :: (osd, Own.ArrC Z .long (cpy SL 1 [(.long (pkA x0 x1 x2 s0 s1 s2))] 2)) :: (ot, STo Z (.ref ra) (.ref rb) (.int (tz + (1 : Int32)))) :: (ra, Own.ArrC Z .long (SM.set j (.long (fMix ((0 : Int64) + (pkA x0 x1 x2 s0 s1 s2)))))) :: (rb, Own.ArrC Z .int ((TB.set j (1 : Int32)).map Value.int)) :: (ox, Own.ArrC Z .int [(.int x0), (.int x1), (.int x2)]) :: (o0, PSo Z (.ref ot) (.ref owd) (.ref osh) (.ref obt) (iI 1) (.ref opk) (.ref osd) (iI 2)) :: fr) := O27.pick 8 rfl
  have O29 : Own.Owns n0 h19 ((o0, PSo Z (.ref ot) (.ref owd) (.ref osh) (.ref obt) (iI 1) (.ref opk) (.ref osd) (iI 2)) :: (opk, Own.ArrC Z .long [(.long (pkA x0 x1 x2 s0 s1 s2))]) :: (owd, Own.ArrC Z .int [(iI 0), (iI 0), (iI 0)]) :: (osh, Own.ArrC Z .int [(.int s0.toInt32), (.int s1.toInt32), (.int s2.toInt32)]) :: (osd, Own.ArrC Z .long (cpy SL 1 [(.long (pkA x0 x1 x2 s0 s1 s2))] 2)) :: (ot, STo Z (.ref ra) (.ref rb) (.int (tz + (1 : Int32)))) :: (ra, Own.ArrC Z .long (SM.set j (.long (fMix ((0 : Int64) + (pkA x0 x1 x2 s0 s1 s2)))))) :: (rb, Own.ArrC Z .int ((TB.set j (1 : Int32)).map Value.int)) :: (ox, Own.ArrC Z .int [(.int x0), (.int x1), (.int x2)]) :: fr) := O28.pick 8 rfl
  exact Own.retI hx hret hlk (hb hby d9_98) (by decide) (by decide) ⟨(cpy SL 1 [(.long (pkA x0 x1 x2 s0 s1 s2))] 2), (SM.set j (.long (fMix ((0 : Int64) + (pkA x0 x1 x2 s0 s1 s2))))), (TB.set j (1 : Int32)), rfl, cpy_len hSL (by decide) (by decide) rfl, cpy_at (d := 1) (k := 0) (by rw [hSL]; decide) rfl, fun j' hj' => cpy_lo (by rw [hSL]; decide) hj', (List.length_set ..).trans hSM, (List.length_set ..).trans hTB, own_count (by rw [hTB]; exact hj) hct, O29⟩

theorem ef9_20 (m : MethodId) (x0 : Addr) (x1 : Addr) : entryFrame m #[(.ref x0), (.ref x1)] 2 = mkF m 0 #[.val (.ref x0), .val (.ref x1)] [] := by first | (simp [entryFrame, mkF, argsToLocals, Value.category]; done) | rfl
set_option maxRecDepth 65536 in
set_option maxHeartbeats 40000000 in
theorem rm9_20 (l : Launch) (Z : State) (a0 : Array Value) (hw : ∀ d ∈ tables_1, d.before a0 Z = true) (o0 : Addr) (ox : Addr) (h0 : Heap) (n0 : Nat) (ot ra rb owd osh obt opk osd : Addr) (pv0 pv1 : Int64) (x0 x1 x2 : Int32) (s0 s1 s2 : Nat) (tz : Int32) (SL SM : List Value) (TB : List Int32) (hSL : SL.length = 128) (hSM : SM.length = 1024) (hTB : TB.length = 1024) (hct : 2 ≤ TB.count (-1)) (htz : ¬ (1024 : Int32) < ((2 : Int32) * (tz + (1 : Int32)))) (fr : List (Addr × (Cell → Prop))) (O0 : Own.Owns n0 h0 ((o0, PSo Z (.ref ot) (.ref owd) (.ref osh) (.ref obt) (iI 2) (.ref opk) (.ref osd) (iI 0)) :: (opk, Own.ArrC Z .long [(.long pv0), (.long pv1)]) :: (owd, Own.ArrC Z .int [(iI 0), (iI 0), (iI 1)]) :: (osh, Own.ArrC Z .int [(.int s0.toInt32), (.int s1.toInt32), (.int s2.toInt32)]) :: (osd, Own.ArrC Z .long SL) :: (ot, STo Z (.ref ra) (.ref rb) (.int tz)) :: (ra, Own.ArrC Z .long SM) :: (rb, Own.ArrC Z .int (TB.map Value.int)) :: (ox, Own.ArrC Z .int [(.int x0), (.int x1), (.int x2)]) :: fr))  : Own.Does l (⟨"com/example/cuesheet/cuesheet/core/PackedStates", "add", "([I)I"⟩ : MethodName) prog_12_method_5_code 2 (some .int) [] ({ frames := 3, cells := 0, slots := 0, locals := 45 } : Room) Z #[(.ref o0), (.ref ox)] h0 n0 (fun v h => ∃ (SL' SM' : List Value) (TB' : List Int32), v = some (.int (0 : Int32)) ∧ SL'.length = 128 ∧ SL'[0]? = some (.long (pkB x0 x1 s0 s1)) ∧ SL'[1]? = some (.long (pkC x2 s2)) ∧ (∀ j, j < 0 → SL'[j]? = SL[j]?) ∧ SM'.length = 1024 ∧ TB'.length = 1024 ∧ 1 ≤ TB'.count (-1) ∧ Own.Owns n0 h ((o0, PSo Z (.ref ot) (.ref owd) (.ref osh) (.ref obt) (iI 2) (.ref opk) (.ref osd) (iI 1)) :: (opk, Own.ArrC Z .long [(.long (pkB x0 x1 s0 s1)), (.long (pkC x2 s2))]) :: (owd, Own.ArrC Z .int [(iI 0), (iI 0), (iI 1)]) :: (osh, Own.ArrC Z .int [(.int s0.toInt32), (.int s1.toInt32), (.int s2.toInt32)]) :: (osd, Own.ArrC Z .long SL') :: (ot, STo Z (.ref ra) (.ref rb) (.int (tz + (1 : Int32)))) :: (ra, Own.ArrC Z .long SM') :: (rb, Own.ArrC Z .int (TB'.map Value.int)) :: (ox, Own.ArrC Z .int [(.int x0), (.int x1), (.int x2)]) :: fr)) := by
  refine Own.doesOf pn13 ?_
  intro p e s m below meth c hx hby hml hret hlk hown hnm hZ
  refine Own.Goes.cast (ef9_20 m o0 ox) ?_
  refine Own.aloadN hx (.ref o0) (hb hby d9_0) rfl rfl rfl ?_
  refine Own.aloadN hx (.ref ox) (hb hby d9_1) rfl rfl rfl ?_
  have O1 : Own.Owns n0 h0 ((ox, Own.ArrC Z .int [(.int x0), (.int x1), (.int x2)]) :: (o0, PSo Z (.ref ot) (.ref owd) (.ref osh) (.ref obt) (iI 2) (.ref opk) (.ref osd) (iI 0)) :: (opk, Own.ArrC Z .long [(.long pv0), (.long pv1)]) :: (owd, Own.ArrC Z .int [(iI 0), (iI 0), (iI 1)]) :: (osh, Own.ArrC Z .int [(.int s0.toInt32), (.int s1.toInt32), (.int s2.toInt32)]) :: (osd, Own.ArrC Z .long SL) :: (ot, STo Z (.ref ra) (.ref rb) (.int tz)) :: (ra, Own.ArrC Z .long SM) :: (rb, Own.ArrC Z .int (TB.map Value.int)) :: fr) := O0.pick 8 rfl
  have O2 : Own.Owns n0 h0 ((osh, Own.ArrC Z .int [(.int s0.toInt32), (.int s1.toInt32), (.int s2.toInt32)]) :: (ox, Own.ArrC Z .int [(.int x0), (.int x1), (.int x2)]) :: (o0, PSo Z (.ref ot) (.ref owd) (.ref osh) (.ref obt) (iI 2) (.ref opk) (.ref osd) (iI 0)) :: (opk, Own.ArrC Z .long [(.long pv0), (.long pv1)]) :: (owd, Own.ArrC Z .int [(iI 0), (iI 0), (iI 1)]) :: (osd, Own.ArrC Z .long SL) :: (ot, STo Z (.ref ra) (.ref rb) (.int tz)) :: (ra, Own.ArrC Z .long SM) :: (rb, Own.ArrC Z .int (TB.map Value.int)) :: fr) := O1.pick 4 rfl
  have O3 : Own.Owns n0 h0 ((owd, Own.ArrC Z .int [(iI 0), (iI 0), (iI 1)]) :: (osh, Own.ArrC Z .int [(.int s0.toInt32), (.int s1.toInt32), (.int s2.toInt32)]) :: (ox, Own.ArrC Z .int [(.int x0), (.int x1), (.int x2)]) :: (o0, PSo Z (.ref ot) (.ref owd) (.ref osh) (.ref obt) (iI 2) (.ref opk) (.ref osd) (iI 0)) :: (opk, Own.ArrC Z .long [(.long pv0), (.long pv1)]) :: (osd, Own.ArrC Z .long SL) :: (ot, STo Z (.ref ra) (.ref rb) (.int tz)) :: (ra, Own.ArrC Z .long SM) :: (rb, Own.ArrC Z .int (TB.map Value.int)) :: fr) := O2.pick 4 rfl
  have O4 : Own.Owns n0 h0 ((opk, Own.ArrC Z .long [(.long pv0), (.long pv1)]) :: (owd, Own.ArrC Z .int [(iI 0), (iI 0), (iI 1)]) :: (osh, Own.ArrC Z .int [(.int s0.toInt32), (.int s1.toInt32), (.int s2.toInt32)]) :: (ox, Own.ArrC Z .int [(.int x0), (.int x1), (.int x2)]) :: (o0, PSo Z (.ref ot) (.ref owd) (.ref osh) (.ref obt) (iI 2) (.ref opk) (.ref osd) (iI 0)) :: (osd, Own.ArrC Z .long SL) :: (ot, STo Z (.ref ra) (.ref rb) (.int tz)) :: (ra, Own.ArrC Z .long SM) :: (rb, Own.ArrC Z .int (TB.map Value.int)) :: fr) := O3.pick 4 rfl
  have O5 : Own.Owns n0 h0 ((o0, PSo Z (.ref ot) (.ref owd) (.ref osh) (.ref obt) (iI 2) (.ref opk) (.ref osd) (iI 0)) :: (opk, Own.ArrC Z .long [(.long pv0), (.long pv1)]) :: (owd, Own.ArrC Z .int [(iI 0), (iI 0), (iI 1)]) :: (osh, Own.ArrC Z .int [(.int s0.toInt32), (.int s1.toInt32), (.int s2.toInt32)]) :: (ox, Own.ArrC Z .int [(.int x0), (.int x1), (.int x2)]) :: (osd, Own.ArrC Z .long SL) :: (ot, STo Z (.ref ra) (.ref rb) (.int tz)) :: (ra, Own.ArrC Z .long SM) :: (rb, Own.ArrC Z .int (TB.map Value.int)) :: fr) := O4.pick 4 rfl
  refine Own.callP hx hZ hown (O5.exa (i := 0) rfl) (hw _ (wm 61 rfl)) (hw _ (wm 62 rfl)) (hw _ (wm 10 rfl)) (hw _ (wm 63 rfl)) (hw _ (wm 11 rfl)) (hw _ (wm 64 rfl)) (by decide) pd7 (argsL := [(.ref ox)]) (rest := []) rfl (W := 0) (Nat.le_of_eq rfl) (rm := ({ frames := 1, cells := 0, slots := 0, locals := 16 } : Room)) (by decide) (by decide) (by decide) (by decide) (k' := 0) (n' := 0) rfl rfl (by rw [hml]; rfl) [(.ref ox), (.ref o0)] rfl (hb hby d9_2) (pc' := 5) rfl (rm10_2 l Z a0 hw o0 ox h0 n0 ot ra rb owd osh obt opk osd (0 : Int32) pv0 pv1 x0 x1 x2 s0 s1 s2 ((osd, Own.ArrC Z .long SL) :: (ot, STo Z (.ref ra) (.ref rb) (.int tz)) :: (ra, Own.ArrC Z .long SM) :: (rb, Own.ArrC Z .int (TB.map Value.int)) :: fr) O5) ?_
  rintro _ h6 ⟨rfl, O7⟩
  show Own.Goes _ _ _ _ _ _ _ _ _ _ _ _ _ _ _ _ _ (mkF m 5 #[.val (.ref o0), .val (.ref ox)] [])
  refine Own.aloadN hx (.ref o0) (hb hby d9_5) rfl rfl rfl ?_
  refine Own.getfield hx hZ hown O7 0 6 rfl rfl (hw _ (wm 54 rfl)) (hb hby d9_6) rfl ?_
  refine Own.arrlen hx hZ O7 5 rfl (128 : Int32) (by rw [hSL]; rfl) (hb hby d9_9) rfl ?_
  refine Own.aloadN hx (.ref o0) (hb hby d9_10) rfl rfl rfl ?_
  refine Own.getfield hx hZ hown O7 0 7 rfl rfl (hw _ (wm 68 rfl)) (hb hby d9_11) rfl ?_
  refine Own.iconst hx (1 : Int32) (hb hby d9_14) rfl (by decide) ?_
  refine Own.iadd hx (hb hby d9_15) rfl ?_
  refine Own.vI (1 : Int32) (by decide) ?_
  refine Own.aloadN hx (.ref o0) (hb hby d9_16) rfl rfl rfl ?_
  refine Own.getfield hx hZ hown O7 0 4 rfl rfl (hw _ (wm 50 rfl)) (hb hby d9_17) rfl ?_
  refine Own.imul hx (hb hby d9_20) rfl ?_
  refine Own.vI (2 : Int32) (by decide) ?_
  have hc8 : ¬ ((128 : Int32) < (2 : Int32)) := by decide
  refine Own.icmpFn hx (Own.q_ge (128 : Int32) (2 : Int32)) (hb hby d9_21) (pcN := 24) rfl (by decide) (pcT := 42) rfl (fun _ => ?_) (fun q => absurd q hc8)
  refine Own.aloadN hx (.ref o0) (hb hby d9_42) rfl rfl rfl ?_
  refine Own.getfield hx hZ hown O7 0 5 rfl rfl (hw _ (wm 52 rfl)) (hb hby d9_43) rfl ?_
  refine Own.iconst hx (0 : Int32) (hb hby d9_46) rfl (by decide) ?_
  refine Own.aloadN hx (.ref o0) (hb hby d9_47) rfl rfl rfl ?_
  refine Own.getfield hx hZ hown O7 0 6 rfl rfl (hw _ (wm 54 rfl)) (hb hby d9_48) rfl ?_
  refine Own.aloadN hx (.ref o0) (hb hby d9_51) rfl rfl rfl ?_
  refine Own.getfield hx hZ hown O7 0 7 rfl rfl (hw _ (wm 68 rfl)) (hb hby d9_52) rfl ?_
  refine Own.aloadN hx (.ref o0) (hb hby d9_55) rfl rfl rfl ?_
  refine Own.getfield hx hZ hown O7 0 4 rfl rfl (hw _ (wm 50 rfl)) (hb hby d9_56) rfl ?_
  refine Own.imul hx (hb hby d9_59) rfl ?_
  refine Own.vI (0 : Int32) (by decide) ?_
  refine Own.aloadN hx (.ref o0) (hb hby d9_60) rfl rfl rfl ?_
  refine Own.getfield hx hZ hown O7 0 4 rfl rfl (hw _ (wm 50 rfl)) (hb hby d9_61) rfl ?_
  refine Own.acopy hx hZ hown (hw _ (wm 70 rfl)) (hw _ (wm 73 rfl)) (hw _ (wm 71 rfl)) (hw _ (wm 72 rfl)) O7 1 5 rfl rfl rfl 0 0 2 (by decide) (by decide) (by decide) (by exact (show 2 ≤ 2 by decide)) (by rw [hSL]; decide) (by exact (show 2 < 2147483648 by decide)) (by rw [hSL]; decide) (cpy SL 0 [(.long (pkB x0 x1 s0 s1)), (.long (pkC x2 s2))] 2) rfl ((o0, PSo Z (.ref ot) (.ref owd) (.ref osh) (.ref obt) (iI 2) (.ref opk) (.ref osd) (iI 0)) :: (opk, Own.ArrC Z .long [(.long (pkB x0 x1 s0 s1)), (.long (pkC x2 s2))]) :: (owd, Own.ArrC Z .int [(iI 0), (iI 0), (iI 1)]) :: (osh, Own.ArrC Z .int [(.int s0.toInt32), (.int s1.toInt32), (.int s2.toInt32)]) :: (ox, Own.ArrC Z .int [(.int x0), (.int x1), (.int x2)]) :: (osd, Own.ArrC Z .long (cpy SL 0 [(.long (pkB x0 x1 s0 s1)), (.long (pkC x2 s2))] 2)) :: (ot, STo Z (.ref ra) (.ref rb) (.int tz)) :: (ra, Own.ArrC Z .long SM) :: (rb, Own.ArrC Z .int (TB.map Value.int)) :: fr) rfl (by rw [hml]; rfl) (W := 0) (Nat.le_of_eq rfl) (by decide) (by decide) (hb hby d9_64) rfl ?_
  intro h10 O11
  refine Own.aloadN hx (.ref o0) (hb hby d9_67) rfl rfl rfl ?_
  refine Own.getfield hx hZ hown O11 0 0 rfl rfl (hw _ (wm 37 rfl)) (hb hby d9_68) rfl ?_
  refine Own.aloadN hx (.ref o0) (hb hby d9_71) rfl rfl rfl ?_
  have O12 : Own.Owns n0 h10 ((opk, Own.ArrC Z .long [(.long (pkB x0 x1 s0 s1)), (.long (pkC x2 s2))]) :: (o0, PSo Z (.ref ot) (.ref owd) (.ref osh) (.ref obt) (iI 2) (.ref opk) (.ref osd) (iI 0)) :: (owd, Own.ArrC Z .int [(iI 0), (iI 0), (iI 1)]) :: (osh, Own.ArrC Z .int [(.int s0.toInt32), (.int s1.toInt32), (.int s2.toInt32)]) :: (ox, Own.ArrC Z .int [(.int x0), (.int x1), (.int x2)]) :: (osd, Own.ArrC Z .long (cpy SL 0 [(.long (pkB x0 x1 s0 s1)), (.long (pkC x2 s2))] 2)) :: (ot, STo Z (.ref ra) (.ref rb) (.int tz)) :: (ra, Own.ArrC Z .long SM) :: (rb, Own.ArrC Z .int (TB.map Value.int)) :: fr) := O11.pick 1 rfl
  have O13 : Own.Owns n0 h10 ((o0, PSo Z (.ref ot) (.ref owd) (.ref osh) (.ref obt) (iI 2) (.ref opk) (.ref osd) (iI 0)) :: (opk, Own.ArrC Z .long [(.long (pkB x0 x1 s0 s1)), (.long (pkC x2 s2))]) :: (owd, Own.ArrC Z .int [(iI 0), (iI 0), (iI 1)]) :: (osh, Own.ArrC Z .int [(.int s0.toInt32), (.int s1.toInt32), (.int s2.toInt32)]) :: (ox, Own.ArrC Z .int [(.int x0), (.int x1), (.int x2)]) :: (osd, Own.ArrC Z .long (cpy SL 0 [(.long (pkB x0 x1 s0 s1)), (.long (pkC x2 s2))] 2)) :: (ot, STo Z (.ref ra) (.ref rb) (.int tz)) :: (ra, Own.ArrC Z .long SM) :: (rb, Own.ArrC Z .int (TB.map Value.int)) :: fr) := O12.pick 1 rfl
  refine Own.callP hx hZ hown (O13.exa (i := 0) rfl) (hw _ (wm 74 rfl)) (hw _ (wm 75 rfl)) (hw _ (wm 10 rfl)) (hw _ (wm 76 rfl)) (hw _ (wm 11 rfl)) (hw _ (wm 77 rfl)) (by decide) pd8 (argsL := []) (rest := [(.ref ot)]) rfl (W := 1) (Nat.le_of_eq rfl) (rm := ({ frames := 1, cells := 0, slots := 0, locals := 15 } : Room)) (by decide) (by decide) (by decide) (by decide) (k' := 0) (n' := 0) rfl rfl (by rw [hml]; rfl) [(.ref o0), (.ref ot)] rfl (hb hby d9_72) (pc' := 75) rfl (rm12_2 l Z a0 hw o0 h10 n0 ot ra rb owd osh obt opk osd (0 : Int32) (pkB x0 x1 s0 s1) (pkC x2 s2) ((owd, Own.ArrC Z .int [(iI 0), (iI 0), (iI 1)]) :: (osh, Own.ArrC Z .int [(.int s0.toInt32), (.int s1.toInt32), (.int s2.toInt32)]) :: (ox, Own.ArrC Z .int [(.int x0), (.int x1), (.int x2)]) :: (osd, Own.ArrC Z .long (cpy SL 0 [(.long (pkB x0 x1 s0 s1)), (.long (pkC x2 s2))] 2)) :: (ot, STo Z (.ref ra) (.ref rb) (.int tz)) :: (ra, Own.ArrC Z .long SM) :: (rb, Own.ArrC Z .int (TB.map Value.int)) :: fr) O13) ?_
  rintro _ h' ⟨rfl, eh⟩
  rw [eh]; clear eh h'
  show Own.Goes _ _ _ _ _ _ _ _ _ _ _ _ _ _ _ _ _ (mkF m 75 #[.val (.ref o0), .val (.ref ox)] [(.long (fMix ((fMix ((0 : Int64) + (pkB x0 x1 s0 s1))) + (pkC x2 s2)))), (.ref ot)])
  refine Own.aloadN hx (.ref o0) (hb hby d9_75) rfl rfl rfl ?_
  refine Own.getfield hx hZ hown O13 0 7 rfl rfl (hw _ (wm 68 rfl)) (hb hby d9_76) rfl ?_
  have O14 : Own.Owns n0 h10 ((rb, Own.ArrC Z .int (TB.map Value.int)) :: (o0, PSo Z (.ref ot) (.ref owd) (.ref osh) (.ref obt) (iI 2) (.ref opk) (.ref osd) (iI 0)) :: (opk, Own.ArrC Z .long [(.long (pkB x0 x1 s0 s1)), (.long (pkC x2 s2))]) :: (owd, Own.ArrC Z .int [(iI 0), (iI 0), (iI 1)]) :: (osh, Own.ArrC Z .int [(.int s0.toInt32), (.int s1.toInt32), (.int s2.toInt32)]) :: (ox, Own.ArrC Z .int [(.int x0), (.int x1), (.int x2)]) :: (osd, Own.ArrC Z .long (cpy SL 0 [(.long (pkB x0 x1 s0 s1)), (.long (pkC x2 s2))] 2)) :: (ot, STo Z (.ref ra) (.ref rb) (.int tz)) :: (ra, Own.ArrC Z .long SM) :: fr) := O13.pick 8 rfl
  have O15 : Own.Owns n0 h10 ((ra, Own.ArrC Z .long SM) :: (rb, Own.ArrC Z .int (TB.map Value.int)) :: (o0, PSo Z (.ref ot) (.ref owd) (.ref osh) (.ref obt) (iI 2) (.ref opk) (.ref osd) (iI 0)) :: (opk, Own.ArrC Z .long [(.long (pkB x0 x1 s0 s1)), (.long (pkC x2 s2))]) :: (owd, Own.ArrC Z .int [(iI 0), (iI 0), (iI 1)]) :: (osh, Own.ArrC Z .int [(.int s0.toInt32), (.int s1.toInt32), (.int s2.toInt32)]) :: (ox, Own.ArrC Z .int [(.int x0), (.int x1), (.int x2)]) :: (osd, Own.ArrC Z .long (cpy SL 0 [(.long (pkB x0 x1 s0 s1)), (.long (pkC x2 s2))] 2)) :: (ot, STo Z (.ref ra) (.ref rb) (.int tz)) :: fr) := O14.pick 8 rfl
  have O16 : Own.Owns n0 h10 ((ot, STo Z (.ref ra) (.ref rb) (.int tz)) :: (ra, Own.ArrC Z .long SM) :: (rb, Own.ArrC Z .int (TB.map Value.int)) :: (o0, PSo Z (.ref ot) (.ref owd) (.ref osh) (.ref obt) (iI 2) (.ref opk) (.ref osd) (iI 0)) :: (opk, Own.ArrC Z .long [(.long (pkB x0 x1 s0 s1)), (.long (pkC x2 s2))]) :: (owd, Own.ArrC Z .int [(iI 0), (iI 0), (iI 1)]) :: (osh, Own.ArrC Z .int [(.int s0.toInt32), (.int s1.toInt32), (.int s2.toInt32)]) :: (ox, Own.ArrC Z .int [(.int x0), (.int x1), (.int x2)]) :: (osd, Own.ArrC Z .long (cpy SL 0 [(.long (pkB x0 x1 s0 s1)), (.long (pkC x2 s2))] 2)) :: fr) := O15.pick 8 rfl
  refine Own.callV hx hZ hown (O16.exa (i := 0) rfl) (hw _ (wm 83 rfl)) (hw _ (wm 84 rfl)) (hw _ (wm 86 rfl)) (hw _ (wm 85 rfl)) (hw _ (wm 20 rfl)) (hw _ (wm 87 rfl)) (by decide) pd9 (argsL := [(.long (fMix ((fMix ((0 : Int64) + (pkB x0 x1 s0 s1))) + (pkC x2 s2)))), (.int (0 : Int32))]) (rest := []) rfl (W := 0) (Nat.le_of_eq rfl) (rm := ({ frames := 2, cells := 0, slots := 0, locals := 29 } : Room)) (by decide) (by decide) (by decide) (by decide) (k' := 0) (n' := 0) rfl rfl (by rw [hml]; rfl) [(.int (0 : Int32)), (.long (fMix ((fMix ((0 : Int64) + (pkB x0 x1 s0 s1))) + (pkC x2 s2)))), (.ref ot)] rfl (hb hby d9_79) (pc' := 82) rfl (rm14 l Z a0 hw ot (fMix ((fMix ((0 : Int64) + (pkB x0 x1 s0 s1))) + (pkC x2 s2))) (0 : Int32) h10 n0 ra rb tz SM TB hSM hTB (Nat.le_trans (by decide) hct) htz ((o0, PSo Z (.ref ot) (.ref owd) (.ref osh) (.ref obt) (iI 2) (.ref opk) (.ref osd) (iI 0)) :: (opk, Own.ArrC Z .long [(.long (pkB x0 x1 s0 s1)), (.long (pkC x2 s2))]) :: (owd, Own.ArrC Z .int [(iI 0), (iI 0), (iI 1)]) :: (osh, Own.ArrC Z .int [(.int s0.toInt32), (.int s1.toInt32), (.int s2.toInt32)]) :: (ox, Own.ArrC Z .int [(.int x0), (.int x1), (.int x2)]) :: (osd, Own.ArrC Z .long (cpy SL 0 [(.long (pkB x0 x1 s0 s1)), (.long (pkC x2 s2))] 2)) :: fr) O16) ?_
  rintro _ h17 ⟨j, hj, rfl, O18⟩
  show Own.Goes _ _ _ _ _ _ _ _ _ _ _ _ _ _ _ _ _ (mkF m 82 #[.val (.ref o0), .val (.ref ox)] [])
  refine Own.aloadN hx (.ref o0) (hb hby d9_82) rfl rfl rfl ?_
  refine Own.dup hx (hb hby d9_83) rfl rfl ?_
  refine Own.getfield hx hZ hown O18 3 7 rfl rfl (hw _ (wm 68 rfl)) (hb hby d9_84) rfl ?_
  refine Own.iconst hx (1 : Int32) (hb hby d9_87) rfl (by decide) ?_
  refine Own.iadd hx (hb hby d9_88) rfl ?_
  refine Own.vI (1 : Int32) (by decide) ?_
  refine Own.putfield hx hZ hown O18 3 7 rfl rfl (hw _ (wm 68 rfl)) (Or.inl (hw _ (wm 69 rfl))) (hw _ (wm 10 rfl)) (ty := .int) (by decide) rfl rfl ((ot, STo Z (.ref ra) (.ref rb) (.int (tz + (1 : Int32)))) :: (ra, Own.ArrC Z .long (SM.set j (.long (fMix ((fMix ((0 : Int64) + (pkB x0 x1 s0 s1))) + (pkC x2 s2)))))) :: (rb, Own.ArrC Z .int ((TB.set j (0 : Int32)).map Value.int)) :: (o0, PSo Z (.ref ot) (.ref owd) (.ref osh) (.ref obt) (iI 2) (.ref opk) (.ref osd) (iI 1)) :: (opk, Own.ArrC Z .long [(.long (pkB x0 x1 s0 s1)), (.long (pkC x2 s2))]) :: (owd, Own.ArrC Z .int [(iI 0), (iI 0), (iI 1)]) :: (osh, Own.ArrC Z .int [(.int s0.toInt32), (.int s1.toInt32), (.int s2.toInt32)]) :: (ox, Own.ArrC Z .int [(.int x0), (.int x1), (.int x2)]) :: (osd, Own.ArrC Z .long (cpy SL 0 [(.long (pkB x0 x1 s0 s1)), (.long (pkC x2 s2))] 2)) :: fr) rfl (hb hby d9_89) rfl ?_
  intro h19 O20
  refine Own.aloadN hx (.ref o0) (hb hby d9_92) rfl rfl rfl ?_
  refine Own.getfield hx hZ hown O20 3 7 rfl rfl (hw _ (wm 68 rfl)) (hb hby d9_93) rfl ?_
  refine Own.iconst hx (1 : Int32) (hb hby d9_96) rfl (by decide) ?_
  refine Own.isub hx (hb hby d9_97) rfl ?_
  refine Own.vI (0 : Int32) (by decide) ?_
  have O21 : Own.Owns n0 h19 ((ox, Own.ArrC Z .int [(.int x0), (.int x1), (.int x2)]) :: (ot, STo Z (.ref ra) (.ref rb) (.int (tz + (1 : Int32)))) :: (ra, Own.ArrC Z .long (SM.set j (.long (fMix ((fMix ((0 : Int64) + (pkB x0 x1 s0 s1))) + (pkC x2 s2)))))) :: (rb, Own.ArrC Z .int ((TB.set j (0 : Int32)).map Value.int)) :: (o0, PSo Z (.ref ot) (.ref owd) (.ref osh) (.ref obt) (iI 2) (.ref opk) (.ref osd) (iI 1)) :: (opk, Own.ArrC Z .long [(.long (pkB x0 x1 s0 s1)), (.long (pkC x2 s2))]) :: (owd, Own.ArrC Z .int [(iI 0), (iI 0), (iI 1)]) :: (osh, Own.ArrC Z .int [(.int s0.toInt32), (.int s1.toInt32), (.int s2.toInt32)]) :: (osd, Own.ArrC Z .long (cpy SL 0 [(.long (pkB x0 x1 s0 s1)), (.long (pkC x2 s2))] 2)) :: fr) := O20.pick 7 rfl
  have O22 : Own.Owns n0 h19 ((rb, Own.ArrC Z .int ((TB.set j (0 : Int32)).map Value.int)) :: (ox, Own.ArrC Z .int [(.int x0), (.int x1), (.int x2)]) :: (ot, STo Z (.ref ra) (.ref rb) (.int (tz + (1 : Int32)))) :: (ra, Own.ArrC Z .long (SM.set j (.long (fMix ((fMix ((0 : Int64) + (pkB x0 x1 s0 s1))) + (pkC x2 s2)))))) :: (o0, PSo Z (.ref ot) (.ref owd) (.ref osh) (.ref obt) (iI 2) (.ref opk) (.ref osd) (iI 1)) :: (opk, Own.ArrC Z .long [(.long (pkB x0 x1 s0 s1)), (.long (pkC x2 s2))]) :: (owd, Own.ArrC Z .int [(iI 0), (iI 0), (iI 1)]) :: (osh, Own.ArrC Z .int [(.int s0.toInt32), (.int s1.toInt32), (.int s2.toInt32)]) :: (osd, Own.ArrC Z .long (cpy SL 0 [(.long (pkB x0 x1 s0 s1)), (.long (pkC x2 s2))] 2)) :: fr) := O21.pick 3 rfl
  have O23 : Own.Owns n0 h19 ((ra, Own.ArrC Z .long (SM.set j (.long (fMix ((fMix ((0 : Int64) + (pkB x0 x1 s0 s1))) + (pkC x2 s2)))))) :: (rb, Own.ArrC Z .int ((TB.set j (0 : Int32)).map Value.int)) :: (ox, Own.ArrC Z .int [(.int x0), (.int x1), (.int x2)]) :: (ot, STo Z (.ref ra) (.ref rb) (.int (tz + (1 : Int32)))) :: (o0, PSo Z (.ref ot) (.ref owd) (.ref osh) (.ref obt) (iI 2) (.ref opk) (.ref osd) (iI 1)) :: (opk, Own.ArrC Z .long [(.long (pkB x0 x1 s0 s1)), (.long (pkC x2 s2))]) :: (owd, Own.ArrC Z .int [(iI 0), (iI 0), (iI 1)]) :: (osh, Own.ArrC Z .int [(.int s0.toInt32), (.int s1.toInt32), (.int s2.toInt32)]) :: (osd, Own.ArrC Z .long (cpy SL 0 [(.long (pkB x0 x1 s0 s1)), (.long (pkC x2 s2))] 2)) :: fr) := O22.pick 3 rfl
  have O24 : Own.Owns n0 h19 ((ot, STo Z (.ref ra) (.ref rb) (.int (tz + (1 : Int32)))) :: (ra, Own.ArrC Z .long (SM.set j (.long (fMix ((fMix ((0 : Int64) + (pkB x0 x1 s0 s1))) + (pkC x2 s2)))))) :: (rb, Own.ArrC Z .int ((TB.set j (0 : Int32)).map Value.int)) :: (ox, Own.ArrC Z .int [(.int x0), (.int x1), (.int x2)]) :: (o0, PSo Z (.ref ot) (.ref owd) (.ref osh) (.ref obt) (iI 2) (.ref opk) (.ref osd) (iI 1)) :: (opk, Own.ArrC Z .long [(.long (pkB x0 x1 s0 s1)), (.long (pkC x2 s2))]) :: (owd, Own.ArrC Z .int [(iI 0), (iI 0), (iI 1)]) :: (osh, Own.ArrC Z .int [(.int s0.toInt32), (.int s1.toInt32), (.int s2.toInt32)]) :: (osd, Own.ArrC Z .long (cpy SL 0 [(.long (pkB x0 x1 s0 s1)), (.long (pkC x2 s2))] 2)) :: fr) := O23.pick 3 rfl
  have O25 : Own.Owns n0 h19 ((osd, Own.ArrC Z .long (cpy SL 0 [(.long (pkB x0 x1 s0 s1)), (.long (pkC x2 s2))] 2)) :: (ot, STo Z (.ref ra) (.ref rb) (.int (tz + (1 : Int32)))) :: (ra, Own.ArrC Z .long (SM.set j (.long (fMix ((fMix ((0 : Int64) + (pkB x0 x1 s0 s1))) + (pkC x2 s2)))))) :: (rb, Own.ArrC Z .int ((TB.set j (0 : Int32)).map Value.int)) :: (ox, Own.ArrC Z .int [(.int x0), (.int x1), (.int x2)]) :: (o0, PSo Z (.ref ot) (.ref owd) (.ref osh) (.ref obt) (iI 2) (.ref opk) (.ref osd) (iI 1)) :: (opk, Own.ArrC Z .long [(.long (pkB x0 x1 s0 s1)), (.long (pkC x2 s2))]) :: (owd, Own.ArrC Z .int [(iI 0), (iI 0), (iI 1)]) :: (osh, Own.ArrC Z .int [(.int s0.toInt32), (.int s1.toInt32), (.int s2.toInt32)]) :: fr) := O24.pick 8 rfl
  have O26 : Own.Owns n0 h19 ((osh, Own.ArrC Z .int [(.int s0.toInt32), (.int s1.toInt32), (.int s2.toInt32)]) :: (osd, Own.ArrC Z .long (cpy SL 0 [(.long (pkB x0 x1 s0 s1)), (.long (pkC x2 s2))] 2)) :: (ot, STo Z (.ref ra) (.ref rb) (.int (tz + (1 : Int32)))) :: (ra, Own.ArrC Z .long (SM.set j (.long (fMix ((fMix ((0 : Int64) + (pkB x0 x1 s0 s1))) + (pkC x2 s2)))))) :: (rb, Own.ArrC Z .int ((TB.set j (0 : Int32)).map Value.int)) :: (ox, Own.ArrC Z .int [(.int x0), (.int x1), (.int x2)]) :: (o0, PSo Z (.ref ot) (.ref owd) (.ref osh) (.ref obt) (iI 2) (.ref opk) (.ref osd) (iI 1)) :: (opk, Own.ArrC Z .long [(.long (pkB x0 x1 s0 s1)), (.long (pkC x2 s2))]) :: (owd, Own.ArrC Z .int [(iI 0), (iI 0), (iI 1)]) :: fr) := O25.pick 8 rfl
  have O27 : Own.Owns n0 h19 ((owd, Own.ArrC Z .int [(iI 0), (iI 0), (iI 1)]) :: (osh, Own.ArrC Z .int [(.int s0.toInt32), (.int s1.toInt32), (.int s2.toInt32)]) :: (osd, Own.ArrC Z .long (cpy SL 0 [(.long (pkB x0 x1 s0 s1)), (.long (pkC x2 s2))] 2)) :: (ot, STo Z (.ref ra) (.ref rb) (.int (tz + (1 : Int32)))) :: (ra, Own.ArrC Z .long (SM.set j (.long (fMix ((fMix ((0 : Int64) + (pkB x0 x1 s0 s1))) + (pkC x2 s2)))))) :: (rb, Own.ArrC Z .int ((TB.set j (0 : Int32)).map Value.int)) :: (ox, Own.ArrC Z .int [(.int x0), (.int x1), (.int x2)]) :: (o0, PSo Z (.ref ot) (.ref owd) (.ref osh) (.ref obt) (iI 2) (.ref opk) (.ref osd) (iI 1)) :: (opk, Own.ArrC Z .long [(.long (pkB x0 x1 s0 s1)), (.long (pkC x2 s2))]) :: fr) := O26.pick 8 rfl
  have O28 : Own.Owns n0 h19 ((opk, Own.ArrC Z .long [(.long (pkB x0 x1 s0 s1)), (.long (pkC x2 s2))]) :: (owd, Own.ArrC Z .int [(iI 0), (iI 0), (iI 1)]) :: (osh, Own.ArrC Z .int [(.int s0.toInt32), (.int s1.toInt32), (.int s2.toInt32)]) :: (osd, Own.ArrC Z .long (cpy SL 0 [(.long (pkB x0 x1 s0 s1)), (.long (pkC x2 s2))] 2)) :: (ot, STo Z (.ref ra) (.ref rb) (.int (tz + (1 : Int32)))) :: (ra, Own.ArrC Z .long (SM.set j (.long (fMix ((fMix ((0 : Int64) + (pkB x0 x1 s0 s1))) + (pkC x2 s2)))))) :: (rb, Own.ArrC Z .int ((TB.set j (0 : Int32)).map Value.int)) :: (ox, Own.ArrC Z .int [(.int x0), (.int x1), (.int x2)]) :: (o0, PSo Z (.ref ot) (.ref owd) (.ref osh) (.ref obt) (iI 2) (.ref opk) (.ref osd) (iI 1)) :: fr) := O27.pick 8 rfl
  have O29 : Own.Owns n0 h19 ((o0, PSo Z (.ref ot) (.ref owd) (.ref osh) (.ref obt) (iI 2) (.ref opk) (.ref osd) (iI 1)) :: (opk, Own.ArrC Z .long [(.long (pkB x0 x1 s0 s1)), (.long (pkC x2 s2))]) :: (owd, Own.ArrC Z .int [(iI 0), (iI 0), (iI 1)]) :: (osh, Own.ArrC Z .int [(.int s0.toInt32), (.int s1.toInt32), (.int s2.toInt32)]) :: (osd, Own.ArrC Z .long (cpy SL 0 [(.long (pkB x0 x1 s0 s1)), (.long (pkC x2 s2))] 2)) :: (ot, STo Z (.ref ra) (.ref rb) (.int (tz + (1 : Int32)))) :: (ra, Own.ArrC Z .long (SM.set j (.long (fMix ((fMix ((0 : Int64) + (pkB x0 x1 s0 s1))) + (pkC x2 s2)))))) :: (rb, Own.ArrC Z .int ((TB.set j (0 : Int32)).map Value.int)) :: (ox, Own.ArrC Z .int [(.int x0), (.int x1), (.int x2)]) :: fr) := O28.pick 8 rfl
  exact Own.retI hx hret hlk (hb hby d9_98) (by decide) (by decide) ⟨(cpy SL 0 [(.long (pkB x0 x1 s0 s1)), (.long (pkC x2 s2))] 2), (SM.set j (.long (fMix ((fMix ((0 : Int64) + (pkB x0 x1 s0 s1))) + (pkC x2 s2))))), (TB.set j (0 : Int32)), rfl, cpy_len hSL (by decide) (by decide) rfl, cpy_at (d := 0) (k := 0) (by rw [hSL]; decide) rfl, cpy_at (d := 0) (k := 1) (by rw [hSL]; decide) rfl, fun j' hj' => cpy_lo (by rw [hSL]; decide) hj', (List.length_set ..).trans hSM, (List.length_set ..).trans hTB, own_count (by rw [hTB]; exact hj) hct, O29⟩

theorem ef9_21 (m : MethodId) (x0 : Addr) (x1 : Addr) : entryFrame m #[(.ref x0), (.ref x1)] 2 = mkF m 0 #[.val (.ref x0), .val (.ref x1)] [] := by first | (simp [entryFrame, mkF, argsToLocals, Value.category]; done) | rfl
set_option maxRecDepth 65536 in
set_option maxHeartbeats 40000000 in
theorem rm9_21 (l : Launch) (Z : State) (a0 : Array Value) (hw : ∀ d ∈ tables_1, d.before a0 Z = true) (o0 : Addr) (ox : Addr) (h0 : Heap) (n0 : Nat) (ot ra rb owd osh obt opk osd : Addr) (pv0 pv1 : Int64) (x0 x1 x2 : Int32) (s0 s1 s2 : Nat) (tz : Int32) (SL SM : List Value) (TB : List Int32) (hSL : SL.length = 128) (hSM : SM.length = 1024) (hTB : TB.length = 1024) (hct : 1 ≤ TB.count (-1)) (htz : ¬ (1024 : Int32) < ((2 : Int32) * (tz + (1 : Int32)))) (fr : List (Addr × (Cell → Prop))) (O0 : Own.Owns n0 h0 ((o0, PSo Z (.ref ot) (.ref owd) (.ref osh) (.ref obt) (iI 2) (.ref opk) (.ref osd) (iI 1)) :: (opk, Own.ArrC Z .long [(.long pv0), (.long pv1)]) :: (owd, Own.ArrC Z .int [(iI 0), (iI 0), (iI 1)]) :: (osh, Own.ArrC Z .int [(.int s0.toInt32), (.int s1.toInt32), (.int s2.toInt32)]) :: (osd, Own.ArrC Z .long SL) :: (ot, STo Z (.ref ra) (.ref rb) (.int tz)) :: (ra, Own.ArrC Z .long SM) :: (rb, Own.ArrC Z .int (TB.map Value.int)) :: (ox, Own.ArrC Z .int [(.int x0), (.int x1), (.int x2)]) :: fr))  : Own.Does l (⟨"com/example/cuesheet/cuesheet/core/PackedStates", "add", "([I)I"⟩ : MethodName) prog_12_method_5_code 2 (some .int) [] ({ frames := 3, cells := 0, slots := 0, locals := 45 } : Room) Z #[(.ref o0), (.ref ox)] h0 n0 (fun v h => ∃ (SL' SM' : List Value) (TB' : List Int32), v = some (.int (1 : Int32)) ∧ SL'.length = 128 ∧ SL'[2]? = some (.long (pkB x0 x1 s0 s1)) ∧ SL'[3]? = some (.long (pkC x2 s2)) ∧ (∀ j, j < 2 → SL'[j]? = SL[j]?) ∧ SM'.length = 1024 ∧ TB'.length = 1024 ∧ 0 ≤ TB'.count (-1) ∧ Own.Owns n0 h ((o0, PSo Z (.ref ot) (.ref owd) (.ref osh) (.ref obt) (iI 2) (.ref opk) (.ref osd) (iI 2)) :: (opk, Own.ArrC Z .long [(.long (pkB x0 x1 s0 s1)), (.long (pkC x2 s2))]) :: (owd, Own.ArrC Z .int [(iI 0), (iI 0), (iI 1)]) :: (osh, Own.ArrC Z .int [(.int s0.toInt32), (.int s1.toInt32), (.int s2.toInt32)]) :: (osd, Own.ArrC Z .long SL') :: (ot, STo Z (.ref ra) (.ref rb) (.int (tz + (1 : Int32)))) :: (ra, Own.ArrC Z .long SM') :: (rb, Own.ArrC Z .int (TB'.map Value.int)) :: (ox, Own.ArrC Z .int [(.int x0), (.int x1), (.int x2)]) :: fr)) := by
  refine Own.doesOf pn13 ?_
  intro p e s m below meth c hx hby hml hret hlk hown hnm hZ
  refine Own.Goes.cast (ef9_21 m o0 ox) ?_
  refine Own.aloadN hx (.ref o0) (hb hby d9_0) rfl rfl rfl ?_
  refine Own.aloadN hx (.ref ox) (hb hby d9_1) rfl rfl rfl ?_
  have O1 : Own.Owns n0 h0 ((ox, Own.ArrC Z .int [(.int x0), (.int x1), (.int x2)]) :: (o0, PSo Z (.ref ot) (.ref owd) (.ref osh) (.ref obt) (iI 2) (.ref opk) (.ref osd) (iI 1)) :: (opk, Own.ArrC Z .long [(.long pv0), (.long pv1)]) :: (owd, Own.ArrC Z .int [(iI 0), (iI 0), (iI 1)]) :: (osh, Own.ArrC Z .int [(.int s0.toInt32), (.int s1.toInt32), (.int s2.toInt32)]) :: (osd, Own.ArrC Z .long SL) :: (ot, STo Z (.ref ra) (.ref rb) (.int tz)) :: (ra, Own.ArrC Z .long SM) :: (rb, Own.ArrC Z .int (TB.map Value.int)) :: fr) := O0.pick 8 rfl
  have O2 : Own.Owns n0 h0 ((osh, Own.ArrC Z .int [(.int s0.toInt32), (.int s1.toInt32), (.int s2.toInt32)]) :: (ox, Own.ArrC Z .int [(.int x0), (.int x1), (.int x2)]) :: (o0, PSo Z (.ref ot) (.ref owd) (.ref osh) (.ref obt) (iI 2) (.ref opk) (.ref osd) (iI 1)) :: (opk, Own.ArrC Z .long [(.long pv0), (.long pv1)]) :: (owd, Own.ArrC Z .int [(iI 0), (iI 0), (iI 1)]) :: (osd, Own.ArrC Z .long SL) :: (ot, STo Z (.ref ra) (.ref rb) (.int tz)) :: (ra, Own.ArrC Z .long SM) :: (rb, Own.ArrC Z .int (TB.map Value.int)) :: fr) := O1.pick 4 rfl
  have O3 : Own.Owns n0 h0 ((owd, Own.ArrC Z .int [(iI 0), (iI 0), (iI 1)]) :: (osh, Own.ArrC Z .int [(.int s0.toInt32), (.int s1.toInt32), (.int s2.toInt32)]) :: (ox, Own.ArrC Z .int [(.int x0), (.int x1), (.int x2)]) :: (o0, PSo Z (.ref ot) (.ref owd) (.ref osh) (.ref obt) (iI 2) (.ref opk) (.ref osd) (iI 1)) :: (opk, Own.ArrC Z .long [(.long pv0), (.long pv1)]) :: (osd, Own.ArrC Z .long SL) :: (ot, STo Z (.ref ra) (.ref rb) (.int tz)) :: (ra, Own.ArrC Z .long SM) :: (rb, Own.ArrC Z .int (TB.map Value.int)) :: fr) := O2.pick 4 rfl
  have O4 : Own.Owns n0 h0 ((opk, Own.ArrC Z .long [(.long pv0), (.long pv1)]) :: (owd, Own.ArrC Z .int [(iI 0), (iI 0), (iI 1)]) :: (osh, Own.ArrC Z .int [(.int s0.toInt32), (.int s1.toInt32), (.int s2.toInt32)]) :: (ox, Own.ArrC Z .int [(.int x0), (.int x1), (.int x2)]) :: (o0, PSo Z (.ref ot) (.ref owd) (.ref osh) (.ref obt) (iI 2) (.ref opk) (.ref osd) (iI 1)) :: (osd, Own.ArrC Z .long SL) :: (ot, STo Z (.ref ra) (.ref rb) (.int tz)) :: (ra, Own.ArrC Z .long SM) :: (rb, Own.ArrC Z .int (TB.map Value.int)) :: fr) := O3.pick 4 rfl
  have O5 : Own.Owns n0 h0 ((o0, PSo Z (.ref ot) (.ref owd) (.ref osh) (.ref obt) (iI 2) (.ref opk) (.ref osd) (iI 1)) :: (opk, Own.ArrC Z .long [(.long pv0), (.long pv1)]) :: (owd, Own.ArrC Z .int [(iI 0), (iI 0), (iI 1)]) :: (osh, Own.ArrC Z .int [(.int s0.toInt32), (.int s1.toInt32), (.int s2.toInt32)]) :: (ox, Own.ArrC Z .int [(.int x0), (.int x1), (.int x2)]) :: (osd, Own.ArrC Z .long SL) :: (ot, STo Z (.ref ra) (.ref rb) (.int tz)) :: (ra, Own.ArrC Z .long SM) :: (rb, Own.ArrC Z .int (TB.map Value.int)) :: fr) := O4.pick 4 rfl
  refine Own.callP hx hZ hown (O5.exa (i := 0) rfl) (hw _ (wm 61 rfl)) (hw _ (wm 62 rfl)) (hw _ (wm 10 rfl)) (hw _ (wm 63 rfl)) (hw _ (wm 11 rfl)) (hw _ (wm 64 rfl)) (by decide) pd7 (argsL := [(.ref ox)]) (rest := []) rfl (W := 0) (Nat.le_of_eq rfl) (rm := ({ frames := 1, cells := 0, slots := 0, locals := 16 } : Room)) (by decide) (by decide) (by decide) (by decide) (k' := 0) (n' := 0) rfl rfl (by rw [hml]; rfl) [(.ref ox), (.ref o0)] rfl (hb hby d9_2) (pc' := 5) rfl (rm10_2 l Z a0 hw o0 ox h0 n0 ot ra rb owd osh obt opk osd (1 : Int32) pv0 pv1 x0 x1 x2 s0 s1 s2 ((osd, Own.ArrC Z .long SL) :: (ot, STo Z (.ref ra) (.ref rb) (.int tz)) :: (ra, Own.ArrC Z .long SM) :: (rb, Own.ArrC Z .int (TB.map Value.int)) :: fr) O5) ?_
  rintro _ h6 ⟨rfl, O7⟩
  show Own.Goes _ _ _ _ _ _ _ _ _ _ _ _ _ _ _ _ _ (mkF m 5 #[.val (.ref o0), .val (.ref ox)] [])
  refine Own.aloadN hx (.ref o0) (hb hby d9_5) rfl rfl rfl ?_
  refine Own.getfield hx hZ hown O7 0 6 rfl rfl (hw _ (wm 54 rfl)) (hb hby d9_6) rfl ?_
  refine Own.arrlen hx hZ O7 5 rfl (128 : Int32) (by rw [hSL]; rfl) (hb hby d9_9) rfl ?_
  refine Own.aloadN hx (.ref o0) (hb hby d9_10) rfl rfl rfl ?_
  refine Own.getfield hx hZ hown O7 0 7 rfl rfl (hw _ (wm 68 rfl)) (hb hby d9_11) rfl ?_
  refine Own.iconst hx (1 : Int32) (hb hby d9_14) rfl (by decide) ?_
  refine Own.iadd hx (hb hby d9_15) rfl ?_
  refine Own.vI (2 : Int32) (by decide) ?_
  refine Own.aloadN hx (.ref o0) (hb hby d9_16) rfl rfl rfl ?_
  refine Own.getfield hx hZ hown O7 0 4 rfl rfl (hw _ (wm 50 rfl)) (hb hby d9_17) rfl ?_
  refine Own.imul hx (hb hby d9_20) rfl ?_
  refine Own.vI (4 : Int32) (by decide) ?_
  have hc8 : ¬ ((128 : Int32) < (4 : Int32)) := by decide
  refine Own.icmpFn hx (Own.q_ge (128 : Int32) (4 : Int32)) (hb hby d9_21) (pcN := 24) rfl (by decide) (pcT := 42) rfl (fun _ => ?_) (fun q => absurd q hc8)
  refine Own.aloadN hx (.ref o0) (hb hby d9_42) rfl rfl rfl ?_
  refine Own.getfield hx hZ hown O7 0 5 rfl rfl (hw _ (wm 52 rfl)) (hb hby d9_43) rfl ?_
  refine Own.iconst hx (0 : Int32) (hb hby d9_46) rfl (by decide) ?_
  refine Own.aloadN hx (.ref o0) (hb hby d9_47) rfl rfl rfl ?_
  refine Own.getfield hx hZ hown O7 0 6 rfl rfl (hw _ (wm 54 rfl)) (hb hby d9_48) rfl ?_
  refine Own.aloadN hx (.ref o0) (hb hby d9_51) rfl rfl rfl ?_
  refine Own.getfield hx hZ hown O7 0 7 rfl rfl (hw _ (wm 68 rfl)) (hb hby d9_52) rfl ?_
  refine Own.aloadN hx (.ref o0) (hb hby d9_55) rfl rfl rfl ?_
  refine Own.getfield hx hZ hown O7 0 4 rfl rfl (hw _ (wm 50 rfl)) (hb hby d9_56) rfl ?_
  refine Own.imul hx (hb hby d9_59) rfl ?_
  refine Own.vI (2 : Int32) (by decide) ?_
  refine Own.aloadN hx (.ref o0) (hb hby d9_60) rfl rfl rfl ?_
  refine Own.getfield hx hZ hown O7 0 4 rfl rfl (hw _ (wm 50 rfl)) (hb hby d9_61) rfl ?_
  refine Own.acopy hx hZ hown (hw _ (wm 70 rfl)) (hw _ (wm 73 rfl)) (hw _ (wm 71 rfl)) (hw _ (wm 72 rfl)) O7 1 5 rfl rfl rfl 0 2 2 (by decide) (by decide) (by decide) (by exact (show 2 ≤ 2 by decide)) (by rw [hSL]; decide) (by exact (show 2 < 2147483648 by decide)) (by rw [hSL]; decide) (cpy SL 2 [(.long (pkB x0 x1 s0 s1)), (.long (pkC x2 s2))] 4) rfl ((o0, PSo Z (.ref ot) (.ref owd) (.ref osh) (.ref obt) (iI 2) (.ref opk) (.ref osd) (iI 1)) :: (opk, Own.ArrC Z .long [(.long (pkB x0 x1 s0 s1)), (.long (pkC x2 s2))]) :: (owd, Own.ArrC Z .int [(iI 0), (iI 0), (iI 1)]) :: (osh, Own.ArrC Z .int [(.int s0.toInt32), (.int s1.toInt32), (.int s2.toInt32)]) :: (ox, Own.ArrC Z .int [(.int x0), (.int x1), (.int x2)]) :: (osd, Own.ArrC Z .long (cpy SL 2 [(.long (pkB x0 x1 s0 s1)), (.long (pkC x2 s2))] 4)) :: (ot, STo Z (.ref ra) (.ref rb) (.int tz)) :: (ra, Own.ArrC Z .long SM) :: (rb, Own.ArrC Z .int (TB.map Value.int)) :: fr) rfl (by rw [hml]; rfl) (W := 0) (Nat.le_of_eq rfl) (by decide) (by decide) (hb hby d9_64) rfl ?_
  intro h10 O11
  refine Own.aloadN hx (.ref o0) (hb hby d9_67) rfl rfl rfl ?_
  refine Own.getfield hx hZ hown O11 0 0 rfl rfl (hw _ (wm 37 rfl)) (hb hby d9_68) rfl ?_
  refine Own.aloadN hx (.ref o0) (hb hby d9_71) rfl rfl rfl ?_
  have O12 : Own.Owns n0 h10 ((opk, Own.ArrC Z .long [(.long (pkB x0 x1 s0 s1)), (.long (pkC x2 s2))]) :: (o0, PSo Z (.ref ot) (.ref owd) (.ref osh) (.ref obt) (iI 2) (.ref opk) (.ref osd) (iI 1)) :: (owd, Own.ArrC Z .int [(iI 0), (iI 0), (iI 1)]) :: (osh, Own.ArrC Z .int [(.int s0.toInt32), (.int s1.toInt32), (.int s2.toInt32)]) :: (ox, Own.ArrC Z .int [(.int x0), (.int x1), (.int x2)]) :: (osd, Own.ArrC Z .long (cpy SL 2 [(.long (pkB x0 x1 s0 s1)), (.long (pkC x2 s2))] 4)) :: (ot, STo Z (.ref ra) (.ref rb) (.int tz)) :: (ra, Own.ArrC Z .long SM) :: (rb, Own.ArrC Z .int (TB.map Value.int)) :: fr) := O11.pick 1 rfl
  have O13 : Own.Owns n0 h10 ((o0, PSo Z (.ref ot) (.ref owd) (.ref osh) (.ref obt) (iI 2) (.ref opk) (.ref osd) (iI 1)) :: (opk, Own.ArrC Z .long [(.long (pkB x0 x1 s0 s1)), (.long (pkC x2 s2))]) :: (owd, Own.ArrC Z .int [(iI 0), (iI 0), (iI 1)]) :: (osh, Own.ArrC Z .int [(.int s0.toInt32), (.int s1.toInt32), (.int s2.toInt32)]) :: (ox, Own.ArrC Z .int [(.int x0), (.int x1), (.int x2)]) :: (osd, Own.ArrC Z .long (cpy SL 2 [(.long (pkB x0 x1 s0 s1)), (.long (pkC x2 s2))] 4)) :: (ot, STo Z (.ref ra) (.ref rb) (.int tz)) :: (ra, Own.ArrC Z .long SM) :: (rb, Own.ArrC Z .int (TB.map Value.int)) :: fr) := O12.pick 1 rfl
  refine Own.callP hx hZ hown (O13.exa (i := 0) rfl) (hw _ (wm 74 rfl)) (hw _ (wm 75 rfl)) (hw _ (wm 10 rfl)) (hw _ (wm 76 rfl)) (hw _ (wm 11 rfl)) (hw _ (wm 77 rfl)) (by decide) pd8 (argsL := []) (rest := [(.ref ot)]) rfl (W := 1) (Nat.le_of_eq rfl) (rm := ({ frames := 1, cells := 0, slots := 0, locals := 15 } : Room)) (by decide) (by decide) (by decide) (by decide) (k' := 0) (n' := 0) rfl rfl (by rw [hml]; rfl) [(.ref o0), (.ref ot)] rfl (hb hby d9_72) (pc' := 75) rfl (rm12_2 l Z a0 hw o0 h10 n0 ot ra rb owd osh obt opk osd (1 : Int32) (pkB x0 x1 s0 s1) (pkC x2 s2) ((owd, Own.ArrC Z .int [(iI 0), (iI 0), (iI 1)]) :: (osh, Own.ArrC Z .int [(.int s0.toInt32), (.int s1.toInt32), (.int s2.toInt32)]) :: (ox, Own.ArrC Z .int [(.int x0), (.int x1), (.int x2)]) :: (osd, Own.ArrC Z .long (cpy SL 2 [(.long (pkB x0 x1 s0 s1)), (.long (pkC x2 s2))] 4)) :: (ot, STo Z (.ref ra) (.ref rb) (.int tz)) :: (ra, Own.ArrC Z .long SM) :: (rb, Own.ArrC Z .int (TB.map Value.int)) :: fr) O13) ?_
  rintro _ h' ⟨rfl, eh⟩
  rw [eh]; clear eh h'
  show Own.Goes _ _ _ _ _ _ _ _ _ _ _ _ _ _ _ _ _ (mkF m 75 #[.val (.ref o0), .val (.ref ox)] [(.long (fMix ((fMix ((0 : Int64) + (pkB x0 x1 s0 s1))) + (pkC x2 s2)))), (.ref ot)])
  refine Own.aloadN hx (.ref o0) (hb hby d9_75) rfl rfl rfl ?_
  refine Own.getfield hx hZ hown O13 0 7 rfl rfl (hw _ (wm 68 rfl)) (hb hby d9_76) rfl ?_
  have O14 : Own.Owns n0 h10 ((rb, Own.ArrC Z .int (TB.map Value.int)) :: (o0, PSo Z (.ref ot) (.ref owd) (.ref osh) (.ref obt) (iI 2) (.ref opk) (.ref osd) (iI 1)) :: (opk, Own.ArrC Z .long [(.long (pkB x0 x1 s0 s1)), (.long (pkC x2 s2))]) :: (owd, Own.ArrC Z .int [(iI 0), (iI 0), (iI 1)]) :: (osh, Own.ArrC Z .int [(.int s0.toInt32), (.int s1.toInt32), (.int s2.toInt32)]) :: (ox, Own.ArrC Z .int [(.int x0), (.int x1), (.int x2)]) :: (osd, Own.ArrC Z .long (cpy SL 2 [(.long (pkB x0 x1 s0 s1)), (.long (pkC x2 s2))] 4)) :: (ot, STo Z (.ref ra) (.ref rb) (.int tz)) :: (ra, Own.ArrC Z .long SM) :: fr) := O13.pick 8 rfl
  have O15 : Own.Owns n0 h10 ((ra, Own.ArrC Z .long SM) :: (rb, Own.ArrC Z .int (TB.map Value.int)) :: (o0, PSo Z (.ref ot) (.ref owd) (.ref osh) (.ref obt) (iI 2) (.ref opk) (.ref osd) (iI 1)) :: (opk, Own.ArrC Z .long [(.long (pkB x0 x1 s0 s1)), (.long (pkC x2 s2))]) :: (owd, Own.ArrC Z .int [(iI 0), (iI 0), (iI 1)]) :: (osh, Own.ArrC Z .int [(.int s0.toInt32), (.int s1.toInt32), (.int s2.toInt32)]) :: (ox, Own.ArrC Z .int [(.int x0), (.int x1), (.int x2)]) :: (osd, Own.ArrC Z .long (cpy SL 2 [(.long (pkB x0 x1 s0 s1)), (.long (pkC x2 s2))] 4)) :: (ot, STo Z (.ref ra) (.ref rb) (.int tz)) :: fr) := O14.pick 8 rfl
  have O16 : Own.Owns n0 h10 ((ot, STo Z (.ref ra) (.ref rb) (.int tz)) :: (ra, Own.ArrC Z .long SM) :: (rb, Own.ArrC Z .int (TB.map Value.int)) :: (o0, PSo Z (.ref ot) (.ref owd) (.ref osh) (.ref obt) (iI 2) (.ref opk) (.ref osd) (iI 1)) :: (opk, Own.ArrC Z .long [(.long (pkB x0 x1 s0 s1)), (.long (pkC x2 s2))]) :: (owd, Own.ArrC Z .int [(iI 0), (iI 0), (iI 1)]) :: (osh, Own.ArrC Z .int [(.int s0.toInt32), (.int s1.toInt32), (.int s2.toInt32)]) :: (ox, Own.ArrC Z .int [(.int x0), (.int x1), (.int x2)]) :: (osd, Own.ArrC Z .long (cpy SL 2 [(.long (pkB x0 x1 s0 s1)), (.long (pkC x2 s2))] 4)) :: fr) := O15.pick 8 rfl
  refine Own.callV hx hZ hown (O16.exa (i := 0) rfl) (hw _ (wm 83 rfl)) (hw _ (wm 84 rfl)) (hw _ (wm 86 rfl)) (hw _ (wm 85 rfl)) (hw _ (wm 20 rfl)) (hw _ (wm 87 rfl)) (by decide) pd9 (argsL := [(.long (fMix ((fMix ((0 : Int64) + (pkB x0 x1 s0 s1))) + (pkC x2 s2)))), (.int (1 : Int32))]) (rest := []) rfl (W := 0) (Nat.le_of_eq rfl) (rm := ({ frames := 2, cells := 0, slots := 0, locals := 29 } : Room)) (by decide) (by decide) (by decide) (by decide) (k' := 0) (n' := 0) rfl rfl (by rw [hml]; rfl) [(.int (1 : Int32)), (.long (fMix ((fMix ((0 : Int64) + (pkB x0 x1 s0 s1))) + (pkC x2 s2)))), (.ref ot)] rfl (hb hby d9_79) (pc' := 82) rfl (rm14 l Z a0 hw ot (fMix ((fMix ((0 : Int64) + (pkB x0 x1 s0 s1))) + (pkC x2 s2))) (1 : Int32) h10 n0 ra rb tz SM TB hSM hTB (Nat.le_trans (by decide) hct) htz ((o0, PSo Z (.ref ot) (.ref owd) (.ref osh) (.ref obt) (iI 2) (.ref opk) (.ref osd) (iI 1)) :: (opk, Own.ArrC Z .long [(.long (pkB x0 x1 s0 s1)), (.long (pkC x2 s2))]) :: (owd, Own.ArrC Z .int [(iI 0), (iI 0), (iI 1)]) :: (osh, Own.ArrC Z .int [(.int s0.toInt32), (.int s1.toInt32), (.int s2.toInt32)]) :: (ox, Own.ArrC Z .int [(.int x0), (.int x1), (.int x2)]) :: (osd, Own.ArrC Z .long (cpy SL 2 [(.long (pkB x0 x1 s0 s1)), (.long (pkC x2 s2))] 4)) :: fr) O16) ?_
  rintro _ h17 ⟨j, hj, rfl, O18⟩
  show Own.Goes _ _ _ _ _ _ _ _ _ _ _ _ _ _ _ _ _ (mkF m 82 #[.val (.ref o0), .val (.ref ox)] [])
  refine Own.aloadN hx (.ref o0) (hb hby d9_82) rfl rfl rfl ?_
  refine Own.dup hx (hb hby d9_83) rfl rfl ?_
  refine Own.getfield hx hZ hown O18 3 7 rfl rfl (hw _ (wm 68 rfl)) (hb hby d9_84) rfl ?_
  refine Own.iconst hx (1 : Int32) (hb hby d9_87) rfl (by decide) ?_
  refine Own.iadd hx (hb hby d9_88) rfl ?_
  refine Own.vI (2 : Int32) (by decide) ?_
  refine Own.putfield hx hZ hown O18 3 7 rfl rfl (hw _ (wm 68 rfl)) (Or.inl (hw _ (wm 69 rfl))) (hw _ (wm 10 rfl)) (ty := .int) (by decide) rfl rfl ((ot, STo Z (.ref ra) (.ref rb) (.int (tz + (1 : Int32)))) :: (ra, Own.ArrC Z .long (SM.set j (.long (fMix ((fMix ((0 : Int64) + (pkB x0 x1 s0 s1))) + (pkC x2 s2)))))) :: (rb, Own.ArrC Z .int ((TB.set j (1 : Int32)).map Value.int)) :: (o0, PSo Z (.ref ot) (.ref owd) (.ref osh) (.ref obt) (iI 2) (.ref opk) (.ref osd) (iI 2)) :: (opk, Own.ArrC Z .long [(.long (pkB x0 x1 s0 s1)), (.long (pkC x2 s2))]) :: (owd, Own.ArrC Z .int [(iI 0), (iI 0), (iI 1)]) :: (osh, Own.ArrC Z .int [(.int s0.toInt32), (.int s1.toInt32), (.int s2.toInt32)]) :: (ox, Own.ArrC Z .int [(.int x0), (.int x1), (.int x2)]) :: (osd, Own.ArrC Z .long (cpy SL 2 [(.long (pkB x0 x1 s0 s1)), (.long (pkC x2 s2))] 4)) :: fr) rfl (hb hby d9_89) rfl ?_
  intro h19 O20
  refine Own.aloadN hx (.ref o0) (hb hby d9_92) rfl rfl rfl ?_
  refine Own.getfield hx hZ hown O20 3 7 rfl rfl (hw _ (wm 68 rfl)) (hb hby d9_93) rfl ?_
  refine Own.iconst hx (1 : Int32) (hb hby d9_96) rfl (by decide) ?_
  refine Own.isub hx (hb hby d9_97) rfl ?_
  refine Own.vI (1 : Int32) (by decide) ?_
  have O21 : Own.Owns n0 h19 ((ox, Own.ArrC Z .int [(.int x0), (.int x1), (.int x2)]) :: (ot, STo Z (.ref ra) (.ref rb) (.int (tz + (1 : Int32)))) :: (ra, Own.ArrC Z .long (SM.set j (.long (fMix ((fMix ((0 : Int64) + (pkB x0 x1 s0 s1))) + (pkC x2 s2)))))) :: (rb, Own.ArrC Z .int ((TB.set j (1 : Int32)).map Value.int)) :: (o0, PSo Z (.ref ot) (.ref owd) (.ref osh) (.ref obt) (iI 2) (.ref opk) (.ref osd) (iI 2)) :: (opk, Own.ArrC Z .long [(.long (pkB x0 x1 s0 s1)), (.long (pkC x2 s2))]) :: (owd, Own.ArrC Z .int [(iI 0), (iI 0), (iI 1)]) :: (osh, Own.ArrC Z .int [(.int s0.toInt32), (.int s1.toInt32), (.int s2.toInt32)]) :: (osd, Own.ArrC Z .long (cpy SL 2 [(.long (pkB x0 x1 s0 s1)), (.long (pkC x2 s2))] 4)) :: fr) := O20.pick 7 rfl
  have O22 : Own.Owns n0 h19 ((rb, Own.ArrC Z .int ((TB.set j (1 : Int32)).map Value.int)) :: (ox, Own.ArrC Z .int [(.int x0), (.int x1), (.int x2)]) :: (ot, STo Z (.ref ra) (.ref rb) (.int (tz + (1 : Int32)))) :: (ra, Own.ArrC Z .long (SM.set j (.long (fMix ((fMix ((0 : Int64) + (pkB x0 x1 s0 s1))) + (pkC x2 s2)))))) :: (o0, PSo Z (.ref ot) (.ref owd) (.ref osh) (.ref obt) (iI 2) (.ref opk) (.ref osd) (iI 2)) :: (opk, Own.ArrC Z .long [(.long (pkB x0 x1 s0 s1)), (.long (pkC x2 s2))]) :: (owd, Own.ArrC Z .int [(iI 0), (iI 0), (iI 1)]) :: (osh, Own.ArrC Z .int [(.int s0.toInt32), (.int s1.toInt32), (.int s2.toInt32)]) :: (osd, Own.ArrC Z .long (cpy SL 2 [(.long (pkB x0 x1 s0 s1)), (.long (pkC x2 s2))] 4)) :: fr) := O21.pick 3 rfl
  have O23 : Own.Owns n0 h19 ((ra, Own.ArrC Z .long (SM.set j (.long (fMix ((fMix ((0 : Int64) + (pkB x0 x1 s0 s1))) + (pkC x2 s2)))))) :: (rb, Own.ArrC Z .int ((TB.set j (1 : Int32)).map Value.int)) :: (ox, Own.ArrC Z .int [(.int x0), (.int x1), (.int x2)]) :: (ot, STo Z (.ref ra) (.ref rb) (.int (tz + (1 : Int32)))) :: (o0, PSo Z (.ref ot) (.ref owd) (.ref osh) (.ref obt) (iI 2) (.ref opk) (.ref osd) (iI 2)) :: (opk, Own.ArrC Z .long [(.long (pkB x0 x1 s0 s1)), (.long (pkC x2 s2))]) :: (owd, Own.ArrC Z .int [(iI 0), (iI 0), (iI 1)]) :: (osh, Own.ArrC Z .int [(.int s0.toInt32), (.int s1.toInt32), (.int s2.toInt32)]) :: (osd, Own.ArrC Z .long (cpy SL 2 [(.long (pkB x0 x1 s0 s1)), (.long (pkC x2 s2))] 4)) :: fr) := O22.pick 3 rfl
  have O24 : Own.Owns n0 h19 ((ot, STo Z (.ref ra) (.ref rb) (.int (tz + (1 : Int32)))) :: (ra, Own.ArrC Z .long (SM.set j (.long (fMix ((fMix ((0 : Int64) + (pkB x0 x1 s0 s1))) + (pkC x2 s2)))))) :: (rb, Own.ArrC Z .int ((TB.set j (1 : Int32)).map Value.int)) :: (ox, Own.ArrC Z .int [(.int x0), (.int x1), (.int x2)]) :: (o0, PSo Z (.ref ot) (.ref owd) (.ref osh) (.ref obt) (iI 2) (.ref opk) (.ref osd) (iI 2)) :: (opk, Own.ArrC Z .long [(.long (pkB x0 x1 s0 s1)), (.long (pkC x2 s2))]) :: (owd, Own.ArrC Z .int [(iI 0), (iI 0), (iI 1)]) :: (osh, Own.ArrC Z .int [(.int s0.toInt32), (.int s1.toInt32), (.int s2.toInt32)]) :: (osd, Own.ArrC Z .long (cpy SL 2 [(.long (pkB x0 x1 s0 s1)), (.long (pkC x2 s2))] 4)) :: fr) := O23.pick 3 rfl
  have O25 : Own.Owns n0 h19 ((osd, Own.ArrC Z .long (cpy SL 2 [(.long (pkB x0 x1 s0 s1)), (.long (pkC x2 s2))] 4)) :: (ot, STo Z (.ref ra) (.ref rb) (.int (tz + (1 : Int32)))) :: (ra, Own.ArrC Z .long (SM.set j (.long (fMix ((fMix ((0 : Int64) + (pkB x0 x1 s0 s1))) + (pkC x2 s2)))))) :: (rb, Own.ArrC Z .int ((TB.set j (1 : Int32)).map Value.int)) :: (ox, Own.ArrC Z .int [(.int x0), (.int x1), (.int x2)]) :: (o0, PSo Z (.ref ot) (.ref owd) (.ref osh) (.ref obt) (iI 2) (.ref opk) (.ref osd) (iI 2)) :: (opk, Own.ArrC Z .long [(.long (pkB x0 x1 s0 s1)), (.long (pkC x2 s2))]) :: (owd, Own.ArrC Z .int [(iI 0), (iI 0), (iI 1)]) :: (osh, Own.ArrC Z .int [(.int s0.toInt32), (.int s1.toInt32), (.int s2.toInt32)]) :: fr) := O24.pick 8 rfl
  have O26 : Own.Owns n0 h19 ((osh, Own.ArrC Z .int [(.int s0.toInt32), (.int s1.toInt32), (.int s2.toInt32)]) :: (osd, Own.ArrC Z .long (cpy SL 2 [(.long (pkB x0 x1 s0 s1)), (.long (pkC x2 s2))] 4)) :: (ot, STo Z (.ref ra) (.ref rb) (.int (tz + (1 : Int32)))) :: (ra, Own.ArrC Z .long (SM.set j (.long (fMix ((fMix ((0 : Int64) + (pkB x0 x1 s0 s1))) + (pkC x2 s2)))))) :: (rb, Own.ArrC Z .int ((TB.set j (1 : Int32)).map Value.int)) :: (ox, Own.ArrC Z .int [(.int x0), (.int x1), (.int x2)]) :: (o0, PSo Z (.ref ot) (.ref owd) (.ref osh) (.ref obt) (iI 2) (.ref opk) (.ref osd) (iI 2)) :: (opk, Own.ArrC Z .long [(.long (pkB x0 x1 s0 s1)), (.long (pkC x2 s2))]) :: (owd, Own.ArrC Z .int [(iI 0), (iI 0), (iI 1)]) :: fr) := O25.pick 8 rfl
  have O27 : Own.Owns n0 h19 ((owd, Own.ArrC Z .int [(iI 0), (iI 0), (iI 1)]) :: (osh, Own.ArrC Z .int [(.int s0.toInt32), (.int s1.toInt32), (.int s2.toInt32)]) :: (osd, Own.ArrC Z .long (cpy SL 2 [(.long (pkB x0 x1 s0 s1)), (.long (pkC x2 s2))] 4)) :: (ot, STo Z (.ref ra) (.ref rb) (.int (tz + (1 : Int32)))) :: (ra, Own.ArrC Z .long (SM.set j (.long (fMix ((fMix ((0 : Int64) + (pkB x0 x1 s0 s1))) + (pkC x2 s2)))))) :: (rb, Own.ArrC Z .int ((TB.set j (1 : Int32)).map Value.int)) :: (ox, Own.ArrC Z .int [(.int x0), (.int x1), (.int x2)]) :: (o0, PSo Z (.ref ot) (.ref owd) (.ref osh) (.ref obt) (iI 2) (.ref opk) (.ref osd) (iI 2)) :: (opk, Own.ArrC Z .long [(.long (pkB x0 x1 s0 s1)), (.long (pkC x2 s2))]) :: fr) := O26.pick 8 rfl
  have O28 : Own.Owns n0 h19 ((opk, Own.ArrC Z .long [(.long (pkB x0 x1 s0 s1)), (.long (pkC x2 s2))]) :: (owd, Own.ArrC Z .int [(iI 0), (iI 0), (iI 1)]) :: (osh, Own.ArrC Z .int [(.int s0.toInt32), (.int s1.toInt32), (.int s2.toInt32)]) :: (osd, Own.ArrC Z .long (cpy SL 2 [(.long (pkB x0 x1 s0 s1)), (.long (pkC x2 s2))] 4)) :: (ot, STo Z (.ref ra) (.ref rb) (.int (tz + (1 : Int32)))) :: (ra, Own.ArrC Z .long (SM.set j (.long (fMix ((fMix ((0 : Int64) + (pkB x0 x1 s0 s1))) + (pkC x2 s2)))))) :: (rb, Own.ArrC Z .int ((TB.set j (1 : Int32)).map Value.int)) :: (ox, Own.ArrC Z .int [(.int x0), (.int x1), (.int x2)]) :: (o0, PSo Z (.ref ot) (.ref owd) (.ref osh) (.ref obt) (iI 2) (.ref opk) (.ref osd) (iI 2)) :: fr) := O27.pick 8 rfl
  have O29 : Own.Owns n0 h19 ((o0, PSo Z (.ref ot) (.ref owd) (.ref osh) (.ref obt) (iI 2) (.ref opk) (.ref osd) (iI 2)) :: (opk, Own.ArrC Z .long [(.long (pkB x0 x1 s0 s1)), (.long (pkC x2 s2))]) :: (owd, Own.ArrC Z .int [(iI 0), (iI 0), (iI 1)]) :: (osh, Own.ArrC Z .int [(.int s0.toInt32), (.int s1.toInt32), (.int s2.toInt32)]) :: (osd, Own.ArrC Z .long (cpy SL 2 [(.long (pkB x0 x1 s0 s1)), (.long (pkC x2 s2))] 4)) :: (ot, STo Z (.ref ra) (.ref rb) (.int (tz + (1 : Int32)))) :: (ra, Own.ArrC Z .long (SM.set j (.long (fMix ((fMix ((0 : Int64) + (pkB x0 x1 s0 s1))) + (pkC x2 s2)))))) :: (rb, Own.ArrC Z .int ((TB.set j (1 : Int32)).map Value.int)) :: (ox, Own.ArrC Z .int [(.int x0), (.int x1), (.int x2)]) :: fr) := O28.pick 8 rfl
  exact Own.retI hx hret hlk (hb hby d9_98) (by decide) (by decide) ⟨(cpy SL 2 [(.long (pkB x0 x1 s0 s1)), (.long (pkC x2 s2))] 4), (SM.set j (.long (fMix ((fMix ((0 : Int64) + (pkB x0 x1 s0 s1))) + (pkC x2 s2))))), (TB.set j (1 : Int32)), rfl, cpy_len hSL (by decide) (by decide) rfl, cpy_at (d := 2) (k := 0) (by rw [hSL]; decide) rfl, cpy_at (d := 2) (k := 1) (by rw [hSL]; decide) rfl, fun j' hj' => cpy_lo (by rw [hSL]; decide) hj', (List.length_set ..).trans hSM, (List.length_set ..).trans hTB, own_count (by rw [hTB]; exact hj) hct, O29⟩

theorem d16_0 : decode prog_12_method_6_code 0 = .ok (.iconst 0, 1) := by decide +kernel
theorem d16_1 : decode prog_12_method_6_code 1 = .ok (.istore_n 3, 1) := by decide +kernel
theorem d16_2 : decode prog_12_method_6_code 2 = .ok (.iload_n 3, 1) := by decide +kernel
theorem d16_3 : decode prog_12_method_6_code 3 = .ok (.aload_n 2, 1) := by decide +kernel
theorem d16_4 : decode prog_12_method_6_code 4 = .ok (.arraylength, 1) := by decide +kernel
theorem d16_5 : decode prog_12_method_6_code 5 = .ok (.if_icmp .ge 55, 3) := by decide +kernel
theorem d16_8 : decode prog_12_method_6_code 8 = .ok (.aload_n 0, 1) := by decide +kernel
theorem d16_9 : decode prog_12_method_6_code 9 = .ok (.getfield 42, 3) := by decide +kernel
theorem d16_12 : decode prog_12_method_6_code 12 = .ok (.iload_n 1, 1) := by decide +kernel
theorem d16_13 : decode prog_12_method_6_code 13 = .ok (.aload_n 0, 1) := by decide +kernel
theorem d16_14 : decode prog_12_method_6_code 14 = .ok (.getfield 34, 3) := by decide +kernel
theorem d16_17 : decode prog_12_method_6_code 17 = .ok (.imul, 1) := by decide +kernel
theorem d16_18 : decode prog_12_method_6_code 18 = .ok (.aload_n 0, 1) := by decide +kernel
theorem d16_19 : decode prog_12_method_6_code 19 = .ok (.getfield 16, 3) := by decide +kernel
theorem d16_22 : decode prog_12_method_6_code 22 = .ok (.iload_n 3, 1) := by decide +kernel
theorem d16_23 : decode prog_12_method_6_code 23 = .ok (.iaload, 1) := by decide +kernel
theorem d16_24 : decode prog_12_method_6_code 24 = .ok (.iadd, 1) := by decide +kernel
theorem d16_25 : decode prog_12_method_6_code 25 = .ok (.laload, 1) := by decide +kernel
theorem d16_26 : decode prog_12_method_6_code 26 = .ok (.aload_n 0, 1) := by decide +kernel
theorem d16_27 : decode prog_12_method_6_code 27 = .ok (.getfield 20, 3) := by decide +kernel
theorem d16_30 : decode prog_12_method_6_code 30 = .ok (.iload_n 3, 1) := by decide +kernel
theorem d16_31 : decode prog_12_method_6_code 31 = .ok (.iaload, 1) := by decide +kernel
theorem d16_32 : decode prog_12_method_6_code 32 = .ok (.lushr, 1) := by decide +kernel
theorem d16_33 : decode prog_12_method_6_code 33 = .ok (.lstore 4, 2) := by decide +kernel
theorem d16_35 : decode prog_12_method_6_code 35 = .ok (.aload_n 2, 1) := by decide +kernel
theorem d16_36 : decode prog_12_method_6_code 36 = .ok (.iload_n 3, 1) := by decide +kernel
theorem d16_37 : decode prog_12_method_6_code 37 = .ok (.lload 4, 2) := by decide +kernel
theorem d16_39 : decode prog_12_method_6_code 39 = .ok (.lconst 1, 1) := by decide +kernel
theorem d16_40 : decode prog_12_method_6_code 40 = .ok (.aload_n 0, 1) := by decide +kernel
theorem d16_41 : decode prog_12_method_6_code 41 = .ok (.getfield 23, 3) := by decide +kernel
theorem d16_44 : decode prog_12_method_6_code 44 = .ok (.iload_n 3, 1) := by decide +kernel
theorem d16_45 : decode prog_12_method_6_code 45 = .ok (.iaload, 1) := by decide +kernel
theorem d16_46 : decode prog_12_method_6_code 46 = .ok (.lshl, 1) := by decide +kernel
theorem d16_47 : decode prog_12_method_6_code 47 = .ok (.lconst 1, 1) := by decide +kernel
theorem d16_48 : decode prog_12_method_6_code 48 = .ok (.lsub, 1) := by decide +kernel
theorem d16_49 : decode prog_12_method_6_code 49 = .ok (.land, 1) := by decide +kernel
theorem d16_50 : decode prog_12_method_6_code 50 = .ok (.l2i, 1) := by decide +kernel
theorem d16_51 : decode prog_12_method_6_code 51 = .ok (.iconst 1, 1) := by decide +kernel
theorem d16_52 : decode prog_12_method_6_code 52 = .ok (.iadd, 1) := by decide +kernel
theorem d16_53 : decode prog_12_method_6_code 53 = .ok (.iastore, 1) := by decide +kernel
theorem d16_54 : decode prog_12_method_6_code 54 = .ok (.iinc 3 1, 3) := by decide +kernel
theorem d16_57 : decode prog_12_method_6_code 57 = .ok (.goto (-55), 3) := by decide +kernel
theorem d16_60 : decode prog_12_method_6_code 60 = .ok (.return_, 1) := by decide +kernel
theorem pn14 : plainFor (⟨"com/example/cuesheet/cuesheet/core/PackedStates", "read", "(I[I)V"⟩ : MethodName) = true := by first | exact plainFor_of_name (by simp [plainName, overriddenIn]; done) | decide +kernel
theorem ef16_10 (m : MethodId) (x0 : Addr) (x1 : Int32) (x2 : Addr) : entryFrame m #[(.ref x0), (.int x1), (.ref x2)] 6 = mkF m 0 #[.val (.ref x0), .val (.int x1), .val (.ref x2), .unset, .unset, .unset] [] := by first | (simp [entryFrame, mkF, argsToLocals, Value.category]; done) | rfl
set_option maxRecDepth 65536 in
set_option maxHeartbeats 40000000 in
theorem rm16_10 (l : Launch) (Z : State) (a0 : Array Value) (hw : ∀ d ∈ tables_1, d.before a0 Z = true) (o0 : Addr) (oo : Addr) (h0 : Heap) (n0 : Nat) (ot ra rb owd osh obt opk osd : Addr) (sz : Int32) (s0 s1 s2 b0 b1 b2 : Nat) (SL : List Value) (u0 : Int64) (hS0 : SL[0]? = some (.long u0)) (fr : List (Addr × (Cell → Prop))) (O0 : Own.Owns n0 h0 ((o0, PSo Z (.ref ot) (.ref owd) (.ref osh) (.ref obt) (iI 1) (.ref opk) (.ref osd) (.int sz)) :: (osd, Own.ArrC Z .long SL) :: (owd, Own.ArrC Z .int [(iI 0), (iI 0), (iI 0)]) :: (osh, Own.ArrC Z .int [(.int s0.toInt32), (.int s1.toInt32), (.int s2.toInt32)]) :: (obt, Own.ArrC Z .int [(.int b0.toInt32), (.int b1.toInt32), (.int b2.toInt32)]) :: (oo, Own.ArrC Z .int [(iI 0), (iI 0), (iI 0)]) :: fr))  : Own.Does l (⟨"com/example/cuesheet/cuesheet/core/PackedStates", "read", "(I[I)V"⟩ : MethodName) prog_12_method_6_code 6 none [] ({ frames := 0, cells := 0, slots := 0, locals := 0 } : Room) Z #[(.ref o0), (.int (0 : Int32)), (.ref oo)] h0 n0 (fun v h => v = none ∧ Own.Owns n0 h ((o0, PSo Z (.ref ot) (.ref owd) (.ref osh) (.ref obt) (iI 1) (.ref opk) (.ref osd) (.int sz)) :: (osd, Own.ArrC Z .long SL) :: (owd, Own.ArrC Z .int [(iI 0), (iI 0), (iI 0)]) :: (osh, Own.ArrC Z .int [(.int s0.toInt32), (.int s1.toInt32), (.int s2.toInt32)]) :: (obt, Own.ArrC Z .int [(.int b0.toInt32), (.int b1.toInt32), (.int b2.toInt32)]) :: (oo, Own.ArrC Z .int [(.int (rdx u0 s0 b0)), (.int (rdx u0 s1 b1)), (.int (rdx u0 s2 b2))]) :: fr)) := by
  refine Own.doesOf pn14 ?_
  intro p e s m below meth c hx hby hml hret hlk hown hnm hZ
  refine Own.Goes.cast (ef16_10 m o0 (0 : Int32) oo) ?_
  refine Own.iconst hx (0 : Int32) (hb hby d16_0) rfl (by decide) ?_
  refine Own.istoreN hx (0 : Int32) rfl #[.val (.ref o0), .val (.int (0 : Int32)), .val (.ref oo), .val (.int (0 : Int32)), .unset, .unset] (hb hby d16_1) rfl rfl ?_
  refine Own.iloadN hx (0 : Int32) (hb hby d16_2) rfl rfl ?_
  refine Own.aloadN hx (.ref oo) (hb hby d16_3) rfl rfl rfl ?_
  refine Own.arrlen hx hZ O0 5 rfl (3 : Int32) rfl (hb hby d16_4) rfl ?_
  have hc1 : (0 : Int32) < (3 : Int32) := by decide
  refine Own.icmpFn hx (Own.q_ge (0 : Int32) (3 : Int32)) (hb hby d16_5) (pcN := 8) rfl (by decide) (pcT := 60) rfl (fun q => absurd hc1 q) (fun _ => ?_)
  refine Own.aloadN hx (.ref o0) (hb hby d16_8) rfl rfl rfl ?_
  refine Own.getfield hx hZ hown O0 0 6 rfl rfl (hw _ (wm 54 rfl)) (hb hby d16_9) rfl ?_
  refine Own.iloadN hx (0 : Int32) (hb hby d16_12) rfl rfl ?_
  refine Own.aloadN hx (.ref o0) (hb hby d16_13) rfl rfl rfl ?_
  refine Own.getfield hx hZ hown O0 0 4 rfl rfl (hw _ (wm 50 rfl)) (hb hby d16_14) rfl ?_
  refine Own.imul hx (hb hby d16_17) rfl ?_
  refine Own.vI (0 : Int32) (by decide) ?_
  refine Own.aloadN hx (.ref o0) (hb hby d16_18) rfl rfl rfl ?_
  refine Own.getfield hx hZ hown O0 0 1 rfl rfl (hw _ (wm 39 rfl)) (hb hby d16_19) rfl ?_
  refine Own.iloadN hx (0 : Int32) (hb hby d16_22) rfl rfl ?_
  refine Own.iaload hx hZ O0 2 0 rfl (by decide) (v := (.int (0 : Int32))) rfl (hb hby d16_23) rfl ?_
  refine Own.iadd hx (hb hby d16_24) rfl ?_
  refine Own.vI (0 : Int32) (by decide) ?_
  refine Own.laload hx hZ O0 1 0 rfl (by decide) (v := (.long u0)) hS0 (hb hby d16_25) rfl ?_
  refine Own.aloadN hx (.ref o0) (hb hby d16_26) rfl rfl rfl ?_
  refine Own.getfield hx hZ hown O0 0 2 rfl rfl (hw _ (wm 41 rfl)) (hb hby d16_27) rfl ?_
  refine Own.iloadN hx (0 : Int32) (hb hby d16_30) rfl rfl ?_
  refine Own.iaload hx hZ O0 3 0 rfl (by decide) (v := (.int s0.toInt32)) rfl (hb hby d16_31) rfl ?_
  refine Own.lushr hx (hb hby d16_32) rfl ?_
  refine Own.lstore hx (u0.toUInt64 >>> (s0.toInt32 &&& 0x3f).toInt64.toUInt64).toInt64 rfl #[.val (.ref o0), .val (.int (0 : Int32)), .val (.ref oo), .val (.int (0 : Int32)), .val (.long (u0.toUInt64 >>> (s0.toInt32 &&& 0x3f).toInt64.toUInt64).toInt64), .second] (hb hby d16_33) rfl rfl ?_
  refine Own.aloadN hx (.ref oo) (hb hby d16_35) rfl rfl rfl ?_
  refine Own.iloadN hx (0 : Int32) (hb hby d16_36) rfl rfl ?_
  refine Own.lload hx (u0.toUInt64 >>> (s0.toInt32 &&& 0x3f).toInt64.toUInt64).toInt64 (hb hby d16_37) rfl rfl ?_
  refine Own.lconst hx (1 : Int64) (hb hby d16_39) rfl (by decide) ?_
  refine Own.aloadN hx (.ref o0) (hb hby d16_40) rfl rfl rfl ?_
  refine Own.getfield hx hZ hown O0 0 3 rfl rfl (hw _ (wm 43 rfl)) (hb hby d16_41) rfl ?_
  refine Own.iloadN hx (0 : Int32) (hb hby d16_44) rfl rfl ?_
  refine Own.iaload hx hZ O0 4 0 rfl (by decide) (v := (.int b0.toInt32)) rfl (hb hby d16_45) rfl ?_
  refine Own.lshl hx (hb hby d16_46) rfl ?_
  refine Own.lconst hx (1 : Int64) (hb hby d16_47) rfl (by decide) ?_
  refine Own.lsub hx (hb hby d16_48) rfl ?_
  refine Own.land hx (hb hby d16_49) rfl ?_
  refine Own.l2i hx (hb hby d16_50) rfl ?_
  refine Own.iconst hx (1 : Int32) (hb hby d16_51) rfl (by decide) ?_
  refine Own.iadd hx (hb hby d16_52) rfl ?_
  refine Own.iastore hx hZ O0 5 0 rfl (by decide) (by exact (show 0 < 3 by decide)) ((o0, PSo Z (.ref ot) (.ref owd) (.ref osh) (.ref obt) (iI 1) (.ref opk) (.ref osd) (.int sz)) :: (osd, Own.ArrC Z .long SL) :: (owd, Own.ArrC Z .int [(iI 0), (iI 0), (iI 0)]) :: (osh, Own.ArrC Z .int [(.int s0.toInt32), (.int s1.toInt32), (.int s2.toInt32)]) :: (obt, Own.ArrC Z .int [(.int b0.toInt32), (.int b1.toInt32), (.int b2.toInt32)]) :: (oo, Own.ArrC Z .int [(.int (((u0.toUInt64 >>> (s0.toInt32 &&& 0x3f).toInt64.toUInt64).toInt64 &&& (((1 : Int64) <<< (b0.toInt32 &&& 0x3f).toInt64) - (1 : Int64))).toInt32 + (1 : Int32))), (iI 0), (iI 0)]) :: fr) rfl (hb hby d16_53) rfl ?_
  intro h3 O4
  refine Own.iinc hx (1 : Int32) #[.val (.ref o0), .val (.int (0 : Int32)), .val (.ref oo), .val (.int (1 : Int32)), .val (.long (u0.toUInt64 >>> (s0.toInt32 &&& 0x3f).toInt64.toUInt64).toInt64), .second] (hb hby d16_54) rfl rfl (by decide) rfl ?_
  refine Own.goto hx (hb hby d16_57) (by decide) (pc' := 2) rfl ?_
  refine Own.iloadN hx (1 : Int32) (hb hby d16_2) rfl rfl ?_
  refine Own.aloadN hx (.ref oo) (hb hby d16_3) rfl rfl rfl ?_
  refine Own.arrlen hx hZ O4 5 rfl (3 : Int32) rfl (hb hby d16_4) rfl ?_
  have hc5 : (1 : Int32) < (3 : Int32) := by decide
  refine Own.icmpFn hx (Own.q_ge (1 : Int32) (3 : Int32)) (hb hby d16_5) (pcN := 8) rfl (by decide) (pcT := 60) rfl (fun q => absurd hc5 q) (fun _ => ?_)
  refine Own.aloadN hx (.ref o0) (hb hby d16_8) rfl rfl rfl ?_
  refine Own.getfield hx hZ hown O4 0 6 rfl rfl (hw _ (wm 54 rfl)) (hb hby d16_9) rfl ?_
  refine Own.iloadN hx (0 : Int32) (hb hby d16_12) rfl rfl ?_
  refine Own.aloadN hx (.ref o0) (hb hby d16_13) rfl rfl rfl ?_
  refine Own.getfield hx hZ hown O4 0 4 rfl rfl (hw _ (wm 50 rfl)) (hb hby d16_14) rfl ?_
  refine Own.imul hx (hb hby d16_17) rfl ?_
  refine Own.vI (0 : Int32) (by decide) ?_
  refine Own.aloadN hx (.ref o0) (hb hby d16_18) rfl rfl rfl ?_
  refine Own.getfield hx hZ hown O4 0 1 rfl rfl (hw _ (wm 39 rfl)) (hb hby d16_19) rfl ?_
  refine Own.iloadN hx (1 : Int32) (hb hby d16_22) rfl rfl ?_
  refine Own.iaload hx hZ O4 2 1 rfl (by decide) (v := (.int (0 : Int32))) rfl (hb hby d16_23) rfl ?_
  refine Own.iadd hx (hb hby d16_24) rfl ?_
  refine Own.vI (0 : Int32) (by decide) ?_
  refine Own.laload hx hZ O4 1 0 rfl (by decide) (v := (.long u0)) hS0 (hb hby d16_25) rfl ?_
  refine Own.aloadN hx (.ref o0) (hb hby d16_26) rfl rfl rfl ?_
  refine Own.getfield hx hZ hown O4 0 2 rfl rfl (hw _ (wm 41 rfl)) (hb hby d16_27) rfl ?_
  refine Own.iloadN hx (1 : Int32) (hb hby d16_30) rfl rfl ?_
  refine Own.iaload hx hZ O4 3 1 rfl (by decide) (v := (.int s1.toInt32)) rfl (hb hby d16_31) rfl ?_
  refine Own.lushr hx (hb hby d16_32) rfl ?_
  refine Own.lstore hx (u0.toUInt64 >>> (s1.toInt32 &&& 0x3f).toInt64.toUInt64).toInt64 rfl #[.val (.ref o0), .val (.int (0 : Int32)), .val (.ref oo), .val (.int (1 : Int32)), .val (.long (u0.toUInt64 >>> (s1.toInt32 &&& 0x3f).toInt64.toUInt64).toInt64), .second] (hb hby d16_33) rfl rfl ?_
  refine Own.aloadN hx (.ref oo) (hb hby d16_35) rfl rfl rfl ?_
  refine Own.iloadN hx (1 : Int32) (hb hby d16_36) rfl rfl ?_
  refine Own.lload hx (u0.toUInt64 >>> (s1.toInt32 &&& 0x3f).toInt64.toUInt64).toInt64 (hb hby d16_37) rfl rfl ?_
  refine Own.lconst hx (1 : Int64) (hb hby d16_39) rfl (by decide) ?_
  refine Own.aloadN hx (.ref o0) (hb hby d16_40) rfl rfl rfl ?_
  refine Own.getfield hx hZ hown O4 0 3 rfl rfl (hw _ (wm 43 rfl)) (hb hby d16_41) rfl ?_
  refine Own.iloadN hx (1 : Int32) (hb hby d16_44) rfl rfl ?_
  refine Own.iaload hx hZ O4 4 1 rfl (by decide) (v := (.int b1.toInt32)) rfl (hb hby d16_45) rfl ?_
  refine Own.lshl hx (hb hby d16_46) rfl ?_
  refine Own.lconst hx (1 : Int64) (hb hby d16_47) rfl (by decide) ?_
  refine Own.lsub hx (hb hby d16_48) rfl ?_
  refine Own.land hx (hb hby d16_49) rfl ?_
  refine Own.l2i hx (hb hby d16_50) rfl ?_
  refine Own.iconst hx (1 : Int32) (hb hby d16_51) rfl (by decide) ?_
  refine Own.iadd hx (hb hby d16_52) rfl ?_
  refine Own.iastore hx hZ O4 5 1 rfl (by decide) (by exact (show 1 < 3 by decide)) ((o0, PSo Z (.ref ot) (.ref owd) (.ref osh) (.ref obt) (iI 1) (.ref opk) (.ref osd) (.int sz)) :: (osd, Own.ArrC Z .long SL) :: (owd, Own.ArrC Z .int [(iI 0), (iI 0), (iI 0)]) :: (osh, Own.ArrC Z .int [(.int s0.toInt32), (.int s1.toInt32), (.int s2.toInt32)]) :: (obt, Own.ArrC Z .int [(.int b0.toInt32), (.int b1.toInt32), (.int b2.toInt32)]) :: (oo, Own.ArrC Z .int [(.int (((u0.toUInt64 >>> (s0.toInt32 &&& 0x3f).toInt64.toUInt64).toInt64 &&& (((1 : Int64) <<< (b0.toInt32 &&& 0x3f).toInt64) - (1 : Int64))).toInt32 + (1 : Int32))), (.int (((u0.toUInt64 >>> (s1.toInt32 &&& 0x3f).toInt64.toUInt64).toInt64 &&& (((1 : Int64) <<< (b1.toInt32 &&& 0x3f).toInt64) - (1 : Int64))).toInt32 + (1 : Int32))), (iI 0)]) :: fr) rfl (hb hby d16_53) rfl ?_
  intro h7 O8
  refine Own.iinc hx (2 : Int32) #[.val (.ref o0), .val (.int (0 : Int32)), .val (.ref oo), .val (.int (2 : Int32)), .val (.long (u0.toUInt64 >>> (s1.toInt32 &&& 0x3f).toInt64.toUInt64).toInt64), .second] (hb hby d16_54) rfl rfl (by decide) rfl ?_
  refine Own.goto hx (hb hby d16_57) (by decide) (pc' := 2) rfl ?_
  refine Own.iloadN hx (2 : Int32) (hb hby d16_2) rfl rfl ?_
  refine Own.aloadN hx (.ref oo) (hb hby d16_3) rfl rfl rfl ?_
  refine Own.arrlen hx hZ O8 5 rfl (3 : Int32) rfl (hb hby d16_4) rfl ?_
  have hc9 : (2 : Int32) < (3 : Int32) := by decide
  refine Own.icmpFn hx (Own.q_ge (2 : Int32) (3 : Int32)) (hb hby d16_5) (pcN := 8) rfl (by decide) (pcT := 60) rfl (fun q => absurd hc9 q) (fun _ => ?_)
  refine Own.aloadN hx (.ref o0) (hb hby d16_8) rfl rfl rfl ?_
  refine Own.getfield hx hZ hown O8 0 6 rfl rfl (hw _ (wm 54 rfl)) (hb hby d16_9) rfl ?_
  refine Own.iloadN hx (0 : Int32) (hb hby d16_12) rfl rfl ?_
  refine Own.aloadN hx (.ref o0) (hb hby d16_13) rfl rfl rfl ?_
  refine Own.getfield hx hZ hown O8 0 4 rfl rfl (hw _ (wm 50 rfl)) (hb hby d16_14) rfl ?_
  refine Own.imul hx (hb hby d16_17) rfl ?_
  refine Own.vI (0 : Int32) (by decide) ?_
  refine Own.aloadN hx (.ref o0) (hb hby d16_18) rfl rfl rfl ?_
  refine Own.getfield hx hZ hown O8 0 1 rfl rfl (hw _ (wm 39 rfl)) (hb hby d16_19) rfl ?_
  refine Own.iloadN hx (2 : Int32) (hb hby d16_22) rfl rfl ?_
  refine Own.iaload hx hZ O8 2 2 rfl (by decide) (v := (.int (0 : Int32))) rfl (hb hby d16_23) rfl ?_
  refine Own.iadd hx (hb hby d16_24) rfl ?_
  refine Own.vI (0 : Int32) (by decide) ?_
  refine Own.laload hx hZ O8 1 0 rfl (by decide) (v := (.long u0)) hS0 (hb hby d16_25) rfl ?_
  refine Own.aloadN hx (.ref o0) (hb hby d16_26) rfl rfl rfl ?_
  refine Own.getfield hx hZ hown O8 0 2 rfl rfl (hw _ (wm 41 rfl)) (hb hby d16_27) rfl ?_
  refine Own.iloadN hx (2 : Int32) (hb hby d16_30) rfl rfl ?_
  refine Own.iaload hx hZ O8 3 2 rfl (by decide) (v := (.int s2.toInt32)) rfl (hb hby d16_31) rfl ?_
  refine Own.lushr hx (hb hby d16_32) rfl ?_
  refine Own.lstore hx (u0.toUInt64 >>> (s2.toInt32 &&& 0x3f).toInt64.toUInt64).toInt64 rfl #[.val (.ref o0), .val (.int (0 : Int32)), .val (.ref oo), .val (.int (2 : Int32)), .val (.long (u0.toUInt64 >>> (s2.toInt32 &&& 0x3f).toInt64.toUInt64).toInt64), .second] (hb hby d16_33) rfl rfl ?_
  refine Own.aloadN hx (.ref oo) (hb hby d16_35) rfl rfl rfl ?_
  refine Own.iloadN hx (2 : Int32) (hb hby d16_36) rfl rfl ?_
  refine Own.lload hx (u0.toUInt64 >>> (s2.toInt32 &&& 0x3f).toInt64.toUInt64).toInt64 (hb hby d16_37) rfl rfl ?_
  refine Own.lconst hx (1 : Int64) (hb hby d16_39) rfl (by decide) ?_
  refine Own.aloadN hx (.ref o0) (hb hby d16_40) rfl rfl rfl ?_
  refine Own.getfield hx hZ hown O8 0 3 rfl rfl (hw _ (wm 43 rfl)) (hb hby d16_41) rfl ?_
  refine Own.iloadN hx (2 : Int32) (hb hby d16_44) rfl rfl ?_
  refine Own.iaload hx hZ O8 4 2 rfl (by decide) (v := (.int b2.toInt32)) rfl (hb hby d16_45) rfl ?_
  refine Own.lshl hx (hb hby d16_46) rfl ?_
  refine Own.lconst hx (1 : Int64) (hb hby d16_47) rfl (by decide) ?_
  refine Own.lsub hx (hb hby d16_48) rfl ?_
  refine Own.land hx (hb hby d16_49) rfl ?_
  refine Own.l2i hx (hb hby d16_50) rfl ?_
  refine Own.iconst hx (1 : Int32) (hb hby d16_51) rfl (by decide) ?_
  refine Own.iadd hx (hb hby d16_52) rfl ?_
  refine Own.iastore hx hZ O8 5 2 rfl (by decide) (by exact (show 2 < 3 by decide)) ((o0, PSo Z (.ref ot) (.ref owd) (.ref osh) (.ref obt) (iI 1) (.ref opk) (.ref osd) (.int sz)) :: (osd, Own.ArrC Z .long SL) :: (owd, Own.ArrC Z .int [(iI 0), (iI 0), (iI 0)]) :: (osh, Own.ArrC Z .int [(.int s0.toInt32), (.int s1.toInt32), (.int s2.toInt32)]) :: (obt, Own.ArrC Z .int [(.int b0.toInt32), (.int b1.toInt32), (.int b2.toInt32)]) :: (oo, Own.ArrC Z .int [(.int (((u0.toUInt64 >>> (s0.toInt32 &&& 0x3f).toInt64.toUInt64).toInt64 &&& (((1 : Int64) <<< (b0.toInt32 &&& 0x3f).toInt64) - (1 : Int64))).toInt32 + (1 : Int32))), (.int (((u0.toUInt64 >>> (s1.toInt32 &&& 0x3f).toInt64.toUInt64).toInt64 &&& (((1 : Int64) <<< (b1.toInt32 &&& 0x3f).toInt64) - (1 : Int64))).toInt32 + (1 : Int32))), (.int (((u0.toUInt64 >>> (s2.toInt32 &&& 0x3f).toInt64.toUInt64).toInt64 &&& (((1 : Int64) <<< (b2.toInt32 &&& 0x3f).toInt64) - (1 : Int64))).toInt32 + (1 : Int32)))]) :: fr) rfl (hb hby d16_53) rfl ?_
  intro h11 O12
  refine Own.iinc hx (3 : Int32) #[.val (.ref o0), .val (.int (0 : Int32)), .val (.ref oo), .val (.int (3 : Int32)), .val (.long (u0.toUInt64 >>> (s2.toInt32 &&& 0x3f).toInt64.toUInt64).toInt64), .second] (hb hby d16_54) rfl rfl (by decide) rfl ?_
  refine Own.goto hx (hb hby d16_57) (by decide) (pc' := 2) rfl ?_
  refine Own.iloadN hx (3 : Int32) (hb hby d16_2) rfl rfl ?_
  refine Own.aloadN hx (.ref oo) (hb hby d16_3) rfl rfl rfl ?_
  refine Own.arrlen hx hZ O12 5 rfl (3 : Int32) rfl (hb hby d16_4) rfl ?_
  have hc13 : ¬ ((3 : Int32) < (3 : Int32)) := by decide
  refine Own.icmpFn hx (Own.q_ge (3 : Int32) (3 : Int32)) (hb hby d16_5) (pcN := 8) rfl (by decide) (pcT := 60) rfl (fun _ => ?_) (fun q => absurd q hc13)
  exact Own.retV hx hret hlk (hb hby d16_60) (by decide) (by decide) ⟨rfl, O12⟩

theorem ef16_11 (m : MethodId) (x0 : Addr) (x1 : Int32) (x2 : Addr) : entryFrame m #[(.ref x0), (.int x1), (.ref x2)] 6 = mkF m 0 #[.val (.ref x0), .val (.int x1), .val (.ref x2), .unset, .unset, .unset] [] := by first | (simp [entryFrame, mkF, argsToLocals, Value.category]; done) | rfl
set_option maxRecDepth 65536 in
set_option maxHeartbeats 40000000 in
theorem rm16_11 (l : Launch) (Z : State) (a0 : Array Value) (hw : ∀ d ∈ tables_1, d.before a0 Z = true) (o0 : Addr) (oo : Addr) (h0 : Heap) (n0 : Nat) (ot ra rb owd osh obt opk osd : Addr) (sz : Int32) (s0 s1 s2 b0 b1 b2 : Nat) (SL : List Value) (u0 : Int64) (hS0 : SL[1]? = some (.long u0)) (fr : List (Addr × (Cell → Prop))) (O0 : Own.Owns n0 h0 ((o0, PSo Z (.ref ot) (.ref owd) (.ref osh) (.ref obt) (iI 1) (.ref opk) (.ref osd) (.int sz)) :: (osd, Own.ArrC Z .long SL) :: (owd, Own.ArrC Z .int [(iI 0), (iI 0), (iI 0)]) :: (osh, Own.ArrC Z .int [(.int s0.toInt32), (.int s1.toInt32), (.int s2.toInt32)]) :: (obt, Own.ArrC Z .int [(.int b0.toInt32), (.int b1.toInt32), (.int b2.toInt32)]) :: (oo, Own.ArrC Z .int [(iI 0), (iI 0), (iI 0)]) :: fr))  : Own.Does l (⟨"com/example/cuesheet/cuesheet/core/PackedStates", "read", "(I[I)V"⟩ : MethodName) prog_12_method_6_code 6 none [] ({ frames := 0, cells := 0, slots := 0, locals := 0 } : Room) Z #[(.ref o0), (.int (1 : Int32)), (.ref oo)] h0 n0 (fun v h => v = none ∧ Own.Owns n0 h ((o0, PSo Z (.ref ot) (.ref owd) (.ref osh) (.ref obt) (iI 1) (.ref opk) (.ref osd) (.int sz)) :: (osd, Own.ArrC Z .long SL) :: (owd, Own.ArrC Z .int [(iI 0), (iI 0), (iI 0)]) :: (osh, Own.ArrC Z .int [(.int s0.toInt32), (.int s1.toInt32), (.int s2.toInt32)]) :: (obt, Own.ArrC Z .int [(.int b0.toInt32), (.int b1.toInt32), (.int b2.toInt32)]) :: (oo, Own.ArrC Z .int [(.int (rdx u0 s0 b0)), (.int (rdx u0 s1 b1)), (.int (rdx u0 s2 b2))]) :: fr)) := by
  refine Own.doesOf pn14 ?_
  intro p e s m below meth c hx hby hml hret hlk hown hnm hZ
  refine Own.Goes.cast (ef16_11 m o0 (1 : Int32) oo) ?_
  refine Own.iconst hx (0 : Int32) (hb hby d16_0) rfl (by decide) ?_
  refine Own.istoreN hx (0 : Int32) rfl #[.val (.ref o0), .val (.int (1 : Int32)), .val (.ref oo), .val (.int (0 : Int32)), .unset, .unset] (hb hby d16_1) rfl rfl ?_
  refine Own.iloadN hx (0 : Int32) (hb hby d16_2) rfl rfl ?_
  refine Own.aloadN hx (.ref oo) (hb hby d16_3) rfl rfl rfl ?_
  refine Own.arrlen hx hZ O0 5 rfl (3 : Int32) rfl (hb hby d16_4) rfl ?_
  have hc1 : (0 : Int32) < (3 : Int32) := by decide
  refine Own.icmpFn hx (Own.q_ge (0 : Int32) (3 : Int32)) (hb hby d16_5) (pcN := 8) rfl (by decide) (pcT := 60) rfl (fun q => absurd hc1 q) (fun _ => ?_)
  refine Own.aloadN hx (.ref o0) (hb hby d16_8) rfl rfl rfl ?_
  refine Own.getfield hx hZ hown O0 0 6 rfl rfl (hw _ (wm 54 rfl)) (hb hby d16_9) rfl ?_
  refine Own.iloadN hx (1 : Int32) (hb hby d16_12) rfl rfl ?_
  refine Own.aloadN hx (.ref o0) (hb hby d16_13) rfl rfl rfl ?_
  refine Own.getfield hx hZ hown O0 0 4 rfl rfl (hw _ (wm 50 rfl)) (hb hby d16_14) rfl ?_
  refine Own.imul hx (hb hby d16_17) rfl ?_
  refine Own.vI (1 : Int32) (by decide) ?_
  refine Own.aloadN hx (.ref o0) (hb hby d16_18) rfl rfl rfl ?_
  refine Own.getfield hx hZ hown O0 0 1 rfl rfl (hw _ (wm 39 rfl)) (hb hby d16_19) rfl ?_
  refine Own.iloadN hx (0 : Int32) (hb hby d16_22) rfl rfl ?_
  refine Own.iaload hx hZ O0 2 0 rfl (by decide) (v := (.int (0 : Int32))) rfl (hb hby d16_23) rfl ?_
  refine Own.iadd hx (hb hby d16_24) rfl ?_
  refine Own.vI (1 : Int32) (by decide) ?_
  refine Own.laload hx hZ O0 1 1 rfl (by decide) (v := (.long u0)) hS0 (hb hby d16_25) rfl ?_
  refine Own.aloadN hx (.ref o0) (hb hby d16_26) rfl rfl rfl ?_
  refine Own.getfield hx hZ hown O0 0 2 rfl rfl (hw _ (wm 41 rfl)) (hb hby d16_27) rfl ?_
  refine Own.iloadN hx (0 : Int32) (hb hby d16_30) rfl rfl ?_
  refine Own.iaload hx hZ O0 3 0 rfl (by decide) (v := (.int s0.toInt32)) rfl (hb hby d16_31) rfl ?_
  refine Own.lushr hx (hb hby d16_32) rfl ?_
  refine Own.lstore hx (u0.toUInt64 >>> (s0.toInt32 &&& 0x3f).toInt64.toUInt64).toInt64 rfl #[.val (.ref o0), .val (.int (1 : Int32)), .val (.ref oo), .val (.int (0 : Int32)), .val (.long (u0.toUInt64 >>> (s0.toInt32 &&& 0x3f).toInt64.toUInt64).toInt64), .second] (hb hby d16_33) rfl rfl ?_
  refine Own.aloadN hx (.ref oo) (hb hby d16_35) rfl rfl rfl ?_
  refine Own.iloadN hx (0 : Int32) (hb hby d16_36) rfl rfl ?_
  refine Own.lload hx (u0.toUInt64 >>> (s0.toInt32 &&& 0x3f).toInt64.toUInt64).toInt64 (hb hby d16_37) rfl rfl ?_
  refine Own.lconst hx (1 : Int64) (hb hby d16_39) rfl (by decide) ?_
  refine Own.aloadN hx (.ref o0) (hb hby d16_40) rfl rfl rfl ?_
  refine Own.getfield hx hZ hown O0 0 3 rfl rfl (hw _ (wm 43 rfl)) (hb hby d16_41) rfl ?_
  refine Own.iloadN hx (0 : Int32) (hb hby d16_44) rfl rfl ?_
  refine Own.iaload hx hZ O0 4 0 rfl (by decide) (v := (.int b0.toInt32)) rfl (hb hby d16_45) rfl ?_
  refine Own.lshl hx (hb hby d16_46) rfl ?_
  refine Own.lconst hx (1 : Int64) (hb hby d16_47) rfl (by decide) ?_
  refine Own.lsub hx (hb hby d16_48) rfl ?_
  refine Own.land hx (hb hby d16_49) rfl ?_
  refine Own.l2i hx (hb hby d16_50) rfl ?_
  refine Own.iconst hx (1 : Int32) (hb hby d16_51) rfl (by decide) ?_
  refine Own.iadd hx (hb hby d16_52) rfl ?_
  refine Own.iastore hx hZ O0 5 0 rfl (by decide) (by exact (show 0 < 3 by decide)) ((o0, PSo Z (.ref ot) (.ref owd) (.ref osh) (.ref obt) (iI 1) (.ref opk) (.ref osd) (.int sz)) :: (osd, Own.ArrC Z .long SL) :: (owd, Own.ArrC Z .int [(iI 0), (iI 0), (iI 0)]) :: (osh, Own.ArrC Z .int [(.int s0.toInt32), (.int s1.toInt32), (.int s2.toInt32)]) :: (obt, Own.ArrC Z .int [(.int b0.toInt32), (.int b1.toInt32), (.int b2.toInt32)]) :: (oo, Own.ArrC Z .int [(.int (((u0.toUInt64 >>> (s0.toInt32 &&& 0x3f).toInt64.toUInt64).toInt64 &&& (((1 : Int64) <<< (b0.toInt32 &&& 0x3f).toInt64) - (1 : Int64))).toInt32 + (1 : Int32))), (iI 0), (iI 0)]) :: fr) rfl (hb hby d16_53) rfl ?_
  intro h3 O4
  refine Own.iinc hx (1 : Int32) #[.val (.ref o0), .val (.int (1 : Int32)), .val (.ref oo), .val (.int (1 : Int32)), .val (.long (u0.toUInt64 >>> (s0.toInt32 &&& 0x3f).toInt64.toUInt64).toInt64), .second] (hb hby d16_54) rfl rfl (by decide) rfl ?_
  refine Own.goto hx (hb hby d16_57) (by decide) (pc' := 2) rfl ?_
  refine Own.iloadN hx (1 : Int32) (hb hby d16_2) rfl rfl ?_
  refine Own.aloadN hx (.ref oo) (hb hby d16_3) rfl rfl rfl ?_
  refine Own.arrlen hx hZ O4 5 rfl (3 : Int32) rfl (hb hby d16_4) rfl ?_
  have hc5 : (1 : Int32) < (3 : Int32) := by decide
  refine Own.icmpFn hx (Own.q_ge (1 : Int32) (3 : Int32)) (hb hby d16_5) (pcN := 8) rfl (by decide) (pcT := 60) rfl (fun q => absurd hc5 q) (fun _ => ?_)
  refine Own.aloadN hx (.ref o0) (hb hby d16_8) rfl rfl rfl ?_
  refine Own.getfield hx hZ hown O4 0 6 rfl rfl (hw _ (wm 54 rfl)) (hb hby d16_9) rfl ?_
  refine Own.iloadN hx (1 : Int32) (hb hby d16_12) rfl rfl ?_
  refine Own.aloadN hx (.ref o0) (hb hby d16_13) rfl rfl rfl ?_
  refine Own.getfield hx hZ hown O4 0 4 rfl rfl (hw _ (wm 50 rfl)) (hb hby d16_14) rfl ?_
  refine Own.imul hx (hb hby d16_17) rfl ?_
  refine Own.vI (1 : Int32) (by decide) ?_
  refine Own.aloadN hx (.ref o0) (hb hby d16_18) rfl rfl rfl ?_
  refine Own.getfield hx hZ hown O4 0 1 rfl rfl (hw _ (wm 39 rfl)) (hb hby d16_19) rfl ?_
  refine Own.iloadN hx (1 : Int32) (hb hby d16_22) rfl rfl ?_
  refine Own.iaload hx hZ O4 2 1 rfl (by decide) (v := (.int (0 : Int32))) rfl (hb hby d16_23) rfl ?_
  refine Own.iadd hx (hb hby d16_24) rfl ?_
  refine Own.vI (1 : Int32) (by decide) ?_
  refine Own.laload hx hZ O4 1 1 rfl (by decide) (v := (.long u0)) hS0 (hb hby d16_25) rfl ?_
  refine Own.aloadN hx (.ref o0) (hb hby d16_26) rfl rfl rfl ?_
  refine Own.getfield hx hZ hown O4 0 2 rfl rfl (hw _ (wm 41 rfl)) (hb hby d16_27) rfl ?_
  refine Own.iloadN hx (1 : Int32) (hb hby d16_30) rfl rfl ?_
  refine Own.iaload hx hZ O4 3 1 rfl (by decide) (v := (.int s1.toInt32)) rfl (hb hby d16_31) rfl ?_
  refine Own.lushr hx (hb hby d16_32) rfl ?_
  refine Own.lstore hx (u0.toUInt64 >>> (s1.toInt32 &&& 0x3f).toInt64.toUInt64).toInt64 rfl #[.val (.ref o0), .val (.int (1 : Int32)), .val (.ref oo), .val (.int (1 : Int32)), .val (.long (u0.toUInt64 >>> (s1.toInt32 &&& 0x3f).toInt64.toUInt64).toInt64), .second] (hb hby d16_33) rfl rfl ?_
  refine Own.aloadN hx (.ref oo) (hb hby d16_35) rfl rfl rfl ?_
  refine Own.iloadN hx (1 : Int32) (hb hby d16_36) rfl rfl ?_
  refine Own.lload hx (u0.toUInt64 >>> (s1.toInt32 &&& 0x3f).toInt64.toUInt64).toInt64 (hb hby d16_37) rfl rfl ?_
  refine Own.lconst hx (1 : Int64) (hb hby d16_39) rfl (by decide) ?_
  refine Own.aloadN hx (.ref o0) (hb hby d16_40) rfl rfl rfl ?_
  refine Own.getfield hx hZ hown O4 0 3 rfl rfl (hw _ (wm 43 rfl)) (hb hby d16_41) rfl ?_
  refine Own.iloadN hx (1 : Int32) (hb hby d16_44) rfl rfl ?_
  refine Own.iaload hx hZ O4 4 1 rfl (by decide) (v := (.int b1.toInt32)) rfl (hb hby d16_45) rfl ?_
  refine Own.lshl hx (hb hby d16_46) rfl ?_
  refine Own.lconst hx (1 : Int64) (hb hby d16_47) rfl (by decide) ?_
  refine Own.lsub hx (hb hby d16_48) rfl ?_
  refine Own.land hx (hb hby d16_49) rfl ?_
  refine Own.l2i hx (hb hby d16_50) rfl ?_
  refine Own.iconst hx (1 : Int32) (hb hby d16_51) rfl (by decide) ?_
  refine Own.iadd hx (hb hby d16_52) rfl ?_
  refine Own.iastore hx hZ O4 5 1 rfl (by decide) (by exact (show 1 < 3 by decide)) ((o0, PSo Z (.ref ot) (.ref owd) (.ref osh) (.ref obt) (iI 1) (.ref opk) (.ref osd) (.int sz)) :: (osd, Own.ArrC Z .long SL) :: (owd, Own.ArrC Z .int [(iI 0), (iI 0), (iI 0)]) :: (osh, Own.ArrC Z .int [(.int s0.toInt32), (.int s1.toInt32), (.int s2.toInt32)]) :: (obt, Own.ArrC Z .int [(.int b0.toInt32), (.int b1.toInt32), (.int b2.toInt32)]) :: (oo, Own.ArrC Z .int [(.int (((u0.toUInt64 >>> (s0.toInt32 &&& 0x3f).toInt64.toUInt64).toInt64 &&& (((1 : Int64) <<< (b0.toInt32 &&& 0x3f).toInt64) - (1 : Int64))).toInt32 + (1 : Int32))), (.int (((u0.toUInt64 >>> (s1.toInt32 &&& 0x3f).toInt64.toUInt64).toInt64 &&& (((1 : Int64) <<< (b1.toInt32 &&& 0x3f).toInt64) - (1 : Int64))).toInt32 + (1 : Int32))), (iI 0)]) :: fr) rfl (hb hby d16_53) rfl ?_
  intro h7 O8
  refine Own.iinc hx (2 : Int32) #[.val (.ref o0), .val (.int (1 : Int32)), .val (.ref oo), .val (.int (2 : Int32)), .val (.long (u0.toUInt64 >>> (s1.toInt32 &&& 0x3f).toInt64.toUInt64).toInt64), .second] (hb hby d16_54) rfl rfl (by decide) rfl ?_
  refine Own.goto hx (hb hby d16_57) (by decide) (pc' := 2) rfl ?_
  refine Own.iloadN hx (2 : Int32) (hb hby d16_2) rfl rfl ?_
  refine Own.aloadN hx (.ref oo) (hb hby d16_3) rfl rfl rfl ?_
  refine Own.arrlen hx hZ O8 5 rfl (3 : Int32) rfl (hb hby d16_4) rfl ?_
  have hc9 : (2 : Int32) < (3 : Int32) := by decide
  refine Own.icmpFn hx (Own.q_ge (2 : Int32) (3 : Int32)) (hb hby d16_5) (pcN := 8) rfl (by decide) (pcT := 60) rfl (fun q => absurd hc9 q) (fun _ => ?_)
  refine Own.aloadN hx (.ref o0) (hb hby d16_8) rfl rfl rfl ?_
  refine Own.getfield hx hZ hown O8 0 6 rfl rfl (hw _ (wm 54 rfl)) (hb hby d16_9) rfl ?_
  refine Own.iloadN hx (1 : Int32) (hb hby d16_12) rfl rfl ?_
  refine Own.aloadN hx (.ref o0) (hb hby d16_13) rfl rfl rfl ?_
  refine Own.getfield hx hZ hown O8 0 4 rfl rfl (hw _ (wm 50 rfl)) (hb hby d16_14) rfl ?_
  refine Own.imul hx (hb hby d16_17) rfl ?_
  refine Own.vI (1 : Int32) (by decide) ?_
  refine Own.aloadN hx (.ref o0) (hb hby d16_18) rfl rfl rfl ?_
  refine Own.getfield hx hZ hown O8 0 1 rfl rfl (hw _ (wm 39 rfl)) (hb hby d16_19) rfl ?_
  refine Own.iloadN hx (2 : Int32) (hb hby d16_22) rfl rfl ?_
  refine Own.iaload hx hZ O8 2 2 rfl (by decide) (v := (.int (0 : Int32))) rfl (hb hby d16_23) rfl ?_
  refine Own.iadd hx (hb hby d16_24) rfl ?_
  refine Own.vI (1 : Int32) (by decide) ?_
  refine Own.laload hx hZ O8 1 1 rfl (by decide) (v := (.long u0)) hS0 (hb hby d16_25) rfl ?_
  refine Own.aloadN hx (.ref o0) (hb hby d16_26) rfl rfl rfl ?_
  refine Own.getfield hx hZ hown O8 0 2 rfl rfl (hw _ (wm 41 rfl)) (hb hby d16_27) rfl ?_
  refine Own.iloadN hx (2 : Int32) (hb hby d16_30) rfl rfl ?_
  refine Own.iaload hx hZ O8 3 2 rfl (by decide) (v := (.int s2.toInt32)) rfl (hb hby d16_31) rfl ?_
  refine Own.lushr hx (hb hby d16_32) rfl ?_
  refine Own.lstore hx (u0.toUInt64 >>> (s2.toInt32 &&& 0x3f).toInt64.toUInt64).toInt64 rfl #[.val (.ref o0), .val (.int (1 : Int32)), .val (.ref oo), .val (.int (2 : Int32)), .val (.long (u0.toUInt64 >>> (s2.toInt32 &&& 0x3f).toInt64.toUInt64).toInt64), .second] (hb hby d16_33) rfl rfl ?_
  refine Own.aloadN hx (.ref oo) (hb hby d16_35) rfl rfl rfl ?_
  refine Own.iloadN hx (2 : Int32) (hb hby d16_36) rfl rfl ?_
  refine Own.lload hx (u0.toUInt64 >>> (s2.toInt32 &&& 0x3f).toInt64.toUInt64).toInt64 (hb hby d16_37) rfl rfl ?_
  refine Own.lconst hx (1 : Int64) (hb hby d16_39) rfl (by decide) ?_
  refine Own.aloadN hx (.ref o0) (hb hby d16_40) rfl rfl rfl ?_
  refine Own.getfield hx hZ hown O8 0 3 rfl rfl (hw _ (wm 43 rfl)) (hb hby d16_41) rfl ?_
  refine Own.iloadN hx (2 : Int32) (hb hby d16_44) rfl rfl ?_
  refine Own.iaload hx hZ O8 4 2 rfl (by decide) (v := (.int b2.toInt32)) rfl (hb hby d16_45) rfl ?_
  refine Own.lshl hx (hb hby d16_46) rfl ?_
  refine Own.lconst hx (1 : Int64) (hb hby d16_47) rfl (by decide) ?_
  refine Own.lsub hx (hb hby d16_48) rfl ?_
  refine Own.land hx (hb hby d16_49) rfl ?_
  refine Own.l2i hx (hb hby d16_50) rfl ?_
  refine Own.iconst hx (1 : Int32) (hb hby d16_51) rfl (by decide) ?_
  refine Own.iadd hx (hb hby d16_52) rfl ?_
  refine Own.iastore hx hZ O8 5 2 rfl (by decide) (by exact (show 2 < 3 by decide)) ((o0, PSo Z (.ref ot) (.ref owd) (.ref osh) (.ref obt) (iI 1) (.ref opk) (.ref osd) (.int sz)) :: (osd, Own.ArrC Z .long SL) :: (owd, Own.ArrC Z .int [(iI 0), (iI 0), (iI 0)]) :: (osh, Own.ArrC Z .int [(.int s0.toInt32), (.int s1.toInt32), (.int s2.toInt32)]) :: (obt, Own.ArrC Z .int [(.int b0.toInt32), (.int b1.toInt32), (.int b2.toInt32)]) :: (oo, Own.ArrC Z .int [(.int (((u0.toUInt64 >>> (s0.toInt32 &&& 0x3f).toInt64.toUInt64).toInt64 &&& (((1 : Int64) <<< (b0.toInt32 &&& 0x3f).toInt64) - (1 : Int64))).toInt32 + (1 : Int32))), (.int (((u0.toUInt64 >>> (s1.toInt32 &&& 0x3f).toInt64.toUInt64).toInt64 &&& (((1 : Int64) <<< (b1.toInt32 &&& 0x3f).toInt64) - (1 : Int64))).toInt32 + (1 : Int32))), (.int (((u0.toUInt64 >>> (s2.toInt32 &&& 0x3f).toInt64.toUInt64).toInt64 &&& (((1 : Int64) <<< (b2.toInt32 &&& 0x3f).toInt64) - (1 : Int64))).toInt32 + (1 : Int32)))]) :: fr) rfl (hb hby d16_53) rfl ?_
  intro h11 O12
  refine Own.iinc hx (3 : Int32) #[.val (.ref o0), .val (.int (1 : Int32)), .val (.ref oo), .val (.int (3 : Int32)), .val (.long (u0.toUInt64 >>> (s2.toInt32 &&& 0x3f).toInt64.toUInt64).toInt64), .second] (hb hby d16_54) rfl rfl (by decide) rfl ?_
  refine Own.goto hx (hb hby d16_57) (by decide) (pc' := 2) rfl ?_
  refine Own.iloadN hx (3 : Int32) (hb hby d16_2) rfl rfl ?_
  refine Own.aloadN hx (.ref oo) (hb hby d16_3) rfl rfl rfl ?_
  refine Own.arrlen hx hZ O12 5 rfl (3 : Int32) rfl (hb hby d16_4) rfl ?_
  have hc13 : ¬ ((3 : Int32) < (3 : Int32)) := by decide
  refine Own.icmpFn hx (Own.q_ge (3 : Int32) (3 : Int32)) (hb hby d16_5) (pcN := 8) rfl (by decide) (pcT := 60) rfl (fun _ => ?_) (fun q => absurd q hc13)
  exact Own.retV hx hret hlk (hb hby d16_60) (by decide) (by decide) ⟨rfl, O12⟩

theorem ef16_20 (m : MethodId) (x0 : Addr) (x1 : Int32) (x2 : Addr) : entryFrame m #[(.ref x0), (.int x1), (.ref x2)] 6 = mkF m 0 #[.val (.ref x0), .val (.int x1), .val (.ref x2), .unset, .unset, .unset] [] := by first | (simp [entryFrame, mkF, argsToLocals, Value.category]; done) | rfl
set_option maxRecDepth 65536 in
set_option maxHeartbeats 40000000 in
theorem rm16_20 (l : Launch) (Z : State) (a0 : Array Value) (hw : ∀ d ∈ tables_1, d.before a0 Z = true) (o0 : Addr) (oo : Addr) (h0 : Heap) (n0 : Nat) (ot ra rb owd osh obt opk osd : Addr) (sz : Int32) (s0 s1 s2 b0 b1 b2 : Nat) (SL : List Value) (u0 u1 : Int64) (hS0 : SL[0]? = some (.long u0)) (hS1 : SL[1]? = some (.long u1)) (fr : List (Addr × (Cell → Prop))) (O0 : Own.Owns n0 h0 ((o0, PSo Z (.ref ot) (.ref owd) (.ref osh) (.ref obt) (iI 2) (.ref opk) (.ref osd) (.int sz)) :: (osd, Own.ArrC Z .long SL) :: (owd, Own.ArrC Z .int [(iI 0), (iI 0), (iI 1)]) :: (osh, Own.ArrC Z .int [(.int s0.toInt32), (.int s1.toInt32), (.int s2.toInt32)]) :: (obt, Own.ArrC Z .int [(.int b0.toInt32), (.int b1.toInt32), (.int b2.toInt32)]) :: (oo, Own.ArrC Z .int [(iI 0), (iI 0), (iI 0)]) :: fr))  : Own.Does l (⟨"com/example/cuesheet/cuesheet/core/PackedStates", "read", "(I[I)V"⟩ : MethodName) prog_12_method_6_code 6 none [] ({ frames := 0, cells := 0, slots := 0, locals := 0 } : Room) Z #[(.ref o0), (.int (0 : Int32)), (.ref oo)] h0 n0 (fun v h => v = none ∧ Own.Owns n0 h ((o0, PSo Z (.ref ot) (.ref owd) (.ref osh) (.ref obt) (iI 2) (.ref opk) (.ref osd) (.int sz)) :: (osd, Own.ArrC Z .long SL) :: (owd, Own.ArrC Z .int [(iI 0), (iI 0), (iI 1)]) :: (osh, Own.ArrC Z .int [(.int s0.toInt32), (.int s1.toInt32), (.int s2.toInt32)]) :: (obt, Own.ArrC Z .int [(.int b0.toInt32), (.int b1.toInt32), (.int b2.toInt32)]) :: (oo, Own.ArrC Z .int [(.int (rdx u0 s0 b0)), (.int (rdx u0 s1 b1)), (.int (rdx u1 s2 b2))]) :: fr)) := by
  refine Own.doesOf pn14 ?_
  intro p e s m below meth c hx hby hml hret hlk hown hnm hZ
  refine Own.Goes.cast (ef16_20 m o0 (0 : Int32) oo) ?_
  refine Own.iconst hx (0 : Int32) (hb hby d16_0) rfl (by decide) ?_
  refine Own.istoreN hx (0 : Int32) rfl #[.val (.ref o0), .val (.int (0 : Int32)), .val (.ref oo), .val (.int (0 : Int32)), .unset, .unset] (hb hby d16_1) rfl rfl ?_
  refine Own.iloadN hx (0 : Int32) (hb hby d16_2) rfl rfl ?_
  refine Own.aloadN hx (.ref oo) (hb hby d16_3) rfl rfl rfl ?_
  refine Own.arrlen hx hZ O0 5 rfl (3 : Int32) rfl (hb hby d16_4) rfl ?_
  have hc1 : (0 : Int32) < (3 : Int32) := by decide
  refine Own.icmpFn hx (Own.q_ge (0 : Int32) (3 : Int32)) (hb hby d16_5) (pcN := 8) rfl (by decide) (pcT := 60) rfl (fun q => absurd hc1 q) (fun _ => ?_)
  refine Own.aloadN hx (.ref o0) (hb hby d16_8) rfl rfl rfl ?_
  refine Own.getfield hx hZ hown O0 0 6 rfl rfl (hw _ (wm 54 rfl)) (hb hby d16_9) rfl ?_
  refine Own.iloadN hx (0 : Int32) (hb hby d16_12) rfl rfl ?_
  refine Own.aloadN hx (.ref o0) (hb hby d16_13) rfl rfl rfl ?_
  refine Own.getfield hx hZ hown O0 0 4 rfl rfl (hw _ (wm 50 rfl)) (hb hby d16_14) rfl ?_
  refine Own.imul hx (hb hby d16_17) rfl ?_
  refine Own.vI (0 : Int32) (by decide) ?_
  refine Own.aloadN hx (.ref o0) (hb hby d16_18) rfl rfl rfl ?_
  refine Own.getfield hx hZ hown O0 0 1 rfl rfl (hw _ (wm 39 rfl)) (hb hby d16_19) rfl ?_
  refine Own.iloadN hx (0 : Int32) (hb hby d16_22) rfl rfl ?_
  refine Own.iaload hx hZ O0 2 0 rfl (by decide) (v := (.int (0 : Int32))) rfl (hb hby d16_23) rfl ?_
  refine Own.iadd hx (hb hby d16_24) rfl ?_
  refine Own.vI (0 : Int32) (by decide) ?_
  refine Own.laload hx hZ O0 1 0 rfl (by decide) (v := (.long u0)) hS0 (hb hby d16_25) rfl ?_
  refine Own.aloadN hx (.ref o0) (hb hby d16_26) rfl rfl rfl ?_
  refine Own.getfield hx hZ hown O0 0 2 rfl rfl (hw _ (wm 41 rfl)) (hb hby d16_27) rfl ?_
  refine Own.iloadN hx (0 : Int32) (hb hby d16_30) rfl rfl ?_
  refine Own.iaload hx hZ O0 3 0 rfl (by decide) (v := (.int s0.toInt32)) rfl (hb hby d16_31) rfl ?_
  refine Own.lushr hx (hb hby d16_32) rfl ?_
  refine Own.lstore hx (u0.toUInt64 >>> (s0.toInt32 &&& 0x3f).toInt64.toUInt64).toInt64 rfl #[.val (.ref o0), .val (.int (0 : Int32)), .val (.ref oo), .val (.int (0 : Int32)), .val (.long (u0.toUInt64 >>> (s0.toInt32 &&& 0x3f).toInt64.toUInt64).toInt64), .second] (hb hby d16_33) rfl rfl ?_
  refine Own.aloadN hx (.ref oo) (hb hby d16_35) rfl rfl rfl ?_
  refine Own.iloadN hx (0 : Int32) (hb hby d16_36) rfl rfl ?_
  refine Own.lload hx (u0.toUInt64 >>> (s0.toInt32 &&& 0x3f).toInt64.toUInt64).toInt64 (hb hby d16_37) rfl rfl ?_
  refine Own.lconst hx (1 : Int64) (hb hby d16_39) rfl (by decide) ?_
  refine Own.aloadN hx (.ref o0) (hb hby d16_40) rfl rfl rfl ?_
  refine Own.getfield hx hZ hown O0 0 3 rfl rfl (hw _ (wm 43 rfl)) (hb hby d16_41) rfl ?_
  refine Own.iloadN hx (0 : Int32) (hb hby d16_44) rfl rfl ?_
  refine Own.iaload hx hZ O0 4 0 rfl (by decide) (v := (.int b0.toInt32)) rfl (hb hby d16_45) rfl ?_
  refine Own.lshl hx (hb hby d16_46) rfl ?_
  refine Own.lconst hx (1 : Int64) (hb hby d16_47) rfl (by decide) ?_
  refine Own.lsub hx (hb hby d16_48) rfl ?_
  refine Own.land hx (hb hby d16_49) rfl ?_
  refine Own.l2i hx (hb hby d16_50) rfl ?_
  refine Own.iconst hx (1 : Int32) (hb hby d16_51) rfl (by decide) ?_
  refine Own.iadd hx (hb hby d16_52) rfl ?_
  refine Own.iastore hx hZ O0 5 0 rfl (by decide) (by exact (show 0 < 3 by decide)) ((o0, PSo Z (.ref ot) (.ref owd) (.ref osh) (.ref obt) (iI 2) (.ref opk) (.ref osd) (.int sz)) :: (osd, Own.ArrC Z .long SL) :: (owd, Own.ArrC Z .int [(iI 0), (iI 0), (iI 1)]) :: (osh, Own.ArrC Z .int [(.int s0.toInt32), (.int s1.toInt32), (.int s2.toInt32)]) :: (obt, Own.ArrC Z .int [(.int b0.toInt32), (.int b1.toInt32), (.int b2.toInt32)]) :: (oo, Own.ArrC Z .int [(.int (((u0.toUInt64 >>> (s0.toInt32 &&& 0x3f).toInt64.toUInt64).toInt64 &&& (((1 : Int64) <<< (b0.toInt32 &&& 0x3f).toInt64) - (1 : Int64))).toInt32 + (1 : Int32))), (iI 0), (iI 0)]) :: fr) rfl (hb hby d16_53) rfl ?_
  intro h3 O4
  refine Own.iinc hx (1 : Int32) #[.val (.ref o0), .val (.int (0 : Int32)), .val (.ref oo), .val (.int (1 : Int32)), .val (.long (u0.toUInt64 >>> (s0.toInt32 &&& 0x3f).toInt64.toUInt64).toInt64), .second] (hb hby d16_54) rfl rfl (by decide) rfl ?_
  refine Own.goto hx (hb hby d16_57) (by decide) (pc' := 2) rfl ?_
  refine Own.iloadN hx (1 : Int32) (hb hby d16_2) rfl rfl ?_
  refine Own.aloadN hx (.ref oo) (hb hby d16_3) rfl rfl rfl ?_
  refine Own.arrlen hx hZ O4 5 rfl (3 : Int32) rfl (hb hby d16_4) rfl ?_
  have hc5 : (1 : Int32) < (3 : Int32) := by decide
  refine Own.icmpFn hx (Own.q_ge (1 : Int32) (3 : Int32)) (hb hby d16_5) (pcN := 8) rfl (by decide) (pcT := 60) rfl (fun q => absurd hc5 q) (fun _ => ?_)
  refine Own.aloadN hx (.ref o0) (hb hby d16_8) rfl rfl rfl ?_
  refine Own.getfield hx hZ hown O4 0 6 rfl rfl (hw _ (wm 54 rfl)) (hb hby d16_9) rfl ?_
  refine Own.iloadN hx (0 : Int32) (hb hby d16_12) rfl rfl ?_
  refine Own.aloadN hx (.ref o0) (hb hby d16_13) rfl rfl rfl ?_
  refine Own.getfield hx hZ hown O4 0 4 rfl rfl (hw _ (wm 50 rfl)) (hb hby d16_14) rfl ?_
  refine Own.imul hx (hb hby d16_17) rfl ?_
  refine Own.vI (0 : Int32) (by decide) ?_
  refine Own.aloadN hx (.ref o0) (hb hby d16_18) rfl rfl rfl ?_
  refine Own.getfield hx hZ hown O4 0 1 rfl rfl (hw _ (wm 39 rfl)) (hb hby d16_19) rfl ?_
  refine Own.iloadN hx (1 : Int32) (hb hby d16_22) rfl rfl ?_
  refine Own.iaload hx hZ O4 2 1 rfl (by decide) (v := (.int (0 : Int32))) rfl (hb hby d16_23) rfl ?_
  refine Own.iadd hx (hb hby d16_24) rfl ?_
  refine Own.vI (0 : Int32) (by decide) ?_
  refine Own.laload hx hZ O4 1 0 rfl (by decide) (v := (.long u0)) hS0 (hb hby d16_25) rfl ?_
  refine Own.aloadN hx (.ref o0) (hb hby d16_26) rfl rfl rfl ?_
  refine Own.getfield hx hZ hown O4 0 2 rfl rfl (hw _ (wm 41 rfl)) (hb hby d16_27) rfl ?_
  refine Own.iloadN hx (1 : Int32) (hb hby d16_30) rfl rfl ?_
  refine Own.iaload hx hZ O4 3 1 rfl (by decide) (v := (.int s1.toInt32)) rfl (hb hby d16_31) rfl ?_
  refine Own.lushr hx (hb hby d16_32) rfl ?_
  refine Own.lstore hx (u0.toUInt64 >>> (s1.toInt32 &&& 0x3f).toInt64.toUInt64).toInt64 rfl #[.val (.ref o0), .val (.int (0 : Int32)), .val (.ref oo), .val (.int (1 : Int32)), .val (.long (u0.toUInt64 >>> (s1.toInt32 &&& 0x3f).toInt64.toUInt64).toInt64), .second] (hb hby d16_33) rfl rfl ?_
  refine Own.aloadN hx (.ref oo) (hb hby d16_35) rfl rfl rfl ?_
  refine Own.iloadN hx (1 : Int32) (hb hby d16_36) rfl rfl ?_
  refine Own.lload hx (u0.toUInt64 >>> (s1.toInt32 &&& 0x3f).toInt64.toUInt64).toInt64 (hb hby d16_37) rfl rfl ?_
  refine Own.lconst hx (1 : Int64) (hb hby d16_39) rfl (by decide) ?_
  refine Own.aloadN hx (.ref o0) (hb hby d16_40) rfl rfl rfl ?_
  refine Own.getfield hx hZ hown O4 0 3 rfl rfl (hw _ (wm 43 rfl)) (hb hby d16_41) rfl ?_
  refine Own.iloadN hx (1 : Int32) (hb hby d16_44) rfl rfl ?_
  refine Own.iaload hx hZ O4 4 1 rfl (by decide) (v := (.int b1.toInt32)) rfl (hb hby d16_45) rfl ?_
  refine Own.lshl hx (hb hby d16_46) rfl ?_
  refine Own.lconst hx (1 : Int64) (hb hby d16_47) rfl (by decide) ?_
  refine Own.lsub hx (hb hby d16_48) rfl ?_
  refine Own.land hx (hb hby d16_49) rfl ?_
  refine Own.l2i hx (hb hby d16_50) rfl ?_
  refine Own.iconst hx (1 : Int32) (hb hby d16_51) rfl (by decide) ?_
  refine Own.iadd hx (hb hby d16_52) rfl ?_
  refine Own.iastore hx hZ O4 5 1 rfl (by decide) (by exact (show 1 < 3 by decide)) ((o0, PSo Z (.ref ot) (.ref owd) (.ref osh) (.ref obt) (iI 2) (.ref opk) (.ref osd) (.int sz)) :: (osd, Own.ArrC Z .long SL) :: (owd, Own.ArrC Z .int [(iI 0), (iI 0), (iI 1)]) :: (osh, Own.ArrC Z .int [(.int s0.toInt32), (.int s1.toInt32), (.int s2.toInt32)]) :: (obt, Own.ArrC Z .int [(.int b0.toInt32), (.int b1.toInt32), (.int b2.toInt32)]) :: (oo, Own.ArrC Z .int [(.int (((u0.toUInt64 >>> (s0.toInt32 &&& 0x3f).toInt64.toUInt64).toInt64 &&& (((1 : Int64) <<< (b0.toInt32 &&& 0x3f).toInt64) - (1 : Int64))).toInt32 + (1 : Int32))), (.int (((u0.toUInt64 >>> (s1.toInt32 &&& 0x3f).toInt64.toUInt64).toInt64 &&& (((1 : Int64) <<< (b1.toInt32 &&& 0x3f).toInt64) - (1 : Int64))).toInt32 + (1 : Int32))), (iI 0)]) :: fr) rfl (hb hby d16_53) rfl ?_
  intro h7 O8
  refine Own.iinc hx (2 : Int32) #[.val (.ref o0), .val (.int (0 : Int32)), .val (.ref oo), .val (.int (2 : Int32)), .val (.long (u0.toUInt64 >>> (s1.toInt32 &&& 0x3f).toInt64.toUInt64).toInt64), .second] (hb hby d16_54) rfl rfl (by decide) rfl ?_
  refine Own.goto hx (hb hby d16_57) (by decide) (pc' := 2) rfl ?_
  refine Own.iloadN hx (2 : Int32) (hb hby d16_2) rfl rfl ?_
  refine Own.aloadN hx (.ref oo) (hb hby d16_3) rfl rfl rfl ?_
  refine Own.arrlen hx hZ O8 5 rfl (3 : Int32) rfl (hb hby d16_4) rfl ?_
  have hc9 : (2 : Int32) < (3 : Int32) := by decide
  refine Own.icmpFn hx (Own.q_ge (2 : Int32) (3 : Int32)) (hb hby d16_5) (pcN := 8) rfl (by decide) (pcT := 60) rfl (fun q => absurd hc9 q) (fun _ => ?_)
  refine Own.aloadN hx (.ref o0) (hb hby d16_8) rfl rfl rfl ?_
  refine Own.getfield hx hZ hown O8 0 6 rfl rfl (hw _ (wm 54 rfl)) (hb hby d16_9) rfl ?_
  refine Own.iloadN hx (0 : Int32) (hb hby d16_12) rfl rfl ?_
  refine Own.aloadN hx (.ref o0) (hb hby d16_13) rfl rfl rfl ?_
  refine Own.getfield hx hZ hown O8 0 4 rfl rfl (hw _ (wm 50 rfl)) (hb hby d16_14) rfl ?_
  refine Own.imul hx (hb hby d16_17) rfl ?_
  refine Own.vI (0 : Int32) (by decide) ?_
  refine Own.aloadN hx (.ref o0) (hb hby d16_18) rfl rfl rfl ?_
  refine Own.getfield hx hZ hown O8 0 1 rfl rfl (hw _ (wm 39 rfl)) (hb hby d16_19) rfl ?_
  refine Own.iloadN hx (2 : Int32) (hb hby d16_22) rfl rfl ?_
  refine Own.iaload hx hZ O8 2 2 rfl (by decide) (v := (.int (1 : Int32))) rfl (hb hby d16_23) rfl ?_
  refine Own.iadd hx (hb hby d16_24) rfl ?_
  refine Own.vI (1 : Int32) (by decide) ?_
  refine Own.laload hx hZ O8 1 1 rfl (by decide) (v := (.long u1)) hS1 (hb hby d16_25) rfl ?_
  refine Own.aloadN hx (.ref o0) (hb hby d16_26) rfl rfl rfl ?_
  refine Own.getfield hx hZ hown O8 0 2 rfl rfl (hw _ (wm 41 rfl)) (hb hby d16_27) rfl ?_
  refine Own.iloadN hx (2 : Int32) (hb hby d16_30) rfl rfl ?_
  refine Own.iaload hx hZ O8 3 2 rfl (by decide) (v := (.int s2.toInt32)) rfl (hb hby d16_31) rfl ?_
  refine Own.lushr hx (hb hby d16_32) rfl ?_
  refine Own.lstore hx (u1.toUInt64 >>> (s2.toInt32 &&& 0x3f).toInt64.toUInt64).toInt64 rfl #[.val (.ref o0), .val (.int (0 : Int32)), .val (.ref oo), .val (.int (2 : Int32)), .val (.long (u1.toUInt64 >>> (s2.toInt32 &&& 0x3f).toInt64.toUInt64).toInt64), .second] (hb hby d16_33) rfl rfl ?_
  refine Own.aloadN hx (.ref oo) (hb hby d16_35) rfl rfl rfl ?_
  refine Own.iloadN hx (2 : Int32) (hb hby d16_36) rfl rfl ?_
  refine Own.lload hx (u1.toUInt64 >>> (s2.toInt32 &&& 0x3f).toInt64.toUInt64).toInt64 (hb hby d16_37) rfl rfl ?_
  refine Own.lconst hx (1 : Int64) (hb hby d16_39) rfl (by decide) ?_
  refine Own.aloadN hx (.ref o0) (hb hby d16_40) rfl rfl rfl ?_
  refine Own.getfield hx hZ hown O8 0 3 rfl rfl (hw _ (wm 43 rfl)) (hb hby d16_41) rfl ?_
  refine Own.iloadN hx (2 : Int32) (hb hby d16_44) rfl rfl ?_
  refine Own.iaload hx hZ O8 4 2 rfl (by decide) (v := (.int b2.toInt32)) rfl (hb hby d16_45) rfl ?_
  refine Own.lshl hx (hb hby d16_46) rfl ?_
  refine Own.lconst hx (1 : Int64) (hb hby d16_47) rfl (by decide) ?_
  refine Own.lsub hx (hb hby d16_48) rfl ?_
  refine Own.land hx (hb hby d16_49) rfl ?_
  refine Own.l2i hx (hb hby d16_50) rfl ?_
  refine Own.iconst hx (1 : Int32) (hb hby d16_51) rfl (by decide) ?_
  refine Own.iadd hx (hb hby d16_52) rfl ?_
  refine Own.iastore hx hZ O8 5 2 rfl (by decide) (by exact (show 2 < 3 by decide)) ((o0, PSo Z (.ref ot) (.ref owd) (.ref osh) (.ref obt) (iI 2) (.ref opk) (.ref osd) (.int sz)) :: (osd, Own.ArrC Z .long SL) :: (owd, Own.ArrC Z .int [(iI 0), (iI 0), (iI 1)]) :: (osh, Own.ArrC Z .int [(.int s0.toInt32), (.int s1.toInt32), (.int s2.toInt32)]) :: (obt, Own.ArrC Z .int [(.int b0.toInt32), (.int b1.toInt32), (.int b2.toInt32)]) :: (oo, Own.ArrC Z .int [(.int (((u0.toUInt64 >>> (s0.toInt32 &&& 0x3f).toInt64.toUInt64).toInt64 &&& (((1 : Int64) <<< (b0.toInt32 &&& 0x3f).toInt64) - (1 : Int64))).toInt32 + (1 : Int32))), (.int (((u0.toUInt64 >>> (s1.toInt32 &&& 0x3f).toInt64.toUInt64).toInt64 &&& (((1 : Int64) <<< (b1.toInt32 &&& 0x3f).toInt64) - (1 : Int64))).toInt32 + (1 : Int32))), (.int (((u1.toUInt64 >>> (s2.toInt32 &&& 0x3f).toInt64.toUInt64).toInt64 &&& (((1 : Int64) <<< (b2.toInt32 &&& 0x3f).toInt64) - (1 : Int64))).toInt32 + (1 : Int32)))]) :: fr) rfl (hb hby d16_53) rfl ?_
  intro h11 O12
  refine Own.iinc hx (3 : Int32) #[.val (.ref o0), .val (.int (0 : Int32)), .val (.ref oo), .val (.int (3 : Int32)), .val (.long (u1.toUInt64 >>> (s2.toInt32 &&& 0x3f).toInt64.toUInt64).toInt64), .second] (hb hby d16_54) rfl rfl (by decide) rfl ?_
  refine Own.goto hx (hb hby d16_57) (by decide) (pc' := 2) rfl ?_
  refine Own.iloadN hx (3 : Int32) (hb hby d16_2) rfl rfl ?_
  refine Own.aloadN hx (.ref oo) (hb hby d16_3) rfl rfl rfl ?_
  refine Own.arrlen hx hZ O12 5 rfl (3 : Int32) rfl (hb hby d16_4) rfl ?_
  have hc13 : ¬ ((3 : Int32) < (3 : Int32)) := by decide
  refine Own.icmpFn hx (Own.q_ge (3 : Int32) (3 : Int32)) (hb hby d16_5) (pcN := 8) rfl (by decide) (pcT := 60) rfl (fun _ => ?_) (fun q => absurd q hc13)
  exact Own.retV hx hret hlk (hb hby d16_60) (by decide) (by decide) ⟨rfl, O12⟩

theorem ef16_21 (m : MethodId) (x0 : Addr) (x1 : Int32) (x2 : Addr) : entryFrame m #[(.ref x0), (.int x1), (.ref x2)] 6 = mkF m 0 #[.val (.ref x0), .val (.int x1), .val (.ref x2), .unset, .unset, .unset] [] := by first | (simp [entryFrame, mkF, argsToLocals, Value.category]; done) | rfl
set_option maxRecDepth 65536 in
set_option maxHeartbeats 40000000 in
theorem rm16_21 (l : Launch) (Z : State) (a0 : Array Value) (hw : ∀ d ∈ tables_1, d.before a0 Z = true) (o0 : Addr) (oo : Addr) (h0 : Heap) (n0 : Nat) (ot ra rb owd osh obt opk osd : Addr) (sz : Int32) (s0 s1 s2 b0 b1 b2 : Nat) (SL : List Value) (u0 u1 : Int64) (hS0 : SL[2]? = some (.long u0)) (hS1 : SL[3]? = some (.long u1)) (fr : List (Addr × (Cell → Prop))) (O0 : Own.Owns n0 h0 ((o0, PSo Z (.ref ot) (.ref owd) (.ref osh) (.ref obt) (iI 2) (.ref opk) (.ref osd) (.int sz)) :: (osd, Own.ArrC Z .long SL) :: (owd, Own.ArrC Z .int [(iI 0), (iI 0), (iI 1)]) :: (osh, Own.ArrC Z .int [(.int s0.toInt32), (.int s1.toInt32), (.int s2.toInt32)]) :: (obt, Own.ArrC Z .int [(.int b0.toInt32), (.int b1.toInt32), (.int b2.toInt32)]) :: (oo, Own.ArrC Z .int [(iI 0), (iI 0), (iI 0)]) :: fr))  : Own.Does l (⟨"com/example/cuesheet/cuesheet/core/PackedStates", "read", "(I[I)V"⟩ : MethodName) prog_12_method_6_code 6 none [] ({ frames := 0, cells := 0, slots := 0, locals := 0 } : Room) Z #[(.ref o0), (.int (1 : Int32)), (.ref oo)] h0 n0 (fun v h => v = none ∧ Own.Owns n0 h ((o0, PSo Z (.ref ot) (.ref owd) (.ref osh) (.ref obt) (iI 2) (.ref opk) (.ref osd) (.int sz)) :: (osd, Own.ArrC Z .long SL) :: (owd, Own.ArrC Z .int [(iI 0), (iI 0), (iI 1)]) :: (osh, Own.ArrC Z .int [(.int s0.toInt32), (.int s1.toInt32), (.int s2.toInt32)]) :: (obt, Own.ArrC Z .int [(.int b0.toInt32), (.int b1.toInt32), (.int b2.toInt32)]) :: (oo, Own.ArrC Z .int [(.int (rdx u0 s0 b0)), (.int (rdx u0 s1 b1)), (.int (rdx u1 s2 b2))]) :: fr)) := by
  refine Own.doesOf pn14 ?_
  intro p e s m below meth c hx hby hml hret hlk hown hnm hZ
  refine Own.Goes.cast (ef16_21 m o0 (1 : Int32) oo) ?_
  refine Own.iconst hx (0 : Int32) (hb hby d16_0) rfl (by decide) ?_
  refine Own.istoreN hx (0 : Int32) rfl #[.val (.ref o0), .val (.int (1 : Int32)), .val (.ref oo), .val (.int (0 : Int32)), .unset, .unset] (hb hby d16_1) rfl rfl ?_
  refine Own.iloadN hx (0 : Int32) (hb hby d16_2) rfl rfl ?_
  refine Own.aloadN hx (.ref oo) (hb hby d16_3) rfl rfl rfl ?_
  refine Own.arrlen hx hZ O0 5 rfl (3 : Int32) rfl (hb hby d16_4) rfl ?_
  have hc1 : (0 : Int32) < (3 : Int32) := by decide
  refine Own.icmpFn hx (Own.q_ge (0 : Int32) (3 : Int32)) (hb hby d16_5) (pcN := 8) rfl (by decide) (pcT := 60) rfl (fun q => absurd hc1 q) (fun _ => ?_)
  refine Own.aloadN hx (.ref o0) (hb hby d16_8) rfl rfl rfl ?_
  refine Own.getfield hx hZ hown O0 0 6 rfl rfl (hw _ (wm 54 rfl)) (hb hby d16_9) rfl ?_
  refine Own.iloadN hx (1 : Int32) (hb hby d16_12) rfl rfl ?_
  refine Own.aloadN hx (.ref o0) (hb hby d16_13) rfl rfl rfl ?_
  refine Own.getfield hx hZ hown O0 0 4 rfl rfl (hw _ (wm 50 rfl)) (hb hby d16_14) rfl ?_
  refine Own.imul hx (hb hby d16_17) rfl ?_
  refine Own.vI (2 : Int32) (by decide) ?_
  refine Own.aloadN hx (.ref o0) (hb hby d16_18) rfl rfl rfl ?_
  refine Own.getfield hx hZ hown O0 0 1 rfl rfl (hw _ (wm 39 rfl)) (hb hby d16_19) rfl ?_
  refine Own.iloadN hx (0 : Int32) (hb hby d16_22) rfl rfl ?_
  refine Own.iaload hx hZ O0 2 0 rfl (by decide) (v := (.int (0 : Int32))) rfl (hb hby d16_23) rfl ?_
  refine Own.iadd hx (hb hby d16_24) rfl ?_
  refine Own.vI (2 : Int32) (by decide) ?_
  refine Own.laload hx hZ O0 1 2 rfl (by decide) (v := (.long u0)) hS0 (hb hby d16_25) rfl ?_
  refine Own.aloadN hx (.ref o0) (hb hby d16_26) rfl rfl rfl ?_
  refine Own.getfield hx hZ hown O0 0 2 rfl rfl (hw _ (wm 41 rfl)) (hb hby d16_27) rfl ?_
  refine Own.iloadN hx (0 : Int32) (hb hby d16_30) rfl rfl ?_
  refine Own.iaload hx hZ O0 3 0 rfl (by decide) (v := (.int s0.toInt32)) rfl (hb hby d16_31) rfl ?_
  refine Own.lushr hx (hb hby d16_32) rfl ?_
  refine Own.lstore hx (u0.toUInt64 >>> (s0.toInt32 &&& 0x3f).toInt64.toUInt64).toInt64 rfl #[.val (.ref o0), .val (.int (1 : Int32)), .val (.ref oo), .val (.int (0 : Int32)), .val (.long (u0.toUInt64 >>> (s0.toInt32 &&& 0x3f).toInt64.toUInt64).toInt64), .second] (hb hby d16_33) rfl rfl ?_
  refine Own.aloadN hx (.ref oo) (hb hby d16_35) rfl rfl rfl ?_
  refine Own.iloadN hx (0 : Int32) (hb hby d16_36) rfl rfl ?_
  refine Own.lload hx (u0.toUInt64 >>> (s0.toInt32 &&& 0x3f).toInt64.toUInt64).toInt64 (hb hby d16_37) rfl rfl ?_
  refine Own.lconst hx (1 : Int64) (hb hby d16_39) rfl (by decide) ?_
  refine Own.aloadN hx (.ref o0) (hb hby d16_40) rfl rfl rfl ?_
  refine Own.getfield hx hZ hown O0 0 3 rfl rfl (hw _ (wm 43 rfl)) (hb hby d16_41) rfl ?_
  refine Own.iloadN hx (0 : Int32) (hb hby d16_44) rfl rfl ?_
  refine Own.iaload hx hZ O0 4 0 rfl (by decide) (v := (.int b0.toInt32)) rfl (hb hby d16_45) rfl ?_
  refine Own.lshl hx (hb hby d16_46) rfl ?_
  refine Own.lconst hx (1 : Int64) (hb hby d16_47) rfl (by decide) ?_
  refine Own.lsub hx (hb hby d16_48) rfl ?_
  refine Own.land hx (hb hby d16_49) rfl ?_
  refine Own.l2i hx (hb hby d16_50) rfl ?_
  refine Own.iconst hx (1 : Int32) (hb hby d16_51) rfl (by decide) ?_
  refine Own.iadd hx (hb hby d16_52) rfl ?_
  refine Own.iastore hx hZ O0 5 0 rfl (by decide) (by exact (show 0 < 3 by decide)) ((o0, PSo Z (.ref ot) (.ref owd) (.ref osh) (.ref obt) (iI 2) (.ref opk) (.ref osd) (.int sz)) :: (osd, Own.ArrC Z .long SL) :: (owd, Own.ArrC Z .int [(iI 0), (iI 0), (iI 1)]) :: (osh, Own.ArrC Z .int [(.int s0.toInt32), (.int s1.toInt32), (.int s2.toInt32)]) :: (obt, Own.ArrC Z .int [(.int b0.toInt32), (.int b1.toInt32), (.int b2.toInt32)]) :: (oo, Own.ArrC Z .int [(.int (((u0.toUInt64 >>> (s0.toInt32 &&& 0x3f).toInt64.toUInt64).toInt64 &&& (((1 : Int64) <<< (b0.toInt32 &&& 0x3f).toInt64) - (1 : Int64))).toInt32 + (1 : Int32))), (iI 0), (iI 0)]) :: fr) rfl (hb hby d16_53) rfl ?_
  intro h3 O4
  refine Own.iinc hx (1 : Int32) #[.val (.ref o0), .val (.int (1 : Int32)), .val (.ref oo), .val (.int (1 : Int32)), .val (.long (u0.toUInt64 >>> (s0.toInt32 &&& 0x3f).toInt64.toUInt64).toInt64), .second] (hb hby d16_54) rfl rfl (by decide) rfl ?_
  refine Own.goto hx (hb hby d16_57) (by decide) (pc' := 2) rfl ?_
  refine Own.iloadN hx (1 : Int32) (hb hby d16_2) rfl rfl ?_
  refine Own.aloadN hx (.ref oo) (hb hby d16_3) rfl rfl rfl ?_
  refine Own.arrlen hx hZ O4 5 rfl (3 : Int32) rfl (hb hby d16_4) rfl ?_
  have hc5 : (1 : Int32) < (3 : Int32) := by decide
  refine Own.icmpFn hx (Own.q_ge (1 : Int32) (3 : Int32)) (hb hby d16_5) (pcN := 8) rfl (by decide) (pcT := 60) rfl (fun q => absurd hc5 q) (fun _ => ?_)
  refine Own.aloadN hx (.ref o0) (hb hby d16_8) rfl rfl rfl ?_
  refine Own.getfield hx hZ hown O4 0 6 rfl rfl (hw _ (wm 54 rfl)) (hb hby d16_9) rfl ?_
  refine Own.iloadN hx (1 : Int32) (hb hby d16_12) rfl rfl ?_
  refine Own.aloadN hx (.ref o0) (hb hby d16_13) rfl rfl rfl ?_
  refine Own.getfield hx hZ hown O4 0 4 rfl rfl (hw _ (wm 50 rfl)) (hb hby d16_14) rfl ?_
  refine Own.imul hx (hb hby d16_17) rfl ?_
  refine Own.vI (2 : Int32) (by decide) ?_
  refine Own.aloadN hx (.ref o0) (hb hby d16_18) rfl rfl rfl ?_
  refine Own.getfield hx hZ hown O4 0 1 rfl rfl (hw _ (wm 39 rfl)) (hb hby d16_19) rfl ?_
  refine Own.iloadN hx (1 : Int32) (hb hby d16_22) rfl rfl ?_
  refine Own.iaload hx hZ O4 2 1 rfl (by decide) (v := (.int (0 : Int32))) rfl (hb hby d16_23) rfl ?_
  refine Own.iadd hx (hb hby d16_24) rfl ?_
  refine Own.vI (2 : Int32) (by decide) ?_
  refine Own.laload hx hZ O4 1 2 rfl (by decide) (v := (.long u0)) hS0 (hb hby d16_25) rfl ?_
  refine Own.aloadN hx (.ref o0) (hb hby d16_26) rfl rfl rfl ?_
  refine Own.getfield hx hZ hown O4 0 2 rfl rfl (hw _ (wm 41 rfl)) (hb hby d16_27) rfl ?_
  refine Own.iloadN hx (1 : Int32) (hb hby d16_30) rfl rfl ?_
  refine Own.iaload hx hZ O4 3 1 rfl (by decide) (v := (.int s1.toInt32)) rfl (hb hby d16_31) rfl ?_
  refine Own.lushr hx (hb hby d16_32) rfl ?_
  refine Own.lstore hx (u0.toUInt64 >>> (s1.toInt32 &&& 0x3f).toInt64.toUInt64).toInt64 rfl #[.val (.ref o0), .val (.int (1 : Int32)), .val (.ref oo), .val (.int (1 : Int32)), .val (.long (u0.toUInt64 >>> (s1.toInt32 &&& 0x3f).toInt64.toUInt64).toInt64), .second] (hb hby d16_33) rfl rfl ?_
  refine Own.aloadN hx (.ref oo) (hb hby d16_35) rfl rfl rfl ?_
  refine Own.iloadN hx (1 : Int32) (hb hby d16_36) rfl rfl ?_
  refine Own.lload hx (u0.toUInt64 >>> (s1.toInt32 &&& 0x3f).toInt64.toUInt64).toInt64 (hb hby d16_37) rfl rfl ?_
  refine Own.lconst hx (1 : Int64) (hb hby d16_39) rfl (by decide) ?_
  refine Own.aloadN hx (.ref o0) (hb hby d16_40) rfl rfl rfl ?_
  refine Own.getfield hx hZ hown O4 0 3 rfl rfl (hw _ (wm 43 rfl)) (hb hby d16_41) rfl ?_
  refine Own.iloadN hx (1 : Int32) (hb hby d16_44) rfl rfl ?_
  refine Own.iaload hx hZ O4 4 1 rfl (by decide) (v := (.int b1.toInt32)) rfl (hb hby d16_45) rfl ?_
  refine Own.lshl hx (hb hby d16_46) rfl ?_
  refine Own.lconst hx (1 : Int64) (hb hby d16_47) rfl (by decide) ?_
  refine Own.lsub hx (hb hby d16_48) rfl ?_
  refine Own.land hx (hb hby d16_49) rfl ?_
  refine Own.l2i hx (hb hby d16_50) rfl ?_
  refine Own.iconst hx (1 : Int32) (hb hby d16_51) rfl (by decide) ?_
  refine Own.iadd hx (hb hby d16_52) rfl ?_
  refine Own.iastore hx hZ O4 5 1 rfl (by decide) (by exact (show 1 < 3 by decide)) ((o0, PSo Z (.ref ot) (.ref owd) (.ref osh) (.ref obt) (iI 2) (.ref opk) (.ref osd) (.int sz)) :: (osd, Own.ArrC Z .long SL) :: (owd, Own.ArrC Z .int [(iI 0), (iI 0), (iI 1)]) :: (osh, Own.ArrC Z .int [(.int s0.toInt32), (.int s1.toInt32), (.int s2.toInt32)]) :: (obt, Own.ArrC Z .int [(.int b0.toInt32), (.int b1.toInt32), (.int b2.toInt32)]) :: (oo, Own.ArrC Z .int [(.int (((u0.toUInt64 >>> (s0.toInt32 &&& 0x3f).toInt64.toUInt64).toInt64 &&& (((1 : Int64) <<< (b0.toInt32 &&& 0x3f).toInt64) - (1 : Int64))).toInt32 + (1 : Int32))), (.int (((u0.toUInt64 >>> (s1.toInt32 &&& 0x3f).toInt64.toUInt64).toInt64 &&& (((1 : Int64) <<< (b1.toInt32 &&& 0x3f).toInt64) - (1 : Int64))).toInt32 + (1 : Int32))), (iI 0)]) :: fr) rfl (hb hby d16_53) rfl ?_
  intro h7 O8
  refine Own.iinc hx (2 : Int32) #[.val (.ref o0), .val (.int (1 : Int32)), .val (.ref oo), .val (.int (2 : Int32)), .val (.long (u0.toUInt64 >>> (s1.toInt32 &&& 0x3f).toInt64.toUInt64).toInt64), .second] (hb hby d16_54) rfl rfl (by decide) rfl ?_
  refine Own.goto hx (hb hby d16_57) (by decide) (pc' := 2) rfl ?_
  refine Own.iloadN hx (2 : Int32) (hb hby d16_2) rfl rfl ?_
  refine Own.aloadN hx (.ref oo) (hb hby d16_3) rfl rfl rfl ?_
  refine Own.arrlen hx hZ O8 5 rfl (3 : Int32) rfl (hb hby d16_4) rfl ?_
  have hc9 : (2 : Int32) < (3 : Int32) := by decide
  refine Own.icmpFn hx (Own.q_ge (2 : Int32) (3 : Int32)) (hb hby d16_5) (pcN := 8) rfl (by decide) (pcT := 60) rfl (fun q => absurd hc9 q) (fun _ => ?_)
  refine Own.aloadN hx (.ref o0) (hb hby d16_8) rfl rfl rfl ?_
  refine Own.getfield hx hZ hown O8 0 6 rfl rfl (hw _ (wm 54 rfl)) (hb hby d16_9) rfl ?_
  refine Own.iloadN hx (1 : Int32) (hb hby d16_12) rfl rfl ?_
  refine Own.aloadN hx (.ref o0) (hb hby d16_13) rfl rfl rfl ?_
  refine Own.getfield hx hZ hown O8 0 4 rfl rfl (hw _ (wm 50 rfl)) (hb hby d16_14) rfl ?_
  refine Own.imul hx (hb hby d16_17) rfl ?_
  refine Own.vI (2 : Int32) (by decide) ?_
  refine Own.aloadN hx (.ref o0) (hb hby d16_18) rfl rfl rfl ?_
  refine Own.getfield hx hZ hown O8 0 1 rfl rfl (hw _ (wm 39 rfl)) (hb hby d16_19) rfl ?_
  refine Own.iloadN hx (2 : Int32) (hb hby d16_22) rfl rfl ?_
  refine Own.iaload hx hZ O8 2 2 rfl (by decide) (v := (.int (1 : Int32))) rfl (hb hby d16_23) rfl ?_
  refine Own.iadd hx (hb hby d16_24) rfl ?_
  refine Own.vI (3 : Int32) (by decide) ?_
  refine Own.laload hx hZ O8 1 3 rfl (by decide) (v := (.long u1)) hS1 (hb hby d16_25) rfl ?_
  refine Own.aloadN hx (.ref o0) (hb hby d16_26) rfl rfl rfl ?_
  refine Own.getfield hx hZ hown O8 0 2 rfl rfl (hw _ (wm 41 rfl)) (hb hby d16_27) rfl ?_
  refine Own.iloadN hx (2 : Int32) (hb hby d16_30) rfl rfl ?_
  refine Own.iaload hx hZ O8 3 2 rfl (by decide) (v := (.int s2.toInt32)) rfl (hb hby d16_31) rfl ?_
  refine Own.lushr hx (hb hby d16_32) rfl ?_
  refine Own.lstore hx (u1.toUInt64 >>> (s2.toInt32 &&& 0x3f).toInt64.toUInt64).toInt64 rfl #[.val (.ref o0), .val (.int (1 : Int32)), .val (.ref oo), .val (.int (2 : Int32)), .val (.long (u1.toUInt64 >>> (s2.toInt32 &&& 0x3f).toInt64.toUInt64).toInt64), .second] (hb hby d16_33) rfl rfl ?_
  refine Own.aloadN hx (.ref oo) (hb hby d16_35) rfl rfl rfl ?_
  refine Own.iloadN hx (2 : Int32) (hb hby d16_36) rfl rfl ?_
  refine Own.lload hx (u1.toUInt64 >>> (s2.toInt32 &&& 0x3f).toInt64.toUInt64).toInt64 (hb hby d16_37) rfl rfl ?_
  refine Own.lconst hx (1 : Int64) (hb hby d16_39) rfl (by decide) ?_
  refine Own.aloadN hx (.ref o0) (hb hby d16_40) rfl rfl rfl ?_
  refine Own.getfield hx hZ hown O8 0 3 rfl rfl (hw _ (wm 43 rfl)) (hb hby d16_41) rfl ?_
  refine Own.iloadN hx (2 : Int32) (hb hby d16_44) rfl rfl ?_
  refine Own.iaload hx hZ O8 4 2 rfl (by decide) (v := (.int b2.toInt32)) rfl (hb hby d16_45) rfl ?_
  refine Own.lshl hx (hb hby d16_46) rfl ?_
  refine Own.lconst hx (1 : Int64) (hb hby d16_47) rfl (by decide) ?_
  refine Own.lsub hx (hb hby d16_48) rfl ?_
  refine Own.land hx (hb hby d16_49) rfl ?_
  refine Own.l2i hx (hb hby d16_50) rfl ?_
  refine Own.iconst hx (1 : Int32) (hb hby d16_51) rfl (by decide) ?_
  refine Own.iadd hx (hb hby d16_52) rfl ?_
  refine Own.iastore hx hZ O8 5 2 rfl (by decide) (by exact (show 2 < 3 by decide)) ((o0, PSo Z (.ref ot) (.ref owd) (.ref osh) (.ref obt) (iI 2) (.ref opk) (.ref osd) (.int sz)) :: (osd, Own.ArrC Z .long SL) :: (owd, Own.ArrC Z .int [(iI 0), (iI 0), (iI 1)]) :: (osh, Own.ArrC Z .int [(.int s0.toInt32), (.int s1.toInt32), (.int s2.toInt32)]) :: (obt, Own.ArrC Z .int [(.int b0.toInt32), (.int b1.toInt32), (.int b2.toInt32)]) :: (oo, Own.ArrC Z .int [(.int (((u0.toUInt64 >>> (s0.toInt32 &&& 0x3f).toInt64.toUInt64).toInt64 &&& (((1 : Int64) <<< (b0.toInt32 &&& 0x3f).toInt64) - (1 : Int64))).toInt32 + (1 : Int32))), (.int (((u0.toUInt64 >>> (s1.toInt32 &&& 0x3f).toInt64.toUInt64).toInt64 &&& (((1 : Int64) <<< (b1.toInt32 &&& 0x3f).toInt64) - (1 : Int64))).toInt32 + (1 : Int32))), (.int (((u1.toUInt64 >>> (s2.toInt32 &&& 0x3f).toInt64.toUInt64).toInt64 &&& (((1 : Int64) <<< (b2.toInt32 &&& 0x3f).toInt64) - (1 : Int64))).toInt32 + (1 : Int32)))]) :: fr) rfl (hb hby d16_53) rfl ?_
  intro h11 O12
  refine Own.iinc hx (3 : Int32) #[.val (.ref o0), .val (.int (1 : Int32)), .val (.ref oo), .val (.int (3 : Int32)), .val (.long (u1.toUInt64 >>> (s2.toInt32 &&& 0x3f).toInt64.toUInt64).toInt64), .second] (hb hby d16_54) rfl rfl (by decide) rfl ?_
  refine Own.goto hx (hb hby d16_57) (by decide) (pc' := 2) rfl ?_
  refine Own.iloadN hx (3 : Int32) (hb hby d16_2) rfl rfl ?_
  refine Own.aloadN hx (.ref oo) (hb hby d16_3) rfl rfl rfl ?_
  refine Own.arrlen hx hZ O12 5 rfl (3 : Int32) rfl (hb hby d16_4) rfl ?_
  have hc13 : ¬ ((3 : Int32) < (3 : Int32)) := by decide
  refine Own.icmpFn hx (Own.q_ge (3 : Int32) (3 : Int32)) (hb hby d16_5) (pcN := 8) rfl (by decide) (pcT := 60) rfl (fun _ => ?_) (fun q => absurd q hc13)
  exact Own.retV hx hret hlk (hb hby d16_60) (by decide) (by decide) ⟨rfl, O12⟩

theorem pd10 : parseMethodDescriptor "(JII)I" = some ⟨[.long, .int, .int], some .int⟩ := by decide +kernel
theorem pd11 : parseMethodDescriptor "([I)I" = some ⟨[(.array .int)], some .int⟩ := by decide +kernel
theorem pd12 : parseMethodDescriptor "(I[I)V" = some ⟨[.int, (.array .int)], none⟩ := by decide +kernel
theorem pn15 : plainFor (⟨"com/example/cuesheet/cuesheet/core/PackedStatesReadPinLaw", "law", "(IIIJJJ)Z"⟩ : MethodName) = true := by first | exact plainFor_of_name (by simp [plainName, overriddenIn]; done) | decide +kernel
theorem ef0 (m : MethodId) (x0 : Int32) (x1 : Int32) (x2 : Int32) (x3 : Int64) (x4 : Int64) (x5 : Int64) : entryFrame m #[(.int x0), (.int x1), (.int x2), (.long x3), (.long x4), (.long x5)] maxLocals = mkF m 0 #[.val (.int x0), .val (.int x1), .val (.int x2), .val (.long x3), .second, .val (.long x4), .second, .val (.long x5), .second, .unset, .unset, .unset, .unset, .unset, .unset, .unset, .unset, .unset, .unset] [] := by first | (simp [entryFrame, mkF, argsToLocals, Value.category, maxLocals]; done) | rfl
set_option maxRecDepth 65536 in
set_option maxHeartbeats 40000000 in
theorem rm0 (l : Launch) (Z : State) (a0 : Array Value) (hw : ∀ d ∈ tables_1, d.before a0 Z = true) (p0 : Int32) (p1 : Int32) (p2 : Int32) (q3 : Int64) (q4 : Int64) (q5 : Int64) (h0 : Heap) (n0 : Nat)  (O0 : Own.Owns n0 h0 ([]))  : Own.Does l x code maxLocals ret tables_1 room_1 Z #[(.int p0), (.int p1), (.int p2), (.long q3), (.long q4), (.long q5)] h0 n0 (fun v _ => v = some (.int 1)) := by
  refine Own.doesOf pn15 ?_
  intro p e s m below meth c hx hby hml hret hlk hown hnm hZ
  replace hml : c.maxLocals = 19 := hml
  replace hown : s.vm.findClass "com/example/cuesheet/cuesheet/core/PackedStatesReadPinLaw" = some m.cls := hown
  replace hret : meth.sig.returnType = (some .boolean) := hret
  refine Own.Goes.cast (ef0 m p0 p1 p2 q3 q4 q5) ?_
  refine Own.iloadN hx p0 (hb hby at_0) rfl rfl ?_
  refine Own.callS hx hZ hown (hw _ (wm 0 rfl)) (hw _ (wm 1 rfl)) (hw _ (wm 2 rfl)) (hw _ (wm 3 rfl)) (by decide) pd3 (argsL := [(.int p0)]) (rest := []) rfl (W := 0) (Nat.le_of_eq rfl) (rm := ({ frames := 0, cells := 0, slots := 0, locals := 0 } : Room)) (by decide) (by decide) (by decide) (by decide) (k' := 0) (n' := 0) rfl rfl (by rw [hml]; rfl) [(.int p0)] rfl (hb hby at_1) (pc' := 4) rfl (rm1 l Z a0 hw p0 h0 n0) ?_
  rintro _ h' ⟨rfl, eh⟩
  rw [eh]; clear eh h'
  show Own.Goes _ _ _ _ _ _ _ _ _ _ _ _ _ _ _ _ _ (mkF m 4 #[.val (.int p0), .val (.int p1), .val (.int p2), .val (.long q3), .second, .val (.long q4), .second, .val (.long q5), .second, .unset, .unset, .unset, .unset, .unset, .unset, .unset, .unset, .unset, .unset] [(.int (fWin p0))])
  obtain ⟨W0, h_W0⟩ : ∃ z : Int32, z = (fWin p0) := ⟨_, rfl⟩
  refine Own.istore hx W0 h_W0 #[.val (.int p0), .val (.int p1), .val (.int p2), .val (.long q3), .second, .val (.long q4), .second, .val (.long q5), .second, .val (.int W0), .unset, .unset, .unset, .unset, .unset, .unset, .unset, .unset, .unset] (hb hby at_4) rfl rfl ?_
  refine Own.iloadN hx p1 (hb hby at_6) rfl rfl ?_
  refine Own.callS hx hZ hown (hw _ (wm 0 rfl)) (hw _ (wm 1 rfl)) (hw _ (wm 2 rfl)) (hw _ (wm 3 rfl)) (by decide) pd3 (argsL := [(.int p1)]) (rest := []) rfl (W := 0) (Nat.le_of_eq rfl) (rm := ({ frames := 0, cells := 0, slots := 0, locals := 0 } : Room)) (by decide) (by decide) (by decide) (by decide) (k' := 0) (n' := 0) rfl rfl (by rw [hml]; rfl) [(.int p1)] rfl (hb hby at_7) (pc' := 10) rfl (rm1 l Z a0 hw p1 h0 n0) ?_
  rintro _ h' ⟨rfl, eh⟩
  rw [eh]; clear eh h'
  show Own.Goes _ _ _ _ _ _ _ _ _ _ _ _ _ _ _ _ _ (mkF m 10 #[.val (.int p0), .val (.int p1), .val (.int p2), .val (.long q3), .second, .val (.long q4), .second, .val (.long q5), .second, .val (.int W0), .unset, .unset, .unset, .unset, .unset, .unset, .unset, .unset, .unset] [(.int (fWin p1))])
  obtain ⟨W1, h_W1⟩ : ∃ z : Int32, z = (fWin p1) := ⟨_, rfl⟩
  refine Own.istore hx W1 h_W1 #[.val (.int p0), .val (.int p1), .val (.int p2), .val (.long q3), .second, .val (.long q4), .second, .val (.long q5), .second, .val (.int W0), .val (.int W1), .unset, .unset, .unset, .unset, .unset, .unset, .unset, .unset] (hb hby at_10) rfl rfl ?_
  refine Own.iloadN hx p2 (hb hby at_12) rfl rfl ?_
  refine Own.callS hx hZ hown (hw _ (wm 0 rfl)) (hw _ (wm 1 rfl)) (hw _ (wm 2 rfl)) (hw _ (wm 3 rfl)) (by decide) pd3 (argsL := [(.int p2)]) (rest := []) rfl (W := 0) (Nat.le_of_eq rfl) (rm := ({ frames := 0, cells := 0, slots := 0, locals := 0 } : Room)) (by decide) (by decide) (by decide) (by decide) (k' := 0) (n' := 0) rfl rfl (by rw [hml]; rfl) [(.int p2)] rfl (hb hby at_13) (pc' := 16) rfl (rm1 l Z a0 hw p2 h0 n0) ?_
  rintro _ h' ⟨rfl, eh⟩
  rw [eh]; clear eh h'
  show Own.Goes _ _ _ _ _ _ _ _ _ _ _ _ _ _ _ _ _ (mkF m 16 #[.val (.int p0), .val (.int p1), .val (.int p2), .val (.long q3), .second, .val (.long q4), .second, .val (.long q5), .second, .val (.int W0), .val (.int W1), .unset, .unset, .unset, .unset, .unset, .unset, .unset, .unset] [(.int (fWin p2))])
  obtain ⟨W2, h_W2⟩ : ∃ z : Int32, z = (fWin p2) := ⟨_, rfl⟩
  refine Own.istore hx W2 h_W2 #[.val (.int p0), .val (.int p1), .val (.int p2), .val (.long q3), .second, .val (.long q4), .second, .val (.long q5), .second, .val (.int W0), .val (.int W1), .val (.int W2), .unset, .unset, .unset, .unset, .unset, .unset, .unset] (hb hby at_16) rfl rfl ?_
  refine Own.iconst hx (3 : Int32) (hb hby at_18) rfl (by decide) ?_
  refine Own.newarr hx hZ O0 (aty := .int) (hw _ (wm 5 rfl)) 3 (by decide) [(.int (0 : Int32)), (.int (0 : Int32)), (.int (0 : Int32))] rfl rfl (cap := 3) (by decide) (by decide) (k' := 1) (n' := 3) rfl rfl (by decide) (by decide) (hb hby at_19) (pc' := 21) rfl ?_
  intro a1 h2 O3
  refine Own.dup hx (hb hby at_21) rfl rfl ?_
  refine Own.iconst hx (0 : Int32) (hb hby at_22) rfl (by decide) ?_
  refine Own.iload hx W0 (hb hby at_23) rfl rfl ?_
  refine Own.iastore hx hZ O3 0 0 rfl (by decide) (by exact (show 0 < 3 by decide)) ((a1, Own.ArrC Z .int [(.int W0), (iI 0), (iI 0)]) :: []) rfl (hb hby at_25) rfl ?_
  intro h4 O5
  refine Own.dup hx (hb hby at_26) rfl rfl ?_
  refine Own.iconst hx (1 : Int32) (hb hby at_27) rfl (by decide) ?_
  refine Own.iload hx W1 (hb hby at_28) rfl rfl ?_
  refine Own.iastore hx hZ O5 0 1 rfl (by decide) (by exact (show 1 < 3 by decide)) ((a1, Own.ArrC Z .int [(.int W0), (.int W1), (iI 0)]) :: []) rfl (hb hby at_30) rfl ?_
  intro h6 O7
  refine Own.dup hx (hb hby at_31) rfl rfl ?_
  refine Own.iconst hx (2 : Int32) (hb hby at_32) rfl (by decide) ?_
  refine Own.iload hx W2 (hb hby at_33) rfl rfl ?_
  refine Own.iastore hx hZ O7 0 2 rfl (by decide) (by exact (show 2 < 3 by decide)) ((a1, Own.ArrC Z .int [(.int W0), (.int W1), (.int W2)]) :: []) rfl (hb hby at_35) rfl ?_
  intro h8 O9
  refine Own.astore hx #[.val (.int p0), .val (.int p1), .val (.int p2), .val (.long q3), .second, .val (.long q4), .second, .val (.long q5), .second, .val (.int W0), .val (.int W1), .val (.int W2), .val (.ref a1), .unset, .unset, .unset, .unset, .unset, .unset] (hb hby at_36) rfl rfl rfl ?_
  refine Own.iconst hx (3 : Int32) (hb hby at_38) rfl (by decide) ?_
  refine Own.newarr hx hZ O9 (aty := .int) (hw _ (wm 5 rfl)) 3 (by decide) [(.int (0 : Int32)), (.int (0 : Int32)), (.int (0 : Int32))] rfl rfl (cap := 3) (by decide) (by decide) (k' := 2) (n' := 6) rfl rfl (by decide) (by decide) (hb hby at_39) (pc' := 41) rfl ?_
  intro a10 h11 O12
  refine Own.dup hx (hb hby at_41) rfl rfl ?_
  refine Own.iconst hx (0 : Int32) (hb hby at_42) rfl (by decide) ?_
  refine Own.lloadN hx q3 (hb hby at_43) rfl rfl ?_
  refine Own.iconst hx (0 : Int32) (hb hby at_44) rfl (by decide) ?_
  refine Own.iload hx W0 (hb hby at_45) rfl rfl ?_
  refine Own.callS hx hZ hown (hw _ (wm 6 rfl)) (hw _ (wm 7 rfl)) (hw _ (wm 2 rfl)) (hw _ (wm 8 rfl)) (by decide) pd10 (argsL := [(.long q3), (.int (0 : Int32)), (.int W0)]) (rest := [(.int (0 : Int32)), (.ref a10), (.ref a10)]) rfl (W := 3) (Nat.le_of_eq rfl) (rm := ({ frames := 0, cells := 0, slots := 0, locals := 0 } : Room)) (by decide) (by decide) (by decide) (by decide) (k' := 2) (n' := 6) rfl rfl (by rw [hml]; rfl) [(.int W0), (.int (0 : Int32)), (.long q3), (.int (0 : Int32)), (.ref a10), (.ref a10)] rfl (hb hby at_47) (pc' := 50) rfl (rm2 l Z a0 hw q3 (0 : Int32) W0 h11 n0 (own_wnz (own_win h_W0))) ?_
  rintro _ h' ⟨rfl, eh⟩
  rw [eh]; clear eh h'
  show Own.Goes _ _ _ _ _ _ _ _ _ _ _ _ _ _ _ _ _ (mkF m 50 #[.val (.int p0), .val (.int p1), .val (.int p2), .val (.long q3), .second, .val (.long q4), .second, .val (.long q5), .second, .val (.int W0), .val (.int W1), .val (.int W2), .val (.ref a1), .unset, .unset, .unset, .unset, .unset, .unset] [(.int (fBuf q3 (0 : Int32) W0)), (.int (0 : Int32)), (.ref a10), (.ref a10)])
  refine Own.iastore hx hZ O12 0 0 rfl (by decide) (by exact (show 0 < 3 by decide)) ((a10, Own.ArrC Z .int [(.int (fBuf q3 (0 : Int32) W0)), (iI 0), (iI 0)]) :: (a1, Own.ArrC Z .int [(.int W0), (.int W1), (.int W2)]) :: []) rfl (hb hby at_50) rfl ?_
  intro h13 O14
  refine Own.dup hx (hb hby at_51) rfl rfl ?_
  refine Own.iconst hx (1 : Int32) (hb hby at_52) rfl (by decide) ?_
  refine Own.lload hx q4 (hb hby at_53) rfl rfl ?_
  refine Own.iconst hx (0 : Int32) (hb hby at_55) rfl (by decide) ?_
  refine Own.iload hx W1 (hb hby at_56) rfl rfl ?_
  refine Own.callS hx hZ hown (hw _ (wm 6 rfl)) (hw _ (wm 7 rfl)) (hw _ (wm 2 rfl)) (hw _ (wm 8 rfl)) (by decide) pd10 (argsL := [(.long q4), (.int (0 : Int32)), (.int W1)]) (rest := [(.int (1 : Int32)), (.ref a10), (.ref a10)]) rfl (W := 3) (Nat.le_of_eq rfl) (rm := ({ frames := 0, cells := 0, slots := 0, locals := 0 } : Room)) (by decide) (by decide) (by decide) (by decide) (k' := 2) (n' := 6) rfl rfl (by rw [hml]; rfl) [(.int W1), (.int (0 : Int32)), (.long q4), (.int (1 : Int32)), (.ref a10), (.ref a10)] rfl (hb hby at_58) (pc' := 61) rfl (rm2 l Z a0 hw q4 (0 : Int32) W1 h13 n0 (own_wnz (own_win h_W1))) ?_
  rintro _ h' ⟨rfl, eh⟩
  rw [eh]; clear eh h'
  show Own.Goes _ _ _ _ _ _ _ _ _ _ _ _ _ _ _ _ _ (mkF m 61 #[.val (.int p0), .val (.int p1), .val (.int p2), .val (.long q3), .second, .val (.long q4), .second, .val (.long q5), .second, .val (.int W0), .val (.int W1), .val (.int W2), .val (.ref a1), .unset, .unset, .unset, .unset, .unset, .unset] [(.int (fBuf q4 (0 : Int32) W1)), (.int (1 : Int32)), (.ref a10), (.ref a10)])
  refine Own.iastore hx hZ O14 0 1 rfl (by decide) (by exact (show 1 < 3 by decide)) ((a10, Own.ArrC Z .int [(.int (fBuf q3 (0 : Int32) W0)), (.int (fBuf q4 (0 : Int32) W1)), (iI 0)]) :: (a1, Own.ArrC Z .int [(.int W0), (.int W1), (.int W2)]) :: []) rfl (hb hby at_61) rfl ?_
  intro h15 O16
  refine Own.dup hx (hb hby at_62) rfl rfl ?_
  refine Own.iconst hx (2 : Int32) (hb hby at_63) rfl (by decide) ?_
  refine Own.lload hx q5 (hb hby at_64) rfl rfl ?_
  refine Own.iconst hx (0 : Int32) (hb hby at_66) rfl (by decide) ?_
  refine Own.iload hx W2 (hb hby at_67) rfl rfl ?_
  refine Own.callS hx hZ hown (hw _ (wm 6 rfl)) (hw _ (wm 7 rfl)) (hw _ (wm 2 rfl)) (hw _ (wm 8 rfl)) (by decide) pd10 (argsL := [(.long q5), (.int (0 : Int32)), (.int W2)]) (rest := [(.int (2 : Int32)), (.ref a10), (.ref a10)]) rfl (W := 3) (Nat.le_of_eq rfl) (rm := ({ frames := 0, cells := 0, slots := 0, locals := 0 } : Room)) (by decide) (by decide) (by decide) (by decide) (k' := 2) (n' := 6) rfl rfl (by rw [hml]; rfl) [(.int W2), (.int (0 : Int32)), (.long q5), (.int (2 : Int32)), (.ref a10), (.ref a10)] rfl (hb hby at_69) (pc' := 72) rfl (rm2 l Z a0 hw q5 (0 : Int32) W2 h15 n0 (own_wnz (own_win h_W2))) ?_
  rintro _ h' ⟨rfl, eh⟩
  rw [eh]; clear eh h'
  show Own.Goes _ _ _ _ _ _ _ _ _ _ _ _ _ _ _ _ _ (mkF m 72 #[.val (.int p0), .val (.int p1), .val (.int p2), .val (.long q3), .second, .val (.long q4), .second, .val (.long q5), .second, .val (.int W0), .val (.int W1), .val (.int W2), .val (.ref a1), .unset, .unset, .unset, .unset, .unset, .unset] [(.int (fBuf q5 (0 : Int32) W2)), (.int (2 : Int32)), (.ref a10), (.ref a10)])
  refine Own.iastore hx hZ O16 0 2 rfl (by decide) (by exact (show 2 < 3 by decide)) ((a10, Own.ArrC Z .int [(.int (fBuf q3 (0 : Int32) W0)), (.int (fBuf q4 (0 : Int32) W1)), (.int (fBuf q5 (0 : Int32) W2))]) :: (a1, Own.ArrC Z .int [(.int W0), (.int W1), (.int W2)]) :: []) rfl (hb hby at_72) rfl ?_
  intro h17 O18
  refine Own.astore hx #[.val (.int p0), .val (.int p1), .val (.int p2), .val (.long q3), .second, .val (.long q4), .second, .val (.long q5), .second, .val (.int W0), .val (.int W1), .val (.int W2), .val (.ref a1), .val (.ref a10), .unset, .unset, .unset, .unset, .unset] (hb hby at_73) rfl rfl rfl ?_
  refine Own.iconst hx (3 : Int32) (hb hby at_75) rfl (by decide) ?_
  refine Own.newarr hx hZ O18 (aty := .int) (hw _ (wm 5 rfl)) 3 (by decide) [(.int (0 : Int32)), (.int (0 : Int32)), (.int (0 : Int32))] rfl rfl (cap := 3) (by decide) (by decide) (k' := 3) (n' := 9) rfl rfl (by decide) (by decide) (hb hby at_76) (pc' := 78) rfl ?_
  intro a19 h20 O21
  refine Own.dup hx (hb hby at_78) rfl rfl ?_
  refine Own.iconst hx (0 : Int32) (hb hby at_79) rfl (by decide) ?_
  refine Own.lloadN hx q3 (hb hby at_80) rfl rfl ?_
  refine Own.bipush hx (32 : Int32) (hb hby at_81) rfl (by decide) ?_
  refine Own.iload hx W0 (hb hby at_83) rfl rfl ?_
  refine Own.callS hx hZ hown (hw _ (wm 6 rfl)) (hw _ (wm 7 rfl)) (hw _ (wm 2 rfl)) (hw _ (wm 8 rfl)) (by decide) pd10 (argsL := [(.long q3), (.int (32 : Int32)), (.int W0)]) (rest := [(.int (0 : Int32)), (.ref a19), (.ref a19)]) rfl (W := 3) (Nat.le_of_eq rfl) (rm := ({ frames := 0, cells := 0, slots := 0, locals := 0 } : Room)) (by decide) (by decide) (by decide) (by decide) (k' := 3) (n' := 9) rfl rfl (by rw [hml]; rfl) [(.int W0), (.int (32 : Int32)), (.long q3), (.int (0 : Int32)), (.ref a19), (.ref a19)] rfl (hb hby at_85) (pc' := 88) rfl (rm2 l Z a0 hw q3 (32 : Int32) W0 h20 n0 (own_wnz (own_win h_W0))) ?_
  rintro _ h' ⟨rfl, eh⟩
  rw [eh]; clear eh h'
  show Own.Goes _ _ _ _ _ _ _ _ _ _ _ _ _ _ _ _ _ (mkF m 88 #[.val (.int p0), .val (.int p1), .val (.int p2), .val (.long q3), .second, .val (.long q4), .second, .val (.long q5), .second, .val (.int W0), .val (.int W1), .val (.int W2), .val (.ref a1), .val (.ref a10), .unset, .unset, .unset, .unset, .unset] [(.int (fBuf q3 (32 : Int32) W0)), (.int (0 : Int32)), (.ref a19), (.ref a19)])
  refine Own.iastore hx hZ O21 0 0 rfl (by decide) (by exact (show 0 < 3 by decide)) ((a19, Own.ArrC Z .int [(.int (fBuf q3 (32 : Int32) W0)), (iI 0), (iI 0)]) :: (a10, Own.ArrC Z .int [(.int (fBuf q3 (0 : Int32) W0)), (.int (fBuf q4 (0 : Int32) W1)), (.int (fBuf q5 (0 : Int32) W2))]) :: (a1, Own.ArrC Z .int [(.int W0), (.int W1), (.int W2)]) :: []) rfl (hb hby at_88) rfl ?_
  intro h22 O23
  refine Own.dup hx (hb hby at_89) rfl rfl ?_
  refine Own.iconst hx (1 : Int32) (hb hby at_90) rfl (by decide) ?_
  refine Own.lload hx q4 (hb hby at_91) rfl rfl ?_
  refine Own.bipush hx (32 : Int32) (hb hby at_93) rfl (by decide) ?_
  refine Own.iload hx W1 (hb hby at_95) rfl rfl ?_
  refine Own.callS hx hZ hown (hw _ (wm 6 rfl)) (hw _ (wm 7 rfl)) (hw _ (wm 2 rfl)) (hw _ (wm 8 rfl)) (by decide) pd10 (argsL := [(.long q4), (.int (32 : Int32)), (.int W1)]) (rest := [(.int (1 : Int32)), (.ref a19), (.ref a19)]) rfl (W := 3) (Nat.le_of_eq rfl) (rm := ({ frames := 0, cells := 0, slots := 0, locals := 0 } : Room)) (by decide) (by decide) (by decide) (by decide) (k' := 3) (n' := 9) rfl rfl (by rw [hml]; rfl) [(.int W1), (.int (32 : Int32)), (.long q4), (.int (1 : Int32)), (.ref a19), (.ref a19)] rfl (hb hby at_97) (pc' := 100) rfl (rm2 l Z a0 hw q4 (32 : Int32) W1 h22 n0 (own_wnz (own_win h_W1))) ?_
  rintro _ h' ⟨rfl, eh⟩
  rw [eh]; clear eh h'
  show Own.Goes _ _ _ _ _ _ _ _ _ _ _ _ _ _ _ _ _ (mkF m 100 #[.val (.int p0), .val (.int p1), .val (.int p2), .val (.long q3), .second, .val (.long q4), .second, .val (.long q5), .second, .val (.int W0), .val (.int W1), .val (.int W2), .val (.ref a1), .val (.ref a10), .unset, .unset, .unset, .unset, .unset] [(.int (fBuf q4 (32 : Int32) W1)), (.int (1 : Int32)), (.ref a19), (.ref a19)])
  refine Own.iastore hx hZ O23 0 1 rfl (by decide) (by exact (show 1 < 3 by decide)) ((a19, Own.ArrC Z .int [(.int (fBuf q3 (32 : Int32) W0)), (.int (fBuf q4 (32 : Int32) W1)), (iI 0)]) :: (a10, Own.ArrC Z .int [(.int (fBuf q3 (0 : Int32) W0)), (.int (fBuf q4 (0 : Int32) W1)), (.int (fBuf q5 (0 : Int32) W2))]) :: (a1, Own.ArrC Z .int [(.int W0), (.int W1), (.int W2)]) :: []) rfl (hb hby at_100) rfl ?_
  intro h24 O25
  refine Own.dup hx (hb hby at_101) rfl rfl ?_
  refine Own.iconst hx (2 : Int32) (hb hby at_102) rfl (by decide) ?_
  refine Own.lload hx q5 (hb hby at_103) rfl rfl ?_
  refine Own.bipush hx (32 : Int32) (hb hby at_105) rfl (by decide) ?_
  refine Own.iload hx W2 (hb hby at_107) rfl rfl ?_
  refine Own.callS hx hZ hown (hw _ (wm 6 rfl)) (hw _ (wm 7 rfl)) (hw _ (wm 2 rfl)) (hw _ (wm 8 rfl)) (by decide) pd10 (argsL := [(.long q5), (.int (32 : Int32)), (.int W2)]) (rest := [(.int (2 : Int32)), (.ref a19), (.ref a19)]) rfl (W := 3) (Nat.le_of_eq rfl) (rm := ({ frames := 0, cells := 0, slots := 0, locals := 0 } : Room)) (by decide) (by decide) (by decide) (by decide) (k' := 3) (n' := 9) rfl rfl (by rw [hml]; rfl) [(.int W2), (.int (32 : Int32)), (.long q5), (.int (2 : Int32)), (.ref a19), (.ref a19)] rfl (hb hby at_109) (pc' := 112) rfl (rm2 l Z a0 hw q5 (32 : Int32) W2 h24 n0 (own_wnz (own_win h_W2))) ?_
  rintro _ h' ⟨rfl, eh⟩
  rw [eh]; clear eh h'
  show Own.Goes _ _ _ _ _ _ _ _ _ _ _ _ _ _ _ _ _ (mkF m 112 #[.val (.int p0), .val (.int p1), .val (.int p2), .val (.long q3), .second, .val (.long q4), .second, .val (.long q5), .second, .val (.int W0), .val (.int W1), .val (.int W2), .val (.ref a1), .val (.ref a10), .unset, .unset, .unset, .unset, .unset] [(.int (fBuf q5 (32 : Int32) W2)), (.int (2 : Int32)), (.ref a19), (.ref a19)])
  refine Own.iastore hx hZ O25 0 2 rfl (by decide) (by exact (show 2 < 3 by decide)) ((a19, Own.ArrC Z .int [(.int (fBuf q3 (32 : Int32) W0)), (.int (fBuf q4 (32 : Int32) W1)), (.int (fBuf q5 (32 : Int32) W2))]) :: (a10, Own.ArrC Z .int [(.int (fBuf q3 (0 : Int32) W0)), (.int (fBuf q4 (0 : Int32) W1)), (.int (fBuf q5 (0 : Int32) W2))]) :: (a1, Own.ArrC Z .int [(.int W0), (.int W1), (.int W2)]) :: []) rfl (hb hby at_112) rfl ?_
  intro h26 O27
  refine Own.astore hx #[.val (.int p0), .val (.int p1), .val (.int p2), .val (.long q3), .second, .val (.long q4), .second, .val (.long q5), .second, .val (.int W0), .val (.int W1), .val (.int W2), .val (.ref a1), .val (.ref a10), .val (.ref a19), .unset, .unset, .unset, .unset] (hb hby at_113) rfl rfl rfl ?_
  refine Own.aload hx (.ref a10) (hb hby at_115) rfl rfl rfl ?_
  refine Own.iconst hx (0 : Int32) (hb hby at_117) rfl (by decide) ?_
  refine Own.iaload hx hZ O27 1 0 rfl (by decide) (v := (.int (fBuf q3 (0 : Int32) W0))) rfl (hb hby at_118) rfl ?_
  refine Own.aload hx (.ref a19) (hb hby at_119) rfl rfl rfl ?_
  refine Own.iconst hx (0 : Int32) (hb hby at_121) rfl (by decide) ?_
  refine Own.iaload hx hZ O27 0 0 rfl (by decide) (v := (.int (fBuf q3 (32 : Int32) W0))) rfl (hb hby at_122) rfl ?_
  obtain ⟨same, h_same⟩ : ∃ z : Int32, z = (if (fBuf q3 (0 : Int32) W0) = (fBuf q3 (32 : Int32) W0) then (if (fBuf q4 (0 : Int32) W1) = (fBuf q4 (32 : Int32) W1) then (if (fBuf q5 (0 : Int32) W2) = (fBuf q5 (32 : Int32) W2) then (1 : Int32) else (0 : Int32)) else (0 : Int32)) else (0 : Int32)) := ⟨_, rfl⟩
  refine Own.Goes.join (mkF m 153 #[.val (.int p0), .val (.int p1), .val (.int p2), .val (.long q3), .second, .val (.long q4), .second, .val (.long q5), .second, .val (.int W0), .val (.int W1), .val (.int W2), .val (.ref a1), .val (.ref a10), .val (.ref a19), .unset, .unset, .unset, .unset] [(.int same)]) (fun kJ31 => ?_) ?_
  · refine Own.icmpFn hx (Own.q_ne (fBuf q3 (0 : Int32) W0) (fBuf q3 (32 : Int32) W0)) (hb hby at_123) (pcN := 126) rfl (by decide) (pcT := 152) rfl (fun hc28 => ?_) (fun hc28 => ?_)
    · refine Own.iconst hx (0 : Int32) (hb hby at_152) rfl (by decide) ?_
      try simp only [if_neg hc28] at h_same
      subst h_same
      exact kJ31
    · refine Own.aload hx (.ref a10) (hb hby at_126) rfl rfl rfl ?_
      refine Own.iconst hx (1 : Int32) (hb hby at_128) rfl (by decide) ?_
      refine Own.iaload hx hZ O27 1 1 rfl (by decide) (v := (.int (fBuf q4 (0 : Int32) W1))) rfl (hb hby at_129) rfl ?_
      refine Own.aload hx (.ref a19) (hb hby at_130) rfl rfl rfl ?_
      refine Own.iconst hx (1 : Int32) (hb hby at_132) rfl (by decide) ?_
      refine Own.iaload hx hZ O27 0 1 rfl (by decide) (v := (.int (fBuf q4 (32 : Int32) W1))) rfl (hb hby at_133) rfl ?_
      refine Own.icmpFn hx (Own.q_ne (fBuf q4 (0 : Int32) W1) (fBuf q4 (32 : Int32) W1)) (hb hby at_134) (pcN := 137) rfl (by decide) (pcT := 152) rfl (fun hc32 => ?_) (fun hc32 => ?_)
      · refine Own.iconst hx (0 : Int32) (hb hby at_152) rfl (by decide) ?_
        try simp only [if_pos hc28, if_neg hc32] at h_same
        subst h_same
        exact kJ31
      · refine Own.aload hx (.ref a10) (hb hby at_137) rfl rfl rfl ?_
        refine Own.iconst hx (2 : Int32) (hb hby at_139) rfl (by decide) ?_
        refine Own.iaload hx hZ O27 1 2 rfl (by decide) (v := (.int (fBuf q5 (0 : Int32) W2))) rfl (hb hby at_140) rfl ?_
        refine Own.aload hx (.ref a19) (hb hby at_141) rfl rfl rfl ?_
        refine Own.iconst hx (2 : Int32) (hb hby at_143) rfl (by decide) ?_
        refine Own.iaload hx hZ O27 0 2 rfl (by decide) (v := (.int (fBuf q5 (32 : Int32) W2))) rfl (hb hby at_144) rfl ?_
        refine Own.icmpFn hx (Own.q_ne (fBuf q5 (0 : Int32) W2) (fBuf q5 (32 : Int32) W2)) (hb hby at_145) (pcN := 148) rfl (by decide) (pcT := 152) rfl (fun hc33 => ?_) (fun hc33 => ?_)
        · refine Own.iconst hx (0 : Int32) (hb hby at_152) rfl (by decide) ?_
          try simp only [if_pos hc28, if_pos hc32, if_neg hc33] at h_same
          subst h_same
          exact kJ31
        · refine Own.iconst hx (1 : Int32) (hb hby at_148) rfl (by decide) ?_
          refine Own.goto hx (hb hby at_149) (by decide) (pc' := 153) rfl ?_
          try simp only [if_pos hc28, if_pos hc32, if_pos hc33] at h_same
          subst h_same
          exact kJ31
  obtain ⟨b0, hb0, eb0, lb0⟩ := own_bt (own_win h_W0)
  obtain ⟨b1, hb1, eb1, lb1⟩ := own_bt (own_win h_W1)
  obtain ⟨b2, hb2, eb2, lb2⟩ := own_bt (own_win h_W2)
  obtain ⟨y0, ey0, ly0⟩ := own_buf (own_win h_W0) lb0 q3 (0 : Int32)
  obtain ⟨y1, ey1, ly1⟩ := own_buf (own_win h_W1) lb1 q4 (0 : Int32)
  obtain ⟨y2, ey2, ly2⟩ := own_buf (own_win h_W2) lb2 q5 (0 : Int32)
  obtain ⟨z0, ez0, lz0⟩ := own_buf (own_win h_W0) lb0 q3 (32 : Int32)
  obtain ⟨z1, ez1, lz1⟩ := own_buf (own_win h_W1) lb1 q4 (32 : Int32)
  obtain ⟨z2, ez2, lz2⟩ := own_buf (own_win h_W2) lb2 q5 (32 : Int32)
  refine Own.istore hx same rfl #[.val (.int p0), .val (.int p1), .val (.int p2), .val (.long q3), .second, .val (.long q4), .second, .val (.long q5), .second, .val (.int W0), .val (.int W1), .val (.int W2), .val (.ref a1), .val (.ref a10), .val (.ref a19), .val (.int same), .unset, .unset, .unset] (hb hby at_153) rfl rfl ?_
  rcases own_same h_same with ⟨qs, E0, E1, E2⟩ | qs
  · subst qs
    refine Own.iconst hx (3 : Int32) (hb hby at_155) rfl (by decide) ?_
    refine Own.newarr hx hZ O27 (aty := .int) (hw _ (wm 5 rfl)) 3 (by decide) [(.int (0 : Int32)), (.int (0 : Int32)), (.int (0 : Int32))] rfl rfl (cap := 3) (by decide) (by decide) (k' := 4) (n' := 12) rfl rfl (by decide) (by decide) (hb hby at_156) (pc' := 158) rfl ?_
    intro a34 h35 O36
    refine Own.astore hx #[.val (.int p0), .val (.int p1), .val (.int p2), .val (.long q3), .second, .val (.long q4), .second, .val (.long q5), .second, .val (.int W0), .val (.int W1), .val (.int W2), .val (.ref a1), .val (.ref a10), .val (.ref a19), .val (.int (1 : Int32)), .val (.ref a34), .unset, .unset] (hb hby at_158) rfl rfl rfl ?_
    by_cases hW : 0 + b0 + b1 + b2 ≤ 64
    · have K1 := law1 ey0 ey1 ey2 ly0 ly1 ly2 hb0 hb1 hb2 hW
      have K2 := law1 ez0 ez1 ez2 lz0 lz1 lz2 hb0 hb1 hb2 hW
      refine Own.iconst hx (3 : Int32) (hb hby at_160) rfl (by decide) ?_
      refine Own.newarr hx hZ O36 (aty := .int) (hw _ (wm 5 rfl)) 3 (by decide) [(.int (0 : Int32)), (.int (0 : Int32)), (.int (0 : Int32))] rfl rfl (cap := 3) (by decide) (by decide) (k' := 5) (n' := 15) rfl rfl (by decide) (by decide) (hb hby at_161) (pc' := 163) rfl ?_
      intro a37 h38 O39
      refine Own.astore hx #[.val (.int p0), .val (.int p1), .val (.int p2), .val (.long q3), .second, .val (.long q4), .second, .val (.long q5), .second, .val (.int W0), .val (.int W1), .val (.int W2), .val (.ref a1), .val (.ref a10), .val (.ref a19), .val (.int (1 : Int32)), .val (.ref a34), .val (.ref a37), .unset] (hb hby at_163) rfl rfl rfl ?_
      refine Own.newobj hx hZ hown O39 (hw _ (wm 9 rfl)) (hw _ (wm 10 rfl)) (hw _ (wm 11 rfl)) [(("com/example/cuesheet/cuesheet/core/PackedStates", "table", "Lcom/example/cuesheet/cuesheet/core/StateTable;"), .null), (("com/example/cuesheet/cuesheet/core/PackedStates", "word", "[I"), .null), (("com/example/cuesheet/cuesheet/core/PackedStates", "shift", "[I"), .null), (("com/example/cuesheet/cuesheet/core/PackedStates", "bits", "[I"), .null), (("com/example/cuesheet/cuesheet/core/PackedStates", "words", "I"), (.int (0 : Int32))), (("com/example/cuesheet/cuesheet/core/PackedStates", "packed", "[J"), .null), (("com/example/cuesheet/cuesheet/core/PackedStates", "stored", "[J"), .null), (("com/example/cuesheet/cuesheet/core/PackedStates", "size", "I"), (.int (0 : Int32)))] (by intro f hf; simp only [List.mem_cons, List.not_mem_nil, or_false] at hf; rcases hf with rfl | rfl | rfl | rfl | rfl | rfl | rfl | rfl; exact ⟨Or.inr (hw _ (wm 38 rfl)), (.object "com/example/cuesheet/cuesheet/core/StateTable"), by decide, rfl⟩; exact ⟨Or.inr (hw _ (wm 40 rfl)), (.array .int), by decide, rfl⟩; exact ⟨Or.inr (hw _ (wm 42 rfl)), (.array .int), by decide, rfl⟩; exact ⟨Or.inr (hw _ (wm 44 rfl)), (.array .int), by decide, rfl⟩; exact ⟨Or.inr (hw _ (wm 51 rfl)), .int, by decide, rfl⟩; exact ⟨Or.inr (hw _ (wm 53 rfl)), (.array .long), by decide, rfl⟩; exact ⟨Or.inl (hw _ (wm 55 rfl)), (.array .long), by decide, rfl⟩; exact ⟨Or.inl (hw _ (wm 69 rfl)), .int, by decide, rfl⟩) (by decide) (k' := 6) (n' := 23) rfl rfl (by decide) (by decide) (hb hby at_165) (pc' := 168) rfl ?_
      intro a40 h41 O42
      refine Own.dup hx (hb hby at_168) rfl rfl ?_
      refine Own.aload hx (.ref a1) (hb hby at_169) rfl rfl rfl ?_
      have O51 : Own.Owns n0 h41 ((a1, Own.ArrC Z .int [(.int W0), (.int W1), (.int W2)]) :: (a40, PSo Z .null .null .null .null (iI 0) .null .null (iI 0)) :: (a37, Own.ArrC Z .int [(iI 0), (iI 0), (iI 0)]) :: (a34, Own.ArrC Z .int [(iI 0), (iI 0), (iI 0)]) :: (a19, Own.ArrC Z .int [(.int (fBuf q3 (32 : Int32) W0)), (.int (fBuf q4 (32 : Int32) W1)), (.int (fBuf q5 (32 : Int32) W2))]) :: (a10, Own.ArrC Z .int [(.int (fBuf q3 (0 : Int32) W0)), (.int (fBuf q4 (0 : Int32) W1)), (.int (fBuf q5 (0 : Int32) W2))]) :: []) := O42.pick 5 rfl
      have O52 : Own.Owns n0 h41 ((a40, PSo Z .null .null .null .null (iI 0) .null .null (iI 0)) :: (a1, Own.ArrC Z .int [(.int W0), (.int W1), (.int W2)]) :: (a37, Own.ArrC Z .int [(iI 0), (iI 0), (iI 0)]) :: (a34, Own.ArrC Z .int [(iI 0), (iI 0), (iI 0)]) :: (a19, Own.ArrC Z .int [(.int (fBuf q3 (32 : Int32) W0)), (.int (fBuf q4 (32 : Int32) W1)), (.int (fBuf q5 (32 : Int32) W2))]) :: (a10, Own.ArrC Z .int [(.int (fBuf q3 (0 : Int32) W0)), (.int (fBuf q4 (0 : Int32) W1)), (.int (fBuf q5 (0 : Int32) W2))]) :: []) := O51.pick 1 rfl
      refine Own.callI hx hZ hown rfl (hw _ (wm 12 rfl)) (hw _ (wm 13 rfl)) (hw _ (wm 11 rfl)) (hw _ (wm 14 rfl)) (by decide) pd7 (argsL := [(.ref a1)]) (rest := [(.ref a40)]) rfl (W := 1) (Nat.le_of_eq rfl) (rm := ({ frames := 3, cells := 8, slots := 2125, locals := 43 } : Room)) (by decide) (by decide) (by decide) (by decide) (k' := 14) (n' := 2148) rfl rfl (by rw [hml]; rfl) [(.ref a1), (.ref a40), (.ref a40)] rfl (hb hby at_171) (pc' := 174) rfl (rm3_1 l Z a0 hw a40 a1 h41 n0 W0 W1 W2 b0 b1 b2 hb0 eb0 hb1 eb1 hb2 eb2 hW ((a37, Own.ArrC Z .int [(iI 0), (iI 0), (iI 0)]) :: (a34, Own.ArrC Z .int [(iI 0), (iI 0), (iI 0)]) :: (a19, Own.ArrC Z .int [(.int (fBuf q3 (32 : Int32) W0)), (.int (fBuf q4 (32 : Int32) W1)), (.int (fBuf q5 (32 : Int32) W2))]) :: (a10, Own.ArrC Z .int [(.int (fBuf q3 (0 : Int32) W0)), (.int (fBuf q4 (0 : Int32) W1)), (.int (fBuf q5 (0 : Int32) W2))]) :: []) O52) ?_
      rintro _ h53 ⟨ot43, ra44, rb45, owd46, osh47, obt48, opk49, osd50, rfl, O54⟩
      show Own.Goes _ _ _ _ _ _ _ _ _ _ _ _ _ _ _ _ _ (mkF m 174 #[.val (.int p0), .val (.int p1), .val (.int p2), .val (.long q3), .second, .val (.long q4), .second, .val (.long q5), .second, .val (.int W0), .val (.int W1), .val (.int W2), .val (.ref a1), .val (.ref a10), .val (.ref a19), .val (.int (1 : Int32)), .val (.ref a34), .val (.ref a37), .unset] [(.ref a40)])
      refine Own.astore hx #[.val (.int p0), .val (.int p1), .val (.int p2), .val (.long q3), .second, .val (.long q4), .second, .val (.long q5), .second, .val (.int W0), .val (.int W1), .val (.int W2), .val (.ref a1), .val (.ref a10), .val (.ref a19), .val (.int (1 : Int32)), .val (.ref a34), .val (.ref a37), .val (.ref a40)] (hb hby at_174) rfl rfl rfl ?_
      refine Own.aload hx (.ref a40) (hb hby at_176) rfl rfl rfl ?_
      refine Own.aload hx (.ref a10) (hb hby at_178) rfl rfl rfl ?_
      have O55 : Own.Owns n0 h53 ((a10, Own.ArrC Z .int [(.int (fBuf q3 (0 : Int32) W0)), (.int (fBuf q4 (0 : Int32) W1)), (.int (fBuf q5 (0 : Int32) W2))]) :: (a40, PSo Z (.ref ot43) (.ref owd46) (.ref osh47) (.ref obt48) (iI 1) (.ref opk49) (.ref osd50) (iI 0)) :: (opk49, Own.ArrC Z .long [(jJ 0)]) :: (owd46, Own.ArrC Z .int [(iI 0), (iI 0), (iI 0)]) :: (osh47, Own.ArrC Z .int [(.int (0 : Nat).toInt32), (.int (0 + b0).toInt32), (.int (0 + b0 + b1).toInt32)]) :: (osd50, Own.ArrC Z .long (List.replicate 64 (Value.long (0 : Int64)))) :: (ot43, STo Z (.ref ra44) (.ref rb45) (iI 0)) :: (ra44, Own.ArrC Z .long (List.replicate 1024 (Value.long (0 : Int64)))) :: (rb45, Own.ArrC Z .int ((fl 1024).map Value.int)) :: (obt48, Own.ArrC Z .int [(.int b0.toInt32), (.int b1.toInt32), (.int b2.toInt32)]) :: (a1, Own.ArrC Z .int [(.int W0), (.int W1), (.int W2)]) :: (a37, Own.ArrC Z .int [(iI 0), (iI 0), (iI 0)]) :: (a34, Own.ArrC Z .int [(iI 0), (iI 0), (iI 0)]) :: (a19, Own.ArrC Z .int [(.int (fBuf q3 (32 : Int32) W0)), (.int (fBuf q4 (32 : Int32) W1)), (.int (fBuf q5 (32 : Int32) W2))]) :: []) := O54.pick 13 rfl
      have O56 : Own.Owns n0 h53 ((rb45, Own.ArrC Z .int ((fl 1024).map Value.int)) :: (a10, Own.ArrC Z .int [(.int (fBuf q3 (0 : Int32) W0)), (.int (fBuf q4 (0 : Int32) W1)), (.int (fBuf q5 (0 : Int32) W2))]) :: (a40, PSo Z (.ref ot43) (.ref owd46) (.ref osh47) (.ref obt48) (iI 1) (.ref opk49) (.ref osd50) (iI 0)) :: (opk49, Own.ArrC Z .long [(jJ 0)]) :: (owd46, Own.ArrC Z .int [(iI 0), (iI 0), (iI 0)]) :: (osh47, Own.ArrC Z .int [(.int (0 : Nat).toInt32), (.int (0 + b0).toInt32), (.int (0 + b0 + b1).toInt32)]) :: (osd50, Own.ArrC Z .long (List.replicate 64 (Value.long (0 : Int64)))) :: (ot43, STo Z (.ref ra44) (.ref rb45) (iI 0)) :: (ra44, Own.ArrC Z .long (List.replicate 1024 (Value.long (0 : Int64)))) :: (obt48, Own.ArrC Z .int [(.int b0.toInt32), (.int b1.toInt32), (.int b2.toInt32)]) :: (a1, Own.ArrC Z .int [(.int W0), (.int W1), (.int W2)]) :: (a37, Own.ArrC Z .int [(iI 0), (iI 0), (iI 0)]) :: (a34, Own.ArrC Z .int [(iI 0), (iI 0), (iI 0)]) :: (a19, Own.ArrC Z .int [(.int (fBuf q3 (32 : Int32) W0)), (.int (fBuf q4 (32 : Int32) W1)), (.int (fBuf q5 (32 : Int32) W2))]) :: []) := O55.pick 8 rfl
      have O57 : Own.Owns n0 h53 ((ra44, Own.ArrC Z .long (List.replicate 1024 (Value.long (0 : Int64)))) :: (rb45, Own.ArrC Z .int ((fl 1024).map Value.int)) :: (a10, Own.ArrC Z .int [(.int (fBuf q3 (0 : Int32) W0)), (.int (fBuf q4 (0 : Int32) W1)), (.int (fBuf q5 (0 : Int32) W2))]) :: (a40, PSo Z (.ref ot43) (.ref owd46) (.ref osh47) (.ref obt48) (iI 1) (.ref opk49) (.ref osd50) (iI 0)) :: (opk49, Own.ArrC Z .long [(jJ 0)]) :: (owd46, Own.ArrC Z .int [(iI 0), (iI 0), (iI 0)]) :: (osh47, Own.ArrC Z .int [(.int (0 : Nat).toInt32), (.int (0 + b0).toInt32), (.int (0 + b0 + b1).toInt32)]) :: (osd50, Own.ArrC Z .long (List.replicate 64 (Value.long (0 : Int64)))) :: (ot43, STo Z (.ref ra44) (.ref rb45) (iI 0)) :: (obt48, Own.ArrC Z .int [(.int b0.toInt32), (.int b1.toInt32), (.int b2.toInt32)]) :: (a1, Own.ArrC Z .int [(.int W0), (.int W1), (.int W2)]) :: (a37, Own.ArrC Z .int [(iI 0), (iI 0), (iI 0)]) :: (a34, Own.ArrC Z .int [(iI 0), (iI 0), (iI 0)]) :: (a19, Own.ArrC Z .int [(.int (fBuf q3 (32 : Int32) W0)), (.int (fBuf q4 (32 : Int32) W1)), (.int (fBuf q5 (32 : Int32) W2))]) :: []) := O56.pick 8 rfl
      have O58 : Own.Owns n0 h53 ((ot43, STo Z (.ref ra44) (.ref rb45) (iI 0)) :: (ra44, Own.ArrC Z .long (List.replicate 1024 (Value.long (0 : Int64)))) :: (rb45, Own.ArrC Z .int ((fl 1024).map Value.int)) :: (a10, Own.ArrC Z .int [(.int (fBuf q3 (0 : Int32) W0)), (.int (fBuf q4 (0 : Int32) W1)), (.int (fBuf q5 (0 : Int32) W2))]) :: (a40, PSo Z (.ref ot43) (.ref owd46) (.ref osh47) (.ref obt48) (iI 1) (.ref opk49) (.ref osd50) (iI 0)) :: (opk49, Own.ArrC Z .long [(jJ 0)]) :: (owd46, Own.ArrC Z .int [(iI 0), (iI 0), (iI 0)]) :: (osh47, Own.ArrC Z .int [(.int (0 : Nat).toInt32), (.int (0 + b0).toInt32), (.int (0 + b0 + b1).toInt32)]) :: (osd50, Own.ArrC Z .long (List.replicate 64 (Value.long (0 : Int64)))) :: (obt48, Own.ArrC Z .int [(.int b0.toInt32), (.int b1.toInt32), (.int b2.toInt32)]) :: (a1, Own.ArrC Z .int [(.int W0), (.int W1), (.int W2)]) :: (a37, Own.ArrC Z .int [(iI 0), (iI 0), (iI 0)]) :: (a34, Own.ArrC Z .int [(iI 0), (iI 0), (iI 0)]) :: (a19, Own.ArrC Z .int [(.int (fBuf q3 (32 : Int32) W0)), (.int (fBuf q4 (32 : Int32) W1)), (.int (fBuf q5 (32 : Int32) W2))]) :: []) := O57.pick 8 rfl
      have O59 : Own.Owns n0 h53 ((osd50, Own.ArrC Z .long (List.replicate 64 (Value.long (0 : Int64)))) :: (ot43, STo Z (.ref ra44) (.ref rb45) (iI 0)) :: (ra44, Own.ArrC Z .long (List.replicate 1024 (Value.long (0 : Int64)))) :: (rb45, Own.ArrC Z .int ((fl 1024).map Value.int)) :: (a10, Own.ArrC Z .int [(.int (fBuf q3 (0 : Int32) W0)), (.int (fBuf q4 (0 : Int32) W1)), (.int (fBuf q5 (0 : Int32) W2))]) :: (a40, PSo Z (.ref ot43) (.ref owd46) (.ref osh47) (.ref obt48) (iI 1) (.ref opk49) (.ref osd50) (iI 0)) :: (opk49, Own.ArrC Z .long [(jJ 0)]) :: (owd46, Own.ArrC Z .int [(iI 0), (iI 0), (iI 0)]) :: (osh47, Own.ArrC Z .int [(.int (0 : Nat).toInt32), (.int (0 + b0).toInt32), (.int (0 + b0 + b1).toInt32)]) :: (obt48, Own.ArrC Z .int [(.int b0.toInt32), (.int b1.toInt32), (.int b2.toInt32)]) :: (a1, Own.ArrC Z .int [(.int W0), (.int W1), (.int W2)]) :: (a37, Own.ArrC Z .int [(iI 0), (iI 0), (iI 0)]) :: (a34, Own.ArrC Z .int [(iI 0), (iI 0), (iI 0)]) :: (a19, Own.ArrC Z .int [(.int (fBuf q3 (32 : Int32) W0)), (.int (fBuf q4 (32 : Int32) W1)), (.int (fBuf q5 (32 : Int32) W2))]) :: []) := O58.pick 8 rfl
      have O60 : Own.Owns n0 h53 ((osh47, Own.ArrC Z .int [(.int (0 : Nat).toInt32), (.int (0 + b0).toInt32), (.int (0 + b0 + b1).toInt32)]) :: (osd50, Own.ArrC Z .long (List.replicate 64 (Value.long (0 : Int64)))) :: (ot43, STo Z (.ref ra44) (.ref rb45) (iI 0)) :: (ra44, Own.ArrC Z .long (List.replicate 1024 (Value.long (0 : Int64)))) :: (rb45, Own.ArrC Z .int ((fl 1024).map Value.int)) :: (a10, Own.ArrC Z .int [(.int (fBuf q3 (0 : Int32) W0)), (.int (fBuf q4 (0 : Int32) W1)), (.int (fBuf q5 (0 : Int32) W2))]) :: (a40, PSo Z (.ref ot43) (.ref owd46) (.ref osh47) (.ref obt48) (iI 1) (.ref opk49) (.ref osd50) (iI 0)) :: (opk49, Own.ArrC Z .long [(jJ 0)]) :: (owd46, Own.ArrC Z .int [(iI 0), (iI 0), (iI 0)]) :: (obt48, Own.ArrC Z .int [(.int b0.toInt32), (.int b1.toInt32), (.int b2.toInt32)]) :: (a1, Own.ArrC Z .int [(.int W0), (.int W1), (.int W2)]) :: (a37, Own.ArrC Z .int [(iI 0), (iI 0), (iI 0)]) :: (a34, Own.ArrC Z .int [(iI 0), (iI 0), (iI 0)]) :: (a19, Own.ArrC Z .int [(.int (fBuf q3 (32 : Int32) W0)), (.int (fBuf q4 (32 : Int32) W1)), (.int (fBuf q5 (32 : Int32) W2))]) :: []) := O59.pick 8 rfl
      have O61 : Own.Owns n0 h53 ((owd46, Own.ArrC Z .int [(iI 0), (iI 0), (iI 0)]) :: (osh47, Own.ArrC Z .int [(.int (0 : Nat).toInt32), (.int (0 + b0).toInt32), (.int (0 + b0 + b1).toInt32)]) :: (osd50, Own.ArrC Z .long (List.replicate 64 (Value.long (0 : Int64)))) :: (ot43, STo Z (.ref ra44) (.ref rb45) (iI 0)) :: (ra44, Own.ArrC Z .long (List.replicate 1024 (Value.long (0 : Int64)))) :: (rb45, Own.ArrC Z .int ((fl 1024).map Value.int)) :: (a10, Own.ArrC Z .int [(.int (fBuf q3 (0 : Int32) W0)), (.int (fBuf q4 (0 : Int32) W1)), (.int (fBuf q5 (0 : Int32) W2))]) :: (a40, PSo Z (.ref ot43) (.ref owd46) (.ref osh47) (.ref obt48) (iI 1) (.ref opk49) (.ref osd50) (iI 0)) :: (opk49, Own.ArrC Z .long [(jJ 0)]) :: (obt48, Own.ArrC Z .int [(.int b0.toInt32), (.int b1.toInt32), (.int b2.toInt32)]) :: (a1, Own.ArrC Z .int [(.int W0), (.int W1), (.int W2)]) :: (a37, Own.ArrC Z .int [(iI 0), (iI 0), (iI 0)]) :: (a34, Own.ArrC Z .int [(iI 0), (iI 0), (iI 0)]) :: (a19, Own.ArrC Z .int [(.int (fBuf q3 (32 : Int32) W0)), (.int (fBuf q4 (32 : Int32) W1)), (.int (fBuf q5 (32 : Int32) W2))]) :: []) := O60.pick 8 rfl
      have O62 : Own.Owns n0 h53 ((opk49, Own.ArrC Z .long [(jJ 0)]) :: (owd46, Own.ArrC Z .int [(iI 0), (iI 0), (iI 0)]) :: (osh47, Own.ArrC Z .int [(.int (0 : Nat).toInt32), (.int (0 + b0).toInt32), (.int (0 + b0 + b1).toInt32)]) :: (osd50, Own.ArrC Z .long (List.replicate 64 (Value.long (0 : Int64)))) :: (ot43, STo Z (.ref ra44) (.ref rb45) (iI 0)) :: (ra44, Own.ArrC Z .long (List.replicate 1024 (Value.long (0 : Int64)))) :: (rb45, Own.ArrC Z .int ((fl 1024).map Value.int)) :: (a10, Own.ArrC Z .int [(.int (fBuf q3 (0 : Int32) W0)), (.int (fBuf q4 (0 : Int32) W1)), (.int (fBuf q5 (0 : Int32) W2))]) :: (a40, PSo Z (.ref ot43) (.ref owd46) (.ref osh47) (.ref obt48) (iI 1) (.ref opk49) (.ref osd50) (iI 0)) :: (obt48, Own.ArrC Z .int [(.int b0.toInt32), (.int b1.toInt32), (.int b2.toInt32)]) :: (a1, Own.ArrC Z .int [(.int W0), (.int W1), (.int W2)]) :: (a37, Own.ArrC Z .int [(iI 0), (iI 0), (iI 0)]) :: (a34, Own.ArrC Z .int [(iI 0), (iI 0), (iI 0)]) :: (a19, Own.ArrC Z .int [(.int (fBuf q3 (32 : Int32) W0)), (.int (fBuf q4 (32 : Int32) W1)), (.int (fBuf q5 (32 : Int32) W2))]) :: []) := O61.pick 8 rfl
      have O63 : Own.Owns n0 h53 ((a40, PSo Z (.ref ot43) (.ref owd46) (.ref osh47) (.ref obt48) (iI 1) (.ref opk49) (.ref osd50) (iI 0)) :: (opk49, Own.ArrC Z .long [(jJ 0)]) :: (owd46, Own.ArrC Z .int [(iI 0), (iI 0), (iI 0)]) :: (osh47, Own.ArrC Z .int [(.int (0 : Nat).toInt32), (.int (0 + b0).toInt32), (.int (0 + b0 + b1).toInt32)]) :: (osd50, Own.ArrC Z .long (List.replicate 64 (Value.long (0 : Int64)))) :: (ot43, STo Z (.ref ra44) (.ref rb45) (iI 0)) :: (ra44, Own.ArrC Z .long (List.replicate 1024 (Value.long (0 : Int64)))) :: (rb45, Own.ArrC Z .int ((fl 1024).map Value.int)) :: (a10, Own.ArrC Z .int [(.int (fBuf q3 (0 : Int32) W0)), (.int (fBuf q4 (0 : Int32) W1)), (.int (fBuf q5 (0 : Int32) W2))]) :: (obt48, Own.ArrC Z .int [(.int b0.toInt32), (.int b1.toInt32), (.int b2.toInt32)]) :: (a1, Own.ArrC Z .int [(.int W0), (.int W1), (.int W2)]) :: (a37, Own.ArrC Z .int [(iI 0), (iI 0), (iI 0)]) :: (a34, Own.ArrC Z .int [(iI 0), (iI 0), (iI 0)]) :: (a19, Own.ArrC Z .int [(.int (fBuf q3 (32 : Int32) W0)), (.int (fBuf q4 (32 : Int32) W1)), (.int (fBuf q5 (32 : Int32) W2))]) :: []) := O62.pick 8 rfl
      refine Own.callV hx hZ hown (O63.exa (i := 0) rfl) (hw _ (wm 56 rfl)) (hw _ (wm 57 rfl)) (hw _ (wm 59 rfl)) (hw _ (wm 58 rfl)) (hw _ (wm 11 rfl)) (hw _ (wm 60 rfl)) (by decide) pd11 (argsL := [(.ref a10)]) (rest := []) rfl (W := 0) (Nat.le_of_eq rfl) (rm := ({ frames := 3, cells := 0, slots := 0, locals := 45 } : Room)) (by decide) (by decide) (by decide) (by decide) (k' := 14) (n' := 2148) rfl rfl (by rw [hml]; rfl) [(.ref a10), (.ref a40)] rfl (hb hby at_180) (pc' := 183) rfl (rm9_10 l Z a0 hw a40 a10 h53 n0 ot43 ra44 rb45 owd46 osh47 obt48 opk49 osd50 (0 : Int64) (fBuf q3 (0 : Int32) W0) (fBuf q4 (0 : Int32) W1) (fBuf q5 (0 : Int32) W2) 0 (0 + b0) (0 + b0 + b1) (0 : Int32) (List.replicate 64 (Value.long (0 : Int64))) (List.replicate 1024 (Value.long (0 : Int64))) (fl 1024) List.length_replicate List.length_replicate (fl_len (Nat.le_refl _)) fl_count (by decide) ((obt48, Own.ArrC Z .int [(.int b0.toInt32), (.int b1.toInt32), (.int b2.toInt32)]) :: (a1, Own.ArrC Z .int [(.int W0), (.int W1), (.int W2)]) :: (a37, Own.ArrC Z .int [(iI 0), (iI 0), (iI 0)]) :: (a34, Own.ArrC Z .int [(iI 0), (iI 0), (iI 0)]) :: (a19, Own.ArrC Z .int [(.int (fBuf q3 (32 : Int32) W0)), (.int (fBuf q4 (32 : Int32) W1)), (.int (fBuf q5 (32 : Int32) W2))]) :: []) O63) ?_
      rintro _ h64 ⟨SL1, SM1, TB1, rfl, hL1, hU10, hlo1, hM1, hT1, hn1, O65⟩
      show Own.Goes _ _ _ _ _ _ _ _ _ _ _ _ _ _ _ _ _ (mkF m 183 #[.val (.int p0), .val (.int p1), .val (.int p2), .val (.long q3), .second, .val (.long q4), .second, .val (.long q5), .second, .val (.int W0), .val (.int W1), .val (.int W2), .val (.ref a1), .val (.ref a10), .val (.ref a19), .val (.int (1 : Int32)), .val (.ref a34), .val (.ref a37), .val (.ref a40)] [(.int (0 : Int32))])
      refine Own.pop hx (hb hby at_183) rfl rfl ?_
      refine Own.iload hx (1 : Int32) (hb hby at_184) rfl rfl ?_
      have hc66 : ¬ ((1 : Int32) = (0 : Int32)) := by decide
      refine Own.ifFn hx (Own.z_ne (1 : Int32)) (hb hby at_186) (pcN := 189) rfl (by decide) (pcT := 197) rfl (fun _ => ?_) (fun q => absurd q hc66)
      refine Own.aload hx (.ref a40) (hb hby at_197) rfl rfl rfl ?_
      refine Own.iconst hx (0 : Int32) (hb hby at_199) rfl (by decide) ?_
      refine Own.aload hx (.ref a34) (hb hby at_200) rfl rfl rfl ?_
      have O68 : Own.Owns n0 h64 ((a34, Own.ArrC Z .int [(iI 0), (iI 0), (iI 0)]) :: (a40, PSo Z (.ref ot43) (.ref owd46) (.ref osh47) (.ref obt48) (iI 1) (.ref opk49) (.ref osd50) (iI 1)) :: (opk49, Own.ArrC Z .long [(.long (pkA (fBuf q3 (0 : Int32) W0) (fBuf q4 (0 : Int32) W1) (fBuf q5 (0 : Int32) W2) 0 (0 + b0) (0 + b0 + b1)))]) :: (owd46, Own.ArrC Z .int [(iI 0), (iI 0), (iI 0)]) :: (osh47, Own.ArrC Z .int [(.int (0 : Nat).toInt32), (.int (0 + b0).toInt32), (.int (0 + b0 + b1).toInt32)]) :: (osd50, Own.ArrC Z .long SL1) :: (ot43, STo Z (.ref ra44) (.ref rb45) (.int ((0 : Int32) + (1 : Int32)))) :: (ra44, Own.ArrC Z .long SM1) :: (rb45, Own.ArrC Z .int (TB1.map Value.int)) :: (a10, Own.ArrC Z .int [(.int (fBuf q3 (0 : Int32) W0)), (.int (fBuf q4 (0 : Int32) W1)), (.int (fBuf q5 (0 : Int32) W2))]) :: (obt48, Own.ArrC Z .int [(.int b0.toInt32), (.int b1.toInt32), (.int b2.toInt32)]) :: (a1, Own.ArrC Z .int [(.int W0), (.int W1), (.int W2)]) :: (a37, Own.ArrC Z .int [(iI 0), (iI 0), (iI 0)]) :: (a19, Own.ArrC Z .int [(.int (fBuf q3 (32 : Int32) W0)), (.int (fBuf q4 (32 : Int32) W1)), (.int (fBuf q5 (32 : Int32) W2))]) :: []) := O65.pick 12 rfl
      have O69 : Own.Owns n0 h64 ((obt48, Own.ArrC Z .int [(.int b0.toInt32), (.int b1.toInt32), (.int b2.toInt32)]) :: (a34, Own.ArrC Z .int [(iI 0), (iI 0), (iI 0)]) :: (a40, PSo Z (.ref ot43) (.ref owd46) (.ref osh47) (.ref obt48) (iI 1) (.ref opk49) (.ref osd50) (iI 1)) :: (opk49, Own.ArrC Z .long [(.long (pkA (fBuf q3 (0 : Int32) W0) (fBuf q4 (0 : Int32) W1) (fBuf q5 (0 : Int32) W2) 0 (0 + b0) (0 + b0 + b1)))]) :: (owd46, Own.ArrC Z .int [(iI 0), (iI 0), (iI 0)]) :: (osh47, Own.ArrC Z .int [(.int (0 : Nat).toInt32), (.int (0 + b0).toInt32), (.int (0 + b0 + b1).toInt32)]) :: (osd50, Own.ArrC Z .long SL1) :: (ot43, STo Z (.ref ra44) (.ref rb45) (.int ((0 : Int32) + (1 : Int32)))) :: (ra44, Own.ArrC Z .long SM1) :: (rb45, Own.ArrC Z .int (TB1.map Value.int)) :: (a10, Own.ArrC Z .int [(.int (fBuf q3 (0 : Int32) W0)), (.int (fBuf q4 (0 : Int32) W1)), (.int (fBuf q5 (0 : Int32) W2))]) :: (a1, Own.ArrC Z .int [(.int W0), (.int W1), (.int W2)]) :: (a37, Own.ArrC Z .int [(iI 0), (iI 0), (iI 0)]) :: (a19, Own.ArrC Z .int [(.int (fBuf q3 (32 : Int32) W0)), (.int (fBuf q4 (32 : Int32) W1)), (.int (fBuf q5 (32 : Int32) W2))]) :: []) := O68.pick 10 rfl
      have O70 : Own.Owns n0 h64 ((osh47, Own.ArrC Z .int [(.int (0 : Nat).toInt32), (.int (0 + b0).toInt32), (.int (0 + b0 + b1).toInt32)]) :: (obt48, Own.ArrC Z .int [(.int b0.toInt32), (.int b1.toInt32), (.int b2.toInt32)]) :: (a34, Own.ArrC Z .int [(iI 0), (iI 0), (iI 0)]) :: (a40, PSo Z (.ref ot43) (.ref owd46) (.ref osh47) (.ref obt48) (iI 1) (.ref opk49) (.ref osd50) (iI 1)) :: (opk49, Own.ArrC Z .long [(.long (pkA (fBuf q3 (0 : Int32) W0) (fBuf q4 (0 : Int32) W1) (fBuf q5 (0 : Int32) W2) 0 (0 + b0) (0 + b0 + b1)))]) :: (owd46, Own.ArrC Z .int [(iI 0), (iI 0), (iI 0)]) :: (osd50, Own.ArrC Z .long SL1) :: (ot43, STo Z (.ref ra44) (.ref rb45) (.int ((0 : Int32) + (1 : Int32)))) :: (ra44, Own.ArrC Z .long SM1) :: (rb45, Own.ArrC Z .int (TB1.map Value.int)) :: (a10, Own.ArrC Z .int [(.int (fBuf q3 (0 : Int32) W0)), (.int (fBuf q4 (0 : Int32) W1)), (.int (fBuf q5 (0 : Int32) W2))]) :: (a1, Own.ArrC Z .int [(.int W0), (.int W1), (.int W2)]) :: (a37, Own.ArrC Z .int [(iI 0), (iI 0), (iI 0)]) :: (a19, Own.ArrC Z .int [(.int (fBuf q3 (32 : Int32) W0)), (.int (fBuf q4 (32 : Int32) W1)), (.int (fBuf q5 (32 : Int32) W2))]) :: []) := O69.pick 5 rfl
      have O71 : Own.Owns n0 h64 ((owd46, Own.ArrC Z .int [(iI 0), (iI 0), (iI 0)]) :: (osh47, Own.ArrC Z .int [(.int (0 : Nat).toInt32), (.int (0 + b0).toInt32), (.int (0 + b0 + b1).toInt32)]) :: (obt48, Own.ArrC Z .int [(.int b0.toInt32), (.int b1.toInt32), (.int b2.toInt32)]) :: (a34, Own.ArrC Z .int [(iI 0), (iI 0), (iI 0)]) :: (a40, PSo Z (.ref ot43) (.ref owd46) (.ref osh47) (.ref obt48) (iI 1) (.ref opk49) (.ref osd50) (iI 1)) :: (opk49, Own.ArrC Z .long [(.long (pkA (fBuf q3 (0 : Int32) W0) (fBuf q4 (0 : Int32) W1) (fBuf q5 (0 : Int32) W2) 0 (0 + b0) (0 + b0 + b1)))]) :: (osd50, Own.ArrC Z .long SL1) :: (ot43, STo Z (.ref ra44) (.ref rb45) (.int ((0 : Int32) + (1 : Int32)))) :: (ra44, Own.ArrC Z .long SM1) :: (rb45, Own.ArrC Z .int (TB1.map Value.int)) :: (a10, Own.ArrC Z .int [(.int (fBuf q3 (0 : Int32) W0)), (.int (fBuf q4 (0 : Int32) W1)), (.int (fBuf q5 (0 : Int32) W2))]) :: (a1, Own.ArrC Z .int [(.int W0), (.int W1), (.int W2)]) :: (a37, Own.ArrC Z .int [(iI 0), (iI 0), (iI 0)]) :: (a19, Own.ArrC Z .int [(.int (fBuf q3 (32 : Int32) W0)), (.int (fBuf q4 (32 : Int32) W1)), (.int (fBuf q5 (32 : Int32) W2))]) :: []) := O70.pick 5 rfl
      have O72 : Own.Owns n0 h64 ((osd50, Own.ArrC Z .long SL1) :: (owd46, Own.ArrC Z .int [(iI 0), (iI 0), (iI 0)]) :: (osh47, Own.ArrC Z .int [(.int (0 : Nat).toInt32), (.int (0 + b0).toInt32), (.int (0 + b0 + b1).toInt32)]) :: (obt48, Own.ArrC Z .int [(.int b0.toInt32), (.int b1.toInt32), (.int b2.toInt32)]) :: (a34, Own.ArrC Z .int [(iI 0), (iI 0), (iI 0)]) :: (a40, PSo Z (.ref ot43) (.ref owd46) (.ref osh47) (.ref obt48) (iI 1) (.ref opk49) (.ref osd50) (iI 1)) :: (opk49, Own.ArrC Z .long [(.long (pkA (fBuf q3 (0 : Int32) W0) (fBuf q4 (0 : Int32) W1) (fBuf q5 (0 : Int32) W2) 0 (0 + b0) (0 + b0 + b1)))]) :: (ot43, STo Z (.ref ra44) (.ref rb45) (.int ((0 : Int32) + (1 : Int32)))) :: (ra44, Own.ArrC Z .long SM1) :: (rb45, Own.ArrC Z .int (TB1.map Value.int)) :: (a10, Own.ArrC Z .int [(.int (fBuf q3 (0 : Int32) W0)), (.int (fBuf q4 (0 : Int32) W1)), (.int (fBuf q5 (0 : Int32) W2))]) :: (a1, Own.ArrC Z .int [(.int W0), (.int W1), (.int W2)]) :: (a37, Own.ArrC Z .int [(iI 0), (iI 0), (iI 0)]) :: (a19, Own.ArrC Z .int [(.int (fBuf q3 (32 : Int32) W0)), (.int (fBuf q4 (32 : Int32) W1)), (.int (fBuf q5 (32 : Int32) W2))]) :: []) := O71.pick 6 rfl
      have O73 : Own.Owns n0 h64 ((a40, PSo Z (.ref ot43) (.ref owd46) (.ref osh47) (.ref obt48) (iI 1) (.ref opk49) (.ref osd50) (iI 1)) :: (osd50, Own.ArrC Z .long SL1) :: (owd46, Own.ArrC Z .int [(iI 0), (iI 0), (iI 0)]) :: (osh47, Own.ArrC Z .int [(.int (0 : Nat).toInt32), (.int (0 + b0).toInt32), (.int (0 + b0 + b1).toInt32)]) :: (obt48, Own.ArrC Z .int [(.int b0.toInt32), (.int b1.toInt32), (.int b2.toInt32)]) :: (a34, Own.ArrC Z .int [(iI 0), (iI 0), (iI 0)]) :: (opk49, Own.ArrC Z .long [(.long (pkA (fBuf q3 (0 : Int32) W0) (fBuf q4 (0 : Int32) W1) (fBuf q5 (0 : Int32) W2) 0 (0 + b0) (0 + b0 + b1)))]) :: (ot43, STo Z (.ref ra44) (.ref rb45) (.int ((0 : Int32) + (1 : Int32)))) :: (ra44, Own.ArrC Z .long SM1) :: (rb45, Own.ArrC Z .int (TB1.map Value.int)) :: (a10, Own.ArrC Z .int [(.int (fBuf q3 (0 : Int32) W0)), (.int (fBuf q4 (0 : Int32) W1)), (.int (fBuf q5 (0 : Int32) W2))]) :: (a1, Own.ArrC Z .int [(.int W0), (.int W1), (.int W2)]) :: (a37, Own.ArrC Z .int [(iI 0), (iI 0), (iI 0)]) :: (a19, Own.ArrC Z .int [(.int (fBuf q3 (32 : Int32) W0)), (.int (fBuf q4 (32 : Int32) W1)), (.int (fBuf q5 (32 : Int32) W2))]) :: []) := O72.pick 5 rfl
      refine Own.callV hx hZ hown (O73.exa (i := 0) rfl) (hw _ (wm 95 rfl)) (hw _ (wm 96 rfl)) (hw _ (wm 98 rfl)) (hw _ (wm 97 rfl)) (hw _ (wm 11 rfl)) (hw _ (wm 99 rfl)) (by decide) pd12 (argsL := [(.int (0 : Int32)), (.ref a34)]) (rest := []) rfl (W := 0) (Nat.le_of_eq rfl) (rm := ({ frames := 0, cells := 0, slots := 0, locals := 0 } : Room)) (by decide) (by decide) (by decide) (by decide) (k' := 14) (n' := 2148) rfl rfl (by rw [hml]; rfl) [(.ref a34), (.int (0 : Int32)), (.ref a40)] rfl (hb hby at_202) (pc' := 205) rfl (rm16_10 l Z a0 hw a40 a34 h64 n0 ot43 ra44 rb45 owd46 osh47 obt48 opk49 osd50 (1 : Int32) 0 (0 + b0) (0 + b0 + b1) b0 b1 b2 SL1 (pkA (fBuf q3 (0 : Int32) W0) (fBuf q4 (0 : Int32) W1) (fBuf q5 (0 : Int32) W2) 0 (0 + b0) (0 + b0 + b1)) hU10 ((opk49, Own.ArrC Z .long [(.long (pkA (fBuf q3 (0 : Int32) W0) (fBuf q4 (0 : Int32) W1) (fBuf q5 (0 : Int32) W2) 0 (0 + b0) (0 + b0 + b1)))]) :: (ot43, STo Z (.ref ra44) (.ref rb45) (.int ((0 : Int32) + (1 : Int32)))) :: (ra44, Own.ArrC Z .long SM1) :: (rb45, Own.ArrC Z .int (TB1.map Value.int)) :: (a10, Own.ArrC Z .int [(.int (fBuf q3 (0 : Int32) W0)), (.int (fBuf q4 (0 : Int32) W1)), (.int (fBuf q5 (0 : Int32) W2))]) :: (a1, Own.ArrC Z .int [(.int W0), (.int W1), (.int W2)]) :: (a37, Own.ArrC Z .int [(iI 0), (iI 0), (iI 0)]) :: (a19, Own.ArrC Z .int [(.int (fBuf q3 (32 : Int32) W0)), (.int (fBuf q4 (32 : Int32) W1)), (.int (fBuf q5 (32 : Int32) W2))]) :: []) O73) ?_
      rintro _ h74 ⟨rfl, O75⟩
      show Own.Goes _ _ _ _ _ _ _ _ _ _ _ _ _ _ _ _ _ (mkF m 205 #[.val (.int p0), .val (.int p1), .val (.int p2), .val (.long q3), .second, .val (.long q4), .second, .val (.long q5), .second, .val (.int W0), .val (.int W1), .val (.int W2), .val (.ref a1), .val (.ref a10), .val (.ref a19), .val (.int (1 : Int32)), .val (.ref a34), .val (.ref a37), .val (.ref a40)] [])
      refine Own.aload hx (.ref a40) (hb hby at_205) rfl rfl rfl ?_
      refine Own.iload hx (1 : Int32) (hb hby at_207) rfl rfl ?_
      have hc76 : ¬ ((1 : Int32) = (0 : Int32)) := by decide
      refine Own.ifF hx (Own.z_eq (1 : Int32)) (hb hby at_209) (pcN := 212) rfl (by decide) (pcT := 216) rfl (fun q => absurd q hc76) (fun _ => ?_)
      refine Own.iconst hx (0 : Int32) (hb hby at_212) rfl (by decide) ?_
      refine Own.goto hx (hb hby at_213) (by decide) (pc' := 217) rfl ?_
      refine Own.aload hx (.ref a37) (hb hby at_217) rfl rfl rfl ?_
      have O78 : Own.Owns n0 h74 ((a37, Own.ArrC Z .int [(iI 0), (iI 0), (iI 0)]) :: (a40, PSo Z (.ref ot43) (.ref owd46) (.ref osh47) (.ref obt48) (iI 1) (.ref opk49) (.ref osd50) (iI 1)) :: (osd50, Own.ArrC Z .long SL1) :: (owd46, Own.ArrC Z .int [(iI 0), (iI 0), (iI 0)]) :: (osh47, Own.ArrC Z .int [(.int (0 : Nat).toInt32), (.int (0 + b0).toInt32), (.int (0 + b0 + b1).toInt32)]) :: (obt48, Own.ArrC Z .int [(.int b0.toInt32), (.int b1.toInt32), (.int b2.toInt32)]) :: (a34, Own.ArrC Z .int [(.int (rdx (pkA (fBuf q3 (0 : Int32) W0) (fBuf q4 (0 : Int32) W1) (fBuf q5 (0 : Int32) W2) 0 (0 + b0) (0 + b0 + b1)) 0 b0)), (.int (rdx (pkA (fBuf q3 (0 : Int32) W0) (fBuf q4 (0 : Int32) W1) (fBuf q5 (0 : Int32) W2) 0 (0 + b0) (0 + b0 + b1)) (0 + b0) b1)), (.int (rdx (pkA (fBuf q3 (0 : Int32) W0) (fBuf q4 (0 : Int32) W1) (fBuf q5 (0 : Int32) W2) 0 (0 + b0) (0 + b0 + b1)) (0 + b0 + b1) b2))]) :: (opk49, Own.ArrC Z .long [(.long (pkA (fBuf q3 (0 : Int32) W0) (fBuf q4 (0 : Int32) W1) (fBuf q5 (0 : Int32) W2) 0 (0 + b0) (0 + b0 + b1)))]) :: (ot43, STo Z (.ref ra44) (.ref rb45) (.int ((0 : Int32) + (1 : Int32)))) :: (ra44, Own.ArrC Z .long SM1) :: (rb45, Own.ArrC Z .int (TB1.map Value.int)) :: (a10, Own.ArrC Z .int [(.int (fBuf q3 (0 : Int32) W0)), (.int (fBuf q4 (0 : Int32) W1)), (.int (fBuf q5 (0 : Int32) W2))]) :: (a1, Own.ArrC Z .int [(.int W0), (.int W1), (.int W2)]) :: (a19, Own.ArrC Z .int [(.int (fBuf q3 (32 : Int32) W0)), (.int (fBuf q4 (32 : Int32) W1)), (.int (fBuf q5 (32 : Int32) W2))]) :: []) := O75.pick 12 rfl
      have O79 : Own.Owns n0 h74 ((obt48, Own.ArrC Z .int [(.int b0.toInt32), (.int b1.toInt32), (.int b2.toInt32)]) :: (a37, Own.ArrC Z .int [(iI 0), (iI 0), (iI 0)]) :: (a40, PSo Z (.ref ot43) (.ref owd46) (.ref osh47) (.ref obt48) (iI 1) (.ref opk49) (.ref osd50) (iI 1)) :: (osd50, Own.ArrC Z .long SL1) :: (owd46, Own.ArrC Z .int [(iI 0), (iI 0), (iI 0)]) :: (osh47, Own.ArrC Z .int [(.int (0 : Nat).toInt32), (.int (0 + b0).toInt32), (.int (0 + b0 + b1).toInt32)]) :: (a34, Own.ArrC Z .int [(.int (rdx (pkA (fBuf q3 (0 : Int32) W0) (fBuf q4 (0 : Int32) W1) (fBuf q5 (0 : Int32) W2) 0 (0 + b0) (0 + b0 + b1)) 0 b0)), (.int (rdx (pkA (fBuf q3 (0 : Int32) W0) (fBuf q4 (0 : Int32) W1) (fBuf q5 (0 : Int32) W2) 0 (0 + b0) (0 + b0 + b1)) (0 + b0) b1)), (.int (rdx (pkA (fBuf q3 (0 : Int32) W0) (fBuf q4 (0 : Int32) W1) (fBuf q5 (0 : Int32) W2) 0 (0 + b0) (0 + b0 + b1)) (0 + b0 + b1) b2))]) :: (opk49, Own.ArrC Z .long [(.long (pkA (fBuf q3 (0 : Int32) W0) (fBuf q4 (0 : Int32) W1) (fBuf q5 (0 : Int32) W2) 0 (0 + b0) (0 + b0 + b1)))]) :: (ot43, STo Z (.ref ra44) (.ref rb45) (.int ((0 : Int32) + (1 : Int32)))) :: (ra44, Own.ArrC Z .long SM1) :: (rb45, Own.ArrC Z .int (TB1.map Value.int)) :: (a10, Own.ArrC Z .int [(.int (fBuf q3 (0 : Int32) W0)), (.int (fBuf q4 (0 : Int32) W1)), (.int (fBuf q5 (0 : Int32) W2))]) :: (a1, Own.ArrC Z .int [(.int W0), (.int W1), (.int W2)]) :: (a19, Own.ArrC Z .int [(.int (fBuf q3 (32 : Int32) W0)), (.int (fBuf q4 (32 : Int32) W1)), (.int (fBuf q5 (32 : Int32) W2))]) :: []) := O78.pick 5 rfl
      have O80 : Own.Owns n0 h74 ((osh47, Own.ArrC Z .int [(.int (0 : Nat).toInt32), (.int (0 + b0).toInt32), (.int (0 + b0 + b1).toInt32)]) :: (obt48, Own.ArrC Z .int [(.int b0.toInt32), (.int b1.toInt32), (.int b2.toInt32)]) :: (a37, Own.ArrC Z .int [(iI 0), (iI 0), (iI 0)]) :: (a40, PSo Z (.ref ot43) (.ref owd46) (.ref osh47) (.ref obt48) (iI 1) (.ref opk49) (.ref osd50) (iI 1)) :: (osd50, Own.ArrC Z .long SL1) :: (owd46, Own.ArrC Z .int [(iI 0), (iI 0), (iI 0)]) :: (a34, Own.ArrC Z .int [(.int (rdx (pkA (fBuf q3 (0 : Int32) W0) (fBuf q4 (0 : Int32) W1) (fBuf q5 (0 : Int32) W2) 0 (0 + b0) (0 + b0 + b1)) 0 b0)), (.int (rdx (pkA (fBuf q3 (0 : Int32) W0) (fBuf q4 (0 : Int32) W1) (fBuf q5 (0 : Int32) W2) 0 (0 + b0) (0 + b0 + b1)) (0 + b0) b1)), (.int (rdx (pkA (fBuf q3 (0 : Int32) W0) (fBuf q4 (0 : Int32) W1) (fBuf q5 (0 : Int32) W2) 0 (0 + b0) (0 + b0 + b1)) (0 + b0 + b1) b2))]) :: (opk49, Own.ArrC Z .long [(.long (pkA (fBuf q3 (0 : Int32) W0) (fBuf q4 (0 : Int32) W1) (fBuf q5 (0 : Int32) W2) 0 (0 + b0) (0 + b0 + b1)))]) :: (ot43, STo Z (.ref ra44) (.ref rb45) (.int ((0 : Int32) + (1 : Int32)))) :: (ra44, Own.ArrC Z .long SM1) :: (rb45, Own.ArrC Z .int (TB1.map Value.int)) :: (a10, Own.ArrC Z .int [(.int (fBuf q3 (0 : Int32) W0)), (.int (fBuf q4 (0 : Int32) W1)), (.int (fBuf q5 (0 : Int32) W2))]) :: (a1, Own.ArrC Z .int [(.int W0), (.int W1), (.int W2)]) :: (a19, Own.ArrC Z .int [(.int (fBuf q3 (32 : Int32) W0)), (.int (fBuf q4 (32 : Int32) W1)), (.int (fBuf q5 (32 : Int32) W2))]) :: []) := O79.pick 5 rfl
      have O81 : Own.Owns n0 h74 ((owd46, Own.ArrC Z .int [(iI 0), (iI 0), (iI 0)]) :: (osh47, Own.ArrC Z .int [(.int (0 : Nat).toInt32), (.int (0 + b0).toInt32), (.int (0 + b0 + b1).toInt32)]) :: (obt48, Own.ArrC Z .int [(.int b0.toInt32), (.int b1.toInt32), (.int b2.toInt32)]) :: (a37, Own.ArrC Z .int [(iI 0), (iI 0), (iI 0)]) :: (a40, PSo Z (.ref ot43) (.ref owd46) (.ref osh47) (.ref obt48) (iI 1) (.ref opk49) (.ref osd50) (iI 1)) :: (osd50, Own.ArrC Z .long SL1) :: (a34, Own.ArrC Z .int [(.int (rdx (pkA (fBuf q3 (0 : Int32) W0) (fBuf q4 (0 : Int32) W1) (fBuf q5 (0 : Int32) W2) 0 (0 + b0) (0 + b0 + b1)) 0 b0)), (.int (rdx (pkA (fBuf q3 (0 : Int32) W0) (fBuf q4 (0 : Int32) W1) (fBuf q5 (0 : Int32) W2) 0 (0 + b0) (0 + b0 + b1)) (0 + b0) b1)), (.int (rdx (pkA (fBuf q3 (0 : Int32) W0) (fBuf q4 (0 : Int32) W1) (fBuf q5 (0 : Int32) W2) 0 (0 + b0) (0 + b0 + b1)) (0 + b0 + b1) b2))]) :: (opk49, Own.ArrC Z .long [(.long (pkA (fBuf q3 (0 : Int32) W0) (fBuf q4 (0 : Int32) W1) (fBuf q5 (0 : Int32) W2) 0 (0 + b0) (0 + b0 + b1)))]) :: (ot43, STo Z (.ref ra44) (.ref rb45) (.int ((0 : Int32) + (1 : Int32)))) :: (ra44, Own.ArrC Z .long SM1) :: (rb45, Own.ArrC Z .int (TB1.map Value.int)) :: (a10, Own.ArrC Z .int [(.int (fBuf q3 (0 : Int32) W0)), (.int (fBuf q4 (0 : Int32) W1)), (.int (fBuf q5 (0 : Int32) W2))]) :: (a1, Own.ArrC Z .int [(.int W0), (.int W1), (.int W2)]) :: (a19, Own.ArrC Z .int [(.int (fBuf q3 (32 : Int32) W0)), (.int (fBuf q4 (32 : Int32) W1)), (.int (fBuf q5 (32 : Int32) W2))]) :: []) := O80.pick 5 rfl
      have O82 : Own.Owns n0 h74 ((osd50, Own.ArrC Z .long SL1) :: (owd46, Own.ArrC Z .int [(iI 0), (iI 0), (iI 0)]) :: (osh47, Own.ArrC Z .int [(.int (0 : Nat).toInt32), (.int (0 + b0).toInt32), (.int (0 + b0 + b1).toInt32)]) :: (obt48, Own.ArrC Z .int [(.int b0.toInt32), (.int b1.toInt32), (.int b2.toInt32)]) :: (a37, Own.ArrC Z .int [(iI 0), (iI 0), (iI 0)]) :: (a40, PSo Z (.ref ot43) (.ref owd46) (.ref osh47) (.ref obt48) (iI 1) (.ref opk49) (.ref osd50) (iI 1)) :: (a34, Own.ArrC Z .int [(.int (rdx (pkA (fBuf q3 (0 : Int32) W0) (fBuf q4 (0 : Int32) W1) (fBuf q5 (0 : Int32) W2) 0 (0 + b0) (0 + b0 + b1)) 0 b0)), (.int (rdx (pkA (fBuf q3 (0 : Int32) W0) (fBuf q4 (0 : Int32) W1) (fBuf q5 (0 : Int32) W2) 0 (0 + b0) (0 + b0 + b1)) (0 + b0) b1)), (.int (rdx (pkA (fBuf q3 (0 : Int32) W0) (fBuf q4 (0 : Int32) W1) (fBuf q5 (0 : Int32) W2) 0 (0 + b0) (0 + b0 + b1)) (0 + b0 + b1) b2))]) :: (opk49, Own.ArrC Z .long [(.long (pkA (fBuf q3 (0 : Int32) W0) (fBuf q4 (0 : Int32) W1) (fBuf q5 (0 : Int32) W2) 0 (0 + b0) (0 + b0 + b1)))]) :: (ot43, STo Z (.ref ra44) (.ref rb45) (.int ((0 : Int32) + (1 : Int32)))) :: (ra44, Own.ArrC Z .long SM1) :: (rb45, Own.ArrC Z .int (TB1.map Value.int)) :: (a10, Own.ArrC Z .int [(.int (fBuf q3 (0 : Int32) W0)), (.int (fBuf q4 (0 : Int32) W1)), (.int (fBuf q5 (0 : Int32) W2))]) :: (a1, Own.ArrC Z .int [(.int W0), (.int W1), (.int W2)]) :: (a19, Own.ArrC Z .int [(.int (fBuf q3 (32 : Int32) W0)), (.int (fBuf q4 (32 : Int32) W1)), (.int (fBuf q5 (32 : Int32) W2))]) :: []) := O81.pick 5 rfl
      have O83 : Own.Owns n0 h74 ((a40, PSo Z (.ref ot43) (.ref owd46) (.ref osh47) (.ref obt48) (iI 1) (.ref opk49) (.ref osd50) (iI 1)) :: (osd50, Own.ArrC Z .long SL1) :: (owd46, Own.ArrC Z .int [(iI 0), (iI 0), (iI 0)]) :: (osh47, Own.ArrC Z .int [(.int (0 : Nat).toInt32), (.int (0 + b0).toInt32), (.int (0 + b0 + b1).toInt32)]) :: (obt48, Own.ArrC Z .int [(.int b0.toInt32), (.int b1.toInt32), (.int b2.toInt32)]) :: (a37, Own.ArrC Z .int [(iI 0), (iI 0), (iI 0)]) :: (a34, Own.ArrC Z .int [(.int (rdx (pkA (fBuf q3 (0 : Int32) W0) (fBuf q4 (0 : Int32) W1) (fBuf q5 (0 : Int32) W2) 0 (0 + b0) (0 + b0 + b1)) 0 b0)), (.int (rdx (pkA (fBuf q3 (0 : Int32) W0) (fBuf q4 (0 : Int32) W1) (fBuf q5 (0 : Int32) W2) 0 (0 + b0) (0 + b0 + b1)) (0 + b0) b1)), (.int (rdx (pkA (fBuf q3 (0 : Int32) W0) (fBuf q4 (0 : Int32) W1) (fBuf q5 (0 : Int32) W2) 0 (0 + b0) (0 + b0 + b1)) (0 + b0 + b1) b2))]) :: (opk49, Own.ArrC Z .long [(.long (pkA (fBuf q3 (0 : Int32) W0) (fBuf q4 (0 : Int32) W1) (fBuf q5 (0 : Int32) W2) 0 (0 + b0) (0 + b0 + b1)))]) :: (ot43, STo Z (.ref ra44) (.ref rb45) (.int ((0 : Int32) + (1 : Int32)))) :: (ra44, Own.ArrC Z .long SM1) :: (rb45, Own.ArrC Z .int (TB1.map Value.int)) :: (a10, Own.ArrC Z .int [(.int (fBuf q3 (0 : Int32) W0)), (.int (fBuf q4 (0 : Int32) W1)), (.int (fBuf q5 (0 : Int32) W2))]) :: (a1, Own.ArrC Z .int [(.int W0), (.int W1), (.int W2)]) :: (a19, Own.ArrC Z .int [(.int (fBuf q3 (32 : Int32) W0)), (.int (fBuf q4 (32 : Int32) W1)), (.int (fBuf q5 (32 : Int32) W2))]) :: []) := O82.pick 5 rfl
      refine Own.callV hx hZ hown (O83.exa (i := 0) rfl) (hw _ (wm 95 rfl)) (hw _ (wm 96 rfl)) (hw _ (wm 98 rfl)) (hw _ (wm 97 rfl)) (hw _ (wm 11 rfl)) (hw _ (wm 99 rfl)) (by decide) pd12 (argsL := [(.int (0 : Int32)), (.ref a37)]) (rest := []) rfl (W := 0) (Nat.le_of_eq rfl) (rm := ({ frames := 0, cells := 0, slots := 0, locals := 0 } : Room)) (by decide) (by decide) (by decide) (by decide) (k' := 14) (n' := 2148) rfl rfl (by rw [hml]; rfl) [(.ref a37), (.int (0 : Int32)), (.ref a40)] rfl (hb hby at_219) (pc' := 222) rfl (rm16_10 l Z a0 hw a40 a37 h74 n0 ot43 ra44 rb45 owd46 osh47 obt48 opk49 osd50 (1 : Int32) 0 (0 + b0) (0 + b0 + b1) b0 b1 b2 SL1 (pkA (fBuf q3 (0 : Int32) W0) (fBuf q4 (0 : Int32) W1) (fBuf q5 (0 : Int32) W2) 0 (0 + b0) (0 + b0 + b1)) hU10 ((a34, Own.ArrC Z .int [(.int (rdx (pkA (fBuf q3 (0 : Int32) W0) (fBuf q4 (0 : Int32) W1) (fBuf q5 (0 : Int32) W2) 0 (0 + b0) (0 + b0 + b1)) 0 b0)), (.int (rdx (pkA (fBuf q3 (0 : Int32) W0) (fBuf q4 (0 : Int32) W1) (fBuf q5 (0 : Int32) W2) 0 (0 + b0) (0 + b0 + b1)) (0 + b0) b1)), (.int (rdx (pkA (fBuf q3 (0 : Int32) W0) (fBuf q4 (0 : Int32) W1) (fBuf q5 (0 : Int32) W2) 0 (0 + b0) (0 + b0 + b1)) (0 + b0 + b1) b2))]) :: (opk49, Own.ArrC Z .long [(.long (pkA (fBuf q3 (0 : Int32) W0) (fBuf q4 (0 : Int32) W1) (fBuf q5 (0 : Int32) W2) 0 (0 + b0) (0 + b0 + b1)))]) :: (ot43, STo Z (.ref ra44) (.ref rb45) (.int ((0 : Int32) + (1 : Int32)))) :: (ra44, Own.ArrC Z .long SM1) :: (rb45, Own.ArrC Z .int (TB1.map Value.int)) :: (a10, Own.ArrC Z .int [(.int (fBuf q3 (0 : Int32) W0)), (.int (fBuf q4 (0 : Int32) W1)), (.int (fBuf q5 (0 : Int32) W2))]) :: (a1, Own.ArrC Z .int [(.int W0), (.int W1), (.int W2)]) :: (a19, Own.ArrC Z .int [(.int (fBuf q3 (32 : Int32) W0)), (.int (fBuf q4 (32 : Int32) W1)), (.int (fBuf q5 (32 : Int32) W2))]) :: []) O83) ?_
      rintro _ h84 ⟨rfl, O85⟩
      show Own.Goes _ _ _ _ _ _ _ _ _ _ _ _ _ _ _ _ _ (mkF m 222 #[.val (.int p0), .val (.int p1), .val (.int p2), .val (.long q3), .second, .val (.long q4), .second, .val (.long q5), .second, .val (.int W0), .val (.int W1), .val (.int W2), .val (.ref a1), .val (.ref a10), .val (.ref a19), .val (.int (1 : Int32)), .val (.ref a34), .val (.ref a37), .val (.ref a40)] [])
      refine Own.aload hx (.ref a34) (hb hby at_222) rfl rfl rfl ?_
      refine Own.iconst hx (0 : Int32) (hb hby at_224) rfl (by decide) ?_
      refine Own.iaload hx hZ O85 6 0 rfl (by decide) (v := (.int (rdx (pkA (fBuf q3 (0 : Int32) W0) (fBuf q4 (0 : Int32) W1) (fBuf q5 (0 : Int32) W2) 0 (0 + b0) (0 + b0 + b1)) 0 b0))) rfl (hb hby at_225) rfl ?_
      refine Own.aload hx (.ref a10) (hb hby at_226) rfl rfl rfl ?_
      refine Own.iconst hx (0 : Int32) (hb hby at_228) rfl (by decide) ?_
      refine Own.iaload hx hZ O85 11 0 rfl (by decide) (v := (.int (fBuf q3 (0 : Int32) W0))) rfl (hb hby at_229) rfl ?_
      have hc86 : (rdx (pkA (fBuf q3 (0 : Int32) W0) (fBuf q4 (0 : Int32) W1) (fBuf q5 (0 : Int32) W2) 0 (0 + b0) (0 + b0 + b1)) 0 b0) = (fBuf q3 (0 : Int32) W0) := K1.1
      refine Own.icmpFn hx (Own.q_ne (rdx (pkA (fBuf q3 (0 : Int32) W0) (fBuf q4 (0 : Int32) W1) (fBuf q5 (0 : Int32) W2) 0 (0 + b0) (0 + b0 + b1)) 0 b0) (fBuf q3 (0 : Int32) W0)) (hb hby at_230) (pcN := 233) rfl (by decide) (pcT := 292) rfl (fun q => absurd hc86 q) (fun _ => ?_)
      refine Own.aload hx (.ref a34) (hb hby at_233) rfl rfl rfl ?_
      refine Own.iconst hx (1 : Int32) (hb hby at_235) rfl (by decide) ?_
      refine Own.iaload hx hZ O85 6 1 rfl (by decide) (v := (.int (rdx (pkA (fBuf q3 (0 : Int32) W0) (fBuf q4 (0 : Int32) W1) (fBuf q5 (0 : Int32) W2) 0 (0 + b0) (0 + b0 + b1)) (0 + b0) b1))) rfl (hb hby at_236) rfl ?_
      refine Own.aload hx (.ref a10) (hb hby at_237) rfl rfl rfl ?_
      refine Own.iconst hx (1 : Int32) (hb hby at_239) rfl (by decide) ?_
      refine Own.iaload hx hZ O85 11 1 rfl (by decide) (v := (.int (fBuf q4 (0 : Int32) W1))) rfl (hb hby at_240) rfl ?_
      have hc88 : (rdx (pkA (fBuf q3 (0 : Int32) W0) (fBuf q4 (0 : Int32) W1) (fBuf q5 (0 : Int32) W2) 0 (0 + b0) (0 + b0 + b1)) (0 + b0) b1) = (fBuf q4 (0 : Int32) W1) := K1.2.1
      refine Own.icmpFn hx (Own.q_ne (rdx (pkA (fBuf q3 (0 : Int32) W0) (fBuf q4 (0 : Int32) W1) (fBuf q5 (0 : Int32) W2) 0 (0 + b0) (0 + b0 + b1)) (0 + b0) b1) (fBuf q4 (0 : Int32) W1)) (hb hby at_241) (pcN := 244) rfl (by decide) (pcT := 292) rfl (fun q => absurd hc88 q) (fun _ => ?_)
      refine Own.aload hx (.ref a34) (hb hby at_244) rfl rfl rfl ?_
      refine Own.iconst hx (2 : Int32) (hb hby at_246) rfl (by decide) ?_
      refine Own.iaload hx hZ O85 6 2 rfl (by decide) (v := (.int (rdx (pkA (fBuf q3 (0 : Int32) W0) (fBuf q4 (0 : Int32) W1) (fBuf q5 (0 : Int32) W2) 0 (0 + b0) (0 + b0 + b1)) (0 + b0 + b1) b2))) rfl (hb hby at_247) rfl ?_
      refine Own.aload hx (.ref a10) (hb hby at_248) rfl rfl rfl ?_
      refine Own.iconst hx (2 : Int32) (hb hby at_250) rfl (by decide) ?_
      refine Own.iaload hx hZ O85 11 2 rfl (by decide) (v := (.int (fBuf q5 (0 : Int32) W2))) rfl (hb hby at_251) rfl ?_
      have hc90 : (rdx (pkA (fBuf q3 (0 : Int32) W0) (fBuf q4 (0 : Int32) W1) (fBuf q5 (0 : Int32) W2) 0 (0 + b0) (0 + b0 + b1)) (0 + b0 + b1) b2) = (fBuf q5 (0 : Int32) W2) := K1.2.2
      refine Own.icmpFn hx (Own.q_ne (rdx (pkA (fBuf q3 (0 : Int32) W0) (fBuf q4 (0 : Int32) W1) (fBuf q5 (0 : Int32) W2) 0 (0 + b0) (0 + b0 + b1)) (0 + b0 + b1) b2) (fBuf q5 (0 : Int32) W2)) (hb hby at_252) (pcN := 255) rfl (by decide) (pcT := 292) rfl (fun q => absurd hc90 q) (fun _ => ?_)
      refine Own.aload hx (.ref a37) (hb hby at_255) rfl rfl rfl ?_
      refine Own.iconst hx (0 : Int32) (hb hby at_257) rfl (by decide) ?_
      refine Own.iaload hx hZ O85 5 0 rfl (by decide) (v := (.int (rdx (pkA (fBuf q3 (0 : Int32) W0) (fBuf q4 (0 : Int32) W1) (fBuf q5 (0 : Int32) W2) 0 (0 + b0) (0 + b0 + b1)) 0 b0))) rfl (hb hby at_258) rfl ?_
      refine Own.aload hx (.ref a19) (hb hby at_259) rfl rfl rfl ?_
      refine Own.iconst hx (0 : Int32) (hb hby at_261) rfl (by decide) ?_
      refine Own.iaload hx hZ O85 13 0 rfl (by decide) (v := (.int (fBuf q3 (32 : Int32) W0))) rfl (hb hby at_262) rfl ?_
      have hc92 : (rdx (pkA (fBuf q3 (0 : Int32) W0) (fBuf q4 (0 : Int32) W1) (fBuf q5 (0 : Int32) W2) 0 (0 + b0) (0 + b0 + b1)) 0 b0) = (fBuf q3 (32 : Int32) W0) := K1.1.trans E0
      refine Own.icmpFn hx (Own.q_ne (rdx (pkA (fBuf q3 (0 : Int32) W0) (fBuf q4 (0 : Int32) W1) (fBuf q5 (0 : Int32) W2) 0 (0 + b0) (0 + b0 + b1)) 0 b0) (fBuf q3 (32 : Int32) W0)) (hb hby at_263) (pcN := 266) rfl (by decide) (pcT := 292) rfl (fun q => absurd hc92 q) (fun _ => ?_)
      refine Own.aload hx (.ref a37) (hb hby at_266) rfl rfl rfl ?_
      refine Own.iconst hx (1 : Int32) (hb hby at_268) rfl (by decide) ?_
      refine Own.iaload hx hZ O85 5 1 rfl (by decide) (v := (.int (rdx (pkA (fBuf q3 (0 : Int32) W0) (fBuf q4 (0 : Int32) W1) (fBuf q5 (0 : Int32) W2) 0 (0 + b0) (0 + b0 + b1)) (0 + b0) b1))) rfl (hb hby at_269) rfl ?_
      refine Own.aload hx (.ref a19) (hb hby at_270) rfl rfl rfl ?_
      refine Own.iconst hx (1 : Int32) (hb hby at_272) rfl (by decide) ?_
      refine Own.iaload hx hZ O85 13 1 rfl (by decide) (v := (.int (fBuf q4 (32 : Int32) W1))) rfl (hb hby at_273) rfl ?_
      have hc94 : (rdx (pkA (fBuf q3 (0 : Int32) W0) (fBuf q4 (0 : Int32) W1) (fBuf q5 (0 : Int32) W2) 0 (0 + b0) (0 + b0 + b1)) (0 + b0) b1) = (fBuf q4 (32 : Int32) W1) := K1.2.1.trans E1
      refine Own.icmpFn hx (Own.q_ne (rdx (pkA (fBuf q3 (0 : Int32) W0) (fBuf q4 (0 : Int32) W1) (fBuf q5 (0 : Int32) W2) 0 (0 + b0) (0 + b0 + b1)) (0 + b0) b1) (fBuf q4 (32 : Int32) W1)) (hb hby at_274) (pcN := 277) rfl (by decide) (pcT := 292) rfl (fun q => absurd hc94 q) (fun _ => ?_)
      refine Own.aload hx (.ref a37) (hb hby at_277) rfl rfl rfl ?_
      refine Own.iconst hx (2 : Int32) (hb hby at_279) rfl (by decide) ?_
      refine Own.iaload hx hZ O85 5 2 rfl (by decide) (v := (.int (rdx (pkA (fBuf q3 (0 : Int32) W0) (fBuf q4 (0 : Int32) W1) (fBuf q5 (0 : Int32) W2) 0 (0 + b0) (0 + b0 + b1)) (0 + b0 + b1) b2))) rfl (hb hby at_280) rfl ?_
      refine Own.aload hx (.ref a19) (hb hby at_281) rfl rfl rfl ?_
      refine Own.iconst hx (2 : Int32) (hb hby at_283) rfl (by decide) ?_
      refine Own.iaload hx hZ O85 13 2 rfl (by decide) (v := (.int (fBuf q5 (32 : Int32) W2))) rfl (hb hby at_284) rfl ?_
      have hc96 : (rdx (pkA (fBuf q3 (0 : Int32) W0) (fBuf q4 (0 : Int32) W1) (fBuf q5 (0 : Int32) W2) 0 (0 + b0) (0 + b0 + b1)) (0 + b0 + b1) b2) = (fBuf q5 (32 : Int32) W2) := K1.2.2.trans E2
      refine Own.icmpFn hx (Own.q_ne (rdx (pkA (fBuf q3 (0 : Int32) W0) (fBuf q4 (0 : Int32) W1) (fBuf q5 (0 : Int32) W2) 0 (0 + b0) (0 + b0 + b1)) (0 + b0 + b1) b2) (fBuf q5 (32 : Int32) W2)) (hb hby at_285) (pcN := 288) rfl (by decide) (pcT := 292) rfl (fun q => absurd hc96 q) (fun _ => ?_)
      refine Own.iconst hx (1 : Int32) (hb hby at_288) rfl (by decide) ?_
      refine Own.goto hx (hb hby at_289) (by decide) (pc' := 293) rfl ?_
      exact Own.retS hx hret (by simp) hlk (hb hby at_293) (by decide) (by decide) (Own.bool1 rfl)
    · have K1 := law2 ey0 ey1 ey2 ly0 ly1 ly2 hb0 hb1 hb2
      have K2 := law2 ez0 ez1 ez2 lz0 lz1 lz2 hb0 hb1 hb2
      refine Own.iconst hx (3 : Int32) (hb hby at_160) rfl (by decide) ?_
      refine Own.newarr hx hZ O36 (aty := .int) (hw _ (wm 5 rfl)) 3 (by decide) [(.int (0 : Int32)), (.int (0 : Int32)), (.int (0 : Int32))] rfl rfl (cap := 3) (by decide) (by decide) (k' := 5) (n' := 15) rfl rfl (by decide) (by decide) (hb hby at_161) (pc' := 163) rfl ?_
      intro a98 h99 O100
      refine Own.astore hx #[.val (.int p0), .val (.int p1), .val (.int p2), .val (.long q3), .second, .val (.long q4), .second, .val (.long q5), .second, .val (.int W0), .val (.int W1), .val (.int W2), .val (.ref a1), .val (.ref a10), .val (.ref a19), .val (.int (1 : Int32)), .val (.ref a34), .val (.ref a98), .unset] (hb hby at_163) rfl rfl rfl ?_
      refine Own.newobj hx hZ hown O100 (hw _ (wm 9 rfl)) (hw _ (wm 10 rfl)) (hw _ (wm 11 rfl)) [(("com/example/cuesheet/cuesheet/core/PackedStates", "table", "Lcom/example/cuesheet/cuesheet/core/StateTable;"), .null), (("com/example/cuesheet/cuesheet/core/PackedStates", "word", "[I"), .null), (("com/example/cuesheet/cuesheet/core/PackedStates", "shift", "[I"), .null), (("com/example/cuesheet/cuesheet/core/PackedStates", "bits", "[I"), .null), (("com/example/cuesheet/cuesheet/core/PackedStates", "words", "I"), (.int (0 : Int32))), (("com/example/cuesheet/cuesheet/core/PackedStates", "packed", "[J"), .null), (("com/example/cuesheet/cuesheet/core/PackedStates", "stored", "[J"), .null), (("com/example/cuesheet/cuesheet/core/PackedStates", "size", "I"), (.int (0 : Int32)))] (by intro f hf; simp only [List.mem_cons, List.not_mem_nil, or_false] at hf; rcases hf with rfl | rfl | rfl | rfl | rfl | rfl | rfl | rfl; exact ⟨Or.inr (hw _ (wm 38 rfl)), (.object "com/example/cuesheet/cuesheet/core/StateTable"), by decide, rfl⟩; exact ⟨Or.inr (hw _ (wm 40 rfl)), (.array .int), by decide, rfl⟩; exact ⟨Or.inr (hw _ (wm 42 rfl)), (.array .int), by decide, rfl⟩; exact ⟨Or.inr (hw _ (wm 44 rfl)), (.array .int), by decide, rfl⟩; exact ⟨Or.inr (hw _ (wm 51 rfl)), .int, by decide, rfl⟩; exact ⟨Or.inr (hw _ (wm 53 rfl)), (.array .long), by decide, rfl⟩; exact ⟨Or.inl (hw _ (wm 55 rfl)), (.array .long), by decide, rfl⟩; exact ⟨Or.inl (hw _ (wm 69 rfl)), .int, by decide, rfl⟩) (by decide) (k' := 6) (n' := 23) rfl rfl (by decide) (by decide) (hb hby at_165) (pc' := 168) rfl ?_
      intro a101 h102 O103
      refine Own.dup hx (hb hby at_168) rfl rfl ?_
      refine Own.aload hx (.ref a1) (hb hby at_169) rfl rfl rfl ?_
      have O112 : Own.Owns n0 h102 ((a1, Own.ArrC Z .int [(.int W0), (.int W1), (.int W2)]) :: (a101, PSo Z .null .null .null .null (iI 0) .null .null (iI 0)) :: (a98, Own.ArrC Z .int [(iI 0), (iI 0), (iI 0)]) :: (a34, Own.ArrC Z .int [(iI 0), (iI 0), (iI 0)]) :: (a19, Own.ArrC Z .int [(.int (fBuf q3 (32 : Int32) W0)), (.int (fBuf q4 (32 : Int32) W1)), (.int (fBuf q5 (32 : Int32) W2))]) :: (a10, Own.ArrC Z .int [(.int (fBuf q3 (0 : Int32) W0)), (.int (fBuf q4 (0 : Int32) W1)), (.int (fBuf q5 (0 : Int32) W2))]) :: []) := O103.pick 5 rfl
      have O113 : Own.Owns n0 h102 ((a101, PSo Z .null .null .null .null (iI 0) .null .null (iI 0)) :: (a1, Own.ArrC Z .int [(.int W0), (.int W1), (.int W2)]) :: (a98, Own.ArrC Z .int [(iI 0), (iI 0), (iI 0)]) :: (a34, Own.ArrC Z .int [(iI 0), (iI 0), (iI 0)]) :: (a19, Own.ArrC Z .int [(.int (fBuf q3 (32 : Int32) W0)), (.int (fBuf q4 (32 : Int32) W1)), (.int (fBuf q5 (32 : Int32) W2))]) :: (a10, Own.ArrC Z .int [(.int (fBuf q3 (0 : Int32) W0)), (.int (fBuf q4 (0 : Int32) W1)), (.int (fBuf q5 (0 : Int32) W2))]) :: []) := O112.pick 1 rfl
      refine Own.callI hx hZ hown rfl (hw _ (wm 12 rfl)) (hw _ (wm 13 rfl)) (hw _ (wm 11 rfl)) (hw _ (wm 14 rfl)) (by decide) pd7 (argsL := [(.ref a1)]) (rest := [(.ref a101)]) rfl (W := 1) (Nat.le_of_eq rfl) (rm := ({ frames := 3, cells := 8, slots := 2190, locals := 43 } : Room)) (by decide) (by decide) (by decide) (by decide) (k' := 14) (n' := 2213) rfl rfl (by rw [hml]; rfl) [(.ref a1), (.ref a101), (.ref a101)] rfl (hb hby at_171) (pc' := 174) rfl (rm3_2 l Z a0 hw a101 a1 h102 n0 W0 W1 W2 b0 b1 b2 hb0 eb0 hb1 eb1 hb2 eb2 hW ((a98, Own.ArrC Z .int [(iI 0), (iI 0), (iI 0)]) :: (a34, Own.ArrC Z .int [(iI 0), (iI 0), (iI 0)]) :: (a19, Own.ArrC Z .int [(.int (fBuf q3 (32 : Int32) W0)), (.int (fBuf q4 (32 : Int32) W1)), (.int (fBuf q5 (32 : Int32) W2))]) :: (a10, Own.ArrC Z .int [(.int (fBuf q3 (0 : Int32) W0)), (.int (fBuf q4 (0 : Int32) W1)), (.int (fBuf q5 (0 : Int32) W2))]) :: []) O113) ?_
      rintro _ h114 ⟨ot104, ra105, rb106, owd107, osh108, obt109, opk110, osd111, rfl, O115⟩
      show Own.Goes _ _ _ _ _ _ _ _ _ _ _ _ _ _ _ _ _ (mkF m 174 #[.val (.int p0), .val (.int p1), .val (.int p2), .val (.long q3), .second, .val (.long q4), .second, .val (.long q5), .second, .val (.int W0), .val (.int W1), .val (.int W2), .val (.ref a1), .val (.ref a10), .val (.ref a19), .val (.int (1 : Int32)), .val (.ref a34), .val (.ref a98), .unset] [(.ref a101)])
      refine Own.astore hx #[.val (.int p0), .val (.int p1), .val (.int p2), .val (.long q3), .second, .val (.long q4), .second, .val (.long q5), .second, .val (.int W0), .val (.int W1), .val (.int W2), .val (.ref a1), .val (.ref a10), .val (.ref a19), .val (.int (1 : Int32)), .val (.ref a34), .val (.ref a98), .val (.ref a101)] (hb hby at_174) rfl rfl rfl ?_
      refine Own.aload hx (.ref a101) (hb hby at_176) rfl rfl rfl ?_
      refine Own.aload hx (.ref a10) (hb hby at_178) rfl rfl rfl ?_
      have O116 : Own.Owns n0 h114 ((a10, Own.ArrC Z .int [(.int (fBuf q3 (0 : Int32) W0)), (.int (fBuf q4 (0 : Int32) W1)), (.int (fBuf q5 (0 : Int32) W2))]) :: (a101, PSo Z (.ref ot104) (.ref owd107) (.ref osh108) (.ref obt109) (iI 2) (.ref opk110) (.ref osd111) (iI 0)) :: (opk110, Own.ArrC Z .long [(jJ 0), (jJ 0)]) :: (owd107, Own.ArrC Z .int [(iI 0), (iI 0), (iI 1)]) :: (osh108, Own.ArrC Z .int [(.int (0 : Nat).toInt32), (.int (0 + b0).toInt32), (.int (0 : Nat).toInt32)]) :: (osd111, Own.ArrC Z .long (List.replicate 128 (Value.long (0 : Int64)))) :: (ot104, STo Z (.ref ra105) (.ref rb106) (iI 0)) :: (ra105, Own.ArrC Z .long (List.replicate 1024 (Value.long (0 : Int64)))) :: (rb106, Own.ArrC Z .int ((fl 1024).map Value.int)) :: (obt109, Own.ArrC Z .int [(.int b0.toInt32), (.int b1.toInt32), (.int b2.toInt32)]) :: (a1, Own.ArrC Z .int [(.int W0), (.int W1), (.int W2)]) :: (a98, Own.ArrC Z .int [(iI 0), (iI 0), (iI 0)]) :: (a34, Own.ArrC Z .int [(iI 0), (iI 0), (iI 0)]) :: (a19, Own.ArrC Z .int [(.int (fBuf q3 (32 : Int32) W0)), (.int (fBuf q4 (32 : Int32) W1)), (.int (fBuf q5 (32 : Int32) W2))]) :: []) := O115.pick 13 rfl
      have O117 : Own.Owns n0 h114 ((rb106, Own.ArrC Z .int ((fl 1024).map Value.int)) :: (a10, Own.ArrC Z .int [(.int (fBuf q3 (0 : Int32) W0)), (.int (fBuf q4 (0 : Int32) W1)), (.int (fBuf q5 (0 : Int32) W2))]) :: (a101, PSo Z (.ref ot104) (.ref owd107) (.ref osh108) (.ref obt109) (iI 2) (.ref opk110) (.ref osd111) (iI 0)) :: (opk110, Own.ArrC Z .long [(jJ 0), (jJ 0)]) :: (owd107, Own.ArrC Z .int [(iI 0), (iI 0), (iI 1)]) :: (osh108, Own.ArrC Z .int [(.int (0 : Nat).toInt32), (.int (0 + b0).toInt32), (.int (0 : Nat).toInt32)]) :: (osd111, Own.ArrC Z .long (List.replicate 128 (Value.long (0 : Int64)))) :: (ot104, STo Z (.ref ra105) (.ref rb106) (iI 0)) :: (ra105, Own.ArrC Z .long (List.replicate 1024 (Value.long (0 : Int64)))) :: (obt109, Own.ArrC Z .int [(.int b0.toInt32), (.int b1.toInt32), (.int b2.toInt32)]) :: (a1, Own.ArrC Z .int [(.int W0), (.int W1), (.int W2)]) :: (a98, Own.ArrC Z .int [(iI 0), (iI 0), (iI 0)]) :: (a34, Own.ArrC Z .int [(iI 0), (iI 0), (iI 0)]) :: (a19, Own.ArrC Z .int [(.int (fBuf q3 (32 : Int32) W0)), (.int (fBuf q4 (32 : Int32) W1)), (.int (fBuf q5 (32 : Int32) W2))]) :: []) := O116.pick 8 rfl
      have O118 : Own.Owns n0 h114 ((ra105, Own.ArrC Z .long (List.replicate 1024 (Value.long (0 : Int64)))) :: (rb106, Own.ArrC Z .int ((fl 1024).map Value.int)) :: (a10, Own.ArrC Z .int [(.int (fBuf q3 (0 : Int32) W0)), (.int (fBuf q4 (0 : Int32) W1)), (.int (fBuf q5 (0 : Int32) W2))]) :: (a101, PSo Z (.ref ot104) (.ref owd107) (.ref osh108) (.ref obt109) (iI 2) (.ref opk110) (.ref osd111) (iI 0)) :: (opk110, Own.ArrC Z .long [(jJ 0), (jJ 0)]) :: (owd107, Own.ArrC Z .int [(iI 0), (iI 0), (iI 1)]) :: (osh108, Own.ArrC Z .int [(.int (0 : Nat).toInt32), (.int (0 + b0).toInt32), (.int (0 : Nat).toInt32)]) :: (osd111, Own.ArrC Z .long (List.replicate 128 (Value.long (0 : Int64)))) :: (ot104, STo Z (.ref ra105) (.ref rb106) (iI 0)) :: (obt109, Own.ArrC Z .int [(.int b0.toInt32), (.int b1.toInt32), (.int b2.toInt32)]) :: (a1, Own.ArrC Z .int [(.int W0), (.int W1), (.int W2)]) :: (a98, Own.ArrC Z .int [(iI 0), (iI 0), (iI 0)]) :: (a34, Own.ArrC Z .int [(iI 0), (iI 0), (iI 0)]) :: (a19, Own.ArrC Z .int [(.int (fBuf q3 (32 : Int32) W0)), (.int (fBuf q4 (32 : Int32) W1)), (.int (fBuf q5 (32 : Int32) W2))]) :: []) := O117.pick 8 rfl
      have O119 : Own.Owns n0 h114 ((ot104, STo Z (.ref ra105) (.ref rb106) (iI 0)) :: (ra105, Own.ArrC Z .long (List.replicate 1024 (Value.long (0 : Int64)))) :: (rb106, Own.ArrC Z .int ((fl 1024).map Value.int)) :: (a10, Own.ArrC Z .int [(.int (fBuf q3 (0 : Int32) W0)), (.int (fBuf q4 (0 : Int32) W1)), (.int (fBuf q5 (0 : Int32) W2))]) :: (a101, PSo Z (.ref ot104) (.ref owd107) (.ref osh108) (.ref obt109) (iI 2) (.ref opk110) (.ref osd111) (iI 0)) :: (opk110, Own.ArrC Z .long [(jJ 0), (jJ 0)]) :: (owd107, Own.ArrC Z .int [(iI 0), (iI 0), (iI 1)]) :: (osh108, Own.ArrC Z .int [(.int (0 : Nat).toInt32), (.int (0 + b0).toInt32), (.int (0 : Nat).toInt32)]) :: (osd111, Own.ArrC Z .long (List.replicate 128 (Value.long (0 : Int64)))) :: (obt109, Own.ArrC Z .int [(.int b0.toInt32), (.int b1.toInt32), (.int b2.toInt32)]) :: (a1, Own.ArrC Z .int [(.int W0), (.int W1), (.int W2)]) :: (a98, Own.ArrC Z .int [(iI 0), (iI 0), (iI 0)]) :: (a34, Own.ArrC Z .int [(iI 0), (iI 0), (iI 0)]) :: (a19, Own.ArrC Z .int [(.int (fBuf q3 (32 : Int32) W0)), (.int (fBuf q4 (32 : Int32) W1)), (.int (fBuf q5 (32 : Int32) W2))]) :: []) := O118.pick 8 rfl
      have O120 : Own.Owns n0 h114 ((osd111, Own.ArrC Z .long (List.replicate 128 (Value.long (0 : Int64)))) :: (ot104, STo Z (.ref ra105) (.ref rb106) (iI 0)) :: (ra105, Own.ArrC Z .long (List.replicate 1024 (Value.long (0 : Int64)))) :: (rb106, Own.ArrC Z .int ((fl 1024).map Value.int)) :: (a10, Own.ArrC Z .int [(.int (fBuf q3 (0 : Int32) W0)), (.int (fBuf q4 (0 : Int32) W1)), (.int (fBuf q5 (0 : Int32) W2))]) :: (a101, PSo Z (.ref ot104) (.ref owd107) (.ref osh108) (.ref obt109) (iI 2) (.ref opk110) (.ref osd111) (iI 0)) :: (opk110, Own.ArrC Z .long [(jJ 0), (jJ 0)]) :: (owd107, Own.ArrC Z .int [(iI 0), (iI 0), (iI 1)]) :: (osh108, Own.ArrC Z .int [(.int (0 : Nat).toInt32), (.int (0 + b0).toInt32), (.int (0 : Nat).toInt32)]) :: (obt109, Own.ArrC Z .int [(.int b0.toInt32), (.int b1.toInt32), (.int b2.toInt32)]) :: (a1, Own.ArrC Z .int [(.int W0), (.int W1), (.int W2)]) :: (a98, Own.ArrC Z .int [(iI 0), (iI 0), (iI 0)]) :: (a34, Own.ArrC Z .int [(iI 0), (iI 0), (iI 0)]) :: (a19, Own.ArrC Z .int [(.int (fBuf q3 (32 : Int32) W0)), (.int (fBuf q4 (32 : Int32) W1)), (.int (fBuf q5 (32 : Int32) W2))]) :: []) := O119.pick 8 rfl
      have O121 : Own.Owns n0 h114 ((osh108, Own.ArrC Z .int [(.int (0 : Nat).toInt32), (.int (0 + b0).toInt32), (.int (0 : Nat).toInt32)]) :: (osd111, Own.ArrC Z .long (List.replicate 128 (Value.long (0 : Int64)))) :: (ot104, STo Z (.ref ra105) (.ref rb106) (iI 0)) :: (ra105, Own.ArrC Z .long (List.replicate 1024 (Value.long (0 : Int64)))) :: (rb106, Own.ArrC Z .int ((fl 1024).map Value.int)) :: (a10, Own.ArrC Z .int [(.int (fBuf q3 (0 : Int32) W0)), (.int (fBuf q4 (0 : Int32) W1)), (.int (fBuf q5 (0 : Int32) W2))]) :: (a101, PSo Z (.ref ot104) (.ref owd107) (.ref osh108) (.ref obt109) (iI 2) (.ref opk110) (.ref osd111) (iI 0)) :: (opk110, Own.ArrC Z .long [(jJ 0), (jJ 0)]) :: (owd107, Own.ArrC Z .int [(iI 0), (iI 0), (iI 1)]) :: (obt109, Own.ArrC Z .int [(.int b0.toInt32), (.int b1.toInt32), (.int b2.toInt32)]) :: (a1, Own.ArrC Z .int [(.int W0), (.int W1), (.int W2)]) :: (a98, Own.ArrC Z .int [(iI 0), (iI 0), (iI 0)]) :: (a34, Own.ArrC Z .int [(iI 0), (iI 0), (iI 0)]) :: (a19, Own.ArrC Z .int [(.int (fBuf q3 (32 : Int32) W0)), (.int (fBuf q4 (32 : Int32) W1)), (.int (fBuf q5 (32 : Int32) W2))]) :: []) := O120.pick 8 rfl
      have O122 : Own.Owns n0 h114 ((owd107, Own.ArrC Z .int [(iI 0), (iI 0), (iI 1)]) :: (osh108, Own.ArrC Z .int [(.int (0 : Nat).toInt32), (.int (0 + b0).toInt32), (.int (0 : Nat).toInt32)]) :: (osd111, Own.ArrC Z .long (List.replicate 128 (Value.long (0 : Int64)))) :: (ot104, STo Z (.ref ra105) (.ref rb106) (iI 0)) :: (ra105, Own.ArrC Z .long (List.replicate 1024 (Value.long (0 : Int64)))) :: (rb106, Own.ArrC Z .int ((fl 1024).map Value.int)) :: (a10, Own.ArrC Z .int [(.int (fBuf q3 (0 : Int32) W0)), (.int (fBuf q4 (0 : Int32) W1)), (.int (fBuf q5 (0 : Int32) W2))]) :: (a101, PSo Z (.ref ot104) (.ref owd107) (.ref osh108) (.ref obt109) (iI 2) (.ref opk110) (.ref osd111) (iI 0)) :: (opk110, Own.ArrC Z .long [(jJ 0), (jJ 0)]) :: (obt109, Own.ArrC Z .int [(.int b0.toInt32), (.int b1.toInt32), (.int b2.toInt32)]) :: (a1, Own.ArrC Z .int [(.int W0), (.int W1), (.int W2)]) :: (a98, Own.ArrC Z .int [(iI 0), (iI 0), (iI 0)]) :: (a34, Own.ArrC Z .int [(iI 0), (iI 0), (iI 0)]) :: (a19, Own.ArrC Z .int [(.int (fBuf q3 (32 : Int32) W0)), (.int (fBuf q4 (32 : Int32) W1)), (.int (fBuf q5 (32 : Int32) W2))]) :: []) := O121.pick 8 rfl
      have O123 : Own.Owns n0 h114 ((opk110, Own.ArrC Z .long [(jJ 0), (jJ 0)]) :: (owd107, Own.ArrC Z .int [(iI 0), (iI 0), (iI 1)]) :: (osh108, Own.ArrC Z .int [(.int (0 : Nat).toInt32), (.int (0 + b0).toInt32), (.int (0 : Nat).toInt32)]) :: (osd111, Own.ArrC Z .long (List.replicate 128 (Value.long (0 : Int64)))) :: (ot104, STo Z (.ref ra105) (.ref rb106) (iI 0)) :: (ra105, Own.ArrC Z .long (List.replicate 1024 (Value.long (0 : Int64)))) :: (rb106, Own.ArrC Z .int ((fl 1024).map Value.int)) :: (a10, Own.ArrC Z .int [(.int (fBuf q3 (0 : Int32) W0)), (.int (fBuf q4 (0 : Int32) W1)), (.int (fBuf q5 (0 : Int32) W2))]) :: (a101, PSo Z (.ref ot104) (.ref owd107) (.ref osh108) (.ref obt109) (iI 2) (.ref opk110) (.ref osd111) (iI 0)) :: (obt109, Own.ArrC Z .int [(.int b0.toInt32), (.int b1.toInt32), (.int b2.toInt32)]) :: (a1, Own.ArrC Z .int [(.int W0), (.int W1), (.int W2)]) :: (a98, Own.ArrC Z .int [(iI 0), (iI 0), (iI 0)]) :: (a34, Own.ArrC Z .int [(iI 0), (iI 0), (iI 0)]) :: (a19, Own.ArrC Z .int [(.int (fBuf q3 (32 : Int32) W0)), (.int (fBuf q4 (32 : Int32) W1)), (.int (fBuf q5 (32 : Int32) W2))]) :: []) := O122.pick 8 rfl
      have O124 : Own.Owns n0 h114 ((a101, PSo Z (.ref ot104) (.ref owd107) (.ref osh108) (.ref obt109) (iI 2) (.ref opk110) (.ref osd111) (iI 0)) :: (opk110, Own.ArrC Z .long [(jJ 0), (jJ 0)]) :: (owd107, Own.ArrC Z .int [(iI 0), (iI 0), (iI 1)]) :: (osh108, Own.ArrC Z .int [(.int (0 : Nat).toInt32), (.int (0 + b0).toInt32), (.int (0 : Nat).toInt32)]) :: (osd111, Own.ArrC Z .long (List.replicate 128 (Value.long (0 : Int64)))) :: (ot104, STo Z (.ref ra105) (.ref rb106) (iI 0)) :: (ra105, Own.ArrC Z .long (List.replicate 1024 (Value.long (0 : Int64)))) :: (rb106, Own.ArrC Z .int ((fl 1024).map Value.int)) :: (a10, Own.ArrC Z .int [(.int (fBuf q3 (0 : Int32) W0)), (.int (fBuf q4 (0 : Int32) W1)), (.int (fBuf q5 (0 : Int32) W2))]) :: (obt109, Own.ArrC Z .int [(.int b0.toInt32), (.int b1.toInt32), (.int b2.toInt32)]) :: (a1, Own.ArrC Z .int [(.int W0), (.int W1), (.int W2)]) :: (a98, Own.ArrC Z .int [(iI 0), (iI 0), (iI 0)]) :: (a34, Own.ArrC Z .int [(iI 0), (iI 0), (iI 0)]) :: (a19, Own.ArrC Z .int [(.int (fBuf q3 (32 : Int32) W0)), (.int (fBuf q4 (32 : Int32) W1)), (.int (fBuf q5 (32 : Int32) W2))]) :: []) := O123.pick 8 rfl
      refine Own.callV hx hZ hown (O124.exa (i := 0) rfl) (hw _ (wm 56 rfl)) (hw _ (wm 57 rfl)) (hw _ (wm 59 rfl)) (hw _ (wm 58 rfl)) (hw _ (wm 11 rfl)) (hw _ (wm 60 rfl)) (by decide) pd11 (argsL := [(.ref a10)]) (rest := []) rfl (W := 0) (Nat.le_of_eq rfl) (rm := ({ frames := 3, cells := 0, slots := 0, locals := 45 } : Room)) (by decide) (by decide) (by decide) (by decide) (k' := 14) (n' := 2213) rfl rfl (by rw [hml]; rfl) [(.ref a10), (.ref a101)] rfl (hb hby at_180) (pc' := 183) rfl (rm9_20 l Z a0 hw a101 a10 h114 n0 ot104 ra105 rb106 owd107 osh108 obt109 opk110 osd111 (0 : Int64) (0 : Int64) (fBuf q3 (0 : Int32) W0) (fBuf q4 (0 : Int32) W1) (fBuf q5 (0 : Int32) W2) 0 (0 + b0) 0 (0 : Int32) (List.replicate 128 (Value.long (0 : Int64))) (List.replicate 1024 (Value.long (0 : Int64))) (fl 1024) List.length_replicate List.length_replicate (fl_len (Nat.le_refl _)) fl_count (by decide) ((obt109, Own.ArrC Z .int [(.int b0.toInt32), (.int b1.toInt32), (.int b2.toInt32)]) :: (a1, Own.ArrC Z .int [(.int W0), (.int W1), (.int W2)]) :: (a98, Own.ArrC Z .int [(iI 0), (iI 0), (iI 0)]) :: (a34, Own.ArrC Z .int [(iI 0), (iI 0), (iI 0)]) :: (a19, Own.ArrC Z .int [(.int (fBuf q3 (32 : Int32) W0)), (.int (fBuf q4 (32 : Int32) W1)), (.int (fBuf q5 (32 : Int32) W2))]) :: []) O124) ?_
      rintro _ h125 ⟨SL1, SM1, TB1, rfl, hL1, hU10, hU11, hlo1, hM1, hT1, hn1, O126⟩
      show Own.Goes _ _ _ _ _ _ _ _ _ _ _ _ _ _ _ _ _ (mkF m 183 #[.val (.int p0), .val (.int p1), .val (.int p2), .val (.long q3), .second, .val (.long q4), .second, .val (.long q5), .second, .val (.int W0), .val (.int W1), .val (.int W2), .val (.ref a1), .val (.ref a10), .val (.ref a19), .val (.int (1 : Int32)), .val (.ref a34), .val (.ref a98), .val (.ref a101)] [(.int (0 : Int32))])
      refine Own.pop hx (hb hby at_183) rfl rfl ?_
      refine Own.iload hx (1 : Int32) (hb hby at_184) rfl rfl ?_
      have hc127 : ¬ ((1 : Int32) = (0 : Int32)) := by decide
      refine Own.ifFn hx (Own.z_ne (1 : Int32)) (hb hby at_186) (pcN := 189) rfl (by decide) (pcT := 197) rfl (fun _ => ?_) (fun q => absurd q hc127)
      refine Own.aload hx (.ref a101) (hb hby at_197) rfl rfl rfl ?_
      refine Own.iconst hx (0 : Int32) (hb hby at_199) rfl (by decide) ?_
      refine Own.aload hx (.ref a34) (hb hby at_200) rfl rfl rfl ?_
      have O129 : Own.Owns n0 h125 ((a34, Own.ArrC Z .int [(iI 0), (iI 0), (iI 0)]) :: (a101, PSo Z (.ref ot104) (.ref owd107) (.ref osh108) (.ref obt109) (iI 2) (.ref opk110) (.ref osd111) (iI 1)) :: (opk110, Own.ArrC Z .long [(.long (pkB (fBuf q3 (0 : Int32) W0) (fBuf q4 (0 : Int32) W1) 0 (0 + b0))), (.long (pkC (fBuf q5 (0 : Int32) W2) 0))]) :: (owd107, Own.ArrC Z .int [(iI 0), (iI 0), (iI 1)]) :: (osh108, Own.ArrC Z .int [(.int (0 : Nat).toInt32), (.int (0 + b0).toInt32), (.int (0 : Nat).toInt32)]) :: (osd111, Own.ArrC Z .long SL1) :: (ot104, STo Z (.ref ra105) (.ref rb106) (.int ((0 : Int32) + (1 : Int32)))) :: (ra105, Own.ArrC Z .long SM1) :: (rb106, Own.ArrC Z .int (TB1.map Value.int)) :: (a10, Own.ArrC Z .int [(.int (fBuf q3 (0 : Int32) W0)), (.int (fBuf q4 (0 : Int32) W1)), (.int (fBuf q5 (0 : Int32) W2))]) :: (obt109, Own.ArrC Z .int [(.int b0.toInt32), (.int b1.toInt32), (.int b2.toInt32)]) :: (a1, Own.ArrC Z .int [(.int W0), (.int W1), (.int W2)]) :: (a98, Own.ArrC Z .int [(iI 0), (iI 0), (iI 0)]) :: (a19, Own.ArrC Z .int [(.int (fBuf q3 (32 : Int32) W0)), (.int (fBuf q4 (32 : Int32) W1)), (.int (fBuf q5 (32 : Int32) W2))]) :: []) := O126.pick 12 rfl
      have O130 : Own.Owns n0 h125 ((obt109, Own.ArrC Z .int [(.int b0.toInt32), (.int b1.toInt32), (.int b2.toInt32)]) :: (a34, Own.ArrC Z .int [(iI 0), (iI 0), (iI 0)]) :: (a101, PSo Z (.ref ot104) (.ref owd107) (.ref osh108) (.ref obt109) (iI 2) (.ref opk110) (.ref osd111) (iI 1)) :: (opk110, Own.ArrC Z .long [(.long (pkB (fBuf q3 (0 : Int32) W0) (fBuf q4 (0 : Int32) W1) 0 (0 + b0))), (.long (pkC (fBuf q5 (0 : Int32) W2) 0))]) :: (owd107, Own.ArrC Z .int [(iI 0), (iI 0), (iI 1)]) :: (osh108, Own.ArrC Z .int [(.int (0 : Nat).toInt32), (.int (0 + b0).toInt32), (.int (0 : Nat).toInt32)]) :: (osd111, Own.ArrC Z .long SL1) :: (ot104, STo Z (.ref ra105) (.ref rb106) (.int ((0 : Int32) + (1 : Int32)))) :: (ra105, Own.ArrC Z .long SM1) :: (rb106, Own.ArrC Z .int (TB1.map Value.int)) :: (a10, Own.ArrC Z .int [(.int (fBuf q3 (0 : Int32) W0)), (.int (fBuf q4 (0 : Int32) W1)), (.int (fBuf q5 (0 : Int32) W2))]) :: (a1, Own.ArrC Z .int [(.int W0), (.int W1), (.int W2)]) :: (a98, Own.ArrC Z .int [(iI 0), (iI 0), (iI 0)]) :: (a19, Own.ArrC Z .int [(.int (fBuf q3 (32 : Int32) W0)), (.int (fBuf q4 (32 : Int32) W1)), (.int (fBuf q5 (32 : Int32) W2))]) :: []) := O129.pick 10 rfl
      have O131 : Own.Owns n0 h125 ((osh108, Own.ArrC Z .int [(.int (0 : Nat).toInt32), (.int (0 + b0).toInt32), (.int (0 : Nat).toInt32)]) :: (obt109, Own.ArrC Z .int [(.int b0.toInt32), (.int b1.toInt32), (.int b2.toInt32)]) :: (a34, Own.ArrC Z .int [(iI 0), (iI 0), (iI 0)]) :: (a101, PSo Z (.ref ot104) (.ref owd107) (.ref osh108) (.ref obt109) (iI 2) (.ref opk110) (.ref osd111) (iI 1)) :: (opk110, Own.ArrC Z .long [(.long (pkB (fBuf q3 (0 : Int32) W0) (fBuf q4 (0 : Int32) W1) 0 (0 + b0))), (.long (pkC (fBuf q5 (0 : Int32) W2) 0))]) :: (owd107, Own.ArrC Z .int [(iI 0), (iI 0), (iI 1)]) :: (osd111, Own.ArrC Z .long SL1) :: (ot104, STo Z (.ref ra105) (.ref rb106) (.int ((0 : Int32) + (1 : Int32)))) :: (ra105, Own.ArrC Z .long SM1) :: (rb106, Own.ArrC Z .int (TB1.map Value.int)) :: (a10, Own.ArrC Z .int [(.int (fBuf q3 (0 : Int32) W0)), (.int (fBuf q4 (0 : Int32) W1)), (.int (fBuf q5 (0 : Int32) W2))]) :: (a1, Own.ArrC Z .int [(.int W0), (.int W1), (.int W2)]) :: (a98, Own.ArrC Z .int [(iI 0), (iI 0), (iI 0)]) :: (a19, Own.ArrC Z .int [(.int (fBuf q3 (32 : Int32) W0)), (.int (fBuf q4 (32 : Int32) W1)), (.int (fBuf q5 (32 : Int32) W2))]) :: []) := O130.pick 5 rfl
      have O132 : Own.Owns n0 h125 ((owd107, Own.ArrC Z .int [(iI 0), (iI 0), (iI 1)]) :: (osh108, Own.ArrC Z .int [(.int (0 : Nat).toInt32), (.int (0 + b0).toInt32), (.int (0 : Nat).toInt32)]) :: (obt109, Own.ArrC Z .int [(.int b0.toInt32), (.int b1.toInt32), (.int b2.toInt32)]) :: (a34, Own.ArrC Z .int [(iI 0), (iI 0), (iI 0)]) :: (a101, PSo Z (.ref ot104) (.ref owd107) (.ref osh108) (.ref obt109) (iI 2) (.ref opk110) (.ref osd111) (iI 1)) :: (opk110, Own.ArrC Z .long [(.long (pkB (fBuf q3 (0 : Int32) W0) (fBuf q4 (0 : Int32) W1) 0 (0 + b0))), (.long (pkC (fBuf q5 (0 : Int32) W2) 0))]) :: (osd111, Own.ArrC Z .long SL1) :: (ot104, STo Z (.ref ra105) (.ref rb106) (.int ((0 : Int32) + (1 : Int32)))) :: (ra105, Own.ArrC Z .long SM1) :: (rb106, Own.ArrC Z .int (TB1.map Value.int)) :: (a10, Own.ArrC Z .int [(.int (fBuf q3 (0 : Int32) W0)), (.int (fBuf q4 (0 : Int32) W1)), (.int (fBuf q5 (0 : Int32) W2))]) :: (a1, Own.ArrC Z .int [(.int W0), (.int W1), (.int W2)]) :: (a98, Own.ArrC Z .int [(iI 0), (iI 0), (iI 0)]) :: (a19, Own.ArrC Z .int [(.int (fBuf q3 (32 : Int32) W0)), (.int (fBuf q4 (32 : Int32) W1)), (.int (fBuf q5 (32 : Int32) W2))]) :: []) := O131.pick 5 rfl
      have O133 : Own.Owns n0 h125 ((osd111, Own.ArrC Z .long SL1) :: (owd107, Own.ArrC Z .int [(iI 0), (iI 0), (iI 1)]) :: (osh108, Own.ArrC Z .int [(.int (0 : Nat).toInt32), (.int (0 + b0).toInt32), (.int (0 : Nat).toInt32)]) :: (obt109, Own.ArrC Z .int [(.int b0.toInt32), (.int b1.toInt32), (.int b2.toInt32)]) :: (a34, Own.ArrC Z .int [(iI 0), (iI 0), (iI 0)]) :: (a101, PSo Z (.ref ot104) (.ref owd107) (.ref osh108) (.ref obt109) (iI 2) (.ref opk110) (.ref osd111) (iI 1)) :: (opk110, Own.ArrC Z .long [(.long (pkB (fBuf q3 (0 : Int32) W0) (fBuf q4 (0 : Int32) W1) 0 (0 + b0))), (.long (pkC (fBuf q5 (0 : Int32) W2) 0))]) :: (ot104, STo Z (.ref ra105) (.ref rb106) (.int ((0 : Int32) + (1 : Int32)))) :: (ra105, Own.ArrC Z .long SM1) :: (rb106, Own.ArrC Z .int (TB1.map Value.int)) :: (a10, Own.ArrC Z .int [(.int (fBuf q3 (0 : Int32) W0)), (.int (fBuf q4 (0 : Int32) W1)), (.int (fBuf q5 (0 : Int32) W2))]) :: (a1, Own.ArrC Z .int [(.int W0), (.int W1), (.int W2)]) :: (a98, Own.ArrC Z .int [(iI 0), (iI 0), (iI 0)]) :: (a19, Own.ArrC Z .int [(.int (fBuf q3 (32 : Int32) W0)), (.int (fBuf q4 (32 : Int32) W1)), (.int (fBuf q5 (32 : Int32) W2))]) :: []) := O132.pick 6 rfl
      have O134 : Own.Owns n0 h125 ((a101, PSo Z (.ref ot104) (.ref owd107) (.ref osh108) (.ref obt109) (iI 2) (.ref opk110) (.ref osd111) (iI 1)) :: (osd111, Own.ArrC Z .long SL1) :: (owd107, Own.ArrC Z .int [(iI 0), (iI 0), (iI 1)]) :: (osh108, Own.ArrC Z .int [(.int (0 : Nat).toInt32), (.int (0 + b0).toInt32), (.int (0 : Nat).toInt32)]) :: (obt109, Own.ArrC Z .int [(.int b0.toInt32), (.int b1.toInt32), (.int b2.toInt32)]) :: (a34, Own.ArrC Z .int [(iI 0), (iI 0), (iI 0)]) :: (opk110, Own.ArrC Z .long [(.long (pkB (fBuf q3 (0 : Int32) W0) (fBuf q4 (0 : Int32) W1) 0 (0 + b0))), (.long (pkC (fBuf q5 (0 : Int32) W2) 0))]) :: (ot104, STo Z (.ref ra105) (.ref rb106) (.int ((0 : Int32) + (1 : Int32)))) :: (ra105, Own.ArrC Z .long SM1) :: (rb106, Own.ArrC Z .int (TB1.map Value.int)) :: (a10, Own.ArrC Z .int [(.int (fBuf q3 (0 : Int32) W0)), (.int (fBuf q4 (0 : Int32) W1)), (.int (fBuf q5 (0 : Int32) W2))]) :: (a1, Own.ArrC Z .int [(.int W0), (.int W1), (.int W2)]) :: (a98, Own.ArrC Z .int [(iI 0), (iI 0), (iI 0)]) :: (a19, Own.ArrC Z .int [(.int (fBuf q3 (32 : Int32) W0)), (.int (fBuf q4 (32 : Int32) W1)), (.int (fBuf q5 (32 : Int32) W2))]) :: []) := O133.pick 5 rfl
      refine Own.callV hx hZ hown (O134.exa (i := 0) rfl) (hw _ (wm 95 rfl)) (hw _ (wm 96 rfl)) (hw _ (wm 98 rfl)) (hw _ (wm 97 rfl)) (hw _ (wm 11 rfl)) (hw _ (wm 99 rfl)) (by decide) pd12 (argsL := [(.int (0 : Int32)), (.ref a34)]) (rest := []) rfl (W := 0) (Nat.le_of_eq rfl) (rm := ({ frames := 0, cells := 0, slots := 0, locals := 0 } : Room)) (by decide) (by decide) (by decide) (by decide) (k' := 14) (n' := 2213) rfl rfl (by rw [hml]; rfl) [(.ref a34), (.int (0 : Int32)), (.ref a101)] rfl (hb hby at_202) (pc' := 205) rfl (rm16_20 l Z a0 hw a101 a34 h125 n0 ot104 ra105 rb106 owd107 osh108 obt109 opk110 osd111 (1 : Int32) 0 (0 + b0) 0 b0 b1 b2 SL1 (pkB (fBuf q3 (0 : Int32) W0) (fBuf q4 (0 : Int32) W1) 0 (0 + b0)) (pkC (fBuf q5 (0 : Int32) W2) 0) hU10 hU11 ((opk110, Own.ArrC Z .long [(.long (pkB (fBuf q3 (0 : Int32) W0) (fBuf q4 (0 : Int32) W1) 0 (0 + b0))), (.long (pkC (fBuf q5 (0 : Int32) W2) 0))]) :: (ot104, STo Z (.ref ra105) (.ref rb106) (.int ((0 : Int32) + (1 : Int32)))) :: (ra105, Own.ArrC Z .long SM1) :: (rb106, Own.ArrC Z .int (TB1.map Value.int)) :: (a10, Own.ArrC Z .int [(.int (fBuf q3 (0 : Int32) W0)), (.int (fBuf q4 (0 : Int32) W1)), (.int (fBuf q5 (0 : Int32) W2))]) :: (a1, Own.ArrC Z .int [(.int W0), (.int W1), (.int W2)]) :: (a98, Own.ArrC Z .int [(iI 0), (iI 0), (iI 0)]) :: (a19, Own.ArrC Z .int [(.int (fBuf q3 (32 : Int32) W0)), (.int (fBuf q4 (32 : Int32) W1)), (.int (fBuf q5 (32 : Int32) W2))]) :: []) O134) ?_
      rintro _ h135 ⟨rfl, O136⟩
      show Own.Goes _ _ _ _ _ _ _ _ _ _ _ _ _ _ _ _ _ (mkF m 205 #[.val (.int p0), .val (.int p1), .val (.int p2), .val (.long q3), .second, .val (.long q4), .second, .val (.long q5), .second, .val (.int W0), .val (.int W1), .val (.int W2), .val (.ref a1), .val (.ref a10), .val (.ref a19), .val (.int (1 : Int32)), .val (.ref a34), .val (.ref a98), .val (.ref a101)] [])
      refine Own.aload hx (.ref a101) (hb hby at_205) rfl rfl rfl ?_
      refine Own.iload hx (1 : Int32) (hb hby at_207) rfl rfl ?_
      have hc137 : ¬ ((1 : Int32) = (0 : Int32)) := by decide
      refine Own.ifF hx (Own.z_eq (1 : Int32)) (hb hby at_209) (pcN := 212) rfl (by decide) (pcT := 216) rfl (fun q => absurd q hc137) (fun _ => ?_)
      refine Own.iconst hx (0 : Int32) (hb hby at_212) rfl (by decide) ?_
      refine Own.goto hx (hb hby at_213) (by decide) (pc' := 217) rfl ?_
      refine Own.aload hx (.ref a98) (hb hby at_217) rfl rfl rfl ?_
      have O139 : Own.Owns n0 h135 ((a98, Own.ArrC Z .int [(iI 0), (iI 0), (iI 0)]) :: (a101, PSo Z (.ref ot104) (.ref owd107) (.ref osh108) (.ref obt109) (iI 2) (.ref opk110) (.ref osd111) (iI 1)) :: (osd111, Own.ArrC Z .long SL1) :: (owd107, Own.ArrC Z .int [(iI 0), (iI 0), (iI 1)]) :: (osh108, Own.ArrC Z .int [(.int (0 : Nat).toInt32), (.int (0 + b0).toInt32), (.int (0 : Nat).toInt32)]) :: (obt109, Own.ArrC Z .int [(.int b0.toInt32), (.int b1.toInt32), (.int b2.toInt32)]) :: (a34, Own.ArrC Z .int [(.int (rdx (pkB (fBuf q3 (0 : Int32) W0) (fBuf q4 (0 : Int32) W1) 0 (0 + b0)) 0 b0)), (.int (rdx (pkB (fBuf q3 (0 : Int32) W0) (fBuf q4 (0 : Int32) W1) 0 (0 + b0)) (0 + b0) b1)), (.int (rdx (pkC (fBuf q5 (0 : Int32) W2) 0) 0 b2))]) :: (opk110, Own.ArrC Z .long [(.long (pkB (fBuf q3 (0 : Int32) W0) (fBuf q4 (0 : Int32) W1) 0 (0 + b0))), (.long (pkC (fBuf q5 (0 : Int32) W2) 0))]) :: (ot104, STo Z (.ref ra105) (.ref rb106) (.int ((0 : Int32) + (1 : Int32)))) :: (ra105, Own.ArrC Z .long SM1) :: (rb106, Own.ArrC Z .int (TB1.map Value.int)) :: (a10, Own.ArrC Z .int [(.int (fBuf q3 (0 : Int32) W0)), (.int (fBuf q4 (0 : Int32) W1)), (.int (fBuf q5 (0 : Int32) W2))]) :: (a1, Own.ArrC Z .int [(.int W0), (.int W1), (.int W2)]) :: (a19, Own.ArrC Z .int [(.int (fBuf q3 (32 : Int32) W0)), (.int (fBuf q4 (32 : Int32) W1)), (.int (fBuf q5 (32 : Int32) W2))]) :: []) := O136.pick 12 rfl
      have O140 : Own.Owns n0 h135 ((obt109, Own.ArrC Z .int [(.int b0.toInt32), (.int b1.toInt32), (.int b2.toInt32)]) :: (a98, Own.ArrC Z .int [(iI 0), (iI 0), (iI 0)]) :: (a101, PSo Z (.ref ot104) (.ref owd107) (.ref osh108) (.ref obt109) (iI 2) (.ref opk110) (.ref osd111) (iI 1)) :: (osd111, Own.ArrC Z .long SL1) :: (owd107, Own.ArrC Z .int [(iI 0), (iI 0), (iI 1)]) :: (osh108, Own.ArrC Z .int [(.int (0 : Nat).toInt32), (.int (0 + b0).toInt32), (.int (0 : Nat).toInt32)]) :: (a34, Own.ArrC Z .int [(.int (rdx (pkB (fBuf q3 (0 : Int32) W0) (fBuf q4 (0 : Int32) W1) 0 (0 + b0)) 0 b0)), (.int (rdx (pkB (fBuf q3 (0 : Int32) W0) (fBuf q4 (0 : Int32) W1) 0 (0 + b0)) (0 + b0) b1)), (.int (rdx (pkC (fBuf q5 (0 : Int32) W2) 0) 0 b2))]) :: (opk110, Own.ArrC Z .long [(.long (pkB (fBuf q3 (0 : Int32) W0) (fBuf q4 (0 : Int32) W1) 0 (0 + b0))), (.long (pkC (fBuf q5 (0 : Int32) W2) 0))]) :: (ot104, STo Z (.ref ra105) (.ref rb106) (.int ((0 : Int32) + (1 : Int32)))) :: (ra105, Own.ArrC Z .long SM1) :: (rb106, Own.ArrC Z .int (TB1.map Value.int)) :: (a10, Own.ArrC Z .int [(.int (fBuf q3 (0 : Int32) W0)), (.int (fBuf q4 (0 : Int32) W1)), (.int (fBuf q5 (0 : Int32) W2))]) :: (a1, Own.ArrC Z .int [(.int W0), (.int W1), (.int W2)]) :: (a19, Own.ArrC Z .int [(.int (fBuf q3 (32 : Int32) W0)), (.int (fBuf q4 (32 : Int32) W1)), (.int (fBuf q5 (32 : Int32) W2))]) :: []) := O139.pick 5 rfl
      have O141 : Own.Owns n0 h135 ((osh108, Own.ArrC Z .int [(.int (0 : Nat).toInt32), (.int (0 + b0).toInt32), (.int (0 : Nat).toInt32)]) :: (obt109, Own.ArrC Z .int [(.int b0.toInt32), (.int b1.toInt32), (.int b2.toInt32)]) :: (a98, Own.ArrC Z .int [(iI 0), (iI 0), (iI 0)]) :: (a101, PSo Z (.ref ot104) (.ref owd107) (.ref osh108) (.ref obt109) (iI 2) (.ref opk110) (.ref osd111) (iI 1)) :: (osd111, Own.ArrC Z .long SL1) :: (owd107, Own.ArrC Z .int [(iI 0), (iI 0), (iI 1)]) :: (a34, Own.ArrC Z .int [(.int (rdx (pkB (fBuf q3 (0 : Int32) W0) (fBuf q4 (0 : Int32) W1) 0 (0 + b0)) 0 b0)), (.int (rdx (pkB (fBuf q3 (0 : Int32) W0) (fBuf q4 (0 : Int32) W1) 0 (0 + b0)) (0 + b0) b1)), (.int (rdx (pkC (fBuf q5 (0 : Int32) W2) 0) 0 b2))]) :: (opk110, Own.ArrC Z .long [(.long (pkB (fBuf q3 (0 : Int32) W0) (fBuf q4 (0 : Int32) W1) 0 (0 + b0))), (.long (pkC (fBuf q5 (0 : Int32) W2) 0))]) :: (ot104, STo Z (.ref ra105) (.ref rb106) (.int ((0 : Int32) + (1 : Int32)))) :: (ra105, Own.ArrC Z .long SM1) :: (rb106, Own.ArrC Z .int (TB1.map Value.int)) :: (a10, Own.ArrC Z .int [(.int (fBuf q3 (0 : Int32) W0)), (.int (fBuf q4 (0 : Int32) W1)), (.int (fBuf q5 (0 : Int32) W2))]) :: (a1, Own.ArrC Z .int [(.int W0), (.int W1), (.int W2)]) :: (a19, Own.ArrC Z .int [(.int (fBuf q3 (32 : Int32) W0)), (.int (fBuf q4 (32 : Int32) W1)), (.int (fBuf q5 (32 : Int32) W2))]) :: []) := O140.pick 5 rfl
      have O142 : Own.Owns n0 h135 ((owd107, Own.ArrC Z .int [(iI 0), (iI 0), (iI 1)]) :: (osh108, Own.ArrC Z .int [(.int (0 : Nat).toInt32), (.int (0 + b0).toInt32), (.int (0 : Nat).toInt32)]) :: (obt109, Own.ArrC Z .int [(.int b0.toInt32), (.int b1.toInt32), (.int b2.toInt32)]) :: (a98, Own.ArrC Z .int [(iI 0), (iI 0), (iI 0)]) :: (a101, PSo Z (.ref ot104) (.ref owd107) (.ref osh108) (.ref obt109) (iI 2) (.ref opk110) (.ref osd111) (iI 1)) :: (osd111, Own.ArrC Z .long SL1) :: (a34, Own.ArrC Z .int [(.int (rdx (pkB (fBuf q3 (0 : Int32) W0) (fBuf q4 (0 : Int32) W1) 0 (0 + b0)) 0 b0)), (.int (rdx (pkB (fBuf q3 (0 : Int32) W0) (fBuf q4 (0 : Int32) W1) 0 (0 + b0)) (0 + b0) b1)), (.int (rdx (pkC (fBuf q5 (0 : Int32) W2) 0) 0 b2))]) :: (opk110, Own.ArrC Z .long [(.long (pkB (fBuf q3 (0 : Int32) W0) (fBuf q4 (0 : Int32) W1) 0 (0 + b0))), (.long (pkC (fBuf q5 (0 : Int32) W2) 0))]) :: (ot104, STo Z (.ref ra105) (.ref rb106) (.int ((0 : Int32) + (1 : Int32)))) :: (ra105, Own.ArrC Z .long SM1) :: (rb106, Own.ArrC Z .int (TB1.map Value.int)) :: (a10, Own.ArrC Z .int [(.int (fBuf q3 (0 : Int32) W0)), (.int (fBuf q4 (0 : Int32) W1)), (.int (fBuf q5 (0 : Int32) W2))]) :: (a1, Own.ArrC Z .int [(.int W0), (.int W1), (.int W2)]) :: (a19, Own.ArrC Z .int [(.int (fBuf q3 (32 : Int32) W0)), (.int (fBuf q4 (32 : Int32) W1)), (.int (fBuf q5 (32 : Int32) W2))]) :: []) := O141.pick 5 rfl
      have O143 : Own.Owns n0 h135 ((osd111, Own.ArrC Z .long SL1) :: (owd107, Own.ArrC Z .int [(iI 0), (iI 0), (iI 1)]) :: (osh108, Own.ArrC Z .int [(.int (0 : Nat).toInt32), (.int (0 + b0).toInt32), (.int (0 : Nat).toInt32)]) :: (obt109, Own.ArrC Z .int [(.int b0.toInt32), (.int b1.toInt32), (.int b2.toInt32)]) :: (a98, Own.ArrC Z .int [(iI 0), (iI 0), (iI 0)]) :: (a101, PSo Z (.ref ot104) (.ref owd107) (.ref osh108) (.ref obt109) (iI 2) (.ref opk110) (.ref osd111) (iI 1)) :: (a34, Own.ArrC Z .int [(.int (rdx (pkB (fBuf q3 (0 : Int32) W0) (fBuf q4 (0 : Int32) W1) 0 (0 + b0)) 0 b0)), (.int (rdx (pkB (fBuf q3 (0 : Int32) W0) (fBuf q4 (0 : Int32) W1) 0 (0 + b0)) (0 + b0) b1)), (.int (rdx (pkC (fBuf q5 (0 : Int32) W2) 0) 0 b2))]) :: (opk110, Own.ArrC Z .long [(.long (pkB (fBuf q3 (0 : Int32) W0) (fBuf q4 (0 : Int32) W1) 0 (0 + b0))), (.long (pkC (fBuf q5 (0 : Int32) W2) 0))]) :: (ot104, STo Z (.ref ra105) (.ref rb106) (.int ((0 : Int32) + (1 : Int32)))) :: (ra105, Own.ArrC Z .long SM1) :: (rb106, Own.ArrC Z .int (TB1.map Value.int)) :: (a10, Own.ArrC Z .int [(.int (fBuf q3 (0 : Int32) W0)), (.int (fBuf q4 (0 : Int32) W1)), (.int (fBuf q5 (0 : Int32) W2))]) :: (a1, Own.ArrC Z .int [(.int W0), (.int W1), (.int W2)]) :: (a19, Own.ArrC Z .int [(.int (fBuf q3 (32 : Int32) W0)), (.int (fBuf q4 (32 : Int32) W1)), (.int (fBuf q5 (32 : Int32) W2))]) :: []) := O142.pick 5 rfl
      have O144 : Own.Owns n0 h135 ((a101, PSo Z (.ref ot104) (.ref owd107) (.ref osh108) (.ref obt109) (iI 2) (.ref opk110) (.ref osd111) (iI 1)) :: (osd111, Own.ArrC Z .long SL1) :: (owd107, Own.ArrC Z .int [(iI 0), (iI 0), (iI 1)]) :: (osh108, Own.ArrC Z .int [(.int (0 : Nat).toInt32), (.int (0 + b0).toInt32), (.int (0 : Nat).toInt32)]) :: (obt109, Own.ArrC Z .int [(.int b0.toInt32), (.int b1.toInt32), (.int b2.toInt32)]) :: (a98, Own.ArrC Z .int [(iI 0), (iI 0), (iI 0)]) :: (a34, Own.ArrC Z .int [(.int (rdx (pkB (fBuf q3 (0 : Int32) W0) (fBuf q4 (0 : Int32) W1) 0 (0 + b0)) 0 b0)), (.int (rdx (pkB (fBuf q3 (0 : Int32) W0) (fBuf q4 (0 : Int32) W1) 0 (0 + b0)) (0 + b0) b1)), (.int (rdx (pkC (fBuf q5 (0 : Int32) W2) 0) 0 b2))]) :: (opk110, Own.ArrC Z .long [(.long (pkB (fBuf q3 (0 : Int32) W0) (fBuf q4 (0 : Int32) W1) 0 (0 + b0))), (.long (pkC (fBuf q5 (0 : Int32) W2) 0))]) :: (ot104, STo Z (.ref ra105) (.ref rb106) (.int ((0 : Int32) + (1 : Int32)))) :: (ra105, Own.ArrC Z .long SM1) :: (rb106, Own.ArrC Z .int (TB1.map Value.int)) :: (a10, Own.ArrC Z .int [(.int (fBuf q3 (0 : Int32) W0)), (.int (fBuf q4 (0 : Int32) W1)), (.int (fBuf q5 (0 : Int32) W2))]) :: (a1, Own.ArrC Z .int [(.int W0), (.int W1), (.int W2)]) :: (a19, Own.ArrC Z .int [(.int (fBuf q3 (32 : Int32) W0)), (.int (fBuf q4 (32 : Int32) W1)), (.int (fBuf q5 (32 : Int32) W2))]) :: []) := O143.pick 5 rfl
      refine Own.callV hx hZ hown (O144.exa (i := 0) rfl) (hw _ (wm 95 rfl)) (hw _ (wm 96 rfl)) (hw _ (wm 98 rfl)) (hw _ (wm 97 rfl)) (hw _ (wm 11 rfl)) (hw _ (wm 99 rfl)) (by decide) pd12 (argsL := [(.int (0 : Int32)), (.ref a98)]) (rest := []) rfl (W := 0) (Nat.le_of_eq rfl) (rm := ({ frames := 0, cells := 0, slots := 0, locals := 0 } : Room)) (by decide) (by decide) (by decide) (by decide) (k' := 14) (n' := 2213) rfl rfl (by rw [hml]; rfl) [(.ref a98), (.int (0 : Int32)), (.ref a101)] rfl (hb hby at_219) (pc' := 222) rfl (rm16_20 l Z a0 hw a101 a98 h135 n0 ot104 ra105 rb106 owd107 osh108 obt109 opk110 osd111 (1 : Int32) 0 (0 + b0) 0 b0 b1 b2 SL1 (pkB (fBuf q3 (0 : Int32) W0) (fBuf q4 (0 : Int32) W1) 0 (0 + b0)) (pkC (fBuf q5 (0 : Int32) W2) 0) hU10 hU11 ((a34, Own.ArrC Z .int [(.int (rdx (pkB (fBuf q3 (0 : Int32) W0) (fBuf q4 (0 : Int32) W1) 0 (0 + b0)) 0 b0)), (.int (rdx (pkB (fBuf q3 (0 : Int32) W0) (fBuf q4 (0 : Int32) W1) 0 (0 + b0)) (0 + b0) b1)), (.int (rdx (pkC (fBuf q5 (0 : Int32) W2) 0) 0 b2))]) :: (opk110, Own.ArrC Z .long [(.long (pkB (fBuf q3 (0 : Int32) W0) (fBuf q4 (0 : Int32) W1) 0 (0 + b0))), (.long (pkC (fBuf q5 (0 : Int32) W2) 0))]) :: (ot104, STo Z (.ref ra105) (.ref rb106) (.int ((0 : Int32) + (1 : Int32)))) :: (ra105, Own.ArrC Z .long SM1) :: (rb106, Own.ArrC Z .int (TB1.map Value.int)) :: (a10, Own.ArrC Z .int [(.int (fBuf q3 (0 : Int32) W0)), (.int (fBuf q4 (0 : Int32) W1)), (.int (fBuf q5 (0 : Int32) W2))]) :: (a1, Own.ArrC Z .int [(.int W0), (.int W1), (.int W2)]) :: (a19, Own.ArrC Z .int [(.int (fBuf q3 (32 : Int32) W0)), (.int (fBuf q4 (32 : Int32) W1)), (.int (fBuf q5 (32 : Int32) W2))]) :: []) O144) ?_
      rintro _ h145 ⟨rfl, O146⟩
      show Own.Goes _ _ _ _ _ _ _ _ _ _ _ _ _ _ _ _ _ (mkF m 222 #[.val (.int p0), .val (.int p1), .val (.int p2), .val (.long q3), .second, .val (.long q4), .second, .val (.long q5), .second, .val (.int W0), .val (.int W1), .val (.int W2), .val (.ref a1), .val (.ref a10), .val (.ref a19), .val (.int (1 : Int32)), .val (.ref a34), .val (.ref a98), .val (.ref a101)] [])
      refine Own.aload hx (.ref a34) (hb hby at_222) rfl rfl rfl ?_
      refine Own.iconst hx (0 : Int32) (hb hby at_224) rfl (by decide) ?_
      refine Own.iaload hx hZ O146 6 0 rfl (by decide) (v := (.int (rdx (pkB (fBuf q3 (0 : Int32) W0) (fBuf q4 (0 : Int32) W1) 0 (0 + b0)) 0 b0))) rfl (hb hby at_225) rfl ?_
      refine Own.aload hx (.ref a10) (hb hby at_226) rfl rfl rfl ?_
      refine Own.iconst hx (0 : Int32) (hb hby at_228) rfl (by decide) ?_
      refine Own.iaload hx hZ O146 11 0 rfl (by decide) (v := (.int (fBuf q3 (0 : Int32) W0))) rfl (hb hby at_229) rfl ?_
      have hc147 : (rdx (pkB (fBuf q3 (0 : Int32) W0) (fBuf q4 (0 : Int32) W1) 0 (0 + b0)) 0 b0) = (fBuf q3 (0 : Int32) W0) := K1.1
      refine Own.icmpFn hx (Own.q_ne (rdx (pkB (fBuf q3 (0 : Int32) W0) (fBuf q4 (0 : Int32) W1) 0 (0 + b0)) 0 b0) (fBuf q3 (0 : Int32) W0)) (hb hby at_230) (pcN := 233) rfl (by decide) (pcT := 292) rfl (fun q => absurd hc147 q) (fun _ => ?_)
      refine Own.aload hx (.ref a34) (hb hby at_233) rfl rfl rfl ?_
      refine Own.iconst hx (1 : Int32) (hb hby at_235) rfl (by decide) ?_
      refine Own.iaload hx hZ O146 6 1 rfl (by decide) (v := (.int (rdx (pkB (fBuf q3 (0 : Int32) W0) (fBuf q4 (0 : Int32) W1) 0 (0 + b0)) (0 + b0) b1))) rfl (hb hby at_236) rfl ?_
      refine Own.aload hx (.ref a10) (hb hby at_237) rfl rfl rfl ?_
      refine Own.iconst hx (1 : Int32) (hb hby at_239) rfl (by decide) ?_
      refine Own.iaload hx hZ O146 11 1 rfl (by decide) (v := (.int (fBuf q4 (0 : Int32) W1))) rfl (hb hby at_240) rfl ?_
      have hc149 : (rdx (pkB (fBuf q3 (0 : Int32) W0) (fBuf q4 (0 : Int32) W1) 0 (0 + b0)) (0 + b0) b1) = (fBuf q4 (0 : Int32) W1) := K1.2.1
      refine Own.icmpFn hx (Own.q_ne (rdx (pkB (fBuf q3 (0 : Int32) W0) (fBuf q4 (0 : Int32) W1) 0 (0 + b0)) (0 + b0) b1) (fBuf q4 (0 : Int32) W1)) (hb hby at_241) (pcN := 244) rfl (by decide) (pcT := 292) rfl (fun q => absurd hc149 q) (fun _ => ?_)
      refine Own.aload hx (.ref a34) (hb hby at_244) rfl rfl rfl ?_
      refine Own.iconst hx (2 : Int32) (hb hby at_246) rfl (by decide) ?_
      refine Own.iaload hx hZ O146 6 2 rfl (by decide) (v := (.int (rdx (pkC (fBuf q5 (0 : Int32) W2) 0) 0 b2))) rfl (hb hby at_247) rfl ?_
      refine Own.aload hx (.ref a10) (hb hby at_248) rfl rfl rfl ?_
      refine Own.iconst hx (2 : Int32) (hb hby at_250) rfl (by decide) ?_
      refine Own.iaload hx hZ O146 11 2 rfl (by decide) (v := (.int (fBuf q5 (0 : Int32) W2))) rfl (hb hby at_251) rfl ?_
      have hc151 : (rdx (pkC (fBuf q5 (0 : Int32) W2) 0) 0 b2) = (fBuf q5 (0 : Int32) W2) := K1.2.2
      refine Own.icmpFn hx (Own.q_ne (rdx (pkC (fBuf q5 (0 : Int32) W2) 0) 0 b2) (fBuf q5 (0 : Int32) W2)) (hb hby at_252) (pcN := 255) rfl (by decide) (pcT := 292) rfl (fun q => absurd hc151 q) (fun _ => ?_)
      refine Own.aload hx (.ref a98) (hb hby at_255) rfl rfl rfl ?_
      refine Own.iconst hx (0 : Int32) (hb hby at_257) rfl (by decide) ?_
      refine Own.iaload hx hZ O146 5 0 rfl (by decide) (v := (.int (rdx (pkB (fBuf q3 (0 : Int32) W0) (fBuf q4 (0 : Int32) W1) 0 (0 + b0)) 0 b0))) rfl (hb hby at_258) rfl ?_
      refine Own.aload hx (.ref a19) (hb hby at_259) rfl rfl rfl ?_
      refine Own.iconst hx (0 : Int32) (hb hby at_261) rfl (by decide) ?_
      refine Own.iaload hx hZ O146 13 0 rfl (by decide) (v := (.int (fBuf q3 (32 : Int32) W0))) rfl (hb hby at_262) rfl ?_
      have hc153 : (rdx (pkB (fBuf q3 (0 : Int32) W0) (fBuf q4 (0 : Int32) W1) 0 (0 + b0)) 0 b0) = (fBuf q3 (32 : Int32) W0) := K1.1.trans E0
      refine Own.icmpFn hx (Own.q_ne (rdx (pkB (fBuf q3 (0 : Int32) W0) (fBuf q4 (0 : Int32) W1) 0 (0 + b0)) 0 b0) (fBuf q3 (32 : Int32) W0)) (hb hby at_263) (pcN := 266) rfl (by decide) (pcT := 292) rfl (fun q => absurd hc153 q) (fun _ => ?_)
      refine Own.aload hx (.ref a98) (hb hby at_266) rfl rfl rfl ?_
      refine Own.iconst hx (1 : Int32) (hb hby at_268) rfl (by decide) ?_
      refine Own.iaload hx hZ O146 5 1 rfl (by decide) (v := (.int (rdx (pkB (fBuf q3 (0 : Int32) W0) (fBuf q4 (0 : Int32) W1) 0 (0 + b0)) (0 + b0) b1))) rfl (hb hby at_269) rfl ?_
      refine Own.aload hx (.ref a19) (hb hby at_270) rfl rfl rfl ?_
      refine Own.iconst hx (1 : Int32) (hb hby at_272) rfl (by decide) ?_
      refine Own.iaload hx hZ O146 13 1 rfl (by decide) (v := (.int (fBuf q4 (32 : Int32) W1))) rfl (hb hby at_273) rfl ?_
      have hc155 : (rdx (pkB (fBuf q3 (0 : Int32) W0) (fBuf q4 (0 : Int32) W1) 0 (0 + b0)) (0 + b0) b1) = (fBuf q4 (32 : Int32) W1) := K1.2.1.trans E1
      refine Own.icmpFn hx (Own.q_ne (rdx (pkB (fBuf q3 (0 : Int32) W0) (fBuf q4 (0 : Int32) W1) 0 (0 + b0)) (0 + b0) b1) (fBuf q4 (32 : Int32) W1)) (hb hby at_274) (pcN := 277) rfl (by decide) (pcT := 292) rfl (fun q => absurd hc155 q) (fun _ => ?_)
      refine Own.aload hx (.ref a98) (hb hby at_277) rfl rfl rfl ?_
      refine Own.iconst hx (2 : Int32) (hb hby at_279) rfl (by decide) ?_
      refine Own.iaload hx hZ O146 5 2 rfl (by decide) (v := (.int (rdx (pkC (fBuf q5 (0 : Int32) W2) 0) 0 b2))) rfl (hb hby at_280) rfl ?_
      refine Own.aload hx (.ref a19) (hb hby at_281) rfl rfl rfl ?_
      refine Own.iconst hx (2 : Int32) (hb hby at_283) rfl (by decide) ?_
      refine Own.iaload hx hZ O146 13 2 rfl (by decide) (v := (.int (fBuf q5 (32 : Int32) W2))) rfl (hb hby at_284) rfl ?_
      have hc157 : (rdx (pkC (fBuf q5 (0 : Int32) W2) 0) 0 b2) = (fBuf q5 (32 : Int32) W2) := K1.2.2.trans E2
      refine Own.icmpFn hx (Own.q_ne (rdx (pkC (fBuf q5 (0 : Int32) W2) 0) 0 b2) (fBuf q5 (32 : Int32) W2)) (hb hby at_285) (pcN := 288) rfl (by decide) (pcT := 292) rfl (fun q => absurd hc157 q) (fun _ => ?_)
      refine Own.iconst hx (1 : Int32) (hb hby at_288) rfl (by decide) ?_
      refine Own.goto hx (hb hby at_289) (by decide) (pc' := 293) rfl ?_
      exact Own.retS hx hret (by simp) hlk (hb hby at_293) (by decide) (by decide) (Own.bool1 rfl)
  · subst qs
    refine Own.iconst hx (3 : Int32) (hb hby at_155) rfl (by decide) ?_
    refine Own.newarr hx hZ O27 (aty := .int) (hw _ (wm 5 rfl)) 3 (by decide) [(.int (0 : Int32)), (.int (0 : Int32)), (.int (0 : Int32))] rfl rfl (cap := 3) (by decide) (by decide) (k' := 4) (n' := 12) rfl rfl (by decide) (by decide) (hb hby at_156) (pc' := 158) rfl ?_
    intro a159 h160 O161
    refine Own.astore hx #[.val (.int p0), .val (.int p1), .val (.int p2), .val (.long q3), .second, .val (.long q4), .second, .val (.long q5), .second, .val (.int W0), .val (.int W1), .val (.int W2), .val (.ref a1), .val (.ref a10), .val (.ref a19), .val (.int (0 : Int32)), .val (.ref a159), .unset, .unset] (hb hby at_158) rfl rfl rfl ?_
    by_cases hW : 0 + b0 + b1 + b2 ≤ 64
    · have K1 := law1 ey0 ey1 ey2 ly0 ly1 ly2 hb0 hb1 hb2 hW
      have K2 := law1 ez0 ez1 ez2 lz0 lz1 lz2 hb0 hb1 hb2 hW
      refine Own.iconst hx (3 : Int32) (hb hby at_160) rfl (by decide) ?_
      refine Own.newarr hx hZ O161 (aty := .int) (hw _ (wm 5 rfl)) 3 (by decide) [(.int (0 : Int32)), (.int (0 : Int32)), (.int (0 : Int32))] rfl rfl (cap := 3) (by decide) (by decide) (k' := 5) (n' := 15) rfl rfl (by decide) (by decide) (hb hby at_161) (pc' := 163) rfl ?_
      intro a162 h163 O164
      refine Own.astore hx #[.val (.int p0), .val (.int p1), .val (.int p2), .val (.long q3), .second, .val (.long q4), .second, .val (.long q5), .second, .val (.int W0), .val (.int W1), .val (.int W2), .val (.ref a1), .val (.ref a10), .val (.ref a19), .val (.int (0 : Int32)), .val (.ref a159), .val (.ref a162), .unset] (hb hby at_163) rfl rfl rfl ?_
      refine Own.newobj hx hZ hown O164 (hw _ (wm 9 rfl)) (hw _ (wm 10 rfl)) (hw _ (wm 11 rfl)) [(("com/example/cuesheet/cuesheet/core/PackedStates", "table", "Lcom/example/cuesheet/cuesheet/core/StateTable;"), .null), (("com/example/cuesheet/cuesheet/core/PackedStates", "word", "[I"), .null), (("com/example/cuesheet/cuesheet/core/PackedStates", "shift", "[I"), .null), (("com/example/cuesheet/cuesheet/core/PackedStates", "bits", "[I"), .null), (("com/example/cuesheet/cuesheet/core/PackedStates", "words", "I"), (.int (0 : Int32))), (("com/example/cuesheet/cuesheet/core/PackedStates", "packed", "[J"), .null), (("com/example/cuesheet/cuesheet/core/PackedStates", "stored", "[J"), .null), (("com/example/cuesheet/cuesheet/core/PackedStates", "size", "I"), (.int (0 : Int32)))] (by intro f hf; simp only [List.mem_cons, List.not_mem_nil, or_false] at hf; rcases hf with rfl | rfl | rfl | rfl | rfl | rfl | rfl | rfl; exact ⟨Or.inr (hw _ (wm 38 rfl)), (.object "com/example/cuesheet/cuesheet/core/StateTable"), by decide, rfl⟩; exact ⟨Or.inr (hw _ (wm 40 rfl)), (.array .int), by decide, rfl⟩; exact ⟨Or.inr (hw _ (wm 42 rfl)), (.array .int), by decide, rfl⟩; exact ⟨Or.inr (hw _ (wm 44 rfl)), (.array .int), by decide, rfl⟩; exact ⟨Or.inr (hw _ (wm 51 rfl)), .int, by decide, rfl⟩; exact ⟨Or.inr (hw _ (wm 53 rfl)), (.array .long), by decide, rfl⟩; exact ⟨Or.inl (hw _ (wm 55 rfl)), (.array .long), by decide, rfl⟩; exact ⟨Or.inl (hw _ (wm 69 rfl)), .int, by decide, rfl⟩) (by decide) (k' := 6) (n' := 23) rfl rfl (by decide) (by decide) (hb hby at_165) (pc' := 168) rfl ?_
      intro a165 h166 O167
      refine Own.dup hx (hb hby at_168) rfl rfl ?_
      refine Own.aload hx (.ref a1) (hb hby at_169) rfl rfl rfl ?_
      have O176 : Own.Owns n0 h166 ((a1, Own.ArrC Z .int [(.int W0), (.int W1), (.int W2)]) :: (a165, PSo Z .null .null .null .null (iI 0) .null .null (iI 0)) :: (a162, Own.ArrC Z .int [(iI 0), (iI 0), (iI 0)]) :: (a159, Own.ArrC Z .int [(iI 0), (iI 0), (iI 0)]) :: (a19, Own.ArrC Z .int [(.int (fBuf q3 (32 : Int32) W0)), (.int (fBuf q4 (32 : Int32) W1)), (.int (fBuf q5 (32 : Int32) W2))]) :: (a10, Own.ArrC Z .int [(.int (fBuf q3 (0 : Int32) W0)), (.int (fBuf q4 (0 : Int32) W1)), (.int (fBuf q5 (0 : Int32) W2))]) :: []) := O167.pick 5 rfl
      have O177 : Own.Owns n0 h166 ((a165, PSo Z .null .null .null .null (iI 0) .null .null (iI 0)) :: (a1, Own.ArrC Z .int [(.int W0), (.int W1), (.int W2)]) :: (a162, Own.ArrC Z .int [(iI 0), (iI 0), (iI 0)]) :: (a159, Own.ArrC Z .int [(iI 0), (iI 0), (iI 0)]) :: (a19, Own.ArrC Z .int [(.int (fBuf q3 (32 : Int32) W0)), (.int (fBuf q4 (32 : Int32) W1)), (.int (fBuf q5 (32 : Int32) W2))]) :: (a10, Own.ArrC Z .int [(.int (fBuf q3 (0 : Int32) W0)), (.int (fBuf q4 (0 : Int32) W1)), (.int (fBuf q5 (0 : Int32) W2))]) :: []) := O176.pick 1 rfl
      refine Own.callI hx hZ hown rfl (hw _ (wm 12 rfl)) (hw _ (wm 13 rfl)) (hw _ (wm 11 rfl)) (hw _ (wm 14 rfl)) (by decide) pd7 (argsL := [(.ref a1)]) (rest := [(.ref a165)]) rfl (W := 1) (Nat.le_of_eq rfl) (rm := ({ frames := 3, cells := 8, slots := 2125, locals := 43 } : Room)) (by decide) (by decide) (by decide) (by decide) (k' := 14) (n' := 2148) rfl rfl (by rw [hml]; rfl) [(.ref a1), (.ref a165), (.ref a165)] rfl (hb hby at_171) (pc' := 174) rfl (rm3_1 l Z a0 hw a165 a1 h166 n0 W0 W1 W2 b0 b1 b2 hb0 eb0 hb1 eb1 hb2 eb2 hW ((a162, Own.ArrC Z .int [(iI 0), (iI 0), (iI 0)]) :: (a159, Own.ArrC Z .int [(iI 0), (iI 0), (iI 0)]) :: (a19, Own.ArrC Z .int [(.int (fBuf q3 (32 : Int32) W0)), (.int (fBuf q4 (32 : Int32) W1)), (.int (fBuf q5 (32 : Int32) W2))]) :: (a10, Own.ArrC Z .int [(.int (fBuf q3 (0 : Int32) W0)), (.int (fBuf q4 (0 : Int32) W1)), (.int (fBuf q5 (0 : Int32) W2))]) :: []) O177) ?_
      rintro _ h178 ⟨ot168, ra169, rb170, owd171, osh172, obt173, opk174, osd175, rfl, O179⟩
      show Own.Goes _ _ _ _ _ _ _ _ _ _ _ _ _ _ _ _ _ (mkF m 174 #[.val (.int p0), .val (.int p1), .val (.int p2), .val (.long q3), .second, .val (.long q4), .second, .val (.long q5), .second, .val (.int W0), .val (.int W1), .val (.int W2), .val (.ref a1), .val (.ref a10), .val (.ref a19), .val (.int (0 : Int32)), .val (.ref a159), .val (.ref a162), .unset] [(.ref a165)])
      refine Own.astore hx #[.val (.int p0), .val (.int p1), .val (.int p2), .val (.long q3), .second, .val (.long q4), .second, .val (.long q5), .second, .val (.int W0), .val (.int W1), .val (.int W2), .val (.ref a1), .val (.ref a10), .val (.ref a19), .val (.int (0 : Int32)), .val (.ref a159), .val (.ref a162), .val (.ref a165)] (hb hby at_174) rfl rfl rfl ?_
      refine Own.aload hx (.ref a165) (hb hby at_176) rfl rfl rfl ?_
      refine Own.aload hx (.ref a10) (hb hby at_178) rfl rfl rfl ?_
      have O180 : Own.Owns n0 h178 ((a10, Own.ArrC Z .int [(.int (fBuf q3 (0 : Int32) W0)), (.int (fBuf q4 (0 : Int32) W1)), (.int (fBuf q5 (0 : Int32) W2))]) :: (a165, PSo Z (.ref ot168) (.ref owd171) (.ref osh172) (.ref obt173) (iI 1) (.ref opk174) (.ref osd175) (iI 0)) :: (opk174, Own.ArrC Z .long [(jJ 0)]) :: (owd171, Own.ArrC Z .int [(iI 0), (iI 0), (iI 0)]) :: (osh172, Own.ArrC Z .int [(.int (0 : Nat).toInt32), (.int (0 + b0).toInt32), (.int (0 + b0 + b1).toInt32)]) :: (osd175, Own.ArrC Z .long (List.replicate 64 (Value.long (0 : Int64)))) :: (ot168, STo Z (.ref ra169) (.ref rb170) (iI 0)) :: (ra169, Own.ArrC Z .long (List.replicate 1024 (Value.long (0 : Int64)))) :: (rb170, Own.ArrC Z .int ((fl 1024).map Value.int)) :: (obt173, Own.ArrC Z .int [(.int b0.toInt32), (.int b1.toInt32), (.int b2.toInt32)]) :: (a1, Own.ArrC Z .int [(.int W0), (.int W1), (.int W2)]) :: (a162, Own.ArrC Z .int [(iI 0), (iI 0), (iI 0)]) :: (a159, Own.ArrC Z .int [(iI 0), (iI 0), (iI 0)]) :: (a19, Own.ArrC Z .int [(.int (fBuf q3 (32 : Int32) W0)), (.int (fBuf q4 (32 : Int32) W1)), (.int (fBuf q5 (32 : Int32) W2))]) :: []) := O179.pick 13 rfl
      have O181 : Own.Owns n0 h178 ((rb170, Own.ArrC Z .int ((fl 1024).map Value.int)) :: (a10, Own.ArrC Z .int [(.int (fBuf q3 (0 : Int32) W0)), (.int (fBuf q4 (0 : Int32) W1)), (.int (fBuf q5 (0 : Int32) W2))]) :: (a165, PSo Z (.ref ot168) (.ref owd171) (.ref osh172) (.ref obt173) (iI 1) (.ref opk174) (.ref osd175) (iI 0)) :: (opk174, Own.ArrC Z .long [(jJ 0)]) :: (owd171, Own.ArrC Z .int [(iI 0), (iI 0), (iI 0)]) :: (osh172, Own.ArrC Z .int [(.int (0 : Nat).toInt32), (.int (0 + b0).toInt32), (.int (0 + b0 + b1).toInt32)]) :: (osd175, Own.ArrC Z .long (List.replicate 64 (Value.long (0 : Int64)))) :: (ot168, STo Z (.ref ra169) (.ref rb170) (iI 0)) :: (ra169, Own.ArrC Z .long (List.replicate 1024 (Value.long (0 : Int64)))) :: (obt173, Own.ArrC Z .int [(.int b0.toInt32), (.int b1.toInt32), (.int b2.toInt32)]) :: (a1, Own.ArrC Z .int [(.int W0), (.int W1), (.int W2)]) :: (a162, Own.ArrC Z .int [(iI 0), (iI 0), (iI 0)]) :: (a159, Own.ArrC Z .int [(iI 0), (iI 0), (iI 0)]) :: (a19, Own.ArrC Z .int [(.int (fBuf q3 (32 : Int32) W0)), (.int (fBuf q4 (32 : Int32) W1)), (.int (fBuf q5 (32 : Int32) W2))]) :: []) := O180.pick 8 rfl
      have O182 : Own.Owns n0 h178 ((ra169, Own.ArrC Z .long (List.replicate 1024 (Value.long (0 : Int64)))) :: (rb170, Own.ArrC Z .int ((fl 1024).map Value.int)) :: (a10, Own.ArrC Z .int [(.int (fBuf q3 (0 : Int32) W0)), (.int (fBuf q4 (0 : Int32) W1)), (.int (fBuf q5 (0 : Int32) W2))]) :: (a165, PSo Z (.ref ot168) (.ref owd171) (.ref osh172) (.ref obt173) (iI 1) (.ref opk174) (.ref osd175) (iI 0)) :: (opk174, Own.ArrC Z .long [(jJ 0)]) :: (owd171, Own.ArrC Z .int [(iI 0), (iI 0), (iI 0)]) :: (osh172, Own.ArrC Z .int [(.int (0 : Nat).toInt32), (.int (0 + b0).toInt32), (.int (0 + b0 + b1).toInt32)]) :: (osd175, Own.ArrC Z .long (List.replicate 64 (Value.long (0 : Int64)))) :: (ot168, STo Z (.ref ra169) (.ref rb170) (iI 0)) :: (obt173, Own.ArrC Z .int [(.int b0.toInt32), (.int b1.toInt32), (.int b2.toInt32)]) :: (a1, Own.ArrC Z .int [(.int W0), (.int W1), (.int W2)]) :: (a162, Own.ArrC Z .int [(iI 0), (iI 0), (iI 0)]) :: (a159, Own.ArrC Z .int [(iI 0), (iI 0), (iI 0)]) :: (a19, Own.ArrC Z .int [(.int (fBuf q3 (32 : Int32) W0)), (.int (fBuf q4 (32 : Int32) W1)), (.int (fBuf q5 (32 : Int32) W2))]) :: []) := O181.pick 8 rfl
      have O183 : Own.Owns n0 h178 ((ot168, STo Z (.ref ra169) (.ref rb170) (iI 0)) :: (ra169, Own.ArrC Z .long (List.replicate 1024 (Value.long (0 : Int64)))) :: (rb170, Own.ArrC Z .int ((fl 1024).map Value.int)) :: (a10, Own.ArrC Z .int [(.int (fBuf q3 (0 : Int32) W0)), (.int (fBuf q4 (0 : Int32) W1)), (.int (fBuf q5 (0 : Int32) W2))]) :: (a165, PSo Z (.ref ot168) (.ref owd171) (.ref osh172) (.ref obt173) (iI 1) (.ref opk174) (.ref osd175) (iI 0)) :: (opk174, Own.ArrC Z .long [(jJ 0)]) :: (owd171, Own.ArrC Z .int [(iI 0), (iI 0), (iI 0)]) :: (osh172, Own.ArrC Z .int [(.int (0 : Nat).toInt32), (.int (0 + b0).toInt32), (.int (0 + b0 + b1).toInt32)]) :: (osd175, Own.ArrC Z .long (List.replicate 64 (Value.long (0 : Int64)))) :: (obt173, Own.ArrC Z .int [(.int b0.toInt32), (.int b1.toInt32), (.int b2.toInt32)]) :: (a1, Own.ArrC Z .int [(.int W0), (.int W1), (.int W2)]) :: (a162, Own.ArrC Z .int [(iI 0), (iI 0), (iI 0)]) :: (a159, Own.ArrC Z .int [(iI 0), (iI 0), (iI 0)]) :: (a19, Own.ArrC Z .int [(.int (fBuf q3 (32 : Int32) W0)), (.int (fBuf q4 (32 : Int32) W1)), (.int (fBuf q5 (32 : Int32) W2))]) :: []) := O182.pick 8 rfl
      have O184 : Own.Owns n0 h178 ((osd175, Own.ArrC Z .long (List.replicate 64 (Value.long (0 : Int64)))) :: (ot168, STo Z (.ref ra169) (.ref rb170) (iI 0)) :: (ra169, Own.ArrC Z .long (List.replicate 1024 (Value.long (0 : Int64)))) :: (rb170, Own.ArrC Z .int ((fl 1024).map Value.int)) :: (a10, Own.ArrC Z .int [(.int (fBuf q3 (0 : Int32) W0)), (.int (fBuf q4 (0 : Int32) W1)), (.int (fBuf q5 (0 : Int32) W2))]) :: (a165, PSo Z (.ref ot168) (.ref owd171) (.ref osh172) (.ref obt173) (iI 1) (.ref opk174) (.ref osd175) (iI 0)) :: (opk174, Own.ArrC Z .long [(jJ 0)]) :: (owd171, Own.ArrC Z .int [(iI 0), (iI 0), (iI 0)]) :: (osh172, Own.ArrC Z .int [(.int (0 : Nat).toInt32), (.int (0 + b0).toInt32), (.int (0 + b0 + b1).toInt32)]) :: (obt173, Own.ArrC Z .int [(.int b0.toInt32), (.int b1.toInt32), (.int b2.toInt32)]) :: (a1, Own.ArrC Z .int [(.int W0), (.int W1), (.int W2)]) :: (a162, Own.ArrC Z .int [(iI 0), (iI 0), (iI 0)]) :: (a159, Own.ArrC Z .int [(iI 0), (iI 0), (iI 0)]) :: (a19, Own.ArrC Z .int [(.int (fBuf q3 (32 : Int32) W0)), (.int (fBuf q4 (32 : Int32) W1)), (.int (fBuf q5 (32 : Int32) W2))]) :: []) := O183.pick 8 rfl
      have O185 : Own.Owns n0 h178 ((osh172, Own.ArrC Z .int [(.int (0 : Nat).toInt32), (.int (0 + b0).toInt32), (.int (0 + b0 + b1).toInt32)]) :: (osd175, Own.ArrC Z .long (List.replicate 64 (Value.long (0 : Int64)))) :: (ot168, STo Z (.ref ra169) (.ref rb170) (iI 0)) :: (ra169, Own.ArrC Z .long (List.replicate 1024 (Value.long (0 : Int64)))) :: (rb170, Own.ArrC Z .int ((fl 1024).map Value.int)) :: (a10, Own.ArrC Z .int [(.int (fBuf q3 (0 : Int32) W0)), (.int (fBuf q4 (0 : Int32) W1)), (.int (fBuf q5 (0 : Int32) W2))]) :: (a165, PSo Z (.ref ot168) (.ref owd171) (.ref osh172) (.ref obt173) (iI 1) (.ref opk174) (.ref osd175) (iI 0)) :: (opk174, Own.ArrC Z .long [(jJ 0)]) :: (owd171, Own.ArrC Z .int [(iI 0), (iI 0), (iI 0)]) :: (obt173, Own.ArrC Z .int [(.int b0.toInt32), (.int b1.toInt32), (.int b2.toInt32)]) :: (a1, Own.ArrC Z .int [(.int W0), (.int W1), (.int W2)]) :: (a162, Own.ArrC Z .int [(iI 0), (iI 0), (iI 0)]) :: (a159, Own.ArrC Z .int [(iI 0), (iI 0), (iI 0)]) :: (a19, Own.ArrC Z .int [(.int (fBuf q3 (32 : Int32) W0)), (.int (fBuf q4 (32 : Int32) W1)), (.int (fBuf q5 (32 : Int32) W2))]) :: []) := O184.pick 8 rfl
      have O186 : Own.Owns n0 h178 ((owd171, Own.ArrC Z .int [(iI 0), (iI 0), (iI 0)]) :: (osh172, Own.ArrC Z .int [(.int (0 : Nat).toInt32), (.int (0 + b0).toInt32), (.int (0 + b0 + b1).toInt32)]) :: (osd175, Own.ArrC Z .long (List.replicate 64 (Value.long (0 : Int64)))) :: (ot168, STo Z (.ref ra169) (.ref rb170) (iI 0)) :: (ra169, Own.ArrC Z .long (List.replicate 1024 (Value.long (0 : Int64)))) :: (rb170, Own.ArrC Z .int ((fl 1024).map Value.int)) :: (a10, Own.ArrC Z .int [(.int (fBuf q3 (0 : Int32) W0)), (.int (fBuf q4 (0 : Int32) W1)), (.int (fBuf q5 (0 : Int32) W2))]) :: (a165, PSo Z (.ref ot168) (.ref owd171) (.ref osh172) (.ref obt173) (iI 1) (.ref opk174) (.ref osd175) (iI 0)) :: (opk174, Own.ArrC Z .long [(jJ 0)]) :: (obt173, Own.ArrC Z .int [(.int b0.toInt32), (.int b1.toInt32), (.int b2.toInt32)]) :: (a1, Own.ArrC Z .int [(.int W0), (.int W1), (.int W2)]) :: (a162, Own.ArrC Z .int [(iI 0), (iI 0), (iI 0)]) :: (a159, Own.ArrC Z .int [(iI 0), (iI 0), (iI 0)]) :: (a19, Own.ArrC Z .int [(.int (fBuf q3 (32 : Int32) W0)), (.int (fBuf q4 (32 : Int32) W1)), (.int (fBuf q5 (32 : Int32) W2))]) :: []) := O185.pick 8 rfl
      have O187 : Own.Owns n0 h178 ((opk174, Own.ArrC Z .long [(jJ 0)]) :: (owd171, Own.ArrC Z .int [(iI 0), (iI 0), (iI 0)]) :: (osh172, Own.ArrC Z .int [(.int (0 : Nat).toInt32), (.int (0 + b0).toInt32), (.int (0 + b0 + b1).toInt32)]) :: (osd175, Own.ArrC Z .long (List.replicate 64 (Value.long (0 : Int64)))) :: (ot168, STo Z (.ref ra169) (.ref rb170) (iI 0)) :: (ra169, Own.ArrC Z .long (List.replicate 1024 (Value.long (0 : Int64)))) :: (rb170, Own.ArrC Z .int ((fl 1024).map Value.int)) :: (a10, Own.ArrC Z .int [(.int (fBuf q3 (0 : Int32) W0)), (.int (fBuf q4 (0 : Int32) W1)), (.int (fBuf q5 (0 : Int32) W2))]) :: (a165, PSo Z (.ref ot168) (.ref owd171) (.ref osh172) (.ref obt173) (iI 1) (.ref opk174) (.ref osd175) (iI 0)) :: (obt173, Own.ArrC Z .int [(.int b0.toInt32), (.int b1.toInt32), (.int b2.toInt32)]) :: (a1, Own.ArrC Z .int [(.int W0), (.int W1), (.int W2)]) :: (a162, Own.ArrC Z .int [(iI 0), (iI 0), (iI 0)]) :: (a159, Own.ArrC Z .int [(iI 0), (iI 0), (iI 0)]) :: (a19, Own.ArrC Z .int [(.int (fBuf q3 (32 : Int32) W0)), (.int (fBuf q4 (32 : Int32) W1)), (.int (fBuf q5 (32 : Int32) W2))]) :: []) := O186.pick 8 rfl
      have O188 : Own.Owns n0 h178 ((a165, PSo Z (.ref ot168) (.ref owd171) (.ref osh172) (.ref obt173) (iI 1) (.ref opk174) (.ref osd175) (iI 0)) :: (opk174, Own.ArrC Z .long [(jJ 0)]) :: (owd171, Own.ArrC Z .int [(iI 0), (iI 0), (iI 0)]) :: (osh172, Own.ArrC Z .int [(.int (0 : Nat).toInt32), (.int (0 + b0).toInt32), (.int (0 + b0 + b1).toInt32)]) :: (osd175, Own.ArrC Z .long (List.replicate 64 (Value.long (0 : Int64)))) :: (ot168, STo Z (.ref ra169) (.ref rb170) (iI 0)) :: (ra169, Own.ArrC Z .long (List.replicate 1024 (Value.long (0 : Int64)))) :: (rb170, Own.ArrC Z .int ((fl 1024).map Value.int)) :: (a10, Own.ArrC Z .int [(.int (fBuf q3 (0 : Int32) W0)), (.int (fBuf q4 (0 : Int32) W1)), (.int (fBuf q5 (0 : Int32) W2))]) :: (obt173, Own.ArrC Z .int [(.int b0.toInt32), (.int b1.toInt32), (.int b2.toInt32)]) :: (a1, Own.ArrC Z .int [(.int W0), (.int W1), (.int W2)]) :: (a162, Own.ArrC Z .int [(iI 0), (iI 0), (iI 0)]) :: (a159, Own.ArrC Z .int [(iI 0), (iI 0), (iI 0)]) :: (a19, Own.ArrC Z .int [(.int (fBuf q3 (32 : Int32) W0)), (.int (fBuf q4 (32 : Int32) W1)), (.int (fBuf q5 (32 : Int32) W2))]) :: []) := O187.pick 8 rfl
      refine Own.callV hx hZ hown (O188.exa (i := 0) rfl) (hw _ (wm 56 rfl)) (hw _ (wm 57 rfl)) (hw _ (wm 59 rfl)) (hw _ (wm 58 rfl)) (hw _ (wm 11 rfl)) (hw _ (wm 60 rfl)) (by decide) pd11 (argsL := [(.ref a10)]) (rest := []) rfl (W := 0) (Nat.le_of_eq rfl) (rm := ({ frames := 3, cells := 0, slots := 0, locals := 45 } : Room)) (by decide) (by decide) (by decide) (by decide) (k' := 14) (n' := 2148) rfl rfl (by rw [hml]; rfl) [(.ref a10), (.ref a165)] rfl (hb hby at_180) (pc' := 183) rfl (rm9_10 l Z a0 hw a165 a10 h178 n0 ot168 ra169 rb170 owd171 osh172 obt173 opk174 osd175 (0 : Int64) (fBuf q3 (0 : Int32) W0) (fBuf q4 (0 : Int32) W1) (fBuf q5 (0 : Int32) W2) 0 (0 + b0) (0 + b0 + b1) (0 : Int32) (List.replicate 64 (Value.long (0 : Int64))) (List.replicate 1024 (Value.long (0 : Int64))) (fl 1024) List.length_replicate List.length_replicate (fl_len (Nat.le_refl _)) fl_count (by decide) ((obt173, Own.ArrC Z .int [(.int b0.toInt32), (.int b1.toInt32), (.int b2.toInt32)]) :: (a1, Own.ArrC Z .int [(.int W0), (.int W1), (.int W2)]) :: (a162, Own.ArrC Z .int [(iI 0), (iI 0), (iI 0)]) :: (a159, Own.ArrC Z .int [(iI 0), (iI 0), (iI 0)]) :: (a19, Own.ArrC Z .int [(.int (fBuf q3 (32 : Int32) W0)), (.int (fBuf q4 (32 : Int32) W1)), (.int (fBuf q5 (32 : Int32) W2))]) :: []) O188) ?_
      rintro _ h189 ⟨SL1, SM1, TB1, rfl, hL1, hU10, hlo1, hM1, hT1, hn1, O190⟩
      show Own.Goes _ _ _ _ _ _ _ _ _ _ _ _ _ _ _ _ _ (mkF m 183 #[.val (.int p0), .val (.int p1), .val (.int p2), .val (.long q3), .second, .val (.long q4), .second, .val (.long q5), .second, .val (.int W0), .val (.int W1), .val (.int W2), .val (.ref a1), .val (.ref a10), .val (.ref a19), .val (.int (0 : Int32)), .val (.ref a159), .val (.ref a162), .val (.ref a165)] [(.int (0 : Int32))])
      refine Own.pop hx (hb hby at_183) rfl rfl ?_
      refine Own.iload hx (0 : Int32) (hb hby at_184) rfl rfl ?_
      have hc191 : (0 : Int32) = (0 : Int32) := by decide
      refine Own.ifFn hx (Own.z_ne (0 : Int32)) (hb hby at_186) (pcN := 189) rfl (by decide) (pcT := 197) rfl (fun q => absurd hc191 q) (fun _ => ?_)
      refine Own.aload hx (.ref a165) (hb hby at_189) rfl rfl rfl ?_
      refine Own.aload hx (.ref a19) (hb hby at_191) rfl rfl rfl ?_
      have O193 : Own.Owns n0 h189 ((a19, Own.ArrC Z .int [(.int (fBuf q3 (32 : Int32) W0)), (.int (fBuf q4 (32 : Int32) W1)), (.int (fBuf q5 (32 : Int32) W2))]) :: (a165, PSo Z (.ref ot168) (.ref owd171) (.ref osh172) (.ref obt173) (iI 1) (.ref opk174) (.ref osd175) (iI 1)) :: (opk174, Own.ArrC Z .long [(.long (pkA (fBuf q3 (0 : Int32) W0) (fBuf q4 (0 : Int32) W1) (fBuf q5 (0 : Int32) W2) 0 (0 + b0) (0 + b0 + b1)))]) :: (owd171, Own.ArrC Z .int [(iI 0), (iI 0), (iI 0)]) :: (osh172, Own.ArrC Z .int [(.int (0 : Nat).toInt32), (.int (0 + b0).toInt32), (.int (0 + b0 + b1).toInt32)]) :: (osd175, Own.ArrC Z .long SL1) :: (ot168, STo Z (.ref ra169) (.ref rb170) (.int ((0 : Int32) + (1 : Int32)))) :: (ra169, Own.ArrC Z .long SM1) :: (rb170, Own.ArrC Z .int (TB1.map Value.int)) :: (a10, Own.ArrC Z .int [(.int (fBuf q3 (0 : Int32) W0)), (.int (fBuf q4 (0 : Int32) W1)), (.int (fBuf q5 (0 : Int32) W2))]) :: (obt173, Own.ArrC Z .int [(.int b0.toInt32), (.int b1.toInt32), (.int b2.toInt32)]) :: (a1, Own.ArrC Z .int [(.int W0), (.int W1), (.int W2)]) :: (a162, Own.ArrC Z .int [(iI 0), (iI 0), (iI 0)]) :: (a159, Own.ArrC Z .int [(iI 0), (iI 0), (iI 0)]) :: []) := O190.pick 13 rfl
      have O194 : Own.Owns n0 h189 ((rb170, Own.ArrC Z .int (TB1.map Value.int)) :: (a19, Own.ArrC Z .int [(.int (fBuf q3 (32 : Int32) W0)), (.int (fBuf q4 (32 : Int32) W1)), (.int (fBuf q5 (32 : Int32) W2))]) :: (a165, PSo Z (.ref ot168) (.ref owd171) (.ref osh172) (.ref obt173) (iI 1) (.ref opk174) (.ref osd175) (iI 1)) :: (opk174, Own.ArrC Z .long [(.long (pkA (fBuf q3 (0 : Int32) W0) (fBuf q4 (0 : Int32) W1) (fBuf q5 (0 : Int32) W2) 0 (0 + b0) (0 + b0 + b1)))]) :: (owd171, Own.ArrC Z .int [(iI 0), (iI 0), (iI 0)]) :: (osh172, Own.ArrC Z .int [(.int (0 : Nat).toInt32), (.int (0 + b0).toInt32), (.int (0 + b0 + b1).toInt32)]) :: (osd175, Own.ArrC Z .long SL1) :: (ot168, STo Z (.ref ra169) (.ref rb170) (.int ((0 : Int32) + (1 : Int32)))) :: (ra169, Own.ArrC Z .long SM1) :: (a10, Own.ArrC Z .int [(.int (fBuf q3 (0 : Int32) W0)), (.int (fBuf q4 (0 : Int32) W1)), (.int (fBuf q5 (0 : Int32) W2))]) :: (obt173, Own.ArrC Z .int [(.int b0.toInt32), (.int b1.toInt32), (.int b2.toInt32)]) :: (a1, Own.ArrC Z .int [(.int W0), (.int W1), (.int W2)]) :: (a162, Own.ArrC Z .int [(iI 0), (iI 0), (iI 0)]) :: (a159, Own.ArrC Z .int [(iI 0), (iI 0), (iI 0)]) :: []) := O193.pick 8 rfl
      have O195 : Own.Owns n0 h189 ((ra169, Own.ArrC Z .long SM1) :: (rb170, Own.ArrC Z .int (TB1.map Value.int)) :: (a19, Own.ArrC Z .int [(.int (fBuf q3 (32 : Int32) W0)), (.int (fBuf q4 (32 : Int32) W1)), (.int (fBuf q5 (32 : Int32) W2))]) :: (a165, PSo Z (.ref ot168) (.ref owd171) (.ref osh172) (.ref obt173) (iI 1) (.ref opk174) (.ref osd175) (iI 1)) :: (opk174, Own.ArrC Z .long [(.long (pkA (fBuf q3 (0 : Int32) W0) (fBuf q4 (0 : Int32) W1) (fBuf q5 (0 : Int32) W2) 0 (0 + b0) (0 + b0 + b1)))]) :: (owd171, Own.ArrC Z .int [(iI 0), (iI 0), (iI 0)]) :: (osh172, Own.ArrC Z .int [(.int (0 : Nat).toInt32), (.int (0 + b0).toInt32), (.int (0 + b0 + b1).toInt32)]) :: (osd175, Own.ArrC Z .long SL1) :: (ot168, STo Z (.ref ra169) (.ref rb170) (.int ((0 : Int32) + (1 : Int32)))) :: (a10, Own.ArrC Z .int [(.int (fBuf q3 (0 : Int32) W0)), (.int (fBuf q4 (0 : Int32) W1)), (.int (fBuf q5 (0 : Int32) W2))]) :: (obt173, Own.ArrC Z .int [(.int b0.toInt32), (.int b1.toInt32), (.int b2.toInt32)]) :: (a1, Own.ArrC Z .int [(.int W0), (.int W1), (.int W2)]) :: (a162, Own.ArrC Z .int [(iI 0), (iI 0), (iI 0)]) :: (a159, Own.ArrC Z .int [(iI 0), (iI 0), (iI 0)]) :: []) := O194.pick 8 rfl
      have O196 : Own.Owns n0 h189 ((ot168, STo Z (.ref ra169) (.ref rb170) (.int ((0 : Int32) + (1 : Int32)))) :: (ra169, Own.ArrC Z .long SM1) :: (rb170, Own.ArrC Z .int (TB1.map Value.int)) :: (a19, Own.ArrC Z .int [(.int (fBuf q3 (32 : Int32) W0)), (.int (fBuf q4 (32 : Int32) W1)), (.int (fBuf q5 (32 : Int32) W2))]) :: (a165, PSo Z (.ref ot168) (.ref owd171) (.ref osh172) (.ref obt173) (iI 1) (.ref opk174) (.ref osd175) (iI 1)) :: (opk174, Own.ArrC Z .long [(.long (pkA (fBuf q3 (0 : Int32) W0) (fBuf q4 (0 : Int32) W1) (fBuf q5 (0 : Int32) W2) 0 (0 + b0) (0 + b0 + b1)))]) :: (owd171, Own.ArrC Z .int [(iI 0), (iI 0), (iI 0)]) :: (osh172, Own.ArrC Z .int [(.int (0 : Nat).toInt32), (.int (0 + b0).toInt32), (.int (0 + b0 + b1).toInt32)]) :: (osd175, Own.ArrC Z .long SL1) :: (a10, Own.ArrC Z .int [(.int (fBuf q3 (0 : Int32) W0)), (.int (fBuf q4 (0 : Int32) W1)), (.int (fBuf q5 (0 : Int32) W2))]) :: (obt173, Own.ArrC Z .int [(.int b0.toInt32), (.int b1.toInt32), (.int b2.toInt32)]) :: (a1, Own.ArrC Z .int [(.int W0), (.int W1), (.int W2)]) :: (a162, Own.ArrC Z .int [(iI 0), (iI 0), (iI 0)]) :: (a159, Own.ArrC Z .int [(iI 0), (iI 0), (iI 0)]) :: []) := O195.pick 8 rfl
      have O197 : Own.Owns n0 h189 ((osd175, Own.ArrC Z .long SL1) :: (ot168, STo Z (.ref ra169) (.ref rb170) (.int ((0 : Int32) + (1 : Int32)))) :: (ra169, Own.ArrC Z .long SM1) :: (rb170, Own.ArrC Z .int (TB1.map Value.int)) :: (a19, Own.ArrC Z .int [(.int (fBuf q3 (32 : Int32) W0)), (.int (fBuf q4 (32 : Int32) W1)), (.int (fBuf q5 (32 : Int32) W2))]) :: (a165, PSo Z (.ref ot168) (.ref owd171) (.ref osh172) (.ref obt173) (iI 1) (.ref opk174) (.ref osd175) (iI 1)) :: (opk174, Own.ArrC Z .long [(.long (pkA (fBuf q3 (0 : Int32) W0) (fBuf q4 (0 : Int32) W1) (fBuf q5 (0 : Int32) W2) 0 (0 + b0) (0 + b0 + b1)))]) :: (owd171, Own.ArrC Z .int [(iI 0), (iI 0), (iI 0)]) :: (osh172, Own.ArrC Z .int [(.int (0 : Nat).toInt32), (.int (0 + b0).toInt32), (.int (0 + b0 + b1).toInt32)]) :: (a10, Own.ArrC Z .int [(.int (fBuf q3 (0 : Int32) W0)), (.int (fBuf q4 (0 : Int32) W1)), (.int (fBuf q5 (0 : Int32) W2))]) :: (obt173, Own.ArrC Z .int [(.int b0.toInt32), (.int b1.toInt32), (.int b2.toInt32)]) :: (a1, Own.ArrC Z .int [(.int W0), (.int W1), (.int W2)]) :: (a162, Own.ArrC Z .int [(iI 0), (iI 0), (iI 0)]) :: (a159, Own.ArrC Z .int [(iI 0), (iI 0), (iI 0)]) :: []) := O196.pick 8 rfl
      have O198 : Own.Owns n0 h189 ((osh172, Own.ArrC Z .int [(.int (0 : Nat).toInt32), (.int (0 + b0).toInt32), (.int (0 + b0 + b1).toInt32)]) :: (osd175, Own.ArrC Z .long SL1) :: (ot168, STo Z (.ref ra169) (.ref rb170) (.int ((0 : Int32) + (1 : Int32)))) :: (ra169, Own.ArrC Z .long SM1) :: (rb170, Own.ArrC Z .int (TB1.map Value.int)) :: (a19, Own.ArrC Z .int [(.int (fBuf q3 (32 : Int32) W0)), (.int (fBuf q4 (32 : Int32) W1)), (.int (fBuf q5 (32 : Int32) W2))]) :: (a165, PSo Z (.ref ot168) (.ref owd171) (.ref osh172) (.ref obt173) (iI 1) (.ref opk174) (.ref osd175) (iI 1)) :: (opk174, Own.ArrC Z .long [(.long (pkA (fBuf q3 (0 : Int32) W0) (fBuf q4 (0 : Int32) W1) (fBuf q5 (0 : Int32) W2) 0 (0 + b0) (0 + b0 + b1)))]) :: (owd171, Own.ArrC Z .int [(iI 0), (iI 0), (iI 0)]) :: (a10, Own.ArrC Z .int [(.int (fBuf q3 (0 : Int32) W0)), (.int (fBuf q4 (0 : Int32) W1)), (.int (fBuf q5 (0 : Int32) W2))]) :: (obt173, Own.ArrC Z .int [(.int b0.toInt32), (.int b1.toInt32), (.int b2.toInt32)]) :: (a1, Own.ArrC Z .int [(.int W0), (.int W1), (.int W2)]) :: (a162, Own.ArrC Z .int [(iI 0), (iI 0), (iI 0)]) :: (a159, Own.ArrC Z .int [(iI 0), (iI 0), (iI 0)]) :: []) := O197.pick 8 rfl
      have O199 : Own.Owns n0 h189 ((owd171, Own.ArrC Z .int [(iI 0), (iI 0), (iI 0)]) :: (osh172, Own.ArrC Z .int [(.int (0 : Nat).toInt32), (.int (0 + b0).toInt32), (.int (0 + b0 + b1).toInt32)]) :: (osd175, Own.ArrC Z .long SL1) :: (ot168, STo Z (.ref ra169) (.ref rb170) (.int ((0 : Int32) + (1 : Int32)))) :: (ra169, Own.ArrC Z .long SM1) :: (rb170, Own.ArrC Z .int (TB1.map Value.int)) :: (a19, Own.ArrC Z .int [(.int (fBuf q3 (32 : Int32) W0)), (.int (fBuf q4 (32 : Int32) W1)), (.int (fBuf q5 (32 : Int32) W2))]) :: (a165, PSo Z (.ref ot168) (.ref owd171) (.ref osh172) (.ref obt173) (iI 1) (.ref opk174) (.ref osd175) (iI 1)) :: (opk174, Own.ArrC Z .long [(.long (pkA (fBuf q3 (0 : Int32) W0) (fBuf q4 (0 : Int32) W1) (fBuf q5 (0 : Int32) W2) 0 (0 + b0) (0 + b0 + b1)))]) :: (a10, Own.ArrC Z .int [(.int (fBuf q3 (0 : Int32) W0)), (.int (fBuf q4 (0 : Int32) W1)), (.int (fBuf q5 (0 : Int32) W2))]) :: (obt173, Own.ArrC Z .int [(.int b0.toInt32), (.int b1.toInt32), (.int b2.toInt32)]) :: (a1, Own.ArrC Z .int [(.int W0), (.int W1), (.int W2)]) :: (a162, Own.ArrC Z .int [(iI 0), (iI 0), (iI 0)]) :: (a159, Own.ArrC Z .int [(iI 0), (iI 0), (iI 0)]) :: []) := O198.pick 8 rfl
      have O200 : Own.Owns n0 h189 ((opk174, Own.ArrC Z .long [(.long (pkA (fBuf q3 (0 : Int32) W0) (fBuf q4 (0 : Int32) W1) (fBuf q5 (0 : Int32) W2) 0 (0 + b0) (0 + b0 + b1)))]) :: (owd171, Own.ArrC Z .int [(iI 0), (iI 0), (iI 0)]) :: (osh172, Own.ArrC Z .int [(.int (0 : Nat).toInt32), (.int (0 + b0).toInt32), (.int (0 + b0 + b1).toInt32)]) :: (osd175, Own.ArrC Z .long SL1) :: (ot168, STo Z (.ref ra169) (.ref rb170) (.int ((0 : Int32) + (1 : Int32)))) :: (ra169, Own.ArrC Z .long SM1) :: (rb170, Own.ArrC Z .int (TB1.map Value.int)) :: (a19, Own.ArrC Z .int [(.int (fBuf q3 (32 : Int32) W0)), (.int (fBuf q4 (32 : Int32) W1)), (.int (fBuf q5 (32 : Int32) W2))]) :: (a165, PSo Z (.ref ot168) (.ref owd171) (.ref osh172) (.ref obt173) (iI 1) (.ref opk174) (.ref osd175) (iI 1)) :: (a10, Own.ArrC Z .int [(.int (fBuf q3 (0 : Int32) W0)), (.int (fBuf q4 (0 : Int32) W1)), (.int (fBuf q5 (0 : Int32) W2))]) :: (obt173, Own.ArrC Z .int [(.int b0.toInt32), (.int b1.toInt32), (.int b2.toInt32)]) :: (a1, Own.ArrC Z .int [(.int W0), (.int W1), (.int W2)]) :: (a162, Own.ArrC Z .int [(iI 0), (iI 0), (iI 0)]) :: (a159, Own.ArrC Z .int [(iI 0), (iI 0), (iI 0)]) :: []) := O199.pick 8 rfl
      have O201 : Own.Owns n0 h189 ((a165, PSo Z (.ref ot168) (.ref owd171) (.ref osh172) (.ref obt173) (iI 1) (.ref opk174) (.ref osd175) (iI 1)) :: (opk174, Own.ArrC Z .long [(.long (pkA (fBuf q3 (0 : Int32) W0) (fBuf q4 (0 : Int32) W1) (fBuf q5 (0 : Int32) W2) 0 (0 + b0) (0 + b0 + b1)))]) :: (owd171, Own.ArrC Z .int [(iI 0), (iI 0), (iI 0)]) :: (osh172, Own.ArrC Z .int [(.int (0 : Nat).toInt32), (.int (0 + b0).toInt32), (.int (0 + b0 + b1).toInt32)]) :: (osd175, Own.ArrC Z .long SL1) :: (ot168, STo Z (.ref ra169) (.ref rb170) (.int ((0 : Int32) + (1 : Int32)))) :: (ra169, Own.ArrC Z .long SM1) :: (rb170, Own.ArrC Z .int (TB1.map Value.int)) :: (a19, Own.ArrC Z .int [(.int (fBuf q3 (32 : Int32) W0)), (.int (fBuf q4 (32 : Int32) W1)), (.int (fBuf q5 (32 : Int32) W2))]) :: (a10, Own.ArrC Z .int [(.int (fBuf q3 (0 : Int32) W0)), (.int (fBuf q4 (0 : Int32) W1)), (.int (fBuf q5 (0 : Int32) W2))]) :: (obt173, Own.ArrC Z .int [(.int b0.toInt32), (.int b1.toInt32), (.int b2.toInt32)]) :: (a1, Own.ArrC Z .int [(.int W0), (.int W1), (.int W2)]) :: (a162, Own.ArrC Z .int [(iI 0), (iI 0), (iI 0)]) :: (a159, Own.ArrC Z .int [(iI 0), (iI 0), (iI 0)]) :: []) := O200.pick 8 rfl
      refine Own.callV hx hZ hown (O201.exa (i := 0) rfl) (hw _ (wm 56 rfl)) (hw _ (wm 57 rfl)) (hw _ (wm 59 rfl)) (hw _ (wm 58 rfl)) (hw _ (wm 11 rfl)) (hw _ (wm 60 rfl)) (by decide) pd11 (argsL := [(.ref a19)]) (rest := []) rfl (W := 0) (Nat.le_of_eq rfl) (rm := ({ frames := 3, cells := 0, slots := 0, locals := 45 } : Room)) (by decide) (by decide) (by decide) (by decide) (k' := 14) (n' := 2148) rfl rfl (by rw [hml]; rfl) [(.ref a19), (.ref a165)] rfl (hb hby at_193) (pc' := 196) rfl (rm9_11 l Z a0 hw a165 a19 h189 n0 ot168 ra169 rb170 owd171 osh172 obt173 opk174 osd175 (pkA (fBuf q3 (0 : Int32) W0) (fBuf q4 (0 : Int32) W1) (fBuf q5 (0 : Int32) W2) 0 (0 + b0) (0 + b0 + b1)) (fBuf q3 (32 : Int32) W0) (fBuf q4 (32 : Int32) W1) (fBuf q5 (32 : Int32) W2) 0 (0 + b0) (0 + b0 + b1) ((0 : Int32) + (1 : Int32)) SL1 SM1 TB1 hL1 hM1 hT1 hn1 (by decide) ((a10, Own.ArrC Z .int [(.int (fBuf q3 (0 : Int32) W0)), (.int (fBuf q4 (0 : Int32) W1)), (.int (fBuf q5 (0 : Int32) W2))]) :: (obt173, Own.ArrC Z .int [(.int b0.toInt32), (.int b1.toInt32), (.int b2.toInt32)]) :: (a1, Own.ArrC Z .int [(.int W0), (.int W1), (.int W2)]) :: (a162, Own.ArrC Z .int [(iI 0), (iI 0), (iI 0)]) :: (a159, Own.ArrC Z .int [(iI 0), (iI 0), (iI 0)]) :: []) O201) ?_
      rintro _ h202 ⟨SL2, SM2, TB2, rfl, hL2, hU20, hlo2, hM2, hT2, hn2, O203⟩
      show Own.Goes _ _ _ _ _ _ _ _ _ _ _ _ _ _ _ _ _ (mkF m 196 #[.val (.int p0), .val (.int p1), .val (.int p2), .val (.long q3), .second, .val (.long q4), .second, .val (.long q5), .second, .val (.int W0), .val (.int W1), .val (.int W2), .val (.ref a1), .val (.ref a10), .val (.ref a19), .val (.int (0 : Int32)), .val (.ref a159), .val (.ref a162), .val (.ref a165)] [(.int (1 : Int32))])
      refine Own.pop hx (hb hby at_196) rfl rfl ?_
      refine Own.aload hx (.ref a165) (hb hby at_197) rfl rfl rfl ?_
      refine Own.iconst hx (0 : Int32) (hb hby at_199) rfl (by decide) ?_
      refine Own.aload hx (.ref a159) (hb hby at_200) rfl rfl rfl ?_
      have O204 : Own.Owns n0 h202 ((a159, Own.ArrC Z .int [(iI 0), (iI 0), (iI 0)]) :: (a165, PSo Z (.ref ot168) (.ref owd171) (.ref osh172) (.ref obt173) (iI 1) (.ref opk174) (.ref osd175) (iI 2)) :: (opk174, Own.ArrC Z .long [(.long (pkA (fBuf q3 (32 : Int32) W0) (fBuf q4 (32 : Int32) W1) (fBuf q5 (32 : Int32) W2) 0 (0 + b0) (0 + b0 + b1)))]) :: (owd171, Own.ArrC Z .int [(iI 0), (iI 0), (iI 0)]) :: (osh172, Own.ArrC Z .int [(.int (0 : Nat).toInt32), (.int (0 + b0).toInt32), (.int (0 + b0 + b1).toInt32)]) :: (osd175, Own.ArrC Z .long SL2) :: (ot168, STo Z (.ref ra169) (.ref rb170) (.int (((0 : Int32) + (1 : Int32)) + (1 : Int32)))) :: (ra169, Own.ArrC Z .long SM2) :: (rb170, Own.ArrC Z .int (TB2.map Value.int)) :: (a19, Own.ArrC Z .int [(.int (fBuf q3 (32 : Int32) W0)), (.int (fBuf q4 (32 : Int32) W1)), (.int (fBuf q5 (32 : Int32) W2))]) :: (a10, Own.ArrC Z .int [(.int (fBuf q3 (0 : Int32) W0)), (.int (fBuf q4 (0 : Int32) W1)), (.int (fBuf q5 (0 : Int32) W2))]) :: (obt173, Own.ArrC Z .int [(.int b0.toInt32), (.int b1.toInt32), (.int b2.toInt32)]) :: (a1, Own.ArrC Z .int [(.int W0), (.int W1), (.int W2)]) :: (a162, Own.ArrC Z .int [(iI 0), (iI 0), (iI 0)]) :: []) := O203.pick 13 rfl
      have O205 : Own.Owns n0 h202 ((obt173, Own.ArrC Z .int [(.int b0.toInt32), (.int b1.toInt32), (.int b2.toInt32)]) :: (a159, Own.ArrC Z .int [(iI 0), (iI 0), (iI 0)]) :: (a165, PSo Z (.ref ot168) (.ref owd171) (.ref osh172) (.ref obt173) (iI 1) (.ref opk174) (.ref osd175) (iI 2)) :: (opk174, Own.ArrC Z .long [(.long (pkA (fBuf q3 (32 : Int32) W0) (fBuf q4 (32 : Int32) W1) (fBuf q5 (32 : Int32) W2) 0 (0 + b0) (0 + b0 + b1)))]) :: (owd171, Own.ArrC Z .int [(iI 0), (iI 0), (iI 0)]) :: (osh172, Own.ArrC Z .int [(.int (0 : Nat).toInt32), (.int (0 + b0).toInt32), (.int (0 + b0 + b1).toInt32)]) :: (osd175, Own.ArrC Z .long SL2) :: (ot168, STo Z (.ref ra169) (.ref rb170) (.int (((0 : Int32) + (1 : Int32)) + (1 : Int32)))) :: (ra169, Own.ArrC Z .long SM2) :: (rb170, Own.ArrC Z .int (TB2.map Value.int)) :: (a19, Own.ArrC Z .int [(.int (fBuf q3 (32 : Int32) W0)), (.int (fBuf q4 (32 : Int32) W1)), (.int (fBuf q5 (32 : Int32) W2))]) :: (a10, Own.ArrC Z .int [(.int (fBuf q3 (0 : Int32) W0)), (.int (fBuf q4 (0 : Int32) W1)), (.int (fBuf q5 (0 : Int32) W2))]) :: (a1, Own.ArrC Z .int [(.int W0), (.int W1), (.int W2)]) :: (a162, Own.ArrC Z .int [(iI 0), (iI 0), (iI 0)]) :: []) := O204.pick 11 rfl
      have O206 : Own.Owns n0 h202 ((osh172, Own.ArrC Z .int [(.int (0 : Nat).toInt32), (.int (0 + b0).toInt32), (.int (0 + b0 + b1).toInt32)]) :: (obt173, Own.ArrC Z .int [(.int b0.toInt32), (.int b1.toInt32), (.int b2.toInt32)]) :: (a159, Own.ArrC Z .int [(iI 0), (iI 0), (iI 0)]) :: (a165, PSo Z (.ref ot168) (.ref owd171) (.ref osh172) (.ref obt173) (iI 1) (.ref opk174) (.ref osd175) (iI 2)) :: (opk174, Own.ArrC Z .long [(.long (pkA (fBuf q3 (32 : Int32) W0) (fBuf q4 (32 : Int32) W1) (fBuf q5 (32 : Int32) W2) 0 (0 + b0) (0 + b0 + b1)))]) :: (owd171, Own.ArrC Z .int [(iI 0), (iI 0), (iI 0)]) :: (osd175, Own.ArrC Z .long SL2) :: (ot168, STo Z (.ref ra169) (.ref rb170) (.int (((0 : Int32) + (1 : Int32)) + (1 : Int32)))) :: (ra169, Own.ArrC Z .long SM2) :: (rb170, Own.ArrC Z .int (TB2.map Value.int)) :: (a19, Own.ArrC Z .int [(.int (fBuf q3 (32 : Int32) W0)), (.int (fBuf q4 (32 : Int32) W1)), (.int (fBuf q5 (32 : Int32) W2))]) :: (a10, Own.ArrC Z .int [(.int (fBuf q3 (0 : Int32) W0)), (.int (fBuf q4 (0 : Int32) W1)), (.int (fBuf q5 (0 : Int32) W2))]) :: (a1, Own.ArrC Z .int [(.int W0), (.int W1), (.int W2)]) :: (a162, Own.ArrC Z .int [(iI 0), (iI 0), (iI 0)]) :: []) := O205.pick 5 rfl
      have O207 : Own.Owns n0 h202 ((owd171, Own.ArrC Z .int [(iI 0), (iI 0), (iI 0)]) :: (osh172, Own.ArrC Z .int [(.int (0 : Nat).toInt32), (.int (0 + b0).toInt32), (.int (0 + b0 + b1).toInt32)]) :: (obt173, Own.ArrC Z .int [(.int b0.toInt32), (.int b1.toInt32), (.int b2.toInt32)]) :: (a159, Own.ArrC Z .int [(iI 0), (iI 0), (iI 0)]) :: (a165, PSo Z (.ref ot168) (.ref owd171) (.ref osh172) (.ref obt173) (iI 1) (.ref opk174) (.ref osd175) (iI 2)) :: (opk174, Own.ArrC Z .long [(.long (pkA (fBuf q3 (32 : Int32) W0) (fBuf q4 (32 : Int32) W1) (fBuf q5 (32 : Int32) W2) 0 (0 + b0) (0 + b0 + b1)))]) :: (osd175, Own.ArrC Z .long SL2) :: (ot168, STo Z (.ref ra169) (.ref rb170) (.int (((0 : Int32) + (1 : Int32)) + (1 : Int32)))) :: (ra169, Own.ArrC Z .long SM2) :: (rb170, Own.ArrC Z .int (TB2.map Value.int)) :: (a19, Own.ArrC Z .int [(.int (fBuf q3 (32 : Int32) W0)), (.int (fBuf q4 (32 : Int32) W1)), (.int (fBuf q5 (32 : Int32) W2))]) :: (a10, Own.ArrC Z .int [(.int (fBuf q3 (0 : Int32) W0)), (.int (fBuf q4 (0 : Int32) W1)), (.int (fBuf q5 (0 : Int32) W2))]) :: (a1, Own.ArrC Z .int [(.int W0), (.int W1), (.int W2)]) :: (a162, Own.ArrC Z .int [(iI 0), (iI 0), (iI 0)]) :: []) := O206.pick 5 rfl
      have O208 : Own.Owns n0 h202 ((osd175, Own.ArrC Z .long SL2) :: (owd171, Own.ArrC Z .int [(iI 0), (iI 0), (iI 0)]) :: (osh172, Own.ArrC Z .int [(.int (0 : Nat).toInt32), (.int (0 + b0).toInt32), (.int (0 + b0 + b1).toInt32)]) :: (obt173, Own.ArrC Z .int [(.int b0.toInt32), (.int b1.toInt32), (.int b2.toInt32)]) :: (a159, Own.ArrC Z .int [(iI 0), (iI 0), (iI 0)]) :: (a165, PSo Z (.ref ot168) (.ref owd171) (.ref osh172) (.ref obt173) (iI 1) (.ref opk174) (.ref osd175) (iI 2)) :: (opk174, Own.ArrC Z .long [(.long (pkA (fBuf q3 (32 : Int32) W0) (fBuf q4 (32 : Int32) W1) (fBuf q5 (32 : Int32) W2) 0 (0 + b0) (0 + b0 + b1)))]) :: (ot168, STo Z (.ref ra169) (.ref rb170) (.int (((0 : Int32) + (1 : Int32)) + (1 : Int32)))) :: (ra169, Own.ArrC Z .long SM2) :: (rb170, Own.ArrC Z .int (TB2.map Value.int)) :: (a19, Own.ArrC Z .int [(.int (fBuf q3 (32 : Int32) W0)), (.int (fBuf q4 (32 : Int32) W1)), (.int (fBuf q5 (32 : Int32) W2))]) :: (a10, Own.ArrC Z .int [(.int (fBuf q3 (0 : Int32) W0)), (.int (fBuf q4 (0 : Int32) W1)), (.int (fBuf q5 (0 : Int32) W2))]) :: (a1, Own.ArrC Z .int [(.int W0), (.int W1), (.int W2)]) :: (a162, Own.ArrC Z .int [(iI 0), (iI 0), (iI 0)]) :: []) := O207.pick 6 rfl
      have O209 : Own.Owns n0 h202 ((a165, PSo Z (.ref ot168) (.ref owd171) (.ref osh172) (.ref obt173) (iI 1) (.ref opk174) (.ref osd175) (iI 2)) :: (osd175, Own.ArrC Z .long SL2) :: (owd171, Own.ArrC Z .int [(iI 0), (iI 0), (iI 0)]) :: (osh172, Own.ArrC Z .int [(.int (0 : Nat).toInt32), (.int (0 + b0).toInt32), (.int (0 + b0 + b1).toInt32)]) :: (obt173, Own.ArrC Z .int [(.int b0.toInt32), (.int b1.toInt32), (.int b2.toInt32)]) :: (a159, Own.ArrC Z .int [(iI 0), (iI 0), (iI 0)]) :: (opk174, Own.ArrC Z .long [(.long (pkA (fBuf q3 (32 : Int32) W0) (fBuf q4 (32 : Int32) W1) (fBuf q5 (32 : Int32) W2) 0 (0 + b0) (0 + b0 + b1)))]) :: (ot168, STo Z (.ref ra169) (.ref rb170) (.int (((0 : Int32) + (1 : Int32)) + (1 : Int32)))) :: (ra169, Own.ArrC Z .long SM2) :: (rb170, Own.ArrC Z .int (TB2.map Value.int)) :: (a19, Own.ArrC Z .int [(.int (fBuf q3 (32 : Int32) W0)), (.int (fBuf q4 (32 : Int32) W1)), (.int (fBuf q5 (32 : Int32) W2))]) :: (a10, Own.ArrC Z .int [(.int (fBuf q3 (0 : Int32) W0)), (.int (fBuf q4 (0 : Int32) W1)), (.int (fBuf q5 (0 : Int32) W2))]) :: (a1, Own.ArrC Z .int [(.int W0), (.int W1), (.int W2)]) :: (a162, Own.ArrC Z .int [(iI 0), (iI 0), (iI 0)]) :: []) := O208.pick 5 rfl
      refine Own.callV hx hZ hown (O209.exa (i := 0) rfl) (hw _ (wm 95 rfl)) (hw _ (wm 96 rfl)) (hw _ (wm 98 rfl)) (hw _ (wm 97 rfl)) (hw _ (wm 11 rfl)) (hw _ (wm 99 rfl)) (by decide) pd12 (argsL := [(.int (0 : Int32)), (.ref a159)]) (rest := []) rfl (W := 0) (Nat.le_of_eq rfl) (rm := ({ frames := 0, cells := 0, slots := 0, locals := 0 } : Room)) (by decide) (by decide) (by decide) (by decide) (k' := 14) (n' := 2148) rfl rfl (by rw [hml]; rfl) [(.ref a159), (.int (0 : Int32)), (.ref a165)] rfl (hb hby at_202) (pc' := 205) rfl (rm16_10 l Z a0 hw a165 a159 h202 n0 ot168 ra169 rb170 owd171 osh172 obt173 opk174 osd175 (2 : Int32) 0 (0 + b0) (0 + b0 + b1) b0 b1 b2 SL2 (pkA (fBuf q3 (0 : Int32) W0) (fBuf q4 (0 : Int32) W1) (fBuf q5 (0 : Int32) W2) 0 (0 + b0) (0 + b0 + b1)) ((hlo2 0 (by decide)).trans hU10) ((opk174, Own.ArrC Z .long [(.long (pkA (fBuf q3 (32 : Int32) W0) (fBuf q4 (32 : Int32) W1) (fBuf q5 (32 : Int32) W2) 0 (0 + b0) (0 + b0 + b1)))]) :: (ot168, STo Z (.ref ra169) (.ref rb170) (.int (((0 : Int32) + (1 : Int32)) + (1 : Int32)))) :: (ra169, Own.ArrC Z .long SM2) :: (rb170, Own.ArrC Z .int (TB2.map Value.int)) :: (a19, Own.ArrC Z .int [(.int (fBuf q3 (32 : Int32) W0)), (.int (fBuf q4 (32 : Int32) W1)), (.int (fBuf q5 (32 : Int32) W2))]) :: (a10, Own.ArrC Z .int [(.int (fBuf q3 (0 : Int32) W0)), (.int (fBuf q4 (0 : Int32) W1)), (.int (fBuf q5 (0 : Int32) W2))]) :: (a1, Own.ArrC Z .int [(.int W0), (.int W1), (.int W2)]) :: (a162, Own.ArrC Z .int [(iI 0), (iI 0), (iI 0)]) :: []) O209) ?_
      rintro _ h210 ⟨rfl, O211⟩
      show Own.Goes _ _ _ _ _ _ _ _ _ _ _ _ _ _ _ _ _ (mkF m 205 #[.val (.int p0), .val (.int p1), .val (.int p2), .val (.long q3), .second, .val (.long q4), .second, .val (.long q5), .second, .val (.int W0), .val (.int W1), .val (.int W2), .val (.ref a1), .val (.ref a10), .val (.ref a19), .val (.int (0 : Int32)), .val (.ref a159), .val (.ref a162), .val (.ref a165)] [])
      refine Own.aload hx (.ref a165) (hb hby at_205) rfl rfl rfl ?_
      refine Own.iload hx (0 : Int32) (hb hby at_207) rfl rfl ?_
      have hc212 : (0 : Int32) = (0 : Int32) := by decide
      refine Own.ifF hx (Own.z_eq (0 : Int32)) (hb hby at_209) (pcN := 212) rfl (by decide) (pcT := 216) rfl (fun _ => ?_) (fun q => absurd hc212 q)
      refine Own.iconst hx (1 : Int32) (hb hby at_216) rfl (by decide) ?_
      refine Own.aload hx (.ref a162) (hb hby at_217) rfl rfl rfl ?_
      have O214 : Own.Owns n0 h210 ((a162, Own.ArrC Z .int [(iI 0), (iI 0), (iI 0)]) :: (a165, PSo Z (.ref ot168) (.ref owd171) (.ref osh172) (.ref obt173) (iI 1) (.ref opk174) (.ref osd175) (iI 2)) :: (osd175, Own.ArrC Z .long SL2) :: (owd171, Own.ArrC Z .int [(iI 0), (iI 0), (iI 0)]) :: (osh172, Own.ArrC Z .int [(.int (0 : Nat).toInt32), (.int (0 + b0).toInt32), (.int (0 + b0 + b1).toInt32)]) :: (obt173, Own.ArrC Z .int [(.int b0.toInt32), (.int b1.toInt32), (.int b2.toInt32)]) :: (a159, Own.ArrC Z .int [(.int (rdx (pkA (fBuf q3 (0 : Int32) W0) (fBuf q4 (0 : Int32) W1) (fBuf q5 (0 : Int32) W2) 0 (0 + b0) (0 + b0 + b1)) 0 b0)), (.int (rdx (pkA (fBuf q3 (0 : Int32) W0) (fBuf q4 (0 : Int32) W1) (fBuf q5 (0 : Int32) W2) 0 (0 + b0) (0 + b0 + b1)) (0 + b0) b1)), (.int (rdx (pkA (fBuf q3 (0 : Int32) W0) (fBuf q4 (0 : Int32) W1) (fBuf q5 (0 : Int32) W2) 0 (0 + b0) (0 + b0 + b1)) (0 + b0 + b1) b2))]) :: (opk174, Own.ArrC Z .long [(.long (pkA (fBuf q3 (32 : Int32) W0) (fBuf q4 (32 : Int32) W1) (fBuf q5 (32 : Int32) W2) 0 (0 + b0) (0 + b0 + b1)))]) :: (ot168, STo Z (.ref ra169) (.ref rb170) (.int (((0 : Int32) + (1 : Int32)) + (1 : Int32)))) :: (ra169, Own.ArrC Z .long SM2) :: (rb170, Own.ArrC Z .int (TB2.map Value.int)) :: (a19, Own.ArrC Z .int [(.int (fBuf q3 (32 : Int32) W0)), (.int (fBuf q4 (32 : Int32) W1)), (.int (fBuf q5 (32 : Int32) W2))]) :: (a10, Own.ArrC Z .int [(.int (fBuf q3 (0 : Int32) W0)), (.int (fBuf q4 (0 : Int32) W1)), (.int (fBuf q5 (0 : Int32) W2))]) :: (a1, Own.ArrC Z .int [(.int W0), (.int W1), (.int W2)]) :: []) := O211.pick 13 rfl
      have O215 : Own.Owns n0 h210 ((obt173, Own.ArrC Z .int [(.int b0.toInt32), (.int b1.toInt32), (.int b2.toInt32)]) :: (a162, Own.ArrC Z .int [(iI 0), (iI 0), (iI 0)]) :: (a165, PSo Z (.ref ot168) (.ref owd171) (.ref osh172) (.ref obt173) (iI 1) (.ref opk174) (.ref osd175) (iI 2)) :: (osd175, Own.ArrC Z .long SL2) :: (owd171, Own.ArrC Z .int [(iI 0), (iI 0), (iI 0)]) :: (osh172, Own.ArrC Z .int [(.int (0 : Nat).toInt32), (.int (0 + b0).toInt32), (.int (0 + b0 + b1).toInt32)]) :: (a159, Own.ArrC Z .int [(.int (rdx (pkA (fBuf q3 (0 : Int32) W0) (fBuf q4 (0 : Int32) W1) (fBuf q5 (0 : Int32) W2) 0 (0 + b0) (0 + b0 + b1)) 0 b0)), (.int (rdx (pkA (fBuf q3 (0 : Int32) W0) (fBuf q4 (0 : Int32) W1) (fBuf q5 (0 : Int32) W2) 0 (0 + b0) (0 + b0 + b1)) (0 + b0) b1)), (.int (rdx (pkA (fBuf q3 (0 : Int32) W0) (fBuf q4 (0 : Int32) W1) (fBuf q5 (0 : Int32) W2) 0 (0 + b0) (0 + b0 + b1)) (0 + b0 + b1) b2))]) :: (opk174, Own.ArrC Z .long [(.long (pkA (fBuf q3 (32 : Int32) W0) (fBuf q4 (32 : Int32) W1) (fBuf q5 (32 : Int32) W2) 0 (0 + b0) (0 + b0 + b1)))]) :: (ot168, STo Z (.ref ra169) (.ref rb170) (.int (((0 : Int32) + (1 : Int32)) + (1 : Int32)))) :: (ra169, Own.ArrC Z .long SM2) :: (rb170, Own.ArrC Z .int (TB2.map Value.int)) :: (a19, Own.ArrC Z .int [(.int (fBuf q3 (32 : Int32) W0)), (.int (fBuf q4 (32 : Int32) W1)), (.int (fBuf q5 (32 : Int32) W2))]) :: (a10, Own.ArrC Z .int [(.int (fBuf q3 (0 : Int32) W0)), (.int (fBuf q4 (0 : Int32) W1)), (.int (fBuf q5 (0 : Int32) W2))]) :: (a1, Own.ArrC Z .int [(.int W0), (.int W1), (.int W2)]) :: []) := O214.pick 5 rfl
      have O216 : Own.Owns n0 h210 ((osh172, Own.ArrC Z .int [(.int (0 : Nat).toInt32), (.int (0 + b0).toInt32), (.int (0 + b0 + b1).toInt32)]) :: (obt173, Own.ArrC Z .int [(.int b0.toInt32), (.int b1.toInt32), (.int b2.toInt32)]) :: (a162, Own.ArrC Z .int [(iI 0), (iI 0), (iI 0)]) :: (a165, PSo Z (.ref ot168) (.ref owd171) (.ref osh172) (.ref obt173) (iI 1) (.ref opk174) (.ref osd175) (iI 2)) :: (osd175, Own.ArrC Z .long SL2) :: (owd171, Own.ArrC Z .int [(iI 0), (iI 0), (iI 0)]) :: (a159, Own.ArrC Z .int [(.int (rdx (pkA (fBuf q3 (0 : Int32) W0) (fBuf q4 (0 : Int32) W1) (fBuf q5 (0 : Int32) W2) 0 (0 + b0) (0 + b0 + b1)) 0 b0)), (.int (rdx (pkA (fBuf q3 (0 : Int32) W0) (fBuf q4 (0 : Int32) W1) (fBuf q5 (0 : Int32) W2) 0 (0 + b0) (0 + b0 + b1)) (0 + b0) b1)), (.int (rdx (pkA (fBuf q3 (0 : Int32) W0) (fBuf q4 (0 : Int32) W1) (fBuf q5 (0 : Int32) W2) 0 (0 + b0) (0 + b0 + b1)) (0 + b0 + b1) b2))]) :: (opk174, Own.ArrC Z .long [(.long (pkA (fBuf q3 (32 : Int32) W0) (fBuf q4 (32 : Int32) W1) (fBuf q5 (32 : Int32) W2) 0 (0 + b0) (0 + b0 + b1)))]) :: (ot168, STo Z (.ref ra169) (.ref rb170) (.int (((0 : Int32) + (1 : Int32)) + (1 : Int32)))) :: (ra169, Own.ArrC Z .long SM2) :: (rb170, Own.ArrC Z .int (TB2.map Value.int)) :: (a19, Own.ArrC Z .int [(.int (fBuf q3 (32 : Int32) W0)), (.int (fBuf q4 (32 : Int32) W1)), (.int (fBuf q5 (32 : Int32) W2))]) :: (a10, Own.ArrC Z .int [(.int (fBuf q3 (0 : Int32) W0)), (.int (fBuf q4 (0 : Int32) W1)), (.int (fBuf q5 (0 : Int32) W2))]) :: (a1, Own.ArrC Z .int [(.int W0), (.int W1), (.int W2)]) :: []) := O215.pick 5 rfl
      have O217 : Own.Owns n0 h210 ((owd171, Own.ArrC Z .int [(iI 0), (iI 0), (iI 0)]) :: (osh172, Own.ArrC Z .int [(.int (0 : Nat).toInt32), (.int (0 + b0).toInt32), (.int (0 + b0 + b1).toInt32)]) :: (obt173, Own.ArrC Z .int [(.int b0.toInt32), (.int b1.toInt32), (.int b2.toInt32)]) :: (a162, Own.ArrC Z .int [(iI 0), (iI 0), (iI 0)]) :: (a165, PSo Z (.ref ot168) (.ref owd171) (.ref osh172) (.ref obt173) (iI 1) (.ref opk174) (.ref osd175) (iI 2)) :: (osd175, Own.ArrC Z .long SL2) :: (a159, Own.ArrC Z .int [(.int (rdx (pkA (fBuf q3 (0 : Int32) W0) (fBuf q4 (0 : Int32) W1) (fBuf q5 (0 : Int32) W2) 0 (0 + b0) (0 + b0 + b1)) 0 b0)), (.int (rdx (pkA (fBuf q3 (0 : Int32) W0) (fBuf q4 (0 : Int32) W1) (fBuf q5 (0 : Int32) W2) 0 (0 + b0) (0 + b0 + b1)) (0 + b0) b1)), (.int (rdx (pkA (fBuf q3 (0 : Int32) W0) (fBuf q4 (0 : Int32) W1) (fBuf q5 (0 : Int32) W2) 0 (0 + b0) (0 + b0 + b1)) (0 + b0 + b1) b2))]) :: (opk174, Own.ArrC Z .long [(.long (pkA (fBuf q3 (32 : Int32) W0) (fBuf q4 (32 : Int32) W1) (fBuf q5 (32 : Int32) W2) 0 (0 + b0) (0 + b0 + b1)))]) :: (ot168, STo Z (.ref ra169) (.ref rb170) (.int (((0 : Int32) + (1 : Int32)) + (1 : Int32)))) :: (ra169, Own.ArrC Z .long SM2) :: (rb170, Own.ArrC Z .int (TB2.map Value.int)) :: (a19, Own.ArrC Z .int [(.int (fBuf q3 (32 : Int32) W0)), (.int (fBuf q4 (32 : Int32) W1)), (.int (fBuf q5 (32 : Int32) W2))]) :: (a10, Own.ArrC Z .int [(.int (fBuf q3 (0 : Int32) W0)), (.int (fBuf q4 (0 : Int32) W1)), (.int (fBuf q5 (0 : Int32) W2))]) :: (a1, Own.ArrC Z .int [(.int W0), (.int W1), (.int W2)]) :: []) := O216.pick 5 rfl
      have O218 : Own.Owns n0 h210 ((osd175, Own.ArrC Z .long SL2) :: (owd171, Own.ArrC Z .int [(iI 0), (iI 0), (iI 0)]) :: (osh172, Own.ArrC Z .int [(.int (0 : Nat).toInt32), (.int (0 + b0).toInt32), (.int (0 + b0 + b1).toInt32)]) :: (obt173, Own.ArrC Z .int [(.int b0.toInt32), (.int b1.toInt32), (.int b2.toInt32)]) :: (a162, Own.ArrC Z .int [(iI 0), (iI 0), (iI 0)]) :: (a165, PSo Z (.ref ot168) (.ref owd171) (.ref osh172) (.ref obt173) (iI 1) (.ref opk174) (.ref osd175) (iI 2)) :: (a159, Own.ArrC Z .int [(.int (rdx (pkA (fBuf q3 (0 : Int32) W0) (fBuf q4 (0 : Int32) W1) (fBuf q5 (0 : Int32) W2) 0 (0 + b0) (0 + b0 + b1)) 0 b0)), (.int (rdx (pkA (fBuf q3 (0 : Int32) W0) (fBuf q4 (0 : Int32) W1) (fBuf q5 (0 : Int32) W2) 0 (0 + b0) (0 + b0 + b1)) (0 + b0) b1)), (.int (rdx (pkA (fBuf q3 (0 : Int32) W0) (fBuf q4 (0 : Int32) W1) (fBuf q5 (0 : Int32) W2) 0 (0 + b0) (0 + b0 + b1)) (0 + b0 + b1) b2))]) :: (opk174, Own.ArrC Z .long [(.long (pkA (fBuf q3 (32 : Int32) W0) (fBuf q4 (32 : Int32) W1) (fBuf q5 (32 : Int32) W2) 0 (0 + b0) (0 + b0 + b1)))]) :: (ot168, STo Z (.ref ra169) (.ref rb170) (.int (((0 : Int32) + (1 : Int32)) + (1 : Int32)))) :: (ra169, Own.ArrC Z .long SM2) :: (rb170, Own.ArrC Z .int (TB2.map Value.int)) :: (a19, Own.ArrC Z .int [(.int (fBuf q3 (32 : Int32) W0)), (.int (fBuf q4 (32 : Int32) W1)), (.int (fBuf q5 (32 : Int32) W2))]) :: (a10, Own.ArrC Z .int [(.int (fBuf q3 (0 : Int32) W0)), (.int (fBuf q4 (0 : Int32) W1)), (.int (fBuf q5 (0 : Int32) W2))]) :: (a1, Own.ArrC Z .int [(.int W0), (.int W1), (.int W2)]) :: []) := O217.pick 5 rfl
      have O219 : Own.Owns n0 h210 ((a165, PSo Z (.ref ot168) (.ref owd171) (.ref osh172) (.ref obt173) (iI 1) (.ref opk174) (.ref osd175) (iI 2)) :: (osd175, Own.ArrC Z .long SL2) :: (owd171, Own.ArrC Z .int [(iI 0), (iI 0), (iI 0)]) :: (osh172, Own.ArrC Z .int [(.int (0 : Nat).toInt32), (.int (0 + b0).toInt32), (.int (0 + b0 + b1).toInt32)]) :: (obt173, Own.ArrC Z .int [(.int b0.toInt32), (.int b1.toInt32), (.int b2.toInt32)]) :: (a162, Own.ArrC Z .int [(iI 0), (iI 0), (iI 0)]) :: (a159, Own.ArrC Z .int [(.int (rdx (pkA (fBuf q3 (0 : Int32) W0) (fBuf q4 (0 : Int32) W1) (fBuf q5 (0 : Int32) W2) 0 (0 + b0) (0 + b0 + b1)) 0 b0)), (.int (rdx (pkA (fBuf q3 (0 : Int32) W0) (fBuf q4 (0 : Int32) W1) (fBuf q5 (0 : Int32) W2) 0 (0 + b0) (0 + b0 + b1)) (0 + b0) b1)), (.int (rdx (pkA (fBuf q3 (0 : Int32) W0) (fBuf q4 (0 : Int32) W1) (fBuf q5 (0 : Int32) W2) 0 (0 + b0) (0 + b0 + b1)) (0 + b0 + b1) b2))]) :: (opk174, Own.ArrC Z .long [(.long (pkA (fBuf q3 (32 : Int32) W0) (fBuf q4 (32 : Int32) W1) (fBuf q5 (32 : Int32) W2) 0 (0 + b0) (0 + b0 + b1)))]) :: (ot168, STo Z (.ref ra169) (.ref rb170) (.int (((0 : Int32) + (1 : Int32)) + (1 : Int32)))) :: (ra169, Own.ArrC Z .long SM2) :: (rb170, Own.ArrC Z .int (TB2.map Value.int)) :: (a19, Own.ArrC Z .int [(.int (fBuf q3 (32 : Int32) W0)), (.int (fBuf q4 (32 : Int32) W1)), (.int (fBuf q5 (32 : Int32) W2))]) :: (a10, Own.ArrC Z .int [(.int (fBuf q3 (0 : Int32) W0)), (.int (fBuf q4 (0 : Int32) W1)), (.int (fBuf q5 (0 : Int32) W2))]) :: (a1, Own.ArrC Z .int [(.int W0), (.int W1), (.int W2)]) :: []) := O218.pick 5 rfl
      refine Own.callV hx hZ hown (O219.exa (i := 0) rfl) (hw _ (wm 95 rfl)) (hw _ (wm 96 rfl)) (hw _ (wm 98 rfl)) (hw _ (wm 97 rfl)) (hw _ (wm 11 rfl)) (hw _ (wm 99 rfl)) (by decide) pd12 (argsL := [(.int (1 : Int32)), (.ref a162)]) (rest := []) rfl (W := 0) (Nat.le_of_eq rfl) (rm := ({ frames := 0, cells := 0, slots := 0, locals := 0 } : Room)) (by decide) (by decide) (by decide) (by decide) (k' := 14) (n' := 2148) rfl rfl (by rw [hml]; rfl) [(.ref a162), (.int (1 : Int32)), (.ref a165)] rfl (hb hby at_219) (pc' := 222) rfl (rm16_11 l Z a0 hw a165 a162 h210 n0 ot168 ra169 rb170 owd171 osh172 obt173 opk174 osd175 (2 : Int32) 0 (0 + b0) (0 + b0 + b1) b0 b1 b2 SL2 (pkA (fBuf q3 (32 : Int32) W0) (fBuf q4 (32 : Int32) W1) (fBuf q5 (32 : Int32) W2) 0 (0 + b0) (0 + b0 + b1)) hU20 ((a159, Own.ArrC Z .int [(.int (rdx (pkA (fBuf q3 (0 : Int32) W0) (fBuf q4 (0 : Int32) W1) (fBuf q5 (0 : Int32) W2) 0 (0 + b0) (0 + b0 + b1)) 0 b0)), (.int (rdx (pkA (fBuf q3 (0 : Int32) W0) (fBuf q4 (0 : Int32) W1) (fBuf q5 (0 : Int32) W2) 0 (0 + b0) (0 + b0 + b1)) (0 + b0) b1)), (.int (rdx (pkA (fBuf q3 (0 : Int32) W0) (fBuf q4 (0 : Int32) W1) (fBuf q5 (0 : Int32) W2) 0 (0 + b0) (0 + b0 + b1)) (0 + b0 + b1) b2))]) :: (opk174, Own.ArrC Z .long [(.long (pkA (fBuf q3 (32 : Int32) W0) (fBuf q4 (32 : Int32) W1) (fBuf q5 (32 : Int32) W2) 0 (0 + b0) (0 + b0 + b1)))]) :: (ot168, STo Z (.ref ra169) (.ref rb170) (.int (((0 : Int32) + (1 : Int32)) + (1 : Int32)))) :: (ra169, Own.ArrC Z .long SM2) :: (rb170, Own.ArrC Z .int (TB2.map Value.int)) :: (a19, Own.ArrC Z .int [(.int (fBuf q3 (32 : Int32) W0)), (.int (fBuf q4 (32 : Int32) W1)), (.int (fBuf q5 (32 : Int32) W2))]) :: (a10, Own.ArrC Z .int [(.int (fBuf q3 (0 : Int32) W0)), (.int (fBuf q4 (0 : Int32) W1)), (.int (fBuf q5 (0 : Int32) W2))]) :: (a1, Own.ArrC Z .int [(.int W0), (.int W1), (.int W2)]) :: []) O219) ?_
      rintro _ h220 ⟨rfl, O221⟩
      show Own.Goes _ _ _ _ _ _ _ _ _ _ _ _ _ _ _ _ _ (mkF m 222 #[.val (.int p0), .val (.int p1), .val (.int p2), .val (.long q3), .second, .val (.long q4), .second, .val (.long q5), .second, .val (.int W0), .val (.int W1), .val (.int W2), .val (.ref a1), .val (.ref a10), .val (.ref a19), .val (.int (0 : Int32)), .val (.ref a159), .val (.ref a162), .val (.ref a165)] [])
      refine Own.aload hx (.ref a159) (hb hby at_222) rfl rfl rfl ?_
      refine Own.iconst hx (0 : Int32) (hb hby at_224) rfl (by decide) ?_
      refine Own.iaload hx hZ O221 6 0 rfl (by decide) (v := (.int (rdx (pkA (fBuf q3 (0 : Int32) W0) (fBuf q4 (0 : Int32) W1) (fBuf q5 (0 : Int32) W2) 0 (0 + b0) (0 + b0 + b1)) 0 b0))) rfl (hb hby at_225) rfl ?_
      refine Own.aload hx (.ref a10) (hb hby at_226) rfl rfl rfl ?_
      refine Own.iconst hx (0 : Int32) (hb hby at_228) rfl (by decide) ?_
      refine Own.iaload hx hZ O221 12 0 rfl (by decide) (v := (.int (fBuf q3 (0 : Int32) W0))) rfl (hb hby at_229) rfl ?_
      have hc222 : (rdx (pkA (fBuf q3 (0 : Int32) W0) (fBuf q4 (0 : Int32) W1) (fBuf q5 (0 : Int32) W2) 0 (0 + b0) (0 + b0 + b1)) 0 b0) = (fBuf q3 (0 : Int32) W0) := K1.1
      refine Own.icmpFn hx (Own.q_ne (rdx (pkA (fBuf q3 (0 : Int32) W0) (fBuf q4 (0 : Int32) W1) (fBuf q5 (0 : Int32) W2) 0 (0 + b0) (0 + b0 + b1)) 0 b0) (fBuf q3 (0 : Int32) W0)) (hb hby at_230) (pcN := 233) rfl (by decide) (pcT := 292) rfl (fun q => absurd hc222 q) (fun _ => ?_)
      refine Own.aload hx (.ref a159) (hb hby at_233) rfl rfl rfl ?_
      refine Own.iconst hx (1 : Int32) (hb hby at_235) rfl (by decide) ?_
      refine Own.iaload hx hZ O221 6 1 rfl (by decide) (v := (.int (rdx (pkA (fBuf q3 (0 : Int32) W0) (fBuf q4 (0 : Int32) W1) (fBuf q5 (0 : Int32) W2) 0 (0 + b0) (0 + b0 + b1)) (0 + b0) b1))) rfl (hb hby at_236) rfl ?_
      refine Own.aload hx (.ref a10) (hb hby at_237) rfl rfl rfl ?_
      refine Own.iconst hx (1 : Int32) (hb hby at_239) rfl (by decide) ?_
      refine Own.iaload hx hZ O221 12 1 rfl (by decide) (v := (.int (fBuf q4 (0 : Int32) W1))) rfl (hb hby at_240) rfl ?_
      have hc224 : (rdx (pkA (fBuf q3 (0 : Int32) W0) (fBuf q4 (0 : Int32) W1) (fBuf q5 (0 : Int32) W2) 0 (0 + b0) (0 + b0 + b1)) (0 + b0) b1) = (fBuf q4 (0 : Int32) W1) := K1.2.1
      refine Own.icmpFn hx (Own.q_ne (rdx (pkA (fBuf q3 (0 : Int32) W0) (fBuf q4 (0 : Int32) W1) (fBuf q5 (0 : Int32) W2) 0 (0 + b0) (0 + b0 + b1)) (0 + b0) b1) (fBuf q4 (0 : Int32) W1)) (hb hby at_241) (pcN := 244) rfl (by decide) (pcT := 292) rfl (fun q => absurd hc224 q) (fun _ => ?_)
      refine Own.aload hx (.ref a159) (hb hby at_244) rfl rfl rfl ?_
      refine Own.iconst hx (2 : Int32) (hb hby at_246) rfl (by decide) ?_
      refine Own.iaload hx hZ O221 6 2 rfl (by decide) (v := (.int (rdx (pkA (fBuf q3 (0 : Int32) W0) (fBuf q4 (0 : Int32) W1) (fBuf q5 (0 : Int32) W2) 0 (0 + b0) (0 + b0 + b1)) (0 + b0 + b1) b2))) rfl (hb hby at_247) rfl ?_
      refine Own.aload hx (.ref a10) (hb hby at_248) rfl rfl rfl ?_
      refine Own.iconst hx (2 : Int32) (hb hby at_250) rfl (by decide) ?_
      refine Own.iaload hx hZ O221 12 2 rfl (by decide) (v := (.int (fBuf q5 (0 : Int32) W2))) rfl (hb hby at_251) rfl ?_
      have hc226 : (rdx (pkA (fBuf q3 (0 : Int32) W0) (fBuf q4 (0 : Int32) W1) (fBuf q5 (0 : Int32) W2) 0 (0 + b0) (0 + b0 + b1)) (0 + b0 + b1) b2) = (fBuf q5 (0 : Int32) W2) := K1.2.2
      refine Own.icmpFn hx (Own.q_ne (rdx (pkA (fBuf q3 (0 : Int32) W0) (fBuf q4 (0 : Int32) W1) (fBuf q5 (0 : Int32) W2) 0 (0 + b0) (0 + b0 + b1)) (0 + b0 + b1) b2) (fBuf q5 (0 : Int32) W2)) (hb hby at_252) (pcN := 255) rfl (by decide) (pcT := 292) rfl (fun q => absurd hc226 q) (fun _ => ?_)
      refine Own.aload hx (.ref a162) (hb hby at_255) rfl rfl rfl ?_
      refine Own.iconst hx (0 : Int32) (hb hby at_257) rfl (by decide) ?_
      refine Own.iaload hx hZ O221 5 0 rfl (by decide) (v := (.int (rdx (pkA (fBuf q3 (32 : Int32) W0) (fBuf q4 (32 : Int32) W1) (fBuf q5 (32 : Int32) W2) 0 (0 + b0) (0 + b0 + b1)) 0 b0))) rfl (hb hby at_258) rfl ?_
      refine Own.aload hx (.ref a19) (hb hby at_259) rfl rfl rfl ?_
      refine Own.iconst hx (0 : Int32) (hb hby at_261) rfl (by decide) ?_
      refine Own.iaload hx hZ O221 11 0 rfl (by decide) (v := (.int (fBuf q3 (32 : Int32) W0))) rfl (hb hby at_262) rfl ?_
      have hc228 : (rdx (pkA (fBuf q3 (32 : Int32) W0) (fBuf q4 (32 : Int32) W1) (fBuf q5 (32 : Int32) W2) 0 (0 + b0) (0 + b0 + b1)) 0 b0) = (fBuf q3 (32 : Int32) W0) := K2.1
      refine Own.icmpFn hx (Own.q_ne (rdx (pkA (fBuf q3 (32 : Int32) W0) (fBuf q4 (32 : Int32) W1) (fBuf q5 (32 : Int32) W2) 0 (0 + b0) (0 + b0 + b1)) 0 b0) (fBuf q3 (32 : Int32) W0)) (hb hby at_263) (pcN := 266) rfl (by decide) (pcT := 292) rfl (fun q => absurd hc228 q) (fun _ => ?_)
      refine Own.aload hx (.ref a162) (hb hby at_266) rfl rfl rfl ?_
      refine Own.iconst hx (1 : Int32) (hb hby at_268) rfl (by decide) ?_
      refine Own.iaload hx hZ O221 5 1 rfl (by decide) (v := (.int (rdx (pkA (fBuf q3 (32 : Int32) W0) (fBuf q4 (32 : Int32) W1) (fBuf q5 (32 : Int32) W2) 0 (0 + b0) (0 + b0 + b1)) (0 + b0) b1))) rfl (hb hby at_269) rfl ?_
      refine Own.aload hx (.ref a19) (hb hby at_270) rfl rfl rfl ?_
      refine Own.iconst hx (1 : Int32) (hb hby at_272) rfl (by decide) ?_
      refine Own.iaload hx hZ O221 11 1 rfl (by decide) (v := (.int (fBuf q4 (32 : Int32) W1))) rfl (hb hby at_273) rfl ?_
      have hc230 : (rdx (pkA (fBuf q3 (32 : Int32) W0) (fBuf q4 (32 : Int32) W1) (fBuf q5 (32 : Int32) W2) 0 (0 + b0) (0 + b0 + b1)) (0 + b0) b1) = (fBuf q4 (32 : Int32) W1) := K2.2.1
      refine Own.icmpFn hx (Own.q_ne (rdx (pkA (fBuf q3 (32 : Int32) W0) (fBuf q4 (32 : Int32) W1) (fBuf q5 (32 : Int32) W2) 0 (0 + b0) (0 + b0 + b1)) (0 + b0) b1) (fBuf q4 (32 : Int32) W1)) (hb hby at_274) (pcN := 277) rfl (by decide) (pcT := 292) rfl (fun q => absurd hc230 q) (fun _ => ?_)
      refine Own.aload hx (.ref a162) (hb hby at_277) rfl rfl rfl ?_
      refine Own.iconst hx (2 : Int32) (hb hby at_279) rfl (by decide) ?_
      refine Own.iaload hx hZ O221 5 2 rfl (by decide) (v := (.int (rdx (pkA (fBuf q3 (32 : Int32) W0) (fBuf q4 (32 : Int32) W1) (fBuf q5 (32 : Int32) W2) 0 (0 + b0) (0 + b0 + b1)) (0 + b0 + b1) b2))) rfl (hb hby at_280) rfl ?_
      refine Own.aload hx (.ref a19) (hb hby at_281) rfl rfl rfl ?_
      refine Own.iconst hx (2 : Int32) (hb hby at_283) rfl (by decide) ?_
      refine Own.iaload hx hZ O221 11 2 rfl (by decide) (v := (.int (fBuf q5 (32 : Int32) W2))) rfl (hb hby at_284) rfl ?_
      have hc232 : (rdx (pkA (fBuf q3 (32 : Int32) W0) (fBuf q4 (32 : Int32) W1) (fBuf q5 (32 : Int32) W2) 0 (0 + b0) (0 + b0 + b1)) (0 + b0 + b1) b2) = (fBuf q5 (32 : Int32) W2) := K2.2.2
      refine Own.icmpFn hx (Own.q_ne (rdx (pkA (fBuf q3 (32 : Int32) W0) (fBuf q4 (32 : Int32) W1) (fBuf q5 (32 : Int32) W2) 0 (0 + b0) (0 + b0 + b1)) (0 + b0 + b1) b2) (fBuf q5 (32 : Int32) W2)) (hb hby at_285) (pcN := 288) rfl (by decide) (pcT := 292) rfl (fun q => absurd hc232 q) (fun _ => ?_)
      refine Own.iconst hx (1 : Int32) (hb hby at_288) rfl (by decide) ?_
      refine Own.goto hx (hb hby at_289) (by decide) (pc' := 293) rfl ?_
      exact Own.retS hx hret (by simp) hlk (hb hby at_293) (by decide) (by decide) (Own.bool1 rfl)
    · have K1 := law2 ey0 ey1 ey2 ly0 ly1 ly2 hb0 hb1 hb2
      have K2 := law2 ez0 ez1 ez2 lz0 lz1 lz2 hb0 hb1 hb2
      refine Own.iconst hx (3 : Int32) (hb hby at_160) rfl (by decide) ?_
      refine Own.newarr hx hZ O161 (aty := .int) (hw _ (wm 5 rfl)) 3 (by decide) [(.int (0 : Int32)), (.int (0 : Int32)), (.int (0 : Int32))] rfl rfl (cap := 3) (by decide) (by decide) (k' := 5) (n' := 15) rfl rfl (by decide) (by decide) (hb hby at_161) (pc' := 163) rfl ?_
      intro a234 h235 O236
      refine Own.astore hx #[.val (.int p0), .val (.int p1), .val (.int p2), .val (.long q3), .second, .val (.long q4), .second, .val (.long q5), .second, .val (.int W0), .val (.int W1), .val (.int W2), .val (.ref a1), .val (.ref a10), .val (.ref a19), .val (.int (0 : Int32)), .val (.ref a159), .val (.ref a234), .unset] (hb hby at_163) rfl rfl rfl ?_
      refine Own.newobj hx hZ hown O236 (hw _ (wm 9 rfl)) (hw _ (wm 10 rfl)) (hw _ (wm 11 rfl)) [(("com/example/cuesheet/cuesheet/core/PackedStates", "table", "Lcom/example/cuesheet/cuesheet/core/StateTable;"), .null), (("com/example/cuesheet/cuesheet/core/PackedStates", "word", "[I"), .null), (("com/example/cuesheet/cuesheet/core/PackedStates", "shift", "[I"), .null), (("com/example/cuesheet/cuesheet/core/PackedStates", "bits", "[I"), .null), (("com/example/cuesheet/cuesheet/core/PackedStates", "words", "I"), (.int (0 : Int32))), (("com/example/cuesheet/cuesheet/core/PackedStates", "packed", "[J"), .null), (("com/example/cuesheet/cuesheet/core/PackedStates", "stored", "[J"), .null), (("com/example/cuesheet/cuesheet/core/PackedStates", "size", "I"), (.int (0 : Int32)))] (by intro f hf; simp only [List.mem_cons, List.not_mem_nil, or_false] at hf; rcases hf with rfl | rfl | rfl | rfl | rfl | rfl | rfl | rfl; exact ⟨Or.inr (hw _ (wm 38 rfl)), (.object "com/example/cuesheet/cuesheet/core/StateTable"), by decide, rfl⟩; exact ⟨Or.inr (hw _ (wm 40 rfl)), (.array .int), by decide, rfl⟩; exact ⟨Or.inr (hw _ (wm 42 rfl)), (.array .int), by decide, rfl⟩; exact ⟨Or.inr (hw _ (wm 44 rfl)), (.array .int), by decide, rfl⟩; exact ⟨Or.inr (hw _ (wm 51 rfl)), .int, by decide, rfl⟩; exact ⟨Or.inr (hw _ (wm 53 rfl)), (.array .long), by decide, rfl⟩; exact ⟨Or.inl (hw _ (wm 55 rfl)), (.array .long), by decide, rfl⟩; exact ⟨Or.inl (hw _ (wm 69 rfl)), .int, by decide, rfl⟩) (by decide) (k' := 6) (n' := 23) rfl rfl (by decide) (by decide) (hb hby at_165) (pc' := 168) rfl ?_
      intro a237 h238 O239
      refine Own.dup hx (hb hby at_168) rfl rfl ?_
      refine Own.aload hx (.ref a1) (hb hby at_169) rfl rfl rfl ?_
      have O248 : Own.Owns n0 h238 ((a1, Own.ArrC Z .int [(.int W0), (.int W1), (.int W2)]) :: (a237, PSo Z .null .null .null .null (iI 0) .null .null (iI 0)) :: (a234, Own.ArrC Z .int [(iI 0), (iI 0), (iI 0)]) :: (a159, Own.ArrC Z .int [(iI 0), (iI 0), (iI 0)]) :: (a19, Own.ArrC Z .int [(.int (fBuf q3 (32 : Int32) W0)), (.int (fBuf q4 (32 : Int32) W1)), (.int (fBuf q5 (32 : Int32) W2))]) :: (a10, Own.ArrC Z .int [(.int (fBuf q3 (0 : Int32) W0)), (.int (fBuf q4 (0 : Int32) W1)), (.int (fBuf q5 (0 : Int32) W2))]) :: []) := O239.pick 5 rfl
      have O249 : Own.Owns n0 h238 ((a237, PSo Z .null .null .null .null (iI 0) .null .null (iI 0)) :: (a1, Own.ArrC Z .int [(.int W0), (.int W1), (.int W2)]) :: (a234, Own.ArrC Z .int [(iI 0), (iI 0), (iI 0)]) :: (a159, Own.ArrC Z .int [(iI 0), (iI 0), (iI 0)]) :: (a19, Own.ArrC Z .int [(.int (fBuf q3 (32 : Int32) W0)), (.int (fBuf q4 (32 : Int32) W1)), (.int (fBuf q5 (32 : Int32) W2))]) :: (a10, Own.ArrC Z .int [(.int (fBuf q3 (0 : Int32) W0)), (.int (fBuf q4 (0 : Int32) W1)), (.int (fBuf q5 (0 : Int32) W2))]) :: []) := O248.pick 1 rfl
      refine Own.callI hx hZ hown rfl (hw _ (wm 12 rfl)) (hw _ (wm 13 rfl)) (hw _ (wm 11 rfl)) (hw _ (wm 14 rfl)) (by decide) pd7 (argsL := [(.ref a1)]) (rest := [(.ref a237)]) rfl (W := 1) (Nat.le_of_eq rfl) (rm := ({ frames := 3, cells := 8, slots := 2190, locals := 43 } : Room)) (by decide) (by decide) (by decide) (by decide) (k' := 14) (n' := 2213) rfl rfl (by rw [hml]; rfl) [(.ref a1), (.ref a237), (.ref a237)] rfl (hb hby at_171) (pc' := 174) rfl (rm3_2 l Z a0 hw a237 a1 h238 n0 W0 W1 W2 b0 b1 b2 hb0 eb0 hb1 eb1 hb2 eb2 hW ((a234, Own.ArrC Z .int [(iI 0), (iI 0), (iI 0)]) :: (a159, Own.ArrC Z .int [(iI 0), (iI 0), (iI 0)]) :: (a19, Own.ArrC Z .int [(.int (fBuf q3 (32 : Int32) W0)), (.int (fBuf q4 (32 : Int32) W1)), (.int (fBuf q5 (32 : Int32) W2))]) :: (a10, Own.ArrC Z .int [(.int (fBuf q3 (0 : Int32) W0)), (.int (fBuf q4 (0 : Int32) W1)), (.int (fBuf q5 (0 : Int32) W2))]) :: []) O249) ?_
      rintro _ h250 ⟨ot240, ra241, rb242, owd243, osh244, obt245, opk246, osd247, rfl, O251⟩
      show Own.Goes _ _ _ _ _ _ _ _ _ _ _ _ _ _ _ _ _ (mkF m 174 #[.val (.int p0), .val (.int p1), .val (.int p2), .val (.long q3), .second, .val (.long q4), .second, .val (.long q5), .second, .val (.int W0), .val (.int W1), .val (.int W2), .val (.ref a1), .val (.ref a10), .val (.ref a19), .val (.int (0 : Int32)), .val (.ref a159), .val (.ref a234), .unset] [(.ref a237)])
      refine Own.astore hx #[.val (.int p0), .val (.int p1), .val (.int p2), .val (.long q3), .second, .val (.long q4), .second, .val (.long q5), .second, .val (.int W0), .val (.int W1), .val (.int W2), .val (.ref a1), .val (.ref a10), .val (.ref a19), .val (.int (0 : Int32)), .val (.ref a159), .val (.ref a234), .val (.ref a237)] (hb hby at_174) rfl rfl rfl ?_
      refine Own.aload hx (.ref a237) (hb hby at_176) rfl rfl rfl ?_
      refine Own.aload hx (.ref a10) (hb hby at_178) rfl rfl rfl ?_
      have O252 : Own.Owns n0 h250 ((a10, Own.ArrC Z .int [(.int (fBuf q3 (0 : Int32) W0)), (.int (fBuf q4 (0 : Int32) W1)), (.int (fBuf q5 (0 : Int32) W2))]) :: (a237, PSo Z (.ref ot240) (.ref owd243) (.ref osh244) (.ref obt245) (iI 2) (.ref opk246) (.ref osd247) (iI 0)) :: (opk246, Own.ArrC Z .long [(jJ 0), (jJ 0)]) :: (owd243, Own.ArrC Z .int [(iI 0), (iI 0), (iI 1)]) :: (osh244, Own.ArrC Z .int [(.int (0 : Nat).toInt32), (.int (0 + b0).toInt32), (.int (0 : Nat).toInt32)]) :: (osd247, Own.ArrC Z .long (List.replicate 128 (Value.long (0 : Int64)))) :: (ot240, STo Z (.ref ra241) (.ref rb242) (iI 0)) :: (ra241, Own.ArrC Z .long (List.replicate 1024 (Value.long (0 : Int64)))) :: (rb242, Own.ArrC Z .int ((fl 1024).map Value.int)) :: (obt245, Own.ArrC Z .int [(.int b0.toInt32), (.int b1.toInt32), (.int b2.toInt32)]) :: (a1, Own.ArrC Z .int [(.int W0), (.int W1), (.int W2)]) :: (a234, Own.ArrC Z .int [(iI 0), (iI 0), (iI 0)]) :: (a159, Own.ArrC Z .int [(iI 0), (iI 0), (iI 0)]) :: (a19, Own.ArrC Z .int [(.int (fBuf q3 (32 : Int32) W0)), (.int (fBuf q4 (32 : Int32) W1)), (.int (fBuf q5 (32 : Int32) W2))]) :: []) := O251.pick 13 rfl
      have O253 : Own.Owns n0 h250 ((rb242, Own.ArrC Z .int ((fl 1024).map Value.int)) :: (a10, Own.ArrC Z .int [(.int (fBuf q3 (0 : Int32) W0)), (.int (fBuf q4 (0 : Int32) W1)), (.int (fBuf q5 (0 : Int32) W2))]) :: (a237, PSo Z (.ref ot240) (.ref owd243) (.ref osh244) (.ref obt245) (iI 2) (.ref opk246) (.ref osd247) (iI 0)) :: (opk246, Own.ArrC Z .long [(jJ 0), (jJ 0)]) :: (owd243, Own.ArrC Z .int [(iI 0), (iI 0), (iI 1)]) :: (osh244, Own.ArrC Z .int [(.int (0 : Nat).toInt32), (.int (0 + b0).toInt32), (.int (0 : Nat).toInt32)]) :: (osd247, Own.ArrC Z .long (List.replicate 128 (Value.long (0 : Int64)))) :: (ot240, STo Z (.ref ra241) (.ref rb242) (iI 0)) :: (ra241, Own.ArrC Z .long (List.replicate 1024 (Value.long (0 : Int64)))) :: (obt245, Own.ArrC Z .int [(.int b0.toInt32), (.int b1.toInt32), (.int b2.toInt32)]) :: (a1, Own.ArrC Z .int [(.int W0), (.int W1), (.int W2)]) :: (a234, Own.ArrC Z .int [(iI 0), (iI 0), (iI 0)]) :: (a159, Own.ArrC Z .int [(iI 0), (iI 0), (iI 0)]) :: (a19, Own.ArrC Z .int [(.int (fBuf q3 (32 : Int32) W0)), (.int (fBuf q4 (32 : Int32) W1)), (.int (fBuf q5 (32 : Int32) W2))]) :: []) := O252.pick 8 rfl
      have O254 : Own.Owns n0 h250 ((ra241, Own.ArrC Z .long (List.replicate 1024 (Value.long (0 : Int64)))) :: (rb242, Own.ArrC Z .int ((fl 1024).map Value.int)) :: (a10, Own.ArrC Z .int [(.int (fBuf q3 (0 : Int32) W0)), (.int (fBuf q4 (0 : Int32) W1)), (.int (fBuf q5 (0 : Int32) W2))]) :: (a237, PSo Z (.ref ot240) (.ref owd243) (.ref osh244) (.ref obt245) (iI 2) (.ref opk246) (.ref osd247) (iI 0)) :: (opk246, Own.ArrC Z .long [(jJ 0), (jJ 0)]) :: (owd243, Own.ArrC Z .int [(iI 0), (iI 0), (iI 1)]) :: (osh244, Own.ArrC Z .int [(.int (0 : Nat).toInt32), (.int (0 + b0).toInt32), (.int (0 : Nat).toInt32)]) :: (osd247, Own.ArrC Z .long (List.replicate 128 (Value.long (0 : Int64)))) :: (ot240, STo Z (.ref ra241) (.ref rb242) (iI 0)) :: (obt245, Own.ArrC Z .int [(.int b0.toInt32), (.int b1.toInt32), (.int b2.toInt32)]) :: (a1, Own.ArrC Z .int [(.int W0), (.int W1), (.int W2)]) :: (a234, Own.ArrC Z .int [(iI 0), (iI 0), (iI 0)]) :: (a159, Own.ArrC Z .int [(iI 0), (iI 0), (iI 0)]) :: (a19, Own.ArrC Z .int [(.int (fBuf q3 (32 : Int32) W0)), (.int (fBuf q4 (32 : Int32) W1)), (.int (fBuf q5 (32 : Int32) W2))]) :: []) := O253.pick 8 rfl
      have O255 : Own.Owns n0 h250 ((ot240, STo Z (.ref ra241) (.ref rb242) (iI 0)) :: (ra241, Own.ArrC Z .long (List.replicate 1024 (Value.long (0 : Int64)))) :: (rb242, Own.ArrC Z .int ((fl 1024).map Value.int)) :: (a10, Own.ArrC Z .int [(.int (fBuf q3 (0 : Int32) W0)), (.int (fBuf q4 (0 : Int32) W1)), (.int (fBuf q5 (0 : Int32) W2))]) :: (a237, PSo Z (.ref ot240) (.ref owd243) (.ref osh244) (.ref obt245) (iI 2) (.ref opk246) (.ref osd247) (iI 0)) :: (opk246, Own.ArrC Z .long [(jJ 0), (jJ 0)]) :: (owd243, Own.ArrC Z .int [(iI 0), (iI 0), (iI 1)]) :: (osh244, Own.ArrC Z .int [(.int (0 : Nat).toInt32), (.int (0 + b0).toInt32), (.int (0 : Nat).toInt32)]) :: (osd247, Own.ArrC Z .long (List.replicate 128 (Value.long (0 : Int64)))) :: (obt245, Own.ArrC Z .int [(.int b0.toInt32), (.int b1.toInt32), (.int b2.toInt32)]) :: (a1, Own.ArrC Z .int [(.int W0), (.int W1), (.int W2)]) :: (a234, Own.ArrC Z .int [(iI 0), (iI 0), (iI 0)]) :: (a159, Own.ArrC Z .int [(iI 0), (iI 0), (iI 0)]) :: (a19, Own.ArrC Z .int [(.int (fBuf q3 (32 : Int32) W0)), (.int (fBuf q4 (32 : Int32) W1)), (.int (fBuf q5 (32 : Int32) W2))]) :: []) := O254.pick 8 rfl
      have O256 : Own.Owns n0 h250 ((osd247, Own.ArrC Z .long (List.replicate 128 (Value.long (0 : Int64)))) :: (ot240, STo Z (.ref ra241) (.ref rb242) (iI 0)) :: (ra241, Own.ArrC Z .long (List.replicate 1024 (Value.long (0 : Int64)))) :: (rb242, Own.ArrC Z .int ((fl 1024).map Value.int)) :: (a10, Own.ArrC Z .int [(.int (fBuf q3 (0 : Int32) W0)), (.int (fBuf q4 (0 : Int32) W1)), (.int (fBuf q5 (0 : Int32) W2))]) :: (a237, PSo Z (.ref ot240) (.ref owd243) (.ref osh244) (.ref obt245) (iI 2) (.ref opk246) (.ref osd247) (iI 0)) :: (opk246, Own.ArrC Z .long [(jJ 0), (jJ 0)]) :: (owd243, Own.ArrC Z .int [(iI 0), (iI 0), (iI 1)]) :: (osh244, Own.ArrC Z .int [(.int (0 : Nat).toInt32), (.int (0 + b0).toInt32), (.int (0 : Nat).toInt32)]) :: (obt245, Own.ArrC Z .int [(.int b0.toInt32), (.int b1.toInt32), (.int b2.toInt32)]) :: (a1, Own.ArrC Z .int [(.int W0), (.int W1), (.int W2)]) :: (a234, Own.ArrC Z .int [(iI 0), (iI 0), (iI 0)]) :: (a159, Own.ArrC Z .int [(iI 0), (iI 0), (iI 0)]) :: (a19, Own.ArrC Z .int [(.int (fBuf q3 (32 : Int32) W0)), (.int (fBuf q4 (32 : Int32) W1)), (.int (fBuf q5 (32 : Int32) W2))]) :: []) := O255.pick 8 rfl
      have O257 : Own.Owns n0 h250 ((osh244, Own.ArrC Z .int [(.int (0 : Nat).toInt32), (.int (0 + b0).toInt32), (.int (0 : Nat).toInt32)]) :: (osd247, Own.ArrC Z .long (List.replicate 128 (Value.long (0 : Int64)))) :: (ot240, STo Z (.ref ra241) (.ref rb242) (iI 0)) :: (ra241, Own.ArrC Z .long (List.replicate 1024 (Value.long (0 : Int64)))) :: (rb242, Own.ArrC Z .int ((fl 1024).map Value.int)) :: (a10, Own.ArrC Z .int [(.int (fBuf q3 (0 : Int32) W0)), (.int (fBuf q4 (0 : Int32) W1)), (.int (fBuf q5 (0 : Int32) W2))]) :: (a237, PSo Z (.ref ot240) (.ref owd243) (.ref osh244) (.ref obt245) (iI 2) (.ref opk246) (.ref osd247) (iI 0)) :: (opk246, Own.ArrC Z .long [(jJ 0), (jJ 0)]) :: (owd243, Own.ArrC Z .int [(iI 0), (iI 0), (iI 1)]) :: (obt245, Own.ArrC Z .int [(.int b0.toInt32), (.int b1.toInt32), (.int b2.toInt32)]) :: (a1, Own.ArrC Z .int [(.int W0), (.int W1), (.int W2)]) :: (a234, Own.ArrC Z .int [(iI 0), (iI 0), (iI 0)]) :: (a159, Own.ArrC Z .int [(iI 0), (iI 0), (iI 0)]) :: (a19, Own.ArrC Z .int [(.int (fBuf q3 (32 : Int32) W0)), (.int (fBuf q4 (32 : Int32) W1)), (.int (fBuf q5 (32 : Int32) W2))]) :: []) := O256.pick 8 rfl
      have O258 : Own.Owns n0 h250 ((owd243, Own.ArrC Z .int [(iI 0), (iI 0), (iI 1)]) :: (osh244, Own.ArrC Z .int [(.int (0 : Nat).toInt32), (.int (0 + b0).toInt32), (.int (0 : Nat).toInt32)]) :: (osd247, Own.ArrC Z .long (List.replicate 128 (Value.long (0 : Int64)))) :: (ot240, STo Z (.ref ra241) (.ref rb242) (iI 0)) :: (ra241, Own.ArrC Z .long (List.replicate 1024 (Value.long (0 : Int64)))) :: (rb242, Own.ArrC Z .int ((fl 1024).map Value.int)) :: (a10, Own.ArrC Z .int [(.int (fBuf q3 (0 : Int32) W0)), (.int (fBuf q4 (0 : Int32) W1)), (.int (fBuf q5 (0 : Int32) W2))]) :: (a237, PSo Z (.ref ot240) (.ref owd243) (.ref osh244) (.ref obt245) (iI 2) (.ref opk246) (.ref osd247) (iI 0)) :: (opk246, Own.ArrC Z .long [(jJ 0), (jJ 0)]) :: (obt245, Own.ArrC Z .int [(.int b0.toInt32), (.int b1.toInt32), (.int b2.toInt32)]) :: (a1, Own.ArrC Z .int [(.int W0), (.int W1), (.int W2)]) :: (a234, Own.ArrC Z .int [(iI 0), (iI 0), (iI 0)]) :: (a159, Own.ArrC Z .int [(iI 0), (iI 0), (iI 0)]) :: (a19, Own.ArrC Z .int [(.int (fBuf q3 (32 : Int32) W0)), (.int (fBuf q4 (32 : Int32) W1)), (.int (fBuf q5 (32 : Int32) W2))]) :: []) := O257.pick 8 rfl
      have O259 : Own.Owns n0 h250 ((opk246, Own.ArrC Z .long [(jJ 0), (jJ 0)]) :: (owd243, Own.ArrC Z .int [(iI 0), (iI 0), (iI 1)]) :: (osh244, Own.ArrC Z .int [(.int (0 : Nat).toInt32), (.int (0 + b0).toInt32), (.int (0 : Nat).toInt32)]) :: (osd247, Own.ArrC Z .long (List.replicate 128 (Value.long (0 : Int64)))) :: (ot240, STo Z (.ref ra241) (.ref rb242) (iI 0)) :: (ra241, Own.ArrC Z .long (List.replicate 1024 (Value.long (0 : Int64)))) :: (rb242, Own.ArrC Z .int ((fl 1024).map Value.int)) :: (a10, Own.ArrC Z .int [(.int (fBuf q3 (0 : Int32) W0)), (.int (fBuf q4 (0 : Int32) W1)), (.int (fBuf q5 (0 : Int32) W2))]) :: (a237, PSo Z (.ref ot240) (.ref owd243) (.ref osh244) (.ref obt245) (iI 2) (.ref opk246) (.ref osd247) (iI 0)) :: (obt245, Own.ArrC Z .int [(.int b0.toInt32), (.int b1.toInt32), (.int b2.toInt32)]) :: (a1, Own.ArrC Z .int [(.int W0), (.int W1), (.int W2)]) :: (a234, Own.ArrC Z .int [(iI 0), (iI 0), (iI 0)]) :: (a159, Own.ArrC Z .int [(iI 0), (iI 0), (iI 0)]) :: (a19, Own.ArrC Z .int [(.int (fBuf q3 (32 : Int32) W0)), (.int (fBuf q4 (32 : Int32) W1)), (.int (fBuf q5 (32 : Int32) W2))]) :: []) := O258.pick 8 rfl
      have O260 : Own.Owns n0 h250 ((a237, PSo Z (.ref ot240) (.ref owd243) (.ref osh244) (.ref obt245) (iI 2) (.ref opk246) (.ref osd247) (iI 0)) :: (opk246, Own.ArrC Z .long [(jJ 0), (jJ 0)]) :: (owd243, Own.ArrC Z .int [(iI 0), (iI 0), (iI 1)]) :: (osh244, Own.ArrC Z .int [(.int (0 : Nat).toInt32), (.int (0 + b0).toInt32), (.int (0 : Nat).toInt32)]) :: (osd247, Own.ArrC Z .long (List.replicate 128 (Value.long (0 : Int64)))) :: (ot240, STo Z (.ref ra241) (.ref rb242) (iI 0)) :: (ra241, Own.ArrC Z .long (List.replicate 1024 (Value.long (0 : Int64)))) :: (rb242, Own.ArrC Z .int ((fl 1024).map Value.int)) :: (a10, Own.ArrC Z .int [(.int (fBuf q3 (0 : Int32) W0)), (.int (fBuf q4 (0 : Int32) W1)), (.int (fBuf q5 (0 : Int32) W2))]) :: (obt245, Own.ArrC Z .int [(.int b0.toInt32), (.int b1.toInt32), (.int b2.toInt32)]) :: (a1, Own.ArrC Z .int [(.int W0), (.int W1), (.int W2)]) :: (a234, Own.ArrC Z .int [(iI 0), (iI 0), (iI 0)]) :: (a159, Own.ArrC Z .int [(iI 0), (iI 0), (iI 0)]) :: (a19, Own.ArrC Z .int [(.int (fBuf q3 (32 : Int32) W0)), (.int (fBuf q4 (32 : Int32) W1)), (.int (fBuf q5 (32 : Int32) W2))]) :: []) := O259.pick 8 rfl
      refine Own.callV hx hZ hown (O260.exa (i := 0) rfl) (hw _ (wm 56 rfl)) (hw _ (wm 57 rfl)) (hw _ (wm 59 rfl)) (hw _ (wm 58 rfl)) (hw _ (wm 11 rfl)) (hw _ (wm 60 rfl)) (by decide) pd11 (argsL := [(.ref a10)]) (rest := []) rfl (W := 0) (Nat.le_of_eq rfl) (rm := ({ frames := 3, cells := 0, slots := 0, locals := 45 } : Room)) (by decide) (by decide) (by decide) (by decide) (k' := 14) (n' := 2213) rfl rfl (by rw [hml]; rfl) [(.ref a10), (.ref a237)] rfl (hb hby at_180) (pc' := 183) rfl (rm9_20 l Z a0 hw a237 a10 h250 n0 ot240 ra241 rb242 owd243 osh244 obt245 opk246 osd247 (0 : Int64) (0 : Int64) (fBuf q3 (0 : Int32) W0) (fBuf q4 (0 : Int32) W1) (fBuf q5 (0 : Int32) W2) 0 (0 + b0) 0 (0 : Int32) (List.replicate 128 (Value.long (0 : Int64))) (List.replicate 1024 (Value.long (0 : Int64))) (fl 1024) List.length_replicate List.length_replicate (fl_len (Nat.le_refl _)) fl_count (by decide) ((obt245, Own.ArrC Z .int [(.int b0.toInt32), (.int b1.toInt32), (.int b2.toInt32)]) :: (a1, Own.ArrC Z .int [(.int W0), (.int W1), (.int W2)]) :: (a234, Own.ArrC Z .int [(iI 0), (iI 0), (iI 0)]) :: (a159, Own.ArrC Z .int [(iI 0), (iI 0), (iI 0)]) :: (a19, Own.ArrC Z .int [(.int (fBuf q3 (32 : Int32) W0)), (.int (fBuf q4 (32 : Int32) W1)), (.int (fBuf q5 (32 : Int32) W2))]) :: []) O260) ?_
      rintro _ h261 ⟨SL1, SM1, TB1, rfl, hL1, hU10, hU11, hlo1, hM1, hT1, hn1, O262⟩
      show Own.Goes _ _ _ _ _ _ _ _ _ _ _ _ _ _ _ _ _ (mkF m 183 #[.val (.int p0), .val (.int p1), .val (.int p2), .val (.long q3), .second, .val (.long q4), .second, .val (.long q5), .second, .val (.int W0), .val (.int W1), .val (.int W2), .val (.ref a1), .val (.ref a10), .val (.ref a19), .val (.int (0 : Int32)), .val (.ref a159), .val (.ref a234), .val (.ref a237)] [(.int (0 : Int32))])
      refine Own.pop hx (hb hby at_183) rfl rfl ?_
      refine Own.iload hx (0 : Int32) (hb hby at_184) rfl rfl ?_
      have hc263 : (0 : Int32) = (0 : Int32) := by decide
      refine Own.ifFn hx (Own.z_ne (0 : Int32)) (hb hby at_186) (pcN := 189) rfl (by decide) (pcT := 197) rfl (fun q => absurd hc263 q) (fun _ => ?_)
      refine Own.aload hx (.ref a237) (hb hby at_189) rfl rfl rfl ?_
      refine Own.aload hx (.ref a19) (hb hby at_191) rfl rfl rfl ?_
      have O265 : Own.Owns n0 h261 ((a19, Own.ArrC Z .int [(.int (fBuf q3 (32 : Int32) W0)), (.int (fBuf q4 (32 : Int32) W1)), (.int (fBuf q5 (32 : Int32) W2))]) :: (a237, PSo Z (.ref ot240) (.ref owd243) (.ref osh244) (.ref obt245) (iI 2) (.ref opk246) (.ref osd247) (iI 1)) :: (opk246, Own.ArrC Z .long [(.long (pkB (fBuf q3 (0 : Int32) W0) (fBuf q4 (0 : Int32) W1) 0 (0 + b0))), (.long (pkC (fBuf q5 (0 : Int32) W2) 0))]) :: (owd243, Own.ArrC Z .int [(iI 0), (iI 0), (iI 1)]) :: (osh244, Own.ArrC Z .int [(.int (0 : Nat).toInt32), (.int (0 + b0).toInt32), (.int (0 : Nat).toInt32)]) :: (osd247, Own.ArrC Z .long SL1) :: (ot240, STo Z (.ref ra241) (.ref rb242) (.int ((0 : Int32) + (1 : Int32)))) :: (ra241, Own.ArrC Z .long SM1) :: (rb242, Own.ArrC Z .int (TB1.map Value.int)) :: (a10, Own.ArrC Z .int [(.int (fBuf q3 (0 : Int32) W0)), (.int (fBuf q4 (0 : Int32) W1)), (.int (fBuf q5 (0 : Int32) W2))]) :: (obt245, Own.ArrC Z .int [(.int b0.toInt32), (.int b1.toInt32), (.int b2.toInt32)]) :: (a1, Own.ArrC Z .int [(.int W0), (.int W1), (.int W2)]) :: (a234, Own.ArrC Z .int [(iI 0), (iI 0), (iI 0)]) :: (a159, Own.ArrC Z .int [(iI 0), (iI 0), (iI 0)]) :: []) := O262.pick 13 rfl
      have O266 : Own.Owns n0 h261 ((rb242, Own.ArrC Z .int (TB1.map Value.int)) :: (a19, Own.ArrC Z .int [(.int (fBuf q3 (32 : Int32) W0)), (.int (fBuf q4 (32 : Int32) W1)), (.int (fBuf q5 (32 : Int32) W2))]) :: (a237, PSo Z (.ref ot240) (.ref owd243) (.ref osh244) (.ref obt245) (iI 2) (.ref opk246) (.ref osd247) (iI 1)) :: (opk246, Own.ArrC Z .long [(.long (pkB (fBuf q3 (0 : Int32) W0) (fBuf q4 (0 : Int32) W1) 0 (0 + b0))), (.long (pkC (fBuf q5 (0 : Int32) W2) 0))]) :: (owd243, Own.ArrC Z .int [(iI 0), (iI 0), (iI 1)]) :: (osh244, Own.ArrC Z .int [(.int (0 : Nat).toInt32), (.int (0 + b0).toInt32), (.int (0 : Nat).toInt32)]) :: (osd247, Own.ArrC Z .long SL1) :: (ot240, STo Z (.ref ra241) (.ref rb242) (.int ((0 : Int32) + (1 : Int32)))) :: (ra241, Own.ArrC Z .long SM1) :: (a10, Own.ArrC Z .int [(.int (fBuf q3 (0 : Int32) W0)), (.int (fBuf q4 (0 : Int32) W1)), (.int (fBuf q5 (0 : Int32) W2))]) :: (obt245, Own.ArrC Z .int [(.int b0.toInt32), (.int b1.toInt32), (.int b2.toInt32)]) :: (a1, Own.ArrC Z .int [(.int W0), (.int W1), (.int W2)]) :: (a234, Own.ArrC Z .int [(iI 0), (iI 0), (iI 0)]) :: (a159, Own.ArrC Z .int [(iI 0), (iI 0), (iI 0)]) :: []) := O265.pick 8 rfl
      have O267 : Own.Owns n0 h261 ((ra241, Own.ArrC Z .long SM1) :: (rb242, Own.ArrC Z .int (TB1.map Value.int)) :: (a19, Own.ArrC Z .int [(.int (fBuf q3 (32 : Int32) W0)), (.int (fBuf q4 (32 : Int32) W1)), (.int (fBuf q5 (32 : Int32) W2))]) :: (a237, PSo Z (.ref ot240) (.ref owd243) (.ref osh244) (.ref obt245) (iI 2) (.ref opk246) (.ref osd247) (iI 1)) :: (opk246, Own.ArrC Z .long [(.long (pkB (fBuf q3 (0 : Int32) W0) (fBuf q4 (0 : Int32) W1) 0 (0 + b0))), (.long (pkC (fBuf q5 (0 : Int32) W2) 0))]) :: (owd243, Own.ArrC Z .int [(iI 0), (iI 0), (iI 1)]) :: (osh244, Own.ArrC Z .int [(.int (0 : Nat).toInt32), (.int (0 + b0).toInt32), (.int (0 : Nat).toInt32)]) :: (osd247, Own.ArrC Z .long SL1) :: (ot240, STo Z (.ref ra241) (.ref rb242) (.int ((0 : Int32) + (1 : Int32)))) :: (a10, Own.ArrC Z .int [(.int (fBuf q3 (0 : Int32) W0)), (.int (fBuf q4 (0 : Int32) W1)), (.int (fBuf q5 (0 : Int32) W2))]) :: (obt245, Own.ArrC Z .int [(.int b0.toInt32), (.int b1.toInt32), (.int b2.toInt32)]) :: (a1, Own.ArrC Z .int [(.int W0), (.int W1), (.int W2)]) :: (a234, Own.ArrC Z .int [(iI 0), (iI 0), (iI 0)]) :: (a159, Own.ArrC Z .int [(iI 0), (iI 0), (iI 0)]) :: []) := O266.pick 8 rfl
      have O268 : Own.Owns n0 h261 ((ot240, STo Z (.ref ra241) (.ref rb242) (.int ((0 : Int32) + (1 : Int32)))) :: (ra241, Own.ArrC Z .long SM1) :: (rb242, Own.ArrC Z .int (TB1.map Value.int)) :: (a19, Own.ArrC Z .int [(.int (fBuf q3 (32 : Int32) W0)), (.int (fBuf q4 (32 : Int32) W1)), (.int (fBuf q5 (32 : Int32) W2))]) :: (a237, PSo Z (.ref ot240) (.ref owd243) (.ref osh244) (.ref obt245) (iI 2) (.ref opk246) (.ref osd247) (iI 1)) :: (opk246, Own.ArrC Z .long [(.long (pkB (fBuf q3 (0 : Int32) W0) (fBuf q4 (0 : Int32) W1) 0 (0 + b0))), (.long (pkC (fBuf q5 (0 : Int32) W2) 0))]) :: (owd243, Own.ArrC Z .int [(iI 0), (iI 0), (iI 1)]) :: (osh244, Own.ArrC Z .int [(.int (0 : Nat).toInt32), (.int (0 + b0).toInt32), (.int (0 : Nat).toInt32)]) :: (osd247, Own.ArrC Z .long SL1) :: (a10, Own.ArrC Z .int [(.int (fBuf q3 (0 : Int32) W0)), (.int (fBuf q4 (0 : Int32) W1)), (.int (fBuf q5 (0 : Int32) W2))]) :: (obt245, Own.ArrC Z .int [(.int b0.toInt32), (.int b1.toInt32), (.int b2.toInt32)]) :: (a1, Own.ArrC Z .int [(.int W0), (.int W1), (.int W2)]) :: (a234, Own.ArrC Z .int [(iI 0), (iI 0), (iI 0)]) :: (a159, Own.ArrC Z .int [(iI 0), (iI 0), (iI 0)]) :: []) := O267.pick 8 rfl
      have O269 : Own.Owns n0 h261 ((osd247, Own.ArrC Z .long SL1) :: (ot240, STo Z (.ref ra241) (.ref rb242) (.int ((0 : Int32) + (1 : Int32)))) :: (ra241, Own.ArrC Z .long SM1) :: (rb242, Own.ArrC Z .int (TB1.map Value.int)) :: (a19, Own.ArrC Z .int [(.int (fBuf q3 (32 : Int32) W0)), (.int (fBuf q4 (32 : Int32) W1)), (.int (fBuf q5 (32 : Int32) W2))]) :: (a237, PSo Z (.ref ot240) (.ref owd243) (.ref osh244) (.ref obt245) (iI 2) (.ref opk246) (.ref osd247) (iI 1)) :: (opk246, Own.ArrC Z .long [(.long (pkB (fBuf q3 (0 : Int32) W0) (fBuf q4 (0 : Int32) W1) 0 (0 + b0))), (.long (pkC (fBuf q5 (0 : Int32) W2) 0))]) :: (owd243, Own.ArrC Z .int [(iI 0), (iI 0), (iI 1)]) :: (osh244, Own.ArrC Z .int [(.int (0 : Nat).toInt32), (.int (0 + b0).toInt32), (.int (0 : Nat).toInt32)]) :: (a10, Own.ArrC Z .int [(.int (fBuf q3 (0 : Int32) W0)), (.int (fBuf q4 (0 : Int32) W1)), (.int (fBuf q5 (0 : Int32) W2))]) :: (obt245, Own.ArrC Z .int [(.int b0.toInt32), (.int b1.toInt32), (.int b2.toInt32)]) :: (a1, Own.ArrC Z .int [(.int W0), (.int W1), (.int W2)]) :: (a234, Own.ArrC Z .int [(iI 0), (iI 0), (iI 0)]) :: (a159, Own.ArrC Z .int [(iI 0), (iI 0), (iI 0)]) :: []) := O268.pick 8 rfl
      have O270 : Own.Owns n0 h261 ((osh244, Own.ArrC Z .int [(.int (0 : Nat).toInt32), (.int (0 + b0).toInt32), (.int (0 : Nat).toInt32)]) :: (osd247, Own.ArrC Z .long SL1) :: (ot240, STo Z (.ref ra241) (.ref rb242) (.int ((0 : Int32) + (1 : Int32)))) :: (ra241, Own.ArrC Z .long SM1) :: (rb242, Own.ArrC Z .int (TB1.map Value.int)) :: (a19, Own.ArrC Z .int [(.int (fBuf q3 (32 : Int32) W0)), (.int (fBuf q4 (32 : Int32) W1)), (.int (fBuf q5 (32 : Int32) W2))]) :: (a237, PSo Z (.ref ot240) (.ref owd243) (.ref osh244) (.ref obt245) (iI 2) (.ref opk246) (.ref osd247) (iI 1)) :: (opk246, Own.ArrC Z .long [(.long (pkB (fBuf q3 (0 : Int32) W0) (fBuf q4 (0 : Int32) W1) 0 (0 + b0))), (.long (pkC (fBuf q5 (0 : Int32) W2) 0))]) :: (owd243, Own.ArrC Z .int [(iI 0), (iI 0), (iI 1)]) :: (a10, Own.ArrC Z .int [(.int (fBuf q3 (0 : Int32) W0)), (.int (fBuf q4 (0 : Int32) W1)), (.int (fBuf q5 (0 : Int32) W2))]) :: (obt245, Own.ArrC Z .int [(.int b0.toInt32), (.int b1.toInt32), (.int b2.toInt32)]) :: (a1, Own.ArrC Z .int [(.int W0), (.int W1), (.int W2)]) :: (a234, Own.ArrC Z .int [(iI 0), (iI 0), (iI 0)]) :: (a159, Own.ArrC Z .int [(iI 0), (iI 0), (iI 0)]) :: []) := O269.pick 8 rfl
      have O271 : Own.Owns n0 h261 ((owd243, Own.ArrC Z .int [(iI 0), (iI 0), (iI 1)]) :: (osh244, Own.ArrC Z .int [(.int (0 : Nat).toInt32), (.int (0 + b0).toInt32), (.int (0 : Nat).toInt32)]) :: (osd247, Own.ArrC Z .long SL1) :: (ot240, STo Z (.ref ra241) (.ref rb242) (.int ((0 : Int32) + (1 : Int32)))) :: (ra241, Own.ArrC Z .long SM1) :: (rb242, Own.ArrC Z .int (TB1.map Value.int)) :: (a19, Own.ArrC Z .int [(.int (fBuf q3 (32 : Int32) W0)), (.int (fBuf q4 (32 : Int32) W1)), (.int (fBuf q5 (32 : Int32) W2))]) :: (a237, PSo Z (.ref ot240) (.ref owd243) (.ref osh244) (.ref obt245) (iI 2) (.ref opk246) (.ref osd247) (iI 1)) :: (opk246, Own.ArrC Z .long [(.long (pkB (fBuf q3 (0 : Int32) W0) (fBuf q4 (0 : Int32) W1) 0 (0 + b0))), (.long (pkC (fBuf q5 (0 : Int32) W2) 0))]) :: (a10, Own.ArrC Z .int [(.int (fBuf q3 (0 : Int32) W0)), (.int (fBuf q4 (0 : Int32) W1)), (.int (fBuf q5 (0 : Int32) W2))]) :: (obt245, Own.ArrC Z .int [(.int b0.toInt32), (.int b1.toInt32), (.int b2.toInt32)]) :: (a1, Own.ArrC Z .int [(.int W0), (.int W1), (.int W2)]) :: (a234, Own.ArrC Z .int [(iI 0), (iI 0), (iI 0)]) :: (a159, Own.ArrC Z .int [(iI 0), (iI 0), (iI 0)]) :: []) := O270.pick 8 rfl
      have O272 : Own.Owns n0 h261 ((opk246, Own.ArrC Z .long [(.long (pkB (fBuf q3 (0 : Int32) W0) (fBuf q4 (0 : Int32) W1) 0 (0 + b0))), (.long (pkC (fBuf q5 (0 : Int32) W2) 0))]) :: (owd243, Own.ArrC Z .int [(iI 0), (iI 0), (iI 1)]) :: (osh244, Own.ArrC Z .int [(.int (0 : Nat).toInt32), (.int (0 + b0).toInt32), (.int (0 : Nat).toInt32)]) :: (osd247, Own.ArrC Z .long SL1) :: (ot240, STo Z (.ref ra241) (.ref rb242) (.int ((0 : Int32) + (1 : Int32)))) :: (ra241, Own.ArrC Z .long SM1) :: (rb242, Own.ArrC Z .int (TB1.map Value.int)) :: (a19, Own.ArrC Z .int [(.int (fBuf q3 (32 : Int32) W0)), (.int (fBuf q4 (32 : Int32) W1)), (.int (fBuf q5 (32 : Int32) W2))]) :: (a237, PSo Z (.ref ot240) (.ref owd243) (.ref osh244) (.ref obt245) (iI 2) (.ref opk246) (.ref osd247) (iI 1)) :: (a10, Own.ArrC Z .int [(.int (fBuf q3 (0 : Int32) W0)), (.int (fBuf q4 (0 : Int32) W1)), (.int (fBuf q5 (0 : Int32) W2))]) :: (obt245, Own.ArrC Z .int [(.int b0.toInt32), (.int b1.toInt32), (.int b2.toInt32)]) :: (a1, Own.ArrC Z .int [(.int W0), (.int W1), (.int W2)]) :: (a234, Own.ArrC Z .int [(iI 0), (iI 0), (iI 0)]) :: (a159, Own.ArrC Z .int [(iI 0), (iI 0), (iI 0)]) :: []) := O271.pick 8 rfl
      have O273 : Own.Owns n0 h261 ((a237, PSo Z (.ref ot240) (.ref owd243) (.ref osh244) (.ref obt245) (iI 2) (.ref opk246) (.ref osd247) (iI 1)) :: (opk246, Own.ArrC Z .long [(.long (pkB (fBuf q3 (0 : Int32) W0) (fBuf q4 (0 : Int32) W1) 0 (0 + b0))), (.long (pkC (fBuf q5 (0 : Int32) W2) 0))]) :: (owd243, Own.ArrC Z .int [(iI 0), (iI 0), (iI 1)]) :: (osh244, Own.ArrC Z .int [(.int (0 : Nat).toInt32), (.int (0 + b0).toInt32), (.int (0 : Nat).toInt32)]) :: (osd247, Own.ArrC Z .long SL1) :: (ot240, STo Z (.ref ra241) (.ref rb242) (.int ((0 : Int32) + (1 : Int32)))) :: (ra241, Own.ArrC Z .long SM1) :: (rb242, Own.ArrC Z .int (TB1.map Value.int)) :: (a19, Own.ArrC Z .int [(.int (fBuf q3 (32 : Int32) W0)), (.int (fBuf q4 (32 : Int32) W1)), (.int (fBuf q5 (32 : Int32) W2))]) :: (a10, Own.ArrC Z .int [(.int (fBuf q3 (0 : Int32) W0)), (.int (fBuf q4 (0 : Int32) W1)), (.int (fBuf q5 (0 : Int32) W2))]) :: (obt245, Own.ArrC Z .int [(.int b0.toInt32), (.int b1.toInt32), (.int b2.toInt32)]) :: (a1, Own.ArrC Z .int [(.int W0), (.int W1), (.int W2)]) :: (a234, Own.ArrC Z .int [(iI 0), (iI 0), (iI 0)]) :: (a159, Own.ArrC Z .int [(iI 0), (iI 0), (iI 0)]) :: []) := O272.pick 8 rfl
      refine Own.callV hx hZ hown (O273.exa (i := 0) rfl) (hw _ (wm 56 rfl)) (hw _ (wm 57 rfl)) (hw _ (wm 59 rfl)) (hw _ (wm 58 rfl)) (hw _ (wm 11 rfl)) (hw _ (wm 60 rfl)) (by decide) pd11 (argsL := [(.ref a19)]) (rest := []) rfl (W := 0) (Nat.le_of_eq rfl) (rm := ({ frames := 3, cells := 0, slots := 0, locals := 45 } : Room)) (by decide) (by decide) (by decide) (by decide) (k' := 14) (n' := 2213) rfl rfl (by rw [hml]; rfl) [(.ref a19), (.ref a237)] rfl (hb hby at_193) (pc' := 196) rfl (rm9_21 l Z a0 hw a237 a19 h261 n0 ot240 ra241 rb242 owd243 osh244 obt245 opk246 osd247 (pkB (fBuf q3 (0 : Int32) W0) (fBuf q4 (0 : Int32) W1) 0 (0 + b0)) (pkC (fBuf q5 (0 : Int32) W2) 0) (fBuf q3 (32 : Int32) W0) (fBuf q4 (32 : Int32) W1) (fBuf q5 (32 : Int32) W2) 0 (0 + b0) 0 ((0 : Int32) + (1 : Int32)) SL1 SM1 TB1 hL1 hM1 hT1 hn1 (by decide) ((a10, Own.ArrC Z .int [(.int (fBuf q3 (0 : Int32) W0)), (.int (fBuf q4 (0 : Int32) W1)), (.int (fBuf q5 (0 : Int32) W2))]) :: (obt245, Own.ArrC Z .int [(.int b0.toInt32), (.int b1.toInt32), (.int b2.toInt32)]) :: (a1, Own.ArrC Z .int [(.int W0), (.int W1), (.int W2)]) :: (a234, Own.ArrC Z .int [(iI 0), (iI 0), (iI 0)]) :: (a159, Own.ArrC Z .int [(iI 0), (iI 0), (iI 0)]) :: []) O273) ?_
      rintro _ h274 ⟨SL2, SM2, TB2, rfl, hL2, hU20, hU21, hlo2, hM2, hT2, hn2, O275⟩
      show Own.Goes _ _ _ _ _ _ _ _ _ _ _ _ _ _ _ _ _ (mkF m 196 #[.val (.int p0), .val (.int p1), .val (.int p2), .val (.long q3), .second, .val (.long q4), .second, .val (.long q5), .second, .val (.int W0), .val (.int W1), .val (.int W2), .val (.ref a1), .val (.ref a10), .val (.ref a19), .val (.int (0 : Int32)), .val (.ref a159), .val (.ref a234), .val (.ref a237)] [(.int (1 : Int32))])
      refine Own.pop hx (hb hby at_196) rfl rfl ?_
      refine Own.aload hx (.ref a237) (hb hby at_197) rfl rfl rfl ?_
      refine Own.iconst hx (0 : Int32) (hb hby at_199) rfl (by decide) ?_
      refine Own.aload hx (.ref a159) (hb hby at_200) rfl rfl rfl ?_
      have O276 : Own.Owns n0 h274 ((a159, Own.ArrC Z .int [(iI 0), (iI 0), (iI 0)]) :: (a237, PSo Z (.ref ot240) (.ref owd243) (.ref osh244) (.ref obt245) (iI 2) (.ref opk246) (.ref osd247) (iI 2)) :: (opk246, Own.ArrC Z .long [(.long (pkB (fBuf q3 (32 : Int32) W0) (fBuf q4 (32 : Int32) W1) 0 (0 + b0))), (.long (pkC (fBuf q5 (32 : Int32) W2) 0))]) :: (owd243, Own.ArrC Z .int [(iI 0), (iI 0), (iI 1)]) :: (osh244, Own.ArrC Z .int [(.int (0 : Nat).toInt32), (.int (0 + b0).toInt32), (.int (0 : Nat).toInt32)]) :: (osd247, Own.ArrC Z .long SL2) :: (ot240, STo Z (.ref ra241) (.ref rb242) (.int (((0 : Int32) + (1 : Int32)) + (1 : Int32)))) :: (ra241, Own.ArrC Z .long SM2) :: (rb242, Own.ArrC Z .int (TB2.map Value.int)) :: (a19, Own.ArrC Z .int [(.int (fBuf q3 (32 : Int32) W0)), (.int (fBuf q4 (32 : Int32) W1)), (.int (fBuf q5 (32 : Int32) W2))]) :: (a10, Own.ArrC Z .int [(.int (fBuf q3 (0 : Int32) W0)), (.int (fBuf q4 (0 : Int32) W1)), (.int (fBuf q5 (0 : Int32) W2))]) :: (obt245, Own.ArrC Z .int [(.int b0.toInt32), (.int b1.toInt32), (.int b2.toInt32)]) :: (a1, Own.ArrC Z .int [(.int W0), (.int W1), (.int W2)]) :: (a234, Own.ArrC Z .int [(iI 0), (iI 0), (iI 0)]) :: []) := O275.pick 13 rfl
      have O277 : Own.Owns n0 h274 ((obt245, Own.ArrC Z .int [(.int b0.toInt32), (.int b1.toInt32), (.int b2.toInt32)]) :: (a159, Own.ArrC Z .int [(iI 0), (iI 0), (iI 0)]) :: (a237, PSo Z (.ref ot240) (.ref owd243) (.ref osh244) (.ref obt245) (iI 2) (.ref opk246) (.ref osd247) (iI 2)) :: (opk246, Own.ArrC Z .long [(.long (pkB (fBuf q3 (32 : Int32) W0) (fBuf q4 (32 : Int32) W1) 0 (0 + b0))), (.long (pkC (fBuf q5 (32 : Int32) W2) 0))]) :: (owd243, Own.ArrC Z .int [(iI 0), (iI 0), (iI 1)]) :: (osh244, Own.ArrC Z .int [(.int (0 : Nat).toInt32), (.int (0 + b0).toInt32), (.int (0 : Nat).toInt32)]) :: (osd247, Own.ArrC Z .long SL2) :: (ot240, STo Z (.ref ra241) (.ref rb242) (.int (((0 : Int32) + (1 : Int32)) + (1 : Int32)))) :: (ra241, Own.ArrC Z .long SM2) :: (rb242, Own.ArrC Z .int (TB2.map Value.int)) :: (a19, Own.ArrC Z .int [(.int (fBuf q3 (32 : Int32) W0)), (.int (fBuf q4 (32 : Int32) W1)), (.int (fBuf q5 (32 : Int32) W2))]) :: (a10, Own.ArrC Z .int [(.int (fBuf q3 (0 : Int32) W0)), (.int (fBuf q4 (0 : Int32) W1)), (.int (fBuf q5 (0 : Int32) W2))]) :: (a1, Own.ArrC Z .int [(.int W0), (.int W1), (.int W2)]) :: (a234, Own.ArrC Z .int [(iI 0), (iI 0), (iI 0)]) :: []) := O276.pick 11 rfl
      have O278 : Own.Owns n0 h274 ((osh244, Own.ArrC Z .int [(.int (0 : Nat).toInt32), (.int (0 + b0).toInt32), (.int (0 : Nat).toInt32)]) :: (obt245, Own.ArrC Z .int [(.int b0.toInt32), (.int b1.toInt32), (.int b2.toInt32)]) :: (a159, Own.ArrC Z .int [(iI 0), (iI 0), (iI 0)]) :: (a237, PSo Z (.ref ot240) (.ref owd243) (.ref osh244) (.ref obt245) (iI 2) (.ref opk246) (.ref osd247) (iI 2)) :: (opk246, Own.ArrC Z .long [(.long (pkB (fBuf q3 (32 : Int32) W0) (fBuf q4 (32 : Int32) W1) 0 (0 + b0))), (.long (pkC (fBuf q5 (32 : Int32) W2) 0))]) :: (owd243, Own.ArrC Z .int [(iI 0), (iI 0), (iI 1)]) :: (osd247, Own.ArrC Z .long SL2) :: (ot240, STo Z (.ref ra241) (.ref rb242) (.int (((0 : Int32) + (1 : Int32)) + (1 : Int32)))) :: (ra241, Own.ArrC Z .long SM2) :: (rb242, Own.ArrC Z .int (TB2.map Value.int)) :: (a19, Own.ArrC Z .int [(.int (fBuf q3 (32 : Int32) W0)), (.int (fBuf q4 (32 : Int32) W1)), (.int (fBuf q5 (32 : Int32) W2))]) :: (a10, Own.ArrC Z .int [(.int (fBuf q3 (0 : Int32) W0)), (.int (fBuf q4 (0 : Int32) W1)), (.int (fBuf q5 (0 : Int32) W2))]) :: (a1, Own.ArrC Z .int [(.int W0), (.int W1), (.int W2)]) :: (a234, Own.ArrC Z .int [(iI 0), (iI 0), (iI 0)]) :: []) := O277.pick 5 rfl
      have O279 : Own.Owns n0 h274 ((owd243, Own.ArrC Z .int [(iI 0), (iI 0), (iI 1)]) :: (osh244, Own.ArrC Z .int [(.int (0 : Nat).toInt32), (.int (0 + b0).toInt32), (.int (0 : Nat).toInt32)]) :: (obt245, Own.ArrC Z .int [(.int b0.toInt32), (.int b1.toInt32), (.int b2.toInt32)]) :: (a159, Own.ArrC Z .int [(iI 0), (iI 0), (iI 0)]) :: (a237, PSo Z (.ref ot240) (.ref owd243) (.ref osh244) (.ref obt245) (iI 2) (.ref opk246) (.ref osd247) (iI 2)) :: (opk246, Own.ArrC Z .long [(.long (pkB (fBuf q3 (32 : Int32) W0) (fBuf q4 (32 : Int32) W1) 0 (0 + b0))), (.long (pkC (fBuf q5 (32 : Int32) W2) 0))]) :: (osd247, Own.ArrC Z .long SL2) :: (ot240, STo Z (.ref ra241) (.ref rb242) (.int (((0 : Int32) + (1 : Int32)) + (1 : Int32)))) :: (ra241, Own.ArrC Z .long SM2) :: (rb242, Own.ArrC Z .int (TB2.map Value.int)) :: (a19, Own.ArrC Z .int [(.int (fBuf q3 (32 : Int32) W0)), (.int (fBuf q4 (32 : Int32) W1)), (.int (fBuf q5 (32 : Int32) W2))]) :: (a10, Own.ArrC Z .int [(.int (fBuf q3 (0 : Int32) W0)), (.int (fBuf q4 (0 : Int32) W1)), (.int (fBuf q5 (0 : Int32) W2))]) :: (a1, Own.ArrC Z .int [(.int W0), (.int W1), (.int W2)]) :: (a234, Own.ArrC Z .int [(iI 0), (iI 0), (iI 0)]) :: []) := O278.pick 5 rfl
      have O280 : Own.Owns n0 h274 ((osd247, Own.ArrC Z .long SL2) :: (owd243, Own.ArrC Z .int [(iI 0), (iI 0), (iI 1)]) :: (osh244, Own.ArrC Z .int [(.int (0 : Nat).toInt32), (.int (0 + b0).toInt32), (.int (0 : Nat).toInt32)]) :: (obt245, Own.ArrC Z .int [(.int b0.toInt32), (.int b1.toInt32), (.int b2.toInt32)]) :: (a159, Own.ArrC Z .int [(iI 0), (iI 0), (iI 0)]) :: (a237, PSo Z (.ref ot240) (.ref owd243) (.ref osh244) (.ref obt245) (iI 2) (.ref opk246) (.ref osd247) (iI 2)) :: (opk246, Own.ArrC Z .long [(.long (pkB (fBuf q3 (32 : Int32) W0) (fBuf q4 (32 : Int32) W1) 0 (0 + b0))), (.long (pkC (fBuf q5 (32 : Int32) W2) 0))]) :: (ot240, STo Z (.ref ra241) (.ref rb242) (.int (((0 : Int32) + (1 : Int32)) + (1 : Int32)))) :: (ra241, Own.ArrC Z .long SM2) :: (rb242, Own.ArrC Z .int (TB2.map Value.int)) :: (a19, Own.ArrC Z .int [(.int (fBuf q3 (32 : Int32) W0)), (.int (fBuf q4 (32 : Int32) W1)), (.int (fBuf q5 (32 : Int32) W2))]) :: (a10, Own.ArrC Z .int [(.int (fBuf q3 (0 : Int32) W0)), (.int (fBuf q4 (0 : Int32) W1)), (.int (fBuf q5 (0 : Int32) W2))]) :: (a1, Own.ArrC Z .int [(.int W0), (.int W1), (.int W2)]) :: (a234, Own.ArrC Z .int [(iI 0), (iI 0), (iI 0)]) :: []) := O279.pick 6 rfl
      have O281 : Own.Owns n0 h274 ((a237, PSo Z (.ref ot240) (.ref owd243) (.ref osh244) (.ref obt245) (iI 2) (.ref opk246) (.ref osd247) (iI 2)) :: (osd247, Own.ArrC Z .long SL2) :: (owd243, Own.ArrC Z .int [(iI 0), (iI 0), (iI 1)]) :: (osh244, Own.ArrC Z .int [(.int (0 : Nat).toInt32), (.int (0 + b0).toInt32), (.int (0 : Nat).toInt32)]) :: (obt245, Own.ArrC Z .int [(.int b0.toInt32), (.int b1.toInt32), (.int b2.toInt32)]) :: (a159, Own.ArrC Z .int [(iI 0), (iI 0), (iI 0)]) :: (opk246, Own.ArrC Z .long [(.long (pkB (fBuf q3 (32 : Int32) W0) (fBuf q4 (32 : Int32) W1) 0 (0 + b0))), (.long (pkC (fBuf q5 (32 : Int32) W2) 0))]) :: (ot240, STo Z (.ref ra241) (.ref rb242) (.int (((0 : Int32) + (1 : Int32)) + (1 : Int32)))) :: (ra241, Own.ArrC Z .long SM2) :: (rb242, Own.ArrC Z .int (TB2.map Value.int)) :: (a19, Own.ArrC Z .int [(.int (fBuf q3 (32 : Int32) W0)), (.int (fBuf q4 (32 : Int32) W1)), (.int (fBuf q5 (32 : Int32) W2))]) :: (a10, Own.ArrC Z .int [(.int (fBuf q3 (0 : Int32) W0)), (.int (fBuf q4 (0 : Int32) W1)), (.int (fBuf q5 (0 : Int32) W2))]) :: (a1, Own.ArrC Z .int [(.int W0), (.int W1), (.int W2)]) :: (a234, Own.ArrC Z .int [(iI 0), (iI 0), (iI 0)]) :: []) := O280.pick 5 rfl
      refine Own.callV hx hZ hown (O281.exa (i := 0) rfl) (hw _ (wm 95 rfl)) (hw _ (wm 96 rfl)) (hw _ (wm 98 rfl)) (hw _ (wm 97 rfl)) (hw _ (wm 11 rfl)) (hw _ (wm 99 rfl)) (by decide) pd12 (argsL := [(.int (0 : Int32)), (.ref a159)]) (rest := []) rfl (W := 0) (Nat.le_of_eq rfl) (rm := ({ frames := 0, cells := 0, slots := 0, locals := 0 } : Room)) (by decide) (by decide) (by decide) (by decide) (k' := 14) (n' := 2213) rfl rfl (by rw [hml]; rfl) [(.ref a159), (.int (0 : Int32)), (.ref a237)] rfl (hb hby at_202) (pc' := 205) rfl (rm16_20 l Z a0 hw a237 a159 h274 n0 ot240 ra241 rb242 owd243 osh244 obt245 opk246 osd247 (2 : Int32) 0 (0 + b0) 0 b0 b1 b2 SL2 (pkB (fBuf q3 (0 : Int32) W0) (fBuf q4 (0 : Int32) W1) 0 (0 + b0)) (pkC (fBuf q5 (0 : Int32) W2) 0) ((hlo2 0 (by decide)).trans hU10) ((hlo2 1 (by decide)).trans hU11) ((opk246, Own.ArrC Z .long [(.long (pkB (fBuf q3 (32 : Int32) W0) (fBuf q4 (32 : Int32) W1) 0 (0 + b0))), (.long (pkC (fBuf q5 (32 : Int32) W2) 0))]) :: (ot240, STo Z (.ref ra241) (.ref rb242) (.int (((0 : Int32) + (1 : Int32)) + (1 : Int32)))) :: (ra241, Own.ArrC Z .long SM2) :: (rb242, Own.ArrC Z .int (TB2.map Value.int)) :: (a19, Own.ArrC Z .int [(.int (fBuf q3 (32 : Int32) W0)), (.int (fBuf q4 (32 : Int32) W1)), (.int (fBuf q5 (32 : Int32) W2))]) :: (a10, Own.ArrC Z .int [(.int (fBuf q3 (0 : Int32) W0)), (.int (fBuf q4 (0 : Int32) W1)), (.int (fBuf q5 (0 : Int32) W2))]) :: (a1, Own.ArrC Z .int [(.int W0), (.int W1), (.int W2)]) :: (a234, Own.ArrC Z .int [(iI 0), (iI 0), (iI 0)]) :: []) O281) ?_
      rintro _ h282 ⟨rfl, O283⟩
      show Own.Goes _ _ _ _ _ _ _ _ _ _ _ _ _ _ _ _ _ (mkF m 205 #[.val (.int p0), .val (.int p1), .val (.int p2), .val (.long q3), .second, .val (.long q4), .second, .val (.long q5), .second, .val (.int W0), .val (.int W1), .val (.int W2), .val (.ref a1), .val (.ref a10), .val (.ref a19), .val (.int (0 : Int32)), .val (.ref a159), .val (.ref a234), .val (.ref a237)] [])
      refine Own.aload hx (.ref a237) (hb hby at_205) rfl rfl rfl ?_
      refine Own.iload hx (0 : Int32) (hb hby at_207) rfl rfl ?_
      have hc284 : (0 : Int32) = (0 : Int32) := by decide
      refine Own.ifF hx (Own.z_eq (0 : Int32)) (hb hby at_209) (pcN := 212) rfl (by decide) (pcT := 216) rfl (fun _ => ?_) (fun q => absurd hc284 q)
      refine Own.iconst hx (1 : Int32) (hb hby at_216) rfl (by decide) ?_
      refine Own.aload hx (.ref a234) (hb hby at_217) rfl rfl rfl ?_
      have O286 : Own.Owns n0 h282 ((a234, Own.ArrC Z .int [(iI 0), (iI 0), (iI 0)]) :: (a237, PSo Z (.ref ot240) (.ref owd243) (.ref osh244) (.ref obt245) (iI 2) (.ref opk246) (.ref osd247) (iI 2)) :: (osd247, Own.ArrC Z .long SL2) :: (owd243, Own.ArrC Z .int [(iI 0), (iI 0), (iI 1)]) :: (osh244, Own.ArrC Z .int [(.int (0 : Nat).toInt32), (.int (0 + b0).toInt32), (.int (0 : Nat).toInt32)]) :: (obt245, Own.ArrC Z .int [(.int b0.toInt32), (.int b1.toInt32), (.int b2.toInt32)]) :: (a159, Own.ArrC Z .int [(.int (rdx (pkB (fBuf q3 (0 : Int32) W0) (fBuf q4 (0 : Int32) W1) 0 (0 + b0)) 0 b0)), (.int (rdx (pkB (fBuf q3 (0 : Int32) W0) (fBuf q4 (0 : Int32) W1) 0 (0 + b0)) (0 + b0) b1)), (.int (rdx (pkC (fBuf q5 (0 : Int32) W2) 0) 0 b2))]) :: (opk246, Own.ArrC Z .long [(.long (pkB (fBuf q3 (32 : Int32) W0) (fBuf q4 (32 : Int32) W1) 0 (0 + b0))), (.long (pkC (fBuf q5 (32 : Int32) W2) 0))]) :: (ot240, STo Z (.ref ra241) (.ref rb242) (.int (((0 : Int32) + (1 : Int32)) + (1 : Int32)))) :: (ra241, Own.ArrC Z .long SM2) :: (rb242, Own.ArrC Z .int (TB2.map Value.int)) :: (a19, Own.ArrC Z .int [(.int (fBuf q3 (32 : Int32) W0)), (.int (fBuf q4 (32 : Int32) W1)), (.int (fBuf q5 (32 : Int32) W2))]) :: (a10, Own.ArrC Z .int [(.int (fBuf q3 (0 : Int32) W0)), (.int (fBuf q4 (0 : Int32) W1)), (.int (fBuf q5 (0 : Int32) W2))]) :: (a1, Own.ArrC Z .int [(.int W0), (.int W1), (.int W2)]) :: []) := O283.pick 13 rfl
      have O287 : Own.Owns n0 h282 ((obt245, Own.ArrC Z .int [(.int b0.toInt32), (.int b1.toInt32), (.int b2.toInt32)]) :: (a234, Own.ArrC Z .int [(iI 0), (iI 0), (iI 0)]) :: (a237, PSo Z (.ref ot240) (.ref owd243) (.ref osh244) (.ref obt245) (iI 2) (.ref opk246) (.ref osd247) (iI 2)) :: (osd247, Own.ArrC Z .long SL2) :: (owd243, Own.ArrC Z .int [(iI 0), (iI 0), (iI 1)]) :: (osh244, Own.ArrC Z .int [(.int (0 : Nat).toInt32), (.int (0 + b0).toInt32), (.int (0 : Nat).toInt32)]) :: (a159, Own.ArrC Z .int [(.int (rdx (pkB (fBuf q3 (0 : Int32) W0) (fBuf q4 (0 : Int32) W1) 0 (0 + b0)) 0 b0)), (.int (rdx (pkB (fBuf q3 (0 : Int32) W0) (fBuf q4 (0 : Int32) W1) 0 (0 + b0)) (0 + b0) b1)), (.int (rdx (pkC (fBuf q5 (0 : Int32) W2) 0) 0 b2))]) :: (opk246, Own.ArrC Z .long [(.long (pkB (fBuf q3 (32 : Int32) W0) (fBuf q4 (32 : Int32) W1) 0 (0 + b0))), (.long (pkC (fBuf q5 (32 : Int32) W2) 0))]) :: (ot240, STo Z (.ref ra241) (.ref rb242) (.int (((0 : Int32) + (1 : Int32)) + (1 : Int32)))) :: (ra241, Own.ArrC Z .long SM2) :: (rb242, Own.ArrC Z .int (TB2.map Value.int)) :: (a19, Own.ArrC Z .int [(.int (fBuf q3 (32 : Int32) W0)), (.int (fBuf q4 (32 : Int32) W1)), (.int (fBuf q5 (32 : Int32) W2))]) :: (a10, Own.ArrC Z .int [(.int (fBuf q3 (0 : Int32) W0)), (.int (fBuf q4 (0 : Int32) W1)), (.int (fBuf q5 (0 : Int32) W2))]) :: (a1, Own.ArrC Z .int [(.int W0), (.int W1), (.int W2)]) :: []) := O286.pick 5 rfl
      have O288 : Own.Owns n0 h282 ((osh244, Own.ArrC Z .int [(.int (0 : Nat).toInt32), (.int (0 + b0).toInt32), (.int (0 : Nat).toInt32)]) :: (obt245, Own.ArrC Z .int [(.int b0.toInt32), (.int b1.toInt32), (.int b2.toInt32)]) :: (a234, Own.ArrC Z .int [(iI 0), (iI 0), (iI 0)]) :: (a237, PSo Z (.ref ot240) (.ref owd243) (.ref osh244) (.ref obt245) (iI 2) (.ref opk246) (.ref osd247) (iI 2)) :: (osd247, Own.ArrC Z .long SL2) :: (owd243, Own.ArrC Z .int [(iI 0), (iI 0), (iI 1)]) :: (a159, Own.ArrC Z .int [(.int (rdx (pkB (fBuf q3 (0 : Int32) W0) (fBuf q4 (0 : Int32) W1) 0 (0 + b0)) 0 b0)), (.int (rdx (pkB (fBuf q3 (0 : Int32) W0) (fBuf q4 (0 : Int32) W1) 0 (0 + b0)) (0 + b0) b1)), (.int (rdx (pkC (fBuf q5 (0 : Int32) W2) 0) 0 b2))]) :: (opk246, Own.ArrC Z .long [(.long (pkB (fBuf q3 (32 : Int32) W0) (fBuf q4 (32 : Int32) W1) 0 (0 + b0))), (.long (pkC (fBuf q5 (32 : Int32) W2) 0))]) :: (ot240, STo Z (.ref ra241) (.ref rb242) (.int (((0 : Int32) + (1 : Int32)) + (1 : Int32)))) :: (ra241, Own.ArrC Z .long SM2) :: (rb242, Own.ArrC Z .int (TB2.map Value.int)) :: (a19, Own.ArrC Z .int [(.int (fBuf q3 (32 : Int32) W0)), (.int (fBuf q4 (32 : Int32) W1)), (.int (fBuf q5 (32 : Int32) W2))]) :: (a10, Own.ArrC Z .int [(.int (fBuf q3 (0 : Int32) W0)), (.int (fBuf q4 (0 : Int32) W1)), (.int (fBuf q5 (0 : Int32) W2))]) :: (a1, Own.ArrC Z .int [(.int W0), (.int W1), (.int W2)]) :: []) := O287.pick 5 rfl
      have O289 : Own.Owns n0 h282 ((owd243, Own.ArrC Z .int [(iI 0), (iI 0), (iI 1)]) :: (osh244, Own.ArrC Z .int [(.int (0 : Nat).toInt32), (.int (0 + b0).toInt32), (.int (0 : Nat).toInt32)]) :: (obt245, Own.ArrC Z .int [(.int b0.toInt32), (.int b1.toInt32), (.int b2.toInt32)]) :: (a234, Own.ArrC Z .int [(iI 0), (iI 0), (iI 0)]) :: (a237, PSo Z (.ref ot240) (.ref owd243) (.ref osh244) (.ref obt245) (iI 2) (.ref opk246) (.ref osd247) (iI 2)) :: (osd247, Own.ArrC Z .long SL2) :: (a159, Own.ArrC Z .int [(.int (rdx (pkB (fBuf q3 (0 : Int32) W0) (fBuf q4 (0 : Int32) W1) 0 (0 + b0)) 0 b0)), (.int (rdx (pkB (fBuf q3 (0 : Int32) W0) (fBuf q4 (0 : Int32) W1) 0 (0 + b0)) (0 + b0) b1)), (.int (rdx (pkC (fBuf q5 (0 : Int32) W2) 0) 0 b2))]) :: (opk246, Own.ArrC Z .long [(.long (pkB (fBuf q3 (32 : Int32) W0) (fBuf q4 (32 : Int32) W1) 0 (0 + b0))), (.long (pkC (fBuf q5 (32 : Int32) W2) 0))]) :: (ot240, STo Z (.ref ra241) (.ref rb242) (.int (((0 : Int32) + (1 : Int32)) + (1 : Int32)))) :: (ra241, Own.ArrC Z .long SM2) :: (rb242, Own.ArrC Z .int (TB2.map Value.int)) :: (a19, Own.ArrC Z .int [(.int (fBuf q3 (32 : Int32) W0)), (.int (fBuf q4 (32 : Int32) W1)), (.int (fBuf q5 (32 : Int32) W2))]) :: (a10, Own.ArrC Z .int [(.int (fBuf q3 (0 : Int32) W0)), (.int (fBuf q4 (0 : Int32) W1)), (.int (fBuf q5 (0 : Int32) W2))]) :: (a1, Own.ArrC Z .int [(.int W0), (.int W1), (.int W2)]) :: []) := O288.pick 5 rfl
      have O290 : Own.Owns n0 h282 ((osd247, Own.ArrC Z .long SL2) :: (owd243, Own.ArrC Z .int [(iI 0), (iI 0), (iI 1)]) :: (osh244, Own.ArrC Z .int [(.int (0 : Nat).toInt32), (.int (0 + b0).toInt32), (.int (0 : Nat).toInt32)]) :: (obt245, Own.ArrC Z .int [(.int b0.toInt32), (.int b1.toInt32), (.int b2.toInt32)]) :: (a234, Own.ArrC Z .int [(iI 0), (iI 0), (iI 0)]) :: (a237, PSo Z (.ref ot240) (.ref owd243) (.ref osh244) (.ref obt245) (iI 2) (.ref opk246) (.ref osd247) (iI 2)) :: (a159, Own.ArrC Z .int [(.int (rdx (pkB (fBuf q3 (0 : Int32) W0) (fBuf q4 (0 : Int32) W1) 0 (0 + b0)) 0 b0)), (.int (rdx (pkB (fBuf q3 (0 : Int32) W0) (fBuf q4 (0 : Int32) W1) 0 (0 + b0)) (0 + b0) b1)), (.int (rdx (pkC (fBuf q5 (0 : Int32) W2) 0) 0 b2))]) :: (opk246, Own.ArrC Z .long [(.long (pkB (fBuf q3 (32 : Int32) W0) (fBuf q4 (32 : Int32) W1) 0 (0 + b0))), (.long (pkC (fBuf q5 (32 : Int32) W2) 0))]) :: (ot240, STo Z (.ref ra241) (.ref rb242) (.int (((0 : Int32) + (1 : Int32)) + (1 : Int32)))) :: (ra241, Own.ArrC Z .long SM2) :: (rb242, Own.ArrC Z .int (TB2.map Value.int)) :: (a19, Own.ArrC Z .int [(.int (fBuf q3 (32 : Int32) W0)), (.int (fBuf q4 (32 : Int32) W1)), (.int (fBuf q5 (32 : Int32) W2))]) :: (a10, Own.ArrC Z .int [(.int (fBuf q3 (0 : Int32) W0)), (.int (fBuf q4 (0 : Int32) W1)), (.int (fBuf q5 (0 : Int32) W2))]) :: (a1, Own.ArrC Z .int [(.int W0), (.int W1), (.int W2)]) :: []) := O289.pick 5 rfl
      have O291 : Own.Owns n0 h282 ((a237, PSo Z (.ref ot240) (.ref owd243) (.ref osh244) (.ref obt245) (iI 2) (.ref opk246) (.ref osd247) (iI 2)) :: (osd247, Own.ArrC Z .long SL2) :: (owd243, Own.ArrC Z .int [(iI 0), (iI 0), (iI 1)]) :: (osh244, Own.ArrC Z .int [(.int (0 : Nat).toInt32), (.int (0 + b0).toInt32), (.int (0 : Nat).toInt32)]) :: (obt245, Own.ArrC Z .int [(.int b0.toInt32), (.int b1.toInt32), (.int b2.toInt32)]) :: (a234, Own.ArrC Z .int [(iI 0), (iI 0), (iI 0)]) :: (a159, Own.ArrC Z .int [(.int (rdx (pkB (fBuf q3 (0 : Int32) W0) (fBuf q4 (0 : Int32) W1) 0 (0 + b0)) 0 b0)), (.int (rdx (pkB (fBuf q3 (0 : Int32) W0) (fBuf q4 (0 : Int32) W1) 0 (0 + b0)) (0 + b0) b1)), (.int (rdx (pkC (fBuf q5 (0 : Int32) W2) 0) 0 b2))]) :: (opk246, Own.ArrC Z .long [(.long (pkB (fBuf q3 (32 : Int32) W0) (fBuf q4 (32 : Int32) W1) 0 (0 + b0))), (.long (pkC (fBuf q5 (32 : Int32) W2) 0))]) :: (ot240, STo Z (.ref ra241) (.ref rb242) (.int (((0 : Int32) + (1 : Int32)) + (1 : Int32)))) :: (ra241, Own.ArrC Z .long SM2) :: (rb242, Own.ArrC Z .int (TB2.map Value.int)) :: (a19, Own.ArrC Z .int [(.int (fBuf q3 (32 : Int32) W0)), (.int (fBuf q4 (32 : Int32) W1)), (.int (fBuf q5 (32 : Int32) W2))]) :: (a10, Own.ArrC Z .int [(.int (fBuf q3 (0 : Int32) W0)), (.int (fBuf q4 (0 : Int32) W1)), (.int (fBuf q5 (0 : Int32) W2))]) :: (a1, Own.ArrC Z .int [(.int W0), (.int W1), (.int W2)]) :: []) := O290.pick 5 rfl
      refine Own.callV hx hZ hown (O291.exa (i := 0) rfl) (hw _ (wm 95 rfl)) (hw _ (wm 96 rfl)) (hw _ (wm 98 rfl)) (hw _ (wm 97 rfl)) (hw _ (wm 11 rfl)) (hw _ (wm 99 rfl)) (by decide) pd12 (argsL := [(.int (1 : Int32)), (.ref a234)]) (rest := []) rfl (W := 0) (Nat.le_of_eq rfl) (rm := ({ frames := 0, cells := 0, slots := 0, locals := 0 } : Room)) (by decide) (by decide) (by decide) (by decide) (k' := 14) (n' := 2213) rfl rfl (by rw [hml]; rfl) [(.ref a234), (.int (1 : Int32)), (.ref a237)] rfl (hb hby at_219) (pc' := 222) rfl (rm16_21 l Z a0 hw a237 a234 h282 n0 ot240 ra241 rb242 owd243 osh244 obt245 opk246 osd247 (2 : Int32) 0 (0 + b0) 0 b0 b1 b2 SL2 (pkB (fBuf q3 (32 : Int32) W0) (fBuf q4 (32 : Int32) W1) 0 (0 + b0)) (pkC (fBuf q5 (32 : Int32) W2) 0) hU20 hU21 ((a159, Own.ArrC Z .int [(.int (rdx (pkB (fBuf q3 (0 : Int32) W0) (fBuf q4 (0 : Int32) W1) 0 (0 + b0)) 0 b0)), (.int (rdx (pkB (fBuf q3 (0 : Int32) W0) (fBuf q4 (0 : Int32) W1) 0 (0 + b0)) (0 + b0) b1)), (.int (rdx (pkC (fBuf q5 (0 : Int32) W2) 0) 0 b2))]) :: (opk246, Own.ArrC Z .long [(.long (pkB (fBuf q3 (32 : Int32) W0) (fBuf q4 (32 : Int32) W1) 0 (0 + b0))), (.long (pkC (fBuf q5 (32 : Int32) W2) 0))]) :: (ot240, STo Z (.ref ra241) (.ref rb242) (.int (((0 : Int32) + (1 : Int32)) + (1 : Int32)))) :: (ra241, Own.ArrC Z .long SM2) :: (rb242, Own.ArrC Z .int (TB2.map Value.int)) :: (a19, Own.ArrC Z .int [(.int (fBuf q3 (32 : Int32) W0)), (.int (fBuf q4 (32 : Int32) W1)), (.int (fBuf q5 (32 : Int32) W2))]) :: (a10, Own.ArrC Z .int [(.int (fBuf q3 (0 : Int32) W0)), (.int (fBuf q4 (0 : Int32) W1)), (.int (fBuf q5 (0 : Int32) W2))]) :: (a1, Own.ArrC Z .int [(.int W0), (.int W1), (.int W2)]) :: []) O291) ?_
      rintro _ h292 ⟨rfl, O293⟩
      show Own.Goes _ _ _ _ _ _ _ _ _ _ _ _ _ _ _ _ _ (mkF m 222 #[.val (.int p0), .val (.int p1), .val (.int p2), .val (.long q3), .second, .val (.long q4), .second, .val (.long q5), .second, .val (.int W0), .val (.int W1), .val (.int W2), .val (.ref a1), .val (.ref a10), .val (.ref a19), .val (.int (0 : Int32)), .val (.ref a159), .val (.ref a234), .val (.ref a237)] [])
      refine Own.aload hx (.ref a159) (hb hby at_222) rfl rfl rfl ?_
      refine Own.iconst hx (0 : Int32) (hb hby at_224) rfl (by decide) ?_
      refine Own.iaload hx hZ O293 6 0 rfl (by decide) (v := (.int (rdx (pkB (fBuf q3 (0 : Int32) W0) (fBuf q4 (0 : Int32) W1) 0 (0 + b0)) 0 b0))) rfl (hb hby at_225) rfl ?_
      refine Own.aload hx (.ref a10) (hb hby at_226) rfl rfl rfl ?_
      refine Own.iconst hx (0 : Int32) (hb hby at_228) rfl (by decide) ?_
      refine Own.iaload hx hZ O293 12 0 rfl (by decide) (v := (.int (fBuf q3 (0 : Int32) W0))) rfl (hb hby at_229) rfl ?_
      have hc294 : (rdx (pkB (fBuf q3 (0 : Int32) W0) (fBuf q4 (0 : Int32) W1) 0 (0 + b0)) 0 b0) = (fBuf q3 (0 : Int32) W0) := K1.1
      refine Own.icmpFn hx (Own.q_ne (rdx (pkB (fBuf q3 (0 : Int32) W0) (fBuf q4 (0 : Int32) W1) 0 (0 + b0)) 0 b0) (fBuf q3 (0 : Int32) W0)) (hb hby at_230) (pcN := 233) rfl (by decide) (pcT := 292) rfl (fun q => absurd hc294 q) (fun _ => ?_)
      refine Own.aload hx (.ref a159) (hb hby at_233) rfl rfl rfl ?_
      refine Own.iconst hx (1 : Int32) (hb hby at_235) rfl (by decide) ?_
      refine Own.iaload hx hZ O293 6 1 rfl (by decide) (v := (.int (rdx (pkB (fBuf q3 (0 : Int32) W0) (fBuf q4 (0 : Int32) W1) 0 (0 + b0)) (0 + b0) b1))) rfl (hb hby at_236) rfl ?_
      refine Own.aload hx (.ref a10) (hb hby at_237) rfl rfl rfl ?_
      refine Own.iconst hx (1 : Int32) (hb hby at_239) rfl (by decide) ?_
      refine Own.iaload hx hZ O293 12 1 rfl (by decide) (v := (.int (fBuf q4 (0 : Int32) W1))) rfl (hb hby at_240) rfl ?_
      have hc296 : (rdx (pkB (fBuf q3 (0 : Int32) W0) (fBuf q4 (0 : Int32) W1) 0 (0 + b0)) (0 + b0) b1) = (fBuf q4 (0 : Int32) W1) := K1.2.1
      refine Own.icmpFn hx (Own.q_ne (rdx (pkB (fBuf q3 (0 : Int32) W0) (fBuf q4 (0 : Int32) W1) 0 (0 + b0)) (0 + b0) b1) (fBuf q4 (0 : Int32) W1)) (hb hby at_241) (pcN := 244) rfl (by decide) (pcT := 292) rfl (fun q => absurd hc296 q) (fun _ => ?_)
      refine Own.aload hx (.ref a159) (hb hby at_244) rfl rfl rfl ?_
      refine Own.iconst hx (2 : Int32) (hb hby at_246) rfl (by decide) ?_
      refine Own.iaload hx hZ O293 6 2 rfl (by decide) (v := (.int (rdx (pkC (fBuf q5 (0 : Int32) W2) 0) 0 b2))) rfl (hb hby at_247) rfl ?_
      refine Own.aload hx (.ref a10) (hb hby at_248) rfl rfl rfl ?_
      refine Own.iconst hx (2 : Int32) (hb hby at_250) rfl (by decide) ?_
      refine Own.iaload hx hZ O293 12 2 rfl (by decide) (v := (.int (fBuf q5 (0 : Int32) W2))) rfl (hb hby at_251) rfl ?_
      have hc298 : (rdx (pkC (fBuf q5 (0 : Int32) W2) 0) 0 b2) = (fBuf q5 (0 : Int32) W2) := K1.2.2
      refine Own.icmpFn hx (Own.q_ne (rdx (pkC (fBuf q5 (0 : Int32) W2) 0) 0 b2) (fBuf q5 (0 : Int32) W2)) (hb hby at_252) (pcN := 255) rfl (by decide) (pcT := 292) rfl (fun q => absurd hc298 q) (fun _ => ?_)
      refine Own.aload hx (.ref a234) (hb hby at_255) rfl rfl rfl ?_
      refine Own.iconst hx (0 : Int32) (hb hby at_257) rfl (by decide) ?_
      refine Own.iaload hx hZ O293 5 0 rfl (by decide) (v := (.int (rdx (pkB (fBuf q3 (32 : Int32) W0) (fBuf q4 (32 : Int32) W1) 0 (0 + b0)) 0 b0))) rfl (hb hby at_258) rfl ?_
      refine Own.aload hx (.ref a19) (hb hby at_259) rfl rfl rfl ?_
      refine Own.iconst hx (0 : Int32) (hb hby at_261) rfl (by decide) ?_
      refine Own.iaload hx hZ O293 11 0 rfl (by decide) (v := (.int (fBuf q3 (32 : Int32) W0))) rfl (hb hby at_262) rfl ?_
      have hc300 : (rdx (pkB (fBuf q3 (32 : Int32) W0) (fBuf q4 (32 : Int32) W1) 0 (0 + b0)) 0 b0) = (fBuf q3 (32 : Int32) W0) := K2.1
      refine Own.icmpFn hx (Own.q_ne (rdx (pkB (fBuf q3 (32 : Int32) W0) (fBuf q4 (32 : Int32) W1) 0 (0 + b0)) 0 b0) (fBuf q3 (32 : Int32) W0)) (hb hby at_263) (pcN := 266) rfl (by decide) (pcT := 292) rfl (fun q => absurd hc300 q) (fun _ => ?_)
      refine Own.aload hx (.ref a234) (hb hby at_266) rfl rfl rfl ?_
      refine Own.iconst hx (1 : Int32) (hb hby at_268) rfl (by decide) ?_
      refine Own.iaload hx hZ O293 5 1 rfl (by decide) (v := (.int (rdx (pkB (fBuf q3 (32 : Int32) W0) (fBuf q4 (32 : Int32) W1) 0 (0 + b0)) (0 + b0) b1))) rfl (hb hby at_269) rfl ?_
      refine Own.aload hx (.ref a19) (hb hby at_270) rfl rfl rfl ?_
      refine Own.iconst hx (1 : Int32) (hb hby at_272) rfl (by decide) ?_
      refine Own.iaload hx hZ O293 11 1 rfl (by decide) (v := (.int (fBuf q4 (32 : Int32) W1))) rfl (hb hby at_273) rfl ?_
      have hc302 : (rdx (pkB (fBuf q3 (32 : Int32) W0) (fBuf q4 (32 : Int32) W1) 0 (0 + b0)) (0 + b0) b1) = (fBuf q4 (32 : Int32) W1) := K2.2.1
      refine Own.icmpFn hx (Own.q_ne (rdx (pkB (fBuf q3 (32 : Int32) W0) (fBuf q4 (32 : Int32) W1) 0 (0 + b0)) (0 + b0) b1) (fBuf q4 (32 : Int32) W1)) (hb hby at_274) (pcN := 277) rfl (by decide) (pcT := 292) rfl (fun q => absurd hc302 q) (fun _ => ?_)
      refine Own.aload hx (.ref a234) (hb hby at_277) rfl rfl rfl ?_
      refine Own.iconst hx (2 : Int32) (hb hby at_279) rfl (by decide) ?_
      refine Own.iaload hx hZ O293 5 2 rfl (by decide) (v := (.int (rdx (pkC (fBuf q5 (32 : Int32) W2) 0) 0 b2))) rfl (hb hby at_280) rfl ?_
      refine Own.aload hx (.ref a19) (hb hby at_281) rfl rfl rfl ?_
      refine Own.iconst hx (2 : Int32) (hb hby at_283) rfl (by decide) ?_
      refine Own.iaload hx hZ O293 11 2 rfl (by decide) (v := (.int (fBuf q5 (32 : Int32) W2))) rfl (hb hby at_284) rfl ?_
      have hc304 : (rdx (pkC (fBuf q5 (32 : Int32) W2) 0) 0 b2) = (fBuf q5 (32 : Int32) W2) := K2.2.2
      refine Own.icmpFn hx (Own.q_ne (rdx (pkC (fBuf q5 (32 : Int32) W2) 0) 0 b2) (fBuf q5 (32 : Int32) W2)) (hb hby at_285) (pcN := 288) rfl (by decide) (pcT := 292) rfl (fun q => absurd hc304 q) (fun _ => ?_)
      refine Own.iconst hx (1 : Int32) (hb hby at_288) rfl (by decide) ?_
      refine Own.goto hx (hb hby at_289) (by decide) (pc' := 293) rfl ?_
      exact Own.retS hx hret (by simp) hlk (hb hby at_293) (by decide) (by decide) (Own.bool1 rfl)

set_option maxRecDepth 65536 in
set_option maxHeartbeats 40000000 in
theorem comes_1 {Post : Tables → Env → Array Value → State → Outcome → State → Prop} (hpost : ∀ tb e args s v u, (limb_1_1.after args s (.returned v) u = true ∧ limb_1_2.after args s (.returned v) u = true ∧ True) → FrameEnd s (.returned v) u (Jvm.fieldLocs frame_1_writes args s ++ Jvm.arrayLocs frame_1_arrays args s ++ Jvm.staticLocs frame_1_statics s) 40 4544 → Post tb e args s (.returned v) u) :
    ArmFor flags0 classFile x code maxLocals ret World_1 tables_1 room_1 Calls_1 rest_1 Pre_1 Post := by
  intro l hfl _ _ p e ha hc hk s m args below hf hA hF happ hP
  obtain ⟨hcalls, hrest, hpre⟩ := hP
  obtain ⟨-, -, -, hnamed, -, -, -, hat⟩ := (Spec.applies_iff hf).mp happ
  obtain ⟨hg, hn⟩ := and_e (Cond.before_iff.mp (show (Jvm.Cond.and given_1 narrow_1).before args s = true from hpre))
  obtain ⟨h1, g0⟩ := and_e hg
  obtain ⟨q0, g1⟩ := and_e g0
  obtain ⟨q1, g2⟩ := and_e g1
  obtain ⟨q2, g3⟩ := and_e g2
  obtain ⟨q3, g4⟩ := and_e g3
  obtain ⟨q4, g5⟩ := and_e g4
  have q5 := g5
  obtain ⟨w0, w1, w2, w3, w4, w5, rfl⟩ : ∃ w0 w1 w2 w3 w4 w5 : Value, args = #[w0, w1, w2, w3, w4, w5] := by
    have hs : args.size = 6 := by simpa [Cond.value, given_1] using h1
    obtain ⟨L⟩ := args
    match L, hs with
    | [w0, w1, w2, w3, w4, w5], _ => exact ⟨w0, w1, w2, w3, w4, w5, rfl⟩
  have hw := fun d (hd : d ∈ tables_1) => atoms_spec (ws := Jvm.Cond.code x code maxLocals ret :: tables_1) hat d (List.mem_cons_of_mem _ hd)
  obtain ⟨i0, e0⟩ := is_v q0
  obtain rfl : w0 = (.int i0) := Option.some.inj e0
  obtain ⟨i1, e1⟩ := is_v q1
  obtain rfl : w1 = (.int i1) := Option.some.inj e1
  obtain ⟨i2, e2⟩ := is_v q2
  obtain rfl : w2 = (.int i2) := Option.some.inj e2
  obtain ⟨i3, e3⟩ := isL_v q3
  obtain rfl : w3 = (.long i3) := Option.some.inj e3
  obtain ⟨i4, e4⟩ := isL_v q4
  obtain rfl : w4 = (.long i4) := Option.some.inj e4
  obtain ⟨i5, e5⟩ := isL_v q5
  obtain rfl : w5 = (.long i5) := Option.some.inj e5
  obtain ⟨n, o, h1, h2, h3, _, L, rfl, ⟨rfl, N⟩, hq⟩ := rm0 l s _ hw i0 i1 i2 i3 i4 i5 s.heap s.heap.size (Own.Owns.nil (Nat.le_refl _)) p e ha hc hk s m _ below hf ((Spec.applies_iff_loose hf).mp happ).1 ⟨rfl, State.Warmed39.refl s, rfl⟩ trivial
  refine ⟨n, _, h1, h2, h3, hpost _ _ _ _ _ _ ⟨Cond.after_iff.mpr rfl, Cond.after_iff.mpr (eq_i res_at (Term.int_eval (1)) rfl), trivial⟩ ⟨hq.1, hq.2.1, (hq.2.2.sift fun y hy => Or.inr (N y hy)).mono (by decide) (by decide)⟩⟩
theorem main_1_1 : Claimed_1_1 := comes_1 fun _ _ _ _ _ _ h hF => ⟨h.1, hF⟩
theorem main_1_2 : Claimed_1_2 := comes_1 fun _ _ _ _ _ _ h hF => ⟨h.2.1, hF⟩
end Jvm.Pilot.@@N@@
namespace Jvm.Pilot.@@N@@
open Jvm Jvm.ClassFile Sem Op Lib Jvm.Free Jvm.Stand Jvm.Pilot.@@N@@.Jvm.D
/-! MADE BY PROGRAM (witnessworld.py) out of the Statement's table words and the real class files: 19 classes; the members and pool entries that the words name. The judged class is class 1, her method 3. -/
namespace start1
open Jvm.ClassFile
def u (s : String) : CpInfo := .utf8 (stringToUtf16 s)
/-- a pool by its gaps: so many unusable entries, then the entry; so many at the end -/
def gap : Nat → List CpInfo → List CpInfo
  | 0, r => r
  | n + 1, r => .unusable :: gap n r
def poolList (es : List (Nat × CpInfo)) (last : Nat) : List CpInfo := es.foldr (fun e r => gap e.1 (e.2 :: r)) (gap last [])
def pool (es : List (Nat × CpInfo)) (last : Nat) : Array CpInfo := ⟨poolList es last⟩
def fileOf (pool : Array CpInfo) (this : Nat) (attrs : Array Attribute := #[]) (ms : Array MethodInfo := #[]) (fl : Nat := 33) (sup : Nat := 0) (ifs : Array Nat := #[]) (fds : Array FieldInfo := #[]) : ClassFile where
  minorVersion := 0
  majorVersion := 65
  constantPool := pool
  accessFlags := fl
  thisClass := this
  superClass := sup
  interfaces := ifs
  fields := fds
  methods := ms
  attributes := attrs
def plain (name : String) (sup : Option ClassId) : Class where
  name := name
  kind := .ordinary
  loader := none
  accessFlags := 33
  super := sup
  interfaces := #[]
  cf := none
  fields := #[]
  methods := #[]
  instanceTypes := #[]
  staticTypes := #[]
  resolved := #[]
  callSites := []
  init := .initialized
  statics := none
  mirror := none

def pool0 : Array CpInfo := pool [(5, u "<init>"), (0, u "()V"), (1, .class_ 10), (1, u "java/lang/Object")] 113

def k0c0 : Code := { maxStack := 0, maxLocals := 1, code := object_method_1_code, exceptionTable := #[], attributes := #[] }
def k0m0 : Method := { name := "<init>", desc := "()V", sig := { parameters := [], returnType := none }, accessFlags := 1, code := some k0c0 }
/-- java/lang/Object -/
def k0 : Class := { plain "java/lang/Object" none with
  accessFlags := 33
  interfaces := #[]
  cf := some (fileOf pool0 8 #[] #[{ accessFlags := 1, nameIndex := 5, descriptorIndex := 6, attributes := #[] }] 33 0 #[] #[])
  fields := #[]
  methods := #[k0m0]
  instanceTypes := #[]
  staticTypes := #[]
  resolved := Array.replicate 124 none
  statics := none }

def pool1 : Array CpInfo := pool [(2, .class_ 4), (1, u "java/lang/Object"), (0, u "<init>"), (0, u "()V"), (0, .integer 2147483647), (0, .methodref 9 10), (0, .class_ 11), (0, .nameAndType 12 13), (0, u "com/example/cuesheet/cuesheet/core/PackedStatesReadPinLaw"), (0, u "win"), (0, u "(I)I"), (0, .methodref 9 15), (0, .nameAndType 16 17), (0, u "buf"), (0, u "(JII)I"), (0, .class_ 19), (0, u "com/example/cuesheet/cuesheet/core/PackedStates"), (0, .methodref 18 21), (0, .nameAndType 5 22), (0, u "([I)V"), (0, .methodref 18 24), (0, .nameAndType 25 26), (0, u "add"), (0, u "([I)I"), (0, .methodref 18 28), (0, .nameAndType 29 30), (0, u "read"), (0, u "(I[I)V"), (3, u "law"), (0, u "(IIIJJJ)Z")] 4

def k1m0 : Method := { name := "<init>", desc := "()V", sig := { parameters := [], returnType := none }, accessFlags := 2, code := none }
def k1c1 : Code := { maxStack := 2, maxLocals := 2, code := method_2_code, exceptionTable := #[], attributes := #[] }
def k1m1 : Method := { name := "win", desc := "(I)I", sig := { parameters := [.int], returnType := some .int }, accessFlags := 10, code := some k1c1 }
def k1c2 : Code := { maxStack := 3, maxLocals := 5, code := method_3_code, exceptionTable := #[], attributes := #[] }
def k1m2 : Method := { name := "buf", desc := "(JII)I", sig := { parameters := [.long, .int, .int], returnType := some .int }, accessFlags := 10, code := some k1c2 }
def k1c3 : Code := { maxStack := 7, maxLocals := 19, code := code, exceptionTable := #[], attributes := #[] }
def k1m3 : Method := { name := "law", desc := "(IIIJJJ)Z", sig := { parameters := [.int, .int, .int, .long, .long, .long], returnType := some .boolean }, accessFlags := 9, code := some k1c3 }
/-- com/example/cuesheet/cuesheet/core/PackedStatesReadPinLaw -/
def k1 : Class := { plain "com/example/cuesheet/cuesheet/core/PackedStatesReadPinLaw" (some 0) with
  accessFlags := 49
  interfaces := #[]
  cf := some (fileOf pool1 9 #[] #[{ accessFlags := 2, nameIndex := 5, descriptorIndex := 6, attributes := #[] }, { accessFlags := 10, nameIndex := 12, descriptorIndex := 13, attributes := #[] }, { accessFlags := 10, nameIndex := 16, descriptorIndex := 17, attributes := #[] }, { accessFlags := 9, nameIndex := 34, descriptorIndex := 35, attributes := #[] }] 49 2 #[] #[])
  fields := #[]
  methods := #[k1m0, k1m1, k1m2, k1m3]
  instanceTypes := #[]
  staticTypes := #[]
  resolved := Array.replicate 40 none
  statics := none }

def pool2 : Array CpInfo := pool [(1, .methodref 2 3), (0, .class_ 4), (0, .nameAndType 5 6), (0, u "java/lang/Object"), (0, u "<init>"), (0, u "()V"), (0, .class_ 8), (0, u "com/example/cuesheet/cuesheet/core/StateTable"), (0, .methodref 7 3), (0, .fieldref 11 12), (0, .class_ 13), (0, .nameAndType 14 15), (0, u "com/example/cuesheet/cuesheet/core/PackedStates"), (0, u "table"), (0, u "Lcom/example/cuesheet/cuesheet/core/StateTable;"), (0, .fieldref 11 17), (0, .nameAndType 18 19), (0, u "word"), (0, u "[I"), (0, .fieldref 11 21), (0, .nameAndType 22 19), (0, u "shift"), (0, .fieldref 11 24), (0, .nameAndType 25 19), (0, u "bits"), (0, .class_ 27), (0, u "java/lang/Integer"), (0, .methodref 26 29), (0, .nameAndType 30 31), (0, u "numberOfLeadingZeros"), (0, u "(I)I"), (2, .fieldref 11 35), (0, .nameAndType 36 37), (0, u "words"), (0, u "I"), (0, .fieldref 11 39), (0, .nameAndType 40 41), (0, u "packed"), (0, u "[J"), (0, .fieldref 11 43), (0, .nameAndType 44 41), (0, u "stored"), (0, .fieldref 11 46), (0, .nameAndType 47 37), (0, u "size"), (0, .methodref 11 49), (0, .nameAndType 50 51), (0, u "pack"), (0, u "([I)V"), (0, .methodref 11 53), (0, .nameAndType 54 55), (0, u "summary"), (0, u "()J"), (9, .class_ 67), (1, u "java/util/Arrays"), (2, .methodref 71 72), (0, .class_ 73), (0, .nameAndType 74 75), (0, u "java/lang/System"), (0, u "arraycopy"), (0, u "(Ljava/lang/Object;ILjava/lang/Object;II)V"), (0, .methodref 7 77), (0, .nameAndType 78 79), (0, u "add"), (0, u "(JI)V"), (0, .methodref 65 81), (0, .nameAndType 82 83), (0, u "fill"), (0, u "([JJ)V"), (0, .methodref 7 85), (0, .nameAndType 86 87), (0, u "mix"), (0, u "(J)J"), (9, u "([I)I"), (0, u "read"), (0, u "(I[I)V")] 23

def k2c0 : Code := { maxStack := 5, maxLocals := 5, code := prog_12_method_1_code, exceptionTable := #[], attributes := #[] }
def k2m0 : Method := { name := "<init>", desc := "([I)V", sig := { parameters := [(.array .int)], returnType := none }, accessFlags := 0, code := some k2c0 }
def k2c1 : Code := { maxStack := 5, maxLocals := 2, code := prog_12_method_5_code, exceptionTable := #[], attributes := #[] }
def k2m1 : Method := { name := "add", desc := "([I)I", sig := { parameters := [(.array .int)], returnType := some .int }, accessFlags := 0, code := some k2c1 }
def k2c2 : Code := { maxStack := 8, maxLocals := 6, code := prog_12_method_6_code, exceptionTable := #[], attributes := #[] }
def k2m2 : Method := { name := "read", desc := "(I[I)V", sig := { parameters := [.int, (.array .int)], returnType := none }, accessFlags := 0, code := some k2c2 }
def k2c3 : Code := { maxStack := 8, maxLocals := 3, code := prog_12_method_7_code, exceptionTable := #[], attributes := #[] }
def k2m3 : Method := { name := "pack", desc := "([I)V", sig := { parameters := [(.array .int)], returnType := none }, accessFlags := 2, code := some k2c3 }
def k2c4 : Code := { maxStack := 4, maxLocals := 8, code := prog_12_method_8_code, exceptionTable := #[], attributes := #[] }
def k2m4 : Method := { name := "summary", desc := "()J", sig := { parameters := [], returnType := some .long }, accessFlags := 2, code := some k2c4 }
/-- com/example/cuesheet/cuesheet/core/PackedStates -/
def k2 : Class := { plain "com/example/cuesheet/cuesheet/core/PackedStates" (some 0) with
  accessFlags := 48
  interfaces := #[]
  cf := some (fileOf pool2 11 #[] #[{ accessFlags := 0, nameIndex := 5, descriptorIndex := 51, attributes := #[] }, { accessFlags := 0, nameIndex := 78, descriptorIndex := 97, attributes := #[] }, { accessFlags := 0, nameIndex := 98, descriptorIndex := 99, attributes := #[] }, { accessFlags := 2, nameIndex := 50, descriptorIndex := 51, attributes := #[] }, { accessFlags := 2, nameIndex := 54, descriptorIndex := 55, attributes := #[] }] 48 2 #[] #[{ accessFlags := 18, nameIndex := 18, descriptorIndex := 19, attributes := #[] }, { accessFlags := 18, nameIndex := 22, descriptorIndex := 19, attributes := #[] }, { accessFlags := 18, nameIndex := 25, descriptorIndex := 19, attributes := #[] }, { accessFlags := 18, nameIndex := 36, descriptorIndex := 37, attributes := #[] }, { accessFlags := 18, nameIndex := 40, descriptorIndex := 41, attributes := #[] }, { accessFlags := 18, nameIndex := 14, descriptorIndex := 15, attributes := #[] }, { accessFlags := 2, nameIndex := 44, descriptorIndex := 41, attributes := #[] }, { accessFlags := 2, nameIndex := 47, descriptorIndex := 37, attributes := #[] }])
  fields := #[{ name := "word", type := (.array .int), accessFlags := 18, slot := 0, constantValue := 0 }, { name := "shift", type := (.array .int), accessFlags := 18, slot := 1, constantValue := 0 }, { name := "bits", type := (.array .int), accessFlags := 18, slot := 2, constantValue := 0 }, { name := "words", type := .int, accessFlags := 18, slot := 3, constantValue := 0 }, { name := "packed", type := (.array .long), accessFlags := 18, slot := 4, constantValue := 0 }, { name := "table", type := (.object "com/example/cuesheet/cuesheet/core/StateTable"), accessFlags := 18, slot := 5, constantValue := 0 }, { name := "stored", type := (.array .long), accessFlags := 2, slot := 6, constantValue := 0 }, { name := "size", type := .int, accessFlags := 2, slot := 7, constantValue := 0 }]
  methods := #[k2m0, k2m1, k2m2, k2m3, k2m4]
  instanceTypes := #[(.array .int), (.array .int), (.array .int), .int, (.array .long), (.object "com/example/cuesheet/cuesheet/core/StateTable"), (.array .long), .int]
  staticTypes := #[]
  resolved := Array.replicate 123 none
  statics := none }

def pool3 : Array CpInfo := pool [(1, .methodref 2 3), (0, .class_ 4), (0, .nameAndType 5 6), (0, u "java/lang/Object"), (0, u "<init>"), (0, u "()V"), (0, .fieldref 8 9), (0, .class_ 10), (0, .nameAndType 11 12), (0, u "com/example/cuesheet/cuesheet/core/StateTable"), (0, u "summaries"), (0, u "[J"), (0, .methodref 8 14), (0, .nameAndType 15 16), (0, u "filled"), (0, u "(I)[I"), (0, .fieldref 8 18), (0, .nameAndType 19 20), (0, u "slots"), (0, u "[I"), (0, .fieldref 8 22), (0, .nameAndType 23 24), (0, u "size"), (0, u "I"), (3, .methodref 8 29), (0, .nameAndType 30 31), (0, u "home"), (0, u "(J)I"), (6, .methodref 8 39), (0, .nameAndType 40 41), (0, u "mix"), (0, u "(J)J"), (2, u "add"), (0, u "(JI)V"), (0, .methodref 47 48), (0, .class_ 49), (0, .nameAndType 50 51), (0, u "java/util/Arrays"), (0, u "fill"), (0, u "([II)V"), (0, .long 13787848793156543929), (1, .long 10723151780598845931), (1, u "EMPTY")] 11

def k3c0 : Code := { maxStack := 2, maxLocals := 1, code := prog_14_method_1_code, exceptionTable := #[], attributes := #[] }
def k3m0 : Method := { name := "<init>", desc := "()V", sig := { parameters := [], returnType := none }, accessFlags := 0, code := some k3c0 }
def k3c1 : Code := { maxStack := 4, maxLocals := 5, code := prog_14_method_2_code, exceptionTable := #[], attributes := #[] }
def k3m1 : Method := { name := "add", desc := "(JI)V", sig := { parameters := [.long, .int], returnType := none }, accessFlags := 0, code := some k3c1 }
def k3c2 : Code := { maxStack := 4, maxLocals := 3, code := prog_14_method_4_code, exceptionTable := #[], attributes := #[] }
def k3m2 : Method := { name := "home", desc := "(J)I", sig := { parameters := [.long], returnType := some .int }, accessFlags := 2, code := some k3c2 }
def k3c3 : Code := { maxStack := 2, maxLocals := 2, code := prog_14_method_6_code, exceptionTable := #[], attributes := #[] }
def k3m3 : Method := { name := "filled", desc := "(I)[I", sig := { parameters := [.int], returnType := some (.array .int) }, accessFlags := 10, code := some k3c3 }
def k3c4 : Code := { maxStack := 5, maxLocals := 4, code := prog_14_method_7_code, exceptionTable := #[], attributes := #[] }
def k3m4 : Method := { name := "mix", desc := "(J)J", sig := { parameters := [.long], returnType := some .long }, accessFlags := 8, code := some k3c4 }
/-- com/example/cuesheet/cuesheet/core/StateTable -/
def k3 : Class := { plain "com/example/cuesheet/cuesheet/core/StateTable" (some 0) with
  accessFlags := 48
  interfaces := #[]
  cf := some (fileOf pool3 8 #[] #[{ accessFlags := 0, nameIndex := 5, descriptorIndex := 6, attributes := #[] }, { accessFlags := 0, nameIndex := 44, descriptorIndex := 45, attributes := #[] }, { accessFlags := 2, nameIndex := 30, descriptorIndex := 31, attributes := #[] }, { accessFlags := 10, nameIndex := 15, descriptorIndex := 16, attributes := #[] }, { accessFlags := 8, nameIndex := 40, descriptorIndex := 41, attributes := #[] }] 48 2 #[] #[{ accessFlags := 26, nameIndex := 56, descriptorIndex := 24, attributes := #[] }, { accessFlags := 2, nameIndex := 11, descriptorIndex := 12, attributes := #[] }, { accessFlags := 2, nameIndex := 19, descriptorIndex := 20, attributes := #[] }, { accessFlags := 2, nameIndex := 23, descriptorIndex := 24, attributes := #[] }])
  fields := #[{ name := "EMPTY", type := .int, accessFlags := 26, slot := 0, constantValue := 0 }, { name := "summaries", type := (.array .long), accessFlags := 2, slot := 0, constantValue := 0 }, { name := "slots", type := (.array .int), accessFlags := 2, slot := 1, constantValue := 0 }, { name := "size", type := .int, accessFlags := 2, slot := 2, constantValue := 0 }]
  methods := #[k3m0, k3m1, k3m2, k3m3, k3m4]
  instanceTypes := #[(.array .long), (.array .int), .int]
  staticTypes := #[.int]
  resolved := Array.replicate 68 none
  statics := none }

def pool4 : Array CpInfo := pool [(2, .class_ 4), (1, u "java/lang/Object"), (0, u "<init>"), (0, u "()V"), (7, .class_ 16), (1, u "java/util/Arrays"), (57, .class_ 76), (1, u "java/util/Arrays$NaturalOrder"), (36, .class_ 115), (1, u "java/util/Arrays$LegacyMergeSort"), (1, u "Z"), (257, .class_ 376), (0, u "java/util/Arrays$ArrayList"), (68, u "$assertionsDisabled"), (269, u "MIN_ARRAY_SORT_GRAN"), (0, u "I"), (2, u "INSERTIONSORT_THRESHOLD"), (120, u "fill"), (0, u "([JJ)V"), (3, u "([II)V"), (129, .class_ 976), (0, u "java/util/Arrays$ArrayItr")] 52

def k4m0 : Method := { name := "<init>", desc := "()V", sig := { parameters := [], returnType := none }, accessFlags := 2, code := none }
def k4c1 : Code := { maxStack := 4, maxLocals := 5, code := jdk_65_method_101_code, exceptionTable := #[], attributes := #[] }
def k4m1 : Method := { name := "fill", desc := "([JJ)V", sig := { parameters := [(.array .long), .long], returnType := none }, accessFlags := 9, code := some k4c1 }
def k4c2 : Code := { maxStack := 3, maxLocals := 4, code := jdk_65_method_103_code, exceptionTable := #[], attributes := #[] }
def k4m2 : Method := { name := "fill", desc := "([II)V", sig := { parameters := [(.array .int), .int], returnType := none }, accessFlags := 9, code := some k4c2 }
/-- java/util/Arrays -/
def k4 : Class := { plain "java/util/Arrays" (some 0) with
  accessFlags := 49
  interfaces := #[]
  cf := some (fileOf pool4 14 #[.nestMembers #[975, 375, 113, 74]] #[{ accessFlags := 2, nameIndex := 5, descriptorIndex := 6, attributes := #[] }, { accessFlags := 9, nameIndex := 840, descriptorIndex := 841, attributes := #[] }, { accessFlags := 9, nameIndex := 840, descriptorIndex := 845, attributes := #[] }] 49 2 #[] #[{ accessFlags := 26, nameIndex := 715, descriptorIndex := 716, attributes := #[] }, { accessFlags := 26, nameIndex := 719, descriptorIndex := 716, attributes := #[] }, { accessFlags := 4120, nameIndex := 445, descriptorIndex := 117, attributes := #[] }])
  fields := #[{ name := "MIN_ARRAY_SORT_GRAN", type := .int, accessFlags := 26, slot := 0, constantValue := 0 }, { name := "INSERTIONSORT_THRESHOLD", type := .int, accessFlags := 26, slot := 1, constantValue := 0 }, { name := "$assertionsDisabled", type := .boolean, accessFlags := 4120, slot := 2, constantValue := 0 }]
  methods := #[k4m0, k4m1, k4m2]
  instanceTypes := #[]
  staticTypes := #[.int, .int, .boolean]
  resolved := Array.replicate 1029 none
  statics := none }

def pool5 : Array CpInfo := pool [(1, .class_ 2), (0, u "java/io/Serializable"), (0, .class_ 4), (0, u "java/lang/Object")] 2

/-- java/io/Serializable -/
def k5 : Class := { plain "java/io/Serializable" (some 0) with
  accessFlags := 1537
  interfaces := #[]
  cf := some (fileOf pool5 1 #[] #[] 1537 3 #[] #[])
  fields := #[]
  methods := #[]
  instanceTypes := #[]
  staticTypes := #[]
  resolved := Array.replicate 7 none
  statics := none }

def pool6 : Array CpInfo := pool [(2, .class_ 4), (1, u "java/lang/Object"), (0, u "<init>"), (0, u "()V"), (1, .class_ 10), (1, u "java/lang/Number"), (2, .class_ 14), (0, u "java/io/Serializable"), (0, u "serialVersionUID"), (0, u "J")] 20

def k6m0 : Method := { name := "<init>", desc := "()V", sig := { parameters := [], returnType := none }, accessFlags := 1, code := none }
/-- java/lang/Number -/
def k6 : Class := { plain "java/lang/Number" (some 0) with
  accessFlags := 1057
  interfaces := #[5]
  cf := some (fileOf pool6 8 #[] #[{ accessFlags := 1, nameIndex := 5, descriptorIndex := 6, attributes := #[] }] 1057 2 #[13] #[{ accessFlags := 26, nameIndex := 15, descriptorIndex := 16, attributes := #[] }])
  fields := #[{ name := "serialVersionUID", type := .long, accessFlags := 26, slot := 0, constantValue := 0 }]
  methods := #[k6m0]
  instanceTypes := #[]
  staticTypes := #[.long]
  resolved := Array.replicate 37 none
  statics := none }

def pool7 : Array CpInfo := pool [(1, .class_ 2), (0, u "java/lang/Comparable"), (0, .class_ 4), (0, u "java/lang/Object")] 7

/-- java/lang/Comparable -/
def k7 : Class := { plain "java/lang/Comparable" (some 0) with
  accessFlags := 1537
  interfaces := #[]
  cf := some (fileOf pool7 1 #[] #[] 1537 3 #[] #[])
  fields := #[]
  methods := #[]
  instanceTypes := #[]
  staticTypes := #[]
  resolved := Array.replicate 12 none
  statics := none }

def pool8 : Array CpInfo := pool [(1, .class_ 2), (0, u "java/lang/constant/Constable"), (0, .class_ 4), (0, u "java/lang/Object")] 6

/-- java/lang/constant/Constable -/
def k8 : Class := { plain "java/lang/constant/Constable" (some 0) with
  accessFlags := 1537
  interfaces := #[]
  cf := some (fileOf pool8 1 #[] #[] 1537 3 #[] #[])
  fields := #[]
  methods := #[]
  instanceTypes := #[]
  staticTypes := #[]
  resolved := Array.replicate 11 none
  statics := none }

def pool9 : Array CpInfo := pool [(1, .class_ 2), (0, u "java/lang/constant/ConstantDesc"), (0, .class_ 4), (0, u "java/lang/Object")] 32

/-- java/lang/constant/ConstantDesc -/
def k9 : Class := { plain "java/lang/constant/ConstantDesc" (some 0) with
  accessFlags := 1537
  interfaces := #[]
  cf := some (fileOf pool9 1 #[] #[] 1537 3 #[] #[])
  fields := #[]
  methods := #[]
  instanceTypes := #[]
  staticTypes := #[]
  resolved := Array.replicate 37 none
  statics := none }

def pool10 : Array CpInfo := pool [(1, .class_ 2), (0, u "java/lang/Integer"), (16, u "digits"), (0, u "[C"), (32, u "numberOfLeadingZeros"), (0, u "(I)I"), (30, u "DigitOnes"), (0, u "[B"), (2, u "DigitTens"), (99, .class_ 190), (0, u "java/lang/Integer$IntegerCache"), (3, u "I"), (8, .class_ 204), (0, u "java/lang/Number"), (2, u "value"), (56, .integer 65536), (37, u "TYPE"), (0, u "Ljava/lang/Class;"), (0, .class_ 305), (0, u "java/lang/Comparable"), (0, .class_ 307), (0, u "java/lang/constant/Constable"), (0, .class_ 309), (0, u "java/lang/constant/ConstantDesc"), (0, u "MIN_VALUE"), (1, u "MAX_VALUE"), (3, u "SIZE"), (1, u "BYTES"), (1, u "serialVersionUID"), (0, u "J")] 131

def k10c0 : Code := { maxStack := 3, maxLocals := 2, code := jdk_33_method_47_code, exceptionTable := #[], attributes := #[] }
def k10m0 : Method := { name := "numberOfLeadingZeros", desc := "(I)I", sig := { parameters := [.int], returnType := some .int }, accessFlags := 9, code := some k10c0 }
/-- java/lang/Integer -/
def k10 : Class := { plain "java/lang/Integer" (some 6) with
  accessFlags := 49
  interfaces := #[7, 8, 9]
  cf := some (fileOf pool10 1 #[.nestMembers #[189]] #[{ accessFlags := 9, nameIndex := 53, descriptorIndex := 54, attributes := #[] }] 49 203 #[304, 306, 308] #[{ accessFlags := 25, nameIndex := 310, descriptorIndex := 194, attributes := #[] }, { accessFlags := 25, nameIndex := 312, descriptorIndex := 194, attributes := #[] }, { accessFlags := 25, nameIndex := 302, descriptorIndex := 303, attributes := #[] }, { accessFlags := 24, nameIndex := 19, descriptorIndex := 20, attributes := #[] }, { accessFlags := 24, nameIndex := 89, descriptorIndex := 86, attributes := #[] }, { accessFlags := 24, nameIndex := 85, descriptorIndex := 86, attributes := #[] }, { accessFlags := 18, nameIndex := 207, descriptorIndex := 194, attributes := #[] }, { accessFlags := 25, nameIndex := 316, descriptorIndex := 194, attributes := #[] }, { accessFlags := 25, nameIndex := 318, descriptorIndex := 194, attributes := #[] }, { accessFlags := 26, nameIndex := 320, descriptorIndex := 321, attributes := #[] }])
  fields := #[{ name := "MIN_VALUE", type := .int, accessFlags := 25, slot := 0, constantValue := 0 }, { name := "MAX_VALUE", type := .int, accessFlags := 25, slot := 1, constantValue := 0 }, { name := "TYPE", type := (.object "java/lang/Class"), accessFlags := 25, slot := 2, constantValue := 0 }, { name := "digits", type := (.array .char), accessFlags := 24, slot := 3, constantValue := 0 }, { name := "DigitTens", type := (.array .byte), accessFlags := 24, slot := 4, constantValue := 0 }, { name := "DigitOnes", type := (.array .byte), accessFlags := 24, slot := 5, constantValue := 0 }, { name := "value", type := .int, accessFlags := 18, slot := 0, constantValue := 0 }, { name := "SIZE", type := .int, accessFlags := 25, slot := 6, constantValue := 0 }, { name := "BYTES", type := .int, accessFlags := 25, slot := 7, constantValue := 0 }, { name := "serialVersionUID", type := .long, accessFlags := 26, slot := 8, constantValue := 0 }]
  methods := #[k10m0]
  instanceTypes := #[.int]
  staticTypes := #[.int, .int, (.object "java/lang/Class"), (.array .char), (.array .byte), (.array .byte), .int, .int, .long]
  resolved := Array.replicate 453 none
  statics := none }

def pool11 : Array CpInfo := pool [(2, .class_ 4), (1, u "java/lang/Object"), (0, u "<init>"), (0, u "()V"), (1, .class_ 10), (1, u "java/lang/System"), (0, u "allowSecurityManager"), (0, u "I"), (16, u "cons"), (0, u "Ljava/io/Console;"), (77, .class_ 110), (1, u "java/lang/System$CallersHolder"), (43, u "initialErrStream"), (0, u "Ljava/io/PrintStream;"), (19, u "security"), (0, u "Ljava/lang/SecurityManager;"), (31, .class_ 209), (0, u "java/lang/System$1"), (7, u "props"), (0, u "Ljava/util/Properties;"), (2, u "lineSeparator"), (0, u "Ljava/lang/String;"), (96, .class_ 321), (1, u "java/lang/System$LoggerFinder"), (5, .class_ 328), (0, u "java/lang/System$Logger"), (67, u "err"), (2, u "out"), (91, u "notSupportedJnuEncoding"), (15, u "in"), (17, u "initialIn"), (0, u "Ljava/io/InputStream;"), (35, u "bootLayer"), (0, u "Ljava/lang/ModuleLayer;"), (99, .class_ 664), (0, u "java/lang/System$2"), (9, u "NEVER"), (2, u "MAYBE"), (49, u "arraycopy"), (0, u "(Ljava/lang/Object;ILjava/lang/Object;II)V"), (72, .class_ 802), (0, u "java/lang/System$Logger$Level")] 31

def k11m0 : Method := { name := "<init>", desc := "()V", sig := { parameters := [], returnType := none }, accessFlags := 2, code := none }
def k11m1 : Method := { name := "arraycopy", desc := "(Ljava/lang/Object;ILjava/lang/Object;II)V", sig := { parameters := [(.object "java/lang/Object"), .int, (.object "java/lang/Object"), .int, .int], returnType := none }, accessFlags := 265, code := none }
/-- java/lang/System -/
def k11 : Class := { plain "java/lang/System" (some 0) with
  accessFlags := 49
  interfaces := #[]
  cf := some (fileOf pool11 8 #[.nestMembers #[319, 327, 801, 108, 663, 208]] #[{ accessFlags := 2, nameIndex := 5, descriptorIndex := 6, attributes := #[] }, { accessFlags := 265, nameIndex := 727, descriptorIndex := 728, attributes := #[] }] 49 2 #[] #[{ accessFlags := 25, nameIndex := 507, descriptorIndex := 526, attributes := #[] }, { accessFlags := 25, nameIndex := 399, descriptorIndex := 155, attributes := #[] }, { accessFlags := 25, nameIndex := 396, descriptorIndex := 155, attributes := #[] }, { accessFlags := 10, nameIndex := 525, descriptorIndex := 526, attributes := #[] }, { accessFlags := 26, nameIndex := 674, descriptorIndex := 12, attributes := #[] }, { accessFlags := 26, nameIndex := 677, descriptorIndex := 12, attributes := #[] }, { accessFlags := 10, nameIndex := 11, descriptorIndex := 12, attributes := #[] }, { accessFlags := 74, nameIndex := 175, descriptorIndex := 176, attributes := #[] }, { accessFlags := 10, nameIndex := 491, descriptorIndex := 222, attributes := #[] }, { accessFlags := 74, nameIndex := 29, descriptorIndex := 30, attributes := #[] }, { accessFlags := 74, nameIndex := 154, descriptorIndex := 155, attributes := #[] }, { accessFlags := 10, nameIndex := 217, descriptorIndex := 218, attributes := #[] }, { accessFlags := 10, nameIndex := 221, descriptorIndex := 222, attributes := #[] }, { accessFlags := 8, nameIndex := 562, descriptorIndex := 563, attributes := #[] }])
  fields := #[{ name := "in", type := (.object "java/io/InputStream"), accessFlags := 25, slot := 0, constantValue := 0 }, { name := "out", type := (.object "java/io/PrintStream"), accessFlags := 25, slot := 1, constantValue := 0 }, { name := "err", type := (.object "java/io/PrintStream"), accessFlags := 25, slot := 2, constantValue := 0 }, { name := "initialIn", type := (.object "java/io/InputStream"), accessFlags := 10, slot := 3, constantValue := 0 }, { name := "NEVER", type := .int, accessFlags := 26, slot := 4, constantValue := 0 }, { name := "MAYBE", type := .int, accessFlags := 26, slot := 5, constantValue := 0 }, { name := "allowSecurityManager", type := .int, accessFlags := 10, slot := 6, constantValue := 0 }, { name := "security", type := (.object "java/lang/SecurityManager"), accessFlags := 74, slot := 7, constantValue := 0 }, { name := "notSupportedJnuEncoding", type := (.object "java/lang/String"), accessFlags := 10, slot := 8, constantValue := 0 }, { name := "cons", type := (.object "java/io/Console"), accessFlags := 74, slot := 9, constantValue := 0 }, { name := "initialErrStream", type := (.object "java/io/PrintStream"), accessFlags := 74, slot := 10, constantValue := 0 }, { name := "props", type := (.object "java/util/Properties"), accessFlags := 10, slot := 11, constantValue := 0 }, { name := "lineSeparator", type := (.object "java/lang/String"), accessFlags := 10, slot := 12, constantValue := 0 }, { name := "bootLayer", type := (.object "java/lang/ModuleLayer"), accessFlags := 8, slot := 13, constantValue := 0 }]
  methods := #[k11m0, k11m1]
  instanceTypes := #[]
  staticTypes := #[(.object "java/io/InputStream"), (.object "java/io/PrintStream"), (.object "java/io/PrintStream"), (.object "java/io/InputStream"), .int, .int, .int, (.object "java/lang/SecurityManager"), (.object "java/lang/String"), (.object "java/io/Console"), (.object "java/io/PrintStream"), (.object "java/util/Properties"), (.object "java/lang/String"), (.object "java/lang/ModuleLayer")]
  resolved := Array.replicate 834 none
  statics := none }

def pool12 : Array CpInfo := pool [(1, u "java/lang/Cloneable"), (0, .class_ 1), (0, u "java/lang/Object"), (0, .class_ 3)] 3

/-- java/lang/Cloneable -/
def k12 : Class := { plain "java/lang/Cloneable" (some 0) with
  accessFlags := 1537
  interfaces := #[]
  cf := some (fileOf pool12 2 #[] #[] 1537 4 #[] #[])
  fields := #[]
  methods := #[]
  instanceTypes := #[]
  staticTypes := #[]
  resolved := Array.replicate 8 none
  statics := none }

/-- the primitive byte -/
def k13 : Class := { plain "byte" none with kind := .primitive 'B', accessFlags := 0x411 }
/-- [B -/
def k14 : Class := { plain "[B" (some 0) with kind := .array 13 .byte, interfaces := #[12, 5], accessFlags := 1041 }

/-- the primitive int -/
def k15 : Class := { plain "int" none with kind := .primitive 'I', accessFlags := 0x411 }
/-- [I -/
def k16 : Class := { plain "[I" (some 0) with kind := .array 15 .int, interfaces := #[12, 5], accessFlags := 1041 }

/-- the primitive long -/
def k17 : Class := { plain "long" none with kind := .primitive 'J', accessFlags := 0x411 }
/-- [J -/
def k18 : Class := { plain "[J" (some 0) with kind := .array 17 .long, interfaces := #[12, 5], accessFlags := 1041 }

def heap : Heap := #[]
def classes : Array Class := #[k0, k1, k2, k3, k4, k5, k6, k7, k8, k9, k10, k11, k12, k13, k14, k15, k16, k17, k18]
def interned : List (Array UInt16 × Addr) := []
def slotsUsed : Nat := 0
def theMethod : MethodId := ⟨1, 3⟩
def args0 : Array Value := #[.int 5, .int 3, .int 2, .long 1, .long 2, .long 3]
def aboutOver (below : List Frame) : State where
  vm := { classes := classes, interned := interned.toArray }
  heap := heap
  slotsUsed := slotsUsed
  threads := #[{ frames := .invoking theMethod args0 :: below }]
def below0 : List Frame := [.native { method := ⟨0, 0⟩, args := #[] }]
def about1 : State := aboutOver below0
def p0 : Program := .bare "" "" ""
def e0 : Env := launch0.env 0 0 0
theorem w_frames : about1.frames = Frame.invoking theMethod args0 :: below0 := rfl
set_option maxRecDepth 65536 in
theorem w_args : argsFit about1.vm theMethod args0 = true := by decide +kernel
set_option maxRecDepth 65536 in
theorem w_heap : heapFits about1 = true := by decide +kernel
set_option maxRecDepth 65536 in
theorem w_runnable : about1.curStatus? = some .runnable := by decide +kernel
set_option maxRecDepth 65536 in
theorem w_alone : about1.alone = true := by decide +kernel
set_option maxRecDepth 65536 in
theorem w_named : about1.methodNamed? x = some theMethod := by decide +kernel
set_option maxRecDepth 65536 in
theorem w_hears : about1.hears theMethod below0 = true := by decide +kernel
set_option maxRecDepth 65536 in
theorem w_ripe : about1.ripe theMethod args0 below0 = true := by decide +kernel
theorem w_running : about1.status = .running := rfl
set_option maxRecDepth 65536 in
theorem w_room : about1.hasRoom e0.platform room_1 = true :=
  launch0.hasRoom_least _ room_1 (by decide +kernel) (by decide +kernel) (by decide +kernel) (by decide +kernel) (by decide +kernel) (by decide +kernel)
theorem allAtoms_all (ts : List Jvm.Cond) (a : Array Jvm.Value) (st : Jvm.State) : (allAtoms ts).before a st = ts.all (fun c => c.before a st) := by
  induction ts with
  | nil => rfl
  | cons c t ih =>
    show (Jvm.Cond.and c (allAtoms t)).before a st = _
    rw [Jvm.Cond.before_and, ih, List.all_cons]
def words1 : List Jvm.Cond := Jvm.Cond.code x code maxLocals ret :: tables_1
/-- a 'code' word, met by the world's own term for the bytes: nothing is compared byte by byte -/
theorem code_word {y : MethodName} {bytes : ByteArray} {mx : Nat} {rt : Option FieldType} {a : Array Value} {s : State} {m : MethodId} {meth : Method} {c : Code} (h1 : s.methodNamed? y = some m) (h2 : s.vm.method? m = some meth) (h3 : meth.code = some c) (h4 : c.code = bytes)
    (h5 : (c.maxLocals == mx && c.exceptionTable.isEmpty && decide (c.maxStack ≤ mostOperands) && decide (meth.sig.returnType = rt) && !meth.locks && decide (parseMethodDescriptor y.desc = some meth.sig)) = true) : (Jvm.Cond.code y bytes mx rt).before a s = true := by
  simp only [Bool.and_eq_true, beq_iff_eq, Bool.not_eq_true', decide_eq_true_eq] at h5
  obtain ⟨⟨⟨⟨⟨g1, g2⟩, g3⟩, g4⟩, g5⟩, g6⟩ := h5
  simp [Cond.before, Cond.holds, Cond.value, h1, h2, h3, h4, g1, g2, g3, g4, g5, g6]
def isCode : Jvm.Cond → Bool
  | .code _ _ _ _ => true
  | _ => false
theorem all_split {L : List Jvm.Cond} {P : Jvm.Cond → Bool} (h1 : L.all (fun c => isCode c || P c) = true) (h2 : ∀ c ∈ L.filter isCode, P c = true) : L.all P = true := by
  refine List.all_eq_true.mpr fun c hc => ?_
  have h := List.all_eq_true.mp h1 c hc
  rcases Bool.eq_false_or_eq_true (isCode c) with hi | hi
  · exact h2 c (List.mem_filter.mpr ⟨hc, hi⟩)
  · simpa [hi] using h
set_option maxRecDepth 65536 in
theorem w_c0 : (Jvm.Cond.code x code maxLocals ret).before args0 about1 = true := code_word (m := ⟨1, 3⟩) (meth := k1m3) (c := k1c3) (by decide +kernel) rfl rfl rfl (by decide +kernel)
set_option maxRecDepth 65536 in
theorem w_c1 : (Jvm.Cond.code ({ cls := "com/example/cuesheet/cuesheet/core/PackedStatesReadPinLaw", name := "win", desc := "(I)I" } : Jvm.MethodName) method_2_code (2 : Nat) (Option.some Jvm.ClassFile.FieldType.int)).before args0 about1 = true := code_word (m := ⟨1, 1⟩) (meth := k1m1) (c := k1c1) (by decide +kernel) rfl rfl rfl (by decide +kernel)
set_option maxRecDepth 65536 in
theorem w_c2 : (Jvm.Cond.code ({ cls := "com/example/cuesheet/cuesheet/core/PackedStatesReadPinLaw", name := "buf", desc := "(JII)I" } : Jvm.MethodName) method_3_code (5 : Nat) (Option.some Jvm.ClassFile.FieldType.int)).before args0 about1 = true := code_word (m := ⟨1, 2⟩) (meth := k1m2) (c := k1c2) (by decide +kernel) rfl rfl rfl (by decide +kernel)
set_option maxRecDepth 65536 in
theorem w_c3 : (Jvm.Cond.code ({ cls := "com/example/cuesheet/cuesheet/core/PackedStates", name := "<init>", desc := "([I)V" } : Jvm.MethodName) prog_12_method_1_code (5 : Nat) (Option.none : Option Jvm.ClassFile.FieldType)).before args0 about1 = true := code_word (m := ⟨2, 0⟩) (meth := k2m0) (c := k2c0) (by decide +kernel) rfl rfl rfl (by decide +kernel)
set_option maxRecDepth 65536 in
theorem w_c4 : (Jvm.Cond.code ({ cls := "java/lang/Object", name := "<init>", desc := "()V" } : Jvm.MethodName) object_method_1_code (1 : Nat) (Option.none : Option Jvm.ClassFile.FieldType)).before args0 about1 = true := code_word (m := ⟨0, 0⟩) (meth := k0m0) (c := k0c0) (by decide +kernel) rfl rfl rfl (by decide +kernel)
set_option maxRecDepth 65536 in
theorem w_c5 : (Jvm.Cond.code ({ cls := "com/example/cuesheet/cuesheet/core/StateTable", name := "<init>", desc := "()V" } : Jvm.MethodName) prog_14_method_1_code (1 : Nat) (Option.none : Option Jvm.ClassFile.FieldType)).before args0 about1 = true := code_word (m := ⟨3, 0⟩) (meth := k3m0) (c := k3c0) (by decide +kernel) rfl rfl rfl (by decide +kernel)
set_option maxRecDepth 65536 in
theorem w_c6 : (Jvm.Cond.code ({ cls := "com/example/cuesheet/cuesheet/core/StateTable", name := "filled", desc := "(I)[I" } : Jvm.MethodName) prog_14_method_6_code (2 : Nat) (Option.some (Jvm.ClassFile.FieldType.array Jvm.ClassFile.FieldType.int))).before args0 about1 = true := code_word (m := ⟨3, 3⟩) (meth := k3m3) (c := k3c3) (by decide +kernel) rfl rfl rfl (by decide +kernel)
set_option maxRecDepth 65536 in
theorem w_c7 : (Jvm.Cond.code ({ cls := "java/util/Arrays", name := "fill", desc := "([II)V" } : Jvm.MethodName) jdk_65_method_103_code (4 : Nat) (Option.none : Option Jvm.ClassFile.FieldType)).before args0 about1 = true := code_word (m := ⟨4, 2⟩) (meth := k4m2) (c := k4c2) (by decide +kernel) rfl rfl rfl (by decide +kernel)
set_option maxRecDepth 65536 in
theorem w_c8 : (Jvm.Cond.code ({ cls := "java/lang/Integer", name := "numberOfLeadingZeros", desc := "(I)I" } : Jvm.MethodName) jdk_33_method_47_code (2 : Nat) (Option.some Jvm.ClassFile.FieldType.int)).before args0 about1 = true := code_word (m := ⟨10, 0⟩) (meth := k10m0) (c := k10c0) (by decide +kernel) rfl rfl rfl (by decide +kernel)
set_option maxRecDepth 65536 in
theorem w_c9 : (Jvm.Cond.code ({ cls := "com/example/cuesheet/cuesheet/core/PackedStates", name := "add", desc := "([I)I" } : Jvm.MethodName) prog_12_method_5_code (2 : Nat) (Option.some Jvm.ClassFile.FieldType.int)).before args0 about1 = true := code_word (m := ⟨2, 1⟩) (meth := k2m1) (c := k2c1) (by decide +kernel) rfl rfl rfl (by decide +kernel)
set_option maxRecDepth 65536 in
theorem w_c10 : (Jvm.Cond.code ({ cls := "com/example/cuesheet/cuesheet/core/PackedStates", name := "pack", desc := "([I)V" } : Jvm.MethodName) prog_12_method_7_code (3 : Nat) (Option.none : Option Jvm.ClassFile.FieldType)).before args0 about1 = true := code_word (m := ⟨2, 3⟩) (meth := k2m3) (c := k2c3) (by decide +kernel) rfl rfl rfl (by decide +kernel)
set_option maxRecDepth 65536 in
theorem w_c11 : (Jvm.Cond.code ({ cls := "java/util/Arrays", name := "fill", desc := "([JJ)V" } : Jvm.MethodName) jdk_65_method_101_code (5 : Nat) (Option.none : Option Jvm.ClassFile.FieldType)).before args0 about1 = true := code_word (m := ⟨4, 1⟩) (meth := k4m1) (c := k4c1) (by decide +kernel) rfl rfl rfl (by decide +kernel)
set_option maxRecDepth 65536 in
theorem w_c12 : (Jvm.Cond.code ({ cls := "com/example/cuesheet/cuesheet/core/PackedStates", name := "summary", desc := "()J" } : Jvm.MethodName) prog_12_method_8_code (8 : Nat) (Option.some Jvm.ClassFile.FieldType.long)).before args0 about1 = true := code_word (m := ⟨2, 4⟩) (meth := k2m4) (c := k2c4) (by decide +kernel) rfl rfl rfl (by decide +kernel)
set_option maxRecDepth 65536 in
theorem w_c13 : (Jvm.Cond.code ({ cls := "com/example/cuesheet/cuesheet/core/StateTable", name := "mix", desc := "(J)J" } : Jvm.MethodName) prog_14_method_7_code (4 : Nat) (Option.some Jvm.ClassFile.FieldType.long)).before args0 about1 = true := code_word (m := ⟨3, 4⟩) (meth := k3m4) (c := k3c4) (by decide +kernel) rfl rfl rfl (by decide +kernel)
set_option maxRecDepth 65536 in
theorem w_c14 : (Jvm.Cond.code ({ cls := "com/example/cuesheet/cuesheet/core/StateTable", name := "add", desc := "(JI)V" } : Jvm.MethodName) prog_14_method_2_code (5 : Nat) (Option.none : Option Jvm.ClassFile.FieldType)).before args0 about1 = true := code_word (m := ⟨3, 1⟩) (meth := k3m1) (c := k3c1) (by decide +kernel) rfl rfl rfl (by decide +kernel)
set_option maxRecDepth 65536 in
theorem w_c15 : (Jvm.Cond.code ({ cls := "com/example/cuesheet/cuesheet/core/StateTable", name := "home", desc := "(J)I" } : Jvm.MethodName) prog_14_method_4_code (3 : Nat) (Option.some Jvm.ClassFile.FieldType.int)).before args0 about1 = true := code_word (m := ⟨3, 2⟩) (meth := k3m2) (c := k3c2) (by decide +kernel) rfl rfl rfl (by decide +kernel)
set_option maxRecDepth 65536 in
theorem w_c16 : (Jvm.Cond.code ({ cls := "com/example/cuesheet/cuesheet/core/PackedStates", name := "read", desc := "(I[I)V" } : Jvm.MethodName) prog_12_method_6_code (6 : Nat) (Option.none : Option Jvm.ClassFile.FieldType)).before args0 about1 = true := code_word (m := ⟨2, 2⟩) (meth := k2m2) (c := k2c2) (by decide +kernel) rfl rfl rfl (by decide +kernel)
def codes1 : List Jvm.Cond := [Jvm.Cond.code x code maxLocals ret, Jvm.Cond.code ({ cls := "com/example/cuesheet/cuesheet/core/PackedStatesReadPinLaw", name := "win", desc := "(I)I" } : Jvm.MethodName) method_2_code (2 : Nat) (Option.some Jvm.ClassFile.FieldType.int), Jvm.Cond.code ({ cls := "com/example/cuesheet/cuesheet/core/PackedStatesReadPinLaw", name := "buf", desc := "(JII)I" } : Jvm.MethodName) method_3_code (5 : Nat) (Option.some Jvm.ClassFile.FieldType.int), Jvm.Cond.code ({ cls := "com/example/cuesheet/cuesheet/core/PackedStates", name := "<init>", desc := "([I)V" } : Jvm.MethodName) prog_12_method_1_code (5 : Nat) (Option.none : Option Jvm.ClassFile.FieldType), Jvm.Cond.code ({ cls := "java/lang/Object", name := "<init>", desc := "()V" } : Jvm.MethodName) object_method_1_code (1 : Nat) (Option.none : Option Jvm.ClassFile.FieldType), Jvm.Cond.code ({ cls := "com/example/cuesheet/cuesheet/core/StateTable", name := "<init>", desc := "()V" } : Jvm.MethodName) prog_14_method_1_code (1 : Nat) (Option.none : Option Jvm.ClassFile.FieldType), Jvm.Cond.code ({ cls := "com/example/cuesheet/cuesheet/core/StateTable", name := "filled", desc := "(I)[I" } : Jvm.MethodName) prog_14_method_6_code (2 : Nat) (Option.some (Jvm.ClassFile.FieldType.array Jvm.ClassFile.FieldType.int)), Jvm.Cond.code ({ cls := "java/util/Arrays", name := "fill", desc := "([II)V" } : Jvm.MethodName) jdk_65_method_103_code (4 : Nat) (Option.none : Option Jvm.ClassFile.FieldType), Jvm.Cond.code ({ cls := "java/lang/Integer", name := "numberOfLeadingZeros", desc := "(I)I" } : Jvm.MethodName) jdk_33_method_47_code (2 : Nat) (Option.some Jvm.ClassFile.FieldType.int), Jvm.Cond.code ({ cls := "com/example/cuesheet/cuesheet/core/PackedStates", name := "add", desc := "([I)I" } : Jvm.MethodName) prog_12_method_5_code (2 : Nat) (Option.some Jvm.ClassFile.FieldType.int), Jvm.Cond.code ({ cls := "com/example/cuesheet/cuesheet/core/PackedStates", name := "pack", desc := "([I)V" } : Jvm.MethodName) prog_12_method_7_code (3 : Nat) (Option.none : Option Jvm.ClassFile.FieldType), Jvm.Cond.code ({ cls := "java/util/Arrays", name := "fill", desc := "([JJ)V" } : Jvm.MethodName) jdk_65_method_101_code (5 : Nat) (Option.none : Option Jvm.ClassFile.FieldType), Jvm.Cond.code ({ cls := "com/example/cuesheet/cuesheet/core/PackedStates", name := "summary", desc := "()J" } : Jvm.MethodName) prog_12_method_8_code (8 : Nat) (Option.some Jvm.ClassFile.FieldType.long), Jvm.Cond.code ({ cls := "com/example/cuesheet/cuesheet/core/StateTable", name := "mix", desc := "(J)J" } : Jvm.MethodName) prog_14_method_7_code (4 : Nat) (Option.some Jvm.ClassFile.FieldType.long), Jvm.Cond.code ({ cls := "com/example/cuesheet/cuesheet/core/StateTable", name := "add", desc := "(JI)V" } : Jvm.MethodName) prog_14_method_2_code (5 : Nat) (Option.none : Option Jvm.ClassFile.FieldType), Jvm.Cond.code ({ cls := "com/example/cuesheet/cuesheet/core/StateTable", name := "home", desc := "(J)I" } : Jvm.MethodName) prog_14_method_4_code (3 : Nat) (Option.some Jvm.ClassFile.FieldType.int), Jvm.Cond.code ({ cls := "com/example/cuesheet/cuesheet/core/PackedStates", name := "read", desc := "(I[I)V" } : Jvm.MethodName) prog_12_method_6_code (6 : Nat) (Option.none : Option Jvm.ClassFile.FieldType)]
set_option maxRecDepth 65536 in
theorem codes_eq : words1.filter isCode = codes1 := rfl
theorem w_codes : ∀ c ∈ words1.filter isCode, c.before args0 about1 = true := by
  rw [codes_eq]
  intro c hc
  simp only [codes1, List.mem_cons, List.not_mem_nil, or_false] at hc
  rcases hc with rfl | rfl | rfl | rfl | rfl | rfl | rfl | rfl | rfl | rfl | rfl | rfl | rfl | rfl | rfl | rfl | rfl
  · exact w_c0
  · exact w_c1
  · exact w_c2
  · exact w_c3
  · exact w_c4
  · exact w_c5
  · exact w_c6
  · exact w_c7
  · exact w_c8
  · exact w_c9
  · exact w_c10
  · exact w_c11
  · exact w_c12
  · exact w_c13
  · exact w_c14
  · exact w_c15
  · exact w_c16
set_option maxRecDepth 65536 in
theorem w_t1 : (words1.take 24).all (fun c => isCode c || c.before args0 about1) = true := by decide +kernel
set_option maxRecDepth 65536 in
theorem w_t2 : ((words1.drop 24).take 24).all (fun c => isCode c || c.before args0 about1) = true := by decide +kernel
set_option maxRecDepth 65536 in
theorem w_t3 : (((words1.drop 24).drop 24).take 24).all (fun c => isCode c || c.before args0 about1) = true := by decide +kernel
set_option maxRecDepth 65536 in
theorem w_t4 : ((((words1.drop 24).drop 24).drop 24).take 24).all (fun c => isCode c || c.before args0 about1) = true := by decide +kernel
set_option maxRecDepth 65536 in
theorem w_t5 : ((((words1.drop 24).drop 24).drop 24).drop 24).all (fun c => isCode c || c.before args0 about1) = true := by decide +kernel
theorem w_tables : (allAtoms (Jvm.Cond.code x code maxLocals ret :: tables_1)).before args0 about1 = true := by
  rw [allAtoms_all]
  show words1.all (fun c => c.before args0 about1) = true
  refine all_split ?_ w_codes
  rw [← List.take_append_drop 24 words1, List.all_append, w_t1, ← List.take_append_drop 24 (words1.drop 24), List.all_append, w_t2, ← List.take_append_drop 24 ((words1.drop 24).drop 24), List.all_append, w_t3, ← List.take_append_drop 24 (((words1.drop 24).drop 24).drop 24), List.all_append, w_t4, w_t5]
  rfl
set_option maxRecDepth 65536 in
theorem w_case : (Jvm.Cond.and given_1 narrow_1).before args0 about1 = true := by decide +kernel
theorem w_applies : (headSpec (Jvm.Cond.code x code maxLocals ret :: tables_1) room_1).applies x e0.platform about1 = true :=
  (Spec.applies_iff w_frames).mpr ⟨w_running, w_runnable, w_alone, w_named, w_hears, w_ripe, w_room, w_tables⟩
theorem atStart : AtStart classFile x code maxLocals ret World_1 tables_1 room_1 Calls_1 rest_1 Pre_1 launch0 p0 e0 about1 theMethod args0 below0 :=
  ⟨lists_1, trivial, launch0.admits_env _ _ _, launch0.least_env, fairChoices_fair.cas, fairChoices_fair.clock, w_frames, w_args, w_heap, w_applies, trivial, trivial, w_case⟩
end start1
theorem witness_1 : WitnessClaimed_1 := ⟨start1.p0, start1.e0, start1.about1, start1.theMethod, start1.args0, start1.below0, start1.atStart⟩
end Jvm.Pilot.@@N@@
