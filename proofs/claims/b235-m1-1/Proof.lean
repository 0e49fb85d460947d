import JvmDerived
import JvmDerived.Pilot.@@N@@Statement
import JvmDerived.Pilot.@@N@@Code
set_option linter.unusedVariables false
set_option linter.unusedSimpArgs false
namespace Jvm.Pilot.@@N@@
open Jvm Jvm.ClassFile Sem Op Lib Jvm.Free Jvm.Stand Jvm.LawKit Jvm.RoadKit Bundle Jvm.Pilot.@@N@@.Jvm.D
namespace Own
section Eng
/-- from the frame g over the heap h, with k cells and n slots made so far, every standing run ends as Fn says, having written at or above n0 alone -/
def Goes (p : Program) (l : Launch) (e : Env) (R : Room) (s : State) (m : MethodId) (args : Array Value) (below : List Frame) (meth : Method) (c : Code) (n0 mc ms : Nat) (Fn : Option Value → Heap → Prop) (h : Heap) (k n : Nat) (g : JFrame) : Prop :=
  ∀ (T : State) (locs : List Loc), Stand p l e R s m args below meth c T locs k n → Fr n0 locs → T.heap = h →
    ∃ (s₂ : State) (o : Outcome), Steps p.tables e below (T.setTop g) s₂ ∧ s₂.status = .running ∧ Ended s₂ below o ∧ ∃ (v : Option Value) (L : List Loc), o = .returned v ∧ (Fn v s₂.heap ∧ Fr n0 L) ∧ FrameEnd s o s₂ L mc ms
/-- the contract of a method at one list of arguments and one heap -/
def Does (l : Launch) (y : MethodName) (bytes : ByteArray) (maxL : Nat) (ret : Option FieldType) (ws : List Jvm.Cond) (rm : Room) (Z : State) (as' : Array Value) (h0 : Heap) (n0 : Nat) (Fn : Option Value → Heap → Prop) : Prop :=
  MetFree l y (head1 (Jvm.Cond.code y bytes maxL ret :: ws) rm) (fun a U => a = as' ∧ Z.Warmed39 U.vm ∧ U.heap = h0) (fun _ _ _ _ _ => True) (fun _ U o U' => ∃ v L, o = .returned v ∧ (Fn v U'.heap ∧ Fr n0 L) ∧ FrameEnd U o U' L rm.cells rm.slots)
variable {p : Program} {l : Launch} {e : Env} {R : Room} {s : State} {m : MethodId} {args : Array Value} {below : List Frame} {meth : Method} {c : Code} {n0 mc ms : Nat} {Fn : Option Value → Heap → Prop} {h : Heap} {k n : Nat}
theorem doesOf {y : MethodName} {bytes : ByteArray} {maxL : Nat} {ret : Option FieldType} {ws : List Jvm.Cond} {rm : Room} {Z : State} {as' : Array Value} {h0 : Heap} (hy : plainFor y = true)
    (body : ∀ (p : Program) (e : Env) (s : State) (m : MethodId) (below : List Frame) (meth : Method) (c : Code), p.tables.exec = Jvm.exec → c.code = bytes → c.maxLocals = maxL → meth.sig.returnType = ret → meth.locks = false → s.vm.findClass y.cls = some m.cls → meth.name = y.name → Z.Warmed39 s.vm →
      Goes p l e rm s m as' below meth c n0 rm.cells rm.slots Fn h0 0 0 (entryFrame m as' maxL)) : Does l y bytes maxL ret ws rm Z as' h0 n0 Fn := by
  refine MetFree.of_bodySF hy hisR ?_
  intro p e s m args below meth c s₁ Bd hml hP _
  obtain ⟨rfl, hZ, hh⟩ := hP
  have e0 : s₁.heap = h0 := by rw [← hh, Bd.state]; rfl
  obtain ⟨s₂, o, h1, h2, h3, h4⟩ := body p e s m below meth c Bd.exec Bd.bytes hml Bd.returns Bd.notSynchronized (findClass_of_methodNamed Bd.named) (name_of_methodNamed Bd.named Bd.method).1 hZ s₁ [] (Stand.of_body Bd) (Fr.nil n0) e0
  exact ⟨s₂, o, h1, h2, h3, h4⟩
theorem Goes.pure {g g' : JFrame} (st : ∀ (T : State) (locs : List Loc) (t : State), Stand p l e R s m args below meth c T locs k n → Steps p.tables e below (T.setTop g') t → Steps p.tables e below (T.setTop g) t) (K : Goes p l e R s m args below meth c n0 mc ms Fn h k n g') : Goes p l e R s m args below meth c n0 mc ms Fn h k n g := fun T locs X N eT => by
  obtain ⟨s₂, o, hs, r⟩ := K T locs X N eT
  exact ⟨s₂, o, st T locs s₂ X hs, r⟩
theorem Goes.move {g g' : JFrame} {k' n' : Nat} {Pr : Heap → Prop} (st : ∀ (T : State) (locs : List Loc), Stand p l e R s m args below meth c T locs k n → Fr n0 locs → T.heap = h → ∃ (T' : State) (locs' : List Loc), Stand p l e R s m args below meth c T' locs' k' n' ∧ Fr n0 locs' ∧ Pr T'.heap ∧ ∀ t, Steps p.tables e below (T'.setTop g') t → Steps p.tables e below (T.setTop g) t)
    (K : ∀ h', Pr h' → Goes p l e R s m args below meth c n0 mc ms Fn h' k' n' g') : Goes p l e R s m args below meth c n0 mc ms Fn h k n g := fun T locs X N eT => by
  obtain ⟨T', locs', X', N', hP, st'⟩ := st T locs X N eT
  obtain ⟨s₂, o, hs, r⟩ := K T'.heap hP T' locs' X' N' rfl
  exact ⟨s₂, o, st' s₂ hs, r⟩
theorem Goes.join {g : JFrame} (g' : JFrame) (K1 : Goes p l e R s m args below meth c n0 mc ms Fn h k n g' → Goes p l e R s m args below meth c n0 mc ms Fn h k n g) (K2 : Goes p l e R s m args below meth c n0 mc ms Fn h k n g') : Goes p l e R s m args below meth c n0 mc ms Fn h k n g := K1 K2
theorem Goes.cast {g g' : JFrame} (q : g = g') (K : Goes p l e R s m args below meth c n0 mc ms Fn h k n g') : Goes p l e R s m args below meth c n0 mc ms Fn h k n g := q ▸ K
theorem Goes.fin {Fn' : Option Value → Heap → Prop} {g : JFrame} (q : ∀ v h, Fn v h → Fn' v h) (K : Goes p l e R s m args below meth c n0 mc ms Fn h k n g) : Goes p l e R s m args below meth c n0 mc ms Fn' h k n g := fun T locs X N eT => by
  obtain ⟨s₂, o, h1, h2, h3, v, L, h4, ⟨h5, h6⟩, h7⟩ := K T locs X N eT
  exact ⟨s₂, o, h1, h2, h3, v, L, h4, ⟨q _ _ h5, h6⟩, h7⟩

theorem iadd (hx : p.tables.exec = Jvm.exec) {pc pc' : Nat} {Ls : Array Slot} {x y : Int32} {rest : List Value} (hd : decode c.code pc = .ok (.iadd, 1)) (hp : pc + 1 = pc') (K : Goes p l e R s m args below meth c n0 mc ms Fn h k n (mkF m pc' Ls (.int (x + y) :: rest))) : Goes p l e R s m args below meth c n0 mc ms Fn h k n (mkF m pc Ls (.int y :: .int x :: rest)) := by
  subst hp; exact K.pure fun T locs t X hs => XS.iadd X.here hx rfl hd rfl hs
theorem isub (hx : p.tables.exec = Jvm.exec) {pc pc' : Nat} {Ls : Array Slot} {x y : Int32} {rest : List Value} (hd : decode c.code pc = .ok (.isub, 1)) (hp : pc + 1 = pc') (K : Goes p l e R s m args below meth c n0 mc ms Fn h k n (mkF m pc' Ls (.int (x - y) :: rest))) : Goes p l e R s m args below meth c n0 mc ms Fn h k n (mkF m pc Ls (.int y :: .int x :: rest)) := by
  subst hp; exact K.pure fun T locs t X hs => XS.isub X.here hx rfl hd rfl hs
theorem imul (hx : p.tables.exec = Jvm.exec) {pc pc' : Nat} {Ls : Array Slot} {x y : Int32} {rest : List Value} (hd : decode c.code pc = .ok (.imul, 1)) (hp : pc + 1 = pc') (K : Goes p l e R s m args below meth c n0 mc ms Fn h k n (mkF m pc' Ls (.int (x * y) :: rest))) : Goes p l e R s m args below meth c n0 mc ms Fn h k n (mkF m pc Ls (.int y :: .int x :: rest)) := by
  subst hp; exact K.pure fun T locs t X hs => XS.imul X.here hx rfl hd rfl hs
theorem iand (hx : p.tables.exec = Jvm.exec) {pc pc' : Nat} {Ls : Array Slot} {x y : Int32} {rest : List Value} (hd : decode c.code pc = .ok (.iand, 1)) (hp : pc + 1 = pc') (K : Goes p l e R s m args below meth c n0 mc ms Fn h k n (mkF m pc' Ls (.int (x &&& y) :: rest))) : Goes p l e R s m args below meth c n0 mc ms Fn h k n (mkF m pc Ls (.int y :: .int x :: rest)) := by
  subst hp; exact K.pure fun T locs t X hs => XS.iand X.here hx rfl hd rfl hs
theorem ior (hx : p.tables.exec = Jvm.exec) {pc pc' : Nat} {Ls : Array Slot} {x y : Int32} {rest : List Value} (hd : decode c.code pc = .ok (.ior, 1)) (hp : pc + 1 = pc') (K : Goes p l e R s m args below meth c n0 mc ms Fn h k n (mkF m pc' Ls (.int (x ||| y) :: rest))) : Goes p l e R s m args below meth c n0 mc ms Fn h k n (mkF m pc Ls (.int y :: .int x :: rest)) := by
  subst hp; exact K.pure fun T locs t X hs => XS.ior X.here hx rfl hd rfl hs
theorem ixor (hx : p.tables.exec = Jvm.exec) {pc pc' : Nat} {Ls : Array Slot} {x y : Int32} {rest : List Value} (hd : decode c.code pc = .ok (.ixor, 1)) (hp : pc + 1 = pc') (K : Goes p l e R s m args below meth c n0 mc ms Fn h k n (mkF m pc' Ls (.int (x ^^^ y) :: rest))) : Goes p l e R s m args below meth c n0 mc ms Fn h k n (mkF m pc Ls (.int y :: .int x :: rest)) := by
  subst hp; exact K.pure fun T locs t X hs => XS.ixor X.here hx rfl hd rfl hs
theorem ishl (hx : p.tables.exec = Jvm.exec) {pc pc' : Nat} {Ls : Array Slot} {x y : Int32} {rest : List Value} (hd : decode c.code pc = .ok (.ishl, 1)) (hp : pc + 1 = pc') (K : Goes p l e R s m args below meth c n0 mc ms Fn h k n (mkF m pc' Ls (.int (x <<< (y &&& 31)) :: rest))) : Goes p l e R s m args below meth c n0 mc ms Fn h k n (mkF m pc Ls (.int y :: .int x :: rest)) := by
  subst hp; exact K.pure fun T locs t X hs => XS.ishl X.here hx rfl hd rfl hs
theorem ishr (hx : p.tables.exec = Jvm.exec) {pc pc' : Nat} {Ls : Array Slot} {x y : Int32} {rest : List Value} (hd : decode c.code pc = .ok (.ishr, 1)) (hp : pc + 1 = pc') (K : Goes p l e R s m args below meth c n0 mc ms Fn h k n (mkF m pc' Ls (.int (x >>> (y &&& 31)) :: rest))) : Goes p l e R s m args below meth c n0 mc ms Fn h k n (mkF m pc Ls (.int y :: .int x :: rest)) := by
  subst hp; exact K.pure fun T locs t X hs => XS.ishr X.here hx rfl hd rfl hs
theorem iushr (hx : p.tables.exec = Jvm.exec) {pc pc' : Nat} {Ls : Array Slot} {x y : Int32} {rest : List Value} (hd : decode c.code pc = .ok (.iushr, 1)) (hp : pc + 1 = pc') (K : Goes p l e R s m args below meth c n0 mc ms Fn h k n (mkF m pc' Ls (.int ((x.toUInt32 >>> (y &&& 31).toUInt32).toInt32) :: rest))) : Goes p l e R s m args below meth c n0 mc ms Fn h k n (mkF m pc Ls (.int y :: .int x :: rest)) := by
  subst hp; exact K.pure fun T locs t X hs => XS.iushr X.here hx rfl hd rfl hs
theorem ladd (hx : p.tables.exec = Jvm.exec) {pc pc' : Nat} {Ls : Array Slot} {x y : Int64} {rest : List Value} (hd : decode c.code pc = .ok (.ladd, 1)) (hp : pc + 1 = pc') (K : Goes p l e R s m args below meth c n0 mc ms Fn h k n (mkF m pc' Ls (.long (x + y) :: rest))) : Goes p l e R s m args below meth c n0 mc ms Fn h k n (mkF m pc Ls (.long y :: .long x :: rest)) := by
  subst hp; exact K.pure fun T locs t X hs => XS.ladd X.here hx rfl hd rfl hs
theorem lsub (hx : p.tables.exec = Jvm.exec) {pc pc' : Nat} {Ls : Array Slot} {x y : Int64} {rest : List Value} (hd : decode c.code pc = .ok (.lsub, 1)) (hp : pc + 1 = pc') (K : Goes p l e R s m args below meth c n0 mc ms Fn h k n (mkF m pc' Ls (.long (x - y) :: rest))) : Goes p l e R s m args below meth c n0 mc ms Fn h k n (mkF m pc Ls (.long y :: .long x :: rest)) := by
  subst hp; exact K.pure fun T locs t X hs => XS.lsub X.here hx rfl hd rfl hs
theorem lmul (hx : p.tables.exec = Jvm.exec) {pc pc' : Nat} {Ls : Array Slot} {x y : Int64} {rest : List Value} (hd : decode c.code pc = .ok (.lmul, 1)) (hp : pc + 1 = pc') (K : Goes p l e R s m args below meth c n0 mc ms Fn h k n (mkF m pc' Ls (.long (x * y) :: rest))) : Goes p l e R s m args below meth c n0 mc ms Fn h k n (mkF m pc Ls (.long y :: .long x :: rest)) := by
  subst hp; exact K.pure fun T locs t X hs => XS.lmul X.here hx rfl hd rfl hs
theorem land (hx : p.tables.exec = Jvm.exec) {pc pc' : Nat} {Ls : Array Slot} {x y : Int64} {rest : List Value} (hd : decode c.code pc = .ok (.land, 1)) (hp : pc + 1 = pc') (K : Goes p l e R s m args below meth c n0 mc ms Fn h k n (mkF m pc' Ls (.long (x &&& y) :: rest))) : Goes p l e R s m args below meth c n0 mc ms Fn h k n (mkF m pc Ls (.long y :: .long x :: rest)) := by
  subst hp; exact K.pure fun T locs t X hs => XS.land X.here hx rfl hd rfl hs
theorem lor (hx : p.tables.exec = Jvm.exec) {pc pc' : Nat} {Ls : Array Slot} {x y : Int64} {rest : List Value} (hd : decode c.code pc = .ok (.lor, 1)) (hp : pc + 1 = pc') (K : Goes p l e R s m args below meth c n0 mc ms Fn h k n (mkF m pc' Ls (.long (x ||| y) :: rest))) : Goes p l e R s m args below meth c n0 mc ms Fn h k n (mkF m pc Ls (.long y :: .long x :: rest)) := by
  subst hp; exact K.pure fun T locs t X hs => XS.lor X.here hx rfl hd rfl hs
theorem lxor (hx : p.tables.exec = Jvm.exec) {pc pc' : Nat} {Ls : Array Slot} {x y : Int64} {rest : List Value} (hd : decode c.code pc = .ok (.lxor, 1)) (hp : pc + 1 = pc') (K : Goes p l e R s m args below meth c n0 mc ms Fn h k n (mkF m pc' Ls (.long (x ^^^ y) :: rest))) : Goes p l e R s m args below meth c n0 mc ms Fn h k n (mkF m pc Ls (.long y :: .long x :: rest)) := by
  subst hp; exact K.pure fun T locs t X hs => XS.lxor X.here hx rfl hd rfl hs
theorem lshl (hx : p.tables.exec = Jvm.exec) {pc pc' : Nat} {Ls : Array Slot} {x : Int64} {y : Int32} {rest : List Value} (hd : decode c.code pc = .ok (.lshl, 1)) (hp : pc + 1 = pc') (K : Goes p l e R s m args below meth c n0 mc ms Fn h k n (mkF m pc' Ls (.long (x <<< (y &&& 0x3f).toInt64) :: rest))) : Goes p l e R s m args below meth c n0 mc ms Fn h k n (mkF m pc Ls (.int y :: .long x :: rest)) := by
  subst hp; exact K.pure fun T locs t X hs => XS.lshl X.here hx rfl hd rfl hs
theorem lshr (hx : p.tables.exec = Jvm.exec) {pc pc' : Nat} {Ls : Array Slot} {x : Int64} {y : Int32} {rest : List Value} (hd : decode c.code pc = .ok (.lshr, 1)) (hp : pc + 1 = pc') (K : Goes p l e R s m args below meth c n0 mc ms Fn h k n (mkF m pc' Ls (.long (x >>> (y &&& 0x3f).toInt64) :: rest))) : Goes p l e R s m args below meth c n0 mc ms Fn h k n (mkF m pc Ls (.int y :: .long x :: rest)) := by
  subst hp; exact K.pure fun T locs t X hs => XS.lshr X.here hx rfl hd rfl hs
theorem lushr (hx : p.tables.exec = Jvm.exec) {pc pc' : Nat} {Ls : Array Slot} {x : Int64} {y : Int32} {rest : List Value} (hd : decode c.code pc = .ok (.lushr, 1)) (hp : pc + 1 = pc') (K : Goes p l e R s m args below meth c n0 mc ms Fn h k n (mkF m pc' Ls (.long ((x.toUInt64 >>> (y &&& 0x3f).toInt64.toUInt64).toInt64) :: rest))) : Goes p l e R s m args below meth c n0 mc ms Fn h k n (mkF m pc Ls (.int y :: .long x :: rest)) := by
  subst hp; exact K.pure fun T locs t X hs => XS.lushr X.here hx rfl hd rfl hs
theorem lcmp (hx : p.tables.exec = Jvm.exec) {pc pc' : Nat} {Ls : Array Slot} {x y : Int64} {rest : List Value} (hd : decode c.code pc = .ok (.lcmp, 1)) (hp : pc + 1 = pc') (K : Goes p l e R s m args below meth c n0 mc ms Fn h k n (mkF m pc' Ls (.int (lcmpW x y) :: rest))) : Goes p l e R s m args below meth c n0 mc ms Fn h k n (mkF m pc Ls (.long y :: .long x :: rest)) := by
  subst hp; exact K.pure fun T locs t X hs => XS.lcmp X.here hx rfl hd rfl hs
theorem idiv (hx : p.tables.exec = Jvm.exec) {pc pc' : Nat} {Ls : Array Slot} {x y : Int32} {rest : List Value} (hd : decode c.code pc = .ok (.idiv, 1)) (hp : pc + 1 = pc') (hy : y ≠ 0) (K : Goes p l e R s m args below meth c n0 mc ms Fn h k n (mkF m pc' Ls (.int (x / y) :: rest))) : Goes p l e R s m args below meth c n0 mc ms Fn h k n (mkF m pc Ls (.int y :: .int x :: rest)) := by
  subst hp; exact K.pure fun T locs t X hs => XS.idiv X.here hx rfl hd rfl hy hs
theorem irem (hx : p.tables.exec = Jvm.exec) {pc pc' : Nat} {Ls : Array Slot} {x y : Int32} {rest : List Value} (hd : decode c.code pc = .ok (.irem, 1)) (hp : pc + 1 = pc') (hy : y ≠ 0) (K : Goes p l e R s m args below meth c n0 mc ms Fn h k n (mkF m pc' Ls (.int (x % y) :: rest))) : Goes p l e R s m args below meth c n0 mc ms Fn h k n (mkF m pc Ls (.int y :: .int x :: rest)) := by
  subst hp; exact K.pure fun T locs t X hs => iremM X hx rfl hd rfl hy hs
theorem ldiv (hx : p.tables.exec = Jvm.exec) {pc pc' : Nat} {Ls : Array Slot} {x y : Int64} {rest : List Value} (hd : decode c.code pc = .ok (.ldiv, 1)) (hp : pc + 1 = pc') (hy : y ≠ 0) (K : Goes p l e R s m args below meth c n0 mc ms Fn h k n (mkF m pc' Ls (.long (x / y) :: rest))) : Goes p l e R s m args below meth c n0 mc ms Fn h k n (mkF m pc Ls (.long y :: .long x :: rest)) := by
  subst hp; exact K.pure fun T locs t X hs => XS.ldiv X.here hx rfl hd rfl hy hs
theorem lrem (hx : p.tables.exec = Jvm.exec) {pc pc' : Nat} {Ls : Array Slot} {x y : Int64} {rest : List Value} (hd : decode c.code pc = .ok (.lrem, 1)) (hp : pc + 1 = pc') (hy : y ≠ 0) (K : Goes p l e R s m args below meth c n0 mc ms Fn h k n (mkF m pc' Ls (.long (x % y) :: rest))) : Goes p l e R s m args below meth c n0 mc ms Fn h k n (mkF m pc Ls (.long y :: .long x :: rest)) := by
  subst hp; exact K.pure fun T locs t X hs => XS.lrem X.here hx rfl hd rfl hy (by rw [lrem_mod]; exact hs)
theorem ineg (hx : p.tables.exec = Jvm.exec) {pc pc' : Nat} {Ls : Array Slot} {x : Int32} {rest : List Value} (hd : decode c.code pc = .ok (.ineg, 1)) (hp : pc + 1 = pc') (K : Goes p l e R s m args below meth c n0 mc ms Fn h k n (mkF m pc' Ls (.int (-x) :: rest))) : Goes p l e R s m args below meth c n0 mc ms Fn h k n (mkF m pc Ls (.int x :: rest)) := by
  subst hp; exact K.pure fun T locs t X hs => XS.ineg X.here hx rfl hd rfl hs
theorem lneg (hx : p.tables.exec = Jvm.exec) {pc pc' : Nat} {Ls : Array Slot} {x : Int64} {rest : List Value} (hd : decode c.code pc = .ok (.lneg, 1)) (hp : pc + 1 = pc') (K : Goes p l e R s m args below meth c n0 mc ms Fn h k n (mkF m pc' Ls (.long (-x) :: rest))) : Goes p l e R s m args below meth c n0 mc ms Fn h k n (mkF m pc Ls (.long x :: rest)) := by
  subst hp; exact K.pure fun T locs t X hs => XS.lneg X.here hx rfl hd rfl hs
theorem i2l (hx : p.tables.exec = Jvm.exec) {pc pc' : Nat} {Ls : Array Slot} {x : Int32} {rest : List Value} (hd : decode c.code pc = .ok (.i2l, 1)) (hp : pc + 1 = pc') (K : Goes p l e R s m args below meth c n0 mc ms Fn h k n (mkF m pc' Ls (.long (x.toInt64) :: rest))) : Goes p l e R s m args below meth c n0 mc ms Fn h k n (mkF m pc Ls (.int x :: rest)) := by
  subst hp; exact K.pure fun T locs t X hs => XS.i2l X.here hx rfl hd rfl hs
theorem l2i (hx : p.tables.exec = Jvm.exec) {pc pc' : Nat} {Ls : Array Slot} {x : Int64} {rest : List Value} (hd : decode c.code pc = .ok (.l2i, 1)) (hp : pc + 1 = pc') (K : Goes p l e R s m args below meth c n0 mc ms Fn h k n (mkF m pc' Ls (.int (x.toInt32) :: rest))) : Goes p l e R s m args below meth c n0 mc ms Fn h k n (mkF m pc Ls (.long x :: rest)) := by
  subst hp; exact K.pure fun T locs t X hs => XS.l2i X.here hx rfl hd rfl hs
theorem i2b (hx : p.tables.exec = Jvm.exec) {pc pc' : Nat} {Ls : Array Slot} {x : Int32} {rest : List Value} (hd : decode c.code pc = .ok (.i2b, 1)) (hp : pc + 1 = pc') (K : Goes p l e R s m args below meth c n0 mc ms Fn h k n (mkF m pc' Ls (.int (x.toInt8.toInt32) :: rest))) : Goes p l e R s m args below meth c n0 mc ms Fn h k n (mkF m pc Ls (.int x :: rest)) := by
  subst hp; exact K.pure fun T locs t X hs => XS.i2b X.here hx rfl hd rfl hs
theorem i2s (hx : p.tables.exec = Jvm.exec) {pc pc' : Nat} {Ls : Array Slot} {x : Int32} {rest : List Value} (hd : decode c.code pc = .ok (.i2s, 1)) (hp : pc + 1 = pc') (K : Goes p l e R s m args below meth c n0 mc ms Fn h k n (mkF m pc' Ls (.int (x.toInt16.toInt32) :: rest))) : Goes p l e R s m args below meth c n0 mc ms Fn h k n (mkF m pc Ls (.int x :: rest)) := by
  subst hp; exact K.pure fun T locs t X hs => XS.i2s X.here hx rfl hd rfl hs
theorem i2c (hx : p.tables.exec = Jvm.exec) {pc pc' : Nat} {Ls : Array Slot} {x : Int32} {rest : List Value} (hd : decode c.code pc = .ok (.i2c, 1)) (hp : pc + 1 = pc') (K : Goes p l e R s m args below meth c n0 mc ms Fn h k n (mkF m pc' Ls (.int (x.toUInt32.toUInt16.toUInt32.toInt32) :: rest))) : Goes p l e R s m args below meth c n0 mc ms Fn h k n (mkF m pc Ls (.int x :: rest)) := by
  subst hp; exact K.pure fun T locs t X hs => XS.i2c X.here hx rfl hd rfl hs
theorem iload (hx : p.tables.exec = Jvm.exec) {pc pc' i : Nat} {Ls : Array Slot} (x : Int32) {rest : List Value} (hd : decode c.code pc = .ok (.iload i, 2)) (hp : pc + 2 = pc') (hl : Ls[i]? = some (.val (.int x))) (K : Goes p l e R s m args below meth c n0 mc ms Fn h k n (mkF m pc' Ls (.int x :: rest))) : Goes p l e R s m args below meth c n0 mc ms Fn h k n (mkF m pc Ls rest) := by
  subst hp; exact K.pure fun T locs t X hs => XS.iload X.here hx rfl hd hl hs
theorem iloadN (hx : p.tables.exec = Jvm.exec) {pc pc' : Nat} {i : Fin 4} {Ls : Array Slot} (x : Int32) {rest : List Value} (hd : decode c.code pc = .ok (.iload_n i, 1)) (hp : pc + 1 = pc') (hl : Ls[i.val]? = some (.val (.int x))) (K : Goes p l e R s m args below meth c n0 mc ms Fn h k n (mkF m pc' Ls (.int x :: rest))) : Goes p l e R s m args below meth c n0 mc ms Fn h k n (mkF m pc Ls rest) := by
  subst hp; exact K.pure fun T locs t X hs => XS.iloadN X.here hx rfl hd hl hs
theorem lload (hx : p.tables.exec = Jvm.exec) {pc pc' i : Nat} {Ls : Array Slot} (x : Int64) {rest : List Value} (hd : decode c.code pc = .ok (.lload i, 2)) (hp : pc + 2 = pc') (hl : Ls[i]? = some (.val (.long x))) (K : Goes p l e R s m args below meth c n0 mc ms Fn h k n (mkF m pc' Ls (.long x :: rest))) : Goes p l e R s m args below meth c n0 mc ms Fn h k n (mkF m pc Ls rest) := by
  subst hp; exact K.pure fun T locs t X hs => XS.lload X.here hx rfl hd hl hs
theorem lloadN (hx : p.tables.exec = Jvm.exec) {pc pc' : Nat} {i : Fin 4} {Ls : Array Slot} (x : Int64) {rest : List Value} (hd : decode c.code pc = .ok (.lload_n i, 1)) (hp : pc + 1 = pc') (hl : Ls[i.val]? = some (.val (.long x))) (K : Goes p l e R s m args below meth c n0 mc ms Fn h k n (mkF m pc' Ls (.long x :: rest))) : Goes p l e R s m args below meth c n0 mc ms Fn h k n (mkF m pc Ls rest) := by
  subst hp; exact K.pure fun T locs t X hs => XS.lloadN X.here hx rfl hd hl hs
theorem aload (hx : p.tables.exec = Jvm.exec) {pc pc' i : Nat} {Ls : Array Slot} (x : Value) {rest : List Value} (hd : decode c.code pc = .ok (.aload i, 2)) (hp : pc + 2 = pc') (hl : Ls[i]? = some (.val x)) (hv : x.isRef = true) (K : Goes p l e R s m args below meth c n0 mc ms Fn h k n (mkF m pc' Ls (x :: rest))) : Goes p l e R s m args below meth c n0 mc ms Fn h k n (mkF m pc Ls rest) := by
  subst hp; exact K.pure fun T locs t X hs => XS.aload X.here hx rfl hd hl hv hs
theorem aloadN (hx : p.tables.exec = Jvm.exec) {pc pc' : Nat} {i : Fin 4} {Ls : Array Slot} (x : Value) {rest : List Value} (hd : decode c.code pc = .ok (.aload_n i, 1)) (hp : pc + 1 = pc') (hl : Ls[i.val]? = some (.val x)) (hv : x.isRef = true) (K : Goes p l e R s m args below meth c n0 mc ms Fn h k n (mkF m pc' Ls (x :: rest))) : Goes p l e R s m args below meth c n0 mc ms Fn h k n (mkF m pc Ls rest) := by
  subst hp; exact K.pure fun T locs t X hs => XS.aloadN X.here hx rfl hd hl hv hs
theorem istore (hx : p.tables.exec = Jvm.exec) {pc pc' i : Nat} {Ls : Array Slot} {x : Int32} (z : Int32) (hz : z = x) {rest : List Value} (Ls' : Array Slot) (hd : decode c.code pc = .ok (.istore i, 2)) (hp : pc + 2 = pc') (hl : storeLocals Ls i (.int z) = some Ls') (K : Goes p l e R s m args below meth c n0 mc ms Fn h k n (mkF m pc' Ls' rest)) : Goes p l e R s m args below meth c n0 mc ms Fn h k n (mkF m pc Ls (.int x :: rest)) := by
  subst hp hz; exact K.pure fun T locs t X hs => XS.istore X.here hx rfl hd rfl hl hs
theorem istoreN (hx : p.tables.exec = Jvm.exec) {pc pc' : Nat} {i : Fin 4} {Ls : Array Slot} {x : Int32} (z : Int32) (hz : z = x) {rest : List Value} (Ls' : Array Slot) (hd : decode c.code pc = .ok (.istore_n i, 1)) (hp : pc + 1 = pc') (hl : storeLocals Ls i.val (.int z) = some Ls') (K : Goes p l e R s m args below meth c n0 mc ms Fn h k n (mkF m pc' Ls' rest)) : Goes p l e R s m args below meth c n0 mc ms Fn h k n (mkF m pc Ls (.int x :: rest)) := by
  subst hp hz; exact K.pure fun T locs t X hs => XS.istoreN X.here hx rfl hd rfl hl hs
theorem lstore (hx : p.tables.exec = Jvm.exec) {pc pc' i : Nat} {Ls : Array Slot} {x : Int64} (z : Int64) (hz : z = x) {rest : List Value} (Ls' : Array Slot) (hd : decode c.code pc = .ok (.lstore i, 2)) (hp : pc + 2 = pc') (hl : storeLocals Ls i (.long z) = some Ls') (K : Goes p l e R s m args below meth c n0 mc ms Fn h k n (mkF m pc' Ls' rest)) : Goes p l e R s m args below meth c n0 mc ms Fn h k n (mkF m pc Ls (.long x :: rest)) := by
  subst hp hz; exact K.pure fun T locs t X hs => XS.lstore X.here hx rfl hd rfl hl hs
theorem lstoreN (hx : p.tables.exec = Jvm.exec) {pc pc' : Nat} {i : Fin 4} {Ls : Array Slot} {x : Int64} (z : Int64) (hz : z = x) {rest : List Value} (Ls' : Array Slot) (hd : decode c.code pc = .ok (.lstore_n i, 1)) (hp : pc + 1 = pc') (hl : storeLocals Ls i.val (.long z) = some Ls') (K : Goes p l e R s m args below meth c n0 mc ms Fn h k n (mkF m pc' Ls' rest)) : Goes p l e R s m args below meth c n0 mc ms Fn h k n (mkF m pc Ls (.long x :: rest)) := by
  subst hp hz; exact K.pure fun T locs t X hs => XS.lstoreN X.here hx rfl hd rfl hl hs
theorem astore (hx : p.tables.exec = Jvm.exec) {pc pc' i : Nat} {Ls : Array Slot} {x : Value} {rest : List Value} (Ls' : Array Slot) (hd : decode c.code pc = .ok (.astore i, 2)) (hp : pc + 2 = pc') (hv : x.isRef = true) (hl : storeLocals Ls i x = some Ls') (K : Goes p l e R s m args below meth c n0 mc ms Fn h k n (mkF m pc' Ls' rest)) : Goes p l e R s m args below meth c n0 mc ms Fn h k n (mkF m pc Ls (x :: rest)) := by
  subst hp; exact K.pure fun T locs t X hs => XS.astore X.here hx rfl hd rfl hv hl hs
theorem astoreN (hx : p.tables.exec = Jvm.exec) {pc pc' : Nat} {i : Fin 4} {Ls : Array Slot} {x : Value} {rest : List Value} (Ls' : Array Slot) (hd : decode c.code pc = .ok (.astore_n i, 1)) (hp : pc + 1 = pc') (hv : x.isRef = true) (hl : storeLocals Ls i.val x = some Ls') (K : Goes p l e R s m args below meth c n0 mc ms Fn h k n (mkF m pc' Ls' rest)) : Goes p l e R s m args below meth c n0 mc ms Fn h k n (mkF m pc Ls (x :: rest)) := by
  subst hp; exact K.pure fun T locs t X hs => XS.astoreN X.here hx rfl hd rfl hv hl hs
theorem iinc (hx : p.tables.exec = Jvm.exec) {pc pc' i : Nat} {ct : Int} {Ls : Array Slot} {x : Int32} (z : Int32) {rest : List Value} (Ls' : Array Slot) (hd : decode c.code pc = .ok (.iinc i ct, 3)) (hp : pc + 3 = pc') (hl : Ls[i]? = some (.val (.int x))) (hz : z = x + Int32.ofInt ct) (hl' : storeLocals Ls i (.int z) = some Ls') (K : Goes p l e R s m args below meth c n0 mc ms Fn h k n (mkF m pc' Ls' rest)) : Goes p l e R s m args below meth c n0 mc ms Fn h k n (mkF m pc Ls rest) := by
  subst hp hz; exact K.pure fun T locs t X hs => XS.iinc X.here hx rfl hd hl hl' hs
theorem iconst (hx : p.tables.exec = Jvm.exec) {pc pc' : Nat} {i : Int} {Ls : Array Slot} (z : Int32) {rest : List Value} (hd : decode c.code pc = .ok (.iconst i, 1)) (hp : pc + 1 = pc') (hz : Int32.ofInt i = z) (K : Goes p l e R s m args below meth c n0 mc ms Fn h k n (mkF m pc' Ls (.int z :: rest))) : Goes p l e R s m args below meth c n0 mc ms Fn h k n (mkF m pc Ls rest) := by
  subst hp hz; exact K.pure fun T locs t X hs => XS.iconst X.here hx rfl hd hs
theorem bipush (hx : p.tables.exec = Jvm.exec) {pc pc' : Nat} {i : Int} {Ls : Array Slot} (z : Int32) {rest : List Value} (hd : decode c.code pc = .ok (.bipush i, 2)) (hp : pc + 2 = pc') (hz : (Int8.ofInt i).toInt32 = z) (K : Goes p l e R s m args below meth c n0 mc ms Fn h k n (mkF m pc' Ls (.int z :: rest))) : Goes p l e R s m args below meth c n0 mc ms Fn h k n (mkF m pc Ls rest) := by
  subst hp hz; exact K.pure fun T locs t X hs => XS.bipush X.here hx rfl hd hs
theorem sipush (hx : p.tables.exec = Jvm.exec) {pc pc' : Nat} {i : Int} {Ls : Array Slot} (z : Int32) {rest : List Value} (hd : decode c.code pc = .ok (.sipush i, 3)) (hp : pc + 3 = pc') (hz : (Int16.ofInt i).toInt32 = z) (K : Goes p l e R s m args below meth c n0 mc ms Fn h k n (mkF m pc' Ls (.int z :: rest))) : Goes p l e R s m args below meth c n0 mc ms Fn h k n (mkF m pc Ls rest) := by
  subst hp hz; exact K.pure fun T locs t X hs => XS.sipush X.here hx rfl hd hs
theorem lconst (hx : p.tables.exec = Jvm.exec) {pc pc' : Nat} {i : Fin 2} {Ls : Array Slot} (z : Int64) {rest : List Value} (hd : decode c.code pc = .ok (.lconst i, 1)) (hp : pc + 1 = pc') (hz : Int64.ofNat i = z) (K : Goes p l e R s m args below meth c n0 mc ms Fn h k n (mkF m pc' Ls (.long z :: rest))) : Goes p l e R s m args below meth c n0 mc ms Fn h k n (mkF m pc Ls rest) := by
  subst hp hz; exact K.pure fun T locs t X hs => XS.lconst X.here hx rfl hd hs
theorem aconstNull (hx : p.tables.exec = Jvm.exec) {pc pc' : Nat} {Ls : Array Slot} {rest : List Value} (hd : decode c.code pc = .ok (.aconst_null, 1)) (hp : pc + 1 = pc') (K : Goes p l e R s m args below meth c n0 mc ms Fn h k n (mkF m pc' Ls (.null :: rest))) : Goes p l e R s m args below meth c n0 mc ms Fn h k n (mkF m pc Ls rest) := by
  subst hp; exact K.pure fun T locs t X hs => XS.aconstNull X.here hx rfl hd hs
theorem dup (hx : p.tables.exec = Jvm.exec) {pc pc' : Nat} {Ls : Array Slot} {x : Value} {rest : List Value} (hd : decode c.code pc = .ok (.dup, 1)) (hp : pc + 1 = pc') (hc : x.category = 1) (K : Goes p l e R s m args below meth c n0 mc ms Fn h k n (mkF m pc' Ls (x :: x :: rest))) : Goes p l e R s m args below meth c n0 mc ms Fn h k n (mkF m pc Ls (x :: rest)) := by
  subst hp; exact K.pure fun T locs t X hs => XS.dup X.here hx rfl hd rfl hc hs
theorem pop (hx : p.tables.exec = Jvm.exec) {pc pc' : Nat} {Ls : Array Slot} {x : Value} {rest : List Value} (hd : decode c.code pc = .ok (.pop, 1)) (hp : pc + 1 = pc') (hc : x.category = 1) (K : Goes p l e R s m args below meth c n0 mc ms Fn h k n (mkF m pc' Ls rest)) : Goes p l e R s m args below meth c n0 mc ms Fn h k n (mkF m pc Ls (x :: rest)) := by
  subst hp; exact K.pure fun T locs t X hs => XS.pop X.here hx rfl hd rfl hc hs
theorem dupX1 (hx : p.tables.exec = Jvm.exec) {pc pc' : Nat} {Ls : Array Slot} {x y : Value} {rest : List Value} (hd : decode c.code pc = .ok (.dup_x1, 1)) (hp : pc + 1 = pc') (hc : x.category = 1) (hc' : y.category = 1) (K : Goes p l e R s m args below meth c n0 mc ms Fn h k n (mkF m pc' Ls (x :: y :: x :: rest))) : Goes p l e R s m args below meth c n0 mc ms Fn h k n (mkF m pc Ls (x :: y :: rest)) := by
  subst hp; exact K.pure fun T locs t X hs => XS.dupX1 X.here hx rfl hd rfl hc hc' hs
theorem dup2 (hx : p.tables.exec = Jvm.exec) {pc pc' : Nat} {Ls : Array Slot} {x y : Value} {rest : List Value} (hd : decode c.code pc = .ok (.dup2, 1)) (hp : pc + 1 = pc') (hc : x.category = 1) (hc' : y.category = 1) (K : Goes p l e R s m args below meth c n0 mc ms Fn h k n (mkF m pc' Ls (x :: y :: x :: y :: rest))) : Goes p l e R s m args below meth c n0 mc ms Fn h k n (mkF m pc Ls (x :: y :: rest)) := by
  subst hp; exact K.pure fun T locs t X hs => XT.dup2 X.here hx rfl hd rfl hc hc' hs
theorem dup2L (hx : p.tables.exec = Jvm.exec) {pc pc' : Nat} {Ls : Array Slot} {x : Int64} {rest : List Value} (hd : decode c.code pc = .ok (.dup2, 1)) (hp : pc + 1 = pc') (K : Goes p l e R s m args below meth c n0 mc ms Fn h k n (mkF m pc' Ls (.long x :: .long x :: rest))) : Goes p l e R s m args below meth c n0 mc ms Fn h k n (mkF m pc Ls (.long x :: rest)) := by
  subst hp; exact K.pure fun T locs t X hs => XT.dup2L X.here hx rfl hd rfl hs
theorem goto (hx : p.tables.exec = Jvm.exec) {pc pc' : Nat} {o : Int} {Ls : Array Slot} {st : List Value} (hd : decode c.code pc = .ok (.goto o, 3)) (ho : 0 ≤ (pc : Int) + o) (hp : ((pc : Int) + o).toNat = pc') (K : Goes p l e R s m args below meth c n0 mc ms Fn h k n (mkF m pc' Ls st)) : Goes p l e R s m args below meth c n0 mc ms Fn h k n (mkF m pc Ls st) :=
  K.pure fun T locs t X hs => XS.goto X.here hx rfl rfl hd ho hp hs
theorem ifF (hx : p.tables.exec = Jvm.exec) {Pr : Prop} [Decidable Pr] {cd : ClassFile.Cond} {x : Int32} (hq : ifCond.holds cd x = decide Pr) {pc pcN pcT : Nat} {o : Int} {Ls : Array Slot} {rest : List Value} (hd : decode c.code pc = .ok (.ifCond cd o, 3)) (hn : pc + 3 = pcN) (ho : 0 ≤ (pc : Int) + o) (hp : ((pc : Int) + o).toNat = pcT)
    (KT : Pr → Goes p l e R s m args below meth c n0 mc ms Fn h k n (mkF m pcT Ls rest)) (KN : ¬ Pr → Goes p l e R s m args below meth c n0 mc ms Fn h k n (mkF m pcN Ls rest)) : Goes p l e R s m args below meth c n0 mc ms Fn h k n (mkF m pc Ls (.int x :: rest)) := by
  subst hn
  by_cases hP : Pr
  · exact (KT hP).pure fun T locs t X hs => XS.ifYes X.here hx rfl rfl hd rfl (by rw [hq]; exact decide_eq_true hP) ho hp hs
  · exact (KN hP).pure fun T locs t X hs => XS.ifNo X.here hx rfl hd rfl (by rw [hq]; exact decide_eq_false hP) hs
theorem icmpF (hx : p.tables.exec = Jvm.exec) {Pr : Prop} [Decidable Pr] {cd : ClassFile.Cond} {x y : Int32} (hq : if_icmp.holds cd x y = decide Pr) {pc pcN pcT : Nat} {o : Int} {Ls : Array Slot} {rest : List Value} (hd : decode c.code pc = .ok (.if_icmp cd o, 3)) (hn : pc + 3 = pcN) (ho : 0 ≤ (pc : Int) + o) (hp : ((pc : Int) + o).toNat = pcT)
    (KT : Pr → Goes p l e R s m args below meth c n0 mc ms Fn h k n (mkF m pcT Ls rest)) (KN : ¬ Pr → Goes p l e R s m args below meth c n0 mc ms Fn h k n (mkF m pcN Ls rest)) : Goes p l e R s m args below meth c n0 mc ms Fn h k n (mkF m pc Ls (.int y :: .int x :: rest)) := by
  subst hn
  by_cases hP : Pr
  · exact (KT hP).pure fun T locs t X hs => XS.icmpYes X.here hx rfl rfl hd rfl (by rw [hq]; exact decide_eq_true hP) ho hp hs
  · exact (KN hP).pure fun T locs t X hs => XS.icmpNo X.here hx rfl hd rfl (by rw [hq]; exact decide_eq_false hP) hs
theorem ifFn (hx : p.tables.exec = Jvm.exec) {Pr : Prop} [Decidable Pr] {cd : ClassFile.Cond} {x : Int32} (hq : ifCond.holds cd x = decide (¬ Pr)) {pc pcN pcT : Nat} {o : Int} {Ls : Array Slot} {rest : List Value} (hd : decode c.code pc = .ok (.ifCond cd o, 3)) (hn : pc + 3 = pcN) (ho : 0 ≤ (pc : Int) + o) (hp : ((pc : Int) + o).toNat = pcT)
    (KT : ¬ Pr → Goes p l e R s m args below meth c n0 mc ms Fn h k n (mkF m pcT Ls rest)) (KN : Pr → Goes p l e R s m args below meth c n0 mc ms Fn h k n (mkF m pcN Ls rest)) : Goes p l e R s m args below meth c n0 mc ms Fn h k n (mkF m pc Ls (.int x :: rest)) := ifF hx hq hd hn ho hp KT fun q => KN (Decidable.of_not_not q)
theorem icmpFn (hx : p.tables.exec = Jvm.exec) {Pr : Prop} [Decidable Pr] {cd : ClassFile.Cond} {x y : Int32} (hq : if_icmp.holds cd x y = decide (¬ Pr)) {pc pcN pcT : Nat} {o : Int} {Ls : Array Slot} {rest : List Value} (hd : decode c.code pc = .ok (.if_icmp cd o, 3)) (hn : pc + 3 = pcN) (ho : 0 ≤ (pc : Int) + o) (hp : ((pc : Int) + o).toNat = pcT)
    (KT : ¬ Pr → Goes p l e R s m args below meth c n0 mc ms Fn h k n (mkF m pcT Ls rest)) (KN : Pr → Goes p l e R s m args below meth c n0 mc ms Fn h k n (mkF m pcN Ls rest)) : Goes p l e R s m args below meth c n0 mc ms Fn h k n (mkF m pc Ls (.int y :: .int x :: rest)) := icmpF hx hq hd hn ho hp KT fun q => KN (Decidable.of_not_not q)
theorem q_eq (x y : Int32) : if_icmp.holds .eq x y = decide (x = y) := by by_cases q : x = y <;> simp [if_icmp.holds, q]
theorem q_ne (x y : Int32) : if_icmp.holds .ne x y = decide (¬ x = y) := by by_cases q : x = y <;> simp [if_icmp.holds, q]
theorem q_lt (x y : Int32) : if_icmp.holds .lt x y = decide (x < y) := by by_cases q : x < y <;> simp [q, (tlt ·), (flt ·)]
theorem q_ge (x y : Int32) : if_icmp.holds .ge x y = decide (¬ x < y) := by by_cases q : x < y <;> simp [q, (tlt ·), (flt ·)]
theorem q_gt (x y : Int32) : if_icmp.holds .gt x y = decide (y < x) := by by_cases q : y < x <;> simp [q, (tlt ·), (flt ·)]
theorem q_le (x y : Int32) : if_icmp.holds .le x y = decide (¬ y < x) := by by_cases q : y < x <;> simp [q, (tlt ·), (flt ·)]
theorem z_eq (x : Int32) : ifCond.holds .eq x = decide (x = 0) := (if0 _ _).trans (q_eq x 0)
theorem z_ne (x : Int32) : ifCond.holds .ne x = decide (¬ x = 0) := (if0 _ _).trans (q_ne x 0)
theorem z_lt (x : Int32) : ifCond.holds .lt x = decide (x < 0) := (if0 _ _).trans (q_lt x 0)
theorem z_ge (x : Int32) : ifCond.holds .ge x = decide (¬ x < 0) := (if0 _ _).trans (q_ge x 0)
theorem z_gt (x : Int32) : ifCond.holds .gt x = decide (0 < x) := (if0 _ _).trans (q_gt x 0)
theorem z_le (x : Int32) : ifCond.holds .le x = decide (¬ 0 < x) := (if0 _ _).trans (q_le x 0)
theorem w_eq (x y : Int64) : ifCond.holds .eq (lcmpW x y) = decide (x = y) := (z_eq _).trans (by simp only [lw_eq])
theorem w_ne (x y : Int64) : ifCond.holds .ne (lcmpW x y) = decide (¬ x = y) := (z_ne _).trans (by simp only [lw_eq])
theorem w_lt (x y : Int64) : ifCond.holds .lt (lcmpW x y) = decide (x < y) := (z_lt _).trans (by simp only [lw_lt])
theorem w_ge (x y : Int64) : ifCond.holds .ge (lcmpW x y) = decide (¬ x < y) := (z_ge _).trans (by simp only [lw_lt])
theorem w_gt (x y : Int64) : ifCond.holds .gt (lcmpW x y) = decide (y < x) := (z_gt _).trans (by simp only [lw_gt])
theorem w_le (x y : Int64) : ifCond.holds .le (lcmpW x y) = decide (¬ y < x) := (z_le _).trans (by simp only [lw_gt])
theorem ifnullN (hx : p.tables.exec = Jvm.exec) {pc pcN : Nat} {o : Int} {a : Addr} {Ls : Array Slot} {rest : List Value} (hd : decode c.code pc = .ok (.ifnull o, 3)) (hn : pc + 3 = pcN) (K : Goes p l e R s m args below meth c n0 mc ms Fn h k n (mkF m pcN Ls rest)) : Goes p l e R s m args below meth c n0 mc ms Fn h k n (mkF m pc Ls (.ref a :: rest)) := by
  subst hn; exact K.pure fun T locs t X hs => XS.ifnullNo X.here hx rfl hd rfl hs
theorem ifnullY (hx : p.tables.exec = Jvm.exec) {pc pcT : Nat} {o : Int} {Ls : Array Slot} {rest : List Value} (hd : decode c.code pc = .ok (.ifnull o, 3)) (ho : 0 ≤ (pc : Int) + o) (hp : ((pc : Int) + o).toNat = pcT) (K : Goes p l e R s m args below meth c n0 mc ms Fn h k n (mkF m pcT Ls rest)) : Goes p l e R s m args below meth c n0 mc ms Fn h k n (mkF m pc Ls (.null :: rest)) :=
  K.pure fun T locs t X hs => XS.ifnullYes X.here hx rfl rfl hd rfl ho hp hs
theorem ifnonnullN (hx : p.tables.exec = Jvm.exec) {pc pcN : Nat} {o : Int} {Ls : Array Slot} {rest : List Value} (hd : decode c.code pc = .ok (.ifnonnull o, 3)) (hn : pc + 3 = pcN) (K : Goes p l e R s m args below meth c n0 mc ms Fn h k n (mkF m pcN Ls rest)) : Goes p l e R s m args below meth c n0 mc ms Fn h k n (mkF m pc Ls (.null :: rest)) := by
  subst hn; exact K.pure fun T locs t X hs => XS.ifnonnullNo X.here hx rfl hd rfl hs
theorem ifnonnullY (hx : p.tables.exec = Jvm.exec) {pc pcT : Nat} {o : Int} {a : Addr} {Ls : Array Slot} {rest : List Value} (hd : decode c.code pc = .ok (.ifnonnull o, 3)) (ho : 0 ≤ (pc : Int) + o) (hp : ((pc : Int) + o).toNat = pcT) (K : Goes p l e R s m args below meth c n0 mc ms Fn h k n (mkF m pcT Ls rest)) : Goes p l e R s m args below meth c n0 mc ms Fn h k n (mkF m pc Ls (.ref a :: rest)) :=
  K.pure fun T locs t X hs => XS.ifnonnullYes X.here hx rfl rfl hd rfl ho hp hs
theorem ldc (hx : p.tables.exec = Jvm.exec) {Z : State} (hZ : Z.Warmed39 s.vm) {a0 : Array Value} {own : String} (hown : s.vm.findClass own = some m.cls) {pc pc' i : Nat} {Ls : Array Slot} (z : Int32) {rest : List Value} (hd : decode c.code pc = .ok (.ldc i, 2)) (hp : pc + 2 = pc') (w : (Jvm.Cond.constant own i z).before a0 Z = true) (K : Goes p l e R s m args below meth c n0 mc ms Fn h k n (mkF m pc' Ls (.int z :: rest))) : Goes p l e R s m args below meth c n0 mc ms Fn h k n (mkF m pc Ls rest) := by
  subst hp; exact K.pure fun T locs t X hs => X.ldcInt hx hown (mvT hZ w) (g := mkF m pc Ls rest) rfl hd t hs
theorem ldc2 (hx : p.tables.exec = Jvm.exec) {Z : State} (hZ : Z.Warmed39 s.vm) {a0 : Array Value} {own : String} (hown : s.vm.findClass own = some m.cls) {pc pc' i : Nat} {Ls : Array Slot} (z : Int64) {rest : List Value} (hd : decode c.code pc = .ok (.ldc2_w i, 3)) (hp : pc + 3 = pc') (w : (Jvm.Cond.constantLong own i z).before a0 Z = true) (K : Goes p l e R s m args below meth c n0 mc ms Fn h k n (mkF m pc' Ls (.long z :: rest))) : Goes p l e R s m args below meth c n0 mc ms Fn h k n (mkF m pc Ls rest) := by
  subst hp; exact K.pure fun T locs t X hs => X.ldc2Long hx hown (mvT hZ w) (g := mkF m pc Ls rest) rfl hd t hs
/-- the end of a walk -/
theorem endOf {v : Option Value} {g : JFrame} (hlk : meth.locks = false) (hv : meth.sig.returnType = none → v = none)
    (st : ∀ (T : State) (locs : List Loc) (fs : List Frame), Stand p l e R s m args below meth c T locs k n → (∀ (f : JFrame) (acts : List Action), f.method = m → f.locked = none → f.entered = [] → (doReturn e (T.setTop f) acts v).1 = T.setFrames fs) → Steps p.tables e below (T.setTop g) (T.setFrames fs))
    (hk : k ≤ mc) (hn : n ≤ ms) (hF : Fn v h) : Goes p l e R s m args below meth c n0 mc ms Fn h k n g := fun T locs X N eT => by
  obtain ⟨fs, hr, hrun, hended, hW, hsame⟩ := X.leave hv hlk
  refine ⟨_, _, st T locs fs X hr, hrun, hended, v, locs, rfl, ⟨?_, N⟩, ⟨_, rfl⟩, hW, hsame.mono hk hn⟩
  show Fn v T.heap
  rw [eT]; exact hF
theorem retI (hx : p.tables.exec = Jvm.exec) (hret : meth.sig.returnType = some .int) (hlk : meth.locks = false) {pc : Nat} {Ls : Array Slot} {z : Int32} {rest : List Value} (hd : decode c.code pc = .ok (.ireturn, 1)) (hk : k ≤ mc) (hn : n ≤ ms) (hF : Fn (some (.int z)) h) : Goes p l e R s m args below meth c n0 mc ms Fn h k n (mkF m pc Ls (.int z :: rest)) :=
  endOf hlk (fun q => by rw [hret] at q; cases q) (fun T locs fs X hr => retOut X hx hret rfl (Or.inl ⟨rfl, Or.inl rfl, _, rfl⟩) hd hr) hk hn hF
theorem retL (hx : p.tables.exec = Jvm.exec) (hret : meth.sig.returnType = some .long) (hlk : meth.locks = false) {pc : Nat} {Ls : Array Slot} {z : Int64} {rest : List Value} (hd : decode c.code pc = .ok (.lreturn, 1)) (hk : k ≤ mc) (hn : n ≤ ms) (hF : Fn (some (.long z)) h) : Goes p l e R s m args below meth c n0 mc ms Fn h k n (mkF m pc Ls (.long z :: rest)) :=
  endOf hlk (fun q => by rw [hret] at q; cases q) (fun T locs fs X hr => retOut X hx hret rfl (Or.inr (Or.inl ⟨rfl, rfl, _, rfl⟩)) hd hr) hk hn hF
theorem retA (hx : p.tables.exec = Jvm.exec) {ty : FieldType} (hret : meth.sig.returnType = some ty) (hty : ty.isReference = true) (hlk : meth.locks = false) {pc : Nat} {Ls : Array Slot} {w : Value} {rest : List Value} (hw : w.isRef = true) (hnr : narrow ty w = w) (hd : decode c.code pc = .ok (.areturn, 1)) (hk : k ≤ mc) (hn : n ≤ ms) (hF : Fn (some w) h) : Goes p l e R s m args below meth c n0 mc ms Fn h k n (mkF m pc Ls (w :: rest)) :=
  endOf hlk (fun q => by rw [hret] at q; cases q) (fun T locs fs X hr => retOut X hx hret hnr (Or.inr (Or.inr (Or.inr (Or.inr ⟨rfl, hty, hw⟩)))) hd hr) hk hn hF
theorem retS (hx : p.tables.exec = Jvm.exec) {ty : FieldType} (hret : meth.sig.returnType = some ty) (hty : ty = .boolean ∨ ty = .byte ∨ ty = .char ∨ ty = .short) (hlk : meth.locks = false) {pc : Nat} {Ls : Array Slot} {z : Int32} {rest : List Value} (hd : decode c.code pc = .ok (.ireturn, 1)) (hk : k ≤ mc) (hn : n ≤ ms) (hF : Fn (some (.int (nar ty z))) h) : Goes p l e R s m args below meth c n0 mc ms Fn h k n (mkF m pc Ls (.int z :: rest)) :=
  endOf hlk (fun q => by rw [hret] at q; cases q) (fun T locs fs X hr => retN X hx hret hty hd hr) hk hn hF
theorem retV (hx : p.tables.exec = Jvm.exec) (hret : meth.sig.returnType = none) (hlk : meth.locks = false) {pc : Nat} {Ls : Array Slot} (hd : decode c.code pc = .ok (.return_, 1)) (hk : k ≤ mc) (hn : n ≤ ms) (hF : Fn none h) : Goes p l e R s m args below meth c n0 mc ms Fn h k n (mkF m pc Ls []) :=
  endOf hlk (fun _ => rfl) (fun T locs fs X hr => X.returnOut hx hret hd hr) hk hn hF
/-- a static method by its contract -/
theorem callS (hx : p.tables.exec = Jvm.exec) {Z : State} (hZ : Z.Warmed39 s.vm) {a0 : Array Value} {own : String} (hown : s.vm.findClass own = some m.cls) {i : Nat} {y : MethodName} {bytes : ByteArray} {maxL : Nat} {ret : Option FieldType} {rm : Room} {F : Option Value → Heap → Prop} {argsL rest : List Value}
    (w1 : (Jvm.Cond.methodLink own i y).before a0 Z = true) (w2 : (Jvm.Cond.static y).before a0 Z = true) (w3 : (Jvm.Cond.initialized y.cls).before a0 Z = true) (w4 : (Jvm.Cond.code y bytes maxL ret).before a0 Z = true) (hy : y.cls ≠ "java/lang/invoke/MethodHandle" ∧ y.cls ≠ "java/lang/invoke/VarHandle")
    {sg : ClassFile.MethodDescriptor} (hsg : parseMethodDescriptor y.desc = some sg) (hlen : argsL.length = sg.parameters.length) {pc pc' : Nat} {Ls : Array Slot} {W : Nat} (hW : (rest.map fun v => v.category).sum ≤ W) (hf : rm.frames + 1 ≤ R.frames) (hl : W + (maxL + 11) + rm.locals ≤ R.locals) (hcl : k + rm.cells ≤ R.cells) (hsl : n + rm.slots ≤ R.slots)
    {k' n' : Nat} (hk' : k + rm.cells = k') (hn' : n + rm.slots = n') (hml : Ls.size = c.maxLocals) (st : List Value) (hst : st = argsL.reverse ++ rest) (hd : decode c.code pc = .ok (.invokestatic i, 3)) (hp : pc + 3 = pc') (D : Does l y bytes maxL ret [] rm Z argsL.toArray h n0 F)
    (K : ∀ v h', F v h' → Goes p l e R s m args below meth c n0 mc ms Fn h' k' n' (mkF m pc' Ls (v.toList ++ rest))) : Goes p l e R s m args below meth c n0 mc ms Fn h k n (mkF m pc Ls st) := fun T locs X N eT => by
  subst hp hst hk' hn'
  obtain ⟨v, _, ⟨T', L', k', n'⟩, -, X', ⟨Lc, hQ, l1, y1, z1⟩, st⟩ := Jvm.LawKit.callS X hx (y := y) hown (mvT hZ w1) (mvT hZ w2) (mvT hZ w3) (mvT hZ w4) hy (backOf (W := W) (Q := fun v h' L => F v h' ∧ Fr n0 L) D hZ w4 w3 hf hl) (g := mkF m pc Ls (argsL.reverse ++ rest)) rfl hml (argsL := argsL) (rest := rest) (lenOf hsg hlen) rfl (by show 2 * 0 + _ ≤ _; omega) hd (fun _ _ => ⟨rfl, eT, hcl, hsl⟩)
  dsimp only [Pt.U, Pt.locs, Pt.cells, Pt.slots] at X' l1 y1 z1 st hQ
  subst l1 y1 z1
  obtain ⟨s₂, o, hs, r⟩ := K v T'.heap hQ.1 T' _ X' (N.app hQ.2) rfl
  exact ⟨s₂, o, st _ hs, r⟩
theorem vI {x : Int32} (z : Int32) (q : x = z) {pc : Nat} {Ls : Array Slot} {rest : List Value} (K : Goes p l e R s m args below meth c n0 mc ms Fn h k n (mkF m pc Ls (.int z :: rest))) : Goes p l e R s m args below meth c n0 mc ms Fn h k n (mkF m pc Ls (.int x :: rest)) := by subst q; exact K
theorem vL {x : Int64} (z : Int64) (q : x = z) {pc : Nat} {Ls : Array Slot} {rest : List Value} (K : Goes p l e R s m args below meth c n0 mc ms Fn h k n (mkF m pc Ls (.long z :: rest))) : Goes p l e R s m args below meth c n0 mc ms Fn h k n (mkF m pc Ls (.long x :: rest)) := by subst q; exact K
theorem bool1 {z : Int32} (q : z = 1) : (some (Value.int (nar .boolean z)) : Option Value) = some (.int 1) := by subst q; rfl
end Eng
end Own
namespace Own
section EngH
def FldC (Z : State) (C nm d : String) (v : Value) (cell : Cell) : Prop := ∃ (cf : ClassId) (kk : Class) (i : Nat) (f : Field), Z.fieldFound? C nm d = some (cf, kk, i, f) ∧ f.isStatic = false ∧ cell.vm ≠ .unknown ∧ cell.vm.isStatics = false ∧ Z.vm.assignable cell.cls cf = true ∧ cell.slots[f.slot]? = some v
def ExaC (Z : State) (C : String) (cell : Cell) : Prop := ∃ kk : Class, Z.vm.findClass C = some cell.cls ∧ Z.vm.classes[cell.cls]? = some kk ∧ cell.vm.isStatics = false ∧ (kk.kind = .ordinary → cell.slots.size = kk.instanceTypes.size)
/-- an object of just the class C with these fields (declaring class, name, descriptor) at these values -/
def ObjC (Z : State) (C : String) (fs : List ((String × String × String) × Value)) (cell : Cell) : Prop := ExaC Z C cell ∧ (∀ f ∈ fs, FldC Z f.1.1 f.1.2.1 f.1.2.2 f.2 cell) ∧ (fs.map fun f => Jvm.RoadKit.slotOf Z f.1.1 f.1.2.1 f.1.2.2).Nodup
/-- an array of the kind ty with these values -/
def ArrC (Z : State) (ty : FieldType) (vs : List Value) (cell : Cell) : Prop := Z.isArrayOf cell ty ∧ cell.vm ≠ .unknown ∧ cell.slots.toList = vs ∧ ∀ v ∈ vs, fits ty v = true
/-- the cells at these places, all at or above n0 and unlike, are as said -/
def Owns (n0 : Nat) (h : Heap) (os : List (Addr × (Cell → Prop))) : Prop := n0 ≤ h.size ∧ (os.map Prod.fst).Nodup ∧ ∀ o ∈ os, n0 ≤ o.1 ∧ ∃ cell, h[o.1]? = some cell ∧ o.2 cell
variable {p : Program} {l : Launch} {e : Env} {R : Room} {s : State} {m : MethodId} {args : Array Value} {below : List Frame} {meth : Method} {c : Code} {n0 mc ms : Nat} {Fn : Option Value → Heap → Prop} {h h' : Heap} {k n : Nat} {Z : State} {a0 : Array Value} {os : List (Addr × (Cell → Prop))} {a : Addr}
theorem Owns.nil (q : n0 ≤ h.size) : Owns n0 h [] := ⟨q, List.nodup_nil, fun _ z => nomatch z⟩
theorem Owns.at (O : Owns n0 h os) {i : Nat} {P : Cell → Prop} (hi : os[i]? = some (a, P)) : n0 ≤ a ∧ ∃ cell, h[a]? = some cell ∧ P cell := O.2.2 (a, P) (List.mem_of_getElem? hi)
theorem Owns.lt (O : Owns n0 h os) {o : Addr × (Cell → Prop)} (ho : o ∈ os) : o.1 < h.size := by obtain ⟨-, cell, q, -⟩ := O.2.2 o ho; exact (Array.getElem?_eq_some_iff.mp q).1
theorem Owns.push {P : Cell → Prop} (O : Owns n0 h os) (E : Ext h h') (q : ∃ cell, h'[h.size]? = some cell ∧ P cell) : Owns n0 h' ((h.size, P) :: os) := by
  refine ⟨Nat.le_trans O.1 E.1, ?_, ?_⟩
  · rw [List.map_cons, List.nodup_cons]
    refine ⟨fun z => ?_, O.2.1⟩
    obtain ⟨o, ho, e1⟩ := List.mem_map.mp z
    exact absurd (O.lt ho) (by rw [e1]; exact Nat.lt_irrefl _)
  · intro o ho
    rcases List.mem_cons.mp ho with rfl | ho
    · exact ⟨O.1, q⟩
    · obtain ⟨q1, cell, q2, q3⟩ := O.2.2 o ho
      exact ⟨q1, cell, E.2 _ _ q2, q3⟩
theorem nodup_at {os : List (Addr × (Cell → Prop))} (hN : (os.map Prod.fst).Nodup) {i j : Nat} {P Q : Cell → Prop} (hi : os[i]? = some (a, P)) (hj : os[j]? = some (a, Q)) : i = j := by
  have h1 : (os.map Prod.fst)[i]? = some a := by rw [List.getElem?_map, hi]; rfl
  have h2 : (os.map Prod.fst)[j]? = some a := by rw [List.getElem?_map, hj]; rfl
  obtain ⟨l1, e1⟩ := List.getElem?_eq_some_iff.mp h1
  obtain ⟨l2, e2⟩ := List.getElem?_eq_some_iff.mp h2
  exact (List.getElem_inj hN).mp (e1.trans e2.symm)
/-- the cell at one owned place is another one now; all others stay -/
theorem Owns.upd {P P' : Cell → Prop} (O : Owns n0 h os) {i : Nat} (hi : os[i]? = some (a, P)) (hs : h.size ≤ h'.size) (ho : ∀ x cell, h[x]? = some cell → x ≠ a → h'[x]? = some cell) (ha : ∃ cell, h'[a]? = some cell ∧ P' cell) : Owns n0 h' (os.set i (a, P')) := by
  have hlt : i < os.length := (List.getElem?_eq_some_iff.mp hi).1
  refine ⟨Nat.le_trans O.1 hs, ?_, ?_⟩
  · have e1 : (os.set i (a, P')).map Prod.fst = os.map Prod.fst := by
      rw [List.map_set]
      refine List.ext_getElem? fun j => ?_
      rw [List.getElem?_set]
      split
      · next q => subst q; rw [List.getElem?_map, hi]; simp [hlt]
      · rfl
    rw [e1]; exact O.2.1
  · intro o hm
    obtain ⟨j, hj⟩ := List.getElem?_of_mem hm
    rw [List.getElem?_set] at hj
    split at hj
    · simp only [hlt, if_true, Option.some.injEq] at hj
      subst hj
      exact ⟨(O.at hi).1, ha⟩
    · next q =>
      obtain ⟨oa, oP⟩ := o
      obtain ⟨q1, cell, q2, q3⟩ := O.at hj
      refine ⟨q1, cell, ho _ _ q2 fun z => ?_, q3⟩
      subst z
      exact q (nodup_at O.2.1 hi hj)
theorem wr_get {sl : Nat} {v : Value} (W : Wr h h' a sl v) : h.size ≤ h'.size ∧ (∀ x cell, h[x]? = some cell → x ≠ a → h'[x]? = some cell) ∧ ∀ cell, h[a]? = some cell → h'[a]? = some (cell.setSlot sl v) := by
  obtain ⟨cell, h1, h2, h3, rfl⟩ := W
  refine ⟨by simp, fun x cx hx hne => ?_, fun c' hc' => ?_⟩
  · rw [Array.getElem?_setIfInBounds_ne (Ne.symm hne)]; exact hx
  · cases h1.symm.trans hc'
    have := (Array.getElem?_eq_some_iff.mp h1).1
    simp [this]
theorem Owns.wr {P P' : Cell → Prop} {sl : Nat} {v : Value} (O : Owns n0 h os) {i : Nat} (hi : os[i]? = some (a, P)) (W : Wr h h' a sl v) (q : ∀ cell, P cell → P' (cell.setSlot sl v)) : Owns n0 h' (os.set i (a, P')) := by
  obtain ⟨w1, w2, w3⟩ := wr_get W
  obtain ⟨-, cell, q1, q2⟩ := O.at hi
  exact O.upd hi w1 w2 ⟨_, w3 _ q1, q _ q2⟩
/-- the i-th object is brought to the front -/
theorem Owns.pick (O : Owns n0 h os) (i : Nat) {o : Addr × (Cell → Prop)} (hi : os[i]? = some o) : Owns n0 h (o :: os.eraseIdx i) := by
  have hlt : i < os.length := (List.getElem?_eq_some_iff.mp hi).1
  have hp : os.Perm (o :: os.eraseIdx i) := by
    have h2 : os[i] = o := (List.getElem?_eq_some_iff.mp hi).2
    have h3 : os = os.take i ++ o :: os.drop (i + 1) := by rw [← h2, List.getElem_cons_drop, List.take_append_drop]
    rw [List.eraseIdx_eq_take_drop_succ]
    conv => lhs; rw [h3]
    exact List.perm_middle
  exact ⟨O.1, (hp.map Prod.fst).nodup_iff.mp O.2.1, fun z hz => O.2.2 z (hp.mem_iff.mpr hz)⟩
theorem Owns.cast {os' : List (Addr × (Cell → Prop))} (O : Owns n0 h os) (q : os = os') : Owns n0 h os' := q ▸ O
theorem Owns.tail {o : Addr × (Cell → Prop)} (O : Owns n0 h (o :: os)) : Owns n0 h os := ⟨O.1, by have h1 := O.2.1; rw [List.map_cons, List.nodup_cons] at h1; exact h1.2, fun z hz => O.2.2 z (List.mem_cons_of_mem _ hz)⟩
theorem fld_of {C nm d : String} {v : Value} {cell : Cell} (q : h[a]? = some cell) (F : FldC Z C nm d v cell) : Fld Z h a C nm d v := by obtain ⟨cf, kk, i, f, r⟩ := F; exact ⟨cell, cf, kk, i, f, q, r⟩
theorem exa_of {C : String} {cell : Cell} (q : h[a]? = some cell) (F : ExaC Z C cell) : Exa Z h a C := by obtain ⟨kk, r⟩ := F; exact ⟨cell, kk, q, r⟩
theorem fldC_of {C nm d : String} {v : Value} {cell : Cell} (q : h[a]? = some cell) (F : Fld Z h a C nm d v) : FldC Z C nm d v cell := by obtain ⟨c', cf, kk, i, f, q', r⟩ := F; cases q.symm.trans q'; exact ⟨cf, kk, i, f, r⟩
theorem exaC_of {C : String} {cell : Cell} (q : h[a]? = some cell) (F : Exa Z h a C) : ExaC Z C cell := by obtain ⟨c', kk, q', r⟩ := F; cases q.symm.trans q'; exact ⟨kk, r⟩
theorem Owns.fld {C : String} {fs : List ((String × String × String) × Value)} (O : Owns n0 h os) {i j : Nat} (hi : os[i]? = some (a, ObjC Z C fs)) {C' nm d : String} {v : Value} (hj : fs[j]? = some ((C', nm, d), v)) : Fld Z h a C' nm d v := by
  obtain ⟨-, cell, q1, q2⟩ := O.at hi
  exact fld_of q1 (q2.2.1 _ (List.mem_of_getElem? hj))
theorem Owns.exa {C : String} {fs : List ((String × String × String) × Value)} (O : Owns n0 h os) {i : Nat} (hi : os[i]? = some (a, ObjC Z C fs)) : Exa Z h a C := by
  obtain ⟨-, cell, q1, q2⟩ := O.at hi
  exact exa_of q1 q2.1
theorem getfield (hx : p.tables.exec = Jvm.exec) (hZ : Z.Warmed39 s.vm) {own : String} (hown : s.vm.findClass own = some m.cls) (O : Owns n0 h os) (i j : Nat) {C C' nm d : String} {fs : List ((String × String × String) × Value)} (hi : os[i]? = some (a, ObjC Z C fs)) {v : Value} (hj : fs[j]? = some ((C', nm, d), v))
    {pc pc' idx : Nat} {Ls : Array Slot} {rest : List Value} (w : (Jvm.Cond.fieldLink own idx C' nm d).before a0 Z = true) (hd : decode c.code pc = .ok (.getfield idx, 3)) (hp : pc + 3 = pc') (K : Goes p l e R s m args below meth c n0 mc ms Fn h k n (mkF m pc' Ls (v :: rest))) : Goes p l e R s m args below meth c n0 mc ms Fn h k n (mkF m pc Ls (.ref a :: rest)) := by
  subst hp
  refine Goes.move (Pr := fun h' => h' = h) (k' := k) (n' := n) (g' := mkF m (pc + 3) Ls (v :: rest)) (fun T locs X N eT => ?_) (fun h' q => by rw [q]; exact K)
  obtain ⟨T', X', e', st⟩ := getF X hx hZ hown (host := "") (Or.inl w) Via.refl eT (O.fld hi hj) (g := mkF m pc Ls (.ref a :: rest)) rfl rfl hd
  exact ⟨T', locs, X', N, e', st⟩
theorem obj_set {C : String} {fs : List ((String × String × String) × Value)} {j : Nat} {C' nm d : String} {old v : Value} (hj : fs[j]? = some ((C', nm, d), old)) {cell : Cell} (q : ObjC Z C fs cell) : ObjC Z C (fs.set j ((C', nm, d), v)) (cell.setSlot (Jvm.RoadKit.slotOf Z C' nm d) v) := by
  obtain ⟨q1, q2, q3⟩ := q
  have hq : (#[cell] : Heap)[0]? = some cell := rfl
  have F0 := q2 _ (List.mem_of_getElem? hj)
  have hst : cell.vm.isStatics = false := by obtain ⟨_, _, _, _, _, _, _, r, _⟩ := F0; exact r
  have hsl : Jvm.RoadKit.slotOf Z C' nm d < cell.slots.size := by
    obtain ⟨cf, kk, i, f, r1, -, -, -, -, r2⟩ := F0
    have e1 : Jvm.RoadKit.slotOf Z C' nm d = f.slot := by simp [Jvm.RoadKit.slotOf, r1]
    rw [e1]; exact (Array.getElem?_eq_some_iff.mp r2).1
  have W : Wr #[cell] #[cell.setSlot (Jvm.RoadKit.slotOf Z C' nm d) v] 0 (Jvm.RoadKit.slotOf Z C' nm d) v := ⟨cell, hq, hst, hsl, by simp⟩
  have hq' : (#[cell.setSlot (Jvm.RoadKit.slotOf Z C' nm d) v] : Heap)[0]? = some (cell.setSlot (Jvm.RoadKit.slotOf Z C' nm d) v) := rfl
  have hlt : j < fs.length := (List.getElem?_eq_some_iff.mp hj).1
  have hslots : (fs.set j ((C', nm, d), v)).map (fun f => Jvm.RoadKit.slotOf Z f.1.1 f.1.2.1 f.1.2.2) = fs.map (fun f => Jvm.RoadKit.slotOf Z f.1.1 f.1.2.1 f.1.2.2) := by
    rw [List.map_set]
    refine List.ext_getElem? fun i => ?_
    rw [List.getElem?_set]
    split
    · next z => subst z; rw [List.getElem?_map, hj]; simp [hlt]
    · rfl
  refine ⟨exaC_of hq' ((exa_of hq q1).wr W), fun f hf => ?_, by rw [hslots]; exact q3⟩
  obtain ⟨i, hi⟩ := List.getElem?_of_mem hf
  rw [List.getElem?_set] at hi
  split at hi
  · simp only [hlt, if_true, Option.some.injEq] at hi
    subst hi
    exact fldC_of hq' ((fld_of hq F0).same W)
  · next z =>
    refine fldC_of hq' ((fld_of hq (q2 f (List.mem_of_getElem? hi))).other W (Or.inr fun y => z ?_))
    have h1 : (fs.map (fun f => Jvm.RoadKit.slotOf Z f.1.1 f.1.2.1 f.1.2.2))[i]? = some (Jvm.RoadKit.slotOf Z f.1.1 f.1.2.1 f.1.2.2) := by rw [List.getElem?_map, hi]; rfl
    have h2 : (fs.map (fun f => Jvm.RoadKit.slotOf Z f.1.1 f.1.2.1 f.1.2.2))[j]? = some (Jvm.RoadKit.slotOf Z C' nm d) := by rw [List.getElem?_map, hj]; rfl
    obtain ⟨l1, e1⟩ := List.getElem?_eq_some_iff.mp h1
    obtain ⟨l2, e2⟩ := List.getElem?_eq_some_iff.mp h2
    exact ((List.getElem_inj q3).mp (e1.trans (y.trans e2.symm))).symm
theorem putfield (hx : p.tables.exec = Jvm.exec) (hZ : Z.Warmed39 s.vm) {own : String} (hown : s.vm.findClass own = some m.cls) (O : Owns n0 h os) (i j : Nat) {C C' nm d : String} {fs : List ((String × String × String) × Value)} (hi : os[i]? = some (a, ObjC Z C fs)) {old v : Value} (hj : fs[j]? = some ((C', nm, d), old))
    {pc pc' idx kk : Nat} {Ls : Array Slot} {rest : List Value} (w : (Jvm.Cond.fieldLink own idx C' nm d).before a0 Z = true) (L : (Jvm.Cond.lays C C' nm d).before a0 Z = true ∨ ((Jvm.Cond.laysFinal C C' nm d).before a0 Z = true ∧ own = C' ∧ meth.name = "<init>")) (wi : (Jvm.Cond.instantiable C kk).before a0 Z = true)
    {ty : FieldType} (hty : parseFieldDescriptor d = some ty) (hnr : narrow ty v = v) (hf : fits ty v = true) (os' : List (Addr × (Cell → Prop))) (hos : os.set i (a, ObjC Z C (fs.set j ((C', nm, d), v))) = os')
    (hd : decode c.code pc = .ok (.putfield idx, 3)) (hp : pc + 3 = pc') (K : ∀ h', Owns n0 h' os' → Goes p l e R s m args below meth c n0 mc ms Fn h' k n (mkF m pc' Ls rest)) : Goes p l e R s m args below meth c n0 mc ms Fn h k n (mkF m pc Ls (v :: .ref a :: rest)) := by
  subst hp hos
  refine Goes.move (Pr := fun h' => Owns n0 h' (os.set i (a, ObjC Z C (fs.set j ((C', nm, d), v))))) (fun T locs X N eT => ?_) K
  obtain ⟨T', h', X', e', W, st⟩ := putF X hx hZ hown (host := "") (Or.inl w) Via.refl eT (O.fld hi hj) (O.exa hi) L wi hty hnr hf (g := mkF m pc Ls (v :: .ref a :: rest)) rfl rfl hd
  exact ⟨T', _, X', Fr.snoc X' N (O.at hi).1, by rw [e']; exact O.wr hi W fun cell q => obj_set hj q, st⟩
theorem nodup_slots {C : String} : ∀ {fs : List ((String × String × String) × Value)}, (∀ f ∈ fs, Laid Z a0 C f.1.1 f.1.2.1 f.1.2.2 ∧ ∃ ty, parseFieldDescriptor f.1.2.2 = some ty ∧ defaultValue ty = f.2) → (fs.map fun f => f.1.2.1).Nodup → (fs.map fun f => Jvm.RoadKit.slotOf Z f.1.1 f.1.2.1 f.1.2.2).Nodup
  | [], _, _ => List.nodup_nil
  | f :: fs, hL, hN => by
    rw [List.map_cons, List.nodup_cons] at hN ⊢
    refine ⟨fun z => ?_, nodup_slots (fun g hg => hL g (List.mem_cons_of_mem _ hg)) hN.2⟩
    obtain ⟨g, hg, e1⟩ := List.mem_map.mp z
    obtain ⟨L1, d1⟩ := hL f List.mem_cons_self
    obtain ⟨L2, d2⟩ := hL g (List.mem_cons_of_mem _ hg)
    obtain ⟨t1, t1', -⟩ := d1
    obtain ⟨t2, t2', -⟩ := d2
    exact slot_ne L1 L2 (fun q => hN.1 (List.mem_map.mpr ⟨g, hg, q.symm⟩)) t1' t2' e1.symm
theorem newobj (hx : p.tables.exec = Jvm.exec) (hZ : Z.Warmed39 s.vm) {own : String} (hown : s.vm.findClass own = some m.cls) (O : Owns n0 h os) {C : String} {idx kk : Nat} (w1 : (Jvm.Cond.classLink own idx C).before a0 Z = true) (w2 : (Jvm.Cond.instantiable C kk).before a0 Z = true) (w3 : (Jvm.Cond.initialized C).before a0 Z = true)
    (fs : List ((String × String × String) × Value)) (hL : ∀ f ∈ fs, Laid Z a0 C f.1.1 f.1.2.1 f.1.2.2 ∧ ∃ ty, parseFieldDescriptor f.1.2.2 = some ty ∧ defaultValue ty = f.2) (hN : (fs.map fun f => f.1.2.1).Nodup) {k' n' : Nat} (hk' : k + 1 = k') (hn' : n + kk = n') (hc : k' ≤ R.cells) (hl : n' ≤ R.slots)
    {pc pc' : Nat} {Ls : Array Slot} {rest : List Value} (hd : decode c.code pc = .ok (.new idx, 3)) (hp : pc + 3 = pc') (K : ∀ a h', Owns n0 h' ((a, ObjC Z C fs) :: os) → Goes p l e R s m args below meth c n0 mc ms Fn h' k' n' (mkF m pc' Ls (.ref a :: rest))) : Goes p l e R s m args below meth c n0 mc ms Fn h k n (mkF m pc Ls rest) := by
  subst hp hk' hn'
  refine Goes.move (Pr := fun h' => Owns n0 h' ((h.size, ObjC Z C fs) :: os)) (fun T locs X N eT => ?_) (fun h' q => K _ _ q)
  obtain ⟨T', h', X', e', E, A, D, ⟨cell, q1, -, -⟩, st⟩ := newO X hx hZ hown w1 w2 w3 eT (g := mkF m pc Ls rest) rfl hd hc hl
  refine ⟨T', locs, X', N, ?_, st⟩
  rw [e']
  refine O.push E ⟨cell, q1, exaC_of q1 A, fun f hf => ?_, nodup_slots hL hN⟩
  obtain ⟨L1, d1⟩ := hL f hf
  obtain ⟨t1, t1', t1''⟩ := d1
  have := D L1 t1'
  rw [t1''] at this
  exact fldC_of q1 this
theorem idx_ok {j : Int32} {i len : Nat} (hj : j.toInt = (i : Int)) (hi : i < len) : ¬ (j < 0 ∨ len ≤ j.toNatClampNeg) ∧ j.toNatClampNeg = i := by
  have h0 : ¬ j < 0 := fun q => by have := Int32.lt_iff_toInt_lt.mp q; rw [hj] at this; have h1 : (0 : Int32).toInt = 0 := by decide
                                   omega
  have h1 : j.toNatClampNeg = i := by have := nat_of h0; omega
  exact ⟨fun q => by rcases q with q | q
                     · exact h0 q
                     · omega, h1⟩
theorem newarr (hx : p.tables.exec = Jvm.exec) (hZ : Z.Warmed39 s.vm) (O : Owns n0 h os) {aty : ArrayType} (w : (Jvm.Cond.arrayClass (newarray.typeOf aty)).before a0 Z = true) {z : Int32} (len : Nat) (hz : z.toInt = (len : Int)) (vs : List Value) (hvs : List.replicate len (defaultValue (newarray.typeOf aty)) = vs) (hfit : fits (newarray.typeOf aty) (defaultValue (newarray.typeOf aty)) = true) {cap : Nat} (hcap : len ≤ cap) (hbg : cap * 8 ≤ 536870912) {k' n' : Nat} (hk' : k + 1 = k') (hn' : n + cap = n') (hc : k' ≤ R.cells) (hl : n' ≤ R.slots)
    {pc pc' : Nat} {Ls : Array Slot} {rest : List Value} (hd : decode c.code pc = .ok (.newarray aty, 2)) (hp : pc + 2 = pc') (K : ∀ a h', Owns n0 h' ((a, ArrC Z (newarray.typeOf aty) vs) :: os) → Goes p l e R s m args below meth c n0 mc ms Fn h' k' n' (mkF m pc' Ls (.ref a :: rest))) : Goes p l e R s m args below meth c n0 mc ms Fn h k n (mkF m pc Ls (.int z :: rest)) := by
  subst hp hk' hn' hvs
  have hz0 : ¬ z < 0 := fun q => by have := Int32.lt_iff_toInt_lt.mp q; rw [hz] at this; have h1 : (0 : Int32).toInt = 0 := by decide
                                    omega
  have hz1 : z.toNatClampNeg = len := by have := nat_of hz0; omega
  refine Goes.move (Pr := fun h' => Owns n0 h' ((h.size, ArrC Z (newarray.typeOf aty) (List.replicate len (defaultValue (newarray.typeOf aty)))) :: os)) (fun T locs X N eT => ?_) (fun h' q => K _ _ q)
  obtain ⟨T', h', cA, X', e', E, A, st⟩ := newP X hx hZ w eT (g := mkF m pc Ls (.int z :: rest)) rfl hd rfl hz0 (cap := cap) (by omega) hbg hc hl
  refine ⟨T', locs, X', N, ?_, st⟩
  rw [e']
  refine O.push E ⟨_, A.1, A.2.1, A.2.2, by simp [newA, hz1], fun v hv => ?_⟩
  rw [(List.mem_replicate.mp hv).2]; exact hfit
theorem arrlen (hx : p.tables.exec = Jvm.exec) (hZ : Z.Warmed39 s.vm) (O : Owns n0 h os) (i : Nat) {ty : FieldType} {vs : List Value} (hi : os[i]? = some (a, ArrC Z ty vs)) (z : Int32) (hz : vs.length.toInt32 = z) {pc pc' : Nat} {Ls : Array Slot} {rest : List Value} (hd : decode c.code pc = .ok (.arraylength, 1)) (hp : pc + 1 = pc')
    (K : Goes p l e R s m args below meth c n0 mc ms Fn h k n (mkF m pc' Ls (.int z :: rest))) : Goes p l e R s m args below meth c n0 mc ms Fn h k n (mkF m pc Ls (.ref a :: rest)) := fun T locs X N eT => by
  subst hp hz
  obtain ⟨-, cell, q1, q2, q3, q4, q5⟩ := O.at hi
  obtain ⟨s₂, o, hs, r⟩ := K T locs X N eT
  refine ⟨s₂, o, ?_, r⟩
  refine X.arraylength hx (by rw [eT]; exact q1) (State.isArrayOf_alike hZ.alike q2) (g := mkF m pc Ls (.ref a :: rest)) rfl rfl hd _ ?_
  have e1 : cell.slots.size = vs.length := by rw [← q4, Array.length_toList]
  rw [e1]; exact hs
theorem iaload (hx : p.tables.exec = Jvm.exec) (hZ : Z.Warmed39 s.vm) (O : Owns n0 h os) (i j : Nat) {vs : List Value} (hi : os[i]? = some (a, ArrC Z .int vs)) {jj : Int32} (hj : jj.toInt = (j : Int)) {v : Value} (hv : vs[j]? = some v) {pc pc' : Nat} {Ls : Array Slot} {rest : List Value} (hd : decode c.code pc = .ok (.iaload, 1)) (hp : pc + 1 = pc')
    (K : Goes p l e R s m args below meth c n0 mc ms Fn h k n (mkF m pc' Ls (v :: rest))) : Goes p l e R s m args below meth c n0 mc ms Fn h k n (mkF m pc Ls (.int jj :: .ref a :: rest)) := fun T locs X N eT => by
  subst hp
  obtain ⟨-, cell, q1, q2, q3, q4, q5⟩ := O.at hi
  have e1 : cell.slots.size = vs.length := by rw [← q4, Array.length_toList]
  obtain ⟨hin, hjn⟩ := idx_ok hj (len := cell.slots.size) (by rw [e1]; exact (List.getElem?_eq_some_iff.mp hv).1)
  obtain ⟨s₂, o, hs, r⟩ := K T locs X N eT
  refine ⟨s₂, o, X.iaload hx (by rw [eT]; exact q1) (State.isArrayOf_alike hZ.alike q2) q3 hin (by rw [hjn, ← Array.getElem?_toList, q4]; exact hv) (g := mkF m pc Ls (.int jj :: .ref a :: rest)) rfl rfl hd _ hs, r⟩
theorem laload (hx : p.tables.exec = Jvm.exec) (hZ : Z.Warmed39 s.vm) (O : Owns n0 h os) (i j : Nat) {vs : List Value} (hi : os[i]? = some (a, ArrC Z .long vs)) {jj : Int32} (hj : jj.toInt = (j : Int)) {v : Value} (hv : vs[j]? = some v) {pc pc' : Nat} {Ls : Array Slot} {rest : List Value} (hd : decode c.code pc = .ok (.laload, 1)) (hp : pc + 1 = pc')
    (K : Goes p l e R s m args below meth c n0 mc ms Fn h k n (mkF m pc' Ls (v :: rest))) : Goes p l e R s m args below meth c n0 mc ms Fn h k n (mkF m pc Ls (.int jj :: .ref a :: rest)) := fun T locs X N eT => by
  subst hp
  obtain ⟨-, cell, q1, q2, q3, q4, q5⟩ := O.at hi
  have e1 : cell.slots.size = vs.length := by rw [← q4, Array.length_toList]
  obtain ⟨hin, hjn⟩ := idx_ok hj (len := cell.slots.size) (by rw [e1]; exact (List.getElem?_eq_some_iff.mp hv).1)
  obtain ⟨s₂, o, hs, r⟩ := K T locs X N eT
  refine ⟨s₂, o, X.laload hx (by rw [eT]; exact q1) (State.isArrayOf_alike hZ.alike q2) q3 hin (by rw [hjn, ← Array.getElem?_toList, q4]; exact hv) (g := mkF m pc Ls (.int jj :: .ref a :: rest)) rfl rfl hd _ hs, r⟩
theorem caload (hx : p.tables.exec = Jvm.exec) (hZ : Z.Warmed39 s.vm) (O : Owns n0 h os) (i j : Nat) {vs : List Value} (hi : os[i]? = some (a, ArrC Z .char vs)) {jj : Int32} (hj : jj.toInt = (j : Int)) {v : Value} (hv : vs[j]? = some v) {pc pc' : Nat} {Ls : Array Slot} {rest : List Value} (hd : decode c.code pc = .ok (.caload, 1)) (hp : pc + 1 = pc')
    (K : Goes p l e R s m args below meth c n0 mc ms Fn h k n (mkF m pc' Ls (v :: rest))) : Goes p l e R s m args below meth c n0 mc ms Fn h k n (mkF m pc Ls (.int jj :: .ref a :: rest)) := fun T locs X N eT => by
  subst hp
  obtain ⟨-, cell, q1, q2, q3, q4, q5⟩ := O.at hi
  have e1 : cell.slots.size = vs.length := by rw [← q4, Array.length_toList]
  obtain ⟨hin, hjn⟩ := idx_ok hj (len := cell.slots.size) (by rw [e1]; exact (List.getElem?_eq_some_iff.mp hv).1)
  obtain ⟨s₂, o, hs, r⟩ := K T locs X N eT
  refine ⟨s₂, o, X.caload hx (by rw [eT]; exact q1) (State.isArrayOf_alike hZ.alike q2) q3 hin (by rw [hjn, ← Array.getElem?_toList, q4]; exact hv) (g := mkF m pc Ls (.int jj :: .ref a :: rest)) rfl rfl hd _ hs, r⟩
theorem iastore (hx : p.tables.exec = Jvm.exec) (hZ : Z.Warmed39 s.vm) (O : Owns n0 h os) (i j : Nat) {vs : List Value} (hi : os[i]? = some (a, ArrC Z .int vs)) {jj : Int32} (hj : jj.toInt = (j : Int)) (hv : j < vs.length) {x : Int32} (os' : List (Addr × (Cell → Prop))) (hos : os.set i (a, ArrC Z .int (vs.set j (.int x))) = os') {pc pc' : Nat} {Ls : Array Slot} {rest : List Value} (hd : decode c.code pc = .ok (.iastore, 1)) (hp : pc + 1 = pc')
    (K : ∀ h', Owns n0 h' os' → Goes p l e R s m args below meth c n0 mc ms Fn h' k n (mkF m pc' Ls rest)) : Goes p l e R s m args below meth c n0 mc ms Fn h k n (mkF m pc Ls (.int x :: .int jj :: .ref a :: rest)) := by
  subst hp hos
  refine Goes.move (Pr := fun h' => Owns n0 h' (os.set i (a, ArrC Z .int (vs.set j (.int x))))) (fun T locs X N eT => ?_) K
  obtain ⟨q0, cell, q1, q2, q3, q4, q5⟩ := O.at hi
  have e1 : cell.slots.size = vs.length := by rw [← q4, Array.length_toList]
  obtain ⟨hin, hjn⟩ := idx_ok hj (len := cell.slots.size) (by rw [e1]; exact hv)
  obtain ⟨T', h', X', e', W, st'⟩ := stI X hx hZ eT ⟨q1, q2, q3⟩ hin (g := mkF m pc Ls (.int x :: .int jj :: .ref a :: rest)) rfl rfl hd
  refine ⟨T', _, X', Fr.snoc X' N q0, ?_, st'⟩
  rw [e']
  rw [hjn] at W
  obtain ⟨w1, w2, w3⟩ := wr_get W
  exact O.upd hi w1 w2 ⟨_, w3 _ q1, q2, q3, by simp [Cell.setSlot, Array.toList_setIfInBounds, q4], fun v hv' => by
    rcases List.mem_or_eq_of_mem_set hv' with z | z
    · exact q5 v z
    · rw [z]; exact rfl⟩
theorem lastore (hx : p.tables.exec = Jvm.exec) (hZ : Z.Warmed39 s.vm) (O : Owns n0 h os) (i j : Nat) {vs : List Value} (hi : os[i]? = some (a, ArrC Z .long vs)) {jj : Int32} (hj : jj.toInt = (j : Int)) (hv : j < vs.length) {x : Int64} (os' : List (Addr × (Cell → Prop))) (hos : os.set i (a, ArrC Z .long (vs.set j (.long x))) = os') {pc pc' : Nat} {Ls : Array Slot} {rest : List Value} (hd : decode c.code pc = .ok (.lastore, 1)) (hp : pc + 1 = pc')
    (K : ∀ h', Owns n0 h' os' → Goes p l e R s m args below meth c n0 mc ms Fn h' k n (mkF m pc' Ls rest)) : Goes p l e R s m args below meth c n0 mc ms Fn h k n (mkF m pc Ls (.long x :: .int jj :: .ref a :: rest)) := by
  subst hp hos
  refine Goes.move (Pr := fun h' => Owns n0 h' (os.set i (a, ArrC Z .long (vs.set j (.long x))))) (fun T locs X N eT => ?_) K
  obtain ⟨q0, cell, q1, q2, q3, q4, q5⟩ := O.at hi
  have e1 : cell.slots.size = vs.length := by rw [← q4, Array.length_toList]
  obtain ⟨hin, hjn⟩ := idx_ok hj (len := cell.slots.size) (by rw [e1]; exact hv)
  obtain ⟨T', h', X', e', W, st'⟩ := stJ X hx hZ eT ⟨q1, q2, q3⟩ hin (g := mkF m pc Ls (.long x :: .int jj :: .ref a :: rest)) rfl rfl hd
  refine ⟨T', _, X', Fr.snoc X' N q0, ?_, st'⟩
  rw [e']
  rw [hjn] at W
  obtain ⟨w1, w2, w3⟩ := wr_get W
  exact O.upd hi w1 w2 ⟨_, w3 _ q1, q2, q3, by simp [Cell.setSlot, Array.toList_setIfInBounds, q4], fun v hv' => by
    rcases List.mem_or_eq_of_mem_set hv' with z | z
    · exact q5 v z
    · rw [z]; exact rfl⟩
theorem castore (hx : p.tables.exec = Jvm.exec) (hZ : Z.Warmed39 s.vm) (O : Owns n0 h os) (i j : Nat) {vs : List Value} (hi : os[i]? = some (a, ArrC Z .char vs)) {jj : Int32} (hj : jj.toInt = (j : Int)) (hv : j < vs.length) {x : Int32} (os' : List (Addr × (Cell → Prop))) (hos : os.set i (a, ArrC Z .char (vs.set j (.int (nar .char x)))) = os') {pc pc' : Nat} {Ls : Array Slot} {rest : List Value} (hd : decode c.code pc = .ok (.castore, 1)) (hp : pc + 1 = pc')
    (K : ∀ h', Owns n0 h' os' → Goes p l e R s m args below meth c n0 mc ms Fn h' k n (mkF m pc' Ls rest)) : Goes p l e R s m args below meth c n0 mc ms Fn h k n (mkF m pc Ls (.int x :: .int jj :: .ref a :: rest)) := by
  subst hp hos
  refine Goes.move (Pr := fun h' => Owns n0 h' (os.set i (a, ArrC Z .char (vs.set j (.int (nar .char x)))))) (fun T locs X N eT => ?_) K
  obtain ⟨q0, cell, q1, q2, q3, q4, q5⟩ := O.at hi
  have e1 : cell.slots.size = vs.length := by rw [← q4, Array.length_toList]
  obtain ⟨hin, hjn⟩ := idx_ok hj (len := cell.slots.size) (by rw [e1]; exact hv)
  obtain ⟨T', h', X', e', W, st'⟩ := stC X hx hZ eT ⟨q1, q2, q3⟩ hin (g := mkF m pc Ls (.int x :: .int jj :: .ref a :: rest)) rfl rfl hd
  refine ⟨T', _, X', Fr.snoc X' N q0, ?_, st'⟩
  rw [e']
  rw [hjn] at W
  obtain ⟨w1, w2, w3⟩ := wr_get W
  exact O.upd hi w1 w2 ⟨_, w3 _ q1, q2, q3, by simp [Cell.setSlot, Array.toList_setIfInBounds, q4], fun v hv' => by
    rcases List.mem_or_eq_of_mem_set hv' with z | z
    · exact q5 v z
    · rw [z]; exact fits_nar_char x⟩
theorem initobj (hx : p.tables.exec = Jvm.exec) (hZ : Z.Warmed39 s.vm) {own : String} (hown : s.vm.findClass own = some m.cls) {idx : Nat} (w1 : (Jvm.Cond.methodLink own idx Lib.objectInit).before a0 Z = true) (w2 : (Jvm.Cond.instanceMethod Lib.objectInit).before a0 Z = true) (w3 : (Jvm.Cond.code Lib.objectInit ⟨#[0xb1]⟩ 1 none).before a0 Z = true)
    {pc pc' : Nat} {Ls : Array Slot} {rest : List Value} (hml : Ls.size = c.maxLocals) {W : Nat} (hW : (rest.map fun v => v.category).sum ≤ W) (hf : 1 ≤ R.frames) (hl : W + 12 ≤ R.locals) (hd : decode c.code pc = .ok (.invokespecial idx, 3)) (hp : pc + 3 = pc') (K : Goes p l e R s m args below meth c n0 mc ms Fn h k n (mkF m pc' Ls rest)) : Goes p l e R s m args below meth c n0 mc ms Fn h k n (mkF m pc Ls (.ref a :: rest)) := by
  subst hp
  refine Goes.move (Pr := fun h' => h' = h) (k' := k) (n' := n) (g' := mkF m (pc + 3) Ls rest) (fun T locs X N eT => ?_) (fun h' q => by rw [q]; exact K)
  obtain ⟨T', X', e', st⟩ := initO X hx hZ hown w1 w2 w3 eT (g := mkF m pc Ls (.ref a :: rest)) rfl hml rfl hd hf (W := W) (by show 2 * 0 + _ ≤ _; omega) hl
  exact ⟨T', locs, X', N, e', st⟩
/-- a constructor by its contract -/
theorem callI (hx : p.tables.exec = Jvm.exec) (hZ : Z.Warmed39 s.vm) {own : String} (hown : s.vm.findClass own = some m.cls) {i : Nat} {y : MethodName} (hyn : y.name = "<init>") {bytes : ByteArray} {maxL : Nat} {rm : Room} {F : Option Value → Heap → Prop} {argsL rest : List Value}
    (w1 : (Jvm.Cond.methodLink own i y).before a0 Z = true) (w2 : (Jvm.Cond.instanceMethod y).before a0 Z = true) (w3 : (Jvm.Cond.initialized y.cls).before a0 Z = true) (w4 : (Jvm.Cond.code y bytes maxL none).before a0 Z = true) (hy : y.cls ≠ "java/lang/invoke/MethodHandle" ∧ y.cls ≠ "java/lang/invoke/VarHandle")
    {sg : ClassFile.MethodDescriptor} (hsg : parseMethodDescriptor y.desc = some sg) (hlen : argsL.length = sg.parameters.length) {pc pc' : Nat} {Ls : Array Slot} {W : Nat} (hW : (rest.map fun v => v.category).sum ≤ W) (hf : rm.frames + 1 ≤ R.frames) (hl : W + (maxL + 11) + rm.locals ≤ R.locals) (hcl : k + rm.cells ≤ R.cells) (hsl : n + rm.slots ≤ R.slots)
    {k' n' : Nat} (hk' : k + rm.cells = k') (hn' : n + rm.slots = n') (hml : Ls.size = c.maxLocals) (st : List Value) (hst : st = argsL.reverse ++ .ref a :: rest) (hd : decode c.code pc = .ok (.invokespecial i, 3)) (hp : pc + 3 = pc') (D : Does l y bytes maxL none [] rm Z (.ref a :: argsL).toArray h n0 F)
    (K : ∀ v h', F v h' → Goes p l e R s m args below meth c n0 mc ms Fn h' k' n' (mkF m pc' Ls (v.toList ++ rest))) : Goes p l e R s m args below meth c n0 mc ms Fn h k n (mkF m pc Ls st) := fun T locs X N eT => by
  subst hp hst hk' hn'
  obtain ⟨v, _, ⟨T', L', k', n'⟩, -, X', ⟨Lc, hQ, l1, y1, z1⟩, st⟩ := X.specialBack hx (y := y) hyn hown (mvT hZ w1) (mvT hZ w2) (mvT hZ w4) hy (backOf (W := W) (Q := fun v h' L => F v h' ∧ Fr n0 L) D hZ w4 w3 hf hl) (g := mkF m pc Ls (argsL.reverse ++ .ref a :: rest)) rfl hml (Steps.refl _) (a := a) (argsL := argsL) (rest := rest) (lenOf hsg hlen) rfl (by show 2 * 0 + _ ≤ _; omega) hd (fun _ _ => ⟨rfl, eT, hcl, hsl⟩)
  dsimp only [Pt.U, Pt.locs, Pt.cells, Pt.slots] at X' l1 y1 z1 st hQ
  subst l1 y1 z1
  obtain ⟨s₂, o, hs, r⟩ := K v T'.heap hQ.1 T' _ X' (N.app hQ.2) rfl
  exact ⟨s₂, o, st.trans hs, r⟩
/-- an instance method by its contract: the receiver is just of the class C -/
theorem callV (hx : p.tables.exec = Jvm.exec) (hZ : Z.Warmed39 s.vm) {own C : String} (hown : s.vm.findClass own = some m.cls) {i : Nat} {y : MethodName} {bytes : ByteArray} {maxL : Nat} {ret : Option FieldType} {rm : Room} {F : Option Value → Heap → Prop} {argsL rest : List Value} (E : Exa Z h a C)
    (w1 : (Jvm.Cond.methodLink own i y).before a0 Z = true) (w2 : (Jvm.Cond.declares y).before a0 Z = true) (w5 : (Jvm.Cond.selects C y y).before a0 Z = true) (w6 : (Jvm.Cond.instanceMethod y).before a0 Z = true) (w3 : (Jvm.Cond.initialized y.cls).before a0 Z = true) (w4 : (Jvm.Cond.code y bytes maxL ret).before a0 Z = true) (hy : y.cls ≠ "java/lang/invoke/MethodHandle" ∧ y.cls ≠ "java/lang/invoke/VarHandle")
    {sg : ClassFile.MethodDescriptor} (hsg : parseMethodDescriptor y.desc = some sg) (hlen : argsL.length = sg.parameters.length) {pc pc' : Nat} {Ls : Array Slot} {W : Nat} (hW : (rest.map fun v => v.category).sum ≤ W) (hf : rm.frames + 1 ≤ R.frames) (hl : W + (maxL + 11) + rm.locals ≤ R.locals) (hcl : k + rm.cells ≤ R.cells) (hsl : n + rm.slots ≤ R.slots)
    {k' n' : Nat} (hk' : k + rm.cells = k') (hn' : n + rm.slots = n') (hml : Ls.size = c.maxLocals) (st : List Value) (hst : st = argsL.reverse ++ .ref a :: rest) (hd : decode c.code pc = .ok (.invokevirtual i, 3)) (hp : pc + 3 = pc') (D : Does l y bytes maxL ret [] rm Z (.ref a :: argsL).toArray h n0 F)
    (K : ∀ v h', F v h' → Goes p l e R s m args below meth c n0 mc ms Fn h' k' n' (mkF m pc' Ls (v.toList ++ rest))) : Goes p l e R s m args below meth c n0 mc ms Fn h k n (mkF m pc Ls st) := fun T locs X N eT => by
  subst hp hst hk' hn'
  obtain ⟨cq, kq, qa, qb, qc⟩ := isOf hZ eT E
  obtain ⟨v, _, ⟨T', L', k', n'⟩, -, X', ⟨Lc, hQ, l1, y1, z1⟩, st⟩ := X.virtualBack hx (y := y) (z := y) hown (mvT hZ w1) (mvT hZ w2) (notFace_of_selects (args := #[]) (mvT hZ w5)) (mvT hZ w5) (mvT hZ w6) hy (backOf (W := W) (Q := fun v h' L => F v h' ∧ Fr n0 L) D hZ w4 w3 hf hl) qa qc (g := mkF m pc Ls (argsL.reverse ++ .ref a :: rest)) rfl hml (Steps.refl _) (argsL := argsL) (rest := rest) (lenOf hsg hlen) rfl (by show 2 * 0 + _ ≤ _; omega) hd (fun _ _ => ⟨rfl, eT, hcl, hsl⟩)
  dsimp only [Pt.U, Pt.locs, Pt.cells, Pt.slots] at X' l1 y1 z1 st hQ
  subst l1 y1 z1
  obtain ⟨s₂, o, hs, r⟩ := K v T'.heap hQ.1 T' _ X' (N.app hQ.2) rfl
  exact ⟨s₂, o, st.trans hs, r⟩
/-- a private method (by invokevirtual) by its contract -/
theorem callP (hx : p.tables.exec = Jvm.exec) (hZ : Z.Warmed39 s.vm) {own C : String} (hown : s.vm.findClass own = some m.cls) {i : Nat} {y : MethodName} {bytes : ByteArray} {maxL : Nat} {ret : Option FieldType} {rm : Room} {F : Option Value → Heap → Prop} {argsL rest : List Value} (E : Exa Z h a C)
    (w1 : (Jvm.Cond.methodLink own i y).before a0 Z = true) (w2 : (Jvm.Cond.instanceMethod y).before a0 Z = true) {ki : Nat} (wi : (Jvm.Cond.instantiable y.cls ki).before a0 Z = true) (w6 : (Jvm.Cond.privateMethod y).before a0 Z = true) (w3 : (Jvm.Cond.initialized y.cls).before a0 Z = true) (w4 : (Jvm.Cond.code y bytes maxL ret).before a0 Z = true) (hy : y.cls ≠ "java/lang/invoke/MethodHandle" ∧ y.cls ≠ "java/lang/invoke/VarHandle")
    {sg : ClassFile.MethodDescriptor} (hsg : parseMethodDescriptor y.desc = some sg) (hlen : argsL.length = sg.parameters.length) {pc pc' : Nat} {Ls : Array Slot} {W : Nat} (hW : (rest.map fun v => v.category).sum ≤ W) (hf : rm.frames + 1 ≤ R.frames) (hl : W + (maxL + 11) + rm.locals ≤ R.locals) (hcl : k + rm.cells ≤ R.cells) (hsl : n + rm.slots ≤ R.slots)
    {k' n' : Nat} (hk' : k + rm.cells = k') (hn' : n + rm.slots = n') (hml : Ls.size = c.maxLocals) (st : List Value) (hst : st = argsL.reverse ++ .ref a :: rest) (hd : decode c.code pc = .ok (.invokevirtual i, 3)) (hp : pc + 3 = pc') (D : Does l y bytes maxL ret [] rm Z (.ref a :: argsL).toArray h n0 F)
    (K : ∀ v h', F v h' → Goes p l e R s m args below meth c n0 mc ms Fn h' k' n' (mkF m pc' Ls (v.toList ++ rest))) : Goes p l e R s m args below meth c n0 mc ms Fn h k n (mkF m pc Ls st) := fun T locs X N eT => by
  subst hp hst hk' hn'
  obtain ⟨cq, qa, qb⟩ := E.cell
  have hpriv : s.PrivateAt y := Cond.privateMethod_at (mvP hZ w6 (args := #[]))
  obtain ⟨_, _, i1, i2, -, i3, -, -⟩ := Cond.instantiable_spec (mvT hZ wi : (Jvm.Cond.instantiable y.cls ki).before args s = true)
  have hsel : (Jvm.Cond.selects y.cls y y).before args s = true := selects_self_of_private i1 i2 (Bool.or_eq_false_iff.mp i3).1 hpriv (mvT hZ w2) hy
  obtain ⟨v, _, ⟨T', L', k', n'⟩, -, X', ⟨Lc, hQ, l1, y1, z1⟩, st⟩ := X.privateBack hx (y := y) hown (mvT hZ w1) (mvT hZ w2) hsel hpriv (mvT hZ w4) hy (backOf (W := W) (Q := fun v h' L => F v h' ∧ Fr n0 L) D hZ w4 w3 hf hl) (g := mkF m pc Ls (argsL.reverse ++ .ref a :: rest)) rfl hml (Steps.refl _) (a := a) (by rw [eT]; exact qa) qb (argsL := argsL) (rest := rest) (lenOf hsg hlen) rfl (by show 2 * 0 + _ ≤ _; omega) hd (fun _ _ => ⟨rfl, eT, hcl, hsl⟩)
  dsimp only [Pt.U, Pt.locs, Pt.cells, Pt.slots] at X' l1 y1 z1 st hQ
  subst l1 y1 z1
  obtain ⟨s₂, o, hs, r⟩ := K v T'.heap hQ.1 T' _ X' (N.app hQ.2) rfl
  exact ⟨s₂, o, st.trans hs, r⟩
end EngH
end Own
def fMinI (x y : Int32) : Int32 := if y < x then y else x
theorem d1_0 : decode jdk_29_method_69_code 0 = .ok (.iload_n 0, 1) := by decide +kernel
theorem d1_1 : decode jdk_29_method_69_code 1 = .ok (.iload_n 1, 1) := by decide +kernel
theorem d1_2 : decode jdk_29_method_69_code 2 = .ok (.if_icmp .gt 7, 3) := by decide +kernel
theorem d1_5 : decode jdk_29_method_69_code 5 = .ok (.iload_n 0, 1) := by decide +kernel
theorem d1_6 : decode jdk_29_method_69_code 6 = .ok (.goto 4, 3) := by decide +kernel
theorem d1_9 : decode jdk_29_method_69_code 9 = .ok (.iload_n 1, 1) := by decide +kernel
theorem d1_10 : decode jdk_29_method_69_code 10 = .ok (.ireturn, 1) := by decide +kernel
theorem pn0 : plainFor (⟨"java/lang/Math", "min", "(II)I"⟩ : MethodName) = true := Jvm.Free.JP.mathPlain rfl (by decide +kernel)
theorem ef1 (m : MethodId) (p0 : Int32) (p1 : Int32) : entryFrame m #[(.int p0), (.int p1)] 2 = mkF m 0 #[.val (.int p0), .val (.int p1)] [] := by first | (simp [entryFrame, mkF, argsToLocals, Value.category]; done) | rfl
set_option maxRecDepth 65536 in
set_option maxHeartbeats 40000000 in
theorem rm1 (l : Launch) (Z : State) (a0 : Array Value) (hw : ∀ d ∈ tables_1, d.before a0 Z = true) (p0 : Int32) (p1 : Int32) (h0 : Heap) (n0 : Nat)   : Own.Does l (⟨"java/lang/Math", "min", "(II)I"⟩ : MethodName) jdk_29_method_69_code 2 (some .int) [] ({ frames := 0, cells := 0, slots := 0, locals := 0 } : Room) Z #[(.int p0), (.int p1)] h0 n0 (fun v h => v = some (.int (fMinI p0 p1)) ∧ h = h0) := by
  refine Own.doesOf pn0 ?_
  intro p e s m below meth c hx hby hml hret hlk hown hnm hZ
  refine Own.Goes.cast (ef1 m p0 p1) ?_
  refine Own.iloadN hx p0 (hb hby d1_0) rfl rfl ?_
  refine Own.iloadN hx p1 (hb hby d1_1) rfl rfl ?_
  obtain ⟨v2, h_v2⟩ : ∃ z : Int32, z = (if p1 < p0 then p1 else p0) := ⟨_, rfl⟩
  refine Own.Goes.join (mkF m 10 #[.val (.int p0), .val (.int p1)] [(.int v2)]) (fun kJ3 => ?_) ?_
  · refine Own.icmpF hx (Own.q_gt p0 p1) (hb hby d1_2) (pcN := 5) rfl (by decide) (pcT := 9) rfl (fun hc1 => ?_) (fun hc1 => ?_)
    · refine Own.iloadN hx p1 (hb hby d1_9) rfl rfl ?_
      try simp only [if_pos hc1] at h_v2
      subst h_v2
      exact kJ3
    · refine Own.iloadN hx p0 (hb hby d1_5) rfl rfl ?_
      refine Own.goto hx (hb hby d1_6) (by decide) (pc' := 10) rfl ?_
      try simp only [if_neg hc1] at h_v2
      subst h_v2
      exact kJ3
  exact Own.retI hx hret hlk (hb hby d1_10) (by decide) (by decide) ⟨by subst h_v2; simp only [fMinI], rfl⟩

theorem d2_0 : decode prog_92_method_1_code 0 = .ok (.aload_n 0, 1) := by decide +kernel
theorem d2_1 : decode prog_92_method_1_code 1 = .ok (.invokespecial 1, 3) := by decide +kernel
theorem d2_4 : decode prog_92_method_1_code 4 = .ok (.aload_n 0, 1) := by decide +kernel
theorem d2_5 : decode prog_92_method_1_code 5 = .ok (.bipush 16, 2) := by decide +kernel
theorem d2_7 : decode prog_92_method_1_code 7 = .ok (.newarray .long, 2) := by decide +kernel
theorem d2_9 : decode prog_92_method_1_code 9 = .ok (.putfield 7, 3) := by decide +kernel
theorem d2_12 : decode prog_92_method_1_code 12 = .ok (.aload_n 0, 1) := by decide +kernel
theorem d2_13 : decode prog_92_method_1_code 13 = .ok (.bipush 16, 2) := by decide +kernel
theorem d2_15 : decode prog_92_method_1_code 15 = .ok (.newarray .long, 2) := by decide +kernel
theorem d2_17 : decode prog_92_method_1_code 17 = .ok (.putfield 13, 3) := by decide +kernel
theorem d2_20 : decode prog_92_method_1_code 20 = .ok (.aload_n 0, 1) := by decide +kernel
theorem d2_21 : decode prog_92_method_1_code 21 = .ok (.iconst (-1), 1) := by decide +kernel
theorem d2_22 : decode prog_92_method_1_code 22 = .ok (.putfield 16, 3) := by decide +kernel
theorem d2_25 : decode prog_92_method_1_code 25 = .ok (.aload_n 0, 1) := by decide +kernel
theorem d2_26 : decode prog_92_method_1_code 26 = .ok (.iconst (-1), 1) := by decide +kernel
theorem d2_27 : decode prog_92_method_1_code 27 = .ok (.putfield 20, 3) := by decide +kernel
theorem d2_30 : decode prog_92_method_1_code 30 = .ok (.return_, 1) := by decide +kernel
theorem pn1 : plainFor (⟨"com/example/tracewarden/tracewarden/monitor/Openings", "<init>", "()V"⟩ : MethodName) = true := by first | exact plainFor_of_name (by simp [plainName, overriddenIn]; done) | decide +kernel
theorem ef2 (m : MethodId) (o0 : Addr) : entryFrame m #[(.ref o0)] 1 = mkF m 0 #[.val (.ref o0)] [] := by first | (simp [entryFrame, mkF, argsToLocals, Value.category]; done) | rfl
set_option maxRecDepth 65536 in
set_option maxHeartbeats 40000000 in
theorem rm2 (l : Launch) (Z : State) (a0 : Array Value) (hw : ∀ d ∈ tables_1, d.before a0 Z = true) (o0 : Addr) (h0 : Heap) (n0 : Nat)  (fr : List (Addr × (Cell → Prop))) (O0 : Own.Owns n0 h0 ((o0, Own.ObjC Z "com/example/tracewarden/tracewarden/monitor/Openings" [(("com/example/tracewarden/tracewarden/monitor/Openings", "cells", "[J"), .null), (("com/example/tracewarden/tracewarden/monitor/Openings", "inner", "[J"), .null), (("com/example/tracewarden/tracewarden/monitor/Openings", "lastFound", "I"), (.int (0 : Int32))), (("com/example/tracewarden/tracewarden/monitor/Openings", "foundBefore", "I"), (.int (0 : Int32))), (("com/example/tracewarden/tracewarden/monitor/Openings", "count", "I"), (.int (0 : Int32))), (("com/example/tracewarden/tracewarden/monitor/Openings", "first", "I"), (.int (0 : Int32))), (("com/example/tracewarden/tracewarden/monitor/Openings", "times", "[Ljava/math/BigDecimal;"), .null)]) :: fr))  : Own.Does l (⟨"com/example/tracewarden/tracewarden/monitor/Openings", "<init>", "()V"⟩ : MethodName) prog_92_method_1_code 1 none [] ({ frames := 1, cells := 2, slots := 32, locals := 13 } : Room) Z #[(.ref o0)] h0 n0 (fun v h => ∃ ra rb, v = none ∧ Own.Owns n0 h ((o0, Own.ObjC Z "com/example/tracewarden/tracewarden/monitor/Openings" [(("com/example/tracewarden/tracewarden/monitor/Openings", "cells", "[J"), (.ref ra)), (("com/example/tracewarden/tracewarden/monitor/Openings", "inner", "[J"), (.ref rb)), (("com/example/tracewarden/tracewarden/monitor/Openings", "lastFound", "I"), (.int (-1 : Int32))), (("com/example/tracewarden/tracewarden/monitor/Openings", "foundBefore", "I"), (.int (-1 : Int32))), (("com/example/tracewarden/tracewarden/monitor/Openings", "count", "I"), (.int (0 : Int32))), (("com/example/tracewarden/tracewarden/monitor/Openings", "first", "I"), (.int (0 : Int32))), (("com/example/tracewarden/tracewarden/monitor/Openings", "times", "[Ljava/math/BigDecimal;"), .null)]) :: (ra, Own.ArrC Z .long [(.long (0 : Int64)), (.long (0 : Int64)), (.long (0 : Int64)), (.long (0 : Int64)), (.long (0 : Int64)), (.long (0 : Int64)), (.long (0 : Int64)), (.long (0 : Int64)), (.long (0 : Int64)), (.long (0 : Int64)), (.long (0 : Int64)), (.long (0 : Int64)), (.long (0 : Int64)), (.long (0 : Int64)), (.long (0 : Int64)), (.long (0 : Int64))]) :: (rb, Own.ArrC Z .long [(.long (0 : Int64)), (.long (0 : Int64)), (.long (0 : Int64)), (.long (0 : Int64)), (.long (0 : Int64)), (.long (0 : Int64)), (.long (0 : Int64)), (.long (0 : Int64)), (.long (0 : Int64)), (.long (0 : Int64)), (.long (0 : Int64)), (.long (0 : Int64)), (.long (0 : Int64)), (.long (0 : Int64)), (.long (0 : Int64)), (.long (0 : Int64))]) :: fr)) := by
  refine Own.doesOf pn1 ?_
  intro p e s m below meth c hx hby hml hret hlk hown hnm hZ
  refine Own.Goes.cast (ef2 m o0) ?_
  refine Own.aloadN hx (.ref o0) (hb hby d2_0) rfl rfl rfl ?_
  refine Own.initobj hx hZ hown (hw _ (List.mem_of_getElem? (i := 11) rfl)) (hw _ (List.mem_of_getElem? (i := 12) rfl)) (hw _ (List.mem_of_getElem? (i := 13) rfl)) (by rw [hml]; rfl) (W := 0) (Nat.le_of_eq rfl) (by decide) (by decide) (hb hby d2_1) rfl ?_
  refine Own.aloadN hx (.ref o0) (hb hby d2_4) rfl rfl rfl ?_
  refine Own.bipush hx (16 : Int32) (hb hby d2_5) rfl (by decide) ?_
  refine Own.newarr hx hZ O0 (aty := .long) (hw _ (List.mem_of_getElem? (i := 14) rfl)) 16 (by decide) [(.long (0 : Int64)), (.long (0 : Int64)), (.long (0 : Int64)), (.long (0 : Int64)), (.long (0 : Int64)), (.long (0 : Int64)), (.long (0 : Int64)), (.long (0 : Int64)), (.long (0 : Int64)), (.long (0 : Int64)), (.long (0 : Int64)), (.long (0 : Int64)), (.long (0 : Int64)), (.long (0 : Int64)), (.long (0 : Int64)), (.long (0 : Int64))] rfl rfl (cap := 16) (by decide) (by decide) (k' := 1) (n' := 16) rfl rfl (by decide) (by decide) (hb hby d2_7) (pc' := 9) rfl ?_
  intro a1 h2 O3
  refine Own.putfield hx hZ hown O3 1 0 rfl rfl (hw _ (List.mem_of_getElem? (i := 15) rfl)) (Or.inl (hw _ (List.mem_of_getElem? (i := 16) rfl))) (hw _ (List.mem_of_getElem? (i := 6) rfl)) (ty := (.array .long)) (by decide) rfl rfl ((a1, Own.ArrC Z .long [(.long (0 : Int64)), (.long (0 : Int64)), (.long (0 : Int64)), (.long (0 : Int64)), (.long (0 : Int64)), (.long (0 : Int64)), (.long (0 : Int64)), (.long (0 : Int64)), (.long (0 : Int64)), (.long (0 : Int64)), (.long (0 : Int64)), (.long (0 : Int64)), (.long (0 : Int64)), (.long (0 : Int64)), (.long (0 : Int64)), (.long (0 : Int64))]) :: (o0, Own.ObjC Z "com/example/tracewarden/tracewarden/monitor/Openings" [(("com/example/tracewarden/tracewarden/monitor/Openings", "cells", "[J"), (.ref a1)), (("com/example/tracewarden/tracewarden/monitor/Openings", "inner", "[J"), .null), (("com/example/tracewarden/tracewarden/monitor/Openings", "lastFound", "I"), (.int (0 : Int32))), (("com/example/tracewarden/tracewarden/monitor/Openings", "foundBefore", "I"), (.int (0 : Int32))), (("com/example/tracewarden/tracewarden/monitor/Openings", "count", "I"), (.int (0 : Int32))), (("com/example/tracewarden/tracewarden/monitor/Openings", "first", "I"), (.int (0 : Int32))), (("com/example/tracewarden/tracewarden/monitor/Openings", "times", "[Ljava/math/BigDecimal;"), .null)]) :: fr) rfl (hb hby d2_9) rfl ?_
  intro h4 O5
  refine Own.aloadN hx (.ref o0) (hb hby d2_12) rfl rfl rfl ?_
  refine Own.bipush hx (16 : Int32) (hb hby d2_13) rfl (by decide) ?_
  refine Own.newarr hx hZ O5 (aty := .long) (hw _ (List.mem_of_getElem? (i := 14) rfl)) 16 (by decide) [(.long (0 : Int64)), (.long (0 : Int64)), (.long (0 : Int64)), (.long (0 : Int64)), (.long (0 : Int64)), (.long (0 : Int64)), (.long (0 : Int64)), (.long (0 : Int64)), (.long (0 : Int64)), (.long (0 : Int64)), (.long (0 : Int64)), (.long (0 : Int64)), (.long (0 : Int64)), (.long (0 : Int64)), (.long (0 : Int64)), (.long (0 : Int64))] rfl rfl (cap := 16) (by decide) (by decide) (k' := 2) (n' := 32) rfl rfl (by decide) (by decide) (hb hby d2_15) (pc' := 17) rfl ?_
  intro a6 h7 O8
  refine Own.putfield hx hZ hown O8 2 1 rfl rfl (hw _ (List.mem_of_getElem? (i := 17) rfl)) (Or.inl (hw _ (List.mem_of_getElem? (i := 18) rfl))) (hw _ (List.mem_of_getElem? (i := 6) rfl)) (ty := (.array .long)) (by decide) rfl rfl ((a6, Own.ArrC Z .long [(.long (0 : Int64)), (.long (0 : Int64)), (.long (0 : Int64)), (.long (0 : Int64)), (.long (0 : Int64)), (.long (0 : Int64)), (.long (0 : Int64)), (.long (0 : Int64)), (.long (0 : Int64)), (.long (0 : Int64)), (.long (0 : Int64)), (.long (0 : Int64)), (.long (0 : Int64)), (.long (0 : Int64)), (.long (0 : Int64)), (.long (0 : Int64))]) :: (a1, Own.ArrC Z .long [(.long (0 : Int64)), (.long (0 : Int64)), (.long (0 : Int64)), (.long (0 : Int64)), (.long (0 : Int64)), (.long (0 : Int64)), (.long (0 : Int64)), (.long (0 : Int64)), (.long (0 : Int64)), (.long (0 : Int64)), (.long (0 : Int64)), (.long (0 : Int64)), (.long (0 : Int64)), (.long (0 : Int64)), (.long (0 : Int64)), (.long (0 : Int64))]) :: (o0, Own.ObjC Z "com/example/tracewarden/tracewarden/monitor/Openings" [(("com/example/tracewarden/tracewarden/monitor/Openings", "cells", "[J"), (.ref a1)), (("com/example/tracewarden/tracewarden/monitor/Openings", "inner", "[J"), (.ref a6)), (("com/example/tracewarden/tracewarden/monitor/Openings", "lastFound", "I"), (.int (0 : Int32))), (("com/example/tracewarden/tracewarden/monitor/Openings", "foundBefore", "I"), (.int (0 : Int32))), (("com/example/tracewarden/tracewarden/monitor/Openings", "count", "I"), (.int (0 : Int32))), (("com/example/tracewarden/tracewarden/monitor/Openings", "first", "I"), (.int (0 : Int32))), (("com/example/tracewarden/tracewarden/monitor/Openings", "times", "[Ljava/math/BigDecimal;"), .null)]) :: fr) rfl (hb hby d2_17) rfl ?_
  intro h9 O10
  refine Own.aloadN hx (.ref o0) (hb hby d2_20) rfl rfl rfl ?_
  refine Own.iconst hx (-1 : Int32) (hb hby d2_21) rfl (by decide) ?_
  refine Own.putfield hx hZ hown O10 2 2 rfl rfl (hw _ (List.mem_of_getElem? (i := 19) rfl)) (Or.inl (hw _ (List.mem_of_getElem? (i := 20) rfl))) (hw _ (List.mem_of_getElem? (i := 6) rfl)) (ty := .int) (by decide) rfl rfl ((a6, Own.ArrC Z .long [(.long (0 : Int64)), (.long (0 : Int64)), (.long (0 : Int64)), (.long (0 : Int64)), (.long (0 : Int64)), (.long (0 : Int64)), (.long (0 : Int64)), (.long (0 : Int64)), (.long (0 : Int64)), (.long (0 : Int64)), (.long (0 : Int64)), (.long (0 : Int64)), (.long (0 : Int64)), (.long (0 : Int64)), (.long (0 : Int64)), (.long (0 : Int64))]) :: (a1, Own.ArrC Z .long [(.long (0 : Int64)), (.long (0 : Int64)), (.long (0 : Int64)), (.long (0 : Int64)), (.long (0 : Int64)), (.long (0 : Int64)), (.long (0 : Int64)), (.long (0 : Int64)), (.long (0 : Int64)), (.long (0 : Int64)), (.long (0 : Int64)), (.long (0 : Int64)), (.long (0 : Int64)), (.long (0 : Int64)), (.long (0 : Int64)), (.long (0 : Int64))]) :: (o0, Own.ObjC Z "com/example/tracewarden/tracewarden/monitor/Openings" [(("com/example/tracewarden/tracewarden/monitor/Openings", "cells", "[J"), (.ref a1)), (("com/example/tracewarden/tracewarden/monitor/Openings", "inner", "[J"), (.ref a6)), (("com/example/tracewarden/tracewarden/monitor/Openings", "lastFound", "I"), (.int (-1 : Int32))), (("com/example/tracewarden/tracewarden/monitor/Openings", "foundBefore", "I"), (.int (0 : Int32))), (("com/example/tracewarden/tracewarden/monitor/Openings", "count", "I"), (.int (0 : Int32))), (("com/example/tracewarden/tracewarden/monitor/Openings", "first", "I"), (.int (0 : Int32))), (("com/example/tracewarden/tracewarden/monitor/Openings", "times", "[Ljava/math/BigDecimal;"), .null)]) :: fr) rfl (hb hby d2_22) rfl ?_
  intro h11 O12
  refine Own.aloadN hx (.ref o0) (hb hby d2_25) rfl rfl rfl ?_
  refine Own.iconst hx (-1 : Int32) (hb hby d2_26) rfl (by decide) ?_
  refine Own.putfield hx hZ hown O12 2 3 rfl rfl (hw _ (List.mem_of_getElem? (i := 21) rfl)) (Or.inl (hw _ (List.mem_of_getElem? (i := 22) rfl))) (hw _ (List.mem_of_getElem? (i := 6) rfl)) (ty := .int) (by decide) rfl rfl ((a6, Own.ArrC Z .long [(.long (0 : Int64)), (.long (0 : Int64)), (.long (0 : Int64)), (.long (0 : Int64)), (.long (0 : Int64)), (.long (0 : Int64)), (.long (0 : Int64)), (.long (0 : Int64)), (.long (0 : Int64)), (.long (0 : Int64)), (.long (0 : Int64)), (.long (0 : Int64)), (.long (0 : Int64)), (.long (0 : Int64)), (.long (0 : Int64)), (.long (0 : Int64))]) :: (a1, Own.ArrC Z .long [(.long (0 : Int64)), (.long (0 : Int64)), (.long (0 : Int64)), (.long (0 : Int64)), (.long (0 : Int64)), (.long (0 : Int64)), (.long (0 : Int64)), (.long (0 : Int64)), (.long (0 : Int64)), (.long (0 : Int64)), (.long (0 : Int64)), (.long (0 : Int64)), (.long (0 : Int64)), (.long (0 : Int64)), (.long (0 : Int64)), (.long (0 : Int64))]) :: (o0, Own.ObjC Z "com/example/tracewarden/tracewarden/monitor/Openings" [(("com/example/tracewarden/tracewarden/monitor/Openings", "cells", "[J"), (.ref a1)), (("com/example/tracewarden/tracewarden/monitor/Openings", "inner", "[J"), (.ref a6)), (("com/example/tracewarden/tracewarden/monitor/Openings", "lastFound", "I"), (.int (-1 : Int32))), (("com/example/tracewarden/tracewarden/monitor/Openings", "foundBefore", "I"), (.int (-1 : Int32))), (("com/example/tracewarden/tracewarden/monitor/Openings", "count", "I"), (.int (0 : Int32))), (("com/example/tracewarden/tracewarden/monitor/Openings", "first", "I"), (.int (0 : Int32))), (("com/example/tracewarden/tracewarden/monitor/Openings", "times", "[Ljava/math/BigDecimal;"), .null)]) :: fr) rfl (hb hby d2_27) rfl ?_
  intro h13 O14
  have O15 : Own.Owns n0 h13 ((a1, Own.ArrC Z .long [(.long (0 : Int64)), (.long (0 : Int64)), (.long (0 : Int64)), (.long (0 : Int64)), (.long (0 : Int64)), (.long (0 : Int64)), (.long (0 : Int64)), (.long (0 : Int64)), (.long (0 : Int64)), (.long (0 : Int64)), (.long (0 : Int64)), (.long (0 : Int64)), (.long (0 : Int64)), (.long (0 : Int64)), (.long (0 : Int64)), (.long (0 : Int64))]) :: (a6, Own.ArrC Z .long [(.long (0 : Int64)), (.long (0 : Int64)), (.long (0 : Int64)), (.long (0 : Int64)), (.long (0 : Int64)), (.long (0 : Int64)), (.long (0 : Int64)), (.long (0 : Int64)), (.long (0 : Int64)), (.long (0 : Int64)), (.long (0 : Int64)), (.long (0 : Int64)), (.long (0 : Int64)), (.long (0 : Int64)), (.long (0 : Int64)), (.long (0 : Int64))]) :: (o0, Own.ObjC Z "com/example/tracewarden/tracewarden/monitor/Openings" [(("com/example/tracewarden/tracewarden/monitor/Openings", "cells", "[J"), (.ref a1)), (("com/example/tracewarden/tracewarden/monitor/Openings", "inner", "[J"), (.ref a6)), (("com/example/tracewarden/tracewarden/monitor/Openings", "lastFound", "I"), (.int (-1 : Int32))), (("com/example/tracewarden/tracewarden/monitor/Openings", "foundBefore", "I"), (.int (-1 : Int32))), (("com/example/tracewarden/tracewarden/monitor/Openings", "count", "I"), (.int (0 : Int32))), (("com/example/tracewarden/tracewarden/monitor/Openings", "first", "I"), (.int (0 : Int32))), (("com/example/tracewarden/tracewarden/monitor/Openings", "times", "[Ljava/math/BigDecimal;"), .null)]) :: fr) := O14.pick 1 rfl
  have O16 : Own.Owns n0 h13 ((o0, Own.ObjC Z "com/example/tracewarden/tracewarden/monitor/Openings" [(("com/example/tracewarden/tracewarden/monitor/Openings", "cells", "[J"), (.ref a1)), (("com/example/tracewarden/tracewarden/monitor/Openings", "inner", "[J"), (.ref a6)), (("com/example/tracewarden/tracewarden/monitor/Openings", "lastFound", "I"), (.int (-1 : Int32))), (("com/example/tracewarden/tracewarden/monitor/Openings", "foundBefore", "I"), (.int (-1 : Int32))), (("com/example/tracewarden/tracewarden/monitor/Openings", "count", "I"), (.int (0 : Int32))), (("com/example/tracewarden/tracewarden/monitor/Openings", "first", "I"), (.int (0 : Int32))), (("com/example/tracewarden/tracewarden/monitor/Openings", "times", "[Ljava/math/BigDecimal;"), .null)]) :: (a1, Own.ArrC Z .long [(.long (0 : Int64)), (.long (0 : Int64)), (.long (0 : Int64)), (.long (0 : Int64)), (.long (0 : Int64)), (.long (0 : Int64)), (.long (0 : Int64)), (.long (0 : Int64)), (.long (0 : Int64)), (.long (0 : Int64)), (.long (0 : Int64)), (.long (0 : Int64)), (.long (0 : Int64)), (.long (0 : Int64)), (.long (0 : Int64)), (.long (0 : Int64))]) :: (a6, Own.ArrC Z .long [(.long (0 : Int64)), (.long (0 : Int64)), (.long (0 : Int64)), (.long (0 : Int64)), (.long (0 : Int64)), (.long (0 : Int64)), (.long (0 : Int64)), (.long (0 : Int64)), (.long (0 : Int64)), (.long (0 : Int64)), (.long (0 : Int64)), (.long (0 : Int64)), (.long (0 : Int64)), (.long (0 : Int64)), (.long (0 : Int64)), (.long (0 : Int64))]) :: fr) := O15.pick 2 rfl
  exact Own.retV hx hret hlk (hb hby d2_30) (by decide) (by decide) ⟨a1, a6, rfl, O16⟩

theorem d5_0 : decode prog_92_method_10_code 0 = .ok (.aload_n 0, 1) := by decide +kernel
theorem d5_1 : decode prog_92_method_10_code 1 = .ok (.getfield 33, 3) := by decide +kernel
theorem d5_4 : decode prog_92_method_10_code 4 = .ok (.aload_n 0, 1) := by decide +kernel
theorem d5_5 : decode prog_92_method_10_code 5 = .ok (.getfield 30, 3) := by decide +kernel
theorem d5_8 : decode prog_92_method_10_code 8 = .ok (.iadd, 1) := by decide +kernel
theorem d5_9 : decode prog_92_method_10_code 9 = .ok (.aload_n 0, 1) := by decide +kernel
theorem d5_10 : decode prog_92_method_10_code 10 = .ok (.getfield 7, 3) := by decide +kernel
theorem d5_13 : decode prog_92_method_10_code 13 = .ok (.arraylength, 1) := by decide +kernel
theorem d5_14 : decode prog_92_method_10_code 14 = .ok (.if_icmp .ne 85, 3) := by decide +kernel
theorem d5_99 : decode prog_92_method_10_code 99 = .ok (.return_, 1) := by decide +kernel
theorem pn2 : plainFor (⟨"com/example/tracewarden/tracewarden/monitor/Openings", "makeRoom", "()V"⟩ : MethodName) = true := by first | exact plainFor_of_name (by simp [plainName, overriddenIn]; done) | decide +kernel
theorem ef5_0 (m : MethodId) (o0 : Addr) : entryFrame m #[(.ref o0)] 1 = mkF m 0 #[.val (.ref o0)] [] := by first | (simp [entryFrame, mkF, argsToLocals, Value.category]; done) | rfl
set_option maxRecDepth 65536 in
set_option maxHeartbeats 40000000 in
theorem rm5_0 (l : Launch) (Z : State) (a0 : Array Value) (hw : ∀ d ∈ tables_1, d.before a0 Z = true) (o0 : Addr) (h0 : Heap) (n0 : Nat) (ra rb : Addr) (u0 u1 u2 u3 u4 u5 u6 u7 u8 u9 u10 u11 u12 u13 u14 u15 t0 t1 t2 t3 t4 t5 t6 t7 t8 t9 t10 t11 t12 t13 t14 t15 : Int64) (fr : List (Addr × (Cell → Prop))) (O0 : Own.Owns n0 h0 ((o0, Own.ObjC Z "com/example/tracewarden/tracewarden/monitor/Openings" [(("com/example/tracewarden/tracewarden/monitor/Openings", "cells", "[J"), (.ref ra)), (("com/example/tracewarden/tracewarden/monitor/Openings", "inner", "[J"), (.ref rb)), (("com/example/tracewarden/tracewarden/monitor/Openings", "lastFound", "I"), (.int (-1 : Int32))), (("com/example/tracewarden/tracewarden/monitor/Openings", "foundBefore", "I"), (.int (-1 : Int32))), (("com/example/tracewarden/tracewarden/monitor/Openings", "count", "I"), (.int (0 : Int32))), (("com/example/tracewarden/tracewarden/monitor/Openings", "first", "I"), (.int (0 : Int32))), (("com/example/tracewarden/tracewarden/monitor/Openings", "times", "[Ljava/math/BigDecimal;"), .null)]) :: (ra, Own.ArrC Z .long [(.long u0), (.long u1), (.long u2), (.long u3), (.long u4), (.long u5), (.long u6), (.long u7), (.long u8), (.long u9), (.long u10), (.long u11), (.long u12), (.long u13), (.long u14), (.long u15)]) :: (rb, Own.ArrC Z .long [(.long t0), (.long t1), (.long t2), (.long t3), (.long t4), (.long t5), (.long t6), (.long t7), (.long t8), (.long t9), (.long t10), (.long t11), (.long t12), (.long t13), (.long t14), (.long t15)]) :: fr))  : Own.Does l (⟨"com/example/tracewarden/tracewarden/monitor/Openings", "makeRoom", "()V"⟩ : MethodName) prog_92_method_10_code 1 none [] ({ frames := 0, cells := 0, slots := 0, locals := 0 } : Room) Z #[(.ref o0)] h0 n0 (fun v h => v = none ∧ h = h0) := by
  refine Own.doesOf pn2 ?_
  intro p e s m below meth c hx hby hml hret hlk hown hnm hZ
  refine Own.Goes.cast (ef5_0 m o0) ?_
  refine Own.aloadN hx (.ref o0) (hb hby d5_0) rfl rfl rfl ?_
  refine Own.getfield hx hZ hown O0 0 5 rfl rfl (hw _ (List.mem_of_getElem? (i := 34) rfl)) (hb hby d5_1) rfl ?_
  refine Own.aloadN hx (.ref o0) (hb hby d5_4) rfl rfl rfl ?_
  refine Own.getfield hx hZ hown O0 0 4 rfl rfl (hw _ (List.mem_of_getElem? (i := 28) rfl)) (hb hby d5_5) rfl ?_
  refine Own.iadd hx (hb hby d5_8) rfl ?_
  refine Own.vI (0 : Int32) (by decide) ?_
  refine Own.aloadN hx (.ref o0) (hb hby d5_9) rfl rfl rfl ?_
  refine Own.getfield hx hZ hown O0 0 0 rfl rfl (hw _ (List.mem_of_getElem? (i := 15) rfl)) (hb hby d5_10) rfl ?_
  refine Own.arrlen hx hZ O0 1 rfl (16 : Int32) rfl (hb hby d5_13) rfl ?_
  have hc1 : ¬ ((0 : Int32) = (16 : Int32)) := by decide
  refine Own.icmpFn hx (Own.q_ne (0 : Int32) (16 : Int32)) (hb hby d5_14) (pcN := 17) rfl (by decide) (pcT := 99) rfl (fun _ => ?_) (fun q => absurd q hc1)
  exact Own.retV hx hret hlk (hb hby d5_99) (by decide) (by decide) ⟨rfl, rfl⟩

theorem pd0 : parseMethodDescriptor "()V" = some ⟨[], none⟩ := by decide +kernel
theorem d4_0 : decode prog_92_method_8_code 0 = .ok (.aload_n 0, 1) := by decide +kernel
theorem d4_1 : decode prog_92_method_8_code 1 = .ok (.getfield 30, 3) := by decide +kernel
theorem d4_4 : decode prog_92_method_8_code 4 = .ok (.ifCond .le 25, 3) := by decide +kernel
theorem d4_29 : decode prog_92_method_8_code 29 = .ok (.aload_n 0, 1) := by decide +kernel
theorem d4_30 : decode prog_92_method_8_code 30 = .ok (.invokevirtual 40, 3) := by decide +kernel
theorem d4_33 : decode prog_92_method_8_code 33 = .ok (.aload_n 0, 1) := by decide +kernel
theorem d4_34 : decode prog_92_method_8_code 34 = .ok (.getfield 13, 3) := by decide +kernel
theorem d4_37 : decode prog_92_method_8_code 37 = .ok (.aload_n 0, 1) := by decide +kernel
theorem d4_38 : decode prog_92_method_8_code 38 = .ok (.getfield 33, 3) := by decide +kernel
theorem d4_41 : decode prog_92_method_8_code 41 = .ok (.aload_n 0, 1) := by decide +kernel
theorem d4_42 : decode prog_92_method_8_code 42 = .ok (.getfield 30, 3) := by decide +kernel
theorem d4_45 : decode prog_92_method_8_code 45 = .ok (.iadd, 1) := by decide +kernel
theorem d4_46 : decode prog_92_method_8_code 46 = .ok (.lload_n 3, 1) := by decide +kernel
theorem d4_47 : decode prog_92_method_8_code 47 = .ok (.lastore, 1) := by decide +kernel
theorem d4_48 : decode prog_92_method_8_code 48 = .ok (.aload_n 0, 1) := by decide +kernel
theorem d4_49 : decode prog_92_method_8_code 49 = .ok (.getfield 7, 3) := by decide +kernel
theorem d4_52 : decode prog_92_method_8_code 52 = .ok (.aload_n 0, 1) := by decide +kernel
theorem d4_53 : decode prog_92_method_8_code 53 = .ok (.getfield 33, 3) := by decide +kernel
theorem d4_56 : decode prog_92_method_8_code 56 = .ok (.aload_n 0, 1) := by decide +kernel
theorem d4_57 : decode prog_92_method_8_code 57 = .ok (.dup, 1) := by decide +kernel
theorem d4_58 : decode prog_92_method_8_code 58 = .ok (.getfield 30, 3) := by decide +kernel
theorem d4_61 : decode prog_92_method_8_code 61 = .ok (.dup_x1, 1) := by decide +kernel
theorem d4_62 : decode prog_92_method_8_code 62 = .ok (.iconst 1, 1) := by decide +kernel
theorem d4_63 : decode prog_92_method_8_code 63 = .ok (.iadd, 1) := by decide +kernel
theorem d4_64 : decode prog_92_method_8_code 64 = .ok (.putfield 30, 3) := by decide +kernel
theorem d4_67 : decode prog_92_method_8_code 67 = .ok (.iadd, 1) := by decide +kernel
theorem d4_68 : decode prog_92_method_8_code 68 = .ok (.lload_n 1, 1) := by decide +kernel
theorem d4_69 : decode prog_92_method_8_code 69 = .ok (.lastore, 1) := by decide +kernel
theorem d4_70 : decode prog_92_method_8_code 70 = .ok (.return_, 1) := by decide +kernel
theorem pn3 : plainFor (⟨"com/example/tracewarden/tracewarden/monitor/Openings", "add", "(JJ)V"⟩ : MethodName) = true := by first | exact plainFor_of_name (by simp [plainName, overriddenIn]; done) | decide +kernel
theorem ef4_0 (m : MethodId) (o0 : Addr) (q1 : Int64) (q2 : Int64) : entryFrame m #[(.ref o0), (.long q1), (.long q2)] 5 = mkF m 0 #[.val (.ref o0), .val (.long q1), .second, .val (.long q2), .second] [] := by first | (simp [entryFrame, mkF, argsToLocals, Value.category]; done) | rfl
set_option maxRecDepth 65536 in
set_option maxHeartbeats 40000000 in
theorem rm4_0 (l : Launch) (Z : State) (a0 : Array Value) (hw : ∀ d ∈ tables_1, d.before a0 Z = true) (o0 : Addr) (q1 : Int64) (q2 : Int64) (h0 : Heap) (n0 : Nat) (ra rb : Addr) (u0 u1 u2 u3 u4 u5 u6 u7 u8 u9 u10 u11 u12 u13 u14 u15 t0 t1 t2 t3 t4 t5 t6 t7 t8 t9 t10 t11 t12 t13 t14 t15 : Int64) (fr : List (Addr × (Cell → Prop))) (O0 : Own.Owns n0 h0 ((o0, Own.ObjC Z "com/example/tracewarden/tracewarden/monitor/Openings" [(("com/example/tracewarden/tracewarden/monitor/Openings", "cells", "[J"), (.ref ra)), (("com/example/tracewarden/tracewarden/monitor/Openings", "inner", "[J"), (.ref rb)), (("com/example/tracewarden/tracewarden/monitor/Openings", "lastFound", "I"), (.int (-1 : Int32))), (("com/example/tracewarden/tracewarden/monitor/Openings", "foundBefore", "I"), (.int (-1 : Int32))), (("com/example/tracewarden/tracewarden/monitor/Openings", "count", "I"), (.int (0 : Int32))), (("com/example/tracewarden/tracewarden/monitor/Openings", "first", "I"), (.int (0 : Int32))), (("com/example/tracewarden/tracewarden/monitor/Openings", "times", "[Ljava/math/BigDecimal;"), .null)]) :: (ra, Own.ArrC Z .long [(.long u0), (.long u1), (.long u2), (.long u3), (.long u4), (.long u5), (.long u6), (.long u7), (.long u8), (.long u9), (.long u10), (.long u11), (.long u12), (.long u13), (.long u14), (.long u15)]) :: (rb, Own.ArrC Z .long [(.long t0), (.long t1), (.long t2), (.long t3), (.long t4), (.long t5), (.long t6), (.long t7), (.long t8), (.long t9), (.long t10), (.long t11), (.long t12), (.long t13), (.long t14), (.long t15)]) :: fr))  : Own.Does l (⟨"com/example/tracewarden/tracewarden/monitor/Openings", "add", "(JJ)V"⟩ : MethodName) prog_92_method_8_code 5 none [] ({ frames := 1, cells := 0, slots := 0, locals := 12 } : Room) Z #[(.ref o0), (.long q1), (.long q2)] h0 n0 (fun v h => v = none ∧ Own.Owns n0 h ((o0, Own.ObjC Z "com/example/tracewarden/tracewarden/monitor/Openings" [(("com/example/tracewarden/tracewarden/monitor/Openings", "cells", "[J"), (.ref ra)), (("com/example/tracewarden/tracewarden/monitor/Openings", "inner", "[J"), (.ref rb)), (("com/example/tracewarden/tracewarden/monitor/Openings", "lastFound", "I"), (.int (-1 : Int32))), (("com/example/tracewarden/tracewarden/monitor/Openings", "foundBefore", "I"), (.int (-1 : Int32))), (("com/example/tracewarden/tracewarden/monitor/Openings", "count", "I"), (.int (1 : Int32))), (("com/example/tracewarden/tracewarden/monitor/Openings", "first", "I"), (.int (0 : Int32))), (("com/example/tracewarden/tracewarden/monitor/Openings", "times", "[Ljava/math/BigDecimal;"), .null)]) :: (ra, Own.ArrC Z .long [(.long q1), (.long u1), (.long u2), (.long u3), (.long u4), (.long u5), (.long u6), (.long u7), (.long u8), (.long u9), (.long u10), (.long u11), (.long u12), (.long u13), (.long u14), (.long u15)]) :: (rb, Own.ArrC Z .long [(.long q2), (.long t1), (.long t2), (.long t3), (.long t4), (.long t5), (.long t6), (.long t7), (.long t8), (.long t9), (.long t10), (.long t11), (.long t12), (.long t13), (.long t14), (.long t15)]) :: fr)) := by
  refine Own.doesOf pn3 ?_
  intro p e s m below meth c hx hby hml hret hlk hown hnm hZ
  refine Own.Goes.cast (ef4_0 m o0 q1 q2) ?_
  refine Own.aloadN hx (.ref o0) (hb hby d4_0) rfl rfl rfl ?_
  refine Own.getfield hx hZ hown O0 0 4 rfl rfl (hw _ (List.mem_of_getElem? (i := 28) rfl)) (hb hby d4_1) rfl ?_
  have hc1 : ¬ ((0 : Int32) < (0 : Int32)) := by decide
  refine Own.ifFn hx (Own.z_le (0 : Int32)) (hb hby d4_4) (pcN := 7) rfl (by decide) (pcT := 29) rfl (fun _ => ?_) (fun q => absurd q hc1)
  refine Own.aloadN hx (.ref o0) (hb hby d4_29) rfl rfl rfl ?_
  refine Own.callP hx hZ hown (O0.exa (i := 0) rfl) (hw _ (List.mem_of_getElem? (i := 30) rfl)) (hw _ (List.mem_of_getElem? (i := 31) rfl)) (hw _ (List.mem_of_getElem? (i := 6) rfl)) (hw _ (List.mem_of_getElem? (i := 32) rfl)) (hw _ (List.mem_of_getElem? (i := 7) rfl)) (hw _ (List.mem_of_getElem? (i := 33) rfl)) (by decide) pd0 (argsL := []) (rest := []) rfl (W := 0) (Nat.le_of_eq rfl) (rm := ({ frames := 0, cells := 0, slots := 0, locals := 0 } : Room)) (by decide) (by decide) (by decide) (by decide) (k' := 0) (n' := 0) rfl rfl (by rw [hml]; rfl) [(.ref o0)] rfl (hb hby d4_30) (pc' := 33) rfl (rm5_0 l Z a0 hw o0 h0 n0 ra rb u0 u1 u2 u3 u4 u5 u6 u7 u8 u9 u10 u11 u12 u13 u14 u15 t0 t1 t2 t3 t4 t5 t6 t7 t8 t9 t10 t11 t12 t13 t14 t15 fr O0) ?_
  rintro _ h' ⟨rfl, eh⟩
  rw [eh]; clear eh h'
  show Own.Goes _ _ _ _ _ _ _ _ _ _ _ _ _ _ _ _ _ (mkF m 33 #[.val (.ref o0), .val (.long q1), .second, .val (.long q2), .second] [])
  refine Own.aloadN hx (.ref o0) (hb hby d4_33) rfl rfl rfl ?_
  refine Own.getfield hx hZ hown O0 0 1 rfl rfl (hw _ (List.mem_of_getElem? (i := 17) rfl)) (hb hby d4_34) rfl ?_
  refine Own.aloadN hx (.ref o0) (hb hby d4_37) rfl rfl rfl ?_
  refine Own.getfield hx hZ hown O0 0 5 rfl rfl (hw _ (List.mem_of_getElem? (i := 34) rfl)) (hb hby d4_38) rfl ?_
  refine Own.aloadN hx (.ref o0) (hb hby d4_41) rfl rfl rfl ?_
  refine Own.getfield hx hZ hown O0 0 4 rfl rfl (hw _ (List.mem_of_getElem? (i := 28) rfl)) (hb hby d4_42) rfl ?_
  refine Own.iadd hx (hb hby d4_45) rfl ?_
  refine Own.vI (0 : Int32) (by decide) ?_
  refine Own.lloadN hx q2 (hb hby d4_46) rfl rfl ?_
  refine Own.lastore hx hZ O0 2 0 rfl (by decide) (by exact (show 0 < 16 by decide)) ((o0, Own.ObjC Z "com/example/tracewarden/tracewarden/monitor/Openings" [(("com/example/tracewarden/tracewarden/monitor/Openings", "cells", "[J"), (.ref ra)), (("com/example/tracewarden/tracewarden/monitor/Openings", "inner", "[J"), (.ref rb)), (("com/example/tracewarden/tracewarden/monitor/Openings", "lastFound", "I"), (.int (-1 : Int32))), (("com/example/tracewarden/tracewarden/monitor/Openings", "foundBefore", "I"), (.int (-1 : Int32))), (("com/example/tracewarden/tracewarden/monitor/Openings", "count", "I"), (.int (0 : Int32))), (("com/example/tracewarden/tracewarden/monitor/Openings", "first", "I"), (.int (0 : Int32))), (("com/example/tracewarden/tracewarden/monitor/Openings", "times", "[Ljava/math/BigDecimal;"), .null)]) :: (ra, Own.ArrC Z .long [(.long u0), (.long u1), (.long u2), (.long u3), (.long u4), (.long u5), (.long u6), (.long u7), (.long u8), (.long u9), (.long u10), (.long u11), (.long u12), (.long u13), (.long u14), (.long u15)]) :: (rb, Own.ArrC Z .long [(.long q2), (.long t1), (.long t2), (.long t3), (.long t4), (.long t5), (.long t6), (.long t7), (.long t8), (.long t9), (.long t10), (.long t11), (.long t12), (.long t13), (.long t14), (.long t15)]) :: fr) rfl (hb hby d4_47) rfl ?_
  intro h3 O4
  refine Own.aloadN hx (.ref o0) (hb hby d4_48) rfl rfl rfl ?_
  refine Own.getfield hx hZ hown O4 0 0 rfl rfl (hw _ (List.mem_of_getElem? (i := 15) rfl)) (hb hby d4_49) rfl ?_
  refine Own.aloadN hx (.ref o0) (hb hby d4_52) rfl rfl rfl ?_
  refine Own.getfield hx hZ hown O4 0 5 rfl rfl (hw _ (List.mem_of_getElem? (i := 34) rfl)) (hb hby d4_53) rfl ?_
  refine Own.aloadN hx (.ref o0) (hb hby d4_56) rfl rfl rfl ?_
  refine Own.dup hx (hb hby d4_57) rfl rfl ?_
  refine Own.getfield hx hZ hown O4 0 4 rfl rfl (hw _ (List.mem_of_getElem? (i := 28) rfl)) (hb hby d4_58) rfl ?_
  refine Own.dupX1 hx (hb hby d4_61) rfl rfl rfl ?_
  refine Own.iconst hx (1 : Int32) (hb hby d4_62) rfl (by decide) ?_
  refine Own.iadd hx (hb hby d4_63) rfl ?_
  refine Own.vI (1 : Int32) (by decide) ?_
  refine Own.putfield hx hZ hown O4 0 4 rfl rfl (hw _ (List.mem_of_getElem? (i := 28) rfl)) (Or.inl (hw _ (List.mem_of_getElem? (i := 29) rfl))) (hw _ (List.mem_of_getElem? (i := 6) rfl)) (ty := .int) (by decide) rfl rfl ((o0, Own.ObjC Z "com/example/tracewarden/tracewarden/monitor/Openings" [(("com/example/tracewarden/tracewarden/monitor/Openings", "cells", "[J"), (.ref ra)), (("com/example/tracewarden/tracewarden/monitor/Openings", "inner", "[J"), (.ref rb)), (("com/example/tracewarden/tracewarden/monitor/Openings", "lastFound", "I"), (.int (-1 : Int32))), (("com/example/tracewarden/tracewarden/monitor/Openings", "foundBefore", "I"), (.int (-1 : Int32))), (("com/example/tracewarden/tracewarden/monitor/Openings", "count", "I"), (.int (1 : Int32))), (("com/example/tracewarden/tracewarden/monitor/Openings", "first", "I"), (.int (0 : Int32))), (("com/example/tracewarden/tracewarden/monitor/Openings", "times", "[Ljava/math/BigDecimal;"), .null)]) :: (ra, Own.ArrC Z .long [(.long u0), (.long u1), (.long u2), (.long u3), (.long u4), (.long u5), (.long u6), (.long u7), (.long u8), (.long u9), (.long u10), (.long u11), (.long u12), (.long u13), (.long u14), (.long u15)]) :: (rb, Own.ArrC Z .long [(.long q2), (.long t1), (.long t2), (.long t3), (.long t4), (.long t5), (.long t6), (.long t7), (.long t8), (.long t9), (.long t10), (.long t11), (.long t12), (.long t13), (.long t14), (.long t15)]) :: fr) rfl (hb hby d4_64) rfl ?_
  intro h5 O6
  refine Own.iadd hx (hb hby d4_67) rfl ?_
  refine Own.vI (0 : Int32) (by decide) ?_
  refine Own.lloadN hx q1 (hb hby d4_68) rfl rfl ?_
  refine Own.lastore hx hZ O6 1 0 rfl (by decide) (by exact (show 0 < 16 by decide)) ((o0, Own.ObjC Z "com/example/tracewarden/tracewarden/monitor/Openings" [(("com/example/tracewarden/tracewarden/monitor/Openings", "cells", "[J"), (.ref ra)), (("com/example/tracewarden/tracewarden/monitor/Openings", "inner", "[J"), (.ref rb)), (("com/example/tracewarden/tracewarden/monitor/Openings", "lastFound", "I"), (.int (-1 : Int32))), (("com/example/tracewarden/tracewarden/monitor/Openings", "foundBefore", "I"), (.int (-1 : Int32))), (("com/example/tracewarden/tracewarden/monitor/Openings", "count", "I"), (.int (1 : Int32))), (("com/example/tracewarden/tracewarden/monitor/Openings", "first", "I"), (.int (0 : Int32))), (("com/example/tracewarden/tracewarden/monitor/Openings", "times", "[Ljava/math/BigDecimal;"), .null)]) :: (ra, Own.ArrC Z .long [(.long q1), (.long u1), (.long u2), (.long u3), (.long u4), (.long u5), (.long u6), (.long u7), (.long u8), (.long u9), (.long u10), (.long u11), (.long u12), (.long u13), (.long u14), (.long u15)]) :: (rb, Own.ArrC Z .long [(.long q2), (.long t1), (.long t2), (.long t3), (.long t4), (.long t5), (.long t6), (.long t7), (.long t8), (.long t9), (.long t10), (.long t11), (.long t12), (.long t13), (.long t14), (.long t15)]) :: fr) rfl (hb hby d4_69) rfl ?_
  intro h7 O8
  exact Own.retV hx hret hlk (hb hby d4_70) (by decide) (by decide) ⟨rfl, O8⟩

theorem ef5_1 (m : MethodId) (o0 : Addr) : entryFrame m #[(.ref o0)] 1 = mkF m 0 #[.val (.ref o0)] [] := by first | (simp [entryFrame, mkF, argsToLocals, Value.category]; done) | rfl
set_option maxRecDepth 65536 in
set_option maxHeartbeats 40000000 in
theorem rm5_1 (l : Launch) (Z : State) (a0 : Array Value) (hw : ∀ d ∈ tables_1, d.before a0 Z = true) (o0 : Addr) (h0 : Heap) (n0 : Nat) (ra rb : Addr) (u0 u1 u2 u3 u4 u5 u6 u7 u8 u9 u10 u11 u12 u13 u14 u15 t0 t1 t2 t3 t4 t5 t6 t7 t8 t9 t10 t11 t12 t13 t14 t15 : Int64) (fr : List (Addr × (Cell → Prop))) (O0 : Own.Owns n0 h0 ((o0, Own.ObjC Z "com/example/tracewarden/tracewarden/monitor/Openings" [(("com/example/tracewarden/tracewarden/monitor/Openings", "cells", "[J"), (.ref ra)), (("com/example/tracewarden/tracewarden/monitor/Openings", "inner", "[J"), (.ref rb)), (("com/example/tracewarden/tracewarden/monitor/Openings", "lastFound", "I"), (.int (-1 : Int32))), (("com/example/tracewarden/tracewarden/monitor/Openings", "foundBefore", "I"), (.int (-1 : Int32))), (("com/example/tracewarden/tracewarden/monitor/Openings", "count", "I"), (.int (1 : Int32))), (("com/example/tracewarden/tracewarden/monitor/Openings", "first", "I"), (.int (0 : Int32))), (("com/example/tracewarden/tracewarden/monitor/Openings", "times", "[Ljava/math/BigDecimal;"), .null)]) :: (ra, Own.ArrC Z .long [(.long u0), (.long u1), (.long u2), (.long u3), (.long u4), (.long u5), (.long u6), (.long u7), (.long u8), (.long u9), (.long u10), (.long u11), (.long u12), (.long u13), (.long u14), (.long u15)]) :: (rb, Own.ArrC Z .long [(.long t0), (.long t1), (.long t2), (.long t3), (.long t4), (.long t5), (.long t6), (.long t7), (.long t8), (.long t9), (.long t10), (.long t11), (.long t12), (.long t13), (.long t14), (.long t15)]) :: fr))  : Own.Does l (⟨"com/example/tracewarden/tracewarden/monitor/Openings", "makeRoom", "()V"⟩ : MethodName) prog_92_method_10_code 1 none [] ({ frames := 0, cells := 0, slots := 0, locals := 0 } : Room) Z #[(.ref o0)] h0 n0 (fun v h => v = none ∧ h = h0) := by
  refine Own.doesOf pn2 ?_
  intro p e s m below meth c hx hby hml hret hlk hown hnm hZ
  refine Own.Goes.cast (ef5_1 m o0) ?_
  refine Own.aloadN hx (.ref o0) (hb hby d5_0) rfl rfl rfl ?_
  refine Own.getfield hx hZ hown O0 0 5 rfl rfl (hw _ (List.mem_of_getElem? (i := 34) rfl)) (hb hby d5_1) rfl ?_
  refine Own.aloadN hx (.ref o0) (hb hby d5_4) rfl rfl rfl ?_
  refine Own.getfield hx hZ hown O0 0 4 rfl rfl (hw _ (List.mem_of_getElem? (i := 28) rfl)) (hb hby d5_5) rfl ?_
  refine Own.iadd hx (hb hby d5_8) rfl ?_
  refine Own.vI (1 : Int32) (by decide) ?_
  refine Own.aloadN hx (.ref o0) (hb hby d5_9) rfl rfl rfl ?_
  refine Own.getfield hx hZ hown O0 0 0 rfl rfl (hw _ (List.mem_of_getElem? (i := 15) rfl)) (hb hby d5_10) rfl ?_
  refine Own.arrlen hx hZ O0 1 rfl (16 : Int32) rfl (hb hby d5_13) rfl ?_
  have hc1 : ¬ ((1 : Int32) = (16 : Int32)) := by decide
  refine Own.icmpFn hx (Own.q_ne (1 : Int32) (16 : Int32)) (hb hby d5_14) (pcN := 17) rfl (by decide) (pcT := 99) rfl (fun _ => ?_) (fun q => absurd q hc1)
  exact Own.retV hx hret hlk (hb hby d5_99) (by decide) (by decide) ⟨rfl, rfl⟩

theorem d4_7 : decode prog_92_method_8_code 7 = .ok (.aload_n 0, 1) := by decide +kernel
theorem d4_8 : decode prog_92_method_8_code 8 = .ok (.getfield 7, 3) := by decide +kernel
theorem d4_11 : decode prog_92_method_8_code 11 = .ok (.aload_n 0, 1) := by decide +kernel
theorem d4_12 : decode prog_92_method_8_code 12 = .ok (.getfield 33, 3) := by decide +kernel
theorem d4_15 : decode prog_92_method_8_code 15 = .ok (.aload_n 0, 1) := by decide +kernel
theorem d4_16 : decode prog_92_method_8_code 16 = .ok (.getfield 30, 3) := by decide +kernel
theorem d4_19 : decode prog_92_method_8_code 19 = .ok (.iadd, 1) := by decide +kernel
theorem d4_20 : decode prog_92_method_8_code 20 = .ok (.iconst 1, 1) := by decide +kernel
theorem d4_21 : decode prog_92_method_8_code 21 = .ok (.isub, 1) := by decide +kernel
theorem d4_22 : decode prog_92_method_8_code 22 = .ok (.laload, 1) := by decide +kernel
theorem d4_23 : decode prog_92_method_8_code 23 = .ok (.lload_n 1, 1) := by decide +kernel
theorem d4_24 : decode prog_92_method_8_code 24 = .ok (.lcmp, 1) := by decide +kernel
theorem d4_25 : decode prog_92_method_8_code 25 = .ok (.ifCond .ne 4, 3) := by decide +kernel
theorem ef4_1 (m : MethodId) (o0 : Addr) (q1 : Int64) (q2 : Int64) : entryFrame m #[(.ref o0), (.long q1), (.long q2)] 5 = mkF m 0 #[.val (.ref o0), .val (.long q1), .second, .val (.long q2), .second] [] := by first | (simp [entryFrame, mkF, argsToLocals, Value.category]; done) | rfl
set_option maxRecDepth 65536 in
set_option maxHeartbeats 40000000 in
theorem rm4_1 (l : Launch) (Z : State) (a0 : Array Value) (hw : ∀ d ∈ tables_1, d.before a0 Z = true) (o0 : Addr) (q1 : Int64) (q2 : Int64) (h0 : Heap) (n0 : Nat) (ra rb : Addr) (u0 u1 u2 u3 u4 u5 u6 u7 u8 u9 u10 u11 u12 u13 u14 u15 t0 t1 t2 t3 t4 t5 t6 t7 t8 t9 t10 t11 t12 t13 t14 t15 : Int64) (fr : List (Addr × (Cell → Prop))) (O0 : Own.Owns n0 h0 ((o0, Own.ObjC Z "com/example/tracewarden/tracewarden/monitor/Openings" [(("com/example/tracewarden/tracewarden/monitor/Openings", "cells", "[J"), (.ref ra)), (("com/example/tracewarden/tracewarden/monitor/Openings", "inner", "[J"), (.ref rb)), (("com/example/tracewarden/tracewarden/monitor/Openings", "lastFound", "I"), (.int (-1 : Int32))), (("com/example/tracewarden/tracewarden/monitor/Openings", "foundBefore", "I"), (.int (-1 : Int32))), (("com/example/tracewarden/tracewarden/monitor/Openings", "count", "I"), (.int (1 : Int32))), (("com/example/tracewarden/tracewarden/monitor/Openings", "first", "I"), (.int (0 : Int32))), (("com/example/tracewarden/tracewarden/monitor/Openings", "times", "[Ljava/math/BigDecimal;"), .null)]) :: (ra, Own.ArrC Z .long [(.long u0), (.long u1), (.long u2), (.long u3), (.long u4), (.long u5), (.long u6), (.long u7), (.long u8), (.long u9), (.long u10), (.long u11), (.long u12), (.long u13), (.long u14), (.long u15)]) :: (rb, Own.ArrC Z .long [(.long t0), (.long t1), (.long t2), (.long t3), (.long t4), (.long t5), (.long t6), (.long t7), (.long t8), (.long t9), (.long t10), (.long t11), (.long t12), (.long t13), (.long t14), (.long t15)]) :: fr)) (hne : ¬ (u0 = q1)) : Own.Does l (⟨"com/example/tracewarden/tracewarden/monitor/Openings", "add", "(JJ)V"⟩ : MethodName) prog_92_method_8_code 5 none [] ({ frames := 1, cells := 0, slots := 0, locals := 12 } : Room) Z #[(.ref o0), (.long q1), (.long q2)] h0 n0 (fun v h => v = none ∧ Own.Owns n0 h ((o0, Own.ObjC Z "com/example/tracewarden/tracewarden/monitor/Openings" [(("com/example/tracewarden/tracewarden/monitor/Openings", "cells", "[J"), (.ref ra)), (("com/example/tracewarden/tracewarden/monitor/Openings", "inner", "[J"), (.ref rb)), (("com/example/tracewarden/tracewarden/monitor/Openings", "lastFound", "I"), (.int (-1 : Int32))), (("com/example/tracewarden/tracewarden/monitor/Openings", "foundBefore", "I"), (.int (-1 : Int32))), (("com/example/tracewarden/tracewarden/monitor/Openings", "count", "I"), (.int (2 : Int32))), (("com/example/tracewarden/tracewarden/monitor/Openings", "first", "I"), (.int (0 : Int32))), (("com/example/tracewarden/tracewarden/monitor/Openings", "times", "[Ljava/math/BigDecimal;"), .null)]) :: (ra, Own.ArrC Z .long [(.long u0), (.long q1), (.long u2), (.long u3), (.long u4), (.long u5), (.long u6), (.long u7), (.long u8), (.long u9), (.long u10), (.long u11), (.long u12), (.long u13), (.long u14), (.long u15)]) :: (rb, Own.ArrC Z .long [(.long t0), (.long q2), (.long t2), (.long t3), (.long t4), (.long t5), (.long t6), (.long t7), (.long t8), (.long t9), (.long t10), (.long t11), (.long t12), (.long t13), (.long t14), (.long t15)]) :: fr)) := by
  refine Own.doesOf pn3 ?_
  intro p e s m below meth c hx hby hml hret hlk hown hnm hZ
  refine Own.Goes.cast (ef4_1 m o0 q1 q2) ?_
  refine Own.aloadN hx (.ref o0) (hb hby d4_0) rfl rfl rfl ?_
  refine Own.getfield hx hZ hown O0 0 4 rfl rfl (hw _ (List.mem_of_getElem? (i := 28) rfl)) (hb hby d4_1) rfl ?_
  have hc1 : (0 : Int32) < (1 : Int32) := by decide
  refine Own.ifFn hx (Own.z_le (1 : Int32)) (hb hby d4_4) (pcN := 7) rfl (by decide) (pcT := 29) rfl (fun q => absurd hc1 q) (fun _ => ?_)
  refine Own.aloadN hx (.ref o0) (hb hby d4_7) rfl rfl rfl ?_
  refine Own.getfield hx hZ hown O0 0 0 rfl rfl (hw _ (List.mem_of_getElem? (i := 15) rfl)) (hb hby d4_8) rfl ?_
  refine Own.aloadN hx (.ref o0) (hb hby d4_11) rfl rfl rfl ?_
  refine Own.getfield hx hZ hown O0 0 5 rfl rfl (hw _ (List.mem_of_getElem? (i := 34) rfl)) (hb hby d4_12) rfl ?_
  refine Own.aloadN hx (.ref o0) (hb hby d4_15) rfl rfl rfl ?_
  refine Own.getfield hx hZ hown O0 0 4 rfl rfl (hw _ (List.mem_of_getElem? (i := 28) rfl)) (hb hby d4_16) rfl ?_
  refine Own.iadd hx (hb hby d4_19) rfl ?_
  refine Own.vI (1 : Int32) (by decide) ?_
  refine Own.iconst hx (1 : Int32) (hb hby d4_20) rfl (by decide) ?_
  refine Own.isub hx (hb hby d4_21) rfl ?_
  refine Own.vI (0 : Int32) (by decide) ?_
  refine Own.laload hx hZ O0 1 0 rfl (by decide) (v := (.long u0)) rfl (hb hby d4_22) rfl ?_
  refine Own.lloadN hx q1 (hb hby d4_23) rfl rfl ?_
  refine Own.lcmp hx (hb hby d4_24) rfl ?_
  have hc3 : ¬ (u0 = q1) := hne
  refine Own.ifFn hx (Own.w_ne u0 q1) (hb hby d4_25) (pcN := 28) rfl (by decide) (pcT := 29) rfl (fun _ => ?_) (fun q => absurd q hc3)
  refine Own.aloadN hx (.ref o0) (hb hby d4_29) rfl rfl rfl ?_
  refine Own.callP hx hZ hown (O0.exa (i := 0) rfl) (hw _ (List.mem_of_getElem? (i := 30) rfl)) (hw _ (List.mem_of_getElem? (i := 31) rfl)) (hw _ (List.mem_of_getElem? (i := 6) rfl)) (hw _ (List.mem_of_getElem? (i := 32) rfl)) (hw _ (List.mem_of_getElem? (i := 7) rfl)) (hw _ (List.mem_of_getElem? (i := 33) rfl)) (by decide) pd0 (argsL := []) (rest := []) rfl (W := 0) (Nat.le_of_eq rfl) (rm := ({ frames := 0, cells := 0, slots := 0, locals := 0 } : Room)) (by decide) (by decide) (by decide) (by decide) (k' := 0) (n' := 0) rfl rfl (by rw [hml]; rfl) [(.ref o0)] rfl (hb hby d4_30) (pc' := 33) rfl (rm5_1 l Z a0 hw o0 h0 n0 ra rb u0 u1 u2 u3 u4 u5 u6 u7 u8 u9 u10 u11 u12 u13 u14 u15 t0 t1 t2 t3 t4 t5 t6 t7 t8 t9 t10 t11 t12 t13 t14 t15 fr O0) ?_
  rintro _ h' ⟨rfl, eh⟩
  rw [eh]; clear eh h'
  show Own.Goes _ _ _ _ _ _ _ _ _ _ _ _ _ _ _ _ _ (mkF m 33 #[.val (.ref o0), .val (.long q1), .second, .val (.long q2), .second] [])
  refine Own.aloadN hx (.ref o0) (hb hby d4_33) rfl rfl rfl ?_
  refine Own.getfield hx hZ hown O0 0 1 rfl rfl (hw _ (List.mem_of_getElem? (i := 17) rfl)) (hb hby d4_34) rfl ?_
  refine Own.aloadN hx (.ref o0) (hb hby d4_37) rfl rfl rfl ?_
  refine Own.getfield hx hZ hown O0 0 5 rfl rfl (hw _ (List.mem_of_getElem? (i := 34) rfl)) (hb hby d4_38) rfl ?_
  refine Own.aloadN hx (.ref o0) (hb hby d4_41) rfl rfl rfl ?_
  refine Own.getfield hx hZ hown O0 0 4 rfl rfl (hw _ (List.mem_of_getElem? (i := 28) rfl)) (hb hby d4_42) rfl ?_
  refine Own.iadd hx (hb hby d4_45) rfl ?_
  refine Own.vI (1 : Int32) (by decide) ?_
  refine Own.lloadN hx q2 (hb hby d4_46) rfl rfl ?_
  refine Own.lastore hx hZ O0 2 1 rfl (by decide) (by exact (show 1 < 16 by decide)) ((o0, Own.ObjC Z "com/example/tracewarden/tracewarden/monitor/Openings" [(("com/example/tracewarden/tracewarden/monitor/Openings", "cells", "[J"), (.ref ra)), (("com/example/tracewarden/tracewarden/monitor/Openings", "inner", "[J"), (.ref rb)), (("com/example/tracewarden/tracewarden/monitor/Openings", "lastFound", "I"), (.int (-1 : Int32))), (("com/example/tracewarden/tracewarden/monitor/Openings", "foundBefore", "I"), (.int (-1 : Int32))), (("com/example/tracewarden/tracewarden/monitor/Openings", "count", "I"), (.int (1 : Int32))), (("com/example/tracewarden/tracewarden/monitor/Openings", "first", "I"), (.int (0 : Int32))), (("com/example/tracewarden/tracewarden/monitor/Openings", "times", "[Ljava/math/BigDecimal;"), .null)]) :: (ra, Own.ArrC Z .long [(.long u0), (.long u1), (.long u2), (.long u3), (.long u4), (.long u5), (.long u6), (.long u7), (.long u8), (.long u9), (.long u10), (.long u11), (.long u12), (.long u13), (.long u14), (.long u15)]) :: (rb, Own.ArrC Z .long [(.long t0), (.long q2), (.long t2), (.long t3), (.long t4), (.long t5), (.long t6), (.long t7), (.long t8), (.long t9), (.long t10), (.long t11), (.long t12), (.long t13), (.long t14), (.long t15)]) :: fr) rfl (hb hby d4_47) rfl ?_
  intro h5 O6
  refine Own.aloadN hx (.ref o0) (hb hby d4_48) rfl rfl rfl ?_
  refine Own.getfield hx hZ hown O6 0 0 rfl rfl (hw _ (List.mem_of_getElem? (i := 15) rfl)) (hb hby d4_49) rfl ?_
  refine Own.aloadN hx (.ref o0) (hb hby d4_52) rfl rfl rfl ?_
  refine Own.getfield hx hZ hown O6 0 5 rfl rfl (hw _ (List.mem_of_getElem? (i := 34) rfl)) (hb hby d4_53) rfl ?_
  refine Own.aloadN hx (.ref o0) (hb hby d4_56) rfl rfl rfl ?_
  refine Own.dup hx (hb hby d4_57) rfl rfl ?_
  refine Own.getfield hx hZ hown O6 0 4 rfl rfl (hw _ (List.mem_of_getElem? (i := 28) rfl)) (hb hby d4_58) rfl ?_
  refine Own.dupX1 hx (hb hby d4_61) rfl rfl rfl ?_
  refine Own.iconst hx (1 : Int32) (hb hby d4_62) rfl (by decide) ?_
  refine Own.iadd hx (hb hby d4_63) rfl ?_
  refine Own.vI (2 : Int32) (by decide) ?_
  refine Own.putfield hx hZ hown O6 0 4 rfl rfl (hw _ (List.mem_of_getElem? (i := 28) rfl)) (Or.inl (hw _ (List.mem_of_getElem? (i := 29) rfl))) (hw _ (List.mem_of_getElem? (i := 6) rfl)) (ty := .int) (by decide) rfl rfl ((o0, Own.ObjC Z "com/example/tracewarden/tracewarden/monitor/Openings" [(("com/example/tracewarden/tracewarden/monitor/Openings", "cells", "[J"), (.ref ra)), (("com/example/tracewarden/tracewarden/monitor/Openings", "inner", "[J"), (.ref rb)), (("com/example/tracewarden/tracewarden/monitor/Openings", "lastFound", "I"), (.int (-1 : Int32))), (("com/example/tracewarden/tracewarden/monitor/Openings", "foundBefore", "I"), (.int (-1 : Int32))), (("com/example/tracewarden/tracewarden/monitor/Openings", "count", "I"), (.int (2 : Int32))), (("com/example/tracewarden/tracewarden/monitor/Openings", "first", "I"), (.int (0 : Int32))), (("com/example/tracewarden/tracewarden/monitor/Openings", "times", "[Ljava/math/BigDecimal;"), .null)]) :: (ra, Own.ArrC Z .long [(.long u0), (.long u1), (.long u2), (.long u3), (.long u4), (.long u5), (.long u6), (.long u7), (.long u8), (.long u9), (.long u10), (.long u11), (.long u12), (.long u13), (.long u14), (.long u15)]) :: (rb, Own.ArrC Z .long [(.long t0), (.long q2), (.long t2), (.long t3), (.long t4), (.long t5), (.long t6), (.long t7), (.long t8), (.long t9), (.long t10), (.long t11), (.long t12), (.long t13), (.long t14), (.long t15)]) :: fr) rfl (hb hby d4_64) rfl ?_
  intro h7 O8
  refine Own.iadd hx (hb hby d4_67) rfl ?_
  refine Own.vI (1 : Int32) (by decide) ?_
  refine Own.lloadN hx q1 (hb hby d4_68) rfl rfl ?_
  refine Own.lastore hx hZ O8 1 1 rfl (by decide) (by exact (show 1 < 16 by decide)) ((o0, Own.ObjC Z "com/example/tracewarden/tracewarden/monitor/Openings" [(("com/example/tracewarden/tracewarden/monitor/Openings", "cells", "[J"), (.ref ra)), (("com/example/tracewarden/tracewarden/monitor/Openings", "inner", "[J"), (.ref rb)), (("com/example/tracewarden/tracewarden/monitor/Openings", "lastFound", "I"), (.int (-1 : Int32))), (("com/example/tracewarden/tracewarden/monitor/Openings", "foundBefore", "I"), (.int (-1 : Int32))), (("com/example/tracewarden/tracewarden/monitor/Openings", "count", "I"), (.int (2 : Int32))), (("com/example/tracewarden/tracewarden/monitor/Openings", "first", "I"), (.int (0 : Int32))), (("com/example/tracewarden/tracewarden/monitor/Openings", "times", "[Ljava/math/BigDecimal;"), .null)]) :: (ra, Own.ArrC Z .long [(.long u0), (.long q1), (.long u2), (.long u3), (.long u4), (.long u5), (.long u6), (.long u7), (.long u8), (.long u9), (.long u10), (.long u11), (.long u12), (.long u13), (.long u14), (.long u15)]) :: (rb, Own.ArrC Z .long [(.long t0), (.long q2), (.long t2), (.long t3), (.long t4), (.long t5), (.long t6), (.long t7), (.long t8), (.long t9), (.long t10), (.long t11), (.long t12), (.long t13), (.long t14), (.long t15)]) :: fr) rfl (hb hby d4_69) rfl ?_
  intro h9 O10
  exact Own.retV hx hret hlk (hb hby d4_70) (by decide) (by decide) ⟨rfl, O10⟩

theorem ef5_2 (m : MethodId) (o0 : Addr) : entryFrame m #[(.ref o0)] 1 = mkF m 0 #[.val (.ref o0)] [] := by first | (simp [entryFrame, mkF, argsToLocals, Value.category]; done) | rfl
set_option maxRecDepth 65536 in
set_option maxHeartbeats 40000000 in
theorem rm5_2 (l : Launch) (Z : State) (a0 : Array Value) (hw : ∀ d ∈ tables_1, d.before a0 Z = true) (o0 : Addr) (h0 : Heap) (n0 : Nat) (ra rb : Addr) (u0 u1 u2 u3 u4 u5 u6 u7 u8 u9 u10 u11 u12 u13 u14 u15 t0 t1 t2 t3 t4 t5 t6 t7 t8 t9 t10 t11 t12 t13 t14 t15 : Int64) (fr : List (Addr × (Cell → Prop))) (O0 : Own.Owns n0 h0 ((o0, Own.ObjC Z "com/example/tracewarden/tracewarden/monitor/Openings" [(("com/example/tracewarden/tracewarden/monitor/Openings", "cells", "[J"), (.ref ra)), (("com/example/tracewarden/tracewarden/monitor/Openings", "inner", "[J"), (.ref rb)), (("com/example/tracewarden/tracewarden/monitor/Openings", "lastFound", "I"), (.int (-1 : Int32))), (("com/example/tracewarden/tracewarden/monitor/Openings", "foundBefore", "I"), (.int (-1 : Int32))), (("com/example/tracewarden/tracewarden/monitor/Openings", "count", "I"), (.int (2 : Int32))), (("com/example/tracewarden/tracewarden/monitor/Openings", "first", "I"), (.int (0 : Int32))), (("com/example/tracewarden/tracewarden/monitor/Openings", "times", "[Ljava/math/BigDecimal;"), .null)]) :: (ra, Own.ArrC Z .long [(.long u0), (.long u1), (.long u2), (.long u3), (.long u4), (.long u5), (.long u6), (.long u7), (.long u8), (.long u9), (.long u10), (.long u11), (.long u12), (.long u13), (.long u14), (.long u15)]) :: (rb, Own.ArrC Z .long [(.long t0), (.long t1), (.long t2), (.long t3), (.long t4), (.long t5), (.long t6), (.long t7), (.long t8), (.long t9), (.long t10), (.long t11), (.long t12), (.long t13), (.long t14), (.long t15)]) :: fr))  : Own.Does l (⟨"com/example/tracewarden/tracewarden/monitor/Openings", "makeRoom", "()V"⟩ : MethodName) prog_92_method_10_code 1 none [] ({ frames := 0, cells := 0, slots := 0, locals := 0 } : Room) Z #[(.ref o0)] h0 n0 (fun v h => v = none ∧ h = h0) := by
  refine Own.doesOf pn2 ?_
  intro p e s m below meth c hx hby hml hret hlk hown hnm hZ
  refine Own.Goes.cast (ef5_2 m o0) ?_
  refine Own.aloadN hx (.ref o0) (hb hby d5_0) rfl rfl rfl ?_
  refine Own.getfield hx hZ hown O0 0 5 rfl rfl (hw _ (List.mem_of_getElem? (i := 34) rfl)) (hb hby d5_1) rfl ?_
  refine Own.aloadN hx (.ref o0) (hb hby d5_4) rfl rfl rfl ?_
  refine Own.getfield hx hZ hown O0 0 4 rfl rfl (hw _ (List.mem_of_getElem? (i := 28) rfl)) (hb hby d5_5) rfl ?_
  refine Own.iadd hx (hb hby d5_8) rfl ?_
  refine Own.vI (2 : Int32) (by decide) ?_
  refine Own.aloadN hx (.ref o0) (hb hby d5_9) rfl rfl rfl ?_
  refine Own.getfield hx hZ hown O0 0 0 rfl rfl (hw _ (List.mem_of_getElem? (i := 15) rfl)) (hb hby d5_10) rfl ?_
  refine Own.arrlen hx hZ O0 1 rfl (16 : Int32) rfl (hb hby d5_13) rfl ?_
  have hc1 : ¬ ((2 : Int32) = (16 : Int32)) := by decide
  refine Own.icmpFn hx (Own.q_ne (2 : Int32) (16 : Int32)) (hb hby d5_14) (pcN := 17) rfl (by decide) (pcT := 99) rfl (fun _ => ?_) (fun q => absurd q hc1)
  exact Own.retV hx hret hlk (hb hby d5_99) (by decide) (by decide) ⟨rfl, rfl⟩

theorem ef4_2 (m : MethodId) (o0 : Addr) (q1 : Int64) (q2 : Int64) : entryFrame m #[(.ref o0), (.long q1), (.long q2)] 5 = mkF m 0 #[.val (.ref o0), .val (.long q1), .second, .val (.long q2), .second] [] := by first | (simp [entryFrame, mkF, argsToLocals, Value.category]; done) | rfl
set_option maxRecDepth 65536 in
set_option maxHeartbeats 40000000 in
theorem rm4_2 (l : Launch) (Z : State) (a0 : Array Value) (hw : ∀ d ∈ tables_1, d.before a0 Z = true) (o0 : Addr) (q1 : Int64) (q2 : Int64) (h0 : Heap) (n0 : Nat) (ra rb : Addr) (u0 u1 u2 u3 u4 u5 u6 u7 u8 u9 u10 u11 u12 u13 u14 u15 t0 t1 t2 t3 t4 t5 t6 t7 t8 t9 t10 t11 t12 t13 t14 t15 : Int64) (fr : List (Addr × (Cell → Prop))) (O0 : Own.Owns n0 h0 ((o0, Own.ObjC Z "com/example/tracewarden/tracewarden/monitor/Openings" [(("com/example/tracewarden/tracewarden/monitor/Openings", "cells", "[J"), (.ref ra)), (("com/example/tracewarden/tracewarden/monitor/Openings", "inner", "[J"), (.ref rb)), (("com/example/tracewarden/tracewarden/monitor/Openings", "lastFound", "I"), (.int (-1 : Int32))), (("com/example/tracewarden/tracewarden/monitor/Openings", "foundBefore", "I"), (.int (-1 : Int32))), (("com/example/tracewarden/tracewarden/monitor/Openings", "count", "I"), (.int (2 : Int32))), (("com/example/tracewarden/tracewarden/monitor/Openings", "first", "I"), (.int (0 : Int32))), (("com/example/tracewarden/tracewarden/monitor/Openings", "times", "[Ljava/math/BigDecimal;"), .null)]) :: (ra, Own.ArrC Z .long [(.long u0), (.long u1), (.long u2), (.long u3), (.long u4), (.long u5), (.long u6), (.long u7), (.long u8), (.long u9), (.long u10), (.long u11), (.long u12), (.long u13), (.long u14), (.long u15)]) :: (rb, Own.ArrC Z .long [(.long t0), (.long t1), (.long t2), (.long t3), (.long t4), (.long t5), (.long t6), (.long t7), (.long t8), (.long t9), (.long t10), (.long t11), (.long t12), (.long t13), (.long t14), (.long t15)]) :: fr)) (hne : ¬ (u1 = q1)) : Own.Does l (⟨"com/example/tracewarden/tracewarden/monitor/Openings", "add", "(JJ)V"⟩ : MethodName) prog_92_method_8_code 5 none [] ({ frames := 1, cells := 0, slots := 0, locals := 12 } : Room) Z #[(.ref o0), (.long q1), (.long q2)] h0 n0 (fun v h => v = none ∧ Own.Owns n0 h ((o0, Own.ObjC Z "com/example/tracewarden/tracewarden/monitor/Openings" [(("com/example/tracewarden/tracewarden/monitor/Openings", "cells", "[J"), (.ref ra)), (("com/example/tracewarden/tracewarden/monitor/Openings", "inner", "[J"), (.ref rb)), (("com/example/tracewarden/tracewarden/monitor/Openings", "lastFound", "I"), (.int (-1 : Int32))), (("com/example/tracewarden/tracewarden/monitor/Openings", "foundBefore", "I"), (.int (-1 : Int32))), (("com/example/tracewarden/tracewarden/monitor/Openings", "count", "I"), (.int (3 : Int32))), (("com/example/tracewarden/tracewarden/monitor/Openings", "first", "I"), (.int (0 : Int32))), (("com/example/tracewarden/tracewarden/monitor/Openings", "times", "[Ljava/math/BigDecimal;"), .null)]) :: (ra, Own.ArrC Z .long [(.long u0), (.long u1), (.long q1), (.long u3), (.long u4), (.long u5), (.long u6), (.long u7), (.long u8), (.long u9), (.long u10), (.long u11), (.long u12), (.long u13), (.long u14), (.long u15)]) :: (rb, Own.ArrC Z .long [(.long t0), (.long t1), (.long q2), (.long t3), (.long t4), (.long t5), (.long t6), (.long t7), (.long t8), (.long t9), (.long t10), (.long t11), (.long t12), (.long t13), (.long t14), (.long t15)]) :: fr)) := by
  refine Own.doesOf pn3 ?_
  intro p e s m below meth c hx hby hml hret hlk hown hnm hZ
  refine Own.Goes.cast (ef4_2 m o0 q1 q2) ?_
  refine Own.aloadN hx (.ref o0) (hb hby d4_0) rfl rfl rfl ?_
  refine Own.getfield hx hZ hown O0 0 4 rfl rfl (hw _ (List.mem_of_getElem? (i := 28) rfl)) (hb hby d4_1) rfl ?_
  have hc1 : (0 : Int32) < (2 : Int32) := by decide
  refine Own.ifFn hx (Own.z_le (2 : Int32)) (hb hby d4_4) (pcN := 7) rfl (by decide) (pcT := 29) rfl (fun q => absurd hc1 q) (fun _ => ?_)
  refine Own.aloadN hx (.ref o0) (hb hby d4_7) rfl rfl rfl ?_
  refine Own.getfield hx hZ hown O0 0 0 rfl rfl (hw _ (List.mem_of_getElem? (i := 15) rfl)) (hb hby d4_8) rfl ?_
  refine Own.aloadN hx (.ref o0) (hb hby d4_11) rfl rfl rfl ?_
  refine Own.getfield hx hZ hown O0 0 5 rfl rfl (hw _ (List.mem_of_getElem? (i := 34) rfl)) (hb hby d4_12) rfl ?_
  refine Own.aloadN hx (.ref o0) (hb hby d4_15) rfl rfl rfl ?_
  refine Own.getfield hx hZ hown O0 0 4 rfl rfl (hw _ (List.mem_of_getElem? (i := 28) rfl)) (hb hby d4_16) rfl ?_
  refine Own.iadd hx (hb hby d4_19) rfl ?_
  refine Own.vI (2 : Int32) (by decide) ?_
  refine Own.iconst hx (1 : Int32) (hb hby d4_20) rfl (by decide) ?_
  refine Own.isub hx (hb hby d4_21) rfl ?_
  refine Own.vI (1 : Int32) (by decide) ?_
  refine Own.laload hx hZ O0 1 1 rfl (by decide) (v := (.long u1)) rfl (hb hby d4_22) rfl ?_
  refine Own.lloadN hx q1 (hb hby d4_23) rfl rfl ?_
  refine Own.lcmp hx (hb hby d4_24) rfl ?_
  have hc3 : ¬ (u1 = q1) := hne
  refine Own.ifFn hx (Own.w_ne u1 q1) (hb hby d4_25) (pcN := 28) rfl (by decide) (pcT := 29) rfl (fun _ => ?_) (fun q => absurd q hc3)
  refine Own.aloadN hx (.ref o0) (hb hby d4_29) rfl rfl rfl ?_
  refine Own.callP hx hZ hown (O0.exa (i := 0) rfl) (hw _ (List.mem_of_getElem? (i := 30) rfl)) (hw _ (List.mem_of_getElem? (i := 31) rfl)) (hw _ (List.mem_of_getElem? (i := 6) rfl)) (hw _ (List.mem_of_getElem? (i := 32) rfl)) (hw _ (List.mem_of_getElem? (i := 7) rfl)) (hw _ (List.mem_of_getElem? (i := 33) rfl)) (by decide) pd0 (argsL := []) (rest := []) rfl (W := 0) (Nat.le_of_eq rfl) (rm := ({ frames := 0, cells := 0, slots := 0, locals := 0 } : Room)) (by decide) (by decide) (by decide) (by decide) (k' := 0) (n' := 0) rfl rfl (by rw [hml]; rfl) [(.ref o0)] rfl (hb hby d4_30) (pc' := 33) rfl (rm5_2 l Z a0 hw o0 h0 n0 ra rb u0 u1 u2 u3 u4 u5 u6 u7 u8 u9 u10 u11 u12 u13 u14 u15 t0 t1 t2 t3 t4 t5 t6 t7 t8 t9 t10 t11 t12 t13 t14 t15 fr O0) ?_
  rintro _ h' ⟨rfl, eh⟩
  rw [eh]; clear eh h'
  show Own.Goes _ _ _ _ _ _ _ _ _ _ _ _ _ _ _ _ _ (mkF m 33 #[.val (.ref o0), .val (.long q1), .second, .val (.long q2), .second] [])
  refine Own.aloadN hx (.ref o0) (hb hby d4_33) rfl rfl rfl ?_
  refine Own.getfield hx hZ hown O0 0 1 rfl rfl (hw _ (List.mem_of_getElem? (i := 17) rfl)) (hb hby d4_34) rfl ?_
  refine Own.aloadN hx (.ref o0) (hb hby d4_37) rfl rfl rfl ?_
  refine Own.getfield hx hZ hown O0 0 5 rfl rfl (hw _ (List.mem_of_getElem? (i := 34) rfl)) (hb hby d4_38) rfl ?_
  refine Own.aloadN hx (.ref o0) (hb hby d4_41) rfl rfl rfl ?_
  refine Own.getfield hx hZ hown O0 0 4 rfl rfl (hw _ (List.mem_of_getElem? (i := 28) rfl)) (hb hby d4_42) rfl ?_
  refine Own.iadd hx (hb hby d4_45) rfl ?_
  refine Own.vI (2 : Int32) (by decide) ?_
  refine Own.lloadN hx q2 (hb hby d4_46) rfl rfl ?_
  refine Own.lastore hx hZ O0 2 2 rfl (by decide) (by exact (show 2 < 16 by decide)) ((o0, Own.ObjC Z "com/example/tracewarden/tracewarden/monitor/Openings" [(("com/example/tracewarden/tracewarden/monitor/Openings", "cells", "[J"), (.ref ra)), (("com/example/tracewarden/tracewarden/monitor/Openings", "inner", "[J"), (.ref rb)), (("com/example/tracewarden/tracewarden/monitor/Openings", "lastFound", "I"), (.int (-1 : Int32))), (("com/example/tracewarden/tracewarden/monitor/Openings", "foundBefore", "I"), (.int (-1 : Int32))), (("com/example/tracewarden/tracewarden/monitor/Openings", "count", "I"), (.int (2 : Int32))), (("com/example/tracewarden/tracewarden/monitor/Openings", "first", "I"), (.int (0 : Int32))), (("com/example/tracewarden/tracewarden/monitor/Openings", "times", "[Ljava/math/BigDecimal;"), .null)]) :: (ra, Own.ArrC Z .long [(.long u0), (.long u1), (.long u2), (.long u3), (.long u4), (.long u5), (.long u6), (.long u7), (.long u8), (.long u9), (.long u10), (.long u11), (.long u12), (.long u13), (.long u14), (.long u15)]) :: (rb, Own.ArrC Z .long [(.long t0), (.long t1), (.long q2), (.long t3), (.long t4), (.long t5), (.long t6), (.long t7), (.long t8), (.long t9), (.long t10), (.long t11), (.long t12), (.long t13), (.long t14), (.long t15)]) :: fr) rfl (hb hby d4_47) rfl ?_
  intro h5 O6
  refine Own.aloadN hx (.ref o0) (hb hby d4_48) rfl rfl rfl ?_
  refine Own.getfield hx hZ hown O6 0 0 rfl rfl (hw _ (List.mem_of_getElem? (i := 15) rfl)) (hb hby d4_49) rfl ?_
  refine Own.aloadN hx (.ref o0) (hb hby d4_52) rfl rfl rfl ?_
  refine Own.getfield hx hZ hown O6 0 5 rfl rfl (hw _ (List.mem_of_getElem? (i := 34) rfl)) (hb hby d4_53) rfl ?_
  refine Own.aloadN hx (.ref o0) (hb hby d4_56) rfl rfl rfl ?_
  refine Own.dup hx (hb hby d4_57) rfl rfl ?_
  refine Own.getfield hx hZ hown O6 0 4 rfl rfl (hw _ (List.mem_of_getElem? (i := 28) rfl)) (hb hby d4_58) rfl ?_
  refine Own.dupX1 hx (hb hby d4_61) rfl rfl rfl ?_
  refine Own.iconst hx (1 : Int32) (hb hby d4_62) rfl (by decide) ?_
  refine Own.iadd hx (hb hby d4_63) rfl ?_
  refine Own.vI (3 : Int32) (by decide) ?_
  refine Own.putfield hx hZ hown O6 0 4 rfl rfl (hw _ (List.mem_of_getElem? (i := 28) rfl)) (Or.inl (hw _ (List.mem_of_getElem? (i := 29) rfl))) (hw _ (List.mem_of_getElem? (i := 6) rfl)) (ty := .int) (by decide) rfl rfl ((o0, Own.ObjC Z "com/example/tracewarden/tracewarden/monitor/Openings" [(("com/example/tracewarden/tracewarden/monitor/Openings", "cells", "[J"), (.ref ra)), (("com/example/tracewarden/tracewarden/monitor/Openings", "inner", "[J"), (.ref rb)), (("com/example/tracewarden/tracewarden/monitor/Openings", "lastFound", "I"), (.int (-1 : Int32))), (("com/example/tracewarden/tracewarden/monitor/Openings", "foundBefore", "I"), (.int (-1 : Int32))), (("com/example/tracewarden/tracewarden/monitor/Openings", "count", "I"), (.int (3 : Int32))), (("com/example/tracewarden/tracewarden/monitor/Openings", "first", "I"), (.int (0 : Int32))), (("com/example/tracewarden/tracewarden/monitor/Openings", "times", "[Ljava/math/BigDecimal;"), .null)]) :: (ra, Own.ArrC Z .long [(.long u0), (.long u1), (.long u2), (.long u3), (.long u4), (.long u5), (.long u6), (.long u7), (.long u8), (.long u9), (.long u10), (.long u11), (.long u12), (.long u13), (.long u14), (.long u15)]) :: (rb, Own.ArrC Z .long [(.long t0), (.long t1), (.long q2), (.long t3), (.long t4), (.long t5), (.long t6), (.long t7), (.long t8), (.long t9), (.long t10), (.long t11), (.long t12), (.long t13), (.long t14), (.long t15)]) :: fr) rfl (hb hby d4_64) rfl ?_
  intro h7 O8
  refine Own.iadd hx (hb hby d4_67) rfl ?_
  refine Own.vI (2 : Int32) (by decide) ?_
  refine Own.lloadN hx q1 (hb hby d4_68) rfl rfl ?_
  refine Own.lastore hx hZ O8 1 2 rfl (by decide) (by exact (show 2 < 16 by decide)) ((o0, Own.ObjC Z "com/example/tracewarden/tracewarden/monitor/Openings" [(("com/example/tracewarden/tracewarden/monitor/Openings", "cells", "[J"), (.ref ra)), (("com/example/tracewarden/tracewarden/monitor/Openings", "inner", "[J"), (.ref rb)), (("com/example/tracewarden/tracewarden/monitor/Openings", "lastFound", "I"), (.int (-1 : Int32))), (("com/example/tracewarden/tracewarden/monitor/Openings", "foundBefore", "I"), (.int (-1 : Int32))), (("com/example/tracewarden/tracewarden/monitor/Openings", "count", "I"), (.int (3 : Int32))), (("com/example/tracewarden/tracewarden/monitor/Openings", "first", "I"), (.int (0 : Int32))), (("com/example/tracewarden/tracewarden/monitor/Openings", "times", "[Ljava/math/BigDecimal;"), .null)]) :: (ra, Own.ArrC Z .long [(.long u0), (.long u1), (.long q1), (.long u3), (.long u4), (.long u5), (.long u6), (.long u7), (.long u8), (.long u9), (.long u10), (.long u11), (.long u12), (.long u13), (.long u14), (.long u15)]) :: (rb, Own.ArrC Z .long [(.long t0), (.long t1), (.long q2), (.long t3), (.long t4), (.long t5), (.long t6), (.long t7), (.long t8), (.long t9), (.long t10), (.long t11), (.long t12), (.long t13), (.long t14), (.long t15)]) :: fr) rfl (hb hby d4_69) rfl ?_
  intro h9 O10
  exact Own.retV hx hret hlk (hb hby d4_70) (by decide) (by decide) ⟨rfl, O10⟩

theorem ef5_3 (m : MethodId) (o0 : Addr) : entryFrame m #[(.ref o0)] 1 = mkF m 0 #[.val (.ref o0)] [] := by first | (simp [entryFrame, mkF, argsToLocals, Value.category]; done) | rfl
set_option maxRecDepth 65536 in
set_option maxHeartbeats 40000000 in
theorem rm5_3 (l : Launch) (Z : State) (a0 : Array Value) (hw : ∀ d ∈ tables_1, d.before a0 Z = true) (o0 : Addr) (h0 : Heap) (n0 : Nat) (ra rb : Addr) (u0 u1 u2 u3 u4 u5 u6 u7 u8 u9 u10 u11 u12 u13 u14 u15 t0 t1 t2 t3 t4 t5 t6 t7 t8 t9 t10 t11 t12 t13 t14 t15 : Int64) (fr : List (Addr × (Cell → Prop))) (O0 : Own.Owns n0 h0 ((o0, Own.ObjC Z "com/example/tracewarden/tracewarden/monitor/Openings" [(("com/example/tracewarden/tracewarden/monitor/Openings", "cells", "[J"), (.ref ra)), (("com/example/tracewarden/tracewarden/monitor/Openings", "inner", "[J"), (.ref rb)), (("com/example/tracewarden/tracewarden/monitor/Openings", "lastFound", "I"), (.int (-1 : Int32))), (("com/example/tracewarden/tracewarden/monitor/Openings", "foundBefore", "I"), (.int (-1 : Int32))), (("com/example/tracewarden/tracewarden/monitor/Openings", "count", "I"), (.int (3 : Int32))), (("com/example/tracewarden/tracewarden/monitor/Openings", "first", "I"), (.int (0 : Int32))), (("com/example/tracewarden/tracewarden/monitor/Openings", "times", "[Ljava/math/BigDecimal;"), .null)]) :: (ra, Own.ArrC Z .long [(.long u0), (.long u1), (.long u2), (.long u3), (.long u4), (.long u5), (.long u6), (.long u7), (.long u8), (.long u9), (.long u10), (.long u11), (.long u12), (.long u13), (.long u14), (.long u15)]) :: (rb, Own.ArrC Z .long [(.long t0), (.long t1), (.long t2), (.long t3), (.long t4), (.long t5), (.long t6), (.long t7), (.long t8), (.long t9), (.long t10), (.long t11), (.long t12), (.long t13), (.long t14), (.long t15)]) :: fr))  : Own.Does l (⟨"com/example/tracewarden/tracewarden/monitor/Openings", "makeRoom", "()V"⟩ : MethodName) prog_92_method_10_code 1 none [] ({ frames := 0, cells := 0, slots := 0, locals := 0 } : Room) Z #[(.ref o0)] h0 n0 (fun v h => v = none ∧ h = h0) := by
  refine Own.doesOf pn2 ?_
  intro p e s m below meth c hx hby hml hret hlk hown hnm hZ
  refine Own.Goes.cast (ef5_3 m o0) ?_
  refine Own.aloadN hx (.ref o0) (hb hby d5_0) rfl rfl rfl ?_
  refine Own.getfield hx hZ hown O0 0 5 rfl rfl (hw _ (List.mem_of_getElem? (i := 34) rfl)) (hb hby d5_1) rfl ?_
  refine Own.aloadN hx (.ref o0) (hb hby d5_4) rfl rfl rfl ?_
  refine Own.getfield hx hZ hown O0 0 4 rfl rfl (hw _ (List.mem_of_getElem? (i := 28) rfl)) (hb hby d5_5) rfl ?_
  refine Own.iadd hx (hb hby d5_8) rfl ?_
  refine Own.vI (3 : Int32) (by decide) ?_
  refine Own.aloadN hx (.ref o0) (hb hby d5_9) rfl rfl rfl ?_
  refine Own.getfield hx hZ hown O0 0 0 rfl rfl (hw _ (List.mem_of_getElem? (i := 15) rfl)) (hb hby d5_10) rfl ?_
  refine Own.arrlen hx hZ O0 1 rfl (16 : Int32) rfl (hb hby d5_13) rfl ?_
  have hc1 : ¬ ((3 : Int32) = (16 : Int32)) := by decide
  refine Own.icmpFn hx (Own.q_ne (3 : Int32) (16 : Int32)) (hb hby d5_14) (pcN := 17) rfl (by decide) (pcT := 99) rfl (fun _ => ?_) (fun q => absurd q hc1)
  exact Own.retV hx hret hlk (hb hby d5_99) (by decide) (by decide) ⟨rfl, rfl⟩

theorem ef4_3 (m : MethodId) (o0 : Addr) (q1 : Int64) (q2 : Int64) : entryFrame m #[(.ref o0), (.long q1), (.long q2)] 5 = mkF m 0 #[.val (.ref o0), .val (.long q1), .second, .val (.long q2), .second] [] := by first | (simp [entryFrame, mkF, argsToLocals, Value.category]; done) | rfl
set_option maxRecDepth 65536 in
set_option maxHeartbeats 40000000 in
theorem rm4_3 (l : Launch) (Z : State) (a0 : Array Value) (hw : ∀ d ∈ tables_1, d.before a0 Z = true) (o0 : Addr) (q1 : Int64) (q2 : Int64) (h0 : Heap) (n0 : Nat) (ra rb : Addr) (u0 u1 u2 u3 u4 u5 u6 u7 u8 u9 u10 u11 u12 u13 u14 u15 t0 t1 t2 t3 t4 t5 t6 t7 t8 t9 t10 t11 t12 t13 t14 t15 : Int64) (fr : List (Addr × (Cell → Prop))) (O0 : Own.Owns n0 h0 ((o0, Own.ObjC Z "com/example/tracewarden/tracewarden/monitor/Openings" [(("com/example/tracewarden/tracewarden/monitor/Openings", "cells", "[J"), (.ref ra)), (("com/example/tracewarden/tracewarden/monitor/Openings", "inner", "[J"), (.ref rb)), (("com/example/tracewarden/tracewarden/monitor/Openings", "lastFound", "I"), (.int (-1 : Int32))), (("com/example/tracewarden/tracewarden/monitor/Openings", "foundBefore", "I"), (.int (-1 : Int32))), (("com/example/tracewarden/tracewarden/monitor/Openings", "count", "I"), (.int (3 : Int32))), (("com/example/tracewarden/tracewarden/monitor/Openings", "first", "I"), (.int (0 : Int32))), (("com/example/tracewarden/tracewarden/monitor/Openings", "times", "[Ljava/math/BigDecimal;"), .null)]) :: (ra, Own.ArrC Z .long [(.long u0), (.long u1), (.long u2), (.long u3), (.long u4), (.long u5), (.long u6), (.long u7), (.long u8), (.long u9), (.long u10), (.long u11), (.long u12), (.long u13), (.long u14), (.long u15)]) :: (rb, Own.ArrC Z .long [(.long t0), (.long t1), (.long t2), (.long t3), (.long t4), (.long t5), (.long t6), (.long t7), (.long t8), (.long t9), (.long t10), (.long t11), (.long t12), (.long t13), (.long t14), (.long t15)]) :: fr)) (hne : ¬ (u2 = q1)) : Own.Does l (⟨"com/example/tracewarden/tracewarden/monitor/Openings", "add", "(JJ)V"⟩ : MethodName) prog_92_method_8_code 5 none [] ({ frames := 1, cells := 0, slots := 0, locals := 12 } : Room) Z #[(.ref o0), (.long q1), (.long q2)] h0 n0 (fun v h => v = none ∧ Own.Owns n0 h ((o0, Own.ObjC Z "com/example/tracewarden/tracewarden/monitor/Openings" [(("com/example/tracewarden/tracewarden/monitor/Openings", "cells", "[J"), (.ref ra)), (("com/example/tracewarden/tracewarden/monitor/Openings", "inner", "[J"), (.ref rb)), (("com/example/tracewarden/tracewarden/monitor/Openings", "lastFound", "I"), (.int (-1 : Int32))), (("com/example/tracewarden/tracewarden/monitor/Openings", "foundBefore", "I"), (.int (-1 : Int32))), (("com/example/tracewarden/tracewarden/monitor/Openings", "count", "I"), (.int (4 : Int32))), (("com/example/tracewarden/tracewarden/monitor/Openings", "first", "I"), (.int (0 : Int32))), (("com/example/tracewarden/tracewarden/monitor/Openings", "times", "[Ljava/math/BigDecimal;"), .null)]) :: (ra, Own.ArrC Z .long [(.long u0), (.long u1), (.long u2), (.long q1), (.long u4), (.long u5), (.long u6), (.long u7), (.long u8), (.long u9), (.long u10), (.long u11), (.long u12), (.long u13), (.long u14), (.long u15)]) :: (rb, Own.ArrC Z .long [(.long t0), (.long t1), (.long t2), (.long q2), (.long t4), (.long t5), (.long t6), (.long t7), (.long t8), (.long t9), (.long t10), (.long t11), (.long t12), (.long t13), (.long t14), (.long t15)]) :: fr)) := by
  refine Own.doesOf pn3 ?_
  intro p e s m below meth c hx hby hml hret hlk hown hnm hZ
  refine Own.Goes.cast (ef4_3 m o0 q1 q2) ?_
  refine Own.aloadN hx (.ref o0) (hb hby d4_0) rfl rfl rfl ?_
  refine Own.getfield hx hZ hown O0 0 4 rfl rfl (hw _ (List.mem_of_getElem? (i := 28) rfl)) (hb hby d4_1) rfl ?_
  have hc1 : (0 : Int32) < (3 : Int32) := by decide
  refine Own.ifFn hx (Own.z_le (3 : Int32)) (hb hby d4_4) (pcN := 7) rfl (by decide) (pcT := 29) rfl (fun q => absurd hc1 q) (fun _ => ?_)
  refine Own.aloadN hx (.ref o0) (hb hby d4_7) rfl rfl rfl ?_
  refine Own.getfield hx hZ hown O0 0 0 rfl rfl (hw _ (List.mem_of_getElem? (i := 15) rfl)) (hb hby d4_8) rfl ?_
  refine Own.aloadN hx (.ref o0) (hb hby d4_11) rfl rfl rfl ?_
  refine Own.getfield hx hZ hown O0 0 5 rfl rfl (hw _ (List.mem_of_getElem? (i := 34) rfl)) (hb hby d4_12) rfl ?_
  refine Own.aloadN hx (.ref o0) (hb hby d4_15) rfl rfl rfl ?_
  refine Own.getfield hx hZ hown O0 0 4 rfl rfl (hw _ (List.mem_of_getElem? (i := 28) rfl)) (hb hby d4_16) rfl ?_
  refine Own.iadd hx (hb hby d4_19) rfl ?_
  refine Own.vI (3 : Int32) (by decide) ?_
  refine Own.iconst hx (1 : Int32) (hb hby d4_20) rfl (by decide) ?_
  refine Own.isub hx (hb hby d4_21) rfl ?_
  refine Own.vI (2 : Int32) (by decide) ?_
  refine Own.laload hx hZ O0 1 2 rfl (by decide) (v := (.long u2)) rfl (hb hby d4_22) rfl ?_
  refine Own.lloadN hx q1 (hb hby d4_23) rfl rfl ?_
  refine Own.lcmp hx (hb hby d4_24) rfl ?_
  have hc3 : ¬ (u2 = q1) := hne
  refine Own.ifFn hx (Own.w_ne u2 q1) (hb hby d4_25) (pcN := 28) rfl (by decide) (pcT := 29) rfl (fun _ => ?_) (fun q => absurd q hc3)
  refine Own.aloadN hx (.ref o0) (hb hby d4_29) rfl rfl rfl ?_
  refine Own.callP hx hZ hown (O0.exa (i := 0) rfl) (hw _ (List.mem_of_getElem? (i := 30) rfl)) (hw _ (List.mem_of_getElem? (i := 31) rfl)) (hw _ (List.mem_of_getElem? (i := 6) rfl)) (hw _ (List.mem_of_getElem? (i := 32) rfl)) (hw _ (List.mem_of_getElem? (i := 7) rfl)) (hw _ (List.mem_of_getElem? (i := 33) rfl)) (by decide) pd0 (argsL := []) (rest := []) rfl (W := 0) (Nat.le_of_eq rfl) (rm := ({ frames := 0, cells := 0, slots := 0, locals := 0 } : Room)) (by decide) (by decide) (by decide) (by decide) (k' := 0) (n' := 0) rfl rfl (by rw [hml]; rfl) [(.ref o0)] rfl (hb hby d4_30) (pc' := 33) rfl (rm5_3 l Z a0 hw o0 h0 n0 ra rb u0 u1 u2 u3 u4 u5 u6 u7 u8 u9 u10 u11 u12 u13 u14 u15 t0 t1 t2 t3 t4 t5 t6 t7 t8 t9 t10 t11 t12 t13 t14 t15 fr O0) ?_
  rintro _ h' ⟨rfl, eh⟩
  rw [eh]; clear eh h'
  show Own.Goes _ _ _ _ _ _ _ _ _ _ _ _ _ _ _ _ _ (mkF m 33 #[.val (.ref o0), .val (.long q1), .second, .val (.long q2), .second] [])
  refine Own.aloadN hx (.ref o0) (hb hby d4_33) rfl rfl rfl ?_
  refine Own.getfield hx hZ hown O0 0 1 rfl rfl (hw _ (List.mem_of_getElem? (i := 17) rfl)) (hb hby d4_34) rfl ?_
  refine Own.aloadN hx (.ref o0) (hb hby d4_37) rfl rfl rfl ?_
  refine Own.getfield hx hZ hown O0 0 5 rfl rfl (hw _ (List.mem_of_getElem? (i := 34) rfl)) (hb hby d4_38) rfl ?_
  refine Own.aloadN hx (.ref o0) (hb hby d4_41) rfl rfl rfl ?_
  refine Own.getfield hx hZ hown O0 0 4 rfl rfl (hw _ (List.mem_of_getElem? (i := 28) rfl)) (hb hby d4_42) rfl ?_
  refine Own.iadd hx (hb hby d4_45) rfl ?_
  refine Own.vI (3 : Int32) (by decide) ?_
  refine Own.lloadN hx q2 (hb hby d4_46) rfl rfl ?_
  refine Own.lastore hx hZ O0 2 3 rfl (by decide) (by exact (show 3 < 16 by decide)) ((o0, Own.ObjC Z "com/example/tracewarden/tracewarden/monitor/Openings" [(("com/example/tracewarden/tracewarden/monitor/Openings", "cells", "[J"), (.ref ra)), (("com/example/tracewarden/tracewarden/monitor/Openings", "inner", "[J"), (.ref rb)), (("com/example/tracewarden/tracewarden/monitor/Openings", "lastFound", "I"), (.int (-1 : Int32))), (("com/example/tracewarden/tracewarden/monitor/Openings", "foundBefore", "I"), (.int (-1 : Int32))), (("com/example/tracewarden/tracewarden/monitor/Openings", "count", "I"), (.int (3 : Int32))), (("com/example/tracewarden/tracewarden/monitor/Openings", "first", "I"), (.int (0 : Int32))), (("com/example/tracewarden/tracewarden/monitor/Openings", "times", "[Ljava/math/BigDecimal;"), .null)]) :: (ra, Own.ArrC Z .long [(.long u0), (.long u1), (.long u2), (.long u3), (.long u4), (.long u5), (.long u6), (.long u7), (.long u8), (.long u9), (.long u10), (.long u11), (.long u12), (.long u13), (.long u14), (.long u15)]) :: (rb, Own.ArrC Z .long [(.long t0), (.long t1), (.long t2), (.long q2), (.long t4), (.long t5), (.long t6), (.long t7), (.long t8), (.long t9), (.long t10), (.long t11), (.long t12), (.long t13), (.long t14), (.long t15)]) :: fr) rfl (hb hby d4_47) rfl ?_
  intro h5 O6
  refine Own.aloadN hx (.ref o0) (hb hby d4_48) rfl rfl rfl ?_
  refine Own.getfield hx hZ hown O6 0 0 rfl rfl (hw _ (List.mem_of_getElem? (i := 15) rfl)) (hb hby d4_49) rfl ?_
  refine Own.aloadN hx (.ref o0) (hb hby d4_52) rfl rfl rfl ?_
  refine Own.getfield hx hZ hown O6 0 5 rfl rfl (hw _ (List.mem_of_getElem? (i := 34) rfl)) (hb hby d4_53) rfl ?_
  refine Own.aloadN hx (.ref o0) (hb hby d4_56) rfl rfl rfl ?_
  refine Own.dup hx (hb hby d4_57) rfl rfl ?_
  refine Own.getfield hx hZ hown O6 0 4 rfl rfl (hw _ (List.mem_of_getElem? (i := 28) rfl)) (hb hby d4_58) rfl ?_
  refine Own.dupX1 hx (hb hby d4_61) rfl rfl rfl ?_
  refine Own.iconst hx (1 : Int32) (hb hby d4_62) rfl (by decide) ?_
  refine Own.iadd hx (hb hby d4_63) rfl ?_
  refine Own.vI (4 : Int32) (by decide) ?_
  refine Own.putfield hx hZ hown O6 0 4 rfl rfl (hw _ (List.mem_of_getElem? (i := 28) rfl)) (Or.inl (hw _ (List.mem_of_getElem? (i := 29) rfl))) (hw _ (List.mem_of_getElem? (i := 6) rfl)) (ty := .int) (by decide) rfl rfl ((o0, Own.ObjC Z "com/example/tracewarden/tracewarden/monitor/Openings" [(("com/example/tracewarden/tracewarden/monitor/Openings", "cells", "[J"), (.ref ra)), (("com/example/tracewarden/tracewarden/monitor/Openings", "inner", "[J"), (.ref rb)), (("com/example/tracewarden/tracewarden/monitor/Openings", "lastFound", "I"), (.int (-1 : Int32))), (("com/example/tracewarden/tracewarden/monitor/Openings", "foundBefore", "I"), (.int (-1 : Int32))), (("com/example/tracewarden/tracewarden/monitor/Openings", "count", "I"), (.int (4 : Int32))), (("com/example/tracewarden/tracewarden/monitor/Openings", "first", "I"), (.int (0 : Int32))), (("com/example/tracewarden/tracewarden/monitor/Openings", "times", "[Ljava/math/BigDecimal;"), .null)]) :: (ra, Own.ArrC Z .long [(.long u0), (.long u1), (.long u2), (.long u3), (.long u4), (.long u5), (.long u6), (.long u7), (.long u8), (.long u9), (.long u10), (.long u11), (.long u12), (.long u13), (.long u14), (.long u15)]) :: (rb, Own.ArrC Z .long [(.long t0), (.long t1), (.long t2), (.long q2), (.long t4), (.long t5), (.long t6), (.long t7), (.long t8), (.long t9), (.long t10), (.long t11), (.long t12), (.long t13), (.long t14), (.long t15)]) :: fr) rfl (hb hby d4_64) rfl ?_
  intro h7 O8
  refine Own.iadd hx (hb hby d4_67) rfl ?_
  refine Own.vI (3 : Int32) (by decide) ?_
  refine Own.lloadN hx q1 (hb hby d4_68) rfl rfl ?_
  refine Own.lastore hx hZ O8 1 3 rfl (by decide) (by exact (show 3 < 16 by decide)) ((o0, Own.ObjC Z "com/example/tracewarden/tracewarden/monitor/Openings" [(("com/example/tracewarden/tracewarden/monitor/Openings", "cells", "[J"), (.ref ra)), (("com/example/tracewarden/tracewarden/monitor/Openings", "inner", "[J"), (.ref rb)), (("com/example/tracewarden/tracewarden/monitor/Openings", "lastFound", "I"), (.int (-1 : Int32))), (("com/example/tracewarden/tracewarden/monitor/Openings", "foundBefore", "I"), (.int (-1 : Int32))), (("com/example/tracewarden/tracewarden/monitor/Openings", "count", "I"), (.int (4 : Int32))), (("com/example/tracewarden/tracewarden/monitor/Openings", "first", "I"), (.int (0 : Int32))), (("com/example/tracewarden/tracewarden/monitor/Openings", "times", "[Ljava/math/BigDecimal;"), .null)]) :: (ra, Own.ArrC Z .long [(.long u0), (.long u1), (.long u2), (.long q1), (.long u4), (.long u5), (.long u6), (.long u7), (.long u8), (.long u9), (.long u10), (.long u11), (.long u12), (.long u13), (.long u14), (.long u15)]) :: (rb, Own.ArrC Z .long [(.long t0), (.long t1), (.long t2), (.long q2), (.long t4), (.long t5), (.long t6), (.long t7), (.long t8), (.long t9), (.long t10), (.long t11), (.long t12), (.long t13), (.long t14), (.long t15)]) :: fr) rfl (hb hby d4_69) rfl ?_
  intro h9 O10
  exact Own.retV hx hret hlk (hb hby d4_70) (by decide) (by decide) ⟨rfl, O10⟩

theorem d7_0 : decode prog_92_method_21_code 0 = .ok (.aload_n 0, 1) := by decide +kernel
theorem d7_1 : decode prog_92_method_21_code 1 = .ok (.getfield 26, 3) := by decide +kernel
theorem d7_4 : decode prog_92_method_21_code 4 = .ok (.ifnull 13, 3) := by decide +kernel
theorem d7_17 : decode prog_92_method_21_code 17 = .ok (.aload_n 0, 1) := by decide +kernel
theorem d7_18 : decode prog_92_method_21_code 18 = .ok (.dup, 1) := by decide +kernel
theorem d7_19 : decode prog_92_method_21_code 19 = .ok (.getfield 33, 3) := by decide +kernel
theorem d7_22 : decode prog_92_method_21_code 22 = .ok (.iconst 1, 1) := by decide +kernel
theorem d7_23 : decode prog_92_method_21_code 23 = .ok (.iadd, 1) := by decide +kernel
theorem d7_24 : decode prog_92_method_21_code 24 = .ok (.putfield 33, 3) := by decide +kernel
theorem d7_27 : decode prog_92_method_21_code 27 = .ok (.aload_n 0, 1) := by decide +kernel
theorem d7_28 : decode prog_92_method_21_code 28 = .ok (.dup, 1) := by decide +kernel
theorem d7_29 : decode prog_92_method_21_code 29 = .ok (.getfield 30, 3) := by decide +kernel
theorem d7_32 : decode prog_92_method_21_code 32 = .ok (.iconst 1, 1) := by decide +kernel
theorem d7_33 : decode prog_92_method_21_code 33 = .ok (.isub, 1) := by decide +kernel
theorem d7_34 : decode prog_92_method_21_code 34 = .ok (.putfield 30, 3) := by decide +kernel
theorem d7_37 : decode prog_92_method_21_code 37 = .ok (.return_, 1) := by decide +kernel
theorem pn4 : plainFor (⟨"com/example/tracewarden/tracewarden/monitor/Openings", "dropOldest", "()V"⟩ : MethodName) = true := by first | exact plainFor_of_name (by simp [plainName, overriddenIn]; done) | decide +kernel
theorem ef7_0 (m : MethodId) (o0 : Addr) : entryFrame m #[(.ref o0)] 1 = mkF m 0 #[.val (.ref o0)] [] := by first | (simp [entryFrame, mkF, argsToLocals, Value.category]; done) | rfl
set_option maxRecDepth 65536 in
set_option maxHeartbeats 40000000 in
theorem rm7_0 (l : Launch) (Z : State) (a0 : Array Value) (hw : ∀ d ∈ tables_1, d.before a0 Z = true) (o0 : Addr) (h0 : Heap) (n0 : Nat) (ra rb : Addr) (fr : List (Addr × (Cell → Prop))) (O0 : Own.Owns n0 h0 ((o0, Own.ObjC Z "com/example/tracewarden/tracewarden/monitor/Openings" [(("com/example/tracewarden/tracewarden/monitor/Openings", "cells", "[J"), (.ref ra)), (("com/example/tracewarden/tracewarden/monitor/Openings", "inner", "[J"), (.ref rb)), (("com/example/tracewarden/tracewarden/monitor/Openings", "lastFound", "I"), (.int (-1 : Int32))), (("com/example/tracewarden/tracewarden/monitor/Openings", "foundBefore", "I"), (.int (-1 : Int32))), (("com/example/tracewarden/tracewarden/monitor/Openings", "count", "I"), (.int (4 : Int32))), (("com/example/tracewarden/tracewarden/monitor/Openings", "first", "I"), (.int (0 : Int32))), (("com/example/tracewarden/tracewarden/monitor/Openings", "times", "[Ljava/math/BigDecimal;"), .null)]) :: fr))  : Own.Does l (⟨"com/example/tracewarden/tracewarden/monitor/Openings", "dropOldest", "()V"⟩ : MethodName) prog_92_method_21_code 1 none [] ({ frames := 0, cells := 0, slots := 0, locals := 0 } : Room) Z #[(.ref o0)] h0 n0 (fun v h => v = none ∧ Own.Owns n0 h ((o0, Own.ObjC Z "com/example/tracewarden/tracewarden/monitor/Openings" [(("com/example/tracewarden/tracewarden/monitor/Openings", "cells", "[J"), (.ref ra)), (("com/example/tracewarden/tracewarden/monitor/Openings", "inner", "[J"), (.ref rb)), (("com/example/tracewarden/tracewarden/monitor/Openings", "lastFound", "I"), (.int (-1 : Int32))), (("com/example/tracewarden/tracewarden/monitor/Openings", "foundBefore", "I"), (.int (-1 : Int32))), (("com/example/tracewarden/tracewarden/monitor/Openings", "count", "I"), (.int (3 : Int32))), (("com/example/tracewarden/tracewarden/monitor/Openings", "first", "I"), (.int (1 : Int32))), (("com/example/tracewarden/tracewarden/monitor/Openings", "times", "[Ljava/math/BigDecimal;"), .null)]) :: fr)) := by
  refine Own.doesOf pn4 ?_
  intro p e s m below meth c hx hby hml hret hlk hown hnm hZ
  refine Own.Goes.cast (ef7_0 m o0) ?_
  refine Own.aloadN hx (.ref o0) (hb hby d7_0) rfl rfl rfl ?_
  refine Own.getfield hx hZ hown O0 0 6 rfl rfl (hw _ (List.mem_of_getElem? (i := 45) rfl)) (hb hby d7_1) rfl ?_
  refine Own.ifnullY hx (hb hby d7_4) (by decide) (pcT := 17) rfl ?_
  refine Own.aloadN hx (.ref o0) (hb hby d7_17) rfl rfl rfl ?_
  refine Own.dup hx (hb hby d7_18) rfl rfl ?_
  refine Own.getfield hx hZ hown O0 0 5 rfl rfl (hw _ (List.mem_of_getElem? (i := 34) rfl)) (hb hby d7_19) rfl ?_
  refine Own.iconst hx (1 : Int32) (hb hby d7_22) rfl (by decide) ?_
  refine Own.iadd hx (hb hby d7_23) rfl ?_
  refine Own.vI (1 : Int32) (by decide) ?_
  refine Own.putfield hx hZ hown O0 0 5 rfl rfl (hw _ (List.mem_of_getElem? (i := 34) rfl)) (Or.inl (hw _ (List.mem_of_getElem? (i := 35) rfl))) (hw _ (List.mem_of_getElem? (i := 6) rfl)) (ty := .int) (by decide) rfl rfl ((o0, Own.ObjC Z "com/example/tracewarden/tracewarden/monitor/Openings" [(("com/example/tracewarden/tracewarden/monitor/Openings", "cells", "[J"), (.ref ra)), (("com/example/tracewarden/tracewarden/monitor/Openings", "inner", "[J"), (.ref rb)), (("com/example/tracewarden/tracewarden/monitor/Openings", "lastFound", "I"), (.int (-1 : Int32))), (("com/example/tracewarden/tracewarden/monitor/Openings", "foundBefore", "I"), (.int (-1 : Int32))), (("com/example/tracewarden/tracewarden/monitor/Openings", "count", "I"), (.int (4 : Int32))), (("com/example/tracewarden/tracewarden/monitor/Openings", "first", "I"), (.int (1 : Int32))), (("com/example/tracewarden/tracewarden/monitor/Openings", "times", "[Ljava/math/BigDecimal;"), .null)]) :: fr) rfl (hb hby d7_24) rfl ?_
  intro h1 O2
  refine Own.aloadN hx (.ref o0) (hb hby d7_27) rfl rfl rfl ?_
  refine Own.dup hx (hb hby d7_28) rfl rfl ?_
  refine Own.getfield hx hZ hown O2 0 4 rfl rfl (hw _ (List.mem_of_getElem? (i := 28) rfl)) (hb hby d7_29) rfl ?_
  refine Own.iconst hx (1 : Int32) (hb hby d7_32) rfl (by decide) ?_
  refine Own.isub hx (hb hby d7_33) rfl ?_
  refine Own.vI (3 : Int32) (by decide) ?_
  refine Own.putfield hx hZ hown O2 0 4 rfl rfl (hw _ (List.mem_of_getElem? (i := 28) rfl)) (Or.inl (hw _ (List.mem_of_getElem? (i := 29) rfl))) (hw _ (List.mem_of_getElem? (i := 6) rfl)) (ty := .int) (by decide) rfl rfl ((o0, Own.ObjC Z "com/example/tracewarden/tracewarden/monitor/Openings" [(("com/example/tracewarden/tracewarden/monitor/Openings", "cells", "[J"), (.ref ra)), (("com/example/tracewarden/tracewarden/monitor/Openings", "inner", "[J"), (.ref rb)), (("com/example/tracewarden/tracewarden/monitor/Openings", "lastFound", "I"), (.int (-1 : Int32))), (("com/example/tracewarden/tracewarden/monitor/Openings", "foundBefore", "I"), (.int (-1 : Int32))), (("com/example/tracewarden/tracewarden/monitor/Openings", "count", "I"), (.int (3 : Int32))), (("com/example/tracewarden/tracewarden/monitor/Openings", "first", "I"), (.int (1 : Int32))), (("com/example/tracewarden/tracewarden/monitor/Openings", "times", "[Ljava/math/BigDecimal;"), .null)]) :: fr) rfl (hb hby d7_34) rfl ?_
  intro h3 O4
  exact Own.retV hx hret hlk (hb hby d7_37) (by decide) (by decide) ⟨rfl, O4⟩

theorem ef7_1 (m : MethodId) (o0 : Addr) : entryFrame m #[(.ref o0)] 1 = mkF m 0 #[.val (.ref o0)] [] := by first | (simp [entryFrame, mkF, argsToLocals, Value.category]; done) | rfl
set_option maxRecDepth 65536 in
set_option maxHeartbeats 40000000 in
theorem rm7_1 (l : Launch) (Z : State) (a0 : Array Value) (hw : ∀ d ∈ tables_1, d.before a0 Z = true) (o0 : Addr) (h0 : Heap) (n0 : Nat) (ra rb : Addr) (fr : List (Addr × (Cell → Prop))) (O0 : Own.Owns n0 h0 ((o0, Own.ObjC Z "com/example/tracewarden/tracewarden/monitor/Openings" [(("com/example/tracewarden/tracewarden/monitor/Openings", "cells", "[J"), (.ref ra)), (("com/example/tracewarden/tracewarden/monitor/Openings", "inner", "[J"), (.ref rb)), (("com/example/tracewarden/tracewarden/monitor/Openings", "lastFound", "I"), (.int (-1 : Int32))), (("com/example/tracewarden/tracewarden/monitor/Openings", "foundBefore", "I"), (.int (-1 : Int32))), (("com/example/tracewarden/tracewarden/monitor/Openings", "count", "I"), (.int (3 : Int32))), (("com/example/tracewarden/tracewarden/monitor/Openings", "first", "I"), (.int (1 : Int32))), (("com/example/tracewarden/tracewarden/monitor/Openings", "times", "[Ljava/math/BigDecimal;"), .null)]) :: fr))  : Own.Does l (⟨"com/example/tracewarden/tracewarden/monitor/Openings", "dropOldest", "()V"⟩ : MethodName) prog_92_method_21_code 1 none [] ({ frames := 0, cells := 0, slots := 0, locals := 0 } : Room) Z #[(.ref o0)] h0 n0 (fun v h => v = none ∧ Own.Owns n0 h ((o0, Own.ObjC Z "com/example/tracewarden/tracewarden/monitor/Openings" [(("com/example/tracewarden/tracewarden/monitor/Openings", "cells", "[J"), (.ref ra)), (("com/example/tracewarden/tracewarden/monitor/Openings", "inner", "[J"), (.ref rb)), (("com/example/tracewarden/tracewarden/monitor/Openings", "lastFound", "I"), (.int (-1 : Int32))), (("com/example/tracewarden/tracewarden/monitor/Openings", "foundBefore", "I"), (.int (-1 : Int32))), (("com/example/tracewarden/tracewarden/monitor/Openings", "count", "I"), (.int (2 : Int32))), (("com/example/tracewarden/tracewarden/monitor/Openings", "first", "I"), (.int (2 : Int32))), (("com/example/tracewarden/tracewarden/monitor/Openings", "times", "[Ljava/math/BigDecimal;"), .null)]) :: fr)) := by
  refine Own.doesOf pn4 ?_
  intro p e s m below meth c hx hby hml hret hlk hown hnm hZ
  refine Own.Goes.cast (ef7_1 m o0) ?_
  refine Own.aloadN hx (.ref o0) (hb hby d7_0) rfl rfl rfl ?_
  refine Own.getfield hx hZ hown O0 0 6 rfl rfl (hw _ (List.mem_of_getElem? (i := 45) rfl)) (hb hby d7_1) rfl ?_
  refine Own.ifnullY hx (hb hby d7_4) (by decide) (pcT := 17) rfl ?_
  refine Own.aloadN hx (.ref o0) (hb hby d7_17) rfl rfl rfl ?_
  refine Own.dup hx (hb hby d7_18) rfl rfl ?_
  refine Own.getfield hx hZ hown O0 0 5 rfl rfl (hw _ (List.mem_of_getElem? (i := 34) rfl)) (hb hby d7_19) rfl ?_
  refine Own.iconst hx (1 : Int32) (hb hby d7_22) rfl (by decide) ?_
  refine Own.iadd hx (hb hby d7_23) rfl ?_
  refine Own.vI (2 : Int32) (by decide) ?_
  refine Own.putfield hx hZ hown O0 0 5 rfl rfl (hw _ (List.mem_of_getElem? (i := 34) rfl)) (Or.inl (hw _ (List.mem_of_getElem? (i := 35) rfl))) (hw _ (List.mem_of_getElem? (i := 6) rfl)) (ty := .int) (by decide) rfl rfl ((o0, Own.ObjC Z "com/example/tracewarden/tracewarden/monitor/Openings" [(("com/example/tracewarden/tracewarden/monitor/Openings", "cells", "[J"), (.ref ra)), (("com/example/tracewarden/tracewarden/monitor/Openings", "inner", "[J"), (.ref rb)), (("com/example/tracewarden/tracewarden/monitor/Openings", "lastFound", "I"), (.int (-1 : Int32))), (("com/example/tracewarden/tracewarden/monitor/Openings", "foundBefore", "I"), (.int (-1 : Int32))), (("com/example/tracewarden/tracewarden/monitor/Openings", "count", "I"), (.int (3 : Int32))), (("com/example/tracewarden/tracewarden/monitor/Openings", "first", "I"), (.int (2 : Int32))), (("com/example/tracewarden/tracewarden/monitor/Openings", "times", "[Ljava/math/BigDecimal;"), .null)]) :: fr) rfl (hb hby d7_24) rfl ?_
  intro h1 O2
  refine Own.aloadN hx (.ref o0) (hb hby d7_27) rfl rfl rfl ?_
  refine Own.dup hx (hb hby d7_28) rfl rfl ?_
  refine Own.getfield hx hZ hown O2 0 4 rfl rfl (hw _ (List.mem_of_getElem? (i := 28) rfl)) (hb hby d7_29) rfl ?_
  refine Own.iconst hx (1 : Int32) (hb hby d7_32) rfl (by decide) ?_
  refine Own.isub hx (hb hby d7_33) rfl ?_
  refine Own.vI (2 : Int32) (by decide) ?_
  refine Own.putfield hx hZ hown O2 0 4 rfl rfl (hw _ (List.mem_of_getElem? (i := 28) rfl)) (Or.inl (hw _ (List.mem_of_getElem? (i := 29) rfl))) (hw _ (List.mem_of_getElem? (i := 6) rfl)) (ty := .int) (by decide) rfl rfl ((o0, Own.ObjC Z "com/example/tracewarden/tracewarden/monitor/Openings" [(("com/example/tracewarden/tracewarden/monitor/Openings", "cells", "[J"), (.ref ra)), (("com/example/tracewarden/tracewarden/monitor/Openings", "inner", "[J"), (.ref rb)), (("com/example/tracewarden/tracewarden/monitor/Openings", "lastFound", "I"), (.int (-1 : Int32))), (("com/example/tracewarden/tracewarden/monitor/Openings", "foundBefore", "I"), (.int (-1 : Int32))), (("com/example/tracewarden/tracewarden/monitor/Openings", "count", "I"), (.int (2 : Int32))), (("com/example/tracewarden/tracewarden/monitor/Openings", "first", "I"), (.int (2 : Int32))), (("com/example/tracewarden/tracewarden/monitor/Openings", "times", "[Ljava/math/BigDecimal;"), .null)]) :: fr) rfl (hb hby d7_34) rfl ?_
  intro h3 O4
  exact Own.retV hx hret hlk (hb hby d7_37) (by decide) (by decide) ⟨rfl, O4⟩

theorem ef7_2 (m : MethodId) (o0 : Addr) : entryFrame m #[(.ref o0)] 1 = mkF m 0 #[.val (.ref o0)] [] := by first | (simp [entryFrame, mkF, argsToLocals, Value.category]; done) | rfl
set_option maxRecDepth 65536 in
set_option maxHeartbeats 40000000 in
theorem rm7_2 (l : Launch) (Z : State) (a0 : Array Value) (hw : ∀ d ∈ tables_1, d.before a0 Z = true) (o0 : Addr) (h0 : Heap) (n0 : Nat) (ra rb : Addr) (fr : List (Addr × (Cell → Prop))) (O0 : Own.Owns n0 h0 ((o0, Own.ObjC Z "com/example/tracewarden/tracewarden/monitor/Openings" [(("com/example/tracewarden/tracewarden/monitor/Openings", "cells", "[J"), (.ref ra)), (("com/example/tracewarden/tracewarden/monitor/Openings", "inner", "[J"), (.ref rb)), (("com/example/tracewarden/tracewarden/monitor/Openings", "lastFound", "I"), (.int (-1 : Int32))), (("com/example/tracewarden/tracewarden/monitor/Openings", "foundBefore", "I"), (.int (-1 : Int32))), (("com/example/tracewarden/tracewarden/monitor/Openings", "count", "I"), (.int (2 : Int32))), (("com/example/tracewarden/tracewarden/monitor/Openings", "first", "I"), (.int (2 : Int32))), (("com/example/tracewarden/tracewarden/monitor/Openings", "times", "[Ljava/math/BigDecimal;"), .null)]) :: fr))  : Own.Does l (⟨"com/example/tracewarden/tracewarden/monitor/Openings", "dropOldest", "()V"⟩ : MethodName) prog_92_method_21_code 1 none [] ({ frames := 0, cells := 0, slots := 0, locals := 0 } : Room) Z #[(.ref o0)] h0 n0 (fun v h => v = none ∧ Own.Owns n0 h ((o0, Own.ObjC Z "com/example/tracewarden/tracewarden/monitor/Openings" [(("com/example/tracewarden/tracewarden/monitor/Openings", "cells", "[J"), (.ref ra)), (("com/example/tracewarden/tracewarden/monitor/Openings", "inner", "[J"), (.ref rb)), (("com/example/tracewarden/tracewarden/monitor/Openings", "lastFound", "I"), (.int (-1 : Int32))), (("com/example/tracewarden/tracewarden/monitor/Openings", "foundBefore", "I"), (.int (-1 : Int32))), (("com/example/tracewarden/tracewarden/monitor/Openings", "count", "I"), (.int (1 : Int32))), (("com/example/tracewarden/tracewarden/monitor/Openings", "first", "I"), (.int (3 : Int32))), (("com/example/tracewarden/tracewarden/monitor/Openings", "times", "[Ljava/math/BigDecimal;"), .null)]) :: fr)) := by
  refine Own.doesOf pn4 ?_
  intro p e s m below meth c hx hby hml hret hlk hown hnm hZ
  refine Own.Goes.cast (ef7_2 m o0) ?_
  refine Own.aloadN hx (.ref o0) (hb hby d7_0) rfl rfl rfl ?_
  refine Own.getfield hx hZ hown O0 0 6 rfl rfl (hw _ (List.mem_of_getElem? (i := 45) rfl)) (hb hby d7_1) rfl ?_
  refine Own.ifnullY hx (hb hby d7_4) (by decide) (pcT := 17) rfl ?_
  refine Own.aloadN hx (.ref o0) (hb hby d7_17) rfl rfl rfl ?_
  refine Own.dup hx (hb hby d7_18) rfl rfl ?_
  refine Own.getfield hx hZ hown O0 0 5 rfl rfl (hw _ (List.mem_of_getElem? (i := 34) rfl)) (hb hby d7_19) rfl ?_
  refine Own.iconst hx (1 : Int32) (hb hby d7_22) rfl (by decide) ?_
  refine Own.iadd hx (hb hby d7_23) rfl ?_
  refine Own.vI (3 : Int32) (by decide) ?_
  refine Own.putfield hx hZ hown O0 0 5 rfl rfl (hw _ (List.mem_of_getElem? (i := 34) rfl)) (Or.inl (hw _ (List.mem_of_getElem? (i := 35) rfl))) (hw _ (List.mem_of_getElem? (i := 6) rfl)) (ty := .int) (by decide) rfl rfl ((o0, Own.ObjC Z "com/example/tracewarden/tracewarden/monitor/Openings" [(("com/example/tracewarden/tracewarden/monitor/Openings", "cells", "[J"), (.ref ra)), (("com/example/tracewarden/tracewarden/monitor/Openings", "inner", "[J"), (.ref rb)), (("com/example/tracewarden/tracewarden/monitor/Openings", "lastFound", "I"), (.int (-1 : Int32))), (("com/example/tracewarden/tracewarden/monitor/Openings", "foundBefore", "I"), (.int (-1 : Int32))), (("com/example/tracewarden/tracewarden/monitor/Openings", "count", "I"), (.int (2 : Int32))), (("com/example/tracewarden/tracewarden/monitor/Openings", "first", "I"), (.int (3 : Int32))), (("com/example/tracewarden/tracewarden/monitor/Openings", "times", "[Ljava/math/BigDecimal;"), .null)]) :: fr) rfl (hb hby d7_24) rfl ?_
  intro h1 O2
  refine Own.aloadN hx (.ref o0) (hb hby d7_27) rfl rfl rfl ?_
  refine Own.dup hx (hb hby d7_28) rfl rfl ?_
  refine Own.getfield hx hZ hown O2 0 4 rfl rfl (hw _ (List.mem_of_getElem? (i := 28) rfl)) (hb hby d7_29) rfl ?_
  refine Own.iconst hx (1 : Int32) (hb hby d7_32) rfl (by decide) ?_
  refine Own.isub hx (hb hby d7_33) rfl ?_
  refine Own.vI (1 : Int32) (by decide) ?_
  refine Own.putfield hx hZ hown O2 0 4 rfl rfl (hw _ (List.mem_of_getElem? (i := 28) rfl)) (Or.inl (hw _ (List.mem_of_getElem? (i := 29) rfl))) (hw _ (List.mem_of_getElem? (i := 6) rfl)) (ty := .int) (by decide) rfl rfl ((o0, Own.ObjC Z "com/example/tracewarden/tracewarden/monitor/Openings" [(("com/example/tracewarden/tracewarden/monitor/Openings", "cells", "[J"), (.ref ra)), (("com/example/tracewarden/tracewarden/monitor/Openings", "inner", "[J"), (.ref rb)), (("com/example/tracewarden/tracewarden/monitor/Openings", "lastFound", "I"), (.int (-1 : Int32))), (("com/example/tracewarden/tracewarden/monitor/Openings", "foundBefore", "I"), (.int (-1 : Int32))), (("com/example/tracewarden/tracewarden/monitor/Openings", "count", "I"), (.int (1 : Int32))), (("com/example/tracewarden/tracewarden/monitor/Openings", "first", "I"), (.int (3 : Int32))), (("com/example/tracewarden/tracewarden/monitor/Openings", "times", "[Ljava/math/BigDecimal;"), .null)]) :: fr) rfl (hb hby d7_34) rfl ?_
  intro h3 O4
  exact Own.retV hx hret hlk (hb hby d7_37) (by decide) (by decide) ⟨rfl, O4⟩

theorem ef7_3 (m : MethodId) (o0 : Addr) : entryFrame m #[(.ref o0)] 1 = mkF m 0 #[.val (.ref o0)] [] := by first | (simp [entryFrame, mkF, argsToLocals, Value.category]; done) | rfl
set_option maxRecDepth 65536 in
set_option maxHeartbeats 40000000 in
theorem rm7_3 (l : Launch) (Z : State) (a0 : Array Value) (hw : ∀ d ∈ tables_1, d.before a0 Z = true) (o0 : Addr) (h0 : Heap) (n0 : Nat) (ra rb : Addr) (fr : List (Addr × (Cell → Prop))) (O0 : Own.Owns n0 h0 ((o0, Own.ObjC Z "com/example/tracewarden/tracewarden/monitor/Openings" [(("com/example/tracewarden/tracewarden/monitor/Openings", "cells", "[J"), (.ref ra)), (("com/example/tracewarden/tracewarden/monitor/Openings", "inner", "[J"), (.ref rb)), (("com/example/tracewarden/tracewarden/monitor/Openings", "lastFound", "I"), (.int (-1 : Int32))), (("com/example/tracewarden/tracewarden/monitor/Openings", "foundBefore", "I"), (.int (-1 : Int32))), (("com/example/tracewarden/tracewarden/monitor/Openings", "count", "I"), (.int (1 : Int32))), (("com/example/tracewarden/tracewarden/monitor/Openings", "first", "I"), (.int (3 : Int32))), (("com/example/tracewarden/tracewarden/monitor/Openings", "times", "[Ljava/math/BigDecimal;"), .null)]) :: fr))  : Own.Does l (⟨"com/example/tracewarden/tracewarden/monitor/Openings", "dropOldest", "()V"⟩ : MethodName) prog_92_method_21_code 1 none [] ({ frames := 0, cells := 0, slots := 0, locals := 0 } : Room) Z #[(.ref o0)] h0 n0 (fun v h => v = none ∧ Own.Owns n0 h ((o0, Own.ObjC Z "com/example/tracewarden/tracewarden/monitor/Openings" [(("com/example/tracewarden/tracewarden/monitor/Openings", "cells", "[J"), (.ref ra)), (("com/example/tracewarden/tracewarden/monitor/Openings", "inner", "[J"), (.ref rb)), (("com/example/tracewarden/tracewarden/monitor/Openings", "lastFound", "I"), (.int (-1 : Int32))), (("com/example/tracewarden/tracewarden/monitor/Openings", "foundBefore", "I"), (.int (-1 : Int32))), (("com/example/tracewarden/tracewarden/monitor/Openings", "count", "I"), (.int (0 : Int32))), (("com/example/tracewarden/tracewarden/monitor/Openings", "first", "I"), (.int (4 : Int32))), (("com/example/tracewarden/tracewarden/monitor/Openings", "times", "[Ljava/math/BigDecimal;"), .null)]) :: fr)) := by
  refine Own.doesOf pn4 ?_
  intro p e s m below meth c hx hby hml hret hlk hown hnm hZ
  refine Own.Goes.cast (ef7_3 m o0) ?_
  refine Own.aloadN hx (.ref o0) (hb hby d7_0) rfl rfl rfl ?_
  refine Own.getfield hx hZ hown O0 0 6 rfl rfl (hw _ (List.mem_of_getElem? (i := 45) rfl)) (hb hby d7_1) rfl ?_
  refine Own.ifnullY hx (hb hby d7_4) (by decide) (pcT := 17) rfl ?_
  refine Own.aloadN hx (.ref o0) (hb hby d7_17) rfl rfl rfl ?_
  refine Own.dup hx (hb hby d7_18) rfl rfl ?_
  refine Own.getfield hx hZ hown O0 0 5 rfl rfl (hw _ (List.mem_of_getElem? (i := 34) rfl)) (hb hby d7_19) rfl ?_
  refine Own.iconst hx (1 : Int32) (hb hby d7_22) rfl (by decide) ?_
  refine Own.iadd hx (hb hby d7_23) rfl ?_
  refine Own.vI (4 : Int32) (by decide) ?_
  refine Own.putfield hx hZ hown O0 0 5 rfl rfl (hw _ (List.mem_of_getElem? (i := 34) rfl)) (Or.inl (hw _ (List.mem_of_getElem? (i := 35) rfl))) (hw _ (List.mem_of_getElem? (i := 6) rfl)) (ty := .int) (by decide) rfl rfl ((o0, Own.ObjC Z "com/example/tracewarden/tracewarden/monitor/Openings" [(("com/example/tracewarden/tracewarden/monitor/Openings", "cells", "[J"), (.ref ra)), (("com/example/tracewarden/tracewarden/monitor/Openings", "inner", "[J"), (.ref rb)), (("com/example/tracewarden/tracewarden/monitor/Openings", "lastFound", "I"), (.int (-1 : Int32))), (("com/example/tracewarden/tracewarden/monitor/Openings", "foundBefore", "I"), (.int (-1 : Int32))), (("com/example/tracewarden/tracewarden/monitor/Openings", "count", "I"), (.int (1 : Int32))), (("com/example/tracewarden/tracewarden/monitor/Openings", "first", "I"), (.int (4 : Int32))), (("com/example/tracewarden/tracewarden/monitor/Openings", "times", "[Ljava/math/BigDecimal;"), .null)]) :: fr) rfl (hb hby d7_24) rfl ?_
  intro h1 O2
  refine Own.aloadN hx (.ref o0) (hb hby d7_27) rfl rfl rfl ?_
  refine Own.dup hx (hb hby d7_28) rfl rfl ?_
  refine Own.getfield hx hZ hown O2 0 4 rfl rfl (hw _ (List.mem_of_getElem? (i := 28) rfl)) (hb hby d7_29) rfl ?_
  refine Own.iconst hx (1 : Int32) (hb hby d7_32) rfl (by decide) ?_
  refine Own.isub hx (hb hby d7_33) rfl ?_
  refine Own.vI (0 : Int32) (by decide) ?_
  refine Own.putfield hx hZ hown O2 0 4 rfl rfl (hw _ (List.mem_of_getElem? (i := 28) rfl)) (Or.inl (hw _ (List.mem_of_getElem? (i := 29) rfl))) (hw _ (List.mem_of_getElem? (i := 6) rfl)) (ty := .int) (by decide) rfl rfl ((o0, Own.ObjC Z "com/example/tracewarden/tracewarden/monitor/Openings" [(("com/example/tracewarden/tracewarden/monitor/Openings", "cells", "[J"), (.ref ra)), (("com/example/tracewarden/tracewarden/monitor/Openings", "inner", "[J"), (.ref rb)), (("com/example/tracewarden/tracewarden/monitor/Openings", "lastFound", "I"), (.int (-1 : Int32))), (("com/example/tracewarden/tracewarden/monitor/Openings", "foundBefore", "I"), (.int (-1 : Int32))), (("com/example/tracewarden/tracewarden/monitor/Openings", "count", "I"), (.int (0 : Int32))), (("com/example/tracewarden/tracewarden/monitor/Openings", "first", "I"), (.int (4 : Int32))), (("com/example/tracewarden/tracewarden/monitor/Openings", "times", "[Ljava/math/BigDecimal;"), .null)]) :: fr) rfl (hb hby d7_34) rfl ?_
  intro h3 O4
  exact Own.retV hx hret hlk (hb hby d7_37) (by decide) (by decide) ⟨rfl, O4⟩

theorem d6_0 : decode prog_92_method_16_code 0 = .ok (.iconst 0, 1) := by decide +kernel
theorem d6_1 : decode prog_92_method_16_code 1 = .ok (.istore_n 2, 1) := by decide +kernel
theorem d6_2 : decode prog_92_method_16_code 2 = .ok (.iload_n 2, 1) := by decide +kernel
theorem d6_3 : decode prog_92_method_16_code 3 = .ok (.iload_n 1, 1) := by decide +kernel
theorem d6_4 : decode prog_92_method_16_code 4 = .ok (.if_icmp .ge 13, 3) := by decide +kernel
theorem d6_17 : decode prog_92_method_16_code 17 = .ok (.return_, 1) := by decide +kernel
theorem pn5 : plainFor (⟨"com/example/tracewarden/tracewarden/monitor/Openings", "dropFirst", "(I)V"⟩ : MethodName) = true := by first | exact plainFor_of_name (by simp [plainName, overriddenIn]; done) | decide +kernel
theorem ef6_0 (m : MethodId) (o0 : Addr) : entryFrame m #[(.ref o0), (.int (0 : Int32))] 3 = mkF m 0 #[.val (.ref o0), .val (.int (0 : Int32)), .unset] [] := by first | (simp [entryFrame, mkF, argsToLocals, Value.category]; done) | rfl
set_option maxRecDepth 65536 in
set_option maxHeartbeats 40000000 in
theorem rm6_0 (l : Launch) (Z : State) (a0 : Array Value) (hw : ∀ d ∈ tables_1, d.before a0 Z = true) (o0 : Addr) (h0 : Heap) (n0 : Nat) (ra rb : Addr) (fr : List (Addr × (Cell → Prop))) (O0 : Own.Owns n0 h0 ((o0, Own.ObjC Z "com/example/tracewarden/tracewarden/monitor/Openings" [(("com/example/tracewarden/tracewarden/monitor/Openings", "cells", "[J"), (.ref ra)), (("com/example/tracewarden/tracewarden/monitor/Openings", "inner", "[J"), (.ref rb)), (("com/example/tracewarden/tracewarden/monitor/Openings", "lastFound", "I"), (.int (-1 : Int32))), (("com/example/tracewarden/tracewarden/monitor/Openings", "foundBefore", "I"), (.int (-1 : Int32))), (("com/example/tracewarden/tracewarden/monitor/Openings", "count", "I"), (.int (4 : Int32))), (("com/example/tracewarden/tracewarden/monitor/Openings", "first", "I"), (.int (0 : Int32))), (("com/example/tracewarden/tracewarden/monitor/Openings", "times", "[Ljava/math/BigDecimal;"), .null)]) :: fr))  : Own.Does l (⟨"com/example/tracewarden/tracewarden/monitor/Openings", "dropFirst", "(I)V"⟩ : MethodName) prog_92_method_16_code 3 none [] ({ frames := 1, cells := 0, slots := 0, locals := 12 } : Room) Z #[(.ref o0), (.int (0 : Int32))] h0 n0 (fun v h => v = none ∧ Own.Owns n0 h ((o0, Own.ObjC Z "com/example/tracewarden/tracewarden/monitor/Openings" [(("com/example/tracewarden/tracewarden/monitor/Openings", "cells", "[J"), (.ref ra)), (("com/example/tracewarden/tracewarden/monitor/Openings", "inner", "[J"), (.ref rb)), (("com/example/tracewarden/tracewarden/monitor/Openings", "lastFound", "I"), (.int (-1 : Int32))), (("com/example/tracewarden/tracewarden/monitor/Openings", "foundBefore", "I"), (.int (-1 : Int32))), (("com/example/tracewarden/tracewarden/monitor/Openings", "count", "I"), (.int (4 : Int32))), (("com/example/tracewarden/tracewarden/monitor/Openings", "first", "I"), (.int (0 : Int32))), (("com/example/tracewarden/tracewarden/monitor/Openings", "times", "[Ljava/math/BigDecimal;"), .null)]) :: fr)) := by
  refine Own.doesOf pn5 ?_
  intro p e s m below meth c hx hby hml hret hlk hown hnm hZ
  refine Own.Goes.cast (ef6_0 m o0) ?_
  refine Own.iconst hx (0 : Int32) (hb hby d6_0) rfl (by decide) ?_
  refine Own.istoreN hx (0 : Int32) rfl #[.val (.ref o0), .val (.int (0 : Int32)), .val (.int (0 : Int32))] (hb hby d6_1) rfl rfl ?_
  refine Own.iloadN hx (0 : Int32) (hb hby d6_2) rfl rfl ?_
  refine Own.iloadN hx (0 : Int32) (hb hby d6_3) rfl rfl ?_
  have hc1 : ¬ ((0 : Int32) < (0 : Int32)) := by decide
  refine Own.icmpFn hx (Own.q_ge (0 : Int32) (0 : Int32)) (hb hby d6_4) (pcN := 7) rfl (by decide) (pcT := 17) rfl (fun _ => ?_) (fun q => absurd q hc1)
  exact Own.retV hx hret hlk (hb hby d6_17) (by decide) (by decide) ⟨rfl, O0⟩

theorem d6_7 : decode prog_92_method_16_code 7 = .ok (.aload_n 0, 1) := by decide +kernel
theorem d6_8 : decode prog_92_method_16_code 8 = .ok (.invokevirtual 67, 3) := by decide +kernel
theorem d6_11 : decode prog_92_method_16_code 11 = .ok (.iinc 2 1, 3) := by decide +kernel
theorem d6_14 : decode prog_92_method_16_code 14 = .ok (.goto (-12), 3) := by decide +kernel
theorem ef6_1 (m : MethodId) (o0 : Addr) : entryFrame m #[(.ref o0), (.int (1 : Int32))] 3 = mkF m 0 #[.val (.ref o0), .val (.int (1 : Int32)), .unset] [] := by first | (simp [entryFrame, mkF, argsToLocals, Value.category]; done) | rfl
set_option maxRecDepth 65536 in
set_option maxHeartbeats 40000000 in
theorem rm6_1 (l : Launch) (Z : State) (a0 : Array Value) (hw : ∀ d ∈ tables_1, d.before a0 Z = true) (o0 : Addr) (h0 : Heap) (n0 : Nat) (ra rb : Addr) (fr : List (Addr × (Cell → Prop))) (O0 : Own.Owns n0 h0 ((o0, Own.ObjC Z "com/example/tracewarden/tracewarden/monitor/Openings" [(("com/example/tracewarden/tracewarden/monitor/Openings", "cells", "[J"), (.ref ra)), (("com/example/tracewarden/tracewarden/monitor/Openings", "inner", "[J"), (.ref rb)), (("com/example/tracewarden/tracewarden/monitor/Openings", "lastFound", "I"), (.int (-1 : Int32))), (("com/example/tracewarden/tracewarden/monitor/Openings", "foundBefore", "I"), (.int (-1 : Int32))), (("com/example/tracewarden/tracewarden/monitor/Openings", "count", "I"), (.int (4 : Int32))), (("com/example/tracewarden/tracewarden/monitor/Openings", "first", "I"), (.int (0 : Int32))), (("com/example/tracewarden/tracewarden/monitor/Openings", "times", "[Ljava/math/BigDecimal;"), .null)]) :: fr))  : Own.Does l (⟨"com/example/tracewarden/tracewarden/monitor/Openings", "dropFirst", "(I)V"⟩ : MethodName) prog_92_method_16_code 3 none [] ({ frames := 1, cells := 0, slots := 0, locals := 12 } : Room) Z #[(.ref o0), (.int (1 : Int32))] h0 n0 (fun v h => v = none ∧ Own.Owns n0 h ((o0, Own.ObjC Z "com/example/tracewarden/tracewarden/monitor/Openings" [(("com/example/tracewarden/tracewarden/monitor/Openings", "cells", "[J"), (.ref ra)), (("com/example/tracewarden/tracewarden/monitor/Openings", "inner", "[J"), (.ref rb)), (("com/example/tracewarden/tracewarden/monitor/Openings", "lastFound", "I"), (.int (-1 : Int32))), (("com/example/tracewarden/tracewarden/monitor/Openings", "foundBefore", "I"), (.int (-1 : Int32))), (("com/example/tracewarden/tracewarden/monitor/Openings", "count", "I"), (.int (3 : Int32))), (("com/example/tracewarden/tracewarden/monitor/Openings", "first", "I"), (.int (1 : Int32))), (("com/example/tracewarden/tracewarden/monitor/Openings", "times", "[Ljava/math/BigDecimal;"), .null)]) :: fr)) := by
  refine Own.doesOf pn5 ?_
  intro p e s m below meth c hx hby hml hret hlk hown hnm hZ
  refine Own.Goes.cast (ef6_1 m o0) ?_
  refine Own.iconst hx (0 : Int32) (hb hby d6_0) rfl (by decide) ?_
  refine Own.istoreN hx (0 : Int32) rfl #[.val (.ref o0), .val (.int (1 : Int32)), .val (.int (0 : Int32))] (hb hby d6_1) rfl rfl ?_
  refine Own.iloadN hx (0 : Int32) (hb hby d6_2) rfl rfl ?_
  refine Own.iloadN hx (1 : Int32) (hb hby d6_3) rfl rfl ?_
  have hc1 : (0 : Int32) < (1 : Int32) := by decide
  refine Own.icmpFn hx (Own.q_ge (0 : Int32) (1 : Int32)) (hb hby d6_4) (pcN := 7) rfl (by decide) (pcT := 17) rfl (fun q => absurd hc1 q) (fun _ => ?_)
  refine Own.aloadN hx (.ref o0) (hb hby d6_7) rfl rfl rfl ?_
  refine Own.callP hx hZ hown (O0.exa (i := 0) rfl) (hw _ (List.mem_of_getElem? (i := 41) rfl)) (hw _ (List.mem_of_getElem? (i := 42) rfl)) (hw _ (List.mem_of_getElem? (i := 6) rfl)) (hw _ (List.mem_of_getElem? (i := 43) rfl)) (hw _ (List.mem_of_getElem? (i := 7) rfl)) (hw _ (List.mem_of_getElem? (i := 44) rfl)) (by decide) pd0 (argsL := []) (rest := []) rfl (W := 0) (Nat.le_of_eq rfl) (rm := ({ frames := 0, cells := 0, slots := 0, locals := 0 } : Room)) (by decide) (by decide) (by decide) (by decide) (k' := 0) (n' := 0) rfl rfl (by rw [hml]; rfl) [(.ref o0)] rfl (hb hby d6_8) (pc' := 11) rfl (rm7_0 l Z a0 hw o0 h0 n0 ra rb fr O0) ?_
  rintro _ h3 ⟨rfl, O4⟩
  show Own.Goes _ _ _ _ _ _ _ _ _ _ _ _ _ _ _ _ _ (mkF m 11 #[.val (.ref o0), .val (.int (1 : Int32)), .val (.int (0 : Int32))] [])
  refine Own.iinc hx (1 : Int32) #[.val (.ref o0), .val (.int (1 : Int32)), .val (.int (1 : Int32))] (hb hby d6_11) rfl rfl (by decide) rfl ?_
  refine Own.goto hx (hb hby d6_14) (by decide) (pc' := 2) rfl ?_
  refine Own.iloadN hx (1 : Int32) (hb hby d6_2) rfl rfl ?_
  refine Own.iloadN hx (1 : Int32) (hb hby d6_3) rfl rfl ?_
  have hc5 : ¬ ((1 : Int32) < (1 : Int32)) := by decide
  refine Own.icmpFn hx (Own.q_ge (1 : Int32) (1 : Int32)) (hb hby d6_4) (pcN := 7) rfl (by decide) (pcT := 17) rfl (fun _ => ?_) (fun q => absurd q hc5)
  exact Own.retV hx hret hlk (hb hby d6_17) (by decide) (by decide) ⟨rfl, O4⟩

theorem ef6_2 (m : MethodId) (o0 : Addr) : entryFrame m #[(.ref o0), (.int (2 : Int32))] 3 = mkF m 0 #[.val (.ref o0), .val (.int (2 : Int32)), .unset] [] := by first | (simp [entryFrame, mkF, argsToLocals, Value.category]; done) | rfl
set_option maxRecDepth 65536 in
set_option maxHeartbeats 40000000 in
theorem rm6_2 (l : Launch) (Z : State) (a0 : Array Value) (hw : ∀ d ∈ tables_1, d.before a0 Z = true) (o0 : Addr) (h0 : Heap) (n0 : Nat) (ra rb : Addr) (fr : List (Addr × (Cell → Prop))) (O0 : Own.Owns n0 h0 ((o0, Own.ObjC Z "com/example/tracewarden/tracewarden/monitor/Openings" [(("com/example/tracewarden/tracewarden/monitor/Openings", "cells", "[J"), (.ref ra)), (("com/example/tracewarden/tracewarden/monitor/Openings", "inner", "[J"), (.ref rb)), (("com/example/tracewarden/tracewarden/monitor/Openings", "lastFound", "I"), (.int (-1 : Int32))), (("com/example/tracewarden/tracewarden/monitor/Openings", "foundBefore", "I"), (.int (-1 : Int32))), (("com/example/tracewarden/tracewarden/monitor/Openings", "count", "I"), (.int (4 : Int32))), (("com/example/tracewarden/tracewarden/monitor/Openings", "first", "I"), (.int (0 : Int32))), (("com/example/tracewarden/tracewarden/monitor/Openings", "times", "[Ljava/math/BigDecimal;"), .null)]) :: fr))  : Own.Does l (⟨"com/example/tracewarden/tracewarden/monitor/Openings", "dropFirst", "(I)V"⟩ : MethodName) prog_92_method_16_code 3 none [] ({ frames := 1, cells := 0, slots := 0, locals := 12 } : Room) Z #[(.ref o0), (.int (2 : Int32))] h0 n0 (fun v h => v = none ∧ Own.Owns n0 h ((o0, Own.ObjC Z "com/example/tracewarden/tracewarden/monitor/Openings" [(("com/example/tracewarden/tracewarden/monitor/Openings", "cells", "[J"), (.ref ra)), (("com/example/tracewarden/tracewarden/monitor/Openings", "inner", "[J"), (.ref rb)), (("com/example/tracewarden/tracewarden/monitor/Openings", "lastFound", "I"), (.int (-1 : Int32))), (("com/example/tracewarden/tracewarden/monitor/Openings", "foundBefore", "I"), (.int (-1 : Int32))), (("com/example/tracewarden/tracewarden/monitor/Openings", "count", "I"), (.int (2 : Int32))), (("com/example/tracewarden/tracewarden/monitor/Openings", "first", "I"), (.int (2 : Int32))), (("com/example/tracewarden/tracewarden/monitor/Openings", "times", "[Ljava/math/BigDecimal;"), .null)]) :: fr)) := by
  refine Own.doesOf pn5 ?_
  intro p e s m below meth c hx hby hml hret hlk hown hnm hZ
  refine Own.Goes.cast (ef6_2 m o0) ?_
  refine Own.iconst hx (0 : Int32) (hb hby d6_0) rfl (by decide) ?_
  refine Own.istoreN hx (0 : Int32) rfl #[.val (.ref o0), .val (.int (2 : Int32)), .val (.int (0 : Int32))] (hb hby d6_1) rfl rfl ?_
  refine Own.iloadN hx (0 : Int32) (hb hby d6_2) rfl rfl ?_
  refine Own.iloadN hx (2 : Int32) (hb hby d6_3) rfl rfl ?_
  have hc1 : (0 : Int32) < (2 : Int32) := by decide
  refine Own.icmpFn hx (Own.q_ge (0 : Int32) (2 : Int32)) (hb hby d6_4) (pcN := 7) rfl (by decide) (pcT := 17) rfl (fun q => absurd hc1 q) (fun _ => ?_)
  refine Own.aloadN hx (.ref o0) (hb hby d6_7) rfl rfl rfl ?_
  refine Own.callP hx hZ hown (O0.exa (i := 0) rfl) (hw _ (List.mem_of_getElem? (i := 41) rfl)) (hw _ (List.mem_of_getElem? (i := 42) rfl)) (hw _ (List.mem_of_getElem? (i := 6) rfl)) (hw _ (List.mem_of_getElem? (i := 43) rfl)) (hw _ (List.mem_of_getElem? (i := 7) rfl)) (hw _ (List.mem_of_getElem? (i := 44) rfl)) (by decide) pd0 (argsL := []) (rest := []) rfl (W := 0) (Nat.le_of_eq rfl) (rm := ({ frames := 0, cells := 0, slots := 0, locals := 0 } : Room)) (by decide) (by decide) (by decide) (by decide) (k' := 0) (n' := 0) rfl rfl (by rw [hml]; rfl) [(.ref o0)] rfl (hb hby d6_8) (pc' := 11) rfl (rm7_0 l Z a0 hw o0 h0 n0 ra rb fr O0) ?_
  rintro _ h3 ⟨rfl, O4⟩
  show Own.Goes _ _ _ _ _ _ _ _ _ _ _ _ _ _ _ _ _ (mkF m 11 #[.val (.ref o0), .val (.int (2 : Int32)), .val (.int (0 : Int32))] [])
  refine Own.iinc hx (1 : Int32) #[.val (.ref o0), .val (.int (2 : Int32)), .val (.int (1 : Int32))] (hb hby d6_11) rfl rfl (by decide) rfl ?_
  refine Own.goto hx (hb hby d6_14) (by decide) (pc' := 2) rfl ?_
  refine Own.iloadN hx (1 : Int32) (hb hby d6_2) rfl rfl ?_
  refine Own.iloadN hx (2 : Int32) (hb hby d6_3) rfl rfl ?_
  have hc5 : (1 : Int32) < (2 : Int32) := by decide
  refine Own.icmpFn hx (Own.q_ge (1 : Int32) (2 : Int32)) (hb hby d6_4) (pcN := 7) rfl (by decide) (pcT := 17) rfl (fun q => absurd hc5 q) (fun _ => ?_)
  refine Own.aloadN hx (.ref o0) (hb hby d6_7) rfl rfl rfl ?_
  refine Own.callP hx hZ hown (O4.exa (i := 0) rfl) (hw _ (List.mem_of_getElem? (i := 41) rfl)) (hw _ (List.mem_of_getElem? (i := 42) rfl)) (hw _ (List.mem_of_getElem? (i := 6) rfl)) (hw _ (List.mem_of_getElem? (i := 43) rfl)) (hw _ (List.mem_of_getElem? (i := 7) rfl)) (hw _ (List.mem_of_getElem? (i := 44) rfl)) (by decide) pd0 (argsL := []) (rest := []) rfl (W := 0) (Nat.le_of_eq rfl) (rm := ({ frames := 0, cells := 0, slots := 0, locals := 0 } : Room)) (by decide) (by decide) (by decide) (by decide) (k' := 0) (n' := 0) rfl rfl (by rw [hml]; rfl) [(.ref o0)] rfl (hb hby d6_8) (pc' := 11) rfl (rm7_1 l Z a0 hw o0 h3 n0 ra rb fr O4) ?_
  rintro _ h7 ⟨rfl, O8⟩
  show Own.Goes _ _ _ _ _ _ _ _ _ _ _ _ _ _ _ _ _ (mkF m 11 #[.val (.ref o0), .val (.int (2 : Int32)), .val (.int (1 : Int32))] [])
  refine Own.iinc hx (2 : Int32) #[.val (.ref o0), .val (.int (2 : Int32)), .val (.int (2 : Int32))] (hb hby d6_11) rfl rfl (by decide) rfl ?_
  refine Own.goto hx (hb hby d6_14) (by decide) (pc' := 2) rfl ?_
  refine Own.iloadN hx (2 : Int32) (hb hby d6_2) rfl rfl ?_
  refine Own.iloadN hx (2 : Int32) (hb hby d6_3) rfl rfl ?_
  have hc9 : ¬ ((2 : Int32) < (2 : Int32)) := by decide
  refine Own.icmpFn hx (Own.q_ge (2 : Int32) (2 : Int32)) (hb hby d6_4) (pcN := 7) rfl (by decide) (pcT := 17) rfl (fun _ => ?_) (fun q => absurd q hc9)
  exact Own.retV hx hret hlk (hb hby d6_17) (by decide) (by decide) ⟨rfl, O8⟩

theorem ef6_3 (m : MethodId) (o0 : Addr) : entryFrame m #[(.ref o0), (.int (3 : Int32))] 3 = mkF m 0 #[.val (.ref o0), .val (.int (3 : Int32)), .unset] [] := by first | (simp [entryFrame, mkF, argsToLocals, Value.category]; done) | rfl
set_option maxRecDepth 65536 in
set_option maxHeartbeats 40000000 in
theorem rm6_3 (l : Launch) (Z : State) (a0 : Array Value) (hw : ∀ d ∈ tables_1, d.before a0 Z = true) (o0 : Addr) (h0 : Heap) (n0 : Nat) (ra rb : Addr) (fr : List (Addr × (Cell → Prop))) (O0 : Own.Owns n0 h0 ((o0, Own.ObjC Z "com/example/tracewarden/tracewarden/monitor/Openings" [(("com/example/tracewarden/tracewarden/monitor/Openings", "cells", "[J"), (.ref ra)), (("com/example/tracewarden/tracewarden/monitor/Openings", "inner", "[J"), (.ref rb)), (("com/example/tracewarden/tracewarden/monitor/Openings", "lastFound", "I"), (.int (-1 : Int32))), (("com/example/tracewarden/tracewarden/monitor/Openings", "foundBefore", "I"), (.int (-1 : Int32))), (("com/example/tracewarden/tracewarden/monitor/Openings", "count", "I"), (.int (4 : Int32))), (("com/example/tracewarden/tracewarden/monitor/Openings", "first", "I"), (.int (0 : Int32))), (("com/example/tracewarden/tracewarden/monitor/Openings", "times", "[Ljava/math/BigDecimal;"), .null)]) :: fr))  : Own.Does l (⟨"com/example/tracewarden/tracewarden/monitor/Openings", "dropFirst", "(I)V"⟩ : MethodName) prog_92_method_16_code 3 none [] ({ frames := 1, cells := 0, slots := 0, locals := 12 } : Room) Z #[(.ref o0), (.int (3 : Int32))] h0 n0 (fun v h => v = none ∧ Own.Owns n0 h ((o0, Own.ObjC Z "com/example/tracewarden/tracewarden/monitor/Openings" [(("com/example/tracewarden/tracewarden/monitor/Openings", "cells", "[J"), (.ref ra)), (("com/example/tracewarden/tracewarden/monitor/Openings", "inner", "[J"), (.ref rb)), (("com/example/tracewarden/tracewarden/monitor/Openings", "lastFound", "I"), (.int (-1 : Int32))), (("com/example/tracewarden/tracewarden/monitor/Openings", "foundBefore", "I"), (.int (-1 : Int32))), (("com/example/tracewarden/tracewarden/monitor/Openings", "count", "I"), (.int (1 : Int32))), (("com/example/tracewarden/tracewarden/monitor/Openings", "first", "I"), (.int (3 : Int32))), (("com/example/tracewarden/tracewarden/monitor/Openings", "times", "[Ljava/math/BigDecimal;"), .null)]) :: fr)) := by
  refine Own.doesOf pn5 ?_
  intro p e s m below meth c hx hby hml hret hlk hown hnm hZ
  refine Own.Goes.cast (ef6_3 m o0) ?_
  refine Own.iconst hx (0 : Int32) (hb hby d6_0) rfl (by decide) ?_
  refine Own.istoreN hx (0 : Int32) rfl #[.val (.ref o0), .val (.int (3 : Int32)), .val (.int (0 : Int32))] (hb hby d6_1) rfl rfl ?_
  refine Own.iloadN hx (0 : Int32) (hb hby d6_2) rfl rfl ?_
  refine Own.iloadN hx (3 : Int32) (hb hby d6_3) rfl rfl ?_
  have hc1 : (0 : Int32) < (3 : Int32) := by decide
  refine Own.icmpFn hx (Own.q_ge (0 : Int32) (3 : Int32)) (hb hby d6_4) (pcN := 7) rfl (by decide) (pcT := 17) rfl (fun q => absurd hc1 q) (fun _ => ?_)
  refine Own.aloadN hx (.ref o0) (hb hby d6_7) rfl rfl rfl ?_
  refine Own.callP hx hZ hown (O0.exa (i := 0) rfl) (hw _ (List.mem_of_getElem? (i := 41) rfl)) (hw _ (List.mem_of_getElem? (i := 42) rfl)) (hw _ (List.mem_of_getElem? (i := 6) rfl)) (hw _ (List.mem_of_getElem? (i := 43) rfl)) (hw _ (List.mem_of_getElem? (i := 7) rfl)) (hw _ (List.mem_of_getElem? (i := 44) rfl)) (by decide) pd0 (argsL := []) (rest := []) rfl (W := 0) (Nat.le_of_eq rfl) (rm := ({ frames := 0, cells := 0, slots := 0, locals := 0 } : Room)) (by decide) (by decide) (by decide) (by decide) (k' := 0) (n' := 0) rfl rfl (by rw [hml]; rfl) [(.ref o0)] rfl (hb hby d6_8) (pc' := 11) rfl (rm7_0 l Z a0 hw o0 h0 n0 ra rb fr O0) ?_
  rintro _ h3 ⟨rfl, O4⟩
  show Own.Goes _ _ _ _ _ _ _ _ _ _ _ _ _ _ _ _ _ (mkF m 11 #[.val (.ref o0), .val (.int (3 : Int32)), .val (.int (0 : Int32))] [])
  refine Own.iinc hx (1 : Int32) #[.val (.ref o0), .val (.int (3 : Int32)), .val (.int (1 : Int32))] (hb hby d6_11) rfl rfl (by decide) rfl ?_
  refine Own.goto hx (hb hby d6_14) (by decide) (pc' := 2) rfl ?_
  refine Own.iloadN hx (1 : Int32) (hb hby d6_2) rfl rfl ?_
  refine Own.iloadN hx (3 : Int32) (hb hby d6_3) rfl rfl ?_
  have hc5 : (1 : Int32) < (3 : Int32) := by decide
  refine Own.icmpFn hx (Own.q_ge (1 : Int32) (3 : Int32)) (hb hby d6_4) (pcN := 7) rfl (by decide) (pcT := 17) rfl (fun q => absurd hc5 q) (fun _ => ?_)
  refine Own.aloadN hx (.ref o0) (hb hby d6_7) rfl rfl rfl ?_
  refine Own.callP hx hZ hown (O4.exa (i := 0) rfl) (hw _ (List.mem_of_getElem? (i := 41) rfl)) (hw _ (List.mem_of_getElem? (i := 42) rfl)) (hw _ (List.mem_of_getElem? (i := 6) rfl)) (hw _ (List.mem_of_getElem? (i := 43) rfl)) (hw _ (List.mem_of_getElem? (i := 7) rfl)) (hw _ (List.mem_of_getElem? (i := 44) rfl)) (by decide) pd0 (argsL := []) (rest := []) rfl (W := 0) (Nat.le_of_eq rfl) (rm := ({ frames := 0, cells := 0, slots := 0, locals := 0 } : Room)) (by decide) (by decide) (by decide) (by decide) (k' := 0) (n' := 0) rfl rfl (by rw [hml]; rfl) [(.ref o0)] rfl (hb hby d6_8) (pc' := 11) rfl (rm7_1 l Z a0 hw o0 h3 n0 ra rb fr O4) ?_
  rintro _ h7 ⟨rfl, O8⟩
  show Own.Goes _ _ _ _ _ _ _ _ _ _ _ _ _ _ _ _ _ (mkF m 11 #[.val (.ref o0), .val (.int (3 : Int32)), .val (.int (1 : Int32))] [])
  refine Own.iinc hx (2 : Int32) #[.val (.ref o0), .val (.int (3 : Int32)), .val (.int (2 : Int32))] (hb hby d6_11) rfl rfl (by decide) rfl ?_
  refine Own.goto hx (hb hby d6_14) (by decide) (pc' := 2) rfl ?_
  refine Own.iloadN hx (2 : Int32) (hb hby d6_2) rfl rfl ?_
  refine Own.iloadN hx (3 : Int32) (hb hby d6_3) rfl rfl ?_
  have hc9 : (2 : Int32) < (3 : Int32) := by decide
  refine Own.icmpFn hx (Own.q_ge (2 : Int32) (3 : Int32)) (hb hby d6_4) (pcN := 7) rfl (by decide) (pcT := 17) rfl (fun q => absurd hc9 q) (fun _ => ?_)
  refine Own.aloadN hx (.ref o0) (hb hby d6_7) rfl rfl rfl ?_
  refine Own.callP hx hZ hown (O8.exa (i := 0) rfl) (hw _ (List.mem_of_getElem? (i := 41) rfl)) (hw _ (List.mem_of_getElem? (i := 42) rfl)) (hw _ (List.mem_of_getElem? (i := 6) rfl)) (hw _ (List.mem_of_getElem? (i := 43) rfl)) (hw _ (List.mem_of_getElem? (i := 7) rfl)) (hw _ (List.mem_of_getElem? (i := 44) rfl)) (by decide) pd0 (argsL := []) (rest := []) rfl (W := 0) (Nat.le_of_eq rfl) (rm := ({ frames := 0, cells := 0, slots := 0, locals := 0 } : Room)) (by decide) (by decide) (by decide) (by decide) (k' := 0) (n' := 0) rfl rfl (by rw [hml]; rfl) [(.ref o0)] rfl (hb hby d6_8) (pc' := 11) rfl (rm7_2 l Z a0 hw o0 h7 n0 ra rb fr O8) ?_
  rintro _ h11 ⟨rfl, O12⟩
  show Own.Goes _ _ _ _ _ _ _ _ _ _ _ _ _ _ _ _ _ (mkF m 11 #[.val (.ref o0), .val (.int (3 : Int32)), .val (.int (2 : Int32))] [])
  refine Own.iinc hx (3 : Int32) #[.val (.ref o0), .val (.int (3 : Int32)), .val (.int (3 : Int32))] (hb hby d6_11) rfl rfl (by decide) rfl ?_
  refine Own.goto hx (hb hby d6_14) (by decide) (pc' := 2) rfl ?_
  refine Own.iloadN hx (3 : Int32) (hb hby d6_2) rfl rfl ?_
  refine Own.iloadN hx (3 : Int32) (hb hby d6_3) rfl rfl ?_
  have hc13 : ¬ ((3 : Int32) < (3 : Int32)) := by decide
  refine Own.icmpFn hx (Own.q_ge (3 : Int32) (3 : Int32)) (hb hby d6_4) (pcN := 7) rfl (by decide) (pcT := 17) rfl (fun _ => ?_) (fun q => absurd q hc13)
  exact Own.retV hx hret hlk (hb hby d6_17) (by decide) (by decide) ⟨rfl, O12⟩

theorem ef6_4 (m : MethodId) (o0 : Addr) : entryFrame m #[(.ref o0), (.int (4 : Int32))] 3 = mkF m 0 #[.val (.ref o0), .val (.int (4 : Int32)), .unset] [] := by first | (simp [entryFrame, mkF, argsToLocals, Value.category]; done) | rfl
set_option maxRecDepth 65536 in
set_option maxHeartbeats 40000000 in
theorem rm6_4 (l : Launch) (Z : State) (a0 : Array Value) (hw : ∀ d ∈ tables_1, d.before a0 Z = true) (o0 : Addr) (h0 : Heap) (n0 : Nat) (ra rb : Addr) (fr : List (Addr × (Cell → Prop))) (O0 : Own.Owns n0 h0 ((o0, Own.ObjC Z "com/example/tracewarden/tracewarden/monitor/Openings" [(("com/example/tracewarden/tracewarden/monitor/Openings", "cells", "[J"), (.ref ra)), (("com/example/tracewarden/tracewarden/monitor/Openings", "inner", "[J"), (.ref rb)), (("com/example/tracewarden/tracewarden/monitor/Openings", "lastFound", "I"), (.int (-1 : Int32))), (("com/example/tracewarden/tracewarden/monitor/Openings", "foundBefore", "I"), (.int (-1 : Int32))), (("com/example/tracewarden/tracewarden/monitor/Openings", "count", "I"), (.int (4 : Int32))), (("com/example/tracewarden/tracewarden/monitor/Openings", "first", "I"), (.int (0 : Int32))), (("com/example/tracewarden/tracewarden/monitor/Openings", "times", "[Ljava/math/BigDecimal;"), .null)]) :: fr))  : Own.Does l (⟨"com/example/tracewarden/tracewarden/monitor/Openings", "dropFirst", "(I)V"⟩ : MethodName) prog_92_method_16_code 3 none [] ({ frames := 1, cells := 0, slots := 0, locals := 12 } : Room) Z #[(.ref o0), (.int (4 : Int32))] h0 n0 (fun v h => v = none ∧ Own.Owns n0 h ((o0, Own.ObjC Z "com/example/tracewarden/tracewarden/monitor/Openings" [(("com/example/tracewarden/tracewarden/monitor/Openings", "cells", "[J"), (.ref ra)), (("com/example/tracewarden/tracewarden/monitor/Openings", "inner", "[J"), (.ref rb)), (("com/example/tracewarden/tracewarden/monitor/Openings", "lastFound", "I"), (.int (-1 : Int32))), (("com/example/tracewarden/tracewarden/monitor/Openings", "foundBefore", "I"), (.int (-1 : Int32))), (("com/example/tracewarden/tracewarden/monitor/Openings", "count", "I"), (.int (0 : Int32))), (("com/example/tracewarden/tracewarden/monitor/Openings", "first", "I"), (.int (4 : Int32))), (("com/example/tracewarden/tracewarden/monitor/Openings", "times", "[Ljava/math/BigDecimal;"), .null)]) :: fr)) := by
  refine Own.doesOf pn5 ?_
  intro p e s m below meth c hx hby hml hret hlk hown hnm hZ
  refine Own.Goes.cast (ef6_4 m o0) ?_
  refine Own.iconst hx (0 : Int32) (hb hby d6_0) rfl (by decide) ?_
  refine Own.istoreN hx (0 : Int32) rfl #[.val (.ref o0), .val (.int (4 : Int32)), .val (.int (0 : Int32))] (hb hby d6_1) rfl rfl ?_
  refine Own.iloadN hx (0 : Int32) (hb hby d6_2) rfl rfl ?_
  refine Own.iloadN hx (4 : Int32) (hb hby d6_3) rfl rfl ?_
  have hc1 : (0 : Int32) < (4 : Int32) := by decide
  refine Own.icmpFn hx (Own.q_ge (0 : Int32) (4 : Int32)) (hb hby d6_4) (pcN := 7) rfl (by decide) (pcT := 17) rfl (fun q => absurd hc1 q) (fun _ => ?_)
  refine Own.aloadN hx (.ref o0) (hb hby d6_7) rfl rfl rfl ?_
  refine Own.callP hx hZ hown (O0.exa (i := 0) rfl) (hw _ (List.mem_of_getElem? (i := 41) rfl)) (hw _ (List.mem_of_getElem? (i := 42) rfl)) (hw _ (List.mem_of_getElem? (i := 6) rfl)) (hw _ (List.mem_of_getElem? (i := 43) rfl)) (hw _ (List.mem_of_getElem? (i := 7) rfl)) (hw _ (List.mem_of_getElem? (i := 44) rfl)) (by decide) pd0 (argsL := []) (rest := []) rfl (W := 0) (Nat.le_of_eq rfl) (rm := ({ frames := 0, cells := 0, slots := 0, locals := 0 } : Room)) (by decide) (by decide) (by decide) (by decide) (k' := 0) (n' := 0) rfl rfl (by rw [hml]; rfl) [(.ref o0)] rfl (hb hby d6_8) (pc' := 11) rfl (rm7_0 l Z a0 hw o0 h0 n0 ra rb fr O0) ?_
  rintro _ h3 ⟨rfl, O4⟩
  show Own.Goes _ _ _ _ _ _ _ _ _ _ _ _ _ _ _ _ _ (mkF m 11 #[.val (.ref o0), .val (.int (4 : Int32)), .val (.int (0 : Int32))] [])
  refine Own.iinc hx (1 : Int32) #[.val (.ref o0), .val (.int (4 : Int32)), .val (.int (1 : Int32))] (hb hby d6_11) rfl rfl (by decide) rfl ?_
  refine Own.goto hx (hb hby d6_14) (by decide) (pc' := 2) rfl ?_
  refine Own.iloadN hx (1 : Int32) (hb hby d6_2) rfl rfl ?_
  refine Own.iloadN hx (4 : Int32) (hb hby d6_3) rfl rfl ?_
  have hc5 : (1 : Int32) < (4 : Int32) := by decide
  refine Own.icmpFn hx (Own.q_ge (1 : Int32) (4 : Int32)) (hb hby d6_4) (pcN := 7) rfl (by decide) (pcT := 17) rfl (fun q => absurd hc5 q) (fun _ => ?_)
  refine Own.aloadN hx (.ref o0) (hb hby d6_7) rfl rfl rfl ?_
  refine Own.callP hx hZ hown (O4.exa (i := 0) rfl) (hw _ (List.mem_of_getElem? (i := 41) rfl)) (hw _ (List.mem_of_getElem? (i := 42) rfl)) (hw _ (List.mem_of_getElem? (i := 6) rfl)) (hw _ (List.mem_of_getElem? (i := 43) rfl)) (hw _ (List.mem_of_getElem? (i := 7) rfl)) (hw _ (List.mem_of_getElem? (i := 44) rfl)) (by decide) pd0 (argsL := []) (rest := []) rfl (W := 0) (Nat.le_of_eq rfl) (rm := ({ frames := 0, cells := 0, slots := 0, locals := 0 } : Room)) (by decide) (by decide) (by decide) (by decide) (k' := 0) (n' := 0) rfl rfl (by rw [hml]; rfl) [(.ref o0)] rfl (hb hby d6_8) (pc' := 11) rfl (rm7_1 l Z a0 hw o0 h3 n0 ra rb fr O4) ?_
  rintro _ h7 ⟨rfl, O8⟩
  show Own.Goes _ _ _ _ _ _ _ _ _ _ _ _ _ _ _ _ _ (mkF m 11 #[.val (.ref o0), .val (.int (4 : Int32)), .val (.int (1 : Int32))] [])
  refine Own.iinc hx (2 : Int32) #[.val (.ref o0), .val (.int (4 : Int32)), .val (.int (2 : Int32))] (hb hby d6_11) rfl rfl (by decide) rfl ?_
  refine Own.goto hx (hb hby d6_14) (by decide) (pc' := 2) rfl ?_
  refine Own.iloadN hx (2 : Int32) (hb hby d6_2) rfl rfl ?_
  refine Own.iloadN hx (4 : Int32) (hb hby d6_3) rfl rfl ?_
  have hc9 : (2 : Int32) < (4 : Int32) := by decide
  refine Own.icmpFn hx (Own.q_ge (2 : Int32) (4 : Int32)) (hb hby d6_4) (pcN := 7) rfl (by decide) (pcT := 17) rfl (fun q => absurd hc9 q) (fun _ => ?_)
  refine Own.aloadN hx (.ref o0) (hb hby d6_7) rfl rfl rfl ?_
  refine Own.callP hx hZ hown (O8.exa (i := 0) rfl) (hw _ (List.mem_of_getElem? (i := 41) rfl)) (hw _ (List.mem_of_getElem? (i := 42) rfl)) (hw _ (List.mem_of_getElem? (i := 6) rfl)) (hw _ (List.mem_of_getElem? (i := 43) rfl)) (hw _ (List.mem_of_getElem? (i := 7) rfl)) (hw _ (List.mem_of_getElem? (i := 44) rfl)) (by decide) pd0 (argsL := []) (rest := []) rfl (W := 0) (Nat.le_of_eq rfl) (rm := ({ frames := 0, cells := 0, slots := 0, locals := 0 } : Room)) (by decide) (by decide) (by decide) (by decide) (k' := 0) (n' := 0) rfl rfl (by rw [hml]; rfl) [(.ref o0)] rfl (hb hby d6_8) (pc' := 11) rfl (rm7_2 l Z a0 hw o0 h7 n0 ra rb fr O8) ?_
  rintro _ h11 ⟨rfl, O12⟩
  show Own.Goes _ _ _ _ _ _ _ _ _ _ _ _ _ _ _ _ _ (mkF m 11 #[.val (.ref o0), .val (.int (4 : Int32)), .val (.int (2 : Int32))] [])
  refine Own.iinc hx (3 : Int32) #[.val (.ref o0), .val (.int (4 : Int32)), .val (.int (3 : Int32))] (hb hby d6_11) rfl rfl (by decide) rfl ?_
  refine Own.goto hx (hb hby d6_14) (by decide) (pc' := 2) rfl ?_
  refine Own.iloadN hx (3 : Int32) (hb hby d6_2) rfl rfl ?_
  refine Own.iloadN hx (4 : Int32) (hb hby d6_3) rfl rfl ?_
  have hc13 : (3 : Int32) < (4 : Int32) := by decide
  refine Own.icmpFn hx (Own.q_ge (3 : Int32) (4 : Int32)) (hb hby d6_4) (pcN := 7) rfl (by decide) (pcT := 17) rfl (fun q => absurd hc13 q) (fun _ => ?_)
  refine Own.aloadN hx (.ref o0) (hb hby d6_7) rfl rfl rfl ?_
  refine Own.callP hx hZ hown (O12.exa (i := 0) rfl) (hw _ (List.mem_of_getElem? (i := 41) rfl)) (hw _ (List.mem_of_getElem? (i := 42) rfl)) (hw _ (List.mem_of_getElem? (i := 6) rfl)) (hw _ (List.mem_of_getElem? (i := 43) rfl)) (hw _ (List.mem_of_getElem? (i := 7) rfl)) (hw _ (List.mem_of_getElem? (i := 44) rfl)) (by decide) pd0 (argsL := []) (rest := []) rfl (W := 0) (Nat.le_of_eq rfl) (rm := ({ frames := 0, cells := 0, slots := 0, locals := 0 } : Room)) (by decide) (by decide) (by decide) (by decide) (k' := 0) (n' := 0) rfl rfl (by rw [hml]; rfl) [(.ref o0)] rfl (hb hby d6_8) (pc' := 11) rfl (rm7_3 l Z a0 hw o0 h11 n0 ra rb fr O12) ?_
  rintro _ h15 ⟨rfl, O16⟩
  show Own.Goes _ _ _ _ _ _ _ _ _ _ _ _ _ _ _ _ _ (mkF m 11 #[.val (.ref o0), .val (.int (4 : Int32)), .val (.int (3 : Int32))] [])
  refine Own.iinc hx (4 : Int32) #[.val (.ref o0), .val (.int (4 : Int32)), .val (.int (4 : Int32))] (hb hby d6_11) rfl rfl (by decide) rfl ?_
  refine Own.goto hx (hb hby d6_14) (by decide) (pc' := 2) rfl ?_
  refine Own.iloadN hx (4 : Int32) (hb hby d6_2) rfl rfl ?_
  refine Own.iloadN hx (4 : Int32) (hb hby d6_3) rfl rfl ?_
  have hc17 : ¬ ((4 : Int32) < (4 : Int32)) := by decide
  refine Own.icmpFn hx (Own.q_ge (4 : Int32) (4 : Int32)) (hb hby d6_4) (pcN := 7) rfl (by decide) (pcT := 17) rfl (fun _ => ?_) (fun q => absurd q hc17)
  exact Own.retV hx hret hlk (hb hby d6_17) (by decide) (by decide) ⟨rfl, O16⟩

def fLG0 (q1 q2 u0 u1 u2 u3 t0 t1 t2 t3 : Int64) : Int64 := (if q1 < t2 then (if q1 < t1 then (if q1 < t0 then (-9223372036854775808 : Int64) else (if u0 < q2 then u0 else (-9223372036854775808 : Int64))) else (if u1 < q2 then u1 else (if q1 < t0 then (-9223372036854775808 : Int64) else (if u0 < q2 then u0 else (-9223372036854775808 : Int64))))) else (if u2 < q2 then (if q1 < t3 then u2 else (if u3 < q2 then u3 else u2)) else (if q1 < t1 then (if q1 < t0 then (-9223372036854775808 : Int64) else (if u0 < q2 then u0 else (-9223372036854775808 : Int64))) else (if u1 < q2 then u1 else (if q1 < t0 then (-9223372036854775808 : Int64) else (if u0 < q2 then u0 else (-9223372036854775808 : Int64)))))))
theorem d8_0 : decode prog_92_method_13_code 0 = .ok (.iconst 0, 1) := by decide +kernel
theorem d8_1 : decode prog_92_method_13_code 1 = .ok (.istore 5, 2) := by decide +kernel
theorem d8_3 : decode prog_92_method_13_code 3 = .ok (.aload_n 0, 1) := by decide +kernel
theorem d8_4 : decode prog_92_method_13_code 4 = .ok (.getfield 30, 3) := by decide +kernel
theorem d8_7 : decode prog_92_method_13_code 7 = .ok (.istore 6, 2) := by decide +kernel
theorem d8_9 : decode prog_92_method_13_code 9 = .ok (.iload 5, 2) := by decide +kernel
theorem d8_11 : decode prog_92_method_13_code 11 = .ok (.iload 6, 2) := by decide +kernel
theorem d8_13 : decode prog_92_method_13_code 13 = .ok (.if_icmp .ge 62, 3) := by decide +kernel
theorem d8_16 : decode prog_92_method_13_code 16 = .ok (.iload 5, 2) := by decide +kernel
theorem d8_18 : decode prog_92_method_13_code 18 = .ok (.iload 6, 2) := by decide +kernel
theorem d8_20 : decode prog_92_method_13_code 20 = .ok (.iadd, 1) := by decide +kernel
theorem d8_21 : decode prog_92_method_13_code 21 = .ok (.iconst 1, 1) := by decide +kernel
theorem d8_22 : decode prog_92_method_13_code 22 = .ok (.iushr, 1) := by decide +kernel
theorem d8_23 : decode prog_92_method_13_code 23 = .ok (.istore 7, 2) := by decide +kernel
theorem d8_25 : decode prog_92_method_13_code 25 = .ok (.aload_n 0, 1) := by decide +kernel
theorem d8_26 : decode prog_92_method_13_code 26 = .ok (.getfield 13, 3) := by decide +kernel
theorem d8_29 : decode prog_92_method_13_code 29 = .ok (.aload_n 0, 1) := by decide +kernel
theorem d8_30 : decode prog_92_method_13_code 30 = .ok (.getfield 33, 3) := by decide +kernel
theorem d8_33 : decode prog_92_method_13_code 33 = .ok (.iload 7, 2) := by decide +kernel
theorem d8_35 : decode prog_92_method_13_code 35 = .ok (.iadd, 1) := by decide +kernel
theorem d8_36 : decode prog_92_method_13_code 36 = .ok (.laload, 1) := by decide +kernel
theorem d8_37 : decode prog_92_method_13_code 37 = .ok (.lload_n 1, 1) := by decide +kernel
theorem d8_38 : decode prog_92_method_13_code 38 = .ok (.lcmp, 1) := by decide +kernel
theorem d8_39 : decode prog_92_method_13_code 39 = .ok (.ifCond .gt 29, 3) := by decide +kernel
theorem d8_42 : decode prog_92_method_13_code 42 = .ok (.aload_n 0, 1) := by decide +kernel
theorem d8_43 : decode prog_92_method_13_code 43 = .ok (.getfield 7, 3) := by decide +kernel
theorem d8_46 : decode prog_92_method_13_code 46 = .ok (.aload_n 0, 1) := by decide +kernel
theorem d8_47 : decode prog_92_method_13_code 47 = .ok (.getfield 33, 3) := by decide +kernel
theorem d8_50 : decode prog_92_method_13_code 50 = .ok (.iload 7, 2) := by decide +kernel
theorem d8_52 : decode prog_92_method_13_code 52 = .ok (.iadd, 1) := by decide +kernel
theorem d8_53 : decode prog_92_method_13_code 53 = .ok (.laload, 1) := by decide +kernel
theorem d8_54 : decode prog_92_method_13_code 54 = .ok (.lload_n 3, 1) := by decide +kernel
theorem d8_55 : decode prog_92_method_13_code 55 = .ok (.lcmp, 1) := by decide +kernel
theorem d8_56 : decode prog_92_method_13_code 56 = .ok (.ifCond .ge 12, 3) := by decide +kernel
theorem d8_59 : decode prog_92_method_13_code 59 = .ok (.iload 7, 2) := by decide +kernel
theorem d8_61 : decode prog_92_method_13_code 61 = .ok (.iconst 1, 1) := by decide +kernel
theorem d8_62 : decode prog_92_method_13_code 62 = .ok (.iadd, 1) := by decide +kernel
theorem d8_63 : decode prog_92_method_13_code 63 = .ok (.istore 5, 2) := by decide +kernel
theorem d8_65 : decode prog_92_method_13_code 65 = .ok (.goto 7, 3) := by decide +kernel
theorem d8_68 : decode prog_92_method_13_code 68 = .ok (.iload 7, 2) := by decide +kernel
theorem d8_70 : decode prog_92_method_13_code 70 = .ok (.istore 6, 2) := by decide +kernel
theorem d8_72 : decode prog_92_method_13_code 72 = .ok (.goto (-63), 3) := by decide +kernel
theorem d8_75 : decode prog_92_method_13_code 75 = .ok (.iload 5, 2) := by decide +kernel
theorem d8_77 : decode prog_92_method_13_code 77 = .ok (.ifCond .le 20, 3) := by decide +kernel
theorem d8_80 : decode prog_92_method_13_code 80 = .ok (.aload_n 0, 1) := by decide +kernel
theorem d8_81 : decode prog_92_method_13_code 81 = .ok (.getfield 7, 3) := by decide +kernel
theorem d8_84 : decode prog_92_method_13_code 84 = .ok (.aload_n 0, 1) := by decide +kernel
theorem d8_85 : decode prog_92_method_13_code 85 = .ok (.getfield 33, 3) := by decide +kernel
theorem d8_88 : decode prog_92_method_13_code 88 = .ok (.iload 5, 2) := by decide +kernel
theorem d8_90 : decode prog_92_method_13_code 90 = .ok (.iadd, 1) := by decide +kernel
theorem d8_91 : decode prog_92_method_13_code 91 = .ok (.iconst 1, 1) := by decide +kernel
theorem d8_92 : decode prog_92_method_13_code 92 = .ok (.isub, 1) := by decide +kernel
theorem d8_93 : decode prog_92_method_13_code 93 = .ok (.laload, 1) := by decide +kernel
theorem d8_94 : decode prog_92_method_13_code 94 = .ok (.goto 6, 3) := by decide +kernel
theorem d8_97 : decode prog_92_method_13_code 97 = .ok (.ldc2_w 61, 3) := by decide +kernel
theorem d8_100 : decode prog_92_method_13_code 100 = .ok (.lreturn, 1) := by decide +kernel
theorem pn6 : plainFor (⟨"com/example/tracewarden/tracewarden/monitor/Openings", "lastGoingWith", "(JJ)J"⟩ : MethodName) = true := by first | exact plainFor_of_name (by simp [plainName, overriddenIn]; done) | decide +kernel
theorem ef8_0 (m : MethodId) (o0 : Addr) (q1 : Int64) (q2 : Int64) : entryFrame m #[(.ref o0), (.long q1), (.long q2)] 8 = mkF m 0 #[.val (.ref o0), .val (.long q1), .second, .val (.long q2), .second, .unset, .unset, .unset] [] := by first | (simp [entryFrame, mkF, argsToLocals, Value.category]; done) | rfl
set_option maxRecDepth 65536 in
set_option maxHeartbeats 40000000 in
theorem rm8_0 (l : Launch) (Z : State) (a0 : Array Value) (hw : ∀ d ∈ tables_1, d.before a0 Z = true) (o0 : Addr) (q1 : Int64) (q2 : Int64) (h0 : Heap) (n0 : Nat) (ra rb : Addr) (u0 u1 u2 u3 u4 u5 u6 u7 u8 u9 u10 u11 u12 u13 u14 u15 t0 t1 t2 t3 t4 t5 t6 t7 t8 t9 t10 t11 t12 t13 t14 t15 : Int64) (fr : List (Addr × (Cell → Prop))) (O0 : Own.Owns n0 h0 ((o0, Own.ObjC Z "com/example/tracewarden/tracewarden/monitor/Openings" [(("com/example/tracewarden/tracewarden/monitor/Openings", "cells", "[J"), (.ref ra)), (("com/example/tracewarden/tracewarden/monitor/Openings", "inner", "[J"), (.ref rb)), (("com/example/tracewarden/tracewarden/monitor/Openings", "lastFound", "I"), (.int (-1 : Int32))), (("com/example/tracewarden/tracewarden/monitor/Openings", "foundBefore", "I"), (.int (-1 : Int32))), (("com/example/tracewarden/tracewarden/monitor/Openings", "count", "I"), (.int (4 : Int32))), (("com/example/tracewarden/tracewarden/monitor/Openings", "first", "I"), (.int (0 : Int32))), (("com/example/tracewarden/tracewarden/monitor/Openings", "times", "[Ljava/math/BigDecimal;"), .null)]) :: (ra, Own.ArrC Z .long [(.long u0), (.long u1), (.long u2), (.long u3), (.long u4), (.long u5), (.long u6), (.long u7), (.long u8), (.long u9), (.long u10), (.long u11), (.long u12), (.long u13), (.long u14), (.long u15)]) :: (rb, Own.ArrC Z .long [(.long t0), (.long t1), (.long t2), (.long t3), (.long t4), (.long t5), (.long t6), (.long t7), (.long t8), (.long t9), (.long t10), (.long t11), (.long t12), (.long t13), (.long t14), (.long t15)]) :: fr))  : Own.Does l (⟨"com/example/tracewarden/tracewarden/monitor/Openings", "lastGoingWith", "(JJ)J"⟩ : MethodName) prog_92_method_13_code 8 (some .long) [] ({ frames := 0, cells := 0, slots := 0, locals := 0 } : Room) Z #[(.ref o0), (.long q1), (.long q2)] h0 n0 (fun v h => v = some (.long (fLG0 q1 q2 u0 u1 u2 u3 t0 t1 t2 t3)) ∧ h = h0) := by
  refine Own.doesOf pn6 ?_
  intro p e s m below meth c hx hby hml hret hlk hown hnm hZ
  refine Own.Goes.cast (ef8_0 m o0 q1 q2) ?_
  refine Own.iconst hx (0 : Int32) (hb hby d8_0) rfl (by decide) ?_
  refine Own.istore hx (0 : Int32) rfl #[.val (.ref o0), .val (.long q1), .second, .val (.long q2), .second, .val (.int (0 : Int32)), .unset, .unset] (hb hby d8_1) rfl rfl ?_
  refine Own.aloadN hx (.ref o0) (hb hby d8_3) rfl rfl rfl ?_
  refine Own.getfield hx hZ hown O0 0 4 rfl rfl (hw _ (List.mem_of_getElem? (i := 28) rfl)) (hb hby d8_4) rfl ?_
  refine Own.istore hx (4 : Int32) rfl #[.val (.ref o0), .val (.long q1), .second, .val (.long q2), .second, .val (.int (0 : Int32)), .val (.int (4 : Int32)), .unset] (hb hby d8_7) rfl rfl ?_
  refine Own.iload hx (0 : Int32) (hb hby d8_9) rfl rfl ?_
  refine Own.iload hx (4 : Int32) (hb hby d8_11) rfl rfl ?_
  have hc1 : (0 : Int32) < (4 : Int32) := by decide
  refine Own.icmpFn hx (Own.q_ge (0 : Int32) (4 : Int32)) (hb hby d8_13) (pcN := 16) rfl (by decide) (pcT := 75) rfl (fun q => absurd hc1 q) (fun _ => ?_)
  refine Own.iload hx (0 : Int32) (hb hby d8_16) rfl rfl ?_
  refine Own.iload hx (4 : Int32) (hb hby d8_18) rfl rfl ?_
  refine Own.iadd hx (hb hby d8_20) rfl ?_
  refine Own.vI (4 : Int32) (by decide) ?_
  refine Own.iconst hx (1 : Int32) (hb hby d8_21) rfl (by decide) ?_
  refine Own.iushr hx (hb hby d8_22) rfl ?_
  refine Own.vI (2 : Int32) (by decide) ?_
  refine Own.istore hx (2 : Int32) rfl #[.val (.ref o0), .val (.long q1), .second, .val (.long q2), .second, .val (.int (0 : Int32)), .val (.int (4 : Int32)), .val (.int (2 : Int32))] (hb hby d8_23) rfl rfl ?_
  refine Own.aloadN hx (.ref o0) (hb hby d8_25) rfl rfl rfl ?_
  refine Own.getfield hx hZ hown O0 0 1 rfl rfl (hw _ (List.mem_of_getElem? (i := 17) rfl)) (hb hby d8_26) rfl ?_
  refine Own.aloadN hx (.ref o0) (hb hby d8_29) rfl rfl rfl ?_
  refine Own.getfield hx hZ hown O0 0 5 rfl rfl (hw _ (List.mem_of_getElem? (i := 34) rfl)) (hb hby d8_30) rfl ?_
  refine Own.iload hx (2 : Int32) (hb hby d8_33) rfl rfl ?_
  refine Own.iadd hx (hb hby d8_35) rfl ?_
  refine Own.vI (2 : Int32) (by decide) ?_
  refine Own.laload hx hZ O0 2 2 rfl (by decide) (v := (.long t2)) rfl (hb hby d8_36) rfl ?_
  refine Own.lloadN hx q1 (hb hby d8_37) rfl rfl ?_
  refine Own.lcmp hx (hb hby d8_38) rfl ?_
  refine Own.ifF hx (Own.w_gt t2 q1) (hb hby d8_39) (pcN := 42) rfl (by decide) (pcT := 68) rfl (fun hc3 => ?_) (fun hc3 => ?_)
  · refine Own.iload hx (2 : Int32) (hb hby d8_68) rfl rfl ?_
    refine Own.istore hx (2 : Int32) rfl #[.val (.ref o0), .val (.long q1), .second, .val (.long q2), .second, .val (.int (0 : Int32)), .val (.int (2 : Int32)), .val (.int (2 : Int32))] (hb hby d8_70) rfl rfl ?_
    refine Own.goto hx (hb hby d8_72) (by decide) (pc' := 9) rfl ?_
    refine Own.iload hx (0 : Int32) (hb hby d8_9) rfl rfl ?_
    refine Own.iload hx (2 : Int32) (hb hby d8_11) rfl rfl ?_
    have hc4 : (0 : Int32) < (2 : Int32) := by decide
    refine Own.icmpFn hx (Own.q_ge (0 : Int32) (2 : Int32)) (hb hby d8_13) (pcN := 16) rfl (by decide) (pcT := 75) rfl (fun q => absurd hc4 q) (fun _ => ?_)
    refine Own.iload hx (0 : Int32) (hb hby d8_16) rfl rfl ?_
    refine Own.iload hx (2 : Int32) (hb hby d8_18) rfl rfl ?_
    refine Own.iadd hx (hb hby d8_20) rfl ?_
    refine Own.vI (2 : Int32) (by decide) ?_
    refine Own.iconst hx (1 : Int32) (hb hby d8_21) rfl (by decide) ?_
    refine Own.iushr hx (hb hby d8_22) rfl ?_
    refine Own.vI (1 : Int32) (by decide) ?_
    refine Own.istore hx (1 : Int32) rfl #[.val (.ref o0), .val (.long q1), .second, .val (.long q2), .second, .val (.int (0 : Int32)), .val (.int (2 : Int32)), .val (.int (1 : Int32))] (hb hby d8_23) rfl rfl ?_
    refine Own.aloadN hx (.ref o0) (hb hby d8_25) rfl rfl rfl ?_
    refine Own.getfield hx hZ hown O0 0 1 rfl rfl (hw _ (List.mem_of_getElem? (i := 17) rfl)) (hb hby d8_26) rfl ?_
    refine Own.aloadN hx (.ref o0) (hb hby d8_29) rfl rfl rfl ?_
    refine Own.getfield hx hZ hown O0 0 5 rfl rfl (hw _ (List.mem_of_getElem? (i := 34) rfl)) (hb hby d8_30) rfl ?_
    refine Own.iload hx (1 : Int32) (hb hby d8_33) rfl rfl ?_
    refine Own.iadd hx (hb hby d8_35) rfl ?_
    refine Own.vI (1 : Int32) (by decide) ?_
    refine Own.laload hx hZ O0 2 1 rfl (by decide) (v := (.long t1)) rfl (hb hby d8_36) rfl ?_
    refine Own.lloadN hx q1 (hb hby d8_37) rfl rfl ?_
    refine Own.lcmp hx (hb hby d8_38) rfl ?_
    refine Own.ifF hx (Own.w_gt t1 q1) (hb hby d8_39) (pcN := 42) rfl (by decide) (pcT := 68) rfl (fun hc6 => ?_) (fun hc6 => ?_)
    · refine Own.iload hx (1 : Int32) (hb hby d8_68) rfl rfl ?_
      refine Own.istore hx (1 : Int32) rfl #[.val (.ref o0), .val (.long q1), .second, .val (.long q2), .second, .val (.int (0 : Int32)), .val (.int (1 : Int32)), .val (.int (1 : Int32))] (hb hby d8_70) rfl rfl ?_
      refine Own.goto hx (hb hby d8_72) (by decide) (pc' := 9) rfl ?_
      refine Own.iload hx (0 : Int32) (hb hby d8_9) rfl rfl ?_
      refine Own.iload hx (1 : Int32) (hb hby d8_11) rfl rfl ?_
      have hc7 : (0 : Int32) < (1 : Int32) := by decide
      refine Own.icmpFn hx (Own.q_ge (0 : Int32) (1 : Int32)) (hb hby d8_13) (pcN := 16) rfl (by decide) (pcT := 75) rfl (fun q => absurd hc7 q) (fun _ => ?_)
      refine Own.iload hx (0 : Int32) (hb hby d8_16) rfl rfl ?_
      refine Own.iload hx (1 : Int32) (hb hby d8_18) rfl rfl ?_
      refine Own.iadd hx (hb hby d8_20) rfl ?_
      refine Own.vI (1 : Int32) (by decide) ?_
      refine Own.iconst hx (1 : Int32) (hb hby d8_21) rfl (by decide) ?_
      refine Own.iushr hx (hb hby d8_22) rfl ?_
      refine Own.vI (0 : Int32) (by decide) ?_
      refine Own.istore hx (0 : Int32) rfl #[.val (.ref o0), .val (.long q1), .second, .val (.long q2), .second, .val (.int (0 : Int32)), .val (.int (1 : Int32)), .val (.int (0 : Int32))] (hb hby d8_23) rfl rfl ?_
      refine Own.aloadN hx (.ref o0) (hb hby d8_25) rfl rfl rfl ?_
      refine Own.getfield hx hZ hown O0 0 1 rfl rfl (hw _ (List.mem_of_getElem? (i := 17) rfl)) (hb hby d8_26) rfl ?_
      refine Own.aloadN hx (.ref o0) (hb hby d8_29) rfl rfl rfl ?_
      refine Own.getfield hx hZ hown O0 0 5 rfl rfl (hw _ (List.mem_of_getElem? (i := 34) rfl)) (hb hby d8_30) rfl ?_
      refine Own.iload hx (0 : Int32) (hb hby d8_33) rfl rfl ?_
      refine Own.iadd hx (hb hby d8_35) rfl ?_
      refine Own.vI (0 : Int32) (by decide) ?_
      refine Own.laload hx hZ O0 2 0 rfl (by decide) (v := (.long t0)) rfl (hb hby d8_36) rfl ?_
      refine Own.lloadN hx q1 (hb hby d8_37) rfl rfl ?_
      refine Own.lcmp hx (hb hby d8_38) rfl ?_
      refine Own.ifF hx (Own.w_gt t0 q1) (hb hby d8_39) (pcN := 42) rfl (by decide) (pcT := 68) rfl (fun hc9 => ?_) (fun hc9 => ?_)
      · refine Own.iload hx (0 : Int32) (hb hby d8_68) rfl rfl ?_
        refine Own.istore hx (0 : Int32) rfl #[.val (.ref o0), .val (.long q1), .second, .val (.long q2), .second, .val (.int (0 : Int32)), .val (.int (0 : Int32)), .val (.int (0 : Int32))] (hb hby d8_70) rfl rfl ?_
        refine Own.goto hx (hb hby d8_72) (by decide) (pc' := 9) rfl ?_
        refine Own.iload hx (0 : Int32) (hb hby d8_9) rfl rfl ?_
        refine Own.iload hx (0 : Int32) (hb hby d8_11) rfl rfl ?_
        have hc10 : ¬ ((0 : Int32) < (0 : Int32)) := by decide
        refine Own.icmpFn hx (Own.q_ge (0 : Int32) (0 : Int32)) (hb hby d8_13) (pcN := 16) rfl (by decide) (pcT := 75) rfl (fun _ => ?_) (fun q => absurd q hc10)
        refine Own.iload hx (0 : Int32) (hb hby d8_75) rfl rfl ?_
        have hc12 : ¬ ((0 : Int32) < (0 : Int32)) := by decide
        refine Own.ifFn hx (Own.z_le (0 : Int32)) (hb hby d8_77) (pcN := 80) rfl (by decide) (pcT := 97) rfl (fun _ => ?_) (fun q => absurd q hc12)
        refine Own.ldc2 hx hZ hown (-9223372036854775808 : Int64) (hb hby d8_97) rfl (hw _ (List.mem_of_getElem? (i := 52) rfl)) ?_
        exact Own.retL hx hret hlk (hb hby d8_100) (by decide) (by decide) ⟨by simp only [fLG0, if_pos hc3, if_pos hc6, if_pos hc9], rfl⟩
      · refine Own.aloadN hx (.ref o0) (hb hby d8_42) rfl rfl rfl ?_
        refine Own.getfield hx hZ hown O0 0 0 rfl rfl (hw _ (List.mem_of_getElem? (i := 15) rfl)) (hb hby d8_43) rfl ?_
        refine Own.aloadN hx (.ref o0) (hb hby d8_46) rfl rfl rfl ?_
        refine Own.getfield hx hZ hown O0 0 5 rfl rfl (hw _ (List.mem_of_getElem? (i := 34) rfl)) (hb hby d8_47) rfl ?_
        refine Own.iload hx (0 : Int32) (hb hby d8_50) rfl rfl ?_
        refine Own.iadd hx (hb hby d8_52) rfl ?_
        refine Own.vI (0 : Int32) (by decide) ?_
        refine Own.laload hx hZ O0 1 0 rfl (by decide) (v := (.long u0)) rfl (hb hby d8_53) rfl ?_
        refine Own.lloadN hx q2 (hb hby d8_54) rfl rfl ?_
        refine Own.lcmp hx (hb hby d8_55) rfl ?_
        refine Own.ifFn hx (Own.w_ge u0 q2) (hb hby d8_56) (pcN := 59) rfl (by decide) (pcT := 68) rfl (fun hc14 => ?_) (fun hc14 => ?_)
        · refine Own.iload hx (0 : Int32) (hb hby d8_68) rfl rfl ?_
          refine Own.istore hx (0 : Int32) rfl #[.val (.ref o0), .val (.long q1), .second, .val (.long q2), .second, .val (.int (0 : Int32)), .val (.int (0 : Int32)), .val (.int (0 : Int32))] (hb hby d8_70) rfl rfl ?_
          refine Own.goto hx (hb hby d8_72) (by decide) (pc' := 9) rfl ?_
          refine Own.iload hx (0 : Int32) (hb hby d8_9) rfl rfl ?_
          refine Own.iload hx (0 : Int32) (hb hby d8_11) rfl rfl ?_
          have hc15 : ¬ ((0 : Int32) < (0 : Int32)) := by decide
          refine Own.icmpFn hx (Own.q_ge (0 : Int32) (0 : Int32)) (hb hby d8_13) (pcN := 16) rfl (by decide) (pcT := 75) rfl (fun _ => ?_) (fun q => absurd q hc15)
          refine Own.iload hx (0 : Int32) (hb hby d8_75) rfl rfl ?_
          have hc17 : ¬ ((0 : Int32) < (0 : Int32)) := by decide
          refine Own.ifFn hx (Own.z_le (0 : Int32)) (hb hby d8_77) (pcN := 80) rfl (by decide) (pcT := 97) rfl (fun _ => ?_) (fun q => absurd q hc17)
          refine Own.ldc2 hx hZ hown (-9223372036854775808 : Int64) (hb hby d8_97) rfl (hw _ (List.mem_of_getElem? (i := 52) rfl)) ?_
          exact Own.retL hx hret hlk (hb hby d8_100) (by decide) (by decide) ⟨by simp only [fLG0, if_pos hc3, if_pos hc6, if_neg hc9, if_neg hc14], rfl⟩
        · refine Own.iload hx (0 : Int32) (hb hby d8_59) rfl rfl ?_
          refine Own.iconst hx (1 : Int32) (hb hby d8_61) rfl (by decide) ?_
          refine Own.iadd hx (hb hby d8_62) rfl ?_
          refine Own.vI (1 : Int32) (by decide) ?_
          refine Own.istore hx (1 : Int32) rfl #[.val (.ref o0), .val (.long q1), .second, .val (.long q2), .second, .val (.int (1 : Int32)), .val (.int (1 : Int32)), .val (.int (0 : Int32))] (hb hby d8_63) rfl rfl ?_
          refine Own.goto hx (hb hby d8_65) (by decide) (pc' := 72) rfl ?_
          refine Own.goto hx (hb hby d8_72) (by decide) (pc' := 9) rfl ?_
          refine Own.iload hx (1 : Int32) (hb hby d8_9) rfl rfl ?_
          refine Own.iload hx (1 : Int32) (hb hby d8_11) rfl rfl ?_
          have hc19 : ¬ ((1 : Int32) < (1 : Int32)) := by decide
          refine Own.icmpFn hx (Own.q_ge (1 : Int32) (1 : Int32)) (hb hby d8_13) (pcN := 16) rfl (by decide) (pcT := 75) rfl (fun _ => ?_) (fun q => absurd q hc19)
          refine Own.iload hx (1 : Int32) (hb hby d8_75) rfl rfl ?_
          have hc21 : (0 : Int32) < (1 : Int32) := by decide
          refine Own.ifFn hx (Own.z_le (1 : Int32)) (hb hby d8_77) (pcN := 80) rfl (by decide) (pcT := 97) rfl (fun q => absurd hc21 q) (fun _ => ?_)
          refine Own.aloadN hx (.ref o0) (hb hby d8_80) rfl rfl rfl ?_
          refine Own.getfield hx hZ hown O0 0 0 rfl rfl (hw _ (List.mem_of_getElem? (i := 15) rfl)) (hb hby d8_81) rfl ?_
          refine Own.aloadN hx (.ref o0) (hb hby d8_84) rfl rfl rfl ?_
          refine Own.getfield hx hZ hown O0 0 5 rfl rfl (hw _ (List.mem_of_getElem? (i := 34) rfl)) (hb hby d8_85) rfl ?_
          refine Own.iload hx (1 : Int32) (hb hby d8_88) rfl rfl ?_
          refine Own.iadd hx (hb hby d8_90) rfl ?_
          refine Own.vI (1 : Int32) (by decide) ?_
          refine Own.iconst hx (1 : Int32) (hb hby d8_91) rfl (by decide) ?_
          refine Own.isub hx (hb hby d8_92) rfl ?_
          refine Own.vI (0 : Int32) (by decide) ?_
          refine Own.laload hx hZ O0 1 0 rfl (by decide) (v := (.long u0)) rfl (hb hby d8_93) rfl ?_
          refine Own.goto hx (hb hby d8_94) (by decide) (pc' := 100) rfl ?_
          exact Own.retL hx hret hlk (hb hby d8_100) (by decide) (by decide) ⟨by simp only [fLG0, if_pos hc3, if_pos hc6, if_neg hc9, if_pos hc14], rfl⟩
    · refine Own.aloadN hx (.ref o0) (hb hby d8_42) rfl rfl rfl ?_
      refine Own.getfield hx hZ hown O0 0 0 rfl rfl (hw _ (List.mem_of_getElem? (i := 15) rfl)) (hb hby d8_43) rfl ?_
      refine Own.aloadN hx (.ref o0) (hb hby d8_46) rfl rfl rfl ?_
      refine Own.getfield hx hZ hown O0 0 5 rfl rfl (hw _ (List.mem_of_getElem? (i := 34) rfl)) (hb hby d8_47) rfl ?_
      refine Own.iload hx (1 : Int32) (hb hby d8_50) rfl rfl ?_
      refine Own.iadd hx (hb hby d8_52) rfl ?_
      refine Own.vI (1 : Int32) (by decide) ?_
      refine Own.laload hx hZ O0 1 1 rfl (by decide) (v := (.long u1)) rfl (hb hby d8_53) rfl ?_
      refine Own.lloadN hx q2 (hb hby d8_54) rfl rfl ?_
      refine Own.lcmp hx (hb hby d8_55) rfl ?_
      refine Own.ifFn hx (Own.w_ge u1 q2) (hb hby d8_56) (pcN := 59) rfl (by decide) (pcT := 68) rfl (fun hc23 => ?_) (fun hc23 => ?_)
      · refine Own.iload hx (1 : Int32) (hb hby d8_68) rfl rfl ?_
        refine Own.istore hx (1 : Int32) rfl #[.val (.ref o0), .val (.long q1), .second, .val (.long q2), .second, .val (.int (0 : Int32)), .val (.int (1 : Int32)), .val (.int (1 : Int32))] (hb hby d8_70) rfl rfl ?_
        refine Own.goto hx (hb hby d8_72) (by decide) (pc' := 9) rfl ?_
        refine Own.iload hx (0 : Int32) (hb hby d8_9) rfl rfl ?_
        refine Own.iload hx (1 : Int32) (hb hby d8_11) rfl rfl ?_
        have hc24 : (0 : Int32) < (1 : Int32) := by decide
        refine Own.icmpFn hx (Own.q_ge (0 : Int32) (1 : Int32)) (hb hby d8_13) (pcN := 16) rfl (by decide) (pcT := 75) rfl (fun q => absurd hc24 q) (fun _ => ?_)
        refine Own.iload hx (0 : Int32) (hb hby d8_16) rfl rfl ?_
        refine Own.iload hx (1 : Int32) (hb hby d8_18) rfl rfl ?_
        refine Own.iadd hx (hb hby d8_20) rfl ?_
        refine Own.vI (1 : Int32) (by decide) ?_
        refine Own.iconst hx (1 : Int32) (hb hby d8_21) rfl (by decide) ?_
        refine Own.iushr hx (hb hby d8_22) rfl ?_
        refine Own.vI (0 : Int32) (by decide) ?_
        refine Own.istore hx (0 : Int32) rfl #[.val (.ref o0), .val (.long q1), .second, .val (.long q2), .second, .val (.int (0 : Int32)), .val (.int (1 : Int32)), .val (.int (0 : Int32))] (hb hby d8_23) rfl rfl ?_
        refine Own.aloadN hx (.ref o0) (hb hby d8_25) rfl rfl rfl ?_
        refine Own.getfield hx hZ hown O0 0 1 rfl rfl (hw _ (List.mem_of_getElem? (i := 17) rfl)) (hb hby d8_26) rfl ?_
        refine Own.aloadN hx (.ref o0) (hb hby d8_29) rfl rfl rfl ?_
        refine Own.getfield hx hZ hown O0 0 5 rfl rfl (hw _ (List.mem_of_getElem? (i := 34) rfl)) (hb hby d8_30) rfl ?_
        refine Own.iload hx (0 : Int32) (hb hby d8_33) rfl rfl ?_
        refine Own.iadd hx (hb hby d8_35) rfl ?_
        refine Own.vI (0 : Int32) (by decide) ?_
        refine Own.laload hx hZ O0 2 0 rfl (by decide) (v := (.long t0)) rfl (hb hby d8_36) rfl ?_
        refine Own.lloadN hx q1 (hb hby d8_37) rfl rfl ?_
        refine Own.lcmp hx (hb hby d8_38) rfl ?_
        refine Own.ifF hx (Own.w_gt t0 q1) (hb hby d8_39) (pcN := 42) rfl (by decide) (pcT := 68) rfl (fun hc26 => ?_) (fun hc26 => ?_)
        · refine Own.iload hx (0 : Int32) (hb hby d8_68) rfl rfl ?_
          refine Own.istore hx (0 : Int32) rfl #[.val (.ref o0), .val (.long q1), .second, .val (.long q2), .second, .val (.int (0 : Int32)), .val (.int (0 : Int32)), .val (.int (0 : Int32))] (hb hby d8_70) rfl rfl ?_
          refine Own.goto hx (hb hby d8_72) (by decide) (pc' := 9) rfl ?_
          refine Own.iload hx (0 : Int32) (hb hby d8_9) rfl rfl ?_
          refine Own.iload hx (0 : Int32) (hb hby d8_11) rfl rfl ?_
          have hc27 : ¬ ((0 : Int32) < (0 : Int32)) := by decide
          refine Own.icmpFn hx (Own.q_ge (0 : Int32) (0 : Int32)) (hb hby d8_13) (pcN := 16) rfl (by decide) (pcT := 75) rfl (fun _ => ?_) (fun q => absurd q hc27)
          refine Own.iload hx (0 : Int32) (hb hby d8_75) rfl rfl ?_
          have hc29 : ¬ ((0 : Int32) < (0 : Int32)) := by decide
          refine Own.ifFn hx (Own.z_le (0 : Int32)) (hb hby d8_77) (pcN := 80) rfl (by decide) (pcT := 97) rfl (fun _ => ?_) (fun q => absurd q hc29)
          refine Own.ldc2 hx hZ hown (-9223372036854775808 : Int64) (hb hby d8_97) rfl (hw _ (List.mem_of_getElem? (i := 52) rfl)) ?_
          exact Own.retL hx hret hlk (hb hby d8_100) (by decide) (by decide) ⟨by simp only [fLG0, if_pos hc3, if_neg hc6, if_neg hc23, if_pos hc26], rfl⟩
        · refine Own.aloadN hx (.ref o0) (hb hby d8_42) rfl rfl rfl ?_
          refine Own.getfield hx hZ hown O0 0 0 rfl rfl (hw _ (List.mem_of_getElem? (i := 15) rfl)) (hb hby d8_43) rfl ?_
          refine Own.aloadN hx (.ref o0) (hb hby d8_46) rfl rfl rfl ?_
          refine Own.getfield hx hZ hown O0 0 5 rfl rfl (hw _ (List.mem_of_getElem? (i := 34) rfl)) (hb hby d8_47) rfl ?_
          refine Own.iload hx (0 : Int32) (hb hby d8_50) rfl rfl ?_
          refine Own.iadd hx (hb hby d8_52) rfl ?_
          refine Own.vI (0 : Int32) (by decide) ?_
          refine Own.laload hx hZ O0 1 0 rfl (by decide) (v := (.long u0)) rfl (hb hby d8_53) rfl ?_
          refine Own.lloadN hx q2 (hb hby d8_54) rfl rfl ?_
          refine Own.lcmp hx (hb hby d8_55) rfl ?_
          refine Own.ifFn hx (Own.w_ge u0 q2) (hb hby d8_56) (pcN := 59) rfl (by decide) (pcT := 68) rfl (fun hc31 => ?_) (fun hc31 => ?_)
          · refine Own.iload hx (0 : Int32) (hb hby d8_68) rfl rfl ?_
            refine Own.istore hx (0 : Int32) rfl #[.val (.ref o0), .val (.long q1), .second, .val (.long q2), .second, .val (.int (0 : Int32)), .val (.int (0 : Int32)), .val (.int (0 : Int32))] (hb hby d8_70) rfl rfl ?_
            refine Own.goto hx (hb hby d8_72) (by decide) (pc' := 9) rfl ?_
            refine Own.iload hx (0 : Int32) (hb hby d8_9) rfl rfl ?_
            refine Own.iload hx (0 : Int32) (hb hby d8_11) rfl rfl ?_
            have hc32 : ¬ ((0 : Int32) < (0 : Int32)) := by decide
            refine Own.icmpFn hx (Own.q_ge (0 : Int32) (0 : Int32)) (hb hby d8_13) (pcN := 16) rfl (by decide) (pcT := 75) rfl (fun _ => ?_) (fun q => absurd q hc32)
            refine Own.iload hx (0 : Int32) (hb hby d8_75) rfl rfl ?_
            have hc34 : ¬ ((0 : Int32) < (0 : Int32)) := by decide
            refine Own.ifFn hx (Own.z_le (0 : Int32)) (hb hby d8_77) (pcN := 80) rfl (by decide) (pcT := 97) rfl (fun _ => ?_) (fun q => absurd q hc34)
            refine Own.ldc2 hx hZ hown (-9223372036854775808 : Int64) (hb hby d8_97) rfl (hw _ (List.mem_of_getElem? (i := 52) rfl)) ?_
            exact Own.retL hx hret hlk (hb hby d8_100) (by decide) (by decide) ⟨by simp only [fLG0, if_pos hc3, if_neg hc6, if_neg hc23, if_neg hc26, if_neg hc31], rfl⟩
          · refine Own.iload hx (0 : Int32) (hb hby d8_59) rfl rfl ?_
            refine Own.iconst hx (1 : Int32) (hb hby d8_61) rfl (by decide) ?_
            refine Own.iadd hx (hb hby d8_62) rfl ?_
            refine Own.vI (1 : Int32) (by decide) ?_
            refine Own.istore hx (1 : Int32) rfl #[.val (.ref o0), .val (.long q1), .second, .val (.long q2), .second, .val (.int (1 : Int32)), .val (.int (1 : Int32)), .val (.int (0 : Int32))] (hb hby d8_63) rfl rfl ?_
            refine Own.goto hx (hb hby d8_65) (by decide) (pc' := 72) rfl ?_
            refine Own.goto hx (hb hby d8_72) (by decide) (pc' := 9) rfl ?_
            refine Own.iload hx (1 : Int32) (hb hby d8_9) rfl rfl ?_
            refine Own.iload hx (1 : Int32) (hb hby d8_11) rfl rfl ?_
            have hc36 : ¬ ((1 : Int32) < (1 : Int32)) := by decide
            refine Own.icmpFn hx (Own.q_ge (1 : Int32) (1 : Int32)) (hb hby d8_13) (pcN := 16) rfl (by decide) (pcT := 75) rfl (fun _ => ?_) (fun q => absurd q hc36)
            refine Own.iload hx (1 : Int32) (hb hby d8_75) rfl rfl ?_
            have hc38 : (0 : Int32) < (1 : Int32) := by decide
            refine Own.ifFn hx (Own.z_le (1 : Int32)) (hb hby d8_77) (pcN := 80) rfl (by decide) (pcT := 97) rfl (fun q => absurd hc38 q) (fun _ => ?_)
            refine Own.aloadN hx (.ref o0) (hb hby d8_80) rfl rfl rfl ?_
            refine Own.getfield hx hZ hown O0 0 0 rfl rfl (hw _ (List.mem_of_getElem? (i := 15) rfl)) (hb hby d8_81) rfl ?_
            refine Own.aloadN hx (.ref o0) (hb hby d8_84) rfl rfl rfl ?_
            refine Own.getfield hx hZ hown O0 0 5 rfl rfl (hw _ (List.mem_of_getElem? (i := 34) rfl)) (hb hby d8_85) rfl ?_
            refine Own.iload hx (1 : Int32) (hb hby d8_88) rfl rfl ?_
            refine Own.iadd hx (hb hby d8_90) rfl ?_
            refine Own.vI (1 : Int32) (by decide) ?_
            refine Own.iconst hx (1 : Int32) (hb hby d8_91) rfl (by decide) ?_
            refine Own.isub hx (hb hby d8_92) rfl ?_
            refine Own.vI (0 : Int32) (by decide) ?_
            refine Own.laload hx hZ O0 1 0 rfl (by decide) (v := (.long u0)) rfl (hb hby d8_93) rfl ?_
            refine Own.goto hx (hb hby d8_94) (by decide) (pc' := 100) rfl ?_
            exact Own.retL hx hret hlk (hb hby d8_100) (by decide) (by decide) ⟨by simp only [fLG0, if_pos hc3, if_neg hc6, if_neg hc23, if_neg hc26, if_pos hc31], rfl⟩
      · refine Own.iload hx (1 : Int32) (hb hby d8_59) rfl rfl ?_
        refine Own.iconst hx (1 : Int32) (hb hby d8_61) rfl (by decide) ?_
        refine Own.iadd hx (hb hby d8_62) rfl ?_
        refine Own.vI (2 : Int32) (by decide) ?_
        refine Own.istore hx (2 : Int32) rfl #[.val (.ref o0), .val (.long q1), .second, .val (.long q2), .second, .val (.int (2 : Int32)), .val (.int (2 : Int32)), .val (.int (1 : Int32))] (hb hby d8_63) rfl rfl ?_
        refine Own.goto hx (hb hby d8_65) (by decide) (pc' := 72) rfl ?_
        refine Own.goto hx (hb hby d8_72) (by decide) (pc' := 9) rfl ?_
        refine Own.iload hx (2 : Int32) (hb hby d8_9) rfl rfl ?_
        refine Own.iload hx (2 : Int32) (hb hby d8_11) rfl rfl ?_
        have hc40 : ¬ ((2 : Int32) < (2 : Int32)) := by decide
        refine Own.icmpFn hx (Own.q_ge (2 : Int32) (2 : Int32)) (hb hby d8_13) (pcN := 16) rfl (by decide) (pcT := 75) rfl (fun _ => ?_) (fun q => absurd q hc40)
        refine Own.iload hx (2 : Int32) (hb hby d8_75) rfl rfl ?_
        have hc42 : (0 : Int32) < (2 : Int32) := by decide
        refine Own.ifFn hx (Own.z_le (2 : Int32)) (hb hby d8_77) (pcN := 80) rfl (by decide) (pcT := 97) rfl (fun q => absurd hc42 q) (fun _ => ?_)
        refine Own.aloadN hx (.ref o0) (hb hby d8_80) rfl rfl rfl ?_
        refine Own.getfield hx hZ hown O0 0 0 rfl rfl (hw _ (List.mem_of_getElem? (i := 15) rfl)) (hb hby d8_81) rfl ?_
        refine Own.aloadN hx (.ref o0) (hb hby d8_84) rfl rfl rfl ?_
        refine Own.getfield hx hZ hown O0 0 5 rfl rfl (hw _ (List.mem_of_getElem? (i := 34) rfl)) (hb hby d8_85) rfl ?_
        refine Own.iload hx (2 : Int32) (hb hby d8_88) rfl rfl ?_
        refine Own.iadd hx (hb hby d8_90) rfl ?_
        refine Own.vI (2 : Int32) (by decide) ?_
        refine Own.iconst hx (1 : Int32) (hb hby d8_91) rfl (by decide) ?_
        refine Own.isub hx (hb hby d8_92) rfl ?_
        refine Own.vI (1 : Int32) (by decide) ?_
        refine Own.laload hx hZ O0 1 1 rfl (by decide) (v := (.long u1)) rfl (hb hby d8_93) rfl ?_
        refine Own.goto hx (hb hby d8_94) (by decide) (pc' := 100) rfl ?_
        exact Own.retL hx hret hlk (hb hby d8_100) (by decide) (by decide) ⟨by simp only [fLG0, if_pos hc3, if_neg hc6, if_pos hc23], rfl⟩
  · refine Own.aloadN hx (.ref o0) (hb hby d8_42) rfl rfl rfl ?_
    refine Own.getfield hx hZ hown O0 0 0 rfl rfl (hw _ (List.mem_of_getElem? (i := 15) rfl)) (hb hby d8_43) rfl ?_
    refine Own.aloadN hx (.ref o0) (hb hby d8_46) rfl rfl rfl ?_
    refine Own.getfield hx hZ hown O0 0 5 rfl rfl (hw _ (List.mem_of_getElem? (i := 34) rfl)) (hb hby d8_47) rfl ?_
    refine Own.iload hx (2 : Int32) (hb hby d8_50) rfl rfl ?_
    refine Own.iadd hx (hb hby d8_52) rfl ?_
    refine Own.vI (2 : Int32) (by decide) ?_
    refine Own.laload hx hZ O0 1 2 rfl (by decide) (v := (.long u2)) rfl (hb hby d8_53) rfl ?_
    refine Own.lloadN hx q2 (hb hby d8_54) rfl rfl ?_
    refine Own.lcmp hx (hb hby d8_55) rfl ?_
    refine Own.ifFn hx (Own.w_ge u2 q2) (hb hby d8_56) (pcN := 59) rfl (by decide) (pcT := 68) rfl (fun hc44 => ?_) (fun hc44 => ?_)
    · refine Own.iload hx (2 : Int32) (hb hby d8_68) rfl rfl ?_
      refine Own.istore hx (2 : Int32) rfl #[.val (.ref o0), .val (.long q1), .second, .val (.long q2), .second, .val (.int (0 : Int32)), .val (.int (2 : Int32)), .val (.int (2 : Int32))] (hb hby d8_70) rfl rfl ?_
      refine Own.goto hx (hb hby d8_72) (by decide) (pc' := 9) rfl ?_
      refine Own.iload hx (0 : Int32) (hb hby d8_9) rfl rfl ?_
      refine Own.iload hx (2 : Int32) (hb hby d8_11) rfl rfl ?_
      have hc45 : (0 : Int32) < (2 : Int32) := by decide
      refine Own.icmpFn hx (Own.q_ge (0 : Int32) (2 : Int32)) (hb hby d8_13) (pcN := 16) rfl (by decide) (pcT := 75) rfl (fun q => absurd hc45 q) (fun _ => ?_)
      refine Own.iload hx (0 : Int32) (hb hby d8_16) rfl rfl ?_
      refine Own.iload hx (2 : Int32) (hb hby d8_18) rfl rfl ?_
      refine Own.iadd hx (hb hby d8_20) rfl ?_
      refine Own.vI (2 : Int32) (by decide) ?_
      refine Own.iconst hx (1 : Int32) (hb hby d8_21) rfl (by decide) ?_
      refine Own.iushr hx (hb hby d8_22) rfl ?_
      refine Own.vI (1 : Int32) (by decide) ?_
      refine Own.istore hx (1 : Int32) rfl #[.val (.ref o0), .val (.long q1), .second, .val (.long q2), .second, .val (.int (0 : Int32)), .val (.int (2 : Int32)), .val (.int (1 : Int32))] (hb hby d8_23) rfl rfl ?_
      refine Own.aloadN hx (.ref o0) (hb hby d8_25) rfl rfl rfl ?_
      refine Own.getfield hx hZ hown O0 0 1 rfl rfl (hw _ (List.mem_of_getElem? (i := 17) rfl)) (hb hby d8_26) rfl ?_
      refine Own.aloadN hx (.ref o0) (hb hby d8_29) rfl rfl rfl ?_
      refine Own.getfield hx hZ hown O0 0 5 rfl rfl (hw _ (List.mem_of_getElem? (i := 34) rfl)) (hb hby d8_30) rfl ?_
      refine Own.iload hx (1 : Int32) (hb hby d8_33) rfl rfl ?_
      refine Own.iadd hx (hb hby d8_35) rfl ?_
      refine Own.vI (1 : Int32) (by decide) ?_
      refine Own.laload hx hZ O0 2 1 rfl (by decide) (v := (.long t1)) rfl (hb hby d8_36) rfl ?_
      refine Own.lloadN hx q1 (hb hby d8_37) rfl rfl ?_
      refine Own.lcmp hx (hb hby d8_38) rfl ?_
      refine Own.ifF hx (Own.w_gt t1 q1) (hb hby d8_39) (pcN := 42) rfl (by decide) (pcT := 68) rfl (fun hc47 => ?_) (fun hc47 => ?_)
      · refine Own.iload hx (1 : Int32) (hb hby d8_68) rfl rfl ?_
        refine Own.istore hx (1 : Int32) rfl #[.val (.ref o0), .val (.long q1), .second, .val (.long q2), .second, .val (.int (0 : Int32)), .val (.int (1 : Int32)), .val (.int (1 : Int32))] (hb hby d8_70) rfl rfl ?_
        refine Own.goto hx (hb hby d8_72) (by decide) (pc' := 9) rfl ?_
        refine Own.iload hx (0 : Int32) (hb hby d8_9) rfl rfl ?_
        refine Own.iload hx (1 : Int32) (hb hby d8_11) rfl rfl ?_
        have hc48 : (0 : Int32) < (1 : Int32) := by decide
        refine Own.icmpFn hx (Own.q_ge (0 : Int32) (1 : Int32)) (hb hby d8_13) (pcN := 16) rfl (by decide) (pcT := 75) rfl (fun q => absurd hc48 q) (fun _ => ?_)
        refine Own.iload hx (0 : Int32) (hb hby d8_16) rfl rfl ?_
        refine Own.iload hx (1 : Int32) (hb hby d8_18) rfl rfl ?_
        refine Own.iadd hx (hb hby d8_20) rfl ?_
        refine Own.vI (1 : Int32) (by decide) ?_
        refine Own.iconst hx (1 : Int32) (hb hby d8_21) rfl (by decide) ?_
        refine Own.iushr hx (hb hby d8_22) rfl ?_
        refine Own.vI (0 : Int32) (by decide) ?_
        refine Own.istore hx (0 : Int32) rfl #[.val (.ref o0), .val (.long q1), .second, .val (.long q2), .second, .val (.int (0 : Int32)), .val (.int (1 : Int32)), .val (.int (0 : Int32))] (hb hby d8_23) rfl rfl ?_
        refine Own.aloadN hx (.ref o0) (hb hby d8_25) rfl rfl rfl ?_
        refine Own.getfield hx hZ hown O0 0 1 rfl rfl (hw _ (List.mem_of_getElem? (i := 17) rfl)) (hb hby d8_26) rfl ?_
        refine Own.aloadN hx (.ref o0) (hb hby d8_29) rfl rfl rfl ?_
        refine Own.getfield hx hZ hown O0 0 5 rfl rfl (hw _ (List.mem_of_getElem? (i := 34) rfl)) (hb hby d8_30) rfl ?_
        refine Own.iload hx (0 : Int32) (hb hby d8_33) rfl rfl ?_
        refine Own.iadd hx (hb hby d8_35) rfl ?_
        refine Own.vI (0 : Int32) (by decide) ?_
        refine Own.laload hx hZ O0 2 0 rfl (by decide) (v := (.long t0)) rfl (hb hby d8_36) rfl ?_
        refine Own.lloadN hx q1 (hb hby d8_37) rfl rfl ?_
        refine Own.lcmp hx (hb hby d8_38) rfl ?_
        refine Own.ifF hx (Own.w_gt t0 q1) (hb hby d8_39) (pcN := 42) rfl (by decide) (pcT := 68) rfl (fun hc50 => ?_) (fun hc50 => ?_)
        · refine Own.iload hx (0 : Int32) (hb hby d8_68) rfl rfl ?_
          refine Own.istore hx (0 : Int32) rfl #[.val (.ref o0), .val (.long q1), .second, .val (.long q2), .second, .val (.int (0 : Int32)), .val (.int (0 : Int32)), .val (.int (0 : Int32))] (hb hby d8_70) rfl rfl ?_
          refine Own.goto hx (hb hby d8_72) (by decide) (pc' := 9) rfl ?_
          refine Own.iload hx (0 : Int32) (hb hby d8_9) rfl rfl ?_
          refine Own.iload hx (0 : Int32) (hb hby d8_11) rfl rfl ?_
          have hc51 : ¬ ((0 : Int32) < (0 : Int32)) := by decide
          refine Own.icmpFn hx (Own.q_ge (0 : Int32) (0 : Int32)) (hb hby d8_13) (pcN := 16) rfl (by decide) (pcT := 75) rfl (fun _ => ?_) (fun q => absurd q hc51)
          refine Own.iload hx (0 : Int32) (hb hby d8_75) rfl rfl ?_
          have hc53 : ¬ ((0 : Int32) < (0 : Int32)) := by decide
          refine Own.ifFn hx (Own.z_le (0 : Int32)) (hb hby d8_77) (pcN := 80) rfl (by decide) (pcT := 97) rfl (fun _ => ?_) (fun q => absurd q hc53)
          refine Own.ldc2 hx hZ hown (-9223372036854775808 : Int64) (hb hby d8_97) rfl (hw _ (List.mem_of_getElem? (i := 52) rfl)) ?_
          exact Own.retL hx hret hlk (hb hby d8_100) (by decide) (by decide) ⟨by simp only [fLG0, if_neg hc3, if_neg hc44, if_pos hc47, if_pos hc50], rfl⟩
        · refine Own.aloadN hx (.ref o0) (hb hby d8_42) rfl rfl rfl ?_
          refine Own.getfield hx hZ hown O0 0 0 rfl rfl (hw _ (List.mem_of_getElem? (i := 15) rfl)) (hb hby d8_43) rfl ?_
          refine Own.aloadN hx (.ref o0) (hb hby d8_46) rfl rfl rfl ?_
          refine Own.getfield hx hZ hown O0 0 5 rfl rfl (hw _ (List.mem_of_getElem? (i := 34) rfl)) (hb hby d8_47) rfl ?_
          refine Own.iload hx (0 : Int32) (hb hby d8_50) rfl rfl ?_
          refine Own.iadd hx (hb hby d8_52) rfl ?_
          refine Own.vI (0 : Int32) (by decide) ?_
          refine Own.laload hx hZ O0 1 0 rfl (by decide) (v := (.long u0)) rfl (hb hby d8_53) rfl ?_
          refine Own.lloadN hx q2 (hb hby d8_54) rfl rfl ?_
          refine Own.lcmp hx (hb hby d8_55) rfl ?_
          refine Own.ifFn hx (Own.w_ge u0 q2) (hb hby d8_56) (pcN := 59) rfl (by decide) (pcT := 68) rfl (fun hc55 => ?_) (fun hc55 => ?_)
          · refine Own.iload hx (0 : Int32) (hb hby d8_68) rfl rfl ?_
            refine Own.istore hx (0 : Int32) rfl #[.val (.ref o0), .val (.long q1), .second, .val (.long q2), .second, .val (.int (0 : Int32)), .val (.int (0 : Int32)), .val (.int (0 : Int32))] (hb hby d8_70) rfl rfl ?_
            refine Own.goto hx (hb hby d8_72) (by decide) (pc' := 9) rfl ?_
            refine Own.iload hx (0 : Int32) (hb hby d8_9) rfl rfl ?_
            refine Own.iload hx (0 : Int32) (hb hby d8_11) rfl rfl ?_
            have hc56 : ¬ ((0 : Int32) < (0 : Int32)) := by decide
            refine Own.icmpFn hx (Own.q_ge (0 : Int32) (0 : Int32)) (hb hby d8_13) (pcN := 16) rfl (by decide) (pcT := 75) rfl (fun _ => ?_) (fun q => absurd q hc56)
            refine Own.iload hx (0 : Int32) (hb hby d8_75) rfl rfl ?_
            have hc58 : ¬ ((0 : Int32) < (0 : Int32)) := by decide
            refine Own.ifFn hx (Own.z_le (0 : Int32)) (hb hby d8_77) (pcN := 80) rfl (by decide) (pcT := 97) rfl (fun _ => ?_) (fun q => absurd q hc58)
            refine Own.ldc2 hx hZ hown (-9223372036854775808 : Int64) (hb hby d8_97) rfl (hw _ (List.mem_of_getElem? (i := 52) rfl)) ?_
            exact Own.retL hx hret hlk (hb hby d8_100) (by decide) (by decide) ⟨by simp only [fLG0, if_neg hc3, if_neg hc44, if_pos hc47, if_neg hc50, if_neg hc55], rfl⟩
          · refine Own.iload hx (0 : Int32) (hb hby d8_59) rfl rfl ?_
            refine Own.iconst hx (1 : Int32) (hb hby d8_61) rfl (by decide) ?_
            refine Own.iadd hx (hb hby d8_62) rfl ?_
            refine Own.vI (1 : Int32) (by decide) ?_
            refine Own.istore hx (1 : Int32) rfl #[.val (.ref o0), .val (.long q1), .second, .val (.long q2), .second, .val (.int (1 : Int32)), .val (.int (1 : Int32)), .val (.int (0 : Int32))] (hb hby d8_63) rfl rfl ?_
            refine Own.goto hx (hb hby d8_65) (by decide) (pc' := 72) rfl ?_
            refine Own.goto hx (hb hby d8_72) (by decide) (pc' := 9) rfl ?_
            refine Own.iload hx (1 : Int32) (hb hby d8_9) rfl rfl ?_
            refine Own.iload hx (1 : Int32) (hb hby d8_11) rfl rfl ?_
            have hc60 : ¬ ((1 : Int32) < (1 : Int32)) := by decide
            refine Own.icmpFn hx (Own.q_ge (1 : Int32) (1 : Int32)) (hb hby d8_13) (pcN := 16) rfl (by decide) (pcT := 75) rfl (fun _ => ?_) (fun q => absurd q hc60)
            refine Own.iload hx (1 : Int32) (hb hby d8_75) rfl rfl ?_
            have hc62 : (0 : Int32) < (1 : Int32) := by decide
            refine Own.ifFn hx (Own.z_le (1 : Int32)) (hb hby d8_77) (pcN := 80) rfl (by decide) (pcT := 97) rfl (fun q => absurd hc62 q) (fun _ => ?_)
            refine Own.aloadN hx (.ref o0) (hb hby d8_80) rfl rfl rfl ?_
            refine Own.getfield hx hZ hown O0 0 0 rfl rfl (hw _ (List.mem_of_getElem? (i := 15) rfl)) (hb hby d8_81) rfl ?_
            refine Own.aloadN hx (.ref o0) (hb hby d8_84) rfl rfl rfl ?_
            refine Own.getfield hx hZ hown O0 0 5 rfl rfl (hw _ (List.mem_of_getElem? (i := 34) rfl)) (hb hby d8_85) rfl ?_
            refine Own.iload hx (1 : Int32) (hb hby d8_88) rfl rfl ?_
            refine Own.iadd hx (hb hby d8_90) rfl ?_
            refine Own.vI (1 : Int32) (by decide) ?_
            refine Own.iconst hx (1 : Int32) (hb hby d8_91) rfl (by decide) ?_
            refine Own.isub hx (hb hby d8_92) rfl ?_
            refine Own.vI (0 : Int32) (by decide) ?_
            refine Own.laload hx hZ O0 1 0 rfl (by decide) (v := (.long u0)) rfl (hb hby d8_93) rfl ?_
            refine Own.goto hx (hb hby d8_94) (by decide) (pc' := 100) rfl ?_
            exact Own.retL hx hret hlk (hb hby d8_100) (by decide) (by decide) ⟨by simp only [fLG0, if_neg hc3, if_neg hc44, if_pos hc47, if_neg hc50, if_pos hc55], rfl⟩
      · refine Own.aloadN hx (.ref o0) (hb hby d8_42) rfl rfl rfl ?_
        refine Own.getfield hx hZ hown O0 0 0 rfl rfl (hw _ (List.mem_of_getElem? (i := 15) rfl)) (hb hby d8_43) rfl ?_
        refine Own.aloadN hx (.ref o0) (hb hby d8_46) rfl rfl rfl ?_
        refine Own.getfield hx hZ hown O0 0 5 rfl rfl (hw _ (List.mem_of_getElem? (i := 34) rfl)) (hb hby d8_47) rfl ?_
        refine Own.iload hx (1 : Int32) (hb hby d8_50) rfl rfl ?_
        refine Own.iadd hx (hb hby d8_52) rfl ?_
        refine Own.vI (1 : Int32) (by decide) ?_
        refine Own.laload hx hZ O0 1 1 rfl (by decide) (v := (.long u1)) rfl (hb hby d8_53) rfl ?_
        refine Own.lloadN hx q2 (hb hby d8_54) rfl rfl ?_
        refine Own.lcmp hx (hb hby d8_55) rfl ?_
        refine Own.ifFn hx (Own.w_ge u1 q2) (hb hby d8_56) (pcN := 59) rfl (by decide) (pcT := 68) rfl (fun hc64 => ?_) (fun hc64 => ?_)
        · refine Own.iload hx (1 : Int32) (hb hby d8_68) rfl rfl ?_
          refine Own.istore hx (1 : Int32) rfl #[.val (.ref o0), .val (.long q1), .second, .val (.long q2), .second, .val (.int (0 : Int32)), .val (.int (1 : Int32)), .val (.int (1 : Int32))] (hb hby d8_70) rfl rfl ?_
          refine Own.goto hx (hb hby d8_72) (by decide) (pc' := 9) rfl ?_
          refine Own.iload hx (0 : Int32) (hb hby d8_9) rfl rfl ?_
          refine Own.iload hx (1 : Int32) (hb hby d8_11) rfl rfl ?_
          have hc65 : (0 : Int32) < (1 : Int32) := by decide
          refine Own.icmpFn hx (Own.q_ge (0 : Int32) (1 : Int32)) (hb hby d8_13) (pcN := 16) rfl (by decide) (pcT := 75) rfl (fun q => absurd hc65 q) (fun _ => ?_)
          refine Own.iload hx (0 : Int32) (hb hby d8_16) rfl rfl ?_
          refine Own.iload hx (1 : Int32) (hb hby d8_18) rfl rfl ?_
          refine Own.iadd hx (hb hby d8_20) rfl ?_
          refine Own.vI (1 : Int32) (by decide) ?_
          refine Own.iconst hx (1 : Int32) (hb hby d8_21) rfl (by decide) ?_
          refine Own.iushr hx (hb hby d8_22) rfl ?_
          refine Own.vI (0 : Int32) (by decide) ?_
          refine Own.istore hx (0 : Int32) rfl #[.val (.ref o0), .val (.long q1), .second, .val (.long q2), .second, .val (.int (0 : Int32)), .val (.int (1 : Int32)), .val (.int (0 : Int32))] (hb hby d8_23) rfl rfl ?_
          refine Own.aloadN hx (.ref o0) (hb hby d8_25) rfl rfl rfl ?_
          refine Own.getfield hx hZ hown O0 0 1 rfl rfl (hw _ (List.mem_of_getElem? (i := 17) rfl)) (hb hby d8_26) rfl ?_
          refine Own.aloadN hx (.ref o0) (hb hby d8_29) rfl rfl rfl ?_
          refine Own.getfield hx hZ hown O0 0 5 rfl rfl (hw _ (List.mem_of_getElem? (i := 34) rfl)) (hb hby d8_30) rfl ?_
          refine Own.iload hx (0 : Int32) (hb hby d8_33) rfl rfl ?_
          refine Own.iadd hx (hb hby d8_35) rfl ?_
          refine Own.vI (0 : Int32) (by decide) ?_
          refine Own.laload hx hZ O0 2 0 rfl (by decide) (v := (.long t0)) rfl (hb hby d8_36) rfl ?_
          refine Own.lloadN hx q1 (hb hby d8_37) rfl rfl ?_
          refine Own.lcmp hx (hb hby d8_38) rfl ?_
          refine Own.ifF hx (Own.w_gt t0 q1) (hb hby d8_39) (pcN := 42) rfl (by decide) (pcT := 68) rfl (fun hc67 => ?_) (fun hc67 => ?_)
          · refine Own.iload hx (0 : Int32) (hb hby d8_68) rfl rfl ?_
            refine Own.istore hx (0 : Int32) rfl #[.val (.ref o0), .val (.long q1), .second, .val (.long q2), .second, .val (.int (0 : Int32)), .val (.int (0 : Int32)), .val (.int (0 : Int32))] (hb hby d8_70) rfl rfl ?_
            refine Own.goto hx (hb hby d8_72) (by decide) (pc' := 9) rfl ?_
            refine Own.iload hx (0 : Int32) (hb hby d8_9) rfl rfl ?_
            refine Own.iload hx (0 : Int32) (hb hby d8_11) rfl rfl ?_
            have hc68 : ¬ ((0 : Int32) < (0 : Int32)) := by decide
            refine Own.icmpFn hx (Own.q_ge (0 : Int32) (0 : Int32)) (hb hby d8_13) (pcN := 16) rfl (by decide) (pcT := 75) rfl (fun _ => ?_) (fun q => absurd q hc68)
            refine Own.iload hx (0 : Int32) (hb hby d8_75) rfl rfl ?_
            have hc70 : ¬ ((0 : Int32) < (0 : Int32)) := by decide
            refine Own.ifFn hx (Own.z_le (0 : Int32)) (hb hby d8_77) (pcN := 80) rfl (by decide) (pcT := 97) rfl (fun _ => ?_) (fun q => absurd q hc70)
            refine Own.ldc2 hx hZ hown (-9223372036854775808 : Int64) (hb hby d8_97) rfl (hw _ (List.mem_of_getElem? (i := 52) rfl)) ?_
            exact Own.retL hx hret hlk (hb hby d8_100) (by decide) (by decide) ⟨by simp only [fLG0, if_neg hc3, if_neg hc44, if_neg hc47, if_neg hc64, if_pos hc67], rfl⟩
          · refine Own.aloadN hx (.ref o0) (hb hby d8_42) rfl rfl rfl ?_
            refine Own.getfield hx hZ hown O0 0 0 rfl rfl (hw _ (List.mem_of_getElem? (i := 15) rfl)) (hb hby d8_43) rfl ?_
            refine Own.aloadN hx (.ref o0) (hb hby d8_46) rfl rfl rfl ?_
            refine Own.getfield hx hZ hown O0 0 5 rfl rfl (hw _ (List.mem_of_getElem? (i := 34) rfl)) (hb hby d8_47) rfl ?_
            refine Own.iload hx (0 : Int32) (hb hby d8_50) rfl rfl ?_
            refine Own.iadd hx (hb hby d8_52) rfl ?_
            refine Own.vI (0 : Int32) (by decide) ?_
            refine Own.laload hx hZ O0 1 0 rfl (by decide) (v := (.long u0)) rfl (hb hby d8_53) rfl ?_
            refine Own.lloadN hx q2 (hb hby d8_54) rfl rfl ?_
            refine Own.lcmp hx (hb hby d8_55) rfl ?_
            refine Own.ifFn hx (Own.w_ge u0 q2) (hb hby d8_56) (pcN := 59) rfl (by decide) (pcT := 68) rfl (fun hc72 => ?_) (fun hc72 => ?_)
            · refine Own.iload hx (0 : Int32) (hb hby d8_68) rfl rfl ?_
              refine Own.istore hx (0 : Int32) rfl #[.val (.ref o0), .val (.long q1), .second, .val (.long q2), .second, .val (.int (0 : Int32)), .val (.int (0 : Int32)), .val (.int (0 : Int32))] (hb hby d8_70) rfl rfl ?_
              refine Own.goto hx (hb hby d8_72) (by decide) (pc' := 9) rfl ?_
              refine Own.iload hx (0 : Int32) (hb hby d8_9) rfl rfl ?_
              refine Own.iload hx (0 : Int32) (hb hby d8_11) rfl rfl ?_
              have hc73 : ¬ ((0 : Int32) < (0 : Int32)) := by decide
              refine Own.icmpFn hx (Own.q_ge (0 : Int32) (0 : Int32)) (hb hby d8_13) (pcN := 16) rfl (by decide) (pcT := 75) rfl (fun _ => ?_) (fun q => absurd q hc73)
              refine Own.iload hx (0 : Int32) (hb hby d8_75) rfl rfl ?_
              have hc75 : ¬ ((0 : Int32) < (0 : Int32)) := by decide
              refine Own.ifFn hx (Own.z_le (0 : Int32)) (hb hby d8_77) (pcN := 80) rfl (by decide) (pcT := 97) rfl (fun _ => ?_) (fun q => absurd q hc75)
              refine Own.ldc2 hx hZ hown (-9223372036854775808 : Int64) (hb hby d8_97) rfl (hw _ (List.mem_of_getElem? (i := 52) rfl)) ?_
              exact Own.retL hx hret hlk (hb hby d8_100) (by decide) (by decide) ⟨by simp only [fLG0, if_neg hc3, if_neg hc44, if_neg hc47, if_neg hc64, if_neg hc67, if_neg hc72], rfl⟩
            · refine Own.iload hx (0 : Int32) (hb hby d8_59) rfl rfl ?_
              refine Own.iconst hx (1 : Int32) (hb hby d8_61) rfl (by decide) ?_
              refine Own.iadd hx (hb hby d8_62) rfl ?_
              refine Own.vI (1 : Int32) (by decide) ?_
              refine Own.istore hx (1 : Int32) rfl #[.val (.ref o0), .val (.long q1), .second, .val (.long q2), .second, .val (.int (1 : Int32)), .val (.int (1 : Int32)), .val (.int (0 : Int32))] (hb hby d8_63) rfl rfl ?_
              refine Own.goto hx (hb hby d8_65) (by decide) (pc' := 72) rfl ?_
              refine Own.goto hx (hb hby d8_72) (by decide) (pc' := 9) rfl ?_
              refine Own.iload hx (1 : Int32) (hb hby d8_9) rfl rfl ?_
              refine Own.iload hx (1 : Int32) (hb hby d8_11) rfl rfl ?_
              have hc77 : ¬ ((1 : Int32) < (1 : Int32)) := by decide
              refine Own.icmpFn hx (Own.q_ge (1 : Int32) (1 : Int32)) (hb hby d8_13) (pcN := 16) rfl (by decide) (pcT := 75) rfl (fun _ => ?_) (fun q => absurd q hc77)
              refine Own.iload hx (1 : Int32) (hb hby d8_75) rfl rfl ?_
              have hc79 : (0 : Int32) < (1 : Int32) := by decide
              refine Own.ifFn hx (Own.z_le (1 : Int32)) (hb hby d8_77) (pcN := 80) rfl (by decide) (pcT := 97) rfl (fun q => absurd hc79 q) (fun _ => ?_)
              refine Own.aloadN hx (.ref o0) (hb hby d8_80) rfl rfl rfl ?_
              refine Own.getfield hx hZ hown O0 0 0 rfl rfl (hw _ (List.mem_of_getElem? (i := 15) rfl)) (hb hby d8_81) rfl ?_
              refine Own.aloadN hx (.ref o0) (hb hby d8_84) rfl rfl rfl ?_
              refine Own.getfield hx hZ hown O0 0 5 rfl rfl (hw _ (List.mem_of_getElem? (i := 34) rfl)) (hb hby d8_85) rfl ?_
              refine Own.iload hx (1 : Int32) (hb hby d8_88) rfl rfl ?_
              refine Own.iadd hx (hb hby d8_90) rfl ?_
              refine Own.vI (1 : Int32) (by decide) ?_
              refine Own.iconst hx (1 : Int32) (hb hby d8_91) rfl (by decide) ?_
              refine Own.isub hx (hb hby d8_92) rfl ?_
              refine Own.vI (0 : Int32) (by decide) ?_
              refine Own.laload hx hZ O0 1 0 rfl (by decide) (v := (.long u0)) rfl (hb hby d8_93) rfl ?_
              refine Own.goto hx (hb hby d8_94) (by decide) (pc' := 100) rfl ?_
              exact Own.retL hx hret hlk (hb hby d8_100) (by decide) (by decide) ⟨by simp only [fLG0, if_neg hc3, if_neg hc44, if_neg hc47, if_neg hc64, if_neg hc67, if_pos hc72], rfl⟩
        · refine Own.iload hx (1 : Int32) (hb hby d8_59) rfl rfl ?_
          refine Own.iconst hx (1 : Int32) (hb hby d8_61) rfl (by decide) ?_
          refine Own.iadd hx (hb hby d8_62) rfl ?_
          refine Own.vI (2 : Int32) (by decide) ?_
          refine Own.istore hx (2 : Int32) rfl #[.val (.ref o0), .val (.long q1), .second, .val (.long q2), .second, .val (.int (2 : Int32)), .val (.int (2 : Int32)), .val (.int (1 : Int32))] (hb hby d8_63) rfl rfl ?_
          refine Own.goto hx (hb hby d8_65) (by decide) (pc' := 72) rfl ?_
          refine Own.goto hx (hb hby d8_72) (by decide) (pc' := 9) rfl ?_
          refine Own.iload hx (2 : Int32) (hb hby d8_9) rfl rfl ?_
          refine Own.iload hx (2 : Int32) (hb hby d8_11) rfl rfl ?_
          have hc81 : ¬ ((2 : Int32) < (2 : Int32)) := by decide
          refine Own.icmpFn hx (Own.q_ge (2 : Int32) (2 : Int32)) (hb hby d8_13) (pcN := 16) rfl (by decide) (pcT := 75) rfl (fun _ => ?_) (fun q => absurd q hc81)
          refine Own.iload hx (2 : Int32) (hb hby d8_75) rfl rfl ?_
          have hc83 : (0 : Int32) < (2 : Int32) := by decide
          refine Own.ifFn hx (Own.z_le (2 : Int32)) (hb hby d8_77) (pcN := 80) rfl (by decide) (pcT := 97) rfl (fun q => absurd hc83 q) (fun _ => ?_)
          refine Own.aloadN hx (.ref o0) (hb hby d8_80) rfl rfl rfl ?_
          refine Own.getfield hx hZ hown O0 0 0 rfl rfl (hw _ (List.mem_of_getElem? (i := 15) rfl)) (hb hby d8_81) rfl ?_
          refine Own.aloadN hx (.ref o0) (hb hby d8_84) rfl rfl rfl ?_
          refine Own.getfield hx hZ hown O0 0 5 rfl rfl (hw _ (List.mem_of_getElem? (i := 34) rfl)) (hb hby d8_85) rfl ?_
          refine Own.iload hx (2 : Int32) (hb hby d8_88) rfl rfl ?_
          refine Own.iadd hx (hb hby d8_90) rfl ?_
          refine Own.vI (2 : Int32) (by decide) ?_
          refine Own.iconst hx (1 : Int32) (hb hby d8_91) rfl (by decide) ?_
          refine Own.isub hx (hb hby d8_92) rfl ?_
          refine Own.vI (1 : Int32) (by decide) ?_
          refine Own.laload hx hZ O0 1 1 rfl (by decide) (v := (.long u1)) rfl (hb hby d8_93) rfl ?_
          refine Own.goto hx (hb hby d8_94) (by decide) (pc' := 100) rfl ?_
          exact Own.retL hx hret hlk (hb hby d8_100) (by decide) (by decide) ⟨by simp only [fLG0, if_neg hc3, if_neg hc44, if_neg hc47, if_pos hc64], rfl⟩
    · refine Own.iload hx (2 : Int32) (hb hby d8_59) rfl rfl ?_
      refine Own.iconst hx (1 : Int32) (hb hby d8_61) rfl (by decide) ?_
      refine Own.iadd hx (hb hby d8_62) rfl ?_
      refine Own.vI (3 : Int32) (by decide) ?_
      refine Own.istore hx (3 : Int32) rfl #[.val (.ref o0), .val (.long q1), .second, .val (.long q2), .second, .val (.int (3 : Int32)), .val (.int (4 : Int32)), .val (.int (2 : Int32))] (hb hby d8_63) rfl rfl ?_
      refine Own.goto hx (hb hby d8_65) (by decide) (pc' := 72) rfl ?_
      refine Own.goto hx (hb hby d8_72) (by decide) (pc' := 9) rfl ?_
      refine Own.iload hx (3 : Int32) (hb hby d8_9) rfl rfl ?_
      refine Own.iload hx (4 : Int32) (hb hby d8_11) rfl rfl ?_
      have hc85 : (3 : Int32) < (4 : Int32) := by decide
      refine Own.icmpFn hx (Own.q_ge (3 : Int32) (4 : Int32)) (hb hby d8_13) (pcN := 16) rfl (by decide) (pcT := 75) rfl (fun q => absurd hc85 q) (fun _ => ?_)
      refine Own.iload hx (3 : Int32) (hb hby d8_16) rfl rfl ?_
      refine Own.iload hx (4 : Int32) (hb hby d8_18) rfl rfl ?_
      refine Own.iadd hx (hb hby d8_20) rfl ?_
      refine Own.vI (7 : Int32) (by decide) ?_
      refine Own.iconst hx (1 : Int32) (hb hby d8_21) rfl (by decide) ?_
      refine Own.iushr hx (hb hby d8_22) rfl ?_
      refine Own.vI (3 : Int32) (by decide) ?_
      refine Own.istore hx (3 : Int32) rfl #[.val (.ref o0), .val (.long q1), .second, .val (.long q2), .second, .val (.int (3 : Int32)), .val (.int (4 : Int32)), .val (.int (3 : Int32))] (hb hby d8_23) rfl rfl ?_
      refine Own.aloadN hx (.ref o0) (hb hby d8_25) rfl rfl rfl ?_
      refine Own.getfield hx hZ hown O0 0 1 rfl rfl (hw _ (List.mem_of_getElem? (i := 17) rfl)) (hb hby d8_26) rfl ?_
      refine Own.aloadN hx (.ref o0) (hb hby d8_29) rfl rfl rfl ?_
      refine Own.getfield hx hZ hown O0 0 5 rfl rfl (hw _ (List.mem_of_getElem? (i := 34) rfl)) (hb hby d8_30) rfl ?_
      refine Own.iload hx (3 : Int32) (hb hby d8_33) rfl rfl ?_
      refine Own.iadd hx (hb hby d8_35) rfl ?_
      refine Own.vI (3 : Int32) (by decide) ?_
      refine Own.laload hx hZ O0 2 3 rfl (by decide) (v := (.long t3)) rfl (hb hby d8_36) rfl ?_
      refine Own.lloadN hx q1 (hb hby d8_37) rfl rfl ?_
      refine Own.lcmp hx (hb hby d8_38) rfl ?_
      refine Own.ifF hx (Own.w_gt t3 q1) (hb hby d8_39) (pcN := 42) rfl (by decide) (pcT := 68) rfl (fun hc87 => ?_) (fun hc87 => ?_)
      · refine Own.iload hx (3 : Int32) (hb hby d8_68) rfl rfl ?_
        refine Own.istore hx (3 : Int32) rfl #[.val (.ref o0), .val (.long q1), .second, .val (.long q2), .second, .val (.int (3 : Int32)), .val (.int (3 : Int32)), .val (.int (3 : Int32))] (hb hby d8_70) rfl rfl ?_
        refine Own.goto hx (hb hby d8_72) (by decide) (pc' := 9) rfl ?_
        refine Own.iload hx (3 : Int32) (hb hby d8_9) rfl rfl ?_
        refine Own.iload hx (3 : Int32) (hb hby d8_11) rfl rfl ?_
        have hc88 : ¬ ((3 : Int32) < (3 : Int32)) := by decide
        refine Own.icmpFn hx (Own.q_ge (3 : Int32) (3 : Int32)) (hb hby d8_13) (pcN := 16) rfl (by decide) (pcT := 75) rfl (fun _ => ?_) (fun q => absurd q hc88)
        refine Own.iload hx (3 : Int32) (hb hby d8_75) rfl rfl ?_
        have hc90 : (0 : Int32) < (3 : Int32) := by decide
        refine Own.ifFn hx (Own.z_le (3 : Int32)) (hb hby d8_77) (pcN := 80) rfl (by decide) (pcT := 97) rfl (fun q => absurd hc90 q) (fun _ => ?_)
        refine Own.aloadN hx (.ref o0) (hb hby d8_80) rfl rfl rfl ?_
        refine Own.getfield hx hZ hown O0 0 0 rfl rfl (hw _ (List.mem_of_getElem? (i := 15) rfl)) (hb hby d8_81) rfl ?_
        refine Own.aloadN hx (.ref o0) (hb hby d8_84) rfl rfl rfl ?_
        refine Own.getfield hx hZ hown O0 0 5 rfl rfl (hw _ (List.mem_of_getElem? (i := 34) rfl)) (hb hby d8_85) rfl ?_
        refine Own.iload hx (3 : Int32) (hb hby d8_88) rfl rfl ?_
        refine Own.iadd hx (hb hby d8_90) rfl ?_
        refine Own.vI (3 : Int32) (by decide) ?_
        refine Own.iconst hx (1 : Int32) (hb hby d8_91) rfl (by decide) ?_
        refine Own.isub hx (hb hby d8_92) rfl ?_
        refine Own.vI (2 : Int32) (by decide) ?_
        refine Own.laload hx hZ O0 1 2 rfl (by decide) (v := (.long u2)) rfl (hb hby d8_93) rfl ?_
        refine Own.goto hx (hb hby d8_94) (by decide) (pc' := 100) rfl ?_
        exact Own.retL hx hret hlk (hb hby d8_100) (by decide) (by decide) ⟨by simp only [fLG0, if_neg hc3, if_pos hc44, if_pos hc87], rfl⟩
      · refine Own.aloadN hx (.ref o0) (hb hby d8_42) rfl rfl rfl ?_
        refine Own.getfield hx hZ hown O0 0 0 rfl rfl (hw _ (List.mem_of_getElem? (i := 15) rfl)) (hb hby d8_43) rfl ?_
        refine Own.aloadN hx (.ref o0) (hb hby d8_46) rfl rfl rfl ?_
        refine Own.getfield hx hZ hown O0 0 5 rfl rfl (hw _ (List.mem_of_getElem? (i := 34) rfl)) (hb hby d8_47) rfl ?_
        refine Own.iload hx (3 : Int32) (hb hby d8_50) rfl rfl ?_
        refine Own.iadd hx (hb hby d8_52) rfl ?_
        refine Own.vI (3 : Int32) (by decide) ?_
        refine Own.laload hx hZ O0 1 3 rfl (by decide) (v := (.long u3)) rfl (hb hby d8_53) rfl ?_
        refine Own.lloadN hx q2 (hb hby d8_54) rfl rfl ?_
        refine Own.lcmp hx (hb hby d8_55) rfl ?_
        refine Own.ifFn hx (Own.w_ge u3 q2) (hb hby d8_56) (pcN := 59) rfl (by decide) (pcT := 68) rfl (fun hc92 => ?_) (fun hc92 => ?_)
        · refine Own.iload hx (3 : Int32) (hb hby d8_68) rfl rfl ?_
          refine Own.istore hx (3 : Int32) rfl #[.val (.ref o0), .val (.long q1), .second, .val (.long q2), .second, .val (.int (3 : Int32)), .val (.int (3 : Int32)), .val (.int (3 : Int32))] (hb hby d8_70) rfl rfl ?_
          refine Own.goto hx (hb hby d8_72) (by decide) (pc' := 9) rfl ?_
          refine Own.iload hx (3 : Int32) (hb hby d8_9) rfl rfl ?_
          refine Own.iload hx (3 : Int32) (hb hby d8_11) rfl rfl ?_
          have hc93 : ¬ ((3 : Int32) < (3 : Int32)) := by decide
          refine Own.icmpFn hx (Own.q_ge (3 : Int32) (3 : Int32)) (hb hby d8_13) (pcN := 16) rfl (by decide) (pcT := 75) rfl (fun _ => ?_) (fun q => absurd q hc93)
          refine Own.iload hx (3 : Int32) (hb hby d8_75) rfl rfl ?_
          have hc95 : (0 : Int32) < (3 : Int32) := by decide
          refine Own.ifFn hx (Own.z_le (3 : Int32)) (hb hby d8_77) (pcN := 80) rfl (by decide) (pcT := 97) rfl (fun q => absurd hc95 q) (fun _ => ?_)
          refine Own.aloadN hx (.ref o0) (hb hby d8_80) rfl rfl rfl ?_
          refine Own.getfield hx hZ hown O0 0 0 rfl rfl (hw _ (List.mem_of_getElem? (i := 15) rfl)) (hb hby d8_81) rfl ?_
          refine Own.aloadN hx (.ref o0) (hb hby d8_84) rfl rfl rfl ?_
          refine Own.getfield hx hZ hown O0 0 5 rfl rfl (hw _ (List.mem_of_getElem? (i := 34) rfl)) (hb hby d8_85) rfl ?_
          refine Own.iload hx (3 : Int32) (hb hby d8_88) rfl rfl ?_
          refine Own.iadd hx (hb hby d8_90) rfl ?_
          refine Own.vI (3 : Int32) (by decide) ?_
          refine Own.iconst hx (1 : Int32) (hb hby d8_91) rfl (by decide) ?_
          refine Own.isub hx (hb hby d8_92) rfl ?_
          refine Own.vI (2 : Int32) (by decide) ?_
          refine Own.laload hx hZ O0 1 2 rfl (by decide) (v := (.long u2)) rfl (hb hby d8_93) rfl ?_
          refine Own.goto hx (hb hby d8_94) (by decide) (pc' := 100) rfl ?_
          exact Own.retL hx hret hlk (hb hby d8_100) (by decide) (by decide) ⟨by simp only [fLG0, if_neg hc3, if_pos hc44, if_neg hc87, if_neg hc92], rfl⟩
        · refine Own.iload hx (3 : Int32) (hb hby d8_59) rfl rfl ?_
          refine Own.iconst hx (1 : Int32) (hb hby d8_61) rfl (by decide) ?_
          refine Own.iadd hx (hb hby d8_62) rfl ?_
          refine Own.vI (4 : Int32) (by decide) ?_
          refine Own.istore hx (4 : Int32) rfl #[.val (.ref o0), .val (.long q1), .second, .val (.long q2), .second, .val (.int (4 : Int32)), .val (.int (4 : Int32)), .val (.int (3 : Int32))] (hb hby d8_63) rfl rfl ?_
          refine Own.goto hx (hb hby d8_65) (by decide) (pc' := 72) rfl ?_
          refine Own.goto hx (hb hby d8_72) (by decide) (pc' := 9) rfl ?_
          refine Own.iload hx (4 : Int32) (hb hby d8_9) rfl rfl ?_
          refine Own.iload hx (4 : Int32) (hb hby d8_11) rfl rfl ?_
          have hc97 : ¬ ((4 : Int32) < (4 : Int32)) := by decide
          refine Own.icmpFn hx (Own.q_ge (4 : Int32) (4 : Int32)) (hb hby d8_13) (pcN := 16) rfl (by decide) (pcT := 75) rfl (fun _ => ?_) (fun q => absurd q hc97)
          refine Own.iload hx (4 : Int32) (hb hby d8_75) rfl rfl ?_
          have hc99 : (0 : Int32) < (4 : Int32) := by decide
          refine Own.ifFn hx (Own.z_le (4 : Int32)) (hb hby d8_77) (pcN := 80) rfl (by decide) (pcT := 97) rfl (fun q => absurd hc99 q) (fun _ => ?_)
          refine Own.aloadN hx (.ref o0) (hb hby d8_80) rfl rfl rfl ?_
          refine Own.getfield hx hZ hown O0 0 0 rfl rfl (hw _ (List.mem_of_getElem? (i := 15) rfl)) (hb hby d8_81) rfl ?_
          refine Own.aloadN hx (.ref o0) (hb hby d8_84) rfl rfl rfl ?_
          refine Own.getfield hx hZ hown O0 0 5 rfl rfl (hw _ (List.mem_of_getElem? (i := 34) rfl)) (hb hby d8_85) rfl ?_
          refine Own.iload hx (4 : Int32) (hb hby d8_88) rfl rfl ?_
          refine Own.iadd hx (hb hby d8_90) rfl ?_
          refine Own.vI (4 : Int32) (by decide) ?_
          refine Own.iconst hx (1 : Int32) (hb hby d8_91) rfl (by decide) ?_
          refine Own.isub hx (hb hby d8_92) rfl ?_
          refine Own.vI (3 : Int32) (by decide) ?_
          refine Own.laload hx hZ O0 1 3 rfl (by decide) (v := (.long u3)) rfl (hb hby d8_93) rfl ?_
          refine Own.goto hx (hb hby d8_94) (by decide) (pc' := 100) rfl ?_
          exact Own.retL hx hret hlk (hb hby d8_100) (by decide) (by decide) ⟨by simp only [fLG0, if_neg hc3, if_pos hc44, if_neg hc87, if_pos hc92], rfl⟩

def fLG1 (q1 q2 u0 u1 u2 u3 t0 t1 t2 t3 : Int64) : Int64 := (if q1 < t2 then (if q1 < t1 then (-9223372036854775808 : Int64) else (if u1 < q2 then u1 else (-9223372036854775808 : Int64))) else (if u2 < q2 then (if q1 < t3 then u2 else (if u3 < q2 then u3 else u2)) else (if q1 < t1 then (-9223372036854775808 : Int64) else (if u1 < q2 then u1 else (-9223372036854775808 : Int64)))))
theorem ef8_1 (m : MethodId) (o0 : Addr) (q1 : Int64) (q2 : Int64) : entryFrame m #[(.ref o0), (.long q1), (.long q2)] 8 = mkF m 0 #[.val (.ref o0), .val (.long q1), .second, .val (.long q2), .second, .unset, .unset, .unset] [] := by first | (simp [entryFrame, mkF, argsToLocals, Value.category]; done) | rfl
set_option maxRecDepth 65536 in
set_option maxHeartbeats 40000000 in
theorem rm8_1 (l : Launch) (Z : State) (a0 : Array Value) (hw : ∀ d ∈ tables_1, d.before a0 Z = true) (o0 : Addr) (q1 : Int64) (q2 : Int64) (h0 : Heap) (n0 : Nat) (ra rb : Addr) (u0 u1 u2 u3 u4 u5 u6 u7 u8 u9 u10 u11 u12 u13 u14 u15 t0 t1 t2 t3 t4 t5 t6 t7 t8 t9 t10 t11 t12 t13 t14 t15 : Int64) (fr : List (Addr × (Cell → Prop))) (O0 : Own.Owns n0 h0 ((o0, Own.ObjC Z "com/example/tracewarden/tracewarden/monitor/Openings" [(("com/example/tracewarden/tracewarden/monitor/Openings", "cells", "[J"), (.ref ra)), (("com/example/tracewarden/tracewarden/monitor/Openings", "inner", "[J"), (.ref rb)), (("com/example/tracewarden/tracewarden/monitor/Openings", "lastFound", "I"), (.int (-1 : Int32))), (("com/example/tracewarden/tracewarden/monitor/Openings", "foundBefore", "I"), (.int (-1 : Int32))), (("com/example/tracewarden/tracewarden/monitor/Openings", "count", "I"), (.int (3 : Int32))), (("com/example/tracewarden/tracewarden/monitor/Openings", "first", "I"), (.int (1 : Int32))), (("com/example/tracewarden/tracewarden/monitor/Openings", "times", "[Ljava/math/BigDecimal;"), .null)]) :: (ra, Own.ArrC Z .long [(.long u0), (.long u1), (.long u2), (.long u3), (.long u4), (.long u5), (.long u6), (.long u7), (.long u8), (.long u9), (.long u10), (.long u11), (.long u12), (.long u13), (.long u14), (.long u15)]) :: (rb, Own.ArrC Z .long [(.long t0), (.long t1), (.long t2), (.long t3), (.long t4), (.long t5), (.long t6), (.long t7), (.long t8), (.long t9), (.long t10), (.long t11), (.long t12), (.long t13), (.long t14), (.long t15)]) :: fr))  : Own.Does l (⟨"com/example/tracewarden/tracewarden/monitor/Openings", "lastGoingWith", "(JJ)J"⟩ : MethodName) prog_92_method_13_code 8 (some .long) [] ({ frames := 0, cells := 0, slots := 0, locals := 0 } : Room) Z #[(.ref o0), (.long q1), (.long q2)] h0 n0 (fun v h => v = some (.long (fLG1 q1 q2 u0 u1 u2 u3 t0 t1 t2 t3)) ∧ h = h0) := by
  refine Own.doesOf pn6 ?_
  intro p e s m below meth c hx hby hml hret hlk hown hnm hZ
  refine Own.Goes.cast (ef8_1 m o0 q1 q2) ?_
  refine Own.iconst hx (0 : Int32) (hb hby d8_0) rfl (by decide) ?_
  refine Own.istore hx (0 : Int32) rfl #[.val (.ref o0), .val (.long q1), .second, .val (.long q2), .second, .val (.int (0 : Int32)), .unset, .unset] (hb hby d8_1) rfl rfl ?_
  refine Own.aloadN hx (.ref o0) (hb hby d8_3) rfl rfl rfl ?_
  refine Own.getfield hx hZ hown O0 0 4 rfl rfl (hw _ (List.mem_of_getElem? (i := 28) rfl)) (hb hby d8_4) rfl ?_
  refine Own.istore hx (3 : Int32) rfl #[.val (.ref o0), .val (.long q1), .second, .val (.long q2), .second, .val (.int (0 : Int32)), .val (.int (3 : Int32)), .unset] (hb hby d8_7) rfl rfl ?_
  refine Own.iload hx (0 : Int32) (hb hby d8_9) rfl rfl ?_
  refine Own.iload hx (3 : Int32) (hb hby d8_11) rfl rfl ?_
  have hc1 : (0 : Int32) < (3 : Int32) := by decide
  refine Own.icmpFn hx (Own.q_ge (0 : Int32) (3 : Int32)) (hb hby d8_13) (pcN := 16) rfl (by decide) (pcT := 75) rfl (fun q => absurd hc1 q) (fun _ => ?_)
  refine Own.iload hx (0 : Int32) (hb hby d8_16) rfl rfl ?_
  refine Own.iload hx (3 : Int32) (hb hby d8_18) rfl rfl ?_
  refine Own.iadd hx (hb hby d8_20) rfl ?_
  refine Own.vI (3 : Int32) (by decide) ?_
  refine Own.iconst hx (1 : Int32) (hb hby d8_21) rfl (by decide) ?_
  refine Own.iushr hx (hb hby d8_22) rfl ?_
  refine Own.vI (1 : Int32) (by decide) ?_
  refine Own.istore hx (1 : Int32) rfl #[.val (.ref o0), .val (.long q1), .second, .val (.long q2), .second, .val (.int (0 : Int32)), .val (.int (3 : Int32)), .val (.int (1 : Int32))] (hb hby d8_23) rfl rfl ?_
  refine Own.aloadN hx (.ref o0) (hb hby d8_25) rfl rfl rfl ?_
  refine Own.getfield hx hZ hown O0 0 1 rfl rfl (hw _ (List.mem_of_getElem? (i := 17) rfl)) (hb hby d8_26) rfl ?_
  refine Own.aloadN hx (.ref o0) (hb hby d8_29) rfl rfl rfl ?_
  refine Own.getfield hx hZ hown O0 0 5 rfl rfl (hw _ (List.mem_of_getElem? (i := 34) rfl)) (hb hby d8_30) rfl ?_
  refine Own.iload hx (1 : Int32) (hb hby d8_33) rfl rfl ?_
  refine Own.iadd hx (hb hby d8_35) rfl ?_
  refine Own.vI (2 : Int32) (by decide) ?_
  refine Own.laload hx hZ O0 2 2 rfl (by decide) (v := (.long t2)) rfl (hb hby d8_36) rfl ?_
  refine Own.lloadN hx q1 (hb hby d8_37) rfl rfl ?_
  refine Own.lcmp hx (hb hby d8_38) rfl ?_
  refine Own.ifF hx (Own.w_gt t2 q1) (hb hby d8_39) (pcN := 42) rfl (by decide) (pcT := 68) rfl (fun hc3 => ?_) (fun hc3 => ?_)
  · refine Own.iload hx (1 : Int32) (hb hby d8_68) rfl rfl ?_
    refine Own.istore hx (1 : Int32) rfl #[.val (.ref o0), .val (.long q1), .second, .val (.long q2), .second, .val (.int (0 : Int32)), .val (.int (1 : Int32)), .val (.int (1 : Int32))] (hb hby d8_70) rfl rfl ?_
    refine Own.goto hx (hb hby d8_72) (by decide) (pc' := 9) rfl ?_
    refine Own.iload hx (0 : Int32) (hb hby d8_9) rfl rfl ?_
    refine Own.iload hx (1 : Int32) (hb hby d8_11) rfl rfl ?_
    have hc4 : (0 : Int32) < (1 : Int32) := by decide
    refine Own.icmpFn hx (Own.q_ge (0 : Int32) (1 : Int32)) (hb hby d8_13) (pcN := 16) rfl (by decide) (pcT := 75) rfl (fun q => absurd hc4 q) (fun _ => ?_)
    refine Own.iload hx (0 : Int32) (hb hby d8_16) rfl rfl ?_
    refine Own.iload hx (1 : Int32) (hb hby d8_18) rfl rfl ?_
    refine Own.iadd hx (hb hby d8_20) rfl ?_
    refine Own.vI (1 : Int32) (by decide) ?_
    refine Own.iconst hx (1 : Int32) (hb hby d8_21) rfl (by decide) ?_
    refine Own.iushr hx (hb hby d8_22) rfl ?_
    refine Own.vI (0 : Int32) (by decide) ?_
    refine Own.istore hx (0 : Int32) rfl #[.val (.ref o0), .val (.long q1), .second, .val (.long q2), .second, .val (.int (0 : Int32)), .val (.int (1 : Int32)), .val (.int (0 : Int32))] (hb hby d8_23) rfl rfl ?_
    refine Own.aloadN hx (.ref o0) (hb hby d8_25) rfl rfl rfl ?_
    refine Own.getfield hx hZ hown O0 0 1 rfl rfl (hw _ (List.mem_of_getElem? (i := 17) rfl)) (hb hby d8_26) rfl ?_
    refine Own.aloadN hx (.ref o0) (hb hby d8_29) rfl rfl rfl ?_
    refine Own.getfield hx hZ hown O0 0 5 rfl rfl (hw _ (List.mem_of_getElem? (i := 34) rfl)) (hb hby d8_30) rfl ?_
    refine Own.iload hx (0 : Int32) (hb hby d8_33) rfl rfl ?_
    refine Own.iadd hx (hb hby d8_35) rfl ?_
    refine Own.vI (1 : Int32) (by decide) ?_
    refine Own.laload hx hZ O0 2 1 rfl (by decide) (v := (.long t1)) rfl (hb hby d8_36) rfl ?_
    refine Own.lloadN hx q1 (hb hby d8_37) rfl rfl ?_
    refine Own.lcmp hx (hb hby d8_38) rfl ?_
    refine Own.ifF hx (Own.w_gt t1 q1) (hb hby d8_39) (pcN := 42) rfl (by decide) (pcT := 68) rfl (fun hc6 => ?_) (fun hc6 => ?_)
    · refine Own.iload hx (0 : Int32) (hb hby d8_68) rfl rfl ?_
      refine Own.istore hx (0 : Int32) rfl #[.val (.ref o0), .val (.long q1), .second, .val (.long q2), .second, .val (.int (0 : Int32)), .val (.int (0 : Int32)), .val (.int (0 : Int32))] (hb hby d8_70) rfl rfl ?_
      refine Own.goto hx (hb hby d8_72) (by decide) (pc' := 9) rfl ?_
      refine Own.iload hx (0 : Int32) (hb hby d8_9) rfl rfl ?_
      refine Own.iload hx (0 : Int32) (hb hby d8_11) rfl rfl ?_
      have hc7 : ¬ ((0 : Int32) < (0 : Int32)) := by decide
      refine Own.icmpFn hx (Own.q_ge (0 : Int32) (0 : Int32)) (hb hby d8_13) (pcN := 16) rfl (by decide) (pcT := 75) rfl (fun _ => ?_) (fun q => absurd q hc7)
      refine Own.iload hx (0 : Int32) (hb hby d8_75) rfl rfl ?_
      have hc9 : ¬ ((0 : Int32) < (0 : Int32)) := by decide
      refine Own.ifFn hx (Own.z_le (0 : Int32)) (hb hby d8_77) (pcN := 80) rfl (by decide) (pcT := 97) rfl (fun _ => ?_) (fun q => absurd q hc9)
      refine Own.ldc2 hx hZ hown (-9223372036854775808 : Int64) (hb hby d8_97) rfl (hw _ (List.mem_of_getElem? (i := 52) rfl)) ?_
      exact Own.retL hx hret hlk (hb hby d8_100) (by decide) (by decide) ⟨by simp only [fLG1, if_pos hc3, if_pos hc6], rfl⟩
    · refine Own.aloadN hx (.ref o0) (hb hby d8_42) rfl rfl rfl ?_
      refine Own.getfield hx hZ hown O0 0 0 rfl rfl (hw _ (List.mem_of_getElem? (i := 15) rfl)) (hb hby d8_43) rfl ?_
      refine Own.aloadN hx (.ref o0) (hb hby d8_46) rfl rfl rfl ?_
      refine Own.getfield hx hZ hown O0 0 5 rfl rfl (hw _ (List.mem_of_getElem? (i := 34) rfl)) (hb hby d8_47) rfl ?_
      refine Own.iload hx (0 : Int32) (hb hby d8_50) rfl rfl ?_
      refine Own.iadd hx (hb hby d8_52) rfl ?_
      refine Own.vI (1 : Int32) (by decide) ?_
      refine Own.laload hx hZ O0 1 1 rfl (by decide) (v := (.long u1)) rfl (hb hby d8_53) rfl ?_
      refine Own.lloadN hx q2 (hb hby d8_54) rfl rfl ?_
      refine Own.lcmp hx (hb hby d8_55) rfl ?_
      refine Own.ifFn hx (Own.w_ge u1 q2) (hb hby d8_56) (pcN := 59) rfl (by decide) (pcT := 68) rfl (fun hc11 => ?_) (fun hc11 => ?_)
      · refine Own.iload hx (0 : Int32) (hb hby d8_68) rfl rfl ?_
        refine Own.istore hx (0 : Int32) rfl #[.val (.ref o0), .val (.long q1), .second, .val (.long q2), .second, .val (.int (0 : Int32)), .val (.int (0 : Int32)), .val (.int (0 : Int32))] (hb hby d8_70) rfl rfl ?_
        refine Own.goto hx (hb hby d8_72) (by decide) (pc' := 9) rfl ?_
        refine Own.iload hx (0 : Int32) (hb hby d8_9) rfl rfl ?_
        refine Own.iload hx (0 : Int32) (hb hby d8_11) rfl rfl ?_
        have hc12 : ¬ ((0 : Int32) < (0 : Int32)) := by decide
        refine Own.icmpFn hx (Own.q_ge (0 : Int32) (0 : Int32)) (hb hby d8_13) (pcN := 16) rfl (by decide) (pcT := 75) rfl (fun _ => ?_) (fun q => absurd q hc12)
        refine Own.iload hx (0 : Int32) (hb hby d8_75) rfl rfl ?_
        have hc14 : ¬ ((0 : Int32) < (0 : Int32)) := by decide
        refine Own.ifFn hx (Own.z_le (0 : Int32)) (hb hby d8_77) (pcN := 80) rfl (by decide) (pcT := 97) rfl (fun _ => ?_) (fun q => absurd q hc14)
        refine Own.ldc2 hx hZ hown (-9223372036854775808 : Int64) (hb hby d8_97) rfl (hw _ (List.mem_of_getElem? (i := 52) rfl)) ?_
        exact Own.retL hx hret hlk (hb hby d8_100) (by decide) (by decide) ⟨by simp only [fLG1, if_pos hc3, if_neg hc6, if_neg hc11], rfl⟩
      · refine Own.iload hx (0 : Int32) (hb hby d8_59) rfl rfl ?_
        refine Own.iconst hx (1 : Int32) (hb hby d8_61) rfl (by decide) ?_
        refine Own.iadd hx (hb hby d8_62) rfl ?_
        refine Own.vI (1 : Int32) (by decide) ?_
        refine Own.istore hx (1 : Int32) rfl #[.val (.ref o0), .val (.long q1), .second, .val (.long q2), .second, .val (.int (1 : Int32)), .val (.int (1 : Int32)), .val (.int (0 : Int32))] (hb hby d8_63) rfl rfl ?_
        refine Own.goto hx (hb hby d8_65) (by decide) (pc' := 72) rfl ?_
        refine Own.goto hx (hb hby d8_72) (by decide) (pc' := 9) rfl ?_
        refine Own.iload hx (1 : Int32) (hb hby d8_9) rfl rfl ?_
        refine Own.iload hx (1 : Int32) (hb hby d8_11) rfl rfl ?_
        have hc16 : ¬ ((1 : Int32) < (1 : Int32)) := by decide
        refine Own.icmpFn hx (Own.q_ge (1 : Int32) (1 : Int32)) (hb hby d8_13) (pcN := 16) rfl (by decide) (pcT := 75) rfl (fun _ => ?_) (fun q => absurd q hc16)
        refine Own.iload hx (1 : Int32) (hb hby d8_75) rfl rfl ?_
        have hc18 : (0 : Int32) < (1 : Int32) := by decide
        refine Own.ifFn hx (Own.z_le (1 : Int32)) (hb hby d8_77) (pcN := 80) rfl (by decide) (pcT := 97) rfl (fun q => absurd hc18 q) (fun _ => ?_)
        refine Own.aloadN hx (.ref o0) (hb hby d8_80) rfl rfl rfl ?_
        refine Own.getfield hx hZ hown O0 0 0 rfl rfl (hw _ (List.mem_of_getElem? (i := 15) rfl)) (hb hby d8_81) rfl ?_
        refine Own.aloadN hx (.ref o0) (hb hby d8_84) rfl rfl rfl ?_
        refine Own.getfield hx hZ hown O0 0 5 rfl rfl (hw _ (List.mem_of_getElem? (i := 34) rfl)) (hb hby d8_85) rfl ?_
        refine Own.iload hx (1 : Int32) (hb hby d8_88) rfl rfl ?_
        refine Own.iadd hx (hb hby d8_90) rfl ?_
        refine Own.vI (2 : Int32) (by decide) ?_
        refine Own.iconst hx (1 : Int32) (hb hby d8_91) rfl (by decide) ?_
        refine Own.isub hx (hb hby d8_92) rfl ?_
        refine Own.vI (1 : Int32) (by decide) ?_
        refine Own.laload hx hZ O0 1 1 rfl (by decide) (v := (.long u1)) rfl (hb hby d8_93) rfl ?_
        refine Own.goto hx (hb hby d8_94) (by decide) (pc' := 100) rfl ?_
        exact Own.retL hx hret hlk (hb hby d8_100) (by decide) (by decide) ⟨by simp only [fLG1, if_pos hc3, if_neg hc6, if_pos hc11], rfl⟩
  · refine Own.aloadN hx (.ref o0) (hb hby d8_42) rfl rfl rfl ?_
    refine Own.getfield hx hZ hown O0 0 0 rfl rfl (hw _ (List.mem_of_getElem? (i := 15) rfl)) (hb hby d8_43) rfl ?_
    refine Own.aloadN hx (.ref o0) (hb hby d8_46) rfl rfl rfl ?_
    refine Own.getfield hx hZ hown O0 0 5 rfl rfl (hw _ (List.mem_of_getElem? (i := 34) rfl)) (hb hby d8_47) rfl ?_
    refine Own.iload hx (1 : Int32) (hb hby d8_50) rfl rfl ?_
    refine Own.iadd hx (hb hby d8_52) rfl ?_
    refine Own.vI (2 : Int32) (by decide) ?_
    refine Own.laload hx hZ O0 1 2 rfl (by decide) (v := (.long u2)) rfl (hb hby d8_53) rfl ?_
    refine Own.lloadN hx q2 (hb hby d8_54) rfl rfl ?_
    refine Own.lcmp hx (hb hby d8_55) rfl ?_
    refine Own.ifFn hx (Own.w_ge u2 q2) (hb hby d8_56) (pcN := 59) rfl (by decide) (pcT := 68) rfl (fun hc20 => ?_) (fun hc20 => ?_)
    · refine Own.iload hx (1 : Int32) (hb hby d8_68) rfl rfl ?_
      refine Own.istore hx (1 : Int32) rfl #[.val (.ref o0), .val (.long q1), .second, .val (.long q2), .second, .val (.int (0 : Int32)), .val (.int (1 : Int32)), .val (.int (1 : Int32))] (hb hby d8_70) rfl rfl ?_
      refine Own.goto hx (hb hby d8_72) (by decide) (pc' := 9) rfl ?_
      refine Own.iload hx (0 : Int32) (hb hby d8_9) rfl rfl ?_
      refine Own.iload hx (1 : Int32) (hb hby d8_11) rfl rfl ?_
      have hc21 : (0 : Int32) < (1 : Int32) := by decide
      refine Own.icmpFn hx (Own.q_ge (0 : Int32) (1 : Int32)) (hb hby d8_13) (pcN := 16) rfl (by decide) (pcT := 75) rfl (fun q => absurd hc21 q) (fun _ => ?_)
      refine Own.iload hx (0 : Int32) (hb hby d8_16) rfl rfl ?_
      refine Own.iload hx (1 : Int32) (hb hby d8_18) rfl rfl ?_
      refine Own.iadd hx (hb hby d8_20) rfl ?_
      refine Own.vI (1 : Int32) (by decide) ?_
      refine Own.iconst hx (1 : Int32) (hb hby d8_21) rfl (by decide) ?_
      refine Own.iushr hx (hb hby d8_22) rfl ?_
      refine Own.vI (0 : Int32) (by decide) ?_
      refine Own.istore hx (0 : Int32) rfl #[.val (.ref o0), .val (.long q1), .second, .val (.long q2), .second, .val (.int (0 : Int32)), .val (.int (1 : Int32)), .val (.int (0 : Int32))] (hb hby d8_23) rfl rfl ?_
      refine Own.aloadN hx (.ref o0) (hb hby d8_25) rfl rfl rfl ?_
      refine Own.getfield hx hZ hown O0 0 1 rfl rfl (hw _ (List.mem_of_getElem? (i := 17) rfl)) (hb hby d8_26) rfl ?_
      refine Own.aloadN hx (.ref o0) (hb hby d8_29) rfl rfl rfl ?_
      refine Own.getfield hx hZ hown O0 0 5 rfl rfl (hw _ (List.mem_of_getElem? (i := 34) rfl)) (hb hby d8_30) rfl ?_
      refine Own.iload hx (0 : Int32) (hb hby d8_33) rfl rfl ?_
      refine Own.iadd hx (hb hby d8_35) rfl ?_
      refine Own.vI (1 : Int32) (by decide) ?_
      refine Own.laload hx hZ O0 2 1 rfl (by decide) (v := (.long t1)) rfl (hb hby d8_36) rfl ?_
      refine Own.lloadN hx q1 (hb hby d8_37) rfl rfl ?_
      refine Own.lcmp hx (hb hby d8_38) rfl ?_
      refine Own.ifF hx (Own.w_gt t1 q1) (hb hby d8_39) (pcN := 42) rfl (by decide) (pcT := 68) rfl (fun hc23 => ?_) (fun hc23 => ?_)
      · refine Own.iload hx (0 : Int32) (hb hby d8_68) rfl rfl ?_
        refine Own.istore hx (0 : Int32) rfl #[.val (.ref o0), .val (.long q1), .second, .val (.long q2), .second, .val (.int (0 : Int32)), .val (.int (0 : Int32)), .val (.int (0 : Int32))] (hb hby d8_70) rfl rfl ?_
        refine Own.goto hx (hb hby d8_72) (by decide) (pc' := 9) rfl ?_
        refine Own.iload hx (0 : Int32) (hb hby d8_9) rfl rfl ?_
        refine Own.iload hx (0 : Int32) (hb hby d8_11) rfl rfl ?_
        have hc24 : ¬ ((0 : Int32) < (0 : Int32)) := by decide
        refine Own.icmpFn hx (Own.q_ge (0 : Int32) (0 : Int32)) (hb hby d8_13) (pcN := 16) rfl (by decide) (pcT := 75) rfl (fun _ => ?_) (fun q => absurd q hc24)
        refine Own.iload hx (0 : Int32) (hb hby d8_75) rfl rfl ?_
        have hc26 : ¬ ((0 : Int32) < (0 : Int32)) := by decide
        refine Own.ifFn hx (Own.z_le (0 : Int32)) (hb hby d8_77) (pcN := 80) rfl (by decide) (pcT := 97) rfl (fun _ => ?_) (fun q => absurd q hc26)
        refine Own.ldc2 hx hZ hown (-9223372036854775808 : Int64) (hb hby d8_97) rfl (hw _ (List.mem_of_getElem? (i := 52) rfl)) ?_
        exact Own.retL hx hret hlk (hb hby d8_100) (by decide) (by decide) ⟨by simp only [fLG1, if_neg hc3, if_neg hc20, if_pos hc23], rfl⟩
      · refine Own.aloadN hx (.ref o0) (hb hby d8_42) rfl rfl rfl ?_
        refine Own.getfield hx hZ hown O0 0 0 rfl rfl (hw _ (List.mem_of_getElem? (i := 15) rfl)) (hb hby d8_43) rfl ?_
        refine Own.aloadN hx (.ref o0) (hb hby d8_46) rfl rfl rfl ?_
        refine Own.getfield hx hZ hown O0 0 5 rfl rfl (hw _ (List.mem_of_getElem? (i := 34) rfl)) (hb hby d8_47) rfl ?_
        refine Own.iload hx (0 : Int32) (hb hby d8_50) rfl rfl ?_
        refine Own.iadd hx (hb hby d8_52) rfl ?_
        refine Own.vI (1 : Int32) (by decide) ?_
        refine Own.laload hx hZ O0 1 1 rfl (by decide) (v := (.long u1)) rfl (hb hby d8_53) rfl ?_
        refine Own.lloadN hx q2 (hb hby d8_54) rfl rfl ?_
        refine Own.lcmp hx (hb hby d8_55) rfl ?_
        refine Own.ifFn hx (Own.w_ge u1 q2) (hb hby d8_56) (pcN := 59) rfl (by decide) (pcT := 68) rfl (fun hc28 => ?_) (fun hc28 => ?_)
        · refine Own.iload hx (0 : Int32) (hb hby d8_68) rfl rfl ?_
          refine Own.istore hx (0 : Int32) rfl #[.val (.ref o0), .val (.long q1), .second, .val (.long q2), .second, .val (.int (0 : Int32)), .val (.int (0 : Int32)), .val (.int (0 : Int32))] (hb hby d8_70) rfl rfl ?_
          refine Own.goto hx (hb hby d8_72) (by decide) (pc' := 9) rfl ?_
          refine Own.iload hx (0 : Int32) (hb hby d8_9) rfl rfl ?_
          refine Own.iload hx (0 : Int32) (hb hby d8_11) rfl rfl ?_
          have hc29 : ¬ ((0 : Int32) < (0 : Int32)) := by decide
          refine Own.icmpFn hx (Own.q_ge (0 : Int32) (0 : Int32)) (hb hby d8_13) (pcN := 16) rfl (by decide) (pcT := 75) rfl (fun _ => ?_) (fun q => absurd q hc29)
          refine Own.iload hx (0 : Int32) (hb hby d8_75) rfl rfl ?_
          have hc31 : ¬ ((0 : Int32) < (0 : Int32)) := by decide
          refine Own.ifFn hx (Own.z_le (0 : Int32)) (hb hby d8_77) (pcN := 80) rfl (by decide) (pcT := 97) rfl (fun _ => ?_) (fun q => absurd q hc31)
          refine Own.ldc2 hx hZ hown (-9223372036854775808 : Int64) (hb hby d8_97) rfl (hw _ (List.mem_of_getElem? (i := 52) rfl)) ?_
          exact Own.retL hx hret hlk (hb hby d8_100) (by decide) (by decide) ⟨by simp only [fLG1, if_neg hc3, if_neg hc20, if_neg hc23, if_neg hc28], rfl⟩
        · refine Own.iload hx (0 : Int32) (hb hby d8_59) rfl rfl ?_
          refine Own.iconst hx (1 : Int32) (hb hby d8_61) rfl (by decide) ?_
          refine Own.iadd hx (hb hby d8_62) rfl ?_
          refine Own.vI (1 : Int32) (by decide) ?_
          refine Own.istore hx (1 : Int32) rfl #[.val (.ref o0), .val (.long q1), .second, .val (.long q2), .second, .val (.int (1 : Int32)), .val (.int (1 : Int32)), .val (.int (0 : Int32))] (hb hby d8_63) rfl rfl ?_
          refine Own.goto hx (hb hby d8_65) (by decide) (pc' := 72) rfl ?_
          refine Own.goto hx (hb hby d8_72) (by decide) (pc' := 9) rfl ?_
          refine Own.iload hx (1 : Int32) (hb hby d8_9) rfl rfl ?_
          refine Own.iload hx (1 : Int32) (hb hby d8_11) rfl rfl ?_
          have hc33 : ¬ ((1 : Int32) < (1 : Int32)) := by decide
          refine Own.icmpFn hx (Own.q_ge (1 : Int32) (1 : Int32)) (hb hby d8_13) (pcN := 16) rfl (by decide) (pcT := 75) rfl (fun _ => ?_) (fun q => absurd q hc33)
          refine Own.iload hx (1 : Int32) (hb hby d8_75) rfl rfl ?_
          have hc35 : (0 : Int32) < (1 : Int32) := by decide
          refine Own.ifFn hx (Own.z_le (1 : Int32)) (hb hby d8_77) (pcN := 80) rfl (by decide) (pcT := 97) rfl (fun q => absurd hc35 q) (fun _ => ?_)
          refine Own.aloadN hx (.ref o0) (hb hby d8_80) rfl rfl rfl ?_
          refine Own.getfield hx hZ hown O0 0 0 rfl rfl (hw _ (List.mem_of_getElem? (i := 15) rfl)) (hb hby d8_81) rfl ?_
          refine Own.aloadN hx (.ref o0) (hb hby d8_84) rfl rfl rfl ?_
          refine Own.getfield hx hZ hown O0 0 5 rfl rfl (hw _ (List.mem_of_getElem? (i := 34) rfl)) (hb hby d8_85) rfl ?_
          refine Own.iload hx (1 : Int32) (hb hby d8_88) rfl rfl ?_
          refine Own.iadd hx (hb hby d8_90) rfl ?_
          refine Own.vI (2 : Int32) (by decide) ?_
          refine Own.iconst hx (1 : Int32) (hb hby d8_91) rfl (by decide) ?_
          refine Own.isub hx (hb hby d8_92) rfl ?_
          refine Own.vI (1 : Int32) (by decide) ?_
          refine Own.laload hx hZ O0 1 1 rfl (by decide) (v := (.long u1)) rfl (hb hby d8_93) rfl ?_
          refine Own.goto hx (hb hby d8_94) (by decide) (pc' := 100) rfl ?_
          exact Own.retL hx hret hlk (hb hby d8_100) (by decide) (by decide) ⟨by simp only [fLG1, if_neg hc3, if_neg hc20, if_neg hc23, if_pos hc28], rfl⟩
    · refine Own.iload hx (1 : Int32) (hb hby d8_59) rfl rfl ?_
      refine Own.iconst hx (1 : Int32) (hb hby d8_61) rfl (by decide) ?_
      refine Own.iadd hx (hb hby d8_62) rfl ?_
      refine Own.vI (2 : Int32) (by decide) ?_
      refine Own.istore hx (2 : Int32) rfl #[.val (.ref o0), .val (.long q1), .second, .val (.long q2), .second, .val (.int (2 : Int32)), .val (.int (3 : Int32)), .val (.int (1 : Int32))] (hb hby d8_63) rfl rfl ?_
      refine Own.goto hx (hb hby d8_65) (by decide) (pc' := 72) rfl ?_
      refine Own.goto hx (hb hby d8_72) (by decide) (pc' := 9) rfl ?_
      refine Own.iload hx (2 : Int32) (hb hby d8_9) rfl rfl ?_
      refine Own.iload hx (3 : Int32) (hb hby d8_11) rfl rfl ?_
      have hc37 : (2 : Int32) < (3 : Int32) := by decide
      refine Own.icmpFn hx (Own.q_ge (2 : Int32) (3 : Int32)) (hb hby d8_13) (pcN := 16) rfl (by decide) (pcT := 75) rfl (fun q => absurd hc37 q) (fun _ => ?_)
      refine Own.iload hx (2 : Int32) (hb hby d8_16) rfl rfl ?_
      refine Own.iload hx (3 : Int32) (hb hby d8_18) rfl rfl ?_
      refine Own.iadd hx (hb hby d8_20) rfl ?_
      refine Own.vI (5 : Int32) (by decide) ?_
      refine Own.iconst hx (1 : Int32) (hb hby d8_21) rfl (by decide) ?_
      refine Own.iushr hx (hb hby d8_22) rfl ?_
      refine Own.vI (2 : Int32) (by decide) ?_
      refine Own.istore hx (2 : Int32) rfl #[.val (.ref o0), .val (.long q1), .second, .val (.long q2), .second, .val (.int (2 : Int32)), .val (.int (3 : Int32)), .val (.int (2 : Int32))] (hb hby d8_23) rfl rfl ?_
      refine Own.aloadN hx (.ref o0) (hb hby d8_25) rfl rfl rfl ?_
      refine Own.getfield hx hZ hown O0 0 1 rfl rfl (hw _ (List.mem_of_getElem? (i := 17) rfl)) (hb hby d8_26) rfl ?_
      refine Own.aloadN hx (.ref o0) (hb hby d8_29) rfl rfl rfl ?_
      refine Own.getfield hx hZ hown O0 0 5 rfl rfl (hw _ (List.mem_of_getElem? (i := 34) rfl)) (hb hby d8_30) rfl ?_
      refine Own.iload hx (2 : Int32) (hb hby d8_33) rfl rfl ?_
      refine Own.iadd hx (hb hby d8_35) rfl ?_
      refine Own.vI (3 : Int32) (by decide) ?_
      refine Own.laload hx hZ O0 2 3 rfl (by decide) (v := (.long t3)) rfl (hb hby d8_36) rfl ?_
      refine Own.lloadN hx q1 (hb hby d8_37) rfl rfl ?_
      refine Own.lcmp hx (hb hby d8_38) rfl ?_
      refine Own.ifF hx (Own.w_gt t3 q1) (hb hby d8_39) (pcN := 42) rfl (by decide) (pcT := 68) rfl (fun hc39 => ?_) (fun hc39 => ?_)
      · refine Own.iload hx (2 : Int32) (hb hby d8_68) rfl rfl ?_
        refine Own.istore hx (2 : Int32) rfl #[.val (.ref o0), .val (.long q1), .second, .val (.long q2), .second, .val (.int (2 : Int32)), .val (.int (2 : Int32)), .val (.int (2 : Int32))] (hb hby d8_70) rfl rfl ?_
        refine Own.goto hx (hb hby d8_72) (by decide) (pc' := 9) rfl ?_
        refine Own.iload hx (2 : Int32) (hb hby d8_9) rfl rfl ?_
        refine Own.iload hx (2 : Int32) (hb hby d8_11) rfl rfl ?_
        have hc40 : ¬ ((2 : Int32) < (2 : Int32)) := by decide
        refine Own.icmpFn hx (Own.q_ge (2 : Int32) (2 : Int32)) (hb hby d8_13) (pcN := 16) rfl (by decide) (pcT := 75) rfl (fun _ => ?_) (fun q => absurd q hc40)
        refine Own.iload hx (2 : Int32) (hb hby d8_75) rfl rfl ?_
        have hc42 : (0 : Int32) < (2 : Int32) := by decide
        refine Own.ifFn hx (Own.z_le (2 : Int32)) (hb hby d8_77) (pcN := 80) rfl (by decide) (pcT := 97) rfl (fun q => absurd hc42 q) (fun _ => ?_)
        refine Own.aloadN hx (.ref o0) (hb hby d8_80) rfl rfl rfl ?_
        refine Own.getfield hx hZ hown O0 0 0 rfl rfl (hw _ (List.mem_of_getElem? (i := 15) rfl)) (hb hby d8_81) rfl ?_
        refine Own.aloadN hx (.ref o0) (hb hby d8_84) rfl rfl rfl ?_
        refine Own.getfield hx hZ hown O0 0 5 rfl rfl (hw _ (List.mem_of_getElem? (i := 34) rfl)) (hb hby d8_85) rfl ?_
        refine Own.iload hx (2 : Int32) (hb hby d8_88) rfl rfl ?_
        refine Own.iadd hx (hb hby d8_90) rfl ?_
        refine Own.vI (3 : Int32) (by decide) ?_
        refine Own.iconst hx (1 : Int32) (hb hby d8_91) rfl (by decide) ?_
        refine Own.isub hx (hb hby d8_92) rfl ?_
        refine Own.vI (2 : Int32) (by decide) ?_
        refine Own.laload hx hZ O0 1 2 rfl (by decide) (v := (.long u2)) rfl (hb hby d8_93) rfl ?_
        refine Own.goto hx (hb hby d8_94) (by decide) (pc' := 100) rfl ?_
        exact Own.retL hx hret hlk (hb hby d8_100) (by decide) (by decide) ⟨by simp only [fLG1, if_neg hc3, if_pos hc20, if_pos hc39], rfl⟩
      · refine Own.aloadN hx (.ref o0) (hb hby d8_42) rfl rfl rfl ?_
        refine Own.getfield hx hZ hown O0 0 0 rfl rfl (hw _ (List.mem_of_getElem? (i := 15) rfl)) (hb hby d8_43) rfl ?_
        refine Own.aloadN hx (.ref o0) (hb hby d8_46) rfl rfl rfl ?_
        refine Own.getfield hx hZ hown O0 0 5 rfl rfl (hw _ (List.mem_of_getElem? (i := 34) rfl)) (hb hby d8_47) rfl ?_
        refine Own.iload hx (2 : Int32) (hb hby d8_50) rfl rfl ?_
        refine Own.iadd hx (hb hby d8_52) rfl ?_
        refine Own.vI (3 : Int32) (by decide) ?_
        refine Own.laload hx hZ O0 1 3 rfl (by decide) (v := (.long u3)) rfl (hb hby d8_53) rfl ?_
        refine Own.lloadN hx q2 (hb hby d8_54) rfl rfl ?_
        refine Own.lcmp hx (hb hby d8_55) rfl ?_
        refine Own.ifFn hx (Own.w_ge u3 q2) (hb hby d8_56) (pcN := 59) rfl (by decide) (pcT := 68) rfl (fun hc44 => ?_) (fun hc44 => ?_)
        · refine Own.iload hx (2 : Int32) (hb hby d8_68) rfl rfl ?_
          refine Own.istore hx (2 : Int32) rfl #[.val (.ref o0), .val (.long q1), .second, .val (.long q2), .second, .val (.int (2 : Int32)), .val (.int (2 : Int32)), .val (.int (2 : Int32))] (hb hby d8_70) rfl rfl ?_
          refine Own.goto hx (hb hby d8_72) (by decide) (pc' := 9) rfl ?_
          refine Own.iload hx (2 : Int32) (hb hby d8_9) rfl rfl ?_
          refine Own.iload hx (2 : Int32) (hb hby d8_11) rfl rfl ?_
          have hc45 : ¬ ((2 : Int32) < (2 : Int32)) := by decide
          refine Own.icmpFn hx (Own.q_ge (2 : Int32) (2 : Int32)) (hb hby d8_13) (pcN := 16) rfl (by decide) (pcT := 75) rfl (fun _ => ?_) (fun q => absurd q hc45)
          refine Own.iload hx (2 : Int32) (hb hby d8_75) rfl rfl ?_
          have hc47 : (0 : Int32) < (2 : Int32) := by decide
          refine Own.ifFn hx (Own.z_le (2 : Int32)) (hb hby d8_77) (pcN := 80) rfl (by decide) (pcT := 97) rfl (fun q => absurd hc47 q) (fun _ => ?_)
          refine Own.aloadN hx (.ref o0) (hb hby d8_80) rfl rfl rfl ?_
          refine Own.getfield hx hZ hown O0 0 0 rfl rfl (hw _ (List.mem_of_getElem? (i := 15) rfl)) (hb hby d8_81) rfl ?_
          refine Own.aloadN hx (.ref o0) (hb hby d8_84) rfl rfl rfl ?_
          refine Own.getfield hx hZ hown O0 0 5 rfl rfl (hw _ (List.mem_of_getElem? (i := 34) rfl)) (hb hby d8_85) rfl ?_
          refine Own.iload hx (2 : Int32) (hb hby d8_88) rfl rfl ?_
          refine Own.iadd hx (hb hby d8_90) rfl ?_
          refine Own.vI (3 : Int32) (by decide) ?_
          refine Own.iconst hx (1 : Int32) (hb hby d8_91) rfl (by decide) ?_
          refine Own.isub hx (hb hby d8_92) rfl ?_
          refine Own.vI (2 : Int32) (by decide) ?_
          refine Own.laload hx hZ O0 1 2 rfl (by decide) (v := (.long u2)) rfl (hb hby d8_93) rfl ?_
          refine Own.goto hx (hb hby d8_94) (by decide) (pc' := 100) rfl ?_
          exact Own.retL hx hret hlk (hb hby d8_100) (by decide) (by decide) ⟨by simp only [fLG1, if_neg hc3, if_pos hc20, if_neg hc39, if_neg hc44], rfl⟩
        · refine Own.iload hx (2 : Int32) (hb hby d8_59) rfl rfl ?_
          refine Own.iconst hx (1 : Int32) (hb hby d8_61) rfl (by decide) ?_
          refine Own.iadd hx (hb hby d8_62) rfl ?_
          refine Own.vI (3 : Int32) (by decide) ?_
          refine Own.istore hx (3 : Int32) rfl #[.val (.ref o0), .val (.long q1), .second, .val (.long q2), .second, .val (.int (3 : Int32)), .val (.int (3 : Int32)), .val (.int (2 : Int32))] (hb hby d8_63) rfl rfl ?_
          refine Own.goto hx (hb hby d8_65) (by decide) (pc' := 72) rfl ?_
          refine Own.goto hx (hb hby d8_72) (by decide) (pc' := 9) rfl ?_
          refine Own.iload hx (3 : Int32) (hb hby d8_9) rfl rfl ?_
          refine Own.iload hx (3 : Int32) (hb hby d8_11) rfl rfl ?_
          have hc49 : ¬ ((3 : Int32) < (3 : Int32)) := by decide
          refine Own.icmpFn hx (Own.q_ge (3 : Int32) (3 : Int32)) (hb hby d8_13) (pcN := 16) rfl (by decide) (pcT := 75) rfl (fun _ => ?_) (fun q => absurd q hc49)
          refine Own.iload hx (3 : Int32) (hb hby d8_75) rfl rfl ?_
          have hc51 : (0 : Int32) < (3 : Int32) := by decide
          refine Own.ifFn hx (Own.z_le (3 : Int32)) (hb hby d8_77) (pcN := 80) rfl (by decide) (pcT := 97) rfl (fun q => absurd hc51 q) (fun _ => ?_)
          refine Own.aloadN hx (.ref o0) (hb hby d8_80) rfl rfl rfl ?_
          refine Own.getfield hx hZ hown O0 0 0 rfl rfl (hw _ (List.mem_of_getElem? (i := 15) rfl)) (hb hby d8_81) rfl ?_
          refine Own.aloadN hx (.ref o0) (hb hby d8_84) rfl rfl rfl ?_
          refine Own.getfield hx hZ hown O0 0 5 rfl rfl (hw _ (List.mem_of_getElem? (i := 34) rfl)) (hb hby d8_85) rfl ?_
          refine Own.iload hx (3 : Int32) (hb hby d8_88) rfl rfl ?_
          refine Own.iadd hx (hb hby d8_90) rfl ?_
          refine Own.vI (4 : Int32) (by decide) ?_
          refine Own.iconst hx (1 : Int32) (hb hby d8_91) rfl (by decide) ?_
          refine Own.isub hx (hb hby d8_92) rfl ?_
          refine Own.vI (3 : Int32) (by decide) ?_
          refine Own.laload hx hZ O0 1 3 rfl (by decide) (v := (.long u3)) rfl (hb hby d8_93) rfl ?_
          refine Own.goto hx (hb hby d8_94) (by decide) (pc' := 100) rfl ?_
          exact Own.retL hx hret hlk (hb hby d8_100) (by decide) (by decide) ⟨by simp only [fLG1, if_neg hc3, if_pos hc20, if_neg hc39, if_pos hc44], rfl⟩

def fLG2 (q1 q2 u0 u1 u2 u3 t0 t1 t2 t3 : Int64) : Int64 := (if q1 < t3 then (if q1 < t2 then (-9223372036854775808 : Int64) else (if u2 < q2 then u2 else (-9223372036854775808 : Int64))) else (if u3 < q2 then u3 else (if q1 < t2 then (-9223372036854775808 : Int64) else (if u2 < q2 then u2 else (-9223372036854775808 : Int64)))))
theorem ef8_2 (m : MethodId) (o0 : Addr) (q1 : Int64) (q2 : Int64) : entryFrame m #[(.ref o0), (.long q1), (.long q2)] 8 = mkF m 0 #[.val (.ref o0), .val (.long q1), .second, .val (.long q2), .second, .unset, .unset, .unset] [] := by first | (simp [entryFrame, mkF, argsToLocals, Value.category]; done) | rfl
set_option maxRecDepth 65536 in
set_option maxHeartbeats 40000000 in
theorem rm8_2 (l : Launch) (Z : State) (a0 : Array Value) (hw : ∀ d ∈ tables_1, d.before a0 Z = true) (o0 : Addr) (q1 : Int64) (q2 : Int64) (h0 : Heap) (n0 : Nat) (ra rb : Addr) (u0 u1 u2 u3 u4 u5 u6 u7 u8 u9 u10 u11 u12 u13 u14 u15 t0 t1 t2 t3 t4 t5 t6 t7 t8 t9 t10 t11 t12 t13 t14 t15 : Int64) (fr : List (Addr × (Cell → Prop))) (O0 : Own.Owns n0 h0 ((o0, Own.ObjC Z "com/example/tracewarden/tracewarden/monitor/Openings" [(("com/example/tracewarden/tracewarden/monitor/Openings", "cells", "[J"), (.ref ra)), (("com/example/tracewarden/tracewarden/monitor/Openings", "inner", "[J"), (.ref rb)), (("com/example/tracewarden/tracewarden/monitor/Openings", "lastFound", "I"), (.int (-1 : Int32))), (("com/example/tracewarden/tracewarden/monitor/Openings", "foundBefore", "I"), (.int (-1 : Int32))), (("com/example/tracewarden/tracewarden/monitor/Openings", "count", "I"), (.int (2 : Int32))), (("com/example/tracewarden/tracewarden/monitor/Openings", "first", "I"), (.int (2 : Int32))), (("com/example/tracewarden/tracewarden/monitor/Openings", "times", "[Ljava/math/BigDecimal;"), .null)]) :: (ra, Own.ArrC Z .long [(.long u0), (.long u1), (.long u2), (.long u3), (.long u4), (.long u5), (.long u6), (.long u7), (.long u8), (.long u9), (.long u10), (.long u11), (.long u12), (.long u13), (.long u14), (.long u15)]) :: (rb, Own.ArrC Z .long [(.long t0), (.long t1), (.long t2), (.long t3), (.long t4), (.long t5), (.long t6), (.long t7), (.long t8), (.long t9), (.long t10), (.long t11), (.long t12), (.long t13), (.long t14), (.long t15)]) :: fr))  : Own.Does l (⟨"com/example/tracewarden/tracewarden/monitor/Openings", "lastGoingWith", "(JJ)J"⟩ : MethodName) prog_92_method_13_code 8 (some .long) [] ({ frames := 0, cells := 0, slots := 0, locals := 0 } : Room) Z #[(.ref o0), (.long q1), (.long q2)] h0 n0 (fun v h => v = some (.long (fLG2 q1 q2 u0 u1 u2 u3 t0 t1 t2 t3)) ∧ h = h0) := by
  refine Own.doesOf pn6 ?_
  intro p e s m below meth c hx hby hml hret hlk hown hnm hZ
  refine Own.Goes.cast (ef8_2 m o0 q1 q2) ?_
  refine Own.iconst hx (0 : Int32) (hb hby d8_0) rfl (by decide) ?_
  refine Own.istore hx (0 : Int32) rfl #[.val (.ref o0), .val (.long q1), .second, .val (.long q2), .second, .val (.int (0 : Int32)), .unset, .unset] (hb hby d8_1) rfl rfl ?_
  refine Own.aloadN hx (.ref o0) (hb hby d8_3) rfl rfl rfl ?_
  refine Own.getfield hx hZ hown O0 0 4 rfl rfl (hw _ (List.mem_of_getElem? (i := 28) rfl)) (hb hby d8_4) rfl ?_
  refine Own.istore hx (2 : Int32) rfl #[.val (.ref o0), .val (.long q1), .second, .val (.long q2), .second, .val (.int (0 : Int32)), .val (.int (2 : Int32)), .unset] (hb hby d8_7) rfl rfl ?_
  refine Own.iload hx (0 : Int32) (hb hby d8_9) rfl rfl ?_
  refine Own.iload hx (2 : Int32) (hb hby d8_11) rfl rfl ?_
  have hc1 : (0 : Int32) < (2 : Int32) := by decide
  refine Own.icmpFn hx (Own.q_ge (0 : Int32) (2 : Int32)) (hb hby d8_13) (pcN := 16) rfl (by decide) (pcT := 75) rfl (fun q => absurd hc1 q) (fun _ => ?_)
  refine Own.iload hx (0 : Int32) (hb hby d8_16) rfl rfl ?_
  refine Own.iload hx (2 : Int32) (hb hby d8_18) rfl rfl ?_
  refine Own.iadd hx (hb hby d8_20) rfl ?_
  refine Own.vI (2 : Int32) (by decide) ?_
  refine Own.iconst hx (1 : Int32) (hb hby d8_21) rfl (by decide) ?_
  refine Own.iushr hx (hb hby d8_22) rfl ?_
  refine Own.vI (1 : Int32) (by decide) ?_
  refine Own.istore hx (1 : Int32) rfl #[.val (.ref o0), .val (.long q1), .second, .val (.long q2), .second, .val (.int (0 : Int32)), .val (.int (2 : Int32)), .val (.int (1 : Int32))] (hb hby d8_23) rfl rfl ?_
  refine Own.aloadN hx (.ref o0) (hb hby d8_25) rfl rfl rfl ?_
  refine Own.getfield hx hZ hown O0 0 1 rfl rfl (hw _ (List.mem_of_getElem? (i := 17) rfl)) (hb hby d8_26) rfl ?_
  refine Own.aloadN hx (.ref o0) (hb hby d8_29) rfl rfl rfl ?_
  refine Own.getfield hx hZ hown O0 0 5 rfl rfl (hw _ (List.mem_of_getElem? (i := 34) rfl)) (hb hby d8_30) rfl ?_
  refine Own.iload hx (1 : Int32) (hb hby d8_33) rfl rfl ?_
  refine Own.iadd hx (hb hby d8_35) rfl ?_
  refine Own.vI (3 : Int32) (by decide) ?_
  refine Own.laload hx hZ O0 2 3 rfl (by decide) (v := (.long t3)) rfl (hb hby d8_36) rfl ?_
  refine Own.lloadN hx q1 (hb hby d8_37) rfl rfl ?_
  refine Own.lcmp hx (hb hby d8_38) rfl ?_
  refine Own.ifF hx (Own.w_gt t3 q1) (hb hby d8_39) (pcN := 42) rfl (by decide) (pcT := 68) rfl (fun hc3 => ?_) (fun hc3 => ?_)
  · refine Own.iload hx (1 : Int32) (hb hby d8_68) rfl rfl ?_
    refine Own.istore hx (1 : Int32) rfl #[.val (.ref o0), .val (.long q1), .second, .val (.long q2), .second, .val (.int (0 : Int32)), .val (.int (1 : Int32)), .val (.int (1 : Int32))] (hb hby d8_70) rfl rfl ?_
    refine Own.goto hx (hb hby d8_72) (by decide) (pc' := 9) rfl ?_
    refine Own.iload hx (0 : Int32) (hb hby d8_9) rfl rfl ?_
    refine Own.iload hx (1 : Int32) (hb hby d8_11) rfl rfl ?_
    have hc4 : (0 : Int32) < (1 : Int32) := by decide
    refine Own.icmpFn hx (Own.q_ge (0 : Int32) (1 : Int32)) (hb hby d8_13) (pcN := 16) rfl (by decide) (pcT := 75) rfl (fun q => absurd hc4 q) (fun _ => ?_)
    refine Own.iload hx (0 : Int32) (hb hby d8_16) rfl rfl ?_
    refine Own.iload hx (1 : Int32) (hb hby d8_18) rfl rfl ?_
    refine Own.iadd hx (hb hby d8_20) rfl ?_
    refine Own.vI (1 : Int32) (by decide) ?_
    refine Own.iconst hx (1 : Int32) (hb hby d8_21) rfl (by decide) ?_
    refine Own.iushr hx (hb hby d8_22) rfl ?_
    refine Own.vI (0 : Int32) (by decide) ?_
    refine Own.istore hx (0 : Int32) rfl #[.val (.ref o0), .val (.long q1), .second, .val (.long q2), .second, .val (.int (0 : Int32)), .val (.int (1 : Int32)), .val (.int (0 : Int32))] (hb hby d8_23) rfl rfl ?_
    refine Own.aloadN hx (.ref o0) (hb hby d8_25) rfl rfl rfl ?_
    refine Own.getfield hx hZ hown O0 0 1 rfl rfl (hw _ (List.mem_of_getElem? (i := 17) rfl)) (hb hby d8_26) rfl ?_
    refine Own.aloadN hx (.ref o0) (hb hby d8_29) rfl rfl rfl ?_
    refine Own.getfield hx hZ hown O0 0 5 rfl rfl (hw _ (List.mem_of_getElem? (i := 34) rfl)) (hb hby d8_30) rfl ?_
    refine Own.iload hx (0 : Int32) (hb hby d8_33) rfl rfl ?_
    refine Own.iadd hx (hb hby d8_35) rfl ?_
    refine Own.vI (2 : Int32) (by decide) ?_
    refine Own.laload hx hZ O0 2 2 rfl (by decide) (v := (.long t2)) rfl (hb hby d8_36) rfl ?_
    refine Own.lloadN hx q1 (hb hby d8_37) rfl rfl ?_
    refine Own.lcmp hx (hb hby d8_38) rfl ?_
    refine Own.ifF hx (Own.w_gt t2 q1) (hb hby d8_39) (pcN := 42) rfl (by decide) (pcT := 68) rfl (fun hc6 => ?_) (fun hc6 => ?_)
    · refine Own.iload hx (0 : Int32) (hb hby d8_68) rfl rfl ?_
      refine Own.istore hx (0 : Int32) rfl #[.val (.ref o0), .val (.long q1), .second, .val (.long q2), .second, .val (.int (0 : Int32)), .val (.int (0 : Int32)), .val (.int (0 : Int32))] (hb hby d8_70) rfl rfl ?_
      refine Own.goto hx (hb hby d8_72) (by decide) (pc' := 9) rfl ?_
      refine Own.iload hx (0 : Int32) (hb hby d8_9) rfl rfl ?_
      refine Own.iload hx (0 : Int32) (hb hby d8_11) rfl rfl ?_
      have hc7 : ¬ ((0 : Int32) < (0 : Int32)) := by decide
      refine Own.icmpFn hx (Own.q_ge (0 : Int32) (0 : Int32)) (hb hby d8_13) (pcN := 16) rfl (by decide) (pcT := 75) rfl (fun _ => ?_) (fun q => absurd q hc7)
      refine Own.iload hx (0 : Int32) (hb hby d8_75) rfl rfl ?_
      have hc9 : ¬ ((0 : Int32) < (0 : Int32)) := by decide
      refine Own.ifFn hx (Own.z_le (0 : Int32)) (hb hby d8_77) (pcN := 80) rfl (by decide) (pcT := 97) rfl (fun _ => ?_) (fun q => absurd q hc9)
      refine Own.ldc2 hx hZ hown (-9223372036854775808 : Int64) (hb hby d8_97) rfl (hw _ (List.mem_of_getElem? (i := 52) rfl)) ?_
      exact Own.retL hx hret hlk (hb hby d8_100) (by decide) (by decide) ⟨by simp only [fLG2, if_pos hc3, if_pos hc6], rfl⟩
    · refine Own.aloadN hx (.ref o0) (hb hby d8_42) rfl rfl rfl ?_
      refine Own.getfield hx hZ hown O0 0 0 rfl rfl (hw _ (List.mem_of_getElem? (i := 15) rfl)) (hb hby d8_43) rfl ?_
      refine Own.aloadN hx (.ref o0) (hb hby d8_46) rfl rfl rfl ?_
      refine Own.getfield hx hZ hown O0 0 5 rfl rfl (hw _ (List.mem_of_getElem? (i := 34) rfl)) (hb hby d8_47) rfl ?_
      refine Own.iload hx (0 : Int32) (hb hby d8_50) rfl rfl ?_
      refine Own.iadd hx (hb hby d8_52) rfl ?_
      refine Own.vI (2 : Int32) (by decide) ?_
      refine Own.laload hx hZ O0 1 2 rfl (by decide) (v := (.long u2)) rfl (hb hby d8_53) rfl ?_
      refine Own.lloadN hx q2 (hb hby d8_54) rfl rfl ?_
      refine Own.lcmp hx (hb hby d8_55) rfl ?_
      refine Own.ifFn hx (Own.w_ge u2 q2) (hb hby d8_56) (pcN := 59) rfl (by decide) (pcT := 68) rfl (fun hc11 => ?_) (fun hc11 => ?_)
      · refine Own.iload hx (0 : Int32) (hb hby d8_68) rfl rfl ?_
        refine Own.istore hx (0 : Int32) rfl #[.val (.ref o0), .val (.long q1), .second, .val (.long q2), .second, .val (.int (0 : Int32)), .val (.int (0 : Int32)), .val (.int (0 : Int32))] (hb hby d8_70) rfl rfl ?_
        refine Own.goto hx (hb hby d8_72) (by decide) (pc' := 9) rfl ?_
        refine Own.iload hx (0 : Int32) (hb hby d8_9) rfl rfl ?_
        refine Own.iload hx (0 : Int32) (hb hby d8_11) rfl rfl ?_
        have hc12 : ¬ ((0 : Int32) < (0 : Int32)) := by decide
        refine Own.icmpFn hx (Own.q_ge (0 : Int32) (0 : Int32)) (hb hby d8_13) (pcN := 16) rfl (by decide) (pcT := 75) rfl (fun _ => ?_) (fun q => absurd q hc12)
        refine Own.iload hx (0 : Int32) (hb hby d8_75) rfl rfl ?_
        have hc14 : ¬ ((0 : Int32) < (0 : Int32)) := by decide
        refine Own.ifFn hx (Own.z_le (0 : Int32)) (hb hby d8_77) (pcN := 80) rfl (by decide) (pcT := 97) rfl (fun _ => ?_) (fun q => absurd q hc14)
        refine Own.ldc2 hx hZ hown (-9223372036854775808 : Int64) (hb hby d8_97) rfl (hw _ (List.mem_of_getElem? (i := 52) rfl)) ?_
        exact Own.retL hx hret hlk (hb hby d8_100) (by decide) (by decide) ⟨by simp only [fLG2, if_pos hc3, if_neg hc6, if_neg hc11], rfl⟩
      · refine Own.iload hx (0 : Int32) (hb hby d8_59) rfl rfl ?_
        refine Own.iconst hx (1 : Int32) (hb hby d8_61) rfl (by decide) ?_
        refine Own.iadd hx (hb hby d8_62) rfl ?_
        refine Own.vI (1 : Int32) (by decide) ?_
        refine Own.istore hx (1 : Int32) rfl #[.val (.ref o0), .val (.long q1), .second, .val (.long q2), .second, .val (.int (1 : Int32)), .val (.int (1 : Int32)), .val (.int (0 : Int32))] (hb hby d8_63) rfl rfl ?_
        refine Own.goto hx (hb hby d8_65) (by decide) (pc' := 72) rfl ?_
        refine Own.goto hx (hb hby d8_72) (by decide) (pc' := 9) rfl ?_
        refine Own.iload hx (1 : Int32) (hb hby d8_9) rfl rfl ?_
        refine Own.iload hx (1 : Int32) (hb hby d8_11) rfl rfl ?_
        have hc16 : ¬ ((1 : Int32) < (1 : Int32)) := by decide
        refine Own.icmpFn hx (Own.q_ge (1 : Int32) (1 : Int32)) (hb hby d8_13) (pcN := 16) rfl (by decide) (pcT := 75) rfl (fun _ => ?_) (fun q => absurd q hc16)
        refine Own.iload hx (1 : Int32) (hb hby d8_75) rfl rfl ?_
        have hc18 : (0 : Int32) < (1 : Int32) := by decide
        refine Own.ifFn hx (Own.z_le (1 : Int32)) (hb hby d8_77) (pcN := 80) rfl (by decide) (pcT := 97) rfl (fun q => absurd hc18 q) (fun _ => ?_)
        refine Own.aloadN hx (.ref o0) (hb hby d8_80) rfl rfl rfl ?_
        refine Own.getfield hx hZ hown O0 0 0 rfl rfl (hw _ (List.mem_of_getElem? (i := 15) rfl)) (hb hby d8_81) rfl ?_
        refine Own.aloadN hx (.ref o0) (hb hby d8_84) rfl rfl rfl ?_
        refine Own.getfield hx hZ hown O0 0 5 rfl rfl (hw _ (List.mem_of_getElem? (i := 34) rfl)) (hb hby d8_85) rfl ?_
        refine Own.iload hx (1 : Int32) (hb hby d8_88) rfl rfl ?_
        refine Own.iadd hx (hb hby d8_90) rfl ?_
        refine Own.vI (3 : Int32) (by decide) ?_
        refine Own.iconst hx (1 : Int32) (hb hby d8_91) rfl (by decide) ?_
        refine Own.isub hx (hb hby d8_92) rfl ?_
        refine Own.vI (2 : Int32) (by decide) ?_
        refine Own.laload hx hZ O0 1 2 rfl (by decide) (v := (.long u2)) rfl (hb hby d8_93) rfl ?_
        refine Own.goto hx (hb hby d8_94) (by decide) (pc' := 100) rfl ?_
        exact Own.retL hx hret hlk (hb hby d8_100) (by decide) (by decide) ⟨by simp only [fLG2, if_pos hc3, if_neg hc6, if_pos hc11], rfl⟩
  · refine Own.aloadN hx (.ref o0) (hb hby d8_42) rfl rfl rfl ?_
    refine Own.getfield hx hZ hown O0 0 0 rfl rfl (hw _ (List.mem_of_getElem? (i := 15) rfl)) (hb hby d8_43) rfl ?_
    refine Own.aloadN hx (.ref o0) (hb hby d8_46) rfl rfl rfl ?_
    refine Own.getfield hx hZ hown O0 0 5 rfl rfl (hw _ (List.mem_of_getElem? (i := 34) rfl)) (hb hby d8_47) rfl ?_
    refine Own.iload hx (1 : Int32) (hb hby d8_50) rfl rfl ?_
    refine Own.iadd hx (hb hby d8_52) rfl ?_
    refine Own.vI (3 : Int32) (by decide) ?_
    refine Own.laload hx hZ O0 1 3 rfl (by decide) (v := (.long u3)) rfl (hb hby d8_53) rfl ?_
    refine Own.lloadN hx q2 (hb hby d8_54) rfl rfl ?_
    refine Own.lcmp hx (hb hby d8_55) rfl ?_
    refine Own.ifFn hx (Own.w_ge u3 q2) (hb hby d8_56) (pcN := 59) rfl (by decide) (pcT := 68) rfl (fun hc20 => ?_) (fun hc20 => ?_)
    · refine Own.iload hx (1 : Int32) (hb hby d8_68) rfl rfl ?_
      refine Own.istore hx (1 : Int32) rfl #[.val (.ref o0), .val (.long q1), .second, .val (.long q2), .second, .val (.int (0 : Int32)), .val (.int (1 : Int32)), .val (.int (1 : Int32))] (hb hby d8_70) rfl rfl ?_
      refine Own.goto hx (hb hby d8_72) (by decide) (pc' := 9) rfl ?_
      refine Own.iload hx (0 : Int32) (hb hby d8_9) rfl rfl ?_
      refine Own.iload hx (1 : Int32) (hb hby d8_11) rfl rfl ?_
      have hc21 : (0 : Int32) < (1 : Int32) := by decide
      refine Own.icmpFn hx (Own.q_ge (0 : Int32) (1 : Int32)) (hb hby d8_13) (pcN := 16) rfl (by decide) (pcT := 75) rfl (fun q => absurd hc21 q) (fun _ => ?_)
      refine Own.iload hx (0 : Int32) (hb hby d8_16) rfl rfl ?_
      refine Own.iload hx (1 : Int32) (hb hby d8_18) rfl rfl ?_
      refine Own.iadd hx (hb hby d8_20) rfl ?_
      refine Own.vI (1 : Int32) (by decide) ?_
      refine Own.iconst hx (1 : Int32) (hb hby d8_21) rfl (by decide) ?_
      refine Own.iushr hx (hb hby d8_22) rfl ?_
      refine Own.vI (0 : Int32) (by decide) ?_
      refine Own.istore hx (0 : Int32) rfl #[.val (.ref o0), .val (.long q1), .second, .val (.long q2), .second, .val (.int (0 : Int32)), .val (.int (1 : Int32)), .val (.int (0 : Int32))] (hb hby d8_23) rfl rfl ?_
      refine Own.aloadN hx (.ref o0) (hb hby d8_25) rfl rfl rfl ?_
      refine Own.getfield hx hZ hown O0 0 1 rfl rfl (hw _ (List.mem_of_getElem? (i := 17) rfl)) (hb hby d8_26) rfl ?_
      refine Own.aloadN hx (.ref o0) (hb hby d8_29) rfl rfl rfl ?_
      refine Own.getfield hx hZ hown O0 0 5 rfl rfl (hw _ (List.mem_of_getElem? (i := 34) rfl)) (hb hby d8_30) rfl ?_
      refine Own.iload hx (0 : Int32) (hb hby d8_33) rfl rfl ?_
      refine Own.iadd hx (hb hby d8_35) rfl ?_
      refine Own.vI (2 : Int32) (by decide) ?_
      refine Own.laload hx hZ O0 2 2 rfl (by decide) (v := (.long t2)) rfl (hb hby d8_36) rfl ?_
      refine Own.lloadN hx q1 (hb hby d8_37) rfl rfl ?_
      refine Own.lcmp hx (hb hby d8_38) rfl ?_
      refine Own.ifF hx (Own.w_gt t2 q1) (hb hby d8_39) (pcN := 42) rfl (by decide) (pcT := 68) rfl (fun hc23 => ?_) (fun hc23 => ?_)
      · refine Own.iload hx (0 : Int32) (hb hby d8_68) rfl rfl ?_
        refine Own.istore hx (0 : Int32) rfl #[.val (.ref o0), .val (.long q1), .second, .val (.long q2), .second, .val (.int (0 : Int32)), .val (.int (0 : Int32)), .val (.int (0 : Int32))] (hb hby d8_70) rfl rfl ?_
        refine Own.goto hx (hb hby d8_72) (by decide) (pc' := 9) rfl ?_
        refine Own.iload hx (0 : Int32) (hb hby d8_9) rfl rfl ?_
        refine Own.iload hx (0 : Int32) (hb hby d8_11) rfl rfl ?_
        have hc24 : ¬ ((0 : Int32) < (0 : Int32)) := by decide
        refine Own.icmpFn hx (Own.q_ge (0 : Int32) (0 : Int32)) (hb hby d8_13) (pcN := 16) rfl (by decide) (pcT := 75) rfl (fun _ => ?_) (fun q => absurd q hc24)
        refine Own.iload hx (0 : Int32) (hb hby d8_75) rfl rfl ?_
        have hc26 : ¬ ((0 : Int32) < (0 : Int32)) := by decide
        refine Own.ifFn hx (Own.z_le (0 : Int32)) (hb hby d8_77) (pcN := 80) rfl (by decide) (pcT := 97) rfl (fun _ => ?_) (fun q => absurd q hc26)
        refine Own.ldc2 hx hZ hown (-9223372036854775808 : Int64) (hb hby d8_97) rfl (hw _ (List.mem_of_getElem? (i := 52) rfl)) ?_
        exact Own.retL hx hret hlk (hb hby d8_100) (by decide) (by decide) ⟨by simp only [fLG2, if_neg hc3, if_neg hc20, if_pos hc23], rfl⟩
      · refine Own.aloadN hx (.ref o0) (hb hby d8_42) rfl rfl rfl ?_
        refine Own.getfield hx hZ hown O0 0 0 rfl rfl (hw _ (List.mem_of_getElem? (i := 15) rfl)) (hb hby d8_43) rfl ?_
        refine Own.aloadN hx (.ref o0) (hb hby d8_46) rfl rfl rfl ?_
        refine Own.getfield hx hZ hown O0 0 5 rfl rfl (hw _ (List.mem_of_getElem? (i := 34) rfl)) (hb hby d8_47) rfl ?_
        refine Own.iload hx (0 : Int32) (hb hby d8_50) rfl rfl ?_
        refine Own.iadd hx (hb hby d8_52) rfl ?_
        refine Own.vI (2 : Int32) (by decide) ?_
        refine Own.laload hx hZ O0 1 2 rfl (by decide) (v := (.long u2)) rfl (hb hby d8_53) rfl ?_
        refine Own.lloadN hx q2 (hb hby d8_54) rfl rfl ?_
        refine Own.lcmp hx (hb hby d8_55) rfl ?_
        refine Own.ifFn hx (Own.w_ge u2 q2) (hb hby d8_56) (pcN := 59) rfl (by decide) (pcT := 68) rfl (fun hc28 => ?_) (fun hc28 => ?_)
        · refine Own.iload hx (0 : Int32) (hb hby d8_68) rfl rfl ?_
          refine Own.istore hx (0 : Int32) rfl #[.val (.ref o0), .val (.long q1), .second, .val (.long q2), .second, .val (.int (0 : Int32)), .val (.int (0 : Int32)), .val (.int (0 : Int32))] (hb hby d8_70) rfl rfl ?_
          refine Own.goto hx (hb hby d8_72) (by decide) (pc' := 9) rfl ?_
          refine Own.iload hx (0 : Int32) (hb hby d8_9) rfl rfl ?_
          refine Own.iload hx (0 : Int32) (hb hby d8_11) rfl rfl ?_
          have hc29 : ¬ ((0 : Int32) < (0 : Int32)) := by decide
          refine Own.icmpFn hx (Own.q_ge (0 : Int32) (0 : Int32)) (hb hby d8_13) (pcN := 16) rfl (by decide) (pcT := 75) rfl (fun _ => ?_) (fun q => absurd q hc29)
          refine Own.iload hx (0 : Int32) (hb hby d8_75) rfl rfl ?_
          have hc31 : ¬ ((0 : Int32) < (0 : Int32)) := by decide
          refine Own.ifFn hx (Own.z_le (0 : Int32)) (hb hby d8_77) (pcN := 80) rfl (by decide) (pcT := 97) rfl (fun _ => ?_) (fun q => absurd q hc31)
          refine Own.ldc2 hx hZ hown (-9223372036854775808 : Int64) (hb hby d8_97) rfl (hw _ (List.mem_of_getElem? (i := 52) rfl)) ?_
          exact Own.retL hx hret hlk (hb hby d8_100) (by decide) (by decide) ⟨by simp only [fLG2, if_neg hc3, if_neg hc20, if_neg hc23, if_neg hc28], rfl⟩
        · refine Own.iload hx (0 : Int32) (hb hby d8_59) rfl rfl ?_
          refine Own.iconst hx (1 : Int32) (hb hby d8_61) rfl (by decide) ?_
          refine Own.iadd hx (hb hby d8_62) rfl ?_
          refine Own.vI (1 : Int32) (by decide) ?_
          refine Own.istore hx (1 : Int32) rfl #[.val (.ref o0), .val (.long q1), .second, .val (.long q2), .second, .val (.int (1 : Int32)), .val (.int (1 : Int32)), .val (.int (0 : Int32))] (hb hby d8_63) rfl rfl ?_
          refine Own.goto hx (hb hby d8_65) (by decide) (pc' := 72) rfl ?_
          refine Own.goto hx (hb hby d8_72) (by decide) (pc' := 9) rfl ?_
          refine Own.iload hx (1 : Int32) (hb hby d8_9) rfl rfl ?_
          refine Own.iload hx (1 : Int32) (hb hby d8_11) rfl rfl ?_
          have hc33 : ¬ ((1 : Int32) < (1 : Int32)) := by decide
          refine Own.icmpFn hx (Own.q_ge (1 : Int32) (1 : Int32)) (hb hby d8_13) (pcN := 16) rfl (by decide) (pcT := 75) rfl (fun _ => ?_) (fun q => absurd q hc33)
          refine Own.iload hx (1 : Int32) (hb hby d8_75) rfl rfl ?_
          have hc35 : (0 : Int32) < (1 : Int32) := by decide
          refine Own.ifFn hx (Own.z_le (1 : Int32)) (hb hby d8_77) (pcN := 80) rfl (by decide) (pcT := 97) rfl (fun q => absurd hc35 q) (fun _ => ?_)
          refine Own.aloadN hx (.ref o0) (hb hby d8_80) rfl rfl rfl ?_
          refine Own.getfield hx hZ hown O0 0 0 rfl rfl (hw _ (List.mem_of_getElem? (i := 15) rfl)) (hb hby d8_81) rfl ?_
          refine Own.aloadN hx (.ref o0) (hb hby d8_84) rfl rfl rfl ?_
          refine Own.getfield hx hZ hown O0 0 5 rfl rfl (hw _ (List.mem_of_getElem? (i := 34) rfl)) (hb hby d8_85) rfl ?_
          refine Own.iload hx (1 : Int32) (hb hby d8_88) rfl rfl ?_
          refine Own.iadd hx (hb hby d8_90) rfl ?_
          refine Own.vI (3 : Int32) (by decide) ?_
          refine Own.iconst hx (1 : Int32) (hb hby d8_91) rfl (by decide) ?_
          refine Own.isub hx (hb hby d8_92) rfl ?_
          refine Own.vI (2 : Int32) (by decide) ?_
          refine Own.laload hx hZ O0 1 2 rfl (by decide) (v := (.long u2)) rfl (hb hby d8_93) rfl ?_
          refine Own.goto hx (hb hby d8_94) (by decide) (pc' := 100) rfl ?_
          exact Own.retL hx hret hlk (hb hby d8_100) (by decide) (by decide) ⟨by simp only [fLG2, if_neg hc3, if_neg hc20, if_neg hc23, if_pos hc28], rfl⟩
    · refine Own.iload hx (1 : Int32) (hb hby d8_59) rfl rfl ?_
      refine Own.iconst hx (1 : Int32) (hb hby d8_61) rfl (by decide) ?_
      refine Own.iadd hx (hb hby d8_62) rfl ?_
      refine Own.vI (2 : Int32) (by decide) ?_
      refine Own.istore hx (2 : Int32) rfl #[.val (.ref o0), .val (.long q1), .second, .val (.long q2), .second, .val (.int (2 : Int32)), .val (.int (2 : Int32)), .val (.int (1 : Int32))] (hb hby d8_63) rfl rfl ?_
      refine Own.goto hx (hb hby d8_65) (by decide) (pc' := 72) rfl ?_
      refine Own.goto hx (hb hby d8_72) (by decide) (pc' := 9) rfl ?_
      refine Own.iload hx (2 : Int32) (hb hby d8_9) rfl rfl ?_
      refine Own.iload hx (2 : Int32) (hb hby d8_11) rfl rfl ?_
      have hc37 : ¬ ((2 : Int32) < (2 : Int32)) := by decide
      refine Own.icmpFn hx (Own.q_ge (2 : Int32) (2 : Int32)) (hb hby d8_13) (pcN := 16) rfl (by decide) (pcT := 75) rfl (fun _ => ?_) (fun q => absurd q hc37)
      refine Own.iload hx (2 : Int32) (hb hby d8_75) rfl rfl ?_
      have hc39 : (0 : Int32) < (2 : Int32) := by decide
      refine Own.ifFn hx (Own.z_le (2 : Int32)) (hb hby d8_77) (pcN := 80) rfl (by decide) (pcT := 97) rfl (fun q => absurd hc39 q) (fun _ => ?_)
      refine Own.aloadN hx (.ref o0) (hb hby d8_80) rfl rfl rfl ?_
      refine Own.getfield hx hZ hown O0 0 0 rfl rfl (hw _ (List.mem_of_getElem? (i := 15) rfl)) (hb hby d8_81) rfl ?_
      refine Own.aloadN hx (.ref o0) (hb hby d8_84) rfl rfl rfl ?_
      refine Own.getfield hx hZ hown O0 0 5 rfl rfl (hw _ (List.mem_of_getElem? (i := 34) rfl)) (hb hby d8_85) rfl ?_
      refine Own.iload hx (2 : Int32) (hb hby d8_88) rfl rfl ?_
      refine Own.iadd hx (hb hby d8_90) rfl ?_
      refine Own.vI (4 : Int32) (by decide) ?_
      refine Own.iconst hx (1 : Int32) (hb hby d8_91) rfl (by decide) ?_
      refine Own.isub hx (hb hby d8_92) rfl ?_
      refine Own.vI (3 : Int32) (by decide) ?_
      refine Own.laload hx hZ O0 1 3 rfl (by decide) (v := (.long u3)) rfl (hb hby d8_93) rfl ?_
      refine Own.goto hx (hb hby d8_94) (by decide) (pc' := 100) rfl ?_
      exact Own.retL hx hret hlk (hb hby d8_100) (by decide) (by decide) ⟨by simp only [fLG2, if_neg hc3, if_pos hc20], rfl⟩

def fLG3 (q1 q2 u0 u1 u2 u3 t0 t1 t2 t3 : Int64) : Int64 := (if q1 < t3 then (-9223372036854775808 : Int64) else (if u3 < q2 then u3 else (-9223372036854775808 : Int64)))
theorem ef8_3 (m : MethodId) (o0 : Addr) (q1 : Int64) (q2 : Int64) : entryFrame m #[(.ref o0), (.long q1), (.long q2)] 8 = mkF m 0 #[.val (.ref o0), .val (.long q1), .second, .val (.long q2), .second, .unset, .unset, .unset] [] := by first | (simp [entryFrame, mkF, argsToLocals, Value.category]; done) | rfl
set_option maxRecDepth 65536 in
set_option maxHeartbeats 40000000 in
theorem rm8_3 (l : Launch) (Z : State) (a0 : Array Value) (hw : ∀ d ∈ tables_1, d.before a0 Z = true) (o0 : Addr) (q1 : Int64) (q2 : Int64) (h0 : Heap) (n0 : Nat) (ra rb : Addr) (u0 u1 u2 u3 u4 u5 u6 u7 u8 u9 u10 u11 u12 u13 u14 u15 t0 t1 t2 t3 t4 t5 t6 t7 t8 t9 t10 t11 t12 t13 t14 t15 : Int64) (fr : List (Addr × (Cell → Prop))) (O0 : Own.Owns n0 h0 ((o0, Own.ObjC Z "com/example/tracewarden/tracewarden/monitor/Openings" [(("com/example/tracewarden/tracewarden/monitor/Openings", "cells", "[J"), (.ref ra)), (("com/example/tracewarden/tracewarden/monitor/Openings", "inner", "[J"), (.ref rb)), (("com/example/tracewarden/tracewarden/monitor/Openings", "lastFound", "I"), (.int (-1 : Int32))), (("com/example/tracewarden/tracewarden/monitor/Openings", "foundBefore", "I"), (.int (-1 : Int32))), (("com/example/tracewarden/tracewarden/monitor/Openings", "count", "I"), (.int (1 : Int32))), (("com/example/tracewarden/tracewarden/monitor/Openings", "first", "I"), (.int (3 : Int32))), (("com/example/tracewarden/tracewarden/monitor/Openings", "times", "[Ljava/math/BigDecimal;"), .null)]) :: (ra, Own.ArrC Z .long [(.long u0), (.long u1), (.long u2), (.long u3), (.long u4), (.long u5), (.long u6), (.long u7), (.long u8), (.long u9), (.long u10), (.long u11), (.long u12), (.long u13), (.long u14), (.long u15)]) :: (rb, Own.ArrC Z .long [(.long t0), (.long t1), (.long t2), (.long t3), (.long t4), (.long t5), (.long t6), (.long t7), (.long t8), (.long t9), (.long t10), (.long t11), (.long t12), (.long t13), (.long t14), (.long t15)]) :: fr))  : Own.Does l (⟨"com/example/tracewarden/tracewarden/monitor/Openings", "lastGoingWith", "(JJ)J"⟩ : MethodName) prog_92_method_13_code 8 (some .long) [] ({ frames := 0, cells := 0, slots := 0, locals := 0 } : Room) Z #[(.ref o0), (.long q1), (.long q2)] h0 n0 (fun v h => v = some (.long (fLG3 q1 q2 u0 u1 u2 u3 t0 t1 t2 t3)) ∧ h = h0) := by
  refine Own.doesOf pn6 ?_
  intro p e s m below meth c hx hby hml hret hlk hown hnm hZ
  refine Own.Goes.cast (ef8_3 m o0 q1 q2) ?_
  refine Own.iconst hx (0 : Int32) (hb hby d8_0) rfl (by decide) ?_
  refine Own.istore hx (0 : Int32) rfl #[.val (.ref o0), .val (.long q1), .second, .val (.long q2), .second, .val (.int (0 : Int32)), .unset, .unset] (hb hby d8_1) rfl rfl ?_
  refine Own.aloadN hx (.ref o0) (hb hby d8_3) rfl rfl rfl ?_
  refine Own.getfield hx hZ hown O0 0 4 rfl rfl (hw _ (List.mem_of_getElem? (i := 28) rfl)) (hb hby d8_4) rfl ?_
  refine Own.istore hx (1 : Int32) rfl #[.val (.ref o0), .val (.long q1), .second, .val (.long q2), .second, .val (.int (0 : Int32)), .val (.int (1 : Int32)), .unset] (hb hby d8_7) rfl rfl ?_
  refine Own.iload hx (0 : Int32) (hb hby d8_9) rfl rfl ?_
  refine Own.iload hx (1 : Int32) (hb hby d8_11) rfl rfl ?_
  have hc1 : (0 : Int32) < (1 : Int32) := by decide
  refine Own.icmpFn hx (Own.q_ge (0 : Int32) (1 : Int32)) (hb hby d8_13) (pcN := 16) rfl (by decide) (pcT := 75) rfl (fun q => absurd hc1 q) (fun _ => ?_)
  refine Own.iload hx (0 : Int32) (hb hby d8_16) rfl rfl ?_
  refine Own.iload hx (1 : Int32) (hb hby d8_18) rfl rfl ?_
  refine Own.iadd hx (hb hby d8_20) rfl ?_
  refine Own.vI (1 : Int32) (by decide) ?_
  refine Own.iconst hx (1 : Int32) (hb hby d8_21) rfl (by decide) ?_
  refine Own.iushr hx (hb hby d8_22) rfl ?_
  refine Own.vI (0 : Int32) (by decide) ?_
  refine Own.istore hx (0 : Int32) rfl #[.val (.ref o0), .val (.long q1), .second, .val (.long q2), .second, .val (.int (0 : Int32)), .val (.int (1 : Int32)), .val (.int (0 : Int32))] (hb hby d8_23) rfl rfl ?_
  refine Own.aloadN hx (.ref o0) (hb hby d8_25) rfl rfl rfl ?_
  refine Own.getfield hx hZ hown O0 0 1 rfl rfl (hw _ (List.mem_of_getElem? (i := 17) rfl)) (hb hby d8_26) rfl ?_
  refine Own.aloadN hx (.ref o0) (hb hby d8_29) rfl rfl rfl ?_
  refine Own.getfield hx hZ hown O0 0 5 rfl rfl (hw _ (List.mem_of_getElem? (i := 34) rfl)) (hb hby d8_30) rfl ?_
  refine Own.iload hx (0 : Int32) (hb hby d8_33) rfl rfl ?_
  refine Own.iadd hx (hb hby d8_35) rfl ?_
  refine Own.vI (3 : Int32) (by decide) ?_
  refine Own.laload hx hZ O0 2 3 rfl (by decide) (v := (.long t3)) rfl (hb hby d8_36) rfl ?_
  refine Own.lloadN hx q1 (hb hby d8_37) rfl rfl ?_
  refine Own.lcmp hx (hb hby d8_38) rfl ?_
  refine Own.ifF hx (Own.w_gt t3 q1) (hb hby d8_39) (pcN := 42) rfl (by decide) (pcT := 68) rfl (fun hc3 => ?_) (fun hc3 => ?_)
  · refine Own.iload hx (0 : Int32) (hb hby d8_68) rfl rfl ?_
    refine Own.istore hx (0 : Int32) rfl #[.val (.ref o0), .val (.long q1), .second, .val (.long q2), .second, .val (.int (0 : Int32)), .val (.int (0 : Int32)), .val (.int (0 : Int32))] (hb hby d8_70) rfl rfl ?_
    refine Own.goto hx (hb hby d8_72) (by decide) (pc' := 9) rfl ?_
    refine Own.iload hx (0 : Int32) (hb hby d8_9) rfl rfl ?_
    refine Own.iload hx (0 : Int32) (hb hby d8_11) rfl rfl ?_
    have hc4 : ¬ ((0 : Int32) < (0 : Int32)) := by decide
    refine Own.icmpFn hx (Own.q_ge (0 : Int32) (0 : Int32)) (hb hby d8_13) (pcN := 16) rfl (by decide) (pcT := 75) rfl (fun _ => ?_) (fun q => absurd q hc4)
    refine Own.iload hx (0 : Int32) (hb hby d8_75) rfl rfl ?_
    have hc6 : ¬ ((0 : Int32) < (0 : Int32)) := by decide
    refine Own.ifFn hx (Own.z_le (0 : Int32)) (hb hby d8_77) (pcN := 80) rfl (by decide) (pcT := 97) rfl (fun _ => ?_) (fun q => absurd q hc6)
    refine Own.ldc2 hx hZ hown (-9223372036854775808 : Int64) (hb hby d8_97) rfl (hw _ (List.mem_of_getElem? (i := 52) rfl)) ?_
    exact Own.retL hx hret hlk (hb hby d8_100) (by decide) (by decide) ⟨by simp only [fLG3, if_pos hc3], rfl⟩
  · refine Own.aloadN hx (.ref o0) (hb hby d8_42) rfl rfl rfl ?_
    refine Own.getfield hx hZ hown O0 0 0 rfl rfl (hw _ (List.mem_of_getElem? (i := 15) rfl)) (hb hby d8_43) rfl ?_
    refine Own.aloadN hx (.ref o0) (hb hby d8_46) rfl rfl rfl ?_
    refine Own.getfield hx hZ hown O0 0 5 rfl rfl (hw _ (List.mem_of_getElem? (i := 34) rfl)) (hb hby d8_47) rfl ?_
    refine Own.iload hx (0 : Int32) (hb hby d8_50) rfl rfl ?_
    refine Own.iadd hx (hb hby d8_52) rfl ?_
    refine Own.vI (3 : Int32) (by decide) ?_
    refine Own.laload hx hZ O0 1 3 rfl (by decide) (v := (.long u3)) rfl (hb hby d8_53) rfl ?_
    refine Own.lloadN hx q2 (hb hby d8_54) rfl rfl ?_
    refine Own.lcmp hx (hb hby d8_55) rfl ?_
    refine Own.ifFn hx (Own.w_ge u3 q2) (hb hby d8_56) (pcN := 59) rfl (by decide) (pcT := 68) rfl (fun hc8 => ?_) (fun hc8 => ?_)
    · refine Own.iload hx (0 : Int32) (hb hby d8_68) rfl rfl ?_
      refine Own.istore hx (0 : Int32) rfl #[.val (.ref o0), .val (.long q1), .second, .val (.long q2), .second, .val (.int (0 : Int32)), .val (.int (0 : Int32)), .val (.int (0 : Int32))] (hb hby d8_70) rfl rfl ?_
      refine Own.goto hx (hb hby d8_72) (by decide) (pc' := 9) rfl ?_
      refine Own.iload hx (0 : Int32) (hb hby d8_9) rfl rfl ?_
      refine Own.iload hx (0 : Int32) (hb hby d8_11) rfl rfl ?_
      have hc9 : ¬ ((0 : Int32) < (0 : Int32)) := by decide
      refine Own.icmpFn hx (Own.q_ge (0 : Int32) (0 : Int32)) (hb hby d8_13) (pcN := 16) rfl (by decide) (pcT := 75) rfl (fun _ => ?_) (fun q => absurd q hc9)
      refine Own.iload hx (0 : Int32) (hb hby d8_75) rfl rfl ?_
      have hc11 : ¬ ((0 : Int32) < (0 : Int32)) := by decide
      refine Own.ifFn hx (Own.z_le (0 : Int32)) (hb hby d8_77) (pcN := 80) rfl (by decide) (pcT := 97) rfl (fun _ => ?_) (fun q => absurd q hc11)
      refine Own.ldc2 hx hZ hown (-9223372036854775808 : Int64) (hb hby d8_97) rfl (hw _ (List.mem_of_getElem? (i := 52) rfl)) ?_
      exact Own.retL hx hret hlk (hb hby d8_100) (by decide) (by decide) ⟨by simp only [fLG3, if_neg hc3, if_neg hc8], rfl⟩
    · refine Own.iload hx (0 : Int32) (hb hby d8_59) rfl rfl ?_
      refine Own.iconst hx (1 : Int32) (hb hby d8_61) rfl (by decide) ?_
      refine Own.iadd hx (hb hby d8_62) rfl ?_
      refine Own.vI (1 : Int32) (by decide) ?_
      refine Own.istore hx (1 : Int32) rfl #[.val (.ref o0), .val (.long q1), .second, .val (.long q2), .second, .val (.int (1 : Int32)), .val (.int (1 : Int32)), .val (.int (0 : Int32))] (hb hby d8_63) rfl rfl ?_
      refine Own.goto hx (hb hby d8_65) (by decide) (pc' := 72) rfl ?_
      refine Own.goto hx (hb hby d8_72) (by decide) (pc' := 9) rfl ?_
      refine Own.iload hx (1 : Int32) (hb hby d8_9) rfl rfl ?_
      refine Own.iload hx (1 : Int32) (hb hby d8_11) rfl rfl ?_
      have hc13 : ¬ ((1 : Int32) < (1 : Int32)) := by decide
      refine Own.icmpFn hx (Own.q_ge (1 : Int32) (1 : Int32)) (hb hby d8_13) (pcN := 16) rfl (by decide) (pcT := 75) rfl (fun _ => ?_) (fun q => absurd q hc13)
      refine Own.iload hx (1 : Int32) (hb hby d8_75) rfl rfl ?_
      have hc15 : (0 : Int32) < (1 : Int32) := by decide
      refine Own.ifFn hx (Own.z_le (1 : Int32)) (hb hby d8_77) (pcN := 80) rfl (by decide) (pcT := 97) rfl (fun q => absurd hc15 q) (fun _ => ?_)
      refine Own.aloadN hx (.ref o0) (hb hby d8_80) rfl rfl rfl ?_
      refine Own.getfield hx hZ hown O0 0 0 rfl rfl (hw _ (List.mem_of_getElem? (i := 15) rfl)) (hb hby d8_81) rfl ?_
      refine Own.aloadN hx (.ref o0) (hb hby d8_84) rfl rfl rfl ?_
      refine Own.getfield hx hZ hown O0 0 5 rfl rfl (hw _ (List.mem_of_getElem? (i := 34) rfl)) (hb hby d8_85) rfl ?_
      refine Own.iload hx (1 : Int32) (hb hby d8_88) rfl rfl ?_
      refine Own.iadd hx (hb hby d8_90) rfl ?_
      refine Own.vI (4 : Int32) (by decide) ?_
      refine Own.iconst hx (1 : Int32) (hb hby d8_91) rfl (by decide) ?_
      refine Own.isub hx (hb hby d8_92) rfl ?_
      refine Own.vI (3 : Int32) (by decide) ?_
      refine Own.laload hx hZ O0 1 3 rfl (by decide) (v := (.long u3)) rfl (hb hby d8_93) rfl ?_
      refine Own.goto hx (hb hby d8_94) (by decide) (pc' := 100) rfl ?_
      exact Own.retL hx hret hlk (hb hby d8_100) (by decide) (by decide) ⟨by simp only [fLG3, if_neg hc3, if_pos hc8], rfl⟩

def fLG4 (q1 q2 u0 u1 u2 u3 t0 t1 t2 t3 : Int64) : Int64 := (-9223372036854775808 : Int64)
theorem ef8_4 (m : MethodId) (o0 : Addr) (q1 : Int64) (q2 : Int64) : entryFrame m #[(.ref o0), (.long q1), (.long q2)] 8 = mkF m 0 #[.val (.ref o0), .val (.long q1), .second, .val (.long q2), .second, .unset, .unset, .unset] [] := by first | (simp [entryFrame, mkF, argsToLocals, Value.category]; done) | rfl
set_option maxRecDepth 65536 in
set_option maxHeartbeats 40000000 in
theorem rm8_4 (l : Launch) (Z : State) (a0 : Array Value) (hw : ∀ d ∈ tables_1, d.before a0 Z = true) (o0 : Addr) (q1 : Int64) (q2 : Int64) (h0 : Heap) (n0 : Nat) (ra rb : Addr) (u0 u1 u2 u3 u4 u5 u6 u7 u8 u9 u10 u11 u12 u13 u14 u15 t0 t1 t2 t3 t4 t5 t6 t7 t8 t9 t10 t11 t12 t13 t14 t15 : Int64) (fr : List (Addr × (Cell → Prop))) (O0 : Own.Owns n0 h0 ((o0, Own.ObjC Z "com/example/tracewarden/tracewarden/monitor/Openings" [(("com/example/tracewarden/tracewarden/monitor/Openings", "cells", "[J"), (.ref ra)), (("com/example/tracewarden/tracewarden/monitor/Openings", "inner", "[J"), (.ref rb)), (("com/example/tracewarden/tracewarden/monitor/Openings", "lastFound", "I"), (.int (-1 : Int32))), (("com/example/tracewarden/tracewarden/monitor/Openings", "foundBefore", "I"), (.int (-1 : Int32))), (("com/example/tracewarden/tracewarden/monitor/Openings", "count", "I"), (.int (0 : Int32))), (("com/example/tracewarden/tracewarden/monitor/Openings", "first", "I"), (.int (4 : Int32))), (("com/example/tracewarden/tracewarden/monitor/Openings", "times", "[Ljava/math/BigDecimal;"), .null)]) :: (ra, Own.ArrC Z .long [(.long u0), (.long u1), (.long u2), (.long u3), (.long u4), (.long u5), (.long u6), (.long u7), (.long u8), (.long u9), (.long u10), (.long u11), (.long u12), (.long u13), (.long u14), (.long u15)]) :: (rb, Own.ArrC Z .long [(.long t0), (.long t1), (.long t2), (.long t3), (.long t4), (.long t5), (.long t6), (.long t7), (.long t8), (.long t9), (.long t10), (.long t11), (.long t12), (.long t13), (.long t14), (.long t15)]) :: fr))  : Own.Does l (⟨"com/example/tracewarden/tracewarden/monitor/Openings", "lastGoingWith", "(JJ)J"⟩ : MethodName) prog_92_method_13_code 8 (some .long) [] ({ frames := 0, cells := 0, slots := 0, locals := 0 } : Room) Z #[(.ref o0), (.long q1), (.long q2)] h0 n0 (fun v h => v = some (.long (fLG4 q1 q2 u0 u1 u2 u3 t0 t1 t2 t3)) ∧ h = h0) := by
  refine Own.doesOf pn6 ?_
  intro p e s m below meth c hx hby hml hret hlk hown hnm hZ
  refine Own.Goes.cast (ef8_4 m o0 q1 q2) ?_
  refine Own.iconst hx (0 : Int32) (hb hby d8_0) rfl (by decide) ?_
  refine Own.istore hx (0 : Int32) rfl #[.val (.ref o0), .val (.long q1), .second, .val (.long q2), .second, .val (.int (0 : Int32)), .unset, .unset] (hb hby d8_1) rfl rfl ?_
  refine Own.aloadN hx (.ref o0) (hb hby d8_3) rfl rfl rfl ?_
  refine Own.getfield hx hZ hown O0 0 4 rfl rfl (hw _ (List.mem_of_getElem? (i := 28) rfl)) (hb hby d8_4) rfl ?_
  refine Own.istore hx (0 : Int32) rfl #[.val (.ref o0), .val (.long q1), .second, .val (.long q2), .second, .val (.int (0 : Int32)), .val (.int (0 : Int32)), .unset] (hb hby d8_7) rfl rfl ?_
  refine Own.iload hx (0 : Int32) (hb hby d8_9) rfl rfl ?_
  refine Own.iload hx (0 : Int32) (hb hby d8_11) rfl rfl ?_
  have hc1 : ¬ ((0 : Int32) < (0 : Int32)) := by decide
  refine Own.icmpFn hx (Own.q_ge (0 : Int32) (0 : Int32)) (hb hby d8_13) (pcN := 16) rfl (by decide) (pcT := 75) rfl (fun _ => ?_) (fun q => absurd q hc1)
  refine Own.iload hx (0 : Int32) (hb hby d8_75) rfl rfl ?_
  have hc3 : ¬ ((0 : Int32) < (0 : Int32)) := by decide
  refine Own.ifFn hx (Own.z_le (0 : Int32)) (hb hby d8_77) (pcN := 80) rfl (by decide) (pcT := 97) rfl (fun _ => ?_) (fun q => absurd q hc3)
  refine Own.ldc2 hx hZ hown (-9223372036854775808 : Int64) (hb hby d8_97) rfl (hw _ (List.mem_of_getElem? (i := 52) rfl)) ?_
  exact Own.retL hx hret hlk (hb hby d8_100) (by decide) (by decide) ⟨by simp only [fLG4], rfl⟩

theorem own_k5 {kx p : Int32} (h : kx = (p &&& (7 : Int32)) % (5 : Int32)) : kx = 0 ∨ kx = 1 ∨ kx = 2 ∨ kx = 3 ∨ kx = 4 := by
  have M0 := (c_and p (7 : Int32) (by decide)).1
  generalize (p &&& (7 : Int32)) = y at *
  have e1 := (c_irem y 5 5 (by decide)).1 M0
  rw [← h] at e1
  have h2 : kx.toInt = 0 ∨ kx.toInt = 1 ∨ kx.toInt = 2 ∨ kx.toInt = 3 ∨ kx.toInt = 4 := by omega
  rcases h2 with q | q | q | q | q
  · exact Or.inl (Int32.toInt_inj.mp q)
  · exact Or.inr (Or.inl (Int32.toInt_inj.mp q))
  · exact Or.inr (Or.inr (Or.inl (Int32.toInt_inj.mp q)))
  · exact Or.inr (Or.inr (Or.inr (Or.inl (Int32.toInt_inj.mp q))))
  · exact Or.inr (Or.inr (Or.inr (Or.inr (Int32.toInt_inj.mp q))))
theorem own_c0 {q0 c0 : Int64} (h : c0 = (if (9223372036854775743 : Int64) < q0 then (q0 - (64 : Int64)) else q0)) : c0.toInt ≤ 9223372036854775743 := by
  have K : (9223372036854775743 : Int64).toInt = 9223372036854775743 := by decide
  have K2 : (64 : Int64).toInt = 64 := by decide
  have e := c_lsub q0 64; have r := rng64 (q0 - 64); have r0 := rng64 q0
  rw [h]; split
  · next q => have := Int64.lt_iff_toInt_lt.mp q; omega
  · next q =>
    have : ¬ (9223372036854775743 : Int64).toInt < q0.toInt := fun z => q (Int64.lt_iff_toInt_lt.mpr z)
    omega
theorem own_step {a b : Int64} {y : Int32} (h : b = (a + (y &&& (15 : Int32)).toInt64) + (1 : Int64)) (ha : a.toInt ≤ 9223372036854775791) : a.toInt < b.toInt ∧ b.toInt ≤ a.toInt + 16 := by
  obtain ⟨m0, m1⟩ := c_and y (15 : Int32) (by decide)
  have K : (15 : Int32).toInt = 15 := by decide
  have one : (1 : Int64).toInt = 1 := by decide
  have kk := c_i2l (y &&& 15)
  have e1 := c_ladd a (y &&& 15).toInt64; have e2 := c_ladd (a + (y &&& 15).toInt64) 1
  have r0 := rng64 a; have r1 := rng64 (a + (y &&& 15).toInt64); have r2 := rng64 b
  rw [← h] at e2
  omega
theorem own_stepw {a b : Int64} {y : Int32} (h : b = (a + (y &&& (15 : Int32)).toInt64)) (ha : a.toInt ≤ 9223372036854775791) : a.toInt ≤ b.toInt ∧ b.toInt ≤ a.toInt + 16 := by
  obtain ⟨m0, m1⟩ := c_and y (15 : Int32) (by decide)
  have K : (15 : Int32).toInt = 15 := by decide
  have kk := c_i2l (y &&& 15)
  have e1 := c_ladd a (y &&& 15).toInt64
  have r0 := rng64 a; have r2 := rng64 b
  rw [← h] at e1
  omega
theorem own_cs {q0 c0 c1 c2 c3 : Int64} {y1 y2 y3 : Int32} (h0 : c0 = (if (9223372036854775743 : Int64) < q0 then (q0 - (64 : Int64)) else q0)) (h1 : c1 = (c0 + (y1 &&& (15 : Int32)).toInt64) + (1 : Int64)) (h2 : c2 = (c1 + (y2 &&& (15 : Int32)).toInt64) + (1 : Int64)) (h3 : c3 = (c2 + (y3 &&& (15 : Int32)).toInt64) + (1 : Int64)) :
    c0.toInt < c1.toInt ∧ c1.toInt < c2.toInt ∧ c2.toInt < c3.toInt := by
  have a0 := own_c0 h0
  have a1 := own_step h1 (by omega); have a2 := own_step h2 (by omega); have a3 := own_step h3 (by omega)
  exact ⟨a1.1, a2.1, a3.1⟩
theorem own_cne {q0 c0 c1 c2 c3 : Int64} {y1 y2 y3 : Int32} (h0 : c0 = (if (9223372036854775743 : Int64) < q0 then (q0 - (64 : Int64)) else q0)) (h1 : c1 = (c0 + (y1 &&& (15 : Int32)).toInt64) + (1 : Int64)) (h2 : c2 = (c1 + (y2 &&& (15 : Int32)).toInt64) + (1 : Int64)) (h3 : c3 = (c2 + (y3 &&& (15 : Int32)).toInt64) + (1 : Int64)) :
    ¬ (c0 = c1) ∧ ¬ (c1 = c2) ∧ ¬ (c2 = c3) := by
  obtain ⟨a, b, c⟩ := own_cs h0 h1 h2 h3
  exact ⟨fun q => by rw [q] at a; omega, fun q => by rw [q] at b; omega, fun q => by rw [q] at c; omega⟩
theorem own_ws {q1 w0 w1 w2 w3 w0x w1x w2x w3x : Int64} {y1 y2 y3 ux : Int32} (h0 : w0 = (if (9223372036854775743 : Int64) < q1 then (q1 - (64 : Int64)) else q1)) (h1 : w1 = (w0 + (y1 &&& (15 : Int32)).toInt64)) (h2 : w2 = (w1 + (y2 &&& (15 : Int32)).toInt64)) (h3 : w3 = (w2 + (y3 &&& (15 : Int32)).toInt64))
    (g3 : w3x = (if ux < (1 : Int32) then w3 else (9223372036854775807 : Int64))) (g2 : w2x = (if ux < (2 : Int32) then w2 else (9223372036854775807 : Int64))) (g1 : w1x = (if ux < (3 : Int32) then w1 else (9223372036854775807 : Int64))) (g0 : w0x = (if ux < (4 : Int32) then w0 else (9223372036854775807 : Int64))) :
    w0x.toInt ≤ w1x.toInt ∧ w1x.toInt ≤ w2x.toInt ∧ w2x.toInt ≤ w3x.toInt := by
  have a0 := own_c0 h0
  have a1 := own_stepw h1 (by omega); have a2 := own_stepw h2 (by omega); have a3 := own_stepw h3 (by omega)
  have K : (9223372036854775807 : Int64).toInt = 9223372036854775807 := by decide
  have k1 : (1 : Int32).toInt = 1 := by decide
  have k2 : (2 : Int32).toInt = 2 := by decide
  have k3 : (3 : Int32).toInt = 3 := by decide
  have k4 : (4 : Int32).toInt = 4 := by decide
  have r0 := rng64 w0; have r1 := rng64 w1; have r2 := rng64 w2; have r3 := rng64 w3
  rw [g0, g1, g2, g3]
  simp only [Int32.lt_iff_toInt_lt, k1, k2, k3, k4]
  refine ⟨?_, ?_, ?_⟩ <;> (repeat' split) <;> omega
theorem own_ite3 {X Y : Int64} (p q : Prop) [Decidable p] [Decidable q] : (if p then X else if q then Y else X) = if (¬ p ∧ q) then Y else X := by
  by_cases hp : p <;> by_cases hq : q <;> simp [hp, hq]
/-- the four marks fall: once one fails, the later ones fail -/
theorem own_marks {a b u0 u1 u2 u3 t0 t1 t2 t3 : Int64} (hc : u0.toInt < u1.toInt ∧ u1.toInt < u2.toInt ∧ u2.toInt < u3.toInt) (hw : t0.toInt ≤ t1.toInt ∧ t1.toInt ≤ t2.toInt ∧ t2.toInt ≤ t3.toInt) :
    ((¬ a < t1 ∧ u1 < b) → (¬ a < t0 ∧ u0 < b)) ∧ ((¬ a < t2 ∧ u2 < b) → (¬ a < t1 ∧ u1 < b)) ∧ ((¬ a < t3 ∧ u3 < b) → (¬ a < t2 ∧ u2 < b)) := by
  simp only [Int64.lt_iff_toInt_lt]
  omega
theorem own_fin0 {a b u0 u1 u2 u3 t0 t1 t2 t3 got x0 x1 x2 x3 : Int64} {z : Int32} (hc : u0.toInt < u1.toInt ∧ u1.toInt < u2.toInt ∧ u2.toInt < u3.toInt) (hw : t0.toInt ≤ t1.toInt ∧ t1.toInt ≤ t2.toInt ∧ t2.toInt ≤ t3.toInt) (h_got : got = fLG0 a b u0 u1 u2 u3 t0 t1 t2 t3)
    (h0 : x0 = (if a < t0 then (-9223372036854775808 : Int64) else (if u0 < b then u0 else (-9223372036854775808 : Int64)))) (h1 : x1 = (if a < t1 then x0 else (if u1 < b then u1 else x0))) (h2 : x2 = (if a < t2 then x1 else (if u2 < b then u2 else x1))) (h3 : x3 = (if a < t3 then x2 else (if u3 < b then u3 else x2)))
    (h_z : z = if got = x3 then (1 : Int32) else (0 : Int32)) : z = 1 := by
  obtain ⟨m1, m2, m3⟩ := own_marks (a := a) (b := b) hc hw
  rw [h_z, if_pos]
  rw [h3, h2, h1, h0, h_got]
  unfold fLG0
  (try simp only [own_ite3])
  repeat' split
  all_goals first | rfl | exact absurd (m3 ‹_›) ‹_› | exact absurd (m2 ‹_›) ‹_› | exact absurd (m1 ‹_›) ‹_› | exact absurd (m2 (m3 ‹_›)) ‹_› | exact absurd (m1 (m2 ‹_›)) ‹_› | exact absurd (m1 (m2 (m3 ‹_›))) ‹_›
theorem own_fin1 {a b u0 u1 u2 u3 t0 t1 t2 t3 got x1 x2 x3 : Int64} {z : Int32} (hc : u0.toInt < u1.toInt ∧ u1.toInt < u2.toInt ∧ u2.toInt < u3.toInt) (hw : t0.toInt ≤ t1.toInt ∧ t1.toInt ≤ t2.toInt ∧ t2.toInt ≤ t3.toInt) (h_got : got = fLG1 a b u0 u1 u2 u3 t0 t1 t2 t3) (h1 : x1 = (if a < t1 then (-9223372036854775808 : Int64) else (if u1 < b then u1 else (-9223372036854775808 : Int64)))) (h2 : x2 = (if a < t2 then x1 else (if u2 < b then u2 else x1))) (h3 : x3 = (if a < t3 then x2 else (if u3 < b then u3 else x2))) (h_z : z = if got = x3 then (1 : Int32) else (0 : Int32)) : z = 1 := by
  obtain ⟨m1, m2, m3⟩ := own_marks (a := a) (b := b) hc hw
  rw [h_z, if_pos]
  rw [h3, h2, h1, h_got]
  unfold fLG1
  (try simp only [own_ite3])
  repeat' split
  all_goals first | rfl | exact absurd (m3 ‹_›) ‹_› | exact absurd (m2 ‹_›) ‹_› | exact absurd (m1 ‹_›) ‹_› | exact absurd (m2 (m3 ‹_›)) ‹_› | exact absurd (m1 (m2 ‹_›)) ‹_› | exact absurd (m1 (m2 (m3 ‹_›))) ‹_›
theorem own_fin2 {a b u0 u1 u2 u3 t0 t1 t2 t3 got x2 x3 : Int64} {z : Int32} (hc : u0.toInt < u1.toInt ∧ u1.toInt < u2.toInt ∧ u2.toInt < u3.toInt) (hw : t0.toInt ≤ t1.toInt ∧ t1.toInt ≤ t2.toInt ∧ t2.toInt ≤ t3.toInt) (h_got : got = fLG2 a b u0 u1 u2 u3 t0 t1 t2 t3) (h2 : x2 = (if a < t2 then (-9223372036854775808 : Int64) else (if u2 < b then u2 else (-9223372036854775808 : Int64)))) (h3 : x3 = (if a < t3 then x2 else (if u3 < b then u3 else x2))) (h_z : z = if got = x3 then (1 : Int32) else (0 : Int32)) : z = 1 := by
  obtain ⟨m1, m2, m3⟩ := own_marks (a := a) (b := b) hc hw
  rw [h_z, if_pos]
  rw [h3, h2, h_got]
  unfold fLG2
  (try simp only [own_ite3])
  repeat' split
  all_goals first | rfl | exact absurd (m3 ‹_›) ‹_› | exact absurd (m2 ‹_›) ‹_› | exact absurd (m1 ‹_›) ‹_› | exact absurd (m2 (m3 ‹_›)) ‹_› | exact absurd (m1 (m2 ‹_›)) ‹_› | exact absurd (m1 (m2 (m3 ‹_›))) ‹_›
theorem own_fin3 {a b u0 u1 u2 u3 t0 t1 t2 t3 got x3 : Int64} {z : Int32} (hc : u0.toInt < u1.toInt ∧ u1.toInt < u2.toInt ∧ u2.toInt < u3.toInt) (hw : t0.toInt ≤ t1.toInt ∧ t1.toInt ≤ t2.toInt ∧ t2.toInt ≤ t3.toInt) (h_got : got = fLG3 a b u0 u1 u2 u3 t0 t1 t2 t3) (h3 : x3 = (if a < t3 then (-9223372036854775808 : Int64) else (if u3 < b then u3 else (-9223372036854775808 : Int64)))) (h_z : z = if got = x3 then (1 : Int32) else (0 : Int32)) : z = 1 := by
  obtain ⟨m1, m2, m3⟩ := own_marks (a := a) (b := b) hc hw
  rw [h_z, if_pos]
  rw [h3, h_got]
  unfold fLG3
  (try simp only [own_ite3])
  repeat' split
  all_goals first | rfl | exact absurd (m3 ‹_›) ‹_› | exact absurd (m2 ‹_›) ‹_› | exact absurd (m1 ‹_›) ‹_› | exact absurd (m2 (m3 ‹_›)) ‹_› | exact absurd (m1 (m2 ‹_›)) ‹_› | exact absurd (m1 (m2 (m3 ‹_›))) ‹_›
theorem own_fin4 {a b u0 u1 u2 u3 t0 t1 t2 t3 got  : Int64} {z : Int32} (hc : u0.toInt < u1.toInt ∧ u1.toInt < u2.toInt ∧ u2.toInt < u3.toInt) (hw : t0.toInt ≤ t1.toInt ∧ t1.toInt ≤ t2.toInt ∧ t2.toInt ≤ t3.toInt) (h_got : got = fLG4 a b u0 u1 u2 u3 t0 t1 t2 t3)  (h_z : z = if got = (-9223372036854775808 : Int64) then (1 : Int32) else (0 : Int32)) : z = 1 := by
  obtain ⟨m1, m2, m3⟩ := own_marks (a := a) (b := b) hc hw
  rw [h_z, if_pos]
  rw [h_got]
  unfold fLG4
  rfl

theorem pd1 : parseMethodDescriptor "(II)I" = some ⟨[.int, .int], some .int⟩ := by decide +kernel
theorem pd2 : parseMethodDescriptor "(JJ)V" = some ⟨[.long, .long], none⟩ := by decide +kernel
theorem pd3 : parseMethodDescriptor "(I)V" = some ⟨[.int], none⟩ := by decide +kernel
theorem pd4 : parseMethodDescriptor "(JJ)J" = some ⟨[.long, .long], some .long⟩ := by decide +kernel
theorem pn7 : plainFor (⟨"com/example/tracewarden/tracewarden/monitor/OpeningsLastGoingWithPinLaw", "law", "(JJJJI)Z"⟩ : MethodName) = true := by first | exact plainFor_of_name (by simp [plainName, overriddenIn]; done) | decide +kernel
theorem ef0 (m : MethodId) (q0 : Int64) (q1 : Int64) (q2 : Int64) (q3 : Int64) (p4 : Int32) : entryFrame m #[(.long q0), (.long q1), (.long q2), (.long q3), (.int p4)] maxLocals = mkF m 0 #[.val (.long q0), .second, .val (.long q1), .second, .val (.long q2), .second, .val (.long q3), .second, .val (.int p4), .unset, .unset, .unset, .unset, .unset, .unset, .unset, .unset, .unset, .unset, .unset, .unset, .unset, .unset, .unset, .unset, .unset, .unset, .unset, .unset, .unset, .unset, .unset] [] := by first | (simp [entryFrame, mkF, argsToLocals, Value.category, maxLocals]; done) | rfl
set_option maxRecDepth 65536 in
set_option maxHeartbeats 40000000 in
theorem rm0 (l : Launch) (Z : State) (a0 : Array Value) (hw : ∀ d ∈ tables_1, d.before a0 Z = true) (q0 : Int64) (q1 : Int64) (q2 : Int64) (q3 : Int64) (p4 : Int32) (h0 : Heap) (n0 : Nat)  (O0 : Own.Owns n0 h0 ([]))  : Own.Does l x code maxLocals ret tables_1 room_1 Z #[(.long q0), (.long q1), (.long q2), (.long q3), (.int p4)] h0 n0 (fun v _ => v = some (.int 1)) := by
  refine Own.doesOf pn7 ?_
  intro p e s m below meth c hx hby hml hret hlk hown hnm hZ
  replace hml : c.maxLocals = 32 := hml
  replace hown : s.vm.findClass "com/example/tracewarden/tracewarden/monitor/OpeningsLastGoingWithPinLaw" = some m.cls := hown
  replace hret : meth.sig.returnType = (some .boolean) := hret
  refine Own.Goes.cast (ef0 m q0 q1 q2 q3 p4) ?_
  refine Own.iload hx p4 (hb hby at_0) rfl rfl ?_
  refine Own.bipush hx (7 : Int32) (hb hby at_2) rfl (by decide) ?_
  refine Own.iand hx (hb hby at_4) rfl ?_
  refine Own.iconst hx (5 : Int32) (hb hby at_5) rfl (by decide) ?_
  refine Own.irem hx (hb hby at_6) rfl (by decide) ?_
  obtain ⟨kx, h_kx⟩ : ∃ z : Int32, z = ((p4 &&& (7 : Int32)) % (5 : Int32)) := ⟨_, rfl⟩
  refine Own.istore hx kx h_kx #[.val (.long q0), .second, .val (.long q1), .second, .val (.long q2), .second, .val (.long q3), .second, .val (.int p4), .val (.int kx), .unset, .unset, .unset, .unset, .unset, .unset, .unset, .unset, .unset, .unset, .unset, .unset, .unset, .unset, .unset, .unset, .unset, .unset, .unset, .unset, .unset, .unset] (hb hby at_7) rfl rfl ?_
  refine Own.lloadN hx q0 (hb hby at_9) rfl rfl ?_
  refine Own.ldc2 hx hZ hown (9223372036854775743 : Int64) (hb hby at_10) rfl (hw _ (List.mem_of_getElem? (i := 0) rfl)) ?_
  refine Own.lcmp hx (hb hby at_13) rfl ?_
  obtain ⟨c0, h_c0⟩ : ∃ z : Int64, z = (if (9223372036854775743 : Int64) < q0 then (q0 - (64 : Int64)) else q0) := ⟨_, rfl⟩
  refine Own.Goes.join (mkF m 26 #[.val (.long q0), .second, .val (.long q1), .second, .val (.long q2), .second, .val (.long q3), .second, .val (.int p4), .val (.int kx), .unset, .unset, .unset, .unset, .unset, .unset, .unset, .unset, .unset, .unset, .unset, .unset, .unset, .unset, .unset, .unset, .unset, .unset, .unset, .unset, .unset, .unset] [(.long c0)]) (fun kJ2 => ?_) ?_
  · refine Own.ifFn hx (Own.w_le q0 (9223372036854775743 : Int64)) (hb hby at_14) (pcN := 17) rfl (by decide) (pcT := 25) rfl (fun hc1 => ?_) (fun hc1 => ?_)
    · refine Own.lloadN hx q0 (hb hby at_25) rfl rfl ?_
      try simp only [if_neg hc1] at h_c0
      subst h_c0
      exact kJ2
    · refine Own.lloadN hx q0 (hb hby at_17) rfl rfl ?_
      refine Own.ldc2 hx hZ hown (64 : Int64) (hb hby at_18) rfl (hw _ (List.mem_of_getElem? (i := 55) rfl)) ?_
      refine Own.lsub hx (hb hby at_21) rfl ?_
      refine Own.goto hx (hb hby at_22) (by decide) (pc' := 26) rfl ?_
      try simp only [if_pos hc1] at h_c0
      subst h_c0
      exact kJ2
  refine Own.lstore hx c0 rfl #[.val (.long q0), .second, .val (.long q1), .second, .val (.long q2), .second, .val (.long q3), .second, .val (.int p4), .val (.int kx), .val (.long c0), .second, .unset, .unset, .unset, .unset, .unset, .unset, .unset, .unset, .unset, .unset, .unset, .unset, .unset, .unset, .unset, .unset, .unset, .unset, .unset, .unset] (hb hby at_26) rfl rfl ?_
  refine Own.lload hx c0 (hb hby at_28) rfl rfl ?_
  refine Own.iload hx p4 (hb hby at_30) rfl rfl ?_
  refine Own.iconst hx (3 : Int32) (hb hby at_32) rfl (by decide) ?_
  refine Own.iushr hx (hb hby at_33) rfl ?_
  refine Own.bipush hx (15 : Int32) (hb hby at_34) rfl (by decide) ?_
  refine Own.iand hx (hb hby at_36) rfl ?_
  refine Own.i2l hx (hb hby at_37) rfl ?_
  refine Own.ladd hx (hb hby at_38) rfl ?_
  refine Own.lconst hx (1 : Int64) (hb hby at_39) rfl (by decide) ?_
  refine Own.ladd hx (hb hby at_40) rfl ?_
  obtain ⟨c1, h_c1⟩ : ∃ z : Int64, z = ((c0 + ((p4.toUInt32 >>> ((3 : Int32) &&& 31).toUInt32).toInt32 &&& (15 : Int32)).toInt64) + (1 : Int64)) := ⟨_, rfl⟩
  refine Own.lstore hx c1 h_c1 #[.val (.long q0), .second, .val (.long q1), .second, .val (.long q2), .second, .val (.long q3), .second, .val (.int p4), .val (.int kx), .val (.long c0), .second, .val (.long c1), .second, .unset, .unset, .unset, .unset, .unset, .unset, .unset, .unset, .unset, .unset, .unset, .unset, .unset, .unset, .unset, .unset, .unset, .unset] (hb hby at_41) rfl rfl ?_
  refine Own.lload hx c1 (hb hby at_43) rfl rfl ?_
  refine Own.iload hx p4 (hb hby at_45) rfl rfl ?_
  refine Own.bipush hx (7 : Int32) (hb hby at_47) rfl (by decide) ?_
  refine Own.iushr hx (hb hby at_49) rfl ?_
  refine Own.bipush hx (15 : Int32) (hb hby at_50) rfl (by decide) ?_
  refine Own.iand hx (hb hby at_52) rfl ?_
  refine Own.i2l hx (hb hby at_53) rfl ?_
  refine Own.ladd hx (hb hby at_54) rfl ?_
  refine Own.lconst hx (1 : Int64) (hb hby at_55) rfl (by decide) ?_
  refine Own.ladd hx (hb hby at_56) rfl ?_
  obtain ⟨c2, h_c2⟩ : ∃ z : Int64, z = ((c1 + ((p4.toUInt32 >>> ((7 : Int32) &&& 31).toUInt32).toInt32 &&& (15 : Int32)).toInt64) + (1 : Int64)) := ⟨_, rfl⟩
  refine Own.lstore hx c2 h_c2 #[.val (.long q0), .second, .val (.long q1), .second, .val (.long q2), .second, .val (.long q3), .second, .val (.int p4), .val (.int kx), .val (.long c0), .second, .val (.long c1), .second, .val (.long c2), .second, .unset, .unset, .unset, .unset, .unset, .unset, .unset, .unset, .unset, .unset, .unset, .unset, .unset, .unset, .unset, .unset] (hb hby at_57) rfl rfl ?_
  refine Own.lload hx c2 (hb hby at_59) rfl rfl ?_
  refine Own.iload hx p4 (hb hby at_61) rfl rfl ?_
  refine Own.bipush hx (11 : Int32) (hb hby at_63) rfl (by decide) ?_
  refine Own.iushr hx (hb hby at_65) rfl ?_
  refine Own.bipush hx (15 : Int32) (hb hby at_66) rfl (by decide) ?_
  refine Own.iand hx (hb hby at_68) rfl ?_
  refine Own.i2l hx (hb hby at_69) rfl ?_
  refine Own.ladd hx (hb hby at_70) rfl ?_
  refine Own.lconst hx (1 : Int64) (hb hby at_71) rfl (by decide) ?_
  refine Own.ladd hx (hb hby at_72) rfl ?_
  obtain ⟨c3, h_c3⟩ : ∃ z : Int64, z = ((c2 + ((p4.toUInt32 >>> ((11 : Int32) &&& 31).toUInt32).toInt32 &&& (15 : Int32)).toInt64) + (1 : Int64)) := ⟨_, rfl⟩
  refine Own.lstore hx c3 h_c3 #[.val (.long q0), .second, .val (.long q1), .second, .val (.long q2), .second, .val (.long q3), .second, .val (.int p4), .val (.int kx), .val (.long c0), .second, .val (.long c1), .second, .val (.long c2), .second, .val (.long c3), .second, .unset, .unset, .unset, .unset, .unset, .unset, .unset, .unset, .unset, .unset, .unset, .unset, .unset, .unset] (hb hby at_73) rfl rfl ?_
  refine Own.lloadN hx q1 (hb hby at_75) rfl rfl ?_
  refine Own.ldc2 hx hZ hown (9223372036854775743 : Int64) (hb hby at_76) rfl (hw _ (List.mem_of_getElem? (i := 0) rfl)) ?_
  refine Own.lcmp hx (hb hby at_79) rfl ?_
  obtain ⟨w0, h_w0⟩ : ∃ z : Int64, z = (if (9223372036854775743 : Int64) < q1 then (q1 - (64 : Int64)) else q1) := ⟨_, rfl⟩
  refine Own.Goes.join (mkF m 92 #[.val (.long q0), .second, .val (.long q1), .second, .val (.long q2), .second, .val (.long q3), .second, .val (.int p4), .val (.int kx), .val (.long c0), .second, .val (.long c1), .second, .val (.long c2), .second, .val (.long c3), .second, .unset, .unset, .unset, .unset, .unset, .unset, .unset, .unset, .unset, .unset, .unset, .unset, .unset, .unset] [(.long w0)]) (fun kJ4 => ?_) ?_
  · refine Own.ifFn hx (Own.w_le q1 (9223372036854775743 : Int64)) (hb hby at_80) (pcN := 83) rfl (by decide) (pcT := 91) rfl (fun hc3 => ?_) (fun hc3 => ?_)
    · refine Own.lloadN hx q1 (hb hby at_91) rfl rfl ?_
      try simp only [if_neg hc3] at h_w0
      subst h_w0
      exact kJ4
    · refine Own.lloadN hx q1 (hb hby at_83) rfl rfl ?_
      refine Own.ldc2 hx hZ hown (64 : Int64) (hb hby at_84) rfl (hw _ (List.mem_of_getElem? (i := 55) rfl)) ?_
      refine Own.lsub hx (hb hby at_87) rfl ?_
      refine Own.goto hx (hb hby at_88) (by decide) (pc' := 92) rfl ?_
      try simp only [if_pos hc3] at h_w0
      subst h_w0
      exact kJ4
  refine Own.lstore hx w0 rfl #[.val (.long q0), .second, .val (.long q1), .second, .val (.long q2), .second, .val (.long q3), .second, .val (.int p4), .val (.int kx), .val (.long c0), .second, .val (.long c1), .second, .val (.long c2), .second, .val (.long c3), .second, .val (.long w0), .second, .unset, .unset, .unset, .unset, .unset, .unset, .unset, .unset, .unset, .unset, .unset, .unset] (hb hby at_92) rfl rfl ?_
  refine Own.lload hx w0 (hb hby at_94) rfl rfl ?_
  refine Own.iload hx p4 (hb hby at_96) rfl rfl ?_
  refine Own.bipush hx (15 : Int32) (hb hby at_98) rfl (by decide) ?_
  refine Own.iushr hx (hb hby at_100) rfl ?_
  refine Own.bipush hx (15 : Int32) (hb hby at_101) rfl (by decide) ?_
  refine Own.iand hx (hb hby at_103) rfl ?_
  refine Own.i2l hx (hb hby at_104) rfl ?_
  refine Own.ladd hx (hb hby at_105) rfl ?_
  obtain ⟨w1, h_w1⟩ : ∃ z : Int64, z = (w0 + ((p4.toUInt32 >>> ((15 : Int32) &&& 31).toUInt32).toInt32 &&& (15 : Int32)).toInt64) := ⟨_, rfl⟩
  refine Own.lstore hx w1 h_w1 #[.val (.long q0), .second, .val (.long q1), .second, .val (.long q2), .second, .val (.long q3), .second, .val (.int p4), .val (.int kx), .val (.long c0), .second, .val (.long c1), .second, .val (.long c2), .second, .val (.long c3), .second, .val (.long w0), .second, .val (.long w1), .second, .unset, .unset, .unset, .unset, .unset, .unset, .unset, .unset, .unset, .unset] (hb hby at_106) rfl rfl ?_
  refine Own.lload hx w1 (hb hby at_108) rfl rfl ?_
  refine Own.iload hx p4 (hb hby at_110) rfl rfl ?_
  refine Own.bipush hx (19 : Int32) (hb hby at_112) rfl (by decide) ?_
  refine Own.iushr hx (hb hby at_114) rfl ?_
  refine Own.bipush hx (15 : Int32) (hb hby at_115) rfl (by decide) ?_
  refine Own.iand hx (hb hby at_117) rfl ?_
  refine Own.i2l hx (hb hby at_118) rfl ?_
  refine Own.ladd hx (hb hby at_119) rfl ?_
  obtain ⟨w2, h_w2⟩ : ∃ z : Int64, z = (w1 + ((p4.toUInt32 >>> ((19 : Int32) &&& 31).toUInt32).toInt32 &&& (15 : Int32)).toInt64) := ⟨_, rfl⟩
  refine Own.lstore hx w2 h_w2 #[.val (.long q0), .second, .val (.long q1), .second, .val (.long q2), .second, .val (.long q3), .second, .val (.int p4), .val (.int kx), .val (.long c0), .second, .val (.long c1), .second, .val (.long c2), .second, .val (.long c3), .second, .val (.long w0), .second, .val (.long w1), .second, .val (.long w2), .second, .unset, .unset, .unset, .unset, .unset, .unset, .unset, .unset] (hb hby at_120) rfl rfl ?_
  refine Own.lload hx w2 (hb hby at_122) rfl rfl ?_
  refine Own.iload hx p4 (hb hby at_124) rfl rfl ?_
  refine Own.bipush hx (23 : Int32) (hb hby at_126) rfl (by decide) ?_
  refine Own.iushr hx (hb hby at_128) rfl ?_
  refine Own.bipush hx (15 : Int32) (hb hby at_129) rfl (by decide) ?_
  refine Own.iand hx (hb hby at_131) rfl ?_
  refine Own.i2l hx (hb hby at_132) rfl ?_
  refine Own.ladd hx (hb hby at_133) rfl ?_
  obtain ⟨w3, h_w3⟩ : ∃ z : Int64, z = (w2 + ((p4.toUInt32 >>> ((23 : Int32) &&& 31).toUInt32).toInt32 &&& (15 : Int32)).toInt64) := ⟨_, rfl⟩
  refine Own.lstore hx w3 h_w3 #[.val (.long q0), .second, .val (.long q1), .second, .val (.long q2), .second, .val (.long q3), .second, .val (.int p4), .val (.int kx), .val (.long c0), .second, .val (.long c1), .second, .val (.long c2), .second, .val (.long c3), .second, .val (.long w0), .second, .val (.long w1), .second, .val (.long w2), .second, .val (.long w3), .second, .unset, .unset, .unset, .unset, .unset, .unset] (hb hby at_134) rfl rfl ?_
  refine Own.iload hx p4 (hb hby at_136) rfl rfl ?_
  refine Own.bipush hx (27 : Int32) (hb hby at_138) rfl (by decide) ?_
  refine Own.iushr hx (hb hby at_140) rfl ?_
  refine Own.bipush hx (7 : Int32) (hb hby at_141) rfl (by decide) ?_
  refine Own.iand hx (hb hby at_143) rfl ?_
  refine Own.iconst hx (4 : Int32) (hb hby at_144) rfl (by decide) ?_
  refine Own.callS hx hZ hown (hw _ (List.mem_of_getElem? (i := 1) rfl)) (hw _ (List.mem_of_getElem? (i := 2) rfl)) (hw _ (List.mem_of_getElem? (i := 3) rfl)) (hw _ (List.mem_of_getElem? (i := 4) rfl)) (by decide) pd1 (argsL := [(.int ((p4.toUInt32 >>> ((27 : Int32) &&& 31).toUInt32).toInt32 &&& (7 : Int32))), (.int (4 : Int32))]) (rest := []) rfl (W := 0) (Nat.le_of_eq rfl) (rm := ({ frames := 0, cells := 0, slots := 0, locals := 0 } : Room)) (by decide) (by decide) (by decide) (by decide) (k' := 0) (n' := 0) rfl rfl (by rw [hml]; rfl) [(.int (4 : Int32)), (.int ((p4.toUInt32 >>> ((27 : Int32) &&& 31).toUInt32).toInt32 &&& (7 : Int32)))] rfl (hb hby at_145) (pc' := 148) rfl (rm1 l Z a0 hw ((p4.toUInt32 >>> ((27 : Int32) &&& 31).toUInt32).toInt32 &&& (7 : Int32)) (4 : Int32) h0 n0) ?_
  rintro _ h' ⟨rfl, eh⟩
  rw [eh]; clear eh h'
  show Own.Goes _ _ _ _ _ _ _ _ _ _ _ _ _ _ _ _ _ (mkF m 148 #[.val (.long q0), .second, .val (.long q1), .second, .val (.long q2), .second, .val (.long q3), .second, .val (.int p4), .val (.int kx), .val (.long c0), .second, .val (.long c1), .second, .val (.long c2), .second, .val (.long c3), .second, .val (.long w0), .second, .val (.long w1), .second, .val (.long w2), .second, .val (.long w3), .second, .unset, .unset, .unset, .unset, .unset, .unset] [(.int (fMinI ((p4.toUInt32 >>> ((27 : Int32) &&& 31).toUInt32).toInt32 &&& (7 : Int32)) (4 : Int32)))])
  obtain ⟨ux, h_ux⟩ : ∃ z : Int32, z = (fMinI ((p4.toUInt32 >>> ((27 : Int32) &&& 31).toUInt32).toInt32 &&& (7 : Int32)) (4 : Int32)) := ⟨_, rfl⟩
  refine Own.istore hx ux h_ux #[.val (.long q0), .second, .val (.long q1), .second, .val (.long q2), .second, .val (.long q3), .second, .val (.int p4), .val (.int kx), .val (.long c0), .second, .val (.long c1), .second, .val (.long c2), .second, .val (.long c3), .second, .val (.long w0), .second, .val (.long w1), .second, .val (.long w2), .second, .val (.long w3), .second, .val (.int ux), .unset, .unset, .unset, .unset, .unset] (hb hby at_148) rfl rfl ?_
  refine Own.iload hx ux (hb hby at_150) rfl rfl ?_
  refine Own.iconst hx (1 : Int32) (hb hby at_152) rfl (by decide) ?_
  obtain ⟨w3x, h_w3x⟩ : ∃ z : Int64, z = (if ux < (1 : Int32) then w3 else (9223372036854775807 : Int64)) := ⟨_, rfl⟩
  refine Own.Goes.join (mkF m 161 #[.val (.long q0), .second, .val (.long q1), .second, .val (.long q2), .second, .val (.long q3), .second, .val (.int p4), .val (.int kx), .val (.long c0), .second, .val (.long c1), .second, .val (.long c2), .second, .val (.long c3), .second, .val (.long w0), .second, .val (.long w1), .second, .val (.long w2), .second, .val (.long w3x), .second, .val (.int ux), .unset, .unset, .unset, .unset, .unset] []) (fun kJ6 => ?_) ?_
  · refine Own.icmpF hx (Own.q_lt ux (1 : Int32)) (hb hby at_153) (pcN := 156) rfl (by decide) (pcT := 161) rfl (fun hc5 => ?_) (fun hc5 => ?_)
    · try simp only [if_pos hc5] at h_w3x
      subst h_w3x
      exact kJ6
    · refine Own.ldc2 hx hZ hown (9223372036854775807 : Int64) (hb hby at_156) rfl (hw _ (List.mem_of_getElem? (i := 54) rfl)) ?_
      refine Own.lstore hx (9223372036854775807 : Int64) rfl #[.val (.long q0), .second, .val (.long q1), .second, .val (.long q2), .second, .val (.long q3), .second, .val (.int p4), .val (.int kx), .val (.long c0), .second, .val (.long c1), .second, .val (.long c2), .second, .val (.long c3), .second, .val (.long w0), .second, .val (.long w1), .second, .val (.long w2), .second, .val (.long (9223372036854775807 : Int64)), .second, .val (.int ux), .unset, .unset, .unset, .unset, .unset] (hb hby at_159) rfl rfl ?_
      try simp only [if_neg hc5] at h_w3x
      subst h_w3x
      exact kJ6
  refine Own.iload hx ux (hb hby at_161) rfl rfl ?_
  refine Own.iconst hx (2 : Int32) (hb hby at_163) rfl (by decide) ?_
  obtain ⟨w2x, h_w2x⟩ : ∃ z : Int64, z = (if ux < (2 : Int32) then w2 else (9223372036854775807 : Int64)) := ⟨_, rfl⟩
  refine Own.Goes.join (mkF m 172 #[.val (.long q0), .second, .val (.long q1), .second, .val (.long q2), .second, .val (.long q3), .second, .val (.int p4), .val (.int kx), .val (.long c0), .second, .val (.long c1), .second, .val (.long c2), .second, .val (.long c3), .second, .val (.long w0), .second, .val (.long w1), .second, .val (.long w2x), .second, .val (.long w3x), .second, .val (.int ux), .unset, .unset, .unset, .unset, .unset] []) (fun kJ8 => ?_) ?_
  · refine Own.icmpF hx (Own.q_lt ux (2 : Int32)) (hb hby at_164) (pcN := 167) rfl (by decide) (pcT := 172) rfl (fun hc7 => ?_) (fun hc7 => ?_)
    · try simp only [if_pos hc7] at h_w2x
      subst h_w2x
      exact kJ8
    · refine Own.ldc2 hx hZ hown (9223372036854775807 : Int64) (hb hby at_167) rfl (hw _ (List.mem_of_getElem? (i := 54) rfl)) ?_
      refine Own.lstore hx (9223372036854775807 : Int64) rfl #[.val (.long q0), .second, .val (.long q1), .second, .val (.long q2), .second, .val (.long q3), .second, .val (.int p4), .val (.int kx), .val (.long c0), .second, .val (.long c1), .second, .val (.long c2), .second, .val (.long c3), .second, .val (.long w0), .second, .val (.long w1), .second, .val (.long (9223372036854775807 : Int64)), .second, .val (.long w3x), .second, .val (.int ux), .unset, .unset, .unset, .unset, .unset] (hb hby at_170) rfl rfl ?_
      try simp only [if_neg hc7] at h_w2x
      subst h_w2x
      exact kJ8
  refine Own.iload hx ux (hb hby at_172) rfl rfl ?_
  refine Own.iconst hx (3 : Int32) (hb hby at_174) rfl (by decide) ?_
  obtain ⟨w1x, h_w1x⟩ : ∃ z : Int64, z = (if ux < (3 : Int32) then w1 else (9223372036854775807 : Int64)) := ⟨_, rfl⟩
  refine Own.Goes.join (mkF m 183 #[.val (.long q0), .second, .val (.long q1), .second, .val (.long q2), .second, .val (.long q3), .second, .val (.int p4), .val (.int kx), .val (.long c0), .second, .val (.long c1), .second, .val (.long c2), .second, .val (.long c3), .second, .val (.long w0), .second, .val (.long w1x), .second, .val (.long w2x), .second, .val (.long w3x), .second, .val (.int ux), .unset, .unset, .unset, .unset, .unset] []) (fun kJ10 => ?_) ?_
  · refine Own.icmpF hx (Own.q_lt ux (3 : Int32)) (hb hby at_175) (pcN := 178) rfl (by decide) (pcT := 183) rfl (fun hc9 => ?_) (fun hc9 => ?_)
    · try simp only [if_pos hc9] at h_w1x
      subst h_w1x
      exact kJ10
    · refine Own.ldc2 hx hZ hown (9223372036854775807 : Int64) (hb hby at_178) rfl (hw _ (List.mem_of_getElem? (i := 54) rfl)) ?_
      refine Own.lstore hx (9223372036854775807 : Int64) rfl #[.val (.long q0), .second, .val (.long q1), .second, .val (.long q2), .second, .val (.long q3), .second, .val (.int p4), .val (.int kx), .val (.long c0), .second, .val (.long c1), .second, .val (.long c2), .second, .val (.long c3), .second, .val (.long w0), .second, .val (.long (9223372036854775807 : Int64)), .second, .val (.long w2x), .second, .val (.long w3x), .second, .val (.int ux), .unset, .unset, .unset, .unset, .unset] (hb hby at_181) rfl rfl ?_
      try simp only [if_neg hc9] at h_w1x
      subst h_w1x
      exact kJ10
  refine Own.iload hx ux (hb hby at_183) rfl rfl ?_
  refine Own.iconst hx (4 : Int32) (hb hby at_185) rfl (by decide) ?_
  obtain ⟨w0x, h_w0x⟩ : ∃ z : Int64, z = (if ux < (4 : Int32) then w0 else (9223372036854775807 : Int64)) := ⟨_, rfl⟩
  refine Own.Goes.join (mkF m 194 #[.val (.long q0), .second, .val (.long q1), .second, .val (.long q2), .second, .val (.long q3), .second, .val (.int p4), .val (.int kx), .val (.long c0), .second, .val (.long c1), .second, .val (.long c2), .second, .val (.long c3), .second, .val (.long w0x), .second, .val (.long w1x), .second, .val (.long w2x), .second, .val (.long w3x), .second, .val (.int ux), .unset, .unset, .unset, .unset, .unset] []) (fun kJ12 => ?_) ?_
  · refine Own.icmpF hx (Own.q_lt ux (4 : Int32)) (hb hby at_186) (pcN := 189) rfl (by decide) (pcT := 194) rfl (fun hc11 => ?_) (fun hc11 => ?_)
    · try simp only [if_pos hc11] at h_w0x
      subst h_w0x
      exact kJ12
    · refine Own.ldc2 hx hZ hown (9223372036854775807 : Int64) (hb hby at_189) rfl (hw _ (List.mem_of_getElem? (i := 54) rfl)) ?_
      refine Own.lstore hx (9223372036854775807 : Int64) rfl #[.val (.long q0), .second, .val (.long q1), .second, .val (.long q2), .second, .val (.long q3), .second, .val (.int p4), .val (.int kx), .val (.long c0), .second, .val (.long c1), .second, .val (.long c2), .second, .val (.long c3), .second, .val (.long (9223372036854775807 : Int64)), .second, .val (.long w1x), .second, .val (.long w2x), .second, .val (.long w3x), .second, .val (.int ux), .unset, .unset, .unset, .unset, .unset] (hb hby at_192) rfl rfl ?_
      try simp only [if_neg hc11] at h_w0x
      subst h_w0x
      exact kJ12
  refine Own.newobj hx hZ hown O0 (hw _ (List.mem_of_getElem? (i := 5) rfl)) (hw _ (List.mem_of_getElem? (i := 6) rfl)) (hw _ (List.mem_of_getElem? (i := 7) rfl)) [(("com/example/tracewarden/tracewarden/monitor/Openings", "cells", "[J"), .null), (("com/example/tracewarden/tracewarden/monitor/Openings", "inner", "[J"), .null), (("com/example/tracewarden/tracewarden/monitor/Openings", "lastFound", "I"), (.int (0 : Int32))), (("com/example/tracewarden/tracewarden/monitor/Openings", "foundBefore", "I"), (.int (0 : Int32))), (("com/example/tracewarden/tracewarden/monitor/Openings", "count", "I"), (.int (0 : Int32))), (("com/example/tracewarden/tracewarden/monitor/Openings", "first", "I"), (.int (0 : Int32))), (("com/example/tracewarden/tracewarden/monitor/Openings", "times", "[Ljava/math/BigDecimal;"), .null)] (by intro f hf; simp only [List.mem_cons, List.not_mem_nil, or_false] at hf; rcases hf with rfl | rfl | rfl | rfl | rfl | rfl | rfl; exact ⟨Or.inl (hw _ (List.mem_of_getElem? (i := 16) rfl)), (.array .long), by decide, rfl⟩; exact ⟨Or.inl (hw _ (List.mem_of_getElem? (i := 18) rfl)), (.array .long), by decide, rfl⟩; exact ⟨Or.inl (hw _ (List.mem_of_getElem? (i := 20) rfl)), .int, by decide, rfl⟩; exact ⟨Or.inl (hw _ (List.mem_of_getElem? (i := 22) rfl)), .int, by decide, rfl⟩; exact ⟨Or.inl (hw _ (List.mem_of_getElem? (i := 29) rfl)), .int, by decide, rfl⟩; exact ⟨Or.inl (hw _ (List.mem_of_getElem? (i := 35) rfl)), .int, by decide, rfl⟩; exact ⟨Or.inl (hw _ (List.mem_of_getElem? (i := 46) rfl)), (.array (.object "java/math/BigDecimal")), by decide, rfl⟩) (by decide) (k' := 1) (n' := 7) rfl rfl (by decide) (by decide) (hb hby at_194) (pc' := 197) rfl ?_
  intro a13 h14 O15
  refine Own.dup hx (hb hby at_197) rfl rfl ?_
  refine Own.callI hx hZ hown rfl (hw _ (List.mem_of_getElem? (i := 8) rfl)) (hw _ (List.mem_of_getElem? (i := 9) rfl)) (hw _ (List.mem_of_getElem? (i := 7) rfl)) (hw _ (List.mem_of_getElem? (i := 10) rfl)) (by decide) pd0 (argsL := []) (rest := [(.ref a13)]) rfl (W := 1) (Nat.le_of_eq rfl) (rm := ({ frames := 1, cells := 2, slots := 32, locals := 13 } : Room)) (by decide) (by decide) (by decide) (by decide) (k' := 3) (n' := 39) rfl rfl (by rw [hml]; rfl) [(.ref a13), (.ref a13)] rfl (hb hby at_198) (pc' := 201) rfl (rm2 l Z a0 hw a13 h14 n0 ([]) O15) ?_
  rintro _ h18 ⟨ra16, rb17, rfl, O19⟩
  show Own.Goes _ _ _ _ _ _ _ _ _ _ _ _ _ _ _ _ _ (mkF m 201 #[.val (.long q0), .second, .val (.long q1), .second, .val (.long q2), .second, .val (.long q3), .second, .val (.int p4), .val (.int kx), .val (.long c0), .second, .val (.long c1), .second, .val (.long c2), .second, .val (.long c3), .second, .val (.long w0x), .second, .val (.long w1x), .second, .val (.long w2x), .second, .val (.long w3x), .second, .val (.int ux), .unset, .unset, .unset, .unset, .unset] [(.ref a13)])
  refine Own.astore hx #[.val (.long q0), .second, .val (.long q1), .second, .val (.long q2), .second, .val (.long q3), .second, .val (.int p4), .val (.int kx), .val (.long c0), .second, .val (.long c1), .second, .val (.long c2), .second, .val (.long c3), .second, .val (.long w0x), .second, .val (.long w1x), .second, .val (.long w2x), .second, .val (.long w3x), .second, .val (.int ux), .val (.ref a13), .unset, .unset, .unset, .unset] (hb hby at_201) rfl rfl rfl ?_
  refine Own.aload hx (.ref a13) (hb hby at_203) rfl rfl rfl ?_
  refine Own.lload hx c0 (hb hby at_205) rfl rfl ?_
  refine Own.lload hx w0x (hb hby at_207) rfl rfl ?_
  refine Own.callV hx hZ hown (O19.exa (i := 0) rfl) (hw _ (List.mem_of_getElem? (i := 23) rfl)) (hw _ (List.mem_of_getElem? (i := 24) rfl)) (hw _ (List.mem_of_getElem? (i := 26) rfl)) (hw _ (List.mem_of_getElem? (i := 25) rfl)) (hw _ (List.mem_of_getElem? (i := 7) rfl)) (hw _ (List.mem_of_getElem? (i := 27) rfl)) (by decide) pd2 (argsL := [(.long c0), (.long w0x)]) (rest := []) rfl (W := 0) (Nat.le_of_eq rfl) (rm := ({ frames := 1, cells := 0, slots := 0, locals := 12 } : Room)) (by decide) (by decide) (by decide) (by decide) (k' := 3) (n' := 39) rfl rfl (by rw [hml]; rfl) [(.long w0x), (.long c0), (.ref a13)] rfl (hb hby at_209) (pc' := 212) rfl (rm4_0 l Z a0 hw a13 c0 w0x h18 n0 ra16 rb17 (0 : Int64) (0 : Int64) (0 : Int64) (0 : Int64) (0 : Int64) (0 : Int64) (0 : Int64) (0 : Int64) (0 : Int64) (0 : Int64) (0 : Int64) (0 : Int64) (0 : Int64) (0 : Int64) (0 : Int64) (0 : Int64) (0 : Int64) (0 : Int64) (0 : Int64) (0 : Int64) (0 : Int64) (0 : Int64) (0 : Int64) (0 : Int64) (0 : Int64) (0 : Int64) (0 : Int64) (0 : Int64) (0 : Int64) (0 : Int64) (0 : Int64) (0 : Int64) ([]) O19) ?_
  rintro _ h20 ⟨rfl, O21⟩
  show Own.Goes _ _ _ _ _ _ _ _ _ _ _ _ _ _ _ _ _ (mkF m 212 #[.val (.long q0), .second, .val (.long q1), .second, .val (.long q2), .second, .val (.long q3), .second, .val (.int p4), .val (.int kx), .val (.long c0), .second, .val (.long c1), .second, .val (.long c2), .second, .val (.long c3), .second, .val (.long w0x), .second, .val (.long w1x), .second, .val (.long w2x), .second, .val (.long w3x), .second, .val (.int ux), .val (.ref a13), .unset, .unset, .unset, .unset] [])
  refine Own.aload hx (.ref a13) (hb hby at_212) rfl rfl rfl ?_
  refine Own.lload hx c1 (hb hby at_214) rfl rfl ?_
  refine Own.lload hx w1x (hb hby at_216) rfl rfl ?_
  refine Own.callV hx hZ hown (O21.exa (i := 0) rfl) (hw _ (List.mem_of_getElem? (i := 23) rfl)) (hw _ (List.mem_of_getElem? (i := 24) rfl)) (hw _ (List.mem_of_getElem? (i := 26) rfl)) (hw _ (List.mem_of_getElem? (i := 25) rfl)) (hw _ (List.mem_of_getElem? (i := 7) rfl)) (hw _ (List.mem_of_getElem? (i := 27) rfl)) (by decide) pd2 (argsL := [(.long c1), (.long w1x)]) (rest := []) rfl (W := 0) (Nat.le_of_eq rfl) (rm := ({ frames := 1, cells := 0, slots := 0, locals := 12 } : Room)) (by decide) (by decide) (by decide) (by decide) (k' := 3) (n' := 39) rfl rfl (by rw [hml]; rfl) [(.long w1x), (.long c1), (.ref a13)] rfl (hb hby at_218) (pc' := 221) rfl (rm4_1 l Z a0 hw a13 c1 w1x h20 n0 ra16 rb17 c0 (0 : Int64) (0 : Int64) (0 : Int64) (0 : Int64) (0 : Int64) (0 : Int64) (0 : Int64) (0 : Int64) (0 : Int64) (0 : Int64) (0 : Int64) (0 : Int64) (0 : Int64) (0 : Int64) (0 : Int64) w0x (0 : Int64) (0 : Int64) (0 : Int64) (0 : Int64) (0 : Int64) (0 : Int64) (0 : Int64) (0 : Int64) (0 : Int64) (0 : Int64) (0 : Int64) (0 : Int64) (0 : Int64) (0 : Int64) (0 : Int64) ([]) O21 (own_cne h_c0 h_c1 h_c2 h_c3).1) ?_
  rintro _ h22 ⟨rfl, O23⟩
  show Own.Goes _ _ _ _ _ _ _ _ _ _ _ _ _ _ _ _ _ (mkF m 221 #[.val (.long q0), .second, .val (.long q1), .second, .val (.long q2), .second, .val (.long q3), .second, .val (.int p4), .val (.int kx), .val (.long c0), .second, .val (.long c1), .second, .val (.long c2), .second, .val (.long c3), .second, .val (.long w0x), .second, .val (.long w1x), .second, .val (.long w2x), .second, .val (.long w3x), .second, .val (.int ux), .val (.ref a13), .unset, .unset, .unset, .unset] [])
  refine Own.aload hx (.ref a13) (hb hby at_221) rfl rfl rfl ?_
  refine Own.lload hx c2 (hb hby at_223) rfl rfl ?_
  refine Own.lload hx w2x (hb hby at_225) rfl rfl ?_
  refine Own.callV hx hZ hown (O23.exa (i := 0) rfl) (hw _ (List.mem_of_getElem? (i := 23) rfl)) (hw _ (List.mem_of_getElem? (i := 24) rfl)) (hw _ (List.mem_of_getElem? (i := 26) rfl)) (hw _ (List.mem_of_getElem? (i := 25) rfl)) (hw _ (List.mem_of_getElem? (i := 7) rfl)) (hw _ (List.mem_of_getElem? (i := 27) rfl)) (by decide) pd2 (argsL := [(.long c2), (.long w2x)]) (rest := []) rfl (W := 0) (Nat.le_of_eq rfl) (rm := ({ frames := 1, cells := 0, slots := 0, locals := 12 } : Room)) (by decide) (by decide) (by decide) (by decide) (k' := 3) (n' := 39) rfl rfl (by rw [hml]; rfl) [(.long w2x), (.long c2), (.ref a13)] rfl (hb hby at_227) (pc' := 230) rfl (rm4_2 l Z a0 hw a13 c2 w2x h22 n0 ra16 rb17 c0 c1 (0 : Int64) (0 : Int64) (0 : Int64) (0 : Int64) (0 : Int64) (0 : Int64) (0 : Int64) (0 : Int64) (0 : Int64) (0 : Int64) (0 : Int64) (0 : Int64) (0 : Int64) (0 : Int64) w0x w1x (0 : Int64) (0 : Int64) (0 : Int64) (0 : Int64) (0 : Int64) (0 : Int64) (0 : Int64) (0 : Int64) (0 : Int64) (0 : Int64) (0 : Int64) (0 : Int64) (0 : Int64) (0 : Int64) ([]) O23 (own_cne h_c0 h_c1 h_c2 h_c3).2.1) ?_
  rintro _ h24 ⟨rfl, O25⟩
  show Own.Goes _ _ _ _ _ _ _ _ _ _ _ _ _ _ _ _ _ (mkF m 230 #[.val (.long q0), .second, .val (.long q1), .second, .val (.long q2), .second, .val (.long q3), .second, .val (.int p4), .val (.int kx), .val (.long c0), .second, .val (.long c1), .second, .val (.long c2), .second, .val (.long c3), .second, .val (.long w0x), .second, .val (.long w1x), .second, .val (.long w2x), .second, .val (.long w3x), .second, .val (.int ux), .val (.ref a13), .unset, .unset, .unset, .unset] [])
  refine Own.aload hx (.ref a13) (hb hby at_230) rfl rfl rfl ?_
  refine Own.lload hx c3 (hb hby at_232) rfl rfl ?_
  refine Own.lload hx w3x (hb hby at_234) rfl rfl ?_
  refine Own.callV hx hZ hown (O25.exa (i := 0) rfl) (hw _ (List.mem_of_getElem? (i := 23) rfl)) (hw _ (List.mem_of_getElem? (i := 24) rfl)) (hw _ (List.mem_of_getElem? (i := 26) rfl)) (hw _ (List.mem_of_getElem? (i := 25) rfl)) (hw _ (List.mem_of_getElem? (i := 7) rfl)) (hw _ (List.mem_of_getElem? (i := 27) rfl)) (by decide) pd2 (argsL := [(.long c3), (.long w3x)]) (rest := []) rfl (W := 0) (Nat.le_of_eq rfl) (rm := ({ frames := 1, cells := 0, slots := 0, locals := 12 } : Room)) (by decide) (by decide) (by decide) (by decide) (k' := 3) (n' := 39) rfl rfl (by rw [hml]; rfl) [(.long w3x), (.long c3), (.ref a13)] rfl (hb hby at_236) (pc' := 239) rfl (rm4_3 l Z a0 hw a13 c3 w3x h24 n0 ra16 rb17 c0 c1 c2 (0 : Int64) (0 : Int64) (0 : Int64) (0 : Int64) (0 : Int64) (0 : Int64) (0 : Int64) (0 : Int64) (0 : Int64) (0 : Int64) (0 : Int64) (0 : Int64) (0 : Int64) w0x w1x w2x (0 : Int64) (0 : Int64) (0 : Int64) (0 : Int64) (0 : Int64) (0 : Int64) (0 : Int64) (0 : Int64) (0 : Int64) (0 : Int64) (0 : Int64) (0 : Int64) (0 : Int64) ([]) O25 (own_cne h_c0 h_c1 h_c2 h_c3).2.2) ?_
  rintro _ h26 ⟨rfl, O27⟩
  show Own.Goes _ _ _ _ _ _ _ _ _ _ _ _ _ _ _ _ _ (mkF m 239 #[.val (.long q0), .second, .val (.long q1), .second, .val (.long q2), .second, .val (.long q3), .second, .val (.int p4), .val (.int kx), .val (.long c0), .second, .val (.long c1), .second, .val (.long c2), .second, .val (.long c3), .second, .val (.long w0x), .second, .val (.long w1x), .second, .val (.long w2x), .second, .val (.long w3x), .second, .val (.int ux), .val (.ref a13), .unset, .unset, .unset, .unset] [])
  rcases own_k5 h_kx with q | q | q | q | q
  · subst q
    refine Own.aload hx (.ref a13) (hb hby at_239) rfl rfl rfl ?_
    refine Own.iload hx (0 : Int32) (hb hby at_241) rfl rfl ?_
    refine Own.callV hx hZ hown (O27.exa (i := 0) rfl) (hw _ (List.mem_of_getElem? (i := 36) rfl)) (hw _ (List.mem_of_getElem? (i := 37) rfl)) (hw _ (List.mem_of_getElem? (i := 39) rfl)) (hw _ (List.mem_of_getElem? (i := 38) rfl)) (hw _ (List.mem_of_getElem? (i := 7) rfl)) (hw _ (List.mem_of_getElem? (i := 40) rfl)) (by decide) pd3 (argsL := [(.int (0 : Int32))]) (rest := []) rfl (W := 0) (Nat.le_of_eq rfl) (rm := ({ frames := 1, cells := 0, slots := 0, locals := 12 } : Room)) (by decide) (by decide) (by decide) (by decide) (k' := 3) (n' := 39) rfl rfl (by rw [hml]; rfl) [(.int (0 : Int32)), (.ref a13)] rfl (hb hby at_243) (pc' := 246) rfl (rm6_0 l Z a0 hw a13 h26 n0 ra16 rb17 ((ra16, Own.ArrC Z .long [(.long c0), (.long c1), (.long c2), (.long c3), (.long (0 : Int64)), (.long (0 : Int64)), (.long (0 : Int64)), (.long (0 : Int64)), (.long (0 : Int64)), (.long (0 : Int64)), (.long (0 : Int64)), (.long (0 : Int64)), (.long (0 : Int64)), (.long (0 : Int64)), (.long (0 : Int64)), (.long (0 : Int64))]) :: (rb17, Own.ArrC Z .long [(.long w0x), (.long w1x), (.long w2x), (.long w3x), (.long (0 : Int64)), (.long (0 : Int64)), (.long (0 : Int64)), (.long (0 : Int64)), (.long (0 : Int64)), (.long (0 : Int64)), (.long (0 : Int64)), (.long (0 : Int64)), (.long (0 : Int64)), (.long (0 : Int64)), (.long (0 : Int64)), (.long (0 : Int64))]) :: []) O27) ?_
    rintro _ h28 ⟨rfl, O29⟩
    show Own.Goes _ _ _ _ _ _ _ _ _ _ _ _ _ _ _ _ _ (mkF m 246 #[.val (.long q0), .second, .val (.long q1), .second, .val (.long q2), .second, .val (.long q3), .second, .val (.int p4), .val (.int (0 : Int32)), .val (.long c0), .second, .val (.long c1), .second, .val (.long c2), .second, .val (.long c3), .second, .val (.long w0x), .second, .val (.long w1x), .second, .val (.long w2x), .second, .val (.long w3x), .second, .val (.int ux), .val (.ref a13), .unset, .unset, .unset, .unset] [])
    refine Own.aload hx (.ref a13) (hb hby at_246) rfl rfl rfl ?_
    refine Own.lload hx q2 (hb hby at_248) rfl rfl ?_
    refine Own.lload hx q3 (hb hby at_250) rfl rfl ?_
    refine Own.callV hx hZ hown (O29.exa (i := 0) rfl) (hw _ (List.mem_of_getElem? (i := 47) rfl)) (hw _ (List.mem_of_getElem? (i := 48) rfl)) (hw _ (List.mem_of_getElem? (i := 50) rfl)) (hw _ (List.mem_of_getElem? (i := 49) rfl)) (hw _ (List.mem_of_getElem? (i := 7) rfl)) (hw _ (List.mem_of_getElem? (i := 51) rfl)) (by decide) pd4 (argsL := [(.long q2), (.long q3)]) (rest := []) rfl (W := 0) (Nat.le_of_eq rfl) (rm := ({ frames := 0, cells := 0, slots := 0, locals := 0 } : Room)) (by decide) (by decide) (by decide) (by decide) (k' := 3) (n' := 39) rfl rfl (by rw [hml]; rfl) [(.long q3), (.long q2), (.ref a13)] rfl (hb hby at_252) (pc' := 255) rfl (rm8_0 l Z a0 hw a13 q2 q3 h28 n0 ra16 rb17 c0 c1 c2 c3 (0 : Int64) (0 : Int64) (0 : Int64) (0 : Int64) (0 : Int64) (0 : Int64) (0 : Int64) (0 : Int64) (0 : Int64) (0 : Int64) (0 : Int64) (0 : Int64) w0x w1x w2x w3x (0 : Int64) (0 : Int64) (0 : Int64) (0 : Int64) (0 : Int64) (0 : Int64) (0 : Int64) (0 : Int64) (0 : Int64) (0 : Int64) (0 : Int64) (0 : Int64) ([]) O29) ?_
    rintro _ h' ⟨rfl, eh⟩
    rw [eh]; clear eh h'
    show Own.Goes _ _ _ _ _ _ _ _ _ _ _ _ _ _ _ _ _ (mkF m 255 #[.val (.long q0), .second, .val (.long q1), .second, .val (.long q2), .second, .val (.long q3), .second, .val (.int p4), .val (.int (0 : Int32)), .val (.long c0), .second, .val (.long c1), .second, .val (.long c2), .second, .val (.long c3), .second, .val (.long w0x), .second, .val (.long w1x), .second, .val (.long w2x), .second, .val (.long w3x), .second, .val (.int ux), .val (.ref a13), .unset, .unset, .unset, .unset] [(.long (fLG0 q2 q3 c0 c1 c2 c3 w0x w1x w2x w3x))])
    obtain ⟨got, h_got⟩ : ∃ z : Int64, z = (fLG0 q2 q3 c0 c1 c2 c3 w0x w1x w2x w3x) := ⟨_, rfl⟩
    refine Own.lstore hx got h_got #[.val (.long q0), .second, .val (.long q1), .second, .val (.long q2), .second, .val (.long q3), .second, .val (.int p4), .val (.int (0 : Int32)), .val (.long c0), .second, .val (.long c1), .second, .val (.long c2), .second, .val (.long c3), .second, .val (.long w0x), .second, .val (.long w1x), .second, .val (.long w2x), .second, .val (.long w3x), .second, .val (.int ux), .val (.ref a13), .val (.long got), .second, .unset, .unset] (hb hby at_255) rfl rfl ?_
    refine Own.ldc2 hx hZ hown (-9223372036854775808 : Int64) (hb hby at_257) rfl (hw _ (List.mem_of_getElem? (i := 53) rfl)) ?_
    refine Own.lstore hx (-9223372036854775808 : Int64) rfl #[.val (.long q0), .second, .val (.long q1), .second, .val (.long q2), .second, .val (.long q3), .second, .val (.int p4), .val (.int (0 : Int32)), .val (.long c0), .second, .val (.long c1), .second, .val (.long c2), .second, .val (.long c3), .second, .val (.long w0x), .second, .val (.long w1x), .second, .val (.long w2x), .second, .val (.long w3x), .second, .val (.int ux), .val (.ref a13), .val (.long got), .second, .val (.long (-9223372036854775808 : Int64)), .second] (hb hby at_260) rfl rfl ?_
    refine Own.iload hx (0 : Int32) (hb hby at_262) rfl rfl ?_
    have hc30 : ¬ ((0 : Int32) < (0 : Int32)) := by decide
    refine Own.ifF hx (Own.z_gt (0 : Int32)) (hb hby at_264) (pcN := 267) rfl (by decide) (pcT := 287) rfl (fun q => absurd q hc30) (fun _ => ?_)
    refine Own.lload hx w0x (hb hby at_267) rfl rfl ?_
    refine Own.lload hx q2 (hb hby at_269) rfl rfl ?_
    refine Own.lcmp hx (hb hby at_271) rfl ?_
    obtain ⟨x0, h_x0⟩ : ∃ z : Int64, z = (if q2 < w0x then (-9223372036854775808 : Int64) else (if c0 < q3 then c0 else (-9223372036854775808 : Int64))) := ⟨_, rfl⟩
    refine Own.Goes.join (mkF m 287 #[.val (.long q0), .second, .val (.long q1), .second, .val (.long q2), .second, .val (.long q3), .second, .val (.int p4), .val (.int (0 : Int32)), .val (.long c0), .second, .val (.long c1), .second, .val (.long c2), .second, .val (.long c3), .second, .val (.long w0x), .second, .val (.long w1x), .second, .val (.long w2x), .second, .val (.long w3x), .second, .val (.int ux), .val (.ref a13), .val (.long got), .second, .val (.long x0), .second] []) (fun kJ34 => ?_) ?_
    · refine Own.ifF hx (Own.w_gt w0x q2) (hb hby at_272) (pcN := 275) rfl (by decide) (pcT := 287) rfl (fun hc32 => ?_) (fun hc32 => ?_)
      · try simp only [if_pos hc32] at h_x0
        subst h_x0
        exact kJ34
      · refine Own.lload hx c0 (hb hby at_275) rfl rfl ?_
        refine Own.lload hx q3 (hb hby at_277) rfl rfl ?_
        refine Own.lcmp hx (hb hby at_279) rfl ?_
        refine Own.ifFn hx (Own.w_ge c0 q3) (hb hby at_280) (pcN := 283) rfl (by decide) (pcT := 287) rfl (fun hc35 => ?_) (fun hc35 => ?_)
        · try simp only [if_neg hc32, if_neg hc35] at h_x0
          subst h_x0
          exact kJ34
        · refine Own.lload hx c0 (hb hby at_283) rfl rfl ?_
          refine Own.lstore hx c0 rfl #[.val (.long q0), .second, .val (.long q1), .second, .val (.long q2), .second, .val (.long q3), .second, .val (.int p4), .val (.int (0 : Int32)), .val (.long c0), .second, .val (.long c1), .second, .val (.long c2), .second, .val (.long c3), .second, .val (.long w0x), .second, .val (.long w1x), .second, .val (.long w2x), .second, .val (.long w3x), .second, .val (.int ux), .val (.ref a13), .val (.long got), .second, .val (.long c0), .second] (hb hby at_285) rfl rfl ?_
          try simp only [if_neg hc32, if_pos hc35] at h_x0
          subst h_x0
          exact kJ34
    refine Own.iload hx (0 : Int32) (hb hby at_287) rfl rfl ?_
    refine Own.iconst hx (1 : Int32) (hb hby at_289) rfl (by decide) ?_
    have hc36 : ¬ ((1 : Int32) < (0 : Int32)) := by decide
    refine Own.icmpF hx (Own.q_gt (0 : Int32) (1 : Int32)) (hb hby at_290) (pcN := 293) rfl (by decide) (pcT := 313) rfl (fun q => absurd q hc36) (fun _ => ?_)
    refine Own.lload hx w1x (hb hby at_293) rfl rfl ?_
    refine Own.lload hx q2 (hb hby at_295) rfl rfl ?_
    refine Own.lcmp hx (hb hby at_297) rfl ?_
    obtain ⟨x1, h_x1⟩ : ∃ z : Int64, z = (if q2 < w1x then x0 else (if c1 < q3 then c1 else x0)) := ⟨_, rfl⟩
    refine Own.Goes.join (mkF m 313 #[.val (.long q0), .second, .val (.long q1), .second, .val (.long q2), .second, .val (.long q3), .second, .val (.int p4), .val (.int (0 : Int32)), .val (.long c0), .second, .val (.long c1), .second, .val (.long c2), .second, .val (.long c3), .second, .val (.long w0x), .second, .val (.long w1x), .second, .val (.long w2x), .second, .val (.long w3x), .second, .val (.int ux), .val (.ref a13), .val (.long got), .second, .val (.long x1), .second] []) (fun kJ40 => ?_) ?_
    · refine Own.ifF hx (Own.w_gt w1x q2) (hb hby at_298) (pcN := 301) rfl (by decide) (pcT := 313) rfl (fun hc38 => ?_) (fun hc38 => ?_)
      · try simp only [if_pos hc38] at h_x1
        subst h_x1
        exact kJ40
      · refine Own.lload hx c1 (hb hby at_301) rfl rfl ?_
        refine Own.lload hx q3 (hb hby at_303) rfl rfl ?_
        refine Own.lcmp hx (hb hby at_305) rfl ?_
        refine Own.ifFn hx (Own.w_ge c1 q3) (hb hby at_306) (pcN := 309) rfl (by decide) (pcT := 313) rfl (fun hc41 => ?_) (fun hc41 => ?_)
        · try simp only [if_neg hc38, if_neg hc41] at h_x1
          subst h_x1
          exact kJ40
        · refine Own.lload hx c1 (hb hby at_309) rfl rfl ?_
          refine Own.lstore hx c1 rfl #[.val (.long q0), .second, .val (.long q1), .second, .val (.long q2), .second, .val (.long q3), .second, .val (.int p4), .val (.int (0 : Int32)), .val (.long c0), .second, .val (.long c1), .second, .val (.long c2), .second, .val (.long c3), .second, .val (.long w0x), .second, .val (.long w1x), .second, .val (.long w2x), .second, .val (.long w3x), .second, .val (.int ux), .val (.ref a13), .val (.long got), .second, .val (.long c1), .second] (hb hby at_311) rfl rfl ?_
          try simp only [if_neg hc38, if_pos hc41] at h_x1
          subst h_x1
          exact kJ40
    refine Own.iload hx (0 : Int32) (hb hby at_313) rfl rfl ?_
    refine Own.iconst hx (2 : Int32) (hb hby at_315) rfl (by decide) ?_
    have hc42 : ¬ ((2 : Int32) < (0 : Int32)) := by decide
    refine Own.icmpF hx (Own.q_gt (0 : Int32) (2 : Int32)) (hb hby at_316) (pcN := 319) rfl (by decide) (pcT := 339) rfl (fun q => absurd q hc42) (fun _ => ?_)
    refine Own.lload hx w2x (hb hby at_319) rfl rfl ?_
    refine Own.lload hx q2 (hb hby at_321) rfl rfl ?_
    refine Own.lcmp hx (hb hby at_323) rfl ?_
    obtain ⟨x2, h_x2⟩ : ∃ z : Int64, z = (if q2 < w2x then x1 else (if c2 < q3 then c2 else x1)) := ⟨_, rfl⟩
    refine Own.Goes.join (mkF m 339 #[.val (.long q0), .second, .val (.long q1), .second, .val (.long q2), .second, .val (.long q3), .second, .val (.int p4), .val (.int (0 : Int32)), .val (.long c0), .second, .val (.long c1), .second, .val (.long c2), .second, .val (.long c3), .second, .val (.long w0x), .second, .val (.long w1x), .second, .val (.long w2x), .second, .val (.long w3x), .second, .val (.int ux), .val (.ref a13), .val (.long got), .second, .val (.long x2), .second] []) (fun kJ46 => ?_) ?_
    · refine Own.ifF hx (Own.w_gt w2x q2) (hb hby at_324) (pcN := 327) rfl (by decide) (pcT := 339) rfl (fun hc44 => ?_) (fun hc44 => ?_)
      · try simp only [if_pos hc44] at h_x2
        subst h_x2
        exact kJ46
      · refine Own.lload hx c2 (hb hby at_327) rfl rfl ?_
        refine Own.lload hx q3 (hb hby at_329) rfl rfl ?_
        refine Own.lcmp hx (hb hby at_331) rfl ?_
        refine Own.ifFn hx (Own.w_ge c2 q3) (hb hby at_332) (pcN := 335) rfl (by decide) (pcT := 339) rfl (fun hc47 => ?_) (fun hc47 => ?_)
        · try simp only [if_neg hc44, if_neg hc47] at h_x2
          subst h_x2
          exact kJ46
        · refine Own.lload hx c2 (hb hby at_335) rfl rfl ?_
          refine Own.lstore hx c2 rfl #[.val (.long q0), .second, .val (.long q1), .second, .val (.long q2), .second, .val (.long q3), .second, .val (.int p4), .val (.int (0 : Int32)), .val (.long c0), .second, .val (.long c1), .second, .val (.long c2), .second, .val (.long c3), .second, .val (.long w0x), .second, .val (.long w1x), .second, .val (.long w2x), .second, .val (.long w3x), .second, .val (.int ux), .val (.ref a13), .val (.long got), .second, .val (.long c2), .second] (hb hby at_337) rfl rfl ?_
          try simp only [if_neg hc44, if_pos hc47] at h_x2
          subst h_x2
          exact kJ46
    refine Own.iload hx (0 : Int32) (hb hby at_339) rfl rfl ?_
    refine Own.iconst hx (3 : Int32) (hb hby at_341) rfl (by decide) ?_
    have hc48 : ¬ ((3 : Int32) < (0 : Int32)) := by decide
    refine Own.icmpF hx (Own.q_gt (0 : Int32) (3 : Int32)) (hb hby at_342) (pcN := 345) rfl (by decide) (pcT := 365) rfl (fun q => absurd q hc48) (fun _ => ?_)
    refine Own.lload hx w3x (hb hby at_345) rfl rfl ?_
    refine Own.lload hx q2 (hb hby at_347) rfl rfl ?_
    refine Own.lcmp hx (hb hby at_349) rfl ?_
    obtain ⟨x3, h_x3⟩ : ∃ z : Int64, z = (if q2 < w3x then x2 else (if c3 < q3 then c3 else x2)) := ⟨_, rfl⟩
    refine Own.Goes.join (mkF m 365 #[.val (.long q0), .second, .val (.long q1), .second, .val (.long q2), .second, .val (.long q3), .second, .val (.int p4), .val (.int (0 : Int32)), .val (.long c0), .second, .val (.long c1), .second, .val (.long c2), .second, .val (.long c3), .second, .val (.long w0x), .second, .val (.long w1x), .second, .val (.long w2x), .second, .val (.long w3x), .second, .val (.int ux), .val (.ref a13), .val (.long got), .second, .val (.long x3), .second] []) (fun kJ52 => ?_) ?_
    · refine Own.ifF hx (Own.w_gt w3x q2) (hb hby at_350) (pcN := 353) rfl (by decide) (pcT := 365) rfl (fun hc50 => ?_) (fun hc50 => ?_)
      · try simp only [if_pos hc50] at h_x3
        subst h_x3
        exact kJ52
      · refine Own.lload hx c3 (hb hby at_353) rfl rfl ?_
        refine Own.lload hx q3 (hb hby at_355) rfl rfl ?_
        refine Own.lcmp hx (hb hby at_357) rfl ?_
        refine Own.ifFn hx (Own.w_ge c3 q3) (hb hby at_358) (pcN := 361) rfl (by decide) (pcT := 365) rfl (fun hc53 => ?_) (fun hc53 => ?_)
        · try simp only [if_neg hc50, if_neg hc53] at h_x3
          subst h_x3
          exact kJ52
        · refine Own.lload hx c3 (hb hby at_361) rfl rfl ?_
          refine Own.lstore hx c3 rfl #[.val (.long q0), .second, .val (.long q1), .second, .val (.long q2), .second, .val (.long q3), .second, .val (.int p4), .val (.int (0 : Int32)), .val (.long c0), .second, .val (.long c1), .second, .val (.long c2), .second, .val (.long c3), .second, .val (.long w0x), .second, .val (.long w1x), .second, .val (.long w2x), .second, .val (.long w3x), .second, .val (.int ux), .val (.ref a13), .val (.long got), .second, .val (.long c3), .second] (hb hby at_363) rfl rfl ?_
          try simp only [if_neg hc50, if_pos hc53] at h_x3
          subst h_x3
          exact kJ52
    refine Own.lload hx got (hb hby at_365) rfl rfl ?_
    refine Own.lload hx x3 (hb hby at_367) rfl rfl ?_
    refine Own.lcmp hx (hb hby at_369) rfl ?_
    obtain ⟨z, h_z⟩ : ∃ z : Int32, z = (if got = x3 then (1 : Int32) else (0 : Int32)) := ⟨_, rfl⟩
    refine Own.Goes.join (mkF m 378 #[.val (.long q0), .second, .val (.long q1), .second, .val (.long q2), .second, .val (.long q3), .second, .val (.int p4), .val (.int (0 : Int32)), .val (.long c0), .second, .val (.long c1), .second, .val (.long c2), .second, .val (.long c3), .second, .val (.long w0x), .second, .val (.long w1x), .second, .val (.long w2x), .second, .val (.long w3x), .second, .val (.int ux), .val (.ref a13), .val (.long got), .second, .val (.long x3), .second] [(.int z)]) (fun kJ55 => ?_) ?_
    · refine Own.ifFn hx (Own.w_ne got x3) (hb hby at_370) (pcN := 373) rfl (by decide) (pcT := 377) rfl (fun hc54 => ?_) (fun hc54 => ?_)
      · refine Own.iconst hx (0 : Int32) (hb hby at_377) rfl (by decide) ?_
        try simp only [if_neg hc54] at h_z
        subst h_z
        exact kJ55
      · refine Own.iconst hx (1 : Int32) (hb hby at_373) rfl (by decide) ?_
        refine Own.goto hx (hb hby at_374) (by decide) (pc' := 378) rfl ?_
        try simp only [if_pos hc54] at h_z
        subst h_z
        exact kJ55
    exact Own.retS hx hret (by simp) hlk (hb hby at_378) (by decide) (by decide) (Own.bool1 (own_fin0 (own_cs h_c0 h_c1 h_c2 h_c3) (own_ws h_w0 h_w1 h_w2 h_w3 h_w3x h_w2x h_w1x h_w0x) h_got h_x0 h_x1 h_x2 h_x3 h_z))
  · subst q
    refine Own.aload hx (.ref a13) (hb hby at_239) rfl rfl rfl ?_
    refine Own.iload hx (1 : Int32) (hb hby at_241) rfl rfl ?_
    refine Own.callV hx hZ hown (O27.exa (i := 0) rfl) (hw _ (List.mem_of_getElem? (i := 36) rfl)) (hw _ (List.mem_of_getElem? (i := 37) rfl)) (hw _ (List.mem_of_getElem? (i := 39) rfl)) (hw _ (List.mem_of_getElem? (i := 38) rfl)) (hw _ (List.mem_of_getElem? (i := 7) rfl)) (hw _ (List.mem_of_getElem? (i := 40) rfl)) (by decide) pd3 (argsL := [(.int (1 : Int32))]) (rest := []) rfl (W := 0) (Nat.le_of_eq rfl) (rm := ({ frames := 1, cells := 0, slots := 0, locals := 12 } : Room)) (by decide) (by decide) (by decide) (by decide) (k' := 3) (n' := 39) rfl rfl (by rw [hml]; rfl) [(.int (1 : Int32)), (.ref a13)] rfl (hb hby at_243) (pc' := 246) rfl (rm6_1 l Z a0 hw a13 h26 n0 ra16 rb17 ((ra16, Own.ArrC Z .long [(.long c0), (.long c1), (.long c2), (.long c3), (.long (0 : Int64)), (.long (0 : Int64)), (.long (0 : Int64)), (.long (0 : Int64)), (.long (0 : Int64)), (.long (0 : Int64)), (.long (0 : Int64)), (.long (0 : Int64)), (.long (0 : Int64)), (.long (0 : Int64)), (.long (0 : Int64)), (.long (0 : Int64))]) :: (rb17, Own.ArrC Z .long [(.long w0x), (.long w1x), (.long w2x), (.long w3x), (.long (0 : Int64)), (.long (0 : Int64)), (.long (0 : Int64)), (.long (0 : Int64)), (.long (0 : Int64)), (.long (0 : Int64)), (.long (0 : Int64)), (.long (0 : Int64)), (.long (0 : Int64)), (.long (0 : Int64)), (.long (0 : Int64)), (.long (0 : Int64))]) :: []) O27) ?_
    rintro _ h56 ⟨rfl, O57⟩
    show Own.Goes _ _ _ _ _ _ _ _ _ _ _ _ _ _ _ _ _ (mkF m 246 #[.val (.long q0), .second, .val (.long q1), .second, .val (.long q2), .second, .val (.long q3), .second, .val (.int p4), .val (.int (1 : Int32)), .val (.long c0), .second, .val (.long c1), .second, .val (.long c2), .second, .val (.long c3), .second, .val (.long w0x), .second, .val (.long w1x), .second, .val (.long w2x), .second, .val (.long w3x), .second, .val (.int ux), .val (.ref a13), .unset, .unset, .unset, .unset] [])
    refine Own.aload hx (.ref a13) (hb hby at_246) rfl rfl rfl ?_
    refine Own.lload hx q2 (hb hby at_248) rfl rfl ?_
    refine Own.lload hx q3 (hb hby at_250) rfl rfl ?_
    refine Own.callV hx hZ hown (O57.exa (i := 0) rfl) (hw _ (List.mem_of_getElem? (i := 47) rfl)) (hw _ (List.mem_of_getElem? (i := 48) rfl)) (hw _ (List.mem_of_getElem? (i := 50) rfl)) (hw _ (List.mem_of_getElem? (i := 49) rfl)) (hw _ (List.mem_of_getElem? (i := 7) rfl)) (hw _ (List.mem_of_getElem? (i := 51) rfl)) (by decide) pd4 (argsL := [(.long q2), (.long q3)]) (rest := []) rfl (W := 0) (Nat.le_of_eq rfl) (rm := ({ frames := 0, cells := 0, slots := 0, locals := 0 } : Room)) (by decide) (by decide) (by decide) (by decide) (k' := 3) (n' := 39) rfl rfl (by rw [hml]; rfl) [(.long q3), (.long q2), (.ref a13)] rfl (hb hby at_252) (pc' := 255) rfl (rm8_1 l Z a0 hw a13 q2 q3 h56 n0 ra16 rb17 c0 c1 c2 c3 (0 : Int64) (0 : Int64) (0 : Int64) (0 : Int64) (0 : Int64) (0 : Int64) (0 : Int64) (0 : Int64) (0 : Int64) (0 : Int64) (0 : Int64) (0 : Int64) w0x w1x w2x w3x (0 : Int64) (0 : Int64) (0 : Int64) (0 : Int64) (0 : Int64) (0 : Int64) (0 : Int64) (0 : Int64) (0 : Int64) (0 : Int64) (0 : Int64) (0 : Int64) ([]) O57) ?_
    rintro _ h' ⟨rfl, eh⟩
    rw [eh]; clear eh h'
    show Own.Goes _ _ _ _ _ _ _ _ _ _ _ _ _ _ _ _ _ (mkF m 255 #[.val (.long q0), .second, .val (.long q1), .second, .val (.long q2), .second, .val (.long q3), .second, .val (.int p4), .val (.int (1 : Int32)), .val (.long c0), .second, .val (.long c1), .second, .val (.long c2), .second, .val (.long c3), .second, .val (.long w0x), .second, .val (.long w1x), .second, .val (.long w2x), .second, .val (.long w3x), .second, .val (.int ux), .val (.ref a13), .unset, .unset, .unset, .unset] [(.long (fLG1 q2 q3 c0 c1 c2 c3 w0x w1x w2x w3x))])
    obtain ⟨got, h_got⟩ : ∃ z : Int64, z = (fLG1 q2 q3 c0 c1 c2 c3 w0x w1x w2x w3x) := ⟨_, rfl⟩
    refine Own.lstore hx got h_got #[.val (.long q0), .second, .val (.long q1), .second, .val (.long q2), .second, .val (.long q3), .second, .val (.int p4), .val (.int (1 : Int32)), .val (.long c0), .second, .val (.long c1), .second, .val (.long c2), .second, .val (.long c3), .second, .val (.long w0x), .second, .val (.long w1x), .second, .val (.long w2x), .second, .val (.long w3x), .second, .val (.int ux), .val (.ref a13), .val (.long got), .second, .unset, .unset] (hb hby at_255) rfl rfl ?_
    refine Own.ldc2 hx hZ hown (-9223372036854775808 : Int64) (hb hby at_257) rfl (hw _ (List.mem_of_getElem? (i := 53) rfl)) ?_
    refine Own.lstore hx (-9223372036854775808 : Int64) rfl #[.val (.long q0), .second, .val (.long q1), .second, .val (.long q2), .second, .val (.long q3), .second, .val (.int p4), .val (.int (1 : Int32)), .val (.long c0), .second, .val (.long c1), .second, .val (.long c2), .second, .val (.long c3), .second, .val (.long w0x), .second, .val (.long w1x), .second, .val (.long w2x), .second, .val (.long w3x), .second, .val (.int ux), .val (.ref a13), .val (.long got), .second, .val (.long (-9223372036854775808 : Int64)), .second] (hb hby at_260) rfl rfl ?_
    refine Own.iload hx (1 : Int32) (hb hby at_262) rfl rfl ?_
    have hc58 : (0 : Int32) < (1 : Int32) := by decide
    refine Own.ifF hx (Own.z_gt (1 : Int32)) (hb hby at_264) (pcN := 267) rfl (by decide) (pcT := 287) rfl (fun _ => ?_) (fun q => absurd hc58 q)
    refine Own.iload hx (1 : Int32) (hb hby at_287) rfl rfl ?_
    refine Own.iconst hx (1 : Int32) (hb hby at_289) rfl (by decide) ?_
    have hc60 : ¬ ((1 : Int32) < (1 : Int32)) := by decide
    refine Own.icmpF hx (Own.q_gt (1 : Int32) (1 : Int32)) (hb hby at_290) (pcN := 293) rfl (by decide) (pcT := 313) rfl (fun q => absurd q hc60) (fun _ => ?_)
    refine Own.lload hx w1x (hb hby at_293) rfl rfl ?_
    refine Own.lload hx q2 (hb hby at_295) rfl rfl ?_
    refine Own.lcmp hx (hb hby at_297) rfl ?_
    obtain ⟨x1, h_x1⟩ : ∃ z : Int64, z = (if q2 < w1x then (-9223372036854775808 : Int64) else (if c1 < q3 then c1 else (-9223372036854775808 : Int64))) := ⟨_, rfl⟩
    refine Own.Goes.join (mkF m 313 #[.val (.long q0), .second, .val (.long q1), .second, .val (.long q2), .second, .val (.long q3), .second, .val (.int p4), .val (.int (1 : Int32)), .val (.long c0), .second, .val (.long c1), .second, .val (.long c2), .second, .val (.long c3), .second, .val (.long w0x), .second, .val (.long w1x), .second, .val (.long w2x), .second, .val (.long w3x), .second, .val (.int ux), .val (.ref a13), .val (.long got), .second, .val (.long x1), .second] []) (fun kJ64 => ?_) ?_
    · refine Own.ifF hx (Own.w_gt w1x q2) (hb hby at_298) (pcN := 301) rfl (by decide) (pcT := 313) rfl (fun hc62 => ?_) (fun hc62 => ?_)
      · try simp only [if_pos hc62] at h_x1
        subst h_x1
        exact kJ64
      · refine Own.lload hx c1 (hb hby at_301) rfl rfl ?_
        refine Own.lload hx q3 (hb hby at_303) rfl rfl ?_
        refine Own.lcmp hx (hb hby at_305) rfl ?_
        refine Own.ifFn hx (Own.w_ge c1 q3) (hb hby at_306) (pcN := 309) rfl (by decide) (pcT := 313) rfl (fun hc65 => ?_) (fun hc65 => ?_)
        · try simp only [if_neg hc62, if_neg hc65] at h_x1
          subst h_x1
          exact kJ64
        · refine Own.lload hx c1 (hb hby at_309) rfl rfl ?_
          refine Own.lstore hx c1 rfl #[.val (.long q0), .second, .val (.long q1), .second, .val (.long q2), .second, .val (.long q3), .second, .val (.int p4), .val (.int (1 : Int32)), .val (.long c0), .second, .val (.long c1), .second, .val (.long c2), .second, .val (.long c3), .second, .val (.long w0x), .second, .val (.long w1x), .second, .val (.long w2x), .second, .val (.long w3x), .second, .val (.int ux), .val (.ref a13), .val (.long got), .second, .val (.long c1), .second] (hb hby at_311) rfl rfl ?_
          try simp only [if_neg hc62, if_pos hc65] at h_x1
          subst h_x1
          exact kJ64
    refine Own.iload hx (1 : Int32) (hb hby at_313) rfl rfl ?_
    refine Own.iconst hx (2 : Int32) (hb hby at_315) rfl (by decide) ?_
    have hc66 : ¬ ((2 : Int32) < (1 : Int32)) := by decide
    refine Own.icmpF hx (Own.q_gt (1 : Int32) (2 : Int32)) (hb hby at_316) (pcN := 319) rfl (by decide) (pcT := 339) rfl (fun q => absurd q hc66) (fun _ => ?_)
    refine Own.lload hx w2x (hb hby at_319) rfl rfl ?_
    refine Own.lload hx q2 (hb hby at_321) rfl rfl ?_
    refine Own.lcmp hx (hb hby at_323) rfl ?_
    obtain ⟨x2, h_x2⟩ : ∃ z : Int64, z = (if q2 < w2x then x1 else (if c2 < q3 then c2 else x1)) := ⟨_, rfl⟩
    refine Own.Goes.join (mkF m 339 #[.val (.long q0), .second, .val (.long q1), .second, .val (.long q2), .second, .val (.long q3), .second, .val (.int p4), .val (.int (1 : Int32)), .val (.long c0), .second, .val (.long c1), .second, .val (.long c2), .second, .val (.long c3), .second, .val (.long w0x), .second, .val (.long w1x), .second, .val (.long w2x), .second, .val (.long w3x), .second, .val (.int ux), .val (.ref a13), .val (.long got), .second, .val (.long x2), .second] []) (fun kJ70 => ?_) ?_
    · refine Own.ifF hx (Own.w_gt w2x q2) (hb hby at_324) (pcN := 327) rfl (by decide) (pcT := 339) rfl (fun hc68 => ?_) (fun hc68 => ?_)
      · try simp only [if_pos hc68] at h_x2
        subst h_x2
        exact kJ70
      · refine Own.lload hx c2 (hb hby at_327) rfl rfl ?_
        refine Own.lload hx q3 (hb hby at_329) rfl rfl ?_
        refine Own.lcmp hx (hb hby at_331) rfl ?_
        refine Own.ifFn hx (Own.w_ge c2 q3) (hb hby at_332) (pcN := 335) rfl (by decide) (pcT := 339) rfl (fun hc71 => ?_) (fun hc71 => ?_)
        · try simp only [if_neg hc68, if_neg hc71] at h_x2
          subst h_x2
          exact kJ70
        · refine Own.lload hx c2 (hb hby at_335) rfl rfl ?_
          refine Own.lstore hx c2 rfl #[.val (.long q0), .second, .val (.long q1), .second, .val (.long q2), .second, .val (.long q3), .second, .val (.int p4), .val (.int (1 : Int32)), .val (.long c0), .second, .val (.long c1), .second, .val (.long c2), .second, .val (.long c3), .second, .val (.long w0x), .second, .val (.long w1x), .second, .val (.long w2x), .second, .val (.long w3x), .second, .val (.int ux), .val (.ref a13), .val (.long got), .second, .val (.long c2), .second] (hb hby at_337) rfl rfl ?_
          try simp only [if_neg hc68, if_pos hc71] at h_x2
          subst h_x2
          exact kJ70
    refine Own.iload hx (1 : Int32) (hb hby at_339) rfl rfl ?_
    refine Own.iconst hx (3 : Int32) (hb hby at_341) rfl (by decide) ?_
    have hc72 : ¬ ((3 : Int32) < (1 : Int32)) := by decide
    refine Own.icmpF hx (Own.q_gt (1 : Int32) (3 : Int32)) (hb hby at_342) (pcN := 345) rfl (by decide) (pcT := 365) rfl (fun q => absurd q hc72) (fun _ => ?_)
    refine Own.lload hx w3x (hb hby at_345) rfl rfl ?_
    refine Own.lload hx q2 (hb hby at_347) rfl rfl ?_
    refine Own.lcmp hx (hb hby at_349) rfl ?_
    obtain ⟨x3, h_x3⟩ : ∃ z : Int64, z = (if q2 < w3x then x2 else (if c3 < q3 then c3 else x2)) := ⟨_, rfl⟩
    refine Own.Goes.join (mkF m 365 #[.val (.long q0), .second, .val (.long q1), .second, .val (.long q2), .second, .val (.long q3), .second, .val (.int p4), .val (.int (1 : Int32)), .val (.long c0), .second, .val (.long c1), .second, .val (.long c2), .second, .val (.long c3), .second, .val (.long w0x), .second, .val (.long w1x), .second, .val (.long w2x), .second, .val (.long w3x), .second, .val (.int ux), .val (.ref a13), .val (.long got), .second, .val (.long x3), .second] []) (fun kJ76 => ?_) ?_
    · refine Own.ifF hx (Own.w_gt w3x q2) (hb hby at_350) (pcN := 353) rfl (by decide) (pcT := 365) rfl (fun hc74 => ?_) (fun hc74 => ?_)
      · try simp only [if_pos hc74] at h_x3
        subst h_x3
        exact kJ76
      · refine Own.lload hx c3 (hb hby at_353) rfl rfl ?_
        refine Own.lload hx q3 (hb hby at_355) rfl rfl ?_
        refine Own.lcmp hx (hb hby at_357) rfl ?_
        refine Own.ifFn hx (Own.w_ge c3 q3) (hb hby at_358) (pcN := 361) rfl (by decide) (pcT := 365) rfl (fun hc77 => ?_) (fun hc77 => ?_)
        · try simp only [if_neg hc74, if_neg hc77] at h_x3
          subst h_x3
          exact kJ76
        · refine Own.lload hx c3 (hb hby at_361) rfl rfl ?_
          refine Own.lstore hx c3 rfl #[.val (.long q0), .second, .val (.long q1), .second, .val (.long q2), .second, .val (.long q3), .second, .val (.int p4), .val (.int (1 : Int32)), .val (.long c0), .second, .val (.long c1), .second, .val (.long c2), .second, .val (.long c3), .second, .val (.long w0x), .second, .val (.long w1x), .second, .val (.long w2x), .second, .val (.long w3x), .second, .val (.int ux), .val (.ref a13), .val (.long got), .second, .val (.long c3), .second] (hb hby at_363) rfl rfl ?_
          try simp only [if_neg hc74, if_pos hc77] at h_x3
          subst h_x3
          exact kJ76
    refine Own.lload hx got (hb hby at_365) rfl rfl ?_
    refine Own.lload hx x3 (hb hby at_367) rfl rfl ?_
    refine Own.lcmp hx (hb hby at_369) rfl ?_
    obtain ⟨z, h_z⟩ : ∃ z : Int32, z = (if got = x3 then (1 : Int32) else (0 : Int32)) := ⟨_, rfl⟩
    refine Own.Goes.join (mkF m 378 #[.val (.long q0), .second, .val (.long q1), .second, .val (.long q2), .second, .val (.long q3), .second, .val (.int p4), .val (.int (1 : Int32)), .val (.long c0), .second, .val (.long c1), .second, .val (.long c2), .second, .val (.long c3), .second, .val (.long w0x), .second, .val (.long w1x), .second, .val (.long w2x), .second, .val (.long w3x), .second, .val (.int ux), .val (.ref a13), .val (.long got), .second, .val (.long x3), .second] [(.int z)]) (fun kJ79 => ?_) ?_
    · refine Own.ifFn hx (Own.w_ne got x3) (hb hby at_370) (pcN := 373) rfl (by decide) (pcT := 377) rfl (fun hc78 => ?_) (fun hc78 => ?_)
      · refine Own.iconst hx (0 : Int32) (hb hby at_377) rfl (by decide) ?_
        try simp only [if_neg hc78] at h_z
        subst h_z
        exact kJ79
      · refine Own.iconst hx (1 : Int32) (hb hby at_373) rfl (by decide) ?_
        refine Own.goto hx (hb hby at_374) (by decide) (pc' := 378) rfl ?_
        try simp only [if_pos hc78] at h_z
        subst h_z
        exact kJ79
    exact Own.retS hx hret (by simp) hlk (hb hby at_378) (by decide) (by decide) (Own.bool1 (own_fin1 (own_cs h_c0 h_c1 h_c2 h_c3) (own_ws h_w0 h_w1 h_w2 h_w3 h_w3x h_w2x h_w1x h_w0x) h_got h_x1 h_x2 h_x3 h_z))
  · subst q
    refine Own.aload hx (.ref a13) (hb hby at_239) rfl rfl rfl ?_
    refine Own.iload hx (2 : Int32) (hb hby at_241) rfl rfl ?_
    refine Own.callV hx hZ hown (O27.exa (i := 0) rfl) (hw _ (List.mem_of_getElem? (i := 36) rfl)) (hw _ (List.mem_of_getElem? (i := 37) rfl)) (hw _ (List.mem_of_getElem? (i := 39) rfl)) (hw _ (List.mem_of_getElem? (i := 38) rfl)) (hw _ (List.mem_of_getElem? (i := 7) rfl)) (hw _ (List.mem_of_getElem? (i := 40) rfl)) (by decide) pd3 (argsL := [(.int (2 : Int32))]) (rest := []) rfl (W := 0) (Nat.le_of_eq rfl) (rm := ({ frames := 1, cells := 0, slots := 0, locals := 12 } : Room)) (by decide) (by decide) (by decide) (by decide) (k' := 3) (n' := 39) rfl rfl (by rw [hml]; rfl) [(.int (2 : Int32)), (.ref a13)] rfl (hb hby at_243) (pc' := 246) rfl (rm6_2 l Z a0 hw a13 h26 n0 ra16 rb17 ((ra16, Own.ArrC Z .long [(.long c0), (.long c1), (.long c2), (.long c3), (.long (0 : Int64)), (.long (0 : Int64)), (.long (0 : Int64)), (.long (0 : Int64)), (.long (0 : Int64)), (.long (0 : Int64)), (.long (0 : Int64)), (.long (0 : Int64)), (.long (0 : Int64)), (.long (0 : Int64)), (.long (0 : Int64)), (.long (0 : Int64))]) :: (rb17, Own.ArrC Z .long [(.long w0x), (.long w1x), (.long w2x), (.long w3x), (.long (0 : Int64)), (.long (0 : Int64)), (.long (0 : Int64)), (.long (0 : Int64)), (.long (0 : Int64)), (.long (0 : Int64)), (.long (0 : Int64)), (.long (0 : Int64)), (.long (0 : Int64)), (.long (0 : Int64)), (.long (0 : Int64)), (.long (0 : Int64))]) :: []) O27) ?_
    rintro _ h80 ⟨rfl, O81⟩
    show Own.Goes _ _ _ _ _ _ _ _ _ _ _ _ _ _ _ _ _ (mkF m 246 #[.val (.long q0), .second, .val (.long q1), .second, .val (.long q2), .second, .val (.long q3), .second, .val (.int p4), .val (.int (2 : Int32)), .val (.long c0), .second, .val (.long c1), .second, .val (.long c2), .second, .val (.long c3), .second, .val (.long w0x), .second, .val (.long w1x), .second, .val (.long w2x), .second, .val (.long w3x), .second, .val (.int ux), .val (.ref a13), .unset, .unset, .unset, .unset] [])
    refine Own.aload hx (.ref a13) (hb hby at_246) rfl rfl rfl ?_
    refine Own.lload hx q2 (hb hby at_248) rfl rfl ?_
    refine Own.lload hx q3 (hb hby at_250) rfl rfl ?_
    refine Own.callV hx hZ hown (O81.exa (i := 0) rfl) (hw _ (List.mem_of_getElem? (i := 47) rfl)) (hw _ (List.mem_of_getElem? (i := 48) rfl)) (hw _ (List.mem_of_getElem? (i := 50) rfl)) (hw _ (List.mem_of_getElem? (i := 49) rfl)) (hw _ (List.mem_of_getElem? (i := 7) rfl)) (hw _ (List.mem_of_getElem? (i := 51) rfl)) (by decide) pd4 (argsL := [(.long q2), (.long q3)]) (rest := []) rfl (W := 0) (Nat.le_of_eq rfl) (rm := ({ frames := 0, cells := 0, slots := 0, locals := 0 } : Room)) (by decide) (by decide) (by decide) (by decide) (k' := 3) (n' := 39) rfl rfl (by rw [hml]; rfl) [(.long q3), (.long q2), (.ref a13)] rfl (hb hby at_252) (pc' := 255) rfl (rm8_2 l Z a0 hw a13 q2 q3 h80 n0 ra16 rb17 c0 c1 c2 c3 (0 : Int64) (0 : Int64) (0 : Int64) (0 : Int64) (0 : Int64) (0 : Int64) (0 : Int64) (0 : Int64) (0 : Int64) (0 : Int64) (0 : Int64) (0 : Int64) w0x w1x w2x w3x (0 : Int64) (0 : Int64) (0 : Int64) (0 : Int64) (0 : Int64) (0 : Int64) (0 : Int64) (0 : Int64) (0 : Int64) (0 : Int64) (0 : Int64) (0 : Int64) ([]) O81) ?_
    rintro _ h' ⟨rfl, eh⟩
    rw [eh]; clear eh h'
    show Own.Goes _ _ _ _ _ _ _ _ _ _ _ _ _ _ _ _ _ (mkF m 255 #[.val (.long q0), .second, .val (.long q1), .second, .val (.long q2), .second, .val (.long q3), .second, .val (.int p4), .val (.int (2 : Int32)), .val (.long c0), .second, .val (.long c1), .second, .val (.long c2), .second, .val (.long c3), .second, .val (.long w0x), .second, .val (.long w1x), .second, .val (.long w2x), .second, .val (.long w3x), .second, .val (.int ux), .val (.ref a13), .unset, .unset, .unset, .unset] [(.long (fLG2 q2 q3 c0 c1 c2 c3 w0x w1x w2x w3x))])
    obtain ⟨got, h_got⟩ : ∃ z : Int64, z = (fLG2 q2 q3 c0 c1 c2 c3 w0x w1x w2x w3x) := ⟨_, rfl⟩
    refine Own.lstore hx got h_got #[.val (.long q0), .second, .val (.long q1), .second, .val (.long q2), .second, .val (.long q3), .second, .val (.int p4), .val (.int (2 : Int32)), .val (.long c0), .second, .val (.long c1), .second, .val (.long c2), .second, .val (.long c3), .second, .val (.long w0x), .second, .val (.long w1x), .second, .val (.long w2x), .second, .val (.long w3x), .second, .val (.int ux), .val (.ref a13), .val (.long got), .second, .unset, .unset] (hb hby at_255) rfl rfl ?_
    refine Own.ldc2 hx hZ hown (-9223372036854775808 : Int64) (hb hby at_257) rfl (hw _ (List.mem_of_getElem? (i := 53) rfl)) ?_
    refine Own.lstore hx (-9223372036854775808 : Int64) rfl #[.val (.long q0), .second, .val (.long q1), .second, .val (.long q2), .second, .val (.long q3), .second, .val (.int p4), .val (.int (2 : Int32)), .val (.long c0), .second, .val (.long c1), .second, .val (.long c2), .second, .val (.long c3), .second, .val (.long w0x), .second, .val (.long w1x), .second, .val (.long w2x), .second, .val (.long w3x), .second, .val (.int ux), .val (.ref a13), .val (.long got), .second, .val (.long (-9223372036854775808 : Int64)), .second] (hb hby at_260) rfl rfl ?_
    refine Own.iload hx (2 : Int32) (hb hby at_262) rfl rfl ?_
    have hc82 : (0 : Int32) < (2 : Int32) := by decide
    refine Own.ifF hx (Own.z_gt (2 : Int32)) (hb hby at_264) (pcN := 267) rfl (by decide) (pcT := 287) rfl (fun _ => ?_) (fun q => absurd hc82 q)
    refine Own.iload hx (2 : Int32) (hb hby at_287) rfl rfl ?_
    refine Own.iconst hx (1 : Int32) (hb hby at_289) rfl (by decide) ?_
    have hc84 : (1 : Int32) < (2 : Int32) := by decide
    refine Own.icmpF hx (Own.q_gt (2 : Int32) (1 : Int32)) (hb hby at_290) (pcN := 293) rfl (by decide) (pcT := 313) rfl (fun _ => ?_) (fun q => absurd hc84 q)
    refine Own.iload hx (2 : Int32) (hb hby at_313) rfl rfl ?_
    refine Own.iconst hx (2 : Int32) (hb hby at_315) rfl (by decide) ?_
    have hc86 : ¬ ((2 : Int32) < (2 : Int32)) := by decide
    refine Own.icmpF hx (Own.q_gt (2 : Int32) (2 : Int32)) (hb hby at_316) (pcN := 319) rfl (by decide) (pcT := 339) rfl (fun q => absurd q hc86) (fun _ => ?_)
    refine Own.lload hx w2x (hb hby at_319) rfl rfl ?_
    refine Own.lload hx q2 (hb hby at_321) rfl rfl ?_
    refine Own.lcmp hx (hb hby at_323) rfl ?_
    obtain ⟨x2, h_x2⟩ : ∃ z : Int64, z = (if q2 < w2x then (-9223372036854775808 : Int64) else (if c2 < q3 then c2 else (-9223372036854775808 : Int64))) := ⟨_, rfl⟩
    refine Own.Goes.join (mkF m 339 #[.val (.long q0), .second, .val (.long q1), .second, .val (.long q2), .second, .val (.long q3), .second, .val (.int p4), .val (.int (2 : Int32)), .val (.long c0), .second, .val (.long c1), .second, .val (.long c2), .second, .val (.long c3), .second, .val (.long w0x), .second, .val (.long w1x), .second, .val (.long w2x), .second, .val (.long w3x), .second, .val (.int ux), .val (.ref a13), .val (.long got), .second, .val (.long x2), .second] []) (fun kJ90 => ?_) ?_
    · refine Own.ifF hx (Own.w_gt w2x q2) (hb hby at_324) (pcN := 327) rfl (by decide) (pcT := 339) rfl (fun hc88 => ?_) (fun hc88 => ?_)
      · try simp only [if_pos hc88] at h_x2
        subst h_x2
        exact kJ90
      · refine Own.lload hx c2 (hb hby at_327) rfl rfl ?_
        refine Own.lload hx q3 (hb hby at_329) rfl rfl ?_
        refine Own.lcmp hx (hb hby at_331) rfl ?_
        refine Own.ifFn hx (Own.w_ge c2 q3) (hb hby at_332) (pcN := 335) rfl (by decide) (pcT := 339) rfl (fun hc91 => ?_) (fun hc91 => ?_)
        · try simp only [if_neg hc88, if_neg hc91] at h_x2
          subst h_x2
          exact kJ90
        · refine Own.lload hx c2 (hb hby at_335) rfl rfl ?_
          refine Own.lstore hx c2 rfl #[.val (.long q0), .second, .val (.long q1), .second, .val (.long q2), .second, .val (.long q3), .second, .val (.int p4), .val (.int (2 : Int32)), .val (.long c0), .second, .val (.long c1), .second, .val (.long c2), .second, .val (.long c3), .second, .val (.long w0x), .second, .val (.long w1x), .second, .val (.long w2x), .second, .val (.long w3x), .second, .val (.int ux), .val (.ref a13), .val (.long got), .second, .val (.long c2), .second] (hb hby at_337) rfl rfl ?_
          try simp only [if_neg hc88, if_pos hc91] at h_x2
          subst h_x2
          exact kJ90
    refine Own.iload hx (2 : Int32) (hb hby at_339) rfl rfl ?_
    refine Own.iconst hx (3 : Int32) (hb hby at_341) rfl (by decide) ?_
    have hc92 : ¬ ((3 : Int32) < (2 : Int32)) := by decide
    refine Own.icmpF hx (Own.q_gt (2 : Int32) (3 : Int32)) (hb hby at_342) (pcN := 345) rfl (by decide) (pcT := 365) rfl (fun q => absurd q hc92) (fun _ => ?_)
    refine Own.lload hx w3x (hb hby at_345) rfl rfl ?_
    refine Own.lload hx q2 (hb hby at_347) rfl rfl ?_
    refine Own.lcmp hx (hb hby at_349) rfl ?_
    obtain ⟨x3, h_x3⟩ : ∃ z : Int64, z = (if q2 < w3x then x2 else (if c3 < q3 then c3 else x2)) := ⟨_, rfl⟩
    refine Own.Goes.join (mkF m 365 #[.val (.long q0), .second, .val (.long q1), .second, .val (.long q2), .second, .val (.long q3), .second, .val (.int p4), .val (.int (2 : Int32)), .val (.long c0), .second, .val (.long c1), .second, .val (.long c2), .second, .val (.long c3), .second, .val (.long w0x), .second, .val (.long w1x), .second, .val (.long w2x), .second, .val (.long w3x), .second, .val (.int ux), .val (.ref a13), .val (.long got), .second, .val (.long x3), .second] []) (fun kJ96 => ?_) ?_
    · refine Own.ifF hx (Own.w_gt w3x q2) (hb hby at_350) (pcN := 353) rfl (by decide) (pcT := 365) rfl (fun hc94 => ?_) (fun hc94 => ?_)
      · try simp only [if_pos hc94] at h_x3
        subst h_x3
        exact kJ96
      · refine Own.lload hx c3 (hb hby at_353) rfl rfl ?_
        refine Own.lload hx q3 (hb hby at_355) rfl rfl ?_
        refine Own.lcmp hx (hb hby at_357) rfl ?_
        refine Own.ifFn hx (Own.w_ge c3 q3) (hb hby at_358) (pcN := 361) rfl (by decide) (pcT := 365) rfl (fun hc97 => ?_) (fun hc97 => ?_)
        · try simp only [if_neg hc94, if_neg hc97] at h_x3
          subst h_x3
          exact kJ96
        · refine Own.lload hx c3 (hb hby at_361) rfl rfl ?_
          refine Own.lstore hx c3 rfl #[.val (.long q0), .second, .val (.long q1), .second, .val (.long q2), .second, .val (.long q3), .second, .val (.int p4), .val (.int (2 : Int32)), .val (.long c0), .second, .val (.long c1), .second, .val (.long c2), .second, .val (.long c3), .second, .val (.long w0x), .second, .val (.long w1x), .second, .val (.long w2x), .second, .val (.long w3x), .second, .val (.int ux), .val (.ref a13), .val (.long got), .second, .val (.long c3), .second] (hb hby at_363) rfl rfl ?_
          try simp only [if_neg hc94, if_pos hc97] at h_x3
          subst h_x3
          exact kJ96
    refine Own.lload hx got (hb hby at_365) rfl rfl ?_
    refine Own.lload hx x3 (hb hby at_367) rfl rfl ?_
    refine Own.lcmp hx (hb hby at_369) rfl ?_
    obtain ⟨z, h_z⟩ : ∃ z : Int32, z = (if got = x3 then (1 : Int32) else (0 : Int32)) := ⟨_, rfl⟩
    refine Own.Goes.join (mkF m 378 #[.val (.long q0), .second, .val (.long q1), .second, .val (.long q2), .second, .val (.long q3), .second, .val (.int p4), .val (.int (2 : Int32)), .val (.long c0), .second, .val (.long c1), .second, .val (.long c2), .second, .val (.long c3), .second, .val (.long w0x), .second, .val (.long w1x), .second, .val (.long w2x), .second, .val (.long w3x), .second, .val (.int ux), .val (.ref a13), .val (.long got), .second, .val (.long x3), .second] [(.int z)]) (fun kJ99 => ?_) ?_
    · refine Own.ifFn hx (Own.w_ne got x3) (hb hby at_370) (pcN := 373) rfl (by decide) (pcT := 377) rfl (fun hc98 => ?_) (fun hc98 => ?_)
      · refine Own.iconst hx (0 : Int32) (hb hby at_377) rfl (by decide) ?_
        try simp only [if_neg hc98] at h_z
        subst h_z
        exact kJ99
      · refine Own.iconst hx (1 : Int32) (hb hby at_373) rfl (by decide) ?_
        refine Own.goto hx (hb hby at_374) (by decide) (pc' := 378) rfl ?_
        try simp only [if_pos hc98] at h_z
        subst h_z
        exact kJ99
    exact Own.retS hx hret (by simp) hlk (hb hby at_378) (by decide) (by decide) (Own.bool1 (own_fin2 (own_cs h_c0 h_c1 h_c2 h_c3) (own_ws h_w0 h_w1 h_w2 h_w3 h_w3x h_w2x h_w1x h_w0x) h_got h_x2 h_x3 h_z))
  · subst q
    refine Own.aload hx (.ref a13) (hb hby at_239) rfl rfl rfl ?_
    refine Own.iload hx (3 : Int32) (hb hby at_241) rfl rfl ?_
    refine Own.callV hx hZ hown (O27.exa (i := 0) rfl) (hw _ (List.mem_of_getElem? (i := 36) rfl)) (hw _ (List.mem_of_getElem? (i := 37) rfl)) (hw _ (List.mem_of_getElem? (i := 39) rfl)) (hw _ (List.mem_of_getElem? (i := 38) rfl)) (hw _ (List.mem_of_getElem? (i := 7) rfl)) (hw _ (List.mem_of_getElem? (i := 40) rfl)) (by decide) pd3 (argsL := [(.int (3 : Int32))]) (rest := []) rfl (W := 0) (Nat.le_of_eq rfl) (rm := ({ frames := 1, cells := 0, slots := 0, locals := 12 } : Room)) (by decide) (by decide) (by decide) (by decide) (k' := 3) (n' := 39) rfl rfl (by rw [hml]; rfl) [(.int (3 : Int32)), (.ref a13)] rfl (hb hby at_243) (pc' := 246) rfl (rm6_3 l Z a0 hw a13 h26 n0 ra16 rb17 ((ra16, Own.ArrC Z .long [(.long c0), (.long c1), (.long c2), (.long c3), (.long (0 : Int64)), (.long (0 : Int64)), (.long (0 : Int64)), (.long (0 : Int64)), (.long (0 : Int64)), (.long (0 : Int64)), (.long (0 : Int64)), (.long (0 : Int64)), (.long (0 : Int64)), (.long (0 : Int64)), (.long (0 : Int64)), (.long (0 : Int64))]) :: (rb17, Own.ArrC Z .long [(.long w0x), (.long w1x), (.long w2x), (.long w3x), (.long (0 : Int64)), (.long (0 : Int64)), (.long (0 : Int64)), (.long (0 : Int64)), (.long (0 : Int64)), (.long (0 : Int64)), (.long (0 : Int64)), (.long (0 : Int64)), (.long (0 : Int64)), (.long (0 : Int64)), (.long (0 : Int64)), (.long (0 : Int64))]) :: []) O27) ?_
    rintro _ h100 ⟨rfl, O101⟩
    show Own.Goes _ _ _ _ _ _ _ _ _ _ _ _ _ _ _ _ _ (mkF m 246 #[.val (.long q0), .second, .val (.long q1), .second, .val (.long q2), .second, .val (.long q3), .second, .val (.int p4), .val (.int (3 : Int32)), .val (.long c0), .second, .val (.long c1), .second, .val (.long c2), .second, .val (.long c3), .second, .val (.long w0x), .second, .val (.long w1x), .second, .val (.long w2x), .second, .val (.long w3x), .second, .val (.int ux), .val (.ref a13), .unset, .unset, .unset, .unset] [])
    refine Own.aload hx (.ref a13) (hb hby at_246) rfl rfl rfl ?_
    refine Own.lload hx q2 (hb hby at_248) rfl rfl ?_
    refine Own.lload hx q3 (hb hby at_250) rfl rfl ?_
    refine Own.callV hx hZ hown (O101.exa (i := 0) rfl) (hw _ (List.mem_of_getElem? (i := 47) rfl)) (hw _ (List.mem_of_getElem? (i := 48) rfl)) (hw _ (List.mem_of_getElem? (i := 50) rfl)) (hw _ (List.mem_of_getElem? (i := 49) rfl)) (hw _ (List.mem_of_getElem? (i := 7) rfl)) (hw _ (List.mem_of_getElem? (i := 51) rfl)) (by decide) pd4 (argsL := [(.long q2), (.long q3)]) (rest := []) rfl (W := 0) (Nat.le_of_eq rfl) (rm := ({ frames := 0, cells := 0, slots := 0, locals := 0 } : Room)) (by decide) (by decide) (by decide) (by decide) (k' := 3) (n' := 39) rfl rfl (by rw [hml]; rfl) [(.long q3), (.long q2), (.ref a13)] rfl (hb hby at_252) (pc' := 255) rfl (rm8_3 l Z a0 hw a13 q2 q3 h100 n0 ra16 rb17 c0 c1 c2 c3 (0 : Int64) (0 : Int64) (0 : Int64) (0 : Int64) (0 : Int64) (0 : Int64) (0 : Int64) (0 : Int64) (0 : Int64) (0 : Int64) (0 : Int64) (0 : Int64) w0x w1x w2x w3x (0 : Int64) (0 : Int64) (0 : Int64) (0 : Int64) (0 : Int64) (0 : Int64) (0 : Int64) (0 : Int64) (0 : Int64) (0 : Int64) (0 : Int64) (0 : Int64) ([]) O101) ?_
    rintro _ h' ⟨rfl, eh⟩
    rw [eh]; clear eh h'
    show Own.Goes _ _ _ _ _ _ _ _ _ _ _ _ _ _ _ _ _ (mkF m 255 #[.val (.long q0), .second, .val (.long q1), .second, .val (.long q2), .second, .val (.long q3), .second, .val (.int p4), .val (.int (3 : Int32)), .val (.long c0), .second, .val (.long c1), .second, .val (.long c2), .second, .val (.long c3), .second, .val (.long w0x), .second, .val (.long w1x), .second, .val (.long w2x), .second, .val (.long w3x), .second, .val (.int ux), .val (.ref a13), .unset, .unset, .unset, .unset] [(.long (fLG3 q2 q3 c0 c1 c2 c3 w0x w1x w2x w3x))])
    obtain ⟨got, h_got⟩ : ∃ z : Int64, z = (fLG3 q2 q3 c0 c1 c2 c3 w0x w1x w2x w3x) := ⟨_, rfl⟩
    refine Own.lstore hx got h_got #[.val (.long q0), .second, .val (.long q1), .second, .val (.long q2), .second, .val (.long q3), .second, .val (.int p4), .val (.int (3 : Int32)), .val (.long c0), .second, .val (.long c1), .second, .val (.long c2), .second, .val (.long c3), .second, .val (.long w0x), .second, .val (.long w1x), .second, .val (.long w2x), .second, .val (.long w3x), .second, .val (.int ux), .val (.ref a13), .val (.long got), .second, .unset, .unset] (hb hby at_255) rfl rfl ?_
    refine Own.ldc2 hx hZ hown (-9223372036854775808 : Int64) (hb hby at_257) rfl (hw _ (List.mem_of_getElem? (i := 53) rfl)) ?_
    refine Own.lstore hx (-9223372036854775808 : Int64) rfl #[.val (.long q0), .second, .val (.long q1), .second, .val (.long q2), .second, .val (.long q3), .second, .val (.int p4), .val (.int (3 : Int32)), .val (.long c0), .second, .val (.long c1), .second, .val (.long c2), .second, .val (.long c3), .second, .val (.long w0x), .second, .val (.long w1x), .second, .val (.long w2x), .second, .val (.long w3x), .second, .val (.int ux), .val (.ref a13), .val (.long got), .second, .val (.long (-9223372036854775808 : Int64)), .second] (hb hby at_260) rfl rfl ?_
    refine Own.iload hx (3 : Int32) (hb hby at_262) rfl rfl ?_
    have hc102 : (0 : Int32) < (3 : Int32) := by decide
    refine Own.ifF hx (Own.z_gt (3 : Int32)) (hb hby at_264) (pcN := 267) rfl (by decide) (pcT := 287) rfl (fun _ => ?_) (fun q => absurd hc102 q)
    refine Own.iload hx (3 : Int32) (hb hby at_287) rfl rfl ?_
    refine Own.iconst hx (1 : Int32) (hb hby at_289) rfl (by decide) ?_
    have hc104 : (1 : Int32) < (3 : Int32) := by decide
    refine Own.icmpF hx (Own.q_gt (3 : Int32) (1 : Int32)) (hb hby at_290) (pcN := 293) rfl (by decide) (pcT := 313) rfl (fun _ => ?_) (fun q => absurd hc104 q)
    refine Own.iload hx (3 : Int32) (hb hby at_313) rfl rfl ?_
    refine Own.iconst hx (2 : Int32) (hb hby at_315) rfl (by decide) ?_
    have hc106 : (2 : Int32) < (3 : Int32) := by decide
    refine Own.icmpF hx (Own.q_gt (3 : Int32) (2 : Int32)) (hb hby at_316) (pcN := 319) rfl (by decide) (pcT := 339) rfl (fun _ => ?_) (fun q => absurd hc106 q)
    refine Own.iload hx (3 : Int32) (hb hby at_339) rfl rfl ?_
    refine Own.iconst hx (3 : Int32) (hb hby at_341) rfl (by decide) ?_
    have hc108 : ¬ ((3 : Int32) < (3 : Int32)) := by decide
    refine Own.icmpF hx (Own.q_gt (3 : Int32) (3 : Int32)) (hb hby at_342) (pcN := 345) rfl (by decide) (pcT := 365) rfl (fun q => absurd q hc108) (fun _ => ?_)
    refine Own.lload hx w3x (hb hby at_345) rfl rfl ?_
    refine Own.lload hx q2 (hb hby at_347) rfl rfl ?_
    refine Own.lcmp hx (hb hby at_349) rfl ?_
    obtain ⟨x3, h_x3⟩ : ∃ z : Int64, z = (if q2 < w3x then (-9223372036854775808 : Int64) else (if c3 < q3 then c3 else (-9223372036854775808 : Int64))) := ⟨_, rfl⟩
    refine Own.Goes.join (mkF m 365 #[.val (.long q0), .second, .val (.long q1), .second, .val (.long q2), .second, .val (.long q3), .second, .val (.int p4), .val (.int (3 : Int32)), .val (.long c0), .second, .val (.long c1), .second, .val (.long c2), .second, .val (.long c3), .second, .val (.long w0x), .second, .val (.long w1x), .second, .val (.long w2x), .second, .val (.long w3x), .second, .val (.int ux), .val (.ref a13), .val (.long got), .second, .val (.long x3), .second] []) (fun kJ112 => ?_) ?_
    · refine Own.ifF hx (Own.w_gt w3x q2) (hb hby at_350) (pcN := 353) rfl (by decide) (pcT := 365) rfl (fun hc110 => ?_) (fun hc110 => ?_)
      · try simp only [if_pos hc110] at h_x3
        subst h_x3
        exact kJ112
      · refine Own.lload hx c3 (hb hby at_353) rfl rfl ?_
        refine Own.lload hx q3 (hb hby at_355) rfl rfl ?_
        refine Own.lcmp hx (hb hby at_357) rfl ?_
        refine Own.ifFn hx (Own.w_ge c3 q3) (hb hby at_358) (pcN := 361) rfl (by decide) (pcT := 365) rfl (fun hc113 => ?_) (fun hc113 => ?_)
        · try simp only [if_neg hc110, if_neg hc113] at h_x3
          subst h_x3
          exact kJ112
        · refine Own.lload hx c3 (hb hby at_361) rfl rfl ?_
          refine Own.lstore hx c3 rfl #[.val (.long q0), .second, .val (.long q1), .second, .val (.long q2), .second, .val (.long q3), .second, .val (.int p4), .val (.int (3 : Int32)), .val (.long c0), .second, .val (.long c1), .second, .val (.long c2), .second, .val (.long c3), .second, .val (.long w0x), .second, .val (.long w1x), .second, .val (.long w2x), .second, .val (.long w3x), .second, .val (.int ux), .val (.ref a13), .val (.long got), .second, .val (.long c3), .second] (hb hby at_363) rfl rfl ?_
          try simp only [if_neg hc110, if_pos hc113] at h_x3
          subst h_x3
          exact kJ112
    refine Own.lload hx got (hb hby at_365) rfl rfl ?_
    refine Own.lload hx x3 (hb hby at_367) rfl rfl ?_
    refine Own.lcmp hx (hb hby at_369) rfl ?_
    obtain ⟨z, h_z⟩ : ∃ z : Int32, z = (if got = x3 then (1 : Int32) else (0 : Int32)) := ⟨_, rfl⟩
    refine Own.Goes.join (mkF m 378 #[.val (.long q0), .second, .val (.long q1), .second, .val (.long q2), .second, .val (.long q3), .second, .val (.int p4), .val (.int (3 : Int32)), .val (.long c0), .second, .val (.long c1), .second, .val (.long c2), .second, .val (.long c3), .second, .val (.long w0x), .second, .val (.long w1x), .second, .val (.long w2x), .second, .val (.long w3x), .second, .val (.int ux), .val (.ref a13), .val (.long got), .second, .val (.long x3), .second] [(.int z)]) (fun kJ115 => ?_) ?_
    · refine Own.ifFn hx (Own.w_ne got x3) (hb hby at_370) (pcN := 373) rfl (by decide) (pcT := 377) rfl (fun hc114 => ?_) (fun hc114 => ?_)
      · refine Own.iconst hx (0 : Int32) (hb hby at_377) rfl (by decide) ?_
        try simp only [if_neg hc114] at h_z
        subst h_z
        exact kJ115
      · refine Own.iconst hx (1 : Int32) (hb hby at_373) rfl (by decide) ?_
        refine Own.goto hx (hb hby at_374) (by decide) (pc' := 378) rfl ?_
        try simp only [if_pos hc114] at h_z
        subst h_z
        exact kJ115
    exact Own.retS hx hret (by simp) hlk (hb hby at_378) (by decide) (by decide) (Own.bool1 (own_fin3 (own_cs h_c0 h_c1 h_c2 h_c3) (own_ws h_w0 h_w1 h_w2 h_w3 h_w3x h_w2x h_w1x h_w0x) h_got h_x3 h_z))
  · subst q
    refine Own.aload hx (.ref a13) (hb hby at_239) rfl rfl rfl ?_
    refine Own.iload hx (4 : Int32) (hb hby at_241) rfl rfl ?_
    refine Own.callV hx hZ hown (O27.exa (i := 0) rfl) (hw _ (List.mem_of_getElem? (i := 36) rfl)) (hw _ (List.mem_of_getElem? (i := 37) rfl)) (hw _ (List.mem_of_getElem? (i := 39) rfl)) (hw _ (List.mem_of_getElem? (i := 38) rfl)) (hw _ (List.mem_of_getElem? (i := 7) rfl)) (hw _ (List.mem_of_getElem? (i := 40) rfl)) (by decide) pd3 (argsL := [(.int (4 : Int32))]) (rest := []) rfl (W := 0) (Nat.le_of_eq rfl) (rm := ({ frames := 1, cells := 0, slots := 0, locals := 12 } : Room)) (by decide) (by decide) (by decide) (by decide) (k' := 3) (n' := 39) rfl rfl (by rw [hml]; rfl) [(.int (4 : Int32)), (.ref a13)] rfl (hb hby at_243) (pc' := 246) rfl (rm6_4 l Z a0 hw a13 h26 n0 ra16 rb17 ((ra16, Own.ArrC Z .long [(.long c0), (.long c1), (.long c2), (.long c3), (.long (0 : Int64)), (.long (0 : Int64)), (.long (0 : Int64)), (.long (0 : Int64)), (.long (0 : Int64)), (.long (0 : Int64)), (.long (0 : Int64)), (.long (0 : Int64)), (.long (0 : Int64)), (.long (0 : Int64)), (.long (0 : Int64)), (.long (0 : Int64))]) :: (rb17, Own.ArrC Z .long [(.long w0x), (.long w1x), (.long w2x), (.long w3x), (.long (0 : Int64)), (.long (0 : Int64)), (.long (0 : Int64)), (.long (0 : Int64)), (.long (0 : Int64)), (.long (0 : Int64)), (.long (0 : Int64)), (.long (0 : Int64)), (.long (0 : Int64)), (.long (0 : Int64)), (.long (0 : Int64)), (.long (0 : Int64))]) :: []) O27) ?_
    rintro _ h116 ⟨rfl, O117⟩
    show Own.Goes _ _ _ _ _ _ _ _ _ _ _ _ _ _ _ _ _ (mkF m 246 #[.val (.long q0), .second, .val (.long q1), .second, .val (.long q2), .second, .val (.long q3), .second, .val (.int p4), .val (.int (4 : Int32)), .val (.long c0), .second, .val (.long c1), .second, .val (.long c2), .second, .val (.long c3), .second, .val (.long w0x), .second, .val (.long w1x), .second, .val (.long w2x), .second, .val (.long w3x), .second, .val (.int ux), .val (.ref a13), .unset, .unset, .unset, .unset] [])
    refine Own.aload hx (.ref a13) (hb hby at_246) rfl rfl rfl ?_
    refine Own.lload hx q2 (hb hby at_248) rfl rfl ?_
    refine Own.lload hx q3 (hb hby at_250) rfl rfl ?_
    refine Own.callV hx hZ hown (O117.exa (i := 0) rfl) (hw _ (List.mem_of_getElem? (i := 47) rfl)) (hw _ (List.mem_of_getElem? (i := 48) rfl)) (hw _ (List.mem_of_getElem? (i := 50) rfl)) (hw _ (List.mem_of_getElem? (i := 49) rfl)) (hw _ (List.mem_of_getElem? (i := 7) rfl)) (hw _ (List.mem_of_getElem? (i := 51) rfl)) (by decide) pd4 (argsL := [(.long q2), (.long q3)]) (rest := []) rfl (W := 0) (Nat.le_of_eq rfl) (rm := ({ frames := 0, cells := 0, slots := 0, locals := 0 } : Room)) (by decide) (by decide) (by decide) (by decide) (k' := 3) (n' := 39) rfl rfl (by rw [hml]; rfl) [(.long q3), (.long q2), (.ref a13)] rfl (hb hby at_252) (pc' := 255) rfl (rm8_4 l Z a0 hw a13 q2 q3 h116 n0 ra16 rb17 c0 c1 c2 c3 (0 : Int64) (0 : Int64) (0 : Int64) (0 : Int64) (0 : Int64) (0 : Int64) (0 : Int64) (0 : Int64) (0 : Int64) (0 : Int64) (0 : Int64) (0 : Int64) w0x w1x w2x w3x (0 : Int64) (0 : Int64) (0 : Int64) (0 : Int64) (0 : Int64) (0 : Int64) (0 : Int64) (0 : Int64) (0 : Int64) (0 : Int64) (0 : Int64) (0 : Int64) ([]) O117) ?_
    rintro _ h' ⟨rfl, eh⟩
    rw [eh]; clear eh h'
    show Own.Goes _ _ _ _ _ _ _ _ _ _ _ _ _ _ _ _ _ (mkF m 255 #[.val (.long q0), .second, .val (.long q1), .second, .val (.long q2), .second, .val (.long q3), .second, .val (.int p4), .val (.int (4 : Int32)), .val (.long c0), .second, .val (.long c1), .second, .val (.long c2), .second, .val (.long c3), .second, .val (.long w0x), .second, .val (.long w1x), .second, .val (.long w2x), .second, .val (.long w3x), .second, .val (.int ux), .val (.ref a13), .unset, .unset, .unset, .unset] [(.long (fLG4 q2 q3 c0 c1 c2 c3 w0x w1x w2x w3x))])
    obtain ⟨got, h_got⟩ : ∃ z : Int64, z = (fLG4 q2 q3 c0 c1 c2 c3 w0x w1x w2x w3x) := ⟨_, rfl⟩
    refine Own.lstore hx got h_got #[.val (.long q0), .second, .val (.long q1), .second, .val (.long q2), .second, .val (.long q3), .second, .val (.int p4), .val (.int (4 : Int32)), .val (.long c0), .second, .val (.long c1), .second, .val (.long c2), .second, .val (.long c3), .second, .val (.long w0x), .second, .val (.long w1x), .second, .val (.long w2x), .second, .val (.long w3x), .second, .val (.int ux), .val (.ref a13), .val (.long got), .second, .unset, .unset] (hb hby at_255) rfl rfl ?_
    refine Own.ldc2 hx hZ hown (-9223372036854775808 : Int64) (hb hby at_257) rfl (hw _ (List.mem_of_getElem? (i := 53) rfl)) ?_
    refine Own.lstore hx (-9223372036854775808 : Int64) rfl #[.val (.long q0), .second, .val (.long q1), .second, .val (.long q2), .second, .val (.long q3), .second, .val (.int p4), .val (.int (4 : Int32)), .val (.long c0), .second, .val (.long c1), .second, .val (.long c2), .second, .val (.long c3), .second, .val (.long w0x), .second, .val (.long w1x), .second, .val (.long w2x), .second, .val (.long w3x), .second, .val (.int ux), .val (.ref a13), .val (.long got), .second, .val (.long (-9223372036854775808 : Int64)), .second] (hb hby at_260) rfl rfl ?_
    refine Own.iload hx (4 : Int32) (hb hby at_262) rfl rfl ?_
    have hc118 : (0 : Int32) < (4 : Int32) := by decide
    refine Own.ifF hx (Own.z_gt (4 : Int32)) (hb hby at_264) (pcN := 267) rfl (by decide) (pcT := 287) rfl (fun _ => ?_) (fun q => absurd hc118 q)
    refine Own.iload hx (4 : Int32) (hb hby at_287) rfl rfl ?_
    refine Own.iconst hx (1 : Int32) (hb hby at_289) rfl (by decide) ?_
    have hc120 : (1 : Int32) < (4 : Int32) := by decide
    refine Own.icmpF hx (Own.q_gt (4 : Int32) (1 : Int32)) (hb hby at_290) (pcN := 293) rfl (by decide) (pcT := 313) rfl (fun _ => ?_) (fun q => absurd hc120 q)
    refine Own.iload hx (4 : Int32) (hb hby at_313) rfl rfl ?_
    refine Own.iconst hx (2 : Int32) (hb hby at_315) rfl (by decide) ?_
    have hc122 : (2 : Int32) < (4 : Int32) := by decide
    refine Own.icmpF hx (Own.q_gt (4 : Int32) (2 : Int32)) (hb hby at_316) (pcN := 319) rfl (by decide) (pcT := 339) rfl (fun _ => ?_) (fun q => absurd hc122 q)
    refine Own.iload hx (4 : Int32) (hb hby at_339) rfl rfl ?_
    refine Own.iconst hx (3 : Int32) (hb hby at_341) rfl (by decide) ?_
    have hc124 : (3 : Int32) < (4 : Int32) := by decide
    refine Own.icmpF hx (Own.q_gt (4 : Int32) (3 : Int32)) (hb hby at_342) (pcN := 345) rfl (by decide) (pcT := 365) rfl (fun _ => ?_) (fun q => absurd hc124 q)
    refine Own.lload hx got (hb hby at_365) rfl rfl ?_
    refine Own.lload hx (-9223372036854775808 : Int64) (hb hby at_367) rfl rfl ?_
    refine Own.lcmp hx (hb hby at_369) rfl ?_
    obtain ⟨z, h_z⟩ : ∃ z : Int32, z = (if got = (-9223372036854775808 : Int64) then (1 : Int32) else (0 : Int32)) := ⟨_, rfl⟩
    refine Own.Goes.join (mkF m 378 #[.val (.long q0), .second, .val (.long q1), .second, .val (.long q2), .second, .val (.long q3), .second, .val (.int p4), .val (.int (4 : Int32)), .val (.long c0), .second, .val (.long c1), .second, .val (.long c2), .second, .val (.long c3), .second, .val (.long w0x), .second, .val (.long w1x), .second, .val (.long w2x), .second, .val (.long w3x), .second, .val (.int ux), .val (.ref a13), .val (.long got), .second, .val (.long (-9223372036854775808 : Int64)), .second] [(.int z)]) (fun kJ127 => ?_) ?_
    · refine Own.ifFn hx (Own.w_ne got (-9223372036854775808 : Int64)) (hb hby at_370) (pcN := 373) rfl (by decide) (pcT := 377) rfl (fun hc126 => ?_) (fun hc126 => ?_)
      · refine Own.iconst hx (0 : Int32) (hb hby at_377) rfl (by decide) ?_
        try simp only [if_neg hc126] at h_z
        subst h_z
        exact kJ127
      · refine Own.iconst hx (1 : Int32) (hb hby at_373) rfl (by decide) ?_
        refine Own.goto hx (hb hby at_374) (by decide) (pc' := 378) rfl ?_
        try simp only [if_pos hc126] at h_z
        subst h_z
        exact kJ127
    exact Own.retS hx hret (by simp) hlk (hb hby at_378) (by decide) (by decide) (Own.bool1 (own_fin4 (own_cs h_c0 h_c1 h_c2 h_c3) (own_ws h_w0 h_w1 h_w2 h_w3 h_w3x h_w2x h_w1x h_w0x) h_got  h_z))

set_option maxRecDepth 65536 in
set_option maxHeartbeats 40000000 in
theorem comes_1 {Post : Tables → Env → Array Value → State → Outcome → State → Prop} (hpost : ∀ tb e args s v u, (limb_1_1.after args s (.returned v) u = true ∧ limb_1_2.after args s (.returned v) u = true ∧ True) → FrameEnd s (.returned v) u (Jvm.fieldLocs frame_1_writes args s ++ Jvm.arrayLocs frame_1_arrays args s ++ Jvm.staticLocs frame_1_statics s) 16 192 → Post tb e args s (.returned v) u) :
    ArmFor flags0 classFile x code maxLocals ret World_1 tables_1 room_1 Calls_1 rest_1 Pre_1 Post := by
  intro l hfl _ _ p e ha hc hk s m args below hf hA hF happ hP
  obtain ⟨hcalls, hrest, hpre⟩ := hP
  obtain ⟨-, -, -, hnamed, -, -, -, hat⟩ := (Spec.applies_iff hf).mp happ
  obtain ⟨hg, hn⟩ := and_e (Cond.before_iff.mp (show (Jvm.Cond.and given_1 narrow_1).before args s = true from hpre))
  obtain ⟨h1, g0⟩ := and_e hg
  obtain ⟨q0, g1⟩ := and_e g0
  obtain ⟨q1, g2⟩ := and_e g1
  obtain ⟨q2, g3⟩ := and_e g2
  obtain ⟨q3, g4⟩ := and_e g3
  have q4 := g4
  obtain ⟨w0, w1, w2, w3, w4, rfl⟩ : ∃ w0 w1 w2 w3 w4 : Value, args = #[w0, w1, w2, w3, w4] := by
    have hs : args.size = 5 := by simpa [Cond.value, given_1] using h1
    obtain ⟨L⟩ := args
    match L, hs with
    | [w0, w1, w2, w3, w4], _ => exact ⟨w0, w1, w2, w3, w4, rfl⟩
  have hw := fun d (hd : d ∈ tables_1) => atoms_spec (ws := Jvm.Cond.code x code maxLocals ret :: tables_1) hat d (List.mem_cons_of_mem _ hd)
  obtain ⟨i0, e0⟩ := isL_v q0
  obtain rfl : w0 = (.long i0) := Option.some.inj e0
  obtain ⟨i1, e1⟩ := isL_v q1
  obtain rfl : w1 = (.long i1) := Option.some.inj e1
  obtain ⟨i2, e2⟩ := isL_v q2
  obtain rfl : w2 = (.long i2) := Option.some.inj e2
  obtain ⟨i3, e3⟩ := isL_v q3
  obtain rfl : w3 = (.long i3) := Option.some.inj e3
  obtain ⟨i4, e4⟩ := is_v q4
  obtain rfl : w4 = (.int i4) := Option.some.inj e4
  obtain ⟨n, o, h1, h2, h3, _, L, rfl, ⟨rfl, N⟩, hq⟩ := rm0 l s _ hw i0 i1 i2 i3 i4 s.heap s.heap.size (Own.Owns.nil (Nat.le_refl _)) p e ha hc hk s m _ below hf ((Spec.applies_iff_loose hf).mp happ).1 ⟨rfl, State.Warmed39.refl s, rfl⟩ trivial
  refine ⟨n, _, h1, h2, h3, hpost _ _ _ _ _ _ ⟨Cond.after_iff.mpr rfl, Cond.after_iff.mpr (eq_i res_at (Term.int_eval (1)) rfl), trivial⟩ ⟨hq.1, hq.2.1, (hq.2.2.sift fun y hy => Or.inr (N y hy)).mono (by decide) (by decide)⟩⟩
theorem main_1_1 : Claimed_1_1 := comes_1 fun _ _ _ _ _ _ h hF => ⟨h.1, hF⟩
theorem main_1_2 : Claimed_1_2 := comes_1 fun _ _ _ _ _ _ h hF => ⟨h.2.1, hF⟩
end Jvm.Pilot.@@N@@
namespace Jvm.Pilot.@@N@@
open Jvm Jvm.ClassFile Sem Op Lib Jvm.Free Jvm.Stand Jvm.Pilot.@@N@@.Jvm.D
/-! MADE BY PROGRAM (witnessworld.py) out of the Statement's table words and the real class files: 12 classes; the members and pool entries that the words name. The judged class is class 1, her method 1. -/
namespace start1
open Jvm.ClassFile
def u (s : String) : CpInfo := .utf8 (stringToUtf16 s)
/-- a pool by its gaps: so many unusable entries, then the entry; so many at the end -/
def gap : Nat → List CpInfo → List CpInfo
  | 0, r => r
  | n + 1, r => .unusable :: gap n r
def poolList (es : List (Nat × CpInfo)) (last : Nat) : List CpInfo := es.foldr (fun e r => gap e.1 (e.2 :: r)) (gap last [])
def pool (es : List (Nat × CpInfo)) (last : Nat) : Array CpInfo := ⟨poolList es last⟩
def fileOf (pool : Array CpInfo) (this : Nat) (attrs : Array Attribute := #[]) (ms : Array MethodInfo := #[]) (fl : Nat := 33) (sup : Nat := 0) (ifs : Array Nat := #[]) (fds : Array FieldInfo := #[]) : ClassFile where
  minorVersion := 0
  majorVersion := 65
  constantPool := pool
  accessFlags := fl
  thisClass := this
  superClass := sup
  interfaces := ifs
  fields := fds
  methods := ms
  attributes := attrs
def plain (name : String) (sup : Option ClassId) : Class where
  name := name
  kind := .ordinary
  loader := none
  accessFlags := 33
  super := sup
  interfaces := #[]
  cf := none
  fields := #[]
  methods := #[]
  instanceTypes := #[]
  staticTypes := #[]
  resolved := #[]
  callSites := []
  init := .initialized
  statics := none
  mirror := none

def pool0 : Array CpInfo := pool [(5, u "<init>"), (0, u "()V"), (1, .class_ 10), (1, u "java/lang/Object")] 113

def k0c0 : Code := { maxStack := 0, maxLocals := 1, code := object_method_1_code, exceptionTable := #[], attributes := #[] }
def k0m0 : Method := { name := "<init>", desc := "()V", sig := { parameters := [], returnType := none }, accessFlags := 1, code := some k0c0 }
/-- java/lang/Object -/
def k0 : Class := { plain "java/lang/Object" none with
  accessFlags := 33
  interfaces := #[]
  cf := some (fileOf pool0 8 #[] #[{ accessFlags := 1, nameIndex := 5, descriptorIndex := 6, attributes := #[] }] 33 0 #[] #[])
  fields := #[]
  methods := #[k0m0]
  instanceTypes := #[]
  staticTypes := #[]
  resolved := Array.replicate 124 none
  statics := none }

def pool1 : Array CpInfo := pool [(2, .class_ 4), (0, .nameAndType 5 6), (0, u "java/lang/Object"), (0, u "<init>"), (0, u "()V"), (2, .long 9223372036854775743), (1, .long 64), (1, .methodref 14 15), (0, .class_ 16), (0, .nameAndType 17 18), (0, u "java/lang/Math"), (0, u "min"), (0, u "(II)I"), (0, .long 9223372036854775807), (1, .class_ 22), (0, u "com/example/tracewarden/tracewarden/monitor/Openings"), (0, .methodref 21 3), (0, .methodref 21 25), (0, .nameAndType 26 27), (0, u "add"), (0, u "(JJ)V"), (0, .methodref 21 29), (0, .nameAndType 30 31), (0, u "dropFirst"), (0, u "(I)V"), (0, .methodref 21 33), (0, .nameAndType 34 35), (0, u "lastGoingWith"), (0, u "(JJ)J"), (0, .long 9223372036854775808), (1, .class_ 39), (0, u "com/example/tracewarden/tracewarden/monitor/OpeningsLastGoingWithPinLaw"), (2, u "law"), (0, u "(JJJJI)Z")] 3

def k1m0 : Method := { name := "<init>", desc := "()V", sig := { parameters := [], returnType := none }, accessFlags := 1, code := none }
def k1c1 : Code := { maxStack := 5, maxLocals := 32, code := code, exceptionTable := #[], attributes := #[] }
def k1m1 : Method := { name := "law", desc := "(JJJJI)Z", sig := { parameters := [.long, .long, .long, .long, .int], returnType := some .boolean }, accessFlags := 9, code := some k1c1 }
/-- com/example/tracewarden/tracewarden/monitor/OpeningsLastGoingWithPinLaw -/
def k1 : Class := { plain "com/example/tracewarden/tracewarden/monitor/OpeningsLastGoingWithPinLaw" (some 0) with
  accessFlags := 49
  interfaces := #[]
  cf := some (fileOf pool1 38 #[] #[{ accessFlags := 1, nameIndex := 5, descriptorIndex := 6, attributes := #[] }, { accessFlags := 9, nameIndex := 42, descriptorIndex := 43, attributes := #[] }] 49 2 #[] #[])
  fields := #[]
  methods := #[k1m0, k1m1]
  instanceTypes := #[]
  staticTypes := #[]
  resolved := Array.replicate 47 none
  statics := none }

def pool2 : Array CpInfo := pool [(1, .class_ 2), (0, u "java/lang/Math"), (1, .class_ 6), (1, u "java/lang/Object"), (0, u "<init>"), (0, u "()V"), (89, .class_ 100), (1, u "java/lang/Math$RandomNumberGeneratorHolder"), (71, u "negativeZeroFloatBits"), (0, u "J"), (2, u "negativeZeroDoubleBits"), (24, u "min"), (43, u "$assertionsDisabled"), (0, u "Z"), (88, u "(II)I"), (2, u "twoToTheDoubleScaleDown"), (0, u "D"), (4, u "twoToTheDoubleScaleUp"), (9, u "E"), (3, u "PI"), (2, u "TAU"), (2, u "DEGREES_TO_RADIANS"), (0, u "RADIANS_TO_DEGREES")] 94

def k2m0 : Method := { name := "<init>", desc := "()V", sig := { parameters := [], returnType := none }, accessFlags := 2, code := none }
def k2c1 : Code := { maxStack := 2, maxLocals := 2, code := jdk_29_method_69_code, exceptionTable := #[], attributes := #[] }
def k2m1 : Method := { name := "min", desc := "(II)I", sig := { parameters := [.int, .int], returnType := some .int }, accessFlags := 9, code := some k2c1 }
/-- java/lang/Math -/
def k2 : Class := { plain "java/lang/Math" (some 0) with
  accessFlags := 49
  interfaces := #[]
  cf := some (fileOf pool2 1 #[.nestMembers #[98]] #[{ accessFlags := 2, nameIndex := 7, descriptorIndex := 8, attributes := #[] }, { accessFlags := 9, nameIndex := 201, descriptorIndex := 335, attributes := #[] }] 49 4 #[] #[{ accessFlags := 25, nameIndex := 354, descriptorIndex := 339, attributes := #[] }, { accessFlags := 25, nameIndex := 358, descriptorIndex := 339, attributes := #[] }, { accessFlags := 25, nameIndex := 361, descriptorIndex := 339, attributes := #[] }, { accessFlags := 26, nameIndex := 364, descriptorIndex := 339, attributes := #[] }, { accessFlags := 26, nameIndex := 365, descriptorIndex := 339, attributes := #[] }, { accessFlags := 26, nameIndex := 172, descriptorIndex := 173, attributes := #[] }, { accessFlags := 26, nameIndex := 176, descriptorIndex := 173, attributes := #[] }, { accessFlags := 8, nameIndex := 344, descriptorIndex := 339, attributes := #[] }, { accessFlags := 8, nameIndex := 338, descriptorIndex := 339, attributes := #[] }, { accessFlags := 4120, nameIndex := 245, descriptorIndex := 246, attributes := #[] }])
  fields := #[{ name := "E", type := .double, accessFlags := 25, slot := 0, constantValue := 0 }, { name := "PI", type := .double, accessFlags := 25, slot := 1, constantValue := 0 }, { name := "TAU", type := .double, accessFlags := 25, slot := 2, constantValue := 0 }, { name := "DEGREES_TO_RADIANS", type := .double, accessFlags := 26, slot := 3, constantValue := 0 }, { name := "RADIANS_TO_DEGREES", type := .double, accessFlags := 26, slot := 4, constantValue := 0 }, { name := "negativeZeroFloatBits", type := .long, accessFlags := 26, slot := 5, constantValue := 0 }, { name := "negativeZeroDoubleBits", type := .long, accessFlags := 26, slot := 6, constantValue := 0 }, { name := "twoToTheDoubleScaleUp", type := .double, accessFlags := 8, slot := 7, constantValue := 0 }, { name := "twoToTheDoubleScaleDown", type := .double, accessFlags := 8, slot := 8, constantValue := 0 }, { name := "$assertionsDisabled", type := .boolean, accessFlags := 4120, slot := 9, constantValue := 0 }]
  methods := #[k2m0, k2m1]
  instanceTypes := #[]
  staticTypes := #[.double, .double, .double, .double, .double, .long, .long, .double, .double, .boolean]
  resolved := Array.replicate 460 none
  statics := none }

def pool3 : Array CpInfo := pool [(1, .methodref 2 3), (0, .class_ 4), (0, .nameAndType 5 6), (0, u "java/lang/Object"), (0, u "<init>"), (0, u "()V"), (0, .fieldref 8 9), (0, .class_ 10), (0, .nameAndType 11 12), (0, u "com/example/tracewarden/tracewarden/monitor/Openings"), (0, u "cells"), (0, u "[J"), (0, .fieldref 8 14), (0, .nameAndType 15 12), (0, u "inner"), (0, .fieldref 8 17), (0, .nameAndType 18 19), (0, u "lastFound"), (0, u "I"), (0, .fieldref 8 21), (0, .nameAndType 22 19), (0, u "foundBefore"), (3, .fieldref 8 27), (0, .nameAndType 28 29), (0, u "times"), (0, u "[Ljava/math/BigDecimal;"), (0, .fieldref 8 31), (0, .nameAndType 32 19), (0, u "count"), (0, .fieldref 8 34), (0, .nameAndType 35 19), (0, u "first"), (2, u "add"), (0, u "(JJ)V"), (0, .methodref 8 41), (0, .nameAndType 42 6), (0, u "makeRoom"), (16, u "lastGoingWith"), (0, u "(JJ)J"), (0, .long 9223372036854775808), (5, .methodref 8 68), (0, .nameAndType 69 6), (0, u "dropOldest"), (46, u "UNTOLD"), (0, u "Ljava/util/function/LongConsumer;"), (14, u "(I)V"), (7, u "GUESSES"), (2, u "SLACK"), (18, u "dropFirst")] 35

def k3c0 : Code := { maxStack := 2, maxLocals := 1, code := prog_92_method_1_code, exceptionTable := #[], attributes := #[] }
def k3m0 : Method := { name := "<init>", desc := "()V", sig := { parameters := [], returnType := none }, accessFlags := 0, code := some k3c0 }
def k3c1 : Code := { maxStack := 6, maxLocals := 5, code := prog_92_method_8_code, exceptionTable := #[], attributes := #[] }
def k3m1 : Method := { name := "add", desc := "(JJ)V", sig := { parameters := [.long, .long], returnType := none }, accessFlags := 0, code := some k3c1 }
def k3c2 : Code := { maxStack := 4, maxLocals := 1, code := prog_92_method_10_code, exceptionTable := #[], attributes := #[] }
def k3m2 : Method := { name := "makeRoom", desc := "()V", sig := { parameters := [], returnType := none }, accessFlags := 2, code := some k3c2 }
def k3c3 : Code := { maxStack := 4, maxLocals := 8, code := prog_92_method_13_code, exceptionTable := #[], attributes := #[] }
def k3m3 : Method := { name := "lastGoingWith", desc := "(JJ)J", sig := { parameters := [.long, .long], returnType := some .long }, accessFlags := 0, code := some k3c3 }
def k3c4 : Code := { maxStack := 2, maxLocals := 3, code := prog_92_method_16_code, exceptionTable := #[], attributes := #[] }
def k3m4 : Method := { name := "dropFirst", desc := "(I)V", sig := { parameters := [.int], returnType := none }, accessFlags := 0, code := some k3c4 }
def k3c5 : Code := { maxStack := 3, maxLocals := 1, code := prog_92_method_21_code, exceptionTable := #[], attributes := #[] }
def k3m5 : Method := { name := "dropOldest", desc := "()V", sig := { parameters := [], returnType := none }, accessFlags := 2, code := some k3c5 }
/-- com/example/tracewarden/tracewarden/monitor/Openings -/
def k3 : Class := { plain "com/example/tracewarden/tracewarden/monitor/Openings" (some 0) with
  accessFlags := 48
  interfaces := #[]
  cf := some (fileOf pool3 8 #[] #[{ accessFlags := 0, nameIndex := 5, descriptorIndex := 6, attributes := #[] }, { accessFlags := 0, nameIndex := 38, descriptorIndex := 39, attributes := #[] }, { accessFlags := 2, nameIndex := 42, descriptorIndex := 6, attributes := #[] }, { accessFlags := 0, nameIndex := 59, descriptorIndex := 60, attributes := #[] }, { accessFlags := 0, nameIndex := 162, descriptorIndex := 132, attributes := #[] }, { accessFlags := 2, nameIndex := 69, descriptorIndex := 6, attributes := #[] }] 48 2 #[] #[{ accessFlags := 26, nameIndex := 140, descriptorIndex := 19, attributes := #[] }, { accessFlags := 26, nameIndex := 143, descriptorIndex := 19, attributes := #[] }, { accessFlags := 24, nameIndex := 116, descriptorIndex := 117, attributes := #[] }, { accessFlags := 2, nameIndex := 11, descriptorIndex := 12, attributes := #[] }, { accessFlags := 2, nameIndex := 15, descriptorIndex := 12, attributes := #[] }, { accessFlags := 2, nameIndex := 28, descriptorIndex := 29, attributes := #[] }, { accessFlags := 2, nameIndex := 35, descriptorIndex := 19, attributes := #[] }, { accessFlags := 2, nameIndex := 32, descriptorIndex := 19, attributes := #[] }, { accessFlags := 2, nameIndex := 18, descriptorIndex := 19, attributes := #[] }, { accessFlags := 2, nameIndex := 22, descriptorIndex := 19, attributes := #[] }])
  fields := #[{ name := "GUESSES", type := .int, accessFlags := 26, slot := 0, constantValue := 0 }, { name := "SLACK", type := .int, accessFlags := 26, slot := 1, constantValue := 0 }, { name := "UNTOLD", type := (.object "java/util/function/LongConsumer"), accessFlags := 24, slot := 2, constantValue := 0 }, { name := "cells", type := (.array .long), accessFlags := 2, slot := 0, constantValue := 0 }, { name := "inner", type := (.array .long), accessFlags := 2, slot := 1, constantValue := 0 }, { name := "times", type := (.array (.object "java/math/BigDecimal")), accessFlags := 2, slot := 2, constantValue := 0 }, { name := "first", type := .int, accessFlags := 2, slot := 3, constantValue := 0 }, { name := "count", type := .int, accessFlags := 2, slot := 4, constantValue := 0 }, { name := "lastFound", type := .int, accessFlags := 2, slot := 5, constantValue := 0 }, { name := "foundBefore", type := .int, accessFlags := 2, slot := 6, constantValue := 0 }]
  methods := #[k3m0, k3m1, k3m2, k3m3, k3m4, k3m5]
  instanceTypes := #[(.array .long), (.array .long), (.array (.object "java/math/BigDecimal")), .int, .int, .int, .int]
  staticTypes := #[.int, .int, (.object "java/util/function/LongConsumer")]
  resolved := Array.replicate 198 none
  statics := none }

def pool4 : Array CpInfo := pool [(1, u "java/lang/Cloneable"), (0, .class_ 1), (0, u "java/lang/Object"), (0, .class_ 3)] 3

/-- java/lang/Cloneable -/
def k4 : Class := { plain "java/lang/Cloneable" (some 0) with
  accessFlags := 1537
  interfaces := #[]
  cf := some (fileOf pool4 2 #[] #[] 1537 4 #[] #[])
  fields := #[]
  methods := #[]
  instanceTypes := #[]
  staticTypes := #[]
  resolved := Array.replicate 8 none
  statics := none }

def pool5 : Array CpInfo := pool [(1, u "java/io/Serializable"), (0, .class_ 1), (0, u "java/lang/Object"), (0, .class_ 3)] 3

/-- java/io/Serializable -/
def k5 : Class := { plain "java/io/Serializable" (some 0) with
  accessFlags := 1537
  interfaces := #[]
  cf := some (fileOf pool5 2 #[] #[] 1537 4 #[] #[])
  fields := #[]
  methods := #[]
  instanceTypes := #[]
  staticTypes := #[]
  resolved := Array.replicate 8 none
  statics := none }

/-- the primitive byte -/
def k6 : Class := { plain "byte" none with kind := .primitive 'B', accessFlags := 0x411 }
/-- [B -/
def k7 : Class := { plain "[B" (some 0) with kind := .array 6 .byte, interfaces := #[4, 5], accessFlags := 1041 }

/-- the primitive int -/
def k8 : Class := { plain "int" none with kind := .primitive 'I', accessFlags := 0x411 }
/-- [I -/
def k9 : Class := { plain "[I" (some 0) with kind := .array 8 .int, interfaces := #[4, 5], accessFlags := 1041 }

/-- the primitive long -/
def k10 : Class := { plain "long" none with kind := .primitive 'J', accessFlags := 0x411 }
/-- [J -/
def k11 : Class := { plain "[J" (some 0) with kind := .array 10 .long, interfaces := #[4, 5], accessFlags := 1041 }

def heap : Heap := #[]
def classes : Array Class := #[k0, k1, k2, k3, k4, k5, k6, k7, k8, k9, k10, k11]
def interned : List (Array UInt16 × Addr) := []
def slotsUsed : Nat := 0
def theMethod : MethodId := ⟨1, 1⟩
def args0 : Array Value := #[.long 5, .long 7, .long 9, .long 11, .int 300]
def aboutOver (below : List Frame) : State where
  vm := { classes := classes, interned := interned.toArray }
  heap := heap
  slotsUsed := slotsUsed
  threads := #[{ frames := .invoking theMethod args0 :: below }]
def below0 : List Frame := [.native { method := ⟨0, 0⟩, args := #[] }]
def about1 : State := aboutOver below0
def p0 : Program := .bare "" "" ""
def e0 : Env := launch0.env 0 0 0
theorem w_frames : about1.frames = Frame.invoking theMethod args0 :: below0 := rfl
set_option maxRecDepth 65536 in
theorem w_args : argsFit about1.vm theMethod args0 = true := by decide +kernel
set_option maxRecDepth 65536 in
theorem w_heap : heapFits about1 = true := by decide +kernel
set_option maxRecDepth 65536 in
theorem w_runnable : about1.curStatus? = some .runnable := by decide +kernel
set_option maxRecDepth 65536 in
theorem w_alone : about1.alone = true := by decide +kernel
set_option maxRecDepth 65536 in
theorem w_named : about1.methodNamed? x = some theMethod := by decide +kernel
set_option maxRecDepth 65536 in
theorem w_hears : about1.hears theMethod below0 = true := by decide +kernel
set_option maxRecDepth 65536 in
theorem w_ripe : about1.ripe theMethod args0 below0 = true := by decide +kernel
theorem w_running : about1.status = .running := rfl
set_option maxRecDepth 65536 in
theorem w_room : about1.hasRoom e0.platform room_1 = true :=
  launch0.hasRoom_least _ room_1 (by decide +kernel) (by decide +kernel) (by decide +kernel) (by decide +kernel) (by decide +kernel) (by decide +kernel)
theorem allAtoms_all (ts : List Jvm.Cond) (a : Array Jvm.Value) (st : Jvm.State) : (allAtoms ts).before a st = ts.all (fun c => c.before a st) := by
  induction ts with
  | nil => rfl
  | cons c t ih =>
    show (Jvm.Cond.and c (allAtoms t)).before a st = _
    rw [Jvm.Cond.before_and, ih, List.all_cons]
def words1 : List Jvm.Cond := Jvm.Cond.code x code maxLocals ret :: tables_1
/-- a 'code' word, met by the world's own term for the bytes: nothing is compared byte by byte -/
theorem code_word {y : MethodName} {bytes : ByteArray} {mx : Nat} {rt : Option FieldType} {a : Array Value} {s : State} {m : MethodId} {meth : Method} {c : Code} (h1 : s.methodNamed? y = some m) (h2 : s.vm.method? m = some meth) (h3 : meth.code = some c) (h4 : c.code = bytes)
    (h5 : (c.maxLocals == mx && c.exceptionTable.isEmpty && decide (c.maxStack ≤ mostOperands) && decide (meth.sig.returnType = rt) && !meth.locks && decide (parseMethodDescriptor y.desc = some meth.sig)) = true) : (Jvm.Cond.code y bytes mx rt).before a s = true := by
  simp only [Bool.and_eq_true, beq_iff_eq, Bool.not_eq_true', decide_eq_true_eq] at h5
  obtain ⟨⟨⟨⟨⟨g1, g2⟩, g3⟩, g4⟩, g5⟩, g6⟩ := h5
  simp [Cond.before, Cond.holds, Cond.value, h1, h2, h3, h4, g1, g2, g3, g4, g5, g6]
def isCode : Jvm.Cond → Bool
  | .code _ _ _ _ => true
  | _ => false
theorem all_split {L : List Jvm.Cond} {P : Jvm.Cond → Bool} (h1 : L.all (fun c => isCode c || P c) = true) (h2 : ∀ c ∈ L.filter isCode, P c = true) : L.all P = true := by
  refine List.all_eq_true.mpr fun c hc => ?_
  have h := List.all_eq_true.mp h1 c hc
  rcases Bool.eq_false_or_eq_true (isCode c) with hi | hi
  · exact h2 c (List.mem_filter.mpr ⟨hc, hi⟩)
  · simpa [hi] using h
set_option maxRecDepth 65536 in
theorem w_c0 : (Jvm.Cond.code x code maxLocals ret).before args0 about1 = true := code_word (m := ⟨1, 1⟩) (meth := k1m1) (c := k1c1) (by decide +kernel) rfl rfl rfl (by decide +kernel)
set_option maxRecDepth 65536 in
theorem w_c1 : (Jvm.Cond.code ({ cls := "java/lang/Math", name := "min", desc := "(II)I" } : Jvm.MethodName) jdk_29_method_69_code (2 : Nat) (Option.some Jvm.ClassFile.FieldType.int)).before args0 about1 = true := code_word (m := ⟨2, 1⟩) (meth := k2m1) (c := k2c1) (by decide +kernel) rfl rfl rfl (by decide +kernel)
set_option maxRecDepth 65536 in
theorem w_c2 : (Jvm.Cond.code ({ cls := "com/example/tracewarden/tracewarden/monitor/Openings", name := "<init>", desc := "()V" } : Jvm.MethodName) prog_92_method_1_code (1 : Nat) (Option.none : Option Jvm.ClassFile.FieldType)).before args0 about1 = true := code_word (m := ⟨3, 0⟩) (meth := k3m0) (c := k3c0) (by decide +kernel) rfl rfl rfl (by decide +kernel)
set_option maxRecDepth 65536 in
theorem w_c3 : (Jvm.Cond.code ({ cls := "java/lang/Object", name := "<init>", desc := "()V" } : Jvm.MethodName) object_method_1_code (1 : Nat) (Option.none : Option Jvm.ClassFile.FieldType)).before args0 about1 = true := code_word (m := ⟨0, 0⟩) (meth := k0m0) (c := k0c0) (by decide +kernel) rfl rfl rfl (by decide +kernel)
set_option maxRecDepth 65536 in
theorem w_c4 : (Jvm.Cond.code ({ cls := "com/example/tracewarden/tracewarden/monitor/Openings", name := "add", desc := "(JJ)V" } : Jvm.MethodName) prog_92_method_8_code (5 : Nat) (Option.none : Option Jvm.ClassFile.FieldType)).before args0 about1 = true := code_word (m := ⟨3, 1⟩) (meth := k3m1) (c := k3c1) (by decide +kernel) rfl rfl rfl (by decide +kernel)
set_option maxRecDepth 65536 in
theorem w_c5 : (Jvm.Cond.code ({ cls := "com/example/tracewarden/tracewarden/monitor/Openings", name := "makeRoom", desc := "()V" } : Jvm.MethodName) prog_92_method_10_code (1 : Nat) (Option.none : Option Jvm.ClassFile.FieldType)).before args0 about1 = true := code_word (m := ⟨3, 2⟩) (meth := k3m2) (c := k3c2) (by decide +kernel) rfl rfl rfl (by decide +kernel)
set_option maxRecDepth 65536 in
theorem w_c6 : (Jvm.Cond.code ({ cls := "com/example/tracewarden/tracewarden/monitor/Openings", name := "dropFirst", desc := "(I)V" } : Jvm.MethodName) prog_92_method_16_code (3 : Nat) (Option.none : Option Jvm.ClassFile.FieldType)).before args0 about1 = true := code_word (m := ⟨3, 4⟩) (meth := k3m4) (c := k3c4) (by decide +kernel) rfl rfl rfl (by decide +kernel)
set_option maxRecDepth 65536 in
theorem w_c7 : (Jvm.Cond.code ({ cls := "com/example/tracewarden/tracewarden/monitor/Openings", name := "dropOldest", desc := "()V" } : Jvm.MethodName) prog_92_method_21_code (1 : Nat) (Option.none : Option Jvm.ClassFile.FieldType)).before args0 about1 = true := code_word (m := ⟨3, 5⟩) (meth := k3m5) (c := k3c5) (by decide +kernel) rfl rfl rfl (by decide +kernel)
set_option maxRecDepth 65536 in
theorem w_c8 : (Jvm.Cond.code ({ cls := "com/example/tracewarden/tracewarden/monitor/Openings", name := "lastGoingWith", desc := "(JJ)J" } : Jvm.MethodName) prog_92_method_13_code (8 : Nat) (Option.some Jvm.ClassFile.FieldType.long)).before args0 about1 = true := code_word (m := ⟨3, 3⟩) (meth := k3m3) (c := k3c3) (by decide +kernel) rfl rfl rfl (by decide +kernel)
def codes1 : List Jvm.Cond := [Jvm.Cond.code x code maxLocals ret, Jvm.Cond.code ({ cls := "java/lang/Math", name := "min", desc := "(II)I" } : Jvm.MethodName) jdk_29_method_69_code (2 : Nat) (Option.some Jvm.ClassFile.FieldType.int), Jvm.Cond.code ({ cls := "com/example/tracewarden/tracewarden/monitor/Openings", name := "<init>", desc := "()V" } : Jvm.MethodName) prog_92_method_1_code (1 : Nat) (Option.none : Option Jvm.ClassFile.FieldType), Jvm.Cond.code ({ cls := "java/lang/Object", name := "<init>", desc := "()V" } : Jvm.MethodName) object_method_1_code (1 : Nat) (Option.none : Option Jvm.ClassFile.FieldType), Jvm.Cond.code ({ cls := "com/example/tracewarden/tracewarden/monitor/Openings", name := "add", desc := "(JJ)V" } : Jvm.MethodName) prog_92_method_8_code (5 : Nat) (Option.none : Option Jvm.ClassFile.FieldType), Jvm.Cond.code ({ cls := "com/example/tracewarden/tracewarden/monitor/Openings", name := "makeRoom", desc := "()V" } : Jvm.MethodName) prog_92_method_10_code (1 : Nat) (Option.none : Option Jvm.ClassFile.FieldType), Jvm.Cond.code ({ cls := "com/example/tracewarden/tracewarden/monitor/Openings", name := "dropFirst", desc := "(I)V" } : Jvm.MethodName) prog_92_method_16_code (3 : Nat) (Option.none : Option Jvm.ClassFile.FieldType), Jvm.Cond.code ({ cls := "com/example/tracewarden/tracewarden/monitor/Openings", name := "dropOldest", desc := "()V" } : Jvm.MethodName) prog_92_method_21_code (1 : Nat) (Option.none : Option Jvm.ClassFile.FieldType), Jvm.Cond.code ({ cls := "com/example/tracewarden/tracewarden/monitor/Openings", name := "lastGoingWith", desc := "(JJ)J" } : Jvm.MethodName) prog_92_method_13_code (8 : Nat) (Option.some Jvm.ClassFile.FieldType.long)]
set_option maxRecDepth 65536 in
theorem codes_eq : words1.filter isCode = codes1 := rfl
theorem w_codes : ∀ c ∈ words1.filter isCode, c.before args0 about1 = true := by
  rw [codes_eq]
  intro c hc
  simp only [codes1, List.mem_cons, List.not_mem_nil, or_false] at hc
  rcases hc with rfl | rfl | rfl | rfl | rfl | rfl | rfl | rfl | rfl
  · exact w_c0
  · exact w_c1
  · exact w_c2
  · exact w_c3
  · exact w_c4
  · exact w_c5
  · exact w_c6
  · exact w_c7
  · exact w_c8
set_option maxRecDepth 65536 in
theorem w_t1 : (words1.take 24).all (fun c => isCode c || c.before args0 about1) = true := by decide +kernel
set_option maxRecDepth 65536 in
theorem w_t2 : ((words1.drop 24).take 24).all (fun c => isCode c || c.before args0 about1) = true := by decide +kernel
set_option maxRecDepth 65536 in
theorem w_t3 : ((words1.drop 24).drop 24).all (fun c => isCode c || c.before args0 about1) = true := by decide +kernel
theorem w_tables : (allAtoms (Jvm.Cond.code x code maxLocals ret :: tables_1)).before args0 about1 = true := by
  rw [allAtoms_all]
  show words1.all (fun c => c.before args0 about1) = true
  refine all_split ?_ w_codes
  rw [← List.take_append_drop 24 words1, List.all_append, w_t1, ← List.take_append_drop 24 (words1.drop 24), List.all_append, w_t2, w_t3]
  rfl
set_option maxRecDepth 65536 in
theorem w_case : (Jvm.Cond.and given_1 narrow_1).before args0 about1 = true := by decide +kernel
theorem w_applies : (headSpec (Jvm.Cond.code x code maxLocals ret :: tables_1) room_1).applies x e0.platform about1 = true :=
  (Spec.applies_iff w_frames).mpr ⟨w_running, w_runnable, w_alone, w_named, w_hears, w_ripe, w_room, w_tables⟩
theorem atStart : AtStart classFile x code maxLocals ret World_1 tables_1 room_1 Calls_1 rest_1 Pre_1 launch0 p0 e0 about1 theMethod args0 below0 :=
  ⟨lists_1, trivial, launch0.admits_env _ _ _, launch0.least_env, fairChoices_fair.cas, fairChoices_fair.clock, w_frames, w_args, w_heap, w_applies, trivial, trivial, w_case⟩
end start1
theorem witness_1 : WitnessClaimed_1 := ⟨start1.p0, start1.e0, start1.about1, start1.theMethod, start1.args0, start1.below0, start1.atStart⟩
end Jvm.Pilot.@@N@@
