import JvmDerived
import JvmDerived.Pilot.@@N@@Statement
import JvmDerived.Pilot.@@N@@Code
set_option linter.unusedVariables false
set_option linter.unusedSimpArgs false
namespace Jvm.Pilot.@@N@@
open Jvm Jvm.ClassFile Sem Op Lib Jvm.Free Jvm.Stand Jvm.LawKit Jvm.RoadKit Bundle Jvm.Pilot.@@N@@.Jvm.D
namespace Own
section Eng
/-- from the frame g over the heap h, with k cells and n slots made so far, every standing run ends as Fn says, having written at or above n0 alone -/
def Goes (p : Program) (l : Launch) (e : Env) (R : Room) (s : State) (m : MethodId) (args : Array Value) (below : List Frame) (meth : Method) (c : Code) (n0 mc ms : Nat) (Fn : Option Value → Heap → Prop) (h : Heap) (k n : Nat) (g : JFrame) : Prop :=
  ∀ (T : State) (locs : List Loc), Stand p l e R s m args below meth c T locs k n → Fr n0 locs → T.heap = h →
    ∃ (s₂ : State) (o : Outcome), Steps p.tables e below (T.setTop g) s₂ ∧ s₂.status = .running ∧ Ended s₂ below o ∧ ∃ (v : Option Value) (L : List Loc), o = .returned v ∧ (Fn v s₂.heap ∧ Fr n0 L) ∧ FrameEnd s o s₂ L mc ms
/-- the contract of a method at one list of arguments and one heap -/
def Does (l : Launch) (y : MethodName) (bytes : ByteArray) (maxL : Nat) (ret : Option FieldType) (ws : List Jvm.Cond) (rm : Room) (Z : State) (as' : Array Value) (h0 : Heap) (n0 : Nat) (Fn : Option Value → Heap → Prop) : Prop :=
  MetFree l y (head1 (Jvm.Cond.code y bytes maxL ret :: ws) rm) (fun a U => a = as' ∧ Z.Warmed39 U.vm ∧ U.heap = h0) (fun _ _ _ _ _ => True) (fun _ U o U' => ∃ v L, o = .returned v ∧ (Fn v U'.heap ∧ Fr n0 L) ∧ FrameEnd U o U' L rm.cells rm.slots)
variable {p : Program} {l : Launch} {e : Env} {R : Room} {s : State} {m : MethodId} {args : Array Value} {below : List Frame} {meth : Method} {c : Code} {n0 mc ms : Nat} {Fn : Option Value → Heap → Prop} {h : Heap} {k n : Nat}
theorem doesOf {y : MethodName} {bytes : ByteArray} {maxL : Nat} {ret : Option FieldType} {ws : List Jvm.Cond} {rm : Room} {Z : State} {as' : Array Value} {h0 : Heap} (hy : plainFor y = true)
    (body : ∀ (p : Program) (e : Env) (s : State) (m : MethodId) (below : List Frame) (meth : Method) (c : Code), p.tables.exec = Jvm.exec → c.code = bytes → c.maxLocals = maxL → meth.sig.returnType = ret → meth.locks = false → s.vm.findClass y.cls = some m.cls → meth.name = y.name → Z.Warmed39 s.vm →
      Goes p l e rm s m as' below meth c n0 rm.cells rm.slots Fn h0 0 0 (entryFrame m as' maxL)) : Does l y bytes maxL ret ws rm Z as' h0 n0 Fn := by
  refine MetFree.of_bodySF hy hisR ?_
  intro p e s m args below meth c s₁ Bd hml hP _
  obtain ⟨rfl, hZ, hh⟩ := hP
  have e0 : s₁.heap = h0 := by rw [← hh, Bd.state]; rfl
  obtain ⟨s₂, o, h1, h2, h3, h4⟩ := body p e s m below meth c Bd.exec Bd.bytes hml Bd.returns Bd.notSynchronized (findClass_of_methodNamed Bd.named) (name_of_methodNamed Bd.named Bd.method).1 hZ s₁ [] (Stand.of_body Bd) (Fr.nil n0) e0
  exact ⟨s₂, o, h1, h2, h3, h4⟩
theorem Goes.pure {g g' : JFrame} (st : ∀ (T : State) (locs : List Loc) (t : State), Stand p l e R s m args below meth c T locs k n → Steps p.tables e below (T.setTop g') t → Steps p.tables e below (T.setTop g) t) (K : Goes p l e R s m args below meth c n0 mc ms Fn h k n g') : Goes p l e R s m args below meth c n0 mc ms Fn h k n g := fun T locs X N eT => by
  obtain ⟨s₂, o, hs, r⟩ := K T locs X N eT
  exact ⟨s₂, o, st T locs s₂ X hs, r⟩
theorem Goes.move {g g' : JFrame} {k' n' : Nat} {Pr : Heap → Prop} (st : ∀ (T : State) (locs : List Loc), Stand p l e R s m args below meth c T locs k n → Fr n0 locs → T.heap = h → ∃ (T' : State) (locs' : List Loc), Stand p l e R s m args below meth c T' locs' k' n' ∧ Fr n0 locs' ∧ Pr T'.heap ∧ ∀ t, Steps p.tables e below (T'.setTop g') t → Steps p.tables e below (T.setTop g) t)
    (K : ∀ h', Pr h' → Goes p l e R s m args below meth c n0 mc ms Fn h' k' n' g') : Goes p l e R s m args below meth c n0 mc ms Fn h k n g := fun T locs X N eT => by
  obtain ⟨T', locs', X', N', hP, st'⟩ := st T locs X N eT
  obtain ⟨s₂, o, hs, r⟩ := K T'.heap hP T' locs' X' N' rfl
  exact ⟨s₂, o, st' s₂ hs, r⟩
theorem Goes.join {g : JFrame} (g' : JFrame) (K1 : Goes p l e R s m args below meth c n0 mc ms Fn h k n g' → Goes p l e R s m args below meth c n0 mc ms Fn h k n g) (K2 : Goes p l e R s m args below meth c n0 mc ms Fn h k n g') : Goes p l e R s m args below meth c n0 mc ms Fn h k n g := K1 K2
theorem Goes.cast {g g' : JFrame} (q : g = g') (K : Goes p l e R s m args below meth c n0 mc ms Fn h k n g') : Goes p l e R s m args below meth c n0 mc ms Fn h k n g := q ▸ K
theorem Goes.fin {Fn' : Option Value → Heap → Prop} {g : JFrame} (q : ∀ v h, Fn v h → Fn' v h) (K : Goes p l e R s m args below meth c n0 mc ms Fn h k n g) : Goes p l e R s m args below meth c n0 mc ms Fn' h k n g := fun T locs X N eT => by
  obtain ⟨s₂, o, h1, h2, h3, v, L, h4, ⟨h5, h6⟩, h7⟩ := K T locs X N eT
  exact ⟨s₂, o, h1, h2, h3, v, L, h4, ⟨q _ _ h5, h6⟩, h7⟩

theorem iadd (hx : p.tables.exec = Jvm.exec) {pc pc' : Nat} {Ls : Array Slot} {x y : Int32} {rest : List Value} (hd : decode c.code pc = .ok (.iadd, 1)) (hp : pc + 1 = pc') (K : Goes p l e R s m args below meth c n0 mc ms Fn h k n (mkF m pc' Ls (.int (x + y) :: rest))) : Goes p l e R s m args below meth c n0 mc ms Fn h k n (mkF m pc Ls (.int y :: .int x :: rest)) := by
  subst hp; exact K.pure fun T locs t X hs => XS.iadd X.here hx rfl hd rfl hs
theorem isub (hx : p.tables.exec = Jvm.exec) {pc pc' : Nat} {Ls : Array Slot} {x y : Int32} {rest : List Value} (hd : decode c.code pc = .ok (.isub, 1)) (hp : pc + 1 = pc') (K : Goes p l e R s m args below meth c n0 mc ms Fn h k n (mkF m pc' Ls (.int (x - y) :: rest))) : Goes p l e R s m args below meth c n0 mc ms Fn h k n (mkF m pc Ls (.int y :: .int x :: rest)) := by
  subst hp; exact K.pure fun T locs t X hs => XS.isub X.here hx rfl hd rfl hs
theorem imul (hx : p.tables.exec = Jvm.exec) {pc pc' : Nat} {Ls : Array Slot} {x y : Int32} {rest : List Value} (hd : decode c.code pc = .ok (.imul, 1)) (hp : pc + 1 = pc') (K : Goes p l e R s m args below meth c n0 mc ms Fn h k n (mkF m pc' Ls (.int (x * y) :: rest))) : Goes p l e R s m args below meth c n0 mc ms Fn h k n (mkF m pc Ls (.int y :: .int x :: rest)) := by
  subst hp; exact K.pure fun T locs t X hs => XS.imul X.here hx rfl hd rfl hs
theorem iand (hx : p.tables.exec = Jvm.exec) {pc pc' : Nat} {Ls : Array Slot} {x y : Int32} {rest : List Value} (hd : decode c.code pc = .ok (.iand, 1)) (hp : pc + 1 = pc') (K : Goes p l e R s m args below meth c n0 mc ms Fn h k n (mkF m pc' Ls (.int (x &&& y) :: rest))) : Goes p l e R s m args below meth c n0 mc ms Fn h k n (mkF m pc Ls (.int y :: .int x :: rest)) := by
  subst hp; exact K.pure fun T locs t X hs => XS.iand X.here hx rfl hd rfl hs
theorem ior (hx : p.tables.exec = Jvm.exec) {pc pc' : Nat} {Ls : Array Slot} {x y : Int32} {rest : List Value} (hd : decode c.code pc = .ok (.ior, 1)) (hp : pc + 1 = pc') (K : Goes p l e R s m args below meth c n0 mc ms Fn h k n (mkF m pc' Ls (.int (x ||| y) :: rest))) : Goes p l e R s m args below meth c n0 mc ms Fn h k n (mkF m pc Ls (.int y :: .int x :: rest)) := by
  subst hp; exact K.pure fun T locs t X hs => XS.ior X.here hx rfl hd rfl hs
theorem ixor (hx : p.tables.exec = Jvm.exec) {pc pc' : Nat} {Ls : Array Slot} {x y : Int32} {rest : List Value} (hd : decode c.code pc = .ok (.ixor, 1)) (hp : pc + 1 = pc') (K : Goes p l e R s m args below meth c n0 mc ms Fn h k n (mkF m pc' Ls (.int (x ^^^ y) :: rest))) : Goes p l e R s m args below meth c n0 mc ms Fn h k n (mkF m pc Ls (.int y :: .int x :: rest)) := by
  subst hp; exact K.pure fun T locs t X hs => XS.ixor X.here hx rfl hd rfl hs
theorem ishl (hx : p.tables.exec = Jvm.exec) {pc pc' : Nat} {Ls : Array Slot} {x y : Int32} {rest : List Value} (hd : decode c.code pc = .ok (.ishl, 1)) (hp : pc + 1 = pc') (K : Goes p l e R s m args below meth c n0 mc ms Fn h k n (mkF m pc' Ls (.int (x <<< (y &&& 31)) :: rest))) : Goes p l e R s m args below meth c n0 mc ms Fn h k n (mkF m pc Ls (.int y :: .int x :: rest)) := by
  subst hp; exact K.pure fun T locs t X hs => XS.ishl X.here hx rfl hd rfl hs
theorem ishr (hx : p.tables.exec = Jvm.exec) {pc pc' : Nat} {Ls : Array Slot} {x y : Int32} {rest : List Value} (hd : decode c.code pc = .ok (.ishr, 1)) (hp : pc + 1 = pc') (K : Goes p l e R s m args below meth c n0 mc ms Fn h k n (mkF m pc' Ls (.int (x >>> (y &&& 31)) :: rest))) : Goes p l e R s m args below meth c n0 mc ms Fn h k n (mkF m pc Ls (.int y :: .int x :: rest)) := by
  subst hp; exact K.pure fun T locs t X hs => XS.ishr X.here hx rfl hd rfl hs
theorem iushr (hx : p.tables.exec = Jvm.exec) {pc pc' : Nat} {Ls : Array Slot} {x y : Int32} {rest : List Value} (hd : decode c.code pc = .ok (.iushr, 1)) (hp : pc + 1 = pc') (K : Goes p l e R s m args below meth c n0 mc ms Fn h k n (mkF m pc' Ls (.int ((x.toUInt32 >>> (y &&& 31).toUInt32).toInt32) :: rest))) : Goes p l e R s m args below meth c n0 mc ms Fn h k n (mkF m pc Ls (.int y :: .int x :: rest)) := by
  subst hp; exact K.pure fun T locs t X hs => XS.iushr X.here hx rfl hd rfl hs
theorem ladd (hx : p.tables.exec = Jvm.exec) {pc pc' : Nat} {Ls : Array Slot} {x y : Int64} {rest : List Value} (hd : decode c.code pc = .ok (.ladd, 1)) (hp : pc + 1 = pc') (K : Goes p l e R s m args below meth c n0 mc ms Fn h k n (mkF m pc' Ls (.long (x + y) :: rest))) : Goes p l e R s m args below meth c n0 mc ms Fn h k n (mkF m pc Ls (.long y :: .long x :: rest)) := by
  subst hp; exact K.pure fun T locs t X hs => XS.ladd X.here hx rfl hd rfl hs
theorem lsub (hx : p.tables.exec = Jvm.exec) {pc pc' : Nat} {Ls : Array Slot} {x y : Int64} {rest : List Value} (hd : decode c.code pc = .ok (.lsub, 1)) (hp : pc + 1 = pc') (K : Goes p l e R s m args below meth c n0 mc ms Fn h k n (mkF m pc' Ls (.long (x - y) :: rest))) : Goes p l e R s m args below meth c n0 mc ms Fn h k n (mkF m pc Ls (.long y :: .long x :: rest)) := by
  subst hp; exact K.pure fun T locs t X hs => XS.lsub X.here hx rfl hd rfl hs
theorem lmul (hx : p.tables.exec = Jvm.exec) {pc pc' : Nat} {Ls : Array Slot} {x y : Int64} {rest : List Value} (hd : decode c.code pc = .ok (.lmul, 1)) (hp : pc + 1 = pc') (K : Goes p l e R s m args below meth c n0 mc ms Fn h k n (mkF m pc' Ls (.long (x * y) :: rest))) : Goes p l e R s m args below meth c n0 mc ms Fn h k n (mkF m pc Ls (.long y :: .long x :: rest)) := by
  subst hp; exact K.pure fun T locs t X hs => XS.lmul X.here hx rfl hd rfl hs
theorem land (hx : p.tables.exec = Jvm.exec) {pc pc' : Nat} {Ls : Array Slot} {x y : Int64} {rest : List Value} (hd : decode c.code pc = .ok (.land, 1)) (hp : pc + 1 = pc') (K : Goes p l e R s m args below meth c n0 mc ms Fn h k n (mkF m pc' Ls (.long (x &&& y) :: rest))) : Goes p l e R s m args below meth c n0 mc ms Fn h k n (mkF m pc Ls (.long y :: .long x :: rest)) := by
  subst hp; exact K.pure fun T locs t X hs => XS.land X.here hx rfl hd rfl hs
theorem lor (hx : p.tables.exec = Jvm.exec) {pc pc' : Nat} {Ls : Array Slot} {x y : Int64} {rest : List Value} (hd : decode c.code pc = .ok (.lor, 1)) (hp : pc + 1 = pc') (K : Goes p l e R s m args below meth c n0 mc ms Fn h k n (mkF m pc' Ls (.long (x ||| y) :: rest))) : Goes p l e R s m args below meth c n0 mc ms Fn h k n (mkF m pc Ls (.long y :: .long x :: rest)) := by
  subst hp; exact K.pure fun T locs t X hs => XS.lor X.here hx rfl hd rfl hs
theorem lxor (hx : p.tables.exec = Jvm.exec) {pc pc' : Nat} {Ls : Array Slot} {x y : Int64} {rest : List Value} (hd : decode c.code pc = .ok (.lxor, 1)) (hp : pc + 1 = pc') (K : Goes p l e R s m args below meth c n0 mc ms Fn h k n (mkF m pc' Ls (.long (x ^^^ y) :: rest))) : Goes p l e R s m args below meth c n0 mc ms Fn h k n (mkF m pc Ls (.long y :: .long x :: rest)) := by
  subst hp; exact K.pure fun T locs t X hs => XS.lxor X.here hx rfl hd rfl hs
theorem lshl (hx : p.tables.exec = Jvm.exec) {pc pc' : Nat} {Ls : Array Slot} {x : Int64} {y : Int32} {rest : List Value} (hd : decode c.code pc = .ok (.lshl, 1)) (hp : pc + 1 = pc') (K : Goes p l e R s m args below meth c n0 mc ms Fn h k n (mkF m pc' Ls (.long (x <<< (y &&& 0x3f).toInt64) :: rest))) : Goes p l e R s m args below meth c n0 mc ms Fn h k n (mkF m pc Ls (.int y :: .long x :: rest)) := by
  subst hp; exact K.pure fun T locs t X hs => XS.lshl X.here hx rfl hd rfl hs
theorem lshr (hx : p.tables.exec = Jvm.exec) {pc pc' : Nat} {Ls : Array Slot} {x : Int64} {y : Int32} {rest : List Value} (hd : decode c.code pc = .ok (.lshr, 1)) (hp : pc + 1 = pc') (K : Goes p l e R s m args below meth c n0 mc ms Fn h k n (mkF m pc' Ls (.long (x >>> (y &&& 0x3f).toInt64) :: rest))) : Goes p l e R s m args below meth c n0 mc ms Fn h k n (mkF m pc Ls (.int y :: .long x :: rest)) := by
  subst hp; exact K.pure fun T locs t X hs => XS.lshr X.here hx rfl hd rfl hs
theorem lushr (hx : p.tables.exec = Jvm.exec) {pc pc' : Nat} {Ls : Array Slot} {x : Int64} {y : Int32} {rest : List Value} (hd : decode c.code pc = .ok (.lushr, 1)) (hp : pc + 1 = pc') (K : Goes p l e R s m args below meth c n0 mc ms Fn h k n (mkF m pc' Ls (.long ((x.toUInt64 >>> (y &&& 0x3f).toInt64.toUInt64).toInt64) :: rest))) : Goes p l e R s m args below meth c n0 mc ms Fn h k n (mkF m pc Ls (.int y :: .long x :: rest)) := by
  subst hp; exact K.pure fun T locs t X hs => XS.lushr X.here hx rfl hd rfl hs
theorem lcmp (hx : p.tables.exec = Jvm.exec) {pc pc' : Nat} {Ls : Array Slot} {x y : Int64} {rest : List Value} (hd : decode c.code pc = .ok (.lcmp, 1)) (hp : pc + 1 = pc') (K : Goes p l e R s m args below meth c n0 mc ms Fn h k n (mkF m pc' Ls (.int (lcmpW x y) :: rest))) : Goes p l e R s m args below meth c n0 mc ms Fn h k n (mkF m pc Ls (.long y :: .long x :: rest)) := by
  subst hp; exact K.pure fun T locs t X hs => XS.lcmp X.here hx rfl hd rfl hs
theorem idiv (hx : p.tables.exec = Jvm.exec) {pc pc' : Nat} {Ls : Array Slot} {x y : Int32} {rest : List Value} (hd : decode c.code pc = .ok (.idiv, 1)) (hp : pc + 1 = pc') (hy : y ≠ 0) (K : Goes p l e R s m args below meth c n0 mc ms Fn h k n (mkF m pc' Ls (.int (x / y) :: rest))) : Goes p l e R s m args below meth c n0 mc ms Fn h k n (mkF m pc Ls (.int y :: .int x :: rest)) := by
  subst hp; exact K.pure fun T locs t X hs => XS.idiv X.here hx rfl hd rfl hy hs
theorem irem (hx : p.tables.exec = Jvm.exec) {pc pc' : Nat} {Ls : Array Slot} {x y : Int32} {rest : List Value} (hd : decode c.code pc = .ok (.irem, 1)) (hp : pc + 1 = pc') (hy : y ≠ 0) (K : Goes p l e R s m args below meth c n0 mc ms Fn h k n (mkF m pc' Ls (.int (x % y) :: rest))) : Goes p l e R s m args below meth c n0 mc ms Fn h k n (mkF m pc Ls (.int y :: .int x :: rest)) := by
  subst hp; exact K.pure fun T locs t X hs => iremM X hx rfl hd rfl hy hs
theorem ldiv (hx : p.tables.exec = Jvm.exec) {pc pc' : Nat} {Ls : Array Slot} {x y : Int64} {rest : List Value} (hd : decode c.code pc = .ok (.ldiv, 1)) (hp : pc + 1 = pc') (hy : y ≠ 0) (K : Goes p l e R s m args below meth c n0 mc ms Fn h k n (mkF m pc' Ls (.long (x / y) :: rest))) : Goes p l e R s m args below meth c n0 mc ms Fn h k n (mkF m pc Ls (.long y :: .long x :: rest)) := by
  subst hp; exact K.pure fun T locs t X hs => XS.ldiv X.here hx rfl hd rfl hy hs
theorem lrem (hx : p.tables.exec = Jvm.exec) {pc pc' : Nat} {Ls : Array Slot} {x y : Int64} {rest : List Value} (hd : decode c.code pc = .ok (.lrem, 1)) (hp : pc + 1 = pc') (hy : y ≠ 0) (K : Goes p l e R s m args below meth c n0 mc ms Fn h k n (mkF m pc' Ls (.long (x % y) :: rest))) : Goes p l e R s m args below meth c n0 mc ms Fn h k n (mkF m pc Ls (.long y :: .long x :: rest)) := by
  subst hp; exact K.pure fun T locs t X hs => XS.lrem X.here hx rfl hd rfl hy (by rw [lrem_mod]; exact hs)
theorem ineg (hx : p.tables.exec = Jvm.exec) {pc pc' : Nat} {Ls : Array Slot} {x : Int32} {rest : List Value} (hd : decode c.code pc = .ok (.ineg, 1)) (hp : pc + 1 = pc') (K : Goes p l e R s m args below meth c n0 mc ms Fn h k n (mkF m pc' Ls (.int (-x) :: rest))) : Goes p l e R s m args below meth c n0 mc ms Fn h k n (mkF m pc Ls (.int x :: rest)) := by
  subst hp; exact K.pure fun T locs t X hs => XS.ineg X.here hx rfl hd rfl hs
theorem lneg (hx : p.tables.exec = Jvm.exec) {pc pc' : Nat} {Ls : Array Slot} {x : Int64} {rest : List Value} (hd : decode c.code pc = .ok (.lneg, 1)) (hp : pc + 1 = pc') (K : Goes p l e R s m args below meth c n0 mc ms Fn h k n (mkF m pc' Ls (.long (-x) :: rest))) : Goes p l e R s m args below meth c n0 mc ms Fn h k n (mkF m pc Ls (.long x :: rest)) := by
  subst hp; exact K.pure fun T locs t X hs => XS.lneg X.here hx rfl hd rfl hs
theorem i2l (hx : p.tables.exec = Jvm.exec) {pc pc' : Nat} {Ls : Array Slot} {x : Int32} {rest : List Value} (hd : decode c.code pc = .ok (.i2l, 1)) (hp : pc + 1 = pc') (K : Goes p l e R s m args below meth c n0 mc ms Fn h k n (mkF m pc' Ls (.long (x.toInt64) :: rest))) : Goes p l e R s m args below meth c n0 mc ms Fn h k n (mkF m pc Ls (.int x :: rest)) := by
  subst hp; exact K.pure fun T locs t X hs => XS.i2l X.here hx rfl hd rfl hs
theorem l2i (hx : p.tables.exec = Jvm.exec) {pc pc' : Nat} {Ls : Array Slot} {x : Int64} {rest : List Value} (hd : decode c.code pc = .ok (.l2i, 1)) (hp : pc + 1 = pc') (K : Goes p l e R s m args below meth c n0 mc ms Fn h k n (mkF m pc' Ls (.int (x.toInt32) :: rest))) : Goes p l e R s m args below meth c n0 mc ms Fn h k n (mkF m pc Ls (.long x :: rest)) := by
  subst hp; exact K.pure fun T locs t X hs => XS.l2i X.here hx rfl hd rfl hs
theorem i2b (hx : p.tables.exec = Jvm.exec) {pc pc' : Nat} {Ls : Array Slot} {x : Int32} {rest : List Value} (hd : decode c.code pc = .ok (.i2b, 1)) (hp : pc + 1 = pc') (K : Goes p l e R s m args below meth c n0 mc ms Fn h k n (mkF m pc' Ls (.int (x.toInt8.toInt32) :: rest))) : Goes p l e R s m args below meth c n0 mc ms Fn h k n (mkF m pc Ls (.int x :: rest)) := by
  subst hp; exact K.pure fun T locs t X hs => XS.i2b X.here hx rfl hd rfl hs
theorem i2s (hx : p.tables.exec = Jvm.exec) {pc pc' : Nat} {Ls : Array Slot} {x : Int32} {rest : List Value} (hd : decode c.code pc = .ok (.i2s, 1)) (hp : pc + 1 = pc') (K : Goes p l e R s m args below meth c n0 mc ms Fn h k n (mkF m pc' Ls (.int (x.toInt16.toInt32) :: rest))) : Goes p l e R s m args below meth c n0 mc ms Fn h k n (mkF m pc Ls (.int x :: rest)) := by
  subst hp; exact K.pure fun T locs t X hs => XS.i2s X.here hx rfl hd rfl hs
theorem i2c (hx : p.tables.exec = Jvm.exec) {pc pc' : Nat} {Ls : Array Slot} {x : Int32} {rest : List Value} (hd : decode c.code pc = .ok (.i2c, 1)) (hp : pc + 1 = pc') (K : Goes p l e R s m args below meth c n0 mc ms Fn h k n (mkF m pc' Ls (.int (x.toUInt32.toUInt16.toUInt32.toInt32) :: rest))) : Goes p l e R s m args below meth c n0 mc ms Fn h k n (mkF m pc Ls (.int x :: rest)) := by
  subst hp; exact K.pure fun T locs t X hs => XS.i2c X.here hx rfl hd rfl hs
theorem iload (hx : p.tables.exec = Jvm.exec) {pc pc' i : Nat} {Ls : Array Slot} (x : Int32) {rest : List Value} (hd : decode c.code pc = .ok (.iload i, 2)) (hp : pc + 2 = pc') (hl : Ls[i]? = some (.val (.int x))) (K : Goes p l e R s m args below meth c n0 mc ms Fn h k n (mkF m pc' Ls (.int x :: rest))) : Goes p l e R s m args below meth c n0 mc ms Fn h k n (mkF m pc Ls rest) := by
  subst hp; exact K.pure fun T locs t X hs => XS.iload X.here hx rfl hd hl hs
theorem iloadN (hx : p.tables.exec = Jvm.exec) {pc pc' : Nat} {i : Fin 4} {Ls : Array Slot} (x : Int32) {rest : List Value} (hd : decode c.code pc = .ok (.iload_n i, 1)) (hp : pc + 1 = pc') (hl : Ls[i.val]? = some (.val (.int x))) (K : Goes p l e R s m args below meth c n0 mc ms Fn h k n (mkF m pc' Ls (.int x :: rest))) : Goes p l e R s m args below meth c n0 mc ms Fn h k n (mkF m pc Ls rest) := by
  subst hp; exact K.pure fun T locs t X hs => XS.iloadN X.here hx rfl hd hl hs
theorem lload (hx : p.tables.exec = Jvm.exec) {pc pc' i : Nat} {Ls : Array Slot} (x : Int64) {rest : List Value} (hd : decode c.code pc = .ok (.lload i, 2)) (hp : pc + 2 = pc') (hl : Ls[i]? = some (.val (.long x))) (K : Goes p l e R s m args below meth c n0 mc ms Fn h k n (mkF m pc' Ls (.long x :: rest))) : Goes p l e R s m args below meth c n0 mc ms Fn h k n (mkF m pc Ls rest) := by
  subst hp; exact K.pure fun T locs t X hs => XS.lload X.here hx rfl hd hl hs
theorem lloadN (hx : p.tables.exec = Jvm.exec) {pc pc' : Nat} {i : Fin 4} {Ls : Array Slot} (x : Int64) {rest : List Value} (hd : decode c.code pc = .ok (.lload_n i, 1)) (hp : pc + 1 = pc') (hl : Ls[i.val]? = some (.val (.long x))) (K : Goes p l e R s m args below meth c n0 mc ms Fn h k n (mkF m pc' Ls (.long x :: rest))) : Goes p l e R s m args below meth c n0 mc ms Fn h k n (mkF m pc Ls rest) := by
  subst hp; exact K.pure fun T locs t X hs => XS.lloadN X.here hx rfl hd hl hs
theorem aload (hx : p.tables.exec = Jvm.exec) {pc pc' i : Nat} {Ls : Array Slot} (x : Value) {rest : List Value} (hd : decode c.code pc = .ok (.aload i, 2)) (hp : pc + 2 = pc') (hl : Ls[i]? = some (.val x)) (hv : x.isRef = true) (K : Goes p l e R s m args below meth c n0 mc ms Fn h k n (mkF m pc' Ls (x :: rest))) : Goes p l e R s m args below meth c n0 mc ms Fn h k n (mkF m pc Ls rest) := by
  subst hp; exact K.pure fun T locs t X hs => XS.aload X.here hx rfl hd hl hv hs
theorem aloadN (hx : p.tables.exec = Jvm.exec) {pc pc' : Nat} {i : Fin 4} {Ls : Array Slot} (x : Value) {rest : List Value} (hd : decode c.code pc = .ok (.aload_n i, 1)) (hp : pc + 1 = pc') (hl : Ls[i.val]? = some (.val x)) (hv : x.isRef = true) (K : Goes p l e R s m args below meth c n0 mc ms Fn h k n (mkF m pc' Ls (x :: rest))) : Goes p l e R s m args below meth c n0 mc ms Fn h k n (mkF m pc Ls rest) := by
  subst hp; exact K.pure fun T locs t X hs => XS.aloadN X.here hx rfl hd hl hv hs
theorem istore (hx : p.tables.exec = Jvm.exec) {pc pc' i : Nat} {Ls : Array Slot} {x : Int32} (z : Int32) (hz : z = x) {rest : List Value} (Ls' : Array Slot) (hd : decode c.code pc = .ok (.istore i, 2)) (hp : pc + 2 = pc') (hl : storeLocals Ls i (.int z) = some Ls') (K : Goes p l e R s m args below meth c n0 mc ms Fn h k n (mkF m pc' Ls' rest)) : Goes p l e R s m args below meth c n0 mc ms Fn h k n (mkF m pc Ls (.int x :: rest)) := by
  subst hp hz; exact K.pure fun T locs t X hs => XS.istore X.here hx rfl hd rfl hl hs
theorem istoreN (hx : p.tables.exec = Jvm.exec) {pc pc' : Nat} {i : Fin 4} {Ls : Array Slot} {x : Int32} (z : Int32) (hz : z = x) {rest : List Value} (Ls' : Array Slot) (hd : decode c.code pc = .ok (.istore_n i, 1)) (hp : pc + 1 = pc') (hl : storeLocals Ls i.val (.int z) = some Ls') (K : Goes p l e R s m args below meth c n0 mc ms Fn h k n (mkF m pc' Ls' rest)) : Goes p l e R s m args below meth c n0 mc ms Fn h k n (mkF m pc Ls (.int x :: rest)) := by
  subst hp hz; exact K.pure fun T locs t X hs => XS.istoreN X.here hx rfl hd rfl hl hs
theorem lstore (hx : p.tables.exec = Jvm.exec) {pc pc' i : Nat} {Ls : Array Slot} {x : Int64} (z : Int64) (hz : z = x) {rest : List Value} (Ls' : Array Slot) (hd : decode c.code pc = .ok (.lstore i, 2)) (hp : pc + 2 = pc') (hl : storeLocals Ls i (.long z) = some Ls') (K : Goes p l e R s m args below meth c n0 mc ms Fn h k n (mkF m pc' Ls' rest)) : Goes p l e R s m args below meth c n0 mc ms Fn h k n (mkF m pc Ls (.long x :: rest)) := by
  subst hp hz; exact K.pure fun T locs t X hs => XS.lstore X.here hx rfl hd rfl hl hs
theorem lstoreN (hx : p.tables.exec = Jvm.exec) {pc pc' : Nat} {i : Fin 4} {Ls : Array Slot} {x : Int64} (z : Int64) (hz : z = x) {rest : List Value} (Ls' : Array Slot) (hd : decode c.code pc = .ok (.lstore_n i, 1)) (hp : pc + 1 = pc') (hl : storeLocals Ls i.val (.long z) = some Ls') (K : Goes p l e R s m args below meth c n0 mc ms Fn h k n (mkF m pc' Ls' rest)) : Goes p l e R s m args below meth c n0 mc ms Fn h k n (mkF m pc Ls (.long x :: rest)) := by
  subst hp hz; exact K.pure fun T locs t X hs => XS.lstoreN X.here hx rfl hd rfl hl hs
theorem astore (hx : p.tables.exec = Jvm.exec) {pc pc' i : Nat} {Ls : Array Slot} {x : Value} {rest : List Value} (Ls' : Array Slot) (hd : decode c.code pc = .ok (.astore i, 2)) (hp : pc + 2 = pc') (hv : x.isRef = true) (hl : storeLocals Ls i x = some Ls') (K : Goes p l e R s m args below meth c n0 mc ms Fn h k n (mkF m pc' Ls' rest)) : Goes p l e R s m args below meth c n0 mc ms Fn h k n (mkF m pc Ls (x :: rest)) := by
  subst hp; exact K.pure fun T locs t X hs => XS.astore X.here hx rfl hd rfl hv hl hs
theorem astoreN (hx : p.tables.exec = Jvm.exec) {pc pc' : Nat} {i : Fin 4} {Ls : Array Slot} {x : Value} {rest : List Value} (Ls' : Array Slot) (hd : decode c.code pc = .ok (.astore_n i, 1)) (hp : pc + 1 = pc') (hv : x.isRef = true) (hl : storeLocals Ls i.val x = some Ls') (K : Goes p l e R s m args below meth c n0 mc ms Fn h k n (mkF m pc' Ls' rest)) : Goes p l e R s m args below meth c n0 mc ms Fn h k n (mkF m pc Ls (x :: rest)) := by
  subst hp; exact K.pure fun T locs t X hs => XS.astoreN X.here hx rfl hd rfl hv hl hs
theorem iinc (hx : p.tables.exec = Jvm.exec) {pc pc' i : Nat} {ct : Int} {Ls : Array Slot} {x : Int32} (z : Int32) {rest : List Value} (Ls' : Array Slot) (hd : decode c.code pc = .ok (.iinc i ct, 3)) (hp : pc + 3 = pc') (hl : Ls[i]? = some (.val (.int x))) (hz : z = x + Int32.ofInt ct) (hl' : storeLocals Ls i (.int z) = some Ls') (K : Goes p l e R s m args below meth c n0 mc ms Fn h k n (mkF m pc' Ls' rest)) : Goes p l e R s m args below meth c n0 mc ms Fn h k n (mkF m pc Ls rest) := by
  subst hp hz; exact K.pure fun T locs t X hs => XS.iinc X.here hx rfl hd hl hl' hs
theorem iconst (hx : p.tables.exec = Jvm.exec) {pc pc' : Nat} {i : Int} {Ls : Array Slot} (z : Int32) {rest : List Value} (hd : decode c.code pc = .ok (.iconst i, 1)) (hp : pc + 1 = pc') (hz : Int32.ofInt i = z) (K : Goes p l e R s m args below meth c n0 mc ms Fn h k n (mkF m pc' Ls (.int z :: rest))) : Goes p l e R s m args below meth c n0 mc ms Fn h k n (mkF m pc Ls rest) := by
  subst hp hz; exact K.pure fun T locs t X hs => XS.iconst X.here hx rfl hd hs
theorem bipush (hx : p.tables.exec = Jvm.exec) {pc pc' : Nat} {i : Int} {Ls : Array Slot} (z : Int32) {rest : List Value} (hd : decode c.code pc = .ok (.bipush i, 2)) (hp : pc + 2 = pc') (hz : (Int8.ofInt i).toInt32 = z) (K : Goes p l e R s m args below meth c n0 mc ms Fn h k n (mkF m pc' Ls (.int z :: rest))) : Goes p l e R s m args below meth c n0 mc ms Fn h k n (mkF m pc Ls rest) := by
  subst hp hz; exact K.pure fun T locs t X hs => XS.bipush X.here hx rfl hd hs
theorem sipush (hx : p.tables.exec = Jvm.exec) {pc pc' : Nat} {i : Int} {Ls : Array Slot} (z : Int32) {rest : List Value} (hd : decode c.code pc = .ok (.sipush i, 3)) (hp : pc + 3 = pc') (hz : (Int16.ofInt i).toInt32 = z) (K : Goes p l e R s m args below meth c n0 mc ms Fn h k n (mkF m pc' Ls (.int z :: rest))) : Goes p l e R s m args below meth c n0 mc ms Fn h k n (mkF m pc Ls rest) := by
  subst hp hz; exact K.pure fun T locs t X hs => XS.sipush X.here hx rfl hd hs
theorem lconst (hx : p.tables.exec = Jvm.exec) {pc pc' : Nat} {i : Fin 2} {Ls : Array Slot} (z : Int64) {rest : List Value} (hd : decode c.code pc = .ok (.lconst i, 1)) (hp : pc + 1 = pc') (hz : Int64.ofNat i = z) (K : Goes p l e R s m args below meth c n0 mc ms Fn h k n (mkF m pc' Ls (.long z :: rest))) : Goes p l e R s m args below meth c n0 mc ms Fn h k n (mkF m pc Ls rest) := by
  subst hp hz; exact K.pure fun T locs t X hs => XS.lconst X.here hx rfl hd hs
theorem aconstNull (hx : p.tables.exec = Jvm.exec) {pc pc' : Nat} {Ls : Array Slot} {rest : List Value} (hd : decode c.code pc = .ok (.aconst_null, 1)) (hp : pc + 1 = pc') (K : Goes p l e R s m args below meth c n0 mc ms Fn h k n (mkF m pc' Ls (.null :: rest))) : Goes p l e R s m args below meth c n0 mc ms Fn h k n (mkF m pc Ls rest) := by
  subst hp; exact K.pure fun T locs t X hs => XS.aconstNull X.here hx rfl hd hs
theorem dup (hx : p.tables.exec = Jvm.exec) {pc pc' : Nat} {Ls : Array Slot} {x : Value} {rest : List Value} (hd : decode c.code pc = .ok (.dup, 1)) (hp : pc + 1 = pc') (hc : x.category = 1) (K : Goes p l e R s m args below meth c n0 mc ms Fn h k n (mkF m pc' Ls (x :: x :: rest))) : Goes p l e R s m args below meth c n0 mc ms Fn h k n (mkF m pc Ls (x :: rest)) := by
  subst hp; exact K.pure fun T locs t X hs => XS.dup X.here hx rfl hd rfl hc hs
theorem pop (hx : p.tables.exec = Jvm.exec) {pc pc' : Nat} {Ls : Array Slot} {x : Value} {rest : List Value} (hd : decode c.code pc = .ok (.pop, 1)) (hp : pc + 1 = pc') (hc : x.category = 1) (K : Goes p l e R s m args below meth c n0 mc ms Fn h k n (mkF m pc' Ls rest)) : Goes p l e R s m args below meth c n0 mc ms Fn h k n (mkF m pc Ls (x :: rest)) := by
  subst hp; exact K.pure fun T locs t X hs => XS.pop X.here hx rfl hd rfl hc hs
theorem dupX1 (hx : p.tables.exec = Jvm.exec) {pc pc' : Nat} {Ls : Array Slot} {x y : Value} {rest : List Value} (hd : decode c.code pc = .ok (.dup_x1, 1)) (hp : pc + 1 = pc') (hc : x.category = 1) (hc' : y.category = 1) (K : Goes p l e R s m args below meth c n0 mc ms Fn h k n (mkF m pc' Ls (x :: y :: x :: rest))) : Goes p l e R s m args below meth c n0 mc ms Fn h k n (mkF m pc Ls (x :: y :: rest)) := by
  subst hp; exact K.pure fun T locs t X hs => XS.dupX1 X.here hx rfl hd rfl hc hc' hs
theorem dup2 (hx : p.tables.exec = Jvm.exec) {pc pc' : Nat} {Ls : Array Slot} {x y : Value} {rest : List Value} (hd : decode c.code pc = .ok (.dup2, 1)) (hp : pc + 1 = pc') (hc : x.category = 1) (hc' : y.category = 1) (K : Goes p l e R s m args below meth c n0 mc ms Fn h k n (mkF m pc' Ls (x :: y :: x :: y :: rest))) : Goes p l e R s m args below meth c n0 mc ms Fn h k n (mkF m pc Ls (x :: y :: rest)) := by
  subst hp; exact K.pure fun T locs t X hs => XT.dup2 X.here hx rfl hd rfl hc hc' hs
theorem dup2L (hx : p.tables.exec = Jvm.exec) {pc pc' : Nat} {Ls : Array Slot} {x : Int64} {rest : List Value} (hd : decode c.code pc = .ok (.dup2, 1)) (hp : pc + 1 = pc') (K : Goes p l e R s m args below meth c n0 mc ms Fn h k n (mkF m pc' Ls (.long x :: .long x :: rest))) : Goes p l e R s m args below meth c n0 mc ms Fn h k n (mkF m pc Ls (.long x :: rest)) := by
  subst hp; exact K.pure fun T locs t X hs => XT.dup2L X.here hx rfl hd rfl hs
theorem goto (hx : p.tables.exec = Jvm.exec) {pc pc' : Nat} {o : Int} {Ls : Array Slot} {st : List Value} (hd : decode c.code pc = .ok (.goto o, 3)) (ho : 0 ≤ (pc : Int) + o) (hp : ((pc : Int) + o).toNat = pc') (K : Goes p l e R s m args below meth c n0 mc ms Fn h k n (mkF m pc' Ls st)) : Goes p l e R s m args below meth c n0 mc ms Fn h k n (mkF m pc Ls st) :=
  K.pure fun T locs t X hs => XS.goto X.here hx rfl rfl hd ho hp hs
theorem ifF (hx : p.tables.exec = Jvm.exec) {Pr : Prop} [Decidable Pr] {cd : ClassFile.Cond} {x : Int32} (hq : ifCond.holds cd x = decide Pr) {pc pcN pcT : Nat} {o : Int} {Ls : Array Slot} {rest : List Value} (hd : decode c.code pc = .ok (.ifCond cd o, 3)) (hn : pc + 3 = pcN) (ho : 0 ≤ (pc : Int) + o) (hp : ((pc : Int) + o).toNat = pcT)
    (KT : Pr → Goes p l e R s m args below meth c n0 mc ms Fn h k n (mkF m pcT Ls rest)) (KN : ¬ Pr → Goes p l e R s m args below meth c n0 mc ms Fn h k n (mkF m pcN Ls rest)) : Goes p l e R s m args below meth c n0 mc ms Fn h k n (mkF m pc Ls (.int x :: rest)) := by
  subst hn
  by_cases hP : Pr
  · exact (KT hP).pure fun T locs t X hs => XS.ifYes X.here hx rfl rfl hd rfl (by rw [hq]; exact decide_eq_true hP) ho hp hs
  · exact (KN hP).pure fun T locs t X hs => XS.ifNo X.here hx rfl hd rfl (by rw [hq]; exact decide_eq_false hP) hs
theorem icmpF (hx : p.tables.exec = Jvm.exec) {Pr : Prop} [Decidable Pr] {cd : ClassFile.Cond} {x y : Int32} (hq : if_icmp.holds cd x y = decide Pr) {pc pcN pcT : Nat} {o : Int} {Ls : Array Slot} {rest : List Value} (hd : decode c.code pc = .ok (.if_icmp cd o, 3)) (hn : pc + 3 = pcN) (ho : 0 ≤ (pc : Int) + o) (hp : ((pc : Int) + o).toNat = pcT)
    (KT : Pr → Goes p l e R s m args below meth c n0 mc ms Fn h k n (mkF m pcT Ls rest)) (KN : ¬ Pr → Goes p l e R s m args below meth c n0 mc ms Fn h k n (mkF m pcN Ls rest)) : Goes p l e R s m args below meth c n0 mc ms Fn h k n (mkF m pc Ls (.int y :: .int x :: rest)) := by
  subst hn
  by_cases hP : Pr
  · exact (KT hP).pure fun T locs t X hs => XS.icmpYes X.here hx rfl rfl hd rfl (by rw [hq]; exact decide_eq_true hP) ho hp hs
  · exact (KN hP).pure fun T locs t X hs => XS.icmpNo X.here hx rfl hd rfl (by rw [hq]; exact decide_eq_false hP) hs
theorem ifFn (hx : p.tables.exec = Jvm.exec) {Pr : Prop} [Decidable Pr] {cd : ClassFile.Cond} {x : Int32} (hq : ifCond.holds cd x = decide (¬ Pr)) {pc pcN pcT : Nat} {o : Int} {Ls : Array Slot} {rest : List Value} (hd : decode c.code pc = .ok (.ifCond cd o, 3)) (hn : pc + 3 = pcN) (ho : 0 ≤ (pc : Int) + o) (hp : ((pc : Int) + o).toNat = pcT)
    (KT : ¬ Pr → Goes p l e R s m args below meth c n0 mc ms Fn h k n (mkF m pcT Ls rest)) (KN : Pr → Goes p l e R s m args below meth c n0 mc ms Fn h k n (mkF m pcN Ls rest)) : Goes p l e R s m args below meth c n0 mc ms Fn h k n (mkF m pc Ls (.int x :: rest)) := ifF hx hq hd hn ho hp KT fun q => KN (Decidable.of_not_not q)
theorem icmpFn (hx : p.tables.exec = Jvm.exec) {Pr : Prop} [Decidable Pr] {cd : ClassFile.Cond} {x y : Int32} (hq : if_icmp.holds cd x y = decide (¬ Pr)) {pc pcN pcT : Nat} {o : Int} {Ls : Array Slot} {rest : List Value} (hd : decode c.code pc = .ok (.if_icmp cd o, 3)) (hn : pc + 3 = pcN) (ho : 0 ≤ (pc : Int) + o) (hp : ((pc : Int) + o).toNat = pcT)
    (KT : ¬ Pr → Goes p l e R s m args below meth c n0 mc ms Fn h k n (mkF m pcT Ls rest)) (KN : Pr → Goes p l e R s m args below meth c n0 mc ms Fn h k n (mkF m pcN Ls rest)) : Goes p l e R s m args below meth c n0 mc ms Fn h k n (mkF m pc Ls (.int y :: .int x :: rest)) := icmpF hx hq hd hn ho hp KT fun q => KN (Decidable.of_not_not q)
theorem q_eq (x y : Int32) : if_icmp.holds .eq x y = decide (x = y) := by by_cases q : x = y <;> simp [if_icmp.holds, q]
theorem q_ne (x y : Int32) : if_icmp.holds .ne x y = decide (¬ x = y) := by by_cases q : x = y <;> simp [if_icmp.holds, q]
theorem q_lt (x y : Int32) : if_icmp.holds .lt x y = decide (x < y) := by by_cases q : x < y <;> simp [q, (tlt ·), (flt ·)]
theorem q_ge (x y : Int32) : if_icmp.holds .ge x y = decide (¬ x < y) := by by_cases q : x < y <;> simp [q, (tlt ·), (flt ·)]
theorem q_gt (x y : Int32) : if_icmp.holds .gt x y = decide (y < x) := by by_cases q : y < x <;> simp [q, (tlt ·), (flt ·)]
theorem q_le (x y : Int32) : if_icmp.holds .le x y = decide (¬ y < x) := by by_cases q : y < x <;> simp [q, (tlt ·), (flt ·)]
theorem z_eq (x : Int32) : ifCond.holds .eq x = decide (x = 0) := (if0 _ _).trans (q_eq x 0)
theorem z_ne (x : Int32) : ifCond.holds .ne x = decide (¬ x = 0) := (if0 _ _).trans (q_ne x 0)
theorem z_lt (x : Int32) : ifCond.holds .lt x = decide (x < 0) := (if0 _ _).trans (q_lt x 0)
theorem z_ge (x : Int32) : ifCond.holds .ge x = decide (¬ x < 0) := (if0 _ _).trans (q_ge x 0)
theorem z_gt (x : Int32) : ifCond.holds .gt x = decide (0 < x) := (if0 _ _).trans (q_gt x 0)
theorem z_le (x : Int32) : ifCond.holds .le x = decide (¬ 0 < x) := (if0 _ _).trans (q_le x 0)
theorem w_eq (x y : Int64) : ifCond.holds .eq (lcmpW x y) = decide (x = y) := (z_eq _).trans (by simp only [lw_eq])
theorem w_ne (x y : Int64) : ifCond.holds .ne (lcmpW x y) = decide (¬ x = y) := (z_ne _).trans (by simp only [lw_eq])
theorem w_lt (x y : Int64) : ifCond.holds .lt (lcmpW x y) = decide (x < y) := (z_lt _).trans (by simp only [lw_lt])
theorem w_ge (x y : Int64) : ifCond.holds .ge (lcmpW x y) = decide (¬ x < y) := (z_ge _).trans (by simp only [lw_lt])
theorem w_gt (x y : Int64) : ifCond.holds .gt (lcmpW x y) = decide (y < x) := (z_gt _).trans (by simp only [lw_gt])
theorem w_le (x y : Int64) : ifCond.holds .le (lcmpW x y) = decide (¬ y < x) := (z_le _).trans (by simp only [lw_gt])
theorem ifnullN (hx : p.tables.exec = Jvm.exec) {pc pcN : Nat} {o : Int} {a : Addr} {Ls : Array Slot} {rest : List Value} (hd : decode c.code pc = .ok (.ifnull o, 3)) (hn : pc + 3 = pcN) (K : Goes p l e R s m args below meth c n0 mc ms Fn h k n (mkF m pcN Ls rest)) : Goes p l e R s m args below meth c n0 mc ms Fn h k n (mkF m pc Ls (.ref a :: rest)) := by
  subst hn; exact K.pure fun T locs t X hs => XS.ifnullNo X.here hx rfl hd rfl hs
theorem ifnullY (hx : p.tables.exec = Jvm.exec) {pc pcT : Nat} {o : Int} {Ls : Array Slot} {rest : List Value} (hd : decode c.code pc = .ok (.ifnull o, 3)) (ho : 0 ≤ (pc : Int) + o) (hp : ((pc : Int) + o).toNat = pcT) (K : Goes p l e R s m args below meth c n0 mc ms Fn h k n (mkF m pcT Ls rest)) : Goes p l e R s m args below meth c n0 mc ms Fn h k n (mkF m pc Ls (.null :: rest)) :=
  K.pure fun T locs t X hs => XS.ifnullYes X.here hx rfl rfl hd rfl ho hp hs
theorem ifnonnullN (hx : p.tables.exec = Jvm.exec) {pc pcN : Nat} {o : Int} {Ls : Array Slot} {rest : List Value} (hd : decode c.code pc = .ok (.ifnonnull o, 3)) (hn : pc + 3 = pcN) (K : Goes p l e R s m args below meth c n0 mc ms Fn h k n (mkF m pcN Ls rest)) : Goes p l e R s m args below meth c n0 mc ms Fn h k n (mkF m pc Ls (.null :: rest)) := by
  subst hn; exact K.pure fun T locs t X hs => XS.ifnonnullNo X.here hx rfl hd rfl hs
theorem ifnonnullY (hx : p.tables.exec = Jvm.exec) {pc pcT : Nat} {o : Int} {a : Addr} {Ls : Array Slot} {rest : List Value} (hd : decode c.code pc = .ok (.ifnonnull o, 3)) (ho : 0 ≤ (pc : Int) + o) (hp : ((pc : Int) + o).toNat = pcT) (K : Goes p l e R s m args below meth c n0 mc ms Fn h k n (mkF m pcT Ls rest)) : Goes p l e R s m args below meth c n0 mc ms Fn h k n (mkF m pc Ls (.ref a :: rest)) :=
  K.pure fun T locs t X hs => XS.ifnonnullYes X.here hx rfl rfl hd rfl ho hp hs
theorem ldc (hx : p.tables.exec = Jvm.exec) {Z : State} (hZ : Z.Warmed39 s.vm) {a0 : Array Value} {own : String} (hown : s.vm.findClass own = some m.cls) {pc pc' i : Nat} {Ls : Array Slot} (z : Int32) {rest : List Value} (hd : decode c.code pc = .ok (.ldc i, 2)) (hp : pc + 2 = pc') (w : (Jvm.Cond.constant own i z).before a0 Z = true) (K : Goes p l e R s m args below meth c n0 mc ms Fn h k n (mkF m pc' Ls (.int z :: rest))) : Goes p l e R s m args below meth c n0 mc ms Fn h k n (mkF m pc Ls rest) := by
  subst hp; exact K.pure fun T locs t X hs => X.ldcInt hx hown (mvT hZ w) (g := mkF m pc Ls rest) rfl hd t hs
theorem ldc2 (hx : p.tables.exec = Jvm.exec) {Z : State} (hZ : Z.Warmed39 s.vm) {a0 : Array Value} {own : String} (hown : s.vm.findClass own = some m.cls) {pc pc' i : Nat} {Ls : Array Slot} (z : Int64) {rest : List Value} (hd : decode c.code pc = .ok (.ldc2_w i, 3)) (hp : pc + 3 = pc') (w : (Jvm.Cond.constantLong own i z).before a0 Z = true) (K : Goes p l e R s m args below meth c n0 mc ms Fn h k n (mkF m pc' Ls (.long z :: rest))) : Goes p l e R s m args below meth c n0 mc ms Fn h k n (mkF m pc Ls rest) := by
  subst hp; exact K.pure fun T locs t X hs => X.ldc2Long hx hown (mvT hZ w) (g := mkF m pc Ls rest) rfl hd t hs
/-- the end of a walk -/
theorem endOf {v : Option Value} {g : JFrame} (hlk : meth.locks = false) (hv : meth.sig.returnType = none → v = none)
    (st : ∀ (T : State) (locs : List Loc) (fs : List Frame), Stand p l e R s m args below meth c T locs k n → (∀ (f : JFrame) (acts : List Action), f.method = m → f.locked = none → f.entered = [] → (doReturn e (T.setTop f) acts v).1 = T.setFrames fs) → Steps p.tables e below (T.setTop g) (T.setFrames fs))
    (hk : k ≤ mc) (hn : n ≤ ms) (hF : Fn v h) : Goes p l e R s m args below meth c n0 mc ms Fn h k n g := fun T locs X N eT => by
  obtain ⟨fs, hr, hrun, hended, hW, hsame⟩ := X.leave hv hlk
  refine ⟨_, _, st T locs fs X hr, hrun, hended, v, locs, rfl, ⟨?_, N⟩, ⟨_, rfl⟩, hW, hsame.mono hk hn⟩
  show Fn v T.heap
  rw [eT]; exact hF
theorem retI (hx : p.tables.exec = Jvm.exec) (hret : meth.sig.returnType = some .int) (hlk : meth.locks = false) {pc : Nat} {Ls : Array Slot} {z : Int32} {rest : List Value} (hd : decode c.code pc = .ok (.ireturn, 1)) (hk : k ≤ mc) (hn : n ≤ ms) (hF : Fn (some (.int z)) h) : Goes p l e R s m args below meth c n0 mc ms Fn h k n (mkF m pc Ls (.int z :: rest)) :=
  endOf hlk (fun q => by rw [hret] at q; cases q) (fun T locs fs X hr => retOut X hx hret rfl (Or.inl ⟨rfl, Or.inl rfl, _, rfl⟩) hd hr) hk hn hF
theorem retL (hx : p.tables.exec = Jvm.exec) (hret : meth.sig.returnType = some .long) (hlk : meth.locks = false) {pc : Nat} {Ls : Array Slot} {z : Int64} {rest : List Value} (hd : decode c.code pc = .ok (.lreturn, 1)) (hk : k ≤ mc) (hn : n ≤ ms) (hF : Fn (some (.long z)) h) : Goes p l e R s m args below meth c n0 mc ms Fn h k n (mkF m pc Ls (.long z :: rest)) :=
  endOf hlk (fun q => by rw [hret] at q; cases q) (fun T locs fs X hr => retOut X hx hret rfl (Or.inr (Or.inl ⟨rfl, rfl, _, rfl⟩)) hd hr) hk hn hF
theorem retA (hx : p.tables.exec = Jvm.exec) {ty : FieldType} (hret : meth.sig.returnType = some ty) (hty : ty.isReference = true) (hlk : meth.locks = false) {pc : Nat} {Ls : Array Slot} {w : Value} {rest : List Value} (hw : w.isRef = true) (hnr : narrow ty w = w) (hd : decode c.code pc = .ok (.areturn, 1)) (hk : k ≤ mc) (hn : n ≤ ms) (hF : Fn (some w) h) : Goes p l e R s m args below meth c n0 mc ms Fn h k n (mkF m pc Ls (w :: rest)) :=
  endOf hlk (fun q => by rw [hret] at q; cases q) (fun T locs fs X hr => retOut X hx hret hnr (Or.inr (Or.inr (Or.inr (Or.inr ⟨rfl, hty, hw⟩)))) hd hr) hk hn hF
theorem retS (hx : p.tables.exec = Jvm.exec) {ty : FieldType} (hret : meth.sig.returnType = some ty) (hty : ty = .boolean ∨ ty = .byte ∨ ty = .char ∨ ty = .short) (hlk : meth.locks = false) {pc : Nat} {Ls : Array Slot} {z : Int32} {rest : List Value} (hd : decode c.code pc = .ok (.ireturn, 1)) (hk : k ≤ mc) (hn : n ≤ ms) (hF : Fn (some (.int (nar ty z))) h) : Goes p l e R s m args below meth c n0 mc ms Fn h k n (mkF m pc Ls (.int z :: rest)) :=
  endOf hlk (fun q => by rw [hret] at q; cases q) (fun T locs fs X hr => retN X hx hret hty hd hr) hk hn hF
theorem retV (hx : p.tables.exec = Jvm.exec) (hret : meth.sig.returnType = none) (hlk : meth.locks = false) {pc : Nat} {Ls : Array Slot} (hd : decode c.code pc = .ok (.return_, 1)) (hk : k ≤ mc) (hn : n ≤ ms) (hF : Fn none h) : Goes p l e R s m args below meth c n0 mc ms Fn h k n (mkF m pc Ls []) :=
  endOf hlk (fun _ => rfl) (fun T locs fs X hr => X.returnOut hx hret hd hr) hk hn hF
/-- a static method by its contract -/
theorem callS (hx : p.tables.exec = Jvm.exec) {Z : State} (hZ : Z.Warmed39 s.vm) {a0 : Array Value} {own : String} (hown : s.vm.findClass own = some m.cls) {i : Nat} {y : MethodName} {bytes : ByteArray} {maxL : Nat} {ret : Option FieldType} {rm : Room} {F : Option Value → Heap → Prop} {argsL rest : List Value}
    (w1 : (Jvm.Cond.methodLink own i y).before a0 Z = true) (w2 : (Jvm.Cond.static y).before a0 Z = true) (w3 : (Jvm.Cond.initialized y.cls).before a0 Z = true) (w4 : (Jvm.Cond.code y bytes maxL ret).before a0 Z = true) (hy : y.cls ≠ "java/lang/invoke/MethodHandle" ∧ y.cls ≠ "java/lang/invoke/VarHandle")
    {sg : ClassFile.MethodDescriptor} (hsg : parseMethodDescriptor y.desc = some sg) (hlen : argsL.length = sg.parameters.length) {pc pc' : Nat} {Ls : Array Slot} {W : Nat} (hW : (rest.map fun v => v.category).sum ≤ W) (hf : rm.frames + 1 ≤ R.frames) (hl : W + (maxL + 11) + rm.locals ≤ R.locals) (hcl : k + rm.cells ≤ R.cells) (hsl : n + rm.slots ≤ R.slots)
    {k' n' : Nat} (hk' : k + rm.cells = k') (hn' : n + rm.slots = n') (hml : Ls.size = c.maxLocals) (st : List Value) (hst : st = argsL.reverse ++ rest) (hd : decode c.code pc = .ok (.invokestatic i, 3)) (hp : pc + 3 = pc') (D : Does l y bytes maxL ret [] rm Z argsL.toArray h n0 F)
    (K : ∀ v h', F v h' → Goes p l e R s m args below meth c n0 mc ms Fn h' k' n' (mkF m pc' Ls (v.toList ++ rest))) : Goes p l e R s m args below meth c n0 mc ms Fn h k n (mkF m pc Ls st) := fun T locs X N eT => by
  subst hp hst hk' hn'
  obtain ⟨v, _, ⟨T', L', k', n'⟩, -, X', ⟨Lc, hQ, l1, y1, z1⟩, st⟩ := Jvm.LawKit.callS X hx (y := y) hown (mvT hZ w1) (mvT hZ w2) (mvT hZ w3) (mvT hZ w4) hy (backOf (W := W) (Q := fun v h' L => F v h' ∧ Fr n0 L) D hZ w4 w3 hf hl) (g := mkF m pc Ls (argsL.reverse ++ rest)) rfl hml (argsL := argsL) (rest := rest) (lenOf hsg hlen) rfl (by show 2 * 0 + _ ≤ _; omega) hd (fun _ _ => ⟨rfl, eT, hcl, hsl⟩)
  dsimp only [Pt.U, Pt.locs, Pt.cells, Pt.slots] at X' l1 y1 z1 st hQ
  subst l1 y1 z1
  obtain ⟨s₂, o, hs, r⟩ := K v T'.heap hQ.1 T' _ X' (N.app hQ.2) rfl
  exact ⟨s₂, o, st _ hs, r⟩
theorem vI {x : Int32} (z : Int32) (q : x = z) {pc : Nat} {Ls : Array Slot} {rest : List Value} (K : Goes p l e R s m args below meth c n0 mc ms Fn h k n (mkF m pc Ls (.int z :: rest))) : Goes p l e R s m args below meth c n0 mc ms Fn h k n (mkF m pc Ls (.int x :: rest)) := by subst q; exact K
theorem vL {x : Int64} (z : Int64) (q : x = z) {pc : Nat} {Ls : Array Slot} {rest : List Value} (K : Goes p l e R s m args below meth c n0 mc ms Fn h k n (mkF m pc Ls (.long z :: rest))) : Goes p l e R s m args below meth c n0 mc ms Fn h k n (mkF m pc Ls (.long x :: rest)) := by subst q; exact K
theorem bool1 {z : Int32} (q : z = 1) : (some (Value.int (nar .boolean z)) : Option Value) = some (.int 1) := by subst q; rfl
end Eng
end Own
namespace Own
section EngH
def FldC (Z : State) (C nm d : String) (v : Value) (cell : Cell) : Prop := ∃ (cf : ClassId) (kk : Class) (i : Nat) (f : Field), Z.fieldFound? C nm d = some (cf, kk, i, f) ∧ f.isStatic = false ∧ cell.vm ≠ .unknown ∧ cell.vm.isStatics = false ∧ Z.vm.assignable cell.cls cf = true ∧ cell.slots[f.slot]? = some v
def ExaC (Z : State) (C : String) (cell : Cell) : Prop := ∃ kk : Class, Z.vm.findClass C = some cell.cls ∧ Z.vm.classes[cell.cls]? = some kk ∧ cell.vm.isStatics = false ∧ (kk.kind = .ordinary → cell.slots.size = kk.instanceTypes.size)
/-- an object of just the class C with these fields (declaring class, name, descriptor) at these values -/
def ObjC (Z : State) (C : String) (fs : List ((String × String × String) × Value)) (cell : Cell) : Prop := ExaC Z C cell ∧ (∀ f ∈ fs, FldC Z f.1.1 f.1.2.1 f.1.2.2 f.2 cell) ∧ (fs.map fun f => Jvm.RoadKit.slotOf Z f.1.1 f.1.2.1 f.1.2.2).Nodup
/-- an array of the kind ty with these values -/
def ArrC (Z : State) (ty : FieldType) (vs : List Value) (cell : Cell) : Prop := Z.isArrayOf cell ty ∧ cell.vm ≠ .unknown ∧ cell.slots.toList = vs ∧ ∀ v ∈ vs, fits ty v = true
/-- the cells at these places, all at or above n0 and unlike, are as said -/
def Owns (n0 : Nat) (h : Heap) (os : List (Addr × (Cell → Prop))) : Prop := n0 ≤ h.size ∧ (os.map Prod.fst).Nodup ∧ ∀ o ∈ os, n0 ≤ o.1 ∧ ∃ cell, h[o.1]? = some cell ∧ o.2 cell
variable {p : Program} {l : Launch} {e : Env} {R : Room} {s : State} {m : MethodId} {args : Array Value} {below : List Frame} {meth : Method} {c : Code} {n0 mc ms : Nat} {Fn : Option Value → Heap → Prop} {h h' : Heap} {k n : Nat} {Z : State} {a0 : Array Value} {os : List (Addr × (Cell → Prop))} {a : Addr}
theorem Owns.nil (q : n0 ≤ h.size) : Owns n0 h [] := ⟨q, List.nodup_nil, fun _ z => nomatch z⟩
theorem Owns.at (O : Owns n0 h os) {i : Nat} {P : Cell → Prop} (hi : os[i]? = some (a, P)) : n0 ≤ a ∧ ∃ cell, h[a]? = some cell ∧ P cell := O.2.2 (a, P) (List.mem_of_getElem? hi)
theorem Owns.lt (O : Owns n0 h os) {o : Addr × (Cell → Prop)} (ho : o ∈ os) : o.1 < h.size := by obtain ⟨-, cell, q, -⟩ := O.2.2 o ho; exact (Array.getElem?_eq_some_iff.mp q).1
theorem Owns.push {P : Cell → Prop} (O : Owns n0 h os) (E : Ext h h') (q : ∃ cell, h'[h.size]? = some cell ∧ P cell) : Owns n0 h' ((h.size, P) :: os) := by
  refine ⟨Nat.le_trans O.1 E.1, ?_, ?_⟩
  · rw [List.map_cons, List.nodup_cons]
    refine ⟨fun z => ?_, O.2.1⟩
    obtain ⟨o, ho, e1⟩ := List.mem_map.mp z
    exact absurd (O.lt ho) (by rw [e1]; exact Nat.lt_irrefl _)
  · intro o ho
    rcases List.mem_cons.mp ho with rfl | ho
    · exact ⟨O.1, q⟩
    · obtain ⟨q1, cell, q2, q3⟩ := O.2.2 o ho
      exact ⟨q1, cell, E.2 _ _ q2, q3⟩
theorem nodup_at {os : List (Addr × (Cell → Prop))} (hN : (os.map Prod.fst).Nodup) {i j : Nat} {P Q : Cell → Prop} (hi : os[i]? = some (a, P)) (hj : os[j]? = some (a, Q)) : i = j := by
  have h1 : (os.map Prod.fst)[i]? = some a := by rw [List.getElem?_map, hi]; rfl
  have h2 : (os.map Prod.fst)[j]? = some a := by rw [List.getElem?_map, hj]; rfl
  obtain ⟨l1, e1⟩ := List.getElem?_eq_some_iff.mp h1
  obtain ⟨l2, e2⟩ := List.getElem?_eq_some_iff.mp h2
  exact (List.getElem_inj hN).mp (e1.trans e2.symm)
/-- the cell at one owned place is another one now; all others stay -/
theorem Owns.upd {P P' : Cell → Prop} (O : Owns n0 h os) {i : Nat} (hi : os[i]? = some (a, P)) (hs : h.size ≤ h'.size) (ho : ∀ x cell, h[x]? = some cell → x ≠ a → h'[x]? = some cell) (ha : ∃ cell, h'[a]? = some cell ∧ P' cell) : Owns n0 h' (os.set i (a, P')) := by
  have hlt : i < os.length := (List.getElem?_eq_some_iff.mp hi).1
  refine ⟨Nat.le_trans O.1 hs, ?_, ?_⟩
  · have e1 : (os.set i (a, P')).map Prod.fst = os.map Prod.fst := by
      rw [List.map_set]
      refine List.ext_getElem? fun j => ?_
      rw [List.getElem?_set]
      split
      · next q => subst q; rw [List.getElem?_map, hi]; simp [hlt]
      · rfl
    rw [e1]; exact O.2.1
  · intro o hm
    obtain ⟨j, hj⟩ := List.getElem?_of_mem hm
    rw [List.getElem?_set] at hj
    split at hj
    · simp only [hlt, if_true, Option.some.injEq] at hj
      subst hj
      exact ⟨(O.at hi).1, ha⟩
    · next q =>
      obtain ⟨oa, oP⟩ := o
      obtain ⟨q1, cell, q2, q3⟩ := O.at hj
      refine ⟨q1, cell, ho _ _ q2 fun z => ?_, q3⟩
      subst z
      exact q (nodup_at O.2.1 hi hj)
theorem wr_get {sl : Nat} {v : Value} (W : Wr h h' a sl v) : h.size ≤ h'.size ∧ (∀ x cell, h[x]? = some cell → x ≠ a → h'[x]? = some cell) ∧ ∀ cell, h[a]? = some cell → h'[a]? = some (cell.setSlot sl v) := by
  obtain ⟨cell, h1, h2, h3, rfl⟩ := W
  refine ⟨by simp, fun x cx hx hne => ?_, fun c' hc' => ?_⟩
  · rw [Array.getElem?_setIfInBounds_ne (Ne.symm hne)]; exact hx
  · cases h1.symm.trans hc'
    have := (Array.getElem?_eq_some_iff.mp h1).1
    simp [this]
theorem Owns.wr {P P' : Cell → Prop} {sl : Nat} {v : Value} (O : Owns n0 h os) {i : Nat} (hi : os[i]? = some (a, P)) (W : Wr h h' a sl v) (q : ∀ cell, P cell → P' (cell.setSlot sl v)) : Owns n0 h' (os.set i (a, P')) := by
  obtain ⟨w1, w2, w3⟩ := wr_get W
  obtain ⟨-, cell, q1, q2⟩ := O.at hi
  exact O.upd hi w1 w2 ⟨_, w3 _ q1, q _ q2⟩
/-- the i-th object is brought to the front -/
theorem Owns.pick (O : Owns n0 h os) (i : Nat) {o : Addr × (Cell → Prop)} (hi : os[i]? = some o) : Owns n0 h (o :: os.eraseIdx i) := by
  have hlt : i < os.length := (List.getElem?_eq_some_iff.mp hi).1
  have hp : os.Perm (o :: os.eraseIdx i) := by
    have h2 : os[i] = o := (List.getElem?_eq_some_iff.mp hi).2
    have h3 : os = os.take i ++ o :: os.drop (i + 1) := by rw [← h2, List.getElem_cons_drop, List.take_append_drop]
    rw [List.eraseIdx_eq_take_drop_succ]
    conv => lhs; rw [h3]
    exact List.perm_middle
  exact ⟨O.1, (hp.map Prod.fst).nodup_iff.mp O.2.1, fun z hz => O.2.2 z (hp.mem_iff.mpr hz)⟩
theorem Owns.cast {os' : List (Addr × (Cell → Prop))} (O : Owns n0 h os) (q : os = os') : Owns n0 h os' := q ▸ O
theorem Owns.tail {o : Addr × (Cell → Prop)} (O : Owns n0 h (o :: os)) : Owns n0 h os := ⟨O.1, by have h1 := O.2.1; rw [List.map_cons, List.nodup_cons] at h1; exact h1.2, fun z hz => O.2.2 z (List.mem_cons_of_mem _ hz)⟩
theorem fld_of {C nm d : String} {v : Value} {cell : Cell} (q : h[a]? = some cell) (F : FldC Z C nm d v cell) : Fld Z h a C nm d v := by obtain ⟨cf, kk, i, f, r⟩ := F; exact ⟨cell, cf, kk, i, f, q, r⟩
theorem exa_of {C : String} {cell : Cell} (q : h[a]? = some cell) (F : ExaC Z C cell) : Exa Z h a C := by obtain ⟨kk, r⟩ := F; exact ⟨cell, kk, q, r⟩
theorem fldC_of {C nm d : String} {v : Value} {cell : Cell} (q : h[a]? = some cell) (F : Fld Z h a C nm d v) : FldC Z C nm d v cell := by obtain ⟨c', cf, kk, i, f, q', r⟩ := F; cases q.symm.trans q'; exact ⟨cf, kk, i, f, r⟩
theorem exaC_of {C : String} {cell : Cell} (q : h[a]? = some cell) (F : Exa Z h a C) : ExaC Z C cell := by obtain ⟨c', kk, q', r⟩ := F; cases q.symm.trans q'; exact ⟨kk, r⟩
theorem Owns.fld {C : String} {fs : List ((String × String × String) × Value)} (O : Owns n0 h os) {i j : Nat} (hi : os[i]? = some (a, ObjC Z C fs)) {C' nm d : String} {v : Value} (hj : fs[j]? = some ((C', nm, d), v)) : Fld Z h a C' nm d v := by
  obtain ⟨-, cell, q1, q2⟩ := O.at hi
  exact fld_of q1 (q2.2.1 _ (List.mem_of_getElem? hj))
theorem Owns.exa {C : String} {fs : List ((String × String × String) × Value)} (O : Owns n0 h os) {i : Nat} (hi : os[i]? = some (a, ObjC Z C fs)) : Exa Z h a C := by
  obtain ⟨-, cell, q1, q2⟩ := O.at hi
  exact exa_of q1 q2.1
theorem getfield (hx : p.tables.exec = Jvm.exec) (hZ : Z.Warmed39 s.vm) {own : String} (hown : s.vm.findClass own = some m.cls) (O : Owns n0 h os) (i j : Nat) {C C' nm d : String} {fs : List ((String × String × String) × Value)} (hi : os[i]? = some (a, ObjC Z C fs)) {v : Value} (hj : fs[j]? = some ((C', nm, d), v))
    {pc pc' idx : Nat} {Ls : Array Slot} {rest : List Value} (w : (Jvm.Cond.fieldLink own idx C' nm d).before a0 Z = true) (hd : decode c.code pc = .ok (.getfield idx, 3)) (hp : pc + 3 = pc') (K : Goes p l e R s m args below meth c n0 mc ms Fn h k n (mkF m pc' Ls (v :: rest))) : Goes p l e R s m args below meth c n0 mc ms Fn h k n (mkF m pc Ls (.ref a :: rest)) := by
  subst hp
  refine Goes.move (Pr := fun h' => h' = h) (k' := k) (n' := n) (g' := mkF m (pc + 3) Ls (v :: rest)) (fun T locs X N eT => ?_) (fun h' q => by rw [q]; exact K)
  obtain ⟨T', X', e', st⟩ := getF X hx hZ hown (host := "") (Or.inl w) Via.refl eT (O.fld hi hj) (g := mkF m pc Ls (.ref a :: rest)) rfl rfl hd
  exact ⟨T', locs, X', N, e', st⟩
theorem obj_set {C : String} {fs : List ((String × String × String) × Value)} {j : Nat} {C' nm d : String} {old v : Value} (hj : fs[j]? = some ((C', nm, d), old)) {cell : Cell} (q : ObjC Z C fs cell) : ObjC Z C (fs.set j ((C', nm, d), v)) (cell.setSlot (Jvm.RoadKit.slotOf Z C' nm d) v) := by
  obtain ⟨q1, q2, q3⟩ := q
  have hq : (#[cell] : Heap)[0]? = some cell := rfl
  have F0 := q2 _ (List.mem_of_getElem? hj)
  have hst : cell.vm.isStatics = false := by obtain ⟨_, _, _, _, _, _, _, r, _⟩ := F0; exact r
  have hsl : Jvm.RoadKit.slotOf Z C' nm d < cell.slots.size := by
    obtain ⟨cf, kk, i, f, r1, -, -, -, -, r2⟩ := F0
    have e1 : Jvm.RoadKit.slotOf Z C' nm d = f.slot := by simp [Jvm.RoadKit.slotOf, r1]
    rw [e1]; exact (Array.getElem?_eq_some_iff.mp r2).1
  have W : Wr #[cell] #[cell.setSlot (Jvm.RoadKit.slotOf Z C' nm d) v] 0 (Jvm.RoadKit.slotOf Z C' nm d) v := ⟨cell, hq, hst, hsl, by simp⟩
  have hq' : (#[cell.setSlot (Jvm.RoadKit.slotOf Z C' nm d) v] : Heap)[0]? = some (cell.setSlot (Jvm.RoadKit.slotOf Z C' nm d) v) := rfl
  have hlt : j < fs.length := (List.getElem?_eq_some_iff.mp hj).1
  have hslots : (fs.set j ((C', nm, d), v)).map (fun f => Jvm.RoadKit.slotOf Z f.1.1 f.1.2.1 f.1.2.2) = fs.map (fun f => Jvm.RoadKit.slotOf Z f.1.1 f.1.2.1 f.1.2.2) := by
    rw [List.map_set]
    refine List.ext_getElem? fun i => ?_
    rw [List.getElem?_set]
    split
    · next z => subst z; rw [List.getElem?_map, hj]; simp [hlt]
    · rfl
  refine ⟨exaC_of hq' ((exa_of hq q1).wr W), fun f hf => ?_, by rw [hslots]; exact q3⟩
  obtain ⟨i, hi⟩ := List.getElem?_of_mem hf
  rw [List.getElem?_set] at hi
  split at hi
  · simp only [hlt, if_true, Option.some.injEq] at hi
    subst hi
    exact fldC_of hq' ((fld_of hq F0).same W)
  · next z =>
    refine fldC_of hq' ((fld_of hq (q2 f (List.mem_of_getElem? hi))).other W (Or.inr fun y => z ?_))
    have h1 : (fs.map (fun f => Jvm.RoadKit.slotOf Z f.1.1 f.1.2.1 f.1.2.2))[i]? = some (Jvm.RoadKit.slotOf Z f.1.1 f.1.2.1 f.1.2.2) := by rw [List.getElem?_map, hi]; rfl
    have h2 : (fs.map (fun f => Jvm.RoadKit.slotOf Z f.1.1 f.1.2.1 f.1.2.2))[j]? = some (Jvm.RoadKit.slotOf Z C' nm d) := by rw [List.getElem?_map, hj]; rfl
    obtain ⟨l1, e1⟩ := List.getElem?_eq_some_iff.mp h1
    obtain ⟨l2, e2⟩ := List.getElem?_eq_some_iff.mp h2
    exact ((List.getElem_inj q3).mp (e1.trans (y.trans e2.symm))).symm
theorem putfield (hx : p.tables.exec = Jvm.exec) (hZ : Z.Warmed39 s.vm) {own : String} (hown : s.vm.findClass own = some m.cls) (O : Owns n0 h os) (i j : Nat) {C C' nm d : String} {fs : List ((String × String × String) × Value)} (hi : os[i]? = some (a, ObjC Z C fs)) {old v : Value} (hj : fs[j]? = some ((C', nm, d), old))
    {pc pc' idx kk : Nat} {Ls : Array Slot} {rest : List Value} (w : (Jvm.Cond.fieldLink own idx C' nm d).before a0 Z = true) (L : (Jvm.Cond.lays C C' nm d).before a0 Z = true ∨ ((Jvm.Cond.laysFinal C C' nm d).before a0 Z = true ∧ own = C' ∧ meth.name = "<init>")) (wi : (Jvm.Cond.instantiable C kk).before a0 Z = true)
    {ty : FieldType} (hty : parseFieldDescriptor d = some ty) (hnr : narrow ty v = v) (hf : fits ty v = true) (os' : List (Addr × (Cell → Prop))) (hos : os.set i (a, ObjC Z C (fs.set j ((C', nm, d), v))) = os')
    (hd : decode c.code pc = .ok (.putfield idx, 3)) (hp : pc + 3 = pc') (K : ∀ h', Owns n0 h' os' → Goes p l e R s m args below meth c n0 mc ms Fn h' k n (mkF m pc' Ls rest)) : Goes p l e R s m args below meth c n0 mc ms Fn h k n (mkF m pc Ls (v :: .ref a :: rest)) := by
  subst hp hos
  refine Goes.move (Pr := fun h' => Owns n0 h' (os.set i (a, ObjC Z C (fs.set j ((C', nm, d), v))))) (fun T locs X N eT => ?_) K
  obtain ⟨T', h', X', e', W, st⟩ := putF X hx hZ hown (host := "") (Or.inl w) Via.refl eT (O.fld hi hj) (O.exa hi) L wi hty hnr hf (g := mkF m pc Ls (v :: .ref a :: rest)) rfl rfl hd
  exact ⟨T', _, X', Fr.snoc X' N (O.at hi).1, by rw [e']; exact O.wr hi W fun cell q => obj_set hj q, st⟩
theorem nodup_slots {C : String} : ∀ {fs : List ((String × String × String) × Value)}, (∀ f ∈ fs, Laid Z a0 C f.1.1 f.1.2.1 f.1.2.2 ∧ ∃ ty, parseFieldDescriptor f.1.2.2 = some ty ∧ defaultValue ty = f.2) → (fs.map fun f => f.1.2.1).Nodup → (fs.map fun f => Jvm.RoadKit.slotOf Z f.1.1 f.1.2.1 f.1.2.2).Nodup
  | [], _, _ => List.nodup_nil
  | f :: fs, hL, hN => by
    rw [List.map_cons, List.nodup_cons] at hN ⊢
    refine ⟨fun z => ?_, nodup_slots (fun g hg => hL g (List.mem_cons_of_mem _ hg)) hN.2⟩
    obtain ⟨g, hg, e1⟩ := List.mem_map.mp z
    obtain ⟨L1, d1⟩ := hL f List.mem_cons_self
    obtain ⟨L2, d2⟩ := hL g (List.mem_cons_of_mem _ hg)
    obtain ⟨t1, t1', -⟩ := d1
    obtain ⟨t2, t2', -⟩ := d2
    exact slot_ne L1 L2 (fun q => hN.1 (List.mem_map.mpr ⟨g, hg, q.symm⟩)) t1' t2' e1.symm
theorem newobj (hx : p.tables.exec = Jvm.exec) (hZ : Z.Warmed39 s.vm) {own : String} (hown : s.vm.findClass own = some m.cls) (O : Owns n0 h os) {C : String} {idx kk : Nat} (w1 : (Jvm.Cond.classLink own idx C).before a0 Z = true) (w2 : (Jvm.Cond.instantiable C kk).before a0 Z = true) (w3 : (Jvm.Cond.initialized C).before a0 Z = true)
    (fs : List ((String × String × String) × Value)) (hL : ∀ f ∈ fs, Laid Z a0 C f.1.1 f.1.2.1 f.1.2.2 ∧ ∃ ty, parseFieldDescriptor f.1.2.2 = some ty ∧ defaultValue ty = f.2) (hN : (fs.map fun f => f.1.2.1).Nodup) {k' n' : Nat} (hk' : k + 1 = k') (hn' : n + kk = n') (hc : k' ≤ R.cells) (hl : n' ≤ R.slots)
    {pc pc' : Nat} {Ls : Array Slot} {rest : List Value} (hd : decode c.code pc = .ok (.new idx, 3)) (hp : pc + 3 = pc') (K : ∀ a h', Owns n0 h' ((a, ObjC Z C fs) :: os) → Goes p l e R s m args below meth c n0 mc ms Fn h' k' n' (mkF m pc' Ls (.ref a :: rest))) : Goes p l e R s m args below meth c n0 mc ms Fn h k n (mkF m pc Ls rest) := by
  subst hp hk' hn'
  refine Goes.move (Pr := fun h' => Owns n0 h' ((h.size, ObjC Z C fs) :: os)) (fun T locs X N eT => ?_) (fun h' q => K _ _ q)
  obtain ⟨T', h', X', e', E, A, D, ⟨cell, q1, -, -⟩, st⟩ := newO X hx hZ hown w1 w2 w3 eT (g := mkF m pc Ls rest) rfl hd hc hl
  refine ⟨T', locs, X', N, ?_, st⟩
  rw [e']
  refine O.push E ⟨cell, q1, exaC_of q1 A, fun f hf => ?_, nodup_slots hL hN⟩
  obtain ⟨L1, d1⟩ := hL f hf
  obtain ⟨t1, t1', t1''⟩ := d1
  have := D L1 t1'
  rw [t1''] at this
  exact fldC_of q1 this
theorem idx_ok {j : Int32} {i len : Nat} (hj : j.toInt = (i : Int)) (hi : i < len) : ¬ (j < 0 ∨ len ≤ j.toNatClampNeg) ∧ j.toNatClampNeg = i := by
  have h0 : ¬ j < 0 := fun q => by have := Int32.lt_iff_toInt_lt.mp q; rw [hj] at this; have h1 : (0 : Int32).toInt = 0 := by decide
                                   omega
  have h1 : j.toNatClampNeg = i := by have := nat_of h0; omega
  exact ⟨fun q => by rcases q with q | q
                     · exact h0 q
                     · omega, h1⟩
theorem newarr (hx : p.tables.exec = Jvm.exec) (hZ : Z.Warmed39 s.vm) (O : Owns n0 h os) {aty : ArrayType} (w : (Jvm.Cond.arrayClass (newarray.typeOf aty)).before a0 Z = true) {z : Int32} (len : Nat) (hz : z.toInt = (len : Int)) (vs : List Value) (hvs : List.replicate len (defaultValue (newarray.typeOf aty)) = vs) (hfit : fits (newarray.typeOf aty) (defaultValue (newarray.typeOf aty)) = true) {cap : Nat} (hcap : len ≤ cap) (hbg : cap * 8 ≤ 536870912) {k' n' : Nat} (hk' : k + 1 = k') (hn' : n + cap = n') (hc : k' ≤ R.cells) (hl : n' ≤ R.slots)
    {pc pc' : Nat} {Ls : Array Slot} {rest : List Value} (hd : decode c.code pc = .ok (.newarray aty, 2)) (hp : pc + 2 = pc') (K : ∀ a h', Owns n0 h' ((a, ArrC Z (newarray.typeOf aty) vs) :: os) → Goes p l e R s m args below meth c n0 mc ms Fn h' k' n' (mkF m pc' Ls (.ref a :: rest))) : Goes p l e R s m args below meth c n0 mc ms Fn h k n (mkF m pc Ls (.int z :: rest)) := by
  subst hp hk' hn' hvs
  have hz0 : ¬ z < 0 := fun q => by have := Int32.lt_iff_toInt_lt.mp q; rw [hz] at this; have h1 : (0 : Int32).toInt = 0 := by decide
                                    omega
  have hz1 : z.toNatClampNeg = len := by have := nat_of hz0; omega
  refine Goes.move (Pr := fun h' => Owns n0 h' ((h.size, ArrC Z (newarray.typeOf aty) (List.replicate len (defaultValue (newarray.typeOf aty)))) :: os)) (fun T locs X N eT => ?_) (fun h' q => K _ _ q)
  obtain ⟨T', h', cA, X', e', E, A, st⟩ := newP X hx hZ w eT (g := mkF m pc Ls (.int z :: rest)) rfl hd rfl hz0 (cap := cap) (by omega) hbg hc hl
  refine ⟨T', locs, X', N, ?_, st⟩
  rw [e']
  refine O.push E ⟨_, A.1, A.2.1, A.2.2, by simp [newA, hz1], fun v hv => ?_⟩
  rw [(List.mem_replicate.mp hv).2]; exact hfit
theorem arrlen (hx : p.tables.exec = Jvm.exec) (hZ : Z.Warmed39 s.vm) (O : Owns n0 h os) (i : Nat) {ty : FieldType} {vs : List Value} (hi : os[i]? = some (a, ArrC Z ty vs)) (z : Int32) (hz : vs.length.toInt32 = z) {pc pc' : Nat} {Ls : Array Slot} {rest : List Value} (hd : decode c.code pc = .ok (.arraylength, 1)) (hp : pc + 1 = pc')
    (K : Goes p l e R s m args below meth c n0 mc ms Fn h k n (mkF m pc' Ls (.int z :: rest))) : Goes p l e R s m args below meth c n0 mc ms Fn h k n (mkF m pc Ls (.ref a :: rest)) := fun T locs X N eT => by
  subst hp hz
  obtain ⟨-, cell, q1, q2, q3, q4, q5⟩ := O.at hi
  obtain ⟨s₂, o, hs, r⟩ := K T locs X N eT
  refine ⟨s₂, o, ?_, r⟩
  refine X.arraylength hx (by rw [eT]; exact q1) (State.isArrayOf_alike hZ.alike q2) (g := mkF m pc Ls (.ref a :: rest)) rfl rfl hd _ ?_
  have e1 : cell.slots.size = vs.length := by rw [← q4, Array.length_toList]
  rw [e1]; exact hs
theorem iaload (hx : p.tables.exec = Jvm.exec) (hZ : Z.Warmed39 s.vm) (O : Owns n0 h os) (i j : Nat) {vs : List Value} (hi : os[i]? = some (a, ArrC Z .int vs)) {jj : Int32} (hj : jj.toInt = (j : Int)) {v : Value} (hv : vs[j]? = some v) {pc pc' : Nat} {Ls : Array Slot} {rest : List Value} (hd : decode c.code pc = .ok (.iaload, 1)) (hp : pc + 1 = pc')
    (K : Goes p l e R s m args below meth c n0 mc ms Fn h k n (mkF m pc' Ls (v :: rest))) : Goes p l e R s m args below meth c n0 mc ms Fn h k n (mkF m pc Ls (.int jj :: .ref a :: rest)) := fun T locs X N eT => by
  subst hp
  obtain ⟨-, cell, q1, q2, q3, q4, q5⟩ := O.at hi
  have e1 : cell.slots.size = vs.length := by rw [← q4, Array.length_toList]
  obtain ⟨hin, hjn⟩ := idx_ok hj (len := cell.slots.size) (by rw [e1]; exact (List.getElem?_eq_some_iff.mp hv).1)
  obtain ⟨s₂, o, hs, r⟩ := K T locs X N eT
  refine ⟨s₂, o, X.iaload hx (by rw [eT]; exact q1) (State.isArrayOf_alike hZ.alike q2) q3 hin (by rw [hjn, ← Array.getElem?_toList, q4]; exact hv) (g := mkF m pc Ls (.int jj :: .ref a :: rest)) rfl rfl hd _ hs, r⟩
theorem laload (hx : p.tables.exec = Jvm.exec) (hZ : Z.Warmed39 s.vm) (O : Owns n0 h os) (i j : Nat) {vs : List Value} (hi : os[i]? = some (a, ArrC Z .long vs)) {jj : Int32} (hj : jj.toInt = (j : Int)) {v : Value} (hv : vs[j]? = some v) {pc pc' : Nat} {Ls : Array Slot} {rest : List Value} (hd : decode c.code pc = .ok (.laload, 1)) (hp : pc + 1 = pc')
    (K : Goes p l e R s m args below meth c n0 mc ms Fn h k n (mkF m pc' Ls (v :: rest))) : Goes p l e R s m args below meth c n0 mc ms Fn h k n (mkF m pc Ls (.int jj :: .ref a :: rest)) := fun T locs X N eT => by
  subst hp
  obtain ⟨-, cell, q1, q2, q3, q4, q5⟩ := O.at hi
  have e1 : cell.slots.size = vs.length := by rw [← q4, Array.length_toList]
  obtain ⟨hin, hjn⟩ := idx_ok hj (len := cell.slots.size) (by rw [e1]; exact (List.getElem?_eq_some_iff.mp hv).1)
  obtain ⟨s₂, o, hs, r⟩ := K T locs X N eT
  refine ⟨s₂, o, X.laload hx (by rw [eT]; exact q1) (State.isArrayOf_alike hZ.alike q2) q3 hin (by rw [hjn, ← Array.getElem?_toList, q4]; exact hv) (g := mkF m pc Ls (.int jj :: .ref a :: rest)) rfl rfl hd _ hs, r⟩
theorem caload (hx : p.tables.exec = Jvm.exec) (hZ : Z.Warmed39 s.vm) (O : Owns n0 h os) (i j : Nat) {vs : List Value} (hi : os[i]? = some (a, ArrC Z .char vs)) {jj : Int32} (hj : jj.toInt = (j : Int)) {v : Value} (hv : vs[j]? = some v) {pc pc' : Nat} {Ls : Array Slot} {rest : List Value} (hd : decode c.code pc = .ok (.caload, 1)) (hp : pc + 1 = pc')
    (K : Goes p l e R s m args below meth c n0 mc ms Fn h k n (mkF m pc' Ls (v :: rest))) : Goes p l e R s m args below meth c n0 mc ms Fn h k n (mkF m pc Ls (.int jj :: .ref a :: rest)) := fun T locs X N eT => by
  subst hp
  obtain ⟨-, cell, q1, q2, q3, q4, q5⟩ := O.at hi
  have e1 : cell.slots.size = vs.length := by rw [← q4, Array.length_toList]
  obtain ⟨hin, hjn⟩ := idx_ok hj (len := cell.slots.size) (by rw [e1]; exact (List.getElem?_eq_some_iff.mp hv).1)
  obtain ⟨s₂, o, hs, r⟩ := K T locs X N eT
  refine ⟨s₂, o, X.caload hx (by rw [eT]; exact q1) (State.isArrayOf_alike hZ.alike q2) q3 hin (by rw [hjn, ← Array.getElem?_toList, q4]; exact hv) (g := mkF m pc Ls (.int jj :: .ref a :: rest)) rfl rfl hd _ hs, r⟩
theorem iastore (hx : p.tables.exec = Jvm.exec) (hZ : Z.Warmed39 s.vm) (O : Owns n0 h os) (i j : Nat) {vs : List Value} (hi : os[i]? = some (a, ArrC Z .int vs)) {jj : Int32} (hj : jj.toInt = (j : Int)) (hv : j < vs.length) {x : Int32} (os' : List (Addr × (Cell → Prop))) (hos : os.set i (a, ArrC Z .int (vs.set j (.int x))) = os') {pc pc' : Nat} {Ls : Array Slot} {rest : List Value} (hd : decode c.code pc = .ok (.iastore, 1)) (hp : pc + 1 = pc')
    (K : ∀ h', Owns n0 h' os' → Goes p l e R s m args below meth c n0 mc ms Fn h' k n (mkF m pc' Ls rest)) : Goes p l e R s m args below meth c n0 mc ms Fn h k n (mkF m pc Ls (.int x :: .int jj :: .ref a :: rest)) := by
  subst hp hos
  refine Goes.move (Pr := fun h' => Owns n0 h' (os.set i (a, ArrC Z .int (vs.set j (.int x))))) (fun T locs X N eT => ?_) K
  obtain ⟨q0, cell, q1, q2, q3, q4, q5⟩ := O.at hi
  have e1 : cell.slots.size = vs.length := by rw [← q4, Array.length_toList]
  obtain ⟨hin, hjn⟩ := idx_ok hj (len := cell.slots.size) (by rw [e1]; exact hv)
  obtain ⟨T', h', X', e', W, st'⟩ := stI X hx hZ eT ⟨q1, q2, q3⟩ hin (g := mkF m pc Ls (.int x :: .int jj :: .ref a :: rest)) rfl rfl hd
  refine ⟨T', _, X', Fr.snoc X' N q0, ?_, st'⟩
  rw [e']
  rw [hjn] at W
  obtain ⟨w1, w2, w3⟩ := wr_get W
  exact O.upd hi w1 w2 ⟨_, w3 _ q1, q2, q3, by simp [Cell.setSlot, Array.toList_setIfInBounds, q4], fun v hv' => by
    rcases List.mem_or_eq_of_mem_set hv' with z | z
    · exact q5 v z
    · rw [z]; exact rfl⟩
theorem lastore (hx : p.tables.exec = Jvm.exec) (hZ : Z.Warmed39 s.vm) (O : Owns n0 h os) (i j : Nat) {vs : List Value} (hi : os[i]? = some (a, ArrC Z .long vs)) {jj : Int32} (hj : jj.toInt = (j : Int)) (hv : j < vs.length) {x : Int64} (os' : List (Addr × (Cell → Prop))) (hos : os.set i (a, ArrC Z .long (vs.set j (.long x))) = os') {pc pc' : Nat} {Ls : Array Slot} {rest : List Value} (hd : decode c.code pc = .ok (.lastore, 1)) (hp : pc + 1 = pc')
    (K : ∀ h', Owns n0 h' os' → Goes p l e R s m args below meth c n0 mc ms Fn h' k n (mkF m pc' Ls rest)) : Goes p l e R s m args below meth c n0 mc ms Fn h k n (mkF m pc Ls (.long x :: .int jj :: .ref a :: rest)) := by
  subst hp hos
  refine Goes.move (Pr := fun h' => Owns n0 h' (os.set i (a, ArrC Z .long (vs.set j (.long x))))) (fun T locs X N eT => ?_) K
  obtain ⟨q0, cell, q1, q2, q3, q4, q5⟩ := O.at hi
  have e1 : cell.slots.size = vs.length := by rw [← q4, Array.length_toList]
  obtain ⟨hin, hjn⟩ := idx_ok hj (len := cell.slots.size) (by rw [e1]; exact hv)
  obtain ⟨T', h', X', e', W, st'⟩ := stJ X hx hZ eT ⟨q1, q2, q3⟩ hin (g := mkF m pc Ls (.long x :: .int jj :: .ref a :: rest)) rfl rfl hd
  refine ⟨T', _, X', Fr.snoc X' N q0, ?_, st'⟩
  rw [e']
  rw [hjn] at W
  obtain ⟨w1, w2, w3⟩ := wr_get W
  exact O.upd hi w1 w2 ⟨_, w3 _ q1, q2, q3, by simp [Cell.setSlot, Array.toList_setIfInBounds, q4], fun v hv' => by
    rcases List.mem_or_eq_of_mem_set hv' with z | z
    · exact q5 v z
    · rw [z]; exact rfl⟩
theorem castore (hx : p.tables.exec = Jvm.exec) (hZ : Z.Warmed39 s.vm) (O : Owns n0 h os) (i j : Nat) {vs : List Value} (hi : os[i]? = some (a, ArrC Z .char vs)) {jj : Int32} (hj : jj.toInt = (j : Int)) (hv : j < vs.length) {x : Int32} (os' : List (Addr × (Cell → Prop))) (hos : os.set i (a, ArrC Z .char (vs.set j (.int (nar .char x)))) = os') {pc pc' : Nat} {Ls : Array Slot} {rest : List Value} (hd : decode c.code pc = .ok (.castore, 1)) (hp : pc + 1 = pc')
    (K : ∀ h', Owns n0 h' os' → Goes p l e R s m args below meth c n0 mc ms Fn h' k n (mkF m pc' Ls rest)) : Goes p l e R s m args below meth c n0 mc ms Fn h k n (mkF m pc Ls (.int x :: .int jj :: .ref a :: rest)) := by
  subst hp hos
  refine Goes.move (Pr := fun h' => Owns n0 h' (os.set i (a, ArrC Z .char (vs.set j (.int (nar .char x)))))) (fun T locs X N eT => ?_) K
  obtain ⟨q0, cell, q1, q2, q3, q4, q5⟩ := O.at hi
  have e1 : cell.slots.size = vs.length := by rw [← q4, Array.length_toList]
  obtain ⟨hin, hjn⟩ := idx_ok hj (len := cell.slots.size) (by rw [e1]; exact hv)
  obtain ⟨T', h', X', e', W, st'⟩ := stC X hx hZ eT ⟨q1, q2, q3⟩ hin (g := mkF m pc Ls (.int x :: .int jj :: .ref a :: rest)) rfl rfl hd
  refine ⟨T', _, X', Fr.snoc X' N q0, ?_, st'⟩
  rw [e']
  rw [hjn] at W
  obtain ⟨w1, w2, w3⟩ := wr_get W
  exact O.upd hi w1 w2 ⟨_, w3 _ q1, q2, q3, by simp [Cell.setSlot, Array.toList_setIfInBounds, q4], fun v hv' => by
    rcases List.mem_or_eq_of_mem_set hv' with z | z
    · exact q5 v z
    · rw [z]; exact fits_nar_char x⟩
theorem initobj (hx : p.tables.exec = Jvm.exec) (hZ : Z.Warmed39 s.vm) {own : String} (hown : s.vm.findClass own = some m.cls) {idx : Nat} (w1 : (Jvm.Cond.methodLink own idx Lib.objectInit).before a0 Z = true) (w2 : (Jvm.Cond.instanceMethod Lib.objectInit).before a0 Z = true) (w3 : (Jvm.Cond.code Lib.objectInit ⟨#[0xb1]⟩ 1 none).before a0 Z = true)
    {pc pc' : Nat} {Ls : Array Slot} {rest : List Value} (hml : Ls.size = c.maxLocals) {W : Nat} (hW : (rest.map fun v => v.category).sum ≤ W) (hf : 1 ≤ R.frames) (hl : W + 12 ≤ R.locals) (hd : decode c.code pc = .ok (.invokespecial idx, 3)) (hp : pc + 3 = pc') (K : Goes p l e R s m args below meth c n0 mc ms Fn h k n (mkF m pc' Ls rest)) : Goes p l e R s m args below meth c n0 mc ms Fn h k n (mkF m pc Ls (.ref a :: rest)) := by
  subst hp
  refine Goes.move (Pr := fun h' => h' = h) (k' := k) (n' := n) (g' := mkF m (pc + 3) Ls rest) (fun T locs X N eT => ?_) (fun h' q => by rw [q]; exact K)
  obtain ⟨T', X', e', st⟩ := initO X hx hZ hown w1 w2 w3 eT (g := mkF m pc Ls (.ref a :: rest)) rfl hml rfl hd hf (W := W) (by show 2 * 0 + _ ≤ _; omega) hl
  exact ⟨T', locs, X', N, e', st⟩
/-- a constructor by its contract -/
theorem callI (hx : p.tables.exec = Jvm.exec) (hZ : Z.Warmed39 s.vm) {own : String} (hown : s.vm.findClass own = some m.cls) {i : Nat} {y : MethodName} (hyn : y.name = "<init>") {bytes : ByteArray} {maxL : Nat} {rm : Room} {F : Option Value → Heap → Prop} {argsL rest : List Value}
    (w1 : (Jvm.Cond.methodLink own i y).before a0 Z = true) (w2 : (Jvm.Cond.instanceMethod y).before a0 Z = true) (w3 : (Jvm.Cond.initialized y.cls).before a0 Z = true) (w4 : (Jvm.Cond.code y bytes maxL none).before a0 Z = true) (hy : y.cls ≠ "java/lang/invoke/MethodHandle" ∧ y.cls ≠ "java/lang/invoke/VarHandle")
    {sg : ClassFile.MethodDescriptor} (hsg : parseMethodDescriptor y.desc = some sg) (hlen : argsL.length = sg.parameters.length) {pc pc' : Nat} {Ls : Array Slot} {W : Nat} (hW : (rest.map fun v => v.category).sum ≤ W) (hf : rm.frames + 1 ≤ R.frames) (hl : W + (maxL + 11) + rm.locals ≤ R.locals) (hcl : k + rm.cells ≤ R.cells) (hsl : n + rm.slots ≤ R.slots)
    {k' n' : Nat} (hk' : k + rm.cells = k') (hn' : n + rm.slots = n') (hml : Ls.size = c.maxLocals) (st : List Value) (hst : st = argsL.reverse ++ .ref a :: rest) (hd : decode c.code pc = .ok (.invokespecial i, 3)) (hp : pc + 3 = pc') (D : Does l y bytes maxL none [] rm Z (.ref a :: argsL).toArray h n0 F)
    (K : ∀ v h', F v h' → Goes p l e R s m args below meth c n0 mc ms Fn h' k' n' (mkF m pc' Ls (v.toList ++ rest))) : Goes p l e R s m args below meth c n0 mc ms Fn h k n (mkF m pc Ls st) := fun T locs X N eT => by
  subst hp hst hk' hn'
  obtain ⟨v, _, ⟨T', L', k', n'⟩, -, X', ⟨Lc, hQ, l1, y1, z1⟩, st⟩ := X.specialBack hx (y := y) hyn hown (mvT hZ w1) (mvT hZ w2) (mvT hZ w4) hy (backOf (W := W) (Q := fun v h' L => F v h' ∧ Fr n0 L) D hZ w4 w3 hf hl) (g := mkF m pc Ls (argsL.reverse ++ .ref a :: rest)) rfl hml (Steps.refl _) (a := a) (argsL := argsL) (rest := rest) (lenOf hsg hlen) rfl (by show 2 * 0 + _ ≤ _; omega) hd (fun _ _ => ⟨rfl, eT, hcl, hsl⟩)
  dsimp only [Pt.U, Pt.locs, Pt.cells, Pt.slots] at X' l1 y1 z1 st hQ
  subst l1 y1 z1
  obtain ⟨s₂, o, hs, r⟩ := K v T'.heap hQ.1 T' _ X' (N.app hQ.2) rfl
  exact ⟨s₂, o, st.trans hs, r⟩
/-- an instance method by its contract: the receiver is just of the class C -/
theorem callV (hx : p.tables.exec = Jvm.exec) (hZ : Z.Warmed39 s.vm) {own C : String} (hown : s.vm.findClass own = some m.cls) {i : Nat} {y : MethodName} {bytes : ByteArray} {maxL : Nat} {ret : Option FieldType} {rm : Room} {F : Option Value → Heap → Prop} {argsL rest : List Value} (E : Exa Z h a C)
    (w1 : (Jvm.Cond.methodLink own i y).before a0 Z = true) (w2 : (Jvm.Cond.declares y).before a0 Z = true) (w5 : (Jvm.Cond.selects C y y).before a0 Z = true) (w6 : (Jvm.Cond.instanceMethod y).before a0 Z = true) (w3 : (Jvm.Cond.initialized y.cls).before a0 Z = true) (w4 : (Jvm.Cond.code y bytes maxL ret).before a0 Z = true) (hy : y.cls ≠ "java/lang/invoke/MethodHandle" ∧ y.cls ≠ "java/lang/invoke/VarHandle")
    {sg : ClassFile.MethodDescriptor} (hsg : parseMethodDescriptor y.desc = some sg) (hlen : argsL.length = sg.parameters.length) {pc pc' : Nat} {Ls : Array Slot} {W : Nat} (hW : (rest.map fun v => v.category).sum ≤ W) (hf : rm.frames + 1 ≤ R.frames) (hl : W + (maxL + 11) + rm.locals ≤ R.locals) (hcl : k + rm.cells ≤ R.cells) (hsl : n + rm.slots ≤ R.slots)
    {k' n' : Nat} (hk' : k + rm.cells = k') (hn' : n + rm.slots = n') (hml : Ls.size = c.maxLocals) (st : List Value) (hst : st = argsL.reverse ++ .ref a :: rest) (hd : decode c.code pc = .ok (.invokevirtual i, 3)) (hp : pc + 3 = pc') (D : Does l y bytes maxL ret [] rm Z (.ref a :: argsL).toArray h n0 F)
    (K : ∀ v h', F v h' → Goes p l e R s m args below meth c n0 mc ms Fn h' k' n' (mkF m pc' Ls (v.toList ++ rest))) : Goes p l e R s m args below meth c n0 mc ms Fn h k n (mkF m pc Ls st) := fun T locs X N eT => by
  subst hp hst hk' hn'
  obtain ⟨cq, kq, qa, qb, qc⟩ := isOf hZ eT E
  obtain ⟨v, _, ⟨T', L', k', n'⟩, -, X', ⟨Lc, hQ, l1, y1, z1⟩, st⟩ := X.virtualBack hx (y := y) (z := y) hown (mvT hZ w1) (mvT hZ w2) (notFace_of_selects (args := #[]) (mvT hZ w5)) (mvT hZ w5) (mvT hZ w6) hy (backOf (W := W) (Q := fun v h' L => F v h' ∧ Fr n0 L) D hZ w4 w3 hf hl) qa qc (g := mkF m pc Ls (argsL.reverse ++ .ref a :: rest)) rfl hml (Steps.refl _) (argsL := argsL) (rest := rest) (lenOf hsg hlen) rfl (by show 2 * 0 + _ ≤ _; omega) hd (fun _ _ => ⟨rfl, eT, hcl, hsl⟩)
  dsimp only [Pt.U, Pt.locs, Pt.cells, Pt.slots] at X' l1 y1 z1 st hQ
  subst l1 y1 z1
  obtain ⟨s₂, o, hs, r⟩ := K v T'.heap hQ.1 T' _ X' (N.app hQ.2) rfl
  exact ⟨s₂, o, st.trans hs, r⟩
/-- a private method (by invokevirtual) by its contract -/
theorem callP (hx : p.tables.exec = Jvm.exec) (hZ : Z.Warmed39 s.vm) {own C : String} (hown : s.vm.findClass own = some m.cls) {i : Nat} {y : MethodName} {bytes : ByteArray} {maxL : Nat} {ret : Option FieldType} {rm : Room} {F : Option Value → Heap → Prop} {argsL rest : List Value} (E : Exa Z h a C)
    (w1 : (Jvm.Cond.methodLink own i y).before a0 Z = true) (w2 : (Jvm.Cond.instanceMethod y).before a0 Z = true) {ki : Nat} (wi : (Jvm.Cond.instantiable y.cls ki).before a0 Z = true) (w6 : (Jvm.Cond.privateMethod y).before a0 Z = true) (w3 : (Jvm.Cond.initialized y.cls).before a0 Z = true) (w4 : (Jvm.Cond.code y bytes maxL ret).before a0 Z = true) (hy : y.cls ≠ "java/lang/invoke/MethodHandle" ∧ y.cls ≠ "java/lang/invoke/VarHandle")
    {sg : ClassFile.MethodDescriptor} (hsg : parseMethodDescriptor y.desc = some sg) (hlen : argsL.length = sg.parameters.length) {pc pc' : Nat} {Ls : Array Slot} {W : Nat} (hW : (rest.map fun v => v.category).sum ≤ W) (hf : rm.frames + 1 ≤ R.frames) (hl : W + (maxL + 11) + rm.locals ≤ R.locals) (hcl : k + rm.cells ≤ R.cells) (hsl : n + rm.slots ≤ R.slots)
    {k' n' : Nat} (hk' : k + rm.cells = k') (hn' : n + rm.slots = n') (hml : Ls.size = c.maxLocals) (st : List Value) (hst : st = argsL.reverse ++ .ref a :: rest) (hd : decode c.code pc = .ok (.invokevirtual i, 3)) (hp : pc + 3 = pc') (D : Does l y bytes maxL ret [] rm Z (.ref a :: argsL).toArray h n0 F)
    (K : ∀ v h', F v h' → Goes p l e R s m args below meth c n0 mc ms Fn h' k' n' (mkF m pc' Ls (v.toList ++ rest))) : Goes p l e R s m args below meth c n0 mc ms Fn h k n (mkF m pc Ls st) := fun T locs X N eT => by
  subst hp hst hk' hn'
  obtain ⟨cq, qa, qb⟩ := E.cell
  have hpriv : s.PrivateAt y := Cond.privateMethod_at (mvP hZ w6 (args := #[]))
  obtain ⟨_, _, i1, i2, -, i3, -, -⟩ := Cond.instantiable_spec (mvT hZ wi : (Jvm.Cond.instantiable y.cls ki).before args s = true)
  have hsel : (Jvm.Cond.selects y.cls y y).before args s = true := selects_self_of_private i1 i2 (Bool.or_eq_false_iff.mp i3).1 hpriv (mvT hZ w2) hy
  obtain ⟨v, _, ⟨T', L', k', n'⟩, -, X', ⟨Lc, hQ, l1, y1, z1⟩, st⟩ := X.privateBack hx (y := y) hown (mvT hZ w1) (mvT hZ w2) hsel hpriv (mvT hZ w4) hy (backOf (W := W) (Q := fun v h' L => F v h' ∧ Fr n0 L) D hZ w4 w3 hf hl) (g := mkF m pc Ls (argsL.reverse ++ .ref a :: rest)) rfl hml (Steps.refl _) (a := a) (by rw [eT]; exact qa) qb (argsL := argsL) (rest := rest) (lenOf hsg hlen) rfl (by show 2 * 0 + _ ≤ _; omega) hd (fun _ _ => ⟨rfl, eT, hcl, hsl⟩)
  dsimp only [Pt.U, Pt.locs, Pt.cells, Pt.slots] at X' l1 y1 z1 st hQ
  subst l1 y1 z1
  obtain ⟨s₂, o, hs, r⟩ := K v T'.heap hQ.1 T' _ X' (N.app hQ.2) rfl
  exact ⟨s₂, o, st.trans hs, r⟩
end EngH
end Own
def fMin (a b : Int64) : Int64 := if b < a then b else a
def fMaxL (a b : Int64) : Int64 := if a < b then b else a
def fBelow (s g : Int64) : Int64 := if s < (-9223372036854775808 : Int64) + g then (-9223372036854775808 : Int64) else s - g
def fSR0 (_cell : Int64) : Int32 := 0
def fSR1 (e1 cell : Int64) : Int32 := if e1 < cell then 2 else 0
def fSR2 (e1 e3 cell : Int64) : Int32 := if e3 < cell then 4 else if e1 < cell then 2 else 0
def fSR3 (e1 e3 e5 cell : Int64) : Int32 := if e3 < cell then (if e5 < cell then 6 else 4) else if e1 < cell then 2 else 0

theorem d1_0 : decode jdk_29_method_70_code 0 = .ok (.lload_n 0, 1) := by decide +kernel
theorem d1_1 : decode jdk_29_method_70_code 1 = .ok (.lload_n 2, 1) := by decide +kernel
theorem d1_2 : decode jdk_29_method_70_code 2 = .ok (.lcmp, 1) := by decide +kernel
theorem d1_3 : decode jdk_29_method_70_code 3 = .ok (.ifCond .gt 7, 3) := by decide +kernel
theorem d1_6 : decode jdk_29_method_70_code 6 = .ok (.lload_n 0, 1) := by decide +kernel
theorem d1_7 : decode jdk_29_method_70_code 7 = .ok (.goto 4, 3) := by decide +kernel
theorem d1_10 : decode jdk_29_method_70_code 10 = .ok (.lload_n 2, 1) := by decide +kernel
theorem d1_11 : decode jdk_29_method_70_code 11 = .ok (.lreturn, 1) := by decide +kernel
theorem pn0 : plainFor (⟨"java/lang/Math", "min", "(JJ)J"⟩ : MethodName) = true := Jvm.Free.JP.mathPlain rfl (by decide +kernel)
theorem ef1 (m : MethodId) (q0 : Int64) (q1 : Int64) : entryFrame m #[(.long q0), (.long q1)] 4 = mkF m 0 #[.val (.long q0), .second, .val (.long q1), .second] [] := by first | (simp [entryFrame, mkF, argsToLocals, Value.category]; done) | rfl
set_option maxRecDepth 65536 in
set_option maxHeartbeats 40000000 in
theorem rm1 (l : Launch) (Z : State) (a0 : Array Value) (hw : ∀ d ∈ tables_1, d.before a0 Z = true) (q0 : Int64) (q1 : Int64) (h0 : Heap) (n0 : Nat)   : Own.Does l (⟨"java/lang/Math", "min", "(JJ)J"⟩ : MethodName) jdk_29_method_70_code 4 (some .long) [] ({ frames := 0, cells := 0, slots := 0, locals := 0 } : Room) Z #[(.long q0), (.long q1)] h0 n0 (fun v h => v = some (.long (fMin q0 q1)) ∧ h = h0) := by
  refine Own.doesOf pn0 ?_
  intro p e s m below meth c hx hby hml hret hlk hown hnm hZ
  refine Own.Goes.cast (ef1 m q0 q1) ?_
  refine Own.lloadN hx q0 (hb hby d1_0) rfl rfl ?_
  refine Own.lloadN hx q1 (hb hby d1_1) rfl rfl ?_
  refine Own.lcmp hx (hb hby d1_2) rfl ?_
  obtain ⟨v2, h_v2⟩ : ∃ z : Int64, z = (if q1 < q0 then q1 else q0) := ⟨_, rfl⟩
  refine Own.Goes.join (mkF m 11 #[.val (.long q0), .second, .val (.long q1), .second] [(.long v2)]) (fun kJ3 => ?_) ?_
  · refine Own.ifF hx (Own.w_gt q0 q1) (hb hby d1_3) (pcN := 6) rfl (by decide) (pcT := 10) rfl (fun hc1 => ?_) (fun hc1 => ?_)
    · refine Own.lloadN hx q1 (hb hby d1_10) rfl rfl ?_
      try simp only [if_pos hc1] at h_v2
      subst h_v2
      exact kJ3
    · refine Own.lloadN hx q0 (hb hby d1_6) rfl rfl ?_
      refine Own.goto hx (hb hby d1_7) (by decide) (pc' := 11) rfl ?_
      try simp only [if_neg hc1] at h_v2
      subst h_v2
      exact kJ3
  exact Own.retL hx hret hlk (hb hby d1_11) (by decide) (by decide) ⟨by subst h_v2; simp only [fMin], rfl⟩

theorem d2_0 : decode jdk_29_method_66_code 0 = .ok (.lload_n 0, 1) := by decide +kernel
theorem d2_1 : decode jdk_29_method_66_code 1 = .ok (.lload_n 2, 1) := by decide +kernel
theorem d2_2 : decode jdk_29_method_66_code 2 = .ok (.lcmp, 1) := by decide +kernel
theorem d2_3 : decode jdk_29_method_66_code 3 = .ok (.ifCond .lt 7, 3) := by decide +kernel
theorem d2_6 : decode jdk_29_method_66_code 6 = .ok (.lload_n 0, 1) := by decide +kernel
theorem d2_7 : decode jdk_29_method_66_code 7 = .ok (.goto 4, 3) := by decide +kernel
theorem d2_10 : decode jdk_29_method_66_code 10 = .ok (.lload_n 2, 1) := by decide +kernel
theorem d2_11 : decode jdk_29_method_66_code 11 = .ok (.lreturn, 1) := by decide +kernel
theorem pn1 : plainFor (⟨"java/lang/Math", "max", "(JJ)J"⟩ : MethodName) = true := Jvm.Free.JP.mathPlain rfl (by decide +kernel)
theorem ef2 (m : MethodId) (q0 : Int64) (q1 : Int64) : entryFrame m #[(.long q0), (.long q1)] 4 = mkF m 0 #[.val (.long q0), .second, .val (.long q1), .second] [] := by first | (simp [entryFrame, mkF, argsToLocals, Value.category]; done) | rfl
set_option maxRecDepth 65536 in
set_option maxHeartbeats 40000000 in
theorem rm2 (l : Launch) (Z : State) (a0 : Array Value) (hw : ∀ d ∈ tables_1, d.before a0 Z = true) (q0 : Int64) (q1 : Int64) (h0 : Heap) (n0 : Nat)   : Own.Does l (⟨"java/lang/Math", "max", "(JJ)J"⟩ : MethodName) jdk_29_method_66_code 4 (some .long) [] ({ frames := 0, cells := 0, slots := 0, locals := 0 } : Room) Z #[(.long q0), (.long q1)] h0 n0 (fun v h => v = some (.long (fMaxL q0 q1)) ∧ h = h0) := by
  refine Own.doesOf pn1 ?_
  intro p e s m below meth c hx hby hml hret hlk hown hnm hZ
  refine Own.Goes.cast (ef2 m q0 q1) ?_
  refine Own.lloadN hx q0 (hb hby d2_0) rfl rfl ?_
  refine Own.lloadN hx q1 (hb hby d2_1) rfl rfl ?_
  refine Own.lcmp hx (hb hby d2_2) rfl ?_
  obtain ⟨v2, h_v2⟩ : ∃ z : Int64, z = (if q0 < q1 then q1 else q0) := ⟨_, rfl⟩
  refine Own.Goes.join (mkF m 11 #[.val (.long q0), .second, .val (.long q1), .second] [(.long v2)]) (fun kJ3 => ?_) ?_
  · refine Own.ifF hx (Own.w_lt q0 q1) (hb hby d2_3) (pcN := 6) rfl (by decide) (pcT := 10) rfl (fun hc1 => ?_) (fun hc1 => ?_)
    · refine Own.lloadN hx q1 (hb hby d2_10) rfl rfl ?_
      try simp only [if_pos hc1] at h_v2
      subst h_v2
      exact kJ3
    · refine Own.lloadN hx q0 (hb hby d2_6) rfl rfl ?_
      refine Own.goto hx (hb hby d2_7) (by decide) (pc' := 11) rfl ?_
      try simp only [if_neg hc1] at h_v2
      subst h_v2
      exact kJ3
  exact Own.retL hx hret hlk (hb hby d2_11) (by decide) (by decide) ⟨by subst h_v2; simp only [fMaxL], rfl⟩

theorem d3_0 : decode method_3_code 0 = .ok (.lload_n 0, 1) := by decide +kernel
theorem d3_1 : decode method_3_code 1 = .ok (.ldc2_w 31, 3) := by decide +kernel
theorem d3_4 : decode method_3_code 4 = .ok (.lload_n 2, 1) := by decide +kernel
theorem d3_5 : decode method_3_code 5 = .ok (.ladd, 1) := by decide +kernel
theorem d3_6 : decode method_3_code 6 = .ok (.lcmp, 1) := by decide +kernel
theorem d3_7 : decode method_3_code 7 = .ok (.ifCond .ge 9, 3) := by decide +kernel
theorem d3_10 : decode method_3_code 10 = .ok (.ldc2_w 31, 3) := by decide +kernel
theorem d3_13 : decode method_3_code 13 = .ok (.goto 6, 3) := by decide +kernel
theorem d3_16 : decode method_3_code 16 = .ok (.lload_n 0, 1) := by decide +kernel
theorem d3_17 : decode method_3_code 17 = .ok (.lload_n 2, 1) := by decide +kernel
theorem d3_18 : decode method_3_code 18 = .ok (.lsub, 1) := by decide +kernel
theorem d3_19 : decode method_3_code 19 = .ok (.lreturn, 1) := by decide +kernel
theorem pn2 : plainFor (⟨"com/example/tracewarden/tracewarden/monitor/GroupsStretchReachingPinLaw", "below", "(JJ)J"⟩ : MethodName) = true := by first | exact plainFor_of_name (by simp [plainName, overriddenIn]; done) | decide +kernel
theorem ef3 (m : MethodId) (q0 : Int64) (q1 : Int64) : entryFrame m #[(.long q0), (.long q1)] 4 = mkF m 0 #[.val (.long q0), .second, .val (.long q1), .second] [] := by first | (simp [entryFrame, mkF, argsToLocals, Value.category]; done) | rfl
set_option maxRecDepth 65536 in
set_option maxHeartbeats 40000000 in
theorem rm3 (l : Launch) (Z : State) (a0 : Array Value) (hw : ∀ d ∈ tables_1, d.before a0 Z = true) (q0 : Int64) (q1 : Int64) (h0 : Heap) (n0 : Nat)   : Own.Does l (⟨"com/example/tracewarden/tracewarden/monitor/GroupsStretchReachingPinLaw", "below", "(JJ)J"⟩ : MethodName) method_3_code 4 (some .long) [] ({ frames := 0, cells := 0, slots := 0, locals := 0 } : Room) Z #[(.long q0), (.long q1)] h0 n0 (fun v h => v = some (.long (fBelow q0 q1)) ∧ h = h0) := by
  refine Own.doesOf pn2 ?_
  intro p e s m below meth c hx hby hml hret hlk hown hnm hZ
  refine Own.Goes.cast (ef3 m q0 q1) ?_
  refine Own.lloadN hx q0 (hb hby d3_0) rfl rfl ?_
  refine Own.ldc2 hx hZ hown (-9223372036854775808 : Int64) (hb hby d3_1) rfl (hw _ (List.mem_of_getElem? (i := 12) rfl)) ?_
  refine Own.lloadN hx q1 (hb hby d3_4) rfl rfl ?_
  refine Own.ladd hx (hb hby d3_5) rfl ?_
  refine Own.lcmp hx (hb hby d3_6) rfl ?_
  obtain ⟨v2, h_v2⟩ : ∃ z : Int64, z = (if q0 < ((-9223372036854775808 : Int64) + q1) then (-9223372036854775808 : Int64) else (q0 - q1)) := ⟨_, rfl⟩
  refine Own.Goes.join (mkF m 19 #[.val (.long q0), .second, .val (.long q1), .second] [(.long v2)]) (fun kJ3 => ?_) ?_
  · refine Own.ifFn hx (Own.w_ge q0 ((-9223372036854775808 : Int64) + q1)) (hb hby d3_7) (pcN := 10) rfl (by decide) (pcT := 16) rfl (fun hc1 => ?_) (fun hc1 => ?_)
    · refine Own.lloadN hx q0 (hb hby d3_16) rfl rfl ?_
      refine Own.lloadN hx q1 (hb hby d3_17) rfl rfl ?_
      refine Own.lsub hx (hb hby d3_18) rfl ?_
      try simp only [if_neg hc1] at h_v2
      subst h_v2
      exact kJ3
    · refine Own.ldc2 hx hZ hown (-9223372036854775808 : Int64) (hb hby d3_10) rfl (hw _ (List.mem_of_getElem? (i := 12) rfl)) ?_
      refine Own.goto hx (hb hby d3_13) (by decide) (pc' := 19) rfl ?_
      try simp only [if_pos hc1] at h_v2
      subst h_v2
      exact kJ3
  exact Own.retL hx hret hlk (hb hby d3_19) (by decide) (by decide) ⟨by subst h_v2; simp only [fBelow], rfl⟩

theorem d4_0 : decode prog_57_method_18_code 0 = .ok (.iconst 0, 1) := by decide +kernel
theorem d4_1 : decode prog_57_method_18_code 1 = .ok (.istore_n 3, 1) := by decide +kernel
theorem d4_2 : decode prog_57_method_18_code 2 = .ok (.aload_n 0, 1) := by decide +kernel
theorem d4_3 : decode prog_57_method_18_code 3 = .ok (.arraylength, 1) := by decide +kernel
theorem d4_4 : decode prog_57_method_18_code 4 = .ok (.iconst 2, 1) := by decide +kernel
theorem d4_5 : decode prog_57_method_18_code 5 = .ok (.idiv, 1) := by decide +kernel
theorem d4_6 : decode prog_57_method_18_code 6 = .ok (.istore 4, 2) := by decide +kernel
theorem d4_8 : decode prog_57_method_18_code 8 = .ok (.iload_n 3, 1) := by decide +kernel
theorem d4_9 : decode prog_57_method_18_code 9 = .ok (.iload 4, 2) := by decide +kernel
theorem d4_11 : decode prog_57_method_18_code 11 = .ok (.if_icmp .ge 39, 3) := by decide +kernel
theorem d4_50 : decode prog_57_method_18_code 50 = .ok (.iconst 2, 1) := by decide +kernel
theorem d4_51 : decode prog_57_method_18_code 51 = .ok (.iload_n 3, 1) := by decide +kernel
theorem d4_52 : decode prog_57_method_18_code 52 = .ok (.imul, 1) := by decide +kernel
theorem d4_53 : decode prog_57_method_18_code 53 = .ok (.ireturn, 1) := by decide +kernel
theorem pn3 : plainFor (⟨"com/example/tracewarden/tracewarden/monitor/Groups", "stretchReaching", "([JJ)I"⟩ : MethodName) = true := by first | exact plainFor_of_name (by simp [plainName, overriddenIn]; done) | decide +kernel
theorem ef4_0 (m : MethodId) (o0 : Addr) (q1 : Int64) : entryFrame m #[(.ref o0), (.long q1)] 6 = mkF m 0 #[.val (.ref o0), .val (.long q1), .second, .unset, .unset, .unset] [] := by first | (simp [entryFrame, mkF, argsToLocals, Value.category]; done) | rfl
set_option maxRecDepth 65536 in
set_option maxHeartbeats 40000000 in
theorem rm4_0 (l : Launch) (Z : State) (a0 : Array Value) (hw : ∀ d ∈ tables_1, d.before a0 Z = true) (o0 : Addr) (q1 : Int64) (h0 : Heap) (n0 : Nat)  (fr : List (Addr × (Cell → Prop))) (O0 : Own.Owns n0 h0 ((o0, Own.ArrC Z .long []) :: fr))  : Own.Does l (⟨"com/example/tracewarden/tracewarden/monitor/Groups", "stretchReaching", "([JJ)I"⟩ : MethodName) prog_57_method_18_code 6 (some .int) [] ({ frames := 0, cells := 0, slots := 0, locals := 0 } : Room) Z #[(.ref o0), (.long q1)] h0 n0 (fun v h => v = some (.int (fSR0 q1)) ∧ h = h0) := by
  refine Own.doesOf pn3 ?_
  intro p e s m below meth c hx hby hml hret hlk hown hnm hZ
  refine Own.Goes.cast (ef4_0 m o0 q1) ?_
  refine Own.iconst hx (0 : Int32) (hb hby d4_0) rfl (by decide) ?_
  refine Own.istoreN hx (0 : Int32) rfl #[.val (.ref o0), .val (.long q1), .second, .val (.int (0 : Int32)), .unset, .unset] (hb hby d4_1) rfl rfl ?_
  refine Own.aloadN hx (.ref o0) (hb hby d4_2) rfl rfl rfl ?_
  refine Own.arrlen hx hZ O0 0 rfl (0 : Int32) rfl (hb hby d4_3) rfl ?_
  refine Own.iconst hx (2 : Int32) (hb hby d4_4) rfl (by decide) ?_
  refine Own.idiv hx (hb hby d4_5) rfl (by decide) ?_
  refine Own.vI (0 : Int32) (by decide) ?_
  refine Own.istore hx (0 : Int32) rfl #[.val (.ref o0), .val (.long q1), .second, .val (.int (0 : Int32)), .val (.int (0 : Int32)), .unset] (hb hby d4_6) rfl rfl ?_
  refine Own.iloadN hx (0 : Int32) (hb hby d4_8) rfl rfl ?_
  refine Own.iload hx (0 : Int32) (hb hby d4_9) rfl rfl ?_
  have hc1 : ¬ ((0 : Int32) < (0 : Int32)) := by decide
  refine Own.icmpFn hx (Own.q_ge (0 : Int32) (0 : Int32)) (hb hby d4_11) (pcN := 14) rfl (by decide) (pcT := 50) rfl (fun _ => ?_) (fun q => absurd q hc1)
  refine Own.iconst hx (2 : Int32) (hb hby d4_50) rfl (by decide) ?_
  refine Own.iloadN hx (0 : Int32) (hb hby d4_51) rfl rfl ?_
  refine Own.imul hx (hb hby d4_52) rfl ?_
  refine Own.vI (0 : Int32) (by decide) ?_
  exact Own.retI hx hret hlk (hb hby d4_53) (by decide) (by decide) ⟨by simp only [fSR0], rfl⟩

theorem d4_14 : decode prog_57_method_18_code 14 = .ok (.iload_n 3, 1) := by decide +kernel
theorem d4_15 : decode prog_57_method_18_code 15 = .ok (.iload 4, 2) := by decide +kernel
theorem d4_17 : decode prog_57_method_18_code 17 = .ok (.iadd, 1) := by decide +kernel
theorem d4_18 : decode prog_57_method_18_code 18 = .ok (.iconst 1, 1) := by decide +kernel
theorem d4_19 : decode prog_57_method_18_code 19 = .ok (.iushr, 1) := by decide +kernel
theorem d4_20 : decode prog_57_method_18_code 20 = .ok (.istore 5, 2) := by decide +kernel
theorem d4_22 : decode prog_57_method_18_code 22 = .ok (.aload_n 0, 1) := by decide +kernel
theorem d4_23 : decode prog_57_method_18_code 23 = .ok (.iconst 2, 1) := by decide +kernel
theorem d4_24 : decode prog_57_method_18_code 24 = .ok (.iload 5, 2) := by decide +kernel
theorem d4_26 : decode prog_57_method_18_code 26 = .ok (.imul, 1) := by decide +kernel
theorem d4_27 : decode prog_57_method_18_code 27 = .ok (.iconst 1, 1) := by decide +kernel
theorem d4_28 : decode prog_57_method_18_code 28 = .ok (.iadd, 1) := by decide +kernel
theorem d4_29 : decode prog_57_method_18_code 29 = .ok (.laload, 1) := by decide +kernel
theorem d4_30 : decode prog_57_method_18_code 30 = .ok (.lload_n 1, 1) := by decide +kernel
theorem d4_31 : decode prog_57_method_18_code 31 = .ok (.lcmp, 1) := by decide +kernel
theorem d4_32 : decode prog_57_method_18_code 32 = .ok (.ifCond .ge 11, 3) := by decide +kernel
theorem d4_35 : decode prog_57_method_18_code 35 = .ok (.iload 5, 2) := by decide +kernel
theorem d4_37 : decode prog_57_method_18_code 37 = .ok (.iconst 1, 1) := by decide +kernel
theorem d4_38 : decode prog_57_method_18_code 38 = .ok (.iadd, 1) := by decide +kernel
theorem d4_39 : decode prog_57_method_18_code 39 = .ok (.istore_n 3, 1) := by decide +kernel
theorem d4_40 : decode prog_57_method_18_code 40 = .ok (.goto 7, 3) := by decide +kernel
theorem d4_43 : decode prog_57_method_18_code 43 = .ok (.iload 5, 2) := by decide +kernel
theorem d4_45 : decode prog_57_method_18_code 45 = .ok (.istore 4, 2) := by decide +kernel
theorem d4_47 : decode prog_57_method_18_code 47 = .ok (.goto (-39), 3) := by decide +kernel
theorem ef4_1 (m : MethodId) (o0 : Addr) (q1 : Int64) : entryFrame m #[(.ref o0), (.long q1)] 6 = mkF m 0 #[.val (.ref o0), .val (.long q1), .second, .unset, .unset, .unset] [] := by first | (simp [entryFrame, mkF, argsToLocals, Value.category]; done) | rfl
set_option maxRecDepth 65536 in
set_option maxHeartbeats 40000000 in
theorem rm4_1 (l : Launch) (Z : State) (a0 : Array Value) (hw : ∀ d ∈ tables_1, d.before a0 Z = true) (o0 : Addr) (q1 : Int64) (h0 : Heap) (n0 : Nat) (e0 e1 : Int64) (fr : List (Addr × (Cell → Prop))) (O0 : Own.Owns n0 h0 ((o0, Own.ArrC Z .long [(.long e0), (.long e1)]) :: fr))  : Own.Does l (⟨"com/example/tracewarden/tracewarden/monitor/Groups", "stretchReaching", "([JJ)I"⟩ : MethodName) prog_57_method_18_code 6 (some .int) [] ({ frames := 0, cells := 0, slots := 0, locals := 0 } : Room) Z #[(.ref o0), (.long q1)] h0 n0 (fun v h => v = some (.int (fSR1 e1 q1)) ∧ h = h0) := by
  refine Own.doesOf pn3 ?_
  intro p e s m below meth c hx hby hml hret hlk hown hnm hZ
  refine Own.Goes.cast (ef4_1 m o0 q1) ?_
  refine Own.iconst hx (0 : Int32) (hb hby d4_0) rfl (by decide) ?_
  refine Own.istoreN hx (0 : Int32) rfl #[.val (.ref o0), .val (.long q1), .second, .val (.int (0 : Int32)), .unset, .unset] (hb hby d4_1) rfl rfl ?_
  refine Own.aloadN hx (.ref o0) (hb hby d4_2) rfl rfl rfl ?_
  refine Own.arrlen hx hZ O0 0 rfl (2 : Int32) rfl (hb hby d4_3) rfl ?_
  refine Own.iconst hx (2 : Int32) (hb hby d4_4) rfl (by decide) ?_
  refine Own.idiv hx (hb hby d4_5) rfl (by decide) ?_
  refine Own.vI (1 : Int32) (by decide) ?_
  refine Own.istore hx (1 : Int32) rfl #[.val (.ref o0), .val (.long q1), .second, .val (.int (0 : Int32)), .val (.int (1 : Int32)), .unset] (hb hby d4_6) rfl rfl ?_
  refine Own.iloadN hx (0 : Int32) (hb hby d4_8) rfl rfl ?_
  refine Own.iload hx (1 : Int32) (hb hby d4_9) rfl rfl ?_
  have hc1 : (0 : Int32) < (1 : Int32) := by decide
  refine Own.icmpFn hx (Own.q_ge (0 : Int32) (1 : Int32)) (hb hby d4_11) (pcN := 14) rfl (by decide) (pcT := 50) rfl (fun q => absurd hc1 q) (fun _ => ?_)
  refine Own.iloadN hx (0 : Int32) (hb hby d4_14) rfl rfl ?_
  refine Own.iload hx (1 : Int32) (hb hby d4_15) rfl rfl ?_
  refine Own.iadd hx (hb hby d4_17) rfl ?_
  refine Own.vI (1 : Int32) (by decide) ?_
  refine Own.iconst hx (1 : Int32) (hb hby d4_18) rfl (by decide) ?_
  refine Own.iushr hx (hb hby d4_19) rfl ?_
  refine Own.vI (0 : Int32) (by decide) ?_
  refine Own.istore hx (0 : Int32) rfl #[.val (.ref o0), .val (.long q1), .second, .val (.int (0 : Int32)), .val (.int (1 : Int32)), .val (.int (0 : Int32))] (hb hby d4_20) rfl rfl ?_
  refine Own.aloadN hx (.ref o0) (hb hby d4_22) rfl rfl rfl ?_
  refine Own.iconst hx (2 : Int32) (hb hby d4_23) rfl (by decide) ?_
  refine Own.iload hx (0 : Int32) (hb hby d4_24) rfl rfl ?_
  refine Own.imul hx (hb hby d4_26) rfl ?_
  refine Own.vI (0 : Int32) (by decide) ?_
  refine Own.iconst hx (1 : Int32) (hb hby d4_27) rfl (by decide) ?_
  refine Own.iadd hx (hb hby d4_28) rfl ?_
  refine Own.vI (1 : Int32) (by decide) ?_
  refine Own.laload hx hZ O0 0 1 rfl (by decide) (v := (.long e1)) rfl (hb hby d4_29) rfl ?_
  refine Own.lloadN hx q1 (hb hby d4_30) rfl rfl ?_
  refine Own.lcmp hx (hb hby d4_31) rfl ?_
  refine Own.ifFn hx (Own.w_ge e1 q1) (hb hby d4_32) (pcN := 35) rfl (by decide) (pcT := 43) rfl (fun hc3 => ?_) (fun hc3 => ?_)
  · refine Own.iload hx (0 : Int32) (hb hby d4_43) rfl rfl ?_
    refine Own.istore hx (0 : Int32) rfl #[.val (.ref o0), .val (.long q1), .second, .val (.int (0 : Int32)), .val (.int (0 : Int32)), .val (.int (0 : Int32))] (hb hby d4_45) rfl rfl ?_
    refine Own.goto hx (hb hby d4_47) (by decide) (pc' := 8) rfl ?_
    refine Own.iloadN hx (0 : Int32) (hb hby d4_8) rfl rfl ?_
    refine Own.iload hx (0 : Int32) (hb hby d4_9) rfl rfl ?_
    have hc4 : ¬ ((0 : Int32) < (0 : Int32)) := by decide
    refine Own.icmpFn hx (Own.q_ge (0 : Int32) (0 : Int32)) (hb hby d4_11) (pcN := 14) rfl (by decide) (pcT := 50) rfl (fun _ => ?_) (fun q => absurd q hc4)
    refine Own.iconst hx (2 : Int32) (hb hby d4_50) rfl (by decide) ?_
    refine Own.iloadN hx (0 : Int32) (hb hby d4_51) rfl rfl ?_
    refine Own.imul hx (hb hby d4_52) rfl ?_
    refine Own.vI (0 : Int32) (by decide) ?_
    exact Own.retI hx hret hlk (hb hby d4_53) (by decide) (by decide) ⟨by simp only [fSR1, if_neg hc3], rfl⟩
  · refine Own.iload hx (0 : Int32) (hb hby d4_35) rfl rfl ?_
    refine Own.iconst hx (1 : Int32) (hb hby d4_37) rfl (by decide) ?_
    refine Own.iadd hx (hb hby d4_38) rfl ?_
    refine Own.vI (1 : Int32) (by decide) ?_
    refine Own.istoreN hx (1 : Int32) rfl #[.val (.ref o0), .val (.long q1), .second, .val (.int (1 : Int32)), .val (.int (1 : Int32)), .val (.int (0 : Int32))] (hb hby d4_39) rfl rfl ?_
    refine Own.goto hx (hb hby d4_40) (by decide) (pc' := 47) rfl ?_
    refine Own.goto hx (hb hby d4_47) (by decide) (pc' := 8) rfl ?_
    refine Own.iloadN hx (1 : Int32) (hb hby d4_8) rfl rfl ?_
    refine Own.iload hx (1 : Int32) (hb hby d4_9) rfl rfl ?_
    have hc6 : ¬ ((1 : Int32) < (1 : Int32)) := by decide
    refine Own.icmpFn hx (Own.q_ge (1 : Int32) (1 : Int32)) (hb hby d4_11) (pcN := 14) rfl (by decide) (pcT := 50) rfl (fun _ => ?_) (fun q => absurd q hc6)
    refine Own.iconst hx (2 : Int32) (hb hby d4_50) rfl (by decide) ?_
    refine Own.iloadN hx (1 : Int32) (hb hby d4_51) rfl rfl ?_
    refine Own.imul hx (hb hby d4_52) rfl ?_
    refine Own.vI (2 : Int32) (by decide) ?_
    exact Own.retI hx hret hlk (hb hby d4_53) (by decide) (by decide) ⟨by simp only [fSR1, if_pos hc3], rfl⟩

theorem ef4_2 (m : MethodId) (o0 : Addr) (q1 : Int64) : entryFrame m #[(.ref o0), (.long q1)] 6 = mkF m 0 #[.val (.ref o0), .val (.long q1), .second, .unset, .unset, .unset] [] := by first | (simp [entryFrame, mkF, argsToLocals, Value.category]; done) | rfl
set_option maxRecDepth 65536 in
set_option maxHeartbeats 40000000 in
theorem rm4_2 (l : Launch) (Z : State) (a0 : Array Value) (hw : ∀ d ∈ tables_1, d.before a0 Z = true) (o0 : Addr) (q1 : Int64) (h0 : Heap) (n0 : Nat) (e0 e1 e2 e3 : Int64) (fr : List (Addr × (Cell → Prop))) (O0 : Own.Owns n0 h0 ((o0, Own.ArrC Z .long [(.long e0), (.long e1), (.long e2), (.long e3)]) :: fr))  : Own.Does l (⟨"com/example/tracewarden/tracewarden/monitor/Groups", "stretchReaching", "([JJ)I"⟩ : MethodName) prog_57_method_18_code 6 (some .int) [] ({ frames := 0, cells := 0, slots := 0, locals := 0 } : Room) Z #[(.ref o0), (.long q1)] h0 n0 (fun v h => v = some (.int (fSR2 e1 e3 q1)) ∧ h = h0) := by
  refine Own.doesOf pn3 ?_
  intro p e s m below meth c hx hby hml hret hlk hown hnm hZ
  refine Own.Goes.cast (ef4_2 m o0 q1) ?_
  refine Own.iconst hx (0 : Int32) (hb hby d4_0) rfl (by decide) ?_
  refine Own.istoreN hx (0 : Int32) rfl #[.val (.ref o0), .val (.long q1), .second, .val (.int (0 : Int32)), .unset, .unset] (hb hby d4_1) rfl rfl ?_
  refine Own.aloadN hx (.ref o0) (hb hby d4_2) rfl rfl rfl ?_
  refine Own.arrlen hx hZ O0 0 rfl (4 : Int32) rfl (hb hby d4_3) rfl ?_
  refine Own.iconst hx (2 : Int32) (hb hby d4_4) rfl (by decide) ?_
  refine Own.idiv hx (hb hby d4_5) rfl (by decide) ?_
  refine Own.vI (2 : Int32) (by decide) ?_
  refine Own.istore hx (2 : Int32) rfl #[.val (.ref o0), .val (.long q1), .second, .val (.int (0 : Int32)), .val (.int (2 : Int32)), .unset] (hb hby d4_6) rfl rfl ?_
  refine Own.iloadN hx (0 : Int32) (hb hby d4_8) rfl rfl ?_
  refine Own.iload hx (2 : Int32) (hb hby d4_9) rfl rfl ?_
  have hc1 : (0 : Int32) < (2 : Int32) := by decide
  refine Own.icmpFn hx (Own.q_ge (0 : Int32) (2 : Int32)) (hb hby d4_11) (pcN := 14) rfl (by decide) (pcT := 50) rfl (fun q => absurd hc1 q) (fun _ => ?_)
  refine Own.iloadN hx (0 : Int32) (hb hby d4_14) rfl rfl ?_
  refine Own.iload hx (2 : Int32) (hb hby d4_15) rfl rfl ?_
  refine Own.iadd hx (hb hby d4_17) rfl ?_
  refine Own.vI (2 : Int32) (by decide) ?_
  refine Own.iconst hx (1 : Int32) (hb hby d4_18) rfl (by decide) ?_
  refine Own.iushr hx (hb hby d4_19) rfl ?_
  refine Own.vI (1 : Int32) (by decide) ?_
  refine Own.istore hx (1 : Int32) rfl #[.val (.ref o0), .val (.long q1), .second, .val (.int (0 : Int32)), .val (.int (2 : Int32)), .val (.int (1 : Int32))] (hb hby d4_20) rfl rfl ?_
  refine Own.aloadN hx (.ref o0) (hb hby d4_22) rfl rfl rfl ?_
  refine Own.iconst hx (2 : Int32) (hb hby d4_23) rfl (by decide) ?_
  refine Own.iload hx (1 : Int32) (hb hby d4_24) rfl rfl ?_
  refine Own.imul hx (hb hby d4_26) rfl ?_
  refine Own.vI (2 : Int32) (by decide) ?_
  refine Own.iconst hx (1 : Int32) (hb hby d4_27) rfl (by decide) ?_
  refine Own.iadd hx (hb hby d4_28) rfl ?_
  refine Own.vI (3 : Int32) (by decide) ?_
  refine Own.laload hx hZ O0 0 3 rfl (by decide) (v := (.long e3)) rfl (hb hby d4_29) rfl ?_
  refine Own.lloadN hx q1 (hb hby d4_30) rfl rfl ?_
  refine Own.lcmp hx (hb hby d4_31) rfl ?_
  refine Own.ifFn hx (Own.w_ge e3 q1) (hb hby d4_32) (pcN := 35) rfl (by decide) (pcT := 43) rfl (fun hc3 => ?_) (fun hc3 => ?_)
  · refine Own.iload hx (1 : Int32) (hb hby d4_43) rfl rfl ?_
    refine Own.istore hx (1 : Int32) rfl #[.val (.ref o0), .val (.long q1), .second, .val (.int (0 : Int32)), .val (.int (1 : Int32)), .val (.int (1 : Int32))] (hb hby d4_45) rfl rfl ?_
    refine Own.goto hx (hb hby d4_47) (by decide) (pc' := 8) rfl ?_
    refine Own.iloadN hx (0 : Int32) (hb hby d4_8) rfl rfl ?_
    refine Own.iload hx (1 : Int32) (hb hby d4_9) rfl rfl ?_
    have hc4 : (0 : Int32) < (1 : Int32) := by decide
    refine Own.icmpFn hx (Own.q_ge (0 : Int32) (1 : Int32)) (hb hby d4_11) (pcN := 14) rfl (by decide) (pcT := 50) rfl (fun q => absurd hc4 q) (fun _ => ?_)
    refine Own.iloadN hx (0 : Int32) (hb hby d4_14) rfl rfl ?_
    refine Own.iload hx (1 : Int32) (hb hby d4_15) rfl rfl ?_
    refine Own.iadd hx (hb hby d4_17) rfl ?_
    refine Own.vI (1 : Int32) (by decide) ?_
    refine Own.iconst hx (1 : Int32) (hb hby d4_18) rfl (by decide) ?_
    refine Own.iushr hx (hb hby d4_19) rfl ?_
    refine Own.vI (0 : Int32) (by decide) ?_
    refine Own.istore hx (0 : Int32) rfl #[.val (.ref o0), .val (.long q1), .second, .val (.int (0 : Int32)), .val (.int (1 : Int32)), .val (.int (0 : Int32))] (hb hby d4_20) rfl rfl ?_
    refine Own.aloadN hx (.ref o0) (hb hby d4_22) rfl rfl rfl ?_
    refine Own.iconst hx (2 : Int32) (hb hby d4_23) rfl (by decide) ?_
    refine Own.iload hx (0 : Int32) (hb hby d4_24) rfl rfl ?_
    refine Own.imul hx (hb hby d4_26) rfl ?_
    refine Own.vI (0 : Int32) (by decide) ?_
    refine Own.iconst hx (1 : Int32) (hb hby d4_27) rfl (by decide) ?_
    refine Own.iadd hx (hb hby d4_28) rfl ?_
    refine Own.vI (1 : Int32) (by decide) ?_
    refine Own.laload hx hZ O0 0 1 rfl (by decide) (v := (.long e1)) rfl (hb hby d4_29) rfl ?_
    refine Own.lloadN hx q1 (hb hby d4_30) rfl rfl ?_
    refine Own.lcmp hx (hb hby d4_31) rfl ?_
    refine Own.ifFn hx (Own.w_ge e1 q1) (hb hby d4_32) (pcN := 35) rfl (by decide) (pcT := 43) rfl (fun hc6 => ?_) (fun hc6 => ?_)
    · refine Own.iload hx (0 : Int32) (hb hby d4_43) rfl rfl ?_
      refine Own.istore hx (0 : Int32) rfl #[.val (.ref o0), .val (.long q1), .second, .val (.int (0 : Int32)), .val (.int (0 : Int32)), .val (.int (0 : Int32))] (hb hby d4_45) rfl rfl ?_
      refine Own.goto hx (hb hby d4_47) (by decide) (pc' := 8) rfl ?_
      refine Own.iloadN hx (0 : Int32) (hb hby d4_8) rfl rfl ?_
      refine Own.iload hx (0 : Int32) (hb hby d4_9) rfl rfl ?_
      have hc7 : ¬ ((0 : Int32) < (0 : Int32)) := by decide
      refine Own.icmpFn hx (Own.q_ge (0 : Int32) (0 : Int32)) (hb hby d4_11) (pcN := 14) rfl (by decide) (pcT := 50) rfl (fun _ => ?_) (fun q => absurd q hc7)
      refine Own.iconst hx (2 : Int32) (hb hby d4_50) rfl (by decide) ?_
      refine Own.iloadN hx (0 : Int32) (hb hby d4_51) rfl rfl ?_
      refine Own.imul hx (hb hby d4_52) rfl ?_
      refine Own.vI (0 : Int32) (by decide) ?_
      exact Own.retI hx hret hlk (hb hby d4_53) (by decide) (by decide) ⟨by simp only [fSR2, if_neg hc3, if_neg hc6], rfl⟩
    · refine Own.iload hx (0 : Int32) (hb hby d4_35) rfl rfl ?_
      refine Own.iconst hx (1 : Int32) (hb hby d4_37) rfl (by decide) ?_
      refine Own.iadd hx (hb hby d4_38) rfl ?_
      refine Own.vI (1 : Int32) (by decide) ?_
      refine Own.istoreN hx (1 : Int32) rfl #[.val (.ref o0), .val (.long q1), .second, .val (.int (1 : Int32)), .val (.int (1 : Int32)), .val (.int (0 : Int32))] (hb hby d4_39) rfl rfl ?_
      refine Own.goto hx (hb hby d4_40) (by decide) (pc' := 47) rfl ?_
      refine Own.goto hx (hb hby d4_47) (by decide) (pc' := 8) rfl ?_
      refine Own.iloadN hx (1 : Int32) (hb hby d4_8) rfl rfl ?_
      refine Own.iload hx (1 : Int32) (hb hby d4_9) rfl rfl ?_
      have hc9 : ¬ ((1 : Int32) < (1 : Int32)) := by decide
      refine Own.icmpFn hx (Own.q_ge (1 : Int32) (1 : Int32)) (hb hby d4_11) (pcN := 14) rfl (by decide) (pcT := 50) rfl (fun _ => ?_) (fun q => absurd q hc9)
      refine Own.iconst hx (2 : Int32) (hb hby d4_50) rfl (by decide) ?_
      refine Own.iloadN hx (1 : Int32) (hb hby d4_51) rfl rfl ?_
      refine Own.imul hx (hb hby d4_52) rfl ?_
      refine Own.vI (2 : Int32) (by decide) ?_
      exact Own.retI hx hret hlk (hb hby d4_53) (by decide) (by decide) ⟨by simp only [fSR2, if_neg hc3, if_pos hc6], rfl⟩
  · refine Own.iload hx (1 : Int32) (hb hby d4_35) rfl rfl ?_
    refine Own.iconst hx (1 : Int32) (hb hby d4_37) rfl (by decide) ?_
    refine Own.iadd hx (hb hby d4_38) rfl ?_
    refine Own.vI (2 : Int32) (by decide) ?_
    refine Own.istoreN hx (2 : Int32) rfl #[.val (.ref o0), .val (.long q1), .second, .val (.int (2 : Int32)), .val (.int (2 : Int32)), .val (.int (1 : Int32))] (hb hby d4_39) rfl rfl ?_
    refine Own.goto hx (hb hby d4_40) (by decide) (pc' := 47) rfl ?_
    refine Own.goto hx (hb hby d4_47) (by decide) (pc' := 8) rfl ?_
    refine Own.iloadN hx (2 : Int32) (hb hby d4_8) rfl rfl ?_
    refine Own.iload hx (2 : Int32) (hb hby d4_9) rfl rfl ?_
    have hc11 : ¬ ((2 : Int32) < (2 : Int32)) := by decide
    refine Own.icmpFn hx (Own.q_ge (2 : Int32) (2 : Int32)) (hb hby d4_11) (pcN := 14) rfl (by decide) (pcT := 50) rfl (fun _ => ?_) (fun q => absurd q hc11)
    refine Own.iconst hx (2 : Int32) (hb hby d4_50) rfl (by decide) ?_
    refine Own.iloadN hx (2 : Int32) (hb hby d4_51) rfl rfl ?_
    refine Own.imul hx (hb hby d4_52) rfl ?_
    refine Own.vI (4 : Int32) (by decide) ?_
    exact Own.retI hx hret hlk (hb hby d4_53) (by decide) (by decide) ⟨by simp only [fSR2, if_pos hc3], rfl⟩

theorem ef4_3 (m : MethodId) (o0 : Addr) (q1 : Int64) : entryFrame m #[(.ref o0), (.long q1)] 6 = mkF m 0 #[.val (.ref o0), .val (.long q1), .second, .unset, .unset, .unset] [] := by first | (simp [entryFrame, mkF, argsToLocals, Value.category]; done) | rfl
set_option maxRecDepth 65536 in
set_option maxHeartbeats 40000000 in
theorem rm4_3 (l : Launch) (Z : State) (a0 : Array Value) (hw : ∀ d ∈ tables_1, d.before a0 Z = true) (o0 : Addr) (q1 : Int64) (h0 : Heap) (n0 : Nat) (e0 e1 e2 e3 e4 e5 : Int64) (fr : List (Addr × (Cell → Prop))) (O0 : Own.Owns n0 h0 ((o0, Own.ArrC Z .long [(.long e0), (.long e1), (.long e2), (.long e3), (.long e4), (.long e5)]) :: fr))  : Own.Does l (⟨"com/example/tracewarden/tracewarden/monitor/Groups", "stretchReaching", "([JJ)I"⟩ : MethodName) prog_57_method_18_code 6 (some .int) [] ({ frames := 0, cells := 0, slots := 0, locals := 0 } : Room) Z #[(.ref o0), (.long q1)] h0 n0 (fun v h => v = some (.int (fSR3 e1 e3 e5 q1)) ∧ h = h0) := by
  refine Own.doesOf pn3 ?_
  intro p e s m below meth c hx hby hml hret hlk hown hnm hZ
  refine Own.Goes.cast (ef4_3 m o0 q1) ?_
  refine Own.iconst hx (0 : Int32) (hb hby d4_0) rfl (by decide) ?_
  refine Own.istoreN hx (0 : Int32) rfl #[.val (.ref o0), .val (.long q1), .second, .val (.int (0 : Int32)), .unset, .unset] (hb hby d4_1) rfl rfl ?_
  refine Own.aloadN hx (.ref o0) (hb hby d4_2) rfl rfl rfl ?_
  refine Own.arrlen hx hZ O0 0 rfl (6 : Int32) rfl (hb hby d4_3) rfl ?_
  refine Own.iconst hx (2 : Int32) (hb hby d4_4) rfl (by decide) ?_
  refine Own.idiv hx (hb hby d4_5) rfl (by decide) ?_
  refine Own.vI (3 : Int32) (by decide) ?_
  refine Own.istore hx (3 : Int32) rfl #[.val (.ref o0), .val (.long q1), .second, .val (.int (0 : Int32)), .val (.int (3 : Int32)), .unset] (hb hby d4_6) rfl rfl ?_
  refine Own.iloadN hx (0 : Int32) (hb hby d4_8) rfl rfl ?_
  refine Own.iload hx (3 : Int32) (hb hby d4_9) rfl rfl ?_
  have hc1 : (0 : Int32) < (3 : Int32) := by decide
  refine Own.icmpFn hx (Own.q_ge (0 : Int32) (3 : Int32)) (hb hby d4_11) (pcN := 14) rfl (by decide) (pcT := 50) rfl (fun q => absurd hc1 q) (fun _ => ?_)
  refine Own.iloadN hx (0 : Int32) (hb hby d4_14) rfl rfl ?_
  refine Own.iload hx (3 : Int32) (hb hby d4_15) rfl rfl ?_
  refine Own.iadd hx (hb hby d4_17) rfl ?_
  refine Own.vI (3 : Int32) (by decide) ?_
  refine Own.iconst hx (1 : Int32) (hb hby d4_18) rfl (by decide) ?_
  refine Own.iushr hx (hb hby d4_19) rfl ?_
  refine Own.vI (1 : Int32) (by decide) ?_
  refine Own.istore hx (1 : Int32) rfl #[.val (.ref o0), .val (.long q1), .second, .val (.int (0 : Int32)), .val (.int (3 : Int32)), .val (.int (1 : Int32))] (hb hby d4_20) rfl rfl ?_
  refine Own.aloadN hx (.ref o0) (hb hby d4_22) rfl rfl rfl ?_
  refine Own.iconst hx (2 : Int32) (hb hby d4_23) rfl (by decide) ?_
  refine Own.iload hx (1 : Int32) (hb hby d4_24) rfl rfl ?_
  refine Own.imul hx (hb hby d4_26) rfl ?_
  refine Own.vI (2 : Int32) (by decide) ?_
  refine Own.iconst hx (1 : Int32) (hb hby d4_27) rfl (by decide) ?_
  refine Own.iadd hx (hb hby d4_28) rfl ?_
  refine Own.vI (3 : Int32) (by decide) ?_
  refine Own.laload hx hZ O0 0 3 rfl (by decide) (v := (.long e3)) rfl (hb hby d4_29) rfl ?_
  refine Own.lloadN hx q1 (hb hby d4_30) rfl rfl ?_
  refine Own.lcmp hx (hb hby d4_31) rfl ?_
  refine Own.ifFn hx (Own.w_ge e3 q1) (hb hby d4_32) (pcN := 35) rfl (by decide) (pcT := 43) rfl (fun hc3 => ?_) (fun hc3 => ?_)
  · refine Own.iload hx (1 : Int32) (hb hby d4_43) rfl rfl ?_
    refine Own.istore hx (1 : Int32) rfl #[.val (.ref o0), .val (.long q1), .second, .val (.int (0 : Int32)), .val (.int (1 : Int32)), .val (.int (1 : Int32))] (hb hby d4_45) rfl rfl ?_
    refine Own.goto hx (hb hby d4_47) (by decide) (pc' := 8) rfl ?_
    refine Own.iloadN hx (0 : Int32) (hb hby d4_8) rfl rfl ?_
    refine Own.iload hx (1 : Int32) (hb hby d4_9) rfl rfl ?_
    have hc4 : (0 : Int32) < (1 : Int32) := by decide
    refine Own.icmpFn hx (Own.q_ge (0 : Int32) (1 : Int32)) (hb hby d4_11) (pcN := 14) rfl (by decide) (pcT := 50) rfl (fun q => absurd hc4 q) (fun _ => ?_)
    refine Own.iloadN hx (0 : Int32) (hb hby d4_14) rfl rfl ?_
    refine Own.iload hx (1 : Int32) (hb hby d4_15) rfl rfl ?_
    refine Own.iadd hx (hb hby d4_17) rfl ?_
    refine Own.vI (1 : Int32) (by decide) ?_
    refine Own.iconst hx (1 : Int32) (hb hby d4_18) rfl (by decide) ?_
    refine Own.iushr hx (hb hby d4_19) rfl ?_
    refine Own.vI (0 : Int32) (by decide) ?_
    refine Own.istore hx (0 : Int32) rfl #[.val (.ref o0), .val (.long q1), .second, .val (.int (0 : Int32)), .val (.int (1 : Int32)), .val (.int (0 : Int32))] (hb hby d4_20) rfl rfl ?_
    refine Own.aloadN hx (.ref o0) (hb hby d4_22) rfl rfl rfl ?_
    refine Own.iconst hx (2 : Int32) (hb hby d4_23) rfl (by decide) ?_
    refine Own.iload hx (0 : Int32) (hb hby d4_24) rfl rfl ?_
    refine Own.imul hx (hb hby d4_26) rfl ?_
    refine Own.vI (0 : Int32) (by decide) ?_
    refine Own.iconst hx (1 : Int32) (hb hby d4_27) rfl (by decide) ?_
    refine Own.iadd hx (hb hby d4_28) rfl ?_
    refine Own.vI (1 : Int32) (by decide) ?_
    refine Own.laload hx hZ O0 0 1 rfl (by decide) (v := (.long e1)) rfl (hb hby d4_29) rfl ?_
    refine Own.lloadN hx q1 (hb hby d4_30) rfl rfl ?_
    refine Own.lcmp hx (hb hby d4_31) rfl ?_
    refine Own.ifFn hx (Own.w_ge e1 q1) (hb hby d4_32) (pcN := 35) rfl (by decide) (pcT := 43) rfl (fun hc6 => ?_) (fun hc6 => ?_)
    · refine Own.iload hx (0 : Int32) (hb hby d4_43) rfl rfl ?_
      refine Own.istore hx (0 : Int32) rfl #[.val (.ref o0), .val (.long q1), .second, .val (.int (0 : Int32)), .val (.int (0 : Int32)), .val (.int (0 : Int32))] (hb hby d4_45) rfl rfl ?_
      refine Own.goto hx (hb hby d4_47) (by decide) (pc' := 8) rfl ?_
      refine Own.iloadN hx (0 : Int32) (hb hby d4_8) rfl rfl ?_
      refine Own.iload hx (0 : Int32) (hb hby d4_9) rfl rfl ?_
      have hc7 : ¬ ((0 : Int32) < (0 : Int32)) := by decide
      refine Own.icmpFn hx (Own.q_ge (0 : Int32) (0 : Int32)) (hb hby d4_11) (pcN := 14) rfl (by decide) (pcT := 50) rfl (fun _ => ?_) (fun q => absurd q hc7)
      refine Own.iconst hx (2 : Int32) (hb hby d4_50) rfl (by decide) ?_
      refine Own.iloadN hx (0 : Int32) (hb hby d4_51) rfl rfl ?_
      refine Own.imul hx (hb hby d4_52) rfl ?_
      refine Own.vI (0 : Int32) (by decide) ?_
      exact Own.retI hx hret hlk (hb hby d4_53) (by decide) (by decide) ⟨by simp only [fSR3, if_neg hc3, if_neg hc6], rfl⟩
    · refine Own.iload hx (0 : Int32) (hb hby d4_35) rfl rfl ?_
      refine Own.iconst hx (1 : Int32) (hb hby d4_37) rfl (by decide) ?_
      refine Own.iadd hx (hb hby d4_38) rfl ?_
      refine Own.vI (1 : Int32) (by decide) ?_
      refine Own.istoreN hx (1 : Int32) rfl #[.val (.ref o0), .val (.long q1), .second, .val (.int (1 : Int32)), .val (.int (1 : Int32)), .val (.int (0 : Int32))] (hb hby d4_39) rfl rfl ?_
      refine Own.goto hx (hb hby d4_40) (by decide) (pc' := 47) rfl ?_
      refine Own.goto hx (hb hby d4_47) (by decide) (pc' := 8) rfl ?_
      refine Own.iloadN hx (1 : Int32) (hb hby d4_8) rfl rfl ?_
      refine Own.iload hx (1 : Int32) (hb hby d4_9) rfl rfl ?_
      have hc9 : ¬ ((1 : Int32) < (1 : Int32)) := by decide
      refine Own.icmpFn hx (Own.q_ge (1 : Int32) (1 : Int32)) (hb hby d4_11) (pcN := 14) rfl (by decide) (pcT := 50) rfl (fun _ => ?_) (fun q => absurd q hc9)
      refine Own.iconst hx (2 : Int32) (hb hby d4_50) rfl (by decide) ?_
      refine Own.iloadN hx (1 : Int32) (hb hby d4_51) rfl rfl ?_
      refine Own.imul hx (hb hby d4_52) rfl ?_
      refine Own.vI (2 : Int32) (by decide) ?_
      exact Own.retI hx hret hlk (hb hby d4_53) (by decide) (by decide) ⟨by simp only [fSR3, if_neg hc3, if_pos hc6], rfl⟩
  · refine Own.iload hx (1 : Int32) (hb hby d4_35) rfl rfl ?_
    refine Own.iconst hx (1 : Int32) (hb hby d4_37) rfl (by decide) ?_
    refine Own.iadd hx (hb hby d4_38) rfl ?_
    refine Own.vI (2 : Int32) (by decide) ?_
    refine Own.istoreN hx (2 : Int32) rfl #[.val (.ref o0), .val (.long q1), .second, .val (.int (2 : Int32)), .val (.int (3 : Int32)), .val (.int (1 : Int32))] (hb hby d4_39) rfl rfl ?_
    refine Own.goto hx (hb hby d4_40) (by decide) (pc' := 47) rfl ?_
    refine Own.goto hx (hb hby d4_47) (by decide) (pc' := 8) rfl ?_
    refine Own.iloadN hx (2 : Int32) (hb hby d4_8) rfl rfl ?_
    refine Own.iload hx (3 : Int32) (hb hby d4_9) rfl rfl ?_
    have hc11 : (2 : Int32) < (3 : Int32) := by decide
    refine Own.icmpFn hx (Own.q_ge (2 : Int32) (3 : Int32)) (hb hby d4_11) (pcN := 14) rfl (by decide) (pcT := 50) rfl (fun q => absurd hc11 q) (fun _ => ?_)
    refine Own.iloadN hx (2 : Int32) (hb hby d4_14) rfl rfl ?_
    refine Own.iload hx (3 : Int32) (hb hby d4_15) rfl rfl ?_
    refine Own.iadd hx (hb hby d4_17) rfl ?_
    refine Own.vI (5 : Int32) (by decide) ?_
    refine Own.iconst hx (1 : Int32) (hb hby d4_18) rfl (by decide) ?_
    refine Own.iushr hx (hb hby d4_19) rfl ?_
    refine Own.vI (2 : Int32) (by decide) ?_
    refine Own.istore hx (2 : Int32) rfl #[.val (.ref o0), .val (.long q1), .second, .val (.int (2 : Int32)), .val (.int (3 : Int32)), .val (.int (2 : Int32))] (hb hby d4_20) rfl rfl ?_
    refine Own.aloadN hx (.ref o0) (hb hby d4_22) rfl rfl rfl ?_
    refine Own.iconst hx (2 : Int32) (hb hby d4_23) rfl (by decide) ?_
    refine Own.iload hx (2 : Int32) (hb hby d4_24) rfl rfl ?_
    refine Own.imul hx (hb hby d4_26) rfl ?_
    refine Own.vI (4 : Int32) (by decide) ?_
    refine Own.iconst hx (1 : Int32) (hb hby d4_27) rfl (by decide) ?_
    refine Own.iadd hx (hb hby d4_28) rfl ?_
    refine Own.vI (5 : Int32) (by decide) ?_
    refine Own.laload hx hZ O0 0 5 rfl (by decide) (v := (.long e5)) rfl (hb hby d4_29) rfl ?_
    refine Own.lloadN hx q1 (hb hby d4_30) rfl rfl ?_
    refine Own.lcmp hx (hb hby d4_31) rfl ?_
    refine Own.ifFn hx (Own.w_ge e5 q1) (hb hby d4_32) (pcN := 35) rfl (by decide) (pcT := 43) rfl (fun hc13 => ?_) (fun hc13 => ?_)
    · refine Own.iload hx (2 : Int32) (hb hby d4_43) rfl rfl ?_
      refine Own.istore hx (2 : Int32) rfl #[.val (.ref o0), .val (.long q1), .second, .val (.int (2 : Int32)), .val (.int (2 : Int32)), .val (.int (2 : Int32))] (hb hby d4_45) rfl rfl ?_
      refine Own.goto hx (hb hby d4_47) (by decide) (pc' := 8) rfl ?_
      refine Own.iloadN hx (2 : Int32) (hb hby d4_8) rfl rfl ?_
      refine Own.iload hx (2 : Int32) (hb hby d4_9) rfl rfl ?_
      have hc14 : ¬ ((2 : Int32) < (2 : Int32)) := by decide
      refine Own.icmpFn hx (Own.q_ge (2 : Int32) (2 : Int32)) (hb hby d4_11) (pcN := 14) rfl (by decide) (pcT := 50) rfl (fun _ => ?_) (fun q => absurd q hc14)
      refine Own.iconst hx (2 : Int32) (hb hby d4_50) rfl (by decide) ?_
      refine Own.iloadN hx (2 : Int32) (hb hby d4_51) rfl rfl ?_
      refine Own.imul hx (hb hby d4_52) rfl ?_
      refine Own.vI (4 : Int32) (by decide) ?_
      exact Own.retI hx hret hlk (hb hby d4_53) (by decide) (by decide) ⟨by simp only [fSR3, if_pos hc3, if_neg hc13], rfl⟩
    · refine Own.iload hx (2 : Int32) (hb hby d4_35) rfl rfl ?_
      refine Own.iconst hx (1 : Int32) (hb hby d4_37) rfl (by decide) ?_
      refine Own.iadd hx (hb hby d4_38) rfl ?_
      refine Own.vI (3 : Int32) (by decide) ?_
      refine Own.istoreN hx (3 : Int32) rfl #[.val (.ref o0), .val (.long q1), .second, .val (.int (3 : Int32)), .val (.int (3 : Int32)), .val (.int (2 : Int32))] (hb hby d4_39) rfl rfl ?_
      refine Own.goto hx (hb hby d4_40) (by decide) (pc' := 47) rfl ?_
      refine Own.goto hx (hb hby d4_47) (by decide) (pc' := 8) rfl ?_
      refine Own.iloadN hx (3 : Int32) (hb hby d4_8) rfl rfl ?_
      refine Own.iload hx (3 : Int32) (hb hby d4_9) rfl rfl ?_
      have hc16 : ¬ ((3 : Int32) < (3 : Int32)) := by decide
      refine Own.icmpFn hx (Own.q_ge (3 : Int32) (3 : Int32)) (hb hby d4_11) (pcN := 14) rfl (by decide) (pcT := 50) rfl (fun _ => ?_) (fun q => absurd q hc16)
      refine Own.iconst hx (2 : Int32) (hb hby d4_50) rfl (by decide) ?_
      refine Own.iloadN hx (3 : Int32) (hb hby d4_51) rfl rfl ?_
      refine Own.imul hx (hb hby d4_52) rfl ?_
      refine Own.vI (6 : Int32) (by decide) ?_
      exact Own.retI hx hret hlk (hb hby d4_53) (by decide) (by decide) ⟨by simp only [fSR3, if_pos hc3, if_pos hc13], rfl⟩

theorem own_n4 {nn k : Int32} (h : nn = k &&& (3 : Int32)) : nn = 0 ∨ nn = 1 ∨ nn = 2 ∨ nn = 3 := by
  have h1 := c_mask k 3 2 (by decide) (by decide)
  rw [← h] at h1
  have h2 : nn.toInt = 0 ∨ nn.toInt = 1 ∨ nn.toInt = 2 ∨ nn.toInt = 3 := by omega
  rcases h2 with q | q | q | q
  · exact Or.inl (Int32.toInt_inj.mp q)
  · exact Or.inr (Or.inl (Int32.toInt_inj.mp q))
  · exact Or.inr (Or.inr (Or.inl (Int32.toInt_inj.mp q)))
  · exact Or.inr (Or.inr (Or.inr (Int32.toInt_inj.mp q)))
theorem own_min (a b : Int64) : (fMin a b).toInt = if b.toInt < a.toInt then b.toInt else a.toInt := by
  unfold fMin; simp only [Int64.lt_iff_toInt_lt]; split <;> rfl
theorem own_maxL (a b : Int64) : (fMaxL a b).toInt = if a.toInt < b.toInt then b.toInt else a.toInt := by
  unfold fMaxL; simp only [Int64.lt_iff_toInt_lt]; split <;> rfl
theorem own_sorted {x y z s0 s1 s2 : Int64} (h0 : s0 = fMin (fMin x y) z) (h1 : s1 = fMaxL (fMin x y) (fMin (fMaxL x y) z)) (h2 : s2 = fMaxL (fMaxL x y) z) : s0.toInt ≤ s1.toInt ∧ s1.toInt ≤ s2.toInt := by
  rw [h0, h1, h2]
  simp only [own_min, own_maxL]
  generalize x.toInt = a
  generalize y.toInt = b
  generalize z.toInt = c
  constructor <;> (repeat' split) <;> omega
theorem own_fin0 {got z : Int32} {cell : Int64} (h_got : got = fSR0 cell) (h_z : z = if got = (0 : Int32) then (1 : Int32) else (0 : Int32)) : z = 1 := by rw [h_z, h_got]; rfl
theorem own_fin1 {got ex z : Int32} {s0 cell : Int64} (h_got : got = fSR1 s0 cell) (h_ex : ex = if s0 < cell then (2 : Int32) else (0 : Int32)) (h_z : z = if got = ex then (1 : Int32) else (0 : Int32)) : z = 1 := by
  rw [h_z, if_pos (by rw [h_got, h_ex]; rfl)]
theorem own_fin2 {got ex z : Int32} {s0 s1 s2 cell : Int64} (hs : s0.toInt ≤ s1.toInt ∧ s1.toInt ≤ s2.toInt) (h_got : got = fSR2 s0 s1 cell) (h_ex : ex = if s0 < cell then (if s1 < cell then (4 : Int32) else (2 : Int32)) else (0 : Int32)) (h_z : z = if got = ex then (1 : Int32) else (0 : Int32)) : z = 1 := by
  rw [h_z, if_pos]
  rw [h_got, h_ex]; unfold fSR2
  simp only [Int64.lt_iff_toInt_lt]
  repeat' split
  all_goals first | rfl | omega
theorem own_fin3 {got ex z : Int32} {s0 s1 s2 cell : Int64} (hs : s0.toInt ≤ s1.toInt ∧ s1.toInt ≤ s2.toInt) (h_got : got = fSR3 s0 s1 s2 cell) (h_ex : ex = if s0 < cell then (if s1 < cell then (if s2 < cell then (6 : Int32) else (4 : Int32)) else (2 : Int32)) else (0 : Int32)) (h_z : z = if got = ex then (1 : Int32) else (0 : Int32)) : z = 1 := by
  rw [h_z, if_pos]
  rw [h_got, h_ex]; unfold fSR3
  simp only [Int64.lt_iff_toInt_lt]
  repeat' split
  all_goals first | rfl | omega

theorem pd0 : parseMethodDescriptor "(JJ)J" = some ⟨[.long, .long], some .long⟩ := by decide +kernel
theorem pd1 : parseMethodDescriptor "([JJ)I" = some ⟨[(.array .long), .long], some .int⟩ := by decide +kernel
theorem pn4 : plainFor (⟨"com/example/tracewarden/tracewarden/monitor/GroupsStretchReachingPinLaw", "law", "(JJJJJI)Z"⟩ : MethodName) = true := by first | exact plainFor_of_name (by simp [plainName, overriddenIn]; done) | decide +kernel
theorem ef0 (m : MethodId) (q0 : Int64) (q1 : Int64) (q2 : Int64) (q3 : Int64) (q4 : Int64) (p5 : Int32) : entryFrame m #[(.long q0), (.long q1), (.long q2), (.long q3), (.long q4), (.int p5)] maxLocals = mkF m 0 #[.val (.long q0), .second, .val (.long q1), .second, .val (.long q2), .second, .val (.long q3), .second, .val (.long q4), .second, .val (.int p5), .unset, .unset, .unset, .unset, .unset, .unset, .unset, .unset, .unset, .unset, .unset, .unset, .unset, .unset, .unset, .unset] [] := by first | (simp [entryFrame, mkF, argsToLocals, Value.category, maxLocals]; done) | rfl
set_option maxRecDepth 65536 in
set_option maxHeartbeats 40000000 in
theorem rm0 (l : Launch) (Z : State) (a0 : Array Value) (hw : ∀ d ∈ tables_1, d.before a0 Z = true) (q0 : Int64) (q1 : Int64) (q2 : Int64) (q3 : Int64) (q4 : Int64) (p5 : Int32) (h0 : Heap) (n0 : Nat)  (O0 : Own.Owns n0 h0 ([]))  : Own.Does l x code maxLocals ret tables_1 room_1 Z #[(.long q0), (.long q1), (.long q2), (.long q3), (.long q4), (.int p5)] h0 n0 (fun v _ => v = some (.int 1)) := by
  refine Own.doesOf pn4 ?_
  intro p e s m below meth c hx hby hml hret hlk hown hnm hZ
  replace hml : c.maxLocals = 27 := hml
  replace hown : s.vm.findClass "com/example/tracewarden/tracewarden/monitor/GroupsStretchReachingPinLaw" = some m.cls := hown
  replace hret : meth.sig.returnType = (some .boolean) := hret
  refine Own.Goes.cast (ef0 m q0 q1 q2 q3 q4 p5) ?_
  refine Own.iload hx p5 (hb hby at_0) rfl rfl ?_
  refine Own.iconst hx (3 : Int32) (hb hby at_2) rfl (by decide) ?_
  refine Own.iand hx (hb hby at_3) rfl ?_
  obtain ⟨nn, h_nn⟩ : ∃ z : Int32, z = (p5 &&& (3 : Int32)) := ⟨_, rfl⟩
  refine Own.istore hx nn h_nn #[.val (.long q0), .second, .val (.long q1), .second, .val (.long q2), .second, .val (.long q3), .second, .val (.long q4), .second, .val (.int p5), .val (.int nn), .unset, .unset, .unset, .unset, .unset, .unset, .unset, .unset, .unset, .unset, .unset, .unset, .unset, .unset, .unset] (hb hby at_4) rfl rfl ?_
  rcases own_n4 h_nn with q | q | q | q
  · subst q
    refine Own.lloadN hx q0 (hb hby at_6) rfl rfl ?_
    refine Own.lloadN hx q1 (hb hby at_7) rfl rfl ?_
    refine Own.callS hx hZ hown (hw _ (List.mem_of_getElem? (i := 0) rfl)) (hw _ (List.mem_of_getElem? (i := 1) rfl)) (hw _ (List.mem_of_getElem? (i := 2) rfl)) (hw _ (List.mem_of_getElem? (i := 3) rfl)) (by decide) pd0 (argsL := [(.long q0), (.long q1)]) (rest := []) rfl (W := 0) (Nat.le_of_eq rfl) (rm := ({ frames := 0, cells := 0, slots := 0, locals := 0 } : Room)) (by decide) (by decide) (by decide) (by decide) (k' := 0) (n' := 0) rfl rfl (by rw [hml]; rfl) [(.long q1), (.long q0)] rfl (hb hby at_8) (pc' := 11) rfl (rm1 l Z a0 hw q0 q1 h0 n0) ?_
    rintro _ h' ⟨rfl, eh⟩
    rw [eh]; clear eh h'
    show Own.Goes _ _ _ _ _ _ _ _ _ _ _ _ _ _ _ _ _ (mkF m 11 #[.val (.long q0), .second, .val (.long q1), .second, .val (.long q2), .second, .val (.long q3), .second, .val (.long q4), .second, .val (.int p5), .val (.int (0 : Int32)), .unset, .unset, .unset, .unset, .unset, .unset, .unset, .unset, .unset, .unset, .unset, .unset, .unset, .unset, .unset] [(.long (fMin q0 q1))])
    refine Own.lload hx q2 (hb hby at_11) rfl rfl ?_
    refine Own.callS hx hZ hown (hw _ (List.mem_of_getElem? (i := 0) rfl)) (hw _ (List.mem_of_getElem? (i := 1) rfl)) (hw _ (List.mem_of_getElem? (i := 2) rfl)) (hw _ (List.mem_of_getElem? (i := 3) rfl)) (by decide) pd0 (argsL := [(.long (fMin q0 q1)), (.long q2)]) (rest := []) rfl (W := 0) (Nat.le_of_eq rfl) (rm := ({ frames := 0, cells := 0, slots := 0, locals := 0 } : Room)) (by decide) (by decide) (by decide) (by decide) (k' := 0) (n' := 0) rfl rfl (by rw [hml]; rfl) [(.long q2), (.long (fMin q0 q1))] rfl (hb hby at_13) (pc' := 16) rfl (rm1 l Z a0 hw (fMin q0 q1) q2 h0 n0) ?_
    rintro _ h' ⟨rfl, eh⟩
    rw [eh]; clear eh h'
    show Own.Goes _ _ _ _ _ _ _ _ _ _ _ _ _ _ _ _ _ (mkF m 16 #[.val (.long q0), .second, .val (.long q1), .second, .val (.long q2), .second, .val (.long q3), .second, .val (.long q4), .second, .val (.int p5), .val (.int (0 : Int32)), .unset, .unset, .unset, .unset, .unset, .unset, .unset, .unset, .unset, .unset, .unset, .unset, .unset, .unset, .unset] [(.long (fMin (fMin q0 q1) q2))])
    obtain ⟨s0, h_s0⟩ : ∃ z : Int64, z = (fMin (fMin q0 q1) q2) := ⟨_, rfl⟩
    refine Own.lstore hx s0 h_s0 #[.val (.long q0), .second, .val (.long q1), .second, .val (.long q2), .second, .val (.long q3), .second, .val (.long q4), .second, .val (.int p5), .val (.int (0 : Int32)), .val (.long s0), .second, .unset, .unset, .unset, .unset, .unset, .unset, .unset, .unset, .unset, .unset, .unset, .unset, .unset] (hb hby at_16) rfl rfl ?_
    refine Own.lloadN hx q0 (hb hby at_18) rfl rfl ?_
    refine Own.lloadN hx q1 (hb hby at_19) rfl rfl ?_
    refine Own.callS hx hZ hown (hw _ (List.mem_of_getElem? (i := 0) rfl)) (hw _ (List.mem_of_getElem? (i := 1) rfl)) (hw _ (List.mem_of_getElem? (i := 2) rfl)) (hw _ (List.mem_of_getElem? (i := 3) rfl)) (by decide) pd0 (argsL := [(.long q0), (.long q1)]) (rest := []) rfl (W := 0) (Nat.le_of_eq rfl) (rm := ({ frames := 0, cells := 0, slots := 0, locals := 0 } : Room)) (by decide) (by decide) (by decide) (by decide) (k' := 0) (n' := 0) rfl rfl (by rw [hml]; rfl) [(.long q1), (.long q0)] rfl (hb hby at_20) (pc' := 23) rfl (rm1 l Z a0 hw q0 q1 h0 n0) ?_
    rintro _ h' ⟨rfl, eh⟩
    rw [eh]; clear eh h'
    show Own.Goes _ _ _ _ _ _ _ _ _ _ _ _ _ _ _ _ _ (mkF m 23 #[.val (.long q0), .second, .val (.long q1), .second, .val (.long q2), .second, .val (.long q3), .second, .val (.long q4), .second, .val (.int p5), .val (.int (0 : Int32)), .val (.long s0), .second, .unset, .unset, .unset, .unset, .unset, .unset, .unset, .unset, .unset, .unset, .unset, .unset, .unset] [(.long (fMin q0 q1))])
    refine Own.lloadN hx q0 (hb hby at_23) rfl rfl ?_
    refine Own.lloadN hx q1 (hb hby at_24) rfl rfl ?_
    refine Own.callS hx hZ hown (hw _ (List.mem_of_getElem? (i := 4) rfl)) (hw _ (List.mem_of_getElem? (i := 5) rfl)) (hw _ (List.mem_of_getElem? (i := 2) rfl)) (hw _ (List.mem_of_getElem? (i := 6) rfl)) (by decide) pd0 (argsL := [(.long q0), (.long q1)]) (rest := [(.long (fMin q0 q1))]) rfl (W := 2) (Nat.le_of_eq rfl) (rm := ({ frames := 0, cells := 0, slots := 0, locals := 0 } : Room)) (by decide) (by decide) (by decide) (by decide) (k' := 0) (n' := 0) rfl rfl (by rw [hml]; rfl) [(.long q1), (.long q0), (.long (fMin q0 q1))] rfl (hb hby at_25) (pc' := 28) rfl (rm2 l Z a0 hw q0 q1 h0 n0) ?_
    rintro _ h' ⟨rfl, eh⟩
    rw [eh]; clear eh h'
    show Own.Goes _ _ _ _ _ _ _ _ _ _ _ _ _ _ _ _ _ (mkF m 28 #[.val (.long q0), .second, .val (.long q1), .second, .val (.long q2), .second, .val (.long q3), .second, .val (.long q4), .second, .val (.int p5), .val (.int (0 : Int32)), .val (.long s0), .second, .unset, .unset, .unset, .unset, .unset, .unset, .unset, .unset, .unset, .unset, .unset, .unset, .unset] [(.long (fMaxL q0 q1)), (.long (fMin q0 q1))])
    refine Own.lload hx q2 (hb hby at_28) rfl rfl ?_
    refine Own.callS hx hZ hown (hw _ (List.mem_of_getElem? (i := 0) rfl)) (hw _ (List.mem_of_getElem? (i := 1) rfl)) (hw _ (List.mem_of_getElem? (i := 2) rfl)) (hw _ (List.mem_of_getElem? (i := 3) rfl)) (by decide) pd0 (argsL := [(.long (fMaxL q0 q1)), (.long q2)]) (rest := [(.long (fMin q0 q1))]) rfl (W := 2) (Nat.le_of_eq rfl) (rm := ({ frames := 0, cells := 0, slots := 0, locals := 0 } : Room)) (by decide) (by decide) (by decide) (by decide) (k' := 0) (n' := 0) rfl rfl (by rw [hml]; rfl) [(.long q2), (.long (fMaxL q0 q1)), (.long (fMin q0 q1))] rfl (hb hby at_30) (pc' := 33) rfl (rm1 l Z a0 hw (fMaxL q0 q1) q2 h0 n0) ?_
    rintro _ h' ⟨rfl, eh⟩
    rw [eh]; clear eh h'
    show Own.Goes _ _ _ _ _ _ _ _ _ _ _ _ _ _ _ _ _ (mkF m 33 #[.val (.long q0), .second, .val (.long q1), .second, .val (.long q2), .second, .val (.long q3), .second, .val (.long q4), .second, .val (.int p5), .val (.int (0 : Int32)), .val (.long s0), .second, .unset, .unset, .unset, .unset, .unset, .unset, .unset, .unset, .unset, .unset, .unset, .unset, .unset] [(.long (fMin (fMaxL q0 q1) q2)), (.long (fMin q0 q1))])
    refine Own.callS hx hZ hown (hw _ (List.mem_of_getElem? (i := 4) rfl)) (hw _ (List.mem_of_getElem? (i := 5) rfl)) (hw _ (List.mem_of_getElem? (i := 2) rfl)) (hw _ (List.mem_of_getElem? (i := 6) rfl)) (by decide) pd0 (argsL := [(.long (fMin q0 q1)), (.long (fMin (fMaxL q0 q1) q2))]) (rest := []) rfl (W := 0) (Nat.le_of_eq rfl) (rm := ({ frames := 0, cells := 0, slots := 0, locals := 0 } : Room)) (by decide) (by decide) (by decide) (by decide) (k' := 0) (n' := 0) rfl rfl (by rw [hml]; rfl) [(.long (fMin (fMaxL q0 q1) q2)), (.long (fMin q0 q1))] rfl (hb hby at_33) (pc' := 36) rfl (rm2 l Z a0 hw (fMin q0 q1) (fMin (fMaxL q0 q1) q2) h0 n0) ?_
    rintro _ h' ⟨rfl, eh⟩
    rw [eh]; clear eh h'
    show Own.Goes _ _ _ _ _ _ _ _ _ _ _ _ _ _ _ _ _ (mkF m 36 #[.val (.long q0), .second, .val (.long q1), .second, .val (.long q2), .second, .val (.long q3), .second, .val (.long q4), .second, .val (.int p5), .val (.int (0 : Int32)), .val (.long s0), .second, .unset, .unset, .unset, .unset, .unset, .unset, .unset, .unset, .unset, .unset, .unset, .unset, .unset] [(.long (fMaxL (fMin q0 q1) (fMin (fMaxL q0 q1) q2)))])
    obtain ⟨s1, h_s1⟩ : ∃ z : Int64, z = (fMaxL (fMin q0 q1) (fMin (fMaxL q0 q1) q2)) := ⟨_, rfl⟩
    refine Own.lstore hx s1 h_s1 #[.val (.long q0), .second, .val (.long q1), .second, .val (.long q2), .second, .val (.long q3), .second, .val (.long q4), .second, .val (.int p5), .val (.int (0 : Int32)), .val (.long s0), .second, .val (.long s1), .second, .unset, .unset, .unset, .unset, .unset, .unset, .unset, .unset, .unset, .unset, .unset] (hb hby at_36) rfl rfl ?_
    refine Own.lloadN hx q0 (hb hby at_38) rfl rfl ?_
    refine Own.lloadN hx q1 (hb hby at_39) rfl rfl ?_
    refine Own.callS hx hZ hown (hw _ (List.mem_of_getElem? (i := 4) rfl)) (hw _ (List.mem_of_getElem? (i := 5) rfl)) (hw _ (List.mem_of_getElem? (i := 2) rfl)) (hw _ (List.mem_of_getElem? (i := 6) rfl)) (by decide) pd0 (argsL := [(.long q0), (.long q1)]) (rest := []) rfl (W := 0) (Nat.le_of_eq rfl) (rm := ({ frames := 0, cells := 0, slots := 0, locals := 0 } : Room)) (by decide) (by decide) (by decide) (by decide) (k' := 0) (n' := 0) rfl rfl (by rw [hml]; rfl) [(.long q1), (.long q0)] rfl (hb hby at_40) (pc' := 43) rfl (rm2 l Z a0 hw q0 q1 h0 n0) ?_
    rintro _ h' ⟨rfl, eh⟩
    rw [eh]; clear eh h'
    show Own.Goes _ _ _ _ _ _ _ _ _ _ _ _ _ _ _ _ _ (mkF m 43 #[.val (.long q0), .second, .val (.long q1), .second, .val (.long q2), .second, .val (.long q3), .second, .val (.long q4), .second, .val (.int p5), .val (.int (0 : Int32)), .val (.long s0), .second, .val (.long s1), .second, .unset, .unset, .unset, .unset, .unset, .unset, .unset, .unset, .unset, .unset, .unset] [(.long (fMaxL q0 q1))])
    refine Own.lload hx q2 (hb hby at_43) rfl rfl ?_
    refine Own.callS hx hZ hown (hw _ (List.mem_of_getElem? (i := 4) rfl)) (hw _ (List.mem_of_getElem? (i := 5) rfl)) (hw _ (List.mem_of_getElem? (i := 2) rfl)) (hw _ (List.mem_of_getElem? (i := 6) rfl)) (by decide) pd0 (argsL := [(.long (fMaxL q0 q1)), (.long q2)]) (rest := []) rfl (W := 0) (Nat.le_of_eq rfl) (rm := ({ frames := 0, cells := 0, slots := 0, locals := 0 } : Room)) (by decide) (by decide) (by decide) (by decide) (k' := 0) (n' := 0) rfl rfl (by rw [hml]; rfl) [(.long q2), (.long (fMaxL q0 q1))] rfl (hb hby at_45) (pc' := 48) rfl (rm2 l Z a0 hw (fMaxL q0 q1) q2 h0 n0) ?_
    rintro _ h' ⟨rfl, eh⟩
    rw [eh]; clear eh h'
    show Own.Goes _ _ _ _ _ _ _ _ _ _ _ _ _ _ _ _ _ (mkF m 48 #[.val (.long q0), .second, .val (.long q1), .second, .val (.long q2), .second, .val (.long q3), .second, .val (.long q4), .second, .val (.int p5), .val (.int (0 : Int32)), .val (.long s0), .second, .val (.long s1), .second, .unset, .unset, .unset, .unset, .unset, .unset, .unset, .unset, .unset, .unset, .unset] [(.long (fMaxL (fMaxL q0 q1) q2))])
    obtain ⟨s2, h_s2⟩ : ∃ z : Int64, z = (fMaxL (fMaxL q0 q1) q2) := ⟨_, rfl⟩
    refine Own.lstore hx s2 h_s2 #[.val (.long q0), .second, .val (.long q1), .second, .val (.long q2), .second, .val (.long q3), .second, .val (.long q4), .second, .val (.int p5), .val (.int (0 : Int32)), .val (.long s0), .second, .val (.long s1), .second, .val (.long s2), .second, .unset, .unset, .unset, .unset, .unset, .unset, .unset, .unset, .unset] (hb hby at_48) rfl rfl ?_
    refine Own.lload hx s0 (hb hby at_50) rfl rfl ?_
    refine Own.lload hx q3 (hb hby at_52) rfl rfl ?_
    refine Own.ldc2 hx hZ hown (255 : Int64) (hb hby at_54) rfl (hw _ (List.mem_of_getElem? (i := 7) rfl)) ?_
    refine Own.land hx (hb hby at_57) rfl ?_
    refine Own.callS hx hZ hown (hw _ (List.mem_of_getElem? (i := 8) rfl)) (hw _ (List.mem_of_getElem? (i := 9) rfl)) (hw _ (List.mem_of_getElem? (i := 10) rfl)) (hw _ (List.mem_of_getElem? (i := 11) rfl)) (by decide) pd0 (argsL := [(.long s0), (.long (q3 &&& (255 : Int64)))]) (rest := []) rfl (W := 0) (Nat.le_of_eq rfl) (rm := ({ frames := 0, cells := 0, slots := 0, locals := 0 } : Room)) (by decide) (by decide) (by decide) (by decide) (k' := 0) (n' := 0) rfl rfl (by rw [hml]; rfl) [(.long (q3 &&& (255 : Int64))), (.long s0)] rfl (hb hby at_58) (pc' := 61) rfl (rm3 l Z a0 hw s0 (q3 &&& (255 : Int64)) h0 n0) ?_
    rintro _ h' ⟨rfl, eh⟩
    rw [eh]; clear eh h'
    show Own.Goes _ _ _ _ _ _ _ _ _ _ _ _ _ _ _ _ _ (mkF m 61 #[.val (.long q0), .second, .val (.long q1), .second, .val (.long q2), .second, .val (.long q3), .second, .val (.long q4), .second, .val (.int p5), .val (.int (0 : Int32)), .val (.long s0), .second, .val (.long s1), .second, .val (.long s2), .second, .unset, .unset, .unset, .unset, .unset, .unset, .unset, .unset, .unset] [(.long (fBelow s0 (q3 &&& (255 : Int64))))])
    obtain ⟨f0, h_f0⟩ : ∃ z : Int64, z = (fBelow s0 (q3 &&& (255 : Int64))) := ⟨_, rfl⟩
    refine Own.lstore hx f0 h_f0 #[.val (.long q0), .second, .val (.long q1), .second, .val (.long q2), .second, .val (.long q3), .second, .val (.long q4), .second, .val (.int p5), .val (.int (0 : Int32)), .val (.long s0), .second, .val (.long s1), .second, .val (.long s2), .second, .val (.long f0), .second, .unset, .unset, .unset, .unset, .unset, .unset, .unset] (hb hby at_61) rfl rfl ?_
    refine Own.lload hx s0 (hb hby at_63) rfl rfl ?_
    refine Own.lload hx s1 (hb hby at_65) rfl rfl ?_
    refine Own.lload hx q3 (hb hby at_67) rfl rfl ?_
    refine Own.bipush hx (8 : Int32) (hb hby at_69) rfl (by decide) ?_
    refine Own.lushr hx (hb hby at_71) rfl ?_
    refine Own.ldc2 hx hZ hown (255 : Int64) (hb hby at_72) rfl (hw _ (List.mem_of_getElem? (i := 7) rfl)) ?_
    refine Own.land hx (hb hby at_75) rfl ?_
    refine Own.callS hx hZ hown (hw _ (List.mem_of_getElem? (i := 8) rfl)) (hw _ (List.mem_of_getElem? (i := 9) rfl)) (hw _ (List.mem_of_getElem? (i := 10) rfl)) (hw _ (List.mem_of_getElem? (i := 11) rfl)) (by decide) pd0 (argsL := [(.long s1), (.long ((q3.toUInt64 >>> ((8 : Int32) &&& 0x3f).toInt64.toUInt64).toInt64 &&& (255 : Int64)))]) (rest := [(.long s0)]) rfl (W := 2) (Nat.le_of_eq rfl) (rm := ({ frames := 0, cells := 0, slots := 0, locals := 0 } : Room)) (by decide) (by decide) (by decide) (by decide) (k' := 0) (n' := 0) rfl rfl (by rw [hml]; rfl) [(.long ((q3.toUInt64 >>> ((8 : Int32) &&& 0x3f).toInt64.toUInt64).toInt64 &&& (255 : Int64))), (.long s1), (.long s0)] rfl (hb hby at_76) (pc' := 79) rfl (rm3 l Z a0 hw s1 ((q3.toUInt64 >>> ((8 : Int32) &&& 0x3f).toInt64.toUInt64).toInt64 &&& (255 : Int64)) h0 n0) ?_
    rintro _ h' ⟨rfl, eh⟩
    rw [eh]; clear eh h'
    show Own.Goes _ _ _ _ _ _ _ _ _ _ _ _ _ _ _ _ _ (mkF m 79 #[.val (.long q0), .second, .val (.long q1), .second, .val (.long q2), .second, .val (.long q3), .second, .val (.long q4), .second, .val (.int p5), .val (.int (0 : Int32)), .val (.long s0), .second, .val (.long s1), .second, .val (.long s2), .second, .val (.long f0), .second, .unset, .unset, .unset, .unset, .unset, .unset, .unset] [(.long (fBelow s1 ((q3.toUInt64 >>> ((8 : Int32) &&& 0x3f).toInt64.toUInt64).toInt64 &&& (255 : Int64)))), (.long s0)])
    refine Own.callS hx hZ hown (hw _ (List.mem_of_getElem? (i := 4) rfl)) (hw _ (List.mem_of_getElem? (i := 5) rfl)) (hw _ (List.mem_of_getElem? (i := 2) rfl)) (hw _ (List.mem_of_getElem? (i := 6) rfl)) (by decide) pd0 (argsL := [(.long s0), (.long (fBelow s1 ((q3.toUInt64 >>> ((8 : Int32) &&& 0x3f).toInt64.toUInt64).toInt64 &&& (255 : Int64))))]) (rest := []) rfl (W := 0) (Nat.le_of_eq rfl) (rm := ({ frames := 0, cells := 0, slots := 0, locals := 0 } : Room)) (by decide) (by decide) (by decide) (by decide) (k' := 0) (n' := 0) rfl rfl (by rw [hml]; rfl) [(.long (fBelow s1 ((q3.toUInt64 >>> ((8 : Int32) &&& 0x3f).toInt64.toUInt64).toInt64 &&& (255 : Int64)))), (.long s0)] rfl (hb hby at_79) (pc' := 82) rfl (rm2 l Z a0 hw s0 (fBelow s1 ((q3.toUInt64 >>> ((8 : Int32) &&& 0x3f).toInt64.toUInt64).toInt64 &&& (255 : Int64))) h0 n0) ?_
    rintro _ h' ⟨rfl, eh⟩
    rw [eh]; clear eh h'
    show Own.Goes _ _ _ _ _ _ _ _ _ _ _ _ _ _ _ _ _ (mkF m 82 #[.val (.long q0), .second, .val (.long q1), .second, .val (.long q2), .second, .val (.long q3), .second, .val (.long q4), .second, .val (.int p5), .val (.int (0 : Int32)), .val (.long s0), .second, .val (.long s1), .second, .val (.long s2), .second, .val (.long f0), .second, .unset, .unset, .unset, .unset, .unset, .unset, .unset] [(.long (fMaxL s0 (fBelow s1 ((q3.toUInt64 >>> ((8 : Int32) &&& 0x3f).toInt64.toUInt64).toInt64 &&& (255 : Int64)))))])
    obtain ⟨f1, h_f1⟩ : ∃ z : Int64, z = (fMaxL s0 (fBelow s1 ((q3.toUInt64 >>> ((8 : Int32) &&& 0x3f).toInt64.toUInt64).toInt64 &&& (255 : Int64)))) := ⟨_, rfl⟩
    refine Own.lstore hx f1 h_f1 #[.val (.long q0), .second, .val (.long q1), .second, .val (.long q2), .second, .val (.long q3), .second, .val (.long q4), .second, .val (.int p5), .val (.int (0 : Int32)), .val (.long s0), .second, .val (.long s1), .second, .val (.long s2), .second, .val (.long f0), .second, .val (.long f1), .second, .unset, .unset, .unset, .unset, .unset] (hb hby at_82) rfl rfl ?_
    refine Own.lload hx s1 (hb hby at_84) rfl rfl ?_
    refine Own.lload hx s2 (hb hby at_86) rfl rfl ?_
    refine Own.lload hx q3 (hb hby at_88) rfl rfl ?_
    refine Own.bipush hx (16 : Int32) (hb hby at_90) rfl (by decide) ?_
    refine Own.lushr hx (hb hby at_92) rfl ?_
    refine Own.ldc2 hx hZ hown (255 : Int64) (hb hby at_93) rfl (hw _ (List.mem_of_getElem? (i := 7) rfl)) ?_
    refine Own.land hx (hb hby at_96) rfl ?_
    refine Own.callS hx hZ hown (hw _ (List.mem_of_getElem? (i := 8) rfl)) (hw _ (List.mem_of_getElem? (i := 9) rfl)) (hw _ (List.mem_of_getElem? (i := 10) rfl)) (hw _ (List.mem_of_getElem? (i := 11) rfl)) (by decide) pd0 (argsL := [(.long s2), (.long ((q3.toUInt64 >>> ((16 : Int32) &&& 0x3f).toInt64.toUInt64).toInt64 &&& (255 : Int64)))]) (rest := [(.long s1)]) rfl (W := 2) (Nat.le_of_eq rfl) (rm := ({ frames := 0, cells := 0, slots := 0, locals := 0 } : Room)) (by decide) (by decide) (by decide) (by decide) (k' := 0) (n' := 0) rfl rfl (by rw [hml]; rfl) [(.long ((q3.toUInt64 >>> ((16 : Int32) &&& 0x3f).toInt64.toUInt64).toInt64 &&& (255 : Int64))), (.long s2), (.long s1)] rfl (hb hby at_97) (pc' := 100) rfl (rm3 l Z a0 hw s2 ((q3.toUInt64 >>> ((16 : Int32) &&& 0x3f).toInt64.toUInt64).toInt64 &&& (255 : Int64)) h0 n0) ?_
    rintro _ h' ⟨rfl, eh⟩
    rw [eh]; clear eh h'
    show Own.Goes _ _ _ _ _ _ _ _ _ _ _ _ _ _ _ _ _ (mkF m 100 #[.val (.long q0), .second, .val (.long q1), .second, .val (.long q2), .second, .val (.long q3), .second, .val (.long q4), .second, .val (.int p5), .val (.int (0 : Int32)), .val (.long s0), .second, .val (.long s1), .second, .val (.long s2), .second, .val (.long f0), .second, .val (.long f1), .second, .unset, .unset, .unset, .unset, .unset] [(.long (fBelow s2 ((q3.toUInt64 >>> ((16 : Int32) &&& 0x3f).toInt64.toUInt64).toInt64 &&& (255 : Int64)))), (.long s1)])
    refine Own.callS hx hZ hown (hw _ (List.mem_of_getElem? (i := 4) rfl)) (hw _ (List.mem_of_getElem? (i := 5) rfl)) (hw _ (List.mem_of_getElem? (i := 2) rfl)) (hw _ (List.mem_of_getElem? (i := 6) rfl)) (by decide) pd0 (argsL := [(.long s1), (.long (fBelow s2 ((q3.toUInt64 >>> ((16 : Int32) &&& 0x3f).toInt64.toUInt64).toInt64 &&& (255 : Int64))))]) (rest := []) rfl (W := 0) (Nat.le_of_eq rfl) (rm := ({ frames := 0, cells := 0, slots := 0, locals := 0 } : Room)) (by decide) (by decide) (by decide) (by decide) (k' := 0) (n' := 0) rfl rfl (by rw [hml]; rfl) [(.long (fBelow s2 ((q3.toUInt64 >>> ((16 : Int32) &&& 0x3f).toInt64.toUInt64).toInt64 &&& (255 : Int64)))), (.long s1)] rfl (hb hby at_100) (pc' := 103) rfl (rm2 l Z a0 hw s1 (fBelow s2 ((q3.toUInt64 >>> ((16 : Int32) &&& 0x3f).toInt64.toUInt64).toInt64 &&& (255 : Int64))) h0 n0) ?_
    rintro _ h' ⟨rfl, eh⟩
    rw [eh]; clear eh h'
    show Own.Goes _ _ _ _ _ _ _ _ _ _ _ _ _ _ _ _ _ (mkF m 103 #[.val (.long q0), .second, .val (.long q1), .second, .val (.long q2), .second, .val (.long q3), .second, .val (.long q4), .second, .val (.int p5), .val (.int (0 : Int32)), .val (.long s0), .second, .val (.long s1), .second, .val (.long s2), .second, .val (.long f0), .second, .val (.long f1), .second, .unset, .unset, .unset, .unset, .unset] [(.long (fMaxL s1 (fBelow s2 ((q3.toUInt64 >>> ((16 : Int32) &&& 0x3f).toInt64.toUInt64).toInt64 &&& (255 : Int64)))))])
    obtain ⟨f2, h_f2⟩ : ∃ z : Int64, z = (fMaxL s1 (fBelow s2 ((q3.toUInt64 >>> ((16 : Int32) &&& 0x3f).toInt64.toUInt64).toInt64 &&& (255 : Int64)))) := ⟨_, rfl⟩
    refine Own.lstore hx f2 h_f2 #[.val (.long q0), .second, .val (.long q1), .second, .val (.long q2), .second, .val (.long q3), .second, .val (.long q4), .second, .val (.int p5), .val (.int (0 : Int32)), .val (.long s0), .second, .val (.long s1), .second, .val (.long s2), .second, .val (.long f0), .second, .val (.long f1), .second, .val (.long f2), .second, .unset, .unset, .unset] (hb hby at_103) rfl rfl ?_
    refine Own.iconst hx (2 : Int32) (hb hby at_105) rfl (by decide) ?_
    refine Own.iload hx (0 : Int32) (hb hby at_106) rfl rfl ?_
    refine Own.imul hx (hb hby at_108) rfl ?_
    refine Own.vI (0 : Int32) (by decide) ?_
    refine Own.newarr hx hZ O0 (aty := .long) (hw _ (List.mem_of_getElem? (i := 13) rfl)) 0 (by decide) [] rfl rfl (cap := 0) (by decide) (by decide) (k' := 1) (n' := 0) rfl rfl (by decide) (by decide) (hb hby at_109) (pc' := 111) rfl ?_
    intro a1 h2 O3
    refine Own.astore hx #[.val (.long q0), .second, .val (.long q1), .second, .val (.long q2), .second, .val (.long q3), .second, .val (.long q4), .second, .val (.int p5), .val (.int (0 : Int32)), .val (.long s0), .second, .val (.long s1), .second, .val (.long s2), .second, .val (.long f0), .second, .val (.long f1), .second, .val (.long f2), .second, .val (.ref a1), .unset, .unset] (hb hby at_111) rfl rfl rfl ?_
    refine Own.iload hx (0 : Int32) (hb hby at_113) rfl rfl ?_
    refine Own.iconst hx (1 : Int32) (hb hby at_115) rfl (by decide) ?_
    have hc4 : (0 : Int32) < (1 : Int32) := by decide
    refine Own.icmpF hx (Own.q_lt (0 : Int32) (1 : Int32)) (hb hby at_116) (pcN := 119) rfl (by decide) (pcT := 131) rfl (fun _ => ?_) (fun q => absurd hc4 q)
    refine Own.iload hx (0 : Int32) (hb hby at_131) rfl rfl ?_
    refine Own.iconst hx (2 : Int32) (hb hby at_133) rfl (by decide) ?_
    have hc6 : (0 : Int32) < (2 : Int32) := by decide
    refine Own.icmpF hx (Own.q_lt (0 : Int32) (2 : Int32)) (hb hby at_134) (pcN := 137) rfl (by decide) (pcT := 149) rfl (fun _ => ?_) (fun q => absurd hc6 q)
    refine Own.iload hx (0 : Int32) (hb hby at_149) rfl rfl ?_
    refine Own.iconst hx (3 : Int32) (hb hby at_151) rfl (by decide) ?_
    have hc8 : (0 : Int32) < (3 : Int32) := by decide
    refine Own.icmpF hx (Own.q_lt (0 : Int32) (3 : Int32)) (hb hby at_152) (pcN := 155) rfl (by decide) (pcT := 167) rfl (fun _ => ?_) (fun q => absurd hc8 q)
    refine Own.aload hx (.ref a1) (hb hby at_167) rfl rfl rfl ?_
    refine Own.lload hx q4 (hb hby at_169) rfl rfl ?_
    refine Own.callS hx hZ hown (hw _ (List.mem_of_getElem? (i := 14) rfl)) (hw _ (List.mem_of_getElem? (i := 15) rfl)) (hw _ (List.mem_of_getElem? (i := 16) rfl)) (hw _ (List.mem_of_getElem? (i := 17) rfl)) (by decide) pd1 (argsL := [(.ref a1), (.long q4)]) (rest := []) rfl (W := 0) (Nat.le_of_eq rfl) (rm := ({ frames := 0, cells := 0, slots := 0, locals := 0 } : Room)) (by decide) (by decide) (by decide) (by decide) (k' := 1) (n' := 0) rfl rfl (by rw [hml]; rfl) [(.long q4), (.ref a1)] rfl (hb hby at_171) (pc' := 174) rfl (rm4_0 l Z a0 hw a1 q4 h2 n0  ([]) O3) ?_
    rintro _ h' ⟨rfl, eh⟩
    rw [eh]; clear eh h'
    show Own.Goes _ _ _ _ _ _ _ _ _ _ _ _ _ _ _ _ _ (mkF m 174 #[.val (.long q0), .second, .val (.long q1), .second, .val (.long q2), .second, .val (.long q3), .second, .val (.long q4), .second, .val (.int p5), .val (.int (0 : Int32)), .val (.long s0), .second, .val (.long s1), .second, .val (.long s2), .second, .val (.long f0), .second, .val (.long f1), .second, .val (.long f2), .second, .val (.ref a1), .unset, .unset] [(.int (fSR0 q4))])
    obtain ⟨got, h_got⟩ : ∃ z : Int32, z = (fSR0 q4) := ⟨_, rfl⟩
    refine Own.istore hx got h_got #[.val (.long q0), .second, .val (.long q1), .second, .val (.long q2), .second, .val (.long q3), .second, .val (.long q4), .second, .val (.int p5), .val (.int (0 : Int32)), .val (.long s0), .second, .val (.long s1), .second, .val (.long s2), .second, .val (.long f0), .second, .val (.long f1), .second, .val (.long f2), .second, .val (.ref a1), .val (.int got), .unset] (hb hby at_174) rfl rfl ?_
    refine Own.iload hx (0 : Int32) (hb hby at_176) rfl rfl ?_
    have hc10 : (0 : Int32) = (0 : Int32) := by decide
    refine Own.ifFn hx (Own.z_ne (0 : Int32)) (hb hby at_178) (pcN := 181) rfl (by decide) (pcT := 187) rfl (fun q => absurd hc10 q) (fun _ => ?_)
    refine Own.iconst hx (0 : Int32) (hb hby at_181) rfl (by decide) ?_
    refine Own.istore hx (0 : Int32) rfl #[.val (.long q0), .second, .val (.long q1), .second, .val (.long q2), .second, .val (.long q3), .second, .val (.long q4), .second, .val (.int p5), .val (.int (0 : Int32)), .val (.long s0), .second, .val (.long s1), .second, .val (.long s2), .second, .val (.long f0), .second, .val (.long f1), .second, .val (.long f2), .second, .val (.ref a1), .val (.int got), .val (.int (0 : Int32))] (hb hby at_182) rfl rfl ?_
    refine Own.goto hx (hb hby at_184) (by decide) (pc' := 257) rfl ?_
    refine Own.iload hx got (hb hby at_257) rfl rfl ?_
    refine Own.iload hx (0 : Int32) (hb hby at_259) rfl rfl ?_
    obtain ⟨z, h_z⟩ : ∃ z : Int32, z = (if got = (0 : Int32) then (1 : Int32) else (0 : Int32)) := ⟨_, rfl⟩
    refine Own.Goes.join (mkF m 269 #[.val (.long q0), .second, .val (.long q1), .second, .val (.long q2), .second, .val (.long q3), .second, .val (.long q4), .second, .val (.int p5), .val (.int (0 : Int32)), .val (.long s0), .second, .val (.long s1), .second, .val (.long s2), .second, .val (.long f0), .second, .val (.long f1), .second, .val (.long f2), .second, .val (.ref a1), .val (.int got), .val (.int (0 : Int32))] [(.int z)]) (fun kJ13 => ?_) ?_
    · refine Own.icmpFn hx (Own.q_ne got (0 : Int32)) (hb hby at_261) (pcN := 264) rfl (by decide) (pcT := 268) rfl (fun hc12 => ?_) (fun hc12 => ?_)
      · refine Own.iconst hx (0 : Int32) (hb hby at_268) rfl (by decide) ?_
        try simp only [if_neg hc12] at h_z
        subst h_z
        exact kJ13
      · refine Own.iconst hx (1 : Int32) (hb hby at_264) rfl (by decide) ?_
        refine Own.goto hx (hb hby at_265) (by decide) (pc' := 269) rfl ?_
        try simp only [if_pos hc12] at h_z
        subst h_z
        exact kJ13
    exact Own.retS hx hret (by simp) hlk (hb hby at_269) (by decide) (by decide) (Own.bool1 (own_fin0 h_got h_z))
  · subst q
    refine Own.lloadN hx q0 (hb hby at_6) rfl rfl ?_
    refine Own.lloadN hx q1 (hb hby at_7) rfl rfl ?_
    refine Own.callS hx hZ hown (hw _ (List.mem_of_getElem? (i := 0) rfl)) (hw _ (List.mem_of_getElem? (i := 1) rfl)) (hw _ (List.mem_of_getElem? (i := 2) rfl)) (hw _ (List.mem_of_getElem? (i := 3) rfl)) (by decide) pd0 (argsL := [(.long q0), (.long q1)]) (rest := []) rfl (W := 0) (Nat.le_of_eq rfl) (rm := ({ frames := 0, cells := 0, slots := 0, locals := 0 } : Room)) (by decide) (by decide) (by decide) (by decide) (k' := 0) (n' := 0) rfl rfl (by rw [hml]; rfl) [(.long q1), (.long q0)] rfl (hb hby at_8) (pc' := 11) rfl (rm1 l Z a0 hw q0 q1 h0 n0) ?_
    rintro _ h' ⟨rfl, eh⟩
    rw [eh]; clear eh h'
    show Own.Goes _ _ _ _ _ _ _ _ _ _ _ _ _ _ _ _ _ (mkF m 11 #[.val (.long q0), .second, .val (.long q1), .second, .val (.long q2), .second, .val (.long q3), .second, .val (.long q4), .second, .val (.int p5), .val (.int (1 : Int32)), .unset, .unset, .unset, .unset, .unset, .unset, .unset, .unset, .unset, .unset, .unset, .unset, .unset, .unset, .unset] [(.long (fMin q0 q1))])
    refine Own.lload hx q2 (hb hby at_11) rfl rfl ?_
    refine Own.callS hx hZ hown (hw _ (List.mem_of_getElem? (i := 0) rfl)) (hw _ (List.mem_of_getElem? (i := 1) rfl)) (hw _ (List.mem_of_getElem? (i := 2) rfl)) (hw _ (List.mem_of_getElem? (i := 3) rfl)) (by decide) pd0 (argsL := [(.long (fMin q0 q1)), (.long q2)]) (rest := []) rfl (W := 0) (Nat.le_of_eq rfl) (rm := ({ frames := 0, cells := 0, slots := 0, locals := 0 } : Room)) (by decide) (by decide) (by decide) (by decide) (k' := 0) (n' := 0) rfl rfl (by rw [hml]; rfl) [(.long q2), (.long (fMin q0 q1))] rfl (hb hby at_13) (pc' := 16) rfl (rm1 l Z a0 hw (fMin q0 q1) q2 h0 n0) ?_
    rintro _ h' ⟨rfl, eh⟩
    rw [eh]; clear eh h'
    show Own.Goes _ _ _ _ _ _ _ _ _ _ _ _ _ _ _ _ _ (mkF m 16 #[.val (.long q0), .second, .val (.long q1), .second, .val (.long q2), .second, .val (.long q3), .second, .val (.long q4), .second, .val (.int p5), .val (.int (1 : Int32)), .unset, .unset, .unset, .unset, .unset, .unset, .unset, .unset, .unset, .unset, .unset, .unset, .unset, .unset, .unset] [(.long (fMin (fMin q0 q1) q2))])
    obtain ⟨s0, h_s0⟩ : ∃ z : Int64, z = (fMin (fMin q0 q1) q2) := ⟨_, rfl⟩
    refine Own.lstore hx s0 h_s0 #[.val (.long q0), .second, .val (.long q1), .second, .val (.long q2), .second, .val (.long q3), .second, .val (.long q4), .second, .val (.int p5), .val (.int (1 : Int32)), .val (.long s0), .second, .unset, .unset, .unset, .unset, .unset, .unset, .unset, .unset, .unset, .unset, .unset, .unset, .unset] (hb hby at_16) rfl rfl ?_
    refine Own.lloadN hx q0 (hb hby at_18) rfl rfl ?_
    refine Own.lloadN hx q1 (hb hby at_19) rfl rfl ?_
    refine Own.callS hx hZ hown (hw _ (List.mem_of_getElem? (i := 0) rfl)) (hw _ (List.mem_of_getElem? (i := 1) rfl)) (hw _ (List.mem_of_getElem? (i := 2) rfl)) (hw _ (List.mem_of_getElem? (i := 3) rfl)) (by decide) pd0 (argsL := [(.long q0), (.long q1)]) (rest := []) rfl (W := 0) (Nat.le_of_eq rfl) (rm := ({ frames := 0, cells := 0, slots := 0, locals := 0 } : Room)) (by decide) (by decide) (by decide) (by decide) (k' := 0) (n' := 0) rfl rfl (by rw [hml]; rfl) [(.long q1), (.long q0)] rfl (hb hby at_20) (pc' := 23) rfl (rm1 l Z a0 hw q0 q1 h0 n0) ?_
    rintro _ h' ⟨rfl, eh⟩
    rw [eh]; clear eh h'
    show Own.Goes _ _ _ _ _ _ _ _ _ _ _ _ _ _ _ _ _ (mkF m 23 #[.val (.long q0), .second, .val (.long q1), .second, .val (.long q2), .second, .val (.long q3), .second, .val (.long q4), .second, .val (.int p5), .val (.int (1 : Int32)), .val (.long s0), .second, .unset, .unset, .unset, .unset, .unset, .unset, .unset, .unset, .unset, .unset, .unset, .unset, .unset] [(.long (fMin q0 q1))])
    refine Own.lloadN hx q0 (hb hby at_23) rfl rfl ?_
    refine Own.lloadN hx q1 (hb hby at_24) rfl rfl ?_
    refine Own.callS hx hZ hown (hw _ (List.mem_of_getElem? (i := 4) rfl)) (hw _ (List.mem_of_getElem? (i := 5) rfl)) (hw _ (List.mem_of_getElem? (i := 2) rfl)) (hw _ (List.mem_of_getElem? (i := 6) rfl)) (by decide) pd0 (argsL := [(.long q0), (.long q1)]) (rest := [(.long (fMin q0 q1))]) rfl (W := 2) (Nat.le_of_eq rfl) (rm := ({ frames := 0, cells := 0, slots := 0, locals := 0 } : Room)) (by decide) (by decide) (by decide) (by decide) (k' := 0) (n' := 0) rfl rfl (by rw [hml]; rfl) [(.long q1), (.long q0), (.long (fMin q0 q1))] rfl (hb hby at_25) (pc' := 28) rfl (rm2 l Z a0 hw q0 q1 h0 n0) ?_
    rintro _ h' ⟨rfl, eh⟩
    rw [eh]; clear eh h'
    show Own.Goes _ _ _ _ _ _ _ _ _ _ _ _ _ _ _ _ _ (mkF m 28 #[.val (.long q0), .second, .val (.long q1), .second, .val (.long q2), .second, .val (.long q3), .second, .val (.long q4), .second, .val (.int p5), .val (.int (1 : Int32)), .val (.long s0), .second, .unset, .unset, .unset, .unset, .unset, .unset, .unset, .unset, .unset, .unset, .unset, .unset, .unset] [(.long (fMaxL q0 q1)), (.long (fMin q0 q1))])
    refine Own.lload hx q2 (hb hby at_28) rfl rfl ?_
    refine Own.callS hx hZ hown (hw _ (List.mem_of_getElem? (i := 0) rfl)) (hw _ (List.mem_of_getElem? (i := 1) rfl)) (hw _ (List.mem_of_getElem? (i := 2) rfl)) (hw _ (List.mem_of_getElem? (i := 3) rfl)) (by decide) pd0 (argsL := [(.long (fMaxL q0 q1)), (.long q2)]) (rest := [(.long (fMin q0 q1))]) rfl (W := 2) (Nat.le_of_eq rfl) (rm := ({ frames := 0, cells := 0, slots := 0, locals := 0 } : Room)) (by decide) (by decide) (by decide) (by decide) (k' := 0) (n' := 0) rfl rfl (by rw [hml]; rfl) [(.long q2), (.long (fMaxL q0 q1)), (.long (fMin q0 q1))] rfl (hb hby at_30) (pc' := 33) rfl (rm1 l Z a0 hw (fMaxL q0 q1) q2 h0 n0) ?_
    rintro _ h' ⟨rfl, eh⟩
    rw [eh]; clear eh h'
    show Own.Goes _ _ _ _ _ _ _ _ _ _ _ _ _ _ _ _ _ (mkF m 33 #[.val (.long q0), .second, .val (.long q1), .second, .val (.long q2), .second, .val (.long q3), .second, .val (.long q4), .second, .val (.int p5), .val (.int (1 : Int32)), .val (.long s0), .second, .unset, .unset, .unset, .unset, .unset, .unset, .unset, .unset, .unset, .unset, .unset, .unset, .unset] [(.long (fMin (fMaxL q0 q1) q2)), (.long (fMin q0 q1))])
    refine Own.callS hx hZ hown (hw _ (List.mem_of_getElem? (i := 4) rfl)) (hw _ (List.mem_of_getElem? (i := 5) rfl)) (hw _ (List.mem_of_getElem? (i := 2) rfl)) (hw _ (List.mem_of_getElem? (i := 6) rfl)) (by decide) pd0 (argsL := [(.long (fMin q0 q1)), (.long (fMin (fMaxL q0 q1) q2))]) (rest := []) rfl (W := 0) (Nat.le_of_eq rfl) (rm := ({ frames := 0, cells := 0, slots := 0, locals := 0 } : Room)) (by decide) (by decide) (by decide) (by decide) (k' := 0) (n' := 0) rfl rfl (by rw [hml]; rfl) [(.long (fMin (fMaxL q0 q1) q2)), (.long (fMin q0 q1))] rfl (hb hby at_33) (pc' := 36) rfl (rm2 l Z a0 hw (fMin q0 q1) (fMin (fMaxL q0 q1) q2) h0 n0) ?_
    rintro _ h' ⟨rfl, eh⟩
    rw [eh]; clear eh h'
    show Own.Goes _ _ _ _ _ _ _ _ _ _ _ _ _ _ _ _ _ (mkF m 36 #[.val (.long q0), .second, .val (.long q1), .second, .val (.long q2), .second, .val (.long q3), .second, .val (.long q4), .second, .val (.int p5), .val (.int (1 : Int32)), .val (.long s0), .second, .unset, .unset, .unset, .unset, .unset, .unset, .unset, .unset, .unset, .unset, .unset, .unset, .unset] [(.long (fMaxL (fMin q0 q1) (fMin (fMaxL q0 q1) q2)))])
    obtain ⟨s1, h_s1⟩ : ∃ z : Int64, z = (fMaxL (fMin q0 q1) (fMin (fMaxL q0 q1) q2)) := ⟨_, rfl⟩
    refine Own.lstore hx s1 h_s1 #[.val (.long q0), .second, .val (.long q1), .second, .val (.long q2), .second, .val (.long q3), .second, .val (.long q4), .second, .val (.int p5), .val (.int (1 : Int32)), .val (.long s0), .second, .val (.long s1), .second, .unset, .unset, .unset, .unset, .unset, .unset, .unset, .unset, .unset, .unset, .unset] (hb hby at_36) rfl rfl ?_
    refine Own.lloadN hx q0 (hb hby at_38) rfl rfl ?_
    refine Own.lloadN hx q1 (hb hby at_39) rfl rfl ?_
    refine Own.callS hx hZ hown (hw _ (List.mem_of_getElem? (i := 4) rfl)) (hw _ (List.mem_of_getElem? (i := 5) rfl)) (hw _ (List.mem_of_getElem? (i := 2) rfl)) (hw _ (List.mem_of_getElem? (i := 6) rfl)) (by decide) pd0 (argsL := [(.long q0), (.long q1)]) (rest := []) rfl (W := 0) (Nat.le_of_eq rfl) (rm := ({ frames := 0, cells := 0, slots := 0, locals := 0 } : Room)) (by decide) (by decide) (by decide) (by decide) (k' := 0) (n' := 0) rfl rfl (by rw [hml]; rfl) [(.long q1), (.long q0)] rfl (hb hby at_40) (pc' := 43) rfl (rm2 l Z a0 hw q0 q1 h0 n0) ?_
    rintro _ h' ⟨rfl, eh⟩
    rw [eh]; clear eh h'
    show Own.Goes _ _ _ _ _ _ _ _ _ _ _ _ _ _ _ _ _ (mkF m 43 #[.val (.long q0), .second, .val (.long q1), .second, .val (.long q2), .second, .val (.long q3), .second, .val (.long q4), .second, .val (.int p5), .val (.int (1 : Int32)), .val (.long s0), .second, .val (.long s1), .second, .unset, .unset, .unset, .unset, .unset, .unset, .unset, .unset, .unset, .unset, .unset] [(.long (fMaxL q0 q1))])
    refine Own.lload hx q2 (hb hby at_43) rfl rfl ?_
    refine Own.callS hx hZ hown (hw _ (List.mem_of_getElem? (i := 4) rfl)) (hw _ (List.mem_of_getElem? (i := 5) rfl)) (hw _ (List.mem_of_getElem? (i := 2) rfl)) (hw _ (List.mem_of_getElem? (i := 6) rfl)) (by decide) pd0 (argsL := [(.long (fMaxL q0 q1)), (.long q2)]) (rest := []) rfl (W := 0) (Nat.le_of_eq rfl) (rm := ({ frames := 0, cells := 0, slots := 0, locals := 0 } : Room)) (by decide) (by decide) (by decide) (by decide) (k' := 0) (n' := 0) rfl rfl (by rw [hml]; rfl) [(.long q2), (.long (fMaxL q0 q1))] rfl (hb hby at_45) (pc' := 48) rfl (rm2 l Z a0 hw (fMaxL q0 q1) q2 h0 n0) ?_
    rintro _ h' ⟨rfl, eh⟩
    rw [eh]; clear eh h'
    show Own.Goes _ _ _ _ _ _ _ _ _ _ _ _ _ _ _ _ _ (mkF m 48 #[.val (.long q0), .second, .val (.long q1), .second, .val (.long q2), .second, .val (.long q3), .second, .val (.long q4), .second, .val (.int p5), .val (.int (1 : Int32)), .val (.long s0), .second, .val (.long s1), .second, .unset, .unset, .unset, .unset, .unset, .unset, .unset, .unset, .unset, .unset, .unset] [(.long (fMaxL (fMaxL q0 q1) q2))])
    obtain ⟨s2, h_s2⟩ : ∃ z : Int64, z = (fMaxL (fMaxL q0 q1) q2) := ⟨_, rfl⟩
    refine Own.lstore hx s2 h_s2 #[.val (.long q0), .second, .val (.long q1), .second, .val (.long q2), .second, .val (.long q3), .second, .val (.long q4), .second, .val (.int p5), .val (.int (1 : Int32)), .val (.long s0), .second, .val (.long s1), .second, .val (.long s2), .second, .unset, .unset, .unset, .unset, .unset, .unset, .unset, .unset, .unset] (hb hby at_48) rfl rfl ?_
    refine Own.lload hx s0 (hb hby at_50) rfl rfl ?_
    refine Own.lload hx q3 (hb hby at_52) rfl rfl ?_
    refine Own.ldc2 hx hZ hown (255 : Int64) (hb hby at_54) rfl (hw _ (List.mem_of_getElem? (i := 7) rfl)) ?_
    refine Own.land hx (hb hby at_57) rfl ?_
    refine Own.callS hx hZ hown (hw _ (List.mem_of_getElem? (i := 8) rfl)) (hw _ (List.mem_of_getElem? (i := 9) rfl)) (hw _ (List.mem_of_getElem? (i := 10) rfl)) (hw _ (List.mem_of_getElem? (i := 11) rfl)) (by decide) pd0 (argsL := [(.long s0), (.long (q3 &&& (255 : Int64)))]) (rest := []) rfl (W := 0) (Nat.le_of_eq rfl) (rm := ({ frames := 0, cells := 0, slots := 0, locals := 0 } : Room)) (by decide) (by decide) (by decide) (by decide) (k' := 0) (n' := 0) rfl rfl (by rw [hml]; rfl) [(.long (q3 &&& (255 : Int64))), (.long s0)] rfl (hb hby at_58) (pc' := 61) rfl (rm3 l Z a0 hw s0 (q3 &&& (255 : Int64)) h0 n0) ?_
    rintro _ h' ⟨rfl, eh⟩
    rw [eh]; clear eh h'
    show Own.Goes _ _ _ _ _ _ _ _ _ _ _ _ _ _ _ _ _ (mkF m 61 #[.val (.long q0), .second, .val (.long q1), .second, .val (.long q2), .second, .val (.long q3), .second, .val (.long q4), .second, .val (.int p5), .val (.int (1 : Int32)), .val (.long s0), .second, .val (.long s1), .second, .val (.long s2), .second, .unset, .unset, .unset, .unset, .unset, .unset, .unset, .unset, .unset] [(.long (fBelow s0 (q3 &&& (255 : Int64))))])
    obtain ⟨f0, h_f0⟩ : ∃ z : Int64, z = (fBelow s0 (q3 &&& (255 : Int64))) := ⟨_, rfl⟩
    refine Own.lstore hx f0 h_f0 #[.val (.long q0), .second, .val (.long q1), .second, .val (.long q2), .second, .val (.long q3), .second, .val (.long q4), .second, .val (.int p5), .val (.int (1 : Int32)), .val (.long s0), .second, .val (.long s1), .second, .val (.long s2), .second, .val (.long f0), .second, .unset, .unset, .unset, .unset, .unset, .unset, .unset] (hb hby at_61) rfl rfl ?_
    refine Own.lload hx s0 (hb hby at_63) rfl rfl ?_
    refine Own.lload hx s1 (hb hby at_65) rfl rfl ?_
    refine Own.lload hx q3 (hb hby at_67) rfl rfl ?_
    refine Own.bipush hx (8 : Int32) (hb hby at_69) rfl (by decide) ?_
    refine Own.lushr hx (hb hby at_71) rfl ?_
    refine Own.ldc2 hx hZ hown (255 : Int64) (hb hby at_72) rfl (hw _ (List.mem_of_getElem? (i := 7) rfl)) ?_
    refine Own.land hx (hb hby at_75) rfl ?_
    refine Own.callS hx hZ hown (hw _ (List.mem_of_getElem? (i := 8) rfl)) (hw _ (List.mem_of_getElem? (i := 9) rfl)) (hw _ (List.mem_of_getElem? (i := 10) rfl)) (hw _ (List.mem_of_getElem? (i := 11) rfl)) (by decide) pd0 (argsL := [(.long s1), (.long ((q3.toUInt64 >>> ((8 : Int32) &&& 0x3f).toInt64.toUInt64).toInt64 &&& (255 : Int64)))]) (rest := [(.long s0)]) rfl (W := 2) (Nat.le_of_eq rfl) (rm := ({ frames := 0, cells := 0, slots := 0, locals := 0 } : Room)) (by decide) (by decide) (by decide) (by decide) (k' := 0) (n' := 0) rfl rfl (by rw [hml]; rfl) [(.long ((q3.toUInt64 >>> ((8 : Int32) &&& 0x3f).toInt64.toUInt64).toInt64 &&& (255 : Int64))), (.long s1), (.long s0)] rfl (hb hby at_76) (pc' := 79) rfl (rm3 l Z a0 hw s1 ((q3.toUInt64 >>> ((8 : Int32) &&& 0x3f).toInt64.toUInt64).toInt64 &&& (255 : Int64)) h0 n0) ?_
    rintro _ h' ⟨rfl, eh⟩
    rw [eh]; clear eh h'
    show Own.Goes _ _ _ _ _ _ _ _ _ _ _ _ _ _ _ _ _ (mkF m 79 #[.val (.long q0), .second, .val (.long q1), .second, .val (.long q2), .second, .val (.long q3), .second, .val (.long q4), .second, .val (.int p5), .val (.int (1 : Int32)), .val (.long s0), .second, .val (.long s1), .second, .val (.long s2), .second, .val (.long f0), .second, .unset, .unset, .unset, .unset, .unset, .unset, .unset] [(.long (fBelow s1 ((q3.toUInt64 >>> ((8 : Int32) &&& 0x3f).toInt64.toUInt64).toInt64 &&& (255 : Int64)))), (.long s0)])
    refine Own.callS hx hZ hown (hw _ (List.mem_of_getElem? (i := 4) rfl)) (hw _ (List.mem_of_getElem? (i := 5) rfl)) (hw _ (List.mem_of_getElem? (i := 2) rfl)) (hw _ (List.mem_of_getElem? (i := 6) rfl)) (by decide) pd0 (argsL := [(.long s0), (.long (fBelow s1 ((q3.toUInt64 >>> ((8 : Int32) &&& 0x3f).toInt64.toUInt64).toInt64 &&& (255 : Int64))))]) (rest := []) rfl (W := 0) (Nat.le_of_eq rfl) (rm := ({ frames := 0, cells := 0, slots := 0, locals := 0 } : Room)) (by decide) (by decide) (by decide) (by decide) (k' := 0) (n' := 0) rfl rfl (by rw [hml]; rfl) [(.long (fBelow s1 ((q3.toUInt64 >>> ((8 : Int32) &&& 0x3f).toInt64.toUInt64).toInt64 &&& (255 : Int64)))), (.long s0)] rfl (hb hby at_79) (pc' := 82) rfl (rm2 l Z a0 hw s0 (fBelow s1 ((q3.toUInt64 >>> ((8 : Int32) &&& 0x3f).toInt64.toUInt64).toInt64 &&& (255 : Int64))) h0 n0) ?_
    rintro _ h' ⟨rfl, eh⟩
    rw [eh]; clear eh h'
    show Own.Goes _ _ _ _ _ _ _ _ _ _ _ _ _ _ _ _ _ (mkF m 82 #[.val (.long q0), .second, .val (.long q1), .second, .val (.long q2), .second, .val (.long q3), .second, .val (.long q4), .second, .val (.int p5), .val (.int (1 : Int32)), .val (.long s0), .second, .val (.long s1), .second, .val (.long s2), .second, .val (.long f0), .second, .unset, .unset, .unset, .unset, .unset, .unset, .unset] [(.long (fMaxL s0 (fBelow s1 ((q3.toUInt64 >>> ((8 : Int32) &&& 0x3f).toInt64.toUInt64).toInt64 &&& (255 : Int64)))))])
    obtain ⟨f1, h_f1⟩ : ∃ z : Int64, z = (fMaxL s0 (fBelow s1 ((q3.toUInt64 >>> ((8 : Int32) &&& 0x3f).toInt64.toUInt64).toInt64 &&& (255 : Int64)))) := ⟨_, rfl⟩
    refine Own.lstore hx f1 h_f1 #[.val (.long q0), .second, .val (.long q1), .second, .val (.long q2), .second, .val (.long q3), .second, .val (.long q4), .second, .val (.int p5), .val (.int (1 : Int32)), .val (.long s0), .second, .val (.long s1), .second, .val (.long s2), .second, .val (.long f0), .second, .val (.long f1), .second, .unset, .unset, .unset, .unset, .unset] (hb hby at_82) rfl rfl ?_
    refine Own.lload hx s1 (hb hby at_84) rfl rfl ?_
    refine Own.lload hx s2 (hb hby at_86) rfl rfl ?_
    refine Own.lload hx q3 (hb hby at_88) rfl rfl ?_
    refine Own.bipush hx (16 : Int32) (hb hby at_90) rfl (by decide) ?_
    refine Own.lushr hx (hb hby at_92) rfl ?_
    refine Own.ldc2 hx hZ hown (255 : Int64) (hb hby at_93) rfl (hw _ (List.mem_of_getElem? (i := 7) rfl)) ?_
    refine Own.land hx (hb hby at_96) rfl ?_
    refine Own.callS hx hZ hown (hw _ (List.mem_of_getElem? (i := 8) rfl)) (hw _ (List.mem_of_getElem? (i := 9) rfl)) (hw _ (List.mem_of_getElem? (i := 10) rfl)) (hw _ (List.mem_of_getElem? (i := 11) rfl)) (by decide) pd0 (argsL := [(.long s2), (.long ((q3.toUInt64 >>> ((16 : Int32) &&& 0x3f).toInt64.toUInt64).toInt64 &&& (255 : Int64)))]) (rest := [(.long s1)]) rfl (W := 2) (Nat.le_of_eq rfl) (rm := ({ frames := 0, cells := 0, slots := 0, locals := 0 } : Room)) (by decide) (by decide) (by decide) (by decide) (k' := 0) (n' := 0) rfl rfl (by rw [hml]; rfl) [(.long ((q3.toUInt64 >>> ((16 : Int32) &&& 0x3f).toInt64.toUInt64).toInt64 &&& (255 : Int64))), (.long s2), (.long s1)] rfl (hb hby at_97) (pc' := 100) rfl (rm3 l Z a0 hw s2 ((q3.toUInt64 >>> ((16 : Int32) &&& 0x3f).toInt64.toUInt64).toInt64 &&& (255 : Int64)) h0 n0) ?_
    rintro _ h' ⟨rfl, eh⟩
    rw [eh]; clear eh h'
    show Own.Goes _ _ _ _ _ _ _ _ _ _ _ _ _ _ _ _ _ (mkF m 100 #[.val (.long q0), .second, .val (.long q1), .second, .val (.long q2), .second, .val (.long q3), .second, .val (.long q4), .second, .val (.int p5), .val (.int (1 : Int32)), .val (.long s0), .second, .val (.long s1), .second, .val (.long s2), .second, .val (.long f0), .second, .val (.long f1), .second, .unset, .unset, .unset, .unset, .unset] [(.long (fBelow s2 ((q3.toUInt64 >>> ((16 : Int32) &&& 0x3f).toInt64.toUInt64).toInt64 &&& (255 : Int64)))), (.long s1)])
    refine Own.callS hx hZ hown (hw _ (List.mem_of_getElem? (i := 4) rfl)) (hw _ (List.mem_of_getElem? (i := 5) rfl)) (hw _ (List.mem_of_getElem? (i := 2) rfl)) (hw _ (List.mem_of_getElem? (i := 6) rfl)) (by decide) pd0 (argsL := [(.long s1), (.long (fBelow s2 ((q3.toUInt64 >>> ((16 : Int32) &&& 0x3f).toInt64.toUInt64).toInt64 &&& (255 : Int64))))]) (rest := []) rfl (W := 0) (Nat.le_of_eq rfl) (rm := ({ frames := 0, cells := 0, slots := 0, locals := 0 } : Room)) (by decide) (by decide) (by decide) (by decide) (k' := 0) (n' := 0) rfl rfl (by rw [hml]; rfl) [(.long (fBelow s2 ((q3.toUInt64 >>> ((16 : Int32) &&& 0x3f).toInt64.toUInt64).toInt64 &&& (255 : Int64)))), (.long s1)] rfl (hb hby at_100) (pc' := 103) rfl (rm2 l Z a0 hw s1 (fBelow s2 ((q3.toUInt64 >>> ((16 : Int32) &&& 0x3f).toInt64.toUInt64).toInt64 &&& (255 : Int64))) h0 n0) ?_
    rintro _ h' ⟨rfl, eh⟩
    rw [eh]; clear eh h'
    show Own.Goes _ _ _ _ _ _ _ _ _ _ _ _ _ _ _ _ _ (mkF m 103 #[.val (.long q0), .second, .val (.long q1), .second, .val (.long q2), .second, .val (.long q3), .second, .val (.long q4), .second, .val (.int p5), .val (.int (1 : Int32)), .val (.long s0), .second, .val (.long s1), .second, .val (.long s2), .second, .val (.long f0), .second, .val (.long f1), .second, .unset, .unset, .unset, .unset, .unset] [(.long (fMaxL s1 (fBelow s2 ((q3.toUInt64 >>> ((16 : Int32) &&& 0x3f).toInt64.toUInt64).toInt64 &&& (255 : Int64)))))])
    obtain ⟨f2, h_f2⟩ : ∃ z : Int64, z = (fMaxL s1 (fBelow s2 ((q3.toUInt64 >>> ((16 : Int32) &&& 0x3f).toInt64.toUInt64).toInt64 &&& (255 : Int64)))) := ⟨_, rfl⟩
    refine Own.lstore hx f2 h_f2 #[.val (.long q0), .second, .val (.long q1), .second, .val (.long q2), .second, .val (.long q3), .second, .val (.long q4), .second, .val (.int p5), .val (.int (1 : Int32)), .val (.long s0), .second, .val (.long s1), .second, .val (.long s2), .second, .val (.long f0), .second, .val (.long f1), .second, .val (.long f2), .second, .unset, .unset, .unset] (hb hby at_103) rfl rfl ?_
    refine Own.iconst hx (2 : Int32) (hb hby at_105) rfl (by decide) ?_
    refine Own.iload hx (1 : Int32) (hb hby at_106) rfl rfl ?_
    refine Own.imul hx (hb hby at_108) rfl ?_
    refine Own.vI (2 : Int32) (by decide) ?_
    refine Own.newarr hx hZ O0 (aty := .long) (hw _ (List.mem_of_getElem? (i := 13) rfl)) 2 (by decide) [(.long (0 : Int64)), (.long (0 : Int64))] rfl rfl (cap := 2) (by decide) (by decide) (k' := 1) (n' := 2) rfl rfl (by decide) (by decide) (hb hby at_109) (pc' := 111) rfl ?_
    intro a14 h15 O16
    refine Own.astore hx #[.val (.long q0), .second, .val (.long q1), .second, .val (.long q2), .second, .val (.long q3), .second, .val (.long q4), .second, .val (.int p5), .val (.int (1 : Int32)), .val (.long s0), .second, .val (.long s1), .second, .val (.long s2), .second, .val (.long f0), .second, .val (.long f1), .second, .val (.long f2), .second, .val (.ref a14), .unset, .unset] (hb hby at_111) rfl rfl rfl ?_
    refine Own.iload hx (1 : Int32) (hb hby at_113) rfl rfl ?_
    refine Own.iconst hx (1 : Int32) (hb hby at_115) rfl (by decide) ?_
    have hc17 : ¬ ((1 : Int32) < (1 : Int32)) := by decide
    refine Own.icmpF hx (Own.q_lt (1 : Int32) (1 : Int32)) (hb hby at_116) (pcN := 119) rfl (by decide) (pcT := 131) rfl (fun q => absurd q hc17) (fun _ => ?_)
    refine Own.aload hx (.ref a14) (hb hby at_119) rfl rfl rfl ?_
    refine Own.iconst hx (0 : Int32) (hb hby at_121) rfl (by decide) ?_
    refine Own.lload hx f0 (hb hby at_122) rfl rfl ?_
    refine Own.lastore hx hZ O16 0 0 rfl (by decide) (by exact (show 0 < 2 by decide)) ((a14, Own.ArrC Z .long [(.long f0), (.long (0 : Int64))]) :: []) rfl (hb hby at_124) rfl ?_
    intro h19 O20
    refine Own.aload hx (.ref a14) (hb hby at_125) rfl rfl rfl ?_
    refine Own.iconst hx (1 : Int32) (hb hby at_127) rfl (by decide) ?_
    refine Own.lload hx s0 (hb hby at_128) rfl rfl ?_
    refine Own.lastore hx hZ O20 0 1 rfl (by decide) (by exact (show 1 < 2 by decide)) ((a14, Own.ArrC Z .long [(.long f0), (.long s0)]) :: []) rfl (hb hby at_130) rfl ?_
    intro h21 O22
    refine Own.iload hx (1 : Int32) (hb hby at_131) rfl rfl ?_
    refine Own.iconst hx (2 : Int32) (hb hby at_133) rfl (by decide) ?_
    have hc23 : (1 : Int32) < (2 : Int32) := by decide
    refine Own.icmpF hx (Own.q_lt (1 : Int32) (2 : Int32)) (hb hby at_134) (pcN := 137) rfl (by decide) (pcT := 149) rfl (fun _ => ?_) (fun q => absurd hc23 q)
    refine Own.iload hx (1 : Int32) (hb hby at_149) rfl rfl ?_
    refine Own.iconst hx (3 : Int32) (hb hby at_151) rfl (by decide) ?_
    have hc25 : (1 : Int32) < (3 : Int32) := by decide
    refine Own.icmpF hx (Own.q_lt (1 : Int32) (3 : Int32)) (hb hby at_152) (pcN := 155) rfl (by decide) (pcT := 167) rfl (fun _ => ?_) (fun q => absurd hc25 q)
    refine Own.aload hx (.ref a14) (hb hby at_167) rfl rfl rfl ?_
    refine Own.lload hx q4 (hb hby at_169) rfl rfl ?_
    refine Own.callS hx hZ hown (hw _ (List.mem_of_getElem? (i := 14) rfl)) (hw _ (List.mem_of_getElem? (i := 15) rfl)) (hw _ (List.mem_of_getElem? (i := 16) rfl)) (hw _ (List.mem_of_getElem? (i := 17) rfl)) (by decide) pd1 (argsL := [(.ref a14), (.long q4)]) (rest := []) rfl (W := 0) (Nat.le_of_eq rfl) (rm := ({ frames := 0, cells := 0, slots := 0, locals := 0 } : Room)) (by decide) (by decide) (by decide) (by decide) (k' := 1) (n' := 2) rfl rfl (by rw [hml]; rfl) [(.long q4), (.ref a14)] rfl (hb hby at_171) (pc' := 174) rfl (rm4_1 l Z a0 hw a14 q4 h21 n0 f0 s0 ([]) O22) ?_
    rintro _ h' ⟨rfl, eh⟩
    rw [eh]; clear eh h'
    show Own.Goes _ _ _ _ _ _ _ _ _ _ _ _ _ _ _ _ _ (mkF m 174 #[.val (.long q0), .second, .val (.long q1), .second, .val (.long q2), .second, .val (.long q3), .second, .val (.long q4), .second, .val (.int p5), .val (.int (1 : Int32)), .val (.long s0), .second, .val (.long s1), .second, .val (.long s2), .second, .val (.long f0), .second, .val (.long f1), .second, .val (.long f2), .second, .val (.ref a14), .unset, .unset] [(.int (fSR1 s0 q4))])
    obtain ⟨got, h_got⟩ : ∃ z : Int32, z = (fSR1 s0 q4) := ⟨_, rfl⟩
    refine Own.istore hx got h_got #[.val (.long q0), .second, .val (.long q1), .second, .val (.long q2), .second, .val (.long q3), .second, .val (.long q4), .second, .val (.int p5), .val (.int (1 : Int32)), .val (.long s0), .second, .val (.long s1), .second, .val (.long s2), .second, .val (.long f0), .second, .val (.long f1), .second, .val (.long f2), .second, .val (.ref a14), .val (.int got), .unset] (hb hby at_174) rfl rfl ?_
    refine Own.iload hx (1 : Int32) (hb hby at_176) rfl rfl ?_
    have hc27 : ¬ ((1 : Int32) = (0 : Int32)) := by decide
    refine Own.ifFn hx (Own.z_ne (1 : Int32)) (hb hby at_178) (pcN := 181) rfl (by decide) (pcT := 187) rfl (fun _ => ?_) (fun q => absurd q hc27)
    refine Own.lload hx s0 (hb hby at_187) rfl rfl ?_
    refine Own.lload hx q4 (hb hby at_189) rfl rfl ?_
    refine Own.lcmp hx (hb hby at_191) rfl ?_
    obtain ⟨ex, h_ex⟩ : ∃ z : Int32, z = (if s0 < q4 then (2 : Int32) else (0 : Int32)) := ⟨_, rfl⟩
    refine Own.Goes.join (mkF m 257 #[.val (.long q0), .second, .val (.long q1), .second, .val (.long q2), .second, .val (.long q3), .second, .val (.long q4), .second, .val (.int p5), .val (.int (1 : Int32)), .val (.long s0), .second, .val (.long s1), .second, .val (.long s2), .second, .val (.long f0), .second, .val (.long f1), .second, .val (.long f2), .second, .val (.ref a14), .val (.int got), .val (.int ex)] []) (fun kJ32 => ?_) ?_
    · refine Own.ifF hx (Own.w_lt s0 q4) (hb hby at_192) (pcN := 195) rfl (by decide) (pcT := 201) rfl (fun hc29 => ?_) (fun hc29 => ?_)
      · refine Own.iload hx (1 : Int32) (hb hby at_201) rfl rfl ?_
        refine Own.iconst hx (1 : Int32) (hb hby at_203) rfl (by decide) ?_
        have hc33 : (1 : Int32) = (1 : Int32) := by decide
        refine Own.icmpFn hx (Own.q_ne (1 : Int32) (1 : Int32)) (hb hby at_204) (pcN := 207) rfl (by decide) (pcT := 213) rfl (fun q => absurd hc33 q) (fun _ => ?_)
        refine Own.iconst hx (2 : Int32) (hb hby at_207) rfl (by decide) ?_
        refine Own.istore hx (2 : Int32) rfl #[.val (.long q0), .second, .val (.long q1), .second, .val (.long q2), .second, .val (.long q3), .second, .val (.long q4), .second, .val (.int p5), .val (.int (1 : Int32)), .val (.long s0), .second, .val (.long s1), .second, .val (.long s2), .second, .val (.long f0), .second, .val (.long f1), .second, .val (.long f2), .second, .val (.ref a14), .val (.int got), .val (.int (2 : Int32))] (hb hby at_208) rfl rfl ?_
        refine Own.goto hx (hb hby at_210) (by decide) (pc' := 257) rfl ?_
        try simp only [if_pos hc29] at h_ex
        subst h_ex
        exact kJ32
      · refine Own.iconst hx (0 : Int32) (hb hby at_195) rfl (by decide) ?_
        refine Own.istore hx (0 : Int32) rfl #[.val (.long q0), .second, .val (.long q1), .second, .val (.long q2), .second, .val (.long q3), .second, .val (.long q4), .second, .val (.int p5), .val (.int (1 : Int32)), .val (.long s0), .second, .val (.long s1), .second, .val (.long s2), .second, .val (.long f0), .second, .val (.long f1), .second, .val (.long f2), .second, .val (.ref a14), .val (.int got), .val (.int (0 : Int32))] (hb hby at_196) rfl rfl ?_
        refine Own.goto hx (hb hby at_198) (by decide) (pc' := 257) rfl ?_
        try simp only [if_neg hc29] at h_ex
        subst h_ex
        exact kJ32
    refine Own.iload hx got (hb hby at_257) rfl rfl ?_
    refine Own.iload hx ex (hb hby at_259) rfl rfl ?_
    obtain ⟨z, h_z⟩ : ∃ z : Int32, z = (if got = ex then (1 : Int32) else (0 : Int32)) := ⟨_, rfl⟩
    refine Own.Goes.join (mkF m 269 #[.val (.long q0), .second, .val (.long q1), .second, .val (.long q2), .second, .val (.long q3), .second, .val (.long q4), .second, .val (.int p5), .val (.int (1 : Int32)), .val (.long s0), .second, .val (.long s1), .second, .val (.long s2), .second, .val (.long f0), .second, .val (.long f1), .second, .val (.long f2), .second, .val (.ref a14), .val (.int got), .val (.int ex)] [(.int z)]) (fun kJ36 => ?_) ?_
    · refine Own.icmpFn hx (Own.q_ne got ex) (hb hby at_261) (pcN := 264) rfl (by decide) (pcT := 268) rfl (fun hc35 => ?_) (fun hc35 => ?_)
      · refine Own.iconst hx (0 : Int32) (hb hby at_268) rfl (by decide) ?_
        try simp only [if_neg hc35] at h_z
        subst h_z
        exact kJ36
      · refine Own.iconst hx (1 : Int32) (hb hby at_264) rfl (by decide) ?_
        refine Own.goto hx (hb hby at_265) (by decide) (pc' := 269) rfl ?_
        try simp only [if_pos hc35] at h_z
        subst h_z
        exact kJ36
    exact Own.retS hx hret (by simp) hlk (hb hby at_269) (by decide) (by decide) (Own.bool1 (own_fin1 h_got h_ex h_z))
  · subst q
    refine Own.lloadN hx q0 (hb hby at_6) rfl rfl ?_
    refine Own.lloadN hx q1 (hb hby at_7) rfl rfl ?_
    refine Own.callS hx hZ hown (hw _ (List.mem_of_getElem? (i := 0) rfl)) (hw _ (List.mem_of_getElem? (i := 1) rfl)) (hw _ (List.mem_of_getElem? (i := 2) rfl)) (hw _ (List.mem_of_getElem? (i := 3) rfl)) (by decide) pd0 (argsL := [(.long q0), (.long q1)]) (rest := []) rfl (W := 0) (Nat.le_of_eq rfl) (rm := ({ frames := 0, cells := 0, slots := 0, locals := 0 } : Room)) (by decide) (by decide) (by decide) (by decide) (k' := 0) (n' := 0) rfl rfl (by rw [hml]; rfl) [(.long q1), (.long q0)] rfl (hb hby at_8) (pc' := 11) rfl (rm1 l Z a0 hw q0 q1 h0 n0) ?_
    rintro _ h' ⟨rfl, eh⟩
    rw [eh]; clear eh h'
    show Own.Goes _ _ _ _ _ _ _ _ _ _ _ _ _ _ _ _ _ (mkF m 11 #[.val (.long q0), .second, .val (.long q1), .second, .val (.long q2), .second, .val (.long q3), .second, .val (.long q4), .second, .val (.int p5), .val (.int (2 : Int32)), .unset, .unset, .unset, .unset, .unset, .unset, .unset, .unset, .unset, .unset, .unset, .unset, .unset, .unset, .unset] [(.long (fMin q0 q1))])
    refine Own.lload hx q2 (hb hby at_11) rfl rfl ?_
    refine Own.callS hx hZ hown (hw _ (List.mem_of_getElem? (i := 0) rfl)) (hw _ (List.mem_of_getElem? (i := 1) rfl)) (hw _ (List.mem_of_getElem? (i := 2) rfl)) (hw _ (List.mem_of_getElem? (i := 3) rfl)) (by decide) pd0 (argsL := [(.long (fMin q0 q1)), (.long q2)]) (rest := []) rfl (W := 0) (Nat.le_of_eq rfl) (rm := ({ frames := 0, cells := 0, slots := 0, locals := 0 } : Room)) (by decide) (by decide) (by decide) (by decide) (k' := 0) (n' := 0) rfl rfl (by rw [hml]; rfl) [(.long q2), (.long (fMin q0 q1))] rfl (hb hby at_13) (pc' := 16) rfl (rm1 l Z a0 hw (fMin q0 q1) q2 h0 n0) ?_
    rintro _ h' ⟨rfl, eh⟩
    rw [eh]; clear eh h'
    show Own.Goes _ _ _ _ _ _ _ _ _ _ _ _ _ _ _ _ _ (mkF m 16 #[.val (.long q0), .second, .val (.long q1), .second, .val (.long q2), .second, .val (.long q3), .second, .val (.long q4), .second, .val (.int p5), .val (.int (2 : Int32)), .unset, .unset, .unset, .unset, .unset, .unset, .unset, .unset, .unset, .unset, .unset, .unset, .unset, .unset, .unset] [(.long (fMin (fMin q0 q1) q2))])
    obtain ⟨s0, h_s0⟩ : ∃ z : Int64, z = (fMin (fMin q0 q1) q2) := ⟨_, rfl⟩
    refine Own.lstore hx s0 h_s0 #[.val (.long q0), .second, .val (.long q1), .second, .val (.long q2), .second, .val (.long q3), .second, .val (.long q4), .second, .val (.int p5), .val (.int (2 : Int32)), .val (.long s0), .second, .unset, .unset, .unset, .unset, .unset, .unset, .unset, .unset, .unset, .unset, .unset, .unset, .unset] (hb hby at_16) rfl rfl ?_
    refine Own.lloadN hx q0 (hb hby at_18) rfl rfl ?_
    refine Own.lloadN hx q1 (hb hby at_19) rfl rfl ?_
    refine Own.callS hx hZ hown (hw _ (List.mem_of_getElem? (i := 0) rfl)) (hw _ (List.mem_of_getElem? (i := 1) rfl)) (hw _ (List.mem_of_getElem? (i := 2) rfl)) (hw _ (List.mem_of_getElem? (i := 3) rfl)) (by decide) pd0 (argsL := [(.long q0), (.long q1)]) (rest := []) rfl (W := 0) (Nat.le_of_eq rfl) (rm := ({ frames := 0, cells := 0, slots := 0, locals := 0 } : Room)) (by decide) (by decide) (by decide) (by decide) (k' := 0) (n' := 0) rfl rfl (by rw [hml]; rfl) [(.long q1), (.long q0)] rfl (hb hby at_20) (pc' := 23) rfl (rm1 l Z a0 hw q0 q1 h0 n0) ?_
    rintro _ h' ⟨rfl, eh⟩
    rw [eh]; clear eh h'
    show Own.Goes _ _ _ _ _ _ _ _ _ _ _ _ _ _ _ _ _ (mkF m 23 #[.val (.long q0), .second, .val (.long q1), .second, .val (.long q2), .second, .val (.long q3), .second, .val (.long q4), .second, .val (.int p5), .val (.int (2 : Int32)), .val (.long s0), .second, .unset, .unset, .unset, .unset, .unset, .unset, .unset, .unset, .unset, .unset, .unset, .unset, .unset] [(.long (fMin q0 q1))])
    refine Own.lloadN hx q0 (hb hby at_23) rfl rfl ?_
    refine Own.lloadN hx q1 (hb hby at_24) rfl rfl ?_
    refine Own.callS hx hZ hown (hw _ (List.mem_of_getElem? (i := 4) rfl)) (hw _ (List.mem_of_getElem? (i := 5) rfl)) (hw _ (List.mem_of_getElem? (i := 2) rfl)) (hw _ (List.mem_of_getElem? (i := 6) rfl)) (by decide) pd0 (argsL := [(.long q0), (.long q1)]) (rest := [(.long (fMin q0 q1))]) rfl (W := 2) (Nat.le_of_eq rfl) (rm := ({ frames := 0, cells := 0, slots := 0, locals := 0 } : Room)) (by decide) (by decide) (by decide) (by decide) (k' := 0) (n' := 0) rfl rfl (by rw [hml]; rfl) [(.long q1), (.long q0), (.long (fMin q0 q1))] rfl (hb hby at_25) (pc' := 28) rfl (rm2 l Z a0 hw q0 q1 h0 n0) ?_
    rintro _ h' ⟨rfl, eh⟩
    rw [eh]; clear eh h'
    show Own.Goes _ _ _ _ _ _ _ _ _ _ _ _ _ _ _ _ _ (mkF m 28 #[.val (.long q0), .second, .val (.long q1), .second, .val (.long q2), .second, .val (.long q3), .second, .val (.long q4), .second, .val (.int p5), .val (.int (2 : Int32)), .val (.long s0), .second, .unset, .unset, .unset, .unset, .unset, .unset, .unset, .unset, .unset, .unset, .unset, .unset, .unset] [(.long (fMaxL q0 q1)), (.long (fMin q0 q1))])
    refine Own.lload hx q2 (hb hby at_28) rfl rfl ?_
    refine Own.callS hx hZ hown (hw _ (List.mem_of_getElem? (i := 0) rfl)) (hw _ (List.mem_of_getElem? (i := 1) rfl)) (hw _ (List.mem_of_getElem? (i := 2) rfl)) (hw _ (List.mem_of_getElem? (i := 3) rfl)) (by decide) pd0 (argsL := [(.long (fMaxL q0 q1)), (.long q2)]) (rest := [(.long (fMin q0 q1))]) rfl (W := 2) (Nat.le_of_eq rfl) (rm := ({ frames := 0, cells := 0, slots := 0, locals := 0 } : Room)) (by decide) (by decide) (by decide) (by decide) (k' := 0) (n' := 0) rfl rfl (by rw [hml]; rfl) [(.long q2), (.long (fMaxL q0 q1)), (.long (fMin q0 q1))] rfl (hb hby at_30) (pc' := 33) rfl (rm1 l Z a0 hw (fMaxL q0 q1) q2 h0 n0) ?_
    rintro _ h' ⟨rfl, eh⟩
    rw [eh]; clear eh h'
    show Own.Goes _ _ _ _ _ _ _ _ _ _ _ _ _ _ _ _ _ (mkF m 33 #[.val (.long q0), .second, .val (.long q1), .second, .val (.long q2), .second, .val (.long q3), .second, .val (.long q4), .second, .val (.int p5), .val (.int (2 : Int32)), .val (.long s0), .second, .unset, .unset, .unset, .unset, .unset, .unset, .unset, .unset, .unset, .unset, .unset, .unset, .unset] [(.long (fMin (fMaxL q0 q1) q2)), (.long (fMin q0 q1))])
    refine Own.callS hx hZ hown (hw _ (List.mem_of_getElem? (i := 4) rfl)) (hw _ (List.mem_of_getElem? (i := 5) rfl)) (hw _ (List.mem_of_getElem? (i := 2) rfl)) (hw _ (List.mem_of_getElem? (i := 6) rfl)) (by decide) pd0 (argsL := [(.long (fMin q0 q1)), (.long (fMin (fMaxL q0 q1) q2))]) (rest := []) rfl (W := 0) (Nat.le_of_eq rfl) (rm := ({ frames := 0, cells := 0, slots := 0, locals := 0 } : Room)) (by decide) (by decide) (by decide) (by decide) (k' := 0) (n' := 0) rfl rfl (by rw [hml]; rfl) [(.long (fMin (fMaxL q0 q1) q2)), (.long (fMin q0 q1))] rfl (hb hby at_33) (pc' := 36) rfl (rm2 l Z a0 hw (fMin q0 q1) (fMin (fMaxL q0 q1) q2) h0 n0) ?_
    rintro _ h' ⟨rfl, eh⟩
    rw [eh]; clear eh h'
    show Own.Goes _ _ _ _ _ _ _ _ _ _ _ _ _ _ _ _ _ (mkF m 36 #[.val (.long q0), .second, .val (.long q1), .second, .val (.long q2), .second, .val (.long q3), .second, .val (.long q4), .second, .val (.int p5), .val (.int (2 : Int32)), .val (.long s0), .second, .unset, .unset, .unset, .unset, .unset, .unset, .unset, .unset, .unset, .unset, .unset, .unset, .unset] [(.long (fMaxL (fMin q0 q1) (fMin (fMaxL q0 q1) q2)))])
    obtain ⟨s1, h_s1⟩ : ∃ z : Int64, z = (fMaxL (fMin q0 q1) (fMin (fMaxL q0 q1) q2)) := ⟨_, rfl⟩
    refine Own.lstore hx s1 h_s1 #[.val (.long q0), .second, .val (.long q1), .second, .val (.long q2), .second, .val (.long q3), .second, .val (.long q4), .second, .val (.int p5), .val (.int (2 : Int32)), .val (.long s0), .second, .val (.long s1), .second, .unset, .unset, .unset, .unset, .unset, .unset, .unset, .unset, .unset, .unset, .unset] (hb hby at_36) rfl rfl ?_
    refine Own.lloadN hx q0 (hb hby at_38) rfl rfl ?_
    refine Own.lloadN hx q1 (hb hby at_39) rfl rfl ?_
    refine Own.callS hx hZ hown (hw _ (List.mem_of_getElem? (i := 4) rfl)) (hw _ (List.mem_of_getElem? (i := 5) rfl)) (hw _ (List.mem_of_getElem? (i := 2) rfl)) (hw _ (List.mem_of_getElem? (i := 6) rfl)) (by decide) pd0 (argsL := [(.long q0), (.long q1)]) (rest := []) rfl (W := 0) (Nat.le_of_eq rfl) (rm := ({ frames := 0, cells := 0, slots := 0, locals := 0 } : Room)) (by decide) (by decide) (by decide) (by decide) (k' := 0) (n' := 0) rfl rfl (by rw [hml]; rfl) [(.long q1), (.long q0)] rfl (hb hby at_40) (pc' := 43) rfl (rm2 l Z a0 hw q0 q1 h0 n0) ?_
    rintro _ h' ⟨rfl, eh⟩
    rw [eh]; clear eh h'
    show Own.Goes _ _ _ _ _ _ _ _ _ _ _ _ _ _ _ _ _ (mkF m 43 #[.val (.long q0), .second, .val (.long q1), .second, .val (.long q2), .second, .val (.long q3), .second, .val (.long q4), .second, .val (.int p5), .val (.int (2 : Int32)), .val (.long s0), .second, .val (.long s1), .second, .unset, .unset, .unset, .unset, .unset, .unset, .unset, .unset, .unset, .unset, .unset] [(.long (fMaxL q0 q1))])
    refine Own.lload hx q2 (hb hby at_43) rfl rfl ?_
    refine Own.callS hx hZ hown (hw _ (List.mem_of_getElem? (i := 4) rfl)) (hw _ (List.mem_of_getElem? (i := 5) rfl)) (hw _ (List.mem_of_getElem? (i := 2) rfl)) (hw _ (List.mem_of_getElem? (i := 6) rfl)) (by decide) pd0 (argsL := [(.long (fMaxL q0 q1)), (.long q2)]) (rest := []) rfl (W := 0) (Nat.le_of_eq rfl) (rm := ({ frames := 0, cells := 0, slots := 0, locals := 0 } : Room)) (by decide) (by decide) (by decide) (by decide) (k' := 0) (n' := 0) rfl rfl (by rw [hml]; rfl) [(.long q2), (.long (fMaxL q0 q1))] rfl (hb hby at_45) (pc' := 48) rfl (rm2 l Z a0 hw (fMaxL q0 q1) q2 h0 n0) ?_
    rintro _ h' ⟨rfl, eh⟩
    rw [eh]; clear eh h'
    show Own.Goes _ _ _ _ _ _ _ _ _ _ _ _ _ _ _ _ _ (mkF m 48 #[.val (.long q0), .second, .val (.long q1), .second, .val (.long q2), .second, .val (.long q3), .second, .val (.long q4), .second, .val (.int p5), .val (.int (2 : Int32)), .val (.long s0), .second, .val (.long s1), .second, .unset, .unset, .unset, .unset, .unset, .unset, .unset, .unset, .unset, .unset, .unset] [(.long (fMaxL (fMaxL q0 q1) q2))])
    obtain ⟨s2, h_s2⟩ : ∃ z : Int64, z = (fMaxL (fMaxL q0 q1) q2) := ⟨_, rfl⟩
    refine Own.lstore hx s2 h_s2 #[.val (.long q0), .second, .val (.long q1), .second, .val (.long q2), .second, .val (.long q3), .second, .val (.long q4), .second, .val (.int p5), .val (.int (2 : Int32)), .val (.long s0), .second, .val (.long s1), .second, .val (.long s2), .second, .unset, .unset, .unset, .unset, .unset, .unset, .unset, .unset, .unset] (hb hby at_48) rfl rfl ?_
    refine Own.lload hx s0 (hb hby at_50) rfl rfl ?_
    refine Own.lload hx q3 (hb hby at_52) rfl rfl ?_
    refine Own.ldc2 hx hZ hown (255 : Int64) (hb hby at_54) rfl (hw _ (List.mem_of_getElem? (i := 7) rfl)) ?_
    refine Own.land hx (hb hby at_57) rfl ?_
    refine Own.callS hx hZ hown (hw _ (List.mem_of_getElem? (i := 8) rfl)) (hw _ (List.mem_of_getElem? (i := 9) rfl)) (hw _ (List.mem_of_getElem? (i := 10) rfl)) (hw _ (List.mem_of_getElem? (i := 11) rfl)) (by decide) pd0 (argsL := [(.long s0), (.long (q3 &&& (255 : Int64)))]) (rest := []) rfl (W := 0) (Nat.le_of_eq rfl) (rm := ({ frames := 0, cells := 0, slots := 0, locals := 0 } : Room)) (by decide) (by decide) (by decide) (by decide) (k' := 0) (n' := 0) rfl rfl (by rw [hml]; rfl) [(.long (q3 &&& (255 : Int64))), (.long s0)] rfl (hb hby at_58) (pc' := 61) rfl (rm3 l Z a0 hw s0 (q3 &&& (255 : Int64)) h0 n0) ?_
    rintro _ h' ⟨rfl, eh⟩
    rw [eh]; clear eh h'
    show Own.Goes _ _ _ _ _ _ _ _ _ _ _ _ _ _ _ _ _ (mkF m 61 #[.val (.long q0), .second, .val (.long q1), .second, .val (.long q2), .second, .val (.long q3), .second, .val (.long q4), .second, .val (.int p5), .val (.int (2 : Int32)), .val (.long s0), .second, .val (.long s1), .second, .val (.long s2), .second, .unset, .unset, .unset, .unset, .unset, .unset, .unset, .unset, .unset] [(.long (fBelow s0 (q3 &&& (255 : Int64))))])
    obtain ⟨f0, h_f0⟩ : ∃ z : Int64, z = (fBelow s0 (q3 &&& (255 : Int64))) := ⟨_, rfl⟩
    refine Own.lstore hx f0 h_f0 #[.val (.long q0), .second, .val (.long q1), .second, .val (.long q2), .second, .val (.long q3), .second, .val (.long q4), .second, .val (.int p5), .val (.int (2 : Int32)), .val (.long s0), .second, .val (.long s1), .second, .val (.long s2), .second, .val (.long f0), .second, .unset, .unset, .unset, .unset, .unset, .unset, .unset] (hb hby at_61) rfl rfl ?_
    refine Own.lload hx s0 (hb hby at_63) rfl rfl ?_
    refine Own.lload hx s1 (hb hby at_65) rfl rfl ?_
    refine Own.lload hx q3 (hb hby at_67) rfl rfl ?_
    refine Own.bipush hx (8 : Int32) (hb hby at_69) rfl (by decide) ?_
    refine Own.lushr hx (hb hby at_71) rfl ?_
    refine Own.ldc2 hx hZ hown (255 : Int64) (hb hby at_72) rfl (hw _ (List.mem_of_getElem? (i := 7) rfl)) ?_
    refine Own.land hx (hb hby at_75) rfl ?_
    refine Own.callS hx hZ hown (hw _ (List.mem_of_getElem? (i := 8) rfl)) (hw _ (List.mem_of_getElem? (i := 9) rfl)) (hw _ (List.mem_of_getElem? (i := 10) rfl)) (hw _ (List.mem_of_getElem? (i := 11) rfl)) (by decide) pd0 (argsL := [(.long s1), (.long ((q3.toUInt64 >>> ((8 : Int32) &&& 0x3f).toInt64.toUInt64).toInt64 &&& (255 : Int64)))]) (rest := [(.long s0)]) rfl (W := 2) (Nat.le_of_eq rfl) (rm := ({ frames := 0, cells := 0, slots := 0, locals := 0 } : Room)) (by decide) (by decide) (by decide) (by decide) (k' := 0) (n' := 0) rfl rfl (by rw [hml]; rfl) [(.long ((q3.toUInt64 >>> ((8 : Int32) &&& 0x3f).toInt64.toUInt64).toInt64 &&& (255 : Int64))), (.long s1), (.long s0)] rfl (hb hby at_76) (pc' := 79) rfl (rm3 l Z a0 hw s1 ((q3.toUInt64 >>> ((8 : Int32) &&& 0x3f).toInt64.toUInt64).toInt64 &&& (255 : Int64)) h0 n0) ?_
    rintro _ h' ⟨rfl, eh⟩
    rw [eh]; clear eh h'
    show Own.Goes _ _ _ _ _ _ _ _ _ _ _ _ _ _ _ _ _ (mkF m 79 #[.val (.long q0), .second, .val (.long q1), .second, .val (.long q2), .second, .val (.long q3), .second, .val (.long q4), .second, .val (.int p5), .val (.int (2 : Int32)), .val (.long s0), .second, .val (.long s1), .second, .val (.long s2), .second, .val (.long f0), .second, .unset, .unset, .unset, .unset, .unset, .unset, .unset] [(.long (fBelow s1 ((q3.toUInt64 >>> ((8 : Int32) &&& 0x3f).toInt64.toUInt64).toInt64 &&& (255 : Int64)))), (.long s0)])
    refine Own.callS hx hZ hown (hw _ (List.mem_of_getElem? (i := 4) rfl)) (hw _ (List.mem_of_getElem? (i := 5) rfl)) (hw _ (List.mem_of_getElem? (i := 2) rfl)) (hw _ (List.mem_of_getElem? (i := 6) rfl)) (by decide) pd0 (argsL := [(.long s0), (.long (fBelow s1 ((q3.toUInt64 >>> ((8 : Int32) &&& 0x3f).toInt64.toUInt64).toInt64 &&& (255 : Int64))))]) (rest := []) rfl (W := 0) (Nat.le_of_eq rfl) (rm := ({ frames := 0, cells := 0, slots := 0, locals := 0 } : Room)) (by decide) (by decide) (by decide) (by decide) (k' := 0) (n' := 0) rfl rfl (by rw [hml]; rfl) [(.long (fBelow s1 ((q3.toUInt64 >>> ((8 : Int32) &&& 0x3f).toInt64.toUInt64).toInt64 &&& (255 : Int64)))), (.long s0)] rfl (hb hby at_79) (pc' := 82) rfl (rm2 l Z a0 hw s0 (fBelow s1 ((q3.toUInt64 >>> ((8 : Int32) &&& 0x3f).toInt64.toUInt64).toInt64 &&& (255 : Int64))) h0 n0) ?_
    rintro _ h' ⟨rfl, eh⟩
    rw [eh]; clear eh h'
    show Own.Goes _ _ _ _ _ _ _ _ _ _ _ _ _ _ _ _ _ (mkF m 82 #[.val (.long q0), .second, .val (.long q1), .second, .val (.long q2), .second, .val (.long q3), .second, .val (.long q4), .second, .val (.int p5), .val (.int (2 : Int32)), .val (.long s0), .second, .val (.long s1), .second, .val (.long s2), .second, .val (.long f0), .second, .unset, .unset, .unset, .unset, .unset, .unset, .unset] [(.long (fMaxL s0 (fBelow s1 ((q3.toUInt64 >>> ((8 : Int32) &&& 0x3f).toInt64.toUInt64).toInt64 &&& (255 : Int64)))))])
    obtain ⟨f1, h_f1⟩ : ∃ z : Int64, z = (fMaxL s0 (fBelow s1 ((q3.toUInt64 >>> ((8 : Int32) &&& 0x3f).toInt64.toUInt64).toInt64 &&& (255 : Int64)))) := ⟨_, rfl⟩
    refine Own.lstore hx f1 h_f1 #[.val (.long q0), .second, .val (.long q1), .second, .val (.long q2), .second, .val (.long q3), .second, .val (.long q4), .second, .val (.int p5), .val (.int (2 : Int32)), .val (.long s0), .second, .val (.long s1), .second, .val (.long s2), .second, .val (.long f0), .second, .val (.long f1), .second, .unset, .unset, .unset, .unset, .unset] (hb hby at_82) rfl rfl ?_
    refine Own.lload hx s1 (hb hby at_84) rfl rfl ?_
    refine Own.lload hx s2 (hb hby at_86) rfl rfl ?_
    refine Own.lload hx q3 (hb hby at_88) rfl rfl ?_
    refine Own.bipush hx (16 : Int32) (hb hby at_90) rfl (by decide) ?_
    refine Own.lushr hx (hb hby at_92) rfl ?_
    refine Own.ldc2 hx hZ hown (255 : Int64) (hb hby at_93) rfl (hw _ (List.mem_of_getElem? (i := 7) rfl)) ?_
    refine Own.land hx (hb hby at_96) rfl ?_
    refine Own.callS hx hZ hown (hw _ (List.mem_of_getElem? (i := 8) rfl)) (hw _ (List.mem_of_getElem? (i := 9) rfl)) (hw _ (List.mem_of_getElem? (i := 10) rfl)) (hw _ (List.mem_of_getElem? (i := 11) rfl)) (by decide) pd0 (argsL := [(.long s2), (.long ((q3.toUInt64 >>> ((16 : Int32) &&& 0x3f).toInt64.toUInt64).toInt64 &&& (255 : Int64)))]) (rest := [(.long s1)]) rfl (W := 2) (Nat.le_of_eq rfl) (rm := ({ frames := 0, cells := 0, slots := 0, locals := 0 } : Room)) (by decide) (by decide) (by decide) (by decide) (k' := 0) (n' := 0) rfl rfl (by rw [hml]; rfl) [(.long ((q3.toUInt64 >>> ((16 : Int32) &&& 0x3f).toInt64.toUInt64).toInt64 &&& (255 : Int64))), (.long s2), (.long s1)] rfl (hb hby at_97) (pc' := 100) rfl (rm3 l Z a0 hw s2 ((q3.toUInt64 >>> ((16 : Int32) &&& 0x3f).toInt64.toUInt64).toInt64 &&& (255 : Int64)) h0 n0) ?_
    rintro _ h' ⟨rfl, eh⟩
    rw [eh]; clear eh h'
    show Own.Goes _ _ _ _ _ _ _ _ _ _ _ _ _ _ _ _ _ (mkF m 100 #[.val (.long q0), .second, .val (.long q1), .second, .val (.long q2), .second, .val (.long q3), .second, .val (.long q4), .second, .val (.int p5), .val (.int (2 : Int32)), .val (.long s0), .second, .val (.long s1), .second, .val (.long s2), .second, .val (.long f0), .second, .val (.long f1), .second, .unset, .unset, .unset, .unset, .unset] [(.long (fBelow s2 ((q3.toUInt64 >>> ((16 : Int32) &&& 0x3f).toInt64.toUInt64).toInt64 &&& (255 : Int64)))), (.long s1)])
    refine Own.callS hx hZ hown (hw _ (List.mem_of_getElem? (i := 4) rfl)) (hw _ (List.mem_of_getElem? (i := 5) rfl)) (hw _ (List.mem_of_getElem? (i := 2) rfl)) (hw _ (List.mem_of_getElem? (i := 6) rfl)) (by decide) pd0 (argsL := [(.long s1), (.long (fBelow s2 ((q3.toUInt64 >>> ((16 : Int32) &&& 0x3f).toInt64.toUInt64).toInt64 &&& (255 : Int64))))]) (rest := []) rfl (W := 0) (Nat.le_of_eq rfl) (rm := ({ frames := 0, cells := 0, slots := 0, locals := 0 } : Room)) (by decide) (by decide) (by decide) (by decide) (k' := 0) (n' := 0) rfl rfl (by rw [hml]; rfl) [(.long (fBelow s2 ((q3.toUInt64 >>> ((16 : Int32) &&& 0x3f).toInt64.toUInt64).toInt64 &&& (255 : Int64)))), (.long s1)] rfl (hb hby at_100) (pc' := 103) rfl (rm2 l Z a0 hw s1 (fBelow s2 ((q3.toUInt64 >>> ((16 : Int32) &&& 0x3f).toInt64.toUInt64).toInt64 &&& (255 : Int64))) h0 n0) ?_
    rintro _ h' ⟨rfl, eh⟩
    rw [eh]; clear eh h'
    show Own.Goes _ _ _ _ _ _ _ _ _ _ _ _ _ _ _ _ _ (mkF m 103 #[.val (.long q0), .second, .val (.long q1), .second, .val (.long q2), .second, .val (.long q3), .second, .val (.long q4), .second, .val (.int p5), .val (.int (2 : Int32)), .val (.long s0), .second, .val (.long s1), .second, .val (.long s2), .second, .val (.long f0), .second, .val (.long f1), .second, .unset, .unset, .unset, .unset, .unset] [(.long (fMaxL s1 (fBelow s2 ((q3.toUInt64 >>> ((16 : Int32) &&& 0x3f).toInt64.toUInt64).toInt64 &&& (255 : Int64)))))])
    obtain ⟨f2, h_f2⟩ : ∃ z : Int64, z = (fMaxL s1 (fBelow s2 ((q3.toUInt64 >>> ((16 : Int32) &&& 0x3f).toInt64.toUInt64).toInt64 &&& (255 : Int64)))) := ⟨_, rfl⟩
    refine Own.lstore hx f2 h_f2 #[.val (.long q0), .second, .val (.long q1), .second, .val (.long q2), .second, .val (.long q3), .second, .val (.long q4), .second, .val (.int p5), .val (.int (2 : Int32)), .val (.long s0), .second, .val (.long s1), .second, .val (.long s2), .second, .val (.long f0), .second, .val (.long f1), .second, .val (.long f2), .second, .unset, .unset, .unset] (hb hby at_103) rfl rfl ?_
    refine Own.iconst hx (2 : Int32) (hb hby at_105) rfl (by decide) ?_
    refine Own.iload hx (2 : Int32) (hb hby at_106) rfl rfl ?_
    refine Own.imul hx (hb hby at_108) rfl ?_
    refine Own.vI (4 : Int32) (by decide) ?_
    refine Own.newarr hx hZ O0 (aty := .long) (hw _ (List.mem_of_getElem? (i := 13) rfl)) 4 (by decide) [(.long (0 : Int64)), (.long (0 : Int64)), (.long (0 : Int64)), (.long (0 : Int64))] rfl rfl (cap := 4) (by decide) (by decide) (k' := 1) (n' := 4) rfl rfl (by decide) (by decide) (hb hby at_109) (pc' := 111) rfl ?_
    intro a37 h38 O39
    refine Own.astore hx #[.val (.long q0), .second, .val (.long q1), .second, .val (.long q2), .second, .val (.long q3), .second, .val (.long q4), .second, .val (.int p5), .val (.int (2 : Int32)), .val (.long s0), .second, .val (.long s1), .second, .val (.long s2), .second, .val (.long f0), .second, .val (.long f1), .second, .val (.long f2), .second, .val (.ref a37), .unset, .unset] (hb hby at_111) rfl rfl rfl ?_
    refine Own.iload hx (2 : Int32) (hb hby at_113) rfl rfl ?_
    refine Own.iconst hx (1 : Int32) (hb hby at_115) rfl (by decide) ?_
    have hc40 : ¬ ((2 : Int32) < (1 : Int32)) := by decide
    refine Own.icmpF hx (Own.q_lt (2 : Int32) (1 : Int32)) (hb hby at_116) (pcN := 119) rfl (by decide) (pcT := 131) rfl (fun q => absurd q hc40) (fun _ => ?_)
    refine Own.aload hx (.ref a37) (hb hby at_119) rfl rfl rfl ?_
    refine Own.iconst hx (0 : Int32) (hb hby at_121) rfl (by decide) ?_
    refine Own.lload hx f0 (hb hby at_122) rfl rfl ?_
    refine Own.lastore hx hZ O39 0 0 rfl (by decide) (by exact (show 0 < 4 by decide)) ((a37, Own.ArrC Z .long [(.long f0), (.long (0 : Int64)), (.long (0 : Int64)), (.long (0 : Int64))]) :: []) rfl (hb hby at_124) rfl ?_
    intro h42 O43
    refine Own.aload hx (.ref a37) (hb hby at_125) rfl rfl rfl ?_
    refine Own.iconst hx (1 : Int32) (hb hby at_127) rfl (by decide) ?_
    refine Own.lload hx s0 (hb hby at_128) rfl rfl ?_
    refine Own.lastore hx hZ O43 0 1 rfl (by decide) (by exact (show 1 < 4 by decide)) ((a37, Own.ArrC Z .long [(.long f0), (.long s0), (.long (0 : Int64)), (.long (0 : Int64))]) :: []) rfl (hb hby at_130) rfl ?_
    intro h44 O45
    refine Own.iload hx (2 : Int32) (hb hby at_131) rfl rfl ?_
    refine Own.iconst hx (2 : Int32) (hb hby at_133) rfl (by decide) ?_
    have hc46 : ¬ ((2 : Int32) < (2 : Int32)) := by decide
    refine Own.icmpF hx (Own.q_lt (2 : Int32) (2 : Int32)) (hb hby at_134) (pcN := 137) rfl (by decide) (pcT := 149) rfl (fun q => absurd q hc46) (fun _ => ?_)
    refine Own.aload hx (.ref a37) (hb hby at_137) rfl rfl rfl ?_
    refine Own.iconst hx (2 : Int32) (hb hby at_139) rfl (by decide) ?_
    refine Own.lload hx f1 (hb hby at_140) rfl rfl ?_
    refine Own.lastore hx hZ O45 0 2 rfl (by decide) (by exact (show 2 < 4 by decide)) ((a37, Own.ArrC Z .long [(.long f0), (.long s0), (.long f1), (.long (0 : Int64))]) :: []) rfl (hb hby at_142) rfl ?_
    intro h48 O49
    refine Own.aload hx (.ref a37) (hb hby at_143) rfl rfl rfl ?_
    refine Own.iconst hx (3 : Int32) (hb hby at_145) rfl (by decide) ?_
    refine Own.lload hx s1 (hb hby at_146) rfl rfl ?_
    refine Own.lastore hx hZ O49 0 3 rfl (by decide) (by exact (show 3 < 4 by decide)) ((a37, Own.ArrC Z .long [(.long f0), (.long s0), (.long f1), (.long s1)]) :: []) rfl (hb hby at_148) rfl ?_
    intro h50 O51
    refine Own.iload hx (2 : Int32) (hb hby at_149) rfl rfl ?_
    refine Own.iconst hx (3 : Int32) (hb hby at_151) rfl (by decide) ?_
    have hc52 : (2 : Int32) < (3 : Int32) := by decide
    refine Own.icmpF hx (Own.q_lt (2 : Int32) (3 : Int32)) (hb hby at_152) (pcN := 155) rfl (by decide) (pcT := 167) rfl (fun _ => ?_) (fun q => absurd hc52 q)
    refine Own.aload hx (.ref a37) (hb hby at_167) rfl rfl rfl ?_
    refine Own.lload hx q4 (hb hby at_169) rfl rfl ?_
    refine Own.callS hx hZ hown (hw _ (List.mem_of_getElem? (i := 14) rfl)) (hw _ (List.mem_of_getElem? (i := 15) rfl)) (hw _ (List.mem_of_getElem? (i := 16) rfl)) (hw _ (List.mem_of_getElem? (i := 17) rfl)) (by decide) pd1 (argsL := [(.ref a37), (.long q4)]) (rest := []) rfl (W := 0) (Nat.le_of_eq rfl) (rm := ({ frames := 0, cells := 0, slots := 0, locals := 0 } : Room)) (by decide) (by decide) (by decide) (by decide) (k' := 1) (n' := 4) rfl rfl (by rw [hml]; rfl) [(.long q4), (.ref a37)] rfl (hb hby at_171) (pc' := 174) rfl (rm4_2 l Z a0 hw a37 q4 h50 n0 f0 s0 f1 s1 ([]) O51) ?_
    rintro _ h' ⟨rfl, eh⟩
    rw [eh]; clear eh h'
    show Own.Goes _ _ _ _ _ _ _ _ _ _ _ _ _ _ _ _ _ (mkF m 174 #[.val (.long q0), .second, .val (.long q1), .second, .val (.long q2), .second, .val (.long q3), .second, .val (.long q4), .second, .val (.int p5), .val (.int (2 : Int32)), .val (.long s0), .second, .val (.long s1), .second, .val (.long s2), .second, .val (.long f0), .second, .val (.long f1), .second, .val (.long f2), .second, .val (.ref a37), .unset, .unset] [(.int (fSR2 s0 s1 q4))])
    obtain ⟨got, h_got⟩ : ∃ z : Int32, z = (fSR2 s0 s1 q4) := ⟨_, rfl⟩
    refine Own.istore hx got h_got #[.val (.long q0), .second, .val (.long q1), .second, .val (.long q2), .second, .val (.long q3), .second, .val (.long q4), .second, .val (.int p5), .val (.int (2 : Int32)), .val (.long s0), .second, .val (.long s1), .second, .val (.long s2), .second, .val (.long f0), .second, .val (.long f1), .second, .val (.long f2), .second, .val (.ref a37), .val (.int got), .unset] (hb hby at_174) rfl rfl ?_
    refine Own.iload hx (2 : Int32) (hb hby at_176) rfl rfl ?_
    have hc54 : ¬ ((2 : Int32) = (0 : Int32)) := by decide
    refine Own.ifFn hx (Own.z_ne (2 : Int32)) (hb hby at_178) (pcN := 181) rfl (by decide) (pcT := 187) rfl (fun _ => ?_) (fun q => absurd q hc54)
    refine Own.lload hx s0 (hb hby at_187) rfl rfl ?_
    refine Own.lload hx q4 (hb hby at_189) rfl rfl ?_
    refine Own.lcmp hx (hb hby at_191) rfl ?_
    obtain ⟨ex, h_ex⟩ : ∃ z : Int32, z = (if s0 < q4 then (if s1 < q4 then (4 : Int32) else (2 : Int32)) else (0 : Int32)) := ⟨_, rfl⟩
    refine Own.Goes.join (mkF m 257 #[.val (.long q0), .second, .val (.long q1), .second, .val (.long q2), .second, .val (.long q3), .second, .val (.long q4), .second, .val (.int p5), .val (.int (2 : Int32)), .val (.long s0), .second, .val (.long s1), .second, .val (.long s2), .second, .val (.long f0), .second, .val (.long f1), .second, .val (.long f2), .second, .val (.ref a37), .val (.int got), .val (.int ex)] []) (fun kJ62 => ?_) ?_
    · refine Own.ifF hx (Own.w_lt s0 q4) (hb hby at_192) (pcN := 195) rfl (by decide) (pcT := 201) rfl (fun hc56 => ?_) (fun hc56 => ?_)
      · refine Own.iload hx (2 : Int32) (hb hby at_201) rfl rfl ?_
        refine Own.iconst hx (1 : Int32) (hb hby at_203) rfl (by decide) ?_
        have hc63 : ¬ ((2 : Int32) = (1 : Int32)) := by decide
        refine Own.icmpFn hx (Own.q_ne (2 : Int32) (1 : Int32)) (hb hby at_204) (pcN := 207) rfl (by decide) (pcT := 213) rfl (fun _ => ?_) (fun q => absurd q hc63)
        refine Own.lload hx s1 (hb hby at_213) rfl rfl ?_
        refine Own.lload hx q4 (hb hby at_215) rfl rfl ?_
        refine Own.lcmp hx (hb hby at_217) rfl ?_
        refine Own.ifF hx (Own.w_lt s1 q4) (hb hby at_218) (pcN := 221) rfl (by decide) (pcT := 227) rfl (fun hc65 => ?_) (fun hc65 => ?_)
        · refine Own.iload hx (2 : Int32) (hb hby at_227) rfl rfl ?_
          refine Own.iconst hx (2 : Int32) (hb hby at_229) rfl (by decide) ?_
          have hc66 : (2 : Int32) = (2 : Int32) := by decide
          refine Own.icmpFn hx (Own.q_ne (2 : Int32) (2 : Int32)) (hb hby at_230) (pcN := 233) rfl (by decide) (pcT := 239) rfl (fun q => absurd hc66 q) (fun _ => ?_)
          refine Own.iconst hx (4 : Int32) (hb hby at_233) rfl (by decide) ?_
          refine Own.istore hx (4 : Int32) rfl #[.val (.long q0), .second, .val (.long q1), .second, .val (.long q2), .second, .val (.long q3), .second, .val (.long q4), .second, .val (.int p5), .val (.int (2 : Int32)), .val (.long s0), .second, .val (.long s1), .second, .val (.long s2), .second, .val (.long f0), .second, .val (.long f1), .second, .val (.long f2), .second, .val (.ref a37), .val (.int got), .val (.int (4 : Int32))] (hb hby at_234) rfl rfl ?_
          refine Own.goto hx (hb hby at_236) (by decide) (pc' := 257) rfl ?_
          try simp only [if_pos hc56, if_pos hc65] at h_ex
          subst h_ex
          exact kJ62
        · refine Own.iconst hx (2 : Int32) (hb hby at_221) rfl (by decide) ?_
          refine Own.istore hx (2 : Int32) rfl #[.val (.long q0), .second, .val (.long q1), .second, .val (.long q2), .second, .val (.long q3), .second, .val (.long q4), .second, .val (.int p5), .val (.int (2 : Int32)), .val (.long s0), .second, .val (.long s1), .second, .val (.long s2), .second, .val (.long f0), .second, .val (.long f1), .second, .val (.long f2), .second, .val (.ref a37), .val (.int got), .val (.int (2 : Int32))] (hb hby at_222) rfl rfl ?_
          refine Own.goto hx (hb hby at_224) (by decide) (pc' := 257) rfl ?_
          try simp only [if_pos hc56, if_neg hc65] at h_ex
          subst h_ex
          exact kJ62
      · refine Own.iconst hx (0 : Int32) (hb hby at_195) rfl (by decide) ?_
        refine Own.istore hx (0 : Int32) rfl #[.val (.long q0), .second, .val (.long q1), .second, .val (.long q2), .second, .val (.long q3), .second, .val (.long q4), .second, .val (.int p5), .val (.int (2 : Int32)), .val (.long s0), .second, .val (.long s1), .second, .val (.long s2), .second, .val (.long f0), .second, .val (.long f1), .second, .val (.long f2), .second, .val (.ref a37), .val (.int got), .val (.int (0 : Int32))] (hb hby at_196) rfl rfl ?_
        refine Own.goto hx (hb hby at_198) (by decide) (pc' := 257) rfl ?_
        try simp only [if_neg hc56] at h_ex
        subst h_ex
        exact kJ62
    refine Own.iload hx got (hb hby at_257) rfl rfl ?_
    refine Own.iload hx ex (hb hby at_259) rfl rfl ?_
    obtain ⟨z, h_z⟩ : ∃ z : Int32, z = (if got = ex then (1 : Int32) else (0 : Int32)) := ⟨_, rfl⟩
    refine Own.Goes.join (mkF m 269 #[.val (.long q0), .second, .val (.long q1), .second, .val (.long q2), .second, .val (.long q3), .second, .val (.long q4), .second, .val (.int p5), .val (.int (2 : Int32)), .val (.long s0), .second, .val (.long s1), .second, .val (.long s2), .second, .val (.long f0), .second, .val (.long f1), .second, .val (.long f2), .second, .val (.ref a37), .val (.int got), .val (.int ex)] [(.int z)]) (fun kJ69 => ?_) ?_
    · refine Own.icmpFn hx (Own.q_ne got ex) (hb hby at_261) (pcN := 264) rfl (by decide) (pcT := 268) rfl (fun hc68 => ?_) (fun hc68 => ?_)
      · refine Own.iconst hx (0 : Int32) (hb hby at_268) rfl (by decide) ?_
        try simp only [if_neg hc68] at h_z
        subst h_z
        exact kJ69
      · refine Own.iconst hx (1 : Int32) (hb hby at_264) rfl (by decide) ?_
        refine Own.goto hx (hb hby at_265) (by decide) (pc' := 269) rfl ?_
        try simp only [if_pos hc68] at h_z
        subst h_z
        exact kJ69
    exact Own.retS hx hret (by simp) hlk (hb hby at_269) (by decide) (by decide) (Own.bool1 (own_fin2 (own_sorted h_s0 h_s1 h_s2) h_got h_ex h_z))
  · subst q
    refine Own.lloadN hx q0 (hb hby at_6) rfl rfl ?_
    refine Own.lloadN hx q1 (hb hby at_7) rfl rfl ?_
    refine Own.callS hx hZ hown (hw _ (List.mem_of_getElem? (i := 0) rfl)) (hw _ (List.mem_of_getElem? (i := 1) rfl)) (hw _ (List.mem_of_getElem? (i := 2) rfl)) (hw _ (List.mem_of_getElem? (i := 3) rfl)) (by decide) pd0 (argsL := [(.long q0), (.long q1)]) (rest := []) rfl (W := 0) (Nat.le_of_eq rfl) (rm := ({ frames := 0, cells := 0, slots := 0, locals := 0 } : Room)) (by decide) (by decide) (by decide) (by decide) (k' := 0) (n' := 0) rfl rfl (by rw [hml]; rfl) [(.long q1), (.long q0)] rfl (hb hby at_8) (pc' := 11) rfl (rm1 l Z a0 hw q0 q1 h0 n0) ?_
    rintro _ h' ⟨rfl, eh⟩
    rw [eh]; clear eh h'
    show Own.Goes _ _ _ _ _ _ _ _ _ _ _ _ _ _ _ _ _ (mkF m 11 #[.val (.long q0), .second, .val (.long q1), .second, .val (.long q2), .second, .val (.long q3), .second, .val (.long q4), .second, .val (.int p5), .val (.int (3 : Int32)), .unset, .unset, .unset, .unset, .unset, .unset, .unset, .unset, .unset, .unset, .unset, .unset, .unset, .unset, .unset] [(.long (fMin q0 q1))])
    refine Own.lload hx q2 (hb hby at_11) rfl rfl ?_
    refine Own.callS hx hZ hown (hw _ (List.mem_of_getElem? (i := 0) rfl)) (hw _ (List.mem_of_getElem? (i := 1) rfl)) (hw _ (List.mem_of_getElem? (i := 2) rfl)) (hw _ (List.mem_of_getElem? (i := 3) rfl)) (by decide) pd0 (argsL := [(.long (fMin q0 q1)), (.long q2)]) (rest := []) rfl (W := 0) (Nat.le_of_eq rfl) (rm := ({ frames := 0, cells := 0, slots := 0, locals := 0 } : Room)) (by decide) (by decide) (by decide) (by decide) (k' := 0) (n' := 0) rfl rfl (by rw [hml]; rfl) [(.long q2), (.long (fMin q0 q1))] rfl (hb hby at_13) (pc' := 16) rfl (rm1 l Z a0 hw (fMin q0 q1) q2 h0 n0) ?_
    rintro _ h' ⟨rfl, eh⟩
    rw [eh]; clear eh h'
    show Own.Goes _ _ _ _ _ _ _ _ _ _ _ _ _ _ _ _ _ (mkF m 16 #[.val (.long q0), .second, .val (.long q1), .second, .val (.long q2), .second, .val (.long q3), .second, .val (.long q4), .second, .val (.int p5), .val (.int (3 : Int32)), .unset, .unset, .unset, .unset, .unset, .unset, .unset, .unset, .unset, .unset, .unset, .unset, .unset, .unset, .unset] [(.long (fMin (fMin q0 q1) q2))])
    obtain ⟨s0, h_s0⟩ : ∃ z : Int64, z = (fMin (fMin q0 q1) q2) := ⟨_, rfl⟩
    refine Own.lstore hx s0 h_s0 #[.val (.long q0), .second, .val (.long q1), .second, .val (.long q2), .second, .val (.long q3), .second, .val (.long q4), .second, .val (.int p5), .val (.int (3 : Int32)), .val (.long s0), .second, .unset, .unset, .unset, .unset, .unset, .unset, .unset, .unset, .unset, .unset, .unset, .unset, .unset] (hb hby at_16) rfl rfl ?_
    refine Own.lloadN hx q0 (hb hby at_18) rfl rfl ?_
    refine Own.lloadN hx q1 (hb hby at_19) rfl rfl ?_
    refine Own.callS hx hZ hown (hw _ (List.mem_of_getElem? (i := 0) rfl)) (hw _ (List.mem_of_getElem? (i := 1) rfl)) (hw _ (List.mem_of_getElem? (i := 2) rfl)) (hw _ (List.mem_of_getElem? (i := 3) rfl)) (by decide) pd0 (argsL := [(.long q0), (.long q1)]) (rest := []) rfl (W := 0) (Nat.le_of_eq rfl) (rm := ({ frames := 0, cells := 0, slots := 0, locals := 0 } : Room)) (by decide) (by decide) (by decide) (by decide) (k' := 0) (n' := 0) rfl rfl (by rw [hml]; rfl) [(.long q1), (.long q0)] rfl (hb hby at_20) (pc' := 23) rfl (rm1 l Z a0 hw q0 q1 h0 n0) ?_
    rintro _ h' ⟨rfl, eh⟩
    rw [eh]; clear eh h'
    show Own.Goes _ _ _ _ _ _ _ _ _ _ _ _ _ _ _ _ _ (mkF m 23 #[.val (.long q0), .second, .val (.long q1), .second, .val (.long q2), .second, .val (.long q3), .second, .val (.long q4), .second, .val (.int p5), .val (.int (3 : Int32)), .val (.long s0), .second, .unset, .unset, .unset, .unset, .unset, .unset, .unset, .unset, .unset, .unset, .unset, .unset, .unset] [(.long (fMin q0 q1))])
    refine Own.lloadN hx q0 (hb hby at_23) rfl rfl ?_
    refine Own.lloadN hx q1 (hb hby at_24) rfl rfl ?_
    refine Own.callS hx hZ hown (hw _ (List.mem_of_getElem? (i := 4) rfl)) (hw _ (List.mem_of_getElem? (i := 5) rfl)) (hw _ (List.mem_of_getElem? (i := 2) rfl)) (hw _ (List.mem_of_getElem? (i := 6) rfl)) (by decide) pd0 (argsL := [(.long q0), (.long q1)]) (rest := [(.long (fMin q0 q1))]) rfl (W := 2) (Nat.le_of_eq rfl) (rm := ({ frames := 0, cells := 0, slots := 0, locals := 0 } : Room)) (by decide) (by decide) (by decide) (by decide) (k' := 0) (n' := 0) rfl rfl (by rw [hml]; rfl) [(.long q1), (.long q0), (.long (fMin q0 q1))] rfl (hb hby at_25) (pc' := 28) rfl (rm2 l Z a0 hw q0 q1 h0 n0) ?_
    rintro _ h' ⟨rfl, eh⟩
    rw [eh]; clear eh h'
    show Own.Goes _ _ _ _ _ _ _ _ _ _ _ _ _ _ _ _ _ (mkF m 28 #[.val (.long q0), .second, .val (.long q1), .second, .val (.long q2), .second, .val (.long q3), .second, .val (.long q4), .second, .val (.int p5), .val (.int (3 : Int32)), .val (.long s0), .second, .unset, .unset, .unset, .unset, .unset, .unset, .unset, .unset, .unset, .unset, .unset, .unset, .unset] [(.long (fMaxL q0 q1)), (.long (fMin q0 q1))])
    refine Own.lload hx q2 (hb hby at_28) rfl rfl ?_
    refine Own.callS hx hZ hown (hw _ (List.mem_of_getElem? (i := 0) rfl)) (hw _ (List.mem_of_getElem? (i := 1) rfl)) (hw _ (List.mem_of_getElem? (i := 2) rfl)) (hw _ (List.mem_of_getElem? (i := 3) rfl)) (by decide) pd0 (argsL := [(.long (fMaxL q0 q1)), (.long q2)]) (rest := [(.long (fMin q0 q1))]) rfl (W := 2) (Nat.le_of_eq rfl) (rm := ({ frames := 0, cells := 0, slots := 0, locals := 0 } : Room)) (by decide) (by decide) (by decide) (by decide) (k' := 0) (n' := 0) rfl rfl (by rw [hml]; rfl) [(.long q2), (.long (fMaxL q0 q1)), (.long (fMin q0 q1))] rfl (hb hby at_30) (pc' := 33) rfl (rm1 l Z a0 hw (fMaxL q0 q1) q2 h0 n0) ?_
    rintro _ h' ⟨rfl, eh⟩
    rw [eh]; clear eh h'
    show Own.Goes _ _ _ _ _ _ _ _ _ _ _ _ _ _ _ _ _ (mkF m 33 #[.val (.long q0), .second, .val (.long q1), .second, .val (.long q2), .second, .val (.long q3), .second, .val (.long q4), .second, .val (.int p5), .val (.int (3 : Int32)), .val (.long s0), .second, .unset, .unset, .unset, .unset, .unset, .unset, .unset, .unset, .unset, .unset, .unset, .unset, .unset] [(.long (fMin (fMaxL q0 q1) q2)), (.long (fMin q0 q1))])
    refine Own.callS hx hZ hown (hw _ (List.mem_of_getElem? (i := 4) rfl)) (hw _ (List.mem_of_getElem? (i := 5) rfl)) (hw _ (List.mem_of_getElem? (i := 2) rfl)) (hw _ (List.mem_of_getElem? (i := 6) rfl)) (by decide) pd0 (argsL := [(.long (fMin q0 q1)), (.long (fMin (fMaxL q0 q1) q2))]) (rest := []) rfl (W := 0) (Nat.le_of_eq rfl) (rm := ({ frames := 0, cells := 0, slots := 0, locals := 0 } : Room)) (by decide) (by decide) (by decide) (by decide) (k' := 0) (n' := 0) rfl rfl (by rw [hml]; rfl) [(.long (fMin (fMaxL q0 q1) q2)), (.long (fMin q0 q1))] rfl (hb hby at_33) (pc' := 36) rfl (rm2 l Z a0 hw (fMin q0 q1) (fMin (fMaxL q0 q1) q2) h0 n0) ?_
    rintro _ h' ⟨rfl, eh⟩
    rw [eh]; clear eh h'
    show Own.Goes _ _ _ _ _ _ _ _ _ _ _ _ _ _ _ _ _ (mkF m 36 #[.val (.long q0), .second, .val (.long q1), .second, .val (.long q2), .second, .val (.long q3), .second, .val (.long q4), .second, .val (.int p5), .val (.int (3 : Int32)), .val (.long s0), .second, .unset, .unset, .unset, .unset, .unset, .unset, .unset, .unset, .unset, .unset, .unset, .unset, .unset] [(.long (fMaxL (fMin q0 q1) (fMin (fMaxL q0 q1) q2)))])
    obtain ⟨s1, h_s1⟩ : ∃ z : Int64, z = (fMaxL (fMin q0 q1) (fMin (fMaxL q0 q1) q2)) := ⟨_, rfl⟩
    refine Own.lstore hx s1 h_s1 #[.val (.long q0), .second, .val (.long q1), .second, .val (.long q2), .second, .val (.long q3), .second, .val (.long q4), .second, .val (.int p5), .val (.int (3 : Int32)), .val (.long s0), .second, .val (.long s1), .second, .unset, .unset, .unset, .unset, .unset, .unset, .unset, .unset, .unset, .unset, .unset] (hb hby at_36) rfl rfl ?_
    refine Own.lloadN hx q0 (hb hby at_38) rfl rfl ?_
    refine Own.lloadN hx q1 (hb hby at_39) rfl rfl ?_
    refine Own.callS hx hZ hown (hw _ (List.mem_of_getElem? (i := 4) rfl)) (hw _ (List.mem_of_getElem? (i := 5) rfl)) (hw _ (List.mem_of_getElem? (i := 2) rfl)) (hw _ (List.mem_of_getElem? (i := 6) rfl)) (by decide) pd0 (argsL := [(.long q0), (.long q1)]) (rest := []) rfl (W := 0) (Nat.le_of_eq rfl) (rm := ({ frames := 0, cells := 0, slots := 0, locals := 0 } : Room)) (by decide) (by decide) (by decide) (by decide) (k' := 0) (n' := 0) rfl rfl (by rw [hml]; rfl) [(.long q1), (.long q0)] rfl (hb hby at_40) (pc' := 43) rfl (rm2 l Z a0 hw q0 q1 h0 n0) ?_
    rintro _ h' ⟨rfl, eh⟩
    rw [eh]; clear eh h'
    show Own.Goes _ _ _ _ _ _ _ _ _ _ _ _ _ _ _ _ _ (mkF m 43 #[.val (.long q0), .second, .val (.long q1), .second, .val (.long q2), .second, .val (.long q3), .second, .val (.long q4), .second, .val (.int p5), .val (.int (3 : Int32)), .val (.long s0), .second, .val (.long s1), .second, .unset, .unset, .unset, .unset, .unset, .unset, .unset, .unset, .unset, .unset, .unset] [(.long (fMaxL q0 q1))])
    refine Own.lload hx q2 (hb hby at_43) rfl rfl ?_
    refine Own.callS hx hZ hown (hw _ (List.mem_of_getElem? (i := 4) rfl)) (hw _ (List.mem_of_getElem? (i := 5) rfl)) (hw _ (List.mem_of_getElem? (i := 2) rfl)) (hw _ (List.mem_of_getElem? (i := 6) rfl)) (by decide) pd0 (argsL := [(.long (fMaxL q0 q1)), (.long q2)]) (rest := []) rfl (W := 0) (Nat.le_of_eq rfl) (rm := ({ frames := 0, cells := 0, slots := 0, locals := 0 } : Room)) (by decide) (by decide) (by decide) (by decide) (k' := 0) (n' := 0) rfl rfl (by rw [hml]; rfl) [(.long q2), (.long (fMaxL q0 q1))] rfl (hb hby at_45) (pc' := 48) rfl (rm2 l Z a0 hw (fMaxL q0 q1) q2 h0 n0) ?_
    rintro _ h' ⟨rfl, eh⟩
    rw [eh]; clear eh h'
    show Own.Goes _ _ _ _ _ _ _ _ _ _ _ _ _ _ _ _ _ (mkF m 48 #[.val (.long q0), .second, .val (.long q1), .second, .val (.long q2), .second, .val (.long q3), .second, .val (.long q4), .second, .val (.int p5), .val (.int (3 : Int32)), .val (.long s0), .second, .val (.long s1), .second, .unset, .unset, .unset, .unset, .unset, .unset, .unset, .unset, .unset, .unset, .unset] [(.long (fMaxL (fMaxL q0 q1) q2))])
    obtain ⟨s2, h_s2⟩ : ∃ z : Int64, z = (fMaxL (fMaxL q0 q1) q2) := ⟨_, rfl⟩
    refine Own.lstore hx s2 h_s2 #[.val (.long q0), .second, .val (.long q1), .second, .val (.long q2), .second, .val (.long q3), .second, .val (.long q4), .second, .val (.int p5), .val (.int (3 : Int32)), .val (.long s0), .second, .val (.long s1), .second, .val (.long s2), .second, .unset, .unset, .unset, .unset, .unset, .unset, .unset, .unset, .unset] (hb hby at_48) rfl rfl ?_
    refine Own.lload hx s0 (hb hby at_50) rfl rfl ?_
    refine Own.lload hx q3 (hb hby at_52) rfl rfl ?_
    refine Own.ldc2 hx hZ hown (255 : Int64) (hb hby at_54) rfl (hw _ (List.mem_of_getElem? (i := 7) rfl)) ?_
    refine Own.land hx (hb hby at_57) rfl ?_
    refine Own.callS hx hZ hown (hw _ (List.mem_of_getElem? (i := 8) rfl)) (hw _ (List.mem_of_getElem? (i := 9) rfl)) (hw _ (List.mem_of_getElem? (i := 10) rfl)) (hw _ (List.mem_of_getElem? (i := 11) rfl)) (by decide) pd0 (argsL := [(.long s0), (.long (q3 &&& (255 : Int64)))]) (rest := []) rfl (W := 0) (Nat.le_of_eq rfl) (rm := ({ frames := 0, cells := 0, slots := 0, locals := 0 } : Room)) (by decide) (by decide) (by decide) (by decide) (k' := 0) (n' := 0) rfl rfl (by rw [hml]; rfl) [(.long (q3 &&& (255 : Int64))), (.long s0)] rfl (hb hby at_58) (pc' := 61) rfl (rm3 l Z a0 hw s0 (q3 &&& (255 : Int64)) h0 n0) ?_
    rintro _ h' ⟨rfl, eh⟩
    rw [eh]; clear eh h'
    show Own.Goes _ _ _ _ _ _ _ _ _ _ _ _ _ _ _ _ _ (mkF m 61 #[.val (.long q0), .second, .val (.long q1), .second, .val (.long q2), .second, .val (.long q3), .second, .val (.long q4), .second, .val (.int p5), .val (.int (3 : Int32)), .val (.long s0), .second, .val (.long s1), .second, .val (.long s2), .second, .unset, .unset, .unset, .unset, .unset, .unset, .unset, .unset, .unset] [(.long (fBelow s0 (q3 &&& (255 : Int64))))])
    obtain ⟨f0, h_f0⟩ : ∃ z : Int64, z = (fBelow s0 (q3 &&& (255 : Int64))) := ⟨_, rfl⟩
    refine Own.lstore hx f0 h_f0 #[.val (.long q0), .second, .val (.long q1), .second, .val (.long q2), .second, .val (.long q3), .second, .val (.long q4), .second, .val (.int p5), .val (.int (3 : Int32)), .val (.long s0), .second, .val (.long s1), .second, .val (.long s2), .second, .val (.long f0), .second, .unset, .unset, .unset, .unset, .unset, .unset, .unset] (hb hby at_61) rfl rfl ?_
    refine Own.lload hx s0 (hb hby at_63) rfl rfl ?_
    refine Own.lload hx s1 (hb hby at_65) rfl rfl ?_
    refine Own.lload hx q3 (hb hby at_67) rfl rfl ?_
    refine Own.bipush hx (8 : Int32) (hb hby at_69) rfl (by decide) ?_
    refine Own.lushr hx (hb hby at_71) rfl ?_
    refine Own.ldc2 hx hZ hown (255 : Int64) (hb hby at_72) rfl (hw _ (List.mem_of_getElem? (i := 7) rfl)) ?_
    refine Own.land hx (hb hby at_75) rfl ?_
    refine Own.callS hx hZ hown (hw _ (List.mem_of_getElem? (i := 8) rfl)) (hw _ (List.mem_of_getElem? (i := 9) rfl)) (hw _ (List.mem_of_getElem? (i := 10) rfl)) (hw _ (List.mem_of_getElem? (i := 11) rfl)) (by decide) pd0 (argsL := [(.long s1), (.long ((q3.toUInt64 >>> ((8 : Int32) &&& 0x3f).toInt64.toUInt64).toInt64 &&& (255 : Int64)))]) (rest := [(.long s0)]) rfl (W := 2) (Nat.le_of_eq rfl) (rm := ({ frames := 0, cells := 0, slots := 0, locals := 0 } : Room)) (by decide) (by decide) (by decide) (by decide) (k' := 0) (n' := 0) rfl rfl (by rw [hml]; rfl) [(.long ((q3.toUInt64 >>> ((8 : Int32) &&& 0x3f).toInt64.toUInt64).toInt64 &&& (255 : Int64))), (.long s1), (.long s0)] rfl (hb hby at_76) (pc' := 79) rfl (rm3 l Z a0 hw s1 ((q3.toUInt64 >>> ((8 : Int32) &&& 0x3f).toInt64.toUInt64).toInt64 &&& (255 : Int64)) h0 n0) ?_
    rintro _ h' ⟨rfl, eh⟩
    rw [eh]; clear eh h'
    show Own.Goes _ _ _ _ _ _ _ _ _ _ _ _ _ _ _ _ _ (mkF m 79 #[.val (.long q0), .second, .val (.long q1), .second, .val (.long q2), .second, .val (.long q3), .second, .val (.long q4), .second, .val (.int p5), .val (.int (3 : Int32)), .val (.long s0), .second, .val (.long s1), .second, .val (.long s2), .second, .val (.long f0), .second, .unset, .unset, .unset, .unset, .unset, .unset, .unset] [(.long (fBelow s1 ((q3.toUInt64 >>> ((8 : Int32) &&& 0x3f).toInt64.toUInt64).toInt64 &&& (255 : Int64)))), (.long s0)])
    refine Own.callS hx hZ hown (hw _ (List.mem_of_getElem? (i := 4) rfl)) (hw _ (List.mem_of_getElem? (i := 5) rfl)) (hw _ (List.mem_of_getElem? (i := 2) rfl)) (hw _ (List.mem_of_getElem? (i := 6) rfl)) (by decide) pd0 (argsL := [(.long s0), (.long (fBelow s1 ((q3.toUInt64 >>> ((8 : Int32) &&& 0x3f).toInt64.toUInt64).toInt64 &&& (255 : Int64))))]) (rest := []) rfl (W := 0) (Nat.le_of_eq rfl) (rm := ({ frames := 0, cells := 0, slots := 0, locals := 0 } : Room)) (by decide) (by decide) (by decide) (by decide) (k' := 0) (n' := 0) rfl rfl (by rw [hml]; rfl) [(.long (fBelow s1 ((q3.toUInt64 >>> ((8 : Int32) &&& 0x3f).toInt64.toUInt64).toInt64 &&& (255 : Int64)))), (.long s0)] rfl (hb hby at_79) (pc' := 82) rfl (rm2 l Z a0 hw s0 (fBelow s1 ((q3.toUInt64 >>> ((8 : Int32) &&& 0x3f).toInt64.toUInt64).toInt64 &&& (255 : Int64))) h0 n0) ?_
    rintro _ h' ⟨rfl, eh⟩
    rw [eh]; clear eh h'
    show Own.Goes _ _ _ _ _ _ _ _ _ _ _ _ _ _ _ _ _ (mkF m 82 #[.val (.long q0), .second, .val (.long q1), .second, .val (.long q2), .second, .val (.long q3), .second, .val (.long q4), .second, .val (.int p5), .val (.int (3 : Int32)), .val (.long s0), .second, .val (.long s1), .second, .val (.long s2), .second, .val (.long f0), .second, .unset, .unset, .unset, .unset, .unset, .unset, .unset] [(.long (fMaxL s0 (fBelow s1 ((q3.toUInt64 >>> ((8 : Int32) &&& 0x3f).toInt64.toUInt64).toInt64 &&& (255 : Int64)))))])
    obtain ⟨f1, h_f1⟩ : ∃ z : Int64, z = (fMaxL s0 (fBelow s1 ((q3.toUInt64 >>> ((8 : Int32) &&& 0x3f).toInt64.toUInt64).toInt64 &&& (255 : Int64)))) := ⟨_, rfl⟩
    refine Own.lstore hx f1 h_f1 #[.val (.long q0), .second, .val (.long q1), .second, .val (.long q2), .second, .val (.long q3), .second, .val (.long q4), .second, .val (.int p5), .val (.int (3 : Int32)), .val (.long s0), .second, .val (.long s1), .second, .val (.long s2), .second, .val (.long f0), .second, .val (.long f1), .second, .unset, .unset, .unset, .unset, .unset] (hb hby at_82) rfl rfl ?_
    refine Own.lload hx s1 (hb hby at_84) rfl rfl ?_
    refine Own.lload hx s2 (hb hby at_86) rfl rfl ?_
    refine Own.lload hx q3 (hb hby at_88) rfl rfl ?_
    refine Own.bipush hx (16 : Int32) (hb hby at_90) rfl (by decide) ?_
    refine Own.lushr hx (hb hby at_92) rfl ?_
    refine Own.ldc2 hx hZ hown (255 : Int64) (hb hby at_93) rfl (hw _ (List.mem_of_getElem? (i := 7) rfl)) ?_
    refine Own.land hx (hb hby at_96) rfl ?_
    refine Own.callS hx hZ hown (hw _ (List.mem_of_getElem? (i := 8) rfl)) (hw _ (List.mem_of_getElem? (i := 9) rfl)) (hw _ (List.mem_of_getElem? (i := 10) rfl)) (hw _ (List.mem_of_getElem? (i := 11) rfl)) (by decide) pd0 (argsL := [(.long s2), (.long ((q3.toUInt64 >>> ((16 : Int32) &&& 0x3f).toInt64.toUInt64).toInt64 &&& (255 : Int64)))]) (rest := [(.long s1)]) rfl (W := 2) (Nat.le_of_eq rfl) (rm := ({ frames := 0, cells := 0, slots := 0, locals := 0 } : Room)) (by decide) (by decide) (by decide) (by decide) (k' := 0) (n' := 0) rfl rfl (by rw [hml]; rfl) [(.long ((q3.toUInt64 >>> ((16 : Int32) &&& 0x3f).toInt64.toUInt64).toInt64 &&& (255 : Int64))), (.long s2), (.long s1)] rfl (hb hby at_97) (pc' := 100) rfl (rm3 l Z a0 hw s2 ((q3.toUInt64 >>> ((16 : Int32) &&& 0x3f).toInt64.toUInt64).toInt64 &&& (255 : Int64)) h0 n0) ?_
    rintro _ h' ⟨rfl, eh⟩
    rw [eh]; clear eh h'
    show Own.Goes _ _ _ _ _ _ _ _ _ _ _ _ _ _ _ _ _ (mkF m 100 #[.val (.long q0), .second, .val (.long q1), .second, .val (.long q2), .second, .val (.long q3), .second, .val (.long q4), .second, .val (.int p5), .val (.int (3 : Int32)), .val (.long s0), .second, .val (.long s1), .second, .val (.long s2), .second, .val (.long f0), .second, .val (.long f1), .second, .unset, .unset, .unset, .unset, .unset] [(.long (fBelow s2 ((q3.toUInt64 >>> ((16 : Int32) &&& 0x3f).toInt64.toUInt64).toInt64 &&& (255 : Int64)))), (.long s1)])
    refine Own.callS hx hZ hown (hw _ (List.mem_of_getElem? (i := 4) rfl)) (hw _ (List.mem_of_getElem? (i := 5) rfl)) (hw _ (List.mem_of_getElem? (i := 2) rfl)) (hw _ (List.mem_of_getElem? (i := 6) rfl)) (by decide) pd0 (argsL := [(.long s1), (.long (fBelow s2 ((q3.toUInt64 >>> ((16 : Int32) &&& 0x3f).toInt64.toUInt64).toInt64 &&& (255 : Int64))))]) (rest := []) rfl (W := 0) (Nat.le_of_eq rfl) (rm := ({ frames := 0, cells := 0, slots := 0, locals := 0 } : Room)) (by decide) (by decide) (by decide) (by decide) (k' := 0) (n' := 0) rfl rfl (by rw [hml]; rfl) [(.long (fBelow s2 ((q3.toUInt64 >>> ((16 : Int32) &&& 0x3f).toInt64.toUInt64).toInt64 &&& (255 : Int64)))), (.long s1)] rfl (hb hby at_100) (pc' := 103) rfl (rm2 l Z a0 hw s1 (fBelow s2 ((q3.toUInt64 >>> ((16 : Int32) &&& 0x3f).toInt64.toUInt64).toInt64 &&& (255 : Int64))) h0 n0) ?_
    rintro _ h' ⟨rfl, eh⟩
    rw [eh]; clear eh h'
    show Own.Goes _ _ _ _ _ _ _ _ _ _ _ _ _ _ _ _ _ (mkF m 103 #[.val (.long q0), .second, .val (.long q1), .second, .val (.long q2), .second, .val (.long q3), .second, .val (.long q4), .second, .val (.int p5), .val (.int (3 : Int32)), .val (.long s0), .second, .val (.long s1), .second, .val (.long s2), .second, .val (.long f0), .second, .val (.long f1), .second, .unset, .unset, .unset, .unset, .unset] [(.long (fMaxL s1 (fBelow s2 ((q3.toUInt64 >>> ((16 : Int32) &&& 0x3f).toInt64.toUInt64).toInt64 &&& (255 : Int64)))))])
    obtain ⟨f2, h_f2⟩ : ∃ z : Int64, z = (fMaxL s1 (fBelow s2 ((q3.toUInt64 >>> ((16 : Int32) &&& 0x3f).toInt64.toUInt64).toInt64 &&& (255 : Int64)))) := ⟨_, rfl⟩
    refine Own.lstore hx f2 h_f2 #[.val (.long q0), .second, .val (.long q1), .second, .val (.long q2), .second, .val (.long q3), .second, .val (.long q4), .second, .val (.int p5), .val (.int (3 : Int32)), .val (.long s0), .second, .val (.long s1), .second, .val (.long s2), .second, .val (.long f0), .second, .val (.long f1), .second, .val (.long f2), .second, .unset, .unset, .unset] (hb hby at_103) rfl rfl ?_
    refine Own.iconst hx (2 : Int32) (hb hby at_105) rfl (by decide) ?_
    refine Own.iload hx (3 : Int32) (hb hby at_106) rfl rfl ?_
    refine Own.imul hx (hb hby at_108) rfl ?_
    refine Own.vI (6 : Int32) (by decide) ?_
    refine Own.newarr hx hZ O0 (aty := .long) (hw _ (List.mem_of_getElem? (i := 13) rfl)) 6 (by decide) [(.long (0 : Int64)), (.long (0 : Int64)), (.long (0 : Int64)), (.long (0 : Int64)), (.long (0 : Int64)), (.long (0 : Int64))] rfl rfl (cap := 6) (by decide) (by decide) (k' := 1) (n' := 6) rfl rfl (by decide) (by decide) (hb hby at_109) (pc' := 111) rfl ?_
    intro a70 h71 O72
    refine Own.astore hx #[.val (.long q0), .second, .val (.long q1), .second, .val (.long q2), .second, .val (.long q3), .second, .val (.long q4), .second, .val (.int p5), .val (.int (3 : Int32)), .val (.long s0), .second, .val (.long s1), .second, .val (.long s2), .second, .val (.long f0), .second, .val (.long f1), .second, .val (.long f2), .second, .val (.ref a70), .unset, .unset] (hb hby at_111) rfl rfl rfl ?_
    refine Own.iload hx (3 : Int32) (hb hby at_113) rfl rfl ?_
    refine Own.iconst hx (1 : Int32) (hb hby at_115) rfl (by decide) ?_
    have hc73 : ¬ ((3 : Int32) < (1 : Int32)) := by decide
    refine Own.icmpF hx (Own.q_lt (3 : Int32) (1 : Int32)) (hb hby at_116) (pcN := 119) rfl (by decide) (pcT := 131) rfl (fun q => absurd q hc73) (fun _ => ?_)
    refine Own.aload hx (.ref a70) (hb hby at_119) rfl rfl rfl ?_
    refine Own.iconst hx (0 : Int32) (hb hby at_121) rfl (by decide) ?_
    refine Own.lload hx f0 (hb hby at_122) rfl rfl ?_
    refine Own.lastore hx hZ O72 0 0 rfl (by decide) (by exact (show 0 < 6 by decide)) ((a70, Own.ArrC Z .long [(.long f0), (.long (0 : Int64)), (.long (0 : Int64)), (.long (0 : Int64)), (.long (0 : Int64)), (.long (0 : Int64))]) :: []) rfl (hb hby at_124) rfl ?_
    intro h75 O76
    refine Own.aload hx (.ref a70) (hb hby at_125) rfl rfl rfl ?_
    refine Own.iconst hx (1 : Int32) (hb hby at_127) rfl (by decide) ?_
    refine Own.lload hx s0 (hb hby at_128) rfl rfl ?_
    refine Own.lastore hx hZ O76 0 1 rfl (by decide) (by exact (show 1 < 6 by decide)) ((a70, Own.ArrC Z .long [(.long f0), (.long s0), (.long (0 : Int64)), (.long (0 : Int64)), (.long (0 : Int64)), (.long (0 : Int64))]) :: []) rfl (hb hby at_130) rfl ?_
    intro h77 O78
    refine Own.iload hx (3 : Int32) (hb hby at_131) rfl rfl ?_
    refine Own.iconst hx (2 : Int32) (hb hby at_133) rfl (by decide) ?_
    have hc79 : ¬ ((3 : Int32) < (2 : Int32)) := by decide
    refine Own.icmpF hx (Own.q_lt (3 : Int32) (2 : Int32)) (hb hby at_134) (pcN := 137) rfl (by decide) (pcT := 149) rfl (fun q => absurd q hc79) (fun _ => ?_)
    refine Own.aload hx (.ref a70) (hb hby at_137) rfl rfl rfl ?_
    refine Own.iconst hx (2 : Int32) (hb hby at_139) rfl (by decide) ?_
    refine Own.lload hx f1 (hb hby at_140) rfl rfl ?_
    refine Own.lastore hx hZ O78 0 2 rfl (by decide) (by exact (show 2 < 6 by decide)) ((a70, Own.ArrC Z .long [(.long f0), (.long s0), (.long f1), (.long (0 : Int64)), (.long (0 : Int64)), (.long (0 : Int64))]) :: []) rfl (hb hby at_142) rfl ?_
    intro h81 O82
    refine Own.aload hx (.ref a70) (hb hby at_143) rfl rfl rfl ?_
    refine Own.iconst hx (3 : Int32) (hb hby at_145) rfl (by decide) ?_
    refine Own.lload hx s1 (hb hby at_146) rfl rfl ?_
    refine Own.lastore hx hZ O82 0 3 rfl (by decide) (by exact (show 3 < 6 by decide)) ((a70, Own.ArrC Z .long [(.long f0), (.long s0), (.long f1), (.long s1), (.long (0 : Int64)), (.long (0 : Int64))]) :: []) rfl (hb hby at_148) rfl ?_
    intro h83 O84
    refine Own.iload hx (3 : Int32) (hb hby at_149) rfl rfl ?_
    refine Own.iconst hx (3 : Int32) (hb hby at_151) rfl (by decide) ?_
    have hc85 : ¬ ((3 : Int32) < (3 : Int32)) := by decide
    refine Own.icmpF hx (Own.q_lt (3 : Int32) (3 : Int32)) (hb hby at_152) (pcN := 155) rfl (by decide) (pcT := 167) rfl (fun q => absurd q hc85) (fun _ => ?_)
    refine Own.aload hx (.ref a70) (hb hby at_155) rfl rfl rfl ?_
    refine Own.iconst hx (4 : Int32) (hb hby at_157) rfl (by decide) ?_
    refine Own.lload hx f2 (hb hby at_158) rfl rfl ?_
    refine Own.lastore hx hZ O84 0 4 rfl (by decide) (by exact (show 4 < 6 by decide)) ((a70, Own.ArrC Z .long [(.long f0), (.long s0), (.long f1), (.long s1), (.long f2), (.long (0 : Int64))]) :: []) rfl (hb hby at_160) rfl ?_
    intro h87 O88
    refine Own.aload hx (.ref a70) (hb hby at_161) rfl rfl rfl ?_
    refine Own.iconst hx (5 : Int32) (hb hby at_163) rfl (by decide) ?_
    refine Own.lload hx s2 (hb hby at_164) rfl rfl ?_
    refine Own.lastore hx hZ O88 0 5 rfl (by decide) (by exact (show 5 < 6 by decide)) ((a70, Own.ArrC Z .long [(.long f0), (.long s0), (.long f1), (.long s1), (.long f2), (.long s2)]) :: []) rfl (hb hby at_166) rfl ?_
    intro h89 O90
    refine Own.aload hx (.ref a70) (hb hby at_167) rfl rfl rfl ?_
    refine Own.lload hx q4 (hb hby at_169) rfl rfl ?_
    refine Own.callS hx hZ hown (hw _ (List.mem_of_getElem? (i := 14) rfl)) (hw _ (List.mem_of_getElem? (i := 15) rfl)) (hw _ (List.mem_of_getElem? (i := 16) rfl)) (hw _ (List.mem_of_getElem? (i := 17) rfl)) (by decide) pd1 (argsL := [(.ref a70), (.long q4)]) (rest := []) rfl (W := 0) (Nat.le_of_eq rfl) (rm := ({ frames := 0, cells := 0, slots := 0, locals := 0 } : Room)) (by decide) (by decide) (by decide) (by decide) (k' := 1) (n' := 6) rfl rfl (by rw [hml]; rfl) [(.long q4), (.ref a70)] rfl (hb hby at_171) (pc' := 174) rfl (rm4_3 l Z a0 hw a70 q4 h89 n0 f0 s0 f1 s1 f2 s2 ([]) O90) ?_
    rintro _ h' ⟨rfl, eh⟩
    rw [eh]; clear eh h'
    show Own.Goes _ _ _ _ _ _ _ _ _ _ _ _ _ _ _ _ _ (mkF m 174 #[.val (.long q0), .second, .val (.long q1), .second, .val (.long q2), .second, .val (.long q3), .second, .val (.long q4), .second, .val (.int p5), .val (.int (3 : Int32)), .val (.long s0), .second, .val (.long s1), .second, .val (.long s2), .second, .val (.long f0), .second, .val (.long f1), .second, .val (.long f2), .second, .val (.ref a70), .unset, .unset] [(.int (fSR3 s0 s1 s2 q4))])
    obtain ⟨got, h_got⟩ : ∃ z : Int32, z = (fSR3 s0 s1 s2 q4) := ⟨_, rfl⟩
    refine Own.istore hx got h_got #[.val (.long q0), .second, .val (.long q1), .second, .val (.long q2), .second, .val (.long q3), .second, .val (.long q4), .second, .val (.int p5), .val (.int (3 : Int32)), .val (.long s0), .second, .val (.long s1), .second, .val (.long s2), .second, .val (.long f0), .second, .val (.long f1), .second, .val (.long f2), .second, .val (.ref a70), .val (.int got), .unset] (hb hby at_174) rfl rfl ?_
    refine Own.iload hx (3 : Int32) (hb hby at_176) rfl rfl ?_
    have hc91 : ¬ ((3 : Int32) = (0 : Int32)) := by decide
    refine Own.ifFn hx (Own.z_ne (3 : Int32)) (hb hby at_178) (pcN := 181) rfl (by decide) (pcT := 187) rfl (fun _ => ?_) (fun q => absurd q hc91)
    refine Own.lload hx s0 (hb hby at_187) rfl rfl ?_
    refine Own.lload hx q4 (hb hby at_189) rfl rfl ?_
    refine Own.lcmp hx (hb hby at_191) rfl ?_
    obtain ⟨ex, h_ex⟩ : ∃ z : Int32, z = (if s0 < q4 then (if s1 < q4 then (if s2 < q4 then (6 : Int32) else (4 : Int32)) else (2 : Int32)) else (0 : Int32)) := ⟨_, rfl⟩
    refine Own.Goes.join (mkF m 257 #[.val (.long q0), .second, .val (.long q1), .second, .val (.long q2), .second, .val (.long q3), .second, .val (.long q4), .second, .val (.int p5), .val (.int (3 : Int32)), .val (.long s0), .second, .val (.long s1), .second, .val (.long s2), .second, .val (.long f0), .second, .val (.long f1), .second, .val (.long f2), .second, .val (.ref a70), .val (.int got), .val (.int ex)] []) (fun kJ100 => ?_) ?_
    · refine Own.ifF hx (Own.w_lt s0 q4) (hb hby at_192) (pcN := 195) rfl (by decide) (pcT := 201) rfl (fun hc93 => ?_) (fun hc93 => ?_)
      · refine Own.iload hx (3 : Int32) (hb hby at_201) rfl rfl ?_
        refine Own.iconst hx (1 : Int32) (hb hby at_203) rfl (by decide) ?_
        have hc101 : ¬ ((3 : Int32) = (1 : Int32)) := by decide
        refine Own.icmpFn hx (Own.q_ne (3 : Int32) (1 : Int32)) (hb hby at_204) (pcN := 207) rfl (by decide) (pcT := 213) rfl (fun _ => ?_) (fun q => absurd q hc101)
        refine Own.lload hx s1 (hb hby at_213) rfl rfl ?_
        refine Own.lload hx q4 (hb hby at_215) rfl rfl ?_
        refine Own.lcmp hx (hb hby at_217) rfl ?_
        refine Own.ifF hx (Own.w_lt s1 q4) (hb hby at_218) (pcN := 221) rfl (by decide) (pcT := 227) rfl (fun hc103 => ?_) (fun hc103 => ?_)
        · refine Own.iload hx (3 : Int32) (hb hby at_227) rfl rfl ?_
          refine Own.iconst hx (2 : Int32) (hb hby at_229) rfl (by decide) ?_
          have hc104 : ¬ ((3 : Int32) = (2 : Int32)) := by decide
          refine Own.icmpFn hx (Own.q_ne (3 : Int32) (2 : Int32)) (hb hby at_230) (pcN := 233) rfl (by decide) (pcT := 239) rfl (fun _ => ?_) (fun q => absurd q hc104)
          refine Own.lload hx s2 (hb hby at_239) rfl rfl ?_
          refine Own.lload hx q4 (hb hby at_241) rfl rfl ?_
          refine Own.lcmp hx (hb hby at_243) rfl ?_
          refine Own.ifF hx (Own.w_lt s2 q4) (hb hby at_244) (pcN := 247) rfl (by decide) (pcT := 253) rfl (fun hc106 => ?_) (fun hc106 => ?_)
          · refine Own.bipush hx (6 : Int32) (hb hby at_253) rfl (by decide) ?_
            refine Own.istore hx (6 : Int32) rfl #[.val (.long q0), .second, .val (.long q1), .second, .val (.long q2), .second, .val (.long q3), .second, .val (.long q4), .second, .val (.int p5), .val (.int (3 : Int32)), .val (.long s0), .second, .val (.long s1), .second, .val (.long s2), .second, .val (.long f0), .second, .val (.long f1), .second, .val (.long f2), .second, .val (.ref a70), .val (.int got), .val (.int (6 : Int32))] (hb hby at_255) rfl rfl ?_
            try simp only [if_pos hc93, if_pos hc103, if_pos hc106] at h_ex
            subst h_ex
            exact kJ100
          · refine Own.iconst hx (4 : Int32) (hb hby at_247) rfl (by decide) ?_
            refine Own.istore hx (4 : Int32) rfl #[.val (.long q0), .second, .val (.long q1), .second, .val (.long q2), .second, .val (.long q3), .second, .val (.long q4), .second, .val (.int p5), .val (.int (3 : Int32)), .val (.long s0), .second, .val (.long s1), .second, .val (.long s2), .second, .val (.long f0), .second, .val (.long f1), .second, .val (.long f2), .second, .val (.ref a70), .val (.int got), .val (.int (4 : Int32))] (hb hby at_248) rfl rfl ?_
            refine Own.goto hx (hb hby at_250) (by decide) (pc' := 257) rfl ?_
            try simp only [if_pos hc93, if_pos hc103, if_neg hc106] at h_ex
            subst h_ex
            exact kJ100
        · refine Own.iconst hx (2 : Int32) (hb hby at_221) rfl (by decide) ?_
          refine Own.istore hx (2 : Int32) rfl #[.val (.long q0), .second, .val (.long q1), .second, .val (.long q2), .second, .val (.long q3), .second, .val (.long q4), .second, .val (.int p5), .val (.int (3 : Int32)), .val (.long s0), .second, .val (.long s1), .second, .val (.long s2), .second, .val (.long f0), .second, .val (.long f1), .second, .val (.long f2), .second, .val (.ref a70), .val (.int got), .val (.int (2 : Int32))] (hb hby at_222) rfl rfl ?_
          refine Own.goto hx (hb hby at_224) (by decide) (pc' := 257) rfl ?_
          try simp only [if_pos hc93, if_neg hc103] at h_ex
          subst h_ex
          exact kJ100
      · refine Own.iconst hx (0 : Int32) (hb hby at_195) rfl (by decide) ?_
        refine Own.istore hx (0 : Int32) rfl #[.val (.long q0), .second, .val (.long q1), .second, .val (.long q2), .second, .val (.long q3), .second, .val (.long q4), .second, .val (.int p5), .val (.int (3 : Int32)), .val (.long s0), .second, .val (.long s1), .second, .val (.long s2), .second, .val (.long f0), .second, .val (.long f1), .second, .val (.long f2), .second, .val (.ref a70), .val (.int got), .val (.int (0 : Int32))] (hb hby at_196) rfl rfl ?_
        refine Own.goto hx (hb hby at_198) (by decide) (pc' := 257) rfl ?_
        try simp only [if_neg hc93] at h_ex
        subst h_ex
        exact kJ100
    refine Own.iload hx got (hb hby at_257) rfl rfl ?_
    refine Own.iload hx ex (hb hby at_259) rfl rfl ?_
    obtain ⟨z, h_z⟩ : ∃ z : Int32, z = (if got = ex then (1 : Int32) else (0 : Int32)) := ⟨_, rfl⟩
    refine Own.Goes.join (mkF m 269 #[.val (.long q0), .second, .val (.long q1), .second, .val (.long q2), .second, .val (.long q3), .second, .val (.long q4), .second, .val (.int p5), .val (.int (3 : Int32)), .val (.long s0), .second, .val (.long s1), .second, .val (.long s2), .second, .val (.long f0), .second, .val (.long f1), .second, .val (.long f2), .second, .val (.ref a70), .val (.int got), .val (.int ex)] [(.int z)]) (fun kJ108 => ?_) ?_
    · refine Own.icmpFn hx (Own.q_ne got ex) (hb hby at_261) (pcN := 264) rfl (by decide) (pcT := 268) rfl (fun hc107 => ?_) (fun hc107 => ?_)
      · refine Own.iconst hx (0 : Int32) (hb hby at_268) rfl (by decide) ?_
        try simp only [if_neg hc107] at h_z
        subst h_z
        exact kJ108
      · refine Own.iconst hx (1 : Int32) (hb hby at_264) rfl (by decide) ?_
        refine Own.goto hx (hb hby at_265) (by decide) (pc' := 269) rfl ?_
        try simp only [if_pos hc107] at h_z
        subst h_z
        exact kJ108
    exact Own.retS hx hret (by simp) hlk (hb hby at_269) (by decide) (by decide) (Own.bool1 (own_fin3 (own_sorted h_s0 h_s1 h_s2) h_got h_ex h_z))

set_option maxRecDepth 65536 in
set_option maxHeartbeats 40000000 in
theorem comes_1 {Post : Tables → Env → Array Value → State → Outcome → State → Prop} (hpost : ∀ tb e args s v u, (limb_1_1.after args s (.returned v) u = true ∧ limb_1_2.after args s (.returned v) u = true ∧ True) → FrameEnd s (.returned v) u (Jvm.fieldLocs frame_1_writes args s ++ Jvm.arrayLocs frame_1_arrays args s ++ Jvm.staticLocs frame_1_statics s) 16 128 → Post tb e args s (.returned v) u) :
    ArmFor flags0 classFile x code maxLocals ret World_1 tables_1 room_1 Calls_1 rest_1 Pre_1 Post := by
  intro l hfl _ _ p e ha hc hk s m args below hf hA hF happ hP
  obtain ⟨hcalls, hrest, hpre⟩ := hP
  obtain ⟨-, -, -, hnamed, -, -, -, hat⟩ := (Spec.applies_iff hf).mp happ
  obtain ⟨hg, hn⟩ := and_e (Cond.before_iff.mp (show (Jvm.Cond.and given_1 narrow_1).before args s = true from hpre))
  obtain ⟨h1, g0⟩ := and_e hg
  obtain ⟨q0, g1⟩ := and_e g0
  obtain ⟨q1, g2⟩ := and_e g1
  obtain ⟨q2, g3⟩ := and_e g2
  obtain ⟨q3, g4⟩ := and_e g3
  obtain ⟨q4, g5⟩ := and_e g4
  have q5 := g5
  obtain ⟨w0, w1, w2, w3, w4, w5, rfl⟩ : ∃ w0 w1 w2 w3 w4 w5 : Value, args = #[w0, w1, w2, w3, w4, w5] := by
    have hs : args.size = 6 := by simpa [Cond.value, given_1] using h1
    obtain ⟨L⟩ := args
    match L, hs with
    | [w0, w1, w2, w3, w4, w5], _ => exact ⟨w0, w1, w2, w3, w4, w5, rfl⟩
  have hw := fun d (hd : d ∈ tables_1) => atoms_spec (ws := Jvm.Cond.code x code maxLocals ret :: tables_1) hat d (List.mem_cons_of_mem _ hd)
  obtain ⟨i0, e0⟩ := isL_v q0
  obtain rfl : w0 = (.long i0) := Option.some.inj e0
  obtain ⟨i1, e1⟩ := isL_v q1
  obtain rfl : w1 = (.long i1) := Option.some.inj e1
  obtain ⟨i2, e2⟩ := isL_v q2
  obtain rfl : w2 = (.long i2) := Option.some.inj e2
  obtain ⟨i3, e3⟩ := isL_v q3
  obtain rfl : w3 = (.long i3) := Option.some.inj e3
  obtain ⟨i4, e4⟩ := isL_v q4
  obtain rfl : w4 = (.long i4) := Option.some.inj e4
  obtain ⟨i5, e5⟩ := is_v q5
  obtain rfl : w5 = (.int i5) := Option.some.inj e5
  obtain ⟨n, o, h1, h2, h3, _, L, rfl, ⟨rfl, N⟩, hq⟩ := rm0 l s _ hw i0 i1 i2 i3 i4 i5 s.heap s.heap.size (Own.Owns.nil (Nat.le_refl _)) p e ha hc hk s m _ below hf ((Spec.applies_iff_loose hf).mp happ).1 ⟨rfl, State.Warmed39.refl s, rfl⟩ trivial
  refine ⟨n, _, h1, h2, h3, hpost _ _ _ _ _ _ ⟨Cond.after_iff.mpr rfl, Cond.after_iff.mpr (eq_i res_at (Term.int_eval (1)) rfl), trivial⟩ ⟨hq.1, hq.2.1, (hq.2.2.sift fun y hy => Or.inr (N y hy)).mono (by decide) (by decide)⟩⟩
theorem main_1_1 : Claimed_1_1 := comes_1 fun _ _ _ _ _ _ h hF => ⟨h.1, hF⟩
theorem main_1_2 : Claimed_1_2 := comes_1 fun _ _ _ _ _ _ h hF => ⟨h.2.1, hF⟩
end Jvm.Pilot.@@N@@
namespace Jvm.Pilot.@@N@@
open Jvm Jvm.ClassFile Sem Op Lib Jvm.Free Jvm.Stand Jvm.Pilot.@@N@@.Jvm.D
/-! MADE BY PROGRAM (witnessworld.py) out of the Statement's table words and the real class files: 12 classes; the members and pool entries that the words name. The judged class is class 1, her method 1. -/
namespace start1
open Jvm.ClassFile
def u (s : String) : CpInfo := .utf8 (stringToUtf16 s)
/-- a pool by its gaps: so many unusable entries, then the entry; so many at the end -/
def gap : Nat → List CpInfo → List CpInfo
  | 0, r => r
  | n + 1, r => .unusable :: gap n r
def poolList (es : List (Nat × CpInfo)) (last : Nat) : List CpInfo := es.foldr (fun e r => gap e.1 (e.2 :: r)) (gap last [])
def pool (es : List (Nat × CpInfo)) (last : Nat) : Array CpInfo := ⟨poolList es last⟩
def fileOf (pool : Array CpInfo) (this : Nat) (attrs : Array Attribute := #[]) (ms : Array MethodInfo := #[]) (fl : Nat := 33) (sup : Nat := 0) (ifs : Array Nat := #[]) (fds : Array FieldInfo := #[]) : ClassFile where
  minorVersion := 0
  majorVersion := 65
  constantPool := pool
  accessFlags := fl
  thisClass := this
  superClass := sup
  interfaces := ifs
  fields := fds
  methods := ms
  attributes := attrs
def plain (name : String) (sup : Option ClassId) : Class where
  name := name
  kind := .ordinary
  loader := none
  accessFlags := 33
  super := sup
  interfaces := #[]
  cf := none
  fields := #[]
  methods := #[]
  instanceTypes := #[]
  staticTypes := #[]
  resolved := #[]
  callSites := []
  init := .initialized
  statics := none
  mirror := none

def pool0 : Array CpInfo := pool [(5, u "<init>"), (0, u "()V"), (1, .class_ 10), (1, u "java/lang/Object")] 113

def k0m0 : Method := { name := "<init>", desc := "()V", sig := { parameters := [], returnType := none }, accessFlags := 1, code := none }
/-- java/lang/Object -/
def k0 : Class := { plain "java/lang/Object" none with
  accessFlags := 33
  interfaces := #[]
  cf := some (fileOf pool0 8 #[] #[{ accessFlags := 1, nameIndex := 5, descriptorIndex := 6, attributes := #[] }] 33 0 #[] #[])
  fields := #[]
  methods := #[k0m0]
  instanceTypes := #[]
  staticTypes := #[]
  resolved := Array.replicate 124 none
  statics := none }

def pool1 : Array CpInfo := pool [(2, .class_ 4), (1, u "java/lang/Object"), (0, u "<init>"), (0, u "()V"), (0, .methodref 8 9), (0, .class_ 10), (0, .nameAndType 11 12), (0, u "java/lang/Math"), (0, u "min"), (0, u "(JJ)J"), (0, .methodref 8 14), (0, .nameAndType 15 12), (0, u "max"), (0, .long 255), (1, .methodref 19 20), (0, .class_ 21), (0, .nameAndType 22 12), (0, u "com/example/tracewarden/tracewarden/monitor/GroupsStretchReachingPinLaw"), (0, u "below"), (0, .methodref 24 25), (0, .class_ 26), (0, .nameAndType 27 28), (0, u "com/example/tracewarden/tracewarden/monitor/Groups"), (0, u "stretchReaching"), (0, u "([JJ)I"), (2, .long 9223372036854775808), (3, u "law"), (0, u "(JJJJJI)Z")] 5

def k1m0 : Method := { name := "<init>", desc := "()V", sig := { parameters := [], returnType := none }, accessFlags := 1, code := none }
def k1c1 : Code := { maxStack := 8, maxLocals := 27, code := code, exceptionTable := #[], attributes := #[] }
def k1m1 : Method := { name := "law", desc := "(JJJJJI)Z", sig := { parameters := [.long, .long, .long, .long, .long, .int], returnType := some .boolean }, accessFlags := 9, code := some k1c1 }
def k1c2 : Code := { maxStack := 6, maxLocals := 4, code := method_3_code, exceptionTable := #[], attributes := #[] }
def k1m2 : Method := { name := "below", desc := "(JJ)J", sig := { parameters := [.long, .long], returnType := some .long }, accessFlags := 10, code := some k1c2 }
/-- com/example/tracewarden/tracewarden/monitor/GroupsStretchReachingPinLaw -/
def k1 : Class := { plain "com/example/tracewarden/tracewarden/monitor/GroupsStretchReachingPinLaw" (some 0) with
  accessFlags := 49
  interfaces := #[]
  cf := some (fileOf pool1 19 #[] #[{ accessFlags := 1, nameIndex := 5, descriptorIndex := 6, attributes := #[] }, { accessFlags := 9, nameIndex := 35, descriptorIndex := 36, attributes := #[] }, { accessFlags := 10, nameIndex := 22, descriptorIndex := 12, attributes := #[] }] 49 2 #[] #[])
  fields := #[]
  methods := #[k1m0, k1m1, k1m2]
  instanceTypes := #[]
  staticTypes := #[]
  resolved := Array.replicate 42 none
  statics := none }

def pool2 : Array CpInfo := pool [(1, .class_ 2), (0, u "java/lang/Math"), (1, .class_ 6), (1, u "java/lang/Object"), (0, u "<init>"), (0, u "()V"), (89, .class_ 100), (1, u "java/lang/Math$RandomNumberGeneratorHolder"), (20, u "(JJ)J"), (50, u "negativeZeroFloatBits"), (0, u "J"), (2, u "negativeZeroDoubleBits"), (21, u "max"), (2, u "min"), (43, u "$assertionsDisabled"), (0, u "Z"), (91, u "twoToTheDoubleScaleDown"), (0, u "D"), (4, u "twoToTheDoubleScaleUp"), (9, u "E"), (3, u "PI"), (2, u "TAU"), (2, u "DEGREES_TO_RADIANS"), (0, u "RADIANS_TO_DEGREES")] 94

def k2m0 : Method := { name := "<init>", desc := "()V", sig := { parameters := [], returnType := none }, accessFlags := 2, code := none }
def k2c1 : Code := { maxStack := 4, maxLocals := 4, code := jdk_29_method_66_code, exceptionTable := #[], attributes := #[] }
def k2m1 : Method := { name := "max", desc := "(JJ)J", sig := { parameters := [.long, .long], returnType := some .long }, accessFlags := 9, code := some k2c1 }
def k2c2 : Code := { maxStack := 4, maxLocals := 4, code := jdk_29_method_70_code, exceptionTable := #[], attributes := #[] }
def k2m2 : Method := { name := "min", desc := "(JJ)J", sig := { parameters := [.long, .long], returnType := some .long }, accessFlags := 9, code := some k2c2 }
/-- java/lang/Math -/
def k2 : Class := { plain "java/lang/Math" (some 0) with
  accessFlags := 49
  interfaces := #[]
  cf := some (fileOf pool2 1 #[.nestMembers #[98]] #[{ accessFlags := 2, nameIndex := 7, descriptorIndex := 8, attributes := #[] }, { accessFlags := 9, nameIndex := 198, descriptorIndex := 121, attributes := #[] }, { accessFlags := 9, nameIndex := 201, descriptorIndex := 121, attributes := #[] }] 49 4 #[] #[{ accessFlags := 25, nameIndex := 354, descriptorIndex := 339, attributes := #[] }, { accessFlags := 25, nameIndex := 358, descriptorIndex := 339, attributes := #[] }, { accessFlags := 25, nameIndex := 361, descriptorIndex := 339, attributes := #[] }, { accessFlags := 26, nameIndex := 364, descriptorIndex := 339, attributes := #[] }, { accessFlags := 26, nameIndex := 365, descriptorIndex := 339, attributes := #[] }, { accessFlags := 26, nameIndex := 172, descriptorIndex := 173, attributes := #[] }, { accessFlags := 26, nameIndex := 176, descriptorIndex := 173, attributes := #[] }, { accessFlags := 8, nameIndex := 344, descriptorIndex := 339, attributes := #[] }, { accessFlags := 8, nameIndex := 338, descriptorIndex := 339, attributes := #[] }, { accessFlags := 4120, nameIndex := 245, descriptorIndex := 246, attributes := #[] }])
  fields := #[{ name := "E", type := .double, accessFlags := 25, slot := 0, constantValue := 0 }, { name := "PI", type := .double, accessFlags := 25, slot := 1, constantValue := 0 }, { name := "TAU", type := .double, accessFlags := 25, slot := 2, constantValue := 0 }, { name := "DEGREES_TO_RADIANS", type := .double, accessFlags := 26, slot := 3, constantValue := 0 }, { name := "RADIANS_TO_DEGREES", type := .double, accessFlags := 26, slot := 4, constantValue := 0 }, { name := "negativeZeroFloatBits", type := .long, accessFlags := 26, slot := 5, constantValue := 0 }, { name := "negativeZeroDoubleBits", type := .long, accessFlags := 26, slot := 6, constantValue := 0 }, { name := "twoToTheDoubleScaleUp", type := .double, accessFlags := 8, slot := 7, constantValue := 0 }, { name := "twoToTheDoubleScaleDown", type := .double, accessFlags := 8, slot := 8, constantValue := 0 }, { name := "$assertionsDisabled", type := .boolean, accessFlags := 4120, slot := 9, constantValue := 0 }]
  methods := #[k2m0, k2m1, k2m2]
  instanceTypes := #[]
  staticTypes := #[.double, .double, .double, .double, .double, .long, .long, .double, .double, .boolean]
  resolved := Array.replicate 460 none
  statics := none }

def pool3 : Array CpInfo := pool [(2, .class_ 4), (1, u "java/lang/Object"), (6, .class_ 13), (1, u "com/example/tracewarden/tracewarden/monitor/Groups"), (0, u "open"), (0, u "Ljava/util/List;"), (2, u "left"), (2, u "groupAt"), (0, u "[I"), (2, u "groupAtIn"), (0, u "[J"), (2, u "program"), (0, u "Lcom/example/tracewarden/tracewarden/monitor/Groups$Evaluator;"), (2, u "overParameters"), (0, u "Z"), (2, u "awaitsInstances"), (2, u "members"), (0, u "Lcom/example/tracewarden/tracewarden/monitor/Groups$Members;"), (5, .class_ 49), (1, u "com/example/tracewarden/tracewarden/monitor/Groups$Evaluator"), (111, u "cells"), (0, u "J"), (8, .class_ 173), (1, u "com/example/tracewarden/tracewarden/monitor/Groups$Members"), (102, u "stretchReaching"), (0, u "([JJ)I"), (45, u "NO_MOVES")] 88

def k3c0 : Code := { maxStack := 4, maxLocals := 6, code := prog_57_method_18_code, exceptionTable := #[], attributes := #[] }
def k3m0 : Method := { name := "stretchReaching", desc := "([JJ)I", sig := { parameters := [(.array .long), .long], returnType := some .int }, accessFlags := 8, code := some k3c0 }
/-- com/example/tracewarden/tracewarden/monitor/Groups -/
def k3 : Class := { plain "com/example/tracewarden/tracewarden/monitor/Groups" (some 0) with
  accessFlags := 48
  interfaces := #[]
  cf := some (fileOf pool3 11 #[.nestMembers #[47, 171]] #[{ accessFlags := 8, nameIndex := 276, descriptorIndex := 277, attributes := #[] }] 48 2 #[] #[{ accessFlags := 24, nameIndex := 323, descriptorIndex := 26, attributes := #[] }, { accessFlags := 18, nameIndex := 29, descriptorIndex := 30, attributes := #[] }, { accessFlags := 18, nameIndex := 33, descriptorIndex := 34, attributes := #[] }, { accessFlags := 18, nameIndex := 37, descriptorIndex := 34, attributes := #[] }, { accessFlags := 18, nameIndex := 40, descriptorIndex := 41, attributes := #[] }, { accessFlags := 2, nameIndex := 14, descriptorIndex := 15, attributes := #[] }, { accessFlags := 2, nameIndex := 18, descriptorIndex := 15, attributes := #[] }, { accessFlags := 2, nameIndex := 161, descriptorIndex := 162, attributes := #[] }, { accessFlags := 2, nameIndex := 21, descriptorIndex := 22, attributes := #[] }, { accessFlags := 2, nameIndex := 25, descriptorIndex := 26, attributes := #[] }])
  fields := #[{ name := "NO_MOVES", type := (.array .long), accessFlags := 24, slot := 0, constantValue := 0 }, { name := "program", type := (.object "com/example/tracewarden/tracewarden/monitor/Groups$Evaluator"), accessFlags := 18, slot := 0, constantValue := 0 }, { name := "overParameters", type := .boolean, accessFlags := 18, slot := 1, constantValue := 0 }, { name := "awaitsInstances", type := .boolean, accessFlags := 18, slot := 2, constantValue := 0 }, { name := "members", type := (.object "com/example/tracewarden/tracewarden/monitor/Groups$Members"), accessFlags := 18, slot := 3, constantValue := 0 }, { name := "open", type := (.object "java/util/List"), accessFlags := 2, slot := 4, constantValue := 0 }, { name := "left", type := (.object "java/util/List"), accessFlags := 2, slot := 5, constantValue := 0 }, { name := "cells", type := .long, accessFlags := 2, slot := 6, constantValue := 0 }, { name := "groupAt", type := (.array .int), accessFlags := 2, slot := 7, constantValue := 0 }, { name := "groupAtIn", type := (.array .long), accessFlags := 2, slot := 8, constantValue := 0 }]
  methods := #[k3m0]
  instanceTypes := #[(.object "com/example/tracewarden/tracewarden/monitor/Groups$Evaluator"), .boolean, .boolean, (.object "com/example/tracewarden/tracewarden/monitor/Groups$Members"), (.object "java/util/List"), (.object "java/util/List"), .long, (.array .int), (.array .long)]
  staticTypes := #[(.array .long)]
  resolved := Array.replicate 412 none
  statics := none }

def pool4 : Array CpInfo := pool [(1, u "java/lang/Cloneable"), (0, .class_ 1), (0, u "java/lang/Object"), (0, .class_ 3)] 3

/-- java/lang/Cloneable -/
def k4 : Class := { plain "java/lang/Cloneable" (some 0) with
  accessFlags := 1537
  interfaces := #[]
  cf := some (fileOf pool4 2 #[] #[] 1537 4 #[] #[])
  fields := #[]
  methods := #[]
  instanceTypes := #[]
  staticTypes := #[]
  resolved := Array.replicate 8 none
  statics := none }

def pool5 : Array CpInfo := pool [(1, u "java/io/Serializable"), (0, .class_ 1), (0, u "java/lang/Object"), (0, .class_ 3)] 3

/-- java/io/Serializable -/
def k5 : Class := { plain "java/io/Serializable" (some 0) with
  accessFlags := 1537
  interfaces := #[]
  cf := some (fileOf pool5 2 #[] #[] 1537 4 #[] #[])
  fields := #[]
  methods := #[]
  instanceTypes := #[]
  staticTypes := #[]
  resolved := Array.replicate 8 none
  statics := none }

/-- the primitive byte -/
def k6 : Class := { plain "byte" none with kind := .primitive 'B', accessFlags := 0x411 }
/-- [B -/
def k7 : Class := { plain "[B" (some 0) with kind := .array 6 .byte, interfaces := #[4, 5], accessFlags := 1041 }

/-- the primitive int -/
def k8 : Class := { plain "int" none with kind := .primitive 'I', accessFlags := 0x411 }
/-- [I -/
def k9 : Class := { plain "[I" (some 0) with kind := .array 8 .int, interfaces := #[4, 5], accessFlags := 1041 }

/-- the primitive long -/
def k10 : Class := { plain "long" none with kind := .primitive 'J', accessFlags := 0x411 }
/-- [J -/
def k11 : Class := { plain "[J" (some 0) with kind := .array 10 .long, interfaces := #[4, 5], accessFlags := 1041 }

def heap : Heap := #[]
def classes : Array Class := #[k0, k1, k2, k3, k4, k5, k6, k7, k8, k9, k10, k11]
def interned : List (Array UInt16 × Addr) := []
def slotsUsed : Nat := 0
def theMethod : MethodId := ⟨1, 1⟩
def args0 : Array Value := #[.long 5, .long 7, .long 9, .long 1, .long 6, .int 3]
def aboutOver (below : List Frame) : State where
  vm := { classes := classes, interned := interned.toArray }
  heap := heap
  slotsUsed := slotsUsed
  threads := #[{ frames := .invoking theMethod args0 :: below }]
def below0 : List Frame := [.native { method := ⟨0, 0⟩, args := #[] }]
def about1 : State := aboutOver below0
def p0 : Program := .bare "" "" ""
def e0 : Env := launch0.env 0 0 0
theorem w_frames : about1.frames = Frame.invoking theMethod args0 :: below0 := rfl
set_option maxRecDepth 65536 in
theorem w_args : argsFit about1.vm theMethod args0 = true := by decide +kernel
set_option maxRecDepth 65536 in
theorem w_heap : heapFits about1 = true := by decide +kernel
set_option maxRecDepth 65536 in
theorem w_runnable : about1.curStatus? = some .runnable := by decide +kernel
set_option maxRecDepth 65536 in
theorem w_alone : about1.alone = true := by decide +kernel
set_option maxRecDepth 65536 in
theorem w_named : about1.methodNamed? x = some theMethod := by decide +kernel
set_option maxRecDepth 65536 in
theorem w_hears : about1.hears theMethod below0 = true := by decide +kernel
set_option maxRecDepth 65536 in
theorem w_ripe : about1.ripe theMethod args0 below0 = true := by decide +kernel
theorem w_running : about1.status = .running := rfl
set_option maxRecDepth 65536 in
theorem w_room : about1.hasRoom e0.platform room_1 = true :=
  launch0.hasRoom_least _ room_1 (by decide +kernel) (by decide +kernel) (by decide +kernel) (by decide +kernel) (by decide +kernel) (by decide +kernel)
theorem allAtoms_all (ts : List Jvm.Cond) (a : Array Jvm.Value) (st : Jvm.State) : (allAtoms ts).before a st = ts.all (fun c => c.before a st) := by
  induction ts with
  | nil => rfl
  | cons c t ih =>
    show (Jvm.Cond.and c (allAtoms t)).before a st = _
    rw [Jvm.Cond.before_and, ih, List.all_cons]
def words1 : List Jvm.Cond := Jvm.Cond.code x code maxLocals ret :: tables_1
/-- a 'code' word, met by the world's own term for the bytes: nothing is compared byte by byte -/
theorem code_word {y : MethodName} {bytes : ByteArray} {mx : Nat} {rt : Option FieldType} {a : Array Value} {s : State} {m : MethodId} {meth : Method} {c : Code} (h1 : s.methodNamed? y = some m) (h2 : s.vm.method? m = some meth) (h3 : meth.code = some c) (h4 : c.code = bytes)
    (h5 : (c.maxLocals == mx && c.exceptionTable.isEmpty && decide (c.maxStack ≤ mostOperands) && decide (meth.sig.returnType = rt) && !meth.locks && decide (parseMethodDescriptor y.desc = some meth.sig)) = true) : (Jvm.Cond.code y bytes mx rt).before a s = true := by
  simp only [Bool.and_eq_true, beq_iff_eq, Bool.not_eq_true', decide_eq_true_eq] at h5
  obtain ⟨⟨⟨⟨⟨g1, g2⟩, g3⟩, g4⟩, g5⟩, g6⟩ := h5
  simp [Cond.before, Cond.holds, Cond.value, h1, h2, h3, h4, g1, g2, g3, g4, g5, g6]
def isCode : Jvm.Cond → Bool
  | .code _ _ _ _ => true
  | _ => false
theorem all_split {L : List Jvm.Cond} {P : Jvm.Cond → Bool} (h1 : L.all (fun c => isCode c || P c) = true) (h2 : ∀ c ∈ L.filter isCode, P c = true) : L.all P = true := by
  refine List.all_eq_true.mpr fun c hc => ?_
  have h := List.all_eq_true.mp h1 c hc
  rcases Bool.eq_false_or_eq_true (isCode c) with hi | hi
  · exact h2 c (List.mem_filter.mpr ⟨hc, hi⟩)
  · simpa [hi] using h
set_option maxRecDepth 65536 in
theorem w_c0 : (Jvm.Cond.code x code maxLocals ret).before args0 about1 = true := code_word (m := ⟨1, 1⟩) (meth := k1m1) (c := k1c1) (by decide +kernel) rfl rfl rfl (by decide +kernel)
set_option maxRecDepth 65536 in
theorem w_c1 : (Jvm.Cond.code ({ cls := "java/lang/Math", name := "min", desc := "(JJ)J" } : Jvm.MethodName) jdk_29_method_70_code (4 : Nat) (Option.some Jvm.ClassFile.FieldType.long)).before args0 about1 = true := code_word (m := ⟨2, 2⟩) (meth := k2m2) (c := k2c2) (by decide +kernel) rfl rfl rfl (by decide +kernel)
set_option maxRecDepth 65536 in
theorem w_c2 : (Jvm.Cond.code ({ cls := "java/lang/Math", name := "max", desc := "(JJ)J" } : Jvm.MethodName) jdk_29_method_66_code (4 : Nat) (Option.some Jvm.ClassFile.FieldType.long)).before args0 about1 = true := code_word (m := ⟨2, 1⟩) (meth := k2m1) (c := k2c1) (by decide +kernel) rfl rfl rfl (by decide +kernel)
set_option maxRecDepth 65536 in
theorem w_c3 : (Jvm.Cond.code ({ cls := "com/example/tracewarden/tracewarden/monitor/GroupsStretchReachingPinLaw", name := "below", desc := "(JJ)J" } : Jvm.MethodName) method_3_code (4 : Nat) (Option.some Jvm.ClassFile.FieldType.long)).before args0 about1 = true := code_word (m := ⟨1, 2⟩) (meth := k1m2) (c := k1c2) (by decide +kernel) rfl rfl rfl (by decide +kernel)
set_option maxRecDepth 65536 in
theorem w_c4 : (Jvm.Cond.code ({ cls := "com/example/tracewarden/tracewarden/monitor/Groups", name := "stretchReaching", desc := "([JJ)I" } : Jvm.MethodName) prog_57_method_18_code (6 : Nat) (Option.some Jvm.ClassFile.FieldType.int)).before args0 about1 = true := code_word (m := ⟨3, 0⟩) (meth := k3m0) (c := k3c0) (by decide +kernel) rfl rfl rfl (by decide +kernel)
def codes1 : List Jvm.Cond := [Jvm.Cond.code x code maxLocals ret, Jvm.Cond.code ({ cls := "java/lang/Math", name := "min", desc := "(JJ)J" } : Jvm.MethodName) jdk_29_method_70_code (4 : Nat) (Option.some Jvm.ClassFile.FieldType.long), Jvm.Cond.code ({ cls := "java/lang/Math", name := "max", desc := "(JJ)J" } : Jvm.MethodName) jdk_29_method_66_code (4 : Nat) (Option.some Jvm.ClassFile.FieldType.long), Jvm.Cond.code ({ cls := "com/example/tracewarden/tracewarden/monitor/GroupsStretchReachingPinLaw", name := "below", desc := "(JJ)J" } : Jvm.MethodName) method_3_code (4 : Nat) (Option.some Jvm.ClassFile.FieldType.long), Jvm.Cond.code ({ cls := "com/example/tracewarden/tracewarden/monitor/Groups", name := "stretchReaching", desc := "([JJ)I" } : Jvm.MethodName) prog_57_method_18_code (6 : Nat) (Option.some Jvm.ClassFile.FieldType.int)]
set_option maxRecDepth 65536 in
theorem codes_eq : words1.filter isCode = codes1 := rfl
theorem w_codes : ∀ c ∈ words1.filter isCode, c.before args0 about1 = true := by
  rw [codes_eq]
  intro c hc
  simp only [codes1, List.mem_cons, List.not_mem_nil, or_false] at hc
  rcases hc with rfl | rfl | rfl | rfl | rfl
  · exact w_c0
  · exact w_c1
  · exact w_c2
  · exact w_c3
  · exact w_c4
set_option maxRecDepth 65536 in
theorem w_t1 : words1.all (fun c => isCode c || c.before args0 about1) = true := by decide +kernel
theorem w_tables : (allAtoms (Jvm.Cond.code x code maxLocals ret :: tables_1)).before args0 about1 = true := by
  rw [allAtoms_all]
  show words1.all (fun c => c.before args0 about1) = true
  refine all_split ?_ w_codes
  rw [w_t1]
set_option maxRecDepth 65536 in
theorem w_case : (Jvm.Cond.and given_1 narrow_1).before args0 about1 = true := by decide +kernel
theorem w_applies : (headSpec (Jvm.Cond.code x code maxLocals ret :: tables_1) room_1).applies x e0.platform about1 = true :=
  (Spec.applies_iff w_frames).mpr ⟨w_running, w_runnable, w_alone, w_named, w_hears, w_ripe, w_room, w_tables⟩
theorem atStart : AtStart classFile x code maxLocals ret World_1 tables_1 room_1 Calls_1 rest_1 Pre_1 launch0 p0 e0 about1 theMethod args0 below0 :=
  ⟨lists_1, trivial, launch0.admits_env _ _ _, launch0.least_env, fairChoices_fair.cas, fairChoices_fair.clock, w_frames, w_args, w_heap, w_applies, trivial, trivial, w_case⟩
end start1
theorem witness_1 : WitnessClaimed_1 := ⟨start1.p0, start1.e0, start1.about1, start1.theMethod, start1.args0, start1.below0, start1.atStart⟩
end Jvm.Pilot.@@N@@
