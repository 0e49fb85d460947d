import JvmDerived
import JvmDerived.Pilot.@@N@@Statement
import JvmDerived.Pilot.@@N@@Code
set_option linter.unusedVariables false
set_option linter.unusedSimpArgs false
namespace Jvm.Pilot.@@N@@
open Jvm Jvm.ClassFile Sem Op Lib Jvm.Free Jvm.Stand Jvm.LawKit Jvm.RoadKit Bundle Jvm.Pilot.@@N@@.Jvm.D
namespace Own
section Eng
/-- from the frame g over the heap h, with k cells and n slots made so far, every standing run ends as Fn says, having written at or above n0 alone -/
def Goes (p : Program) (l : Launch) (e : Env) (R : Room) (s : State) (m : MethodId) (args : Array Value) (below : List Frame) (meth : Method) (c : Code) (n0 mc ms : Nat) (Fn : Option Value → Heap → Prop) (h : Heap) (k n : Nat) (g : JFrame) : Prop :=
  ∀ (T : State) (locs : List Loc), Stand p l e R s m args below meth c T locs k n → Fr n0 locs → T.heap = h →
    ∃ (s₂ : State) (o : Outcome), Steps p.tables e below (T.setTop g) s₂ ∧ s₂.status = .running ∧ Ended s₂ below o ∧ ∃ (v : Option Value) (L : List Loc), o = .returned v ∧ (Fn v s₂.heap ∧ Fr n0 L) ∧ FrameEnd s o s₂ L mc ms
/-- the contract of a method at one list of arguments and one heap -/
def Does (l : Launch) (y : MethodName) (bytes : ByteArray) (maxL : Nat) (ret : Option FieldType) (ws : List Jvm.Cond) (rm : Room) (Z : State) (as' : Array Value) (h0 : Heap) (n0 : Nat) (Fn : Option Value → Heap → Prop) : Prop :=
  MetFree l y (head1 (Jvm.Cond.code y bytes maxL ret :: ws) rm) (fun a U => a = as' ∧ Z.Warmed39 U.vm ∧ U.heap = h0) (fun _ _ _ _ _ => True) (fun _ U o U' => ∃ v L, o = .returned v ∧ (Fn v U'.heap ∧ Fr n0 L) ∧ FrameEnd U o U' L rm.cells rm.slots)
variable {p : Program} {l : Launch} {e : Env} {R : Room} {s : State} {m : MethodId} {args : Array Value} {below : List Frame} {meth : Method} {c : Code} {n0 mc ms : Nat} {Fn : Option Value → Heap → Prop} {h : Heap} {k n : Nat}
theorem doesOf {y : MethodName} {bytes : ByteArray} {maxL : Nat} {ret : Option FieldType} {ws : List Jvm.Cond} {rm : Room} {Z : State} {as' : Array Value} {h0 : Heap} (hy : plainFor y = true)
    (body : ∀ (p : Program) (e : Env) (s : State) (m : MethodId) (below : List Frame) (meth : Method) (c : Code), p.tables.exec = Jvm.exec → c.code = bytes → c.maxLocals = maxL → meth.sig.returnType = ret → meth.locks = false → s.vm.findClass y.cls = some m.cls → meth.name = y.name → Z.Warmed39 s.vm →
      Goes p l e rm s m as' below meth c n0 rm.cells rm.slots Fn h0 0 0 (entryFrame m as' maxL)) : Does l y bytes maxL ret ws rm Z as' h0 n0 Fn := by
  refine MetFree.of_bodySF hy hisR ?_
  intro p e s m args below meth c s₁ Bd hml hP _
  obtain ⟨rfl, hZ, hh⟩ := hP
  have e0 : s₁.heap = h0 := by rw [← hh, Bd.state]; rfl
  obtain ⟨s₂, o, h1, h2, h3, h4⟩ := body p e s m below meth c Bd.exec Bd.bytes hml Bd.returns Bd.notSynchronized (findClass_of_methodNamed Bd.named) (name_of_methodNamed Bd.named Bd.method).1 hZ s₁ [] (Stand.of_body Bd) (Fr.nil n0) e0
  exact ⟨s₂, o, h1, h2, h3, h4⟩
theorem Goes.pure {g g' : JFrame} (st : ∀ (T : State) (locs : List Loc) (t : State), Stand p l e R s m args below meth c T locs k n → Steps p.tables e below (T.setTop g') t → Steps p.tables e below (T.setTop g) t) (K : Goes p l e R s m args below meth c n0 mc ms Fn h k n g') : Goes p l e R s m args below meth c n0 mc ms Fn h k n g := fun T locs X N eT => by
  obtain ⟨s₂, o, hs, r⟩ := K T locs X N eT
  exact ⟨s₂, o, st T locs s₂ X hs, r⟩
theorem Goes.move {g g' : JFrame} {k' n' : Nat} {Pr : Heap → Prop} (st : ∀ (T : State) (locs : List Loc), Stand p l e R s m args below meth c T locs k n → Fr n0 locs → T.heap = h → ∃ (T' : State) (locs' : List Loc), Stand p l e R s m args below meth c T' locs' k' n' ∧ Fr n0 locs' ∧ Pr T'.heap ∧ ∀ t, Steps p.tables e below (T'.setTop g') t → Steps p.tables e below (T.setTop g) t)
    (K : ∀ h', Pr h' → Goes p l e R s m args below meth c n0 mc ms Fn h' k' n' g') : Goes p l e R s m args below meth c n0 mc ms Fn h k n g := fun T locs X N eT => by
  obtain ⟨T', locs', X', N', hP, st'⟩ := st T locs X N eT
  obtain ⟨s₂, o, hs, r⟩ := K T'.heap hP T' locs' X' N' rfl
  exact ⟨s₂, o, st' s₂ hs, r⟩
theorem Goes.join {g : JFrame} (g' : JFrame) (K1 : Goes p l e R s m args below meth c n0 mc ms Fn h k n g' → Goes p l e R s m args below meth c n0 mc ms Fn h k n g) (K2 : Goes p l e R s m args below meth c n0 mc ms Fn h k n g') : Goes p l e R s m args below meth c n0 mc ms Fn h k n g := K1 K2
theorem Goes.cast {g g' : JFrame} (q : g = g') (K : Goes p l e R s m args below meth c n0 mc ms Fn h k n g') : Goes p l e R s m args below meth c n0 mc ms Fn h k n g := q ▸ K
theorem Goes.fin {Fn' : Option Value → Heap → Prop} {g : JFrame} (q : ∀ v h, Fn v h → Fn' v h) (K : Goes p l e R s m args below meth c n0 mc ms Fn h k n g) : Goes p l e R s m args below meth c n0 mc ms Fn' h k n g := fun T locs X N eT => by
  obtain ⟨s₂, o, h1, h2, h3, v, L, h4, ⟨h5, h6⟩, h7⟩ := K T locs X N eT
  exact ⟨s₂, o, h1, h2, h3, v, L, h4, ⟨q _ _ h5, h6⟩, h7⟩

theorem iadd (hx : p.tables.exec = Jvm.exec) {pc pc' : Nat} {Ls : Array Slot} {x y : Int32} {rest : List Value} (hd : decode c.code pc = .ok (.iadd, 1)) (hp : pc + 1 = pc') (K : Goes p l e R s m args below meth c n0 mc ms Fn h k n (mkF m pc' Ls (.int (x + y) :: rest))) : Goes p l e R s m args below meth c n0 mc ms Fn h k n (mkF m pc Ls (.int y :: .int x :: rest)) := by
  subst hp; exact K.pure fun T locs t X hs => XS.iadd X.here hx rfl hd rfl hs
theorem isub (hx : p.tables.exec = Jvm.exec) {pc pc' : Nat} {Ls : Array Slot} {x y : Int32} {rest : List Value} (hd : decode c.code pc = .ok (.isub, 1)) (hp : pc + 1 = pc') (K : Goes p l e R s m args below meth c n0 mc ms Fn h k n (mkF m pc' Ls (.int (x - y) :: rest))) : Goes p l e R s m args below meth c n0 mc ms Fn h k n (mkF m pc Ls (.int y :: .int x :: rest)) := by
  subst hp; exact K.pure fun T locs t X hs => XS.isub X.here hx rfl hd rfl hs
theorem imul (hx : p.tables.exec = Jvm.exec) {pc pc' : Nat} {Ls : Array Slot} {x y : Int32} {rest : List Value} (hd : decode c.code pc = .ok (.imul, 1)) (hp : pc + 1 = pc') (K : Goes p l e R s m args below meth c n0 mc ms Fn h k n (mkF m pc' Ls (.int (x * y) :: rest))) : Goes p l e R s m args below meth c n0 mc ms Fn h k n (mkF m pc Ls (.int y :: .int x :: rest)) := by
  subst hp; exact K.pure fun T locs t X hs => XS.imul X.here hx rfl hd rfl hs
theorem iand (hx : p.tables.exec = Jvm.exec) {pc pc' : Nat} {Ls : Array Slot} {x y : Int32} {rest : List Value} (hd : decode c.code pc = .ok (.iand, 1)) (hp : pc + 1 = pc') (K : Goes p l e R s m args below meth c n0 mc ms Fn h k n (mkF m pc' Ls (.int (x &&& y) :: rest))) : Goes p l e R s m args below meth c n0 mc ms Fn h k n (mkF m pc Ls (.int y :: .int x :: rest)) := by
  subst hp; exact K.pure fun T locs t X hs => XS.iand X.here hx rfl hd rfl hs
theorem ior (hx : p.tables.exec = Jvm.exec) {pc pc' : Nat} {Ls : Array Slot} {x y : Int32} {rest : List Value} (hd : decode c.code pc = .ok (.ior, 1)) (hp : pc + 1 = pc') (K : Goes p l e R s m args below meth c n0 mc ms Fn h k n (mkF m pc' Ls (.int (x ||| y) :: rest))) : Goes p l e R s m args below meth c n0 mc ms Fn h k n (mkF m pc Ls (.int y :: .int x :: rest)) := by
  subst hp; exact K.pure fun T locs t X hs => XS.ior X.here hx rfl hd rfl hs
theorem ixor (hx : p.tables.exec = Jvm.exec) {pc pc' : Nat} {Ls : Array Slot} {x y : Int32} {rest : List Value} (hd : decode c.code pc = .ok (.ixor, 1)) (hp : pc + 1 = pc') (K : Goes p l e R s m args below meth c n0 mc ms Fn h k n (mkF m pc' Ls (.int (x ^^^ y) :: rest))) : Goes p l e R s m args below meth c n0 mc ms Fn h k n (mkF m pc Ls (.int y :: .int x :: rest)) := by
  subst hp; exact K.pure fun T locs t X hs => XS.ixor X.here hx rfl hd rfl hs
theorem ishl (hx : p.tables.exec = Jvm.exec) {pc pc' : Nat} {Ls : Array Slot} {x y : Int32} {rest : List Value} (hd : decode c.code pc = .ok (.ishl, 1)) (hp : pc + 1 = pc') (K : Goes p l e R s m args below meth c n0 mc ms Fn h k n (mkF m pc' Ls (.int (x <<< (y &&& 31)) :: rest))) : Goes p l e R s m args below meth c n0 mc ms Fn h k n (mkF m pc Ls (.int y :: .int x :: rest)) := by
  subst hp; exact K.pure fun T locs t X hs => XS.ishl X.here hx rfl hd rfl hs
theorem ishr (hx : p.tables.exec = Jvm.exec) {pc pc' : Nat} {Ls : Array Slot} {x y : Int32} {rest : List Value} (hd : decode c.code pc = .ok (.ishr, 1)) (hp : pc + 1 = pc') (K : Goes p l e R s m args below meth c n0 mc ms Fn h k n (mkF m pc' Ls (.int (x >>> (y &&& 31)) :: rest))) : Goes p l e R s m args below meth c n0 mc ms Fn h k n (mkF m pc Ls (.int y :: .int x :: rest)) := by
  subst hp; exact K.pure fun T locs t X hs => XS.ishr X.here hx rfl hd rfl hs
theorem iushr (hx : p.tables.exec = Jvm.exec) {pc pc' : Nat} {Ls : Array Slot} {x y : Int32} {rest : List Value} (hd : decode c.code pc = .ok (.iushr, 1)) (hp : pc + 1 = pc') (K : Goes p l e R s m args below meth c n0 mc ms Fn h k n (mkF m pc' Ls (.int ((x.toUInt32 >>> (y &&& 31).toUInt32).toInt32) :: rest))) : Goes p l e R s m args below meth c n0 mc ms Fn h k n (mkF m pc Ls (.int y :: .int x :: rest)) := by
  subst hp; exact K.pure fun T locs t X hs => XS.iushr X.here hx rfl hd rfl hs
theorem ladd (hx : p.tables.exec = Jvm.exec) {pc pc' : Nat} {Ls : Array Slot} {x y : Int64} {rest : List Value} (hd : decode c.code pc = .ok (.ladd, 1)) (hp : pc + 1 = pc') (K : Goes p l e R s m args below meth c n0 mc ms Fn h k n (mkF m pc' Ls (.long (x + y) :: rest))) : Goes p l e R s m args below meth c n0 mc ms Fn h k n (mkF m pc Ls (.long y :: .long x :: rest)) := by
  subst hp; exact K.pure fun T locs t X hs => XS.ladd X.here hx rfl hd rfl hs
theorem lsub (hx : p.tables.exec = Jvm.exec) {pc pc' : Nat} {Ls : Array Slot} {x y : Int64} {rest : List Value} (hd : decode c.code pc = .ok (.lsub, 1)) (hp : pc + 1 = pc') (K : Goes p l e R s m args below meth c n0 mc ms Fn h k n (mkF m pc' Ls (.long (x - y) :: rest))) : Goes p l e R s m args below meth c n0 mc ms Fn h k n (mkF m pc Ls (.long y :: .long x :: rest)) := by
  subst hp; exact K.pure fun T locs t X hs => XS.lsub X.here hx rfl hd rfl hs
theorem lmul (hx : p.tables.exec = Jvm.exec) {pc pc' : Nat} {Ls : Array Slot} {x y : Int64} {rest : List Value} (hd : decode c.code pc = .ok (.lmul, 1)) (hp : pc + 1 = pc') (K : Goes p l e R s m args below meth c n0 mc ms Fn h k n (mkF m pc' Ls (.long (x * y) :: rest))) : Goes p l e R s m args below meth c n0 mc ms Fn h k n (mkF m pc Ls (.long y :: .long x :: rest)) := by
  subst hp; exact K.pure fun T locs t X hs => XS.lmul X.here hx rfl hd rfl hs
theorem land (hx : p.tables.exec = Jvm.exec) {pc pc' : Nat} {Ls : Array Slot} {x y : Int64} {rest : List Value} (hd : decode c.code pc = .ok (.land, 1)) (hp : pc + 1 = pc') (K : Goes p l e R s m args below meth c n0 mc ms Fn h k n (mkF m pc' Ls (.long (x &&& y) :: rest))) : Goes p l e R s m args below meth c n0 mc ms Fn h k n (mkF m pc Ls (.long y :: .long x :: rest)) := by
  subst hp; exact K.pure fun T locs t X hs => XS.land X.here hx rfl hd rfl hs
theorem lor (hx : p.tables.exec = Jvm.exec) {pc pc' : Nat} {Ls : Array Slot} {x y : Int64} {rest : List Value} (hd : decode c.code pc = .ok (.lor, 1)) (hp : pc + 1 = pc') (K : Goes p l e R s m args below meth c n0 mc ms Fn h k n (mkF m pc' Ls (.long (x ||| y) :: rest))) : Goes p l e R s m args below meth c n0 mc ms Fn h k n (mkF m pc Ls (.long y :: .long x :: rest)) := by
  subst hp; exact K.pure fun T locs t X hs => XS.lor X.here hx rfl hd rfl hs
theorem lxor (hx : p.tables.exec = Jvm.exec) {pc pc' : Nat} {Ls : Array Slot} {x y : Int64} {rest : List Value} (hd : decode c.code pc = .ok (.lxor, 1)) (hp : pc + 1 = pc') (K : Goes p l e R s m args below meth c n0 mc ms Fn h k n (mkF m pc' Ls (.long (x ^^^ y) :: rest))) : Goes p l e R s m args below meth c n0 mc ms Fn h k n (mkF m pc Ls (.long y :: .long x :: rest)) := by
  subst hp; exact K.pure fun T locs t X hs => XS.lxor X.here hx rfl hd rfl hs
theorem lshl (hx : p.tables.exec = Jvm.exec) {pc pc' : Nat} {Ls : Array Slot} {x : Int64} {y : Int32} {rest : List Value} (hd : decode c.code pc = .ok (.lshl, 1)) (hp : pc + 1 = pc') (K : Goes p l e R s m args below meth c n0 mc ms Fn h k n (mkF m pc' Ls (.long (x <<< (y &&& 0x3f).toInt64) :: rest))) : Goes p l e R s m args below meth c n0 mc ms Fn h k n (mkF m pc Ls (.int y :: .long x :: rest)) := by
  subst hp; exact K.pure fun T locs t X hs => XS.lshl X.here hx rfl hd rfl hs
theorem lshr (hx : p.tables.exec = Jvm.exec) {pc pc' : Nat} {Ls : Array Slot} {x : Int64} {y : Int32} {rest : List Value} (hd : decode c.code pc = .ok (.lshr, 1)) (hp : pc + 1 = pc') (K : Goes p l e R s m args below meth c n0 mc ms Fn h k n (mkF m pc' Ls (.long (x >>> (y &&& 0x3f).toInt64) :: rest))) : Goes p l e R s m args below meth c n0 mc ms Fn h k n (mkF m pc Ls (.int y :: .long x :: rest)) := by
  subst hp; exact K.pure fun T locs t X hs => XS.lshr X.here hx rfl hd rfl hs
theorem lushr (hx : p.tables.exec = Jvm.exec) {pc pc' : Nat} {Ls : Array Slot} {x : Int64} {y : Int32} {rest : List Value} (hd : decode c.code pc = .ok (.lushr, 1)) (hp : pc + 1 = pc') (K : Goes p l e R s m args below meth c n0 mc ms Fn h k n (mkF m pc' Ls (.long ((x.toUInt64 >>> (y &&& 0x3f).toInt64.toUInt64).toInt64) :: rest))) : Goes p l e R s m args below meth c n0 mc ms Fn h k n (mkF m pc Ls (.int y :: .long x :: rest)) := by
  subst hp; exact K.pure fun T locs t X hs => XS.lushr X.here hx rfl hd rfl hs
theorem lcmp (hx : p.tables.exec = Jvm.exec) {pc pc' : Nat} {Ls : Array Slot} {x y : Int64} {rest : List Value} (hd : decode c.code pc = .ok (.lcmp, 1)) (hp : pc + 1 = pc') (K : Goes p l e R s m args below meth c n0 mc ms Fn h k n (mkF m pc' Ls (.int (lcmpW x y) :: rest))) : Goes p l e R s m args below meth c n0 mc ms Fn h k n (mkF m pc Ls (.long y :: .long x :: rest)) := by
  subst hp; exact K.pure fun T locs t X hs => XS.lcmp X.here hx rfl hd rfl hs
theorem idiv (hx : p.tables.exec = Jvm.exec) {pc pc' : Nat} {Ls : Array Slot} {x y : Int32} {rest : List Value} (hd : decode c.code pc = .ok (.idiv, 1)) (hp : pc + 1 = pc') (hy : y ≠ 0) (K : Goes p l e R s m args below meth c n0 mc ms Fn h k n (mkF m pc' Ls (.int (x / y) :: rest))) : Goes p l e R s m args below meth c n0 mc ms Fn h k n (mkF m pc Ls (.int y :: .int x :: rest)) := by
  subst hp; exact K.pure fun T locs t X hs => XS.idiv X.here hx rfl hd rfl hy hs
theorem irem (hx : p.tables.exec = Jvm.exec) {pc pc' : Nat} {Ls : Array Slot} {x y : Int32} {rest : List Value} (hd : decode c.code pc = .ok (.irem, 1)) (hp : pc + 1 = pc') (hy : y ≠ 0) (K : Goes p l e R s m args below meth c n0 mc ms Fn h k n (mkF m pc' Ls (.int (x % y) :: rest))) : Goes p l e R s m args below meth c n0 mc ms Fn h k n (mkF m pc Ls (.int y :: .int x :: rest)) := by
  subst hp; exact K.pure fun T locs t X hs => iremM X hx rfl hd rfl hy hs
theorem ldiv (hx : p.tables.exec = Jvm.exec) {pc pc' : Nat} {Ls : Array Slot} {x y : Int64} {rest : List Value} (hd : decode c.code pc = .ok (.ldiv, 1)) (hp : pc + 1 = pc') (hy : y ≠ 0) (K : Goes p l e R s m args below meth c n0 mc ms Fn h k n (mkF m pc' Ls (.long (x / y) :: rest))) : Goes p l e R s m args below meth c n0 mc ms Fn h k n (mkF m pc Ls (.long y :: .long x :: rest)) := by
  subst hp; exact K.pure fun T locs t X hs => XS.ldiv X.here hx rfl hd rfl hy hs
theorem lrem (hx : p.tables.exec = Jvm.exec) {pc pc' : Nat} {Ls : Array Slot} {x y : Int64} {rest : List Value} (hd : decode c.code pc = .ok (.lrem, 1)) (hp : pc + 1 = pc') (hy : y ≠ 0) (K : Goes p l e R s m args below meth c n0 mc ms Fn h k n (mkF m pc' Ls (.long (x % y) :: rest))) : Goes p l e R s m args below meth c n0 mc ms Fn h k n (mkF m pc Ls (.long y :: .long x :: rest)) := by
  subst hp; exact K.pure fun T locs t X hs => XS.lrem X.here hx rfl hd rfl hy (by rw [lrem_mod]; exact hs)
theorem ineg (hx : p.tables.exec = Jvm.exec) {pc pc' : Nat} {Ls : Array Slot} {x : Int32} {rest : List Value} (hd : decode c.code pc = .ok (.ineg, 1)) (hp : pc + 1 = pc') (K : Goes p l e R s m args below meth c n0 mc ms Fn h k n (mkF m pc' Ls (.int (-x) :: rest))) : Goes p l e R s m args below meth c n0 mc ms Fn h k n (mkF m pc Ls (.int x :: rest)) := by
  subst hp; exact K.pure fun T locs t X hs => XS.ineg X.here hx rfl hd rfl hs
theorem lneg (hx : p.tables.exec = Jvm.exec) {pc pc' : Nat} {Ls : Array Slot} {x : Int64} {rest : List Value} (hd : decode c.code pc = .ok (.lneg, 1)) (hp : pc + 1 = pc') (K : Goes p l e R s m args below meth c n0 mc ms Fn h k n (mkF m pc' Ls (.long (-x) :: rest))) : Goes p l e R s m args below meth c n0 mc ms Fn h k n (mkF m pc Ls (.long x :: rest)) := by
  subst hp; exact K.pure fun T locs t X hs => XS.lneg X.here hx rfl hd rfl hs
theorem i2l (hx : p.tables.exec = Jvm.exec) {pc pc' : Nat} {Ls : Array Slot} {x : Int32} {rest : List Value} (hd : decode c.code pc = .ok (.i2l, 1)) (hp : pc + 1 = pc') (K : Goes p l e R s m args below meth c n0 mc ms Fn h k n (mkF m pc' Ls (.long (x.toInt64) :: rest))) : Goes p l e R s m args below meth c n0 mc ms Fn h k n (mkF m pc Ls (.int x :: rest)) := by
  subst hp; exact K.pure fun T locs t X hs => XS.i2l X.here hx rfl hd rfl hs
theorem l2i (hx : p.tables.exec = Jvm.exec) {pc pc' : Nat} {Ls : Array Slot} {x : Int64} {rest : List Value} (hd : decode c.code pc = .ok (.l2i, 1)) (hp : pc + 1 = pc') (K : Goes p l e R s m args below meth c n0 mc ms Fn h k n (mkF m pc' Ls (.int (x.toInt32) :: rest))) : Goes p l e R s m args below meth c n0 mc ms Fn h k n (mkF m pc Ls (.long x :: rest)) := by
  subst hp; exact K.pure fun T locs t X hs => XS.l2i X.here hx rfl hd rfl hs
theorem i2b (hx : p.tables.exec = Jvm.exec) {pc pc' : Nat} {Ls : Array Slot} {x : Int32} {rest : List Value} (hd : decode c.code pc = .ok (.i2b, 1)) (hp : pc + 1 = pc') (K : Goes p l e R s m args below meth c n0 mc ms Fn h k n (mkF m pc' Ls (.int (x.toInt8.toInt32) :: rest))) : Goes p l e R s m args below meth c n0 mc ms Fn h k n (mkF m pc Ls (.int x :: rest)) := by
  subst hp; exact K.pure fun T locs t X hs => XS.i2b X.here hx rfl hd rfl hs
theorem i2s (hx : p.tables.exec = Jvm.exec) {pc pc' : Nat} {Ls : Array Slot} {x : Int32} {rest : List Value} (hd : decode c.code pc = .ok (.i2s, 1)) (hp : pc + 1 = pc') (K : Goes p l e R s m args below meth c n0 mc ms Fn h k n (mkF m pc' Ls (.int (x.toInt16.toInt32) :: rest))) : Goes p l e R s m args below meth c n0 mc ms Fn h k n (mkF m pc Ls (.int x :: rest)) := by
  subst hp; exact K.pure fun T locs t X hs => XS.i2s X.here hx rfl hd rfl hs
theorem i2c (hx : p.tables.exec = Jvm.exec) {pc pc' : Nat} {Ls : Array Slot} {x : Int32} {rest : List Value} (hd : decode c.code pc = .ok (.i2c, 1)) (hp : pc + 1 = pc') (K : Goes p l e R s m args below meth c n0 mc ms Fn h k n (mkF m pc' Ls (.int (x.toUInt32.toUInt16.toUInt32.toInt32) :: rest))) : Goes p l e R s m args below meth c n0 mc ms Fn h k n (mkF m pc Ls (.int x :: rest)) := by
  subst hp; exact K.pure fun T locs t X hs => XS.i2c X.here hx rfl hd rfl hs
theorem iload (hx : p.tables.exec = Jvm.exec) {pc pc' i : Nat} {Ls : Array Slot} (x : Int32) {rest : List Value} (hd : decode c.code pc = .ok (.iload i, 2)) (hp : pc + 2 = pc') (hl : Ls[i]? = some (.val (.int x))) (K : Goes p l e R s m args below meth c n0 mc ms Fn h k n (mkF m pc' Ls (.int x :: rest))) : Goes p l e R s m args below meth c n0 mc ms Fn h k n (mkF m pc Ls rest) := by
  subst hp; exact K.pure fun T locs t X hs => XS.iload X.here hx rfl hd hl hs
theorem iloadN (hx : p.tables.exec = Jvm.exec) {pc pc' : Nat} {i : Fin 4} {Ls : Array Slot} (x : Int32) {rest : List Value} (hd : decode c.code pc = .ok (.iload_n i, 1)) (hp : pc + 1 = pc') (hl : Ls[i.val]? = some (.val (.int x))) (K : Goes p l e R s m args below meth c n0 mc ms Fn h k n (mkF m pc' Ls (.int x :: rest))) : Goes p l e R s m args below meth c n0 mc ms Fn h k n (mkF m pc Ls rest) := by
  subst hp; exact K.pure fun T locs t X hs => XS.iloadN X.here hx rfl hd hl hs
theorem lload (hx : p.tables.exec = Jvm.exec) {pc pc' i : Nat} {Ls : Array Slot} (x : Int64) {rest : List Value} (hd : decode c.code pc = .ok (.lload i, 2)) (hp : pc + 2 = pc') (hl : Ls[i]? = some (.val (.long x))) (K : Goes p l e R s m args below meth c n0 mc ms Fn h k n (mkF m pc' Ls (.long x :: rest))) : Goes p l e R s m args below meth c n0 mc ms Fn h k n (mkF m pc Ls rest) := by
  subst hp; exact K.pure fun T locs t X hs => XS.lload X.here hx rfl hd hl hs
theorem lloadN (hx : p.tables.exec = Jvm.exec) {pc pc' : Nat} {i : Fin 4} {Ls : Array Slot} (x : Int64) {rest : List Value} (hd : decode c.code pc = .ok (.lload_n i, 1)) (hp : pc + 1 = pc') (hl : Ls[i.val]? = some (.val (.long x))) (K : Goes p l e R s m args below meth c n0 mc ms Fn h k n (mkF m pc' Ls (.long x :: rest))) : Goes p l e R s m args below meth c n0 mc ms Fn h k n (mkF m pc Ls rest) := by
  subst hp; exact K.pure fun T locs t X hs => XS.lloadN X.here hx rfl hd hl hs
theorem aload (hx : p.tables.exec = Jvm.exec) {pc pc' i : Nat} {Ls : Array Slot} (x : Value) {rest : List Value} (hd : decode c.code pc = .ok (.aload i, 2)) (hp : pc + 2 = pc') (hl : Ls[i]? = some (.val x)) (hv : x.isRef = true) (K : Goes p l e R s m args below meth c n0 mc ms Fn h k n (mkF m pc' Ls (x :: rest))) : Goes p l e R s m args below meth c n0 mc ms Fn h k n (mkF m pc Ls rest) := by
  subst hp; exact K.pure fun T locs t X hs => XS.aload X.here hx rfl hd hl hv hs
theorem aloadN (hx : p.tables.exec = Jvm.exec) {pc pc' : Nat} {i : Fin 4} {Ls : Array Slot} (x : Value) {rest : List Value} (hd : decode c.code pc = .ok (.aload_n i, 1)) (hp : pc + 1 = pc') (hl : Ls[i.val]? = some (.val x)) (hv : x.isRef = true) (K : Goes p l e R s m args below meth c n0 mc ms Fn h k n (mkF m pc' Ls (x :: rest))) : Goes p l e R s m args below meth c n0 mc ms Fn h k n (mkF m pc Ls rest) := by
  subst hp; exact K.pure fun T locs t X hs => XS.aloadN X.here hx rfl hd hl hv hs
theorem istore (hx : p.tables.exec = Jvm.exec) {pc pc' i : Nat} {Ls : Array Slot} {x : Int32} (z : Int32) (hz : z = x) {rest : List Value} (Ls' : Array Slot) (hd : decode c.code pc = .ok (.istore i, 2)) (hp : pc + 2 = pc') (hl : storeLocals Ls i (.int z) = some Ls') (K : Goes p l e R s m args below meth c n0 mc ms Fn h k n (mkF m pc' Ls' rest)) : Goes p l e R s m args below meth c n0 mc ms Fn h k n (mkF m pc Ls (.int x :: rest)) := by
  subst hp hz; exact K.pure fun T locs t X hs => XS.istore X.here hx rfl hd rfl hl hs
theorem istoreN (hx : p.tables.exec = Jvm.exec) {pc pc' : Nat} {i : Fin 4} {Ls : Array Slot} {x : Int32} (z : Int32) (hz : z = x) {rest : List Value} (Ls' : Array Slot) (hd : decode c.code pc = .ok (.istore_n i, 1)) (hp : pc + 1 = pc') (hl : storeLocals Ls i.val (.int z) = some Ls') (K : Goes p l e R s m args below meth c n0 mc ms Fn h k n (mkF m pc' Ls' rest)) : Goes p l e R s m args below meth c n0 mc ms Fn h k n (mkF m pc Ls (.int x :: rest)) := by
  subst hp hz; exact K.pure fun T locs t X hs => XS.istoreN X.here hx rfl hd rfl hl hs
theorem lstore (hx : p.tables.exec = Jvm.exec) {pc pc' i : Nat} {Ls : Array Slot} {x : Int64} (z : Int64) (hz : z = x) {rest : List Value} (Ls' : Array Slot) (hd : decode c.code pc = .ok (.lstore i, 2)) (hp : pc + 2 = pc') (hl : storeLocals Ls i (.long z) = some Ls') (K : Goes p l e R s m args below meth c n0 mc ms Fn h k n (mkF m pc' Ls' rest)) : Goes p l e R s m args below meth c n0 mc ms Fn h k n (mkF m pc Ls (.long x :: rest)) := by
  subst hp hz; exact K.pure fun T locs t X hs => XS.lstore X.here hx rfl hd rfl hl hs
theorem lstoreN (hx : p.tables.exec = Jvm.exec) {pc pc' : Nat} {i : Fin 4} {Ls : Array Slot} {x : Int64} (z : Int64) (hz : z = x) {rest : List Value} (Ls' : Array Slot) (hd : decode c.code pc = .ok (.lstore_n i, 1)) (hp : pc + 1 = pc') (hl : storeLocals Ls i.val (.long z) = some Ls') (K : Goes p l e R s m args below meth c n0 mc ms Fn h k n (mkF m pc' Ls' rest)) : Goes p l e R s m args below meth c n0 mc ms Fn h k n (mkF m pc Ls (.long x :: rest)) := by
  subst hp hz; exact K.pure fun T locs t X hs => XS.lstoreN X.here hx rfl hd rfl hl hs
theorem astore (hx : p.tables.exec = Jvm.exec) {pc pc' i : Nat} {Ls : Array Slot} {x : Value} {rest : List Value} (Ls' : Array Slot) (hd : decode c.code pc = .ok (.astore i, 2)) (hp : pc + 2 = pc') (hv : x.isRef = true) (hl : storeLocals Ls i x = some Ls') (K : Goes p l e R s m args below meth c n0 mc ms Fn h k n (mkF m pc' Ls' rest)) : Goes p l e R s m args below meth c n0 mc ms Fn h k n (mkF m pc Ls (x :: rest)) := by
  subst hp; exact K.pure fun T locs t X hs => XS.astore X.here hx rfl hd rfl hv hl hs
theorem astoreN (hx : p.tables.exec = Jvm.exec) {pc pc' : Nat} {i : Fin 4} {Ls : Array Slot} {x : Value} {rest : List Value} (Ls' : Array Slot) (hd : decode c.code pc = .ok (.astore_n i, 1)) (hp : pc + 1 = pc') (hv : x.isRef = true) (hl : storeLocals Ls i.val x = some Ls') (K : Goes p l e R s m args below meth c n0 mc ms Fn h k n (mkF m pc' Ls' rest)) : Goes p l e R s m args below meth c n0 mc ms Fn h k n (mkF m pc Ls (x :: rest)) := by
  subst hp; exact K.pure fun T locs t X hs => XS.astoreN X.here hx rfl hd rfl hv hl hs
theorem iinc (hx : p.tables.exec = Jvm.exec) {pc pc' i : Nat} {ct : Int} {Ls : Array Slot} {x : Int32} (z : Int32) {rest : List Value} (Ls' : Array Slot) (hd : decode c.code pc = .ok (.iinc i ct, 3)) (hp : pc + 3 = pc') (hl : Ls[i]? = some (.val (.int x))) (hz : z = x + Int32.ofInt ct) (hl' : storeLocals Ls i (.int z) = some Ls') (K : Goes p l e R s m args below meth c n0 mc ms Fn h k n (mkF m pc' Ls' rest)) : Goes p l e R s m args below meth c n0 mc ms Fn h k n (mkF m pc Ls rest) := by
  subst hp hz; exact K.pure fun T locs t X hs => XS.iinc X.here hx rfl hd hl hl' hs
theorem iconst (hx : p.tables.exec = Jvm.exec) {pc pc' : Nat} {i : Int} {Ls : Array Slot} (z : Int32) {rest : List Value} (hd : decode c.code pc = .ok (.iconst i, 1)) (hp : pc + 1 = pc') (hz : Int32.ofInt i = z) (K : Goes p l e R s m args below meth c n0 mc ms Fn h k n (mkF m pc' Ls (.int z :: rest))) : Goes p l e R s m args below meth c n0 mc ms Fn h k n (mkF m pc Ls rest) := by
  subst hp hz; exact K.pure fun T locs t X hs => XS.iconst X.here hx rfl hd hs
theorem bipush (hx : p.tables.exec = Jvm.exec) {pc pc' : Nat} {i : Int} {Ls : Array Slot} (z : Int32) {rest : List Value} (hd : decode c.code pc = .ok (.bipush i, 2)) (hp : pc + 2 = pc') (hz : (Int8.ofInt i).toInt32 = z) (K : Goes p l e R s m args below meth c n0 mc ms Fn h k n (mkF m pc' Ls (.int z :: rest))) : Goes p l e R s m args below meth c n0 mc ms Fn h k n (mkF m pc Ls rest) := by
  subst hp hz; exact K.pure fun T locs t X hs => XS.bipush X.here hx rfl hd hs
theorem sipush (hx : p.tables.exec = Jvm.exec) {pc pc' : Nat} {i : Int} {Ls : Array Slot} (z : Int32) {rest : List Value} (hd : decode c.code pc = .ok (.sipush i, 3)) (hp : pc + 3 = pc') (hz : (Int16.ofInt i).toInt32 = z) (K : Goes p l e R s m args below meth c n0 mc ms Fn h k n (mkF m pc' Ls (.int z :: rest))) : Goes p l e R s m args below meth c n0 mc ms Fn h k n (mkF m pc Ls rest) := by
  subst hp hz; exact K.pure fun T locs t X hs => XS.sipush X.here hx rfl hd hs
theorem lconst (hx : p.tables.exec = Jvm.exec) {pc pc' : Nat} {i : Fin 2} {Ls : Array Slot} (z : Int64) {rest : List Value} (hd : decode c.code pc = .ok (.lconst i, 1)) (hp : pc + 1 = pc') (hz : Int64.ofNat i = z) (K : Goes p l e R s m args below meth c n0 mc ms Fn h k n (mkF m pc' Ls (.long z :: rest))) : Goes p l e R s m args below meth c n0 mc ms Fn h k n (mkF m pc Ls rest) := by
  subst hp hz; exact K.pure fun T locs t X hs => XS.lconst X.here hx rfl hd hs
theorem aconstNull (hx : p.tables.exec = Jvm.exec) {pc pc' : Nat} {Ls : Array Slot} {rest : List Value} (hd : decode c.code pc = .ok (.aconst_null, 1)) (hp : pc + 1 = pc') (K : Goes p l e R s m args below meth c n0 mc ms Fn h k n (mkF m pc' Ls (.null :: rest))) : Goes p l e R s m args below meth c n0 mc ms Fn h k n (mkF m pc Ls rest) := by
  subst hp; exact K.pure fun T locs t X hs => XS.aconstNull X.here hx rfl hd hs
theorem dup (hx : p.tables.exec = Jvm.exec) {pc pc' : Nat} {Ls : Array Slot} {x : Value} {rest : List Value} (hd : decode c.code pc = .ok (.dup, 1)) (hp : pc + 1 = pc') (hc : x.category = 1) (K : Goes p l e R s m args below meth c n0 mc ms Fn h k n (mkF m pc' Ls (x :: x :: rest))) : Goes p l e R s m args below meth c n0 mc ms Fn h k n (mkF m pc Ls (x :: rest)) := by
  subst hp; exact K.pure fun T locs t X hs => XS.dup X.here hx rfl hd rfl hc hs
theorem pop (hx : p.tables.exec = Jvm.exec) {pc pc' : Nat} {Ls : Array Slot} {x : Value} {rest : List Value} (hd : decode c.code pc = .ok (.pop, 1)) (hp : pc + 1 = pc') (hc : x.category = 1) (K : Goes p l e R s m args below meth c n0 mc ms Fn h k n (mkF m pc' Ls rest)) : Goes p l e R s m args below meth c n0 mc ms Fn h k n (mkF m pc Ls (x :: rest)) := by
  subst hp; exact K.pure fun T locs t X hs => XS.pop X.here hx rfl hd rfl hc hs
theorem dupX1 (hx : p.tables.exec = Jvm.exec) {pc pc' : Nat} {Ls : Array Slot} {x y : Value} {rest : List Value} (hd : decode c.code pc = .ok (.dup_x1, 1)) (hp : pc + 1 = pc') (hc : x.category = 1) (hc' : y.category = 1) (K : Goes p l e R s m args below meth c n0 mc ms Fn h k n (mkF m pc' Ls (x :: y :: x :: rest))) : Goes p l e R s m args below meth c n0 mc ms Fn h k n (mkF m pc Ls (x :: y :: rest)) := by
  subst hp; exact K.pure fun T locs t X hs => XS.dupX1 X.here hx rfl hd rfl hc hc' hs
theorem dup2 (hx : p.tables.exec = Jvm.exec) {pc pc' : Nat} {Ls : Array Slot} {x y : Value} {rest : List Value} (hd : decode c.code pc = .ok (.dup2, 1)) (hp : pc + 1 = pc') (hc : x.category = 1) (hc' : y.category = 1) (K : Goes p l e R s m args below meth c n0 mc ms Fn h k n (mkF m pc' Ls (x :: y :: x :: y :: rest))) : Goes p l e R s m args below meth c n0 mc ms Fn h k n (mkF m pc Ls (x :: y :: rest)) := by
  subst hp; exact K.pure fun T locs t X hs => XT.dup2 X.here hx rfl hd rfl hc hc' hs
theorem dup2L (hx : p.tables.exec = Jvm.exec) {pc pc' : Nat} {Ls : Array Slot} {x : Int64} {rest : List Value} (hd : decode c.code pc = .ok (.dup2, 1)) (hp : pc + 1 = pc') (K : Goes p l e R s m args below meth c n0 mc ms Fn h k n (mkF m pc' Ls (.long x :: .long x :: rest))) : Goes p l e R s m args below meth c n0 mc ms Fn h k n (mkF m pc Ls (.long x :: rest)) := by
  subst hp; exact K.pure fun T locs t X hs => XT.dup2L X.here hx rfl hd rfl hs
theorem goto (hx : p.tables.exec = Jvm.exec) {pc pc' : Nat} {o : Int} {Ls : Array Slot} {st : List Value} (hd : decode c.code pc = .ok (.goto o, 3)) (ho : 0 ≤ (pc : Int) + o) (hp : ((pc : Int) + o).toNat = pc') (K : Goes p l e R s m args below meth c n0 mc ms Fn h k n (mkF m pc' Ls st)) : Goes p l e R s m args below meth c n0 mc ms Fn h k n (mkF m pc Ls st) :=
  K.pure fun T locs t X hs => XS.goto X.here hx rfl rfl hd ho hp hs
theorem ifF (hx : p.tables.exec = Jvm.exec) {Pr : Prop} [Decidable Pr] {cd : ClassFile.Cond} {x : Int32} (hq : ifCond.holds cd x = decide Pr) {pc pcN pcT : Nat} {o : Int} {Ls : Array Slot} {rest : List Value} (hd : decode c.code pc = .ok (.ifCond cd o, 3)) (hn : pc + 3 = pcN) (ho : 0 ≤ (pc : Int) + o) (hp : ((pc : Int) + o).toNat = pcT)
    (KT : Pr → Goes p l e R s m args below meth c n0 mc ms Fn h k n (mkF m pcT Ls rest)) (KN : ¬ Pr → Goes p l e R s m args below meth c n0 mc ms Fn h k n (mkF m pcN Ls rest)) : Goes p l e R s m args below meth c n0 mc ms Fn h k n (mkF m pc Ls (.int x :: rest)) := by
  subst hn
  by_cases hP : Pr
  · exact (KT hP).pure fun T locs t X hs => XS.ifYes X.here hx rfl rfl hd rfl (by rw [hq]; exact decide_eq_true hP) ho hp hs
  · exact (KN hP).pure fun T locs t X hs => XS.ifNo X.here hx rfl hd rfl (by rw [hq]; exact decide_eq_false hP) hs
theorem icmpF (hx : p.tables.exec = Jvm.exec) {Pr : Prop} [Decidable Pr] {cd : ClassFile.Cond} {x y : Int32} (hq : if_icmp.holds cd x y = decide Pr) {pc pcN pcT : Nat} {o : Int} {Ls : Array Slot} {rest : List Value} (hd : decode c.code pc = .ok (.if_icmp cd o, 3)) (hn : pc + 3 = pcN) (ho : 0 ≤ (pc : Int) + o) (hp : ((pc : Int) + o).toNat = pcT)
    (KT : Pr → Goes p l e R s m args below meth c n0 mc ms Fn h k n (mkF m pcT Ls rest)) (KN : ¬ Pr → Goes p l e R s m args below meth c n0 mc ms Fn h k n (mkF m pcN Ls rest)) : Goes p l e R s m args below meth c n0 mc ms Fn h k n (mkF m pc Ls (.int y :: .int x :: rest)) := by
  subst hn
  by_cases hP : Pr
  · exact (KT hP).pure fun T locs t X hs => XS.icmpYes X.here hx rfl rfl hd rfl (by rw [hq]; exact decide_eq_true hP) ho hp hs
  · exact (KN hP).pure fun T locs t X hs => XS.icmpNo X.here hx rfl hd rfl (by rw [hq]; exact decide_eq_false hP) hs
theorem ifFn (hx : p.tables.exec = Jvm.exec) {Pr : Prop} [Decidable Pr] {cd : ClassFile.Cond} {x : Int32} (hq : ifCond.holds cd x = decide (¬ Pr)) {pc pcN pcT : Nat} {o : Int} {Ls : Array Slot} {rest : List Value} (hd : decode c.code pc = .ok (.ifCond cd o, 3)) (hn : pc + 3 = pcN) (ho : 0 ≤ (pc : Int) + o) (hp : ((pc : Int) + o).toNat = pcT)
    (KT : ¬ Pr → Goes p l e R s m args below meth c n0 mc ms Fn h k n (mkF m pcT Ls rest)) (KN : Pr → Goes p l e R s m args below meth c n0 mc ms Fn h k n (mkF m pcN Ls rest)) : Goes p l e R s m args below meth c n0 mc ms Fn h k n (mkF m pc Ls (.int x :: rest)) := ifF hx hq hd hn ho hp KT fun q => KN (Decidable.of_not_not q)
theorem icmpFn (hx : p.tables.exec = Jvm.exec) {Pr : Prop} [Decidable Pr] {cd : ClassFile.Cond} {x y : Int32} (hq : if_icmp.holds cd x y = decide (¬ Pr)) {pc pcN pcT : Nat} {o : Int} {Ls : Array Slot} {rest : List Value} (hd : decode c.code pc = .ok (.if_icmp cd o, 3)) (hn : pc + 3 = pcN) (ho : 0 ≤ (pc : Int) + o) (hp : ((pc : Int) + o).toNat = pcT)
    (KT : ¬ Pr → Goes p l e R s m args below meth c n0 mc ms Fn h k n (mkF m pcT Ls rest)) (KN : Pr → Goes p l e R s m args below meth c n0 mc ms Fn h k n (mkF m pcN Ls rest)) : Goes p l e R s m args below meth c n0 mc ms Fn h k n (mkF m pc Ls (.int y :: .int x :: rest)) := icmpF hx hq hd hn ho hp KT fun q => KN (Decidable.of_not_not q)
theorem q_eq (x y : Int32) : if_icmp.holds .eq x y = decide (x = y) := by by_cases q : x = y <;> simp [if_icmp.holds, q]
theorem q_ne (x y : Int32) : if_icmp.holds .ne x y = decide (¬ x = y) := by by_cases q : x = y <;> simp [if_icmp.holds, q]
theorem q_lt (x y : Int32) : if_icmp.holds .lt x y = decide (x < y) := by by_cases q : x < y <;> simp [q, (tlt ·), (flt ·)]
theorem q_ge (x y : Int32) : if_icmp.holds .ge x y = decide (¬ x < y) := by by_cases q : x < y <;> simp [q, (tlt ·), (flt ·)]
theorem q_gt (x y : Int32) : if_icmp.holds .gt x y = decide (y < x) := by by_cases q : y < x <;> simp [q, (tlt ·), (flt ·)]
theorem q_le (x y : Int32) : if_icmp.holds .le x y = decide (¬ y < x) := by by_cases q : y < x <;> simp [q, (tlt ·), (flt ·)]
theorem z_eq (x : Int32) : ifCond.holds .eq x = decide (x = 0) := (if0 _ _).trans (q_eq x 0)
theorem z_ne (x : Int32) : ifCond.holds .ne x = decide (¬ x = 0) := (if0 _ _).trans (q_ne x 0)
theorem z_lt (x : Int32) : ifCond.holds .lt x = decide (x < 0) := (if0 _ _).trans (q_lt x 0)
theorem z_ge (x : Int32) : ifCond.holds .ge x = decide (¬ x < 0) := (if0 _ _).trans (q_ge x 0)
theorem z_gt (x : Int32) : ifCond.holds .gt x = decide (0 < x) := (if0 _ _).trans (q_gt x 0)
theorem z_le (x : Int32) : ifCond.holds .le x = decide (¬ 0 < x) := (if0 _ _).trans (q_le x 0)
theorem w_eq (x y : Int64) : ifCond.holds .eq (lcmpW x y) = decide (x = y) := (z_eq _).trans (by simp only [lw_eq])
theorem w_ne (x y : Int64) : ifCond.holds .ne (lcmpW x y) = decide (¬ x = y) := (z_ne _).trans (by simp only [lw_eq])
theorem w_lt (x y : Int64) : ifCond.holds .lt (lcmpW x y) = decide (x < y) := (z_lt _).trans (by simp only [lw_lt])
theorem w_ge (x y : Int64) : ifCond.holds .ge (lcmpW x y) = decide (¬ x < y) := (z_ge _).trans (by simp only [lw_lt])
theorem w_gt (x y : Int64) : ifCond.holds .gt (lcmpW x y) = decide (y < x) := (z_gt _).trans (by simp only [lw_gt])
theorem w_le (x y : Int64) : ifCond.holds .le (lcmpW x y) = decide (¬ y < x) := (z_le _).trans (by simp only [lw_gt])
theorem ifnullN (hx : p.tables.exec = Jvm.exec) {pc pcN : Nat} {o : Int} {a : Addr} {Ls : Array Slot} {rest : List Value} (hd : decode c.code pc = .ok (.ifnull o, 3)) (hn : pc + 3 = pcN) (K : Goes p l e R s m args below meth c n0 mc ms Fn h k n (mkF m pcN Ls rest)) : Goes p l e R s m args below meth c n0 mc ms Fn h k n (mkF m pc Ls (.ref a :: rest)) := by
  subst hn; exact K.pure fun T locs t X hs => XS.ifnullNo X.here hx rfl hd rfl hs
theorem ifnullY (hx : p.tables.exec = Jvm.exec) {pc pcT : Nat} {o : Int} {Ls : Array Slot} {rest : List Value} (hd : decode c.code pc = .ok (.ifnull o, 3)) (ho : 0 ≤ (pc : Int) + o) (hp : ((pc : Int) + o).toNat = pcT) (K : Goes p l e R s m args below meth c n0 mc ms Fn h k n (mkF m pcT Ls rest)) : Goes p l e R s m args below meth c n0 mc ms Fn h k n (mkF m pc Ls (.null :: rest)) :=
  K.pure fun T locs t X hs => XS.ifnullYes X.here hx rfl rfl hd rfl ho hp hs
theorem ifnonnullN (hx : p.tables.exec = Jvm.exec) {pc pcN : Nat} {o : Int} {Ls : Array Slot} {rest : List Value} (hd : decode c.code pc = .ok (.ifnonnull o, 3)) (hn : pc + 3 = pcN) (K : Goes p l e R s m args below meth c n0 mc ms Fn h k n (mkF m pcN Ls rest)) : Goes p l e R s m args below meth c n0 mc ms Fn h k n (mkF m pc Ls (.null :: rest)) := by
  subst hn; exact K.pure fun T locs t X hs => XS.ifnonnullNo X.here hx rfl hd rfl hs
theorem ifnonnullY (hx : p.tables.exec = Jvm.exec) {pc pcT : Nat} {o : Int} {a : Addr} {Ls : Array Slot} {rest : List Value} (hd : decode c.code pc = .ok (.ifnonnull o, 3)) (ho : 0 ≤ (pc : Int) + o) (hp : ((pc : Int) + o).toNat = pcT) (K : Goes p l e R s m args below meth c n0 mc ms Fn h k n (mkF m pcT Ls rest)) : Goes p l e R s m args below meth c n0 mc ms Fn h k n (mkF m pc Ls (.ref a :: rest)) :=
  K.pure fun T locs t X hs => XS.ifnonnullYes X.here hx rfl rfl hd rfl ho hp hs
theorem ldc (hx : p.tables.exec = Jvm.exec) {Z : State} (hZ : Z.Warmed39 s.vm) {a0 : Array Value} {own : String} (hown : s.vm.findClass own = some m.cls) {pc pc' i : Nat} {Ls : Array Slot} (z : Int32) {rest : List Value} (hd : decode c.code pc = .ok (.ldc i, 2)) (hp : pc + 2 = pc') (w : (Jvm.Cond.constant own i z).before a0 Z = true) (K : Goes p l e R s m args below meth c n0 mc ms Fn h k n (mkF m pc' Ls (.int z :: rest))) : Goes p l e R s m args below meth c n0 mc ms Fn h k n (mkF m pc Ls rest) := by
  subst hp; exact K.pure fun T locs t X hs => X.ldcInt hx hown (mvT hZ w) (g := mkF m pc Ls rest) rfl hd t hs
theorem ldc2 (hx : p.tables.exec = Jvm.exec) {Z : State} (hZ : Z.Warmed39 s.vm) {a0 : Array Value} {own : String} (hown : s.vm.findClass own = some m.cls) {pc pc' i : Nat} {Ls : Array Slot} (z : Int64) {rest : List Value} (hd : decode c.code pc = .ok (.ldc2_w i, 3)) (hp : pc + 3 = pc') (w : (Jvm.Cond.constantLong own i z).before a0 Z = true) (K : Goes p l e R s m args below meth c n0 mc ms Fn h k n (mkF m pc' Ls (.long z :: rest))) : Goes p l e R s m args below meth c n0 mc ms Fn h k n (mkF m pc Ls rest) := by
  subst hp; exact K.pure fun T locs t X hs => X.ldc2Long hx hown (mvT hZ w) (g := mkF m pc Ls rest) rfl hd t hs
/-- the end of a walk -/
theorem endOf {v : Option Value} {g : JFrame} (hlk : meth.locks = false) (hv : meth.sig.returnType = none → v = none)
    (st : ∀ (T : State) (locs : List Loc) (fs : List Frame), Stand p l e R s m args below meth c T locs k n → (∀ (f : JFrame) (acts : List Action), f.method = m → f.locked = none → f.entered = [] → (doReturn e (T.setTop f) acts v).1 = T.setFrames fs) → Steps p.tables e below (T.setTop g) (T.setFrames fs))
    (hk : k ≤ mc) (hn : n ≤ ms) (hF : Fn v h) : Goes p l e R s m args below meth c n0 mc ms Fn h k n g := fun T locs X N eT => by
  obtain ⟨fs, hr, hrun, hended, hW, hsame⟩ := X.leave hv hlk
  refine ⟨_, _, st T locs fs X hr, hrun, hended, v, locs, rfl, ⟨?_, N⟩, ⟨_, rfl⟩, hW, hsame.mono hk hn⟩
  show Fn v T.heap
  rw [eT]; exact hF
theorem retI (hx : p.tables.exec = Jvm.exec) (hret : meth.sig.returnType = some .int) (hlk : meth.locks = false) {pc : Nat} {Ls : Array Slot} {z : Int32} {rest : List Value} (hd : decode c.code pc = .ok (.ireturn, 1)) (hk : k ≤ mc) (hn : n ≤ ms) (hF : Fn (some (.int z)) h) : Goes p l e R s m args below meth c n0 mc ms Fn h k n (mkF m pc Ls (.int z :: rest)) :=
  endOf hlk (fun q => by rw [hret] at q; cases q) (fun T locs fs X hr => retOut X hx hret rfl (Or.inl ⟨rfl, Or.inl rfl, _, rfl⟩) hd hr) hk hn hF
theorem retL (hx : p.tables.exec = Jvm.exec) (hret : meth.sig.returnType = some .long) (hlk : meth.locks = false) {pc : Nat} {Ls : Array Slot} {z : Int64} {rest : List Value} (hd : decode c.code pc = .ok (.lreturn, 1)) (hk : k ≤ mc) (hn : n ≤ ms) (hF : Fn (some (.long z)) h) : Goes p l e R s m args below meth c n0 mc ms Fn h k n (mkF m pc Ls (.long z :: rest)) :=
  endOf hlk (fun q => by rw [hret] at q; cases q) (fun T locs fs X hr => retOut X hx hret rfl (Or.inr (Or.inl ⟨rfl, rfl, _, rfl⟩)) hd hr) hk hn hF
theorem retA (hx : p.tables.exec = Jvm.exec) {ty : FieldType} (hret : meth.sig.returnType = some ty) (hty : ty.isReference = true) (hlk : meth.locks = false) {pc : Nat} {Ls : Array Slot} {w : Value} {rest : List Value} (hw : w.isRef = true) (hnr : narrow ty w = w) (hd : decode c.code pc = .ok (.areturn, 1)) (hk : k ≤ mc) (hn : n ≤ ms) (hF : Fn (some w) h) : Goes p l e R s m args below meth c n0 mc ms Fn h k n (mkF m pc Ls (w :: rest)) :=
  endOf hlk (fun q => by rw [hret] at q; cases q) (fun T locs fs X hr => retOut X hx hret hnr (Or.inr (Or.inr (Or.inr (Or.inr ⟨rfl, hty, hw⟩)))) hd hr) hk hn hF
theorem retS (hx : p.tables.exec = Jvm.exec) {ty : FieldType} (hret : meth.sig.returnType = some ty) (hty : ty = .boolean ∨ ty = .byte ∨ ty = .char ∨ ty = .short) (hlk : meth.locks = false) {pc : Nat} {Ls : Array Slot} {z : Int32} {rest : List Value} (hd : decode c.code pc = .ok (.ireturn, 1)) (hk : k ≤ mc) (hn : n ≤ ms) (hF : Fn (some (.int (nar ty z))) h) : Goes p l e R s m args below meth c n0 mc ms Fn h k n (mkF m pc Ls (.int z :: rest)) :=
  endOf hlk (fun q => by rw [hret] at q; cases q) (fun T locs fs X hr => retN X hx hret hty hd hr) hk hn hF
theorem retV (hx : p.tables.exec = Jvm.exec) (hret : meth.sig.returnType = none) (hlk : meth.locks = false) {pc : Nat} {Ls : Array Slot} (hd : decode c.code pc = .ok (.return_, 1)) (hk : k ≤ mc) (hn : n ≤ ms) (hF : Fn none h) : Goes p l e R s m args below meth c n0 mc ms Fn h k n (mkF m pc Ls []) :=
  endOf hlk (fun _ => rfl) (fun T locs fs X hr => X.returnOut hx hret hd hr) hk hn hF
/-- a static method by its contract -/
theorem callS (hx : p.tables.exec = Jvm.exec) {Z : State} (hZ : Z.Warmed39 s.vm) {a0 : Array Value} {own : String} (hown : s.vm.findClass own = some m.cls) {i : Nat} {y : MethodName} {bytes : ByteArray} {maxL : Nat} {ret : Option FieldType} {rm : Room} {F : Option Value → Heap → Prop} {argsL rest : List Value}
    (w1 : (Jvm.Cond.methodLink own i y).before a0 Z = true) (w2 : (Jvm.Cond.static y).before a0 Z = true) (w3 : (Jvm.Cond.initialized y.cls).before a0 Z = true) (w4 : (Jvm.Cond.code y bytes maxL ret).before a0 Z = true) (hy : y.cls ≠ "java/lang/invoke/MethodHandle" ∧ y.cls ≠ "java/lang/invoke/VarHandle")
    {sg : ClassFile.MethodDescriptor} (hsg : parseMethodDescriptor y.desc = some sg) (hlen : argsL.length = sg.parameters.length) {pc pc' : Nat} {Ls : Array Slot} {W : Nat} (hW : (rest.map fun v => v.category).sum ≤ W) (hf : rm.frames + 1 ≤ R.frames) (hl : W + (maxL + 11) + rm.locals ≤ R.locals) (hcl : k + rm.cells ≤ R.cells) (hsl : n + rm.slots ≤ R.slots)
    {k' n' : Nat} (hk' : k + rm.cells = k') (hn' : n + rm.slots = n') (hml : Ls.size = c.maxLocals) (st : List Value) (hst : st = argsL.reverse ++ rest) (hd : decode c.code pc = .ok (.invokestatic i, 3)) (hp : pc + 3 = pc') (D : Does l y bytes maxL ret [] rm Z argsL.toArray h n0 F)
    (K : ∀ v h', F v h' → Goes p l e R s m args below meth c n0 mc ms Fn h' k' n' (mkF m pc' Ls (v.toList ++ rest))) : Goes p l e R s m args below meth c n0 mc ms Fn h k n (mkF m pc Ls st) := fun T locs X N eT => by
  subst hp hst hk' hn'
  obtain ⟨v, _, ⟨T', L', k', n'⟩, -, X', ⟨Lc, hQ, l1, y1, z1⟩, st⟩ := Jvm.LawKit.callS X hx (y := y) hown (mvT hZ w1) (mvT hZ w2) (mvT hZ w3) (mvT hZ w4) hy (backOf (W := W) (Q := fun v h' L => F v h' ∧ Fr n0 L) D hZ w4 w3 hf hl) (g := mkF m pc Ls (argsL.reverse ++ rest)) rfl hml (argsL := argsL) (rest := rest) (lenOf hsg hlen) rfl (by show 2 * 0 + _ ≤ _; omega) hd (fun _ _ => ⟨rfl, eT, hcl, hsl⟩)
  dsimp only [Pt.U, Pt.locs, Pt.cells, Pt.slots] at X' l1 y1 z1 st hQ
  subst l1 y1 z1
  obtain ⟨s₂, o, hs, r⟩ := K v T'.heap hQ.1 T' _ X' (N.app hQ.2) rfl
  exact ⟨s₂, o, st _ hs, r⟩
theorem vI {x : Int32} (z : Int32) (q : x = z) {pc : Nat} {Ls : Array Slot} {rest : List Value} (K : Goes p l e R s m args below meth c n0 mc ms Fn h k n (mkF m pc Ls (.int z :: rest))) : Goes p l e R s m args below meth c n0 mc ms Fn h k n (mkF m pc Ls (.int x :: rest)) := by subst q; exact K
theorem vL {x : Int64} (z : Int64) (q : x = z) {pc : Nat} {Ls : Array Slot} {rest : List Value} (K : Goes p l e R s m args below meth c n0 mc ms Fn h k n (mkF m pc Ls (.long z :: rest))) : Goes p l e R s m args below meth c n0 mc ms Fn h k n (mkF m pc Ls (.long x :: rest)) := by subst q; exact K
theorem bool1 {z : Int32} (q : z = 1) : (some (Value.int (nar .boolean z)) : Option Value) = some (.int 1) := by subst q; rfl
end Eng
end Own
def fCap (b : Int64) (t : Int32) : Int64 := b * 8 / 64 * ((64 : Int32) / t).toInt64 + b * 8 % 64 / t.toInt64
def fFits (w e x r : Int64) : Int32 := if w < x then 1 else if w = x then (if r < e then 0 else 1) else 0
theorem d2_0 : decode prog_11_method_8_code 0 = .ok (.bipush 64, 2) := by decide +kernel
theorem d2_2 : decode prog_11_method_8_code 2 = .ok (.iload_n 0, 1) := by decide +kernel
theorem d2_3 : decode prog_11_method_8_code 3 = .ok (.idiv, 1) := by decide +kernel
theorem d2_4 : decode prog_11_method_8_code 4 = .ok (.ireturn, 1) := by decide +kernel
theorem pn0 : plainFor (⟨"com/example/keep1/keep1/filter/CellArray", "cellsPerWord", "(I)I"⟩ : MethodName) = true := by first | exact plainFor_of_name (by simp [plainName, overriddenIn]; done) | decide +kernel
theorem ef2 (m : MethodId) (p0 : Int32) : entryFrame m #[(.int p0)] 1 = mkF m 0 #[.val (.int p0)] [] := by first | (simp [entryFrame, mkF, argsToLocals, Value.category]; done) | rfl
set_option maxRecDepth 65536 in
set_option maxHeartbeats 40000000 in
theorem rm2 (l : Launch) (Z : State) (a0 : Array Value) (hw : ∀ d ∈ tables_1, d.before a0 Z = true) (p0 : Int32) (h0 : Heap) (n0 : Nat)  (hnz : p0 ≠ 0) : Own.Does l (⟨"com/example/keep1/keep1/filter/CellArray", "cellsPerWord", "(I)I"⟩ : MethodName) prog_11_method_8_code 1 (some .int) [] ({ frames := 0, cells := 0, slots := 0, locals := 0 } : Room) Z #[(.int p0)] h0 n0 (fun v h => v = some (.int ((64 : Int32) / p0)) ∧ h = h0) := by
  refine Own.doesOf pn0 ?_
  intro p e s m below meth c hx hby hml hret hlk hown hnm hZ
  refine Own.Goes.cast (ef2 m p0) ?_
  refine Own.bipush hx (64 : Int32) (hb hby d2_0) rfl (by decide) ?_
  refine Own.iloadN hx p0 (hb hby d2_2) rfl rfl ?_
  refine Own.idiv hx (hb hby d2_3) rfl hnz ?_
  exact Own.retI hx hret hlk (hb hby d2_4) (by decide) (by decide) ⟨rfl, rfl⟩

theorem own_lnz {x : Int32} (q : x ≠ 0) : x.toInt64 ≠ 0 := fun z => q (by have := congrArg Int64.toInt z; rw [c_i2l] at this; exact Int32.toInt_inj.mp this)
theorem pd0 : parseMethodDescriptor "(I)I" = some ⟨[.int], some .int⟩ := by decide +kernel
theorem d1_0 : decode prog_11_method_4_code 0 = .ok (.lload_n 0, 1) := by decide +kernel
theorem d1_1 : decode prog_11_method_4_code 1 = .ok (.ldc2_w 105, 3) := by decide +kernel
theorem d1_4 : decode prog_11_method_4_code 4 = .ok (.lmul, 1) := by decide +kernel
theorem d1_5 : decode prog_11_method_4_code 5 = .ok (.lstore_n 3, 1) := by decide +kernel
theorem d1_6 : decode prog_11_method_4_code 6 = .ok (.lload_n 3, 1) := by decide +kernel
theorem d1_7 : decode prog_11_method_4_code 7 = .ok (.ldc2_w 107, 3) := by decide +kernel
theorem d1_10 : decode prog_11_method_4_code 10 = .ok (.ldiv, 1) := by decide +kernel
theorem d1_11 : decode prog_11_method_4_code 11 = .ok (.iload_n 2, 1) := by decide +kernel
theorem d1_12 : decode prog_11_method_4_code 12 = .ok (.invokestatic 16, 3) := by decide +kernel
theorem d1_15 : decode prog_11_method_4_code 15 = .ok (.i2l, 1) := by decide +kernel
theorem d1_16 : decode prog_11_method_4_code 16 = .ok (.lmul, 1) := by decide +kernel
theorem d1_17 : decode prog_11_method_4_code 17 = .ok (.lload_n 3, 1) := by decide +kernel
theorem d1_18 : decode prog_11_method_4_code 18 = .ok (.ldc2_w 107, 3) := by decide +kernel
theorem d1_21 : decode prog_11_method_4_code 21 = .ok (.lrem, 1) := by decide +kernel
theorem d1_22 : decode prog_11_method_4_code 22 = .ok (.iload_n 2, 1) := by decide +kernel
theorem d1_23 : decode prog_11_method_4_code 23 = .ok (.i2l, 1) := by decide +kernel
theorem d1_24 : decode prog_11_method_4_code 24 = .ok (.ldiv, 1) := by decide +kernel
theorem d1_25 : decode prog_11_method_4_code 25 = .ok (.ladd, 1) := by decide +kernel
theorem d1_26 : decode prog_11_method_4_code 26 = .ok (.lreturn, 1) := by decide +kernel
theorem pn1 : plainFor (⟨"com/example/keep1/keep1/filter/CellArray", "capacity", "(JI)J"⟩ : MethodName) = true := by first | exact plainFor_of_name (by simp [plainName, overriddenIn]; done) | decide +kernel
theorem ef1 (m : MethodId) (q0 : Int64) (p1 : Int32) : entryFrame m #[(.long q0), (.int p1)] 5 = mkF m 0 #[.val (.long q0), .second, .val (.int p1), .unset, .unset] [] := by first | (simp [entryFrame, mkF, argsToLocals, Value.category]; done) | rfl
set_option maxRecDepth 65536 in
set_option maxHeartbeats 40000000 in
theorem rm1 (l : Launch) (Z : State) (a0 : Array Value) (hw : ∀ d ∈ tables_1, d.before a0 Z = true) (q0 : Int64) (p1 : Int32) (h0 : Heap) (n0 : Nat)  (hnz : p1 ≠ 0) : Own.Does l (⟨"com/example/keep1/keep1/filter/CellArray", "capacity", "(JI)J"⟩ : MethodName) prog_11_method_4_code 5 (some .long) [] ({ frames := 1, cells := 0, slots := 0, locals := 16 } : Room) Z #[(.long q0), (.int p1)] h0 n0 (fun v h => v = some (.long (fCap q0 p1)) ∧ h = h0) := by
  refine Own.doesOf pn1 ?_
  intro p e s m below meth c hx hby hml hret hlk hown hnm hZ
  refine Own.Goes.cast (ef1 m q0 p1) ?_
  refine Own.lloadN hx q0 (hb hby d1_0) rfl rfl ?_
  refine Own.ldc2 hx hZ hown (8 : Int64) (hb hby d1_1) rfl (hw _ (List.mem_of_getElem? (i := 6) rfl)) ?_
  refine Own.lmul hx (hb hby d1_4) rfl ?_
  obtain ⟨v1, h_v1⟩ : ∃ z : Int64, z = (q0 * (8 : Int64)) := ⟨_, rfl⟩
  refine Own.lstoreN hx v1 h_v1 #[.val (.long q0), .second, .val (.int p1), .val (.long v1), .second] (hb hby d1_5) rfl rfl ?_
  refine Own.lloadN hx v1 (hb hby d1_6) rfl rfl ?_
  refine Own.ldc2 hx hZ hown (64 : Int64) (hb hby d1_7) rfl (hw _ (List.mem_of_getElem? (i := 7) rfl)) ?_
  refine Own.ldiv hx (hb hby d1_10) rfl (by decide) ?_
  refine Own.iloadN hx p1 (hb hby d1_11) rfl rfl ?_
  refine Own.callS hx hZ hown (hw _ (List.mem_of_getElem? (i := 8) rfl)) (hw _ (List.mem_of_getElem? (i := 9) rfl)) (hw _ (List.mem_of_getElem? (i := 4) rfl)) (hw _ (List.mem_of_getElem? (i := 10) rfl)) (by decide) pd0 (argsL := [(.int p1)]) (rest := [(.long (v1 / (64 : Int64)))]) rfl (W := 2) (Nat.le_of_eq rfl) (rm := ({ frames := 0, cells := 0, slots := 0, locals := 0 } : Room)) (by decide) (by decide) (by decide) (by decide) (k' := 0) (n' := 0) rfl rfl (by rw [hml]; rfl) [(.int p1), (.long (v1 / (64 : Int64)))] rfl (hb hby d1_12) (pc' := 15) rfl (rm2 l Z a0 hw p1 h0 n0 hnz) ?_
  rintro _ h' ⟨rfl, eh⟩
  rw [eh]; clear eh h'
  show Own.Goes _ _ _ _ _ _ _ _ _ _ _ _ _ _ _ _ _ (mkF m 15 #[.val (.long q0), .second, .val (.int p1), .val (.long v1), .second] [(.int ((64 : Int32) / p1)), (.long (v1 / (64 : Int64)))])
  refine Own.i2l hx (hb hby d1_15) rfl ?_
  refine Own.lmul hx (hb hby d1_16) rfl ?_
  refine Own.lloadN hx v1 (hb hby d1_17) rfl rfl ?_
  refine Own.ldc2 hx hZ hown (64 : Int64) (hb hby d1_18) rfl (hw _ (List.mem_of_getElem? (i := 7) rfl)) ?_
  refine Own.lrem hx (hb hby d1_21) rfl (by decide) ?_
  refine Own.iloadN hx p1 (hb hby d1_22) rfl rfl ?_
  refine Own.i2l hx (hb hby d1_23) rfl ?_
  refine Own.ldiv hx (hb hby d1_24) rfl (own_lnz hnz) ?_
  refine Own.ladd hx (hb hby d1_25) rfl ?_
  exact Own.retL hx hret hlk (hb hby d1_26) (by decide) (by decide) ⟨by subst h_v1; rfl, rfl⟩

theorem own_nb {x : Int32} (q : x = 0 ∨ x = 1) : nar .boolean x = x := by rcases q with rfl | rfl <;> rfl
theorem d3_0 : decode method_3_code 0 = .ok (.lload_n 0, 1) := by decide +kernel
theorem d3_1 : decode method_3_code 1 = .ok (.lload 4, 2) := by decide +kernel
theorem d3_3 : decode method_3_code 3 = .ok (.lcmp, 1) := by decide +kernel
theorem d3_4 : decode method_3_code 4 = .ok (.ifCond .lt 17, 3) := by decide +kernel
theorem d3_7 : decode method_3_code 7 = .ok (.lload_n 0, 1) := by decide +kernel
theorem d3_8 : decode method_3_code 8 = .ok (.lload 4, 2) := by decide +kernel
theorem d3_10 : decode method_3_code 10 = .ok (.lcmp, 1) := by decide +kernel
theorem d3_11 : decode method_3_code 11 = .ok (.ifCond .ne 14, 3) := by decide +kernel
theorem d3_14 : decode method_3_code 14 = .ok (.lload_n 2, 1) := by decide +kernel
theorem d3_15 : decode method_3_code 15 = .ok (.lload 6, 2) := by decide +kernel
theorem d3_17 : decode method_3_code 17 = .ok (.lcmp, 1) := by decide +kernel
theorem d3_18 : decode method_3_code 18 = .ok (.ifCond .gt 7, 3) := by decide +kernel
theorem d3_21 : decode method_3_code 21 = .ok (.iconst 1, 1) := by decide +kernel
theorem d3_22 : decode method_3_code 22 = .ok (.goto 4, 3) := by decide +kernel
theorem d3_25 : decode method_3_code 25 = .ok (.iconst 0, 1) := by decide +kernel
theorem d3_26 : decode method_3_code 26 = .ok (.ireturn, 1) := by decide +kernel
theorem pn2 : plainFor (⟨"com/example/keep1/keep1/filter/CellArrayCapacityPinLaw", "fits", "(JJJJ)Z"⟩ : MethodName) = true := by first | exact plainFor_of_name (by simp [plainName, overriddenIn]; done) | decide +kernel
theorem ef3 (m : MethodId) (q0 : Int64) (q1 : Int64) (q2 : Int64) (q3 : Int64) : entryFrame m #[(.long q0), (.long q1), (.long q2), (.long q3)] 8 = mkF m 0 #[.val (.long q0), .second, .val (.long q1), .second, .val (.long q2), .second, .val (.long q3), .second] [] := by first | (simp [entryFrame, mkF, argsToLocals, Value.category]; done) | rfl
set_option maxRecDepth 65536 in
set_option maxHeartbeats 40000000 in
theorem rm3 (l : Launch) (Z : State) (a0 : Array Value) (hw : ∀ d ∈ tables_1, d.before a0 Z = true) (q0 : Int64) (q1 : Int64) (q2 : Int64) (q3 : Int64) (h0 : Heap) (n0 : Nat)   : Own.Does l (⟨"com/example/keep1/keep1/filter/CellArrayCapacityPinLaw", "fits", "(JJJJ)Z"⟩ : MethodName) method_3_code 8 (some .boolean) [] ({ frames := 0, cells := 0, slots := 0, locals := 0 } : Room) Z #[(.long q0), (.long q1), (.long q2), (.long q3)] h0 n0 (fun v h => v = some (.int (fFits q0 q1 q2 q3)) ∧ h = h0) := by
  refine Own.doesOf pn2 ?_
  intro p e s m below meth c hx hby hml hret hlk hown hnm hZ
  refine Own.Goes.cast (ef3 m q0 q1 q2 q3) ?_
  refine Own.lloadN hx q0 (hb hby d3_0) rfl rfl ?_
  refine Own.lload hx q2 (hb hby d3_1) rfl rfl ?_
  refine Own.lcmp hx (hb hby d3_3) rfl ?_
  obtain ⟨v4, h_v4⟩ : ∃ z : Int32, z = (if q0 < q2 then (1 : Int32) else (if q0 = q2 then (if q3 < q1 then (0 : Int32) else (1 : Int32)) else (0 : Int32))) := ⟨_, rfl⟩
  refine Own.Goes.join (mkF m 26 #[.val (.long q0), .second, .val (.long q1), .second, .val (.long q2), .second, .val (.long q3), .second] [(.int v4)]) (fun kJ5 => ?_) ?_
  · refine Own.ifF hx (Own.w_lt q0 q2) (hb hby d3_4) (pcN := 7) rfl (by decide) (pcT := 21) rfl (fun hc1 => ?_) (fun hc1 => ?_)
    · refine Own.iconst hx (1 : Int32) (hb hby d3_21) rfl (by decide) ?_
      refine Own.goto hx (hb hby d3_22) (by decide) (pc' := 26) rfl ?_
      try simp only [if_pos hc1] at h_v4
      subst h_v4
      exact kJ5
    · refine Own.lloadN hx q0 (hb hby d3_7) rfl rfl ?_
      refine Own.lload hx q2 (hb hby d3_8) rfl rfl ?_
      refine Own.lcmp hx (hb hby d3_10) rfl ?_
      refine Own.ifFn hx (Own.w_ne q0 q2) (hb hby d3_11) (pcN := 14) rfl (by decide) (pcT := 25) rfl (fun hc6 => ?_) (fun hc6 => ?_)
      · refine Own.iconst hx (0 : Int32) (hb hby d3_25) rfl (by decide) ?_
        try simp only [if_neg hc1, if_neg hc6] at h_v4
        subst h_v4
        exact kJ5
      · refine Own.lloadN hx q1 (hb hby d3_14) rfl rfl ?_
        refine Own.lload hx q3 (hb hby d3_15) rfl rfl ?_
        refine Own.lcmp hx (hb hby d3_17) rfl ?_
        refine Own.ifF hx (Own.w_gt q1 q3) (hb hby d3_18) (pcN := 21) rfl (by decide) (pcT := 25) rfl (fun hc7 => ?_) (fun hc7 => ?_)
        · refine Own.iconst hx (0 : Int32) (hb hby d3_25) rfl (by decide) ?_
          try simp only [if_neg hc1, if_pos hc6, if_pos hc7] at h_v4
          subst h_v4
          exact kJ5
        · refine Own.iconst hx (1 : Int32) (hb hby d3_21) rfl (by decide) ?_
          refine Own.goto hx (hb hby d3_22) (by decide) (pc' := 26) rfl ?_
          try simp only [if_neg hc1, if_pos hc6, if_neg hc7] at h_v4
          subst h_v4
          exact kJ5
  exact Own.retS hx hret (by simp) hlk (hb hby d3_26) (by decide) (by decide) ⟨by rw [own_nb (by rw [h_v4]; (repeat' split) <;> simp), h_v4]; unfold fFits; rfl, rfl⟩

theorem own_ushr (x : Int64) (q : Int32) (kk : Nat) (hk : ((q &&& 0x3f).toInt64.toUInt64).toBitVec.toNat % 64 = kk) : ((x.toUInt64 >>> (q &&& 0x3f).toInt64.toUInt64).toInt64).toBitVec = x.toBitVec >>> kk := by
  subst hk
  show (x.toUInt64 >>> (q &&& 0x3f).toInt64.toUInt64).toBitVec = _
  rw [UInt64.toBitVec_shiftRight]
  show x.toBitVec >>> (((q &&& 0x3f).toInt64.toUInt64).toBitVec % 64#64).toNat = _
  rw [BitVec.toNat_umod]
  rfl
theorem own_toInt {x : Int64} (h : x.toBitVec.toNat < 2 ^ 63) : x.toInt = (x.toBitVec.toNat : Int) := by
  show x.toBitVec.toInt = _
  rw [BitVec.toInt_eq_toNat_cond, if_pos (by omega)]
theorem own_toNat {x : Int64} (h : 0 ≤ x.toInt) : x.toInt = (x.toBitVec.toNat : Int) := by
  apply own_toInt
  have h1 : 0 ≤ x.toBitVec.toInt := h
  rw [BitVec.toInt_eq_toNat_cond] at h1
  have h2 := x.toBitVec.isLt
  split at h1 <;> omega
theorem own_bytes {q0 bytes : Int64} {sx : Int32} (h : bytes = ((q0 &&& (1152921504606846975 : Int64)).toUInt64 >>> (sx &&& 0x3f).toInt64.toUInt64).toInt64) : 0 ≤ bytes.toInt ∧ bytes.toInt < 1152921504606846976 := by
  have h1 := c_maskL q0 (1152921504606846975 : Int64) 60 (by decide) (by decide)
  generalize (q0 &&& (1152921504606846975 : Int64)) = y at *
  have h2 : 0 ≤ y.toInt ∧ y.toInt < 1152921504606846976 := by omega
  have h3 := own_toNat h2.1
  have h4 := own_ushr y sx _ rfl
  rw [← h] at h4
  have h5 : bytes.toBitVec.toNat ≤ y.toBitVec.toNat := by
    rw [h4, BitVec.toNat_ushiftRight, Nat.shiftRight_eq_div_pow]; exact Nat.div_le_self _ _
  have h6 := own_toInt (x := bytes) (by omega)
  omega
theorem own_bits {p1 bits : Int32} (h : bits = (1 : Int32) + ((p1 &&& (2147483647 : Int32)) % (31 : Int32))) : 1 ≤ bits.toInt ∧ bits.toInt ≤ 31 := by
  have M0 := (c_and p1 (2147483647 : Int32) (by decide)).1
  generalize (p1 &&& (2147483647 : Int32)) = y at *
  have e1 := (c_irem y 31 31 (by decide)).1 M0
  have e2 := c_iadd 1 (y % 31)
  have one : (1 : Int32).toInt = 1 := by decide
  rw [← h, e1, one] at e2
  have := rng32 bits
  omega
theorem own_tnz {p1 bits : Int32} (h : bits = (1 : Int32) + ((p1 &&& (2147483647 : Int32)) % (31 : Int32))) : bits ≠ 0 := fun q => by
  have := (own_bits h).1; rw [q] at this; exact absurd this (by decide)
theorem own_cc {bits cc : Int32} (hb' : 1 ≤ bits.toInt ∧ bits.toInt ≤ 31) (h : cc = (64 : Int32) / bits) : cc.toInt = 64 / bits.toInt := by
  have hne : bits ≠ -1 := fun q => by have := hb'.1; rw [q] at this; exact absurd this (by decide)
  have e1 := (c_idiv 64 bits bits.toInt rfl hne).1 (by decide)
  rw [h, e1]; rfl
theorem own_C {t : Int} (h : 1 ≤ t ∧ t ≤ 31) : 2 ≤ 64 / t ∧ 64 / t ≤ 64 := by
  have h0 : 0 < t := by omega
  constructor
  · rw [Int.le_ediv_iff_mul_le h0]; omega
  · exact Int.ediv_le_self _ (by decide)
theorem own_cnz {p1 bits cc : Int32} (h : bits = (1 : Int32) + ((p1 &&& (2147483647 : Int32)) % (31 : Int32))) (hc : cc = (64 : Int32) / bits) : cc ≠ 0 := fun q => by
  have h1 := own_cc (own_bits h) hc; have h2 := own_C (own_bits h)
  rw [q] at h1
  have h3 : (0 : Int32).toInt = 0 := by decide
  omega
/-- what capacity answers, in plain numbers -/
theorem own_cap {bytes nn : Int64} {bits : Int32} (hx0 : 0 ≤ bytes.toInt) (hx1 : bytes.toInt < 1152921504606846976) (hb' : 1 ≤ bits.toInt ∧ bits.toInt ≤ 31) (h : nn = fCap bytes bits) : nn.toInt = bytes.toInt / 8 * (64 / bits.toInt) + bytes.toInt % 8 * 8 / bits.toInt ∧ bytes.toInt / 8 * (64 / bits.toInt) ≤ bytes.toInt / 8 * 64 ∧ 0 ≤ bytes.toInt / 8 * (64 / bits.toInt) ∧ 0 ≤ bytes.toInt % 8 * 8 / bits.toInt ∧ bytes.toInt % 8 * 8 / bits.toInt ≤ 56 := by
  have hC := own_C hb'
  have e1 := c_lmul bytes 8
  have k8 : (8 : Int64).toInt = 8 := by decide
  rw [k8] at e1
  have r1 := rng64 (bytes * 8)
  have E1 : (bytes * 8).toInt = bytes.toInt * 8 := by omega
  have E2 := (c_ldiv (bytes * 8) 64 64 (by decide) (by decide)).1 (by omega)
  have E3 : (bytes * 8 % 64).toInt = bytes.toInt * 8 % 64 := by
    rw [Int64.toInt_mod, E1]
    exact Int.tmod_eq_emod_of_nonneg (by omega)
  have k1 : ((64 : Int32) / bits).toInt64.toInt = 64 / bits.toInt := by rw [c_i2l]; exact own_cc hb' rfl
  have k2 : bits.toInt64.toInt = bits.toInt := c_i2l _
  have kne : bits.toInt64 ≠ -1 := fun q => by have := congrArg Int64.toInt q; rw [k2, show (-1 : Int64).toInt = -1 from by decide] at this; omega
  have E4 := (c_ldiv (bytes * 8 % 64) bits.toInt64 bits.toInt k2 kne).1 (by omega)
  have e5 := c_lmul (bytes * 8 / 64) ((64 : Int32) / bits).toInt64
  rw [k1, E2, E1] at e5
  have d1 : bytes.toInt * 8 / 64 = bytes.toInt / 8 := by omega
  have d2 : bytes.toInt * 8 % 64 = bytes.toInt % 8 * 8 := by omega
  rw [d1] at e5
  rw [E3, d2] at E4
  have b1 : bytes.toInt / 8 * (64 / bits.toInt) ≤ bytes.toInt / 8 * 64 := Int.mul_le_mul_of_nonneg_left hC.2 (by omega)
  have b2 : 0 ≤ bytes.toInt / 8 * (64 / bits.toInt) := Int.mul_nonneg (by omega) (by omega)
  have b3 : 0 ≤ bytes.toInt % 8 * 8 / bits.toInt := Int.ediv_nonneg (by omega) (by omega)
  have b4 : bytes.toInt % 8 * 8 / bits.toInt ≤ bytes.toInt % 8 * 8 := Int.ediv_le_self _ (by omega)
  have r5 := rng64 (bytes * 8 / 64 * ((64 : Int32) / bits).toInt64)
  have e6 := c_ladd (bytes * 8 / 64 * ((64 : Int32) / bits).toInt64) (bytes * 8 % 64 / bits.toInt64)
  rw [E4] at e6
  have r6 := rng64 nn
  rw [h] at r6 ⊢
  unfold fCap at *
  generalize bytes.toInt / 8 * (64 / bits.toInt) = A at *
  generalize bytes.toInt % 8 * 8 / bits.toInt = B at *
  omega
theorem own_n0 {q0 bytes nn : Int64} {sx p1 bits : Int32} (h_bytes : bytes = ((q0 &&& (1152921504606846975 : Int64)).toUInt64 >>> (sx &&& 0x3f).toInt64.toUInt64).toInt64) (h_bits : bits = (1 : Int32) + ((p1 &&& (2147483647 : Int32)) % (31 : Int32))) (h_nn : nn = fCap bytes bits) : ¬ nn < (0 : Int64) := fun q => by
  obtain ⟨x0, x1⟩ := own_bytes h_bytes
  obtain ⟨e, -, e2, e3, -⟩ := own_cap x0 x1 (own_bits h_bits) h_nn
  have := Int64.lt_iff_toInt_lt.mp q
  rw [e, show (0 : Int64).toInt = 0 from by decide] at this
  omega
theorem own_dm {C W q : Int} (hC : 0 < C) (h0 : 0 ≤ q) (h1 : q < C) : (W * C + q) / C = W ∧ (W * C + q) % C = q := by
  constructor
  · rw [Int.add_comm, Int.add_mul_ediv_right _ _ (Int.ne_of_gt hC), Int.ediv_eq_zero_of_lt h0 h1]; omega
  · rw [Int.add_comm, Int.add_mul_emod_self_right, Int.emod_eq_of_lt h0 h1]
theorem own_end {a : Int64} {cc bits : Int32} {A C t : Int} (ha : a.toInt = A) (hA : 0 ≤ A) (hc : cc.toInt = C) (hC : 0 < C) (ht : bits.toInt = t) (ht0 : 1 ≤ t ∧ t ≤ 31) (hCt : C * t ≤ 64) : (a / cc.toInt64).toInt = A / C ∧ ((a % cc.toInt64 + 1) * bits.toInt64).toInt = (A % C + 1) * t := by
  have kc : cc.toInt64.toInt = C := (c_i2l _).trans hc
  have kt : bits.toInt64.toInt = t := (c_i2l _).trans ht
  have kne : cc.toInt64 ≠ -1 := fun q => by have := congrArg Int64.toInt q; rw [kc, show (-1 : Int64).toInt = -1 from by decide] at this; omega
  have E1 := (c_ldiv a cc.toInt64 C kc kne).1 (by omega)
  rw [ha] at E1
  have E2 : (a % cc.toInt64).toInt = A % C := by
    rw [Int64.toInt_mod, ha, kc]; exact Int.tmod_eq_emod_of_nonneg hA
  have r0 := Int.emod_nonneg A (Int.ne_of_gt hC); have r1 := Int.emod_lt_of_pos A hC
  have hC64 : C ≤ 64 := by
    have : C * 1 ≤ C * t := Int.mul_le_mul_of_nonneg_left ht0.1 (by omega)
    omega
  have e3 := c_ladd (a % cc.toInt64) 1
  have one : (1 : Int64).toInt = 1 := by decide
  have r3 := rng64 (a % cc.toInt64 + 1)
  rw [E2, one] at e3
  have E3 : (a % cc.toInt64 + 1).toInt = A % C + 1 := by omega
  have e4 := c_lmul (a % cc.toInt64 + 1) bits.toInt64
  rw [E3, kt] at e4
  have b1 : (A % C + 1) * t ≤ C * t := Int.mul_le_mul_of_nonneg_right (by omega) (by omega)
  have b2 : 0 ≤ (A % C + 1) * t := Int.mul_nonneg (by omega) (by omega)
  have r4 := rng64 ((a % cc.toInt64 + 1) * bits.toInt64)
  refine ⟨E1, ?_⟩
  generalize (A % C + 1) * t = B at *
  omega
theorem own_fits {w e x r : Int64} : fFits w e x r = if w.toInt < x.toInt ∨ (w.toInt = x.toInt ∧ e.toInt ≤ r.toInt) then 1 else 0 := by
  unfold fFits
  by_cases q : w < x
  · rw [if_pos q, if_pos (Or.inl (Int64.lt_iff_toInt_lt.mp q))]
  · have q' : ¬ w.toInt < x.toInt := fun z => q (Int64.lt_iff_toInt_lt.mpr z)
    rw [if_neg q]
    by_cases y : w = x
    · rw [if_pos y]
      subst y
      by_cases z : r < e
      · have z' := Int64.lt_iff_toInt_lt.mp z
        rw [if_pos z, if_neg (by omega)]
      · have z' : ¬ r.toInt < e.toInt := fun u => z (Int64.lt_iff_toInt_lt.mpr u)
        rw [if_neg z, if_pos (by omega)]
    · rw [if_neg y, if_neg]
      have y' : ¬ w.toInt = x.toInt := fun u => y (Int64.toInt_inj.mp u)
      omega
theorem own_fin {q0 bytes nn ww rr : Int64} {sx p1 bits cc fn fnext z : Int32} (h_bytes : bytes = ((q0 &&& (1152921504606846975 : Int64)).toUInt64 >>> (sx &&& 0x3f).toInt64.toUInt64).toInt64) (h_bits : bits = (1 : Int32) + ((p1 &&& (2147483647 : Int32)) % (31 : Int32))) (h_nn : nn = fCap bytes bits) (h_cc : cc = (64 : Int32) / bits)
    (h_ww : ww = (bytes.toUInt64 >>> ((3 : Int32) &&& 0x3f).toInt64.toUInt64).toInt64) (h_rr : rr = (bytes &&& (7 : Int64)) * (8 : Int64))
    (h_fn : fn = (if nn = (0 : Int64) then (1 : Int32) else (if (fFits ((nn - (1 : Int64)) / cc.toInt64) ((((nn - (1 : Int64)) % cc.toInt64) + (1 : Int64)) * bits.toInt64) ww rr) = (0 : Int32) then (0 : Int32) else (1 : Int32))))
    (h_fnext : fnext = (fFits (nn / cc.toInt64) (((nn % cc.toInt64) + (1 : Int64)) * bits.toInt64) ww rr)) (h_z : z = (if fn = (0 : Int32) then (0 : Int32) else (if fnext = (0 : Int32) then (1 : Int32) else (0 : Int32)))) : z = 1 := by
  obtain ⟨x0, x1⟩ := own_bytes h_bytes
  have hb' := own_bits h_bits
  obtain ⟨hn, -, hn2, hn3, hn4⟩ := own_cap x0 x1 hb' h_nn
  have hc := own_cc hb' h_cc
  have hC := own_C hb'
  have hw : ww.toInt = bytes.toInt / 8 := by
    have h4 := own_ushr bytes 3 3 (by decide)
    rw [← h_ww] at h4
    have h5 := own_toNat x0
    have h6 : ww.toBitVec.toNat = bytes.toBitVec.toNat / 8 := by rw [h4, BitVec.toNat_ushiftRight, Nat.shiftRight_eq_div_pow]
    have h7 := own_toInt (x := ww) (by omega)
    omega
  have hr : rr.toInt = bytes.toInt % 8 * 8 := by
    have h1 := c_maskL bytes 7 3 (by decide) (by decide)
    have h2 := c_lmul (bytes &&& 7) 8
    have k8 : (8 : Int64).toInt = 8 := by decide
    rw [← h_rr, h1, k8] at h2
    have := rng64 rr
    omega
  have hCt : 64 / bits.toInt * bits.toInt ≤ 64 := Int.ediv_mul_le _ (by omega)
  have t1 : bits.toInt * (bytes.toInt % 8 * 8 / bits.toInt) ≤ bytes.toInt % 8 * 8 := Int.mul_ediv_self_le (by omega)
  have t2 : bytes.toInt % 8 * 8 < bits.toInt * (bytes.toInt % 8 * 8 / bits.toInt) + bits.toInt := Int.lt_mul_ediv_self_add (by omega)
  have t3 : bytes.toInt % 8 * 8 / bits.toInt ≤ 64 / bits.toInt := Int.ediv_le_ediv (by omega) (by omega)
  have rn := rng64 nn
  have hr0 : 0 ≤ bytes.toInt % 8 * 8 ∧ bytes.toInt % 8 * 8 ≤ 56 := by omega
  have hW0 : 0 ≤ bytes.toInt / 8 := by omega
  generalize bytes.toInt % 8 * 8 = r at *
  generalize bytes.toInt / 8 = W at *
  have hq : r / bits.toInt * bits.toInt = bits.toInt * (r / bits.toInt) := Int.mul_comm _ _
  generalize r / bits.toInt = q at *
  generalize 64 / bits.toInt = C at *
  have zero : (0 : Int64).toInt = 0 := by decide
  have one : (1 : Int64).toInt = 1 := by decide
  -- the next one doesn't fit
  have F2 : fnext = 0 := by
    obtain ⟨a1, a2⟩ := own_end (a := nn) (cc := cc) (bits := bits) hn (by omega) hc (by omega) rfl hb' hCt
    rw [h_fnext, own_fits, a1, a2, hw, hr, if_neg]
    by_cases y : q < C
    · obtain ⟨b1, b2⟩ := own_dm (C := C) (W := W) (q := q) (by omega) hn3 y
      rw [b1, b2]
      have : (q + 1) * bits.toInt = bits.toInt * q + bits.toInt := by rw [Int.add_mul, hq, Int.one_mul]
      omega
    · have y' : q = C := by omega
      have : W * C + q = (W + 1) * C + 0 := by rw [y', Int.add_mul]; omega
      obtain ⟨b1, b2⟩ := own_dm (C := C) (W := W + 1) (q := 0) (by omega) (by omega) (by omega)
      rw [this, b1, b2]
      omega
  have F1 : fn = 1 := by
    rw [h_fn]
    by_cases y : nn = 0
    · rw [if_pos y]
    · rw [if_neg y]
      have y' : ¬ nn.toInt = 0 := fun u => y (Int64.toInt_inj.mp (u.trans zero.symm))
      have e1 := c_lsub nn 1
      have r1 := rng64 (nn - 1)
      rw [one] at e1
      have E1 : (nn - 1).toInt = W * C + q - 1 := by omega
      obtain ⟨a1, a2⟩ := own_end (a := nn - 1) (cc := cc) (bits := bits) E1 (by omega) hc (by omega) rfl hb' hCt
      have : fFits ((nn - 1) / cc.toInt64) (((nn - 1) % cc.toInt64 + 1) * bits.toInt64) ww rr = 1 := by
        rw [own_fits, a1, a2, hw, hr, if_pos]
        by_cases u : q = 0
        · have : W * C + q - 1 = (W - 1) * C + (C - 1) := by rw [u, Int.sub_mul]; omega
          obtain ⟨b1, b2⟩ := own_dm (C := C) (W := W - 1) (q := C - 1) (by omega) (by omega) (by omega)
          rw [this, b1, b2]
          omega
        · have : W * C + q - 1 = W * C + (q - 1) := by omega
          obtain ⟨b1, b2⟩ := own_dm (C := C) (W := W) (q := q - 1) (by omega) (by omega) (by omega)
          rw [this, b1, b2]
          have : (q - 1 + 1) * bits.toInt = bits.toInt * q := by rw [← hq]; congr 1; omega
          omega
      rw [this]; rfl
  rw [h_z, F1, F2]; rfl

theorem pd1 : parseMethodDescriptor "(JI)J" = some ⟨[.long, .int], some .long⟩ := by decide +kernel
theorem pd2 : parseMethodDescriptor "(JJJJ)Z" = some ⟨[.long, .long, .long, .long], some .boolean⟩ := by decide +kernel
theorem pn3 : plainFor (⟨"com/example/keep1/keep1/filter/CellArrayCapacityPinLaw", "law", "(JII)Z"⟩ : MethodName) = true := by first | exact plainFor_of_name (by simp [plainName, overriddenIn]; done) | decide +kernel
theorem ef0 (m : MethodId) (q0 : Int64) (p1 : Int32) (p2 : Int32) : entryFrame m #[(.long q0), (.int p1), (.int p2)] maxLocals = mkF m 0 #[.val (.long q0), .second, .val (.int p1), .val (.int p2), .unset, .unset, .unset, .unset, .unset, .unset, .unset, .unset, .unset, .unset, .unset, .unset] [] := by first | (simp [entryFrame, mkF, argsToLocals, Value.category, maxLocals]; done) | rfl
set_option maxRecDepth 65536 in
set_option maxHeartbeats 40000000 in
theorem rm0 (l : Launch) (Z : State) (a0 : Array Value) (hw : ∀ d ∈ tables_1, d.before a0 Z = true) (q0 : Int64) (p1 : Int32) (p2 : Int32) (h0 : Heap) (n0 : Nat)   : Own.Does l x code maxLocals ret tables_1 room_1 Z #[(.long q0), (.int p1), (.int p2)] h0 n0 (fun v _ => v = some (.int 1)) := by
  refine Own.doesOf pn3 ?_
  intro p e s m below meth c hx hby hml hret hlk hown hnm hZ
  replace hml : c.maxLocals = 16 := hml
  replace hown : s.vm.findClass "com/example/keep1/keep1/filter/CellArrayCapacityPinLaw" = some m.cls := hown
  replace hret : meth.sig.returnType = (some .boolean) := hret
  refine Own.Goes.cast (ef0 m q0 p1 p2) ?_
  refine Own.lloadN hx q0 (hb hby at_0) rfl rfl ?_
  refine Own.ldc2 hx hZ hown (1152921504606846975 : Int64) (hb hby at_1) rfl (hw _ (List.mem_of_getElem? (i := 0) rfl)) ?_
  refine Own.land hx (hb hby at_4) rfl ?_
  refine Own.iloadN hx p2 (hb hby at_5) rfl rfl ?_
  refine Own.bipush hx (63 : Int32) (hb hby at_6) rfl (by decide) ?_
  refine Own.iand hx (hb hby at_8) rfl ?_
  refine Own.lushr hx (hb hby at_9) rfl ?_
  obtain ⟨bytes, h_bytes⟩ : ∃ z : Int64, z = ((q0 &&& (1152921504606846975 : Int64)).toUInt64 >>> ((p2 &&& (63 : Int32)) &&& 0x3f).toInt64.toUInt64).toInt64 := ⟨_, rfl⟩
  refine Own.lstore hx bytes h_bytes #[.val (.long q0), .second, .val (.int p1), .val (.int p2), .val (.long bytes), .second, .unset, .unset, .unset, .unset, .unset, .unset, .unset, .unset, .unset, .unset] (hb hby at_10) rfl rfl ?_
  refine Own.iconst hx (1 : Int32) (hb hby at_12) rfl (by decide) ?_
  refine Own.iloadN hx p1 (hb hby at_13) rfl rfl ?_
  refine Own.ldc hx hZ hown (2147483647 : Int32) (hb hby at_14) rfl (hw _ (List.mem_of_getElem? (i := 1) rfl)) ?_
  refine Own.iand hx (hb hby at_16) rfl ?_
  refine Own.bipush hx (31 : Int32) (hb hby at_17) rfl (by decide) ?_
  refine Own.irem hx (hb hby at_19) rfl (by decide) ?_
  refine Own.iadd hx (hb hby at_20) rfl ?_
  obtain ⟨bits, h_bits⟩ : ∃ z : Int32, z = ((1 : Int32) + ((p1 &&& (2147483647 : Int32)) % (31 : Int32))) := ⟨_, rfl⟩
  refine Own.istore hx bits h_bits #[.val (.long q0), .second, .val (.int p1), .val (.int p2), .val (.long bytes), .second, .val (.int bits), .unset, .unset, .unset, .unset, .unset, .unset, .unset, .unset, .unset] (hb hby at_21) rfl rfl ?_
  refine Own.lload hx bytes (hb hby at_23) rfl rfl ?_
  refine Own.iload hx bits (hb hby at_25) rfl rfl ?_
  refine Own.callS hx hZ hown (hw _ (List.mem_of_getElem? (i := 2) rfl)) (hw _ (List.mem_of_getElem? (i := 3) rfl)) (hw _ (List.mem_of_getElem? (i := 4) rfl)) (hw _ (List.mem_of_getElem? (i := 5) rfl)) (by decide) pd1 (argsL := [(.long bytes), (.int bits)]) (rest := []) rfl (W := 0) (Nat.le_of_eq rfl) (rm := ({ frames := 1, cells := 0, slots := 0, locals := 16 } : Room)) (by decide) (by decide) (by decide) (by decide) (k' := 0) (n' := 0) rfl rfl (by rw [hml]; rfl) [(.int bits), (.long bytes)] rfl (hb hby at_27) (pc' := 30) rfl (rm1 l Z a0 hw bytes bits h0 n0 (own_tnz h_bits)) ?_
  rintro _ h' ⟨rfl, eh⟩
  rw [eh]; clear eh h'
  show Own.Goes _ _ _ _ _ _ _ _ _ _ _ _ _ _ _ _ _ (mkF m 30 #[.val (.long q0), .second, .val (.int p1), .val (.int p2), .val (.long bytes), .second, .val (.int bits), .unset, .unset, .unset, .unset, .unset, .unset, .unset, .unset, .unset] [(.long (fCap bytes bits))])
  obtain ⟨nn, h_nn⟩ : ∃ z : Int64, z = (fCap bytes bits) := ⟨_, rfl⟩
  refine Own.lstore hx nn h_nn #[.val (.long q0), .second, .val (.int p1), .val (.int p2), .val (.long bytes), .second, .val (.int bits), .val (.long nn), .second, .unset, .unset, .unset, .unset, .unset, .unset, .unset] (hb hby at_30) rfl rfl ?_
  refine Own.lload hx nn (hb hby at_32) rfl rfl ?_
  refine Own.lconst hx (0 : Int64) (hb hby at_34) rfl (by decide) ?_
  refine Own.lcmp hx (hb hby at_35) rfl ?_
  have hc1 : ¬ (nn < (0 : Int64)) := own_n0 h_bytes h_bits h_nn
  refine Own.ifFn hx (Own.w_ge nn (0 : Int64)) (hb hby at_36) (pcN := 39) rfl (by decide) (pcT := 41) rfl (fun _ => ?_) (fun q => absurd q hc1)
  refine Own.bipush hx (64 : Int32) (hb hby at_41) rfl (by decide) ?_
  refine Own.iload hx bits (hb hby at_43) rfl rfl ?_
  refine Own.idiv hx (hb hby at_45) rfl (own_tnz h_bits) ?_
  obtain ⟨cc, h_cc⟩ : ∃ z : Int32, z = ((64 : Int32) / bits) := ⟨_, rfl⟩
  refine Own.istore hx cc h_cc #[.val (.long q0), .second, .val (.int p1), .val (.int p2), .val (.long bytes), .second, .val (.int bits), .val (.long nn), .second, .val (.int cc), .unset, .unset, .unset, .unset, .unset, .unset] (hb hby at_46) rfl rfl ?_
  refine Own.lload hx bytes (hb hby at_48) rfl rfl ?_
  refine Own.iconst hx (3 : Int32) (hb hby at_50) rfl (by decide) ?_
  refine Own.lushr hx (hb hby at_51) rfl ?_
  obtain ⟨ww, h_ww⟩ : ∃ z : Int64, z = (bytes.toUInt64 >>> ((3 : Int32) &&& 0x3f).toInt64.toUInt64).toInt64 := ⟨_, rfl⟩
  refine Own.lstore hx ww h_ww #[.val (.long q0), .second, .val (.int p1), .val (.int p2), .val (.long bytes), .second, .val (.int bits), .val (.long nn), .second, .val (.int cc), .val (.long ww), .second, .unset, .unset, .unset, .unset] (hb hby at_52) rfl rfl ?_
  refine Own.lload hx bytes (hb hby at_54) rfl rfl ?_
  refine Own.ldc2 hx hZ hown (7 : Int64) (hb hby at_56) rfl (hw _ (List.mem_of_getElem? (i := 11) rfl)) ?_
  refine Own.land hx (hb hby at_59) rfl ?_
  refine Own.ldc2 hx hZ hown (8 : Int64) (hb hby at_60) rfl (hw _ (List.mem_of_getElem? (i := 12) rfl)) ?_
  refine Own.lmul hx (hb hby at_63) rfl ?_
  obtain ⟨rr, h_rr⟩ : ∃ z : Int64, z = ((bytes &&& (7 : Int64)) * (8 : Int64)) := ⟨_, rfl⟩
  refine Own.lstore hx rr h_rr #[.val (.long q0), .second, .val (.int p1), .val (.int p2), .val (.long bytes), .second, .val (.int bits), .val (.long nn), .second, .val (.int cc), .val (.long ww), .second, .val (.long rr), .second, .unset, .unset] (hb hby at_64) rfl rfl ?_
  refine Own.lload hx nn (hb hby at_66) rfl rfl ?_
  refine Own.lconst hx (0 : Int64) (hb hby at_68) rfl (by decide) ?_
  refine Own.lcmp hx (hb hby at_69) rfl ?_
  obtain ⟨fn, h_fn⟩ : ∃ z : Int32, z = (if nn = (0 : Int64) then (1 : Int32) else (if (fFits ((nn - (1 : Int64)) / cc.toInt64) ((((nn - (1 : Int64)) % cc.toInt64) + (1 : Int64)) * bits.toInt64) ww rr) = (0 : Int32) then (0 : Int32) else (1 : Int32))) := ⟨_, rfl⟩
  refine Own.Goes.join (mkF m 110 #[.val (.long q0), .second, .val (.int p1), .val (.int p2), .val (.long bytes), .second, .val (.int bits), .val (.long nn), .second, .val (.int cc), .val (.long ww), .second, .val (.long rr), .second, .unset, .unset] [(.int fn)]) (fun kJ5 => ?_) ?_
  · refine Own.ifF hx (Own.w_eq nn (0 : Int64)) (hb hby at_70) (pcN := 73) rfl (by decide) (pcT := 105) rfl (fun hc3 => ?_) (fun hc3 => ?_)
    · refine Own.iconst hx (1 : Int32) (hb hby at_105) rfl (by decide) ?_
      refine Own.goto hx (hb hby at_106) (by decide) (pc' := 110) rfl ?_
      try simp only [if_pos hc3] at h_fn
      subst h_fn
      exact kJ5
    · refine Own.lload hx nn (hb hby at_73) rfl rfl ?_
      refine Own.lconst hx (1 : Int64) (hb hby at_75) rfl (by decide) ?_
      refine Own.lsub hx (hb hby at_76) rfl ?_
      refine Own.iload hx cc (hb hby at_77) rfl rfl ?_
      refine Own.i2l hx (hb hby at_79) rfl ?_
      refine Own.ldiv hx (hb hby at_80) rfl (own_lnz (own_cnz h_bits h_cc)) ?_
      refine Own.lload hx nn (hb hby at_81) rfl rfl ?_
      refine Own.lconst hx (1 : Int64) (hb hby at_83) rfl (by decide) ?_
      refine Own.lsub hx (hb hby at_84) rfl ?_
      refine Own.iload hx cc (hb hby at_85) rfl rfl ?_
      refine Own.i2l hx (hb hby at_87) rfl ?_
      refine Own.lrem hx (hb hby at_88) rfl (own_lnz (own_cnz h_bits h_cc)) ?_
      refine Own.lconst hx (1 : Int64) (hb hby at_89) rfl (by decide) ?_
      refine Own.ladd hx (hb hby at_90) rfl ?_
      refine Own.iload hx bits (hb hby at_91) rfl rfl ?_
      refine Own.i2l hx (hb hby at_93) rfl ?_
      refine Own.lmul hx (hb hby at_94) rfl ?_
      refine Own.lload hx ww (hb hby at_95) rfl rfl ?_
      refine Own.lload hx rr (hb hby at_97) rfl rfl ?_
      refine Own.callS hx hZ hown (hw _ (List.mem_of_getElem? (i := 13) rfl)) (hw _ (List.mem_of_getElem? (i := 14) rfl)) (hw _ (List.mem_of_getElem? (i := 15) rfl)) (hw _ (List.mem_of_getElem? (i := 16) rfl)) (by decide) pd2 (argsL := [(.long ((nn - (1 : Int64)) / cc.toInt64)), (.long ((((nn - (1 : Int64)) % cc.toInt64) + (1 : Int64)) * bits.toInt64)), (.long ww), (.long rr)]) (rest := []) rfl (W := 0) (Nat.le_of_eq rfl) (rm := ({ frames := 0, cells := 0, slots := 0, locals := 0 } : Room)) (by decide) (by decide) (by decide) (by decide) (k' := 0) (n' := 0) rfl rfl (by rw [hml]; rfl) [(.long rr), (.long ww), (.long ((((nn - (1 : Int64)) % cc.toInt64) + (1 : Int64)) * bits.toInt64)), (.long ((nn - (1 : Int64)) / cc.toInt64))] rfl (hb hby at_99) (pc' := 102) rfl (rm3 l Z a0 hw ((nn - (1 : Int64)) / cc.toInt64) ((((nn - (1 : Int64)) % cc.toInt64) + (1 : Int64)) * bits.toInt64) ww rr h0 n0) ?_
      rintro _ h' ⟨rfl, eh⟩
      rw [eh]; clear eh h'
      show Own.Goes _ _ _ _ _ _ _ _ _ _ _ _ _ _ _ _ _ (mkF m 102 #[.val (.long q0), .second, .val (.int p1), .val (.int p2), .val (.long bytes), .second, .val (.int bits), .val (.long nn), .second, .val (.int cc), .val (.long ww), .second, .val (.long rr), .second, .unset, .unset] [(.int (fFits ((nn - (1 : Int64)) / cc.toInt64) ((((nn - (1 : Int64)) % cc.toInt64) + (1 : Int64)) * bits.toInt64) ww rr))])
      refine Own.ifF hx (Own.z_eq (fFits ((nn - (1 : Int64)) / cc.toInt64) ((((nn - (1 : Int64)) % cc.toInt64) + (1 : Int64)) * bits.toInt64) ww rr)) (hb hby at_102) (pcN := 105) rfl (by decide) (pcT := 109) rfl (fun hc6 => ?_) (fun hc6 => ?_)
      · refine Own.iconst hx (0 : Int32) (hb hby at_109) rfl (by decide) ?_
        try simp only [if_neg hc3, if_pos hc6] at h_fn
        subst h_fn
        exact kJ5
      · refine Own.iconst hx (1 : Int32) (hb hby at_105) rfl (by decide) ?_
        refine Own.goto hx (hb hby at_106) (by decide) (pc' := 110) rfl ?_
        try simp only [if_neg hc3, if_neg hc6] at h_fn
        subst h_fn
        exact kJ5
  refine Own.istore hx fn rfl #[.val (.long q0), .second, .val (.int p1), .val (.int p2), .val (.long bytes), .second, .val (.int bits), .val (.long nn), .second, .val (.int cc), .val (.long ww), .second, .val (.long rr), .second, .val (.int fn), .unset] (hb hby at_110) rfl rfl ?_
  refine Own.lload hx nn (hb hby at_112) rfl rfl ?_
  refine Own.iload hx cc (hb hby at_114) rfl rfl ?_
  refine Own.i2l hx (hb hby at_116) rfl ?_
  refine Own.ldiv hx (hb hby at_117) rfl (own_lnz (own_cnz h_bits h_cc)) ?_
  refine Own.lload hx nn (hb hby at_118) rfl rfl ?_
  refine Own.iload hx cc (hb hby at_120) rfl rfl ?_
  refine Own.i2l hx (hb hby at_122) rfl ?_
  refine Own.lrem hx (hb hby at_123) rfl (own_lnz (own_cnz h_bits h_cc)) ?_
  refine Own.lconst hx (1 : Int64) (hb hby at_124) rfl (by decide) ?_
  refine Own.ladd hx (hb hby at_125) rfl ?_
  refine Own.iload hx bits (hb hby at_126) rfl rfl ?_
  refine Own.i2l hx (hb hby at_128) rfl ?_
  refine Own.lmul hx (hb hby at_129) rfl ?_
  refine Own.lload hx ww (hb hby at_130) rfl rfl ?_
  refine Own.lload hx rr (hb hby at_132) rfl rfl ?_
  refine Own.callS hx hZ hown (hw _ (List.mem_of_getElem? (i := 13) rfl)) (hw _ (List.mem_of_getElem? (i := 14) rfl)) (hw _ (List.mem_of_getElem? (i := 15) rfl)) (hw _ (List.mem_of_getElem? (i := 16) rfl)) (by decide) pd2 (argsL := [(.long (nn / cc.toInt64)), (.long (((nn % cc.toInt64) + (1 : Int64)) * bits.toInt64)), (.long ww), (.long rr)]) (rest := []) rfl (W := 0) (Nat.le_of_eq rfl) (rm := ({ frames := 0, cells := 0, slots := 0, locals := 0 } : Room)) (by decide) (by decide) (by decide) (by decide) (k' := 0) (n' := 0) rfl rfl (by rw [hml]; rfl) [(.long rr), (.long ww), (.long (((nn % cc.toInt64) + (1 : Int64)) * bits.toInt64)), (.long (nn / cc.toInt64))] rfl (hb hby at_134) (pc' := 137) rfl (rm3 l Z a0 hw (nn / cc.toInt64) (((nn % cc.toInt64) + (1 : Int64)) * bits.toInt64) ww rr h0 n0) ?_
  rintro _ h' ⟨rfl, eh⟩
  rw [eh]; clear eh h'
  show Own.Goes _ _ _ _ _ _ _ _ _ _ _ _ _ _ _ _ _ (mkF m 137 #[.val (.long q0), .second, .val (.int p1), .val (.int p2), .val (.long bytes), .second, .val (.int bits), .val (.long nn), .second, .val (.int cc), .val (.long ww), .second, .val (.long rr), .second, .val (.int fn), .unset] [(.int (fFits (nn / cc.toInt64) (((nn % cc.toInt64) + (1 : Int64)) * bits.toInt64) ww rr))])
  obtain ⟨fnext, h_fnext⟩ : ∃ z : Int32, z = (fFits (nn / cc.toInt64) (((nn % cc.toInt64) + (1 : Int64)) * bits.toInt64) ww rr) := ⟨_, rfl⟩
  refine Own.istore hx fnext h_fnext #[.val (.long q0), .second, .val (.int p1), .val (.int p2), .val (.long bytes), .second, .val (.int bits), .val (.long nn), .second, .val (.int cc), .val (.long ww), .second, .val (.long rr), .second, .val (.int fn), .val (.int fnext)] (hb hby at_137) rfl rfl ?_
  refine Own.iload hx fn (hb hby at_139) rfl rfl ?_
  obtain ⟨z, h_z⟩ : ∃ z : Int32, z = (if fn = (0 : Int32) then (0 : Int32) else (if fnext = (0 : Int32) then (1 : Int32) else (0 : Int32))) := ⟨_, rfl⟩
  refine Own.Goes.join (mkF m 154 #[.val (.long q0), .second, .val (.int p1), .val (.int p2), .val (.long bytes), .second, .val (.int bits), .val (.long nn), .second, .val (.int cc), .val (.long ww), .second, .val (.long rr), .second, .val (.int fn), .val (.int fnext)] [(.int z)]) (fun kJ9 => ?_) ?_
  · refine Own.ifF hx (Own.z_eq fn) (hb hby at_141) (pcN := 144) rfl (by decide) (pcT := 153) rfl (fun hc7 => ?_) (fun hc7 => ?_)
    · refine Own.iconst hx (0 : Int32) (hb hby at_153) rfl (by decide) ?_
      try simp only [if_pos hc7] at h_z
      subst h_z
      exact kJ9
    · refine Own.iload hx fnext (hb hby at_144) rfl rfl ?_
      refine Own.ifFn hx (Own.z_ne fnext) (hb hby at_146) (pcN := 149) rfl (by decide) (pcT := 153) rfl (fun hc10 => ?_) (fun hc10 => ?_)
      · refine Own.iconst hx (0 : Int32) (hb hby at_153) rfl (by decide) ?_
        try simp only [if_neg hc7, if_neg hc10] at h_z
        subst h_z
        exact kJ9
      · refine Own.iconst hx (1 : Int32) (hb hby at_149) rfl (by decide) ?_
        refine Own.goto hx (hb hby at_150) (by decide) (pc' := 154) rfl ?_
        try simp only [if_neg hc7, if_pos hc10] at h_z
        subst h_z
        exact kJ9
  exact Own.retS hx hret (by simp) hlk (hb hby at_154) (by decide) (by decide) (Own.bool1 (own_fin h_bytes h_bits h_nn h_cc h_ww h_rr h_fn h_fnext h_z))

set_option maxRecDepth 65536 in
set_option maxHeartbeats 40000000 in
theorem comes_1 {Post : Tables → Env → Array Value → State → Outcome → State → Prop} (hpost : ∀ tb e args s v u, (limb_1_1.after args s (.returned v) u = true ∧ limb_1_2.after args s (.returned v) u = true ∧ True) → FrameEnd s (.returned v) u (Jvm.fieldLocs frame_1_writes args s ++ Jvm.arrayLocs frame_1_arrays args s ++ Jvm.staticLocs frame_1_statics s) 0 0 → Post tb e args s (.returned v) u) :
    ArmFor flags0 classFile x code maxLocals ret World_1 tables_1 room_1 Calls_1 rest_1 Pre_1 Post := by
  intro l hfl _ _ p e ha hc hk s m args below hf hA hF happ hP
  obtain ⟨hcalls, hrest, hpre⟩ := hP
  obtain ⟨-, -, -, hnamed, -, -, -, hat⟩ := (Spec.applies_iff hf).mp happ
  obtain ⟨hg, hn⟩ := and_e (Cond.before_iff.mp (show (Jvm.Cond.and given_1 narrow_1).before args s = true from hpre))
  obtain ⟨h1, g0⟩ := and_e hg
  obtain ⟨q0, g1⟩ := and_e g0
  obtain ⟨q1, g2⟩ := and_e g1
  have q2 := g2
  obtain ⟨w0, w1, w2, rfl⟩ : ∃ w0 w1 w2 : Value, args = #[w0, w1, w2] := by
    have hs : args.size = 3 := by simpa [Cond.value, given_1] using h1
    obtain ⟨L⟩ := args
    match L, hs with
    | [w0, w1, w2], _ => exact ⟨w0, w1, w2, rfl⟩
  have hw := fun d (hd : d ∈ tables_1) => atoms_spec (ws := Jvm.Cond.code x code maxLocals ret :: tables_1) hat d (List.mem_cons_of_mem _ hd)
  obtain ⟨i0, e0⟩ := isL_v q0
  obtain rfl : w0 = (.long i0) := Option.some.inj e0
  obtain ⟨i1, e1⟩ := is_v q1
  obtain rfl : w1 = (.int i1) := Option.some.inj e1
  obtain ⟨i2, e2⟩ := is_v q2
  obtain rfl : w2 = (.int i2) := Option.some.inj e2
  obtain ⟨n, o, h1, h2, h3, _, L, rfl, ⟨rfl, N⟩, hq⟩ := rm0 l s _ hw i0 i1 i2 s.heap s.heap.size  p e ha hc hk s m _ below hf ((Spec.applies_iff_loose hf).mp happ).1 ⟨rfl, State.Warmed39.refl s, rfl⟩ trivial
  refine ⟨n, _, h1, h2, h3, hpost _ _ _ _ _ _ ⟨Cond.after_iff.mpr rfl, Cond.after_iff.mpr (eq_i res_at (Term.int_eval (1)) rfl), trivial⟩ ⟨hq.1, hq.2.1, (hq.2.2.sift fun y hy => Or.inr (N y hy)).mono (by decide) (by decide)⟩⟩
theorem main_1_1 : Claimed_1_1 := comes_1 fun _ _ _ _ _ _ h hF => ⟨h.1, hF⟩
theorem main_1_2 : Claimed_1_2 := comes_1 fun _ _ _ _ _ _ h hF => ⟨h.2.1, hF⟩
end Jvm.Pilot.@@N@@
namespace Jvm.Pilot.@@N@@
open Jvm Jvm.ClassFile Sem Op Lib Jvm.Free Jvm.Stand Jvm.Pilot.@@N@@.Jvm.D
/-! MADE BY PROGRAM (witnessworld.py) out of the Statement's table words and the real class files: 9 classes; the members and pool entries that the words name. The judged class is class 1, her method 1. -/
namespace start1
open Jvm.ClassFile
def u (s : String) : CpInfo := .utf8 (stringToUtf16 s)
/-- a pool by its gaps: so many unusable entries, then the entry; so many at the end -/
def gap : Nat → List CpInfo → List CpInfo
  | 0, r => r
  | n + 1, r => .unusable :: gap n r
def poolList (es : List (Nat × CpInfo)) (last : Nat) : List CpInfo := es.foldr (fun e r => gap e.1 (e.2 :: r)) (gap last [])
def pool (es : List (Nat × CpInfo)) (last : Nat) : Array CpInfo := ⟨poolList es last⟩
def fileOf (pool : Array CpInfo) (this : Nat) (attrs : Array Attribute := #[]) (ms : Array MethodInfo := #[]) (fl : Nat := 33) (sup : Nat := 0) (ifs : Array Nat := #[]) (fds : Array FieldInfo := #[]) : ClassFile where
  minorVersion := 0
  majorVersion := 65
  constantPool := pool
  accessFlags := fl
  thisClass := this
  superClass := sup
  interfaces := ifs
  fields := fds
  methods := ms
  attributes := attrs
def plain (name : String) (sup : Option ClassId) : Class where
  name := name
  kind := .ordinary
  loader := none
  accessFlags := 33
  super := sup
  interfaces := #[]
  cf := none
  fields := #[]
  methods := #[]
  instanceTypes := #[]
  staticTypes := #[]
  resolved := #[]
  callSites := []
  init := .initialized
  statics := none
  mirror := none

def pool0 : Array CpInfo := pool [(5, u "<init>"), (0, u "()V"), (1, .class_ 10), (1, u "java/lang/Object")] 113

def k0m0 : Method := { name := "<init>", desc := "()V", sig := { parameters := [], returnType := none }, accessFlags := 1, code := none }
/-- java/lang/Object -/
def k0 : Class := { plain "java/lang/Object" none with
  accessFlags := 33
  interfaces := #[]
  cf := some (fileOf pool0 8 #[] #[{ accessFlags := 1, nameIndex := 5, descriptorIndex := 6, attributes := #[] }] 33 0 #[] #[])
  fields := #[]
  methods := #[k0m0]
  instanceTypes := #[]
  staticTypes := #[]
  resolved := Array.replicate 124 none
  statics := none }

def pool1 : Array CpInfo := pool [(2, .class_ 4), (1, u "java/lang/Object"), (0, u "<init>"), (0, u "()V"), (0, .long 1152921504606846975), (1, .integer 2147483647), (0, .methodref 11 12), (0, .class_ 13), (0, .nameAndType 14 15), (0, u "com/example/keep1/keep1/filter/CellArray"), (0, u "capacity"), (0, u "(JI)J"), (0, .long 7), (1, .long 8), (1, .methodref 21 22), (0, .class_ 23), (0, .nameAndType 24 25), (0, u "com/example/keep1/keep1/filter/CellArrayCapacityPinLaw"), (0, u "fits"), (0, u "(JJJJ)Z"), (2, u "law"), (0, u "(JII)Z")] 3

def k1m0 : Method := { name := "<init>", desc := "()V", sig := { parameters := [], returnType := none }, accessFlags := 1, code := none }
def k1c1 : Code := { maxStack := 8, maxLocals := 16, code := code, exceptionTable := #[], attributes := #[] }
def k1m1 : Method := { name := "law", desc := "(JII)Z", sig := { parameters := [.long, .int, .int], returnType := some .boolean }, accessFlags := 9, code := some k1c1 }
def k1c2 : Code := { maxStack := 4, maxLocals := 8, code := method_3_code, exceptionTable := #[], attributes := #[] }
def k1m2 : Method := { name := "fits", desc := "(JJJJ)Z", sig := { parameters := [.long, .long, .long, .long], returnType := some .boolean }, accessFlags := 10, code := some k1c2 }
/-- com/example/keep1/keep1/filter/CellArrayCapacityPinLaw -/
def k1 : Class := { plain "com/example/keep1/keep1/filter/CellArrayCapacityPinLaw" (some 0) with
  accessFlags := 49
  interfaces := #[]
  cf := some (fileOf pool1 21 #[] #[{ accessFlags := 1, nameIndex := 5, descriptorIndex := 6, attributes := #[] }, { accessFlags := 9, nameIndex := 28, descriptorIndex := 29, attributes := #[] }, { accessFlags := 10, nameIndex := 24, descriptorIndex := 25, attributes := #[] }] 49 2 #[] #[])
  fields := #[]
  methods := #[k1m0, k1m1, k1m2]
  instanceTypes := #[]
  staticTypes := #[]
  resolved := Array.replicate 33 none
  statics := none }

def pool2 : Array CpInfo := pool [(1, .class_ 2), (0, u "com/example/keep1/keep1/filter/CellArray"), (5, .class_ 10), (1, u "java/lang/Object"), (5, .methodref 1 17), (0, .nameAndType 18 19), (0, u "cellsPerWord"), (0, u "(I)I"), (3, u "(JI)J"), (2, u "size"), (0, u "J"), (2, u "bits"), (0, u "I"), (12, u "reciprocal"), (2, u "cellMask"), (2, u "lowestBits"), (2, u "dense"), (0, u "Z"), (7, u "wordShift"), (2, u "bitShift"), (2, u "pageShift"), (2, u "slotMask"), (4, u "pages"), (0, u "[[J"), (21, u "capacity"), (5, .long 8), (1, .long 64), (86, u "MAX_BYTES"), (1, u "MAX_BITS"), (1, u "PAGE_SHIFT")] 48

def k2c0 : Code := { maxStack := 6, maxLocals := 5, code := prog_11_method_4_code, exceptionTable := #[], attributes := #[] }
def k2m0 : Method := { name := "capacity", desc := "(JI)J", sig := { parameters := [.long, .int], returnType := some .long }, accessFlags := 8, code := some k2c0 }
def k2c1 : Code := { maxStack := 2, maxLocals := 1, code := prog_11_method_8_code, exceptionTable := #[], attributes := #[] }
def k2m1 : Method := { name := "cellsPerWord", desc := "(I)I", sig := { parameters := [.int], returnType := some .int }, accessFlags := 10, code := some k2c1 }
/-- com/example/keep1/keep1/filter/CellArray -/
def k2 : Class := { plain "com/example/keep1/keep1/filter/CellArray" (some 0) with
  accessFlags := 32
  interfaces := #[]
  cf := some (fileOf pool2 1 #[] #[{ accessFlags := 8, nameIndex := 99, descriptorIndex := 23, attributes := #[] }, { accessFlags := 10, nameIndex := 18, descriptorIndex := 19, attributes := #[] }] 32 8 #[] #[{ accessFlags := 24, nameIndex := 194, descriptorIndex := 27, attributes := #[] }, { accessFlags := 24, nameIndex := 196, descriptorIndex := 31, attributes := #[] }, { accessFlags := 26, nameIndex := 198, descriptorIndex := 31, attributes := #[] }, { accessFlags := 18, nameIndex := 26, descriptorIndex := 27, attributes := #[] }, { accessFlags := 18, nameIndex := 30, descriptorIndex := 31, attributes := #[] }, { accessFlags := 18, nameIndex := 18, descriptorIndex := 31, attributes := #[] }, { accessFlags := 18, nameIndex := 44, descriptorIndex := 27, attributes := #[] }, { accessFlags := 18, nameIndex := 47, descriptorIndex := 27, attributes := #[] }, { accessFlags := 18, nameIndex := 50, descriptorIndex := 27, attributes := #[] }, { accessFlags := 18, nameIndex := 53, descriptorIndex := 54, attributes := #[] }, { accessFlags := 18, nameIndex := 62, descriptorIndex := 31, attributes := #[] }, { accessFlags := 18, nameIndex := 65, descriptorIndex := 31, attributes := #[] }, { accessFlags := 18, nameIndex := 68, descriptorIndex := 31, attributes := #[] }, { accessFlags := 18, nameIndex := 71, descriptorIndex := 27, attributes := #[] }, { accessFlags := 18, nameIndex := 76, descriptorIndex := 77, attributes := #[] }])
  fields := #[{ name := "MAX_BYTES", type := .long, accessFlags := 24, slot := 0, constantValue := 0 }, { name := "MAX_BITS", type := .int, accessFlags := 24, slot := 1, constantValue := 0 }, { name := "PAGE_SHIFT", type := .int, accessFlags := 26, slot := 2, constantValue := 0 }, { name := "size", type := .long, accessFlags := 18, slot := 0, constantValue := 0 }, { name := "bits", type := .int, accessFlags := 18, slot := 1, constantValue := 0 }, { name := "cellsPerWord", type := .int, accessFlags := 18, slot := 2, constantValue := 0 }, { name := "reciprocal", type := .long, accessFlags := 18, slot := 3, constantValue := 0 }, { name := "cellMask", type := .long, accessFlags := 18, slot := 4, constantValue := 0 }, { name := "lowestBits", type := .long, accessFlags := 18, slot := 5, constantValue := 0 }, { name := "dense", type := .boolean, accessFlags := 18, slot := 6, constantValue := 0 }, { name := "wordShift", type := .int, accessFlags := 18, slot := 7, constantValue := 0 }, { name := "bitShift", type := .int, accessFlags := 18, slot := 8, constantValue := 0 }, { name := "pageShift", type := .int, accessFlags := 18, slot := 9, constantValue := 0 }, { name := "slotMask", type := .long, accessFlags := 18, slot := 10, constantValue := 0 }, { name := "pages", type := (.array (.array .long)), accessFlags := 18, slot := 11, constantValue := 0 }]
  methods := #[k2m0, k2m1]
  instanceTypes := #[.long, .int, .int, .long, .long, .long, .boolean, .int, .int, .int, .long, (.array (.array .long))]
  staticTypes := #[.long, .int, .int]
  resolved := Array.replicate 247 none
  statics := none }

def pool3 : Array CpInfo := pool [(1, u "java/lang/Cloneable"), (0, .class_ 1), (0, u "java/lang/Object"), (0, .class_ 3)] 3

/-- java/lang/Cloneable -/
def k3 : Class := { plain "java/lang/Cloneable" (some 0) with
  accessFlags := 1537
  interfaces := #[]
  cf := some (fileOf pool3 2 #[] #[] 1537 4 #[] #[])
  fields := #[]
  methods := #[]
  instanceTypes := #[]
  staticTypes := #[]
  resolved := Array.replicate 8 none
  statics := none }

def pool4 : Array CpInfo := pool [(1, u "java/io/Serializable"), (0, .class_ 1), (0, u "java/lang/Object"), (0, .class_ 3)] 3

/-- java/io/Serializable -/
def k4 : Class := { plain "java/io/Serializable" (some 0) with
  accessFlags := 1537
  interfaces := #[]
  cf := some (fileOf pool4 2 #[] #[] 1537 4 #[] #[])
  fields := #[]
  methods := #[]
  instanceTypes := #[]
  staticTypes := #[]
  resolved := Array.replicate 8 none
  statics := none }

/-- the primitive byte -/
def k5 : Class := { plain "byte" none with kind := .primitive 'B', accessFlags := 0x411 }
/-- [B -/
def k6 : Class := { plain "[B" (some 0) with kind := .array 5 .byte, interfaces := #[3, 4], accessFlags := 1041 }

/-- the primitive int -/
def k7 : Class := { plain "int" none with kind := .primitive 'I', accessFlags := 0x411 }
/-- [I -/
def k8 : Class := { plain "[I" (some 0) with kind := .array 7 .int, interfaces := #[3, 4], accessFlags := 1041 }

def heap : Heap := #[]
def classes : Array Class := #[k0, k1, k2, k3, k4, k5, k6, k7, k8]
def interned : List (Array UInt16 × Addr) := []
def slotsUsed : Nat := 0
def theMethod : MethodId := ⟨1, 1⟩
def args0 : Array Value := #[.long 500, .int 7, .int 1]
def aboutOver (below : List Frame) : State where
  vm := { classes := classes, interned := interned.toArray }
  heap := heap
  slotsUsed := slotsUsed
  threads := #[{ frames := .invoking theMethod args0 :: below }]
def below0 : List Frame := [.native { method := ⟨0, 0⟩, args := #[] }]
def about1 : State := aboutOver below0
def p0 : Program := .bare "" "" ""
def e0 : Env := launch0.env 0 0 0
theorem w_frames : about1.frames = Frame.invoking theMethod args0 :: below0 := rfl
set_option maxRecDepth 65536 in
theorem w_args : argsFit about1.vm theMethod args0 = true := by decide +kernel
set_option maxRecDepth 65536 in
theorem w_heap : heapFits about1 = true := by decide +kernel
set_option maxRecDepth 65536 in
theorem w_runnable : about1.curStatus? = some .runnable := by decide +kernel
set_option maxRecDepth 65536 in
theorem w_alone : about1.alone = true := by decide +kernel
set_option maxRecDepth 65536 in
theorem w_named : about1.methodNamed? x = some theMethod := by decide +kernel
set_option maxRecDepth 65536 in
theorem w_hears : about1.hears theMethod below0 = true := by decide +kernel
set_option maxRecDepth 65536 in
theorem w_ripe : about1.ripe theMethod args0 below0 = true := by decide +kernel
theorem w_running : about1.status = .running := rfl
set_option maxRecDepth 65536 in
theorem w_room : about1.hasRoom e0.platform room_1 = true :=
  launch0.hasRoom_least _ room_1 (by decide +kernel) (by decide +kernel) (by decide +kernel) (by decide +kernel) (by decide +kernel) (by decide +kernel)
theorem allAtoms_all (ts : List Jvm.Cond) (a : Array Jvm.Value) (st : Jvm.State) : (allAtoms ts).before a st = ts.all (fun c => c.before a st) := by
  induction ts with
  | nil => rfl
  | cons c t ih =>
    show (Jvm.Cond.and c (allAtoms t)).before a st = _
    rw [Jvm.Cond.before_and, ih, List.all_cons]
def words1 : List Jvm.Cond := Jvm.Cond.code x code maxLocals ret :: tables_1
/-- a 'code' word, met by the world's own term for the bytes: nothing is compared byte by byte -/
theorem code_word {y : MethodName} {bytes : ByteArray} {mx : Nat} {rt : Option FieldType} {a : Array Value} {s : State} {m : MethodId} {meth : Method} {c : Code} (h1 : s.methodNamed? y = some m) (h2 : s.vm.method? m = some meth) (h3 : meth.code = some c) (h4 : c.code = bytes)
    (h5 : (c.maxLocals == mx && c.exceptionTable.isEmpty && decide (c.maxStack ≤ mostOperands) && decide (meth.sig.returnType = rt) && !meth.locks && decide (parseMethodDescriptor y.desc = some meth.sig)) = true) : (Jvm.Cond.code y bytes mx rt).before a s = true := by
  simp only [Bool.and_eq_true, beq_iff_eq, Bool.not_eq_true', decide_eq_true_eq] at h5
  obtain ⟨⟨⟨⟨⟨g1, g2⟩, g3⟩, g4⟩, g5⟩, g6⟩ := h5
  simp [Cond.before, Cond.holds, Cond.value, h1, h2, h3, h4, g1, g2, g3, g4, g5, g6]
def isCode : Jvm.Cond → Bool
  | .code _ _ _ _ => true
  | _ => false
theorem all_split {L : List Jvm.Cond} {P : Jvm.Cond → Bool} (h1 : L.all (fun c => isCode c || P c) = true) (h2 : ∀ c ∈ L.filter isCode, P c = true) : L.all P = true := by
  refine List.all_eq_true.mpr fun c hc => ?_
  have h := List.all_eq_true.mp h1 c hc
  rcases Bool.eq_false_or_eq_true (isCode c) with hi | hi
  · exact h2 c (List.mem_filter.mpr ⟨hc, hi⟩)
  · simpa [hi] using h
set_option maxRecDepth 65536 in
theorem w_c0 : (Jvm.Cond.code x code maxLocals ret).before args0 about1 = true := code_word (m := ⟨1, 1⟩) (meth := k1m1) (c := k1c1) (by decide +kernel) rfl rfl rfl (by decide +kernel)
set_option maxRecDepth 65536 in
theorem w_c1 : (Jvm.Cond.code ({ cls := "com/example/keep1/keep1/filter/CellArray", name := "capacity", desc := "(JI)J" } : Jvm.MethodName) prog_11_method_4_code (5 : Nat) (Option.some Jvm.ClassFile.FieldType.long)).before args0 about1 = true := code_word (m := ⟨2, 0⟩) (meth := k2m0) (c := k2c0) (by decide +kernel) rfl rfl rfl (by decide +kernel)
set_option maxRecDepth 65536 in
theorem w_c2 : (Jvm.Cond.code ({ cls := "com/example/keep1/keep1/filter/CellArray", name := "cellsPerWord", desc := "(I)I" } : Jvm.MethodName) prog_11_method_8_code (1 : Nat) (Option.some Jvm.ClassFile.FieldType.int)).before args0 about1 = true := code_word (m := ⟨2, 1⟩) (meth := k2m1) (c := k2c1) (by decide +kernel) rfl rfl rfl (by decide +kernel)
set_option maxRecDepth 65536 in
theorem w_c3 : (Jvm.Cond.code ({ cls := "com/example/keep1/keep1/filter/CellArrayCapacityPinLaw", name := "fits", desc := "(JJJJ)Z" } : Jvm.MethodName) method_3_code (8 : Nat) (Option.some Jvm.ClassFile.FieldType.boolean)).before args0 about1 = true := code_word (m := ⟨1, 2⟩) (meth := k1m2) (c := k1c2) (by decide +kernel) rfl rfl rfl (by decide +kernel)
def codes1 : List Jvm.Cond := [Jvm.Cond.code x code maxLocals ret, Jvm.Cond.code ({ cls := "com/example/keep1/keep1/filter/CellArray", name := "capacity", desc := "(JI)J" } : Jvm.MethodName) prog_11_method_4_code (5 : Nat) (Option.some Jvm.ClassFile.FieldType.long), Jvm.Cond.code ({ cls := "com/example/keep1/keep1/filter/CellArray", name := "cellsPerWord", desc := "(I)I" } : Jvm.MethodName) prog_11_method_8_code (1 : Nat) (Option.some Jvm.ClassFile.FieldType.int), Jvm.Cond.code ({ cls := "com/example/keep1/keep1/filter/CellArrayCapacityPinLaw", name := "fits", desc := "(JJJJ)Z" } : Jvm.MethodName) method_3_code (8 : Nat) (Option.some Jvm.ClassFile.FieldType.boolean)]
set_option maxRecDepth 65536 in
theorem codes_eq : words1.filter isCode = codes1 := rfl
theorem w_codes : ∀ c ∈ words1.filter isCode, c.before args0 about1 = true := by
  rw [codes_eq]
  intro c hc
  simp only [codes1, List.mem_cons, List.not_mem_nil, or_false] at hc
  rcases hc with rfl | rfl | rfl | rfl
  · exact w_c0
  · exact w_c1
  · exact w_c2
  · exact w_c3
set_option maxRecDepth 65536 in
theorem w_t1 : words1.all (fun c => isCode c || c.before args0 about1) = true := by decide +kernel
theorem w_tables : (allAtoms (Jvm.Cond.code x code maxLocals ret :: tables_1)).before args0 about1 = true := by
  rw [allAtoms_all]
  show words1.all (fun c => c.before args0 about1) = true
  refine all_split ?_ w_codes
  rw [w_t1]
set_option maxRecDepth 65536 in
theorem w_case : (Jvm.Cond.and given_1 narrow_1).before args0 about1 = true := by decide +kernel
theorem w_applies : (headSpec (Jvm.Cond.code x code maxLocals ret :: tables_1) room_1).applies x e0.platform about1 = true :=
  (Spec.applies_iff w_frames).mpr ⟨w_running, w_runnable, w_alone, w_named, w_hears, w_ripe, w_room, w_tables⟩
theorem atStart : AtStart classFile x code maxLocals ret World_1 tables_1 room_1 Calls_1 rest_1 Pre_1 launch0 p0 e0 about1 theMethod args0 below0 :=
  ⟨lists_1, trivial, launch0.admits_env _ _ _, launch0.least_env, fairChoices_fair.cas, fairChoices_fair.clock, w_frames, w_args, w_heap, w_applies, trivial, trivial, w_case⟩
end start1
theorem witness_1 : WitnessClaimed_1 := ⟨start1.p0, start1.e0, start1.about1, start1.theMethod, start1.args0, start1.below0, start1.atStart⟩
end Jvm.Pilot.@@N@@
