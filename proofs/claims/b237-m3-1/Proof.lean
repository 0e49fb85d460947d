import JvmDerived
import JvmDerived.Pilot.@@N@@Statement
import JvmDerived.Pilot.@@N@@Code
set_option linter.unusedVariables false
set_option linter.unusedSimpArgs false
namespace Jvm.Pilot.@@N@@
open Jvm Jvm.ClassFile Sem Op Lib Jvm.Free Jvm.Stand Jvm.LawKit Jvm.RoadKit Bundle Jvm.Pilot.@@N@@.Jvm.D
namespace Own
section Eng
/-- from the frame g over the heap h, with k cells and n slots made so far, every standing run ends as Fn says, having written at or above n0 alone -/
def Goes (p : Program) (l : Launch) (e : Env) (R : Room) (s : State) (m : MethodId) (args : Array Value) (below : List Frame) (meth : Method) (c : Code) (n0 mc ms : Nat) (Fn : Option Value → Heap → Prop) (h : Heap) (k n : Nat) (g : JFrame) : Prop :=
  ∀ (T : State) (locs : List Loc), Stand p l e R s m args below meth c T locs k n → Fr n0 locs → T.heap = h →
    ∃ (s₂ : State) (o : Outcome), Steps p.tables e below (T.setTop g) s₂ ∧ s₂.status = .running ∧ Ended s₂ below o ∧ ∃ (v : Option Value) (L : List Loc), o = .returned v ∧ (Fn v s₂.heap ∧ Fr n0 L) ∧ FrameEnd s o s₂ L mc ms
/-- the contract of a method at one list of arguments and one heap -/
def Does (l : Launch) (y : MethodName) (bytes : ByteArray) (maxL : Nat) (ret : Option FieldType) (ws : List Jvm.Cond) (rm : Room) (Z : State) (as' : Array Value) (h0 : Heap) (n0 : Nat) (Fn : Option Value → Heap → Prop) : Prop :=
  MetFree l y (head1 (Jvm.Cond.code y bytes maxL ret :: ws) rm) (fun a U => a = as' ∧ Z.Warmed39 U.vm ∧ U.heap = h0) (fun _ _ _ _ _ => True) (fun _ U o U' => ∃ v L, o = .returned v ∧ (Fn v U'.heap ∧ Fr n0 L) ∧ FrameEnd U o U' L rm.cells rm.slots)
variable {p : Program} {l : Launch} {e : Env} {R : Room} {s : State} {m : MethodId} {args : Array Value} {below : List Frame} {meth : Method} {c : Code} {n0 mc ms : Nat} {Fn : Option Value → Heap → Prop} {h : Heap} {k n : Nat}
theorem doesOf {y : MethodName} {bytes : ByteArray} {maxL : Nat} {ret : Option FieldType} {ws : List Jvm.Cond} {rm : Room} {Z : State} {as' : Array Value} {h0 : Heap} (hy : plainFor y = true)
    (body : ∀ (p : Program) (e : Env) (s : State) (m : MethodId) (below : List Frame) (meth : Method) (c : Code), p.tables.exec = Jvm.exec → c.code = bytes → c.maxLocals = maxL → meth.sig.returnType = ret → meth.locks = false → s.vm.findClass y.cls = some m.cls → meth.name = y.name → Z.Warmed39 s.vm →
      Goes p l e rm s m as' below meth c n0 rm.cells rm.slots Fn h0 0 0 (entryFrame m as' maxL)) : Does l y bytes maxL ret ws rm Z as' h0 n0 Fn := by
  refine MetFree.of_bodySF hy hisR ?_
  intro p e s m args below meth c s₁ Bd hml hP _
  obtain ⟨rfl, hZ, hh⟩ := hP
  have e0 : s₁.heap = h0 := by rw [← hh, Bd.state]; rfl
  obtain ⟨s₂, o, h1, h2, h3, h4⟩ := body p e s m below meth c Bd.exec Bd.bytes hml Bd.returns Bd.notSynchronized (findClass_of_methodNamed Bd.named) (name_of_methodNamed Bd.named Bd.method).1 hZ s₁ [] (Stand.of_body Bd) (Fr.nil n0) e0
  exact ⟨s₂, o, h1, h2, h3, h4⟩
theorem Goes.pure {g g' : JFrame} (st : ∀ (T : State) (locs : List Loc) (t : State), Stand p l e R s m args below meth c T locs k n → Steps p.tables e below (T.setTop g') t → Steps p.tables e below (T.setTop g) t) (K : Goes p l e R s m args below meth c n0 mc ms Fn h k n g') : Goes p l e R s m args below meth c n0 mc ms Fn h k n g := fun T locs X N eT => by
  obtain ⟨s₂, o, hs, r⟩ := K T locs X N eT
  exact ⟨s₂, o, st T locs s₂ X hs, r⟩
theorem Goes.move {g g' : JFrame} {k' n' : Nat} {Pr : Heap → Prop} (st : ∀ (T : State) (locs : List Loc), Stand p l e R s m args below meth c T locs k n → Fr n0 locs → T.heap = h → ∃ (T' : State) (locs' : List Loc), Stand p l e R s m args below meth c T' locs' k' n' ∧ Fr n0 locs' ∧ Pr T'.heap ∧ ∀ t, Steps p.tables e below (T'.setTop g') t → Steps p.tables e below (T.setTop g) t)
    (K : ∀ h', Pr h' → Goes p l e R s m args below meth c n0 mc ms Fn h' k' n' g') : Goes p l e R s m args below meth c n0 mc ms Fn h k n g := fun T locs X N eT => by
  obtain ⟨T', locs', X', N', hP, st'⟩ := st T locs X N eT
  obtain ⟨s₂, o, hs, r⟩ := K T'.heap hP T' locs' X' N' rfl
  exact ⟨s₂, o, st' s₂ hs, r⟩
theorem Goes.join {g : JFrame} (g' : JFrame) (K1 : Goes p l e R s m args below meth c n0 mc ms Fn h k n g' → Goes p l e R s m args below meth c n0 mc ms Fn h k n g) (K2 : Goes p l e R s m args below meth c n0 mc ms Fn h k n g') : Goes p l e R s m args below meth c n0 mc ms Fn h k n g := K1 K2
theorem Goes.cast {g g' : JFrame} (q : g = g') (K : Goes p l e R s m args below meth c n0 mc ms Fn h k n g') : Goes p l e R s m args below meth c n0 mc ms Fn h k n g := q ▸ K
theorem Goes.fin {Fn' : Option Value → Heap → Prop} {g : JFrame} (q : ∀ v h, Fn v h → Fn' v h) (K : Goes p l e R s m args below meth c n0 mc ms Fn h k n g) : Goes p l e R s m args below meth c n0 mc ms Fn' h k n g := fun T locs X N eT => by
  obtain ⟨s₂, o, h1, h2, h3, v, L, h4, ⟨h5, h6⟩, h7⟩ := K T locs X N eT
  exact ⟨s₂, o, h1, h2, h3, v, L, h4, ⟨q _ _ h5, h6⟩, h7⟩

theorem iadd (hx : p.tables.exec = Jvm.exec) {pc pc' : Nat} {Ls : Array Slot} {x y : Int32} {rest : List Value} (hd : decode c.code pc = .ok (.iadd, 1)) (hp : pc + 1 = pc') (K : Goes p l e R s m args below meth c n0 mc ms Fn h k n (mkF m pc' Ls (.int (x + y) :: rest))) : Goes p l e R s m args below meth c n0 mc ms Fn h k n (mkF m pc Ls (.int y :: .int x :: rest)) := by
  subst hp; exact K.pure fun T locs t X hs => XS.iadd X.here hx rfl hd rfl hs
theorem isub (hx : p.tables.exec = Jvm.exec) {pc pc' : Nat} {Ls : Array Slot} {x y : Int32} {rest : List Value} (hd : decode c.code pc = .ok (.isub, 1)) (hp : pc + 1 = pc') (K : Goes p l e R s m args below meth c n0 mc ms Fn h k n (mkF m pc' Ls (.int (x - y) :: rest))) : Goes p l e R s m args below meth c n0 mc ms Fn h k n (mkF m pc Ls (.int y :: .int x :: rest)) := by
  subst hp; exact K.pure fun T locs t X hs => XS.isub X.here hx rfl hd rfl hs
theorem imul (hx : p.tables.exec = Jvm.exec) {pc pc' : Nat} {Ls : Array Slot} {x y : Int32} {rest : List Value} (hd : decode c.code pc = .ok (.imul, 1)) (hp : pc + 1 = pc') (K : Goes p l e R s m args below meth c n0 mc ms Fn h k n (mkF m pc' Ls (.int (x * y) :: rest))) : Goes p l e R s m args below meth c n0 mc ms Fn h k n (mkF m pc Ls (.int y :: .int x :: rest)) := by
  subst hp; exact K.pure fun T locs t X hs => XS.imul X.here hx rfl hd rfl hs
theorem iand (hx : p.tables.exec = Jvm.exec) {pc pc' : Nat} {Ls : Array Slot} {x y : Int32} {rest : List Value} (hd : decode c.code pc = .ok (.iand, 1)) (hp : pc + 1 = pc') (K : Goes p l e R s m args below meth c n0 mc ms Fn h k n (mkF m pc' Ls (.int (x &&& y) :: rest))) : Goes p l e R s m args below meth c n0 mc ms Fn h k n (mkF m pc Ls (.int y :: .int x :: rest)) := by
  subst hp; exact K.pure fun T locs t X hs => XS.iand X.here hx rfl hd rfl hs
theorem ior (hx : p.tables.exec = Jvm.exec) {pc pc' : Nat} {Ls : Array Slot} {x y : Int32} {rest : List Value} (hd : decode c.code pc = .ok (.ior, 1)) (hp : pc + 1 = pc') (K : Goes p l e R s m args below meth c n0 mc ms Fn h k n (mkF m pc' Ls (.int (x ||| y) :: rest))) : Goes p l e R s m args below meth c n0 mc ms Fn h k n (mkF m pc Ls (.int y :: .int x :: rest)) := by
  subst hp; exact K.pure fun T locs t X hs => XS.ior X.here hx rfl hd rfl hs
theorem ixor (hx : p.tables.exec = Jvm.exec) {pc pc' : Nat} {Ls : Array Slot} {x y : Int32} {rest : List Value} (hd : decode c.code pc = .ok (.ixor, 1)) (hp : pc + 1 = pc') (K : Goes p l e R s m args below meth c n0 mc ms Fn h k n (mkF m pc' Ls (.int (x ^^^ y) :: rest))) : Goes p l e R s m args below meth c n0 mc ms Fn h k n (mkF m pc Ls (.int y :: .int x :: rest)) := by
  subst hp; exact K.pure fun T locs t X hs => XS.ixor X.here hx rfl hd rfl hs
theorem ishl (hx : p.tables.exec = Jvm.exec) {pc pc' : Nat} {Ls : Array Slot} {x y : Int32} {rest : List Value} (hd : decode c.code pc = .ok (.ishl, 1)) (hp : pc + 1 = pc') (K : Goes p l e R s m args below meth c n0 mc ms Fn h k n (mkF m pc' Ls (.int (x <<< (y &&& 31)) :: rest))) : Goes p l e R s m args below meth c n0 mc ms Fn h k n (mkF m pc Ls (.int y :: .int x :: rest)) := by
  subst hp; exact K.pure fun T locs t X hs => XS.ishl X.here hx rfl hd rfl hs
theorem ishr (hx : p.tables.exec = Jvm.exec) {pc pc' : Nat} {Ls : Array Slot} {x y : Int32} {rest : List Value} (hd : decode c.code pc = .ok (.ishr, 1)) (hp : pc + 1 = pc') (K : Goes p l e R s m args below meth c n0 mc ms Fn h k n (mkF m pc' Ls (.int (x >>> (y &&& 31)) :: rest))) : Goes p l e R s m args below meth c n0 mc ms Fn h k n (mkF m pc Ls (.int y :: .int x :: rest)) := by
  subst hp; exact K.pure fun T locs t X hs => XS.ishr X.here hx rfl hd rfl hs
theorem iushr (hx : p.tables.exec = Jvm.exec) {pc pc' : Nat} {Ls : Array Slot} {x y : Int32} {rest : List Value} (hd : decode c.code pc = .ok (.iushr, 1)) (hp : pc + 1 = pc') (K : Goes p l e R s m args below meth c n0 mc ms Fn h k n (mkF m pc' Ls (.int ((x.toUInt32 >>> (y &&& 31).toUInt32).toInt32) :: rest))) : Goes p l e R s m args below meth c n0 mc ms Fn h k n (mkF m pc Ls (.int y :: .int x :: rest)) := by
  subst hp; exact K.pure fun T locs t X hs => XS.iushr X.here hx rfl hd rfl hs
theorem ladd (hx : p.tables.exec = Jvm.exec) {pc pc' : Nat} {Ls : Array Slot} {x y : Int64} {rest : List Value} (hd : decode c.code pc = .ok (.ladd, 1)) (hp : pc + 1 = pc') (K : Goes p l e R s m args below meth c n0 mc ms Fn h k n (mkF m pc' Ls (.long (x + y) :: rest))) : Goes p l e R s m args below meth c n0 mc ms Fn h k n (mkF m pc Ls (.long y :: .long x :: rest)) := by
  subst hp; exact K.pure fun T locs t X hs => XS.ladd X.here hx rfl hd rfl hs
theorem lsub (hx : p.tables.exec = Jvm.exec) {pc pc' : Nat} {Ls : Array Slot} {x y : Int64} {rest : List Value} (hd : decode c.code pc = .ok (.lsub, 1)) (hp : pc + 1 = pc') (K : Goes p l e R s m args below meth c n0 mc ms Fn h k n (mkF m pc' Ls (.long (x - y) :: rest))) : Goes p l e R s m args below meth c n0 mc ms Fn h k n (mkF m pc Ls (.long y :: .long x :: rest)) := by
  subst hp; exact K.pure fun T locs t X hs => XS.lsub X.here hx rfl hd rfl hs
theorem lmul (hx : p.tables.exec = Jvm.exec) {pc pc' : Nat} {Ls : Array Slot} {x y : Int64} {rest : List Value} (hd : decode c.code pc = .ok (.lmul, 1)) (hp : pc + 1 = pc') (K : Goes p l e R s m args below meth c n0 mc ms Fn h k n (mkF m pc' Ls (.long (x * y) :: rest))) : Goes p l e R s m args below meth c n0 mc ms Fn h k n (mkF m pc Ls (.long y :: .long x :: rest)) := by
  subst hp; exact K.pure fun T locs t X hs => XS.lmul X.here hx rfl hd rfl hs
theorem land (hx : p.tables.exec = Jvm.exec) {pc pc' : Nat} {Ls : Array Slot} {x y : Int64} {rest : List Value} (hd : decode c.code pc = .ok (.land, 1)) (hp : pc + 1 = pc') (K : Goes p l e R s m args below meth c n0 mc ms Fn h k n (mkF m pc' Ls (.long (x &&& y) :: rest))) : Goes p l e R s m args below meth c n0 mc ms Fn h k n (mkF m pc Ls (.long y :: .long x :: rest)) := by
  subst hp; exact K.pure fun T locs t X hs => XS.land X.here hx rfl hd rfl hs
theorem lor (hx : p.tables.exec = Jvm.exec) {pc pc' : Nat} {Ls : Array Slot} {x y : Int64} {rest : List Value} (hd : decode c.code pc = .ok (.lor, 1)) (hp : pc + 1 = pc') (K : Goes p l e R s m args below meth c n0 mc ms Fn h k n (mkF m pc' Ls (.long (x ||| y) :: rest))) : Goes p l e R s m args below meth c n0 mc ms Fn h k n (mkF m pc Ls (.long y :: .long x :: rest)) := by
  subst hp; exact K.pure fun T locs t X hs => XS.lor X.here hx rfl hd rfl hs
theorem lxor (hx : p.tables.exec = Jvm.exec) {pc pc' : Nat} {Ls : Array Slot} {x y : Int64} {rest : List Value} (hd : decode c.code pc = .ok (.lxor, 1)) (hp : pc + 1 = pc') (K : Goes p l e R s m args below meth c n0 mc ms Fn h k n (mkF m pc' Ls (.long (x ^^^ y) :: rest))) : Goes p l e R s m args below meth c n0 mc ms Fn h k n (mkF m pc Ls (.long y :: .long x :: rest)) := by
  subst hp; exact K.pure fun T locs t X hs => XS.lxor X.here hx rfl hd rfl hs
theorem lshl (hx : p.tables.exec = Jvm.exec) {pc pc' : Nat} {Ls : Array Slot} {x : Int64} {y : Int32} {rest : List Value} (hd : decode c.code pc = .ok (.lshl, 1)) (hp : pc + 1 = pc') (K : Goes p l e R s m args below meth c n0 mc ms Fn h k n (mkF m pc' Ls (.long (x <<< (y &&& 0x3f).toInt64) :: rest))) : Goes p l e R s m args below meth c n0 mc ms Fn h k n (mkF m pc Ls (.int y :: .long x :: rest)) := by
  subst hp; exact K.pure fun T locs t X hs => XS.lshl X.here hx rfl hd rfl hs
theorem lshr (hx : p.tables.exec = Jvm.exec) {pc pc' : Nat} {Ls : Array Slot} {x : Int64} {y : Int32} {rest : List Value} (hd : decode c.code pc = .ok (.lshr, 1)) (hp : pc + 1 = pc') (K : Goes p l e R s m args below meth c n0 mc ms Fn h k n (mkF m pc' Ls (.long (x >>> (y &&& 0x3f).toInt64) :: rest))) : Goes p l e R s m args below meth c n0 mc ms Fn h k n (mkF m pc Ls (.int y :: .long x :: rest)) := by
  subst hp; exact K.pure fun T locs t X hs => XS.lshr X.here hx rfl hd rfl hs
theorem lushr (hx : p.tables.exec = Jvm.exec) {pc pc' : Nat} {Ls : Array Slot} {x : Int64} {y : Int32} {rest : List Value} (hd : decode c.code pc = .ok (.lushr, 1)) (hp : pc + 1 = pc') (K : Goes p l e R s m args below meth c n0 mc ms Fn h k n (mkF m pc' Ls (.long ((x.toUInt64 >>> (y &&& 0x3f).toInt64.toUInt64).toInt64) :: rest))) : Goes p l e R s m args below meth c n0 mc ms Fn h k n (mkF m pc Ls (.int y :: .long x :: rest)) := by
  subst hp; exact K.pure fun T locs t X hs => XS.lushr X.here hx rfl hd rfl hs
theorem lcmp (hx : p.tables.exec = Jvm.exec) {pc pc' : Nat} {Ls : Array Slot} {x y : Int64} {rest : List Value} (hd : decode c.code pc = .ok (.lcmp, 1)) (hp : pc + 1 = pc') (K : Goes p l e R s m args below meth c n0 mc ms Fn h k n (mkF m pc' Ls (.int (lcmpW x y) :: rest))) : Goes p l e R s m args below meth c n0 mc ms Fn h k n (mkF m pc Ls (.long y :: .long x :: rest)) := by
  subst hp; exact K.pure fun T locs t X hs => XS.lcmp X.here hx rfl hd rfl hs
theorem idiv (hx : p.tables.exec = Jvm.exec) {pc pc' : Nat} {Ls : Array Slot} {x y : Int32} {rest : List Value} (hd : decode c.code pc = .ok (.idiv, 1)) (hp : pc + 1 = pc') (hy : y ≠ 0) (K : Goes p l e R s m args below meth c n0 mc ms Fn h k n (mkF m pc' Ls (.int (x / y) :: rest))) : Goes p l e R s m args below meth c n0 mc ms Fn h k n (mkF m pc Ls (.int y :: .int x :: rest)) := by
  subst hp; exact K.pure fun T locs t X hs => XS.idiv X.here hx rfl hd rfl hy hs
theorem irem (hx : p.tables.exec = Jvm.exec) {pc pc' : Nat} {Ls : Array Slot} {x y : Int32} {rest : List Value} (hd : decode c.code pc = .ok (.irem, 1)) (hp : pc + 1 = pc') (hy : y ≠ 0) (K : Goes p l e R s m args below meth c n0 mc ms Fn h k n (mkF m pc' Ls (.int (x % y) :: rest))) : Goes p l e R s m args below meth c n0 mc ms Fn h k n (mkF m pc Ls (.int y :: .int x :: rest)) := by
  subst hp; exact K.pure fun T locs t X hs => iremM X hx rfl hd rfl hy hs
theorem ldiv (hx : p.tables.exec = Jvm.exec) {pc pc' : Nat} {Ls : Array Slot} {x y : Int64} {rest : List Value} (hd : decode c.code pc = .ok (.ldiv, 1)) (hp : pc + 1 = pc') (hy : y ≠ 0) (K : Goes p l e R s m args below meth c n0 mc ms Fn h k n (mkF m pc' Ls (.long (x / y) :: rest))) : Goes p l e R s m args below meth c n0 mc ms Fn h k n (mkF m pc Ls (.long y :: .long x :: rest)) := by
  subst hp; exact K.pure fun T locs t X hs => XS.ldiv X.here hx rfl hd rfl hy hs
theorem lrem (hx : p.tables.exec = Jvm.exec) {pc pc' : Nat} {Ls : Array Slot} {x y : Int64} {rest : List Value} (hd : decode c.code pc = .ok (.lrem, 1)) (hp : pc + 1 = pc') (hy : y ≠ 0) (K : Goes p l e R s m args below meth c n0 mc ms Fn h k n (mkF m pc' Ls (.long (x % y) :: rest))) : Goes p l e R s m args below meth c n0 mc ms Fn h k n (mkF m pc Ls (.long y :: .long x :: rest)) := by
  subst hp; exact K.pure fun T locs t X hs => XS.lrem X.here hx rfl hd rfl hy (by rw [lrem_mod]; exact hs)
theorem ineg (hx : p.tables.exec = Jvm.exec) {pc pc' : Nat} {Ls : Array Slot} {x : Int32} {rest : List Value} (hd : decode c.code pc = .ok (.ineg, 1)) (hp : pc + 1 = pc') (K : Goes p l e R s m args below meth c n0 mc ms Fn h k n (mkF m pc' Ls (.int (-x) :: rest))) : Goes p l e R s m args below meth c n0 mc ms Fn h k n (mkF m pc Ls (.int x :: rest)) := by
  subst hp; exact K.pure fun T locs t X hs => XS.ineg X.here hx rfl hd rfl hs
theorem lneg (hx : p.tables.exec = Jvm.exec) {pc pc' : Nat} {Ls : Array Slot} {x : Int64} {rest : List Value} (hd : decode c.code pc = .ok (.lneg, 1)) (hp : pc + 1 = pc') (K : Goes p l e R s m args below meth c n0 mc ms Fn h k n (mkF m pc' Ls (.long (-x) :: rest))) : Goes p l e R s m args below meth c n0 mc ms Fn h k n (mkF m pc Ls (.long x :: rest)) := by
  subst hp; exact K.pure fun T locs t X hs => XS.lneg X.here hx rfl hd rfl hs
theorem i2l (hx : p.tables.exec = Jvm.exec) {pc pc' : Nat} {Ls : Array Slot} {x : Int32} {rest : List Value} (hd : decode c.code pc = .ok (.i2l, 1)) (hp : pc + 1 = pc') (K : Goes p l e R s m args below meth c n0 mc ms Fn h k n (mkF m pc' Ls (.long (x.toInt64) :: rest))) : Goes p l e R s m args below meth c n0 mc ms Fn h k n (mkF m pc Ls (.int x :: rest)) := by
  subst hp; exact K.pure fun T locs t X hs => XS.i2l X.here hx rfl hd rfl hs
theorem l2i (hx : p.tables.exec = Jvm.exec) {pc pc' : Nat} {Ls : Array Slot} {x : Int64} {rest : List Value} (hd : decode c.code pc = .ok (.l2i, 1)) (hp : pc + 1 = pc') (K : Goes p l e R s m args below meth c n0 mc ms Fn h k n (mkF m pc' Ls (.int (x.toInt32) :: rest))) : Goes p l e R s m args below meth c n0 mc ms Fn h k n (mkF m pc Ls (.long x :: rest)) := by
  subst hp; exact K.pure fun T locs t X hs => XS.l2i X.here hx rfl hd rfl hs
theorem i2b (hx : p.tables.exec = Jvm.exec) {pc pc' : Nat} {Ls : Array Slot} {x : Int32} {rest : List Value} (hd : decode c.code pc = .ok (.i2b, 1)) (hp : pc + 1 = pc') (K : Goes p l e R s m args below meth c n0 mc ms Fn h k n (mkF m pc' Ls (.int (x.toInt8.toInt32) :: rest))) : Goes p l e R s m args below meth c n0 mc ms Fn h k n (mkF m pc Ls (.int x :: rest)) := by
  subst hp; exact K.pure fun T locs t X hs => XS.i2b X.here hx rfl hd rfl hs
theorem i2s (hx : p.tables.exec = Jvm.exec) {pc pc' : Nat} {Ls : Array Slot} {x : Int32} {rest : List Value} (hd : decode c.code pc = .ok (.i2s, 1)) (hp : pc + 1 = pc') (K : Goes p l e R s m args below meth c n0 mc ms Fn h k n (mkF m pc' Ls (.int (x.toInt16.toInt32) :: rest))) : Goes p l e R s m args below meth c n0 mc ms Fn h k n (mkF m pc Ls (.int x :: rest)) := by
  subst hp; exact K.pure fun T locs t X hs => XS.i2s X.here hx rfl hd rfl hs
theorem i2c (hx : p.tables.exec = Jvm.exec) {pc pc' : Nat} {Ls : Array Slot} {x : Int32} {rest : List Value} (hd : decode c.code pc = .ok (.i2c, 1)) (hp : pc + 1 = pc') (K : Goes p l e R s m args below meth c n0 mc ms Fn h k n (mkF m pc' Ls (.int (x.toUInt32.toUInt16.toUInt32.toInt32) :: rest))) : Goes p l e R s m args below meth c n0 mc ms Fn h k n (mkF m pc Ls (.int x :: rest)) := by
  subst hp; exact K.pure fun T locs t X hs => XS.i2c X.here hx rfl hd rfl hs
theorem iload (hx : p.tables.exec = Jvm.exec) {pc pc' i : Nat} {Ls : Array Slot} (x : Int32) {rest : List Value} (hd : decode c.code pc = .ok (.iload i, 2)) (hp : pc + 2 = pc') (hl : Ls[i]? = some (.val (.int x))) (K : Goes p l e R s m args below meth c n0 mc ms Fn h k n (mkF m pc' Ls (.int x :: rest))) : Goes p l e R s m args below meth c n0 mc ms Fn h k n (mkF m pc Ls rest) := by
  subst hp; exact K.pure fun T locs t X hs => XS.iload X.here hx rfl hd hl hs
theorem iloadN (hx : p.tables.exec = Jvm.exec) {pc pc' : Nat} {i : Fin 4} {Ls : Array Slot} (x : Int32) {rest : List Value} (hd : decode c.code pc = .ok (.iload_n i, 1)) (hp : pc + 1 = pc') (hl : Ls[i.val]? = some (.val (.int x))) (K : Goes p l e R s m args below meth c n0 mc ms Fn h k n (mkF m pc' Ls (.int x :: rest))) : Goes p l e R s m args below meth c n0 mc ms Fn h k n (mkF m pc Ls rest) := by
  subst hp; exact K.pure fun T locs t X hs => XS.iloadN X.here hx rfl hd hl hs
theorem lload (hx : p.tables.exec = Jvm.exec) {pc pc' i : Nat} {Ls : Array Slot} (x : Int64) {rest : List Value} (hd : decode c.code pc = .ok (.lload i, 2)) (hp : pc + 2 = pc') (hl : Ls[i]? = some (.val (.long x))) (K : Goes p l e R s m args below meth c n0 mc ms Fn h k n (mkF m pc' Ls (.long x :: rest))) : Goes p l e R s m args below meth c n0 mc ms Fn h k n (mkF m pc Ls rest) := by
  subst hp; exact K.pure fun T locs t X hs => XS.lload X.here hx rfl hd hl hs
theorem lloadN (hx : p.tables.exec = Jvm.exec) {pc pc' : Nat} {i : Fin 4} {Ls : Array Slot} (x : Int64) {rest : List Value} (hd : decode c.code pc = .ok (.lload_n i, 1)) (hp : pc + 1 = pc') (hl : Ls[i.val]? = some (.val (.long x))) (K : Goes p l e R s m args below meth c n0 mc ms Fn h k n (mkF m pc' Ls (.long x :: rest))) : Goes p l e R s m args below meth c n0 mc ms Fn h k n (mkF m pc Ls rest) := by
  subst hp; exact K.pure fun T locs t X hs => XS.lloadN X.here hx rfl hd hl hs
theorem aload (hx : p.tables.exec = Jvm.exec) {pc pc' i : Nat} {Ls : Array Slot} (x : Value) {rest : List Value} (hd : decode c.code pc = .ok (.aload i, 2)) (hp : pc + 2 = pc') (hl : Ls[i]? = some (.val x)) (hv : x.isRef = true) (K : Goes p l e R s m args below meth c n0 mc ms Fn h k n (mkF m pc' Ls (x :: rest))) : Goes p l e R s m args below meth c n0 mc ms Fn h k n (mkF m pc Ls rest) := by
  subst hp; exact K.pure fun T locs t X hs => XS.aload X.here hx rfl hd hl hv hs
theorem aloadN (hx : p.tables.exec = Jvm.exec) {pc pc' : Nat} {i : Fin 4} {Ls : Array Slot} (x : Value) {rest : List Value} (hd : decode c.code pc = .ok (.aload_n i, 1)) (hp : pc + 1 = pc') (hl : Ls[i.val]? = some (.val x)) (hv : x.isRef = true) (K : Goes p l e R s m args below meth c n0 mc ms Fn h k n (mkF m pc' Ls (x :: rest))) : Goes p l e R s m args below meth c n0 mc ms Fn h k n (mkF m pc Ls rest) := by
  subst hp; exact K.pure fun T locs t X hs => XS.aloadN X.here hx rfl hd hl hv hs
theorem istore (hx : p.tables.exec = Jvm.exec) {pc pc' i : Nat} {Ls : Array Slot} {x : Int32} (z : Int32) (hz : z = x) {rest : List Value} (Ls' : Array Slot) (hd : decode c.code pc = .ok (.istore i, 2)) (hp : pc + 2 = pc') (hl : storeLocals Ls i (.int z) = some Ls') (K : Goes p l e R s m args below meth c n0 mc ms Fn h k n (mkF m pc' Ls' rest)) : Goes p l e R s m args below meth c n0 mc ms Fn h k n (mkF m pc Ls (.int x :: rest)) := by
  subst hp hz; exact K.pure fun T locs t X hs => XS.istore X.here hx rfl hd rfl hl hs
theorem istoreN (hx : p.tables.exec = Jvm.exec) {pc pc' : Nat} {i : Fin 4} {Ls : Array Slot} {x : Int32} (z : Int32) (hz : z = x) {rest : List Value} (Ls' : Array Slot) (hd : decode c.code pc = .ok (.istore_n i, 1)) (hp : pc + 1 = pc') (hl : storeLocals Ls i.val (.int z) = some Ls') (K : Goes p l e R s m args below meth c n0 mc ms Fn h k n (mkF m pc' Ls' rest)) : Goes p l e R s m args below meth c n0 mc ms Fn h k n (mkF m pc Ls (.int x :: rest)) := by
  subst hp hz; exact K.pure fun T locs t X hs => XS.istoreN X.here hx rfl hd rfl hl hs
theorem lstore (hx : p.tables.exec = Jvm.exec) {pc pc' i : Nat} {Ls : Array Slot} {x : Int64} (z : Int64) (hz : z = x) {rest : List Value} (Ls' : Array Slot) (hd : decode c.code pc = .ok (.lstore i, 2)) (hp : pc + 2 = pc') (hl : storeLocals Ls i (.long z) = some Ls') (K : Goes p l e R s m args below meth c n0 mc ms Fn h k n (mkF m pc' Ls' rest)) : Goes p l e R s m args below meth c n0 mc ms Fn h k n (mkF m pc Ls (.long x :: rest)) := by
  subst hp hz; exact K.pure fun T locs t X hs => XS.lstore X.here hx rfl hd rfl hl hs
theorem lstoreN (hx : p.tables.exec = Jvm.exec) {pc pc' : Nat} {i : Fin 4} {Ls : Array Slot} {x : Int64} (z : Int64) (hz : z = x) {rest : List Value} (Ls' : Array Slot) (hd : decode c.code pc = .ok (.lstore_n i, 1)) (hp : pc + 1 = pc') (hl : storeLocals Ls i.val (.long z) = some Ls') (K : Goes p l e R s m args below meth c n0 mc ms Fn h k n (mkF m pc' Ls' rest)) : Goes p l e R s m args below meth c n0 mc ms Fn h k n (mkF m pc Ls (.long x :: rest)) := by
  subst hp hz; exact K.pure fun T locs t X hs => XS.lstoreN X.here hx rfl hd rfl hl hs
theorem astore (hx : p.tables.exec = Jvm.exec) {pc pc' i : Nat} {Ls : Array Slot} {x : Value} {rest : List Value} (Ls' : Array Slot) (hd : decode c.code pc = .ok (.astore i, 2)) (hp : pc + 2 = pc') (hv : x.isRef = true) (hl : storeLocals Ls i x = some Ls') (K : Goes p l e R s m args below meth c n0 mc ms Fn h k n (mkF m pc' Ls' rest)) : Goes p l e R s m args below meth c n0 mc ms Fn h k n (mkF m pc Ls (x :: rest)) := by
  subst hp; exact K.pure fun T locs t X hs => XS.astore X.here hx rfl hd rfl hv hl hs
theorem astoreN (hx : p.tables.exec = Jvm.exec) {pc pc' : Nat} {i : Fin 4} {Ls : Array Slot} {x : Value} {rest : List Value} (Ls' : Array Slot) (hd : decode c.code pc = .ok (.astore_n i, 1)) (hp : pc + 1 = pc') (hv : x.isRef = true) (hl : storeLocals Ls i.val x = some Ls') (K : Goes p l e R s m args below meth c n0 mc ms Fn h k n (mkF m pc' Ls' rest)) : Goes p l e R s m args below meth c n0 mc ms Fn h k n (mkF m pc Ls (x :: rest)) := by
  subst hp; exact K.pure fun T locs t X hs => XS.astoreN X.here hx rfl hd rfl hv hl hs
theorem iinc (hx : p.tables.exec = Jvm.exec) {pc pc' i : Nat} {ct : Int} {Ls : Array Slot} {x : Int32} (z : Int32) {rest : List Value} (Ls' : Array Slot) (hd : decode c.code pc = .ok (.iinc i ct, 3)) (hp : pc + 3 = pc') (hl : Ls[i]? = some (.val (.int x))) (hz : z = x + Int32.ofInt ct) (hl' : storeLocals Ls i (.int z) = some Ls') (K : Goes p l e R s m args below meth c n0 mc ms Fn h k n (mkF m pc' Ls' rest)) : Goes p l e R s m args below meth c n0 mc ms Fn h k n (mkF m pc Ls rest) := by
  subst hp hz; exact K.pure fun T locs t X hs => XS.iinc X.here hx rfl hd hl hl' hs
theorem iconst (hx : p.tables.exec = Jvm.exec) {pc pc' : Nat} {i : Int} {Ls : Array Slot} (z : Int32) {rest : List Value} (hd : decode c.code pc = .ok (.iconst i, 1)) (hp : pc + 1 = pc') (hz : Int32.ofInt i = z) (K : Goes p l e R s m args below meth c n0 mc ms Fn h k n (mkF m pc' Ls (.int z :: rest))) : Goes p l e R s m args below meth c n0 mc ms Fn h k n (mkF m pc Ls rest) := by
  subst hp hz; exact K.pure fun T locs t X hs => XS.iconst X.here hx rfl hd hs
theorem bipush (hx : p.tables.exec = Jvm.exec) {pc pc' : Nat} {i : Int} {Ls : Array Slot} (z : Int32) {rest : List Value} (hd : decode c.code pc = .ok (.bipush i, 2)) (hp : pc + 2 = pc') (hz : (Int8.ofInt i).toInt32 = z) (K : Goes p l e R s m args below meth c n0 mc ms Fn h k n (mkF m pc' Ls (.int z :: rest))) : Goes p l e R s m args below meth c n0 mc ms Fn h k n (mkF m pc Ls rest) := by
  subst hp hz; exact K.pure fun T locs t X hs => XS.bipush X.here hx rfl hd hs
theorem sipush (hx : p.tables.exec = Jvm.exec) {pc pc' : Nat} {i : Int} {Ls : Array Slot} (z : Int32) {rest : List Value} (hd : decode c.code pc = .ok (.sipush i, 3)) (hp : pc + 3 = pc') (hz : (Int16.ofInt i).toInt32 = z) (K : Goes p l e R s m args below meth c n0 mc ms Fn h k n (mkF m pc' Ls (.int z :: rest))) : Goes p l e R s m args below meth c n0 mc ms Fn h k n (mkF m pc Ls rest) := by
  subst hp hz; exact K.pure fun T locs t X hs => XS.sipush X.here hx rfl hd hs
theorem lconst (hx : p.tables.exec = Jvm.exec) {pc pc' : Nat} {i : Fin 2} {Ls : Array Slot} (z : Int64) {rest : List Value} (hd : decode c.code pc = .ok (.lconst i, 1)) (hp : pc + 1 = pc') (hz : Int64.ofNat i = z) (K : Goes p l e R s m args below meth c n0 mc ms Fn h k n (mkF m pc' Ls (.long z :: rest))) : Goes p l e R s m args below meth c n0 mc ms Fn h k n (mkF m pc Ls rest) := by
  subst hp hz; exact K.pure fun T locs t X hs => XS.lconst X.here hx rfl hd hs
theorem aconstNull (hx : p.tables.exec = Jvm.exec) {pc pc' : Nat} {Ls : Array Slot} {rest : List Value} (hd : decode c.code pc = .ok (.aconst_null, 1)) (hp : pc + 1 = pc') (K : Goes p l e R s m args below meth c n0 mc ms Fn h k n (mkF m pc' Ls (.null :: rest))) : Goes p l e R s m args below meth c n0 mc ms Fn h k n (mkF m pc Ls rest) := by
  subst hp; exact K.pure fun T locs t X hs => XS.aconstNull X.here hx rfl hd hs
theorem dup (hx : p.tables.exec = Jvm.exec) {pc pc' : Nat} {Ls : Array Slot} {x : Value} {rest : List Value} (hd : decode c.code pc = .ok (.dup, 1)) (hp : pc + 1 = pc') (hc : x.category = 1) (K : Goes p l e R s m args below meth c n0 mc ms Fn h k n (mkF m pc' Ls (x :: x :: rest))) : Goes p l e R s m args below meth c n0 mc ms Fn h k n (mkF m pc Ls (x :: rest)) := by
  subst hp; exact K.pure fun T locs t X hs => XS.dup X.here hx rfl hd rfl hc hs
theorem pop (hx : p.tables.exec = Jvm.exec) {pc pc' : Nat} {Ls : Array Slot} {x : Value} {rest : List Value} (hd : decode c.code pc = .ok (.pop, 1)) (hp : pc + 1 = pc') (hc : x.category = 1) (K : Goes p l e R s m args below meth c n0 mc ms Fn h k n (mkF m pc' Ls rest)) : Goes p l e R s m args below meth c n0 mc ms Fn h k n (mkF m pc Ls (x :: rest)) := by
  subst hp; exact K.pure fun T locs t X hs => XS.pop X.here hx rfl hd rfl hc hs
theorem dupX1 (hx : p.tables.exec = Jvm.exec) {pc pc' : Nat} {Ls : Array Slot} {x y : Value} {rest : List Value} (hd : decode c.code pc = .ok (.dup_x1, 1)) (hp : pc + 1 = pc') (hc : x.category = 1) (hc' : y.category = 1) (K : Goes p l e R s m args below meth c n0 mc ms Fn h k n (mkF m pc' Ls (x :: y :: x :: rest))) : Goes p l e R s m args below meth c n0 mc ms Fn h k n (mkF m pc Ls (x :: y :: rest)) := by
  subst hp; exact K.pure fun T locs t X hs => XS.dupX1 X.here hx rfl hd rfl hc hc' hs
theorem dup2 (hx : p.tables.exec = Jvm.exec) {pc pc' : Nat} {Ls : Array Slot} {x y : Value} {rest : List Value} (hd : decode c.code pc = .ok (.dup2, 1)) (hp : pc + 1 = pc') (hc : x.category = 1) (hc' : y.category = 1) (K : Goes p l e R s m args below meth c n0 mc ms Fn h k n (mkF m pc' Ls (x :: y :: x :: y :: rest))) : Goes p l e R s m args below meth c n0 mc ms Fn h k n (mkF m pc Ls (x :: y :: rest)) := by
  subst hp; exact K.pure fun T locs t X hs => XT.dup2 X.here hx rfl hd rfl hc hc' hs
theorem dup2L (hx : p.tables.exec = Jvm.exec) {pc pc' : Nat} {Ls : Array Slot} {x : Int64} {rest : List Value} (hd : decode c.code pc = .ok (.dup2, 1)) (hp : pc + 1 = pc') (K : Goes p l e R s m args below meth c n0 mc ms Fn h k n (mkF m pc' Ls (.long x :: .long x :: rest))) : Goes p l e R s m args below meth c n0 mc ms Fn h k n (mkF m pc Ls (.long x :: rest)) := by
  subst hp; exact K.pure fun T locs t X hs => XT.dup2L X.here hx rfl hd rfl hs
theorem goto (hx : p.tables.exec = Jvm.exec) {pc pc' : Nat} {o : Int} {Ls : Array Slot} {st : List Value} (hd : decode c.code pc = .ok (.goto o, 3)) (ho : 0 ≤ (pc : Int) + o) (hp : ((pc : Int) + o).toNat = pc') (K : Goes p l e R s m args below meth c n0 mc ms Fn h k n (mkF m pc' Ls st)) : Goes p l e R s m args below meth c n0 mc ms Fn h k n (mkF m pc Ls st) :=
  K.pure fun T locs t X hs => XS.goto X.here hx rfl rfl hd ho hp hs
theorem ifF (hx : p.tables.exec = Jvm.exec) {Pr : Prop} [Decidable Pr] {cd : ClassFile.Cond} {x : Int32} (hq : ifCond.holds cd x = decide Pr) {pc pcN pcT : Nat} {o : Int} {Ls : Array Slot} {rest : List Value} (hd : decode c.code pc = .ok (.ifCond cd o, 3)) (hn : pc + 3 = pcN) (ho : 0 ≤ (pc : Int) + o) (hp : ((pc : Int) + o).toNat = pcT)
    (KT : Pr → Goes p l e R s m args below meth c n0 mc ms Fn h k n (mkF m pcT Ls rest)) (KN : ¬ Pr → Goes p l e R s m args below meth c n0 mc ms Fn h k n (mkF m pcN Ls rest)) : Goes p l e R s m args below meth c n0 mc ms Fn h k n (mkF m pc Ls (.int x :: rest)) := by
  subst hn
  by_cases hP : Pr
  · exact (KT hP).pure fun T locs t X hs => XS.ifYes X.here hx rfl rfl hd rfl (by rw [hq]; exact decide_eq_true hP) ho hp hs
  · exact (KN hP).pure fun T locs t X hs => XS.ifNo X.here hx rfl hd rfl (by rw [hq]; exact decide_eq_false hP) hs
theorem icmpF (hx : p.tables.exec = Jvm.exec) {Pr : Prop} [Decidable Pr] {cd : ClassFile.Cond} {x y : Int32} (hq : if_icmp.holds cd x y = decide Pr) {pc pcN pcT : Nat} {o : Int} {Ls : Array Slot} {rest : List Value} (hd : decode c.code pc = .ok (.if_icmp cd o, 3)) (hn : pc + 3 = pcN) (ho : 0 ≤ (pc : Int) + o) (hp : ((pc : Int) + o).toNat = pcT)
    (KT : Pr → Goes p l e R s m args below meth c n0 mc ms Fn h k n (mkF m pcT Ls rest)) (KN : ¬ Pr → Goes p l e R s m args below meth c n0 mc ms Fn h k n (mkF m pcN Ls rest)) : Goes p l e R s m args below meth c n0 mc ms Fn h k n (mkF m pc Ls (.int y :: .int x :: rest)) := by
  subst hn
  by_cases hP : Pr
  · exact (KT hP).pure fun T locs t X hs => XS.icmpYes X.here hx rfl rfl hd rfl (by rw [hq]; exact decide_eq_true hP) ho hp hs
  · exact (KN hP).pure fun T locs t X hs => XS.icmpNo X.here hx rfl hd rfl (by rw [hq]; exact decide_eq_false hP) hs
theorem ifFn (hx : p.tables.exec = Jvm.exec) {Pr : Prop} [Decidable Pr] {cd : ClassFile.Cond} {x : Int32} (hq : ifCond.holds cd x = decide (¬ Pr)) {pc pcN pcT : Nat} {o : Int} {Ls : Array Slot} {rest : List Value} (hd : decode c.code pc = .ok (.ifCond cd o, 3)) (hn : pc + 3 = pcN) (ho : 0 ≤ (pc : Int) + o) (hp : ((pc : Int) + o).toNat = pcT)
    (KT : ¬ Pr → Goes p l e R s m args below meth c n0 mc ms Fn h k n (mkF m pcT Ls rest)) (KN : Pr → Goes p l e R s m args below meth c n0 mc ms Fn h k n (mkF m pcN Ls rest)) : Goes p l e R s m args below meth c n0 mc ms Fn h k n (mkF m pc Ls (.int x :: rest)) := ifF hx hq hd hn ho hp KT fun q => KN (Decidable.of_not_not q)
theorem icmpFn (hx : p.tables.exec = Jvm.exec) {Pr : Prop} [Decidable Pr] {cd : ClassFile.Cond} {x y : Int32} (hq : if_icmp.holds cd x y = decide (¬ Pr)) {pc pcN pcT : Nat} {o : Int} {Ls : Array Slot} {rest : List Value} (hd : decode c.code pc = .ok (.if_icmp cd o, 3)) (hn : pc + 3 = pcN) (ho : 0 ≤ (pc : Int) + o) (hp : ((pc : Int) + o).toNat = pcT)
    (KT : ¬ Pr → Goes p l e R s m args below meth c n0 mc ms Fn h k n (mkF m pcT Ls rest)) (KN : Pr → Goes p l e R s m args below meth c n0 mc ms Fn h k n (mkF m pcN Ls rest)) : Goes p l e R s m args below meth c n0 mc ms Fn h k n (mkF m pc Ls (.int y :: .int x :: rest)) := icmpF hx hq hd hn ho hp KT fun q => KN (Decidable.of_not_not q)
theorem q_eq (x y : Int32) : if_icmp.holds .eq x y = decide (x = y) := by by_cases q : x = y <;> simp [if_icmp.holds, q]
theorem q_ne (x y : Int32) : if_icmp.holds .ne x y = decide (¬ x = y) := by by_cases q : x = y <;> simp [if_icmp.holds, q]
theorem q_lt (x y : Int32) : if_icmp.holds .lt x y = decide (x < y) := by by_cases q : x < y <;> simp [q, (tlt ·), (flt ·)]
theorem q_ge (x y : Int32) : if_icmp.holds .ge x y = decide (¬ x < y) := by by_cases q : x < y <;> simp [q, (tlt ·), (flt ·)]
theorem q_gt (x y : Int32) : if_icmp.holds .gt x y = decide (y < x) := by by_cases q : y < x <;> simp [q, (tlt ·), (flt ·)]
theorem q_le (x y : Int32) : if_icmp.holds .le x y = decide (¬ y < x) := by by_cases q : y < x <;> simp [q, (tlt ·), (flt ·)]
theorem z_eq (x : Int32) : ifCond.holds .eq x = decide (x = 0) := (if0 _ _).trans (q_eq x 0)
theorem z_ne (x : Int32) : ifCond.holds .ne x = decide (¬ x = 0) := (if0 _ _).trans (q_ne x 0)
theorem z_lt (x : Int32) : ifCond.holds .lt x = decide (x < 0) := (if0 _ _).trans (q_lt x 0)
theorem z_ge (x : Int32) : ifCond.holds .ge x = decide (¬ x < 0) := (if0 _ _).trans (q_ge x 0)
theorem z_gt (x : Int32) : ifCond.holds .gt x = decide (0 < x) := (if0 _ _).trans (q_gt x 0)
theorem z_le (x : Int32) : ifCond.holds .le x = decide (¬ 0 < x) := (if0 _ _).trans (q_le x 0)
theorem w_eq (x y : Int64) : ifCond.holds .eq (lcmpW x y) = decide (x = y) := (z_eq _).trans (by simp only [lw_eq])
theorem w_ne (x y : Int64) : ifCond.holds .ne (lcmpW x y) = decide (¬ x = y) := (z_ne _).trans (by simp only [lw_eq])
theorem w_lt (x y : Int64) : ifCond.holds .lt (lcmpW x y) = decide (x < y) := (z_lt _).trans (by simp only [lw_lt])
theorem w_ge (x y : Int64) : ifCond.holds .ge (lcmpW x y) = decide (¬ x < y) := (z_ge _).trans (by simp only [lw_lt])
theorem w_gt (x y : Int64) : ifCond.holds .gt (lcmpW x y) = decide (y < x) := (z_gt _).trans (by simp only [lw_gt])
theorem w_le (x y : Int64) : ifCond.holds .le (lcmpW x y) = decide (¬ y < x) := (z_le _).trans (by simp only [lw_gt])
theorem ifnullN (hx : p.tables.exec = Jvm.exec) {pc pcN : Nat} {o : Int} {a : Addr} {Ls : Array Slot} {rest : List Value} (hd : decode c.code pc = .ok (.ifnull o, 3)) (hn : pc + 3 = pcN) (K : Goes p l e R s m args below meth c n0 mc ms Fn h k n (mkF m pcN Ls rest)) : Goes p l e R s m args below meth c n0 mc ms Fn h k n (mkF m pc Ls (.ref a :: rest)) := by
  subst hn; exact K.pure fun T locs t X hs => XS.ifnullNo X.here hx rfl hd rfl hs
theorem ifnullY (hx : p.tables.exec = Jvm.exec) {pc pcT : Nat} {o : Int} {Ls : Array Slot} {rest : List Value} (hd : decode c.code pc = .ok (.ifnull o, 3)) (ho : 0 ≤ (pc : Int) + o) (hp : ((pc : Int) + o).toNat = pcT) (K : Goes p l e R s m args below meth c n0 mc ms Fn h k n (mkF m pcT Ls rest)) : Goes p l e R s m args below meth c n0 mc ms Fn h k n (mkF m pc Ls (.null :: rest)) :=
  K.pure fun T locs t X hs => XS.ifnullYes X.here hx rfl rfl hd rfl ho hp hs
theorem ifnonnullN (hx : p.tables.exec = Jvm.exec) {pc pcN : Nat} {o : Int} {Ls : Array Slot} {rest : List Value} (hd : decode c.code pc = .ok (.ifnonnull o, 3)) (hn : pc + 3 = pcN) (K : Goes p l e R s m args below meth c n0 mc ms Fn h k n (mkF m pcN Ls rest)) : Goes p l e R s m args below meth c n0 mc ms Fn h k n (mkF m pc Ls (.null :: rest)) := by
  subst hn; exact K.pure fun T locs t X hs => XS.ifnonnullNo X.here hx rfl hd rfl hs
theorem ifnonnullY (hx : p.tables.exec = Jvm.exec) {pc pcT : Nat} {o : Int} {a : Addr} {Ls : Array Slot} {rest : List Value} (hd : decode c.code pc = .ok (.ifnonnull o, 3)) (ho : 0 ≤ (pc : Int) + o) (hp : ((pc : Int) + o).toNat = pcT) (K : Goes p l e R s m args below meth c n0 mc ms Fn h k n (mkF m pcT Ls rest)) : Goes p l e R s m args below meth c n0 mc ms Fn h k n (mkF m pc Ls (.ref a :: rest)) :=
  K.pure fun T locs t X hs => XS.ifnonnullYes X.here hx rfl rfl hd rfl ho hp hs
theorem ldc (hx : p.tables.exec = Jvm.exec) {Z : State} (hZ : Z.Warmed39 s.vm) {a0 : Array Value} {own : String} (hown : s.vm.findClass own = some m.cls) {pc pc' i : Nat} {Ls : Array Slot} (z : Int32) {rest : List Value} (hd : decode c.code pc = .ok (.ldc i, 2)) (hp : pc + 2 = pc') (w : (Jvm.Cond.constant own i z).before a0 Z = true) (K : Goes p l e R s m args below meth c n0 mc ms Fn h k n (mkF m pc' Ls (.int z :: rest))) : Goes p l e R s m args below meth c n0 mc ms Fn h k n (mkF m pc Ls rest) := by
  subst hp; exact K.pure fun T locs t X hs => X.ldcInt hx hown (mvT hZ w) (g := mkF m pc Ls rest) rfl hd t hs
theorem ldc2 (hx : p.tables.exec = Jvm.exec) {Z : State} (hZ : Z.Warmed39 s.vm) {a0 : Array Value} {own : String} (hown : s.vm.findClass own = some m.cls) {pc pc' i : Nat} {Ls : Array Slot} (z : Int64) {rest : List Value} (hd : decode c.code pc = .ok (.ldc2_w i, 3)) (hp : pc + 3 = pc') (w : (Jvm.Cond.constantLong own i z).before a0 Z = true) (K : Goes p l e R s m args below meth c n0 mc ms Fn h k n (mkF m pc' Ls (.long z :: rest))) : Goes p l e R s m args below meth c n0 mc ms Fn h k n (mkF m pc Ls rest) := by
  subst hp; exact K.pure fun T locs t X hs => X.ldc2Long hx hown (mvT hZ w) (g := mkF m pc Ls rest) rfl hd t hs
/-- the end of a walk -/
theorem endOf {v : Option Value} {g : JFrame} (hlk : meth.locks = false) (hv : meth.sig.returnType = none → v = none)
    (st : ∀ (T : State) (locs : List Loc) (fs : List Frame), Stand p l e R s m args below meth c T locs k n → (∀ (f : JFrame) (acts : List Action), f.method = m → f.locked = none → f.entered = [] → (doReturn e (T.setTop f) acts v).1 = T.setFrames fs) → Steps p.tables e below (T.setTop g) (T.setFrames fs))
    (hk : k ≤ mc) (hn : n ≤ ms) (hF : Fn v h) : Goes p l e R s m args below meth c n0 mc ms Fn h k n g := fun T locs X N eT => by
  obtain ⟨fs, hr, hrun, hended, hW, hsame⟩ := X.leave hv hlk
  refine ⟨_, _, st T locs fs X hr, hrun, hended, v, locs, rfl, ⟨?_, N⟩, ⟨_, rfl⟩, hW, hsame.mono hk hn⟩
  show Fn v T.heap
  rw [eT]; exact hF
theorem retI (hx : p.tables.exec = Jvm.exec) (hret : meth.sig.returnType = some .int) (hlk : meth.locks = false) {pc : Nat} {Ls : Array Slot} {z : Int32} {rest : List Value} (hd : decode c.code pc = .ok (.ireturn, 1)) (hk : k ≤ mc) (hn : n ≤ ms) (hF : Fn (some (.int z)) h) : Goes p l e R s m args below meth c n0 mc ms Fn h k n (mkF m pc Ls (.int z :: rest)) :=
  endOf hlk (fun q => by rw [hret] at q; cases q) (fun T locs fs X hr => retOut X hx hret rfl (Or.inl ⟨rfl, Or.inl rfl, _, rfl⟩) hd hr) hk hn hF
theorem retL (hx : p.tables.exec = Jvm.exec) (hret : meth.sig.returnType = some .long) (hlk : meth.locks = false) {pc : Nat} {Ls : Array Slot} {z : Int64} {rest : List Value} (hd : decode c.code pc = .ok (.lreturn, 1)) (hk : k ≤ mc) (hn : n ≤ ms) (hF : Fn (some (.long z)) h) : Goes p l e R s m args below meth c n0 mc ms Fn h k n (mkF m pc Ls (.long z :: rest)) :=
  endOf hlk (fun q => by rw [hret] at q; cases q) (fun T locs fs X hr => retOut X hx hret rfl (Or.inr (Or.inl ⟨rfl, rfl, _, rfl⟩)) hd hr) hk hn hF
theorem retA (hx : p.tables.exec = Jvm.exec) {ty : FieldType} (hret : meth.sig.returnType = some ty) (hty : ty.isReference = true) (hlk : meth.locks = false) {pc : Nat} {Ls : Array Slot} {w : Value} {rest : List Value} (hw : w.isRef = true) (hnr : narrow ty w = w) (hd : decode c.code pc = .ok (.areturn, 1)) (hk : k ≤ mc) (hn : n ≤ ms) (hF : Fn (some w) h) : Goes p l e R s m args below meth c n0 mc ms Fn h k n (mkF m pc Ls (w :: rest)) :=
  endOf hlk (fun q => by rw [hret] at q; cases q) (fun T locs fs X hr => retOut X hx hret hnr (Or.inr (Or.inr (Or.inr (Or.inr ⟨rfl, hty, hw⟩)))) hd hr) hk hn hF
theorem retS (hx : p.tables.exec = Jvm.exec) {ty : FieldType} (hret : meth.sig.returnType = some ty) (hty : ty = .boolean ∨ ty = .byte ∨ ty = .char ∨ ty = .short) (hlk : meth.locks = false) {pc : Nat} {Ls : Array Slot} {z : Int32} {rest : List Value} (hd : decode c.code pc = .ok (.ireturn, 1)) (hk : k ≤ mc) (hn : n ≤ ms) (hF : Fn (some (.int (nar ty z))) h) : Goes p l e R s m args below meth c n0 mc ms Fn h k n (mkF m pc Ls (.int z :: rest)) :=
  endOf hlk (fun q => by rw [hret] at q; cases q) (fun T locs fs X hr => retN X hx hret hty hd hr) hk hn hF
theorem retV (hx : p.tables.exec = Jvm.exec) (hret : meth.sig.returnType = none) (hlk : meth.locks = false) {pc : Nat} {Ls : Array Slot} (hd : decode c.code pc = .ok (.return_, 1)) (hk : k ≤ mc) (hn : n ≤ ms) (hF : Fn none h) : Goes p l e R s m args below meth c n0 mc ms Fn h k n (mkF m pc Ls []) :=
  endOf hlk (fun _ => rfl) (fun T locs fs X hr => X.returnOut hx hret hd hr) hk hn hF
/-- a static method by its contract -/
theorem callS (hx : p.tables.exec = Jvm.exec) {Z : State} (hZ : Z.Warmed39 s.vm) {a0 : Array Value} {own : String} (hown : s.vm.findClass own = some m.cls) {i : Nat} {y : MethodName} {bytes : ByteArray} {maxL : Nat} {ret : Option FieldType} {rm : Room} {F : Option Value → Heap → Prop} {argsL rest : List Value}
    (w1 : (Jvm.Cond.methodLink own i y).before a0 Z = true) (w2 : (Jvm.Cond.static y).before a0 Z = true) (w3 : (Jvm.Cond.initialized y.cls).before a0 Z = true) (w4 : (Jvm.Cond.code y bytes maxL ret).before a0 Z = true) (hy : y.cls ≠ "java/lang/invoke/MethodHandle" ∧ y.cls ≠ "java/lang/invoke/VarHandle")
    {sg : ClassFile.MethodDescriptor} (hsg : parseMethodDescriptor y.desc = some sg) (hlen : argsL.length = sg.parameters.length) {pc pc' : Nat} {Ls : Array Slot} {W : Nat} (hW : (rest.map fun v => v.category).sum ≤ W) (hf : rm.frames + 1 ≤ R.frames) (hl : W + (maxL + 11) + rm.locals ≤ R.locals) (hcl : k + rm.cells ≤ R.cells) (hsl : n + rm.slots ≤ R.slots)
    {k' n' : Nat} (hk' : k + rm.cells = k') (hn' : n + rm.slots = n') (hml : Ls.size = c.maxLocals) (st : List Value) (hst : st = argsL.reverse ++ rest) (hd : decode c.code pc = .ok (.invokestatic i, 3)) (hp : pc + 3 = pc') (D : Does l y bytes maxL ret [] rm Z argsL.toArray h n0 F)
    (K : ∀ v h', F v h' → Goes p l e R s m args below meth c n0 mc ms Fn h' k' n' (mkF m pc' Ls (v.toList ++ rest))) : Goes p l e R s m args below meth c n0 mc ms Fn h k n (mkF m pc Ls st) := fun T locs X N eT => by
  subst hp hst hk' hn'
  obtain ⟨v, _, ⟨T', L', k', n'⟩, -, X', ⟨Lc, hQ, l1, y1, z1⟩, st⟩ := Jvm.LawKit.callS X hx (y := y) hown (mvT hZ w1) (mvT hZ w2) (mvT hZ w3) (mvT hZ w4) hy (backOf (W := W) (Q := fun v h' L => F v h' ∧ Fr n0 L) D hZ w4 w3 hf hl) (g := mkF m pc Ls (argsL.reverse ++ rest)) rfl hml (argsL := argsL) (rest := rest) (lenOf hsg hlen) rfl (by show 2 * 0 + _ ≤ _; omega) hd (fun _ _ => ⟨rfl, eT, hcl, hsl⟩)
  dsimp only [Pt.U, Pt.locs, Pt.cells, Pt.slots] at X' l1 y1 z1 st hQ
  subst l1 y1 z1
  obtain ⟨s₂, o, hs, r⟩ := K v T'.heap hQ.1 T' _ X' (N.app hQ.2) rfl
  exact ⟨s₂, o, st _ hs, r⟩
theorem vI {x : Int32} (z : Int32) (q : x = z) {pc : Nat} {Ls : Array Slot} {rest : List Value} (K : Goes p l e R s m args below meth c n0 mc ms Fn h k n (mkF m pc Ls (.int z :: rest))) : Goes p l e R s m args below meth c n0 mc ms Fn h k n (mkF m pc Ls (.int x :: rest)) := by subst q; exact K
theorem vL {x : Int64} (z : Int64) (q : x = z) {pc : Nat} {Ls : Array Slot} {rest : List Value} (K : Goes p l e R s m args below meth c n0 mc ms Fn h k n (mkF m pc Ls (.long z :: rest))) : Goes p l e R s m args below meth c n0 mc ms Fn h k n (mkF m pc Ls (.long x :: rest)) := by subst q; exact K
theorem bool1 {z : Int32} (q : z = 1) : (some (Value.int (nar .boolean z)) : Option Value) = some (.int 1) := by subst q; rfl
end Eng
end Own
namespace Own
section EngH
def FldC (Z : State) (C nm d : String) (v : Value) (cell : Cell) : Prop := ∃ (cf : ClassId) (kk : Class) (i : Nat) (f : Field), Z.fieldFound? C nm d = some (cf, kk, i, f) ∧ f.isStatic = false ∧ cell.vm ≠ .unknown ∧ cell.vm.isStatics = false ∧ Z.vm.assignable cell.cls cf = true ∧ cell.slots[f.slot]? = some v
def ExaC (Z : State) (C : String) (cell : Cell) : Prop := ∃ kk : Class, Z.vm.findClass C = some cell.cls ∧ Z.vm.classes[cell.cls]? = some kk ∧ cell.vm.isStatics = false ∧ (kk.kind = .ordinary → cell.slots.size = kk.instanceTypes.size)
/-- an object of just the class C with these fields (declaring class, name, descriptor) at these values -/
def ObjC (Z : State) (C : String) (fs : List ((String × String × String) × Value)) (cell : Cell) : Prop := ExaC Z C cell ∧ (∀ f ∈ fs, FldC Z f.1.1 f.1.2.1 f.1.2.2 f.2 cell) ∧ (fs.map fun f => Jvm.RoadKit.slotOf Z f.1.1 f.1.2.1 f.1.2.2).Nodup
/-- an array of the kind ty with these values -/
def ArrC (Z : State) (ty : FieldType) (vs : List Value) (cell : Cell) : Prop := Z.isArrayOf cell ty ∧ cell.vm ≠ .unknown ∧ cell.slots.toList = vs ∧ ∀ v ∈ vs, fits ty v = true
/-- the cells at these places, all at or above n0 and unlike, are as said -/
def Owns (n0 : Nat) (h : Heap) (os : List (Addr × (Cell → Prop))) : Prop := n0 ≤ h.size ∧ (os.map Prod.fst).Nodup ∧ ∀ o ∈ os, n0 ≤ o.1 ∧ ∃ cell, h[o.1]? = some cell ∧ o.2 cell
variable {p : Program} {l : Launch} {e : Env} {R : Room} {s : State} {m : MethodId} {args : Array Value} {below : List Frame} {meth : Method} {c : Code} {n0 mc ms : Nat} {Fn : Option Value → Heap → Prop} {h h' : Heap} {k n : Nat} {Z : State} {a0 : Array Value} {os : List (Addr × (Cell → Prop))} {a : Addr}
theorem Owns.nil (q : n0 ≤ h.size) : Owns n0 h [] := ⟨q, List.nodup_nil, fun _ z => nomatch z⟩
theorem Owns.at (O : Owns n0 h os) {i : Nat} {P : Cell → Prop} (hi : os[i]? = some (a, P)) : n0 ≤ a ∧ ∃ cell, h[a]? = some cell ∧ P cell := O.2.2 (a, P) (List.mem_of_getElem? hi)
theorem Owns.lt (O : Owns n0 h os) {o : Addr × (Cell → Prop)} (ho : o ∈ os) : o.1 < h.size := by obtain ⟨-, cell, q, -⟩ := O.2.2 o ho; exact (Array.getElem?_eq_some_iff.mp q).1
theorem Owns.push {P : Cell → Prop} (O : Owns n0 h os) (E : Ext h h') (q : ∃ cell, h'[h.size]? = some cell ∧ P cell) : Owns n0 h' ((h.size, P) :: os) := by
  refine ⟨Nat.le_trans O.1 E.1, ?_, ?_⟩
  · rw [List.map_cons, List.nodup_cons]
    refine ⟨fun z => ?_, O.2.1⟩
    obtain ⟨o, ho, e1⟩ := List.mem_map.mp z
    exact absurd (O.lt ho) (by rw [e1]; exact Nat.lt_irrefl _)
  · intro o ho
    rcases List.mem_cons.mp ho with rfl | ho
    · exact ⟨O.1, q⟩
    · obtain ⟨q1, cell, q2, q3⟩ := O.2.2 o ho
      exact ⟨q1, cell, E.2 _ _ q2, q3⟩
theorem nodup_at {os : List (Addr × (Cell → Prop))} (hN : (os.map Prod.fst).Nodup) {i j : Nat} {P Q : Cell → Prop} (hi : os[i]? = some (a, P)) (hj : os[j]? = some (a, Q)) : i = j := by
  have h1 : (os.map Prod.fst)[i]? = some a := by rw [List.getElem?_map, hi]; rfl
  have h2 : (os.map Prod.fst)[j]? = some a := by rw [List.getElem?_map, hj]; rfl
  obtain ⟨l1, e1⟩ := List.getElem?_eq_some_iff.mp h1
  obtain ⟨l2, e2⟩ := List.getElem?_eq_some_iff.mp h2
  exact (List.getElem_inj hN).mp (e1.trans e2.symm)
/-- the cell at one owned place is another one now; all others stay -/
theorem Owns.upd {P P' : Cell → Prop} (O : Owns n0 h os) {i : Nat} (hi : os[i]? = some (a, P)) (hs : h.size ≤ h'.size) (ho : ∀ x cell, h[x]? = some cell → x ≠ a → h'[x]? = some cell) (ha : ∃ cell, h'[a]? = some cell ∧ P' cell) : Owns n0 h' (os.set i (a, P')) := by
  have hlt : i < os.length := (List.getElem?_eq_some_iff.mp hi).1
  refine ⟨Nat.le_trans O.1 hs, ?_, ?_⟩
  · have e1 : (os.set i (a, P')).map Prod.fst = os.map Prod.fst := by
      rw [List.map_set]
      refine List.ext_getElem? fun j => ?_
      rw [List.getElem?_set]
      split
      · next q => subst q; rw [List.getElem?_map, hi]; simp [hlt]
      · rfl
    rw [e1]; exact O.2.1
  · intro o hm
    obtain ⟨j, hj⟩ := List.getElem?_of_mem hm
    rw [List.getElem?_set] at hj
    split at hj
    · simp only [hlt, if_true, Option.some.injEq] at hj
      subst hj
      exact ⟨(O.at hi).1, ha⟩
    · next q =>
      obtain ⟨oa, oP⟩ := o
      obtain ⟨q1, cell, q2, q3⟩ := O.at hj
      refine ⟨q1, cell, ho _ _ q2 fun z => ?_, q3⟩
      subst z
      exact q (nodup_at O.2.1 hi hj)
theorem wr_get {sl : Nat} {v : Value} (W : Wr h h' a sl v) : h.size ≤ h'.size ∧ (∀ x cell, h[x]? = some cell → x ≠ a → h'[x]? = some cell) ∧ ∀ cell, h[a]? = some cell → h'[a]? = some (cell.setSlot sl v) := by
  obtain ⟨cell, h1, h2, h3, rfl⟩ := W
  refine ⟨by simp, fun x cx hx hne => ?_, fun c' hc' => ?_⟩
  · rw [Array.getElem?_setIfInBounds_ne (Ne.symm hne)]; exact hx
  · cases h1.symm.trans hc'
    have := (Array.getElem?_eq_some_iff.mp h1).1
    simp [this]
theorem Owns.wr {P P' : Cell → Prop} {sl : Nat} {v : Value} (O : Owns n0 h os) {i : Nat} (hi : os[i]? = some (a, P)) (W : Wr h h' a sl v) (q : ∀ cell, P cell → P' (cell.setSlot sl v)) : Owns n0 h' (os.set i (a, P')) := by
  obtain ⟨w1, w2, w3⟩ := wr_get W
  obtain ⟨-, cell, q1, q2⟩ := O.at hi
  exact O.upd hi w1 w2 ⟨_, w3 _ q1, q _ q2⟩
/-- the i-th object is brought to the front -/
theorem Owns.pick (O : Owns n0 h os) (i : Nat) {o : Addr × (Cell → Prop)} (hi : os[i]? = some o) : Owns n0 h (o :: os.eraseIdx i) := by
  have hlt : i < os.length := (List.getElem?_eq_some_iff.mp hi).1
  have hp : os.Perm (o :: os.eraseIdx i) := by
    have h2 : os[i] = o := (List.getElem?_eq_some_iff.mp hi).2
    have h3 : os = os.take i ++ o :: os.drop (i + 1) := by rw [← h2, List.getElem_cons_drop, List.take_append_drop]
    rw [List.eraseIdx_eq_take_drop_succ]
    conv => lhs; rw [h3]
    exact List.perm_middle
  exact ⟨O.1, (hp.map Prod.fst).nodup_iff.mp O.2.1, fun z hz => O.2.2 z (hp.mem_iff.mpr hz)⟩
theorem Owns.cast {os' : List (Addr × (Cell → Prop))} (O : Owns n0 h os) (q : os = os') : Owns n0 h os' := q ▸ O
theorem Owns.tail {o : Addr × (Cell → Prop)} (O : Owns n0 h (o :: os)) : Owns n0 h os := ⟨O.1, by have h1 := O.2.1; rw [List.map_cons, List.nodup_cons] at h1; exact h1.2, fun z hz => O.2.2 z (List.mem_cons_of_mem _ hz)⟩
theorem fld_of {C nm d : String} {v : Value} {cell : Cell} (q : h[a]? = some cell) (F : FldC Z C nm d v cell) : Fld Z h a C nm d v := by obtain ⟨cf, kk, i, f, r⟩ := F; exact ⟨cell, cf, kk, i, f, q, r⟩
theorem exa_of {C : String} {cell : Cell} (q : h[a]? = some cell) (F : ExaC Z C cell) : Exa Z h a C := by obtain ⟨kk, r⟩ := F; exact ⟨cell, kk, q, r⟩
theorem fldC_of {C nm d : String} {v : Value} {cell : Cell} (q : h[a]? = some cell) (F : Fld Z h a C nm d v) : FldC Z C nm d v cell := by obtain ⟨c', cf, kk, i, f, q', r⟩ := F; cases q.symm.trans q'; exact ⟨cf, kk, i, f, r⟩
theorem exaC_of {C : String} {cell : Cell} (q : h[a]? = some cell) (F : Exa Z h a C) : ExaC Z C cell := by obtain ⟨c', kk, q', r⟩ := F; cases q.symm.trans q'; exact ⟨kk, r⟩
theorem Owns.fld {C : String} {fs : List ((String × String × String) × Value)} (O : Owns n0 h os) {i j : Nat} (hi : os[i]? = some (a, ObjC Z C fs)) {C' nm d : String} {v : Value} (hj : fs[j]? = some ((C', nm, d), v)) : Fld Z h a C' nm d v := by
  obtain ⟨-, cell, q1, q2⟩ := O.at hi
  exact fld_of q1 (q2.2.1 _ (List.mem_of_getElem? hj))
theorem Owns.exa {C : String} {fs : List ((String × String × String) × Value)} (O : Owns n0 h os) {i : Nat} (hi : os[i]? = some (a, ObjC Z C fs)) : Exa Z h a C := by
  obtain ⟨-, cell, q1, q2⟩ := O.at hi
  exact exa_of q1 q2.1
theorem getfield (hx : p.tables.exec = Jvm.exec) (hZ : Z.Warmed39 s.vm) {own : String} (hown : s.vm.findClass own = some m.cls) (O : Owns n0 h os) (i j : Nat) {C C' nm d : String} {fs : List ((String × String × String) × Value)} (hi : os[i]? = some (a, ObjC Z C fs)) {v : Value} (hj : fs[j]? = some ((C', nm, d), v))
    {pc pc' idx : Nat} {Ls : Array Slot} {rest : List Value} (w : (Jvm.Cond.fieldLink own idx C' nm d).before a0 Z = true) (hd : decode c.code pc = .ok (.getfield idx, 3)) (hp : pc + 3 = pc') (K : Goes p l e R s m args below meth c n0 mc ms Fn h k n (mkF m pc' Ls (v :: rest))) : Goes p l e R s m args below meth c n0 mc ms Fn h k n (mkF m pc Ls (.ref a :: rest)) := by
  subst hp
  refine Goes.move (Pr := fun h' => h' = h) (k' := k) (n' := n) (g' := mkF m (pc + 3) Ls (v :: rest)) (fun T locs X N eT => ?_) (fun h' q => by rw [q]; exact K)
  obtain ⟨T', X', e', st⟩ := getF X hx hZ hown (host := "") (Or.inl w) Via.refl eT (O.fld hi hj) (g := mkF m pc Ls (.ref a :: rest)) rfl rfl hd
  exact ⟨T', locs, X', N, e', st⟩
theorem obj_set {C : String} {fs : List ((String × String × String) × Value)} {j : Nat} {C' nm d : String} {old v : Value} (hj : fs[j]? = some ((C', nm, d), old)) {cell : Cell} (q : ObjC Z C fs cell) : ObjC Z C (fs.set j ((C', nm, d), v)) (cell.setSlot (Jvm.RoadKit.slotOf Z C' nm d) v) := by
  obtain ⟨q1, q2, q3⟩ := q
  have hq : (#[cell] : Heap)[0]? = some cell := rfl
  have F0 := q2 _ (List.mem_of_getElem? hj)
  have hst : cell.vm.isStatics = false := by obtain ⟨_, _, _, _, _, _, _, r, _⟩ := F0; exact r
  have hsl : Jvm.RoadKit.slotOf Z C' nm d < cell.slots.size := by
    obtain ⟨cf, kk, i, f, r1, -, -, -, -, r2⟩ := F0
    have e1 : Jvm.RoadKit.slotOf Z C' nm d = f.slot := by simp [Jvm.RoadKit.slotOf, r1]
    rw [e1]; exact (Array.getElem?_eq_some_iff.mp r2).1
  have W : Wr #[cell] #[cell.setSlot (Jvm.RoadKit.slotOf Z C' nm d) v] 0 (Jvm.RoadKit.slotOf Z C' nm d) v := ⟨cell, hq, hst, hsl, by simp⟩
  have hq' : (#[cell.setSlot (Jvm.RoadKit.slotOf Z C' nm d) v] : Heap)[0]? = some (cell.setSlot (Jvm.RoadKit.slotOf Z C' nm d) v) := rfl
  have hlt : j < fs.length := (List.getElem?_eq_some_iff.mp hj).1
  have hslots : (fs.set j ((C', nm, d), v)).map (fun f => Jvm.RoadKit.slotOf Z f.1.1 f.1.2.1 f.1.2.2) = fs.map (fun f => Jvm.RoadKit.slotOf Z f.1.1 f.1.2.1 f.1.2.2) := by
    rw [List.map_set]
    refine List.ext_getElem? fun i => ?_
    rw [List.getElem?_set]
    split
    · next z => subst z; rw [List.getElem?_map, hj]; simp [hlt]
    · rfl
  refine ⟨exaC_of hq' ((exa_of hq q1).wr W), fun f hf => ?_, by rw [hslots]; exact q3⟩
  obtain ⟨i, hi⟩ := List.getElem?_of_mem hf
  rw [List.getElem?_set] at hi
  split at hi
  · simp only [hlt, if_true, Option.some.injEq] at hi
    subst hi
    exact fldC_of hq' ((fld_of hq F0).same W)
  · next z =>
    refine fldC_of hq' ((fld_of hq (q2 f (List.mem_of_getElem? hi))).other W (Or.inr fun y => z ?_))
    have h1 : (fs.map (fun f => Jvm.RoadKit.slotOf Z f.1.1 f.1.2.1 f.1.2.2))[i]? = some (Jvm.RoadKit.slotOf Z f.1.1 f.1.2.1 f.1.2.2) := by rw [List.getElem?_map, hi]; rfl
    have h2 : (fs.map (fun f => Jvm.RoadKit.slotOf Z f.1.1 f.1.2.1 f.1.2.2))[j]? = some (Jvm.RoadKit.slotOf Z C' nm d) := by rw [List.getElem?_map, hj]; rfl
    obtain ⟨l1, e1⟩ := List.getElem?_eq_some_iff.mp h1
    obtain ⟨l2, e2⟩ := List.getElem?_eq_some_iff.mp h2
    exact ((List.getElem_inj q3).mp (e1.trans (y.trans e2.symm))).symm
theorem putfield (hx : p.tables.exec = Jvm.exec) (hZ : Z.Warmed39 s.vm) {own : String} (hown : s.vm.findClass own = some m.cls) (O : Owns n0 h os) (i j : Nat) {C C' nm d : String} {fs : List ((String × String × String) × Value)} (hi : os[i]? = some (a, ObjC Z C fs)) {old v : Value} (hj : fs[j]? = some ((C', nm, d), old))
    {pc pc' idx kk : Nat} {Ls : Array Slot} {rest : List Value} (w : (Jvm.Cond.fieldLink own idx C' nm d).before a0 Z = true) (L : (Jvm.Cond.lays C C' nm d).before a0 Z = true ∨ ((Jvm.Cond.laysFinal C C' nm d).before a0 Z = true ∧ own = C' ∧ meth.name = "<init>")) (wi : (Jvm.Cond.instantiable C kk).before a0 Z = true)
    {ty : FieldType} (hty : parseFieldDescriptor d = some ty) (hnr : narrow ty v = v) (hf : fits ty v = true) (os' : List (Addr × (Cell → Prop))) (hos : os.set i (a, ObjC Z C (fs.set j ((C', nm, d), v))) = os')
    (hd : decode c.code pc = .ok (.putfield idx, 3)) (hp : pc + 3 = pc') (K : ∀ h', Owns n0 h' os' → Goes p l e R s m args below meth c n0 mc ms Fn h' k n (mkF m pc' Ls rest)) : Goes p l e R s m args below meth c n0 mc ms Fn h k n (mkF m pc Ls (v :: .ref a :: rest)) := by
  subst hp hos
  refine Goes.move (Pr := fun h' => Owns n0 h' (os.set i (a, ObjC Z C (fs.set j ((C', nm, d), v))))) (fun T locs X N eT => ?_) K
  obtain ⟨T', h', X', e', W, st⟩ := putF X hx hZ hown (host := "") (Or.inl w) Via.refl eT (O.fld hi hj) (O.exa hi) L wi hty hnr hf (g := mkF m pc Ls (v :: .ref a :: rest)) rfl rfl hd
  exact ⟨T', _, X', Fr.snoc X' N (O.at hi).1, by rw [e']; exact O.wr hi W fun cell q => obj_set hj q, st⟩
theorem nodup_slots {C : String} : ∀ {fs : List ((String × String × String) × Value)}, (∀ f ∈ fs, Laid Z a0 C f.1.1 f.1.2.1 f.1.2.2 ∧ ∃ ty, parseFieldDescriptor f.1.2.2 = some ty ∧ defaultValue ty = f.2) → (fs.map fun f => f.1.2.1).Nodup → (fs.map fun f => Jvm.RoadKit.slotOf Z f.1.1 f.1.2.1 f.1.2.2).Nodup
  | [], _, _ => List.nodup_nil
  | f :: fs, hL, hN => by
    rw [List.map_cons, List.nodup_cons] at hN ⊢
    refine ⟨fun z => ?_, nodup_slots (fun g hg => hL g (List.mem_cons_of_mem _ hg)) hN.2⟩
    obtain ⟨g, hg, e1⟩ := List.mem_map.mp z
    obtain ⟨L1, d1⟩ := hL f List.mem_cons_self
    obtain ⟨L2, d2⟩ := hL g (List.mem_cons_of_mem _ hg)
    obtain ⟨t1, t1', -⟩ := d1
    obtain ⟨t2, t2', -⟩ := d2
    exact slot_ne L1 L2 (fun q => hN.1 (List.mem_map.mpr ⟨g, hg, q.symm⟩)) t1' t2' e1.symm
theorem newobj (hx : p.tables.exec = Jvm.exec) (hZ : Z.Warmed39 s.vm) {own : String} (hown : s.vm.findClass own = some m.cls) (O : Owns n0 h os) {C : String} {idx kk : Nat} (w1 : (Jvm.Cond.classLink own idx C).before a0 Z = true) (w2 : (Jvm.Cond.instantiable C kk).before a0 Z = true) (w3 : (Jvm.Cond.initialized C).before a0 Z = true)
    (fs : List ((String × String × String) × Value)) (hL : ∀ f ∈ fs, Laid Z a0 C f.1.1 f.1.2.1 f.1.2.2 ∧ ∃ ty, parseFieldDescriptor f.1.2.2 = some ty ∧ defaultValue ty = f.2) (hN : (fs.map fun f => f.1.2.1).Nodup) {k' n' : Nat} (hk' : k + 1 = k') (hn' : n + kk = n') (hc : k' ≤ R.cells) (hl : n' ≤ R.slots)
    {pc pc' : Nat} {Ls : Array Slot} {rest : List Value} (hd : decode c.code pc = .ok (.new idx, 3)) (hp : pc + 3 = pc') (K : ∀ a h', Owns n0 h' ((a, ObjC Z C fs) :: os) → Goes p l e R s m args below meth c n0 mc ms Fn h' k' n' (mkF m pc' Ls (.ref a :: rest))) : Goes p l e R s m args below meth c n0 mc ms Fn h k n (mkF m pc Ls rest) := by
  subst hp hk' hn'
  refine Goes.move (Pr := fun h' => Owns n0 h' ((h.size, ObjC Z C fs) :: os)) (fun T locs X N eT => ?_) (fun h' q => K _ _ q)
  obtain ⟨T', h', X', e', E, A, D, ⟨cell, q1, -, -⟩, st⟩ := newO X hx hZ hown w1 w2 w3 eT (g := mkF m pc Ls rest) rfl hd hc hl
  refine ⟨T', locs, X', N, ?_, st⟩
  rw [e']
  refine O.push E ⟨cell, q1, exaC_of q1 A, fun f hf => ?_, nodup_slots hL hN⟩
  obtain ⟨L1, d1⟩ := hL f hf
  obtain ⟨t1, t1', t1''⟩ := d1
  have := D L1 t1'
  rw [t1''] at this
  exact fldC_of q1 this
theorem idx_ok {j : Int32} {i len : Nat} (hj : j.toInt = (i : Int)) (hi : i < len) : ¬ (j < 0 ∨ len ≤ j.toNatClampNeg) ∧ j.toNatClampNeg = i := by
  have h0 : ¬ j < 0 := fun q => by have := Int32.lt_iff_toInt_lt.mp q; rw [hj] at this; have h1 : (0 : Int32).toInt = 0 := by decide
                                   omega
  have h1 : j.toNatClampNeg = i := by have := nat_of h0; omega
  exact ⟨fun q => by rcases q with q | q
                     · exact h0 q
                     · omega, h1⟩
theorem newarr (hx : p.tables.exec = Jvm.exec) (hZ : Z.Warmed39 s.vm) (O : Owns n0 h os) {aty : ArrayType} (w : (Jvm.Cond.arrayClass (newarray.typeOf aty)).before a0 Z = true) {z : Int32} (len : Nat) (hz : z.toInt = (len : Int)) (vs : List Value) (hvs : List.replicate len (defaultValue (newarray.typeOf aty)) = vs) (hfit : fits (newarray.typeOf aty) (defaultValue (newarray.typeOf aty)) = true) {cap : Nat} (hcap : len ≤ cap) (hbg : cap * 8 ≤ 536870912) {k' n' : Nat} (hk' : k + 1 = k') (hn' : n + cap = n') (hc : k' ≤ R.cells) (hl : n' ≤ R.slots)
    {pc pc' : Nat} {Ls : Array Slot} {rest : List Value} (hd : decode c.code pc = .ok (.newarray aty, 2)) (hp : pc + 2 = pc') (K : ∀ a h', Owns n0 h' ((a, ArrC Z (newarray.typeOf aty) vs) :: os) → Goes p l e R s m args below meth c n0 mc ms Fn h' k' n' (mkF m pc' Ls (.ref a :: rest))) : Goes p l e R s m args below meth c n0 mc ms Fn h k n (mkF m pc Ls (.int z :: rest)) := by
  subst hp hk' hn' hvs
  have hz0 : ¬ z < 0 := fun q => by have := Int32.lt_iff_toInt_lt.mp q; rw [hz] at this; have h1 : (0 : Int32).toInt = 0 := by decide
                                    omega
  have hz1 : z.toNatClampNeg = len := by have := nat_of hz0; omega
  refine Goes.move (Pr := fun h' => Owns n0 h' ((h.size, ArrC Z (newarray.typeOf aty) (List.replicate len (defaultValue (newarray.typeOf aty)))) :: os)) (fun T locs X N eT => ?_) (fun h' q => K _ _ q)
  obtain ⟨T', h', cA, X', e', E, A, st⟩ := newP X hx hZ w eT (g := mkF m pc Ls (.int z :: rest)) rfl hd rfl hz0 (cap := cap) (by omega) hbg hc hl
  refine ⟨T', locs, X', N, ?_, st⟩
  rw [e']
  refine O.push E ⟨_, A.1, A.2.1, A.2.2, by simp [newA, hz1], fun v hv => ?_⟩
  rw [(List.mem_replicate.mp hv).2]; exact hfit
theorem arrlen (hx : p.tables.exec = Jvm.exec) (hZ : Z.Warmed39 s.vm) (O : Owns n0 h os) (i : Nat) {ty : FieldType} {vs : List Value} (hi : os[i]? = some (a, ArrC Z ty vs)) (z : Int32) (hz : vs.length.toInt32 = z) {pc pc' : Nat} {Ls : Array Slot} {rest : List Value} (hd : decode c.code pc = .ok (.arraylength, 1)) (hp : pc + 1 = pc')
    (K : Goes p l e R s m args below meth c n0 mc ms Fn h k n (mkF m pc' Ls (.int z :: rest))) : Goes p l e R s m args below meth c n0 mc ms Fn h k n (mkF m pc Ls (.ref a :: rest)) := fun T locs X N eT => by
  subst hp hz
  obtain ⟨-, cell, q1, q2, q3, q4, q5⟩ := O.at hi
  obtain ⟨s₂, o, hs, r⟩ := K T locs X N eT
  refine ⟨s₂, o, ?_, r⟩
  refine X.arraylength hx (by rw [eT]; exact q1) (State.isArrayOf_alike hZ.alike q2) (g := mkF m pc Ls (.ref a :: rest)) rfl rfl hd _ ?_
  have e1 : cell.slots.size = vs.length := by rw [← q4, Array.length_toList]
  rw [e1]; exact hs
theorem iaload (hx : p.tables.exec = Jvm.exec) (hZ : Z.Warmed39 s.vm) (O : Owns n0 h os) (i j : Nat) {vs : List Value} (hi : os[i]? = some (a, ArrC Z .int vs)) {jj : Int32} (hj : jj.toInt = (j : Int)) {v : Value} (hv : vs[j]? = some v) {pc pc' : Nat} {Ls : Array Slot} {rest : List Value} (hd : decode c.code pc = .ok (.iaload, 1)) (hp : pc + 1 = pc')
    (K : Goes p l e R s m args below meth c n0 mc ms Fn h k n (mkF m pc' Ls (v :: rest))) : Goes p l e R s m args below meth c n0 mc ms Fn h k n (mkF m pc Ls (.int jj :: .ref a :: rest)) := fun T locs X N eT => by
  subst hp
  obtain ⟨-, cell, q1, q2, q3, q4, q5⟩ := O.at hi
  have e1 : cell.slots.size = vs.length := by rw [← q4, Array.length_toList]
  obtain ⟨hin, hjn⟩ := idx_ok hj (len := cell.slots.size) (by rw [e1]; exact (List.getElem?_eq_some_iff.mp hv).1)
  obtain ⟨s₂, o, hs, r⟩ := K T locs X N eT
  refine ⟨s₂, o, X.iaload hx (by rw [eT]; exact q1) (State.isArrayOf_alike hZ.alike q2) q3 hin (by rw [hjn, ← Array.getElem?_toList, q4]; exact hv) (g := mkF m pc Ls (.int jj :: .ref a :: rest)) rfl rfl hd _ hs, r⟩
theorem laload (hx : p.tables.exec = Jvm.exec) (hZ : Z.Warmed39 s.vm) (O : Owns n0 h os) (i j : Nat) {vs : List Value} (hi : os[i]? = some (a, ArrC Z .long vs)) {jj : Int32} (hj : jj.toInt = (j : Int)) {v : Value} (hv : vs[j]? = some v) {pc pc' : Nat} {Ls : Array Slot} {rest : List Value} (hd : decode c.code pc = .ok (.laload, 1)) (hp : pc + 1 = pc')
    (K : Goes p l e R s m args below meth c n0 mc ms Fn h k n (mkF m pc' Ls (v :: rest))) : Goes p l e R s m args below meth c n0 mc ms Fn h k n (mkF m pc Ls (.int jj :: .ref a :: rest)) := fun T locs X N eT => by
  subst hp
  obtain ⟨-, cell, q1, q2, q3, q4, q5⟩ := O.at hi
  have e1 : cell.slots.size = vs.length := by rw [← q4, Array.length_toList]
  obtain ⟨hin, hjn⟩ := idx_ok hj (len := cell.slots.size) (by rw [e1]; exact (List.getElem?_eq_some_iff.mp hv).1)
  obtain ⟨s₂, o, hs, r⟩ := K T locs X N eT
  refine ⟨s₂, o, X.laload hx (by rw [eT]; exact q1) (State.isArrayOf_alike hZ.alike q2) q3 hin (by rw [hjn, ← Array.getElem?_toList, q4]; exact hv) (g := mkF m pc Ls (.int jj :: .ref a :: rest)) rfl rfl hd _ hs, r⟩
theorem caload (hx : p.tables.exec = Jvm.exec) (hZ : Z.Warmed39 s.vm) (O : Owns n0 h os) (i j : Nat) {vs : List Value} (hi : os[i]? = some (a, ArrC Z .char vs)) {jj : Int32} (hj : jj.toInt = (j : Int)) {v : Value} (hv : vs[j]? = some v) {pc pc' : Nat} {Ls : Array Slot} {rest : List Value} (hd : decode c.code pc = .ok (.caload, 1)) (hp : pc + 1 = pc')
    (K : Goes p l e R s m args below meth c n0 mc ms Fn h k n (mkF m pc' Ls (v :: rest))) : Goes p l e R s m args below meth c n0 mc ms Fn h k n (mkF m pc Ls (.int jj :: .ref a :: rest)) := fun T locs X N eT => by
  subst hp
  obtain ⟨-, cell, q1, q2, q3, q4, q5⟩ := O.at hi
  have e1 : cell.slots.size = vs.length := by rw [← q4, Array.length_toList]
  obtain ⟨hin, hjn⟩ := idx_ok hj (len := cell.slots.size) (by rw [e1]; exact (List.getElem?_eq_some_iff.mp hv).1)
  obtain ⟨s₂, o, hs, r⟩ := K T locs X N eT
  refine ⟨s₂, o, X.caload hx (by rw [eT]; exact q1) (State.isArrayOf_alike hZ.alike q2) q3 hin (by rw [hjn, ← Array.getElem?_toList, q4]; exact hv) (g := mkF m pc Ls (.int jj :: .ref a :: rest)) rfl rfl hd _ hs, r⟩
theorem iastore (hx : p.tables.exec = Jvm.exec) (hZ : Z.Warmed39 s.vm) (O : Owns n0 h os) (i j : Nat) {vs : List Value} (hi : os[i]? = some (a, ArrC Z .int vs)) {jj : Int32} (hj : jj.toInt = (j : Int)) (hv : j < vs.length) {x : Int32} (os' : List (Addr × (Cell → Prop))) (hos : os.set i (a, ArrC Z .int (vs.set j (.int x))) = os') {pc pc' : Nat} {Ls : Array Slot} {rest : List Value} (hd : decode c.code pc = .ok (.iastore, 1)) (hp : pc + 1 = pc')
    (K : ∀ h', Owns n0 h' os' → Goes p l e R s m args below meth c n0 mc ms Fn h' k n (mkF m pc' Ls rest)) : Goes p l e R s m args below meth c n0 mc ms Fn h k n (mkF m pc Ls (.int x :: .int jj :: .ref a :: rest)) := by
  subst hp hos
  refine Goes.move (Pr := fun h' => Owns n0 h' (os.set i (a, ArrC Z .int (vs.set j (.int x))))) (fun T locs X N eT => ?_) K
  obtain ⟨q0, cell, q1, q2, q3, q4, q5⟩ := O.at hi
  have e1 : cell.slots.size = vs.length := by rw [← q4, Array.length_toList]
  obtain ⟨hin, hjn⟩ := idx_ok hj (len := cell.slots.size) (by rw [e1]; exact hv)
  obtain ⟨T', h', X', e', W, st'⟩ := stI X hx hZ eT ⟨q1, q2, q3⟩ hin (g := mkF m pc Ls (.int x :: .int jj :: .ref a :: rest)) rfl rfl hd
  refine ⟨T', _, X', Fr.snoc X' N q0, ?_, st'⟩
  rw [e']
  rw [hjn] at W
  obtain ⟨w1, w2, w3⟩ := wr_get W
  exact O.upd hi w1 w2 ⟨_, w3 _ q1, q2, q3, by simp [Cell.setSlot, Array.toList_setIfInBounds, q4], fun v hv' => by
    rcases List.mem_or_eq_of_mem_set hv' with z | z
    · exact q5 v z
    · rw [z]; exact rfl⟩
theorem lastore (hx : p.tables.exec = Jvm.exec) (hZ : Z.Warmed39 s.vm) (O : Owns n0 h os) (i j : Nat) {vs : List Value} (hi : os[i]? = some (a, ArrC Z .long vs)) {jj : Int32} (hj : jj.toInt = (j : Int)) (hv : j < vs.length) {x : Int64} (os' : List (Addr × (Cell → Prop))) (hos : os.set i (a, ArrC Z .long (vs.set j (.long x))) = os') {pc pc' : Nat} {Ls : Array Slot} {rest : List Value} (hd : decode c.code pc = .ok (.lastore, 1)) (hp : pc + 1 = pc')
    (K : ∀ h', Owns n0 h' os' → Goes p l e R s m args below meth c n0 mc ms Fn h' k n (mkF m pc' Ls rest)) : Goes p l e R s m args below meth c n0 mc ms Fn h k n (mkF m pc Ls (.long x :: .int jj :: .ref a :: rest)) := by
  subst hp hos
  refine Goes.move (Pr := fun h' => Owns n0 h' (os.set i (a, ArrC Z .long (vs.set j (.long x))))) (fun T locs X N eT => ?_) K
  obtain ⟨q0, cell, q1, q2, q3, q4, q5⟩ := O.at hi
  have e1 : cell.slots.size = vs.length := by rw [← q4, Array.length_toList]
  obtain ⟨hin, hjn⟩ := idx_ok hj (len := cell.slots.size) (by rw [e1]; exact hv)
  obtain ⟨T', h', X', e', W, st'⟩ := stJ X hx hZ eT ⟨q1, q2, q3⟩ hin (g := mkF m pc Ls (.long x :: .int jj :: .ref a :: rest)) rfl rfl hd
  refine ⟨T', _, X', Fr.snoc X' N q0, ?_, st'⟩
  rw [e']
  rw [hjn] at W
  obtain ⟨w1, w2, w3⟩ := wr_get W
  exact O.upd hi w1 w2 ⟨_, w3 _ q1, q2, q3, by simp [Cell.setSlot, Array.toList_setIfInBounds, q4], fun v hv' => by
    rcases List.mem_or_eq_of_mem_set hv' with z | z
    · exact q5 v z
    · rw [z]; exact rfl⟩
theorem castore (hx : p.tables.exec = Jvm.exec) (hZ : Z.Warmed39 s.vm) (O : Owns n0 h os) (i j : Nat) {vs : List Value} (hi : os[i]? = some (a, ArrC Z .char vs)) {jj : Int32} (hj : jj.toInt = (j : Int)) (hv : j < vs.length) {x : Int32} (os' : List (Addr × (Cell → Prop))) (hos : os.set i (a, ArrC Z .char (vs.set j (.int (nar .char x)))) = os') {pc pc' : Nat} {Ls : Array Slot} {rest : List Value} (hd : decode c.code pc = .ok (.castore, 1)) (hp : pc + 1 = pc')
    (K : ∀ h', Owns n0 h' os' → Goes p l e R s m args below meth c n0 mc ms Fn h' k n (mkF m pc' Ls rest)) : Goes p l e R s m args below meth c n0 mc ms Fn h k n (mkF m pc Ls (.int x :: .int jj :: .ref a :: rest)) := by
  subst hp hos
  refine Goes.move (Pr := fun h' => Owns n0 h' (os.set i (a, ArrC Z .char (vs.set j (.int (nar .char x)))))) (fun T locs X N eT => ?_) K
  obtain ⟨q0, cell, q1, q2, q3, q4, q5⟩ := O.at hi
  have e1 : cell.slots.size = vs.length := by rw [← q4, Array.length_toList]
  obtain ⟨hin, hjn⟩ := idx_ok hj (len := cell.slots.size) (by rw [e1]; exact hv)
  obtain ⟨T', h', X', e', W, st'⟩ := stC X hx hZ eT ⟨q1, q2, q3⟩ hin (g := mkF m pc Ls (.int x :: .int jj :: .ref a :: rest)) rfl rfl hd
  refine ⟨T', _, X', Fr.snoc X' N q0, ?_, st'⟩
  rw [e']
  rw [hjn] at W
  obtain ⟨w1, w2, w3⟩ := wr_get W
  exact O.upd hi w1 w2 ⟨_, w3 _ q1, q2, q3, by simp [Cell.setSlot, Array.toList_setIfInBounds, q4], fun v hv' => by
    rcases List.mem_or_eq_of_mem_set hv' with z | z
    · exact q5 v z
    · rw [z]; exact fits_nar_char x⟩
theorem initobj (hx : p.tables.exec = Jvm.exec) (hZ : Z.Warmed39 s.vm) {own : String} (hown : s.vm.findClass own = some m.cls) {idx : Nat} (w1 : (Jvm.Cond.methodLink own idx Lib.objectInit).before a0 Z = true) (w2 : (Jvm.Cond.instanceMethod Lib.objectInit).before a0 Z = true) (w3 : (Jvm.Cond.code Lib.objectInit ⟨#[0xb1]⟩ 1 none).before a0 Z = true)
    {pc pc' : Nat} {Ls : Array Slot} {rest : List Value} (hml : Ls.size = c.maxLocals) {W : Nat} (hW : (rest.map fun v => v.category).sum ≤ W) (hf : 1 ≤ R.frames) (hl : W + 12 ≤ R.locals) (hd : decode c.code pc = .ok (.invokespecial idx, 3)) (hp : pc + 3 = pc') (K : Goes p l e R s m args below meth c n0 mc ms Fn h k n (mkF m pc' Ls rest)) : Goes p l e R s m args below meth c n0 mc ms Fn h k n (mkF m pc Ls (.ref a :: rest)) := by
  subst hp
  refine Goes.move (Pr := fun h' => h' = h) (k' := k) (n' := n) (g' := mkF m (pc + 3) Ls rest) (fun T locs X N eT => ?_) (fun h' q => by rw [q]; exact K)
  obtain ⟨T', X', e', st⟩ := initO X hx hZ hown w1 w2 w3 eT (g := mkF m pc Ls (.ref a :: rest)) rfl hml rfl hd hf (W := W) (by show 2 * 0 + _ ≤ _; omega) hl
  exact ⟨T', locs, X', N, e', st⟩
/-- a constructor by its contract -/
theorem callI (hx : p.tables.exec = Jvm.exec) (hZ : Z.Warmed39 s.vm) {own : String} (hown : s.vm.findClass own = some m.cls) {i : Nat} {y : MethodName} (hyn : y.name = "<init>") {bytes : ByteArray} {maxL : Nat} {rm : Room} {F : Option Value → Heap → Prop} {argsL rest : List Value}
    (w1 : (Jvm.Cond.methodLink own i y).before a0 Z = true) (w2 : (Jvm.Cond.instanceMethod y).before a0 Z = true) (w3 : (Jvm.Cond.initialized y.cls).before a0 Z = true) (w4 : (Jvm.Cond.code y bytes maxL none).before a0 Z = true) (hy : y.cls ≠ "java/lang/invoke/MethodHandle" ∧ y.cls ≠ "java/lang/invoke/VarHandle")
    {sg : ClassFile.MethodDescriptor} (hsg : parseMethodDescriptor y.desc = some sg) (hlen : argsL.length = sg.parameters.length) {pc pc' : Nat} {Ls : Array Slot} {W : Nat} (hW : (rest.map fun v => v.category).sum ≤ W) (hf : rm.frames + 1 ≤ R.frames) (hl : W + (maxL + 11) + rm.locals ≤ R.locals) (hcl : k + rm.cells ≤ R.cells) (hsl : n + rm.slots ≤ R.slots)
    {k' n' : Nat} (hk' : k + rm.cells = k') (hn' : n + rm.slots = n') (hml : Ls.size = c.maxLocals) (st : List Value) (hst : st = argsL.reverse ++ .ref a :: rest) (hd : decode c.code pc = .ok (.invokespecial i, 3)) (hp : pc + 3 = pc') (D : Does l y bytes maxL none [] rm Z (.ref a :: argsL).toArray h n0 F)
    (K : ∀ v h', F v h' → Goes p l e R s m args below meth c n0 mc ms Fn h' k' n' (mkF m pc' Ls (v.toList ++ rest))) : Goes p l e R s m args below meth c n0 mc ms Fn h k n (mkF m pc Ls st) := fun T locs X N eT => by
  subst hp hst hk' hn'
  obtain ⟨v, _, ⟨T', L', k', n'⟩, -, X', ⟨Lc, hQ, l1, y1, z1⟩, st⟩ := X.specialBack hx (y := y) hyn hown (mvT hZ w1) (mvT hZ w2) (mvT hZ w4) hy (backOf (W := W) (Q := fun v h' L => F v h' ∧ Fr n0 L) D hZ w4 w3 hf hl) (g := mkF m pc Ls (argsL.reverse ++ .ref a :: rest)) rfl hml (Steps.refl _) (a := a) (argsL := argsL) (rest := rest) (lenOf hsg hlen) rfl (by show 2 * 0 + _ ≤ _; omega) hd (fun _ _ => ⟨rfl, eT, hcl, hsl⟩)
  dsimp only [Pt.U, Pt.locs, Pt.cells, Pt.slots] at X' l1 y1 z1 st hQ
  subst l1 y1 z1
  obtain ⟨s₂, o, hs, r⟩ := K v T'.heap hQ.1 T' _ X' (N.app hQ.2) rfl
  exact ⟨s₂, o, st.trans hs, r⟩
/-- an instance method by its contract: the receiver is just of the class C -/
theorem callV (hx : p.tables.exec = Jvm.exec) (hZ : Z.Warmed39 s.vm) {own C : String} (hown : s.vm.findClass own = some m.cls) {i : Nat} {y : MethodName} {bytes : ByteArray} {maxL : Nat} {ret : Option FieldType} {rm : Room} {F : Option Value → Heap → Prop} {argsL rest : List Value} (E : Exa Z h a C)
    (w1 : (Jvm.Cond.methodLink own i y).before a0 Z = true) (w2 : (Jvm.Cond.declares y).before a0 Z = true) (w5 : (Jvm.Cond.selects C y y).before a0 Z = true) (w6 : (Jvm.Cond.instanceMethod y).before a0 Z = true) (w3 : (Jvm.Cond.initialized y.cls).before a0 Z = true) (w4 : (Jvm.Cond.code y bytes maxL ret).before a0 Z = true) (hy : y.cls ≠ "java/lang/invoke/MethodHandle" ∧ y.cls ≠ "java/lang/invoke/VarHandle")
    {sg : ClassFile.MethodDescriptor} (hsg : parseMethodDescriptor y.desc = some sg) (hlen : argsL.length = sg.parameters.length) {pc pc' : Nat} {Ls : Array Slot} {W : Nat} (hW : (rest.map fun v => v.category).sum ≤ W) (hf : rm.frames + 1 ≤ R.frames) (hl : W + (maxL + 11) + rm.locals ≤ R.locals) (hcl : k + rm.cells ≤ R.cells) (hsl : n + rm.slots ≤ R.slots)
    {k' n' : Nat} (hk' : k + rm.cells = k') (hn' : n + rm.slots = n') (hml : Ls.size = c.maxLocals) (st : List Value) (hst : st = argsL.reverse ++ .ref a :: rest) (hd : decode c.code pc = .ok (.invokevirtual i, 3)) (hp : pc + 3 = pc') (D : Does l y bytes maxL ret [] rm Z (.ref a :: argsL).toArray h n0 F)
    (K : ∀ v h', F v h' → Goes p l e R s m args below meth c n0 mc ms Fn h' k' n' (mkF m pc' Ls (v.toList ++ rest))) : Goes p l e R s m args below meth c n0 mc ms Fn h k n (mkF m pc Ls st) := fun T locs X N eT => by
  subst hp hst hk' hn'
  obtain ⟨cq, kq, qa, qb, qc⟩ := isOf hZ eT E
  obtain ⟨v, _, ⟨T', L', k', n'⟩, -, X', ⟨Lc, hQ, l1, y1, z1⟩, st⟩ := X.virtualBack hx (y := y) (z := y) hown (mvT hZ w1) (mvT hZ w2) (notFace_of_selects (args := #[]) (mvT hZ w5)) (mvT hZ w5) (mvT hZ w6) hy (backOf (W := W) (Q := fun v h' L => F v h' ∧ Fr n0 L) D hZ w4 w3 hf hl) qa qc (g := mkF m pc Ls (argsL.reverse ++ .ref a :: rest)) rfl hml (Steps.refl _) (argsL := argsL) (rest := rest) (lenOf hsg hlen) rfl (by show 2 * 0 + _ ≤ _; omega) hd (fun _ _ => ⟨rfl, eT, hcl, hsl⟩)
  dsimp only [Pt.U, Pt.locs, Pt.cells, Pt.slots] at X' l1 y1 z1 st hQ
  subst l1 y1 z1
  obtain ⟨s₂, o, hs, r⟩ := K v T'.heap hQ.1 T' _ X' (N.app hQ.2) rfl
  exact ⟨s₂, o, st.trans hs, r⟩
/-- a private method (by invokevirtual) by its contract -/
theorem callP (hx : p.tables.exec = Jvm.exec) (hZ : Z.Warmed39 s.vm) {own C : String} (hown : s.vm.findClass own = some m.cls) {i : Nat} {y : MethodName} {bytes : ByteArray} {maxL : Nat} {ret : Option FieldType} {rm : Room} {F : Option Value → Heap → Prop} {argsL rest : List Value} (E : Exa Z h a C)
    (w1 : (Jvm.Cond.methodLink own i y).before a0 Z = true) (w2 : (Jvm.Cond.instanceMethod y).before a0 Z = true) {ki : Nat} (wi : (Jvm.Cond.instantiable y.cls ki).before a0 Z = true) (w6 : (Jvm.Cond.privateMethod y).before a0 Z = true) (w3 : (Jvm.Cond.initialized y.cls).before a0 Z = true) (w4 : (Jvm.Cond.code y bytes maxL ret).before a0 Z = true) (hy : y.cls ≠ "java/lang/invoke/MethodHandle" ∧ y.cls ≠ "java/lang/invoke/VarHandle")
    {sg : ClassFile.MethodDescriptor} (hsg : parseMethodDescriptor y.desc = some sg) (hlen : argsL.length = sg.parameters.length) {pc pc' : Nat} {Ls : Array Slot} {W : Nat} (hW : (rest.map fun v => v.category).sum ≤ W) (hf : rm.frames + 1 ≤ R.frames) (hl : W + (maxL + 11) + rm.locals ≤ R.locals) (hcl : k + rm.cells ≤ R.cells) (hsl : n + rm.slots ≤ R.slots)
    {k' n' : Nat} (hk' : k + rm.cells = k') (hn' : n + rm.slots = n') (hml : Ls.size = c.maxLocals) (st : List Value) (hst : st = argsL.reverse ++ .ref a :: rest) (hd : decode c.code pc = .ok (.invokevirtual i, 3)) (hp : pc + 3 = pc') (D : Does l y bytes maxL ret [] rm Z (.ref a :: argsL).toArray h n0 F)
    (K : ∀ v h', F v h' → Goes p l e R s m args below meth c n0 mc ms Fn h' k' n' (mkF m pc' Ls (v.toList ++ rest))) : Goes p l e R s m args below meth c n0 mc ms Fn h k n (mkF m pc Ls st) := fun T locs X N eT => by
  subst hp hst hk' hn'
  obtain ⟨cq, qa, qb⟩ := E.cell
  have hpriv : s.PrivateAt y := Cond.privateMethod_at (mvP hZ w6 (args := #[]))
  obtain ⟨_, _, i1, i2, -, i3, -, -⟩ := Cond.instantiable_spec (mvT hZ wi : (Jvm.Cond.instantiable y.cls ki).before args s = true)
  have hsel : (Jvm.Cond.selects y.cls y y).before args s = true := selects_self_of_private i1 i2 (Bool.or_eq_false_iff.mp i3).1 hpriv (mvT hZ w2) hy
  obtain ⟨v, _, ⟨T', L', k', n'⟩, -, X', ⟨Lc, hQ, l1, y1, z1⟩, st⟩ := X.privateBack hx (y := y) hown (mvT hZ w1) (mvT hZ w2) hsel hpriv (mvT hZ w4) hy (backOf (W := W) (Q := fun v h' L => F v h' ∧ Fr n0 L) D hZ w4 w3 hf hl) (g := mkF m pc Ls (argsL.reverse ++ .ref a :: rest)) rfl hml (Steps.refl _) (a := a) (by rw [eT]; exact qa) qb (argsL := argsL) (rest := rest) (lenOf hsg hlen) rfl (by show 2 * 0 + _ ≤ _; omega) hd (fun _ _ => ⟨rfl, eT, hcl, hsl⟩)
  dsimp only [Pt.U, Pt.locs, Pt.cells, Pt.slots] at X' l1 y1 z1 st hQ
  subst l1 y1 z1
  obtain ⟨s₂, o, hs, r⟩ := K v T'.heap hQ.1 T' _ X' (N.app hQ.2) rfl
  exact ⟨s₂, o, st.trans hs, r⟩
end EngH
end Own
def fMax (x y : Int32) : Int32 := if x < y then y else x
theorem d1_0 : decode jdk_29_method_65_code 0 = .ok (.iload_n 0, 1) := by decide +kernel
theorem d1_1 : decode jdk_29_method_65_code 1 = .ok (.iload_n 1, 1) := by decide +kernel
theorem d1_2 : decode jdk_29_method_65_code 2 = .ok (.if_icmp .lt 7, 3) := by decide +kernel
theorem d1_5 : decode jdk_29_method_65_code 5 = .ok (.iload_n 0, 1) := by decide +kernel
theorem d1_6 : decode jdk_29_method_65_code 6 = .ok (.goto 4, 3) := by decide +kernel
theorem d1_9 : decode jdk_29_method_65_code 9 = .ok (.iload_n 1, 1) := by decide +kernel
theorem d1_10 : decode jdk_29_method_65_code 10 = .ok (.ireturn, 1) := by decide +kernel
theorem pn0 : plainFor (⟨"java/lang/Math", "max", "(II)I"⟩ : MethodName) = true := Jvm.Free.JP.mathPlain rfl (by decide +kernel)
theorem ef1 (m : MethodId) (p0 : Int32) (p1 : Int32) : entryFrame m #[(.int p0), (.int p1)] 2 = mkF m 0 #[.val (.int p0), .val (.int p1)] [] := by first | (simp [entryFrame, mkF, argsToLocals, Value.category]; done) | rfl
set_option maxRecDepth 65536 in
set_option maxHeartbeats 40000000 in
theorem rm1 (l : Launch) (Z : State) (a0 : Array Value) (hw : ∀ d ∈ tables_1, d.before a0 Z = true) (p0 : Int32) (p1 : Int32) (h0 : Heap) (n0 : Nat)   : Own.Does l (⟨"java/lang/Math", "max", "(II)I"⟩ : MethodName) jdk_29_method_65_code 2 (some .int) [] ({ frames := 0, cells := 0, slots := 0, locals := 0 } : Room) Z #[(.int p0), (.int p1)] h0 n0 (fun v h => v = some (.int (fMax p0 p1)) ∧ h = h0) := by
  refine Own.doesOf pn0 ?_
  intro p e s m below meth c hx hby hml hret hlk hown hnm hZ
  refine Own.Goes.cast (ef1 m p0 p1) ?_
  refine Own.iloadN hx p0 (hb hby d1_0) rfl rfl ?_
  refine Own.iloadN hx p1 (hb hby d1_1) rfl rfl ?_
  obtain ⟨v2, h_v2⟩ : ∃ z : Int32, z = (if p0 < p1 then p1 else p0) := ⟨_, rfl⟩
  refine Own.Goes.join (mkF m 10 #[.val (.int p0), .val (.int p1)] [(.int v2)]) (fun kJ3 => ?_) ?_
  · refine Own.icmpF hx (Own.q_lt p0 p1) (hb hby d1_2) (pcN := 5) rfl (by decide) (pcT := 9) rfl (fun hc1 => ?_) (fun hc1 => ?_)
    · refine Own.iloadN hx p1 (hb hby d1_9) rfl rfl ?_
      try simp only [if_pos hc1] at h_v2
      subst h_v2
      exact kJ3
    · refine Own.iloadN hx p0 (hb hby d1_5) rfl rfl ?_
      refine Own.goto hx (hb hby d1_6) (by decide) (pc' := 10) rfl ?_
      try simp only [if_neg hc1] at h_v2
      subst h_v2
      exact kJ3
  exact Own.retI hx hret hlk (hb hby d1_10) (by decide) (by decide) ⟨by subst h_v2; simp only [fMax], rfl⟩

theorem d3_0 : decode jdk_30_method_1_code 0 = .ok (.aload_n 0, 1) := by decide +kernel
theorem d3_1 : decode jdk_30_method_1_code 1 = .ok (.invokespecial 1, 3) := by decide +kernel
theorem d3_4 : decode jdk_30_method_1_code 4 = .ok (.return_, 1) := by decide +kernel
theorem pn1 : plainFor (⟨"java/lang/Record", "<init>", "()V"⟩ : MethodName) = true := by first | exact plainFor_of_name (by simp [plainName, overriddenIn]; done) | decide +kernel
theorem ef3 (m : MethodId) (o0 : Addr) : entryFrame m #[(.ref o0)] 1 = mkF m 0 #[.val (.ref o0)] [] := by first | (simp [entryFrame, mkF, argsToLocals, Value.category]; done) | rfl
set_option maxRecDepth 65536 in
set_option maxHeartbeats 40000000 in
theorem rm3 (l : Launch) (Z : State) (a0 : Array Value) (hw : ∀ d ∈ tables_1, d.before a0 Z = true) (o0 : Addr) (h0 : Heap) (n0 : Nat)   : Own.Does l (⟨"java/lang/Record", "<init>", "()V"⟩ : MethodName) jdk_30_method_1_code 1 none [] ({ frames := 1, cells := 0, slots := 0, locals := 12 } : Room) Z #[(.ref o0)] h0 n0 (fun v h => v = none ∧ h = h0) := by
  refine Own.doesOf pn1 ?_
  intro p e s m below meth c hx hby hml hret hlk hown hnm hZ
  refine Own.Goes.cast (ef3 m o0) ?_
  refine Own.aloadN hx (.ref o0) (hb hby d3_0) rfl rfl rfl ?_
  refine Own.initobj hx hZ hown (hw _ (List.mem_of_getElem? (i := 18) rfl)) (hw _ (List.mem_of_getElem? (i := 19) rfl)) (hw _ (List.mem_of_getElem? (i := 20) rfl)) (by rw [hml]; rfl) (W := 0) (Nat.le_of_eq rfl) (by decide) (by decide) (hb hby d3_1) rfl ?_
  exact Own.retV hx hret hlk (hb hby d3_4) (by decide) (by decide) ⟨rfl, rfl⟩

theorem d5_0 : decode prog_38_method_2_code 0 = .ok (.iload_n 2, 1) := by decide +kernel
theorem d5_1 : decode prog_38_method_2_code 1 = .ok (.iconst 1, 1) := by decide +kernel
theorem d5_2 : decode prog_38_method_2_code 2 = .ok (.if_icmp .ge 17, 3) := by decide +kernel
theorem d5_19 : decode prog_38_method_2_code 19 = .ok (.lload_n 0, 1) := by decide +kernel
theorem d5_20 : decode prog_38_method_2_code 20 = .ok (.iload_n 2, 1) := by decide +kernel
theorem d5_21 : decode prog_38_method_2_code 21 = .ok (.i2l, 1) := by decide +kernel
theorem d5_22 : decode prog_38_method_2_code 22 = .ok (.lcmp, 1) := by decide +kernel
theorem d5_23 : decode prog_38_method_2_code 23 = .ok (.ifCond .ge 18, 3) := by decide +kernel
theorem d5_41 : decode prog_38_method_2_code 41 = .ok (.return_, 1) := by decide +kernel
theorem pn2 : plainFor (⟨"com/example/keep1/keep1/model/CellPositions", "check", "(JI)V"⟩ : MethodName) = true := by first | exact plainFor_of_name (by simp [plainName, overriddenIn]; done) | decide +kernel
theorem ef5 (m : MethodId) (q0 : Int64) (p1 : Int32) : entryFrame m #[(.long q0), (.int p1)] 3 = mkF m 0 #[.val (.long q0), .second, .val (.int p1)] [] := by first | (simp [entryFrame, mkF, argsToLocals, Value.category]; done) | rfl
set_option maxRecDepth 65536 in
set_option maxHeartbeats 40000000 in
theorem rm5 (l : Launch) (Z : State) (a0 : Array Value) (hw : ∀ d ∈ tables_1, d.before a0 Z = true) (q0 : Int64) (p1 : Int32) (h0 : Heap) (n0 : Nat)  (hD : ¬ p1 < (1 : Int32)) (hE : ¬ q0 < p1.toInt64) : Own.Does l (⟨"com/example/keep1/keep1/model/CellPositions", "check", "(JI)V"⟩ : MethodName) prog_38_method_2_code 3 none [] ({ frames := 0, cells := 0, slots := 0, locals := 0 } : Room) Z #[(.long q0), (.int p1)] h0 n0 (fun v h => v = none ∧ h = h0) := by
  refine Own.doesOf pn2 ?_
  intro p e s m below meth c hx hby hml hret hlk hown hnm hZ
  refine Own.Goes.cast (ef5 m q0 p1) ?_
  refine Own.iloadN hx p1 (hb hby d5_0) rfl rfl ?_
  refine Own.iconst hx (1 : Int32) (hb hby d5_1) rfl (by decide) ?_
  have hc1 : ¬ (p1 < (1 : Int32)) := hD
  refine Own.icmpFn hx (Own.q_ge p1 (1 : Int32)) (hb hby d5_2) (pcN := 5) rfl (by decide) (pcT := 19) rfl (fun _ => ?_) (fun q => absurd q hc1)
  refine Own.lloadN hx q0 (hb hby d5_19) rfl rfl ?_
  refine Own.iloadN hx p1 (hb hby d5_20) rfl rfl ?_
  refine Own.i2l hx (hb hby d5_21) rfl ?_
  refine Own.lcmp hx (hb hby d5_22) rfl ?_
  have hc3 : ¬ (q0 < p1.toInt64) := hE
  refine Own.ifFn hx (Own.w_ge q0 p1.toInt64) (hb hby d5_23) (pcN := 26) rfl (by decide) (pcT := 41) rfl (fun _ => ?_) (fun q => absurd q hc3)
  exact Own.retV hx hret hlk (hb hby d5_41) (by decide) (by decide) ⟨rfl, rfl⟩

theorem d7_0 : decode prog_38_method_3_code 0 = .ok (.lload_n 0, 1) := by decide +kernel
theorem d7_1 : decode prog_38_method_3_code 1 = .ok (.iload_n 2, 1) := by decide +kernel
theorem d7_2 : decode prog_38_method_3_code 2 = .ok (.i2l, 1) := by decide +kernel
theorem d7_3 : decode prog_38_method_3_code 3 = .ok (.ldiv, 1) := by decide +kernel
theorem d7_4 : decode prog_38_method_3_code 4 = .ok (.lreturn, 1) := by decide +kernel
theorem pn3 : plainFor (⟨"com/example/keep1/keep1/model/CellPositions", "partCells", "(JI)J"⟩ : MethodName) = true := by first | exact plainFor_of_name (by simp [plainName, overriddenIn]; done) | decide +kernel
theorem ef7 (m : MethodId) (q0 : Int64) (p1 : Int32) : entryFrame m #[(.long q0), (.int p1)] 3 = mkF m 0 #[.val (.long q0), .second, .val (.int p1)] [] := by first | (simp [entryFrame, mkF, argsToLocals, Value.category]; done) | rfl
set_option maxRecDepth 65536 in
set_option maxHeartbeats 40000000 in
theorem rm7 (l : Launch) (Z : State) (a0 : Array Value) (hw : ∀ d ∈ tables_1, d.before a0 Z = true) (q0 : Int64) (p1 : Int32) (h0 : Heap) (n0 : Nat)  (hnz : p1.toInt64 ≠ 0) : Own.Does l (⟨"com/example/keep1/keep1/model/CellPositions", "partCells", "(JI)J"⟩ : MethodName) prog_38_method_3_code 3 (some .long) [] ({ frames := 0, cells := 0, slots := 0, locals := 0 } : Room) Z #[(.long q0), (.int p1)] h0 n0 (fun v h => v = some (.long (q0 / p1.toInt64)) ∧ h = h0) := by
  refine Own.doesOf pn3 ?_
  intro p e s m below meth c hx hby hml hret hlk hown hnm hZ
  refine Own.Goes.cast (ef7 m q0 p1) ?_
  refine Own.lloadN hx q0 (hb hby d7_0) rfl rfl ?_
  refine Own.iloadN hx p1 (hb hby d7_1) rfl rfl ?_
  refine Own.i2l hx (hb hby d7_2) rfl ?_
  refine Own.ldiv hx (hb hby d7_3) rfl hnz ?_
  exact Own.retL hx hret hlk (hb hby d7_4) (by decide) (by decide) ⟨rfl, rfl⟩

theorem pd0 : parseMethodDescriptor "()V" = some ⟨[], none⟩ := by decide +kernel
theorem pd1 : parseMethodDescriptor "(JI)V" = some ⟨[.long, .int], none⟩ := by decide +kernel
theorem d2_0 : decode prog_43_method_1_code 0 = .ok (.aload_n 0, 1) := by decide +kernel
theorem d2_1 : decode prog_43_method_1_code 1 = .ok (.invokespecial 1, 3) := by decide +kernel
theorem d2_4 : decode prog_43_method_1_code 4 = .ok (.iload_n 3, 1) := by decide +kernel
theorem d2_5 : decode prog_43_method_1_code 5 = .ok (.iconst 1, 1) := by decide +kernel
theorem d2_6 : decode prog_43_method_1_code 6 = .ok (.if_icmp .ge 17, 3) := by decide +kernel
theorem d2_23 : decode prog_43_method_1_code 23 = .ok (.lload_n 1, 1) := by decide +kernel
theorem d2_24 : decode prog_43_method_1_code 24 = .ok (.iload_n 3, 1) := by decide +kernel
theorem d2_25 : decode prog_43_method_1_code 25 = .ok (.i2l, 1) := by decide +kernel
theorem d2_26 : decode prog_43_method_1_code 26 = .ok (.lcmp, 1) := by decide +kernel
theorem d2_27 : decode prog_43_method_1_code 27 = .ok (.ifCond .ge 18, 3) := by decide +kernel
theorem d2_45 : decode prog_43_method_1_code 45 = .ok (.lload_n 1, 1) := by decide +kernel
theorem d2_46 : decode prog_43_method_1_code 46 = .ok (.iload_n 3, 1) := by decide +kernel
theorem d2_47 : decode prog_43_method_1_code 47 = .ok (.i2l, 1) := by decide +kernel
theorem d2_48 : decode prog_43_method_1_code 48 = .ok (.lrem, 1) := by decide +kernel
theorem d2_49 : decode prog_43_method_1_code 49 = .ok (.lconst 0, 1) := by decide +kernel
theorem d2_50 : decode prog_43_method_1_code 50 = .ok (.lcmp, 1) := by decide +kernel
theorem d2_51 : decode prog_43_method_1_code 51 = .ok (.ifCond .eq 18, 3) := by decide +kernel
theorem d2_69 : decode prog_43_method_1_code 69 = .ok (.lload 4, 2) := by decide +kernel
theorem d2_71 : decode prog_43_method_1_code 71 = .ok (.iload 6, 2) := by decide +kernel
theorem d2_73 : decode prog_43_method_1_code 73 = .ok (.invokestatic 20, 3) := by decide +kernel
theorem d2_76 : decode prog_43_method_1_code 76 = .ok (.aload_n 0, 1) := by decide +kernel
theorem d2_77 : decode prog_43_method_1_code 77 = .ok (.lload_n 1, 1) := by decide +kernel
theorem d2_78 : decode prog_43_method_1_code 78 = .ok (.putfield 26, 3) := by decide +kernel
theorem d2_81 : decode prog_43_method_1_code 81 = .ok (.aload_n 0, 1) := by decide +kernel
theorem d2_82 : decode prog_43_method_1_code 82 = .ok (.iload_n 3, 1) := by decide +kernel
theorem d2_83 : decode prog_43_method_1_code 83 = .ok (.putfield 32, 3) := by decide +kernel
theorem d2_86 : decode prog_43_method_1_code 86 = .ok (.aload_n 0, 1) := by decide +kernel
theorem d2_87 : decode prog_43_method_1_code 87 = .ok (.lload 4, 2) := by decide +kernel
theorem d2_89 : decode prog_43_method_1_code 89 = .ok (.putfield 36, 3) := by decide +kernel
theorem d2_92 : decode prog_43_method_1_code 92 = .ok (.aload_n 0, 1) := by decide +kernel
theorem d2_93 : decode prog_43_method_1_code 93 = .ok (.iload 6, 2) := by decide +kernel
theorem d2_95 : decode prog_43_method_1_code 95 = .ok (.putfield 39, 3) := by decide +kernel
theorem d2_98 : decode prog_43_method_1_code 98 = .ok (.return_, 1) := by decide +kernel
theorem pn4 : plainFor (⟨"com/example/keep1/keep1/model/JumpingWindowParameters", "<init>", "(JIJI)V"⟩ : MethodName) = true := by first | exact plainFor_of_name (by simp [plainName, overriddenIn]; done) | decide +kernel
theorem ef2 (m : MethodId) (o0 : Addr) (q1 : Int64) (p2 : Int32) (q3 : Int64) (p4 : Int32) : entryFrame m #[(.ref o0), (.long q1), (.int p2), (.long q3), (.int p4)] 7 = mkF m 0 #[.val (.ref o0), .val (.long q1), .second, .val (.int p2), .val (.long q3), .second, .val (.int p4)] [] := by first | (simp [entryFrame, mkF, argsToLocals, Value.category]; done) | rfl
set_option maxRecDepth 65536 in
set_option maxHeartbeats 40000000 in
theorem rm2 (l : Launch) (Z : State) (a0 : Array Value) (hw : ∀ d ∈ tables_1, d.before a0 Z = true) (o0 : Addr) (q1 : Int64) (p2 : Int32) (q3 : Int64) (p4 : Int32) (h0 : Heap) (n0 : Nat)  (fr : List (Addr × (Cell → Prop))) (O0 : Own.Owns n0 h0 ((o0, Own.ObjC Z "com/example/keep1/keep1/model/JumpingWindowParameters" [(("com/example/keep1/keep1/model/JumpingWindowParameters", "window", "J"), (.long (0 : Int64))), (("com/example/keep1/keep1/model/JumpingWindowParameters", "subWindows", "I"), (.int (0 : Int32))), (("com/example/keep1/keep1/model/JumpingWindowParameters", "cells", "J"), (.long (0 : Int64))), (("com/example/keep1/keep1/model/JumpingWindowParameters", "hashes", "I"), (.int (0 : Int32)))]) :: fr)) (hA : ¬ p2 < (1 : Int32)) (hB : ¬ q1 < p2.toInt64) (hnz : p2.toInt64 ≠ 0) (hC : q1 % p2.toInt64 = (0 : Int64)) (hD : ¬ p4 < (1 : Int32)) (hE : ¬ q3 < p4.toInt64) : Own.Does l (⟨"com/example/keep1/keep1/model/JumpingWindowParameters", "<init>", "(JIJI)V"⟩ : MethodName) prog_43_method_1_code 7 none [] ({ frames := 2, cells := 0, slots := 0, locals := 24 } : Room) Z #[(.ref o0), (.long q1), (.int p2), (.long q3), (.int p4)] h0 n0 (fun v h => v = none ∧ Own.Owns n0 h ((o0, Own.ObjC Z "com/example/keep1/keep1/model/JumpingWindowParameters" [(("com/example/keep1/keep1/model/JumpingWindowParameters", "window", "J"), (.long q1)), (("com/example/keep1/keep1/model/JumpingWindowParameters", "subWindows", "I"), (.int p2)), (("com/example/keep1/keep1/model/JumpingWindowParameters", "cells", "J"), (.long q3)), (("com/example/keep1/keep1/model/JumpingWindowParameters", "hashes", "I"), (.int p4))]) :: fr)) := by
  refine Own.doesOf pn4 ?_
  intro p e s m below meth c hx hby hml hret hlk hown hnm hZ
  refine Own.Goes.cast (ef2 m o0 q1 p2 q3 p4) ?_
  refine Own.aloadN hx (.ref o0) (hb hby d2_0) rfl rfl rfl ?_
  refine Own.callI hx hZ hown rfl (hw _ (List.mem_of_getElem? (i := 13) rfl)) (hw _ (List.mem_of_getElem? (i := 14) rfl)) (hw _ (List.mem_of_getElem? (i := 16) rfl)) (hw _ (List.mem_of_getElem? (i := 17) rfl)) (by decide) pd0 (argsL := []) (rest := []) rfl (W := 0) (Nat.le_of_eq rfl) (rm := ({ frames := 1, cells := 0, slots := 0, locals := 12 } : Room)) (by decide) (by decide) (by decide) (by decide) (k' := 0) (n' := 0) rfl rfl (by rw [hml]; rfl) [(.ref o0)] rfl (hb hby d2_1) (pc' := 4) rfl (rm3 l Z a0 hw o0 h0 n0) ?_
  rintro _ h' ⟨rfl, eh⟩
  rw [eh]; clear eh h'
  show Own.Goes _ _ _ _ _ _ _ _ _ _ _ _ _ _ _ _ _ (mkF m 4 #[.val (.ref o0), .val (.long q1), .second, .val (.int p2), .val (.long q3), .second, .val (.int p4)] [])
  refine Own.iloadN hx p2 (hb hby d2_4) rfl rfl ?_
  refine Own.iconst hx (1 : Int32) (hb hby d2_5) rfl (by decide) ?_
  have hc1 : ¬ (p2 < (1 : Int32)) := hA
  refine Own.icmpFn hx (Own.q_ge p2 (1 : Int32)) (hb hby d2_6) (pcN := 9) rfl (by decide) (pcT := 23) rfl (fun _ => ?_) (fun q => absurd q hc1)
  refine Own.lloadN hx q1 (hb hby d2_23) rfl rfl ?_
  refine Own.iloadN hx p2 (hb hby d2_24) rfl rfl ?_
  refine Own.i2l hx (hb hby d2_25) rfl ?_
  refine Own.lcmp hx (hb hby d2_26) rfl ?_
  have hc3 : ¬ (q1 < p2.toInt64) := hB
  refine Own.ifFn hx (Own.w_ge q1 p2.toInt64) (hb hby d2_27) (pcN := 30) rfl (by decide) (pcT := 45) rfl (fun _ => ?_) (fun q => absurd q hc3)
  refine Own.lloadN hx q1 (hb hby d2_45) rfl rfl ?_
  refine Own.iloadN hx p2 (hb hby d2_46) rfl rfl ?_
  refine Own.i2l hx (hb hby d2_47) rfl ?_
  refine Own.lrem hx (hb hby d2_48) rfl hnz ?_
  refine Own.lconst hx (0 : Int64) (hb hby d2_49) rfl (by decide) ?_
  refine Own.lcmp hx (hb hby d2_50) rfl ?_
  have hc5 : (q1 % p2.toInt64) = (0 : Int64) := hC
  refine Own.ifF hx (Own.w_eq (q1 % p2.toInt64) (0 : Int64)) (hb hby d2_51) (pcN := 54) rfl (by decide) (pcT := 69) rfl (fun _ => ?_) (fun q => absurd hc5 q)
  refine Own.lload hx q3 (hb hby d2_69) rfl rfl ?_
  refine Own.iload hx p4 (hb hby d2_71) rfl rfl ?_
  refine Own.callS hx hZ hown (hw _ (List.mem_of_getElem? (i := 21) rfl)) (hw _ (List.mem_of_getElem? (i := 22) rfl)) (hw _ (List.mem_of_getElem? (i := 23) rfl)) (hw _ (List.mem_of_getElem? (i := 24) rfl)) (by decide) pd1 (argsL := [(.long q3), (.int p4)]) (rest := []) rfl (W := 0) (Nat.le_of_eq rfl) (rm := ({ frames := 0, cells := 0, slots := 0, locals := 0 } : Room)) (by decide) (by decide) (by decide) (by decide) (k' := 0) (n' := 0) rfl rfl (by rw [hml]; rfl) [(.int p4), (.long q3)] rfl (hb hby d2_73) (pc' := 76) rfl (rm5 l Z a0 hw q3 p4 h0 n0 hD hE) ?_
  rintro _ h' ⟨rfl, eh⟩
  rw [eh]; clear eh h'
  show Own.Goes _ _ _ _ _ _ _ _ _ _ _ _ _ _ _ _ _ (mkF m 76 #[.val (.ref o0), .val (.long q1), .second, .val (.int p2), .val (.long q3), .second, .val (.int p4)] [])
  refine Own.aloadN hx (.ref o0) (hb hby d2_76) rfl rfl rfl ?_
  refine Own.lloadN hx q1 (hb hby d2_77) rfl rfl ?_
  refine Own.putfield hx hZ hown O0 0 0 rfl rfl (hw _ (List.mem_of_getElem? (i := 25) rfl)) (Or.inr ⟨(hw _ (List.mem_of_getElem? (i := 26) rfl)), rfl, hnm⟩) (hw _ (List.mem_of_getElem? (i := 8) rfl)) (ty := .long) (by decide) rfl rfl ((o0, Own.ObjC Z "com/example/keep1/keep1/model/JumpingWindowParameters" [(("com/example/keep1/keep1/model/JumpingWindowParameters", "window", "J"), (.long q1)), (("com/example/keep1/keep1/model/JumpingWindowParameters", "subWindows", "I"), (.int (0 : Int32))), (("com/example/keep1/keep1/model/JumpingWindowParameters", "cells", "J"), (.long (0 : Int64))), (("com/example/keep1/keep1/model/JumpingWindowParameters", "hashes", "I"), (.int (0 : Int32)))]) :: fr) rfl (hb hby d2_78) rfl ?_
  intro h7 O8
  refine Own.aloadN hx (.ref o0) (hb hby d2_81) rfl rfl rfl ?_
  refine Own.iloadN hx p2 (hb hby d2_82) rfl rfl ?_
  refine Own.putfield hx hZ hown O8 0 1 rfl rfl (hw _ (List.mem_of_getElem? (i := 27) rfl)) (Or.inr ⟨(hw _ (List.mem_of_getElem? (i := 28) rfl)), rfl, hnm⟩) (hw _ (List.mem_of_getElem? (i := 8) rfl)) (ty := .int) (by decide) rfl rfl ((o0, Own.ObjC Z "com/example/keep1/keep1/model/JumpingWindowParameters" [(("com/example/keep1/keep1/model/JumpingWindowParameters", "window", "J"), (.long q1)), (("com/example/keep1/keep1/model/JumpingWindowParameters", "subWindows", "I"), (.int p2)), (("com/example/keep1/keep1/model/JumpingWindowParameters", "cells", "J"), (.long (0 : Int64))), (("com/example/keep1/keep1/model/JumpingWindowParameters", "hashes", "I"), (.int (0 : Int32)))]) :: fr) rfl (hb hby d2_83) rfl ?_
  intro h9 O10
  refine Own.aloadN hx (.ref o0) (hb hby d2_86) rfl rfl rfl ?_
  refine Own.lload hx q3 (hb hby d2_87) rfl rfl ?_
  refine Own.putfield hx hZ hown O10 0 2 rfl rfl (hw _ (List.mem_of_getElem? (i := 29) rfl)) (Or.inr ⟨(hw _ (List.mem_of_getElem? (i := 30) rfl)), rfl, hnm⟩) (hw _ (List.mem_of_getElem? (i := 8) rfl)) (ty := .long) (by decide) rfl rfl ((o0, Own.ObjC Z "com/example/keep1/keep1/model/JumpingWindowParameters" [(("com/example/keep1/keep1/model/JumpingWindowParameters", "window", "J"), (.long q1)), (("com/example/keep1/keep1/model/JumpingWindowParameters", "subWindows", "I"), (.int p2)), (("com/example/keep1/keep1/model/JumpingWindowParameters", "cells", "J"), (.long q3)), (("com/example/keep1/keep1/model/JumpingWindowParameters", "hashes", "I"), (.int (0 : Int32)))]) :: fr) rfl (hb hby d2_89) rfl ?_
  intro h11 O12
  refine Own.aloadN hx (.ref o0) (hb hby d2_92) rfl rfl rfl ?_
  refine Own.iload hx p4 (hb hby d2_93) rfl rfl ?_
  refine Own.putfield hx hZ hown O12 0 3 rfl rfl (hw _ (List.mem_of_getElem? (i := 31) rfl)) (Or.inr ⟨(hw _ (List.mem_of_getElem? (i := 32) rfl)), rfl, hnm⟩) (hw _ (List.mem_of_getElem? (i := 8) rfl)) (ty := .int) (by decide) rfl rfl ((o0, Own.ObjC Z "com/example/keep1/keep1/model/JumpingWindowParameters" [(("com/example/keep1/keep1/model/JumpingWindowParameters", "window", "J"), (.long q1)), (("com/example/keep1/keep1/model/JumpingWindowParameters", "subWindows", "I"), (.int p2)), (("com/example/keep1/keep1/model/JumpingWindowParameters", "cells", "J"), (.long q3)), (("com/example/keep1/keep1/model/JumpingWindowParameters", "hashes", "I"), (.int p4))]) :: fr) rfl (hb hby d2_95) rfl ?_
  intro h13 O14
  exact Own.retV hx hret hlk (hb hby d2_98) (by decide) (by decide) ⟨rfl, O14⟩

theorem pd2 : parseMethodDescriptor "(JI)J" = some ⟨[.long, .int], some .long⟩ := by decide +kernel
theorem d6_0 : decode prog_43_method_3_code 0 = .ok (.aload_n 0, 1) := by decide +kernel
theorem d6_1 : decode prog_43_method_3_code 1 = .ok (.getfield 36, 3) := by decide +kernel
theorem d6_4 : decode prog_43_method_3_code 4 = .ok (.aload_n 0, 1) := by decide +kernel
theorem d6_5 : decode prog_43_method_3_code 5 = .ok (.getfield 39, 3) := by decide +kernel
theorem d6_8 : decode prog_43_method_3_code 8 = .ok (.invokestatic 42, 3) := by decide +kernel
theorem d6_11 : decode prog_43_method_3_code 11 = .ok (.lreturn, 1) := by decide +kernel
theorem pn5 : plainFor (⟨"com/example/keep1/keep1/model/JumpingWindowParameters", "partCells", "()J"⟩ : MethodName) = true := by first | exact plainFor_of_name (by simp [plainName, overriddenIn]; done) | decide +kernel
theorem ef6 (m : MethodId) (o0 : Addr) : entryFrame m #[(.ref o0)] 1 = mkF m 0 #[.val (.ref o0)] [] := by first | (simp [entryFrame, mkF, argsToLocals, Value.category]; done) | rfl
set_option maxRecDepth 65536 in
set_option maxHeartbeats 40000000 in
theorem rm6 (l : Launch) (Z : State) (a0 : Array Value) (hw : ∀ d ∈ tables_1, d.before a0 Z = true) (o0 : Addr) (h0 : Heap) (n0 : Nat) (fa : Int64) (fb : Int32) (fc : Int64) (fd : Int32) (fr : List (Addr × (Cell → Prop))) (O0 : Own.Owns n0 h0 ((o0, Own.ObjC Z "com/example/keep1/keep1/model/JumpingWindowParameters" [(("com/example/keep1/keep1/model/JumpingWindowParameters", "window", "J"), (.long fa)), (("com/example/keep1/keep1/model/JumpingWindowParameters", "subWindows", "I"), (.int fb)), (("com/example/keep1/keep1/model/JumpingWindowParameters", "cells", "J"), (.long fc)), (("com/example/keep1/keep1/model/JumpingWindowParameters", "hashes", "I"), (.int fd))]) :: fr)) (hnz : fd.toInt64 ≠ 0) : Own.Does l (⟨"com/example/keep1/keep1/model/JumpingWindowParameters", "partCells", "()J"⟩ : MethodName) prog_43_method_3_code 1 (some .long) [] ({ frames := 1, cells := 0, slots := 0, locals := 16 } : Room) Z #[(.ref o0)] h0 n0 (fun v h => v = some (.long (fc / fd.toInt64)) ∧ Own.Owns n0 h ((o0, Own.ObjC Z "com/example/keep1/keep1/model/JumpingWindowParameters" [(("com/example/keep1/keep1/model/JumpingWindowParameters", "window", "J"), (.long fa)), (("com/example/keep1/keep1/model/JumpingWindowParameters", "subWindows", "I"), (.int fb)), (("com/example/keep1/keep1/model/JumpingWindowParameters", "cells", "J"), (.long fc)), (("com/example/keep1/keep1/model/JumpingWindowParameters", "hashes", "I"), (.int fd))]) :: fr)) := by
  refine Own.doesOf pn5 ?_
  intro p e s m below meth c hx hby hml hret hlk hown hnm hZ
  refine Own.Goes.cast (ef6 m o0) ?_
  refine Own.aloadN hx (.ref o0) (hb hby d6_0) rfl rfl rfl ?_
  refine Own.getfield hx hZ hown O0 0 2 rfl rfl (hw _ (List.mem_of_getElem? (i := 29) rfl)) (hb hby d6_1) rfl ?_
  refine Own.aloadN hx (.ref o0) (hb hby d6_4) rfl rfl rfl ?_
  refine Own.getfield hx hZ hown O0 0 3 rfl rfl (hw _ (List.mem_of_getElem? (i := 31) rfl)) (hb hby d6_5) rfl ?_
  refine Own.callS hx hZ hown (hw _ (List.mem_of_getElem? (i := 38) rfl)) (hw _ (List.mem_of_getElem? (i := 39) rfl)) (hw _ (List.mem_of_getElem? (i := 23) rfl)) (hw _ (List.mem_of_getElem? (i := 40) rfl)) (by decide) pd2 (argsL := [(.long fc), (.int fd)]) (rest := []) rfl (W := 0) (Nat.le_of_eq rfl) (rm := ({ frames := 0, cells := 0, slots := 0, locals := 0 } : Room)) (by decide) (by decide) (by decide) (by decide) (k' := 0) (n' := 0) rfl rfl (by rw [hml]; rfl) [(.int fd), (.long fc)] rfl (hb hby d6_8) (pc' := 11) rfl (rm7 l Z a0 hw fc fd h0 n0 hnz) ?_
  rintro _ h' ⟨rfl, eh⟩
  rw [eh]; clear eh h'
  show Own.Goes _ _ _ _ _ _ _ _ _ _ _ _ _ _ _ _ _ (mkF m 11 #[.val (.ref o0)] [(.long (fc / fd.toInt64))])
  exact Own.retL hx hret hlk (hb hby d6_11) (by decide) (by decide) ⟨rfl, O0⟩

theorem own_max {x y : Int32} (h : x = fMax 1 y) : 1 ≤ x.toInt := by
  have h1 : (1 : Int32).toInt = 1 := by decide
  rw [h]; unfold fMax; split
  · next q => have := Int32.lt_iff_toInt_lt.mp q; omega
  · omega
theorem own_knz {x y : Int32} (h : x = fMax 1 y) : x.toInt64 ≠ 0 := fun q => by
  have h1 := own_max h; have h2 := congrArg Int64.toInt q; rw [c_i2l, show (0 : Int64).toInt = 0 from by decide] at h2; omega
theorem own_cx {kx p3 : Int32} {cz cx q2 : Int64} (h_kx : kx = fMax (1 : Int32) (p3 &&& (2147483647 : Int32))) (h_cz : cz = (q2 &&& (9223372036854775807 : Int64))) (h_cx : cx = (if cz < kx.toInt64 then (cz + kx.toInt64) else cz)) : kx.toInt ≤ cx.toInt := by
  have K1 := own_max h_kx; have K2 := rng32 kx
  have Cm := c_maskL q2 (9223372036854775807 : Int64) 63 (by decide) (by decide)
  rw [← h_cz] at Cm
  have C0 : 0 ≤ cz.toInt := by rw [Cm]; exact Int.emod_nonneg _ (by decide)
  have k1 := c_i2l kx
  have e1 := c_ladd cz kx.toInt64
  rw [k1] at e1
  have r1 := rng64 (cz + kx.toInt64)
  rw [h_cx]
  split
  · next q => have q' := Int64.lt_iff_toInt_lt.mp q; rw [k1] at q'; omega
  · next q =>
    have q' : ¬ cz.toInt < kx.toInt64.toInt := fun z => q (Int64.lt_iff_toInt_lt.mpr z)
    omega
theorem own_pre {p0 p3 jx kx : Int32} {q1 q2 wd cz cx : Int64} (h_jx : jx = ((p0 &&& (255 : Int32)) + (1 : Int32))) (h_wd : wd = (jx.toInt64 * ((q1 &&& (65535 : Int64)) + (1 : Int64)))) (h_kx : kx = fMax (1 : Int32) (p3 &&& (2147483647 : Int32))) (h_cz : cz = (q2 &&& (9223372036854775807 : Int64))) (h_cx : cx = (if cz < kx.toInt64 then (cz + kx.toInt64) else cz)) :
    ¬ jx < (1 : Int32) ∧ ¬ wd < jx.toInt64 ∧ jx.toInt64 ≠ 0 ∧ wd % jx.toInt64 = (0 : Int64) ∧ ¬ kx < (1 : Int32) ∧ ¬ cx < kx.toInt64 := by
  have one : (1 : Int32).toInt = 1 := by decide
  have one' : (1 : Int64).toInt = 1 := by decide
  have zero' : (0 : Int64).toInt = 0 := by decide
  have m1 := c_mask p0 255 8 (by decide) (by decide)
  have e1 := c_iadd (p0 &&& 255) 1
  rw [← h_jx, one] at e1
  have r1 := rng32 jx
  have J : 1 ≤ jx.toInt ∧ jx.toInt ≤ 256 := by omega
  have m2 := c_maskL q1 65535 16 (by decide) (by decide)
  have e2 := c_ladd (q1 &&& 65535) 1
  rw [one'] at e2
  have r2 := rng64 ((q1 &&& 65535) + 1)
  have Q : 1 ≤ ((q1 &&& 65535) + 1).toInt ∧ ((q1 &&& 65535) + 1).toInt ≤ 65536 := by omega
  have e3 := c_lmul jx.toInt64 ((q1 &&& 65535) + 1)
  have kj := c_i2l jx
  rw [← h_wd, kj] at e3
  generalize ((q1 &&& 65535) + 1).toInt = Q' at *
  have r3 := rng64 wd
  have b1 : jx.toInt * 1 ≤ jx.toInt * Q' := Int.mul_le_mul_of_nonneg_left Q.1 (by omega)
  have b2 : jx.toInt * Q' ≤ jx.toInt * 65536 := Int.mul_le_mul_of_nonneg_left Q.2 (by omega)
  have Wd : wd.toInt = jx.toInt * Q' := by
    generalize jx.toInt * Q' = A at *
    omega
  refine ⟨fun q => ?_, fun q => ?_, fun q => ?_, ?_, fun q => ?_, fun q => ?_⟩
  · have := Int32.lt_iff_toInt_lt.mp q; omega
  · have := Int64.lt_iff_toInt_lt.mp q; rw [kj, Wd] at this; omega
  · have := congrArg Int64.toInt q; rw [kj, zero'] at this; omega
  · apply Int64.toInt_inj.mp
    rw [Int64.toInt_mod, kj, zero', Int.tmod_eq_emod_of_nonneg (by rw [Wd]; omega), Wd]
    exact Int.mul_emod_right _ _
  · have := Int32.lt_iff_toInt_lt.mp q; have := own_max h_kx; omega
  · have h1 := Int64.lt_iff_toInt_lt.mp q; have h2 := own_cx h_kx h_cz h_cx; rw [c_i2l] at h1; omega
theorem own_all {p3 kx : Int32} {q2 cz cx sx sk : Int64} (h_kx : kx = fMax (1 : Int32) (p3 &&& (2147483647 : Int32))) (h_cz : cz = (q2 &&& (9223372036854775807 : Int64))) (h_cx : cx = (if cz < kx.toInt64 then (cz + kx.toInt64) else cz)) (h_sx : sx = (cx / kx.toInt64)) (h_sk : sk = (sx * kx.toInt64)) :
    ¬ (sx < (0 : Int64)) ∧ ¬ (cx < sx) ∧ ¬ (sk < (0 : Int64)) ∧ (sk / kx.toInt64) = sx ∧ ¬ (cx < sk) ∧ (cx - sk) < kx.toInt64 ∧ ¬ (sx < (1 : Int64)) := by
  have one' : (1 : Int64).toInt = 1 := by decide
  have zero' : (0 : Int64).toInt = 0 := by decide
  have K1 := own_max h_kx; have K2 := rng32 kx
  have CK := own_cx h_kx h_cz h_cx
  have kk := c_i2l kx
  have kne : kx.toInt64 ≠ -1 := fun q => by have := congrArg Int64.toInt q; rw [kk, show (-1 : Int64).toInt = -1 from by decide] at this; omega
  have e1 := (c_ldiv cx kx.toInt64 kx.toInt kk kne).1 (by omega)
  rw [← h_sx] at e1
  have s1 : 1 ≤ sx.toInt := by rw [e1, Int.le_ediv_iff_mul_le (by omega)]; omega
  have s2 : sx.toInt ≤ cx.toInt := by rw [e1]; exact Int.ediv_le_self _ (by omega)
  have t1 : kx.toInt * sx.toInt ≤ cx.toInt := by rw [e1]; exact Int.mul_ediv_self_le (by omega)
  have t2 : cx.toInt < kx.toInt * sx.toInt + kx.toInt := by rw [e1]; exact Int.lt_mul_ediv_self_add (by omega)
  have t0 : 0 ≤ kx.toInt * sx.toInt := Int.mul_nonneg (by omega) (by omega)
  have e2 := c_lmul sx kx.toInt64
  rw [← h_sk, kk, Int.mul_comm] at e2
  have r2 := rng64 sk; have r1 := rng64 cx
  have SK : sk.toInt = kx.toInt * sx.toInt := by
    generalize kx.toInt * sx.toInt = A at *
    omega
  have e3 := (c_ldiv sk kx.toInt64 kx.toInt kk kne).1 (by omega)
  have e4 := c_lsub cx sk
  have r4 := rng64 (cx - sk)
  refine ⟨fun q => ?_, fun q => ?_, fun q => ?_, ?_, fun q => ?_, ?_, fun q => ?_⟩
  · have := Int64.lt_iff_toInt_lt.mp q; omega
  · have := Int64.lt_iff_toInt_lt.mp q; omega
  · have := Int64.lt_iff_toInt_lt.mp q; omega
  · apply Int64.toInt_inj.mp
    rw [e3, SK]; exact Int.mul_ediv_cancel_left _ (by omega)
  · have := Int64.lt_iff_toInt_lt.mp q; omega
  · apply Int64.lt_iff_toInt_lt.mpr
    rw [kk]
    omega
  · have := Int64.lt_iff_toInt_lt.mp q; omega

theorem pd3 : parseMethodDescriptor "(II)I" = some ⟨[.int, .int], some .int⟩ := by decide +kernel
theorem pd4 : parseMethodDescriptor "(JIJI)V" = some ⟨[.long, .int, .long, .int], none⟩ := by decide +kernel
theorem pd5 : parseMethodDescriptor "()J" = some ⟨[], some .long⟩ := by decide +kernel
theorem pn6 : plainFor (⟨"com/example/keep1/keep1/model/JumpingWindowParametersPartCellsPinLaw", "law", "(IJJI)Z"⟩ : MethodName) = true := by first | exact plainFor_of_name (by simp [plainName, overriddenIn]; done) | decide +kernel
theorem ef0 (m : MethodId) (p0 : Int32) (q1 : Int64) (q2 : Int64) (p3 : Int32) : entryFrame m #[(.int p0), (.long q1), (.long q2), (.int p3)] maxLocals = mkF m 0 #[.val (.int p0), .val (.long q1), .second, .val (.long q2), .second, .val (.int p3), .unset, .unset, .unset, .unset, .unset, .unset, .unset, .unset, .unset, .unset, .unset] [] := by first | (simp [entryFrame, mkF, argsToLocals, Value.category, maxLocals]; done) | rfl
set_option maxRecDepth 65536 in
set_option maxHeartbeats 40000000 in
theorem rm0 (l : Launch) (Z : State) (a0 : Array Value) (hw : ∀ d ∈ tables_1, d.before a0 Z = true) (p0 : Int32) (q1 : Int64) (q2 : Int64) (p3 : Int32) (h0 : Heap) (n0 : Nat)  (O0 : Own.Owns n0 h0 ([]))  : Own.Does l x code maxLocals ret tables_1 room_1 Z #[(.int p0), (.long q1), (.long q2), (.int p3)] h0 n0 (fun v _ => v = some (.int 1)) := by
  refine Own.doesOf pn6 ?_
  intro p e s m below meth c hx hby hml hret hlk hown hnm hZ
  replace hml : c.maxLocals = 17 := hml
  replace hown : s.vm.findClass "com/example/keep1/keep1/model/JumpingWindowParametersPartCellsPinLaw" = some m.cls := hown
  replace hret : meth.sig.returnType = (some .boolean) := hret
  refine Own.Goes.cast (ef0 m p0 q1 q2 p3) ?_
  refine Own.iloadN hx p0 (hb hby at_0) rfl rfl ?_
  refine Own.sipush hx (255 : Int32) (hb hby at_1) rfl (by decide) ?_
  refine Own.iand hx (hb hby at_4) rfl ?_
  refine Own.iconst hx (1 : Int32) (hb hby at_5) rfl (by decide) ?_
  refine Own.iadd hx (hb hby at_6) rfl ?_
  obtain ⟨jx, h_jx⟩ : ∃ z : Int32, z = ((p0 &&& (255 : Int32)) + (1 : Int32)) := ⟨_, rfl⟩
  refine Own.istore hx jx h_jx #[.val (.int p0), .val (.long q1), .second, .val (.long q2), .second, .val (.int p3), .val (.int jx), .unset, .unset, .unset, .unset, .unset, .unset, .unset, .unset, .unset, .unset] (hb hby at_7) rfl rfl ?_
  refine Own.iload hx jx (hb hby at_9) rfl rfl ?_
  refine Own.i2l hx (hb hby at_11) rfl ?_
  refine Own.lloadN hx q1 (hb hby at_12) rfl rfl ?_
  refine Own.ldc2 hx hZ hown (65535 : Int64) (hb hby at_13) rfl (hw _ (List.mem_of_getElem? (i := 0) rfl)) ?_
  refine Own.land hx (hb hby at_16) rfl ?_
  refine Own.lconst hx (1 : Int64) (hb hby at_17) rfl (by decide) ?_
  refine Own.ladd hx (hb hby at_18) rfl ?_
  refine Own.lmul hx (hb hby at_19) rfl ?_
  obtain ⟨wd, h_wd⟩ : ∃ z : Int64, z = (jx.toInt64 * ((q1 &&& (65535 : Int64)) + (1 : Int64))) := ⟨_, rfl⟩
  refine Own.lstore hx wd h_wd #[.val (.int p0), .val (.long q1), .second, .val (.long q2), .second, .val (.int p3), .val (.int jx), .val (.long wd), .second, .unset, .unset, .unset, .unset, .unset, .unset, .unset, .unset] (hb hby at_20) rfl rfl ?_
  refine Own.iconst hx (1 : Int32) (hb hby at_22) rfl (by decide) ?_
  refine Own.iload hx p3 (hb hby at_23) rfl rfl ?_
  refine Own.ldc hx hZ hown (2147483647 : Int32) (hb hby at_25) rfl (hw _ (List.mem_of_getElem? (i := 1) rfl)) ?_
  refine Own.iand hx (hb hby at_27) rfl ?_
  refine Own.callS hx hZ hown (hw _ (List.mem_of_getElem? (i := 2) rfl)) (hw _ (List.mem_of_getElem? (i := 3) rfl)) (hw _ (List.mem_of_getElem? (i := 4) rfl)) (hw _ (List.mem_of_getElem? (i := 5) rfl)) (by decide) pd3 (argsL := [(.int (1 : Int32)), (.int (p3 &&& (2147483647 : Int32)))]) (rest := []) rfl (W := 0) (Nat.le_of_eq rfl) (rm := ({ frames := 0, cells := 0, slots := 0, locals := 0 } : Room)) (by decide) (by decide) (by decide) (by decide) (k' := 0) (n' := 0) rfl rfl (by rw [hml]; rfl) [(.int (p3 &&& (2147483647 : Int32))), (.int (1 : Int32))] rfl (hb hby at_28) (pc' := 31) rfl (rm1 l Z a0 hw (1 : Int32) (p3 &&& (2147483647 : Int32)) h0 n0) ?_
  rintro _ h' ⟨rfl, eh⟩
  rw [eh]; clear eh h'
  show Own.Goes _ _ _ _ _ _ _ _ _ _ _ _ _ _ _ _ _ (mkF m 31 #[.val (.int p0), .val (.long q1), .second, .val (.long q2), .second, .val (.int p3), .val (.int jx), .val (.long wd), .second, .unset, .unset, .unset, .unset, .unset, .unset, .unset, .unset] [(.int (fMax (1 : Int32) (p3 &&& (2147483647 : Int32))))])
  obtain ⟨kx, h_kx⟩ : ∃ z : Int32, z = (fMax (1 : Int32) (p3 &&& (2147483647 : Int32))) := ⟨_, rfl⟩
  refine Own.istore hx kx h_kx #[.val (.int p0), .val (.long q1), .second, .val (.long q2), .second, .val (.int p3), .val (.int jx), .val (.long wd), .second, .val (.int kx), .unset, .unset, .unset, .unset, .unset, .unset, .unset] (hb hby at_31) rfl rfl ?_
  refine Own.lloadN hx q2 (hb hby at_33) rfl rfl ?_
  refine Own.ldc2 hx hZ hown (9223372036854775807 : Int64) (hb hby at_34) rfl (hw _ (List.mem_of_getElem? (i := 6) rfl)) ?_
  refine Own.land hx (hb hby at_37) rfl ?_
  obtain ⟨cz, h_cz⟩ : ∃ z : Int64, z = (q2 &&& (9223372036854775807 : Int64)) := ⟨_, rfl⟩
  refine Own.lstore hx cz h_cz #[.val (.int p0), .val (.long q1), .second, .val (.long q2), .second, .val (.int p3), .val (.int jx), .val (.long wd), .second, .val (.int kx), .val (.long cz), .second, .unset, .unset, .unset, .unset, .unset] (hb hby at_38) rfl rfl ?_
  refine Own.lload hx cz (hb hby at_40) rfl rfl ?_
  refine Own.iload hx kx (hb hby at_42) rfl rfl ?_
  refine Own.i2l hx (hb hby at_44) rfl ?_
  refine Own.lcmp hx (hb hby at_45) rfl ?_
  obtain ⟨cx, h_cx⟩ : ∃ z : Int64, z = (if cz < kx.toInt64 then (cz + kx.toInt64) else cz) := ⟨_, rfl⟩
  refine Own.Goes.join (mkF m 57 #[.val (.int p0), .val (.long q1), .second, .val (.long q2), .second, .val (.int p3), .val (.int jx), .val (.long wd), .second, .val (.int kx), .val (.long cx), .second, .unset, .unset, .unset, .unset, .unset] []) (fun kJ2 => ?_) ?_
  · refine Own.ifFn hx (Own.w_ge cz kx.toInt64) (hb hby at_46) (pcN := 49) rfl (by decide) (pcT := 57) rfl (fun hc1 => ?_) (fun hc1 => ?_)
    · try simp only [if_neg hc1] at h_cx
      subst h_cx
      exact kJ2
    · refine Own.lload hx cz (hb hby at_49) rfl rfl ?_
      refine Own.iload hx kx (hb hby at_51) rfl rfl ?_
      refine Own.i2l hx (hb hby at_53) rfl ?_
      refine Own.ladd hx (hb hby at_54) rfl ?_
      refine Own.lstore hx (cz + kx.toInt64) rfl #[.val (.int p0), .val (.long q1), .second, .val (.long q2), .second, .val (.int p3), .val (.int jx), .val (.long wd), .second, .val (.int kx), .val (.long (cz + kx.toInt64)), .second, .unset, .unset, .unset, .unset, .unset] (hb hby at_55) rfl rfl ?_
      try simp only [if_pos hc1] at h_cx
      subst h_cx
      exact kJ2
  refine Own.newobj hx hZ hown O0 (hw _ (List.mem_of_getElem? (i := 7) rfl)) (hw _ (List.mem_of_getElem? (i := 8) rfl)) (hw _ (List.mem_of_getElem? (i := 9) rfl)) [(("com/example/keep1/keep1/model/JumpingWindowParameters", "window", "J"), (.long (0 : Int64))), (("com/example/keep1/keep1/model/JumpingWindowParameters", "subWindows", "I"), (.int (0 : Int32))), (("com/example/keep1/keep1/model/JumpingWindowParameters", "cells", "J"), (.long (0 : Int64))), (("com/example/keep1/keep1/model/JumpingWindowParameters", "hashes", "I"), (.int (0 : Int32)))] (by intro f hf; simp only [List.mem_cons, List.not_mem_nil, or_false] at hf; rcases hf with rfl | rfl | rfl | rfl; exact ⟨Or.inr (hw _ (List.mem_of_getElem? (i := 26) rfl)), .long, by decide, rfl⟩; exact ⟨Or.inr (hw _ (List.mem_of_getElem? (i := 28) rfl)), .int, by decide, rfl⟩; exact ⟨Or.inr (hw _ (List.mem_of_getElem? (i := 30) rfl)), .long, by decide, rfl⟩; exact ⟨Or.inr (hw _ (List.mem_of_getElem? (i := 32) rfl)), .int, by decide, rfl⟩) (by decide) (k' := 1) (n' := 4) rfl rfl (by decide) (by decide) (hb hby at_57) (pc' := 60) rfl ?_
  intro a3 h4 O5
  refine Own.dup hx (hb hby at_60) rfl rfl ?_
  refine Own.lload hx wd (hb hby at_61) rfl rfl ?_
  refine Own.iload hx jx (hb hby at_63) rfl rfl ?_
  refine Own.lload hx cx (hb hby at_65) rfl rfl ?_
  refine Own.iload hx kx (hb hby at_67) rfl rfl ?_
  obtain ⟨hA, hB, hnz, hC, hD, hE⟩ := own_pre h_jx h_wd h_kx h_cz h_cx
  refine Own.callI hx hZ hown rfl (hw _ (List.mem_of_getElem? (i := 10) rfl)) (hw _ (List.mem_of_getElem? (i := 11) rfl)) (hw _ (List.mem_of_getElem? (i := 9) rfl)) (hw _ (List.mem_of_getElem? (i := 12) rfl)) (by decide) pd4 (argsL := [(.long wd), (.int jx), (.long cx), (.int kx)]) (rest := [(.ref a3)]) rfl (W := 1) (Nat.le_of_eq rfl) (rm := ({ frames := 2, cells := 0, slots := 0, locals := 24 } : Room)) (by decide) (by decide) (by decide) (by decide) (k' := 1) (n' := 4) rfl rfl (by rw [hml]; rfl) [(.int kx), (.long cx), (.int jx), (.long wd), (.ref a3), (.ref a3)] rfl (hb hby at_69) (pc' := 72) rfl (rm2 l Z a0 hw a3 wd jx cx kx h4 n0 ([]) O5 hA hB hnz hC hD hE) ?_
  rintro _ h6 ⟨rfl, O7⟩
  show Own.Goes _ _ _ _ _ _ _ _ _ _ _ _ _ _ _ _ _ (mkF m 72 #[.val (.int p0), .val (.long q1), .second, .val (.long q2), .second, .val (.int p3), .val (.int jx), .val (.long wd), .second, .val (.int kx), .val (.long cx), .second, .unset, .unset, .unset, .unset, .unset] [(.ref a3)])
  refine Own.astore hx #[.val (.int p0), .val (.long q1), .second, .val (.long q2), .second, .val (.int p3), .val (.int jx), .val (.long wd), .second, .val (.int kx), .val (.long cx), .second, .val (.ref a3), .unset, .unset, .unset, .unset] (hb hby at_72) rfl rfl rfl ?_
  refine Own.aload hx (.ref a3) (hb hby at_74) rfl rfl rfl ?_
  refine Own.callV hx hZ hown (O7.exa (i := 0) rfl) (hw _ (List.mem_of_getElem? (i := 33) rfl)) (hw _ (List.mem_of_getElem? (i := 34) rfl)) (hw _ (List.mem_of_getElem? (i := 36) rfl)) (hw _ (List.mem_of_getElem? (i := 35) rfl)) (hw _ (List.mem_of_getElem? (i := 9) rfl)) (hw _ (List.mem_of_getElem? (i := 37) rfl)) (by decide) pd5 (argsL := []) (rest := []) rfl (W := 0) (Nat.le_of_eq rfl) (rm := ({ frames := 1, cells := 0, slots := 0, locals := 16 } : Room)) (by decide) (by decide) (by decide) (by decide) (k' := 1) (n' := 4) rfl rfl (by rw [hml]; rfl) [(.ref a3)] rfl (hb hby at_76) (pc' := 79) rfl (rm6 l Z a0 hw a3 h6 n0 wd jx cx kx ([]) O7 (own_knz h_kx)) ?_
  rintro _ h8 ⟨rfl, O9⟩
  show Own.Goes _ _ _ _ _ _ _ _ _ _ _ _ _ _ _ _ _ (mkF m 79 #[.val (.int p0), .val (.long q1), .second, .val (.long q2), .second, .val (.int p3), .val (.int jx), .val (.long wd), .second, .val (.int kx), .val (.long cx), .second, .val (.ref a3), .unset, .unset, .unset, .unset] [(.long (cx / kx.toInt64))])
  obtain ⟨sx, h_sx⟩ : ∃ z : Int64, z = (cx / kx.toInt64) := ⟨_, rfl⟩
  refine Own.lstore hx sx h_sx #[.val (.int p0), .val (.long q1), .second, .val (.long q2), .second, .val (.int p3), .val (.int jx), .val (.long wd), .second, .val (.int kx), .val (.long cx), .second, .val (.ref a3), .val (.long sx), .second, .unset, .unset] (hb hby at_79) rfl rfl ?_
  refine Own.lload hx sx (hb hby at_81) rfl rfl ?_
  refine Own.lconst hx (0 : Int64) (hb hby at_83) rfl (by decide) ?_
  refine Own.lcmp hx (hb hby at_84) rfl ?_
  have hc10 : ¬ (sx < (0 : Int64)) := (own_all h_kx h_cz h_cx h_sx rfl).1
  refine Own.ifF hx (Own.w_lt sx (0 : Int64)) (hb hby at_85) (pcN := 88) rfl (by decide) (pcT := 96) rfl (fun q => absurd q hc10) (fun _ => ?_)
  refine Own.lload hx sx (hb hby at_88) rfl rfl ?_
  refine Own.lload hx cx (hb hby at_90) rfl rfl ?_
  refine Own.lcmp hx (hb hby at_92) rfl ?_
  have hc12 : ¬ (cx < sx) := (own_all h_kx h_cz h_cx h_sx rfl).2.1
  refine Own.ifFn hx (Own.w_le sx cx) (hb hby at_93) (pcN := 96) rfl (by decide) (pcT := 98) rfl (fun _ => ?_) (fun q => absurd q hc12)
  refine Own.lload hx sx (hb hby at_98) rfl rfl ?_
  refine Own.iload hx kx (hb hby at_100) rfl rfl ?_
  refine Own.i2l hx (hb hby at_102) rfl ?_
  refine Own.lmul hx (hb hby at_103) rfl ?_
  obtain ⟨sk, h_sk⟩ : ∃ z : Int64, z = (sx * kx.toInt64) := ⟨_, rfl⟩
  refine Own.lstore hx sk h_sk #[.val (.int p0), .val (.long q1), .second, .val (.long q2), .second, .val (.int p3), .val (.int jx), .val (.long wd), .second, .val (.int kx), .val (.long cx), .second, .val (.ref a3), .val (.long sx), .second, .val (.long sk), .second] (hb hby at_104) rfl rfl ?_
  refine Own.lload hx sk (hb hby at_106) rfl rfl ?_
  refine Own.lconst hx (0 : Int64) (hb hby at_108) rfl (by decide) ?_
  refine Own.lcmp hx (hb hby at_109) rfl ?_
  have hc14 : ¬ (sk < (0 : Int64)) := (own_all h_kx h_cz h_cx h_sx h_sk).2.2.1
  refine Own.ifF hx (Own.w_lt sk (0 : Int64)) (hb hby at_110) (pcN := 113) rfl (by decide) (pcT := 125) rfl (fun q => absurd q hc14) (fun _ => ?_)
  refine Own.lload hx sk (hb hby at_113) rfl rfl ?_
  refine Own.iload hx kx (hb hby at_115) rfl rfl ?_
  refine Own.i2l hx (hb hby at_117) rfl ?_
  refine Own.ldiv hx (hb hby at_118) rfl (own_knz h_kx) ?_
  refine Own.lload hx sx (hb hby at_119) rfl rfl ?_
  refine Own.lcmp hx (hb hby at_121) rfl ?_
  have hc16 : (sk / kx.toInt64) = sx := (own_all h_kx h_cz h_cx h_sx h_sk).2.2.2.1
  refine Own.ifF hx (Own.w_eq (sk / kx.toInt64) sx) (hb hby at_122) (pcN := 125) rfl (by decide) (pcT := 127) rfl (fun _ => ?_) (fun q => absurd hc16 q)
  refine Own.lload hx sk (hb hby at_127) rfl rfl ?_
  refine Own.lload hx cx (hb hby at_129) rfl rfl ?_
  refine Own.lcmp hx (hb hby at_131) rfl ?_
  have hc18 : ¬ (cx < sk) := (own_all h_kx h_cz h_cx h_sx h_sk).2.2.2.2.1
  refine Own.ifF hx (Own.w_gt sk cx) (hb hby at_132) (pcN := 135) rfl (by decide) (pcT := 158) rfl (fun q => absurd q hc18) (fun _ => ?_)
  refine Own.lload hx cx (hb hby at_135) rfl rfl ?_
  refine Own.lload hx sk (hb hby at_137) rfl rfl ?_
  refine Own.lsub hx (hb hby at_139) rfl ?_
  refine Own.iload hx kx (hb hby at_140) rfl rfl ?_
  refine Own.i2l hx (hb hby at_142) rfl ?_
  refine Own.lcmp hx (hb hby at_143) rfl ?_
  have hc20 : (cx - sk) < kx.toInt64 := (own_all h_kx h_cz h_cx h_sx h_sk).2.2.2.2.2.1
  refine Own.ifFn hx (Own.w_ge (cx - sk) kx.toInt64) (hb hby at_144) (pcN := 147) rfl (by decide) (pcT := 158) rfl (fun q => absurd hc20 q) (fun _ => ?_)
  refine Own.lload hx sx (hb hby at_147) rfl rfl ?_
  refine Own.lconst hx (1 : Int64) (hb hby at_149) rfl (by decide) ?_
  refine Own.lcmp hx (hb hby at_150) rfl ?_
  have hc22 : ¬ (sx < (1 : Int64)) := (own_all h_kx h_cz h_cx h_sx h_sk).2.2.2.2.2.2
  refine Own.ifF hx (Own.w_lt sx (1 : Int64)) (hb hby at_151) (pcN := 154) rfl (by decide) (pcT := 158) rfl (fun q => absurd q hc22) (fun _ => ?_)
  refine Own.iconst hx (1 : Int32) (hb hby at_154) rfl (by decide) ?_
  refine Own.goto hx (hb hby at_155) (by decide) (pc' := 159) rfl ?_
  exact Own.retS hx hret (by simp) hlk (hb hby at_159) (by decide) (by decide) (Own.bool1 rfl)

set_option maxRecDepth 65536 in
set_option maxHeartbeats 40000000 in
theorem comes_1 {Post : Tables → Env → Array Value → State → Outcome → State → Prop} (hpost : ∀ tb e args s v u, (limb_1_1.after args s (.returned v) u = true ∧ limb_1_2.after args s (.returned v) u = true ∧ True) → FrameEnd s (.returned v) u (Jvm.fieldLocs frame_1_writes args s ++ Jvm.arrayLocs frame_1_arrays args s ++ Jvm.staticLocs frame_1_statics s) 16 128 → Post tb e args s (.returned v) u) :
    ArmFor flags0 classFile x code maxLocals ret World_1 tables_1 room_1 Calls_1 rest_1 Pre_1 Post := by
  intro l hfl _ _ p e ha hc hk s m args below hf hA hF happ hP
  obtain ⟨hcalls, hrest, hpre⟩ := hP
  obtain ⟨-, -, -, hnamed, -, -, -, hat⟩ := (Spec.applies_iff hf).mp happ
  obtain ⟨hg, hn⟩ := and_e (Cond.before_iff.mp (show (Jvm.Cond.and given_1 narrow_1).before args s = true from hpre))
  obtain ⟨h1, g0⟩ := and_e hg
  obtain ⟨q0, g1⟩ := and_e g0
  obtain ⟨q1, g2⟩ := and_e g1
  obtain ⟨q2, g3⟩ := and_e g2
  have q3 := g3
  obtain ⟨w0, w1, w2, w3, rfl⟩ : ∃ w0 w1 w2 w3 : Value, args = #[w0, w1, w2, w3] := by
    have hs : args.size = 4 := by simpa [Cond.value, given_1] using h1
    obtain ⟨L⟩ := args
    match L, hs with
    | [w0, w1, w2, w3], _ => exact ⟨w0, w1, w2, w3, rfl⟩
  have hw := fun d (hd : d ∈ tables_1) => atoms_spec (ws := Jvm.Cond.code x code maxLocals ret :: tables_1) hat d (List.mem_cons_of_mem _ hd)
  obtain ⟨i0, e0⟩ := is_v q0
  obtain rfl : w0 = (.int i0) := Option.some.inj e0
  obtain ⟨i1, e1⟩ := isL_v q1
  obtain rfl : w1 = (.long i1) := Option.some.inj e1
  obtain ⟨i2, e2⟩ := isL_v q2
  obtain rfl : w2 = (.long i2) := Option.some.inj e2
  obtain ⟨i3, e3⟩ := is_v q3
  obtain rfl : w3 = (.int i3) := Option.some.inj e3
  obtain ⟨n, o, h1, h2, h3, _, L, rfl, ⟨rfl, N⟩, hq⟩ := rm0 l s _ hw i0 i1 i2 i3 s.heap s.heap.size (Own.Owns.nil (Nat.le_refl _)) p e ha hc hk s m _ below hf ((Spec.applies_iff_loose hf).mp happ).1 ⟨rfl, State.Warmed39.refl s, rfl⟩ trivial
  refine ⟨n, _, h1, h2, h3, hpost _ _ _ _ _ _ ⟨Cond.after_iff.mpr rfl, Cond.after_iff.mpr (eq_i res_at (Term.int_eval (1)) rfl), trivial⟩ ⟨hq.1, hq.2.1, (hq.2.2.sift fun y hy => Or.inr (N y hy)).mono (by decide) (by decide)⟩⟩
theorem main_1_1 : Claimed_1_1 := comes_1 fun _ _ _ _ _ _ h hF => ⟨h.1, hF⟩
theorem main_1_2 : Claimed_1_2 := comes_1 fun _ _ _ _ _ _ h hF => ⟨h.2.1, hF⟩
end Jvm.Pilot.@@N@@
namespace Jvm.Pilot.@@N@@
open Jvm Jvm.ClassFile Sem Op Lib Jvm.Free Jvm.Stand Jvm.Pilot.@@N@@.Jvm.D
/-! MADE BY PROGRAM (witnessworld.py) out of the Statement's table words and the real class files: 13 classes; the members and pool entries that the words name. The judged class is class 1, her method 1. -/
namespace start1
open Jvm.ClassFile
def u (s : String) : CpInfo := .utf8 (stringToUtf16 s)
/-- a pool by its gaps: so many unusable entries, then the entry; so many at the end -/
def gap : Nat → List CpInfo → List CpInfo
  | 0, r => r
  | n + 1, r => .unusable :: gap n r
def poolList (es : List (Nat × CpInfo)) (last : Nat) : List CpInfo := es.foldr (fun e r => gap e.1 (e.2 :: r)) (gap last [])
def pool (es : List (Nat × CpInfo)) (last : Nat) : Array CpInfo := ⟨poolList es last⟩
def fileOf (pool : Array CpInfo) (this : Nat) (attrs : Array Attribute := #[]) (ms : Array MethodInfo := #[]) (fl : Nat := 33) (sup : Nat := 0) (ifs : Array Nat := #[]) (fds : Array FieldInfo := #[]) : ClassFile where
  minorVersion := 0
  majorVersion := 65
  constantPool := pool
  accessFlags := fl
  thisClass := this
  superClass := sup
  interfaces := ifs
  fields := fds
  methods := ms
  attributes := attrs
def plain (name : String) (sup : Option ClassId) : Class where
  name := name
  kind := .ordinary
  loader := none
  accessFlags := 33
  super := sup
  interfaces := #[]
  cf := none
  fields := #[]
  methods := #[]
  instanceTypes := #[]
  staticTypes := #[]
  resolved := #[]
  callSites := []
  init := .initialized
  statics := none
  mirror := none

def pool0 : Array CpInfo := pool [(5, u "<init>"), (0, u "()V"), (1, .class_ 10), (1, u "java/lang/Object")] 113

def k0c0 : Code := { maxStack := 0, maxLocals := 1, code := object_method_1_code, exceptionTable := #[], attributes := #[] }
def k0m0 : Method := { name := "<init>", desc := "()V", sig := { parameters := [], returnType := none }, accessFlags := 1, code := some k0c0 }
/-- java/lang/Object -/
def k0 : Class := { plain "java/lang/Object" none with
  accessFlags := 33
  interfaces := #[]
  cf := some (fileOf pool0 8 #[] #[{ accessFlags := 1, nameIndex := 5, descriptorIndex := 6, attributes := #[] }] 33 0 #[] #[])
  fields := #[]
  methods := #[k0m0]
  instanceTypes := #[]
  staticTypes := #[]
  resolved := Array.replicate 124 none
  statics := none }

def pool1 : Array CpInfo := pool [(2, .class_ 4), (1, u "java/lang/Object"), (0, u "<init>"), (0, u "()V"), (0, .long 65535), (1, .integer 2147483647), (0, .methodref 11 12), (0, .class_ 13), (0, .nameAndType 14 15), (0, u "java/lang/Math"), (0, u "max"), (0, u "(II)I"), (2, .long 9223372036854775807), (1, .class_ 21), (0, u "com/example/keep1/keep1/model/JumpingWindowParameters"), (0, .methodref 20 23), (0, .nameAndType 5 24), (0, u "(JIJI)V"), (0, .methodref 20 26), (0, .nameAndType 27 28), (0, u "partCells"), (0, u "()J"), (0, .class_ 30), (0, u "com/example/keep1/keep1/model/JumpingWindowParametersPartCellsPinLaw"), (2, u "law"), (0, u "(IJJI)Z")] 3

def k1m0 : Method := { name := "<init>", desc := "()V", sig := { parameters := [], returnType := none }, accessFlags := 1, code := none }
def k1c1 : Code := { maxStack := 8, maxLocals := 17, code := code, exceptionTable := #[], attributes := #[] }
def k1m1 : Method := { name := "law", desc := "(IJJI)Z", sig := { parameters := [.int, .long, .long, .int], returnType := some .boolean }, accessFlags := 9, code := some k1c1 }
/-- com/example/keep1/keep1/model/JumpingWindowParametersPartCellsPinLaw -/
def k1 : Class := { plain "com/example/keep1/keep1/model/JumpingWindowParametersPartCellsPinLaw" (some 0) with
  accessFlags := 49
  interfaces := #[]
  cf := some (fileOf pool1 29 #[] #[{ accessFlags := 1, nameIndex := 5, descriptorIndex := 6, attributes := #[] }, { accessFlags := 9, nameIndex := 33, descriptorIndex := 34, attributes := #[] }] 49 2 #[] #[])
  fields := #[]
  methods := #[k1m0, k1m1]
  instanceTypes := #[]
  staticTypes := #[]
  resolved := Array.replicate 38 none
  statics := none }

def pool2 : Array CpInfo := pool [(1, .class_ 2), (0, u "java/lang/Math"), (1, .class_ 6), (1, u "java/lang/Object"), (0, u "<init>"), (0, u "()V"), (89, .class_ 100), (1, u "java/lang/Math$RandomNumberGeneratorHolder"), (71, u "negativeZeroFloatBits"), (0, u "J"), (2, u "negativeZeroDoubleBits"), (21, u "max"), (46, u "$assertionsDisabled"), (0, u "Z"), (88, u "(II)I"), (2, u "twoToTheDoubleScaleDown"), (0, u "D"), (4, u "twoToTheDoubleScaleUp"), (9, u "E"), (3, u "PI"), (2, u "TAU"), (2, u "DEGREES_TO_RADIANS"), (0, u "RADIANS_TO_DEGREES")] 94

def k2m0 : Method := { name := "<init>", desc := "()V", sig := { parameters := [], returnType := none }, accessFlags := 2, code := none }
def k2c1 : Code := { maxStack := 2, maxLocals := 2, code := jdk_29_method_65_code, exceptionTable := #[], attributes := #[] }
def k2m1 : Method := { name := "max", desc := "(II)I", sig := { parameters := [.int, .int], returnType := some .int }, accessFlags := 9, code := some k2c1 }
/-- java/lang/Math -/
def k2 : Class := { plain "java/lang/Math" (some 0) with
  accessFlags := 49
  interfaces := #[]
  cf := some (fileOf pool2 1 #[.nestMembers #[98]] #[{ accessFlags := 2, nameIndex := 7, descriptorIndex := 8, attributes := #[] }, { accessFlags := 9, nameIndex := 198, descriptorIndex := 335, attributes := #[] }] 49 4 #[] #[{ accessFlags := 25, nameIndex := 354, descriptorIndex := 339, attributes := #[] }, { accessFlags := 25, nameIndex := 358, descriptorIndex := 339, attributes := #[] }, { accessFlags := 25, nameIndex := 361, descriptorIndex := 339, attributes := #[] }, { accessFlags := 26, nameIndex := 364, descriptorIndex := 339, attributes := #[] }, { accessFlags := 26, nameIndex := 365, descriptorIndex := 339, attributes := #[] }, { accessFlags := 26, nameIndex := 172, descriptorIndex := 173, attributes := #[] }, { accessFlags := 26, nameIndex := 176, descriptorIndex := 173, attributes := #[] }, { accessFlags := 8, nameIndex := 344, descriptorIndex := 339, attributes := #[] }, { accessFlags := 8, nameIndex := 338, descriptorIndex := 339, attributes := #[] }, { accessFlags := 4120, nameIndex := 245, descriptorIndex := 246, attributes := #[] }])
  fields := #[{ name := "E", type := .double, accessFlags := 25, slot := 0, constantValue := 0 }, { name := "PI", type := .double, accessFlags := 25, slot := 1, constantValue := 0 }, { name := "TAU", type := .double, accessFlags := 25, slot := 2, constantValue := 0 }, { name := "DEGREES_TO_RADIANS", type := .double, accessFlags := 26, slot := 3, constantValue := 0 }, { name := "RADIANS_TO_DEGREES", type := .double, accessFlags := 26, slot := 4, constantValue := 0 }, { name := "negativeZeroFloatBits", type := .long, accessFlags := 26, slot := 5, constantValue := 0 }, { name := "negativeZeroDoubleBits", type := .long, accessFlags := 26, slot := 6, constantValue := 0 }, { name := "twoToTheDoubleScaleUp", type := .double, accessFlags := 8, slot := 7, constantValue := 0 }, { name := "twoToTheDoubleScaleDown", type := .double, accessFlags := 8, slot := 8, constantValue := 0 }, { name := "$assertionsDisabled", type := .boolean, accessFlags := 4120, slot := 9, constantValue := 0 }]
  methods := #[k2m0, k2m1]
  instanceTypes := #[]
  staticTypes := #[.double, .double, .double, .double, .double, .long, .long, .double, .double, .boolean]
  resolved := Array.replicate 460 none
  statics := none }

def pool3 : Array CpInfo := pool [(1, .methodref 2 3), (0, .class_ 4), (0, .nameAndType 5 6), (0, u "java/lang/Object"), (0, u "<init>"), (0, u "()V"), (0, .class_ 8), (0, u "java/lang/Record")] 13

def k3c0 : Code := { maxStack := 1, maxLocals := 1, code := jdk_30_method_1_code, exceptionTable := #[], attributes := #[] }
def k3m0 : Method := { name := "<init>", desc := "()V", sig := { parameters := [], returnType := none }, accessFlags := 4, code := some k3c0 }
/-- java/lang/Record -/
def k3 : Class := { plain "java/lang/Record" (some 0) with
  accessFlags := 1057
  interfaces := #[]
  cf := some (fileOf pool3 7 #[] #[{ accessFlags := 4, nameIndex := 5, descriptorIndex := 6, attributes := #[] }] 1057 2 #[] #[])
  fields := #[]
  methods := #[k3m0]
  instanceTypes := #[]
  staticTypes := #[]
  resolved := Array.replicate 22 none
  statics := none }

def pool4 : Array CpInfo := pool [(7, .class_ 8), (0, u "com/example/keep1/keep1/model/EngineParameters"), (0, .class_ 10), (0, u "java/lang/Object"), (11, .class_ 23), (0, u "com/example/keep1/keep1/model/EngineParameters$NamedValue")] 11

/-- com/example/keep1/keep1/model/EngineParameters -/
def k4 : Class := { plain "com/example/keep1/keep1/model/EngineParameters" (some 0) with
  accessFlags := 1537
  interfaces := #[]
  cf := some (fileOf pool4 7 #[.nestMembers #[22]] #[] 1537 9 #[] #[])
  fields := #[]
  methods := #[]
  instanceTypes := #[]
  staticTypes := #[]
  resolved := Array.replicate 35 none
  statics := none }

def pool5 : Array CpInfo := pool [(1, .methodref 2 3), (0, .class_ 4), (0, .nameAndType 5 6), (0, u "java/lang/Record"), (0, u "<init>"), (0, u "()V"), (13, .methodref 21 22), (0, .class_ 23), (0, .nameAndType 24 25), (0, u "com/example/keep1/keep1/model/CellPositions"), (0, u "check"), (0, u "(JI)V"), (0, .fieldref 27 28), (0, .class_ 29), (0, .nameAndType 30 31), (0, u "com/example/keep1/keep1/model/JumpingWindowParameters"), (0, u "window"), (0, u "J"), (0, .fieldref 27 33), (0, .nameAndType 34 35), (0, u "subWindows"), (0, u "I"), (0, .fieldref 27 37), (0, .nameAndType 38 31), (0, u "cells"), (0, .fieldref 27 40), (0, .nameAndType 41 35), (0, u "hashes"), (0, .methodref 21 43), (0, .nameAndType 44 45), (0, u "partCells"), (0, u "(JI)J"), (9, u "()J"), (56, .class_ 113), (0, u "com/example/keep1/keep1/model/EngineParameters"), (0, u "(JIJI)V")] 50

def k5c0 : Code := { maxStack := 5, maxLocals := 7, code := prog_43_method_1_code, exceptionTable := #[], attributes := #[] }
def k5m0 : Method := { name := "<init>", desc := "(JIJI)V", sig := { parameters := [.long, .int, .long, .int], returnType := none }, accessFlags := 1, code := some k5c0 }
def k5c1 : Code := { maxStack := 3, maxLocals := 1, code := prog_43_method_3_code, exceptionTable := #[], attributes := #[] }
def k5m1 : Method := { name := "partCells", desc := "()J", sig := { parameters := [], returnType := some .long }, accessFlags := 1, code := some k5c1 }
/-- com/example/keep1/keep1/model/JumpingWindowParameters -/
def k5 : Class := { plain "com/example/keep1/keep1/model/JumpingWindowParameters" (some 3) with
  accessFlags := 49
  interfaces := #[4]
  cf := some (fileOf pool5 27 #[] #[{ accessFlags := 1, nameIndex := 5, descriptorIndex := 114, attributes := #[] }, { accessFlags := 1, nameIndex := 44, descriptorIndex := 55, attributes := #[] }] 49 2 #[112] #[{ accessFlags := 18, nameIndex := 30, descriptorIndex := 31, attributes := #[] }, { accessFlags := 18, nameIndex := 34, descriptorIndex := 35, attributes := #[] }, { accessFlags := 18, nameIndex := 38, descriptorIndex := 31, attributes := #[] }, { accessFlags := 18, nameIndex := 41, descriptorIndex := 35, attributes := #[] }])
  fields := #[{ name := "window", type := .long, accessFlags := 18, slot := 0, constantValue := 0 }, { name := "subWindows", type := .int, accessFlags := 18, slot := 1, constantValue := 0 }, { name := "cells", type := .long, accessFlags := 18, slot := 2, constantValue := 0 }, { name := "hashes", type := .int, accessFlags := 18, slot := 3, constantValue := 0 }]
  methods := #[k5m0, k5m1]
  instanceTypes := #[.long, .int, .long, .int]
  staticTypes := #[]
  resolved := Array.replicate 165 none
  statics := none }

def pool6 : Array CpInfo := pool [(2, .class_ 4), (1, u "java/lang/Object"), (0, u "<init>"), (0, u "()V"), (13, .class_ 22), (1, u "com/example/keep1/keep1/model/CellPositions"), (0, u "partCells"), (0, u "(JI)J"), (17, u "check"), (0, u "(JI)V")] 22

def k6m0 : Method := { name := "<init>", desc := "()V", sig := { parameters := [], returnType := none }, accessFlags := 2, code := none }
def k6c1 : Code := { maxStack := 5, maxLocals := 3, code := prog_38_method_2_code, exceptionTable := #[], attributes := #[] }
def k6m1 : Method := { name := "check", desc := "(JI)V", sig := { parameters := [.long, .int], returnType := none }, accessFlags := 8, code := some k6c1 }
def k6c2 : Code := { maxStack := 4, maxLocals := 3, code := prog_38_method_3_code, exceptionTable := #[], attributes := #[] }
def k6m2 : Method := { name := "partCells", desc := "(JI)J", sig := { parameters := [.long, .int], returnType := some .long }, accessFlags := 8, code := some k6c2 }
/-- com/example/keep1/keep1/model/CellPositions -/
def k6 : Class := { plain "com/example/keep1/keep1/model/CellPositions" (some 0) with
  accessFlags := 32
  interfaces := #[]
  cf := some (fileOf pool6 20 #[] #[{ accessFlags := 2, nameIndex := 5, descriptorIndex := 6, attributes := #[] }, { accessFlags := 8, nameIndex := 42, descriptorIndex := 43, attributes := #[] }, { accessFlags := 8, nameIndex := 23, descriptorIndex := 24, attributes := #[] }] 32 2 #[] #[])
  fields := #[]
  methods := #[k6m0, k6m1, k6m2]
  instanceTypes := #[]
  staticTypes := #[]
  resolved := Array.replicate 66 none
  statics := none }

def pool7 : Array CpInfo := pool [(1, u "java/lang/Cloneable"), (0, .class_ 1), (0, u "java/lang/Object"), (0, .class_ 3)] 3

/-- java/lang/Cloneable -/
def k7 : Class := { plain "java/lang/Cloneable" (some 0) with
  accessFlags := 1537
  interfaces := #[]
  cf := some (fileOf pool7 2 #[] #[] 1537 4 #[] #[])
  fields := #[]
  methods := #[]
  instanceTypes := #[]
  staticTypes := #[]
  resolved := Array.replicate 8 none
  statics := none }

def pool8 : Array CpInfo := pool [(1, u "java/io/Serializable"), (0, .class_ 1), (0, u "java/lang/Object"), (0, .class_ 3)] 3

/-- java/io/Serializable -/
def k8 : Class := { plain "java/io/Serializable" (some 0) with
  accessFlags := 1537
  interfaces := #[]
  cf := some (fileOf pool8 2 #[] #[] 1537 4 #[] #[])
  fields := #[]
  methods := #[]
  instanceTypes := #[]
  staticTypes := #[]
  resolved := Array.replicate 8 none
  statics := none }

/-- the primitive byte -/
def k9 : Class := { plain "byte" none with kind := .primitive 'B', accessFlags := 0x411 }
/-- [B -/
def k10 : Class := { plain "[B" (some 0) with kind := .array 9 .byte, interfaces := #[7, 8], accessFlags := 1041 }

/-- the primitive int -/
def k11 : Class := { plain "int" none with kind := .primitive 'I', accessFlags := 0x411 }
/-- [I -/
def k12 : Class := { plain "[I" (some 0) with kind := .array 11 .int, interfaces := #[7, 8], accessFlags := 1041 }

def heap : Heap := #[]
def classes : Array Class := #[k0, k1, k2, k3, k4, k5, k6, k7, k8, k9, k10, k11, k12]
def interned : List (Array UInt16 × Addr) := []
def slotsUsed : Nat := 0
def theMethod : MethodId := ⟨1, 1⟩
def args0 : Array Value := #[.int 5, .long 7, .long 900, .int 3]
def aboutOver (below : List Frame) : State where
  vm := { classes := classes, interned := interned.toArray }
  heap := heap
  slotsUsed := slotsUsed
  threads := #[{ frames := .invoking theMethod args0 :: below }]
def below0 : List Frame := [.native { method := ⟨0, 0⟩, args := #[] }]
def about1 : State := aboutOver below0
def p0 : Program := .bare "" "" ""
def e0 : Env := launch0.env 0 0 0
theorem w_frames : about1.frames = Frame.invoking theMethod args0 :: below0 := rfl
set_option maxRecDepth 65536 in
theorem w_args : argsFit about1.vm theMethod args0 = true := by decide +kernel
set_option maxRecDepth 65536 in
theorem w_heap : heapFits about1 = true := by decide +kernel
set_option maxRecDepth 65536 in
theorem w_runnable : about1.curStatus? = some .runnable := by decide +kernel
set_option maxRecDepth 65536 in
theorem w_alone : about1.alone = true := by decide +kernel
set_option maxRecDepth 65536 in
theorem w_named : about1.methodNamed? x = some theMethod := by decide +kernel
set_option maxRecDepth 65536 in
theorem w_hears : about1.hears theMethod below0 = true := by decide +kernel
set_option maxRecDepth 65536 in
theorem w_ripe : about1.ripe theMethod args0 below0 = true := by decide +kernel
theorem w_running : about1.status = .running := rfl
set_option maxRecDepth 65536 in
theorem w_room : about1.hasRoom e0.platform room_1 = true :=
  launch0.hasRoom_least _ room_1 (by decide +kernel) (by decide +kernel) (by decide +kernel) (by decide +kernel) (by decide +kernel) (by decide +kernel)
theorem allAtoms_all (ts : List Jvm.Cond) (a : Array Jvm.Value) (st : Jvm.State) : (allAtoms ts).before a st = ts.all (fun c => c.before a st) := by
  induction ts with
  | nil => rfl
  | cons c t ih =>
    show (Jvm.Cond.and c (allAtoms t)).before a st = _
    rw [Jvm.Cond.before_and, ih, List.all_cons]
def words1 : List Jvm.Cond := Jvm.Cond.code x code maxLocals ret :: tables_1
/-- a 'code' word, met by the world's own term for the bytes: nothing is compared byte by byte -/
theorem code_word {y : MethodName} {bytes : ByteArray} {mx : Nat} {rt : Option FieldType} {a : Array Value} {s : State} {m : MethodId} {meth : Method} {c : Code} (h1 : s.methodNamed? y = some m) (h2 : s.vm.method? m = some meth) (h3 : meth.code = some c) (h4 : c.code = bytes)
    (h5 : (c.maxLocals == mx && c.exceptionTable.isEmpty && decide (c.maxStack ≤ mostOperands) && decide (meth.sig.returnType = rt) && !meth.locks && decide (parseMethodDescriptor y.desc = some meth.sig)) = true) : (Jvm.Cond.code y bytes mx rt).before a s = true := by
  simp only [Bool.and_eq_true, beq_iff_eq, Bool.not_eq_true', decide_eq_true_eq] at h5
  obtain ⟨⟨⟨⟨⟨g1, g2⟩, g3⟩, g4⟩, g5⟩, g6⟩ := h5
  simp [Cond.before, Cond.holds, Cond.value, h1, h2, h3, h4, g1, g2, g3, g4, g5, g6]
def isCode : Jvm.Cond → Bool
  | .code _ _ _ _ => true
  | _ => false
theorem all_split {L : List Jvm.Cond} {P : Jvm.Cond → Bool} (h1 : L.all (fun c => isCode c || P c) = true) (h2 : ∀ c ∈ L.filter isCode, P c = true) : L.all P = true := by
  refine List.all_eq_true.mpr fun c hc => ?_
  have h := List.all_eq_true.mp h1 c hc
  rcases Bool.eq_false_or_eq_true (isCode c) with hi | hi
  · exact h2 c (List.mem_filter.mpr ⟨hc, hi⟩)
  · simpa [hi] using h
set_option maxRecDepth 65536 in
theorem w_c0 : (Jvm.Cond.code x code maxLocals ret).before args0 about1 = true := code_word (m := ⟨1, 1⟩) (meth := k1m1) (c := k1c1) (by decide +kernel) rfl rfl rfl (by decide +kernel)
set_option maxRecDepth 65536 in
theorem w_c1 : (Jvm.Cond.code ({ cls := "java/lang/Math", name := "max", desc := "(II)I" } : Jvm.MethodName) jdk_29_method_65_code (2 : Nat) (Option.some Jvm.ClassFile.FieldType.int)).before args0 about1 = true := code_word (m := ⟨2, 1⟩) (meth := k2m1) (c := k2c1) (by decide +kernel) rfl rfl rfl (by decide +kernel)
set_option maxRecDepth 65536 in
theorem w_c2 : (Jvm.Cond.code ({ cls := "com/example/keep1/keep1/model/JumpingWindowParameters", name := "<init>", desc := "(JIJI)V" } : Jvm.MethodName) prog_43_method_1_code (7 : Nat) (Option.none : Option Jvm.ClassFile.FieldType)).before args0 about1 = true := code_word (m := ⟨5, 0⟩) (meth := k5m0) (c := k5c0) (by decide +kernel) rfl rfl rfl (by decide +kernel)
set_option maxRecDepth 65536 in
theorem w_c3 : (Jvm.Cond.code ({ cls := "java/lang/Record", name := "<init>", desc := "()V" } : Jvm.MethodName) jdk_30_method_1_code (1 : Nat) (Option.none : Option Jvm.ClassFile.FieldType)).before args0 about1 = true := code_word (m := ⟨3, 0⟩) (meth := k3m0) (c := k3c0) (by decide +kernel) rfl rfl rfl (by decide +kernel)
set_option maxRecDepth 65536 in
theorem w_c4 : (Jvm.Cond.code ({ cls := "java/lang/Object", name := "<init>", desc := "()V" } : Jvm.MethodName) object_method_1_code (1 : Nat) (Option.none : Option Jvm.ClassFile.FieldType)).before args0 about1 = true := code_word (m := ⟨0, 0⟩) (meth := k0m0) (c := k0c0) (by decide +kernel) rfl rfl rfl (by decide +kernel)
set_option maxRecDepth 65536 in
theorem w_c5 : (Jvm.Cond.code ({ cls := "com/example/keep1/keep1/model/CellPositions", name := "check", desc := "(JI)V" } : Jvm.MethodName) prog_38_method_2_code (3 : Nat) (Option.none : Option Jvm.ClassFile.FieldType)).before args0 about1 = true := code_word (m := ⟨6, 1⟩) (meth := k6m1) (c := k6c1) (by decide +kernel) rfl rfl rfl (by decide +kernel)
set_option maxRecDepth 65536 in
theorem w_c6 : (Jvm.Cond.code ({ cls := "com/example/keep1/keep1/model/JumpingWindowParameters", name := "partCells", desc := "()J" } : Jvm.MethodName) prog_43_method_3_code (1 : Nat) (Option.some Jvm.ClassFile.FieldType.long)).before args0 about1 = true := code_word (m := ⟨5, 1⟩) (meth := k5m1) (c := k5c1) (by decide +kernel) rfl rfl rfl (by decide +kernel)
set_option maxRecDepth 65536 in
theorem w_c7 : (Jvm.Cond.code ({ cls := "com/example/keep1/keep1/model/CellPositions", name := "partCells", desc := "(JI)J" } : Jvm.MethodName) prog_38_method_3_code (3 : Nat) (Option.some Jvm.ClassFile.FieldType.long)).before args0 about1 = true := code_word (m := ⟨6, 2⟩) (meth := k6m2) (c := k6c2) (by decide +kernel) rfl rfl rfl (by decide +kernel)
def codes1 : List Jvm.Cond := [Jvm.Cond.code x code maxLocals ret, Jvm.Cond.code ({ cls := "java/lang/Math", name := "max", desc := "(II)I" } : Jvm.MethodName) jdk_29_method_65_code (2 : Nat) (Option.some Jvm.ClassFile.FieldType.int), Jvm.Cond.code ({ cls := "com/example/keep1/keep1/model/JumpingWindowParameters", name := "<init>", desc := "(JIJI)V" } : Jvm.MethodName) prog_43_method_1_code (7 : Nat) (Option.none : Option Jvm.ClassFile.FieldType), Jvm.Cond.code ({ cls := "java/lang/Record", name := "<init>", desc := "()V" } : Jvm.MethodName) jdk_30_method_1_code (1 : Nat) (Option.none : Option Jvm.ClassFile.FieldType), Jvm.Cond.code ({ cls := "java/lang/Object", name := "<init>", desc := "()V" } : Jvm.MethodName) object_method_1_code (1 : Nat) (Option.none : Option Jvm.ClassFile.FieldType), Jvm.Cond.code ({ cls := "com/example/keep1/keep1/model/CellPositions", name := "check", desc := "(JI)V" } : Jvm.MethodName) prog_38_method_2_code (3 : Nat) (Option.none : Option Jvm.ClassFile.FieldType), Jvm.Cond.code ({ cls := "com/example/keep1/keep1/model/JumpingWindowParameters", name := "partCells", desc := "()J" } : Jvm.MethodName) prog_43_method_3_code (1 : Nat) (Option.some Jvm.ClassFile.FieldType.long), Jvm.Cond.code ({ cls := "com/example/keep1/keep1/model/CellPositions", name := "partCells", desc := "(JI)J" } : Jvm.MethodName) prog_38_method_3_code (3 : Nat) (Option.some Jvm.ClassFile.FieldType.long)]
set_option maxRecDepth 65536 in
theorem codes_eq : words1.filter isCode = codes1 := rfl
theorem w_codes : ∀ c ∈ words1.filter isCode, c.before args0 about1 = true := by
  rw [codes_eq]
  intro c hc
  simp only [codes1, List.mem_cons, List.not_mem_nil, or_false] at hc
  rcases hc with rfl | rfl | rfl | rfl | rfl | rfl | rfl | rfl
  · exact w_c0
  · exact w_c1
  · exact w_c2
  · exact w_c3
  · exact w_c4
  · exact w_c5
  · exact w_c6
  · exact w_c7
set_option maxRecDepth 65536 in
theorem w_t1 : (words1.take 24).all (fun c => isCode c || c.before args0 about1) = true := by decide +kernel
set_option maxRecDepth 65536 in
theorem w_t2 : (words1.drop 24).all (fun c => isCode c || c.before args0 about1) = true := by decide +kernel
theorem w_tables : (allAtoms (Jvm.Cond.code x code maxLocals ret :: tables_1)).before args0 about1 = true := by
  rw [allAtoms_all]
  show words1.all (fun c => c.before args0 about1) = true
  refine all_split ?_ w_codes
  rw [← List.take_append_drop 24 words1, List.all_append, w_t1, w_t2]
  rfl
set_option maxRecDepth 65536 in
theorem w_case : (Jvm.Cond.and given_1 narrow_1).before args0 about1 = true := by decide +kernel
theorem w_applies : (headSpec (Jvm.Cond.code x code maxLocals ret :: tables_1) room_1).applies x e0.platform about1 = true :=
  (Spec.applies_iff w_frames).mpr ⟨w_running, w_runnable, w_alone, w_named, w_hears, w_ripe, w_room, w_tables⟩
theorem atStart : AtStart classFile x code maxLocals ret World_1 tables_1 room_1 Calls_1 rest_1 Pre_1 launch0 p0 e0 about1 theMethod args0 below0 :=
  ⟨lists_1, trivial, launch0.admits_env _ _ _, launch0.least_env, fairChoices_fair.cas, fairChoices_fair.clock, w_frames, w_args, w_heap, w_applies, trivial, trivial, w_case⟩
end start1
theorem witness_1 : WitnessClaimed_1 := ⟨start1.p0, start1.e0, start1.about1, start1.theMethod, start1.args0, start1.below0, start1.atStart⟩
end Jvm.Pilot.@@N@@
