import JvmDerived
import JvmDerived.Pilot.@@N@@Statement
import JvmDerived.Pilot.@@N@@Code
set_option linter.unusedVariables false
set_option linter.unusedSimpArgs false
namespace Jvm.Pilot.@@N@@
open Jvm Jvm.ClassFile Sem Op Lib Jvm.Free Jvm.Stand Jvm.LawKit Jvm.RoadKit Bundle Jvm.Pilot.@@N@@.Jvm.D
namespace Own
section Eng
/-- from the frame g over the heap h, with k cells and n slots made so far, every standing run ends as Fn says, having written at or above n0 alone -/
def Goes (p : Program) (l : Launch) (e : Env) (R : Room) (s : State) (m : MethodId) (args : Array Value) (below : List Frame) (meth : Method) (c : Code) (n0 mc ms : Nat) (Fn : Option Value → Heap → Prop) (h : Heap) (k n : Nat) (g : JFrame) : Prop :=
  ∀ (T : State) (locs : List Loc), Stand p l e R s m args below meth c T locs k n → Fr n0 locs → T.heap = h →
    ∃ (s₂ : State) (o : Outcome), Steps p.tables e below (T.setTop g) s₂ ∧ s₂.status = .running ∧ Ended s₂ below o ∧ ∃ (v : Option Value) (L : List Loc), o = .returned v ∧ (Fn v s₂.heap ∧ Fr n0 L) ∧ FrameEnd s o s₂ L mc ms
/-- the contract of a method at one list of arguments and one heap -/
def Does (l : Launch) (y : MethodName) (bytes : ByteArray) (maxL : Nat) (ret : Option FieldType) (ws : List Jvm.Cond) (rm : Room) (Z : State) (as' : Array Value) (h0 : Heap) (n0 : Nat) (Fn : Option Value → Heap → Prop) : Prop :=
  MetFree l y (head1 (Jvm.Cond.code y bytes maxL ret :: ws) rm) (fun a U => a = as' ∧ Z.Warmed39 U.vm ∧ U.heap = h0) (fun _ _ _ _ _ => True) (fun _ U o U' => ∃ v L, o = .returned v ∧ (Fn v U'.heap ∧ Fr n0 L) ∧ FrameEnd U o U' L rm.cells rm.slots)
variable {p : Program} {l : Launch} {e : Env} {R : Room} {s : State} {m : MethodId} {args : Array Value} {below : List Frame} {meth : Method} {c : Code} {n0 mc ms : Nat} {Fn : Option Value → Heap → Prop} {h : Heap} {k n : Nat}
theorem doesOf {y : MethodName} {bytes : ByteArray} {maxL : Nat} {ret : Option FieldType} {ws : List Jvm.Cond} {rm : Room} {Z : State} {as' : Array Value} {h0 : Heap} (hy : plainFor y = true)
    (body : ∀ (p : Program) (e : Env) (s : State) (m : MethodId) (below : List Frame) (meth : Method) (c : Code), p.tables.exec = Jvm.exec → c.code = bytes → c.maxLocals = maxL → meth.sig.returnType = ret → meth.locks = false → s.vm.findClass y.cls = some m.cls → meth.name = y.name → Z.Warmed39 s.vm →
      Goes p l e rm s m as' below meth c n0 rm.cells rm.slots Fn h0 0 0 (entryFrame m as' maxL)) : Does l y bytes maxL ret ws rm Z as' h0 n0 Fn := by
  refine MetFree.of_bodySF hy hisR ?_
  intro p e s m args below meth c s₁ Bd hml hP _
  obtain ⟨rfl, hZ, hh⟩ := hP
  have e0 : s₁.heap = h0 := by rw [← hh, Bd.state]; rfl
  obtain ⟨s₂, o, h1, h2, h3, h4⟩ := body p e s m below meth c Bd.exec Bd.bytes hml Bd.returns Bd.notSynchronized (findClass_of_methodNamed Bd.named) (name_of_methodNamed Bd.named Bd.method).1 hZ s₁ [] (Stand.of_body Bd) (Fr.nil n0) e0
  exact ⟨s₂, o, h1, h2, h3, h4⟩
theorem Goes.pure {g g' : JFrame} (st : ∀ (T : State) (locs : List Loc) (t : State), Stand p l e R s m args below meth c T locs k n → Steps p.tables e below (T.setTop g') t → Steps p.tables e below (T.setTop g) t) (K : Goes p l e R s m args below meth c n0 mc ms Fn h k n g') : Goes p l e R s m args below meth c n0 mc ms Fn h k n g := fun T locs X N eT => by
  obtain ⟨s₂, o, hs, r⟩ := K T locs X N eT
  exact ⟨s₂, o, st T locs s₂ X hs, r⟩
theorem Goes.move {g g' : JFrame} {k' n' : Nat} {Pr : Heap → Prop} (st : ∀ (T : State) (locs : List Loc), Stand p l e R s m args below meth c T locs k n → Fr n0 locs → T.heap = h → ∃ (T' : State) (locs' : List Loc), Stand p l e R s m args below meth c T' locs' k' n' ∧ Fr n0 locs' ∧ Pr T'.heap ∧ ∀ t, Steps p.tables e below (T'.setTop g') t → Steps p.tables e below (T.setTop g) t)
    (K : ∀ h', Pr h' → Goes p l e R s m args below meth c n0 mc ms Fn h' k' n' g') : Goes p l e R s m args below meth c n0 mc ms Fn h k n g := fun T locs X N eT => by
  obtain ⟨T', locs', X', N', hP, st'⟩ := st T locs X N eT
  obtain ⟨s₂, o, hs, r⟩ := K T'.heap hP T' locs' X' N' rfl
  exact ⟨s₂, o, st' s₂ hs, r⟩
theorem Goes.join {g : JFrame} (g' : JFrame) (K1 : Goes p l e R s m args below meth c n0 mc ms Fn h k n g' → Goes p l e R s m args below meth c n0 mc ms Fn h k n g) (K2 : Goes p l e R s m args below meth c n0 mc ms Fn h k n g') : Goes p l e R s m args below meth c n0 mc ms Fn h k n g := K1 K2
theorem Goes.cast {g g' : JFrame} (q : g = g') (K : Goes p l e R s m args below meth c n0 mc ms Fn h k n g') : Goes p l e R s m args below meth c n0 mc ms Fn h k n g := q ▸ K
theorem Goes.fin {Fn' : Option Value → Heap → Prop} {g : JFrame} (q : ∀ v h, Fn v h → Fn' v h) (K : Goes p l e R s m args below meth c n0 mc ms Fn h k n g) : Goes p l e R s m args below meth c n0 mc ms Fn' h k n g := fun T locs X N eT => by
  obtain ⟨s₂, o, h1, h2, h3, v, L, h4, ⟨h5, h6⟩, h7⟩ := K T locs X N eT
  exact ⟨s₂, o, h1, h2, h3, v, L, h4, ⟨q _ _ h5, h6⟩, h7⟩

theorem iadd (hx : p.tables.exec = Jvm.exec) {pc pc' : Nat} {Ls : Array Slot} {x y : Int32} {rest : List Value} (hd : decode c.code pc = .ok (.iadd, 1)) (hp : pc + 1 = pc') (K : Goes p l e R s m args below meth c n0 mc ms Fn h k n (mkF m pc' Ls (.int (x + y) :: rest))) : Goes p l e R s m args below meth c n0 mc ms Fn h k n (mkF m pc Ls (.int y :: .int x :: rest)) := by
  subst hp; exact K.pure fun T locs t X hs => XS.iadd X.here hx rfl hd rfl hs
theorem isub (hx : p.tables.exec = Jvm.exec) {pc pc' : Nat} {Ls : Array Slot} {x y : Int32} {rest : List Value} (hd : decode c.code pc = .ok (.isub, 1)) (hp : pc + 1 = pc') (K : Goes p l e R s m args below meth c n0 mc ms Fn h k n (mkF m pc' Ls (.int (x - y) :: rest))) : Goes p l e R s m args below meth c n0 mc ms Fn h k n (mkF m pc Ls (.int y :: .int x :: rest)) := by
  subst hp; exact K.pure fun T locs t X hs => XS.isub X.here hx rfl hd rfl hs
theorem imul (hx : p.tables.exec = Jvm.exec) {pc pc' : Nat} {Ls : Array Slot} {x y : Int32} {rest : List Value} (hd : decode c.code pc = .ok (.imul, 1)) (hp : pc + 1 = pc') (K : Goes p l e R s m args below meth c n0 mc ms Fn h k n (mkF m pc' Ls (.int (x * y) :: rest))) : Goes p l e R s m args below meth c n0 mc ms Fn h k n (mkF m pc Ls (.int y :: .int x :: rest)) := by
  subst hp; exact K.pure fun T locs t X hs => XS.imul X.here hx rfl hd rfl hs
theorem iand (hx : p.tables.exec = Jvm.exec) {pc pc' : Nat} {Ls : Array Slot} {x y : Int32} {rest : List Value} (hd : decode c.code pc = .ok (.iand, 1)) (hp : pc + 1 = pc') (K : Goes p l e R s m args below meth c n0 mc ms Fn h k n (mkF m pc' Ls (.int (x &&& y) :: rest))) : Goes p l e R s m args below meth c n0 mc ms Fn h k n (mkF m pc Ls (.int y :: .int x :: rest)) := by
  subst hp; exact K.pure fun T locs t X hs => XS.iand X.here hx rfl hd rfl hs
theorem ior (hx : p.tables.exec = Jvm.exec) {pc pc' : Nat} {Ls : Array Slot} {x y : Int32} {rest : List Value} (hd : decode c.code pc = .ok (.ior, 1)) (hp : pc + 1 = pc') (K : Goes p l e R s m args below meth c n0 mc ms Fn h k n (mkF m pc' Ls (.int (x ||| y) :: rest))) : Goes p l e R s m args below meth c n0 mc ms Fn h k n (mkF m pc Ls (.int y :: .int x :: rest)) := by
  subst hp; exact K.pure fun T locs t X hs => XS.ior X.here hx rfl hd rfl hs
theorem ixor (hx : p.tables.exec = Jvm.exec) {pc pc' : Nat} {Ls : Array Slot} {x y : Int32} {rest : List Value} (hd : decode c.code pc = .ok (.ixor, 1)) (hp : pc + 1 = pc') (K : Goes p l e R s m args below meth c n0 mc ms Fn h k n (mkF m pc' Ls (.int (x ^^^ y) :: rest))) : Goes p l e R s m args below meth c n0 mc ms Fn h k n (mkF m pc Ls (.int y :: .int x :: rest)) := by
  subst hp; exact K.pure fun T locs t X hs => XS.ixor X.here hx rfl hd rfl hs
theorem ishl (hx : p.tables.exec = Jvm.exec) {pc pc' : Nat} {Ls : Array Slot} {x y : Int32} {rest : List Value} (hd : decode c.code pc = .ok (.ishl, 1)) (hp : pc + 1 = pc') (K : Goes p l e R s m args below meth c n0 mc ms Fn h k n (mkF m pc' Ls (.int (x <<< (y &&& 31)) :: rest))) : Goes p l e R s m args below meth c n0 mc ms Fn h k n (mkF m pc Ls (.int y :: .int x :: rest)) := by
  subst hp; exact K.pure fun T locs t X hs => XS.ishl X.here hx rfl hd rfl hs
theorem ishr (hx : p.tables.exec = Jvm.exec) {pc pc' : Nat} {Ls : Array Slot} {x y : Int32} {rest : List Value} (hd : decode c.code pc = .ok (.ishr, 1)) (hp : pc + 1 = pc') (K : Goes p l e R s m args below meth c n0 mc ms Fn h k n (mkF m pc' Ls (.int (x >>> (y &&& 31)) :: rest))) : Goes p l e R s m args below meth c n0 mc ms Fn h k n (mkF m pc Ls (.int y :: .int x :: rest)) := by
  subst hp; exact K.pure fun T locs t X hs => XS.ishr X.here hx rfl hd rfl hs
theorem iushr (hx : p.tables.exec = Jvm.exec) {pc pc' : Nat} {Ls : Array Slot} {x y : Int32} {rest : List Value} (hd : decode c.code pc = .ok (.iushr, 1)) (hp : pc + 1 = pc') (K : Goes p l e R s m args below meth c n0 mc ms Fn h k n (mkF m pc' Ls (.int ((x.toUInt32 >>> (y &&& 31).toUInt32).toInt32) :: rest))) : Goes p l e R s m args below meth c n0 mc ms Fn h k n (mkF m pc Ls (.int y :: .int x :: rest)) := by
  subst hp; exact K.pure fun T locs t X hs => XS.iushr X.here hx rfl hd rfl hs
theorem ladd (hx : p.tables.exec = Jvm.exec) {pc pc' : Nat} {Ls : Array Slot} {x y : Int64} {rest : List Value} (hd : decode c.code pc = .ok (.ladd, 1)) (hp : pc + 1 = pc') (K : Goes p l e R s m args below meth c n0 mc ms Fn h k n (mkF m pc' Ls (.long (x + y) :: rest))) : Goes p l e R s m args below meth c n0 mc ms Fn h k n (mkF m pc Ls (.long y :: .long x :: rest)) := by
  subst hp; exact K.pure fun T locs t X hs => XS.ladd X.here hx rfl hd rfl hs
theorem lsub (hx : p.tables.exec = Jvm.exec) {pc pc' : Nat} {Ls : Array Slot} {x y : Int64} {rest : List Value} (hd : decode c.code pc = .ok (.lsub, 1)) (hp : pc + 1 = pc') (K : Goes p l e R s m args below meth c n0 mc ms Fn h k n (mkF m pc' Ls (.long (x - y) :: rest))) : Goes p l e R s m args below meth c n0 mc ms Fn h k n (mkF m pc Ls (.long y :: .long x :: rest)) := by
  subst hp; exact K.pure fun T locs t X hs => XS.lsub X.here hx rfl hd rfl hs
theorem lmul (hx : p.tables.exec = Jvm.exec) {pc pc' : Nat} {Ls : Array Slot} {x y : Int64} {rest : List Value} (hd : decode c.code pc = .ok (.lmul, 1)) (hp : pc + 1 = pc') (K : Goes p l e R s m args below meth c n0 mc ms Fn h k n (mkF m pc' Ls (.long (x * y) :: rest))) : Goes p l e R s m args below meth c n0 mc ms Fn h k n (mkF m pc Ls (.long y :: .long x :: rest)) := by
  subst hp; exact K.pure fun T locs t X hs => XS.lmul X.here hx rfl hd rfl hs
theorem land (hx : p.tables.exec = Jvm.exec) {pc pc' : Nat} {Ls : Array Slot} {x y : Int64} {rest : List Value} (hd : decode c.code pc = .ok (.land, 1)) (hp : pc + 1 = pc') (K : Goes p l e R s m args below meth c n0 mc ms Fn h k n (mkF m pc' Ls (.long (x &&& y) :: rest))) : Goes p l e R s m args below meth c n0 mc ms Fn h k n (mkF m pc Ls (.long y :: .long x :: rest)) := by
  subst hp; exact K.pure fun T locs t X hs => XS.land X.here hx rfl hd rfl hs
theorem lor (hx : p.tables.exec = Jvm.exec) {pc pc' : Nat} {Ls : Array Slot} {x y : Int64} {rest : List Value} (hd : decode c.code pc = .ok (.lor, 1)) (hp : pc + 1 = pc') (K : Goes p l e R s m args below meth c n0 mc ms Fn h k n (mkF m pc' Ls (.long (x ||| y) :: rest))) : Goes p l e R s m args below meth c n0 mc ms Fn h k n (mkF m pc Ls (.long y :: .long x :: rest)) := by
  subst hp; exact K.pure fun T locs t X hs => XS.lor X.here hx rfl hd rfl hs
theorem lxor (hx : p.tables.exec = Jvm.exec) {pc pc' : Nat} {Ls : Array Slot} {x y : Int64} {rest : List Value} (hd : decode c.code pc = .ok (.lxor, 1)) (hp : pc + 1 = pc') (K : Goes p l e R s m args below meth c n0 mc ms Fn h k n (mkF m pc' Ls (.long (x ^^^ y) :: rest))) : Goes p l e R s m args below meth c n0 mc ms Fn h k n (mkF m pc Ls (.long y :: .long x :: rest)) := by
  subst hp; exact K.pure fun T locs t X hs => XS.lxor X.here hx rfl hd rfl hs
theorem lshl (hx : p.tables.exec = Jvm.exec) {pc pc' : Nat} {Ls : Array Slot} {x : Int64} {y : Int32} {rest : List Value} (hd : decode c.code pc = .ok (.lshl, 1)) (hp : pc + 1 = pc') (K : Goes p l e R s m args below meth c n0 mc ms Fn h k n (mkF m pc' Ls (.long (x <<< (y &&& 0x3f).toInt64) :: rest))) : Goes p l e R s m args below meth c n0 mc ms Fn h k n (mkF m pc Ls (.int y :: .long x :: rest)) := by
  subst hp; exact K.pure fun T locs t X hs => XS.lshl X.here hx rfl hd rfl hs
theorem lshr (hx : p.tables.exec = Jvm.exec) {pc pc' : Nat} {Ls : Array Slot} {x : Int64} {y : Int32} {rest : List Value} (hd : decode c.code pc = .ok (.lshr, 1)) (hp : pc + 1 = pc') (K : Goes p l e R s m args below meth c n0 mc ms Fn h k n (mkF m pc' Ls (.long (x >>> (y &&& 0x3f).toInt64) :: rest))) : Goes p l e R s m args below meth c n0 mc ms Fn h k n (mkF m pc Ls (.int y :: .long x :: rest)) := by
  subst hp; exact K.pure fun T locs t X hs => XS.lshr X.here hx rfl hd rfl hs
theorem lushr (hx : p.tables.exec = Jvm.exec) {pc pc' : Nat} {Ls : Array Slot} {x : Int64} {y : Int32} {rest : List Value} (hd : decode c.code pc = .ok (.lushr, 1)) (hp : pc + 1 = pc') (K : Goes p l e R s m args below meth c n0 mc ms Fn h k n (mkF m pc' Ls (.long ((x.toUInt64 >>> (y &&& 0x3f).toInt64.toUInt64).toInt64) :: rest))) : Goes p l e R s m args below meth c n0 mc ms Fn h k n (mkF m pc Ls (.int y :: .long x :: rest)) := by
  subst hp; exact K.pure fun T locs t X hs => XS.lushr X.here hx rfl hd rfl hs
theorem lcmp (hx : p.tables.exec = Jvm.exec) {pc pc' : Nat} {Ls : Array Slot} {x y : Int64} {rest : List Value} (hd : decode c.code pc = .ok (.lcmp, 1)) (hp : pc + 1 = pc') (K : Goes p l e R s m args below meth c n0 mc ms Fn h k n (mkF m pc' Ls (.int (lcmpW x y) :: rest))) : Goes p l e R s m args below meth c n0 mc ms Fn h k n (mkF m pc Ls (.long y :: .long x :: rest)) := by
  subst hp; exact K.pure fun T locs t X hs => XS.lcmp X.here hx rfl hd rfl hs
theorem idiv (hx : p.tables.exec = Jvm.exec) {pc pc' : Nat} {Ls : Array Slot} {x y : Int32} {rest : List Value} (hd : decode c.code pc = .ok (.idiv, 1)) (hp : pc + 1 = pc') (hy : y ≠ 0) (K : Goes p l e R s m args below meth c n0 mc ms Fn h k n (mkF m pc' Ls (.int (x / y) :: rest))) : Goes p l e R s m args below meth c n0 mc ms Fn h k n (mkF m pc Ls (.int y :: .int x :: rest)) := by
  subst hp; exact K.pure fun T locs t X hs => XS.idiv X.here hx rfl hd rfl hy hs
theorem irem (hx : p.tables.exec = Jvm.exec) {pc pc' : Nat} {Ls : Array Slot} {x y : Int32} {rest : List Value} (hd : decode c.code pc = .ok (.irem, 1)) (hp : pc + 1 = pc') (hy : y ≠ 0) (K : Goes p l e R s m args below meth c n0 mc ms Fn h k n (mkF m pc' Ls (.int (x % y) :: rest))) : Goes p l e R s m args below meth c n0 mc ms Fn h k n (mkF m pc Ls (.int y :: .int x :: rest)) := by
  subst hp; exact K.pure fun T locs t X hs => iremM X hx rfl hd rfl hy hs
theorem ldiv (hx : p.tables.exec = Jvm.exec) {pc pc' : Nat} {Ls : Array Slot} {x y : Int64} {rest : List Value} (hd : decode c.code pc = .ok (.ldiv, 1)) (hp : pc + 1 = pc') (hy : y ≠ 0) (K : Goes p l e R s m args below meth c n0 mc ms Fn h k n (mkF m pc' Ls (.long (x / y) :: rest))) : Goes p l e R s m args below meth c n0 mc ms Fn h k n (mkF m pc Ls (.long y :: .long x :: rest)) := by
  subst hp; exact K.pure fun T locs t X hs => XS.ldiv X.here hx rfl hd rfl hy hs
theorem lrem (hx : p.tables.exec = Jvm.exec) {pc pc' : Nat} {Ls : Array Slot} {x y : Int64} {rest : List Value} (hd : decode c.code pc = .ok (.lrem, 1)) (hp : pc + 1 = pc') (hy : y ≠ 0) (K : Goes p l e R s m args below meth c n0 mc ms Fn h k n (mkF m pc' Ls (.long (x % y) :: rest))) : Goes p l e R s m args below meth c n0 mc ms Fn h k n (mkF m pc Ls (.long y :: .long x :: rest)) := by
  subst hp; exact K.pure fun T locs t X hs => XS.lrem X.here hx rfl hd rfl hy (by rw [lrem_mod]; exact hs)
theorem ineg (hx : p.tables.exec = Jvm.exec) {pc pc' : Nat} {Ls : Array Slot} {x : Int32} {rest : List Value} (hd : decode c.code pc = .ok (.ineg, 1)) (hp : pc + 1 = pc') (K : Goes p l e R s m args below meth c n0 mc ms Fn h k n (mkF m pc' Ls (.int (-x) :: rest))) : Goes p l e R s m args below meth c n0 mc ms Fn h k n (mkF m pc Ls (.int x :: rest)) := by
  subst hp; exact K.pure fun T locs t X hs => XS.ineg X.here hx rfl hd rfl hs
theorem lneg (hx : p.tables.exec = Jvm.exec) {pc pc' : Nat} {Ls : Array Slot} {x : Int64} {rest : List Value} (hd : decode c.code pc = .ok (.lneg, 1)) (hp : pc + 1 = pc') (K : Goes p l e R s m args below meth c n0 mc ms Fn h k n (mkF m pc' Ls (.long (-x) :: rest))) : Goes p l e R s m args below meth c n0 mc ms Fn h k n (mkF m pc Ls (.long x :: rest)) := by
  subst hp; exact K.pure fun T locs t X hs => XS.lneg X.here hx rfl hd rfl hs
theorem i2l (hx : p.tables.exec = Jvm.exec) {pc pc' : Nat} {Ls : Array Slot} {x : Int32} {rest : List Value} (hd : decode c.code pc = .ok (.i2l, 1)) (hp : pc + 1 = pc') (K : Goes p l e R s m args below meth c n0 mc ms Fn h k n (mkF m pc' Ls (.long (x.toInt64) :: rest))) : Goes p l e R s m args below meth c n0 mc ms Fn h k n (mkF m pc Ls (.int x :: rest)) := by
  subst hp; exact K.pure fun T locs t X hs => XS.i2l X.here hx rfl hd rfl hs
theorem l2i (hx : p.tables.exec = Jvm.exec) {pc pc' : Nat} {Ls : Array Slot} {x : Int64} {rest : List Value} (hd : decode c.code pc = .ok (.l2i, 1)) (hp : pc + 1 = pc') (K : Goes p l e R s m args below meth c n0 mc ms Fn h k n (mkF m pc' Ls (.int (x.toInt32) :: rest))) : Goes p l e R s m args below meth c n0 mc ms Fn h k n (mkF m pc Ls (.long x :: rest)) := by
  subst hp; exact K.pure fun T locs t X hs => XS.l2i X.here hx rfl hd rfl hs
theorem i2b (hx : p.tables.exec = Jvm.exec) {pc pc' : Nat} {Ls : Array Slot} {x : Int32} {rest : List Value} (hd : decode c.code pc = .ok (.i2b, 1)) (hp : pc + 1 = pc') (K : Goes p l e R s m args below meth c n0 mc ms Fn h k n (mkF m pc' Ls (.int (x.toInt8.toInt32) :: rest))) : Goes p l e R s m args below meth c n0 mc ms Fn h k n (mkF m pc Ls (.int x :: rest)) := by
  subst hp; exact K.pure fun T locs t X hs => XS.i2b X.here hx rfl hd rfl hs
theorem i2s (hx : p.tables.exec = Jvm.exec) {pc pc' : Nat} {Ls : Array Slot} {x : Int32} {rest : List Value} (hd : decode c.code pc = .ok (.i2s, 1)) (hp : pc + 1 = pc') (K : Goes p l e R s m args below meth c n0 mc ms Fn h k n (mkF m pc' Ls (.int (x.toInt16.toInt32) :: rest))) : Goes p l e R s m args below meth c n0 mc ms Fn h k n (mkF m pc Ls (.int x :: rest)) := by
  subst hp; exact K.pure fun T locs t X hs => XS.i2s X.here hx rfl hd rfl hs
theorem i2c (hx : p.tables.exec = Jvm.exec) {pc pc' : Nat} {Ls : Array Slot} {x : Int32} {rest : List Value} (hd : decode c.code pc = .ok (.i2c, 1)) (hp : pc + 1 = pc') (K : Goes p l e R s m args below meth c n0 mc ms Fn h k n (mkF m pc' Ls (.int (x.toUInt32.toUInt16.toUInt32.toInt32) :: rest))) : Goes p l e R s m args below meth c n0 mc ms Fn h k n (mkF m pc Ls (.int x :: rest)) := by
  subst hp; exact K.pure fun T locs t X hs => XS.i2c X.here hx rfl hd rfl hs
theorem iload (hx : p.tables.exec = Jvm.exec) {pc pc' i : Nat} {Ls : Array Slot} (x : Int32) {rest : List Value} (hd : decode c.code pc = .ok (.iload i, 2)) (hp : pc + 2 = pc') (hl : Ls[i]? = some (.val (.int x))) (K : Goes p l e R s m args below meth c n0 mc ms Fn h k n (mkF m pc' Ls (.int x :: rest))) : Goes p l e R s m args below meth c n0 mc ms Fn h k n (mkF m pc Ls rest) := by
  subst hp; exact K.pure fun T locs t X hs => XS.iload X.here hx rfl hd hl hs
theorem iloadN (hx : p.tables.exec = Jvm.exec) {pc pc' : Nat} {i : Fin 4} {Ls : Array Slot} (x : Int32) {rest : List Value} (hd : decode c.code pc = .ok (.iload_n i, 1)) (hp : pc + 1 = pc') (hl : Ls[i.val]? = some (.val (.int x))) (K : Goes p l e R s m args below meth c n0 mc ms Fn h k n (mkF m pc' Ls (.int x :: rest))) : Goes p l e R s m args below meth c n0 mc ms Fn h k n (mkF m pc Ls rest) := by
  subst hp; exact K.pure fun T locs t X hs => XS.iloadN X.here hx rfl hd hl hs
theorem lload (hx : p.tables.exec = Jvm.exec) {pc pc' i : Nat} {Ls : Array Slot} (x : Int64) {rest : List Value} (hd : decode c.code pc = .ok (.lload i, 2)) (hp : pc + 2 = pc') (hl : Ls[i]? = some (.val (.long x))) (K : Goes p l e R s m args below meth c n0 mc ms Fn h k n (mkF m pc' Ls (.long x :: rest))) : Goes p l e R s m args below meth c n0 mc ms Fn h k n (mkF m pc Ls rest) := by
  subst hp; exact K.pure fun T locs t X hs => XS.lload X.here hx rfl hd hl hs
theorem lloadN (hx : p.tables.exec = Jvm.exec) {pc pc' : Nat} {i : Fin 4} {Ls : Array Slot} (x : Int64) {rest : List Value} (hd : decode c.code pc = .ok (.lload_n i, 1)) (hp : pc + 1 = pc') (hl : Ls[i.val]? = some (.val (.long x))) (K : Goes p l e R s m args below meth c n0 mc ms Fn h k n (mkF m pc' Ls (.long x :: rest))) : Goes p l e R s m args below meth c n0 mc ms Fn h k n (mkF m pc Ls rest) := by
  subst hp; exact K.pure fun T locs t X hs => XS.lloadN X.here hx rfl hd hl hs
theorem aload (hx : p.tables.exec = Jvm.exec) {pc pc' i : Nat} {Ls : Array Slot} (x : Value) {rest : List Value} (hd : decode c.code pc = .ok (.aload i, 2)) (hp : pc + 2 = pc') (hl : Ls[i]? = some (.val x)) (hv : x.isRef = true) (K : Goes p l e R s m args below meth c n0 mc ms Fn h k n (mkF m pc' Ls (x :: rest))) : Goes p l e R s m args below meth c n0 mc ms Fn h k n (mkF m pc Ls rest) := by
  subst hp; exact K.pure fun T locs t X hs => XS.aload X.here hx rfl hd hl hv hs
theorem aloadN (hx : p.tables.exec = Jvm.exec) {pc pc' : Nat} {i : Fin 4} {Ls : Array Slot} (x : Value) {rest : List Value} (hd : decode c.code pc = .ok (.aload_n i, 1)) (hp : pc + 1 = pc') (hl : Ls[i.val]? = some (.val x)) (hv : x.isRef = true) (K : Goes p l e R s m args below meth c n0 mc ms Fn h k n (mkF m pc' Ls (x :: rest))) : Goes p l e R s m args below meth c n0 mc ms Fn h k n (mkF m pc Ls rest) := by
  subst hp; exact K.pure fun T locs t X hs => XS.aloadN X.here hx rfl hd hl hv hs
theorem istore (hx : p.tables.exec = Jvm.exec) {pc pc' i : Nat} {Ls : Array Slot} {x : Int32} (z : Int32) (hz : z = x) {rest : List Value} (Ls' : Array Slot) (hd : decode c.code pc = .ok (.istore i, 2)) (hp : pc + 2 = pc') (hl : storeLocals Ls i (.int z) = some Ls') (K : Goes p l e R s m args below meth c n0 mc ms Fn h k n (mkF m pc' Ls' rest)) : Goes p l e R s m args below meth c n0 mc ms Fn h k n (mkF m pc Ls (.int x :: rest)) := by
  subst hp hz; exact K.pure fun T locs t X hs => XS.istore X.here hx rfl hd rfl hl hs
theorem istoreN (hx : p.tables.exec = Jvm.exec) {pc pc' : Nat} {i : Fin 4} {Ls : Array Slot} {x : Int32} (z : Int32) (hz : z = x) {rest : List Value} (Ls' : Array Slot) (hd : decode c.code pc = .ok (.istore_n i, 1)) (hp : pc + 1 = pc') (hl : storeLocals Ls i.val (.int z) = some Ls') (K : Goes p l e R s m args below meth c n0 mc ms Fn h k n (mkF m pc' Ls' rest)) : Goes p l e R s m args below meth c n0 mc ms Fn h k n (mkF m pc Ls (.int x :: rest)) := by
  subst hp hz; exact K.pure fun T locs t X hs => XS.istoreN X.here hx rfl hd rfl hl hs
theorem lstore (hx : p.tables.exec = Jvm.exec) {pc pc' i : Nat} {Ls : Array Slot} {x : Int64} (z : Int64) (hz : z = x) {rest : List Value} (Ls' : Array Slot) (hd : decode c.code pc = .ok (.lstore i, 2)) (hp : pc + 2 = pc') (hl : storeLocals Ls i (.long z) = some Ls') (K : Goes p l e R s m args below meth c n0 mc ms Fn h k n (mkF m pc' Ls' rest)) : Goes p l e R s m args below meth c n0 mc ms Fn h k n (mkF m pc Ls (.long x :: rest)) := by
  subst hp hz; exact K.pure fun T locs t X hs => XS.lstore X.here hx rfl hd rfl hl hs
theorem lstoreN (hx : p.tables.exec = Jvm.exec) {pc pc' : Nat} {i : Fin 4} {Ls : Array Slot} {x : Int64} (z : Int64) (hz : z = x) {rest : List Value} (Ls' : Array Slot) (hd : decode c.code pc = .ok (.lstore_n i, 1)) (hp : pc + 1 = pc') (hl : storeLocals Ls i.val (.long z) = some Ls') (K : Goes p l e R s m args below meth c n0 mc ms Fn h k n (mkF m pc' Ls' rest)) : Goes p l e R s m args below meth c n0 mc ms Fn h k n (mkF m pc Ls (.long x :: rest)) := by
  subst hp hz; exact K.pure fun T locs t X hs => XS.lstoreN X.here hx rfl hd rfl hl hs
theorem astore (hx : p.tables.exec = Jvm.exec) {pc pc' i : Nat} {Ls : Array Slot} {x : Value} {rest : List Value} (Ls' : Array Slot) (hd : decode c.code pc = .ok (.astore i, 2)) (hp : pc + 2 = pc') (hv : x.isRef = true) (hl : storeLocals Ls i x = some Ls') (K : Goes p l e R s m args below meth c n0 mc ms Fn h k n (mkF m pc' Ls' rest)) : Goes p l e R s m args below meth c n0 mc ms Fn h k n (mkF m pc Ls (x :: rest)) := by
  subst hp; exact K.pure fun T locs t X hs => XS.astore X.here hx rfl hd rfl hv hl hs
theorem astoreN (hx : p.tables.exec = Jvm.exec) {pc pc' : Nat} {i : Fin 4} {Ls : Array Slot} {x : Value} {rest : List Value} (Ls' : Array Slot) (hd : decode c.code pc = .ok (.astore_n i, 1)) (hp : pc + 1 = pc') (hv : x.isRef = true) (hl : storeLocals Ls i.val x = some Ls') (K : Goes p l e R s m args below meth c n0 mc ms Fn h k n (mkF m pc' Ls' rest)) : Goes p l e R s m args below meth c n0 mc ms Fn h k n (mkF m pc Ls (x :: rest)) := by
  subst hp; exact K.pure fun T locs t X hs => XS.astoreN X.here hx rfl hd rfl hv hl hs
theorem iinc (hx : p.tables.exec = Jvm.exec) {pc pc' i : Nat} {ct : Int} {Ls : Array Slot} {x : Int32} (z : Int32) {rest : List Value} (Ls' : Array Slot) (hd : decode c.code pc = .ok (.iinc i ct, 3)) (hp : pc + 3 = pc') (hl : Ls[i]? = some (.val (.int x))) (hz : z = x + Int32.ofInt ct) (hl' : storeLocals Ls i (.int z) = some Ls') (K : Goes p l e R s m args below meth c n0 mc ms Fn h k n (mkF m pc' Ls' rest)) : Goes p l e R s m args below meth c n0 mc ms Fn h k n (mkF m pc Ls rest) := by
  subst hp hz; exact K.pure fun T locs t X hs => XS.iinc X.here hx rfl hd hl hl' hs
theorem iconst (hx : p.tables.exec = Jvm.exec) {pc pc' : Nat} {i : Int} {Ls : Array Slot} (z : Int32) {rest : List Value} (hd : decode c.code pc = .ok (.iconst i, 1)) (hp : pc + 1 = pc') (hz : Int32.ofInt i = z) (K : Goes p l e R s m args below meth c n0 mc ms Fn h k n (mkF m pc' Ls (.int z :: rest))) : Goes p l e R s m args below meth c n0 mc ms Fn h k n (mkF m pc Ls rest) := by
  subst hp hz; exact K.pure fun T locs t X hs => XS.iconst X.here hx rfl hd hs
theorem bipush (hx : p.tables.exec = Jvm.exec) {pc pc' : Nat} {i : Int} {Ls : Array Slot} (z : Int32) {rest : List Value} (hd : decode c.code pc = .ok (.bipush i, 2)) (hp : pc + 2 = pc') (hz : (Int8.ofInt i).toInt32 = z) (K : Goes p l e R s m args below meth c n0 mc ms Fn h k n (mkF m pc' Ls (.int z :: rest))) : Goes p l e R s m args below meth c n0 mc ms Fn h k n (mkF m pc Ls rest) := by
  subst hp hz; exact K.pure fun T locs t X hs => XS.bipush X.here hx rfl hd hs
theorem sipush (hx : p.tables.exec = Jvm.exec) {pc pc' : Nat} {i : Int} {Ls : Array Slot} (z : Int32) {rest : List Value} (hd : decode c.code pc = .ok (.sipush i, 3)) (hp : pc + 3 = pc') (hz : (Int16.ofInt i).toInt32 = z) (K : Goes p l e R s m args below meth c n0 mc ms Fn h k n (mkF m pc' Ls (.int z :: rest))) : Goes p l e R s m args below meth c n0 mc ms Fn h k n (mkF m pc Ls rest) := by
  subst hp hz; exact K.pure fun T locs t X hs => XS.sipush X.here hx rfl hd hs
theorem lconst (hx : p.tables.exec = Jvm.exec) {pc pc' : Nat} {i : Fin 2} {Ls : Array Slot} (z : Int64) {rest : List Value} (hd : decode c.code pc = .ok (.lconst i, 1)) (hp : pc + 1 = pc') (hz : Int64.ofNat i = z) (K : Goes p l e R s m args below meth c n0 mc ms Fn h k n (mkF m pc' Ls (.long z :: rest))) : Goes p l e R s m args below meth c n0 mc ms Fn h k n (mkF m pc Ls rest) := by
  subst hp hz; exact K.pure fun T locs t X hs => XS.lconst X.here hx rfl hd hs
theorem aconstNull (hx : p.tables.exec = Jvm.exec) {pc pc' : Nat} {Ls : Array Slot} {rest : List Value} (hd : decode c.code pc = .ok (.aconst_null, 1)) (hp : pc + 1 = pc') (K : Goes p l e R s m args below meth c n0 mc ms Fn h k n (mkF m pc' Ls (.null :: rest))) : Goes p l e R s m args below meth c n0 mc ms Fn h k n (mkF m pc Ls rest) := by
  subst hp; exact K.pure fun T locs t X hs => XS.aconstNull X.here hx rfl hd hs
theorem dup (hx : p.tables.exec = Jvm.exec) {pc pc' : Nat} {Ls : Array Slot} {x : Value} {rest : List Value} (hd : decode c.code pc = .ok (.dup, 1)) (hp : pc + 1 = pc') (hc : x.category = 1) (K : Goes p l e R s m args below meth c n0 mc ms Fn h k n (mkF m pc' Ls (x :: x :: rest))) : Goes p l e R s m args below meth c n0 mc ms Fn h k n (mkF m pc Ls (x :: rest)) := by
  subst hp; exact K.pure fun T locs t X hs => XS.dup X.here hx rfl hd rfl hc hs
theorem pop (hx : p.tables.exec = Jvm.exec) {pc pc' : Nat} {Ls : Array Slot} {x : Value} {rest : List Value} (hd : decode c.code pc = .ok (.pop, 1)) (hp : pc + 1 = pc') (hc : x.category = 1) (K : Goes p l e R s m args below meth c n0 mc ms Fn h k n (mkF m pc' Ls rest)) : Goes p l e R s m args below meth c n0 mc ms Fn h k n (mkF m pc Ls (x :: rest)) := by
  subst hp; exact K.pure fun T locs t X hs => XS.pop X.here hx rfl hd rfl hc hs
theorem dupX1 (hx : p.tables.exec = Jvm.exec) {pc pc' : Nat} {Ls : Array Slot} {x y : Value} {rest : List Value} (hd : decode c.code pc = .ok (.dup_x1, 1)) (hp : pc + 1 = pc') (hc : x.category = 1) (hc' : y.category = 1) (K : Goes p l e R s m args below meth c n0 mc ms Fn h k n (mkF m pc' Ls (x :: y :: x :: rest))) : Goes p l e R s m args below meth c n0 mc ms Fn h k n (mkF m pc Ls (x :: y :: rest)) := by
  subst hp; exact K.pure fun T locs t X hs => XS.dupX1 X.here hx rfl hd rfl hc hc' hs
theorem dup2 (hx : p.tables.exec = Jvm.exec) {pc pc' : Nat} {Ls : Array Slot} {x y : Value} {rest : List Value} (hd : decode c.code pc = .ok (.dup2, 1)) (hp : pc + 1 = pc') (hc : x.category = 1) (hc' : y.category = 1) (K : Goes p l e R s m args below meth c n0 mc ms Fn h k n (mkF m pc' Ls (x :: y :: x :: y :: rest))) : Goes p l e R s m args below meth c n0 mc ms Fn h k n (mkF m pc Ls (x :: y :: rest)) := by
  subst hp; exact K.pure fun T locs t X hs => XT.dup2 X.here hx rfl hd rfl hc hc' hs
theorem dup2L (hx : p.tables.exec = Jvm.exec) {pc pc' : Nat} {Ls : Array Slot} {x : Int64} {rest : List Value} (hd : decode c.code pc = .ok (.dup2, 1)) (hp : pc + 1 = pc') (K : Goes p l e R s m args below meth c n0 mc ms Fn h k n (mkF m pc' Ls (.long x :: .long x :: rest))) : Goes p l e R s m args below meth c n0 mc ms Fn h k n (mkF m pc Ls (.long x :: rest)) := by
  subst hp; exact K.pure fun T locs t X hs => XT.dup2L X.here hx rfl hd rfl hs
theorem goto (hx : p.tables.exec = Jvm.exec) {pc pc' : Nat} {o : Int} {Ls : Array Slot} {st : List Value} (hd : decode c.code pc = .ok (.goto o, 3)) (ho : 0 ≤ (pc : Int) + o) (hp : ((pc : Int) + o).toNat = pc') (K : Goes p l e R s m args below meth c n0 mc ms Fn h k n (mkF m pc' Ls st)) : Goes p l e R s m args below meth c n0 mc ms Fn h k n (mkF m pc Ls st) :=
  K.pure fun T locs t X hs => XS.goto X.here hx rfl rfl hd ho hp hs
theorem ifF (hx : p.tables.exec = Jvm.exec) {Pr : Prop} [Decidable Pr] {cd : ClassFile.Cond} {x : Int32} (hq : ifCond.holds cd x = decide Pr) {pc pcN pcT : Nat} {o : Int} {Ls : Array Slot} {rest : List Value} (hd : decode c.code pc = .ok (.ifCond cd o, 3)) (hn : pc + 3 = pcN) (ho : 0 ≤ (pc : Int) + o) (hp : ((pc : Int) + o).toNat = pcT)
    (KT : Pr → Goes p l e R s m args below meth c n0 mc ms Fn h k n (mkF m pcT Ls rest)) (KN : ¬ Pr → Goes p l e R s m args below meth c n0 mc ms Fn h k n (mkF m pcN Ls rest)) : Goes p l e R s m args below meth c n0 mc ms Fn h k n (mkF m pc Ls (.int x :: rest)) := by
  subst hn
  by_cases hP : Pr
  · exact (KT hP).pure fun T locs t X hs => XS.ifYes X.here hx rfl rfl hd rfl (by rw [hq]; exact decide_eq_true hP) ho hp hs
  · exact (KN hP).pure fun T locs t X hs => XS.ifNo X.here hx rfl hd rfl (by rw [hq]; exact decide_eq_false hP) hs
theorem icmpF (hx : p.tables.exec = Jvm.exec) {Pr : Prop} [Decidable Pr] {cd : ClassFile.Cond} {x y : Int32} (hq : if_icmp.holds cd x y = decide Pr) {pc pcN pcT : Nat} {o : Int} {Ls : Array Slot} {rest : List Value} (hd : decode c.code pc = .ok (.if_icmp cd o, 3)) (hn : pc + 3 = pcN) (ho : 0 ≤ (pc : Int) + o) (hp : ((pc : Int) + o).toNat = pcT)
    (KT : Pr → Goes p l e R s m args below meth c n0 mc ms Fn h k n (mkF m pcT Ls rest)) (KN : ¬ Pr → Goes p l e R s m args below meth c n0 mc ms Fn h k n (mkF m pcN Ls rest)) : Goes p l e R s m args below meth c n0 mc ms Fn h k n (mkF m pc Ls (.int y :: .int x :: rest)) := by
  subst hn
  by_cases hP : Pr
  · exact (KT hP).pure fun T locs t X hs => XS.icmpYes X.here hx rfl rfl hd rfl (by rw [hq]; exact decide_eq_true hP) ho hp hs
  · exact (KN hP).pure fun T locs t X hs => XS.icmpNo X.here hx rfl hd rfl (by rw [hq]; exact decide_eq_false hP) hs
theorem ifFn (hx : p.tables.exec = Jvm.exec) {Pr : Prop} [Decidable Pr] {cd : ClassFile.Cond} {x : Int32} (hq : ifCond.holds cd x = decide (¬ Pr)) {pc pcN pcT : Nat} {o : Int} {Ls : Array Slot} {rest : List Value} (hd : decode c.code pc = .ok (.ifCond cd o, 3)) (hn : pc + 3 = pcN) (ho : 0 ≤ (pc : Int) + o) (hp : ((pc : Int) + o).toNat = pcT)
    (KT : ¬ Pr → Goes p l e R s m args below meth c n0 mc ms Fn h k n (mkF m pcT Ls rest)) (KN : Pr → Goes p l e R s m args below meth c n0 mc ms Fn h k n (mkF m pcN Ls rest)) : Goes p l e R s m args below meth c n0 mc ms Fn h k n (mkF m pc Ls (.int x :: rest)) := ifF hx hq hd hn ho hp KT fun q => KN (Decidable.of_not_not q)
theorem icmpFn (hx : p.tables.exec = Jvm.exec) {Pr : Prop} [Decidable Pr] {cd : ClassFile.Cond} {x y : Int32} (hq : if_icmp.holds cd x y = decide (¬ Pr)) {pc pcN pcT : Nat} {o : Int} {Ls : Array Slot} {rest : List Value} (hd : decode c.code pc = .ok (.if_icmp cd o, 3)) (hn : pc + 3 = pcN) (ho : 0 ≤ (pc : Int) + o) (hp : ((pc : Int) + o).toNat = pcT)
    (KT : ¬ Pr → Goes p l e R s m args below meth c n0 mc ms Fn h k n (mkF m pcT Ls rest)) (KN : Pr → Goes p l e R s m args below meth c n0 mc ms Fn h k n (mkF m pcN Ls rest)) : Goes p l e R s m args below meth c n0 mc ms Fn h k n (mkF m pc Ls (.int y :: .int x :: rest)) := icmpF hx hq hd hn ho hp KT fun q => KN (Decidable.of_not_not q)
theorem q_eq (x y : Int32) : if_icmp.holds .eq x y = decide (x = y) := by by_cases q : x = y <;> simp [if_icmp.holds, q]
theorem q_ne (x y : Int32) : if_icmp.holds .ne x y = decide (¬ x = y) := by by_cases q : x = y <;> simp [if_icmp.holds, q]
theorem q_lt (x y : Int32) : if_icmp.holds .lt x y = decide (x < y) := by by_cases q : x < y <;> simp [q, (tlt ·), (flt ·)]
theorem q_ge (x y : Int32) : if_icmp.holds .ge x y = decide (¬ x < y) := by by_cases q : x < y <;> simp [q, (tlt ·), (flt ·)]
theorem q_gt (x y : Int32) : if_icmp.holds .gt x y = decide (y < x) := by by_cases q : y < x <;> simp [q, (tlt ·), (flt ·)]
theorem q_le (x y : Int32) : if_icmp.holds .le x y = decide (¬ y < x) := by by_cases q : y < x <;> simp [q, (tlt ·), (flt ·)]
theorem z_eq (x : Int32) : ifCond.holds .eq x = decide (x = 0) := (if0 _ _).trans (q_eq x 0)
theorem z_ne (x : Int32) : ifCond.holds .ne x = decide (¬ x = 0) := (if0 _ _).trans (q_ne x 0)
theorem z_lt (x : Int32) : ifCond.holds .lt x = decide (x < 0) := (if0 _ _).trans (q_lt x 0)
theorem z_ge (x : Int32) : ifCond.holds .ge x = decide (¬ x < 0) := (if0 _ _).trans (q_ge x 0)
theorem z_gt (x : Int32) : ifCond.holds .gt x = decide (0 < x) := (if0 _ _).trans (q_gt x 0)
theorem z_le (x : Int32) : ifCond.holds .le x = decide (¬ 0 < x) := (if0 _ _).trans (q_le x 0)
theorem w_eq (x y : Int64) : ifCond.holds .eq (lcmpW x y) = decide (x = y) := (z_eq _).trans (by simp only [lw_eq])
theorem w_ne (x y : Int64) : ifCond.holds .ne (lcmpW x y) = decide (¬ x = y) := (z_ne _).trans (by simp only [lw_eq])
theorem w_lt (x y : Int64) : ifCond.holds .lt (lcmpW x y) = decide (x < y) := (z_lt _).trans (by simp only [lw_lt])
theorem w_ge (x y : Int64) : ifCond.holds .ge (lcmpW x y) = decide (¬ x < y) := (z_ge _).trans (by simp only [lw_lt])
theorem w_gt (x y : Int64) : ifCond.holds .gt (lcmpW x y) = decide (y < x) := (z_gt _).trans (by simp only [lw_gt])
theorem w_le (x y : Int64) : ifCond.holds .le (lcmpW x y) = decide (¬ y < x) := (z_le _).trans (by simp only [lw_gt])
theorem ifnullN (hx : p.tables.exec = Jvm.exec) {pc pcN : Nat} {o : Int} {a : Addr} {Ls : Array Slot} {rest : List Value} (hd : decode c.code pc = .ok (.ifnull o, 3)) (hn : pc + 3 = pcN) (K : Goes p l e R s m args below meth c n0 mc ms Fn h k n (mkF m pcN Ls rest)) : Goes p l e R s m args below meth c n0 mc ms Fn h k n (mkF m pc Ls (.ref a :: rest)) := by
  subst hn; exact K.pure fun T locs t X hs => XS.ifnullNo X.here hx rfl hd rfl hs
theorem ifnullY (hx : p.tables.exec = Jvm.exec) {pc pcT : Nat} {o : Int} {Ls : Array Slot} {rest : List Value} (hd : decode c.code pc = .ok (.ifnull o, 3)) (ho : 0 ≤ (pc : Int) + o) (hp : ((pc : Int) + o).toNat = pcT) (K : Goes p l e R s m args below meth c n0 mc ms Fn h k n (mkF m pcT Ls rest)) : Goes p l e R s m args below meth c n0 mc ms Fn h k n (mkF m pc Ls (.null :: rest)) :=
  K.pure fun T locs t X hs => XS.ifnullYes X.here hx rfl rfl hd rfl ho hp hs
theorem ifnonnullN (hx : p.tables.exec = Jvm.exec) {pc pcN : Nat} {o : Int} {Ls : Array Slot} {rest : List Value} (hd : decode c.code pc = .ok (.ifnonnull o, 3)) (hn : pc + 3 = pcN) (K : Goes p l e R s m args below meth c n0 mc ms Fn h k n (mkF m pcN Ls rest)) : Goes p l e R s m args below meth c n0 mc ms Fn h k n (mkF m pc Ls (.null :: rest)) := by
  subst hn; exact K.pure fun T locs t X hs => XS.ifnonnullNo X.here hx rfl hd rfl hs
theorem ifnonnullY (hx : p.tables.exec = Jvm.exec) {pc pcT : Nat} {o : Int} {a : Addr} {Ls : Array Slot} {rest : List Value} (hd : decode c.code pc = .ok (.ifnonnull o, 3)) (ho : 0 ≤ (pc : Int) + o) (hp : ((pc : Int) + o).toNat = pcT) (K : Goes p l e R s m args below meth c n0 mc ms Fn h k n (mkF m pcT Ls rest)) : Goes p l e R s m args below meth c n0 mc ms Fn h k n (mkF m pc Ls (.ref a :: rest)) :=
  K.pure fun T locs t X hs => XS.ifnonnullYes X.here hx rfl rfl hd rfl ho hp hs
theorem ldc (hx : p.tables.exec = Jvm.exec) {Z : State} (hZ : Z.Warmed39 s.vm) {a0 : Array Value} {own : String} (hown : s.vm.findClass own = some m.cls) {pc pc' i : Nat} {Ls : Array Slot} (z : Int32) {rest : List Value} (hd : decode c.code pc = .ok (.ldc i, 2)) (hp : pc + 2 = pc') (w : (Jvm.Cond.constant own i z).before a0 Z = true) (K : Goes p l e R s m args below meth c n0 mc ms Fn h k n (mkF m pc' Ls (.int z :: rest))) : Goes p l e R s m args below meth c n0 mc ms Fn h k n (mkF m pc Ls rest) := by
  subst hp; exact K.pure fun T locs t X hs => X.ldcInt hx hown (mvT hZ w) (g := mkF m pc Ls rest) rfl hd t hs
theorem ldc2 (hx : p.tables.exec = Jvm.exec) {Z : State} (hZ : Z.Warmed39 s.vm) {a0 : Array Value} {own : String} (hown : s.vm.findClass own = some m.cls) {pc pc' i : Nat} {Ls : Array Slot} (z : Int64) {rest : List Value} (hd : decode c.code pc = .ok (.ldc2_w i, 3)) (hp : pc + 3 = pc') (w : (Jvm.Cond.constantLong own i z).before a0 Z = true) (K : Goes p l e R s m args below meth c n0 mc ms Fn h k n (mkF m pc' Ls (.long z :: rest))) : Goes p l e R s m args below meth c n0 mc ms Fn h k n (mkF m pc Ls rest) := by
  subst hp; exact K.pure fun T locs t X hs => X.ldc2Long hx hown (mvT hZ w) (g := mkF m pc Ls rest) rfl hd t hs
/-- the end of a walk -/
theorem endOf {v : Option Value} {g : JFrame} (hlk : meth.locks = false) (hv : meth.sig.returnType = none → v = none)
    (st : ∀ (T : State) (locs : List Loc) (fs : List Frame), Stand p l e R s m args below meth c T locs k n → (∀ (f : JFrame) (acts : List Action), f.method = m → f.locked = none → f.entered = [] → (doReturn e (T.setTop f) acts v).1 = T.setFrames fs) → Steps p.tables e below (T.setTop g) (T.setFrames fs))
    (hk : k ≤ mc) (hn : n ≤ ms) (hF : Fn v h) : Goes p l e R s m args below meth c n0 mc ms Fn h k n g := fun T locs X N eT => by
  obtain ⟨fs, hr, hrun, hended, hW, hsame⟩ := X.leave hv hlk
  refine ⟨_, _, st T locs fs X hr, hrun, hended, v, locs, rfl, ⟨?_, N⟩, ⟨_, rfl⟩, hW, hsame.mono hk hn⟩
  show Fn v T.heap
  rw [eT]; exact hF
theorem retI (hx : p.tables.exec = Jvm.exec) (hret : meth.sig.returnType = some .int) (hlk : meth.locks = false) {pc : Nat} {Ls : Array Slot} {z : Int32} {rest : List Value} (hd : decode c.code pc = .ok (.ireturn, 1)) (hk : k ≤ mc) (hn : n ≤ ms) (hF : Fn (some (.int z)) h) : Goes p l e R s m args below meth c n0 mc ms Fn h k n (mkF m pc Ls (.int z :: rest)) :=
  endOf hlk (fun q => by rw [hret] at q; cases q) (fun T locs fs X hr => retOut X hx hret rfl (Or.inl ⟨rfl, Or.inl rfl, _, rfl⟩) hd hr) hk hn hF
theorem retL (hx : p.tables.exec = Jvm.exec) (hret : meth.sig.returnType = some .long) (hlk : meth.locks = false) {pc : Nat} {Ls : Array Slot} {z : Int64} {rest : List Value} (hd : decode c.code pc = .ok (.lreturn, 1)) (hk : k ≤ mc) (hn : n ≤ ms) (hF : Fn (some (.long z)) h) : Goes p l e R s m args below meth c n0 mc ms Fn h k n (mkF m pc Ls (.long z :: rest)) :=
  endOf hlk (fun q => by rw [hret] at q; cases q) (fun T locs fs X hr => retOut X hx hret rfl (Or.inr (Or.inl ⟨rfl, rfl, _, rfl⟩)) hd hr) hk hn hF
theorem retA (hx : p.tables.exec = Jvm.exec) {ty : FieldType} (hret : meth.sig.returnType = some ty) (hty : ty.isReference = true) (hlk : meth.locks = false) {pc : Nat} {Ls : Array Slot} {w : Value} {rest : List Value} (hw : w.isRef = true) (hnr : narrow ty w = w) (hd : decode c.code pc = .ok (.areturn, 1)) (hk : k ≤ mc) (hn : n ≤ ms) (hF : Fn (some w) h) : Goes p l e R s m args below meth c n0 mc ms Fn h k n (mkF m pc Ls (w :: rest)) :=
  endOf hlk (fun q => by rw [hret] at q; cases q) (fun T locs fs X hr => retOut X hx hret hnr (Or.inr (Or.inr (Or.inr (Or.inr ⟨rfl, hty, hw⟩)))) hd hr) hk hn hF
theorem retS (hx : p.tables.exec = Jvm.exec) {ty : FieldType} (hret : meth.sig.returnType = some ty) (hty : ty = .boolean ∨ ty = .byte ∨ ty = .char ∨ ty = .short) (hlk : meth.locks = false) {pc : Nat} {Ls : Array Slot} {z : Int32} {rest : List Value} (hd : decode c.code pc = .ok (.ireturn, 1)) (hk : k ≤ mc) (hn : n ≤ ms) (hF : Fn (some (.int (nar ty z))) h) : Goes p l e R s m args below meth c n0 mc ms Fn h k n (mkF m pc Ls (.int z :: rest)) :=
  endOf hlk (fun q => by rw [hret] at q; cases q) (fun T locs fs X hr => retN X hx hret hty hd hr) hk hn hF
theorem retV (hx : p.tables.exec = Jvm.exec) (hret : meth.sig.returnType = none) (hlk : meth.locks = false) {pc : Nat} {Ls : Array Slot} (hd : decode c.code pc = .ok (.return_, 1)) (hk : k ≤ mc) (hn : n ≤ ms) (hF : Fn none h) : Goes p l e R s m args below meth c n0 mc ms Fn h k n (mkF m pc Ls []) :=
  endOf hlk (fun _ => rfl) (fun T locs fs X hr => X.returnOut hx hret hd hr) hk hn hF
/-- a static method by its contract -/
theorem callS (hx : p.tables.exec = Jvm.exec) {Z : State} (hZ : Z.Warmed39 s.vm) {a0 : Array Value} {own : String} (hown : s.vm.findClass own = some m.cls) {i : Nat} {y : MethodName} {bytes : ByteArray} {maxL : Nat} {ret : Option FieldType} {rm : Room} {F : Option Value → Heap → Prop} {argsL rest : List Value}
    (w1 : (Jvm.Cond.methodLink own i y).before a0 Z = true) (w2 : (Jvm.Cond.static y).before a0 Z = true) (w3 : (Jvm.Cond.initialized y.cls).before a0 Z = true) (w4 : (Jvm.Cond.code y bytes maxL ret).before a0 Z = true) (hy : y.cls ≠ "java/lang/invoke/MethodHandle" ∧ y.cls ≠ "java/lang/invoke/VarHandle")
    {sg : ClassFile.MethodDescriptor} (hsg : parseMethodDescriptor y.desc = some sg) (hlen : argsL.length = sg.parameters.length) {pc pc' : Nat} {Ls : Array Slot} {W : Nat} (hW : (rest.map fun v => v.category).sum ≤ W) (hf : rm.frames + 1 ≤ R.frames) (hl : W + (maxL + 11) + rm.locals ≤ R.locals) (hcl : k + rm.cells ≤ R.cells) (hsl : n + rm.slots ≤ R.slots)
    {k' n' : Nat} (hk' : k + rm.cells = k') (hn' : n + rm.slots = n') (hml : Ls.size = c.maxLocals) (st : List Value) (hst : st = argsL.reverse ++ rest) (hd : decode c.code pc = .ok (.invokestatic i, 3)) (hp : pc + 3 = pc') (D : Does l y bytes maxL ret [] rm Z argsL.toArray h n0 F)
    (K : ∀ v h', F v h' → Goes p l e R s m args below meth c n0 mc ms Fn h' k' n' (mkF m pc' Ls (v.toList ++ rest))) : Goes p l e R s m args below meth c n0 mc ms Fn h k n (mkF m pc Ls st) := fun T locs X N eT => by
  subst hp hst hk' hn'
  obtain ⟨v, _, ⟨T', L', k', n'⟩, -, X', ⟨Lc, hQ, l1, y1, z1⟩, st⟩ := Jvm.LawKit.callS X hx (y := y) hown (mvT hZ w1) (mvT hZ w2) (mvT hZ w3) (mvT hZ w4) hy (backOf (W := W) (Q := fun v h' L => F v h' ∧ Fr n0 L) D hZ w4 w3 hf hl) (g := mkF m pc Ls (argsL.reverse ++ rest)) rfl hml (argsL := argsL) (rest := rest) (lenOf hsg hlen) rfl (by show 2 * 0 + _ ≤ _; omega) hd (fun _ _ => ⟨rfl, eT, hcl, hsl⟩)
  dsimp only [Pt.U, Pt.locs, Pt.cells, Pt.slots] at X' l1 y1 z1 st hQ
  subst l1 y1 z1
  obtain ⟨s₂, o, hs, r⟩ := K v T'.heap hQ.1 T' _ X' (N.app hQ.2) rfl
  exact ⟨s₂, o, st _ hs, r⟩
theorem vI {x : Int32} (z : Int32) (q : x = z) {pc : Nat} {Ls : Array Slot} {rest : List Value} (K : Goes p l e R s m args below meth c n0 mc ms Fn h k n (mkF m pc Ls (.int z :: rest))) : Goes p l e R s m args below meth c n0 mc ms Fn h k n (mkF m pc Ls (.int x :: rest)) := by subst q; exact K
theorem vL {x : Int64} (z : Int64) (q : x = z) {pc : Nat} {Ls : Array Slot} {rest : List Value} (K : Goes p l e R s m args below meth c n0 mc ms Fn h k n (mkF m pc Ls (.long z :: rest))) : Goes p l e R s m args below meth c n0 mc ms Fn h k n (mkF m pc Ls (.long x :: rest)) := by subst q; exact K
theorem bool1 {z : Int32} (q : z = 1) : (some (Value.int (nar .boolean z)) : Option Value) = some (.int 1) := by subst q; rfl
end Eng
end Own
def fMul (a b : Int64) : Int64 := if a = 0 then 0 else if b = 0 then 0 else if (9223372036854775807 : Int64) / b < a then 9223372036854775807 else a * b
theorem d1_0 : decode prog_23_method_3_code 0 = .ok (.lload_n 0, 1) := by decide +kernel
theorem d1_1 : decode prog_23_method_3_code 1 = .ok (.lconst 0, 1) := by decide +kernel
theorem d1_2 : decode prog_23_method_3_code 2 = .ok (.lcmp, 1) := by decide +kernel
theorem d1_3 : decode prog_23_method_3_code 3 = .ok (.ifCond .eq 9, 3) := by decide +kernel
theorem d1_6 : decode prog_23_method_3_code 6 = .ok (.lload_n 2, 1) := by decide +kernel
theorem d1_7 : decode prog_23_method_3_code 7 = .ok (.lconst 0, 1) := by decide +kernel
theorem d1_8 : decode prog_23_method_3_code 8 = .ok (.lcmp, 1) := by decide +kernel
theorem d1_9 : decode prog_23_method_3_code 9 = .ok (.ifCond .ne 5, 3) := by decide +kernel
theorem d1_12 : decode prog_23_method_3_code 12 = .ok (.lconst 0, 1) := by decide +kernel
theorem d1_13 : decode prog_23_method_3_code 13 = .ok (.lreturn, 1) := by decide +kernel
theorem d1_14 : decode prog_23_method_3_code 14 = .ok (.lload_n 0, 1) := by decide +kernel
theorem d1_15 : decode prog_23_method_3_code 15 = .ok (.ldc2_w 11, 3) := by decide +kernel
theorem d1_18 : decode prog_23_method_3_code 18 = .ok (.lload_n 2, 1) := by decide +kernel
theorem d1_19 : decode prog_23_method_3_code 19 = .ok (.ldiv, 1) := by decide +kernel
theorem d1_20 : decode prog_23_method_3_code 20 = .ok (.lcmp, 1) := by decide +kernel
theorem d1_21 : decode prog_23_method_3_code 21 = .ok (.ifCond .le 9, 3) := by decide +kernel
theorem d1_24 : decode prog_23_method_3_code 24 = .ok (.ldc2_w 11, 3) := by decide +kernel
theorem d1_27 : decode prog_23_method_3_code 27 = .ok (.goto 6, 3) := by decide +kernel
theorem d1_30 : decode prog_23_method_3_code 30 = .ok (.lload_n 0, 1) := by decide +kernel
theorem d1_31 : decode prog_23_method_3_code 31 = .ok (.lload_n 2, 1) := by decide +kernel
theorem d1_32 : decode prog_23_method_3_code 32 = .ok (.lmul, 1) := by decide +kernel
theorem d1_33 : decode prog_23_method_3_code 33 = .ok (.lreturn, 1) := by decide +kernel
theorem pn0 : plainFor (⟨"com/example/twigline/twigline/matcher/Counts", "multiply", "(JJ)J"⟩ : MethodName) = true := by first | exact plainFor_of_name (by simp [plainName, overriddenIn]; done) | decide +kernel
theorem ef1 (m : MethodId) (q0 : Int64) (q1 : Int64) : entryFrame m #[(.long q0), (.long q1)] 4 = mkF m 0 #[.val (.long q0), .second, .val (.long q1), .second] [] := by first | (simp [entryFrame, mkF, argsToLocals, Value.category]; done) | rfl
set_option maxRecDepth 65536 in
set_option maxHeartbeats 40000000 in
theorem rm1 (l : Launch) (Z : State) (a0 : Array Value) (hw : ∀ d ∈ tables_1, d.before a0 Z = true) (q0 : Int64) (q1 : Int64) (h0 : Heap) (n0 : Nat)   : Own.Does l (⟨"com/example/twigline/twigline/matcher/Counts", "multiply", "(JJ)J"⟩ : MethodName) prog_23_method_3_code 4 (some .long) [] ({ frames := 0, cells := 0, slots := 0, locals := 0 } : Room) Z #[(.long q0), (.long q1)] h0 n0 (fun v h => v = some (.long (fMul q0 q1)) ∧ h = h0) := by
  refine Own.doesOf pn0 ?_
  intro p e s m below meth c hx hby hml hret hlk hown hnm hZ
  refine Own.Goes.cast (ef1 m q0 q1) ?_
  refine Own.lloadN hx q0 (hb hby d1_0) rfl rfl ?_
  refine Own.lconst hx (0 : Int64) (hb hby d1_1) rfl (by decide) ?_
  refine Own.lcmp hx (hb hby d1_2) rfl ?_
  refine Own.ifF hx (Own.w_eq q0 (0 : Int64)) (hb hby d1_3) (pcN := 6) rfl (by decide) (pcT := 12) rfl (fun hc1 => ?_) (fun hc1 => ?_)
  · refine Own.lconst hx (0 : Int64) (hb hby d1_12) rfl (by decide) ?_
    exact Own.retL hx hret hlk (hb hby d1_13) (by decide) (by decide) ⟨by simp only [fMul, if_pos hc1], rfl⟩
  · refine Own.lloadN hx q1 (hb hby d1_6) rfl rfl ?_
    refine Own.lconst hx (0 : Int64) (hb hby d1_7) rfl (by decide) ?_
    refine Own.lcmp hx (hb hby d1_8) rfl ?_
    refine Own.ifFn hx (Own.w_ne q1 (0 : Int64)) (hb hby d1_9) (pcN := 12) rfl (by decide) (pcT := 14) rfl (fun hc2 => ?_) (fun hc2 => ?_)
    · refine Own.lloadN hx q0 (hb hby d1_14) rfl rfl ?_
      refine Own.ldc2 hx hZ hown (9223372036854775807 : Int64) (hb hby d1_15) rfl (hw _ (List.mem_of_getElem? (i := 5) rfl)) ?_
      refine Own.lloadN hx q1 (hb hby d1_18) rfl rfl ?_
      refine Own.ldiv hx (hb hby d1_19) rfl ‹¬ q1 = 0› ?_
      refine Own.lcmp hx (hb hby d1_20) rfl ?_
      obtain ⟨v4, h_v4⟩ : ∃ z : Int64, z = (if ((9223372036854775807 : Int64) / q1) < q0 then (9223372036854775807 : Int64) else (q0 * q1)) := ⟨_, rfl⟩
      refine Own.Goes.join (mkF m 33 #[.val (.long q0), .second, .val (.long q1), .second] [(.long v4)]) (fun kJ5 => ?_) ?_
      · refine Own.ifFn hx (Own.w_le q0 ((9223372036854775807 : Int64) / q1)) (hb hby d1_21) (pcN := 24) rfl (by decide) (pcT := 30) rfl (fun hc3 => ?_) (fun hc3 => ?_)
        · refine Own.lloadN hx q0 (hb hby d1_30) rfl rfl ?_
          refine Own.lloadN hx q1 (hb hby d1_31) rfl rfl ?_
          refine Own.lmul hx (hb hby d1_32) rfl ?_
          try simp only [if_neg hc1, if_neg hc2, if_neg hc3] at h_v4
          subst h_v4
          exact kJ5
        · refine Own.ldc2 hx hZ hown (9223372036854775807 : Int64) (hb hby d1_24) rfl (hw _ (List.mem_of_getElem? (i := 5) rfl)) ?_
          refine Own.goto hx (hb hby d1_27) (by decide) (pc' := 33) rfl ?_
          try simp only [if_neg hc1, if_neg hc2, if_pos hc3] at h_v4
          subst h_v4
          exact kJ5
      exact Own.retL hx hret hlk (hb hby d1_33) (by decide) (by decide) ⟨by subst h_v4; simp only [fMul, if_neg hc1, if_neg hc2], rfl⟩
    · refine Own.lconst hx (0 : Int64) (hb hby d1_12) rfl (by decide) ?_
      exact Own.retL hx hret hlk (hb hby d1_13) (by decide) (by decide) ⟨by simp only [fMul, if_neg hc1, if_pos hc2], rfl⟩

theorem own_nn (q : Int64) : 0 ≤ (q &&& (9223372036854775807 : Int64)).toInt := by
  rw [c_maskL q (9223372036854775807 : Int64) 63 (by decide) (by decide)]
  exact Int.emod_nonneg _ (by decide)
theorem own_pos {q : Int64} (h : 0 ≤ q.toInt) (hz : ¬ q = 0) : 0 < q.toInt := by
  rcases Int.lt_or_eq_of_le h with h1 | h1
  · exact h1
  · exact absurd (Int64.toInt_inj.mp (show q.toInt = (0 : Int64).toInt from h1.symm)) hz
theorem own_div (a : Int64) (ha : 0 < a.toInt) : ((9223372036854775807 : Int64) / a).toInt = 9223372036854775807 / a.toInt := by
  have hM : (9223372036854775807 : Int64).toInt = 9223372036854775807 := by decide
  have h1 : a ≠ -1 := fun q => by rw [q] at ha; exact absurd ha (by decide)
  have h := (c_ldiv (9223372036854775807 : Int64) a a.toInt rfl h1).1 (by decide)
  rw [h, hM]
theorem own_div_iff {a b : Int64} (ha : 0 < a.toInt) (hb' : 0 < b.toInt) : ((9223372036854775807 : Int64) / b < a) ↔ ((9223372036854775807 : Int64) / a < b) := by
  rw [Int64.lt_iff_toInt_lt, Int64.lt_iff_toInt_lt, own_div a ha, own_div b hb', Int.ediv_lt_iff_lt_mul hb', Int.ediv_lt_iff_lt_mul ha, Int.mul_comm]
theorem own_fin {a b r : Int64} {z : Int32} (pa : 0 < a.toInt) (pb : 0 < b.toInt) (na : ¬ a = 0) (nb : ¬ b = 0) (h_r : r = fMul a b) (h_z : z = (if ((9223372036854775807 : Int64) / a) < b then (1 : Int32) else (0 : Int32))) :
    (z = (0 : Int32) → r = a * b) ∧ (¬ z = (0 : Int32) → r = (9223372036854775807 : Int64)) := by
  have hi := own_div_iff pa pb
  rw [h_r]; unfold fMul
  rw [if_neg na, if_neg nb]
  by_cases q : (9223372036854775807 : Int64) / a < b
  · rw [if_pos (hi.mpr q)]
    rw [if_pos q] at h_z
    exact ⟨fun z0 => absurd (h_z.symm.trans z0) (by decide), fun _ => rfl⟩
  · rw [if_neg (fun u => q (hi.mp u))]
    rw [if_neg q] at h_z
    exact ⟨fun _ => rfl, fun z0 => absurd h_z z0⟩

theorem pd0 : parseMethodDescriptor "(JJ)J" = some ⟨[.long, .long], some .long⟩ := by decide +kernel
theorem pn1 : plainFor (⟨"com/example/twigline/twigline/matcher/CountsMultiplyPinLaw", "law", "(JJ)Z"⟩ : MethodName) = true := by first | exact plainFor_of_name (by simp [plainName, overriddenIn]; done) | decide +kernel
theorem ef0 (m : MethodId) (q0 : Int64) (q1 : Int64) : entryFrame m #[(.long q0), (.long q1)] maxLocals = mkF m 0 #[.val (.long q0), .second, .val (.long q1), .second, .unset, .unset, .unset, .unset, .unset, .unset, .unset] [] := by first | (simp [entryFrame, mkF, argsToLocals, Value.category, maxLocals]; done) | rfl
set_option maxRecDepth 65536 in
set_option maxHeartbeats 40000000 in
theorem rm0 (l : Launch) (Z : State) (a0 : Array Value) (hw : ∀ d ∈ tables_1, d.before a0 Z = true) (q0 : Int64) (q1 : Int64) (h0 : Heap) (n0 : Nat)   : Own.Does l x code maxLocals ret tables_1 room_1 Z #[(.long q0), (.long q1)] h0 n0 (fun v _ => v = some (.int 1)) := by
  refine Own.doesOf pn1 ?_
  intro p e s m below meth c hx hby hml hret hlk hown hnm hZ
  replace hml : c.maxLocals = 11 := hml
  replace hown : s.vm.findClass "com/example/twigline/twigline/matcher/CountsMultiplyPinLaw" = some m.cls := hown
  replace hret : meth.sig.returnType = (some .boolean) := hret
  refine Own.Goes.cast (ef0 m q0 q1) ?_
  refine Own.lloadN hx q0 (hb hby at_0) rfl rfl ?_
  refine Own.ldc2 hx hZ hown (9223372036854775807 : Int64) (hb hby at_1) rfl (hw _ (List.mem_of_getElem? (i := 0) rfl)) ?_
  refine Own.land hx (hb hby at_4) rfl ?_
  obtain ⟨ax, h_ax⟩ : ∃ z : Int64, z = (q0 &&& (9223372036854775807 : Int64)) := ⟨_, rfl⟩
  refine Own.lstore hx ax h_ax #[.val (.long q0), .second, .val (.long q1), .second, .val (.long ax), .second, .unset, .unset, .unset, .unset, .unset] (hb hby at_5) rfl rfl ?_
  refine Own.lloadN hx q1 (hb hby at_7) rfl rfl ?_
  refine Own.ldc2 hx hZ hown (9223372036854775807 : Int64) (hb hby at_8) rfl (hw _ (List.mem_of_getElem? (i := 0) rfl)) ?_
  refine Own.land hx (hb hby at_11) rfl ?_
  obtain ⟨bx, h_bx⟩ : ∃ z : Int64, z = (q1 &&& (9223372036854775807 : Int64)) := ⟨_, rfl⟩
  refine Own.lstore hx bx h_bx #[.val (.long q0), .second, .val (.long q1), .second, .val (.long ax), .second, .val (.long bx), .second, .unset, .unset, .unset] (hb hby at_12) rfl rfl ?_
  refine Own.lload hx ax (hb hby at_14) rfl rfl ?_
  refine Own.lload hx bx (hb hby at_16) rfl rfl ?_
  refine Own.callS hx hZ hown (hw _ (List.mem_of_getElem? (i := 1) rfl)) (hw _ (List.mem_of_getElem? (i := 2) rfl)) (hw _ (List.mem_of_getElem? (i := 3) rfl)) (hw _ (List.mem_of_getElem? (i := 4) rfl)) (by decide) pd0 (argsL := [(.long ax), (.long bx)]) (rest := []) rfl (W := 0) (Nat.le_of_eq rfl) (rm := ({ frames := 0, cells := 0, slots := 0, locals := 0 } : Room)) (by decide) (by decide) (by decide) (by decide) (k' := 0) (n' := 0) rfl rfl (by rw [hml]; rfl) [(.long bx), (.long ax)] rfl (hb hby at_18) (pc' := 21) rfl (rm1 l Z a0 hw ax bx h0 n0) ?_
  rintro _ h' ⟨rfl, eh⟩
  rw [eh]; clear eh h'
  show Own.Goes _ _ _ _ _ _ _ _ _ _ _ _ _ _ _ _ _ (mkF m 21 #[.val (.long q0), .second, .val (.long q1), .second, .val (.long ax), .second, .val (.long bx), .second, .unset, .unset, .unset] [(.long (fMul ax bx))])
  obtain ⟨r, h_r⟩ : ∃ z : Int64, z = (fMul ax bx) := ⟨_, rfl⟩
  refine Own.lstore hx r h_r #[.val (.long q0), .second, .val (.long q1), .second, .val (.long ax), .second, .val (.long bx), .second, .val (.long r), .second, .unset] (hb hby at_21) rfl rfl ?_
  refine Own.lload hx ax (hb hby at_23) rfl rfl ?_
  refine Own.lconst hx (0 : Int64) (hb hby at_25) rfl (by decide) ?_
  refine Own.lcmp hx (hb hby at_26) rfl ?_
  refine Own.ifF hx (Own.w_eq ax (0 : Int64)) (hb hby at_27) (pcN := 30) rfl (by decide) (pcT := 37) rfl (fun hc1 => ?_) (fun hc1 => ?_)
  · refine Own.lload hx r (hb hby at_37) rfl rfl ?_
    refine Own.lconst hx (0 : Int64) (hb hby at_39) rfl (by decide) ?_
    refine Own.lcmp hx (hb hby at_40) rfl ?_
    obtain ⟨v3, h_v3⟩ : ∃ z : Int32, z = (if r = (0 : Int64) then (1 : Int32) else (0 : Int32)) := ⟨_, rfl⟩
    refine Own.Goes.join (mkF m 49 #[.val (.long q0), .second, .val (.long q1), .second, .val (.long ax), .second, .val (.long bx), .second, .val (.long r), .second, .unset] [(.int v3)]) (fun kJ4 => ?_) ?_
    · refine Own.ifFn hx (Own.w_ne r (0 : Int64)) (hb hby at_41) (pcN := 44) rfl (by decide) (pcT := 48) rfl (fun hc2 => ?_) (fun hc2 => ?_)
      · refine Own.iconst hx (0 : Int32) (hb hby at_48) rfl (by decide) ?_
        try simp only [if_pos hc1, if_neg hc2] at h_v3
        subst h_v3
        exact kJ4
      · refine Own.iconst hx (1 : Int32) (hb hby at_44) rfl (by decide) ?_
        refine Own.goto hx (hb hby at_45) (by decide) (pc' := 49) rfl ?_
        try simp only [if_pos hc1, if_pos hc2] at h_v3
        subst h_v3
        exact kJ4
    exact Own.retS hx hret (by simp) hlk (hb hby at_49) (by decide) (by decide) (Own.bool1 (by rw [h_v3, h_r]; simp [fMul, hc1]))
  · refine Own.lload hx bx (hb hby at_30) rfl rfl ?_
    refine Own.lconst hx (0 : Int64) (hb hby at_32) rfl (by decide) ?_
    refine Own.lcmp hx (hb hby at_33) rfl ?_
    refine Own.ifFn hx (Own.w_ne bx (0 : Int64)) (hb hby at_34) (pcN := 37) rfl (by decide) (pcT := 50) rfl (fun hc5 => ?_) (fun hc5 => ?_)
    · refine Own.lload hx bx (hb hby at_50) rfl rfl ?_
      refine Own.ldc2 hx hZ hown (9223372036854775807 : Int64) (hb hby at_52) rfl (hw _ (List.mem_of_getElem? (i := 0) rfl)) ?_
      refine Own.lload hx ax (hb hby at_55) rfl rfl ?_
      refine Own.ldiv hx (hb hby at_57) rfl ‹¬ ax = 0› ?_
      refine Own.lcmp hx (hb hby at_58) rfl ?_
      obtain ⟨z, h_z⟩ : ∃ z : Int32, z = (if ((9223372036854775807 : Int64) / ax) < bx then (1 : Int32) else (0 : Int32)) := ⟨_, rfl⟩
      refine Own.Goes.join (mkF m 67 #[.val (.long q0), .second, .val (.long q1), .second, .val (.long ax), .second, .val (.long bx), .second, .val (.long r), .second, .unset] [(.int z)]) (fun kJ7 => ?_) ?_
      · refine Own.ifFn hx (Own.w_le bx ((9223372036854775807 : Int64) / ax)) (hb hby at_59) (pcN := 62) rfl (by decide) (pcT := 66) rfl (fun hc6 => ?_) (fun hc6 => ?_)
        · refine Own.iconst hx (0 : Int32) (hb hby at_66) rfl (by decide) ?_
          try simp only [if_neg hc1, if_neg hc5, if_neg hc6] at h_z
          subst h_z
          exact kJ7
        · refine Own.iconst hx (1 : Int32) (hb hby at_62) rfl (by decide) ?_
          refine Own.goto hx (hb hby at_63) (by decide) (pc' := 67) rfl ?_
          try simp only [if_neg hc1, if_neg hc5, if_pos hc6] at h_z
          subst h_z
          exact kJ7
      refine Own.istore hx z rfl #[.val (.long q0), .second, .val (.long q1), .second, .val (.long ax), .second, .val (.long bx), .second, .val (.long r), .second, .val (.int z)] (hb hby at_67) rfl rfl ?_
      refine Own.iload hx z (hb hby at_69) rfl rfl ?_
      refine Own.ifF hx (Own.z_eq z) (hb hby at_71) (pcN := 74) rfl (by decide) (pcT := 89) rfl (fun hc8 => ?_) (fun hc8 => ?_)
      · refine Own.lload hx r (hb hby at_89) rfl rfl ?_
        refine Own.lload hx ax (hb hby at_91) rfl rfl ?_
        refine Own.lload hx bx (hb hby at_93) rfl rfl ?_
        refine Own.lmul hx (hb hby at_95) rfl ?_
        refine Own.lcmp hx (hb hby at_96) rfl ?_
        obtain ⟨v10, h_v10⟩ : ∃ z : Int32, z = (if r = (ax * bx) then (1 : Int32) else (0 : Int32)) := ⟨_, rfl⟩
        refine Own.Goes.join (mkF m 105 #[.val (.long q0), .second, .val (.long q1), .second, .val (.long ax), .second, .val (.long bx), .second, .val (.long r), .second, .val (.int z)] [(.int v10)]) (fun kJ11 => ?_) ?_
        · refine Own.ifFn hx (Own.w_ne r (ax * bx)) (hb hby at_97) (pcN := 100) rfl (by decide) (pcT := 104) rfl (fun hc9 => ?_) (fun hc9 => ?_)
          · refine Own.iconst hx (0 : Int32) (hb hby at_104) rfl (by decide) ?_
            try simp only [if_neg hc1, if_neg hc5, if_pos hc8, if_neg hc9] at h_v10
            subst h_v10
            exact kJ11
          · refine Own.iconst hx (1 : Int32) (hb hby at_100) rfl (by decide) ?_
            refine Own.goto hx (hb hby at_101) (by decide) (pc' := 105) rfl ?_
            try simp only [if_neg hc1, if_neg hc5, if_pos hc8, if_pos hc9] at h_v10
            subst h_v10
            exact kJ11
        exact Own.retS hx hret (by simp) hlk (hb hby at_105) (by decide) (by decide) (Own.bool1 (by rw [h_v10, if_pos ((own_fin (own_pos (h_ax ▸ own_nn q0) ‹¬ ax = 0›) (own_pos (h_bx ▸ own_nn q1) ‹¬ bx = 0›) ‹¬ ax = 0› ‹¬ bx = 0› h_r h_z).1 hc8)]))
      · refine Own.lload hx r (hb hby at_74) rfl rfl ?_
        refine Own.ldc2 hx hZ hown (9223372036854775807 : Int64) (hb hby at_76) rfl (hw _ (List.mem_of_getElem? (i := 0) rfl)) ?_
        refine Own.lcmp hx (hb hby at_79) rfl ?_
        obtain ⟨v13, h_v13⟩ : ∃ z : Int32, z = (if r = (9223372036854775807 : Int64) then (1 : Int32) else (0 : Int32)) := ⟨_, rfl⟩
        refine Own.Goes.join (mkF m 88 #[.val (.long q0), .second, .val (.long q1), .second, .val (.long ax), .second, .val (.long bx), .second, .val (.long r), .second, .val (.int z)] [(.int v13)]) (fun kJ14 => ?_) ?_
        · refine Own.ifFn hx (Own.w_ne r (9223372036854775807 : Int64)) (hb hby at_80) (pcN := 83) rfl (by decide) (pcT := 87) rfl (fun hc12 => ?_) (fun hc12 => ?_)
          · refine Own.iconst hx (0 : Int32) (hb hby at_87) rfl (by decide) ?_
            try simp only [if_neg hc1, if_neg hc5, if_neg hc8, if_neg hc12] at h_v13
            subst h_v13
            exact kJ14
          · refine Own.iconst hx (1 : Int32) (hb hby at_83) rfl (by decide) ?_
            refine Own.goto hx (hb hby at_84) (by decide) (pc' := 88) rfl ?_
            try simp only [if_neg hc1, if_neg hc5, if_neg hc8, if_pos hc12] at h_v13
            subst h_v13
            exact kJ14
        exact Own.retS hx hret (by simp) hlk (hb hby at_88) (by decide) (by decide) (Own.bool1 (by rw [h_v13, if_pos ((own_fin (own_pos (h_ax ▸ own_nn q0) ‹¬ ax = 0›) (own_pos (h_bx ▸ own_nn q1) ‹¬ bx = 0›) ‹¬ ax = 0› ‹¬ bx = 0› h_r h_z).2 hc8)]))
    · refine Own.lload hx r (hb hby at_37) rfl rfl ?_
      refine Own.lconst hx (0 : Int64) (hb hby at_39) rfl (by decide) ?_
      refine Own.lcmp hx (hb hby at_40) rfl ?_
      obtain ⟨v16, h_v16⟩ : ∃ z : Int32, z = (if r = (0 : Int64) then (1 : Int32) else (0 : Int32)) := ⟨_, rfl⟩
      refine Own.Goes.join (mkF m 49 #[.val (.long q0), .second, .val (.long q1), .second, .val (.long ax), .second, .val (.long bx), .second, .val (.long r), .second, .unset] [(.int v16)]) (fun kJ17 => ?_) ?_
      · refine Own.ifFn hx (Own.w_ne r (0 : Int64)) (hb hby at_41) (pcN := 44) rfl (by decide) (pcT := 48) rfl (fun hc15 => ?_) (fun hc15 => ?_)
        · refine Own.iconst hx (0 : Int32) (hb hby at_48) rfl (by decide) ?_
          try simp only [if_neg hc1, if_pos hc5, if_neg hc15] at h_v16
          subst h_v16
          exact kJ17
        · refine Own.iconst hx (1 : Int32) (hb hby at_44) rfl (by decide) ?_
          refine Own.goto hx (hb hby at_45) (by decide) (pc' := 49) rfl ?_
          try simp only [if_neg hc1, if_pos hc5, if_pos hc15] at h_v16
          subst h_v16
          exact kJ17
      exact Own.retS hx hret (by simp) hlk (hb hby at_49) (by decide) (by decide) (Own.bool1 (by rw [h_v16, h_r]; simp [fMul, hc1, hc5]))

set_option maxRecDepth 65536 in
set_option maxHeartbeats 40000000 in
theorem comes_1 {Post : Tables → Env → Array Value → State → Outcome → State → Prop} (hpost : ∀ tb e args s v u, (limb_1_1.after args s (.returned v) u = true ∧ limb_1_2.after args s (.returned v) u = true ∧ True) → FrameEnd s (.returned v) u (Jvm.fieldLocs frame_1_writes args s ++ Jvm.arrayLocs frame_1_arrays args s ++ Jvm.staticLocs frame_1_statics s) 0 0 → Post tb e args s (.returned v) u) :
    ArmFor flags0 classFile x code maxLocals ret World_1 tables_1 room_1 Calls_1 rest_1 Pre_1 Post := by
  intro l hfl _ _ p e ha hc hk s m args below hf hA hF happ hP
  obtain ⟨hcalls, hrest, hpre⟩ := hP
  obtain ⟨-, -, -, hnamed, -, -, -, hat⟩ := (Spec.applies_iff hf).mp happ
  obtain ⟨hg, hn⟩ := and_e (Cond.before_iff.mp (show (Jvm.Cond.and given_1 narrow_1).before args s = true from hpre))
  obtain ⟨h1, g0⟩ := and_e hg
  obtain ⟨q0, g1⟩ := and_e g0
  have q1 := g1
  obtain ⟨w0, w1, rfl⟩ : ∃ w0 w1 : Value, args = #[w0, w1] := by
    have hs : args.size = 2 := by simpa [Cond.value, given_1] using h1
    obtain ⟨L⟩ := args
    match L, hs with
    | [w0, w1], _ => exact ⟨w0, w1, rfl⟩
  have hw := fun d (hd : d ∈ tables_1) => atoms_spec (ws := Jvm.Cond.code x code maxLocals ret :: tables_1) hat d (List.mem_cons_of_mem _ hd)
  obtain ⟨i0, e0⟩ := isL_v q0
  obtain rfl : w0 = (.long i0) := Option.some.inj e0
  obtain ⟨i1, e1⟩ := isL_v q1
  obtain rfl : w1 = (.long i1) := Option.some.inj e1
  obtain ⟨n, o, h1, h2, h3, _, L, rfl, ⟨rfl, N⟩, hq⟩ := rm0 l s _ hw i0 i1 s.heap s.heap.size  p e ha hc hk s m _ below hf ((Spec.applies_iff_loose hf).mp happ).1 ⟨rfl, State.Warmed39.refl s, rfl⟩ trivial
  refine ⟨n, _, h1, h2, h3, hpost _ _ _ _ _ _ ⟨Cond.after_iff.mpr rfl, Cond.after_iff.mpr (eq_i res_at (Term.int_eval (1)) rfl), trivial⟩ ⟨hq.1, hq.2.1, (hq.2.2.sift fun y hy => Or.inr (N y hy)).mono (by decide) (by decide)⟩⟩
theorem main_1_1 : Claimed_1_1 := comes_1 fun _ _ _ _ _ _ h hF => ⟨h.1, hF⟩
theorem main_1_2 : Claimed_1_2 := comes_1 fun _ _ _ _ _ _ h hF => ⟨h.2.1, hF⟩
end Jvm.Pilot.@@N@@
namespace Jvm.Pilot.@@N@@
open Jvm Jvm.ClassFile Sem Op Lib Jvm.Free Jvm.Stand Jvm.Pilot.@@N@@.Jvm.D
/-! MADE BY PROGRAM (witnessworld.py) out of the Statement's table words and the real class files: 9 classes; the members and pool entries that the words name. The judged class is class 1, her method 1. -/
namespace start1
open Jvm.ClassFile
def u (s : String) : CpInfo := .utf8 (stringToUtf16 s)
/-- a pool by its gaps: so many unusable entries, then the entry; so many at the end -/
def gap : Nat → List CpInfo → List CpInfo
  | 0, r => r
  | n + 1, r => .unusable :: gap n r
def poolList (es : List (Nat × CpInfo)) (last : Nat) : List CpInfo := es.foldr (fun e r => gap e.1 (e.2 :: r)) (gap last [])
def pool (es : List (Nat × CpInfo)) (last : Nat) : Array CpInfo := ⟨poolList es last⟩
def fileOf (pool : Array CpInfo) (this : Nat) (attrs : Array Attribute := #[]) (ms : Array MethodInfo := #[]) (fl : Nat := 33) (sup : Nat := 0) (ifs : Array Nat := #[]) (fds : Array FieldInfo := #[]) : ClassFile where
  minorVersion := 0
  majorVersion := 65
  constantPool := pool
  accessFlags := fl
  thisClass := this
  superClass := sup
  interfaces := ifs
  fields := fds
  methods := ms
  attributes := attrs
def plain (name : String) (sup : Option ClassId) : Class where
  name := name
  kind := .ordinary
  loader := none
  accessFlags := 33
  super := sup
  interfaces := #[]
  cf := none
  fields := #[]
  methods := #[]
  instanceTypes := #[]
  staticTypes := #[]
  resolved := #[]
  callSites := []
  init := .initialized
  statics := none
  mirror := none

def pool0 : Array CpInfo := pool [(5, u "<init>"), (0, u "()V"), (1, .class_ 10), (1, u "java/lang/Object")] 113

def k0m0 : Method := { name := "<init>", desc := "()V", sig := { parameters := [], returnType := none }, accessFlags := 1, code := none }
/-- java/lang/Object -/
def k0 : Class := { plain "java/lang/Object" none with
  accessFlags := 33
  interfaces := #[]
  cf := some (fileOf pool0 8 #[] #[{ accessFlags := 1, nameIndex := 5, descriptorIndex := 6, attributes := #[] }] 33 0 #[] #[])
  fields := #[]
  methods := #[k0m0]
  instanceTypes := #[]
  staticTypes := #[]
  resolved := Array.replicate 124 none
  statics := none }

def pool1 : Array CpInfo := pool [(2, .class_ 4), (1, u "java/lang/Object"), (0, u "<init>"), (0, u "()V"), (0, .long 9223372036854775807), (1, .methodref 10 11), (0, .class_ 12), (0, .nameAndType 13 14), (0, u "com/example/twigline/twigline/matcher/Counts"), (0, u "multiply"), (0, u "(JJ)J"), (0, .class_ 16), (0, u "com/example/twigline/twigline/matcher/CountsMultiplyPinLaw"), (2, u "law"), (0, u "(JJ)Z")] 3

def k1m0 : Method := { name := "<init>", desc := "()V", sig := { parameters := [], returnType := none }, accessFlags := 2, code := none }
def k1c1 : Code := { maxStack := 6, maxLocals := 11, code := code, exceptionTable := #[], attributes := #[] }
def k1m1 : Method := { name := "law", desc := "(JJ)Z", sig := { parameters := [.long, .long], returnType := some .boolean }, accessFlags := 9, code := some k1c1 }
/-- com/example/twigline/twigline/matcher/CountsMultiplyPinLaw -/
def k1 : Class := { plain "com/example/twigline/twigline/matcher/CountsMultiplyPinLaw" (some 0) with
  accessFlags := 49
  interfaces := #[]
  cf := some (fileOf pool1 15 #[] #[{ accessFlags := 2, nameIndex := 5, descriptorIndex := 6, attributes := #[] }, { accessFlags := 9, nameIndex := 19, descriptorIndex := 20, attributes := #[] }] 49 2 #[] #[])
  fields := #[]
  methods := #[k1m0, k1m1]
  instanceTypes := #[]
  staticTypes := #[]
  resolved := Array.replicate 24 none
  statics := none }

def pool2 : Array CpInfo := pool [(4, .class_ 6), (1, u "java/lang/Object"), (0, u "<init>"), (0, u "()V"), (0, .class_ 10), (0, u "com/example/twigline/twigline/matcher/Counts"), (0, .long 9223372036854775807), (10, u "TOO_MANY"), (0, u "J"), (4, u "(JJ)J"), (1, u "multiply")] 19

def k2m0 : Method := { name := "<init>", desc := "()V", sig := { parameters := [], returnType := none }, accessFlags := 2, code := none }
def k2c1 : Code := { maxStack := 6, maxLocals := 4, code := prog_23_method_3_code, exceptionTable := #[], attributes := #[] }
def k2m1 : Method := { name := "multiply", desc := "(JJ)J", sig := { parameters := [.long, .long], returnType := some .long }, accessFlags := 8, code := some k2c1 }
/-- com/example/twigline/twigline/matcher/Counts -/
def k2 : Class := { plain "com/example/twigline/twigline/matcher/Counts" (some 0) with
  accessFlags := 48
  interfaces := #[]
  cf := some (fileOf pool2 9 #[] #[{ accessFlags := 2, nameIndex := 7, descriptorIndex := 8, attributes := #[] }, { accessFlags := 8, nameIndex := 30, descriptorIndex := 28, attributes := #[] }] 48 4 #[] #[{ accessFlags := 24, nameIndex := 22, descriptorIndex := 23, attributes := #[] }])
  fields := #[{ name := "TOO_MANY", type := .long, accessFlags := 24, slot := 0, constantValue := 0 }]
  methods := #[k2m0, k2m1]
  instanceTypes := #[]
  staticTypes := #[.long]
  resolved := Array.replicate 50 none
  statics := none }

def pool3 : Array CpInfo := pool [(1, u "java/lang/Cloneable"), (0, .class_ 1), (0, u "java/lang/Object"), (0, .class_ 3)] 3

/-- java/lang/Cloneable -/
def k3 : Class := { plain "java/lang/Cloneable" (some 0) with
  accessFlags := 1537
  interfaces := #[]
  cf := some (fileOf pool3 2 #[] #[] 1537 4 #[] #[])
  fields := #[]
  methods := #[]
  instanceTypes := #[]
  staticTypes := #[]
  resolved := Array.replicate 8 none
  statics := none }

def pool4 : Array CpInfo := pool [(1, u "java/io/Serializable"), (0, .class_ 1), (0, u "java/lang/Object"), (0, .class_ 3)] 3

/-- java/io/Serializable -/
def k4 : Class := { plain "java/io/Serializable" (some 0) with
  accessFlags := 1537
  interfaces := #[]
  cf := some (fileOf pool4 2 #[] #[] 1537 4 #[] #[])
  fields := #[]
  methods := #[]
  instanceTypes := #[]
  staticTypes := #[]
  resolved := Array.replicate 8 none
  statics := none }

/-- the primitive byte -/
def k5 : Class := { plain "byte" none with kind := .primitive 'B', accessFlags := 0x411 }
/-- [B -/
def k6 : Class := { plain "[B" (some 0) with kind := .array 5 .byte, interfaces := #[3, 4], accessFlags := 1041 }

/-- the primitive int -/
def k7 : Class := { plain "int" none with kind := .primitive 'I', accessFlags := 0x411 }
/-- [I -/
def k8 : Class := { plain "[I" (some 0) with kind := .array 7 .int, interfaces := #[3, 4], accessFlags := 1041 }

def heap : Heap := #[]
def classes : Array Class := #[k0, k1, k2, k3, k4, k5, k6, k7, k8]
def interned : List (Array UInt16 × Addr) := []
def slotsUsed : Nat := 0
def theMethod : MethodId := ⟨1, 1⟩
def args0 : Array Value := #[.long 5, .long 7]
def aboutOver (below : List Frame) : State where
  vm := { classes := classes, interned := interned.toArray }
  heap := heap
  slotsUsed := slotsUsed
  threads := #[{ frames := .invoking theMethod args0 :: below }]
def below0 : List Frame := [.native { method := ⟨0, 0⟩, args := #[] }]
def about1 : State := aboutOver below0
def p0 : Program := .bare "" "" ""
def e0 : Env := launch0.env 0 0 0
theorem w_frames : about1.frames = Frame.invoking theMethod args0 :: below0 := rfl
set_option maxRecDepth 65536 in
theorem w_args : argsFit about1.vm theMethod args0 = true := by decide +kernel
set_option maxRecDepth 65536 in
theorem w_heap : heapFits about1 = true := by decide +kernel
set_option maxRecDepth 65536 in
theorem w_runnable : about1.curStatus? = some .runnable := by decide +kernel
set_option maxRecDepth 65536 in
theorem w_alone : about1.alone = true := by decide +kernel
set_option maxRecDepth 65536 in
theorem w_named : about1.methodNamed? x = some theMethod := by decide +kernel
set_option maxRecDepth 65536 in
theorem w_hears : about1.hears theMethod below0 = true := by decide +kernel
set_option maxRecDepth 65536 in
theorem w_ripe : about1.ripe theMethod args0 below0 = true := by decide +kernel
theorem w_running : about1.status = .running := rfl
set_option maxRecDepth 65536 in
theorem w_room : about1.hasRoom e0.platform room_1 = true :=
  launch0.hasRoom_least _ room_1 (by decide +kernel) (by decide +kernel) (by decide +kernel) (by decide +kernel) (by decide +kernel) (by decide +kernel)
theorem allAtoms_all (ts : List Jvm.Cond) (a : Array Jvm.Value) (st : Jvm.State) : (allAtoms ts).before a st = ts.all (fun c => c.before a st) := by
  induction ts with
  | nil => rfl
  | cons c t ih =>
    show (Jvm.Cond.and c (allAtoms t)).before a st = _
    rw [Jvm.Cond.before_and, ih, List.all_cons]
def words1 : List Jvm.Cond := Jvm.Cond.code x code maxLocals ret :: tables_1
/-- a 'code' word, met by the world's own term for the bytes: nothing is compared byte by byte -/
theorem code_word {y : MethodName} {bytes : ByteArray} {mx : Nat} {rt : Option FieldType} {a : Array Value} {s : State} {m : MethodId} {meth : Method} {c : Code} (h1 : s.methodNamed? y = some m) (h2 : s.vm.method? m = some meth) (h3 : meth.code = some c) (h4 : c.code = bytes)
    (h5 : (c.maxLocals == mx && c.exceptionTable.isEmpty && decide (c.maxStack ≤ mostOperands) && decide (meth.sig.returnType = rt) && !meth.locks && decide (parseMethodDescriptor y.desc = some meth.sig)) = true) : (Jvm.Cond.code y bytes mx rt).before a s = true := by
  simp only [Bool.and_eq_true, beq_iff_eq, Bool.not_eq_true', decide_eq_true_eq] at h5
  obtain ⟨⟨⟨⟨⟨g1, g2⟩, g3⟩, g4⟩, g5⟩, g6⟩ := h5
  simp [Cond.before, Cond.holds, Cond.value, h1, h2, h3, h4, g1, g2, g3, g4, g5, g6]
def isCode : Jvm.Cond → Bool
  | .code _ _ _ _ => true
  | _ => false
theorem all_split {L : List Jvm.Cond} {P : Jvm.Cond → Bool} (h1 : L.all (fun c => isCode c || P c) = true) (h2 : ∀ c ∈ L.filter isCode, P c = true) : L.all P = true := by
  refine List.all_eq_true.mpr fun c hc => ?_
  have h := List.all_eq_true.mp h1 c hc
  rcases Bool.eq_false_or_eq_true (isCode c) with hi | hi
  · exact h2 c (List.mem_filter.mpr ⟨hc, hi⟩)
  · simpa [hi] using h
set_option maxRecDepth 65536 in
theorem w_c0 : (Jvm.Cond.code x code maxLocals ret).before args0 about1 = true := code_word (m := ⟨1, 1⟩) (meth := k1m1) (c := k1c1) (by decide +kernel) rfl rfl rfl (by decide +kernel)
set_option maxRecDepth 65536 in
theorem w_c1 : (Jvm.Cond.code ({ cls := "com/example/twigline/twigline/matcher/Counts", name := "multiply", desc := "(JJ)J" } : Jvm.MethodName) prog_23_method_3_code (4 : Nat) (Option.some Jvm.ClassFile.FieldType.long)).before args0 about1 = true := code_word (m := ⟨2, 1⟩) (meth := k2m1) (c := k2c1) (by decide +kernel) rfl rfl rfl (by decide +kernel)
def codes1 : List Jvm.Cond := [Jvm.Cond.code x code maxLocals ret, Jvm.Cond.code ({ cls := "com/example/twigline/twigline/matcher/Counts", name := "multiply", desc := "(JJ)J" } : Jvm.MethodName) prog_23_method_3_code (4 : Nat) (Option.some Jvm.ClassFile.FieldType.long)]
set_option maxRecDepth 65536 in
theorem codes_eq : words1.filter isCode = codes1 := rfl
theorem w_codes : ∀ c ∈ words1.filter isCode, c.before args0 about1 = true := by
  rw [codes_eq]
  intro c hc
  simp only [codes1, List.mem_cons, List.not_mem_nil, or_false] at hc
  rcases hc with rfl | rfl
  · exact w_c0
  · exact w_c1
set_option maxRecDepth 65536 in
theorem w_t1 : words1.all (fun c => isCode c || c.before args0 about1) = true := by decide +kernel
theorem w_tables : (allAtoms (Jvm.Cond.code x code maxLocals ret :: tables_1)).before args0 about1 = true := by
  rw [allAtoms_all]
  show words1.all (fun c => c.before args0 about1) = true
  refine all_split ?_ w_codes
  rw [w_t1]
set_option maxRecDepth 65536 in
theorem w_case : (Jvm.Cond.and given_1 narrow_1).before args0 about1 = true := by decide +kernel
theorem w_applies : (headSpec (Jvm.Cond.code x code maxLocals ret :: tables_1) room_1).applies x e0.platform about1 = true :=
  (Spec.applies_iff w_frames).mpr ⟨w_running, w_runnable, w_alone, w_named, w_hears, w_ripe, w_room, w_tables⟩
theorem atStart : AtStart classFile x code maxLocals ret World_1 tables_1 room_1 Calls_1 rest_1 Pre_1 launch0 p0 e0 about1 theMethod args0 below0 :=
  ⟨lists_1, trivial, launch0.admits_env _ _ _, launch0.least_env, fairChoices_fair.cas, fairChoices_fair.clock, w_frames, w_args, w_heap, w_applies, trivial, trivial, w_case⟩
end start1
theorem witness_1 : WitnessClaimed_1 := ⟨start1.p0, start1.e0, start1.about1, start1.theMethod, start1.args0, start1.below0, start1.atStart⟩
end Jvm.Pilot.@@N@@
