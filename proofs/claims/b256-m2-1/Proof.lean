import JvmDerived
import JvmDerived.Pilot.@@N@@Statement
import JvmDerived.Pilot.@@N@@Code
set_option linter.unusedVariables false
set_option linter.unusedSimpArgs false
namespace Jvm.Pilot.@@N@@
open Jvm Jvm.ClassFile Sem Op Lib Jvm.Free Jvm.Stand Jvm.LawKit Jvm.RoadKit Bundle Jvm.Pilot.@@N@@.Jvm.D
namespace Own
section Eng
/-- from the frame g over the heap h, with k cells and n slots made so far, every standing run ends as Fn says, having written at or above n0 alone -/
def Goes (p : Program) (l : Launch) (e : Env) (R : Room) (s : State) (m : MethodId) (args : Array Value) (below : List Frame) (meth : Method) (c : Code) (n0 mc ms : Nat) (Fn : Option Value → Heap → Prop) (h : Heap) (k n : Nat) (g : JFrame) : Prop :=
  ∀ (T : State) (locs : List Loc), Stand p l e R s m args below meth c T locs k n → Fr n0 locs → T.heap = h →
    ∃ (s₂ : State) (o : Outcome), Steps p.tables e below (T.setTop g) s₂ ∧ s₂.status = .running ∧ Ended s₂ below o ∧ ∃ (v : Option Value) (L : List Loc), o = .returned v ∧ (Fn v s₂.heap ∧ Fr n0 L) ∧ FrameEnd s o s₂ L mc ms
/-- the contract of a method at one list of arguments and one heap -/
def Does (l : Launch) (y : MethodName) (bytes : ByteArray) (maxL : Nat) (ret : Option FieldType) (ws : List Jvm.Cond) (rm : Room) (Z : State) (as' : Array Value) (h0 : Heap) (n0 : Nat) (Fn : Option Value → Heap → Prop) : Prop :=
  MetFree l y (head1 (Jvm.Cond.code y bytes maxL ret :: ws) rm) (fun a U => a = as' ∧ Z.Warmed39 U.vm ∧ U.heap = h0) (fun _ _ _ _ _ => True) (fun _ U o U' => ∃ v L, o = .returned v ∧ (Fn v U'.heap ∧ Fr n0 L) ∧ FrameEnd U o U' L rm.cells rm.slots)
variable {p : Program} {l : Launch} {e : Env} {R : Room} {s : State} {m : MethodId} {args : Array Value} {below : List Frame} {meth : Method} {c : Code} {n0 mc ms : Nat} {Fn : Option Value → Heap → Prop} {h : Heap} {k n : Nat}
theorem doesOf {y : MethodName} {bytes : ByteArray} {maxL : Nat} {ret : Option FieldType} {ws : List Jvm.Cond} {rm : Room} {Z : State} {as' : Array Value} {h0 : Heap} (hy : plainFor y = true)
    (body : ∀ (p : Program) (e : Env) (s : State) (m : MethodId) (below : List Frame) (meth : Method) (c : Code), p.tables.exec = Jvm.exec → c.code = bytes → c.maxLocals = maxL → meth.sig.returnType = ret → meth.locks = false → s.vm.findClass y.cls = some m.cls → meth.name = y.name → Z.Warmed39 s.vm →
      Goes p l e rm s m as' below meth c n0 rm.cells rm.slots Fn h0 0 0 (entryFrame m as' maxL)) : Does l y bytes maxL ret ws rm Z as' h0 n0 Fn := by
  refine MetFree.of_bodySF hy hisR ?_
  intro p e s m args below meth c s₁ Bd hml hP _
  obtain ⟨rfl, hZ, hh⟩ := hP
  have e0 : s₁.heap = h0 := by rw [← hh, Bd.state]; rfl
  obtain ⟨s₂, o, h1, h2, h3, h4⟩ := body p e s m below meth c Bd.exec Bd.bytes hml Bd.returns Bd.notSynchronized (findClass_of_methodNamed Bd.named) (name_of_methodNamed Bd.named Bd.method).1 hZ s₁ [] (Stand.of_body Bd) (Fr.nil n0) e0
  exact ⟨s₂, o, h1, h2, h3, h4⟩
theorem Goes.pure {g g' : JFrame} (st : ∀ (T : State) (locs : List Loc) (t : State), Stand p l e R s m args below meth c T locs k n → Steps p.tables e below (T.setTop g') t → Steps p.tables e below (T.setTop g) t) (K : Goes p l e R s m args below meth c n0 mc ms Fn h k n g') : Goes p l e R s m args below meth c n0 mc ms Fn h k n g := fun T locs X N eT => by
  obtain ⟨s₂, o, hs, r⟩ := K T locs X N eT
  exact ⟨s₂, o, st T locs s₂ X hs, r⟩
theorem Goes.move {g g' : JFrame} {k' n' : Nat} {Pr : Heap → Prop} (st : ∀ (T : State) (locs : List Loc), Stand p l e R s m args below meth c T locs k n → Fr n0 locs → T.heap = h → ∃ (T' : State) (locs' : List Loc), Stand p l e R s m args below meth c T' locs' k' n' ∧ Fr n0 locs' ∧ Pr T'.heap ∧ ∀ t, Steps p.tables e below (T'.setTop g') t → Steps p.tables e below (T.setTop g) t)
    (K : ∀ h', Pr h' → Goes p l e R s m args below meth c n0 mc ms Fn h' k' n' g') : Goes p l e R s m args below meth c n0 mc ms Fn h k n g := fun T locs X N eT => by
  obtain ⟨T', locs', X', N', hP, st'⟩ := st T locs X N eT
  obtain ⟨s₂, o, hs, r⟩ := K T'.heap hP T' locs' X' N' rfl
  exact ⟨s₂, o, st' s₂ hs, r⟩
theorem Goes.join {g : JFrame} (g' : JFrame) (K1 : Goes p l e R s m args below meth c n0 mc ms Fn h k n g' → Goes p l e R s m args below meth c n0 mc ms Fn h k n g) (K2 : Goes p l e R s m args below meth c n0 mc ms Fn h k n g') : Goes p l e R s m args below meth c n0 mc ms Fn h k n g := K1 K2
theorem Goes.cast {g g' : JFrame} (q : g = g') (K : Goes p l e R s m args below meth c n0 mc ms Fn h k n g') : Goes p l e R s m args below meth c n0 mc ms Fn h k n g := q ▸ K
theorem Goes.fin {Fn' : Option Value → Heap → Prop} {g : JFrame} (q : ∀ v h, Fn v h → Fn' v h) (K : Goes p l e R s m args below meth c n0 mc ms Fn h k n g) : Goes p l e R s m args below meth c n0 mc ms Fn' h k n g := fun T locs X N eT => by
  obtain ⟨s₂, o, h1, h2, h3, v, L, h4, ⟨h5, h6⟩, h7⟩ := K T locs X N eT
  exact ⟨s₂, o, h1, h2, h3, v, L, h4, ⟨q _ _ h5, h6⟩, h7⟩

theorem iadd (hx : p.tables.exec = Jvm.exec) {pc pc' : Nat} {Ls : Array Slot} {x y : Int32} {rest : List Value} (hd : decode c.code pc = .ok (.iadd, 1)) (hp : pc + 1 = pc') (K : Goes p l e R s m args below meth c n0 mc ms Fn h k n (mkF m pc' Ls (.int (x + y) :: rest))) : Goes p l e R s m args below meth c n0 mc ms Fn h k n (mkF m pc Ls (.int y :: .int x :: rest)) := by
  subst hp; exact K.pure fun T locs t X hs => XS.iadd X.here hx rfl hd rfl hs
theorem isub (hx : p.tables.exec = Jvm.exec) {pc pc' : Nat} {Ls : Array Slot} {x y : Int32} {rest : List Value} (hd : decode c.code pc = .ok (.isub, 1)) (hp : pc + 1 = pc') (K : Goes p l e R s m args below meth c n0 mc ms Fn h k n (mkF m pc' Ls (.int (x - y) :: rest))) : Goes p l e R s m args below meth c n0 mc ms Fn h k n (mkF m pc Ls (.int y :: .int x :: rest)) := by
  subst hp; exact K.pure fun T locs t X hs => XS.isub X.here hx rfl hd rfl hs
theorem imul (hx : p.tables.exec = Jvm.exec) {pc pc' : Nat} {Ls : Array Slot} {x y : Int32} {rest : List Value} (hd : decode c.code pc = .ok (.imul, 1)) (hp : pc + 1 = pc') (K : Goes p l e R s m args below meth c n0 mc ms Fn h k n (mkF m pc' Ls (.int (x * y) :: rest))) : Goes p l e R s m args below meth c n0 mc ms Fn h k n (mkF m pc Ls (.int y :: .int x :: rest)) := by
  subst hp; exact K.pure fun T locs t X hs => XS.imul X.here hx rfl hd rfl hs
theorem iand (hx : p.tables.exec = Jvm.exec) {pc pc' : Nat} {Ls : Array Slot} {x y : Int32} {rest : List Value} (hd : decode c.code pc = .ok (.iand, 1)) (hp : pc + 1 = pc') (K : Goes p l e R s m args below meth c n0 mc ms Fn h k n (mkF m pc' Ls (.int (x &&& y) :: rest))) : Goes p l e R s m args below meth c n0 mc ms Fn h k n (mkF m pc Ls (.int y :: .int x :: rest)) := by
  subst hp; exact K.pure fun T locs t X hs => XS.iand X.here hx rfl hd rfl hs
theorem ior (hx : p.tables.exec = Jvm.exec) {pc pc' : Nat} {Ls : Array Slot} {x y : Int32} {rest : List Value} (hd : decode c.code pc = .ok (.ior, 1)) (hp : pc + 1 = pc') (K : Goes p l e R s m args below meth c n0 mc ms Fn h k n (mkF m pc' Ls (.int (x ||| y) :: rest))) : Goes p l e R s m args below meth c n0 mc ms Fn h k n (mkF m pc Ls (.int y :: .int x :: rest)) := by
  subst hp; exact K.pure fun T locs t X hs => XS.ior X.here hx rfl hd rfl hs
theorem ixor (hx : p.tables.exec = Jvm.exec) {pc pc' : Nat} {Ls : Array Slot} {x y : Int32} {rest : List Value} (hd : decode c.code pc = .ok (.ixor, 1)) (hp : pc + 1 = pc') (K : Goes p l e R s m args below meth c n0 mc ms Fn h k n (mkF m pc' Ls (.int (x ^^^ y) :: rest))) : Goes p l e R s m args below meth c n0 mc ms Fn h k n (mkF m pc Ls (.int y :: .int x :: rest)) := by
  subst hp; exact K.pure fun T locs t X hs => XS.ixor X.here hx rfl hd rfl hs
theorem ishl (hx : p.tables.exec = Jvm.exec) {pc pc' : Nat} {Ls : Array Slot} {x y : Int32} {rest : List Value} (hd : decode c.code pc = .ok (.ishl, 1)) (hp : pc + 1 = pc') (K : Goes p l e R s m args below meth c n0 mc ms Fn h k n (mkF m pc' Ls (.int (x <<< (y &&& 31)) :: rest))) : Goes p l e R s m args below meth c n0 mc ms Fn h k n (mkF m pc Ls (.int y :: .int x :: rest)) := by
  subst hp; exact K.pure fun T locs t X hs => XS.ishl X.here hx rfl hd rfl hs
theorem ishr (hx : p.tables.exec = Jvm.exec) {pc pc' : Nat} {Ls : Array Slot} {x y : Int32} {rest : List Value} (hd : decode c.code pc = .ok (.ishr, 1)) (hp : pc + 1 = pc') (K : Goes p l e R s m args below meth c n0 mc ms Fn h k n (mkF m pc' Ls (.int (x >>> (y &&& 31)) :: rest))) : Goes p l e R s m args below meth c n0 mc ms Fn h k n (mkF m pc Ls (.int y :: .int x :: rest)) := by
  subst hp; exact K.pure fun T locs t X hs => XS.ishr X.here hx rfl hd rfl hs
theorem iushr (hx : p.tables.exec = Jvm.exec) {pc pc' : Nat} {Ls : Array Slot} {x y : Int32} {rest : List Value} (hd : decode c.code pc = .ok (.iushr, 1)) (hp : pc + 1 = pc') (K : Goes p l e R s m args below meth c n0 mc ms Fn h k n (mkF m pc' Ls (.int ((x.toUInt32 >>> (y &&& 31).toUInt32).toInt32) :: rest))) : Goes p l e R s m args below meth c n0 mc ms Fn h k n (mkF m pc Ls (.int y :: .int x :: rest)) := by
  subst hp; exact K.pure fun T locs t X hs => XS.iushr X.here hx rfl hd rfl hs
theorem ladd (hx : p.tables.exec = Jvm.exec) {pc pc' : Nat} {Ls : Array Slot} {x y : Int64} {rest : List Value} (hd : decode c.code pc = .ok (.ladd, 1)) (hp : pc + 1 = pc') (K : Goes p l e R s m args below meth c n0 mc ms Fn h k n (mkF m pc' Ls (.long (x + y) :: rest))) : Goes p l e R s m args below meth c n0 mc ms Fn h k n (mkF m pc Ls (.long y :: .long x :: rest)) := by
  subst hp; exact K.pure fun T locs t X hs => XS.ladd X.here hx rfl hd rfl hs
theorem lsub (hx : p.tables.exec = Jvm.exec) {pc pc' : Nat} {Ls : Array Slot} {x y : Int64} {rest : List Value} (hd : decode c.code pc = .ok (.lsub, 1)) (hp : pc + 1 = pc') (K : Goes p l e R s m args below meth c n0 mc ms Fn h k n (mkF m pc' Ls (.long (x - y) :: rest))) : Goes p l e R s m args below meth c n0 mc ms Fn h k n (mkF m pc Ls (.long y :: .long x :: rest)) := by
  subst hp; exact K.pure fun T locs t X hs => XS.lsub X.here hx rfl hd rfl hs
theorem lmul (hx : p.tables.exec = Jvm.exec) {pc pc' : Nat} {Ls : Array Slot} {x y : Int64} {rest : List Value} (hd : decode c.code pc = .ok (.lmul, 1)) (hp : pc + 1 = pc') (K : Goes p l e R s m args below meth c n0 mc ms Fn h k n (mkF m pc' Ls (.long (x * y) :: rest))) : Goes p l e R s m args below meth c n0 mc ms Fn h k n (mkF m pc Ls (.long y :: .long x :: rest)) := by
  subst hp; exact K.pure fun T locs t X hs => XS.lmul X.here hx rfl hd rfl hs
theorem land (hx : p.tables.exec = Jvm.exec) {pc pc' : Nat} {Ls : Array Slot} {x y : Int64} {rest : List Value} (hd : decode c.code pc = .ok (.land, 1)) (hp : pc + 1 = pc') (K : Goes p l e R s m args below meth c n0 mc ms Fn h k n (mkF m pc' Ls (.long (x &&& y) :: rest))) : Goes p l e R s m args below meth c n0 mc ms Fn h k n (mkF m pc Ls (.long y :: .long x :: rest)) := by
  subst hp; exact K.pure fun T locs t X hs => XS.land X.here hx rfl hd rfl hs
theorem lor (hx : p.tables.exec = Jvm.exec) {pc pc' : Nat} {Ls : Array Slot} {x y : Int64} {rest : List Value} (hd : decode c.code pc = .ok (.lor, 1)) (hp : pc + 1 = pc') (K : Goes p l e R s m args below meth c n0 mc ms Fn h k n (mkF m pc' Ls (.long (x ||| y) :: rest))) : Goes p l e R s m args below meth c n0 mc ms Fn h k n (mkF m pc Ls (.long y :: .long x :: rest)) := by
  subst hp; exact K.pure fun T locs t X hs => XS.lor X.here hx rfl hd rfl hs
theorem lxor (hx : p.tables.exec = Jvm.exec) {pc pc' : Nat} {Ls : Array Slot} {x y : Int64} {rest : List Value} (hd : decode c.code pc = .ok (.lxor, 1)) (hp : pc + 1 = pc') (K : Goes p l e R s m args below meth c n0 mc ms Fn h k n (mkF m pc' Ls (.long (x ^^^ y) :: rest))) : Goes p l e R s m args below meth c n0 mc ms Fn h k n (mkF m pc Ls (.long y :: .long x :: rest)) := by
  subst hp; exact K.pure fun T locs t X hs => XS.lxor X.here hx rfl hd rfl hs
theorem lshl (hx : p.tables.exec = Jvm.exec) {pc pc' : Nat} {Ls : Array Slot} {x : Int64} {y : Int32} {rest : List Value} (hd : decode c.code pc = .ok (.lshl, 1)) (hp : pc + 1 = pc') (K : Goes p l e R s m args below meth c n0 mc ms Fn h k n (mkF m pc' Ls (.long (x <<< (y &&& 0x3f).toInt64) :: rest))) : Goes p l e R s m args below meth c n0 mc ms Fn h k n (mkF m pc Ls (.int y :: .long x :: rest)) := by
  subst hp; exact K.pure fun T locs t X hs => XS.lshl X.here hx rfl hd rfl hs
theorem lshr (hx : p.tables.exec = Jvm.exec) {pc pc' : Nat} {Ls : Array Slot} {x : Int64} {y : Int32} {rest : List Value} (hd : decode c.code pc = .ok (.lshr, 1)) (hp : pc + 1 = pc') (K : Goes p l e R s m args below meth c n0 mc ms Fn h k n (mkF m pc' Ls (.long (x >>> (y &&& 0x3f).toInt64) :: rest))) : Goes p l e R s m args below meth c n0 mc ms Fn h k n (mkF m pc Ls (.int y :: .long x :: rest)) := by
  subst hp; exact K.pure fun T locs t X hs => XS.lshr X.here hx rfl hd rfl hs
theorem lushr (hx : p.tables.exec = Jvm.exec) {pc pc' : Nat} {Ls : Array Slot} {x : Int64} {y : Int32} {rest : List Value} (hd : decode c.code pc = .ok (.lushr, 1)) (hp : pc + 1 = pc') (K : Goes p l e R s m args below meth c n0 mc ms Fn h k n (mkF m pc' Ls (.long ((x.toUInt64 >>> (y &&& 0x3f).toInt64.toUInt64).toInt64) :: rest))) : Goes p l e R s m args below meth c n0 mc ms Fn h k n (mkF m pc Ls (.int y :: .long x :: rest)) := by
  subst hp; exact K.pure fun T locs t X hs => XS.lushr X.here hx rfl hd rfl hs
theorem lcmp (hx : p.tables.exec = Jvm.exec) {pc pc' : Nat} {Ls : Array Slot} {x y : Int64} {rest : List Value} (hd : decode c.code pc = .ok (.lcmp, 1)) (hp : pc + 1 = pc') (K : Goes p l e R s m args below meth c n0 mc ms Fn h k n (mkF m pc' Ls (.int (lcmpW x y) :: rest))) : Goes p l e R s m args below meth c n0 mc ms Fn h k n (mkF m pc Ls (.long y :: .long x :: rest)) := by
  subst hp; exact K.pure fun T locs t X hs => XS.lcmp X.here hx rfl hd rfl hs
theorem idiv (hx : p.tables.exec = Jvm.exec) {pc pc' : Nat} {Ls : Array Slot} {x y : Int32} {rest : List Value} (hd : decode c.code pc = .ok (.idiv, 1)) (hp : pc + 1 = pc') (hy : y ≠ 0) (K : Goes p l e R s m args below meth c n0 mc ms Fn h k n (mkF m pc' Ls (.int (x / y) :: rest))) : Goes p l e R s m args below meth c n0 mc ms Fn h k n (mkF m pc Ls (.int y :: .int x :: rest)) := by
  subst hp; exact K.pure fun T locs t X hs => XS.idiv X.here hx rfl hd rfl hy hs
theorem irem (hx : p.tables.exec = Jvm.exec) {pc pc' : Nat} {Ls : Array Slot} {x y : Int32} {rest : List Value} (hd : decode c.code pc = .ok (.irem, 1)) (hp : pc + 1 = pc') (hy : y ≠ 0) (K : Goes p l e R s m args below meth c n0 mc ms Fn h k n (mkF m pc' Ls (.int (x % y) :: rest))) : Goes p l e R s m args below meth c n0 mc ms Fn h k n (mkF m pc Ls (.int y :: .int x :: rest)) := by
  subst hp; exact K.pure fun T locs t X hs => iremM X hx rfl hd rfl hy hs
theorem ldiv (hx : p.tables.exec = Jvm.exec) {pc pc' : Nat} {Ls : Array Slot} {x y : Int64} {rest : List Value} (hd : decode c.code pc = .ok (.ldiv, 1)) (hp : pc + 1 = pc') (hy : y ≠ 0) (K : Goes p l e R s m args below meth c n0 mc ms Fn h k n (mkF m pc' Ls (.long (x / y) :: rest))) : Goes p l e R s m args below meth c n0 mc ms Fn h k n (mkF m pc Ls (.long y :: .long x :: rest)) := by
  subst hp; exact K.pure fun T locs t X hs => XS.ldiv X.here hx rfl hd rfl hy hs
theorem lrem (hx : p.tables.exec = Jvm.exec) {pc pc' : Nat} {Ls : Array Slot} {x y : Int64} {rest : List Value} (hd : decode c.code pc = .ok (.lrem, 1)) (hp : pc + 1 = pc') (hy : y ≠ 0) (K : Goes p l e R s m args below meth c n0 mc ms Fn h k n (mkF m pc' Ls (.long (x % y) :: rest))) : Goes p l e R s m args below meth c n0 mc ms Fn h k n (mkF m pc Ls (.long y :: .long x :: rest)) := by
  subst hp; exact K.pure fun T locs t X hs => XS.lrem X.here hx rfl hd rfl hy (by rw [lrem_mod]; exact hs)
theorem ineg (hx : p.tables.exec = Jvm.exec) {pc pc' : Nat} {Ls : Array Slot} {x : Int32} {rest : List Value} (hd : decode c.code pc = .ok (.ineg, 1)) (hp : pc + 1 = pc') (K : Goes p l e R s m args below meth c n0 mc ms Fn h k n (mkF m pc' Ls (.int (-x) :: rest))) : Goes p l e R s m args below meth c n0 mc ms Fn h k n (mkF m pc Ls (.int x :: rest)) := by
  subst hp; exact K.pure fun T locs t X hs => XS.ineg X.here hx rfl hd rfl hs
theorem lneg (hx : p.tables.exec = Jvm.exec) {pc pc' : Nat} {Ls : Array Slot} {x : Int64} {rest : List Value} (hd : decode c.code pc = .ok (.lneg, 1)) (hp : pc + 1 = pc') (K : Goes p l e R s m args below meth c n0 mc ms Fn h k n (mkF m pc' Ls (.long (-x) :: rest))) : Goes p l e R s m args below meth c n0 mc ms Fn h k n (mkF m pc Ls (.long x :: rest)) := by
  subst hp; exact K.pure fun T locs t X hs => XS.lneg X.here hx rfl hd rfl hs
theorem i2l (hx : p.tables.exec = Jvm.exec) {pc pc' : Nat} {Ls : Array Slot} {x : Int32} {rest : List Value} (hd : decode c.code pc = .ok (.i2l, 1)) (hp : pc + 1 = pc') (K : Goes p l e R s m args below meth c n0 mc ms Fn h k n (mkF m pc' Ls (.long (x.toInt64) :: rest))) : Goes p l e R s m args below meth c n0 mc ms Fn h k n (mkF m pc Ls (.int x :: rest)) := by
  subst hp; exact K.pure fun T locs t X hs => XS.i2l X.here hx rfl hd rfl hs
theorem l2i (hx : p.tables.exec = Jvm.exec) {pc pc' : Nat} {Ls : Array Slot} {x : Int64} {rest : List Value} (hd : decode c.code pc = .ok (.l2i, 1)) (hp : pc + 1 = pc') (K : Goes p l e R s m args below meth c n0 mc ms Fn h k n (mkF m pc' Ls (.int (x.toInt32) :: rest))) : Goes p l e R s m args below meth c n0 mc ms Fn h k n (mkF m pc Ls (.long x :: rest)) := by
  subst hp; exact K.pure fun T locs t X hs => XS.l2i X.here hx rfl hd rfl hs
theorem i2b (hx : p.tables.exec = Jvm.exec) {pc pc' : Nat} {Ls : Array Slot} {x : Int32} {rest : List Value} (hd : decode c.code pc = .ok (.i2b, 1)) (hp : pc + 1 = pc') (K : Goes p l e R s m args below meth c n0 mc ms Fn h k n (mkF m pc' Ls (.int (x.toInt8.toInt32) :: rest))) : Goes p l e R s m args below meth c n0 mc ms Fn h k n (mkF m pc Ls (.int x :: rest)) := by
  subst hp; exact K.pure fun T locs t X hs => XS.i2b X.here hx rfl hd rfl hs
theorem i2s (hx : p.tables.exec = Jvm.exec) {pc pc' : Nat} {Ls : Array Slot} {x : Int32} {rest : List Value} (hd : decode c.code pc = .ok (.i2s, 1)) (hp : pc + 1 = pc') (K : Goes p l e R s m args below meth c n0 mc ms Fn h k n (mkF m pc' Ls (.int (x.toInt16.toInt32) :: rest))) : Goes p l e R s m args below meth c n0 mc ms Fn h k n (mkF m pc Ls (.int x :: rest)) := by
  subst hp; exact K.pure fun T locs t X hs => XS.i2s X.here hx rfl hd rfl hs
theorem i2c (hx : p.tables.exec = Jvm.exec) {pc pc' : Nat} {Ls : Array Slot} {x : Int32} {rest : List Value} (hd : decode c.code pc = .ok (.i2c, 1)) (hp : pc + 1 = pc') (K : Goes p l e R s m args below meth c n0 mc ms Fn h k n (mkF m pc' Ls (.int (x.toUInt32.toUInt16.toUInt32.toInt32) :: rest))) : Goes p l e R s m args below meth c n0 mc ms Fn h k n (mkF m pc Ls (.int x :: rest)) := by
  subst hp; exact K.pure fun T locs t X hs => XS.i2c X.here hx rfl hd rfl hs
theorem iload (hx : p.tables.exec = Jvm.exec) {pc pc' i : Nat} {Ls : Array Slot} (x : Int32) {rest : List Value} (hd : decode c.code pc = .ok (.iload i, 2)) (hp : pc + 2 = pc') (hl : Ls[i]? = some (.val (.int x))) (K : Goes p l e R s m args below meth c n0 mc ms Fn h k n (mkF m pc' Ls (.int x :: rest))) : Goes p l e R s m args below meth c n0 mc ms Fn h k n (mkF m pc Ls rest) := by
  subst hp; exact K.pure fun T locs t X hs => XS.iload X.here hx rfl hd hl hs
theorem iloadN (hx : p.tables.exec = Jvm.exec) {pc pc' : Nat} {i : Fin 4} {Ls : Array Slot} (x : Int32) {rest : List Value} (hd : decode c.code pc = .ok (.iload_n i, 1)) (hp : pc + 1 = pc') (hl : Ls[i.val]? = some (.val (.int x))) (K : Goes p l e R s m args below meth c n0 mc ms Fn h k n (mkF m pc' Ls (.int x :: rest))) : Goes p l e R s m args below meth c n0 mc ms Fn h k n (mkF m pc Ls rest) := by
  subst hp; exact K.pure fun T locs t X hs => XS.iloadN X.here hx rfl hd hl hs
theorem lload (hx : p.tables.exec = Jvm.exec) {pc pc' i : Nat} {Ls : Array Slot} (x : Int64) {rest : List Value} (hd : decode c.code pc = .ok (.lload i, 2)) (hp : pc + 2 = pc') (hl : Ls[i]? = some (.val (.long x))) (K : Goes p l e R s m args below meth c n0 mc ms Fn h k n (mkF m pc' Ls (.long x :: rest))) : Goes p l e R s m args below meth c n0 mc ms Fn h k n (mkF m pc Ls rest) := by
  subst hp; exact K.pure fun T locs t X hs => XS.lload X.here hx rfl hd hl hs
theorem lloadN (hx : p.tables.exec = Jvm.exec) {pc pc' : Nat} {i : Fin 4} {Ls : Array Slot} (x : Int64) {rest : List Value} (hd : decode c.code pc = .ok (.lload_n i, 1)) (hp : pc + 1 = pc') (hl : Ls[i.val]? = some (.val (.long x))) (K : Goes p l e R s m args below meth c n0 mc ms Fn h k n (mkF m pc' Ls (.long x :: rest))) : Goes p l e R s m args below meth c n0 mc ms Fn h k n (mkF m pc Ls rest) := by
  subst hp; exact K.pure fun T locs t X hs => XS.lloadN X.here hx rfl hd hl hs
theorem aload (hx : p.tables.exec = Jvm.exec) {pc pc' i : Nat} {Ls : Array Slot} (x : Value) {rest : List Value} (hd : decode c.code pc = .ok (.aload i, 2)) (hp : pc + 2 = pc') (hl : Ls[i]? = some (.val x)) (hv : x.isRef = true) (K : Goes p l e R s m args below meth c n0 mc ms Fn h k n (mkF m pc' Ls (x :: rest))) : Goes p l e R s m args below meth c n0 mc ms Fn h k n (mkF m pc Ls rest) := by
  subst hp; exact K.pure fun T locs t X hs => XS.aload X.here hx rfl hd hl hv hs
theorem aloadN (hx : p.tables.exec = Jvm.exec) {pc pc' : Nat} {i : Fin 4} {Ls : Array Slot} (x : Value) {rest : List Value} (hd : decode c.code pc = .ok (.aload_n i, 1)) (hp : pc + 1 = pc') (hl : Ls[i.val]? = some (.val x)) (hv : x.isRef = true) (K : Goes p l e R s m args below meth c n0 mc ms Fn h k n (mkF m pc' Ls (x :: rest))) : Goes p l e R s m args below meth c n0 mc ms Fn h k n (mkF m pc Ls rest) := by
  subst hp; exact K.pure fun T locs t X hs => XS.aloadN X.here hx rfl hd hl hv hs
theorem istore (hx : p.tables.exec = Jvm.exec) {pc pc' i : Nat} {Ls : Array Slot} {x : Int32} (z : Int32) (hz : z = x) {rest : List Value} (Ls' : Array Slot) (hd : decode c.code pc = .ok (.istore i, 2)) (hp : pc + 2 = pc') (hl : storeLocals Ls i (.int z) = some Ls') (K : Goes p l e R s m args below meth c n0 mc ms Fn h k n (mkF m pc' Ls' rest)) : Goes p l e R s m args below meth c n0 mc ms Fn h k n (mkF m pc Ls (.int x :: rest)) := by
  subst hp hz; exact K.pure fun T locs t X hs => XS.istore X.here hx rfl hd rfl hl hs
theorem istoreN (hx : p.tables.exec = Jvm.exec) {pc pc' : Nat} {i : Fin 4} {Ls : Array Slot} {x : Int32} (z : Int32) (hz : z = x) {rest : List Value} (Ls' : Array Slot) (hd : decode c.code pc = .ok (.istore_n i, 1)) (hp : pc + 1 = pc') (hl : storeLocals Ls i.val (.int z) = some Ls') (K : Goes p l e R s m args below meth c n0 mc ms Fn h k n (mkF m pc' Ls' rest)) : Goes p l e R s m args below meth c n0 mc ms Fn h k n (mkF m pc Ls (.int x :: rest)) := by
  subst hp hz; exact K.pure fun T locs t X hs => XS.istoreN X.here hx rfl hd rfl hl hs
theorem lstore (hx : p.tables.exec = Jvm.exec) {pc pc' i : Nat} {Ls : Array Slot} {x : Int64} (z : Int64) (hz : z = x) {rest : List Value} (Ls' : Array Slot) (hd : decode c.code pc = .ok (.lstore i, 2)) (hp : pc + 2 = pc') (hl : storeLocals Ls i (.long z) = some Ls') (K : Goes p l e R s m args below meth c n0 mc ms Fn h k n (mkF m pc' Ls' rest)) : Goes p l e R s m args below meth c n0 mc ms Fn h k n (mkF m pc Ls (.long x :: rest)) := by
  subst hp hz; exact K.pure fun T locs t X hs => XS.lstore X.here hx rfl hd rfl hl hs
theorem lstoreN (hx : p.tables.exec = Jvm.exec) {pc pc' : Nat} {i : Fin 4} {Ls : Array Slot} {x : Int64} (z : Int64) (hz : z = x) {rest : List Value} (Ls' : Array Slot) (hd : decode c.code pc = .ok (.lstore_n i, 1)) (hp : pc + 1 = pc') (hl : storeLocals Ls i.val (.long z) = some Ls') (K : Goes p l e R s m args below meth c n0 mc ms Fn h k n (mkF m pc' Ls' rest)) : Goes p l e R s m args below meth c n0 mc ms Fn h k n (mkF m pc Ls (.long x :: rest)) := by
  subst hp hz; exact K.pure fun T locs t X hs => XS.lstoreN X.here hx rfl hd rfl hl hs
theorem astore (hx : p.tables.exec = Jvm.exec) {pc pc' i : Nat} {Ls : Array Slot} {x : Value} {rest : List Value} (Ls' : Array Slot) (hd : decode c.code pc = .ok (.astore i, 2)) (hp : pc + 2 = pc') (hv : x.isRef = true) (hl : storeLocals Ls i x = some Ls') (K : Goes p l e R s m args below meth c n0 mc ms Fn h k n (mkF m pc' Ls' rest)) : Goes p l e R s m args below meth c n0 mc ms Fn h k n (mkF m pc Ls (x :: rest)) := by
  subst hp; exact K.pure fun T locs t X hs => XS.astore X.here hx rfl hd rfl hv hl hs
theorem astoreN (hx : p.tables.exec = Jvm.exec) {pc pc' : Nat} {i : Fin 4} {Ls : Array Slot} {x : Value} {rest : List Value} (Ls' : Array Slot) (hd : decode c.code pc = .ok (.astore_n i, 1)) (hp : pc + 1 = pc') (hv : x.isRef = true) (hl : storeLocals Ls i.val x = some Ls') (K : Goes p l e R s m args below meth c n0 mc ms Fn h k n (mkF m pc' Ls' rest)) : Goes p l e R s m args below meth c n0 mc ms Fn h k n (mkF m pc Ls (x :: rest)) := by
  subst hp; exact K.pure fun T locs t X hs => XS.astoreN X.here hx rfl hd rfl hv hl hs
theorem iinc (hx : p.tables.exec = Jvm.exec) {pc pc' i : Nat} {ct : Int} {Ls : Array Slot} {x : Int32} (z : Int32) {rest : List Value} (Ls' : Array Slot) (hd : decode c.code pc = .ok (.iinc i ct, 3)) (hp : pc + 3 = pc') (hl : Ls[i]? = some (.val (.int x))) (hz : z = x + Int32.ofInt ct) (hl' : storeLocals Ls i (.int z) = some Ls') (K : Goes p l e R s m args below meth c n0 mc ms Fn h k n (mkF m pc' Ls' rest)) : Goes p l e R s m args below meth c n0 mc ms Fn h k n (mkF m pc Ls rest) := by
  subst hp hz; exact K.pure fun T locs t X hs => XS.iinc X.here hx rfl hd hl hl' hs
theorem iconst (hx : p.tables.exec = Jvm.exec) {pc pc' : Nat} {i : Int} {Ls : Array Slot} (z : Int32) {rest : List Value} (hd : decode c.code pc = .ok (.iconst i, 1)) (hp : pc + 1 = pc') (hz : Int32.ofInt i = z) (K : Goes p l e R s m args below meth c n0 mc ms Fn h k n (mkF m pc' Ls (.int z :: rest))) : Goes p l e R s m args below meth c n0 mc ms Fn h k n (mkF m pc Ls rest) := by
  subst hp hz; exact K.pure fun T locs t X hs => XS.iconst X.here hx rfl hd hs
theorem bipush (hx : p.tables.exec = Jvm.exec) {pc pc' : Nat} {i : Int} {Ls : Array Slot} (z : Int32) {rest : List Value} (hd : decode c.code pc = .ok (.bipush i, 2)) (hp : pc + 2 = pc') (hz : (Int8.ofInt i).toInt32 = z) (K : Goes p l e R s m args below meth c n0 mc ms Fn h k n (mkF m pc' Ls (.int z :: rest))) : Goes p l e R s m args below meth c n0 mc ms Fn h k n (mkF m pc Ls rest) := by
  subst hp hz; exact K.pure fun T locs t X hs => XS.bipush X.here hx rfl hd hs
theorem sipush (hx : p.tables.exec = Jvm.exec) {pc pc' : Nat} {i : Int} {Ls : Array Slot} (z : Int32) {rest : List Value} (hd : decode c.code pc = .ok (.sipush i, 3)) (hp : pc + 3 = pc') (hz : (Int16.ofInt i).toInt32 = z) (K : Goes p l e R s m args below meth c n0 mc ms Fn h k n (mkF m pc' Ls (.int z :: rest))) : Goes p l e R s m args below meth c n0 mc ms Fn h k n (mkF m pc Ls rest) := by
  subst hp hz; exact K.pure fun T locs t X hs => XS.sipush X.here hx rfl hd hs
theorem lconst (hx : p.tables.exec = Jvm.exec) {pc pc' : Nat} {i : Fin 2} {Ls : Array Slot} (z : Int64) {rest : List Value} (hd : decode c.code pc = .ok (.lconst i, 1)) (hp : pc + 1 = pc') (hz : Int64.ofNat i = z) (K : Goes p l e R s m args below meth c n0 mc ms Fn h k n (mkF m pc' Ls (.long z :: rest))) : Goes p l e R s m args below meth c n0 mc ms Fn h k n (mkF m pc Ls rest) := by
  subst hp hz; exact K.pure fun T locs t X hs => XS.lconst X.here hx rfl hd hs
theorem aconstNull (hx : p.tables.exec = Jvm.exec) {pc pc' : Nat} {Ls : Array Slot} {rest : List Value} (hd : decode c.code pc = .ok (.aconst_null, 1)) (hp : pc + 1 = pc') (K : Goes p l e R s m args below meth c n0 mc ms Fn h k n (mkF m pc' Ls (.null :: rest))) : Goes p l e R s m args below meth c n0 mc ms Fn h k n (mkF m pc Ls rest) := by
  subst hp; exact K.pure fun T locs t X hs => XS.aconstNull X.here hx rfl hd hs
theorem dup (hx : p.tables.exec = Jvm.exec) {pc pc' : Nat} {Ls : Array Slot} {x : Value} {rest : List Value} (hd : decode c.code pc = .ok (.dup, 1)) (hp : pc + 1 = pc') (hc : x.category = 1) (K : Goes p l e R s m args below meth c n0 mc ms Fn h k n (mkF m pc' Ls (x :: x :: rest))) : Goes p l e R s m args below meth c n0 mc ms Fn h k n (mkF m pc Ls (x :: rest)) := by
  subst hp; exact K.pure fun T locs t X hs => XS.dup X.here hx rfl hd rfl hc hs
theorem pop (hx : p.tables.exec = Jvm.exec) {pc pc' : Nat} {Ls : Array Slot} {x : Value} {rest : List Value} (hd : decode c.code pc = .ok (.pop, 1)) (hp : pc + 1 = pc') (hc : x.category = 1) (K : Goes p l e R s m args below meth c n0 mc ms Fn h k n (mkF m pc' Ls rest)) : Goes p l e R s m args below meth c n0 mc ms Fn h k n (mkF m pc Ls (x :: rest)) := by
  subst hp; exact K.pure fun T locs t X hs => XS.pop X.here hx rfl hd rfl hc hs
theorem dupX1 (hx : p.tables.exec = Jvm.exec) {pc pc' : Nat} {Ls : Array Slot} {x y : Value} {rest : List Value} (hd : decode c.code pc = .ok (.dup_x1, 1)) (hp : pc + 1 = pc') (hc : x.category = 1) (hc' : y.category = 1) (K : Goes p l e R s m args below meth c n0 mc ms Fn h k n (mkF m pc' Ls (x :: y :: x :: rest))) : Goes p l e R s m args below meth c n0 mc ms Fn h k n (mkF m pc Ls (x :: y :: rest)) := by
  subst hp; exact K.pure fun T locs t X hs => XS.dupX1 X.here hx rfl hd rfl hc hc' hs
theorem dup2 (hx : p.tables.exec = Jvm.exec) {pc pc' : Nat} {Ls : Array Slot} {x y : Value} {rest : List Value} (hd : decode c.code pc = .ok (.dup2, 1)) (hp : pc + 1 = pc') (hc : x.category = 1) (hc' : y.category = 1) (K : Goes p l e R s m args below meth c n0 mc ms Fn h k n (mkF m pc' Ls (x :: y :: x :: y :: rest))) : Goes p l e R s m args below meth c n0 mc ms Fn h k n (mkF m pc Ls (x :: y :: rest)) := by
  subst hp; exact K.pure fun T locs t X hs => XT.dup2 X.here hx rfl hd rfl hc hc' hs
theorem dup2L (hx : p.tables.exec = Jvm.exec) {pc pc' : Nat} {Ls : Array Slot} {x : Int64} {rest : List Value} (hd : decode c.code pc = .ok (.dup2, 1)) (hp : pc + 1 = pc') (K : Goes p l e R s m args below meth c n0 mc ms Fn h k n (mkF m pc' Ls (.long x :: .long x :: rest))) : Goes p l e R s m args below meth c n0 mc ms Fn h k n (mkF m pc Ls (.long x :: rest)) := by
  subst hp; exact K.pure fun T locs t X hs => XT.dup2L X.here hx rfl hd rfl hs
theorem goto (hx : p.tables.exec = Jvm.exec) {pc pc' : Nat} {o : Int} {Ls : Array Slot} {st : List Value} (hd : decode c.code pc = .ok (.goto o, 3)) (ho : 0 ≤ (pc : Int) + o) (hp : ((pc : Int) + o).toNat = pc') (K : Goes p l e R s m args below meth c n0 mc ms Fn h k n (mkF m pc' Ls st)) : Goes p l e R s m args below meth c n0 mc ms Fn h k n (mkF m pc Ls st) :=
  K.pure fun T locs t X hs => XS.goto X.here hx rfl rfl hd ho hp hs
theorem ifF (hx : p.tables.exec = Jvm.exec) {Pr : Prop} [Decidable Pr] {cd : ClassFile.Cond} {x : Int32} (hq : ifCond.holds cd x = decide Pr) {pc pcN pcT : Nat} {o : Int} {Ls : Array Slot} {rest : List Value} (hd : decode c.code pc = .ok (.ifCond cd o, 3)) (hn : pc + 3 = pcN) (ho : 0 ≤ (pc : Int) + o) (hp : ((pc : Int) + o).toNat = pcT)
    (KT : Pr → Goes p l e R s m args below meth c n0 mc ms Fn h k n (mkF m pcT Ls rest)) (KN : ¬ Pr → Goes p l e R s m args below meth c n0 mc ms Fn h k n (mkF m pcN Ls rest)) : Goes p l e R s m args below meth c n0 mc ms Fn h k n (mkF m pc Ls (.int x :: rest)) := by
  subst hn
  by_cases hP : Pr
  · exact (KT hP).pure fun T locs t X hs => XS.ifYes X.here hx rfl rfl hd rfl (by rw [hq]; exact decide_eq_true hP) ho hp hs
  · exact (KN hP).pure fun T locs t X hs => XS.ifNo X.here hx rfl hd rfl (by rw [hq]; exact decide_eq_false hP) hs
theorem icmpF (hx : p.tables.exec = Jvm.exec) {Pr : Prop} [Decidable Pr] {cd : ClassFile.Cond} {x y : Int32} (hq : if_icmp.holds cd x y = decide Pr) {pc pcN pcT : Nat} {o : Int} {Ls : Array Slot} {rest : List Value} (hd : decode c.code pc = .ok (.if_icmp cd o, 3)) (hn : pc + 3 = pcN) (ho : 0 ≤ (pc : Int) + o) (hp : ((pc : Int) + o).toNat = pcT)
    (KT : Pr → Goes p l e R s m args below meth c n0 mc ms Fn h k n (mkF m pcT Ls rest)) (KN : ¬ Pr → Goes p l e R s m args below meth c n0 mc ms Fn h k n (mkF m pcN Ls rest)) : Goes p l e R s m args below meth c n0 mc ms Fn h k n (mkF m pc Ls (.int y :: .int x :: rest)) := by
  subst hn
  by_cases hP : Pr
  · exact (KT hP).pure fun T locs t X hs => XS.icmpYes X.here hx rfl rfl hd rfl (by rw [hq]; exact decide_eq_true hP) ho hp hs
  · exact (KN hP).pure fun T locs t X hs => XS.icmpNo X.here hx rfl hd rfl (by rw [hq]; exact decide_eq_false hP) hs
theorem ifFn (hx : p.tables.exec = Jvm.exec) {Pr : Prop} [Decidable Pr] {cd : ClassFile.Cond} {x : Int32} (hq : ifCond.holds cd x = decide (¬ Pr)) {pc pcN pcT : Nat} {o : Int} {Ls : Array Slot} {rest : List Value} (hd : decode c.code pc = .ok (.ifCond cd o, 3)) (hn : pc + 3 = pcN) (ho : 0 ≤ (pc : Int) + o) (hp : ((pc : Int) + o).toNat = pcT)
    (KT : ¬ Pr → Goes p l e R s m args below meth c n0 mc ms Fn h k n (mkF m pcT Ls rest)) (KN : Pr → Goes p l e R s m args below meth c n0 mc ms Fn h k n (mkF m pcN Ls rest)) : Goes p l e R s m args below meth c n0 mc ms Fn h k n (mkF m pc Ls (.int x :: rest)) := ifF hx hq hd hn ho hp KT fun q => KN (Decidable.of_not_not q)
theorem icmpFn (hx : p.tables.exec = Jvm.exec) {Pr : Prop} [Decidable Pr] {cd : ClassFile.Cond} {x y : Int32} (hq : if_icmp.holds cd x y = decide (¬ Pr)) {pc pcN pcT : Nat} {o : Int} {Ls : Array Slot} {rest : List Value} (hd : decode c.code pc = .ok (.if_icmp cd o, 3)) (hn : pc + 3 = pcN) (ho : 0 ≤ (pc : Int) + o) (hp : ((pc : Int) + o).toNat = pcT)
    (KT : ¬ Pr → Goes p l e R s m args below meth c n0 mc ms Fn h k n (mkF m pcT Ls rest)) (KN : Pr → Goes p l e R s m args below meth c n0 mc ms Fn h k n (mkF m pcN Ls rest)) : Goes p l e R s m args below meth c n0 mc ms Fn h k n (mkF m pc Ls (.int y :: .int x :: rest)) := icmpF hx hq hd hn ho hp KT fun q => KN (Decidable.of_not_not q)
theorem q_eq (x y : Int32) : if_icmp.holds .eq x y = decide (x = y) := by by_cases q : x = y <;> simp [if_icmp.holds, q]
theorem q_ne (x y : Int32) : if_icmp.holds .ne x y = decide (¬ x = y) := by by_cases q : x = y <;> simp [if_icmp.holds, q]
theorem q_lt (x y : Int32) : if_icmp.holds .lt x y = decide (x < y) := by by_cases q : x < y <;> simp [q, (tlt ·), (flt ·)]
theorem q_ge (x y : Int32) : if_icmp.holds .ge x y = decide (¬ x < y) := by by_cases q : x < y <;> simp [q, (tlt ·), (flt ·)]
theorem q_gt (x y : Int32) : if_icmp.holds .gt x y = decide (y < x) := by by_cases q : y < x <;> simp [q, (tlt ·), (flt ·)]
theorem q_le (x y : Int32) : if_icmp.holds .le x y = decide (¬ y < x) := by by_cases q : y < x <;> simp [q, (tlt ·), (flt ·)]
theorem z_eq (x : Int32) : ifCond.holds .eq x = decide (x = 0) := (if0 _ _).trans (q_eq x 0)
theorem z_ne (x : Int32) : ifCond.holds .ne x = decide (¬ x = 0) := (if0 _ _).trans (q_ne x 0)
theorem z_lt (x : Int32) : ifCond.holds .lt x = decide (x < 0) := (if0 _ _).trans (q_lt x 0)
theorem z_ge (x : Int32) : ifCond.holds .ge x = decide (¬ x < 0) := (if0 _ _).trans (q_ge x 0)
theorem z_gt (x : Int32) : ifCond.holds .gt x = decide (0 < x) := (if0 _ _).trans (q_gt x 0)
theorem z_le (x : Int32) : ifCond.holds .le x = decide (¬ 0 < x) := (if0 _ _).trans (q_le x 0)
theorem w_eq (x y : Int64) : ifCond.holds .eq (lcmpW x y) = decide (x = y) := (z_eq _).trans (by simp only [lw_eq])
theorem w_ne (x y : Int64) : ifCond.holds .ne (lcmpW x y) = decide (¬ x = y) := (z_ne _).trans (by simp only [lw_eq])
theorem w_lt (x y : Int64) : ifCond.holds .lt (lcmpW x y) = decide (x < y) := (z_lt _).trans (by simp only [lw_lt])
theorem w_ge (x y : Int64) : ifCond.holds .ge (lcmpW x y) = decide (¬ x < y) := (z_ge _).trans (by simp only [lw_lt])
theorem w_gt (x y : Int64) : ifCond.holds .gt (lcmpW x y) = decide (y < x) := (z_gt _).trans (by simp only [lw_gt])
theorem w_le (x y : Int64) : ifCond.holds .le (lcmpW x y) = decide (¬ y < x) := (z_le _).trans (by simp only [lw_gt])
theorem ifnullN (hx : p.tables.exec = Jvm.exec) {pc pcN : Nat} {o : Int} {a : Addr} {Ls : Array Slot} {rest : List Value} (hd : decode c.code pc = .ok (.ifnull o, 3)) (hn : pc + 3 = pcN) (K : Goes p l e R s m args below meth c n0 mc ms Fn h k n (mkF m pcN Ls rest)) : Goes p l e R s m args below meth c n0 mc ms Fn h k n (mkF m pc Ls (.ref a :: rest)) := by
  subst hn; exact K.pure fun T locs t X hs => XS.ifnullNo X.here hx rfl hd rfl hs
theorem ifnullY (hx : p.tables.exec = Jvm.exec) {pc pcT : Nat} {o : Int} {Ls : Array Slot} {rest : List Value} (hd : decode c.code pc = .ok (.ifnull o, 3)) (ho : 0 ≤ (pc : Int) + o) (hp : ((pc : Int) + o).toNat = pcT) (K : Goes p l e R s m args below meth c n0 mc ms Fn h k n (mkF m pcT Ls rest)) : Goes p l e R s m args below meth c n0 mc ms Fn h k n (mkF m pc Ls (.null :: rest)) :=
  K.pure fun T locs t X hs => XS.ifnullYes X.here hx rfl rfl hd rfl ho hp hs
theorem ifnonnullN (hx : p.tables.exec = Jvm.exec) {pc pcN : Nat} {o : Int} {Ls : Array Slot} {rest : List Value} (hd : decode c.code pc = .ok (.ifnonnull o, 3)) (hn : pc + 3 = pcN) (K : Goes p l e R s m args below meth c n0 mc ms Fn h k n (mkF m pcN Ls rest)) : Goes p l e R s m args below meth c n0 mc ms Fn h k n (mkF m pc Ls (.null :: rest)) := by
  subst hn; exact K.pure fun T locs t X hs => XS.ifnonnullNo X.here hx rfl hd rfl hs
theorem ifnonnullY (hx : p.tables.exec = Jvm.exec) {pc pcT : Nat} {o : Int} {a : Addr} {Ls : Array Slot} {rest : List Value} (hd : decode c.code pc = .ok (.ifnonnull o, 3)) (ho : 0 ≤ (pc : Int) + o) (hp : ((pc : Int) + o).toNat = pcT) (K : Goes p l e R s m args below meth c n0 mc ms Fn h k n (mkF m pcT Ls rest)) : Goes p l e R s m args below meth c n0 mc ms Fn h k n (mkF m pc Ls (.ref a :: rest)) :=
  K.pure fun T locs t X hs => XS.ifnonnullYes X.here hx rfl rfl hd rfl ho hp hs
theorem ldc (hx : p.tables.exec = Jvm.exec) {Z : State} (hZ : Z.Warmed39 s.vm) {a0 : Array Value} {own : String} (hown : s.vm.findClass own = some m.cls) {pc pc' i : Nat} {Ls : Array Slot} (z : Int32) {rest : List Value} (hd : decode c.code pc = .ok (.ldc i, 2)) (hp : pc + 2 = pc') (w : (Jvm.Cond.constant own i z).before a0 Z = true) (K : Goes p l e R s m args below meth c n0 mc ms Fn h k n (mkF m pc' Ls (.int z :: rest))) : Goes p l e R s m args below meth c n0 mc ms Fn h k n (mkF m pc Ls rest) := by
  subst hp; exact K.pure fun T locs t X hs => X.ldcInt hx hown (mvT hZ w) (g := mkF m pc Ls rest) rfl hd t hs
theorem ldc2 (hx : p.tables.exec = Jvm.exec) {Z : State} (hZ : Z.Warmed39 s.vm) {a0 : Array Value} {own : String} (hown : s.vm.findClass own = some m.cls) {pc pc' i : Nat} {Ls : Array Slot} (z : Int64) {rest : List Value} (hd : decode c.code pc = .ok (.ldc2_w i, 3)) (hp : pc + 3 = pc') (w : (Jvm.Cond.constantLong own i z).before a0 Z = true) (K : Goes p l e R s m args below meth c n0 mc ms Fn h k n (mkF m pc' Ls (.long z :: rest))) : Goes p l e R s m args below meth c n0 mc ms Fn h k n (mkF m pc Ls rest) := by
  subst hp; exact K.pure fun T locs t X hs => X.ldc2Long hx hown (mvT hZ w) (g := mkF m pc Ls rest) rfl hd t hs
/-- the end of a walk -/
theorem endOf {v : Option Value} {g : JFrame} (hlk : meth.locks = false) (hv : meth.sig.returnType = none → v = none)
    (st : ∀ (T : State) (locs : List Loc) (fs : List Frame), Stand p l e R s m args below meth c T locs k n → (∀ (f : JFrame) (acts : List Action), f.method = m → f.locked = none → f.entered = [] → (doReturn e (T.setTop f) acts v).1 = T.setFrames fs) → Steps p.tables e below (T.setTop g) (T.setFrames fs))
    (hk : k ≤ mc) (hn : n ≤ ms) (hF : Fn v h) : Goes p l e R s m args below meth c n0 mc ms Fn h k n g := fun T locs X N eT => by
  obtain ⟨fs, hr, hrun, hended, hW, hsame⟩ := X.leave hv hlk
  refine ⟨_, _, st T locs fs X hr, hrun, hended, v, locs, rfl, ⟨?_, N⟩, ⟨_, rfl⟩, hW, hsame.mono hk hn⟩
  show Fn v T.heap
  rw [eT]; exact hF
theorem retI (hx : p.tables.exec = Jvm.exec) (hret : meth.sig.returnType = some .int) (hlk : meth.locks = false) {pc : Nat} {Ls : Array Slot} {z : Int32} {rest : List Value} (hd : decode c.code pc = .ok (.ireturn, 1)) (hk : k ≤ mc) (hn : n ≤ ms) (hF : Fn (some (.int z)) h) : Goes p l e R s m args below meth c n0 mc ms Fn h k n (mkF m pc Ls (.int z :: rest)) :=
  endOf hlk (fun q => by rw [hret] at q; cases q) (fun T locs fs X hr => retOut X hx hret rfl (Or.inl ⟨rfl, Or.inl rfl, _, rfl⟩) hd hr) hk hn hF
theorem retL (hx : p.tables.exec = Jvm.exec) (hret : meth.sig.returnType = some .long) (hlk : meth.locks = false) {pc : Nat} {Ls : Array Slot} {z : Int64} {rest : List Value} (hd : decode c.code pc = .ok (.lreturn, 1)) (hk : k ≤ mc) (hn : n ≤ ms) (hF : Fn (some (.long z)) h) : Goes p l e R s m args below meth c n0 mc ms Fn h k n (mkF m pc Ls (.long z :: rest)) :=
  endOf hlk (fun q => by rw [hret] at q; cases q) (fun T locs fs X hr => retOut X hx hret rfl (Or.inr (Or.inl ⟨rfl, rfl, _, rfl⟩)) hd hr) hk hn hF
theorem retA (hx : p.tables.exec = Jvm.exec) {ty : FieldType} (hret : meth.sig.returnType = some ty) (hty : ty.isReference = true) (hlk : meth.locks = false) {pc : Nat} {Ls : Array Slot} {w : Value} {rest : List Value} (hw : w.isRef = true) (hnr : narrow ty w = w) (hd : decode c.code pc = .ok (.areturn, 1)) (hk : k ≤ mc) (hn : n ≤ ms) (hF : Fn (some w) h) : Goes p l e R s m args below meth c n0 mc ms Fn h k n (mkF m pc Ls (w :: rest)) :=
  endOf hlk (fun q => by rw [hret] at q; cases q) (fun T locs fs X hr => retOut X hx hret hnr (Or.inr (Or.inr (Or.inr (Or.inr ⟨rfl, hty, hw⟩)))) hd hr) hk hn hF
theorem retS (hx : p.tables.exec = Jvm.exec) {ty : FieldType} (hret : meth.sig.returnType = some ty) (hty : ty = .boolean ∨ ty = .byte ∨ ty = .char ∨ ty = .short) (hlk : meth.locks = false) {pc : Nat} {Ls : Array Slot} {z : Int32} {rest : List Value} (hd : decode c.code pc = .ok (.ireturn, 1)) (hk : k ≤ mc) (hn : n ≤ ms) (hF : Fn (some (.int (nar ty z))) h) : Goes p l e R s m args below meth c n0 mc ms Fn h k n (mkF m pc Ls (.int z :: rest)) :=
  endOf hlk (fun q => by rw [hret] at q; cases q) (fun T locs fs X hr => retN X hx hret hty hd hr) hk hn hF
theorem retV (hx : p.tables.exec = Jvm.exec) (hret : meth.sig.returnType = none) (hlk : meth.locks = false) {pc : Nat} {Ls : Array Slot} (hd : decode c.code pc = .ok (.return_, 1)) (hk : k ≤ mc) (hn : n ≤ ms) (hF : Fn none h) : Goes p l e R s m args below meth c n0 mc ms Fn h k n (mkF m pc Ls []) :=
  endOf hlk (fun _ => rfl) (fun T locs fs X hr => X.returnOut hx hret hd hr) hk hn hF
/-- a static method by its contract -/
theorem callS (hx : p.tables.exec = Jvm.exec) {Z : State} (hZ : Z.Warmed39 s.vm) {a0 : Array Value} {own : String} (hown : s.vm.findClass own = some m.cls) {i : Nat} {y : MethodName} {bytes : ByteArray} {maxL : Nat} {ret : Option FieldType} {rm : Room} {F : Option Value → Heap → Prop} {argsL rest : List Value}
    (w1 : (Jvm.Cond.methodLink own i y).before a0 Z = true) (w2 : (Jvm.Cond.static y).before a0 Z = true) (w3 : (Jvm.Cond.initialized y.cls).before a0 Z = true) (w4 : (Jvm.Cond.code y bytes maxL ret).before a0 Z = true) (hy : y.cls ≠ "java/lang/invoke/MethodHandle" ∧ y.cls ≠ "java/lang/invoke/VarHandle")
    {sg : ClassFile.MethodDescriptor} (hsg : parseMethodDescriptor y.desc = some sg) (hlen : argsL.length = sg.parameters.length) {pc pc' : Nat} {Ls : Array Slot} {W : Nat} (hW : (rest.map fun v => v.category).sum ≤ W) (hf : rm.frames + 1 ≤ R.frames) (hl : W + (maxL + 11) + rm.locals ≤ R.locals) (hcl : k + rm.cells ≤ R.cells) (hsl : n + rm.slots ≤ R.slots)
    {k' n' : Nat} (hk' : k + rm.cells = k') (hn' : n + rm.slots = n') (hml : Ls.size = c.maxLocals) (st : List Value) (hst : st = argsL.reverse ++ rest) (hd : decode c.code pc = .ok (.invokestatic i, 3)) (hp : pc + 3 = pc') (D : Does l y bytes maxL ret [] rm Z argsL.toArray h n0 F)
    (K : ∀ v h', F v h' → Goes p l e R s m args below meth c n0 mc ms Fn h' k' n' (mkF m pc' Ls (v.toList ++ rest))) : Goes p l e R s m args below meth c n0 mc ms Fn h k n (mkF m pc Ls st) := fun T locs X N eT => by
  subst hp hst hk' hn'
  obtain ⟨v, _, ⟨T', L', k', n'⟩, -, X', ⟨Lc, hQ, l1, y1, z1⟩, st⟩ := Jvm.LawKit.callS X hx (y := y) hown (mvT hZ w1) (mvT hZ w2) (mvT hZ w3) (mvT hZ w4) hy (backOf (W := W) (Q := fun v h' L => F v h' ∧ Fr n0 L) D hZ w4 w3 hf hl) (g := mkF m pc Ls (argsL.reverse ++ rest)) rfl hml (argsL := argsL) (rest := rest) (lenOf hsg hlen) rfl (by show 2 * 0 + _ ≤ _; omega) hd (fun _ _ => ⟨rfl, eT, hcl, hsl⟩)
  dsimp only [Pt.U, Pt.locs, Pt.cells, Pt.slots] at X' l1 y1 z1 st hQ
  subst l1 y1 z1
  obtain ⟨s₂, o, hs, r⟩ := K v T'.heap hQ.1 T' _ X' (N.app hQ.2) rfl
  exact ⟨s₂, o, st _ hs, r⟩
theorem vI {x : Int32} (z : Int32) (q : x = z) {pc : Nat} {Ls : Array Slot} {rest : List Value} (K : Goes p l e R s m args below meth c n0 mc ms Fn h k n (mkF m pc Ls (.int z :: rest))) : Goes p l e R s m args below meth c n0 mc ms Fn h k n (mkF m pc Ls (.int x :: rest)) := by subst q; exact K
theorem vL {x : Int64} (z : Int64) (q : x = z) {pc : Nat} {Ls : Array Slot} {rest : List Value} (K : Goes p l e R s m args below meth c n0 mc ms Fn h k n (mkF m pc Ls (.long z :: rest))) : Goes p l e R s m args below meth c n0 mc ms Fn h k n (mkF m pc Ls (.long x :: rest)) := by subst q; exact K
theorem bool1 {z : Int32} (q : z = 1) : (some (Value.int (nar .boolean z)) : Option Value) = some (.int 1) := by subst q; rfl
end Eng
end Own
namespace Own
section EngH
def FldC (Z : State) (C nm d : String) (v : Value) (cell : Cell) : Prop := ∃ (cf : ClassId) (kk : Class) (i : Nat) (f : Field), Z.fieldFound? C nm d = some (cf, kk, i, f) ∧ f.isStatic = false ∧ cell.vm ≠ .unknown ∧ cell.vm.isStatics = false ∧ Z.vm.assignable cell.cls cf = true ∧ cell.slots[f.slot]? = some v
def ExaC (Z : State) (C : String) (cell : Cell) : Prop := ∃ kk : Class, Z.vm.findClass C = some cell.cls ∧ Z.vm.classes[cell.cls]? = some kk ∧ cell.vm.isStatics = false ∧ (kk.kind = .ordinary → cell.slots.size = kk.instanceTypes.size)
/-- an object of just the class C with these fields (declaring class, name, descriptor) at these values -/
def ObjC (Z : State) (C : String) (fs : List ((String × String × String) × Value)) (cell : Cell) : Prop := ExaC Z C cell ∧ (∀ f ∈ fs, FldC Z f.1.1 f.1.2.1 f.1.2.2 f.2 cell) ∧ (fs.map fun f => Jvm.RoadKit.slotOf Z f.1.1 f.1.2.1 f.1.2.2).Nodup
/-- an array of the kind ty with these values -/
def ArrC (Z : State) (ty : FieldType) (vs : List Value) (cell : Cell) : Prop := Z.isArrayOf cell ty ∧ cell.vm ≠ .unknown ∧ cell.slots.toList = vs ∧ ∀ v ∈ vs, fits ty v = true
/-- the cells at these places, all at or above n0 and unlike, are as said -/
def Owns (n0 : Nat) (h : Heap) (os : List (Addr × (Cell → Prop))) : Prop := n0 ≤ h.size ∧ (os.map Prod.fst).Nodup ∧ ∀ o ∈ os, n0 ≤ o.1 ∧ ∃ cell, h[o.1]? = some cell ∧ o.2 cell
variable {p : Program} {l : Launch} {e : Env} {R : Room} {s : State} {m : MethodId} {args : Array Value} {below : List Frame} {meth : Method} {c : Code} {n0 mc ms : Nat} {Fn : Option Value → Heap → Prop} {h h' : Heap} {k n : Nat} {Z : State} {a0 : Array Value} {os : List (Addr × (Cell → Prop))} {a : Addr}
theorem Owns.nil (q : n0 ≤ h.size) : Owns n0 h [] := ⟨q, List.nodup_nil, fun _ z => nomatch z⟩
theorem Owns.at (O : Owns n0 h os) {i : Nat} {P : Cell → Prop} (hi : os[i]? = some (a, P)) : n0 ≤ a ∧ ∃ cell, h[a]? = some cell ∧ P cell := O.2.2 (a, P) (List.mem_of_getElem? hi)
theorem Owns.lt (O : Owns n0 h os) {o : Addr × (Cell → Prop)} (ho : o ∈ os) : o.1 < h.size := by obtain ⟨-, cell, q, -⟩ := O.2.2 o ho; exact (Array.getElem?_eq_some_iff.mp q).1
theorem Owns.push {P : Cell → Prop} (O : Owns n0 h os) (E : Ext h h') (q : ∃ cell, h'[h.size]? = some cell ∧ P cell) : Owns n0 h' ((h.size, P) :: os) := by
  refine ⟨Nat.le_trans O.1 E.1, ?_, ?_⟩
  · rw [List.map_cons, List.nodup_cons]
    refine ⟨fun z => ?_, O.2.1⟩
    obtain ⟨o, ho, e1⟩ := List.mem_map.mp z
    exact absurd (O.lt ho) (by rw [e1]; exact Nat.lt_irrefl _)
  · intro o ho
    rcases List.mem_cons.mp ho with rfl | ho
    · exact ⟨O.1, q⟩
    · obtain ⟨q1, cell, q2, q3⟩ := O.2.2 o ho
      exact ⟨q1, cell, E.2 _ _ q2, q3⟩
theorem nodup_at {os : List (Addr × (Cell → Prop))} (hN : (os.map Prod.fst).Nodup) {i j : Nat} {P Q : Cell → Prop} (hi : os[i]? = some (a, P)) (hj : os[j]? = some (a, Q)) : i = j := by
  have h1 : (os.map Prod.fst)[i]? = some a := by rw [List.getElem?_map, hi]; rfl
  have h2 : (os.map Prod.fst)[j]? = some a := by rw [List.getElem?_map, hj]; rfl
  obtain ⟨l1, e1⟩ := List.getElem?_eq_some_iff.mp h1
  obtain ⟨l2, e2⟩ := List.getElem?_eq_some_iff.mp h2
  exact (List.getElem_inj hN).mp (e1.trans e2.symm)
/-- the cell at one owned place is another one now; all others stay -/
theorem Owns.upd {P P' : Cell → Prop} (O : Owns n0 h os) {i : Nat} (hi : os[i]? = some (a, P)) (hs : h.size ≤ h'.size) (ho : ∀ x cell, h[x]? = some cell → x ≠ a → h'[x]? = some cell) (ha : ∃ cell, h'[a]? = some cell ∧ P' cell) : Owns n0 h' (os.set i (a, P')) := by
  have hlt : i < os.length := (List.getElem?_eq_some_iff.mp hi).1
  refine ⟨Nat.le_trans O.1 hs, ?_, ?_⟩
  · have e1 : (os.set i (a, P')).map Prod.fst = os.map Prod.fst := by
      rw [List.map_set]
      refine List.ext_getElem? fun j => ?_
      rw [List.getElem?_set]
      split
      · next q => subst q; rw [List.getElem?_map, hi]; simp [hlt]
      · rfl
    rw [e1]; exact O.2.1
  · intro o hm
    obtain ⟨j, hj⟩ := List.getElem?_of_mem hm
    rw [List.getElem?_set] at hj
    split at hj
    · simp only [hlt, if_true, Option.some.injEq] at hj
      subst hj
      exact ⟨(O.at hi).1, ha⟩
    · next q =>
      obtain ⟨oa, oP⟩ := o
      obtain ⟨q1, cell, q2, q3⟩ := O.at hj
      refine ⟨q1, cell, ho _ _ q2 fun z => ?_, q3⟩
      subst z
      exact q (nodup_at O.2.1 hi hj)
theorem wr_get {sl : Nat} {v : Value} (W : Wr h h' a sl v) : h.size ≤ h'.size ∧ (∀ x cell, h[x]? = some cell → x ≠ a → h'[x]? = some cell) ∧ ∀ cell, h[a]? = some cell → h'[a]? = some (cell.setSlot sl v) := by
  obtain ⟨cell, h1, h2, h3, rfl⟩ := W
  refine ⟨by simp, fun x cx hx hne => ?_, fun c' hc' => ?_⟩
  · rw [Array.getElem?_setIfInBounds_ne (Ne.symm hne)]; exact hx
  · cases h1.symm.trans hc'
    have := (Array.getElem?_eq_some_iff.mp h1).1
    simp [this]
theorem Owns.wr {P P' : Cell → Prop} {sl : Nat} {v : Value} (O : Owns n0 h os) {i : Nat} (hi : os[i]? = some (a, P)) (W : Wr h h' a sl v) (q : ∀ cell, P cell → P' (cell.setSlot sl v)) : Owns n0 h' (os.set i (a, P')) := by
  obtain ⟨w1, w2, w3⟩ := wr_get W
  obtain ⟨-, cell, q1, q2⟩ := O.at hi
  exact O.upd hi w1 w2 ⟨_, w3 _ q1, q _ q2⟩
/-- the i-th object is brought to the front -/
theorem Owns.pick (O : Owns n0 h os) (i : Nat) {o : Addr × (Cell → Prop)} (hi : os[i]? = some o) : Owns n0 h (o :: os.eraseIdx i) := by
  have hlt : i < os.length := (List.getElem?_eq_some_iff.mp hi).1
  have hp : os.Perm (o :: os.eraseIdx i) := by
    have h2 : os[i] = o := (List.getElem?_eq_some_iff.mp hi).2
    have h3 : os = os.take i ++ o :: os.drop (i + 1) := by rw [← h2, List.getElem_cons_drop, List.take_append_drop]
    rw [List.eraseIdx_eq_take_drop_succ]
    conv => lhs; rw [h3]
    exact List.perm_middle
  exact ⟨O.1, (hp.map Prod.fst).nodup_iff.mp O.2.1, fun z hz => O.2.2 z (hp.mem_iff.mpr hz)⟩
theorem Owns.cast {os' : List (Addr × (Cell → Prop))} (O : Owns n0 h os) (q : os = os') : Owns n0 h os' := q ▸ O
theorem Owns.tail {o : Addr × (Cell → Prop)} (O : Owns n0 h (o :: os)) : Owns n0 h os := ⟨O.1, by have h1 := O.2.1; rw [List.map_cons, List.nodup_cons] at h1; exact h1.2, fun z hz => O.2.2 z (List.mem_cons_of_mem _ hz)⟩
theorem fld_of {C nm d : String} {v : Value} {cell : Cell} (q : h[a]? = some cell) (F : FldC Z C nm d v cell) : Fld Z h a C nm d v := by obtain ⟨cf, kk, i, f, r⟩ := F; exact ⟨cell, cf, kk, i, f, q, r⟩
theorem exa_of {C : String} {cell : Cell} (q : h[a]? = some cell) (F : ExaC Z C cell) : Exa Z h a C := by obtain ⟨kk, r⟩ := F; exact ⟨cell, kk, q, r⟩
theorem fldC_of {C nm d : String} {v : Value} {cell : Cell} (q : h[a]? = some cell) (F : Fld Z h a C nm d v) : FldC Z C nm d v cell := by obtain ⟨c', cf, kk, i, f, q', r⟩ := F; cases q.symm.trans q'; exact ⟨cf, kk, i, f, r⟩
theorem exaC_of {C : String} {cell : Cell} (q : h[a]? = some cell) (F : Exa Z h a C) : ExaC Z C cell := by obtain ⟨c', kk, q', r⟩ := F; cases q.symm.trans q'; exact ⟨kk, r⟩
theorem Owns.fld {C : String} {fs : List ((String × String × String) × Value)} (O : Owns n0 h os) {i j : Nat} (hi : os[i]? = some (a, ObjC Z C fs)) {C' nm d : String} {v : Value} (hj : fs[j]? = some ((C', nm, d), v)) : Fld Z h a C' nm d v := by
  obtain ⟨-, cell, q1, q2⟩ := O.at hi
  exact fld_of q1 (q2.2.1 _ (List.mem_of_getElem? hj))
theorem Owns.exa {C : String} {fs : List ((String × String × String) × Value)} (O : Owns n0 h os) {i : Nat} (hi : os[i]? = some (a, ObjC Z C fs)) : Exa Z h a C := by
  obtain ⟨-, cell, q1, q2⟩ := O.at hi
  exact exa_of q1 q2.1
theorem getfield (hx : p.tables.exec = Jvm.exec) (hZ : Z.Warmed39 s.vm) {own : String} (hown : s.vm.findClass own = some m.cls) (O : Owns n0 h os) (i j : Nat) {C C' nm d : String} {fs : List ((String × String × String) × Value)} (hi : os[i]? = some (a, ObjC Z C fs)) {v : Value} (hj : fs[j]? = some ((C', nm, d), v))
    {pc pc' idx : Nat} {Ls : Array Slot} {rest : List Value} (w : (Jvm.Cond.fieldLink own idx C' nm d).before a0 Z = true) (hd : decode c.code pc = .ok (.getfield idx, 3)) (hp : pc + 3 = pc') (K : Goes p l e R s m args below meth c n0 mc ms Fn h k n (mkF m pc' Ls (v :: rest))) : Goes p l e R s m args below meth c n0 mc ms Fn h k n (mkF m pc Ls (.ref a :: rest)) := by
  subst hp
  refine Goes.move (Pr := fun h' => h' = h) (k' := k) (n' := n) (g' := mkF m (pc + 3) Ls (v :: rest)) (fun T locs X N eT => ?_) (fun h' q => by rw [q]; exact K)
  obtain ⟨T', X', e', st⟩ := getF X hx hZ hown (host := "") (Or.inl w) Via.refl eT (O.fld hi hj) (g := mkF m pc Ls (.ref a :: rest)) rfl rfl hd
  exact ⟨T', locs, X', N, e', st⟩
theorem obj_set {C : String} {fs : List ((String × String × String) × Value)} {j : Nat} {C' nm d : String} {old v : Value} (hj : fs[j]? = some ((C', nm, d), old)) {cell : Cell} (q : ObjC Z C fs cell) : ObjC Z C (fs.set j ((C', nm, d), v)) (cell.setSlot (Jvm.RoadKit.slotOf Z C' nm d) v) := by
  obtain ⟨q1, q2, q3⟩ := q
  have hq : (#[cell] : Heap)[0]? = some cell := rfl
  have F0 := q2 _ (List.mem_of_getElem? hj)
  have hst : cell.vm.isStatics = false := by obtain ⟨_, _, _, _, _, _, _, r, _⟩ := F0; exact r
  have hsl : Jvm.RoadKit.slotOf Z C' nm d < cell.slots.size := by
    obtain ⟨cf, kk, i, f, r1, -, -, -, -, r2⟩ := F0
    have e1 : Jvm.RoadKit.slotOf Z C' nm d = f.slot := by simp [Jvm.RoadKit.slotOf, r1]
    rw [e1]; exact (Array.getElem?_eq_some_iff.mp r2).1
  have W : Wr #[cell] #[cell.setSlot (Jvm.RoadKit.slotOf Z C' nm d) v] 0 (Jvm.RoadKit.slotOf Z C' nm d) v := ⟨cell, hq, hst, hsl, by simp⟩
  have hq' : (#[cell.setSlot (Jvm.RoadKit.slotOf Z C' nm d) v] : Heap)[0]? = some (cell.setSlot (Jvm.RoadKit.slotOf Z C' nm d) v) := rfl
  have hlt : j < fs.length := (List.getElem?_eq_some_iff.mp hj).1
  have hslots : (fs.set j ((C', nm, d), v)).map (fun f => Jvm.RoadKit.slotOf Z f.1.1 f.1.2.1 f.1.2.2) = fs.map (fun f => Jvm.RoadKit.slotOf Z f.1.1 f.1.2.1 f.1.2.2) := by
    rw [List.map_set]
    refine List.ext_getElem? fun i => ?_
    rw [List.getElem?_set]
    split
    · next z => subst z; rw [List.getElem?_map, hj]; simp [hlt]
    · rfl
  refine ⟨exaC_of hq' ((exa_of hq q1).wr W), fun f hf => ?_, by rw [hslots]; exact q3⟩
  obtain ⟨i, hi⟩ := List.getElem?_of_mem hf
  rw [List.getElem?_set] at hi
  split at hi
  · simp only [hlt, if_true, Option.some.injEq] at hi
    subst hi
    exact fldC_of hq' ((fld_of hq F0).same W)
  · next z =>
    refine fldC_of hq' ((fld_of hq (q2 f (List.mem_of_getElem? hi))).other W (Or.inr fun y => z ?_))
    have h1 : (fs.map (fun f => Jvm.RoadKit.slotOf Z f.1.1 f.1.2.1 f.1.2.2))[i]? = some (Jvm.RoadKit.slotOf Z f.1.1 f.1.2.1 f.1.2.2) := by rw [List.getElem?_map, hi]; rfl
    have h2 : (fs.map (fun f => Jvm.RoadKit.slotOf Z f.1.1 f.1.2.1 f.1.2.2))[j]? = some (Jvm.RoadKit.slotOf Z C' nm d) := by rw [List.getElem?_map, hj]; rfl
    obtain ⟨l1, e1⟩ := List.getElem?_eq_some_iff.mp h1
    obtain ⟨l2, e2⟩ := List.getElem?_eq_some_iff.mp h2
    exact ((List.getElem_inj q3).mp (e1.trans (y.trans e2.symm))).symm
theorem putfield (hx : p.tables.exec = Jvm.exec) (hZ : Z.Warmed39 s.vm) {own : String} (hown : s.vm.findClass own = some m.cls) (O : Owns n0 h os) (i j : Nat) {C C' nm d : String} {fs : List ((String × String × String) × Value)} (hi : os[i]? = some (a, ObjC Z C fs)) {old v : Value} (hj : fs[j]? = some ((C', nm, d), old))
    {pc pc' idx kk : Nat} {Ls : Array Slot} {rest : List Value} (w : (Jvm.Cond.fieldLink own idx C' nm d).before a0 Z = true) (L : (Jvm.Cond.lays C C' nm d).before a0 Z = true ∨ ((Jvm.Cond.laysFinal C C' nm d).before a0 Z = true ∧ own = C' ∧ meth.name = "<init>")) (wi : (Jvm.Cond.instantiable C kk).before a0 Z = true)
    {ty : FieldType} (hty : parseFieldDescriptor d = some ty) (hnr : narrow ty v = v) (hf : fits ty v = true) (os' : List (Addr × (Cell → Prop))) (hos : os.set i (a, ObjC Z C (fs.set j ((C', nm, d), v))) = os')
    (hd : decode c.code pc = .ok (.putfield idx, 3)) (hp : pc + 3 = pc') (K : ∀ h', Owns n0 h' os' → Goes p l e R s m args below meth c n0 mc ms Fn h' k n (mkF m pc' Ls rest)) : Goes p l e R s m args below meth c n0 mc ms Fn h k n (mkF m pc Ls (v :: .ref a :: rest)) := by
  subst hp hos
  refine Goes.move (Pr := fun h' => Owns n0 h' (os.set i (a, ObjC Z C (fs.set j ((C', nm, d), v))))) (fun T locs X N eT => ?_) K
  obtain ⟨T', h', X', e', W, st⟩ := putF X hx hZ hown (host := "") (Or.inl w) Via.refl eT (O.fld hi hj) (O.exa hi) L wi hty hnr hf (g := mkF m pc Ls (v :: .ref a :: rest)) rfl rfl hd
  exact ⟨T', _, X', Fr.snoc X' N (O.at hi).1, by rw [e']; exact O.wr hi W fun cell q => obj_set hj q, st⟩
theorem nodup_slots {C : String} : ∀ {fs : List ((String × String × String) × Value)}, (∀ f ∈ fs, Laid Z a0 C f.1.1 f.1.2.1 f.1.2.2 ∧ ∃ ty, parseFieldDescriptor f.1.2.2 = some ty ∧ defaultValue ty = f.2) → (fs.map fun f => f.1.2.1).Nodup → (fs.map fun f => Jvm.RoadKit.slotOf Z f.1.1 f.1.2.1 f.1.2.2).Nodup
  | [], _, _ => List.nodup_nil
  | f :: fs, hL, hN => by
    rw [List.map_cons, List.nodup_cons] at hN ⊢
    refine ⟨fun z => ?_, nodup_slots (fun g hg => hL g (List.mem_cons_of_mem _ hg)) hN.2⟩
    obtain ⟨g, hg, e1⟩ := List.mem_map.mp z
    obtain ⟨L1, d1⟩ := hL f List.mem_cons_self
    obtain ⟨L2, d2⟩ := hL g (List.mem_cons_of_mem _ hg)
    obtain ⟨t1, t1', -⟩ := d1
    obtain ⟨t2, t2', -⟩ := d2
    exact slot_ne L1 L2 (fun q => hN.1 (List.mem_map.mpr ⟨g, hg, q.symm⟩)) t1' t2' e1.symm
theorem newobj (hx : p.tables.exec = Jvm.exec) (hZ : Z.Warmed39 s.vm) {own : String} (hown : s.vm.findClass own = some m.cls) (O : Owns n0 h os) {C : String} {idx kk : Nat} (w1 : (Jvm.Cond.classLink own idx C).before a0 Z = true) (w2 : (Jvm.Cond.instantiable C kk).before a0 Z = true) (w3 : (Jvm.Cond.initialized C).before a0 Z = true)
    (fs : List ((String × String × String) × Value)) (hL : ∀ f ∈ fs, Laid Z a0 C f.1.1 f.1.2.1 f.1.2.2 ∧ ∃ ty, parseFieldDescriptor f.1.2.2 = some ty ∧ defaultValue ty = f.2) (hN : (fs.map fun f => f.1.2.1).Nodup) {k' n' : Nat} (hk' : k + 1 = k') (hn' : n + kk = n') (hc : k' ≤ R.cells) (hl : n' ≤ R.slots)
    {pc pc' : Nat} {Ls : Array Slot} {rest : List Value} (hd : decode c.code pc = .ok (.new idx, 3)) (hp : pc + 3 = pc') (K : ∀ a h', Owns n0 h' ((a, ObjC Z C fs) :: os) → Goes p l e R s m args below meth c n0 mc ms Fn h' k' n' (mkF m pc' Ls (.ref a :: rest))) : Goes p l e R s m args below meth c n0 mc ms Fn h k n (mkF m pc Ls rest) := by
  subst hp hk' hn'
  refine Goes.move (Pr := fun h' => Owns n0 h' ((h.size, ObjC Z C fs) :: os)) (fun T locs X N eT => ?_) (fun h' q => K _ _ q)
  obtain ⟨T', h', X', e', E, A, D, ⟨cell, q1, -, -⟩, st⟩ := newO X hx hZ hown w1 w2 w3 eT (g := mkF m pc Ls rest) rfl hd hc hl
  refine ⟨T', locs, X', N, ?_, st⟩
  rw [e']
  refine O.push E ⟨cell, q1, exaC_of q1 A, fun f hf => ?_, nodup_slots hL hN⟩
  obtain ⟨L1, d1⟩ := hL f hf
  obtain ⟨t1, t1', t1''⟩ := d1
  have := D L1 t1'
  rw [t1''] at this
  exact fldC_of q1 this
theorem idx_ok {j : Int32} {i len : Nat} (hj : j.toInt = (i : Int)) (hi : i < len) : ¬ (j < 0 ∨ len ≤ j.toNatClampNeg) ∧ j.toNatClampNeg = i := by
  have h0 : ¬ j < 0 := fun q => by have := Int32.lt_iff_toInt_lt.mp q; rw [hj] at this; have h1 : (0 : Int32).toInt = 0 := by decide
                                   omega
  have h1 : j.toNatClampNeg = i := by have := nat_of h0; omega
  exact ⟨fun q => by rcases q with q | q
                     · exact h0 q
                     · omega, h1⟩
theorem newarr (hx : p.tables.exec = Jvm.exec) (hZ : Z.Warmed39 s.vm) (O : Owns n0 h os) {aty : ArrayType} (w : (Jvm.Cond.arrayClass (newarray.typeOf aty)).before a0 Z = true) {z : Int32} (len : Nat) (hz : z.toInt = (len : Int)) (vs : List Value) (hvs : List.replicate len (defaultValue (newarray.typeOf aty)) = vs) (hfit : fits (newarray.typeOf aty) (defaultValue (newarray.typeOf aty)) = true) {cap : Nat} (hcap : len ≤ cap) (hbg : cap * 8 ≤ 536870912) {k' n' : Nat} (hk' : k + 1 = k') (hn' : n + cap = n') (hc : k' ≤ R.cells) (hl : n' ≤ R.slots)
    {pc pc' : Nat} {Ls : Array Slot} {rest : List Value} (hd : decode c.code pc = .ok (.newarray aty, 2)) (hp : pc + 2 = pc') (K : ∀ a h', Owns n0 h' ((a, ArrC Z (newarray.typeOf aty) vs) :: os) → Goes p l e R s m args below meth c n0 mc ms Fn h' k' n' (mkF m pc' Ls (.ref a :: rest))) : Goes p l e R s m args below meth c n0 mc ms Fn h k n (mkF m pc Ls (.int z :: rest)) := by
  subst hp hk' hn' hvs
  have hz0 : ¬ z < 0 := fun q => by have := Int32.lt_iff_toInt_lt.mp q; rw [hz] at this; have h1 : (0 : Int32).toInt = 0 := by decide
                                    omega
  have hz1 : z.toNatClampNeg = len := by have := nat_of hz0; omega
  refine Goes.move (Pr := fun h' => Owns n0 h' ((h.size, ArrC Z (newarray.typeOf aty) (List.replicate len (defaultValue (newarray.typeOf aty)))) :: os)) (fun T locs X N eT => ?_) (fun h' q => K _ _ q)
  obtain ⟨T', h', cA, X', e', E, A, st⟩ := newP X hx hZ w eT (g := mkF m pc Ls (.int z :: rest)) rfl hd rfl hz0 (cap := cap) (by omega) hbg hc hl
  refine ⟨T', locs, X', N, ?_, st⟩
  rw [e']
  refine O.push E ⟨_, A.1, A.2.1, A.2.2, by simp [newA, hz1], fun v hv => ?_⟩
  rw [(List.mem_replicate.mp hv).2]; exact hfit
theorem arrlen (hx : p.tables.exec = Jvm.exec) (hZ : Z.Warmed39 s.vm) (O : Owns n0 h os) (i : Nat) {ty : FieldType} {vs : List Value} (hi : os[i]? = some (a, ArrC Z ty vs)) (z : Int32) (hz : vs.length.toInt32 = z) {pc pc' : Nat} {Ls : Array Slot} {rest : List Value} (hd : decode c.code pc = .ok (.arraylength, 1)) (hp : pc + 1 = pc')
    (K : Goes p l e R s m args below meth c n0 mc ms Fn h k n (mkF m pc' Ls (.int z :: rest))) : Goes p l e R s m args below meth c n0 mc ms Fn h k n (mkF m pc Ls (.ref a :: rest)) := fun T locs X N eT => by
  subst hp hz
  obtain ⟨-, cell, q1, q2, q3, q4, q5⟩ := O.at hi
  obtain ⟨s₂, o, hs, r⟩ := K T locs X N eT
  refine ⟨s₂, o, ?_, r⟩
  refine X.arraylength hx (by rw [eT]; exact q1) (State.isArrayOf_alike hZ.alike q2) (g := mkF m pc Ls (.ref a :: rest)) rfl rfl hd _ ?_
  have e1 : cell.slots.size = vs.length := by rw [← q4, Array.length_toList]
  rw [e1]; exact hs
theorem iaload (hx : p.tables.exec = Jvm.exec) (hZ : Z.Warmed39 s.vm) (O : Owns n0 h os) (i j : Nat) {vs : List Value} (hi : os[i]? = some (a, ArrC Z .int vs)) {jj : Int32} (hj : jj.toInt = (j : Int)) {v : Value} (hv : vs[j]? = some v) {pc pc' : Nat} {Ls : Array Slot} {rest : List Value} (hd : decode c.code pc = .ok (.iaload, 1)) (hp : pc + 1 = pc')
    (K : Goes p l e R s m args below meth c n0 mc ms Fn h k n (mkF m pc' Ls (v :: rest))) : Goes p l e R s m args below meth c n0 mc ms Fn h k n (mkF m pc Ls (.int jj :: .ref a :: rest)) := fun T locs X N eT => by
  subst hp
  obtain ⟨-, cell, q1, q2, q3, q4, q5⟩ := O.at hi
  have e1 : cell.slots.size = vs.length := by rw [← q4, Array.length_toList]
  obtain ⟨hin, hjn⟩ := idx_ok hj (len := cell.slots.size) (by rw [e1]; exact (List.getElem?_eq_some_iff.mp hv).1)
  obtain ⟨s₂, o, hs, r⟩ := K T locs X N eT
  refine ⟨s₂, o, X.iaload hx (by rw [eT]; exact q1) (State.isArrayOf_alike hZ.alike q2) q3 hin (by rw [hjn, ← Array.getElem?_toList, q4]; exact hv) (g := mkF m pc Ls (.int jj :: .ref a :: rest)) rfl rfl hd _ hs, r⟩
theorem laload (hx : p.tables.exec = Jvm.exec) (hZ : Z.Warmed39 s.vm) (O : Owns n0 h os) (i j : Nat) {vs : List Value} (hi : os[i]? = some (a, ArrC Z .long vs)) {jj : Int32} (hj : jj.toInt = (j : Int)) {v : Value} (hv : vs[j]? = some v) {pc pc' : Nat} {Ls : Array Slot} {rest : List Value} (hd : decode c.code pc = .ok (.laload, 1)) (hp : pc + 1 = pc')
    (K : Goes p l e R s m args below meth c n0 mc ms Fn h k n (mkF m pc' Ls (v :: rest))) : Goes p l e R s m args below meth c n0 mc ms Fn h k n (mkF m pc Ls (.int jj :: .ref a :: rest)) := fun T locs X N eT => by
  subst hp
  obtain ⟨-, cell, q1, q2, q3, q4, q5⟩ := O.at hi
  have e1 : cell.slots.size = vs.length := by rw [← q4, Array.length_toList]
  obtain ⟨hin, hjn⟩ := idx_ok hj (len := cell.slots.size) (by rw [e1]; exact (List.getElem?_eq_some_iff.mp hv).1)
  obtain ⟨s₂, o, hs, r⟩ := K T locs X N eT
  refine ⟨s₂, o, X.laload hx (by rw [eT]; exact q1) (State.isArrayOf_alike hZ.alike q2) q3 hin (by rw [hjn, ← Array.getElem?_toList, q4]; exact hv) (g := mkF m pc Ls (.int jj :: .ref a :: rest)) rfl rfl hd _ hs, r⟩
theorem caload (hx : p.tables.exec = Jvm.exec) (hZ : Z.Warmed39 s.vm) (O : Owns n0 h os) (i j : Nat) {vs : List Value} (hi : os[i]? = some (a, ArrC Z .char vs)) {jj : Int32} (hj : jj.toInt = (j : Int)) {v : Value} (hv : vs[j]? = some v) {pc pc' : Nat} {Ls : Array Slot} {rest : List Value} (hd : decode c.code pc = .ok (.caload, 1)) (hp : pc + 1 = pc')
    (K : Goes p l e R s m args below meth c n0 mc ms Fn h k n (mkF m pc' Ls (v :: rest))) : Goes p l e R s m args below meth c n0 mc ms Fn h k n (mkF m pc Ls (.int jj :: .ref a :: rest)) := fun T locs X N eT => by
  subst hp
  obtain ⟨-, cell, q1, q2, q3, q4, q5⟩ := O.at hi
  have e1 : cell.slots.size = vs.length := by rw [← q4, Array.length_toList]
  obtain ⟨hin, hjn⟩ := idx_ok hj (len := cell.slots.size) (by rw [e1]; exact (List.getElem?_eq_some_iff.mp hv).1)
  obtain ⟨s₂, o, hs, r⟩ := K T locs X N eT
  refine ⟨s₂, o, X.caload hx (by rw [eT]; exact q1) (State.isArrayOf_alike hZ.alike q2) q3 hin (by rw [hjn, ← Array.getElem?_toList, q4]; exact hv) (g := mkF m pc Ls (.int jj :: .ref a :: rest)) rfl rfl hd _ hs, r⟩
theorem iastore (hx : p.tables.exec = Jvm.exec) (hZ : Z.Warmed39 s.vm) (O : Owns n0 h os) (i j : Nat) {vs : List Value} (hi : os[i]? = some (a, ArrC Z .int vs)) {jj : Int32} (hj : jj.toInt = (j : Int)) (hv : j < vs.length) {x : Int32} (os' : List (Addr × (Cell → Prop))) (hos : os.set i (a, ArrC Z .int (vs.set j (.int x))) = os') {pc pc' : Nat} {Ls : Array Slot} {rest : List Value} (hd : decode c.code pc = .ok (.iastore, 1)) (hp : pc + 1 = pc')
    (K : ∀ h', Owns n0 h' os' → Goes p l e R s m args below meth c n0 mc ms Fn h' k n (mkF m pc' Ls rest)) : Goes p l e R s m args below meth c n0 mc ms Fn h k n (mkF m pc Ls (.int x :: .int jj :: .ref a :: rest)) := by
  subst hp hos
  refine Goes.move (Pr := fun h' => Owns n0 h' (os.set i (a, ArrC Z .int (vs.set j (.int x))))) (fun T locs X N eT => ?_) K
  obtain ⟨q0, cell, q1, q2, q3, q4, q5⟩ := O.at hi
  have e1 : cell.slots.size = vs.length := by rw [← q4, Array.length_toList]
  obtain ⟨hin, hjn⟩ := idx_ok hj (len := cell.slots.size) (by rw [e1]; exact hv)
  obtain ⟨T', h', X', e', W, st'⟩ := stI X hx hZ eT ⟨q1, q2, q3⟩ hin (g := mkF m pc Ls (.int x :: .int jj :: .ref a :: rest)) rfl rfl hd
  refine ⟨T', _, X', Fr.snoc X' N q0, ?_, st'⟩
  rw [e']
  rw [hjn] at W
  obtain ⟨w1, w2, w3⟩ := wr_get W
  exact O.upd hi w1 w2 ⟨_, w3 _ q1, q2, q3, by simp [Cell.setSlot, Array.toList_setIfInBounds, q4], fun v hv' => by
    rcases List.mem_or_eq_of_mem_set hv' with z | z
    · exact q5 v z
    · rw [z]; exact rfl⟩
theorem lastore (hx : p.tables.exec = Jvm.exec) (hZ : Z.Warmed39 s.vm) (O : Owns n0 h os) (i j : Nat) {vs : List Value} (hi : os[i]? = some (a, ArrC Z .long vs)) {jj : Int32} (hj : jj.toInt = (j : Int)) (hv : j < vs.length) {x : Int64} (os' : List (Addr × (Cell → Prop))) (hos : os.set i (a, ArrC Z .long (vs.set j (.long x))) = os') {pc pc' : Nat} {Ls : Array Slot} {rest : List Value} (hd : decode c.code pc = .ok (.lastore, 1)) (hp : pc + 1 = pc')
    (K : ∀ h', Owns n0 h' os' → Goes p l e R s m args below meth c n0 mc ms Fn h' k n (mkF m pc' Ls rest)) : Goes p l e R s m args below meth c n0 mc ms Fn h k n (mkF m pc Ls (.long x :: .int jj :: .ref a :: rest)) := by
  subst hp hos
  refine Goes.move (Pr := fun h' => Owns n0 h' (os.set i (a, ArrC Z .long (vs.set j (.long x))))) (fun T locs X N eT => ?_) K
  obtain ⟨q0, cell, q1, q2, q3, q4, q5⟩ := O.at hi
  have e1 : cell.slots.size = vs.length := by rw [← q4, Array.length_toList]
  obtain ⟨hin, hjn⟩ := idx_ok hj (len := cell.slots.size) (by rw [e1]; exact hv)
  obtain ⟨T', h', X', e', W, st'⟩ := stJ X hx hZ eT ⟨q1, q2, q3⟩ hin (g := mkF m pc Ls (.long x :: .int jj :: .ref a :: rest)) rfl rfl hd
  refine ⟨T', _, X', Fr.snoc X' N q0, ?_, st'⟩
  rw [e']
  rw [hjn] at W
  obtain ⟨w1, w2, w3⟩ := wr_get W
  exact O.upd hi w1 w2 ⟨_, w3 _ q1, q2, q3, by simp [Cell.setSlot, Array.toList_setIfInBounds, q4], fun v hv' => by
    rcases List.mem_or_eq_of_mem_set hv' with z | z
    · exact q5 v z
    · rw [z]; exact rfl⟩
theorem castore (hx : p.tables.exec = Jvm.exec) (hZ : Z.Warmed39 s.vm) (O : Owns n0 h os) (i j : Nat) {vs : List Value} (hi : os[i]? = some (a, ArrC Z .char vs)) {jj : Int32} (hj : jj.toInt = (j : Int)) (hv : j < vs.length) {x : Int32} (os' : List (Addr × (Cell → Prop))) (hos : os.set i (a, ArrC Z .char (vs.set j (.int (nar .char x)))) = os') {pc pc' : Nat} {Ls : Array Slot} {rest : List Value} (hd : decode c.code pc = .ok (.castore, 1)) (hp : pc + 1 = pc')
    (K : ∀ h', Owns n0 h' os' → Goes p l e R s m args below meth c n0 mc ms Fn h' k n (mkF m pc' Ls rest)) : Goes p l e R s m args below meth c n0 mc ms Fn h k n (mkF m pc Ls (.int x :: .int jj :: .ref a :: rest)) := by
  subst hp hos
  refine Goes.move (Pr := fun h' => Owns n0 h' (os.set i (a, ArrC Z .char (vs.set j (.int (nar .char x)))))) (fun T locs X N eT => ?_) K
  obtain ⟨q0, cell, q1, q2, q3, q4, q5⟩ := O.at hi
  have e1 : cell.slots.size = vs.length := by rw [← q4, Array.length_toList]
  obtain ⟨hin, hjn⟩ := idx_ok hj (len := cell.slots.size) (by rw [e1]; exact hv)
  obtain ⟨T', h', X', e', W, st'⟩ := stC X hx hZ eT ⟨q1, q2, q3⟩ hin (g := mkF m pc Ls (.int x :: .int jj :: .ref a :: rest)) rfl rfl hd
  refine ⟨T', _, X', Fr.snoc X' N q0, ?_, st'⟩
  rw [e']
  rw [hjn] at W
  obtain ⟨w1, w2, w3⟩ := wr_get W
  exact O.upd hi w1 w2 ⟨_, w3 _ q1, q2, q3, by simp [Cell.setSlot, Array.toList_setIfInBounds, q4], fun v hv' => by
    rcases List.mem_or_eq_of_mem_set hv' with z | z
    · exact q5 v z
    · rw [z]; exact fits_nar_char x⟩
theorem initobj (hx : p.tables.exec = Jvm.exec) (hZ : Z.Warmed39 s.vm) {own : String} (hown : s.vm.findClass own = some m.cls) {idx : Nat} (w1 : (Jvm.Cond.methodLink own idx Lib.objectInit).before a0 Z = true) (w2 : (Jvm.Cond.instanceMethod Lib.objectInit).before a0 Z = true) (w3 : (Jvm.Cond.code Lib.objectInit ⟨#[0xb1]⟩ 1 none).before a0 Z = true)
    {pc pc' : Nat} {Ls : Array Slot} {rest : List Value} (hml : Ls.size = c.maxLocals) {W : Nat} (hW : (rest.map fun v => v.category).sum ≤ W) (hf : 1 ≤ R.frames) (hl : W + 12 ≤ R.locals) (hd : decode c.code pc = .ok (.invokespecial idx, 3)) (hp : pc + 3 = pc') (K : Goes p l e R s m args below meth c n0 mc ms Fn h k n (mkF m pc' Ls rest)) : Goes p l e R s m args below meth c n0 mc ms Fn h k n (mkF m pc Ls (.ref a :: rest)) := by
  subst hp
  refine Goes.move (Pr := fun h' => h' = h) (k' := k) (n' := n) (g' := mkF m (pc + 3) Ls rest) (fun T locs X N eT => ?_) (fun h' q => by rw [q]; exact K)
  obtain ⟨T', X', e', st⟩ := initO X hx hZ hown w1 w2 w3 eT (g := mkF m pc Ls (.ref a :: rest)) rfl hml rfl hd hf (W := W) (by show 2 * 0 + _ ≤ _; omega) hl
  exact ⟨T', locs, X', N, e', st⟩
/-- a constructor by its contract -/
theorem callI (hx : p.tables.exec = Jvm.exec) (hZ : Z.Warmed39 s.vm) {own : String} (hown : s.vm.findClass own = some m.cls) {i : Nat} {y : MethodName} (hyn : y.name = "<init>") {bytes : ByteArray} {maxL : Nat} {rm : Room} {F : Option Value → Heap → Prop} {argsL rest : List Value}
    (w1 : (Jvm.Cond.methodLink own i y).before a0 Z = true) (w2 : (Jvm.Cond.instanceMethod y).before a0 Z = true) (w3 : (Jvm.Cond.initialized y.cls).before a0 Z = true) (w4 : (Jvm.Cond.code y bytes maxL none).before a0 Z = true) (hy : y.cls ≠ "java/lang/invoke/MethodHandle" ∧ y.cls ≠ "java/lang/invoke/VarHandle")
    {sg : ClassFile.MethodDescriptor} (hsg : parseMethodDescriptor y.desc = some sg) (hlen : argsL.length = sg.parameters.length) {pc pc' : Nat} {Ls : Array Slot} {W : Nat} (hW : (rest.map fun v => v.category).sum ≤ W) (hf : rm.frames + 1 ≤ R.frames) (hl : W + (maxL + 11) + rm.locals ≤ R.locals) (hcl : k + rm.cells ≤ R.cells) (hsl : n + rm.slots ≤ R.slots)
    {k' n' : Nat} (hk' : k + rm.cells = k') (hn' : n + rm.slots = n') (hml : Ls.size = c.maxLocals) (st : List Value) (hst : st = argsL.reverse ++ .ref a :: rest) (hd : decode c.code pc = .ok (.invokespecial i, 3)) (hp : pc + 3 = pc') (D : Does l y bytes maxL none [] rm Z (.ref a :: argsL).toArray h n0 F)
    (K : ∀ v h', F v h' → Goes p l e R s m args below meth c n0 mc ms Fn h' k' n' (mkF m pc' Ls (v.toList ++ rest))) : Goes p l e R s m args below meth c n0 mc ms Fn h k n (mkF m pc Ls st) := fun T locs X N eT => by
  subst hp hst hk' hn'
  obtain ⟨v, _, ⟨T', L', k', n'⟩, -, X', ⟨Lc, hQ, l1, y1, z1⟩, st⟩ := X.specialBack hx (y := y) hyn hown (mvT hZ w1) (mvT hZ w2) (mvT hZ w4) hy (backOf (W := W) (Q := fun v h' L => F v h' ∧ Fr n0 L) D hZ w4 w3 hf hl) (g := mkF m pc Ls (argsL.reverse ++ .ref a :: rest)) rfl hml (Steps.refl _) (a := a) (argsL := argsL) (rest := rest) (lenOf hsg hlen) rfl (by show 2 * 0 + _ ≤ _; omega) hd (fun _ _ => ⟨rfl, eT, hcl, hsl⟩)
  dsimp only [Pt.U, Pt.locs, Pt.cells, Pt.slots] at X' l1 y1 z1 st hQ
  subst l1 y1 z1
  obtain ⟨s₂, o, hs, r⟩ := K v T'.heap hQ.1 T' _ X' (N.app hQ.2) rfl
  exact ⟨s₂, o, st.trans hs, r⟩
/-- an instance method by its contract: the receiver is just of the class C -/
theorem callV (hx : p.tables.exec = Jvm.exec) (hZ : Z.Warmed39 s.vm) {own C : String} (hown : s.vm.findClass own = some m.cls) {i : Nat} {y : MethodName} {bytes : ByteArray} {maxL : Nat} {ret : Option FieldType} {rm : Room} {F : Option Value → Heap → Prop} {argsL rest : List Value} (E : Exa Z h a C)
    (w1 : (Jvm.Cond.methodLink own i y).before a0 Z = true) (w2 : (Jvm.Cond.declares y).before a0 Z = true) (w5 : (Jvm.Cond.selects C y y).before a0 Z = true) (w6 : (Jvm.Cond.instanceMethod y).before a0 Z = true) (w3 : (Jvm.Cond.initialized y.cls).before a0 Z = true) (w4 : (Jvm.Cond.code y bytes maxL ret).before a0 Z = true) (hy : y.cls ≠ "java/lang/invoke/MethodHandle" ∧ y.cls ≠ "java/lang/invoke/VarHandle")
    {sg : ClassFile.MethodDescriptor} (hsg : parseMethodDescriptor y.desc = some sg) (hlen : argsL.length = sg.parameters.length) {pc pc' : Nat} {Ls : Array Slot} {W : Nat} (hW : (rest.map fun v => v.category).sum ≤ W) (hf : rm.frames + 1 ≤ R.frames) (hl : W + (maxL + 11) + rm.locals ≤ R.locals) (hcl : k + rm.cells ≤ R.cells) (hsl : n + rm.slots ≤ R.slots)
    {k' n' : Nat} (hk' : k + rm.cells = k') (hn' : n + rm.slots = n') (hml : Ls.size = c.maxLocals) (st : List Value) (hst : st = argsL.reverse ++ .ref a :: rest) (hd : decode c.code pc = .ok (.invokevirtual i, 3)) (hp : pc + 3 = pc') (D : Does l y bytes maxL ret [] rm Z (.ref a :: argsL).toArray h n0 F)
    (K : ∀ v h', F v h' → Goes p l e R s m args below meth c n0 mc ms Fn h' k' n' (mkF m pc' Ls (v.toList ++ rest))) : Goes p l e R s m args below meth c n0 mc ms Fn h k n (mkF m pc Ls st) := fun T locs X N eT => by
  subst hp hst hk' hn'
  obtain ⟨cq, kq, qa, qb, qc⟩ := isOf hZ eT E
  obtain ⟨v, _, ⟨T', L', k', n'⟩, -, X', ⟨Lc, hQ, l1, y1, z1⟩, st⟩ := X.virtualBack hx (y := y) (z := y) hown (mvT hZ w1) (mvT hZ w2) (notFace_of_selects (args := #[]) (mvT hZ w5)) (mvT hZ w5) (mvT hZ w6) hy (backOf (W := W) (Q := fun v h' L => F v h' ∧ Fr n0 L) D hZ w4 w3 hf hl) qa qc (g := mkF m pc Ls (argsL.reverse ++ .ref a :: rest)) rfl hml (Steps.refl _) (argsL := argsL) (rest := rest) (lenOf hsg hlen) rfl (by show 2 * 0 + _ ≤ _; omega) hd (fun _ _ => ⟨rfl, eT, hcl, hsl⟩)
  dsimp only [Pt.U, Pt.locs, Pt.cells, Pt.slots] at X' l1 y1 z1 st hQ
  subst l1 y1 z1
  obtain ⟨s₂, o, hs, r⟩ := K v T'.heap hQ.1 T' _ X' (N.app hQ.2) rfl
  exact ⟨s₂, o, st.trans hs, r⟩
/-- a private method (by invokevirtual) by its contract -/
theorem callP (hx : p.tables.exec = Jvm.exec) (hZ : Z.Warmed39 s.vm) {own C : String} (hown : s.vm.findClass own = some m.cls) {i : Nat} {y : MethodName} {bytes : ByteArray} {maxL : Nat} {ret : Option FieldType} {rm : Room} {F : Option Value → Heap → Prop} {argsL rest : List Value} (E : Exa Z h a C)
    (w1 : (Jvm.Cond.methodLink own i y).before a0 Z = true) (w2 : (Jvm.Cond.instanceMethod y).before a0 Z = true) {ki : Nat} (wi : (Jvm.Cond.instantiable y.cls ki).before a0 Z = true) (w6 : (Jvm.Cond.privateMethod y).before a0 Z = true) (w3 : (Jvm.Cond.initialized y.cls).before a0 Z = true) (w4 : (Jvm.Cond.code y bytes maxL ret).before a0 Z = true) (hy : y.cls ≠ "java/lang/invoke/MethodHandle" ∧ y.cls ≠ "java/lang/invoke/VarHandle")
    {sg : ClassFile.MethodDescriptor} (hsg : parseMethodDescriptor y.desc = some sg) (hlen : argsL.length = sg.parameters.length) {pc pc' : Nat} {Ls : Array Slot} {W : Nat} (hW : (rest.map fun v => v.category).sum ≤ W) (hf : rm.frames + 1 ≤ R.frames) (hl : W + (maxL + 11) + rm.locals ≤ R.locals) (hcl : k + rm.cells ≤ R.cells) (hsl : n + rm.slots ≤ R.slots)
    {k' n' : Nat} (hk' : k + rm.cells = k') (hn' : n + rm.slots = n') (hml : Ls.size = c.maxLocals) (st : List Value) (hst : st = argsL.reverse ++ .ref a :: rest) (hd : decode c.code pc = .ok (.invokevirtual i, 3)) (hp : pc + 3 = pc') (D : Does l y bytes maxL ret [] rm Z (.ref a :: argsL).toArray h n0 F)
    (K : ∀ v h', F v h' → Goes p l e R s m args below meth c n0 mc ms Fn h' k' n' (mkF m pc' Ls (v.toList ++ rest))) : Goes p l e R s m args below meth c n0 mc ms Fn h k n (mkF m pc Ls st) := fun T locs X N eT => by
  subst hp hst hk' hn'
  obtain ⟨cq, qa, qb⟩ := E.cell
  have hpriv : s.PrivateAt y := Cond.privateMethod_at (mvP hZ w6 (args := #[]))
  obtain ⟨_, _, i1, i2, -, i3, -, -⟩ := Cond.instantiable_spec (mvT hZ wi : (Jvm.Cond.instantiable y.cls ki).before args s = true)
  have hsel : (Jvm.Cond.selects y.cls y y).before args s = true := selects_self_of_private i1 i2 (Bool.or_eq_false_iff.mp i3).1 hpriv (mvT hZ w2) hy
  obtain ⟨v, _, ⟨T', L', k', n'⟩, -, X', ⟨Lc, hQ, l1, y1, z1⟩, st⟩ := X.privateBack hx (y := y) hown (mvT hZ w1) (mvT hZ w2) hsel hpriv (mvT hZ w4) hy (backOf (W := W) (Q := fun v h' L => F v h' ∧ Fr n0 L) D hZ w4 w3 hf hl) (g := mkF m pc Ls (argsL.reverse ++ .ref a :: rest)) rfl hml (Steps.refl _) (a := a) (by rw [eT]; exact qa) qb (argsL := argsL) (rest := rest) (lenOf hsg hlen) rfl (by show 2 * 0 + _ ≤ _; omega) hd (fun _ _ => ⟨rfl, eT, hcl, hsl⟩)
  dsimp only [Pt.U, Pt.locs, Pt.cells, Pt.slots] at X' l1 y1 z1 st hQ
  subst l1 y1 z1
  obtain ⟨s₂, o, hs, r⟩ := K v T'.heap hQ.1 T' _ X' (N.app hQ.2) rfl
  exact ⟨s₂, o, st.trans hs, r⟩
end EngH
end Own
/-! the tournament tree in plain lists -/
def pk (ss : List Int64) (a b : Nat) : Nat := if ss.getD b 0 < ss.getD a 0 then b else a
def good (ss : List Int64) (es : List Nat) (j : Nat) : Prop := es.getD j 0 = pk ss (es.getD (2 * j) 0) (es.getD (2 * j + 1) 0)
/-- j is c or stands above c -/
def Anc (c j : Nat) : Prop := ∃ k, j = c / 2 ^ k
def SubT (es : List Nat) (sz : Nat) : Prop := ∀ c, 1 ≤ c → c < 2 * sz → es.getD c 0 < sz ∧ Anc (sz + es.getD c 0) c
def InvT (ss : List Int64) (es : List Nat) (sz : Nat) : Prop := ss.length = sz ∧ es.length = 2 * sz ∧ SubT es sz ∧ ∀ j, 1 ≤ j → j < sz → good ss es j
def InvA (ss : List Int64) (es : List Nat) (sz t : Nat) : Prop := ss.length = sz ∧ es.length = 2 * sz ∧ SubT es sz ∧ ∀ j, 1 ≤ j → j < sz → ¬ Anc t j → good ss es j
theorem anc_half {c j : Nat} (h : Anc c j) : Anc c (j / 2) := by
  obtain ⟨k, rfl⟩ := h
  exact ⟨k + 1, by rw [Nat.div_div_eq_div_mul, Nat.pow_succ]⟩
theorem anc_up {c j : Nat} (h : Anc c j) : Anc (c / 2) (j / 2) := by
  obtain ⟨k, rfl⟩ := h
  exact ⟨k, by rw [Nat.div_div_eq_div_mul, Nat.div_div_eq_div_mul, Nat.mul_comm]⟩
theorem anc_cases {c j : Nat} (h : Anc c j) : j = c ∨ Anc (c / 2) j := by
  obtain ⟨k, rfl⟩ := h
  cases k with
  | zero => left; simp
  | succ k => right; exact ⟨k, by rw [Nat.div_div_eq_div_mul, Nat.pow_succ, Nat.mul_comm]⟩
theorem getD_set_ne {α : Type} {l : List α} {i j : Nat} {v d : α} (h : i ≠ j) : (l.set i v).getD j d = l.getD j d := by
  rw [List.getD_eq_getElem?_getD, List.getD_eq_getElem?_getD, List.getElem?_set_ne h]
theorem getD_set_eq {α : Type} {l : List α} {i : Nat} {v d : α} (h : i < l.length) : (l.set i v).getD i d = v := by
  rw [List.getD_eq_getElem?_getD, List.getElem?_set_self h]; rfl
theorem pk_or (ss : List Int64) (a b : Nat) : pk ss a b = a ∨ pk ss a b = b := by unfold pk; split <;> simp
theorem inv_upd {ss : List Int64} {es : List Nat} {sz pl : Nat} {x : Int64} (h : InvT ss es sz) (hp : pl < sz) : InvA (ss.set pl x) es sz ((sz + pl) / 2) := by
  obtain ⟨h1, h2, h3, h4⟩ := h
  refine ⟨by rw [List.length_set]; exact h1, h2, h3, fun j j1 j2 hn => ?_⟩
  have hg := h4 j j1 j2
  unfold good at hg ⊢
  have ha : es.getD (2 * j) 0 ≠ pl := fun e => hn (by
    have := anc_up (h3 (2 * j) (by omega) (by omega)).2
    rw [e, show 2 * j / 2 = j from by omega] at this; exact this)
  have hb' : es.getD (2 * j + 1) 0 ≠ pl := fun e => hn (by
    have := anc_up (h3 (2 * j + 1) (by omega) (by omega)).2
    rw [e, show (2 * j + 1) / 2 = j from by omega] at this; exact this)
  rw [hg]
  unfold pk
  rw [getD_set_ne (Ne.symm ha), getD_set_ne (Ne.symm hb')]
theorem inv_step {ss : List Int64} {es : List Nat} {sz t : Nat} (h : InvA ss es sz t) (t1 : 1 ≤ t) (t2 : t < sz) : InvA ss (es.set t (pk ss (es.getD (2 * t) 0) (es.getD (2 * t + 1) 0))) sz (t / 2) := by
  obtain ⟨h1, h2, h3, h4⟩ := h
  refine ⟨h1, by rw [List.length_set]; exact h2, fun c c1 c2 => ?_, fun j j1 j2 hn => ?_⟩
  · by_cases e : t = c
    · subst e
      rw [getD_set_eq (by omega)]
      have ha := h3 (2 * t) (by omega) (by omega); have hb' := h3 (2 * t + 1) (by omega) (by omega)
      rcases pk_or ss (es.getD (2 * t) 0) (es.getD (2 * t + 1) 0) with q | q <;> rw [q]
      · have := anc_half ha.2
        rw [show 2 * t / 2 = t from by omega] at this
        exact ⟨ha.1, this⟩
      · have := anc_half hb'.2
        rw [show (2 * t + 1) / 2 = t from by omega] at this
        exact ⟨hb'.1, this⟩
    · rw [getD_set_ne e]; exact h3 c c1 c2
  · unfold good
    have n1 : t ≠ 2 * j := fun e => hn ⟨0, by rw [Nat.pow_zero, Nat.div_one, e]; omega⟩
    have n2 : t ≠ 2 * j + 1 := fun e => hn ⟨0, by rw [Nat.pow_zero, Nat.div_one, e]; omega⟩
    rw [getD_set_ne n1, getD_set_ne n2]
    by_cases e : t = j
    · subst e
      rw [getD_set_eq (by omega)]
    · rw [getD_set_ne e]
      exact h4 j j1 j2 fun z => (anc_cases z).elim (fun q => e q.symm) hn
theorem inv_end {ss : List Int64} {es : List Nat} {sz : Nat} (h : InvA ss es sz 0) : InvT ss es sz :=
  ⟨h.1, h.2.1, h.2.2.1, fun j j1 j2 => h.2.2.2 j j1 j2 fun ⟨k, e⟩ => by rw [Nat.zero_div] at e; omega⟩
theorem inv_min {ss : List Int64} {es : List Nat} {sz : Nat} (h : InvT ss es sz) : ∀ d c, c + d = 2 * sz → 1 ≤ c → c < 2 * sz → ∀ p, p < sz → Anc (sz + p) c → (ss.getD (es.getD c 0) 0).toInt ≤ (ss.getD p 0).toInt := by
  obtain ⟨h1, h2, h3, h4⟩ := h
  intro d
  induction d using Nat.strongRecOn with
  | ind d ih =>
    intro c hd c1 c2 p hp ha
    by_cases hc : c < sz
    · have hg := h4 c c1 hc
      unfold good at hg
      obtain ⟨k, hk⟩ := ha
      cases k with
      | zero => rw [Nat.pow_zero, Nat.div_one] at hk; omega
      | succ k =>
        have e : c = (sz + p) / 2 ^ k / 2 := by rw [hk, Nat.div_div_eq_div_mul, Nat.pow_succ]
        have key : ∀ c', c' = (sz + p) / 2 ^ k → (ss.getD (es.getD c' 0) 0).toInt ≤ (ss.getD p 0).toInt := fun c' e' =>
          ih (2 * sz - c') (by omega) c' (by omega) (by omega) (by omega) p hp ⟨k, e'⟩
        have hm : (ss.getD (es.getD c 0) 0).toInt ≤ (ss.getD (es.getD (2 * c) 0) 0).toInt ∧ (ss.getD (es.getD c 0) 0).toInt ≤ (ss.getD (es.getD (2 * c + 1) 0) 0).toInt := by
          rw [hg]; unfold pk
          split
          · next q => have := Int64.lt_iff_toInt_lt.mp q; omega
          · next q =>
            have : ¬ (ss.getD (es.getD (2 * c + 1) 0) 0).toInt < (ss.getD (es.getD (2 * c) 0) 0).toInt := fun z => q (Int64.lt_iff_toInt_lt.mpr z)
            omega
        by_cases q : (sz + p) / 2 ^ k = 2 * c
        · exact Int.le_trans hm.1 (key _ q.symm)
        · exact Int.le_trans hm.2 (key _ (by omega))
    · have leaf : ∀ p', p' < sz → Anc (sz + p') c → c = sz + p' := fun p' hp' ⟨k, e⟩ => by
        cases k with
        | zero => rw [Nat.pow_zero, Nat.div_one] at e; exact e
        | succ k =>
          have : (sz + p') / 2 ^ (k + 1) ≤ (sz + p') / 2 := by
            rw [Nat.pow_succ, Nat.mul_comm, ← Nat.div_div_eq_div_mul]; exact Nat.div_le_self _ _
          omega
      have e1 := leaf p hp ha
      have e2 := leaf _ (h3 c c1 c2).1 (h3 c c1 c2).2
      rw [show es.getD c 0 = p from by omega]
      exact Int.le_refl _
theorem anc_one {nn : Nat} (h : 1 ≤ nn) : Anc nn 1 := by
  refine ⟨Nat.log2 nn, ?_⟩
  have h1 := Nat.log2_self_le (show nn ≠ 0 by omega)
  have h2 := @Nat.lt_log2_self nn
  rw [Nat.pow_succ] at h2
  exact ((Nat.div_eq_iff (Nat.pow_pos (by decide))).mpr ⟨by omega, by omega⟩).symm
theorem inv_root {ss : List Int64} {es : List Nat} {sz : Nat} (h : InvT ss es sz) (hs : 1 ≤ sz) : es.getD 1 0 < sz ∧ ∀ p, p < sz → (ss.getD (es.getD 1 0) 0).toInt ≤ (ss.getD p 0).toInt :=
  ⟨(h.2.2.1 1 (by omega) (by omega)).1, fun p hp => inv_min h (2 * sz - 1) 1 (by omega) (by omega) (by omega) p hp (anc_one (by omega))⟩
/-- a check by program -/
def invB (ss : List Int64) (es : List Nat) (sz : Nat) : Bool := ss.length == sz && es.length == 2 * sz && ((List.range (2 * sz)).all fun c => c == 0 || (decide (es.getD c 0 < sz) && ((List.range 4).any fun k => c == (sz + es.getD c 0) / 2 ^ k))) && ((List.range sz).all fun j => j == 0 || es.getD j 0 == pk ss (es.getD (2 * j) 0) (es.getD (2 * j + 1) 0))
theorem inv_of {ss : List Int64} {es : List Nat} {sz : Nat} (h : invB ss es sz = true) : InvT ss es sz := by
  unfold invB at h
  simp only [Bool.and_eq_true, beq_iff_eq, List.all_eq_true, List.mem_range, Bool.or_eq_true, decide_eq_true_eq, List.any_eq_true] at h
  obtain ⟨⟨⟨h1, h2⟩, h3⟩, h4⟩ := h
  refine ⟨h1, h2, fun c c1 c2 => ?_, fun j j1 j2 => ?_⟩
  · rcases h3 c c2 with q | ⟨q1, k, -, q2⟩
    · omega
    · exact ⟨q1, k, q2⟩
  · rcases h4 j j2 with q | q
    · omega
    · exact q
def fMin (a b : Int64) : Int64 := if b < a then b else a
def fMin8 (rf : List Int64) : Int64 := fMin (fMin (fMin (rf.getD 0 0) (rf.getD 1 0)) (fMin (rf.getD 2 0) (rf.getD 3 0))) (fMin (fMin (rf.getD 4 0) (rf.getD 5 0)) (fMin (rf.getD 6 0) (rf.getD 7 0)))
theorem fMin_int (a b : Int64) : (fMin a b).toInt = if b.toInt < a.toInt then b.toInt else a.toInt := by
  unfold fMin; simp only [Int64.lt_iff_toInt_lt]; split <;> rfl
theorem min8_all (rf : List Int64) : ((fMin8 rf).toInt ≤ (rf.getD 0 0).toInt ∧ (fMin8 rf).toInt ≤ (rf.getD 1 0).toInt ∧ (fMin8 rf).toInt ≤ (rf.getD 2 0).toInt ∧ (fMin8 rf).toInt ≤ (rf.getD 3 0).toInt ∧ (fMin8 rf).toInt ≤ (rf.getD 4 0).toInt ∧ (fMin8 rf).toInt ≤ (rf.getD 5 0).toInt ∧ (fMin8 rf).toInt ≤ (rf.getD 6 0).toInt ∧ (fMin8 rf).toInt ≤ (rf.getD 7 0).toInt) ∧
    ∀ mm : Int, mm ≤ (rf.getD 0 0).toInt → mm ≤ (rf.getD 1 0).toInt → mm ≤ (rf.getD 2 0).toInt → mm ≤ (rf.getD 3 0).toInt → mm ≤ (rf.getD 4 0).toInt → mm ≤ (rf.getD 5 0).toInt → mm ≤ (rf.getD 6 0).toInt → mm ≤ (rf.getD 7 0).toInt → mm ≤ (fMin8 rf).toInt := by
  have k : ∀ a b : Int64, (fMin a b).toInt ≤ a.toInt ∧ (fMin a b).toInt ≤ b.toInt := fun a b => by rw [fMin_int]; split <;> omega
  have g : ∀ (a b : Int64) (mm : Int), mm ≤ a.toInt → mm ≤ b.toInt → mm ≤ (fMin a b).toInt := fun a b mm h1 h2 => by rw [fMin_int]; split <;> omega
  have k1 := k (rf.getD 0 0) (rf.getD 1 0); have k2 := k (rf.getD 2 0) (rf.getD 3 0); have k3 := k (rf.getD 4 0) (rf.getD 5 0); have k4 := k (rf.getD 6 0) (rf.getD 7 0)
  have k5 := k (fMin (rf.getD 0 0) (rf.getD 1 0)) (fMin (rf.getD 2 0) (rf.getD 3 0)); have k6 := k (fMin (rf.getD 4 0) (rf.getD 5 0)) (fMin (rf.getD 6 0) (rf.getD 7 0))
  have k7 := k (fMin (fMin (rf.getD 0 0) (rf.getD 1 0)) (fMin (rf.getD 2 0) (rf.getD 3 0))) (fMin (fMin (rf.getD 4 0) (rf.getD 5 0)) (fMin (rf.getD 6 0) (rf.getD 7 0)))
  refine ⟨?_, fun mm a0 a1 a2 a3 a4 a5 a6 a7 => g _ _ mm (g _ _ mm (g _ _ mm a0 a1) (g _ _ mm a2 a3)) (g _ _ mm (g _ _ mm a4 a5) (g _ _ mm a6 a7))⟩
  unfold fMin8
  omega
/-- the eight, of which the first sz are ss and the others at the end -/
def Like (ss rf : List Int64) (sz : Nat) : Prop := ss.length = sz ∧ rf.length = 8 ∧ sz ≤ 8 ∧ ∀ i, i < 8 → rf.getD i 0 = if i < sz then ss.getD i 0 else 9223372036854775807
theorem like_set {ss rf : List Int64} {sz pl : Nat} {x : Int64} (h : Like ss rf sz) (hp : pl < sz) : Like (ss.set pl x) (rf.set pl x) sz := by
  obtain ⟨h1, h2, h3, h4⟩ := h
  refine ⟨by rw [List.length_set]; exact h1, by rw [List.length_set]; exact h2, h3, fun i hi => ?_⟩
  by_cases e : pl = i
  · subst e
    rw [getD_set_eq (by omega), getD_set_eq (by omega), if_pos hp]
  · rw [getD_set_ne e, getD_set_ne e]; exact h4 i hi
theorem like_min {ss rf : List Int64} {es : List Nat} {sz : Nat} (hl : Like ss rf sz) (h : InvT ss es sz) (hs : 1 ≤ sz) : ss.getD (es.getD 1 0) 0 = fMin8 rf := by
  obtain ⟨h1, h2, h3, h4⟩ := hl
  obtain ⟨r1, r2⟩ := inv_root h hs
  have K : (9223372036854775807 : Int64).toInt = 9223372036854775807 := by decide
  have rg := (ss.getD (es.getD 1 0) 0).toInt_lt
  have low : ∀ i, i < 8 → (ss.getD (es.getD 1 0) 0).toInt ≤ (rf.getD i 0).toInt := fun i hi => by
    rw [h4 i hi]
    split
    · next q => exact r2 i q
    · rw [K]; omega
  obtain ⟨m1, m2⟩ := min8_all rf
  have lo := m2 _ (low 0 (by omega)) (low 1 (by omega)) (low 2 (by omega)) (low 3 (by omega)) (low 4 (by omega)) (low 5 (by omega)) (low 6 (by omega)) (low 7 (by omega))
  have hi : (fMin8 rf).toInt ≤ (rf.getD (es.getD 1 0) 0).toInt := by
    have hb' : es.getD 1 0 < 8 := by omega
    generalize es.getD 1 0 = u at *
    have hu : u = 0 ∨ u = 1 ∨ u = 2 ∨ u = 3 ∨ u = 4 ∨ u = 5 ∨ u = 6 ∨ u = 7 := by omega
    rcases hu with rfl | rfl | rfl | rfl | rfl | rfl | rfl | rfl
    · exact m1.1
    · exact m1.2.1
    · exact m1.2.2.1
    · exact m1.2.2.2.1
    · exact m1.2.2.2.2.1
    · exact m1.2.2.2.2.2.1
    · exact m1.2.2.2.2.2.2.1
    · exact m1.2.2.2.2.2.2.2
  rw [h4 _ (by omega), if_pos r1] at hi
  exact Int64.toInt_inj.mp (Int.le_antisymm lo hi)
abbrev gI (x : Nat) : Value := .int x.toInt32
theorem own_ti {i nn : Nat} (hi : i < nn) (hn : nn < 2147483648) : i.toInt32.toInt = (i : Int) := len_toInt (by omega)
theorem own_tl {nn : Nat} (hn : nn < 2147483648) : nn.toInt32.toInt = (nn : Int) := len_toInt (by omega)
theorem own_es_at {es : List Nat} {i : Nat} (hi : i < es.length) : (es.map gI)[i]? = some (.int (es.getD i 0).toInt32) := by
  rw [List.getElem?_map, List.getD_eq_getElem?_getD, List.getElem?_eq_getElem hi]; rfl
theorem own_ss_at {ss : List Int64} {i : Nat} (hi : i < ss.length) : (ss.map Value.long)[i]? = some (.long (ss.getD i 0)) := by
  rw [List.getElem?_map, List.getD_eq_getElem?_getD, List.getElem?_eq_getElem hi]; rfl
theorem own_t2 {t : Nat} (h : t < 1000) : ((2 : Int32) * t.toInt32).toInt = ((2 * t : Nat) : Int) := by
  have e := c_imul 2 t.toInt32
  have k := own_tl (nn := t) (by omega)
  have two : (2 : Int32).toInt = 2 := by decide
  rw [two, k] at e
  have r := rng32 ((2 : Int32) * t.toInt32)
  omega
theorem own_t21 {t : Nat} (h : t < 1000) : ((2 : Int32) * t.toInt32 + (1 : Int32)).toInt = ((2 * t + 1 : Nat) : Int) := by
  have e := c_iadd ((2 : Int32) * t.toInt32) 1
  have k := own_t2 h
  have one : (1 : Int32).toInt = 1 := by decide
  have r := rng32 ((2 : Int32) * t.toInt32 + 1)
  rw [k, one] at e
  omega
theorem own_half {t : Nat} (h : t < 1000) : t.toInt32 / (2 : Int32) = (t / 2).toInt32 := by
  apply Int32.toInt_inj.mp
  have k := own_tl (nn := t) (by omega); have k2 := own_tl (nn := t / 2) (by omega)
  have e := (c_idiv t.toInt32 2 2 (by decide) (by decide)).1 (by omega)
  rw [e, k, k2]; omega
theorem own_mid {sz pl : Nat} {px : Int32} (hp : px.toInt = (pl : Int)) (h1 : sz < 100) (h2 : pl < 100) : (sz.toInt32 + px) / (2 : Int32) = ((sz + pl) / 2).toInt32 := by
  have k := own_tl (nn := sz) (by omega)
  have e := c_iadd sz.toInt32 px
  have r := rng32 (sz.toInt32 + px)
  rw [k, hp] at e
  have q : sz.toInt32 + px = (sz + pl).toInt32 := Int32.toInt_inj.mp (by rw [own_tl (nn := sz + pl) (by omega)]; omega)
  rw [q, own_half (by omega)]
theorem own_pos {t : Nat} (h0 : ¬ t = 0) (h : t < 1000) : (0 : Int32) < t.toInt32 := by
  rw [Int32.lt_iff_toInt_lt, own_tl (nn := t) (by omega), show (0 : Int32).toInt = 0 from by decide]; omega
theorem own_pkhit {ss : List Int64} {a b : Nat} (h : ss.getD b 0 < ss.getD a 0) : pk ss a b = b := by unfold pk; rw [if_pos h]
theorem own_pkmiss {ss : List Int64} {a b : Nat} (h : ¬ ss.getD b 0 < ss.getD a 0) : pk ss a b = a := by unfold pk; rw [if_neg h]
theorem own_pl {px y d : Int32} {sz : Nat} (h : px = (y &&& (7 : Int32)) % d) (hd : d.toInt = (sz : Int)) (h0 : 0 < sz) : ∃ pl : Nat, px.toInt = (pl : Int) ∧ pl < sz := by
  have M0 := (c_and y (7 : Int32) (by decide)).1
  have e1 := (c_irem (y &&& 7) d sz hd).1 M0
  rw [← h] at e1
  have b1 := Int.emod_nonneg (y &&& 7).toInt (show (sz : Int) ≠ 0 by omega)
  have b2 := Int.emod_lt_of_pos (y &&& 7).toInt (show (0 : Int) < sz by omega)
  exact ⟨px.toInt.toNat, by omega, by omega⟩
theorem own_n8 {nn k : Int32} (h : nn = k &&& (7 : Int32)) : nn = 0 ∨ nn = 1 ∨ nn = 2 ∨ nn = 3 ∨ nn = 4 ∨ nn = 5 ∨ nn = 6 ∨ nn = 7 := by
  have h1 := c_mask k 7 3 (by decide) (by decide)
  rw [← h] at h1
  have h2 : nn.toInt = 0 ∨ nn.toInt = 1 ∨ nn.toInt = 2 ∨ nn.toInt = 3 ∨ nn.toInt = 4 ∨ nn.toInt = 5 ∨ nn.toInt = 6 ∨ nn.toInt = 7 := by omega
  rcases h2 with q | q | q | q | q | q | q | q
  · exact Or.inl (Int32.toInt_inj.mp q)
  · exact Or.inr (Or.inl (Int32.toInt_inj.mp q))
  · exact Or.inr (Or.inr (Or.inl (Int32.toInt_inj.mp q)))
  · exact Or.inr (Or.inr (Or.inr (Or.inl (Int32.toInt_inj.mp q))))
  · exact Or.inr (Or.inr (Or.inr (Or.inr (Or.inl (Int32.toInt_inj.mp q)))))
  · exact Or.inr (Or.inr (Or.inr (Or.inr (Or.inr (Or.inl (Int32.toInt_inj.mp q))))))
  · exact Or.inr (Or.inr (Or.inr (Or.inr (Or.inr (Or.inr (Or.inl (Int32.toInt_inj.mp q)))))))
  · exact Or.inr (Or.inr (Or.inr (Or.inr (Or.inr (Or.inr (Or.inr (Int32.toInt_inj.mp q)))))))
theorem own_one {sz pl : Nat} (h : ¬ (1 : Int32) < sz.toInt32) (hp : pl < sz) (hs : sz < 100) : (sz + pl) / 2 = 0 := by
  have : ¬ (1 : Int32).toInt < sz.toInt32.toInt := fun z => h (Int32.lt_iff_toInt_lt.mpr z)
  rw [own_tl (nn := sz) (by omega), show (1 : Int32).toInt = 1 from by decide] at this
  omega

theorem d8_0 : decode jdk_29_method_70_code 0 = .ok (.lload_n 0, 1) := by decide +kernel
theorem d8_1 : decode jdk_29_method_70_code 1 = .ok (.lload_n 2, 1) := by decide +kernel
theorem d8_2 : decode jdk_29_method_70_code 2 = .ok (.lcmp, 1) := by decide +kernel
theorem d8_3 : decode jdk_29_method_70_code 3 = .ok (.ifCond .gt 7, 3) := by decide +kernel
theorem d8_6 : decode jdk_29_method_70_code 6 = .ok (.lload_n 0, 1) := by decide +kernel
theorem d8_7 : decode jdk_29_method_70_code 7 = .ok (.goto 4, 3) := by decide +kernel
theorem d8_10 : decode jdk_29_method_70_code 10 = .ok (.lload_n 2, 1) := by decide +kernel
theorem d8_11 : decode jdk_29_method_70_code 11 = .ok (.lreturn, 1) := by decide +kernel
theorem pn0 : plainFor (⟨"java/lang/Math", "min", "(JJ)J"⟩ : MethodName) = true := Jvm.Free.JP.mathPlain rfl (by decide +kernel)
theorem ef8 (m : MethodId) (x0 : Int64) (x1 : Int64) : entryFrame m #[(.long x0), (.long x1)] 4 = mkF m 0 #[.val (.long x0), .second, .val (.long x1), .second] [] := by first | (simp [entryFrame, mkF, argsToLocals, Value.category]; done) | rfl
set_option maxRecDepth 65536 in
set_option maxHeartbeats 40000000 in
theorem rm8 (l : Launch) (Z : State) (a0 : Array Value) (hw : ∀ d ∈ tables_1, d.before a0 Z = true) (q0 : Int64) (q1 : Int64) (h0 : Heap) (n0 : Nat)   : Own.Does l (⟨"java/lang/Math", "min", "(JJ)J"⟩ : MethodName) jdk_29_method_70_code 4 (some .long) [] ({ frames := 0, cells := 0, slots := 0, locals := 0 } : Room) Z #[(.long q0), (.long q1)] h0 n0 (fun v h => v = some (.long (fMin q0 q1)) ∧ h = h0) := by
  refine Own.doesOf pn0 ?_
  intro p e s m below meth c hx hby hml hret hlk hown hnm hZ
  refine Own.Goes.cast (ef8 m q0 q1) ?_
  refine Own.lloadN hx q0 (hb hby d8_0) rfl rfl ?_
  refine Own.lloadN hx q1 (hb hby d8_1) rfl rfl ?_
  refine Own.lcmp hx (hb hby d8_2) rfl ?_
  obtain ⟨v2, h_v2⟩ : ∃ z : Int64, z = (if q1 < q0 then q1 else q0) := ⟨_, rfl⟩
  refine Own.Goes.join (mkF m 11 #[.val (.long q0), .second, .val (.long q1), .second] [(.long v2)]) (fun kJ3 => ?_) ?_
  · refine Own.ifF hx (Own.w_gt q0 q1) (hb hby d8_3) (pcN := 6) rfl (by decide) (pcT := 10) rfl (fun hc1 => ?_) (fun hc1 => ?_)
    · refine Own.lloadN hx q1 (hb hby d8_10) rfl rfl ?_
      try simp only [if_pos hc1] at h_v2
      subst h_v2
      exact kJ3
    · refine Own.lloadN hx q0 (hb hby d8_6) rfl rfl ?_
      refine Own.goto hx (hb hby d8_7) (by decide) (pc' := 11) rfl ?_
      try simp only [if_neg hc1] at h_v2
      subst h_v2
      exact kJ3
  exact Own.retL hx hret hlk (hb hby d8_11) (by decide) (by decide) ⟨by subst h_v2; simp only [fMin], rfl⟩

theorem pd0 : parseMethodDescriptor "(JJ)J" = some ⟨[.long, .long], some .long⟩ := by decide +kernel
theorem d7_0 : decode method_2_code 0 = .ok (.aload_n 0, 1) := by decide +kernel
theorem d7_1 : decode method_2_code 1 = .ok (.iconst 0, 1) := by decide +kernel
theorem d7_2 : decode method_2_code 2 = .ok (.laload, 1) := by decide +kernel
theorem d7_3 : decode method_2_code 3 = .ok (.aload_n 0, 1) := by decide +kernel
theorem d7_4 : decode method_2_code 4 = .ok (.iconst 1, 1) := by decide +kernel
theorem d7_5 : decode method_2_code 5 = .ok (.laload, 1) := by decide +kernel
theorem d7_6 : decode method_2_code 6 = .ok (.invokestatic 7, 3) := by decide +kernel
theorem d7_9 : decode method_2_code 9 = .ok (.aload_n 0, 1) := by decide +kernel
theorem d7_10 : decode method_2_code 10 = .ok (.iconst 2, 1) := by decide +kernel
theorem d7_11 : decode method_2_code 11 = .ok (.laload, 1) := by decide +kernel
theorem d7_12 : decode method_2_code 12 = .ok (.aload_n 0, 1) := by decide +kernel
theorem d7_13 : decode method_2_code 13 = .ok (.iconst 3, 1) := by decide +kernel
theorem d7_14 : decode method_2_code 14 = .ok (.laload, 1) := by decide +kernel
theorem d7_15 : decode method_2_code 15 = .ok (.invokestatic 7, 3) := by decide +kernel
theorem d7_18 : decode method_2_code 18 = .ok (.invokestatic 7, 3) := by decide +kernel
theorem d7_21 : decode method_2_code 21 = .ok (.lstore_n 1, 1) := by decide +kernel
theorem d7_22 : decode method_2_code 22 = .ok (.aload_n 0, 1) := by decide +kernel
theorem d7_23 : decode method_2_code 23 = .ok (.iconst 4, 1) := by decide +kernel
theorem d7_24 : decode method_2_code 24 = .ok (.laload, 1) := by decide +kernel
theorem d7_25 : decode method_2_code 25 = .ok (.aload_n 0, 1) := by decide +kernel
theorem d7_26 : decode method_2_code 26 = .ok (.iconst 5, 1) := by decide +kernel
theorem d7_27 : decode method_2_code 27 = .ok (.laload, 1) := by decide +kernel
theorem d7_28 : decode method_2_code 28 = .ok (.invokestatic 7, 3) := by decide +kernel
theorem d7_31 : decode method_2_code 31 = .ok (.aload_n 0, 1) := by decide +kernel
theorem d7_32 : decode method_2_code 32 = .ok (.bipush 6, 2) := by decide +kernel
theorem d7_34 : decode method_2_code 34 = .ok (.laload, 1) := by decide +kernel
theorem d7_35 : decode method_2_code 35 = .ok (.aload_n 0, 1) := by decide +kernel
theorem d7_36 : decode method_2_code 36 = .ok (.bipush 7, 2) := by decide +kernel
theorem d7_38 : decode method_2_code 38 = .ok (.laload, 1) := by decide +kernel
theorem d7_39 : decode method_2_code 39 = .ok (.invokestatic 7, 3) := by decide +kernel
theorem d7_42 : decode method_2_code 42 = .ok (.invokestatic 7, 3) := by decide +kernel
theorem d7_45 : decode method_2_code 45 = .ok (.lstore_n 3, 1) := by decide +kernel
theorem d7_46 : decode method_2_code 46 = .ok (.lload_n 1, 1) := by decide +kernel
theorem d7_47 : decode method_2_code 47 = .ok (.lload_n 3, 1) := by decide +kernel
theorem d7_48 : decode method_2_code 48 = .ok (.invokestatic 7, 3) := by decide +kernel
theorem d7_51 : decode method_2_code 51 = .ok (.lreturn, 1) := by decide +kernel
theorem pn1 : plainFor (⟨"com/example/twigline/twigline/matcher/StreamHeadsEarliestStartPinLaw", "min8", "([J)J"⟩ : MethodName) = true := by first | exact plainFor_of_name (by simp [plainName, overriddenIn]; done) | decide +kernel
theorem ef7 (m : MethodId) (x0 : Addr) : entryFrame m #[(.ref x0)] 5 = mkF m 0 #[.val (.ref x0), .unset, .unset, .unset, .unset] [] := by first | (simp [entryFrame, mkF, argsToLocals, Value.category]; done) | rfl
set_option maxRecDepth 65536 in
set_option maxHeartbeats 40000000 in
theorem rm7 (l : Launch) (Z : State) (a0 : Array Value) (hw : ∀ d ∈ tables_1, d.before a0 Z = true) (o0 : Addr) (h0 : Heap) (n0 : Nat) (ss : List Int64) (hl : ss.length = 8) (fr : List (Addr × (Cell → Prop))) (O0 : Own.Owns n0 h0 ((o0, Own.ArrC Z .long (ss.map Value.long)) :: fr))  : Own.Does l (⟨"com/example/twigline/twigline/matcher/StreamHeadsEarliestStartPinLaw", "min8", "([J)J"⟩ : MethodName) method_2_code 5 (some .long) [] ({ frames := 1, cells := 0, slots := 0, locals := 19 } : Room) Z #[(.ref o0)] h0 n0 (fun v h => v = some (.long (fMin8 ss)) ∧ h = h0) := by
  refine Own.doesOf pn1 ?_
  intro p e s m below meth c hx hby hml hret hlk hown hnm hZ
  refine Own.Goes.cast (ef7 m o0) ?_
  refine Own.aloadN hx (.ref o0) (hb hby d7_0) rfl rfl rfl ?_
  refine Own.iconst hx (0 : Int32) (hb hby d7_1) rfl (by decide) ?_
  refine Own.laload hx hZ O0 0 0 rfl (by decide) (v := (.long (ss.getD 0 0))) (own_ss_at (by omega)) (hb hby d7_2) rfl ?_
  refine Own.aloadN hx (.ref o0) (hb hby d7_3) rfl rfl rfl ?_
  refine Own.iconst hx (1 : Int32) (hb hby d7_4) rfl (by decide) ?_
  refine Own.laload hx hZ O0 0 1 rfl (by decide) (v := (.long (ss.getD 1 0))) (own_ss_at (by omega)) (hb hby d7_5) rfl ?_
  refine Own.callS hx hZ hown (hw _ (List.mem_of_getElem? (i := 41) rfl)) (hw _ (List.mem_of_getElem? (i := 42) rfl)) (hw _ (List.mem_of_getElem? (i := 43) rfl)) (hw _ (List.mem_of_getElem? (i := 44) rfl)) (by decide) pd0 (argsL := [(.long (ss.getD 0 0)), (.long (ss.getD 1 0))]) (rest := []) rfl (W := 0) (Nat.le_of_eq rfl) (rm := ({ frames := 0, cells := 0, slots := 0, locals := 0 } : Room)) (by decide) (by decide) (by decide) (by decide) (k' := 0) (n' := 0) rfl rfl (by rw [hml]; rfl) [(.long (ss.getD 1 0)), (.long (ss.getD 0 0))] rfl (hb hby d7_6) (pc' := 9) rfl (rm8 l Z a0 hw (ss.getD 0 0) (ss.getD 1 0) h0 n0) ?_
  rintro _ h' ⟨rfl, eh⟩
  rw [eh]; clear eh h'
  show Own.Goes _ _ _ _ _ _ _ _ _ _ _ _ _ _ _ _ _ (mkF m 9 #[.val (.ref o0), .unset, .unset, .unset, .unset] [(.long (fMin (ss.getD 0 0) (ss.getD 1 0)))])
  refine Own.aloadN hx (.ref o0) (hb hby d7_9) rfl rfl rfl ?_
  refine Own.iconst hx (2 : Int32) (hb hby d7_10) rfl (by decide) ?_
  refine Own.laload hx hZ O0 0 2 rfl (by decide) (v := (.long (ss.getD 2 0))) (own_ss_at (by omega)) (hb hby d7_11) rfl ?_
  refine Own.aloadN hx (.ref o0) (hb hby d7_12) rfl rfl rfl ?_
  refine Own.iconst hx (3 : Int32) (hb hby d7_13) rfl (by decide) ?_
  refine Own.laload hx hZ O0 0 3 rfl (by decide) (v := (.long (ss.getD 3 0))) (own_ss_at (by omega)) (hb hby d7_14) rfl ?_
  refine Own.callS hx hZ hown (hw _ (List.mem_of_getElem? (i := 41) rfl)) (hw _ (List.mem_of_getElem? (i := 42) rfl)) (hw _ (List.mem_of_getElem? (i := 43) rfl)) (hw _ (List.mem_of_getElem? (i := 44) rfl)) (by decide) pd0 (argsL := [(.long (ss.getD 2 0)), (.long (ss.getD 3 0))]) (rest := [(.long (fMin (ss.getD 0 0) (ss.getD 1 0)))]) rfl (W := 2) (Nat.le_of_eq rfl) (rm := ({ frames := 0, cells := 0, slots := 0, locals := 0 } : Room)) (by decide) (by decide) (by decide) (by decide) (k' := 0) (n' := 0) rfl rfl (by rw [hml]; rfl) [(.long (ss.getD 3 0)), (.long (ss.getD 2 0)), (.long (fMin (ss.getD 0 0) (ss.getD 1 0)))] rfl (hb hby d7_15) (pc' := 18) rfl (rm8 l Z a0 hw (ss.getD 2 0) (ss.getD 3 0) h0 n0) ?_
  rintro _ h' ⟨rfl, eh⟩
  rw [eh]; clear eh h'
  show Own.Goes _ _ _ _ _ _ _ _ _ _ _ _ _ _ _ _ _ (mkF m 18 #[.val (.ref o0), .unset, .unset, .unset, .unset] [(.long (fMin (ss.getD 2 0) (ss.getD 3 0))), (.long (fMin (ss.getD 0 0) (ss.getD 1 0)))])
  refine Own.callS hx hZ hown (hw _ (List.mem_of_getElem? (i := 41) rfl)) (hw _ (List.mem_of_getElem? (i := 42) rfl)) (hw _ (List.mem_of_getElem? (i := 43) rfl)) (hw _ (List.mem_of_getElem? (i := 44) rfl)) (by decide) pd0 (argsL := [(.long (fMin (ss.getD 0 0) (ss.getD 1 0))), (.long (fMin (ss.getD 2 0) (ss.getD 3 0)))]) (rest := []) rfl (W := 0) (Nat.le_of_eq rfl) (rm := ({ frames := 0, cells := 0, slots := 0, locals := 0 } : Room)) (by decide) (by decide) (by decide) (by decide) (k' := 0) (n' := 0) rfl rfl (by rw [hml]; rfl) [(.long (fMin (ss.getD 2 0) (ss.getD 3 0))), (.long (fMin (ss.getD 0 0) (ss.getD 1 0)))] rfl (hb hby d7_18) (pc' := 21) rfl (rm8 l Z a0 hw (fMin (ss.getD 0 0) (ss.getD 1 0)) (fMin (ss.getD 2 0) (ss.getD 3 0)) h0 n0) ?_
  rintro _ h' ⟨rfl, eh⟩
  rw [eh]; clear eh h'
  show Own.Goes _ _ _ _ _ _ _ _ _ _ _ _ _ _ _ _ _ (mkF m 21 #[.val (.ref o0), .unset, .unset, .unset, .unset] [(.long (fMin (fMin (ss.getD 0 0) (ss.getD 1 0)) (fMin (ss.getD 2 0) (ss.getD 3 0))))])
  obtain ⟨v1, h_v1⟩ : ∃ z : Int64, z = (fMin (fMin (ss.getD 0 0) (ss.getD 1 0)) (fMin (ss.getD 2 0) (ss.getD 3 0))) := ⟨_, rfl⟩
  refine Own.lstoreN hx v1 h_v1 #[.val (.ref o0), .val (.long v1), .second, .unset, .unset] (hb hby d7_21) rfl rfl ?_
  refine Own.aloadN hx (.ref o0) (hb hby d7_22) rfl rfl rfl ?_
  refine Own.iconst hx (4 : Int32) (hb hby d7_23) rfl (by decide) ?_
  refine Own.laload hx hZ O0 0 4 rfl (by decide) (v := (.long (ss.getD 4 0))) (own_ss_at (by omega)) (hb hby d7_24) rfl ?_
  refine Own.aloadN hx (.ref o0) (hb hby d7_25) rfl rfl rfl ?_
  refine Own.iconst hx (5 : Int32) (hb hby d7_26) rfl (by decide) ?_
  refine Own.laload hx hZ O0 0 5 rfl (by decide) (v := (.long (ss.getD 5 0))) (own_ss_at (by omega)) (hb hby d7_27) rfl ?_
  refine Own.callS hx hZ hown (hw _ (List.mem_of_getElem? (i := 41) rfl)) (hw _ (List.mem_of_getElem? (i := 42) rfl)) (hw _ (List.mem_of_getElem? (i := 43) rfl)) (hw _ (List.mem_of_getElem? (i := 44) rfl)) (by decide) pd0 (argsL := [(.long (ss.getD 4 0)), (.long (ss.getD 5 0))]) (rest := []) rfl (W := 0) (Nat.le_of_eq rfl) (rm := ({ frames := 0, cells := 0, slots := 0, locals := 0 } : Room)) (by decide) (by decide) (by decide) (by decide) (k' := 0) (n' := 0) rfl rfl (by rw [hml]; rfl) [(.long (ss.getD 5 0)), (.long (ss.getD 4 0))] rfl (hb hby d7_28) (pc' := 31) rfl (rm8 l Z a0 hw (ss.getD 4 0) (ss.getD 5 0) h0 n0) ?_
  rintro _ h' ⟨rfl, eh⟩
  rw [eh]; clear eh h'
  show Own.Goes _ _ _ _ _ _ _ _ _ _ _ _ _ _ _ _ _ (mkF m 31 #[.val (.ref o0), .val (.long v1), .second, .unset, .unset] [(.long (fMin (ss.getD 4 0) (ss.getD 5 0)))])
  refine Own.aloadN hx (.ref o0) (hb hby d7_31) rfl rfl rfl ?_
  refine Own.bipush hx (6 : Int32) (hb hby d7_32) rfl (by decide) ?_
  refine Own.laload hx hZ O0 0 6 rfl (by decide) (v := (.long (ss.getD 6 0))) (own_ss_at (by omega)) (hb hby d7_34) rfl ?_
  refine Own.aloadN hx (.ref o0) (hb hby d7_35) rfl rfl rfl ?_
  refine Own.bipush hx (7 : Int32) (hb hby d7_36) rfl (by decide) ?_
  refine Own.laload hx hZ O0 0 7 rfl (by decide) (v := (.long (ss.getD 7 0))) (own_ss_at (by omega)) (hb hby d7_38) rfl ?_
  refine Own.callS hx hZ hown (hw _ (List.mem_of_getElem? (i := 41) rfl)) (hw _ (List.mem_of_getElem? (i := 42) rfl)) (hw _ (List.mem_of_getElem? (i := 43) rfl)) (hw _ (List.mem_of_getElem? (i := 44) rfl)) (by decide) pd0 (argsL := [(.long (ss.getD 6 0)), (.long (ss.getD 7 0))]) (rest := [(.long (fMin (ss.getD 4 0) (ss.getD 5 0)))]) rfl (W := 2) (Nat.le_of_eq rfl) (rm := ({ frames := 0, cells := 0, slots := 0, locals := 0 } : Room)) (by decide) (by decide) (by decide) (by decide) (k' := 0) (n' := 0) rfl rfl (by rw [hml]; rfl) [(.long (ss.getD 7 0)), (.long (ss.getD 6 0)), (.long (fMin (ss.getD 4 0) (ss.getD 5 0)))] rfl (hb hby d7_39) (pc' := 42) rfl (rm8 l Z a0 hw (ss.getD 6 0) (ss.getD 7 0) h0 n0) ?_
  rintro _ h' ⟨rfl, eh⟩
  rw [eh]; clear eh h'
  show Own.Goes _ _ _ _ _ _ _ _ _ _ _ _ _ _ _ _ _ (mkF m 42 #[.val (.ref o0), .val (.long v1), .second, .unset, .unset] [(.long (fMin (ss.getD 6 0) (ss.getD 7 0))), (.long (fMin (ss.getD 4 0) (ss.getD 5 0)))])
  refine Own.callS hx hZ hown (hw _ (List.mem_of_getElem? (i := 41) rfl)) (hw _ (List.mem_of_getElem? (i := 42) rfl)) (hw _ (List.mem_of_getElem? (i := 43) rfl)) (hw _ (List.mem_of_getElem? (i := 44) rfl)) (by decide) pd0 (argsL := [(.long (fMin (ss.getD 4 0) (ss.getD 5 0))), (.long (fMin (ss.getD 6 0) (ss.getD 7 0)))]) (rest := []) rfl (W := 0) (Nat.le_of_eq rfl) (rm := ({ frames := 0, cells := 0, slots := 0, locals := 0 } : Room)) (by decide) (by decide) (by decide) (by decide) (k' := 0) (n' := 0) rfl rfl (by rw [hml]; rfl) [(.long (fMin (ss.getD 6 0) (ss.getD 7 0))), (.long (fMin (ss.getD 4 0) (ss.getD 5 0)))] rfl (hb hby d7_42) (pc' := 45) rfl (rm8 l Z a0 hw (fMin (ss.getD 4 0) (ss.getD 5 0)) (fMin (ss.getD 6 0) (ss.getD 7 0)) h0 n0) ?_
  rintro _ h' ⟨rfl, eh⟩
  rw [eh]; clear eh h'
  show Own.Goes _ _ _ _ _ _ _ _ _ _ _ _ _ _ _ _ _ (mkF m 45 #[.val (.ref o0), .val (.long v1), .second, .unset, .unset] [(.long (fMin (fMin (ss.getD 4 0) (ss.getD 5 0)) (fMin (ss.getD 6 0) (ss.getD 7 0))))])
  obtain ⟨v2, h_v2⟩ : ∃ z : Int64, z = (fMin (fMin (ss.getD 4 0) (ss.getD 5 0)) (fMin (ss.getD 6 0) (ss.getD 7 0))) := ⟨_, rfl⟩
  refine Own.lstoreN hx v2 h_v2 #[.val (.ref o0), .val (.long v1), .second, .val (.long v2), .second] (hb hby d7_45) rfl rfl ?_
  refine Own.lloadN hx v1 (hb hby d7_46) rfl rfl ?_
  refine Own.lloadN hx v2 (hb hby d7_47) rfl rfl ?_
  refine Own.callS hx hZ hown (hw _ (List.mem_of_getElem? (i := 41) rfl)) (hw _ (List.mem_of_getElem? (i := 42) rfl)) (hw _ (List.mem_of_getElem? (i := 43) rfl)) (hw _ (List.mem_of_getElem? (i := 44) rfl)) (by decide) pd0 (argsL := [(.long v1), (.long v2)]) (rest := []) rfl (W := 0) (Nat.le_of_eq rfl) (rm := ({ frames := 0, cells := 0, slots := 0, locals := 0 } : Room)) (by decide) (by decide) (by decide) (by decide) (k' := 0) (n' := 0) rfl rfl (by rw [hml]; rfl) [(.long v2), (.long v1)] rfl (hb hby d7_48) (pc' := 51) rfl (rm8 l Z a0 hw v1 v2 h0 n0) ?_
  rintro _ h' ⟨rfl, eh⟩
  rw [eh]; clear eh h'
  show Own.Goes _ _ _ _ _ _ _ _ _ _ _ _ _ _ _ _ _ (mkF m 51 #[.val (.ref o0), .val (.long v1), .second, .val (.long v2), .second] [(.long (fMin v1 v2))])
  exact Own.retL hx hret hlk (hb hby d7_51) (by decide) (by decide) ⟨by subst h_v2 h_v1; rfl, rfl⟩

theorem d4_0 : decode prog_27_method_8_code 0 = .ok (.aload_n 0, 1) := by decide +kernel
theorem d4_1 : decode prog_27_method_8_code 1 = .ok (.getfield 15, 3) := by decide +kernel
theorem d4_4 : decode prog_27_method_8_code 4 = .ok (.iload_n 2, 1) := by decide +kernel
theorem d4_5 : decode prog_27_method_8_code 5 = .ok (.laload, 1) := by decide +kernel
theorem d4_6 : decode prog_27_method_8_code 6 = .ok (.aload_n 0, 1) := by decide +kernel
theorem d4_7 : decode prog_27_method_8_code 7 = .ok (.getfield 15, 3) := by decide +kernel
theorem d4_10 : decode prog_27_method_8_code 10 = .ok (.iload_n 1, 1) := by decide +kernel
theorem d4_11 : decode prog_27_method_8_code 11 = .ok (.laload, 1) := by decide +kernel
theorem d4_12 : decode prog_27_method_8_code 12 = .ok (.lcmp, 1) := by decide +kernel
theorem d4_13 : decode prog_27_method_8_code 13 = .ok (.ifCond .ge 7, 3) := by decide +kernel
theorem d4_16 : decode prog_27_method_8_code 16 = .ok (.iload_n 2, 1) := by decide +kernel
theorem d4_17 : decode prog_27_method_8_code 17 = .ok (.goto 4, 3) := by decide +kernel
theorem d4_20 : decode prog_27_method_8_code 20 = .ok (.iload_n 1, 1) := by decide +kernel
theorem d4_21 : decode prog_27_method_8_code 21 = .ok (.ireturn, 1) := by decide +kernel
theorem pn2 : plainFor (⟨"com/example/twigline/twigline/matcher/StreamHeads", "earlier", "(II)I"⟩ : MethodName) = true := by first | exact plainFor_of_name (by simp [plainName, overriddenIn]; done) | decide +kernel
theorem ef4 (m : MethodId) (x0 : Addr) (x1 : Int32) (x2 : Int32) : entryFrame m #[(.ref x0), (.int x1), (.int x2)] 3 = mkF m 0 #[.val (.ref x0), .val (.int x1), .val (.int x2)] [] := by first | (simp [entryFrame, mkF, argsToLocals, Value.category]; done) | rfl
set_option maxRecDepth 65536 in
set_option maxHeartbeats 40000000 in
theorem rm4 (l : Launch) (Z : State) (a0 : Array Value) (hw : ∀ d ∈ tables_1, d.before a0 Z = true) (o0 : Addr) (h0 : Heap) (n0 : Nat) (an bn sz : Nat) (oa ob : Addr) (ss : List Int64) (hss : ss.length < 1000) (ha : an < ss.length) (hb' : bn < ss.length) (fr : List (Addr × (Cell → Prop))) (O0 : Own.Owns n0 h0 ((o0, Own.ObjC Z "com/example/twigline/twigline/matcher/StreamHeads" [(("com/example/twigline/twigline/matcher/StreamHeads", "size", "I"), (.int sz.toInt32)), (("com/example/twigline/twigline/matcher/StreamHeads", "starts", "[J"), (.ref oa)), (("com/example/twigline/twigline/matcher/StreamHeads", "earliest", "[I"), (.ref ob))]) :: (oa, Own.ArrC Z .long (ss.map Value.long)) :: fr))  : Own.Does l (⟨"com/example/twigline/twigline/matcher/StreamHeads", "earlier", "(II)I"⟩ : MethodName) prog_27_method_8_code 3 (some .int) [] ({ frames := 0, cells := 0, slots := 0, locals := 0 } : Room) Z #[(.ref o0), (.int an.toInt32), (.int bn.toInt32)] h0 n0 (fun v h => v = some (.int (pk ss an bn).toInt32) ∧ h = h0) := by
  refine Own.doesOf pn2 ?_
  intro p e s m below meth c hx hby hml hret hlk hown hnm hZ
  refine Own.Goes.cast (ef4 m o0 (an.toInt32) (bn.toInt32)) ?_
  refine Own.aloadN hx (.ref o0) (hb hby d4_0) rfl rfl rfl ?_
  refine Own.getfield hx hZ hown O0 0 1 rfl rfl (hw _ (List.mem_of_getElem? (i := 13) rfl)) (hb hby d4_1) rfl ?_
  refine Own.iloadN hx bn.toInt32 (hb hby d4_4) rfl rfl ?_
  refine Own.laload hx hZ O0 1 bn rfl (own_tl (by omega)) (v := (.long (ss.getD bn 0))) (own_ss_at (by omega)) (hb hby d4_5) rfl ?_
  refine Own.aloadN hx (.ref o0) (hb hby d4_6) rfl rfl rfl ?_
  refine Own.getfield hx hZ hown O0 0 1 rfl rfl (hw _ (List.mem_of_getElem? (i := 13) rfl)) (hb hby d4_7) rfl ?_
  refine Own.iloadN hx an.toInt32 (hb hby d4_10) rfl rfl ?_
  refine Own.laload hx hZ O0 1 an rfl (own_tl (by omega)) (v := (.long (ss.getD an 0))) (own_ss_at (by omega)) (hb hby d4_11) rfl ?_
  refine Own.lcmp hx (hb hby d4_12) rfl ?_
  refine Own.ifFn hx (Own.w_ge (ss.getD bn 0) (ss.getD an 0)) (hb hby d4_13) (pcN := 16) rfl (by decide) (pcT := 20) rfl (fun hc1 => ?_) (fun hc1 => ?_)
  · refine Own.iloadN hx an.toInt32 (hb hby d4_20) rfl rfl ?_
    exact Own.retI hx hret hlk (hb hby d4_21) (by decide) (by decide) ⟨by rw [own_pkmiss hc1], rfl⟩
  · refine Own.iloadN hx bn.toInt32 (hb hby d4_16) rfl rfl ?_
    refine Own.goto hx (hb hby d4_17) (by decide) (pc' := 21) rfl ?_
    exact Own.retI hx hret hlk (hb hby d4_21) (by decide) (by decide) ⟨by rw [own_pkhit hc1], rfl⟩

theorem d1_0 : decode prog_27_method_1_code 0 = .ok (.aload_n 0, 1) := by decide +kernel
theorem d1_1 : decode prog_27_method_1_code 1 = .ok (.invokespecial 3, 3) := by decide +kernel
theorem d1_4 : decode prog_27_method_1_code 4 = .ok (.aload_n 0, 1) := by decide +kernel
theorem d1_5 : decode prog_27_method_1_code 5 = .ok (.iload_n 1, 1) := by decide +kernel
theorem d1_6 : decode prog_27_method_1_code 6 = .ok (.putfield 9, 3) := by decide +kernel
theorem d1_9 : decode prog_27_method_1_code 9 = .ok (.aload_n 0, 1) := by decide +kernel
theorem d1_10 : decode prog_27_method_1_code 10 = .ok (.iload_n 1, 1) := by decide +kernel
theorem d1_11 : decode prog_27_method_1_code 11 = .ok (.newarray .long, 2) := by decide +kernel
theorem d1_13 : decode prog_27_method_1_code 13 = .ok (.putfield 15, 3) := by decide +kernel
theorem d1_16 : decode prog_27_method_1_code 16 = .ok (.aload_n 0, 1) := by decide +kernel
theorem d1_17 : decode prog_27_method_1_code 17 = .ok (.iconst 2, 1) := by decide +kernel
theorem d1_18 : decode prog_27_method_1_code 18 = .ok (.iload_n 1, 1) := by decide +kernel
theorem d1_19 : decode prog_27_method_1_code 19 = .ok (.imul, 1) := by decide +kernel
theorem d1_20 : decode prog_27_method_1_code 20 = .ok (.newarray .int, 2) := by decide +kernel
theorem d1_22 : decode prog_27_method_1_code 22 = .ok (.putfield 19, 3) := by decide +kernel
theorem d1_25 : decode prog_27_method_1_code 25 = .ok (.iconst 0, 1) := by decide +kernel
theorem d1_26 : decode prog_27_method_1_code 26 = .ok (.istore_n 2, 1) := by decide +kernel
theorem d1_27 : decode prog_27_method_1_code 27 = .ok (.iload_n 2, 1) := by decide +kernel
theorem d1_28 : decode prog_27_method_1_code 28 = .ok (.iload_n 1, 1) := by decide +kernel
theorem d1_29 : decode prog_27_method_1_code 29 = .ok (.if_icmp .ge 27, 3) := by decide +kernel
theorem d1_56 : decode prog_27_method_1_code 56 = .ok (.iload_n 1, 1) := by decide +kernel
theorem d1_57 : decode prog_27_method_1_code 57 = .ok (.iconst 1, 1) := by decide +kernel
theorem d1_58 : decode prog_27_method_1_code 58 = .ok (.isub, 1) := by decide +kernel
theorem d1_59 : decode prog_27_method_1_code 59 = .ok (.istore_n 2, 1) := by decide +kernel
theorem d1_60 : decode prog_27_method_1_code 60 = .ok (.iload_n 2, 1) := by decide +kernel
theorem d1_61 : decode prog_27_method_1_code 61 = .ok (.ifCond .le 37, 3) := by decide +kernel
theorem d1_98 : decode prog_27_method_1_code 98 = .ok (.return_, 1) := by decide +kernel
theorem pn3 : plainFor (⟨"com/example/twigline/twigline/matcher/StreamHeads", "<init>", "(I)V"⟩ : MethodName) = true := by first | exact plainFor_of_name (by simp [plainName, overriddenIn]; done) | decide +kernel
theorem ef1_0 (m : MethodId) (x0 : Addr) (x1 : Int32) : entryFrame m #[(.ref x0), (.int x1)] 3 = mkF m 0 #[.val (.ref x0), .val (.int x1), .unset] [] := by first | (simp [entryFrame, mkF, argsToLocals, Value.category]; done) | rfl
set_option maxRecDepth 65536 in
set_option maxHeartbeats 40000000 in
theorem rm1_0 (l : Launch) (Z : State) (a0 : Array Value) (hw : ∀ d ∈ tables_1, d.before a0 Z = true) (o0 : Addr) (h0 : Heap) (n0 : Nat)  (fr : List (Addr × (Cell → Prop))) (O0 : Own.Owns n0 h0 ((o0, Own.ObjC Z "com/example/twigline/twigline/matcher/StreamHeads" [(("com/example/twigline/twigline/matcher/StreamHeads", "size", "I"), (.int (0 : Int32))), (("com/example/twigline/twigline/matcher/StreamHeads", "starts", "[J"), .null), (("com/example/twigline/twigline/matcher/StreamHeads", "earliest", "[I"), .null)]) :: fr))  : Own.Does l (⟨"com/example/twigline/twigline/matcher/StreamHeads", "<init>", "(I)V"⟩ : MethodName) prog_27_method_1_code 3 none [] ({ frames := 1, cells := 2, slots := 0, locals := 16 } : Room) Z #[(.ref o0), (.int (0 : Int32))] h0 n0 (fun v h => ∃ ra rb, v = none ∧ Own.Owns n0 h ((o0, Own.ObjC Z "com/example/twigline/twigline/matcher/StreamHeads" [(("com/example/twigline/twigline/matcher/StreamHeads", "size", "I"), (.int (0 : Int32))), (("com/example/twigline/twigline/matcher/StreamHeads", "starts", "[J"), (.ref ra)), (("com/example/twigline/twigline/matcher/StreamHeads", "earliest", "[I"), (.ref rb))]) :: (ra, Own.ArrC Z .long []) :: (rb, Own.ArrC Z .int []) :: fr)) := by
  refine Own.doesOf pn3 ?_
  intro p e s m below meth c hx hby hml hret hlk hown hnm hZ
  refine Own.Goes.cast (ef1_0 m o0 (0 : Int32)) ?_
  refine Own.aloadN hx (.ref o0) (hb hby d1_0) rfl rfl rfl ?_
  refine Own.initobj hx hZ hown (hw _ (List.mem_of_getElem? (i := 8) rfl)) (hw _ (List.mem_of_getElem? (i := 9) rfl)) (hw _ (List.mem_of_getElem? (i := 10) rfl)) (by rw [hml]; rfl) (W := 0) (Nat.le_of_eq rfl) (by decide) (by decide) (hb hby d1_1) rfl ?_
  refine Own.aloadN hx (.ref o0) (hb hby d1_4) rfl rfl rfl ?_
  refine Own.iloadN hx (0 : Int32) (hb hby d1_5) rfl rfl ?_
  refine Own.putfield hx hZ hown O0 0 0 rfl rfl (hw _ (List.mem_of_getElem? (i := 11) rfl)) (Or.inr ⟨(hw _ (List.mem_of_getElem? (i := 12) rfl)), rfl, hnm⟩) (hw _ (List.mem_of_getElem? (i := 3) rfl)) (ty := .int) (by decide) rfl rfl ((o0, Own.ObjC Z "com/example/twigline/twigline/matcher/StreamHeads" [(("com/example/twigline/twigline/matcher/StreamHeads", "size", "I"), (.int (0 : Int32))), (("com/example/twigline/twigline/matcher/StreamHeads", "starts", "[J"), .null), (("com/example/twigline/twigline/matcher/StreamHeads", "earliest", "[I"), .null)]) :: fr) rfl (hb hby d1_6) rfl ?_
  intro h1 O2
  refine Own.aloadN hx (.ref o0) (hb hby d1_9) rfl rfl rfl ?_
  refine Own.iloadN hx (0 : Int32) (hb hby d1_10) rfl rfl ?_
  refine Own.newarr hx hZ O2 (aty := .long) (hw _ (List.mem_of_getElem? (i := 0) rfl)) 0 (by decide) [] rfl rfl (cap := 0) (by decide) (by decide) (k' := 1) (n' := 0) rfl rfl (by decide) (by decide) (hb hby d1_11) (pc' := 13) rfl ?_
  intro a3 h4 O5
  refine Own.putfield hx hZ hown O5 1 1 rfl rfl (hw _ (List.mem_of_getElem? (i := 13) rfl)) (Or.inr ⟨(hw _ (List.mem_of_getElem? (i := 14) rfl)), rfl, hnm⟩) (hw _ (List.mem_of_getElem? (i := 3) rfl)) (ty := (.array .long)) (by decide) rfl rfl ((a3, Own.ArrC Z .long []) :: (o0, Own.ObjC Z "com/example/twigline/twigline/matcher/StreamHeads" [(("com/example/twigline/twigline/matcher/StreamHeads", "size", "I"), (.int (0 : Int32))), (("com/example/twigline/twigline/matcher/StreamHeads", "starts", "[J"), (.ref a3)), (("com/example/twigline/twigline/matcher/StreamHeads", "earliest", "[I"), .null)]) :: fr) rfl (hb hby d1_13) rfl ?_
  intro h6 O7
  refine Own.aloadN hx (.ref o0) (hb hby d1_16) rfl rfl rfl ?_
  refine Own.iconst hx (2 : Int32) (hb hby d1_17) rfl (by decide) ?_
  refine Own.iloadN hx (0 : Int32) (hb hby d1_18) rfl rfl ?_
  refine Own.imul hx (hb hby d1_19) rfl ?_
  refine Own.vI (0 : Int32) (by decide) ?_
  refine Own.newarr hx hZ O7 (aty := .int) (hw _ (List.mem_of_getElem? (i := 15) rfl)) 0 (by decide) [] rfl rfl (cap := 0) (by decide) (by decide) (k' := 2) (n' := 0) rfl rfl (by decide) (by decide) (hb hby d1_20) (pc' := 22) rfl ?_
  intro a8 h9 O10
  refine Own.putfield hx hZ hown O10 2 2 rfl rfl (hw _ (List.mem_of_getElem? (i := 16) rfl)) (Or.inr ⟨(hw _ (List.mem_of_getElem? (i := 17) rfl)), rfl, hnm⟩) (hw _ (List.mem_of_getElem? (i := 3) rfl)) (ty := (.array .int)) (by decide) rfl rfl ((a8, Own.ArrC Z .int []) :: (a3, Own.ArrC Z .long []) :: (o0, Own.ObjC Z "com/example/twigline/twigline/matcher/StreamHeads" [(("com/example/twigline/twigline/matcher/StreamHeads", "size", "I"), (.int (0 : Int32))), (("com/example/twigline/twigline/matcher/StreamHeads", "starts", "[J"), (.ref a3)), (("com/example/twigline/twigline/matcher/StreamHeads", "earliest", "[I"), (.ref a8))]) :: fr) rfl (hb hby d1_22) rfl ?_
  intro h11 O12
  refine Own.iconst hx (0 : Int32) (hb hby d1_25) rfl (by decide) ?_
  refine Own.istoreN hx (0 : Int32) rfl #[.val (.ref o0), .val (.int (0 : Int32)), .val (.int (0 : Int32))] (hb hby d1_26) rfl rfl ?_
  refine Own.iloadN hx (0 : Int32) (hb hby d1_27) rfl rfl ?_
  refine Own.iloadN hx (0 : Int32) (hb hby d1_28) rfl rfl ?_
  have hc13 : ¬ ((0 : Int32) < (0 : Int32)) := by decide
  refine Own.icmpFn hx (Own.q_ge (0 : Int32) (0 : Int32)) (hb hby d1_29) (pcN := 32) rfl (by decide) (pcT := 56) rfl (fun _ => ?_) (fun q => absurd q hc13)
  refine Own.iloadN hx (0 : Int32) (hb hby d1_56) rfl rfl ?_
  refine Own.iconst hx (1 : Int32) (hb hby d1_57) rfl (by decide) ?_
  refine Own.isub hx (hb hby d1_58) rfl ?_
  refine Own.vI (-1 : Int32) (by decide) ?_
  refine Own.istoreN hx (-1 : Int32) rfl #[.val (.ref o0), .val (.int (0 : Int32)), .val (.int (-1 : Int32))] (hb hby d1_59) rfl rfl ?_
  refine Own.iloadN hx (-1 : Int32) (hb hby d1_60) rfl rfl ?_
  have hc15 : ¬ ((0 : Int32) < (-1 : Int32)) := by decide
  refine Own.ifFn hx (Own.z_le (-1 : Int32)) (hb hby d1_61) (pcN := 64) rfl (by decide) (pcT := 98) rfl (fun _ => ?_) (fun q => absurd q hc15)
  have O17 : Own.Owns n0 h11 ((a3, Own.ArrC Z .long []) :: (a8, Own.ArrC Z .int []) :: (o0, Own.ObjC Z "com/example/twigline/twigline/matcher/StreamHeads" [(("com/example/twigline/twigline/matcher/StreamHeads", "size", "I"), (.int (0 : Int32))), (("com/example/twigline/twigline/matcher/StreamHeads", "starts", "[J"), (.ref a3)), (("com/example/twigline/twigline/matcher/StreamHeads", "earliest", "[I"), (.ref a8))]) :: fr) := O12.pick 1 rfl
  have O18 : Own.Owns n0 h11 ((o0, Own.ObjC Z "com/example/twigline/twigline/matcher/StreamHeads" [(("com/example/twigline/twigline/matcher/StreamHeads", "size", "I"), (.int (0 : Int32))), (("com/example/twigline/twigline/matcher/StreamHeads", "starts", "[J"), (.ref a3)), (("com/example/twigline/twigline/matcher/StreamHeads", "earliest", "[I"), (.ref a8))]) :: (a3, Own.ArrC Z .long []) :: (a8, Own.ArrC Z .int []) :: fr) := O17.pick 2 rfl
  exact Own.retV hx hret hlk (hb hby d1_98) (by decide) (by decide) ⟨a3, a8, rfl, O18⟩

theorem d1_32 : decode prog_27_method_1_code 32 = .ok (.aload_n 0, 1) := by decide +kernel
theorem d1_33 : decode prog_27_method_1_code 33 = .ok (.getfield 15, 3) := by decide +kernel
theorem d1_36 : decode prog_27_method_1_code 36 = .ok (.iload_n 2, 1) := by decide +kernel
theorem d1_37 : decode prog_27_method_1_code 37 = .ok (.ldc2_w 23, 3) := by decide +kernel
theorem d1_40 : decode prog_27_method_1_code 40 = .ok (.lastore, 1) := by decide +kernel
theorem d1_41 : decode prog_27_method_1_code 41 = .ok (.aload_n 0, 1) := by decide +kernel
theorem d1_42 : decode prog_27_method_1_code 42 = .ok (.getfield 19, 3) := by decide +kernel
theorem d1_45 : decode prog_27_method_1_code 45 = .ok (.iload_n 1, 1) := by decide +kernel
theorem d1_46 : decode prog_27_method_1_code 46 = .ok (.iload_n 2, 1) := by decide +kernel
theorem d1_47 : decode prog_27_method_1_code 47 = .ok (.iadd, 1) := by decide +kernel
theorem d1_48 : decode prog_27_method_1_code 48 = .ok (.iload_n 2, 1) := by decide +kernel
theorem d1_49 : decode prog_27_method_1_code 49 = .ok (.iastore, 1) := by decide +kernel
theorem d1_50 : decode prog_27_method_1_code 50 = .ok (.iinc 2 1, 3) := by decide +kernel
theorem d1_53 : decode prog_27_method_1_code 53 = .ok (.goto (-26), 3) := by decide +kernel
theorem ef1_1 (m : MethodId) (x0 : Addr) (x1 : Int32) : entryFrame m #[(.ref x0), (.int x1)] 3 = mkF m 0 #[.val (.ref x0), .val (.int x1), .unset] [] := by first | (simp [entryFrame, mkF, argsToLocals, Value.category]; done) | rfl
set_option maxRecDepth 65536 in
set_option maxHeartbeats 40000000 in
theorem rm1_1 (l : Launch) (Z : State) (a0 : Array Value) (hw : ∀ d ∈ tables_1, d.before a0 Z = true) (o0 : Addr) (h0 : Heap) (n0 : Nat)  (fr : List (Addr × (Cell → Prop))) (O0 : Own.Owns n0 h0 ((o0, Own.ObjC Z "com/example/twigline/twigline/matcher/StreamHeads" [(("com/example/twigline/twigline/matcher/StreamHeads", "size", "I"), (.int (0 : Int32))), (("com/example/twigline/twigline/matcher/StreamHeads", "starts", "[J"), .null), (("com/example/twigline/twigline/matcher/StreamHeads", "earliest", "[I"), .null)]) :: fr))  : Own.Does l (⟨"com/example/twigline/twigline/matcher/StreamHeads", "<init>", "(I)V"⟩ : MethodName) prog_27_method_1_code 3 none [] ({ frames := 1, cells := 2, slots := 3, locals := 16 } : Room) Z #[(.ref o0), (.int (1 : Int32))] h0 n0 (fun v h => ∃ ra rb, v = none ∧ Own.Owns n0 h ((o0, Own.ObjC Z "com/example/twigline/twigline/matcher/StreamHeads" [(("com/example/twigline/twigline/matcher/StreamHeads", "size", "I"), (.int (1 : Int32))), (("com/example/twigline/twigline/matcher/StreamHeads", "starts", "[J"), (.ref ra)), (("com/example/twigline/twigline/matcher/StreamHeads", "earliest", "[I"), (.ref rb))]) :: (ra, Own.ArrC Z .long [(.long (9223372036854775807 : Int64))]) :: (rb, Own.ArrC Z .int [(.int (0 : Int32)), (.int (0 : Int32))]) :: fr)) := by
  refine Own.doesOf pn3 ?_
  intro p e s m below meth c hx hby hml hret hlk hown hnm hZ
  refine Own.Goes.cast (ef1_1 m o0 (1 : Int32)) ?_
  refine Own.aloadN hx (.ref o0) (hb hby d1_0) rfl rfl rfl ?_
  refine Own.initobj hx hZ hown (hw _ (List.mem_of_getElem? (i := 8) rfl)) (hw _ (List.mem_of_getElem? (i := 9) rfl)) (hw _ (List.mem_of_getElem? (i := 10) rfl)) (by rw [hml]; rfl) (W := 0) (Nat.le_of_eq rfl) (by decide) (by decide) (hb hby d1_1) rfl ?_
  refine Own.aloadN hx (.ref o0) (hb hby d1_4) rfl rfl rfl ?_
  refine Own.iloadN hx (1 : Int32) (hb hby d1_5) rfl rfl ?_
  refine Own.putfield hx hZ hown O0 0 0 rfl rfl (hw _ (List.mem_of_getElem? (i := 11) rfl)) (Or.inr ⟨(hw _ (List.mem_of_getElem? (i := 12) rfl)), rfl, hnm⟩) (hw _ (List.mem_of_getElem? (i := 3) rfl)) (ty := .int) (by decide) rfl rfl ((o0, Own.ObjC Z "com/example/twigline/twigline/matcher/StreamHeads" [(("com/example/twigline/twigline/matcher/StreamHeads", "size", "I"), (.int (1 : Int32))), (("com/example/twigline/twigline/matcher/StreamHeads", "starts", "[J"), .null), (("com/example/twigline/twigline/matcher/StreamHeads", "earliest", "[I"), .null)]) :: fr) rfl (hb hby d1_6) rfl ?_
  intro h1 O2
  refine Own.aloadN hx (.ref o0) (hb hby d1_9) rfl rfl rfl ?_
  refine Own.iloadN hx (1 : Int32) (hb hby d1_10) rfl rfl ?_
  refine Own.newarr hx hZ O2 (aty := .long) (hw _ (List.mem_of_getElem? (i := 0) rfl)) 1 (by decide) [(.long (0 : Int64))] rfl rfl (cap := 1) (by decide) (by decide) (k' := 1) (n' := 1) rfl rfl (by decide) (by decide) (hb hby d1_11) (pc' := 13) rfl ?_
  intro a3 h4 O5
  refine Own.putfield hx hZ hown O5 1 1 rfl rfl (hw _ (List.mem_of_getElem? (i := 13) rfl)) (Or.inr ⟨(hw _ (List.mem_of_getElem? (i := 14) rfl)), rfl, hnm⟩) (hw _ (List.mem_of_getElem? (i := 3) rfl)) (ty := (.array .long)) (by decide) rfl rfl ((a3, Own.ArrC Z .long [(.long (0 : Int64))]) :: (o0, Own.ObjC Z "com/example/twigline/twigline/matcher/StreamHeads" [(("com/example/twigline/twigline/matcher/StreamHeads", "size", "I"), (.int (1 : Int32))), (("com/example/twigline/twigline/matcher/StreamHeads", "starts", "[J"), (.ref a3)), (("com/example/twigline/twigline/matcher/StreamHeads", "earliest", "[I"), .null)]) :: fr) rfl (hb hby d1_13) rfl ?_
  intro h6 O7
  refine Own.aloadN hx (.ref o0) (hb hby d1_16) rfl rfl rfl ?_
  refine Own.iconst hx (2 : Int32) (hb hby d1_17) rfl (by decide) ?_
  refine Own.iloadN hx (1 : Int32) (hb hby d1_18) rfl rfl ?_
  refine Own.imul hx (hb hby d1_19) rfl ?_
  refine Own.vI (2 : Int32) (by decide) ?_
  refine Own.newarr hx hZ O7 (aty := .int) (hw _ (List.mem_of_getElem? (i := 15) rfl)) 2 (by decide) [(.int (0 : Int32)), (.int (0 : Int32))] rfl rfl (cap := 2) (by decide) (by decide) (k' := 2) (n' := 3) rfl rfl (by decide) (by decide) (hb hby d1_20) (pc' := 22) rfl ?_
  intro a8 h9 O10
  refine Own.putfield hx hZ hown O10 2 2 rfl rfl (hw _ (List.mem_of_getElem? (i := 16) rfl)) (Or.inr ⟨(hw _ (List.mem_of_getElem? (i := 17) rfl)), rfl, hnm⟩) (hw _ (List.mem_of_getElem? (i := 3) rfl)) (ty := (.array .int)) (by decide) rfl rfl ((a8, Own.ArrC Z .int [(.int (0 : Int32)), (.int (0 : Int32))]) :: (a3, Own.ArrC Z .long [(.long (0 : Int64))]) :: (o0, Own.ObjC Z "com/example/twigline/twigline/matcher/StreamHeads" [(("com/example/twigline/twigline/matcher/StreamHeads", "size", "I"), (.int (1 : Int32))), (("com/example/twigline/twigline/matcher/StreamHeads", "starts", "[J"), (.ref a3)), (("com/example/twigline/twigline/matcher/StreamHeads", "earliest", "[I"), (.ref a8))]) :: fr) rfl (hb hby d1_22) rfl ?_
  intro h11 O12
  refine Own.iconst hx (0 : Int32) (hb hby d1_25) rfl (by decide) ?_
  refine Own.istoreN hx (0 : Int32) rfl #[.val (.ref o0), .val (.int (1 : Int32)), .val (.int (0 : Int32))] (hb hby d1_26) rfl rfl ?_
  refine Own.iloadN hx (0 : Int32) (hb hby d1_27) rfl rfl ?_
  refine Own.iloadN hx (1 : Int32) (hb hby d1_28) rfl rfl ?_
  have hc13 : (0 : Int32) < (1 : Int32) := by decide
  refine Own.icmpFn hx (Own.q_ge (0 : Int32) (1 : Int32)) (hb hby d1_29) (pcN := 32) rfl (by decide) (pcT := 56) rfl (fun q => absurd hc13 q) (fun _ => ?_)
  refine Own.aloadN hx (.ref o0) (hb hby d1_32) rfl rfl rfl ?_
  refine Own.getfield hx hZ hown O12 2 1 rfl rfl (hw _ (List.mem_of_getElem? (i := 13) rfl)) (hb hby d1_33) rfl ?_
  refine Own.iloadN hx (0 : Int32) (hb hby d1_36) rfl rfl ?_
  refine Own.ldc2 hx hZ hown (9223372036854775807 : Int64) (hb hby d1_37) rfl (hw _ (List.mem_of_getElem? (i := 23) rfl)) ?_
  refine Own.lastore hx hZ O12 1 0 rfl (by decide) (by exact (show 0 < 1 by decide)) ((a8, Own.ArrC Z .int [(.int (0 : Int32)), (.int (0 : Int32))]) :: (a3, Own.ArrC Z .long [(.long (9223372036854775807 : Int64))]) :: (o0, Own.ObjC Z "com/example/twigline/twigline/matcher/StreamHeads" [(("com/example/twigline/twigline/matcher/StreamHeads", "size", "I"), (.int (1 : Int32))), (("com/example/twigline/twigline/matcher/StreamHeads", "starts", "[J"), (.ref a3)), (("com/example/twigline/twigline/matcher/StreamHeads", "earliest", "[I"), (.ref a8))]) :: fr) rfl (hb hby d1_40) rfl ?_
  intro h15 O16
  refine Own.aloadN hx (.ref o0) (hb hby d1_41) rfl rfl rfl ?_
  refine Own.getfield hx hZ hown O16 2 2 rfl rfl (hw _ (List.mem_of_getElem? (i := 16) rfl)) (hb hby d1_42) rfl ?_
  refine Own.iloadN hx (1 : Int32) (hb hby d1_45) rfl rfl ?_
  refine Own.iloadN hx (0 : Int32) (hb hby d1_46) rfl rfl ?_
  refine Own.iadd hx (hb hby d1_47) rfl ?_
  refine Own.vI (1 : Int32) (by decide) ?_
  refine Own.iloadN hx (0 : Int32) (hb hby d1_48) rfl rfl ?_
  refine Own.iastore hx hZ O16 0 1 rfl (by decide) (by exact (show 1 < 2 by decide)) ((a8, Own.ArrC Z .int [(.int (0 : Int32)), (.int (0 : Int32))]) :: (a3, Own.ArrC Z .long [(.long (9223372036854775807 : Int64))]) :: (o0, Own.ObjC Z "com/example/twigline/twigline/matcher/StreamHeads" [(("com/example/twigline/twigline/matcher/StreamHeads", "size", "I"), (.int (1 : Int32))), (("com/example/twigline/twigline/matcher/StreamHeads", "starts", "[J"), (.ref a3)), (("com/example/twigline/twigline/matcher/StreamHeads", "earliest", "[I"), (.ref a8))]) :: fr) rfl (hb hby d1_49) rfl ?_
  intro h17 O18
  refine Own.iinc hx (1 : Int32) #[.val (.ref o0), .val (.int (1 : Int32)), .val (.int (1 : Int32))] (hb hby d1_50) rfl rfl (by decide) rfl ?_
  refine Own.goto hx (hb hby d1_53) (by decide) (pc' := 27) rfl ?_
  refine Own.iloadN hx (1 : Int32) (hb hby d1_27) rfl rfl ?_
  refine Own.iloadN hx (1 : Int32) (hb hby d1_28) rfl rfl ?_
  have hc19 : ¬ ((1 : Int32) < (1 : Int32)) := by decide
  refine Own.icmpFn hx (Own.q_ge (1 : Int32) (1 : Int32)) (hb hby d1_29) (pcN := 32) rfl (by decide) (pcT := 56) rfl (fun _ => ?_) (fun q => absurd q hc19)
  refine Own.iloadN hx (1 : Int32) (hb hby d1_56) rfl rfl ?_
  refine Own.iconst hx (1 : Int32) (hb hby d1_57) rfl (by decide) ?_
  refine Own.isub hx (hb hby d1_58) rfl ?_
  refine Own.vI (0 : Int32) (by decide) ?_
  refine Own.istoreN hx (0 : Int32) rfl #[.val (.ref o0), .val (.int (1 : Int32)), .val (.int (0 : Int32))] (hb hby d1_59) rfl rfl ?_
  refine Own.iloadN hx (0 : Int32) (hb hby d1_60) rfl rfl ?_
  have hc21 : ¬ ((0 : Int32) < (0 : Int32)) := by decide
  refine Own.ifFn hx (Own.z_le (0 : Int32)) (hb hby d1_61) (pcN := 64) rfl (by decide) (pcT := 98) rfl (fun _ => ?_) (fun q => absurd q hc21)
  have O23 : Own.Owns n0 h17 ((a3, Own.ArrC Z .long [(.long (9223372036854775807 : Int64))]) :: (a8, Own.ArrC Z .int [(.int (0 : Int32)), (.int (0 : Int32))]) :: (o0, Own.ObjC Z "com/example/twigline/twigline/matcher/StreamHeads" [(("com/example/twigline/twigline/matcher/StreamHeads", "size", "I"), (.int (1 : Int32))), (("com/example/twigline/twigline/matcher/StreamHeads", "starts", "[J"), (.ref a3)), (("com/example/twigline/twigline/matcher/StreamHeads", "earliest", "[I"), (.ref a8))]) :: fr) := O18.pick 1 rfl
  have O24 : Own.Owns n0 h17 ((o0, Own.ObjC Z "com/example/twigline/twigline/matcher/StreamHeads" [(("com/example/twigline/twigline/matcher/StreamHeads", "size", "I"), (.int (1 : Int32))), (("com/example/twigline/twigline/matcher/StreamHeads", "starts", "[J"), (.ref a3)), (("com/example/twigline/twigline/matcher/StreamHeads", "earliest", "[I"), (.ref a8))]) :: (a3, Own.ArrC Z .long [(.long (9223372036854775807 : Int64))]) :: (a8, Own.ArrC Z .int [(.int (0 : Int32)), (.int (0 : Int32))]) :: fr) := O23.pick 2 rfl
  exact Own.retV hx hret hlk (hb hby d1_98) (by decide) (by decide) ⟨a3, a8, rfl, O24⟩

theorem pd1 : parseMethodDescriptor "(II)I" = some ⟨[.int, .int], some .int⟩ := by decide +kernel
theorem d1_64 : decode prog_27_method_1_code 64 = .ok (.aload_n 0, 1) := by decide +kernel
theorem d1_65 : decode prog_27_method_1_code 65 = .ok (.getfield 19, 3) := by decide +kernel
theorem d1_68 : decode prog_27_method_1_code 68 = .ok (.iload_n 2, 1) := by decide +kernel
theorem d1_69 : decode prog_27_method_1_code 69 = .ok (.aload_n 0, 1) := by decide +kernel
theorem d1_70 : decode prog_27_method_1_code 70 = .ok (.aload_n 0, 1) := by decide +kernel
theorem d1_71 : decode prog_27_method_1_code 71 = .ok (.getfield 19, 3) := by decide +kernel
theorem d1_74 : decode prog_27_method_1_code 74 = .ok (.iconst 2, 1) := by decide +kernel
theorem d1_75 : decode prog_27_method_1_code 75 = .ok (.iload_n 2, 1) := by decide +kernel
theorem d1_76 : decode prog_27_method_1_code 76 = .ok (.imul, 1) := by decide +kernel
theorem d1_77 : decode prog_27_method_1_code 77 = .ok (.iaload, 1) := by decide +kernel
theorem d1_78 : decode prog_27_method_1_code 78 = .ok (.aload_n 0, 1) := by decide +kernel
theorem d1_79 : decode prog_27_method_1_code 79 = .ok (.getfield 19, 3) := by decide +kernel
theorem d1_82 : decode prog_27_method_1_code 82 = .ok (.iconst 2, 1) := by decide +kernel
theorem d1_83 : decode prog_27_method_1_code 83 = .ok (.iload_n 2, 1) := by decide +kernel
theorem d1_84 : decode prog_27_method_1_code 84 = .ok (.imul, 1) := by decide +kernel
theorem d1_85 : decode prog_27_method_1_code 85 = .ok (.iconst 1, 1) := by decide +kernel
theorem d1_86 : decode prog_27_method_1_code 86 = .ok (.iadd, 1) := by decide +kernel
theorem d1_87 : decode prog_27_method_1_code 87 = .ok (.iaload, 1) := by decide +kernel
theorem d1_88 : decode prog_27_method_1_code 88 = .ok (.invokevirtual 25, 3) := by decide +kernel
theorem d1_91 : decode prog_27_method_1_code 91 = .ok (.iastore, 1) := by decide +kernel
theorem d1_92 : decode prog_27_method_1_code 92 = .ok (.iinc 2 (-1), 3) := by decide +kernel
theorem d1_95 : decode prog_27_method_1_code 95 = .ok (.goto (-35), 3) := by decide +kernel
theorem ef1_2 (m : MethodId) (x0 : Addr) (x1 : Int32) : entryFrame m #[(.ref x0), (.int x1)] 3 = mkF m 0 #[.val (.ref x0), .val (.int x1), .unset] [] := by first | (simp [entryFrame, mkF, argsToLocals, Value.category]; done) | rfl
set_option maxRecDepth 65536 in
set_option maxHeartbeats 40000000 in
theorem rm1_2 (l : Launch) (Z : State) (a0 : Array Value) (hw : ∀ d ∈ tables_1, d.before a0 Z = true) (o0 : Addr) (h0 : Heap) (n0 : Nat)  (fr : List (Addr × (Cell → Prop))) (O0 : Own.Owns n0 h0 ((o0, Own.ObjC Z "com/example/twigline/twigline/matcher/StreamHeads" [(("com/example/twigline/twigline/matcher/StreamHeads", "size", "I"), (.int (0 : Int32))), (("com/example/twigline/twigline/matcher/StreamHeads", "starts", "[J"), .null), (("com/example/twigline/twigline/matcher/StreamHeads", "earliest", "[I"), .null)]) :: fr))  : Own.Does l (⟨"com/example/twigline/twigline/matcher/StreamHeads", "<init>", "(I)V"⟩ : MethodName) prog_27_method_1_code 3 none [] ({ frames := 1, cells := 2, slots := 6, locals := 16 } : Room) Z #[(.ref o0), (.int (2 : Int32))] h0 n0 (fun v h => ∃ ra rb, v = none ∧ Own.Owns n0 h ((o0, Own.ObjC Z "com/example/twigline/twigline/matcher/StreamHeads" [(("com/example/twigline/twigline/matcher/StreamHeads", "size", "I"), (.int (2 : Int32))), (("com/example/twigline/twigline/matcher/StreamHeads", "starts", "[J"), (.ref ra)), (("com/example/twigline/twigline/matcher/StreamHeads", "earliest", "[I"), (.ref rb))]) :: (ra, Own.ArrC Z .long [(.long (9223372036854775807 : Int64)), (.long (9223372036854775807 : Int64))]) :: (rb, Own.ArrC Z .int [(.int (0 : Int32)), (.int (0 : Int32)), (.int (0 : Int32)), (.int (1 : Int32))]) :: fr)) := by
  refine Own.doesOf pn3 ?_
  intro p e s m below meth c hx hby hml hret hlk hown hnm hZ
  refine Own.Goes.cast (ef1_2 m o0 (2 : Int32)) ?_
  refine Own.aloadN hx (.ref o0) (hb hby d1_0) rfl rfl rfl ?_
  refine Own.initobj hx hZ hown (hw _ (List.mem_of_getElem? (i := 8) rfl)) (hw _ (List.mem_of_getElem? (i := 9) rfl)) (hw _ (List.mem_of_getElem? (i := 10) rfl)) (by rw [hml]; rfl) (W := 0) (Nat.le_of_eq rfl) (by decide) (by decide) (hb hby d1_1) rfl ?_
  refine Own.aloadN hx (.ref o0) (hb hby d1_4) rfl rfl rfl ?_
  refine Own.iloadN hx (2 : Int32) (hb hby d1_5) rfl rfl ?_
  refine Own.putfield hx hZ hown O0 0 0 rfl rfl (hw _ (List.mem_of_getElem? (i := 11) rfl)) (Or.inr ⟨(hw _ (List.mem_of_getElem? (i := 12) rfl)), rfl, hnm⟩) (hw _ (List.mem_of_getElem? (i := 3) rfl)) (ty := .int) (by decide) rfl rfl ((o0, Own.ObjC Z "com/example/twigline/twigline/matcher/StreamHeads" [(("com/example/twigline/twigline/matcher/StreamHeads", "size", "I"), (.int (2 : Int32))), (("com/example/twigline/twigline/matcher/StreamHeads", "starts", "[J"), .null), (("com/example/twigline/twigline/matcher/StreamHeads", "earliest", "[I"), .null)]) :: fr) rfl (hb hby d1_6) rfl ?_
  intro h1 O2
  refine Own.aloadN hx (.ref o0) (hb hby d1_9) rfl rfl rfl ?_
  refine Own.iloadN hx (2 : Int32) (hb hby d1_10) rfl rfl ?_
  refine Own.newarr hx hZ O2 (aty := .long) (hw _ (List.mem_of_getElem? (i := 0) rfl)) 2 (by decide) [(.long (0 : Int64)), (.long (0 : Int64))] rfl rfl (cap := 2) (by decide) (by decide) (k' := 1) (n' := 2) rfl rfl (by decide) (by decide) (hb hby d1_11) (pc' := 13) rfl ?_
  intro a3 h4 O5
  refine Own.putfield hx hZ hown O5 1 1 rfl rfl (hw _ (List.mem_of_getElem? (i := 13) rfl)) (Or.inr ⟨(hw _ (List.mem_of_getElem? (i := 14) rfl)), rfl, hnm⟩) (hw _ (List.mem_of_getElem? (i := 3) rfl)) (ty := (.array .long)) (by decide) rfl rfl ((a3, Own.ArrC Z .long [(.long (0 : Int64)), (.long (0 : Int64))]) :: (o0, Own.ObjC Z "com/example/twigline/twigline/matcher/StreamHeads" [(("com/example/twigline/twigline/matcher/StreamHeads", "size", "I"), (.int (2 : Int32))), (("com/example/twigline/twigline/matcher/StreamHeads", "starts", "[J"), (.ref a3)), (("com/example/twigline/twigline/matcher/StreamHeads", "earliest", "[I"), .null)]) :: fr) rfl (hb hby d1_13) rfl ?_
  intro h6 O7
  refine Own.aloadN hx (.ref o0) (hb hby d1_16) rfl rfl rfl ?_
  refine Own.iconst hx (2 : Int32) (hb hby d1_17) rfl (by decide) ?_
  refine Own.iloadN hx (2 : Int32) (hb hby d1_18) rfl rfl ?_
  refine Own.imul hx (hb hby d1_19) rfl ?_
  refine Own.vI (4 : Int32) (by decide) ?_
  refine Own.newarr hx hZ O7 (aty := .int) (hw _ (List.mem_of_getElem? (i := 15) rfl)) 4 (by decide) [(.int (0 : Int32)), (.int (0 : Int32)), (.int (0 : Int32)), (.int (0 : Int32))] rfl rfl (cap := 4) (by decide) (by decide) (k' := 2) (n' := 6) rfl rfl (by decide) (by decide) (hb hby d1_20) (pc' := 22) rfl ?_
  intro a8 h9 O10
  refine Own.putfield hx hZ hown O10 2 2 rfl rfl (hw _ (List.mem_of_getElem? (i := 16) rfl)) (Or.inr ⟨(hw _ (List.mem_of_getElem? (i := 17) rfl)), rfl, hnm⟩) (hw _ (List.mem_of_getElem? (i := 3) rfl)) (ty := (.array .int)) (by decide) rfl rfl ((a8, Own.ArrC Z .int [(.int (0 : Int32)), (.int (0 : Int32)), (.int (0 : Int32)), (.int (0 : Int32))]) :: (a3, Own.ArrC Z .long [(.long (0 : Int64)), (.long (0 : Int64))]) :: (o0, Own.ObjC Z "com/example/twigline/twigline/matcher/StreamHeads" [(("com/example/twigline/twigline/matcher/StreamHeads", "size", "I"), (.int (2 : Int32))), (("com/example/twigline/twigline/matcher/StreamHeads", "starts", "[J"), (.ref a3)), (("com/example/twigline/twigline/matcher/StreamHeads", "earliest", "[I"), (.ref a8))]) :: fr) rfl (hb hby d1_22) rfl ?_
  intro h11 O12
  refine Own.iconst hx (0 : Int32) (hb hby d1_25) rfl (by decide) ?_
  refine Own.istoreN hx (0 : Int32) rfl #[.val (.ref o0), .val (.int (2 : Int32)), .val (.int (0 : Int32))] (hb hby d1_26) rfl rfl ?_
  refine Own.iloadN hx (0 : Int32) (hb hby d1_27) rfl rfl ?_
  refine Own.iloadN hx (2 : Int32) (hb hby d1_28) rfl rfl ?_
  have hc13 : (0 : Int32) < (2 : Int32) := by decide
  refine Own.icmpFn hx (Own.q_ge (0 : Int32) (2 : Int32)) (hb hby d1_29) (pcN := 32) rfl (by decide) (pcT := 56) rfl (fun q => absurd hc13 q) (fun _ => ?_)
  refine Own.aloadN hx (.ref o0) (hb hby d1_32) rfl rfl rfl ?_
  refine Own.getfield hx hZ hown O12 2 1 rfl rfl (hw _ (List.mem_of_getElem? (i := 13) rfl)) (hb hby d1_33) rfl ?_
  refine Own.iloadN hx (0 : Int32) (hb hby d1_36) rfl rfl ?_
  refine Own.ldc2 hx hZ hown (9223372036854775807 : Int64) (hb hby d1_37) rfl (hw _ (List.mem_of_getElem? (i := 23) rfl)) ?_
  refine Own.lastore hx hZ O12 1 0 rfl (by decide) (by exact (show 0 < 2 by decide)) ((a8, Own.ArrC Z .int [(.int (0 : Int32)), (.int (0 : Int32)), (.int (0 : Int32)), (.int (0 : Int32))]) :: (a3, Own.ArrC Z .long [(.long (9223372036854775807 : Int64)), (.long (0 : Int64))]) :: (o0, Own.ObjC Z "com/example/twigline/twigline/matcher/StreamHeads" [(("com/example/twigline/twigline/matcher/StreamHeads", "size", "I"), (.int (2 : Int32))), (("com/example/twigline/twigline/matcher/StreamHeads", "starts", "[J"), (.ref a3)), (("com/example/twigline/twigline/matcher/StreamHeads", "earliest", "[I"), (.ref a8))]) :: fr) rfl (hb hby d1_40) rfl ?_
  intro h15 O16
  refine Own.aloadN hx (.ref o0) (hb hby d1_41) rfl rfl rfl ?_
  refine Own.getfield hx hZ hown O16 2 2 rfl rfl (hw _ (List.mem_of_getElem? (i := 16) rfl)) (hb hby d1_42) rfl ?_
  refine Own.iloadN hx (2 : Int32) (hb hby d1_45) rfl rfl ?_
  refine Own.iloadN hx (0 : Int32) (hb hby d1_46) rfl rfl ?_
  refine Own.iadd hx (hb hby d1_47) rfl ?_
  refine Own.vI (2 : Int32) (by decide) ?_
  refine Own.iloadN hx (0 : Int32) (hb hby d1_48) rfl rfl ?_
  refine Own.iastore hx hZ O16 0 2 rfl (by decide) (by exact (show 2 < 4 by decide)) ((a8, Own.ArrC Z .int [(.int (0 : Int32)), (.int (0 : Int32)), (.int (0 : Int32)), (.int (0 : Int32))]) :: (a3, Own.ArrC Z .long [(.long (9223372036854775807 : Int64)), (.long (0 : Int64))]) :: (o0, Own.ObjC Z "com/example/twigline/twigline/matcher/StreamHeads" [(("com/example/twigline/twigline/matcher/StreamHeads", "size", "I"), (.int (2 : Int32))), (("com/example/twigline/twigline/matcher/StreamHeads", "starts", "[J"), (.ref a3)), (("com/example/twigline/twigline/matcher/StreamHeads", "earliest", "[I"), (.ref a8))]) :: fr) rfl (hb hby d1_49) rfl ?_
  intro h17 O18
  refine Own.iinc hx (1 : Int32) #[.val (.ref o0), .val (.int (2 : Int32)), .val (.int (1 : Int32))] (hb hby d1_50) rfl rfl (by decide) rfl ?_
  refine Own.goto hx (hb hby d1_53) (by decide) (pc' := 27) rfl ?_
  refine Own.iloadN hx (1 : Int32) (hb hby d1_27) rfl rfl ?_
  refine Own.iloadN hx (2 : Int32) (hb hby d1_28) rfl rfl ?_
  have hc19 : (1 : Int32) < (2 : Int32) := by decide
  refine Own.icmpFn hx (Own.q_ge (1 : Int32) (2 : Int32)) (hb hby d1_29) (pcN := 32) rfl (by decide) (pcT := 56) rfl (fun q => absurd hc19 q) (fun _ => ?_)
  refine Own.aloadN hx (.ref o0) (hb hby d1_32) rfl rfl rfl ?_
  refine Own.getfield hx hZ hown O18 2 1 rfl rfl (hw _ (List.mem_of_getElem? (i := 13) rfl)) (hb hby d1_33) rfl ?_
  refine Own.iloadN hx (1 : Int32) (hb hby d1_36) rfl rfl ?_
  refine Own.ldc2 hx hZ hown (9223372036854775807 : Int64) (hb hby d1_37) rfl (hw _ (List.mem_of_getElem? (i := 23) rfl)) ?_
  refine Own.lastore hx hZ O18 1 1 rfl (by decide) (by exact (show 1 < 2 by decide)) ((a8, Own.ArrC Z .int [(.int (0 : Int32)), (.int (0 : Int32)), (.int (0 : Int32)), (.int (0 : Int32))]) :: (a3, Own.ArrC Z .long [(.long (9223372036854775807 : Int64)), (.long (9223372036854775807 : Int64))]) :: (o0, Own.ObjC Z "com/example/twigline/twigline/matcher/StreamHeads" [(("com/example/twigline/twigline/matcher/StreamHeads", "size", "I"), (.int (2 : Int32))), (("com/example/twigline/twigline/matcher/StreamHeads", "starts", "[J"), (.ref a3)), (("com/example/twigline/twigline/matcher/StreamHeads", "earliest", "[I"), (.ref a8))]) :: fr) rfl (hb hby d1_40) rfl ?_
  intro h21 O22
  refine Own.aloadN hx (.ref o0) (hb hby d1_41) rfl rfl rfl ?_
  refine Own.getfield hx hZ hown O22 2 2 rfl rfl (hw _ (List.mem_of_getElem? (i := 16) rfl)) (hb hby d1_42) rfl ?_
  refine Own.iloadN hx (2 : Int32) (hb hby d1_45) rfl rfl ?_
  refine Own.iloadN hx (1 : Int32) (hb hby d1_46) rfl rfl ?_
  refine Own.iadd hx (hb hby d1_47) rfl ?_
  refine Own.vI (3 : Int32) (by decide) ?_
  refine Own.iloadN hx (1 : Int32) (hb hby d1_48) rfl rfl ?_
  refine Own.iastore hx hZ O22 0 3 rfl (by decide) (by exact (show 3 < 4 by decide)) ((a8, Own.ArrC Z .int [(.int (0 : Int32)), (.int (0 : Int32)), (.int (0 : Int32)), (.int (1 : Int32))]) :: (a3, Own.ArrC Z .long [(.long (9223372036854775807 : Int64)), (.long (9223372036854775807 : Int64))]) :: (o0, Own.ObjC Z "com/example/twigline/twigline/matcher/StreamHeads" [(("com/example/twigline/twigline/matcher/StreamHeads", "size", "I"), (.int (2 : Int32))), (("com/example/twigline/twigline/matcher/StreamHeads", "starts", "[J"), (.ref a3)), (("com/example/twigline/twigline/matcher/StreamHeads", "earliest", "[I"), (.ref a8))]) :: fr) rfl (hb hby d1_49) rfl ?_
  intro h23 O24
  refine Own.iinc hx (2 : Int32) #[.val (.ref o0), .val (.int (2 : Int32)), .val (.int (2 : Int32))] (hb hby d1_50) rfl rfl (by decide) rfl ?_
  refine Own.goto hx (hb hby d1_53) (by decide) (pc' := 27) rfl ?_
  refine Own.iloadN hx (2 : Int32) (hb hby d1_27) rfl rfl ?_
  refine Own.iloadN hx (2 : Int32) (hb hby d1_28) rfl rfl ?_
  have hc25 : ¬ ((2 : Int32) < (2 : Int32)) := by decide
  refine Own.icmpFn hx (Own.q_ge (2 : Int32) (2 : Int32)) (hb hby d1_29) (pcN := 32) rfl (by decide) (pcT := 56) rfl (fun _ => ?_) (fun q => absurd q hc25)
  refine Own.iloadN hx (2 : Int32) (hb hby d1_56) rfl rfl ?_
  refine Own.iconst hx (1 : Int32) (hb hby d1_57) rfl (by decide) ?_
  refine Own.isub hx (hb hby d1_58) rfl ?_
  refine Own.vI (1 : Int32) (by decide) ?_
  refine Own.istoreN hx (1 : Int32) rfl #[.val (.ref o0), .val (.int (2 : Int32)), .val (.int (1 : Int32))] (hb hby d1_59) rfl rfl ?_
  refine Own.iloadN hx (1 : Int32) (hb hby d1_60) rfl rfl ?_
  have hc27 : (0 : Int32) < (1 : Int32) := by decide
  refine Own.ifFn hx (Own.z_le (1 : Int32)) (hb hby d1_61) (pcN := 64) rfl (by decide) (pcT := 98) rfl (fun q => absurd hc27 q) (fun _ => ?_)
  refine Own.aloadN hx (.ref o0) (hb hby d1_64) rfl rfl rfl ?_
  refine Own.getfield hx hZ hown O24 2 2 rfl rfl (hw _ (List.mem_of_getElem? (i := 16) rfl)) (hb hby d1_65) rfl ?_
  refine Own.iloadN hx (1 : Int32) (hb hby d1_68) rfl rfl ?_
  refine Own.aloadN hx (.ref o0) (hb hby d1_69) rfl rfl rfl ?_
  refine Own.aloadN hx (.ref o0) (hb hby d1_70) rfl rfl rfl ?_
  refine Own.getfield hx hZ hown O24 2 2 rfl rfl (hw _ (List.mem_of_getElem? (i := 16) rfl)) (hb hby d1_71) rfl ?_
  refine Own.iconst hx (2 : Int32) (hb hby d1_74) rfl (by decide) ?_
  refine Own.iloadN hx (1 : Int32) (hb hby d1_75) rfl rfl ?_
  refine Own.imul hx (hb hby d1_76) rfl ?_
  refine Own.vI (2 : Int32) (by decide) ?_
  refine Own.iaload hx hZ O24 0 2 rfl (by decide) (v := (.int (0 : Int32))) rfl (hb hby d1_77) rfl ?_
  refine Own.aloadN hx (.ref o0) (hb hby d1_78) rfl rfl rfl ?_
  refine Own.getfield hx hZ hown O24 2 2 rfl rfl (hw _ (List.mem_of_getElem? (i := 16) rfl)) (hb hby d1_79) rfl ?_
  refine Own.iconst hx (2 : Int32) (hb hby d1_82) rfl (by decide) ?_
  refine Own.iloadN hx (1 : Int32) (hb hby d1_83) rfl rfl ?_
  refine Own.imul hx (hb hby d1_84) rfl ?_
  refine Own.vI (2 : Int32) (by decide) ?_
  refine Own.iconst hx (1 : Int32) (hb hby d1_85) rfl (by decide) ?_
  refine Own.iadd hx (hb hby d1_86) rfl ?_
  refine Own.vI (3 : Int32) (by decide) ?_
  refine Own.iaload hx hZ O24 0 3 rfl (by decide) (v := (.int (1 : Int32))) rfl (hb hby d1_87) rfl ?_
  have O29 : Own.Owns n0 h23 ((a3, Own.ArrC Z .long [(.long (9223372036854775807 : Int64)), (.long (9223372036854775807 : Int64))]) :: (a8, Own.ArrC Z .int [(.int (0 : Int32)), (.int (0 : Int32)), (.int (0 : Int32)), (.int (1 : Int32))]) :: (o0, Own.ObjC Z "com/example/twigline/twigline/matcher/StreamHeads" [(("com/example/twigline/twigline/matcher/StreamHeads", "size", "I"), (.int (2 : Int32))), (("com/example/twigline/twigline/matcher/StreamHeads", "starts", "[J"), (.ref a3)), (("com/example/twigline/twigline/matcher/StreamHeads", "earliest", "[I"), (.ref a8))]) :: fr) := O24.pick 1 rfl
  have O30 : Own.Owns n0 h23 ((o0, Own.ObjC Z "com/example/twigline/twigline/matcher/StreamHeads" [(("com/example/twigline/twigline/matcher/StreamHeads", "size", "I"), (.int (2 : Int32))), (("com/example/twigline/twigline/matcher/StreamHeads", "starts", "[J"), (.ref a3)), (("com/example/twigline/twigline/matcher/StreamHeads", "earliest", "[I"), (.ref a8))]) :: (a3, Own.ArrC Z .long [(.long (9223372036854775807 : Int64)), (.long (9223372036854775807 : Int64))]) :: (a8, Own.ArrC Z .int [(.int (0 : Int32)), (.int (0 : Int32)), (.int (0 : Int32)), (.int (1 : Int32))]) :: fr) := O29.pick 2 rfl
  refine Own.callP hx hZ hown (O30.exa (i := 0) rfl) (hw _ (List.mem_of_getElem? (i := 24) rfl)) (hw _ (List.mem_of_getElem? (i := 25) rfl)) (hw _ (List.mem_of_getElem? (i := 3) rfl)) (hw _ (List.mem_of_getElem? (i := 26) rfl)) (hw _ (List.mem_of_getElem? (i := 4) rfl)) (hw _ (List.mem_of_getElem? (i := 27) rfl)) (by decide) pd1 (argsL := [(.int (0 : Int32)), (.int (1 : Int32))]) (rest := [(.int (1 : Int32)), (.ref a8)]) rfl (W := 2) (Nat.le_of_eq rfl) (rm := ({ frames := 0, cells := 0, slots := 0, locals := 0 } : Room)) (by decide) (by decide) (by decide) (by decide) (k' := 2) (n' := 6) rfl rfl (by rw [hml]; rfl) [(.int (1 : Int32)), (.int (0 : Int32)), (.ref o0), (.int (1 : Int32)), (.ref a8)] rfl (hb hby d1_88) (pc' := 91) rfl (rm4 l Z a0 hw o0 h23 n0 0 1 2 a3 a8 [(9223372036854775807 : Int64), (9223372036854775807 : Int64)] (by decide) (by decide) (by decide) ((a8, Own.ArrC Z .int [(.int (0 : Int32)), (.int (0 : Int32)), (.int (0 : Int32)), (.int (1 : Int32))]) :: fr) O30) ?_
  rintro _ h' ⟨rfl, eh⟩
  rw [eh]; clear eh h'
  show Own.Goes _ _ _ _ _ _ _ _ _ _ _ _ _ _ _ _ _ (mkF m 91 #[.val (.ref o0), .val (.int (2 : Int32)), .val (.int (1 : Int32))] [(.int (0 : Int32)), (.int (1 : Int32)), (.ref a8)])
  refine Own.iastore hx hZ O30 2 1 rfl (by decide) (by exact (show 1 < 4 by decide)) ((o0, Own.ObjC Z "com/example/twigline/twigline/matcher/StreamHeads" [(("com/example/twigline/twigline/matcher/StreamHeads", "size", "I"), (.int (2 : Int32))), (("com/example/twigline/twigline/matcher/StreamHeads", "starts", "[J"), (.ref a3)), (("com/example/twigline/twigline/matcher/StreamHeads", "earliest", "[I"), (.ref a8))]) :: (a3, Own.ArrC Z .long [(.long (9223372036854775807 : Int64)), (.long (9223372036854775807 : Int64))]) :: (a8, Own.ArrC Z .int [(.int (0 : Int32)), (.int (0 : Int32)), (.int (0 : Int32)), (.int (1 : Int32))]) :: fr) rfl (hb hby d1_91) rfl ?_
  intro h31 O32
  refine Own.iinc hx (0 : Int32) #[.val (.ref o0), .val (.int (2 : Int32)), .val (.int (0 : Int32))] (hb hby d1_92) rfl rfl (by decide) rfl ?_
  refine Own.goto hx (hb hby d1_95) (by decide) (pc' := 60) rfl ?_
  refine Own.iloadN hx (0 : Int32) (hb hby d1_60) rfl rfl ?_
  have hc33 : ¬ ((0 : Int32) < (0 : Int32)) := by decide
  refine Own.ifFn hx (Own.z_le (0 : Int32)) (hb hby d1_61) (pcN := 64) rfl (by decide) (pcT := 98) rfl (fun _ => ?_) (fun q => absurd q hc33)
  have O35 : Own.Owns n0 h31 ((a8, Own.ArrC Z .int [(.int (0 : Int32)), (.int (0 : Int32)), (.int (0 : Int32)), (.int (1 : Int32))]) :: (o0, Own.ObjC Z "com/example/twigline/twigline/matcher/StreamHeads" [(("com/example/twigline/twigline/matcher/StreamHeads", "size", "I"), (.int (2 : Int32))), (("com/example/twigline/twigline/matcher/StreamHeads", "starts", "[J"), (.ref a3)), (("com/example/twigline/twigline/matcher/StreamHeads", "earliest", "[I"), (.ref a8))]) :: (a3, Own.ArrC Z .long [(.long (9223372036854775807 : Int64)), (.long (9223372036854775807 : Int64))]) :: fr) := O32.pick 2 rfl
  have O36 : Own.Owns n0 h31 ((a3, Own.ArrC Z .long [(.long (9223372036854775807 : Int64)), (.long (9223372036854775807 : Int64))]) :: (a8, Own.ArrC Z .int [(.int (0 : Int32)), (.int (0 : Int32)), (.int (0 : Int32)), (.int (1 : Int32))]) :: (o0, Own.ObjC Z "com/example/twigline/twigline/matcher/StreamHeads" [(("com/example/twigline/twigline/matcher/StreamHeads", "size", "I"), (.int (2 : Int32))), (("com/example/twigline/twigline/matcher/StreamHeads", "starts", "[J"), (.ref a3)), (("com/example/twigline/twigline/matcher/StreamHeads", "earliest", "[I"), (.ref a8))]) :: fr) := O35.pick 2 rfl
  have O37 : Own.Owns n0 h31 ((o0, Own.ObjC Z "com/example/twigline/twigline/matcher/StreamHeads" [(("com/example/twigline/twigline/matcher/StreamHeads", "size", "I"), (.int (2 : Int32))), (("com/example/twigline/twigline/matcher/StreamHeads", "starts", "[J"), (.ref a3)), (("com/example/twigline/twigline/matcher/StreamHeads", "earliest", "[I"), (.ref a8))]) :: (a3, Own.ArrC Z .long [(.long (9223372036854775807 : Int64)), (.long (9223372036854775807 : Int64))]) :: (a8, Own.ArrC Z .int [(.int (0 : Int32)), (.int (0 : Int32)), (.int (0 : Int32)), (.int (1 : Int32))]) :: fr) := O36.pick 2 rfl
  exact Own.retV hx hret hlk (hb hby d1_98) (by decide) (by decide) ⟨a3, a8, rfl, O37⟩

theorem ef1_3 (m : MethodId) (x0 : Addr) (x1 : Int32) : entryFrame m #[(.ref x0), (.int x1)] 3 = mkF m 0 #[.val (.ref x0), .val (.int x1), .unset] [] := by first | (simp [entryFrame, mkF, argsToLocals, Value.category]; done) | rfl
set_option maxRecDepth 65536 in
set_option maxHeartbeats 40000000 in
theorem rm1_3 (l : Launch) (Z : State) (a0 : Array Value) (hw : ∀ d ∈ tables_1, d.before a0 Z = true) (o0 : Addr) (h0 : Heap) (n0 : Nat)  (fr : List (Addr × (Cell → Prop))) (O0 : Own.Owns n0 h0 ((o0, Own.ObjC Z "com/example/twigline/twigline/matcher/StreamHeads" [(("com/example/twigline/twigline/matcher/StreamHeads", "size", "I"), (.int (0 : Int32))), (("com/example/twigline/twigline/matcher/StreamHeads", "starts", "[J"), .null), (("com/example/twigline/twigline/matcher/StreamHeads", "earliest", "[I"), .null)]) :: fr))  : Own.Does l (⟨"com/example/twigline/twigline/matcher/StreamHeads", "<init>", "(I)V"⟩ : MethodName) prog_27_method_1_code 3 none [] ({ frames := 1, cells := 2, slots := 9, locals := 16 } : Room) Z #[(.ref o0), (.int (3 : Int32))] h0 n0 (fun v h => ∃ ra rb, v = none ∧ Own.Owns n0 h ((o0, Own.ObjC Z "com/example/twigline/twigline/matcher/StreamHeads" [(("com/example/twigline/twigline/matcher/StreamHeads", "size", "I"), (.int (3 : Int32))), (("com/example/twigline/twigline/matcher/StreamHeads", "starts", "[J"), (.ref ra)), (("com/example/twigline/twigline/matcher/StreamHeads", "earliest", "[I"), (.ref rb))]) :: (ra, Own.ArrC Z .long [(.long (9223372036854775807 : Int64)), (.long (9223372036854775807 : Int64)), (.long (9223372036854775807 : Int64))]) :: (rb, Own.ArrC Z .int [(.int (0 : Int32)), (.int (1 : Int32)), (.int (1 : Int32)), (.int (0 : Int32)), (.int (1 : Int32)), (.int (2 : Int32))]) :: fr)) := by
  refine Own.doesOf pn3 ?_
  intro p e s m below meth c hx hby hml hret hlk hown hnm hZ
  refine Own.Goes.cast (ef1_3 m o0 (3 : Int32)) ?_
  refine Own.aloadN hx (.ref o0) (hb hby d1_0) rfl rfl rfl ?_
  refine Own.initobj hx hZ hown (hw _ (List.mem_of_getElem? (i := 8) rfl)) (hw _ (List.mem_of_getElem? (i := 9) rfl)) (hw _ (List.mem_of_getElem? (i := 10) rfl)) (by rw [hml]; rfl) (W := 0) (Nat.le_of_eq rfl) (by decide) (by decide) (hb hby d1_1) rfl ?_
  refine Own.aloadN hx (.ref o0) (hb hby d1_4) rfl rfl rfl ?_
  refine Own.iloadN hx (3 : Int32) (hb hby d1_5) rfl rfl ?_
  refine Own.putfield hx hZ hown O0 0 0 rfl rfl (hw _ (List.mem_of_getElem? (i := 11) rfl)) (Or.inr ⟨(hw _ (List.mem_of_getElem? (i := 12) rfl)), rfl, hnm⟩) (hw _ (List.mem_of_getElem? (i := 3) rfl)) (ty := .int) (by decide) rfl rfl ((o0, Own.ObjC Z "com/example/twigline/twigline/matcher/StreamHeads" [(("com/example/twigline/twigline/matcher/StreamHeads", "size", "I"), (.int (3 : Int32))), (("com/example/twigline/twigline/matcher/StreamHeads", "starts", "[J"), .null), (("com/example/twigline/twigline/matcher/StreamHeads", "earliest", "[I"), .null)]) :: fr) rfl (hb hby d1_6) rfl ?_
  intro h1 O2
  refine Own.aloadN hx (.ref o0) (hb hby d1_9) rfl rfl rfl ?_
  refine Own.iloadN hx (3 : Int32) (hb hby d1_10) rfl rfl ?_
  refine Own.newarr hx hZ O2 (aty := .long) (hw _ (List.mem_of_getElem? (i := 0) rfl)) 3 (by decide) [(.long (0 : Int64)), (.long (0 : Int64)), (.long (0 : Int64))] rfl rfl (cap := 3) (by decide) (by decide) (k' := 1) (n' := 3) rfl rfl (by decide) (by decide) (hb hby d1_11) (pc' := 13) rfl ?_
  intro a3 h4 O5
  refine Own.putfield hx hZ hown O5 1 1 rfl rfl (hw _ (List.mem_of_getElem? (i := 13) rfl)) (Or.inr ⟨(hw _ (List.mem_of_getElem? (i := 14) rfl)), rfl, hnm⟩) (hw _ (List.mem_of_getElem? (i := 3) rfl)) (ty := (.array .long)) (by decide) rfl rfl ((a3, Own.ArrC Z .long [(.long (0 : Int64)), (.long (0 : Int64)), (.long (0 : Int64))]) :: (o0, Own.ObjC Z "com/example/twigline/twigline/matcher/StreamHeads" [(("com/example/twigline/twigline/matcher/StreamHeads", "size", "I"), (.int (3 : Int32))), (("com/example/twigline/twigline/matcher/StreamHeads", "starts", "[J"), (.ref a3)), (("com/example/twigline/twigline/matcher/StreamHeads", "earliest", "[I"), .null)]) :: fr) rfl (hb hby d1_13) rfl ?_
  intro h6 O7
  refine Own.aloadN hx (.ref o0) (hb hby d1_16) rfl rfl rfl ?_
  refine Own.iconst hx (2 : Int32) (hb hby d1_17) rfl (by decide) ?_
  refine Own.iloadN hx (3 : Int32) (hb hby d1_18) rfl rfl ?_
  refine Own.imul hx (hb hby d1_19) rfl ?_
  refine Own.vI (6 : Int32) (by decide) ?_
  refine Own.newarr hx hZ O7 (aty := .int) (hw _ (List.mem_of_getElem? (i := 15) rfl)) 6 (by decide) [(.int (0 : Int32)), (.int (0 : Int32)), (.int (0 : Int32)), (.int (0 : Int32)), (.int (0 : Int32)), (.int (0 : Int32))] rfl rfl (cap := 6) (by decide) (by decide) (k' := 2) (n' := 9) rfl rfl (by decide) (by decide) (hb hby d1_20) (pc' := 22) rfl ?_
  intro a8 h9 O10
  refine Own.putfield hx hZ hown O10 2 2 rfl rfl (hw _ (List.mem_of_getElem? (i := 16) rfl)) (Or.inr ⟨(hw _ (List.mem_of_getElem? (i := 17) rfl)), rfl, hnm⟩) (hw _ (List.mem_of_getElem? (i := 3) rfl)) (ty := (.array .int)) (by decide) rfl rfl ((a8, Own.ArrC Z .int [(.int (0 : Int32)), (.int (0 : Int32)), (.int (0 : Int32)), (.int (0 : Int32)), (.int (0 : Int32)), (.int (0 : Int32))]) :: (a3, Own.ArrC Z .long [(.long (0 : Int64)), (.long (0 : Int64)), (.long (0 : Int64))]) :: (o0, Own.ObjC Z "com/example/twigline/twigline/matcher/StreamHeads" [(("com/example/twigline/twigline/matcher/StreamHeads", "size", "I"), (.int (3 : Int32))), (("com/example/twigline/twigline/matcher/StreamHeads", "starts", "[J"), (.ref a3)), (("com/example/twigline/twigline/matcher/StreamHeads", "earliest", "[I"), (.ref a8))]) :: fr) rfl (hb hby d1_22) rfl ?_
  intro h11 O12
  refine Own.iconst hx (0 : Int32) (hb hby d1_25) rfl (by decide) ?_
  refine Own.istoreN hx (0 : Int32) rfl #[.val (.ref o0), .val (.int (3 : Int32)), .val (.int (0 : Int32))] (hb hby d1_26) rfl rfl ?_
  refine Own.iloadN hx (0 : Int32) (hb hby d1_27) rfl rfl ?_
  refine Own.iloadN hx (3 : Int32) (hb hby d1_28) rfl rfl ?_
  have hc13 : (0 : Int32) < (3 : Int32) := by decide
  refine Own.icmpFn hx (Own.q_ge (0 : Int32) (3 : Int32)) (hb hby d1_29) (pcN := 32) rfl (by decide) (pcT := 56) rfl (fun q => absurd hc13 q) (fun _ => ?_)
  refine Own.aloadN hx (.ref o0) (hb hby d1_32) rfl rfl rfl ?_
  refine Own.getfield hx hZ hown O12 2 1 rfl rfl (hw _ (List.mem_of_getElem? (i := 13) rfl)) (hb hby d1_33) rfl ?_
  refine Own.iloadN hx (0 : Int32) (hb hby d1_36) rfl rfl ?_
  refine Own.ldc2 hx hZ hown (9223372036854775807 : Int64) (hb hby d1_37) rfl (hw _ (List.mem_of_getElem? (i := 23) rfl)) ?_
  refine Own.lastore hx hZ O12 1 0 rfl (by decide) (by exact (show 0 < 3 by decide)) ((a8, Own.ArrC Z .int [(.int (0 : Int32)), (.int (0 : Int32)), (.int (0 : Int32)), (.int (0 : Int32)), (.int (0 : Int32)), (.int (0 : Int32))]) :: (a3, Own.ArrC Z .long [(.long (9223372036854775807 : Int64)), (.long (0 : Int64)), (.long (0 : Int64))]) :: (o0, Own.ObjC Z "com/example/twigline/twigline/matcher/StreamHeads" [(("com/example/twigline/twigline/matcher/StreamHeads", "size", "I"), (.int (3 : Int32))), (("com/example/twigline/twigline/matcher/StreamHeads", "starts", "[J"), (.ref a3)), (("com/example/twigline/twigline/matcher/StreamHeads", "earliest", "[I"), (.ref a8))]) :: fr) rfl (hb hby d1_40) rfl ?_
  intro h15 O16
  refine Own.aloadN hx (.ref o0) (hb hby d1_41) rfl rfl rfl ?_
  refine Own.getfield hx hZ hown O16 2 2 rfl rfl (hw _ (List.mem_of_getElem? (i := 16) rfl)) (hb hby d1_42) rfl ?_
  refine Own.iloadN hx (3 : Int32) (hb hby d1_45) rfl rfl ?_
  refine Own.iloadN hx (0 : Int32) (hb hby d1_46) rfl rfl ?_
  refine Own.iadd hx (hb hby d1_47) rfl ?_
  refine Own.vI (3 : Int32) (by decide) ?_
  refine Own.iloadN hx (0 : Int32) (hb hby d1_48) rfl rfl ?_
  refine Own.iastore hx hZ O16 0 3 rfl (by decide) (by exact (show 3 < 6 by decide)) ((a8, Own.ArrC Z .int [(.int (0 : Int32)), (.int (0 : Int32)), (.int (0 : Int32)), (.int (0 : Int32)), (.int (0 : Int32)), (.int (0 : Int32))]) :: (a3, Own.ArrC Z .long [(.long (9223372036854775807 : Int64)), (.long (0 : Int64)), (.long (0 : Int64))]) :: (o0, Own.ObjC Z "com/example/twigline/twigline/matcher/StreamHeads" [(("com/example/twigline/twigline/matcher/StreamHeads", "size", "I"), (.int (3 : Int32))), (("com/example/twigline/twigline/matcher/StreamHeads", "starts", "[J"), (.ref a3)), (("com/example/twigline/twigline/matcher/StreamHeads", "earliest", "[I"), (.ref a8))]) :: fr) rfl (hb hby d1_49) rfl ?_
  intro h17 O18
  refine Own.iinc hx (1 : Int32) #[.val (.ref o0), .val (.int (3 : Int32)), .val (.int (1 : Int32))] (hb hby d1_50) rfl rfl (by decide) rfl ?_
  refine Own.goto hx (hb hby d1_53) (by decide) (pc' := 27) rfl ?_
  refine Own.iloadN hx (1 : Int32) (hb hby d1_27) rfl rfl ?_
  refine Own.iloadN hx (3 : Int32) (hb hby d1_28) rfl rfl ?_
  have hc19 : (1 : Int32) < (3 : Int32) := by decide
  refine Own.icmpFn hx (Own.q_ge (1 : Int32) (3 : Int32)) (hb hby d1_29) (pcN := 32) rfl (by decide) (pcT := 56) rfl (fun q => absurd hc19 q) (fun _ => ?_)
  refine Own.aloadN hx (.ref o0) (hb hby d1_32) rfl rfl rfl ?_
  refine Own.getfield hx hZ hown O18 2 1 rfl rfl (hw _ (List.mem_of_getElem? (i := 13) rfl)) (hb hby d1_33) rfl ?_
  refine Own.iloadN hx (1 : Int32) (hb hby d1_36) rfl rfl ?_
  refine Own.ldc2 hx hZ hown (9223372036854775807 : Int64) (hb hby d1_37) rfl (hw _ (List.mem_of_getElem? (i := 23) rfl)) ?_
  refine Own.lastore hx hZ O18 1 1 rfl (by decide) (by exact (show 1 < 3 by decide)) ((a8, Own.ArrC Z .int [(.int (0 : Int32)), (.int (0 : Int32)), (.int (0 : Int32)), (.int (0 : Int32)), (.int (0 : Int32)), (.int (0 : Int32))]) :: (a3, Own.ArrC Z .long [(.long (9223372036854775807 : Int64)), (.long (9223372036854775807 : Int64)), (.long (0 : Int64))]) :: (o0, Own.ObjC Z "com/example/twigline/twigline/matcher/StreamHeads" [(("com/example/twigline/twigline/matcher/StreamHeads", "size", "I"), (.int (3 : Int32))), (("com/example/twigline/twigline/matcher/StreamHeads", "starts", "[J"), (.ref a3)), (("com/example/twigline/twigline/matcher/StreamHeads", "earliest", "[I"), (.ref a8))]) :: fr) rfl (hb hby d1_40) rfl ?_
  intro h21 O22
  refine Own.aloadN hx (.ref o0) (hb hby d1_41) rfl rfl rfl ?_
  refine Own.getfield hx hZ hown O22 2 2 rfl rfl (hw _ (List.mem_of_getElem? (i := 16) rfl)) (hb hby d1_42) rfl ?_
  refine Own.iloadN hx (3 : Int32) (hb hby d1_45) rfl rfl ?_
  refine Own.iloadN hx (1 : Int32) (hb hby d1_46) rfl rfl ?_
  refine Own.iadd hx (hb hby d1_47) rfl ?_
  refine Own.vI (4 : Int32) (by decide) ?_
  refine Own.iloadN hx (1 : Int32) (hb hby d1_48) rfl rfl ?_
  refine Own.iastore hx hZ O22 0 4 rfl (by decide) (by exact (show 4 < 6 by decide)) ((a8, Own.ArrC Z .int [(.int (0 : Int32)), (.int (0 : Int32)), (.int (0 : Int32)), (.int (0 : Int32)), (.int (1 : Int32)), (.int (0 : Int32))]) :: (a3, Own.ArrC Z .long [(.long (9223372036854775807 : Int64)), (.long (9223372036854775807 : Int64)), (.long (0 : Int64))]) :: (o0, Own.ObjC Z "com/example/twigline/twigline/matcher/StreamHeads" [(("com/example/twigline/twigline/matcher/StreamHeads", "size", "I"), (.int (3 : Int32))), (("com/example/twigline/twigline/matcher/StreamHeads", "starts", "[J"), (.ref a3)), (("com/example/twigline/twigline/matcher/StreamHeads", "earliest", "[I"), (.ref a8))]) :: fr) rfl (hb hby d1_49) rfl ?_
  intro h23 O24
  refine Own.iinc hx (2 : Int32) #[.val (.ref o0), .val (.int (3 : Int32)), .val (.int (2 : Int32))] (hb hby d1_50) rfl rfl (by decide) rfl ?_
  refine Own.goto hx (hb hby d1_53) (by decide) (pc' := 27) rfl ?_
  refine Own.iloadN hx (2 : Int32) (hb hby d1_27) rfl rfl ?_
  refine Own.iloadN hx (3 : Int32) (hb hby d1_28) rfl rfl ?_
  have hc25 : (2 : Int32) < (3 : Int32) := by decide
  refine Own.icmpFn hx (Own.q_ge (2 : Int32) (3 : Int32)) (hb hby d1_29) (pcN := 32) rfl (by decide) (pcT := 56) rfl (fun q => absurd hc25 q) (fun _ => ?_)
  refine Own.aloadN hx (.ref o0) (hb hby d1_32) rfl rfl rfl ?_
  refine Own.getfield hx hZ hown O24 2 1 rfl rfl (hw _ (List.mem_of_getElem? (i := 13) rfl)) (hb hby d1_33) rfl ?_
  refine Own.iloadN hx (2 : Int32) (hb hby d1_36) rfl rfl ?_
  refine Own.ldc2 hx hZ hown (9223372036854775807 : Int64) (hb hby d1_37) rfl (hw _ (List.mem_of_getElem? (i := 23) rfl)) ?_
  refine Own.lastore hx hZ O24 1 2 rfl (by decide) (by exact (show 2 < 3 by decide)) ((a8, Own.ArrC Z .int [(.int (0 : Int32)), (.int (0 : Int32)), (.int (0 : Int32)), (.int (0 : Int32)), (.int (1 : Int32)), (.int (0 : Int32))]) :: (a3, Own.ArrC Z .long [(.long (9223372036854775807 : Int64)), (.long (9223372036854775807 : Int64)), (.long (9223372036854775807 : Int64))]) :: (o0, Own.ObjC Z "com/example/twigline/twigline/matcher/StreamHeads" [(("com/example/twigline/twigline/matcher/StreamHeads", "size", "I"), (.int (3 : Int32))), (("com/example/twigline/twigline/matcher/StreamHeads", "starts", "[J"), (.ref a3)), (("com/example/twigline/twigline/matcher/StreamHeads", "earliest", "[I"), (.ref a8))]) :: fr) rfl (hb hby d1_40) rfl ?_
  intro h27 O28
  refine Own.aloadN hx (.ref o0) (hb hby d1_41) rfl rfl rfl ?_
  refine Own.getfield hx hZ hown O28 2 2 rfl rfl (hw _ (List.mem_of_getElem? (i := 16) rfl)) (hb hby d1_42) rfl ?_
  refine Own.iloadN hx (3 : Int32) (hb hby d1_45) rfl rfl ?_
  refine Own.iloadN hx (2 : Int32) (hb hby d1_46) rfl rfl ?_
  refine Own.iadd hx (hb hby d1_47) rfl ?_
  refine Own.vI (5 : Int32) (by decide) ?_
  refine Own.iloadN hx (2 : Int32) (hb hby d1_48) rfl rfl ?_
  refine Own.iastore hx hZ O28 0 5 rfl (by decide) (by exact (show 5 < 6 by decide)) ((a8, Own.ArrC Z .int [(.int (0 : Int32)), (.int (0 : Int32)), (.int (0 : Int32)), (.int (0 : Int32)), (.int (1 : Int32)), (.int (2 : Int32))]) :: (a3, Own.ArrC Z .long [(.long (9223372036854775807 : Int64)), (.long (9223372036854775807 : Int64)), (.long (9223372036854775807 : Int64))]) :: (o0, Own.ObjC Z "com/example/twigline/twigline/matcher/StreamHeads" [(("com/example/twigline/twigline/matcher/StreamHeads", "size", "I"), (.int (3 : Int32))), (("com/example/twigline/twigline/matcher/StreamHeads", "starts", "[J"), (.ref a3)), (("com/example/twigline/twigline/matcher/StreamHeads", "earliest", "[I"), (.ref a8))]) :: fr) rfl (hb hby d1_49) rfl ?_
  intro h29 O30
  refine Own.iinc hx (3 : Int32) #[.val (.ref o0), .val (.int (3 : Int32)), .val (.int (3 : Int32))] (hb hby d1_50) rfl rfl (by decide) rfl ?_
  refine Own.goto hx (hb hby d1_53) (by decide) (pc' := 27) rfl ?_
  refine Own.iloadN hx (3 : Int32) (hb hby d1_27) rfl rfl ?_
  refine Own.iloadN hx (3 : Int32) (hb hby d1_28) rfl rfl ?_
  have hc31 : ¬ ((3 : Int32) < (3 : Int32)) := by decide
  refine Own.icmpFn hx (Own.q_ge (3 : Int32) (3 : Int32)) (hb hby d1_29) (pcN := 32) rfl (by decide) (pcT := 56) rfl (fun _ => ?_) (fun q => absurd q hc31)
  refine Own.iloadN hx (3 : Int32) (hb hby d1_56) rfl rfl ?_
  refine Own.iconst hx (1 : Int32) (hb hby d1_57) rfl (by decide) ?_
  refine Own.isub hx (hb hby d1_58) rfl ?_
  refine Own.vI (2 : Int32) (by decide) ?_
  refine Own.istoreN hx (2 : Int32) rfl #[.val (.ref o0), .val (.int (3 : Int32)), .val (.int (2 : Int32))] (hb hby d1_59) rfl rfl ?_
  refine Own.iloadN hx (2 : Int32) (hb hby d1_60) rfl rfl ?_
  have hc33 : (0 : Int32) < (2 : Int32) := by decide
  refine Own.ifFn hx (Own.z_le (2 : Int32)) (hb hby d1_61) (pcN := 64) rfl (by decide) (pcT := 98) rfl (fun q => absurd hc33 q) (fun _ => ?_)
  refine Own.aloadN hx (.ref o0) (hb hby d1_64) rfl rfl rfl ?_
  refine Own.getfield hx hZ hown O30 2 2 rfl rfl (hw _ (List.mem_of_getElem? (i := 16) rfl)) (hb hby d1_65) rfl ?_
  refine Own.iloadN hx (2 : Int32) (hb hby d1_68) rfl rfl ?_
  refine Own.aloadN hx (.ref o0) (hb hby d1_69) rfl rfl rfl ?_
  refine Own.aloadN hx (.ref o0) (hb hby d1_70) rfl rfl rfl ?_
  refine Own.getfield hx hZ hown O30 2 2 rfl rfl (hw _ (List.mem_of_getElem? (i := 16) rfl)) (hb hby d1_71) rfl ?_
  refine Own.iconst hx (2 : Int32) (hb hby d1_74) rfl (by decide) ?_
  refine Own.iloadN hx (2 : Int32) (hb hby d1_75) rfl rfl ?_
  refine Own.imul hx (hb hby d1_76) rfl ?_
  refine Own.vI (4 : Int32) (by decide) ?_
  refine Own.iaload hx hZ O30 0 4 rfl (by decide) (v := (.int (1 : Int32))) rfl (hb hby d1_77) rfl ?_
  refine Own.aloadN hx (.ref o0) (hb hby d1_78) rfl rfl rfl ?_
  refine Own.getfield hx hZ hown O30 2 2 rfl rfl (hw _ (List.mem_of_getElem? (i := 16) rfl)) (hb hby d1_79) rfl ?_
  refine Own.iconst hx (2 : Int32) (hb hby d1_82) rfl (by decide) ?_
  refine Own.iloadN hx (2 : Int32) (hb hby d1_83) rfl rfl ?_
  refine Own.imul hx (hb hby d1_84) rfl ?_
  refine Own.vI (4 : Int32) (by decide) ?_
  refine Own.iconst hx (1 : Int32) (hb hby d1_85) rfl (by decide) ?_
  refine Own.iadd hx (hb hby d1_86) rfl ?_
  refine Own.vI (5 : Int32) (by decide) ?_
  refine Own.iaload hx hZ O30 0 5 rfl (by decide) (v := (.int (2 : Int32))) rfl (hb hby d1_87) rfl ?_
  have O35 : Own.Owns n0 h29 ((a3, Own.ArrC Z .long [(.long (9223372036854775807 : Int64)), (.long (9223372036854775807 : Int64)), (.long (9223372036854775807 : Int64))]) :: (a8, Own.ArrC Z .int [(.int (0 : Int32)), (.int (0 : Int32)), (.int (0 : Int32)), (.int (0 : Int32)), (.int (1 : Int32)), (.int (2 : Int32))]) :: (o0, Own.ObjC Z "com/example/twigline/twigline/matcher/StreamHeads" [(("com/example/twigline/twigline/matcher/StreamHeads", "size", "I"), (.int (3 : Int32))), (("com/example/twigline/twigline/matcher/StreamHeads", "starts", "[J"), (.ref a3)), (("com/example/twigline/twigline/matcher/StreamHeads", "earliest", "[I"), (.ref a8))]) :: fr) := O30.pick 1 rfl
  have O36 : Own.Owns n0 h29 ((o0, Own.ObjC Z "com/example/twigline/twigline/matcher/StreamHeads" [(("com/example/twigline/twigline/matcher/StreamHeads", "size", "I"), (.int (3 : Int32))), (("com/example/twigline/twigline/matcher/StreamHeads", "starts", "[J"), (.ref a3)), (("com/example/twigline/twigline/matcher/StreamHeads", "earliest", "[I"), (.ref a8))]) :: (a3, Own.ArrC Z .long [(.long (9223372036854775807 : Int64)), (.long (9223372036854775807 : Int64)), (.long (9223372036854775807 : Int64))]) :: (a8, Own.ArrC Z .int [(.int (0 : Int32)), (.int (0 : Int32)), (.int (0 : Int32)), (.int (0 : Int32)), (.int (1 : Int32)), (.int (2 : Int32))]) :: fr) := O35.pick 2 rfl
  refine Own.callP hx hZ hown (O36.exa (i := 0) rfl) (hw _ (List.mem_of_getElem? (i := 24) rfl)) (hw _ (List.mem_of_getElem? (i := 25) rfl)) (hw _ (List.mem_of_getElem? (i := 3) rfl)) (hw _ (List.mem_of_getElem? (i := 26) rfl)) (hw _ (List.mem_of_getElem? (i := 4) rfl)) (hw _ (List.mem_of_getElem? (i := 27) rfl)) (by decide) pd1 (argsL := [(.int (1 : Int32)), (.int (2 : Int32))]) (rest := [(.int (2 : Int32)), (.ref a8)]) rfl (W := 2) (Nat.le_of_eq rfl) (rm := ({ frames := 0, cells := 0, slots := 0, locals := 0 } : Room)) (by decide) (by decide) (by decide) (by decide) (k' := 2) (n' := 9) rfl rfl (by rw [hml]; rfl) [(.int (2 : Int32)), (.int (1 : Int32)), (.ref o0), (.int (2 : Int32)), (.ref a8)] rfl (hb hby d1_88) (pc' := 91) rfl (rm4 l Z a0 hw o0 h29 n0 1 2 3 a3 a8 [(9223372036854775807 : Int64), (9223372036854775807 : Int64), (9223372036854775807 : Int64)] (by decide) (by decide) (by decide) ((a8, Own.ArrC Z .int [(.int (0 : Int32)), (.int (0 : Int32)), (.int (0 : Int32)), (.int (0 : Int32)), (.int (1 : Int32)), (.int (2 : Int32))]) :: fr) O36) ?_
  rintro _ h' ⟨rfl, eh⟩
  rw [eh]; clear eh h'
  show Own.Goes _ _ _ _ _ _ _ _ _ _ _ _ _ _ _ _ _ (mkF m 91 #[.val (.ref o0), .val (.int (3 : Int32)), .val (.int (2 : Int32))] [(.int (1 : Int32)), (.int (2 : Int32)), (.ref a8)])
  refine Own.iastore hx hZ O36 2 2 rfl (by decide) (by exact (show 2 < 6 by decide)) ((o0, Own.ObjC Z "com/example/twigline/twigline/matcher/StreamHeads" [(("com/example/twigline/twigline/matcher/StreamHeads", "size", "I"), (.int (3 : Int32))), (("com/example/twigline/twigline/matcher/StreamHeads", "starts", "[J"), (.ref a3)), (("com/example/twigline/twigline/matcher/StreamHeads", "earliest", "[I"), (.ref a8))]) :: (a3, Own.ArrC Z .long [(.long (9223372036854775807 : Int64)), (.long (9223372036854775807 : Int64)), (.long (9223372036854775807 : Int64))]) :: (a8, Own.ArrC Z .int [(.int (0 : Int32)), (.int (0 : Int32)), (.int (1 : Int32)), (.int (0 : Int32)), (.int (1 : Int32)), (.int (2 : Int32))]) :: fr) rfl (hb hby d1_91) rfl ?_
  intro h37 O38
  refine Own.iinc hx (1 : Int32) #[.val (.ref o0), .val (.int (3 : Int32)), .val (.int (1 : Int32))] (hb hby d1_92) rfl rfl (by decide) rfl ?_
  refine Own.goto hx (hb hby d1_95) (by decide) (pc' := 60) rfl ?_
  refine Own.iloadN hx (1 : Int32) (hb hby d1_60) rfl rfl ?_
  have hc39 : (0 : Int32) < (1 : Int32) := by decide
  refine Own.ifFn hx (Own.z_le (1 : Int32)) (hb hby d1_61) (pcN := 64) rfl (by decide) (pcT := 98) rfl (fun q => absurd hc39 q) (fun _ => ?_)
  refine Own.aloadN hx (.ref o0) (hb hby d1_64) rfl rfl rfl ?_
  refine Own.getfield hx hZ hown O38 0 2 rfl rfl (hw _ (List.mem_of_getElem? (i := 16) rfl)) (hb hby d1_65) rfl ?_
  refine Own.iloadN hx (1 : Int32) (hb hby d1_68) rfl rfl ?_
  refine Own.aloadN hx (.ref o0) (hb hby d1_69) rfl rfl rfl ?_
  refine Own.aloadN hx (.ref o0) (hb hby d1_70) rfl rfl rfl ?_
  refine Own.getfield hx hZ hown O38 0 2 rfl rfl (hw _ (List.mem_of_getElem? (i := 16) rfl)) (hb hby d1_71) rfl ?_
  refine Own.iconst hx (2 : Int32) (hb hby d1_74) rfl (by decide) ?_
  refine Own.iloadN hx (1 : Int32) (hb hby d1_75) rfl rfl ?_
  refine Own.imul hx (hb hby d1_76) rfl ?_
  refine Own.vI (2 : Int32) (by decide) ?_
  refine Own.iaload hx hZ O38 2 2 rfl (by decide) (v := (.int (1 : Int32))) rfl (hb hby d1_77) rfl ?_
  refine Own.aloadN hx (.ref o0) (hb hby d1_78) rfl rfl rfl ?_
  refine Own.getfield hx hZ hown O38 0 2 rfl rfl (hw _ (List.mem_of_getElem? (i := 16) rfl)) (hb hby d1_79) rfl ?_
  refine Own.iconst hx (2 : Int32) (hb hby d1_82) rfl (by decide) ?_
  refine Own.iloadN hx (1 : Int32) (hb hby d1_83) rfl rfl ?_
  refine Own.imul hx (hb hby d1_84) rfl ?_
  refine Own.vI (2 : Int32) (by decide) ?_
  refine Own.iconst hx (1 : Int32) (hb hby d1_85) rfl (by decide) ?_
  refine Own.iadd hx (hb hby d1_86) rfl ?_
  refine Own.vI (3 : Int32) (by decide) ?_
  refine Own.iaload hx hZ O38 2 3 rfl (by decide) (v := (.int (0 : Int32))) rfl (hb hby d1_87) rfl ?_
  have O41 : Own.Owns n0 h37 ((a3, Own.ArrC Z .long [(.long (9223372036854775807 : Int64)), (.long (9223372036854775807 : Int64)), (.long (9223372036854775807 : Int64))]) :: (o0, Own.ObjC Z "com/example/twigline/twigline/matcher/StreamHeads" [(("com/example/twigline/twigline/matcher/StreamHeads", "size", "I"), (.int (3 : Int32))), (("com/example/twigline/twigline/matcher/StreamHeads", "starts", "[J"), (.ref a3)), (("com/example/twigline/twigline/matcher/StreamHeads", "earliest", "[I"), (.ref a8))]) :: (a8, Own.ArrC Z .int [(.int (0 : Int32)), (.int (0 : Int32)), (.int (1 : Int32)), (.int (0 : Int32)), (.int (1 : Int32)), (.int (2 : Int32))]) :: fr) := O38.pick 1 rfl
  have O42 : Own.Owns n0 h37 ((o0, Own.ObjC Z "com/example/twigline/twigline/matcher/StreamHeads" [(("com/example/twigline/twigline/matcher/StreamHeads", "size", "I"), (.int (3 : Int32))), (("com/example/twigline/twigline/matcher/StreamHeads", "starts", "[J"), (.ref a3)), (("com/example/twigline/twigline/matcher/StreamHeads", "earliest", "[I"), (.ref a8))]) :: (a3, Own.ArrC Z .long [(.long (9223372036854775807 : Int64)), (.long (9223372036854775807 : Int64)), (.long (9223372036854775807 : Int64))]) :: (a8, Own.ArrC Z .int [(.int (0 : Int32)), (.int (0 : Int32)), (.int (1 : Int32)), (.int (0 : Int32)), (.int (1 : Int32)), (.int (2 : Int32))]) :: fr) := O41.pick 1 rfl
  refine Own.callP hx hZ hown (O42.exa (i := 0) rfl) (hw _ (List.mem_of_getElem? (i := 24) rfl)) (hw _ (List.mem_of_getElem? (i := 25) rfl)) (hw _ (List.mem_of_getElem? (i := 3) rfl)) (hw _ (List.mem_of_getElem? (i := 26) rfl)) (hw _ (List.mem_of_getElem? (i := 4) rfl)) (hw _ (List.mem_of_getElem? (i := 27) rfl)) (by decide) pd1 (argsL := [(.int (1 : Int32)), (.int (0 : Int32))]) (rest := [(.int (1 : Int32)), (.ref a8)]) rfl (W := 2) (Nat.le_of_eq rfl) (rm := ({ frames := 0, cells := 0, slots := 0, locals := 0 } : Room)) (by decide) (by decide) (by decide) (by decide) (k' := 2) (n' := 9) rfl rfl (by rw [hml]; rfl) [(.int (0 : Int32)), (.int (1 : Int32)), (.ref o0), (.int (1 : Int32)), (.ref a8)] rfl (hb hby d1_88) (pc' := 91) rfl (rm4 l Z a0 hw o0 h37 n0 1 0 3 a3 a8 [(9223372036854775807 : Int64), (9223372036854775807 : Int64), (9223372036854775807 : Int64)] (by decide) (by decide) (by decide) ((a8, Own.ArrC Z .int [(.int (0 : Int32)), (.int (0 : Int32)), (.int (1 : Int32)), (.int (0 : Int32)), (.int (1 : Int32)), (.int (2 : Int32))]) :: fr) O42) ?_
  rintro _ h' ⟨rfl, eh⟩
  rw [eh]; clear eh h'
  show Own.Goes _ _ _ _ _ _ _ _ _ _ _ _ _ _ _ _ _ (mkF m 91 #[.val (.ref o0), .val (.int (3 : Int32)), .val (.int (1 : Int32))] [(.int (1 : Int32)), (.int (1 : Int32)), (.ref a8)])
  refine Own.iastore hx hZ O42 2 1 rfl (by decide) (by exact (show 1 < 6 by decide)) ((o0, Own.ObjC Z "com/example/twigline/twigline/matcher/StreamHeads" [(("com/example/twigline/twigline/matcher/StreamHeads", "size", "I"), (.int (3 : Int32))), (("com/example/twigline/twigline/matcher/StreamHeads", "starts", "[J"), (.ref a3)), (("com/example/twigline/twigline/matcher/StreamHeads", "earliest", "[I"), (.ref a8))]) :: (a3, Own.ArrC Z .long [(.long (9223372036854775807 : Int64)), (.long (9223372036854775807 : Int64)), (.long (9223372036854775807 : Int64))]) :: (a8, Own.ArrC Z .int [(.int (0 : Int32)), (.int (1 : Int32)), (.int (1 : Int32)), (.int (0 : Int32)), (.int (1 : Int32)), (.int (2 : Int32))]) :: fr) rfl (hb hby d1_91) rfl ?_
  intro h43 O44
  refine Own.iinc hx (0 : Int32) #[.val (.ref o0), .val (.int (3 : Int32)), .val (.int (0 : Int32))] (hb hby d1_92) rfl rfl (by decide) rfl ?_
  refine Own.goto hx (hb hby d1_95) (by decide) (pc' := 60) rfl ?_
  refine Own.iloadN hx (0 : Int32) (hb hby d1_60) rfl rfl ?_
  have hc45 : ¬ ((0 : Int32) < (0 : Int32)) := by decide
  refine Own.ifFn hx (Own.z_le (0 : Int32)) (hb hby d1_61) (pcN := 64) rfl (by decide) (pcT := 98) rfl (fun _ => ?_) (fun q => absurd q hc45)
  have O47 : Own.Owns n0 h43 ((a8, Own.ArrC Z .int [(.int (0 : Int32)), (.int (1 : Int32)), (.int (1 : Int32)), (.int (0 : Int32)), (.int (1 : Int32)), (.int (2 : Int32))]) :: (o0, Own.ObjC Z "com/example/twigline/twigline/matcher/StreamHeads" [(("com/example/twigline/twigline/matcher/StreamHeads", "size", "I"), (.int (3 : Int32))), (("com/example/twigline/twigline/matcher/StreamHeads", "starts", "[J"), (.ref a3)), (("com/example/twigline/twigline/matcher/StreamHeads", "earliest", "[I"), (.ref a8))]) :: (a3, Own.ArrC Z .long [(.long (9223372036854775807 : Int64)), (.long (9223372036854775807 : Int64)), (.long (9223372036854775807 : Int64))]) :: fr) := O44.pick 2 rfl
  have O48 : Own.Owns n0 h43 ((a3, Own.ArrC Z .long [(.long (9223372036854775807 : Int64)), (.long (9223372036854775807 : Int64)), (.long (9223372036854775807 : Int64))]) :: (a8, Own.ArrC Z .int [(.int (0 : Int32)), (.int (1 : Int32)), (.int (1 : Int32)), (.int (0 : Int32)), (.int (1 : Int32)), (.int (2 : Int32))]) :: (o0, Own.ObjC Z "com/example/twigline/twigline/matcher/StreamHeads" [(("com/example/twigline/twigline/matcher/StreamHeads", "size", "I"), (.int (3 : Int32))), (("com/example/twigline/twigline/matcher/StreamHeads", "starts", "[J"), (.ref a3)), (("com/example/twigline/twigline/matcher/StreamHeads", "earliest", "[I"), (.ref a8))]) :: fr) := O47.pick 2 rfl
  have O49 : Own.Owns n0 h43 ((o0, Own.ObjC Z "com/example/twigline/twigline/matcher/StreamHeads" [(("com/example/twigline/twigline/matcher/StreamHeads", "size", "I"), (.int (3 : Int32))), (("com/example/twigline/twigline/matcher/StreamHeads", "starts", "[J"), (.ref a3)), (("com/example/twigline/twigline/matcher/StreamHeads", "earliest", "[I"), (.ref a8))]) :: (a3, Own.ArrC Z .long [(.long (9223372036854775807 : Int64)), (.long (9223372036854775807 : Int64)), (.long (9223372036854775807 : Int64))]) :: (a8, Own.ArrC Z .int [(.int (0 : Int32)), (.int (1 : Int32)), (.int (1 : Int32)), (.int (0 : Int32)), (.int (1 : Int32)), (.int (2 : Int32))]) :: fr) := O48.pick 2 rfl
  exact Own.retV hx hret hlk (hb hby d1_98) (by decide) (by decide) ⟨a3, a8, rfl, O49⟩

theorem ef1_4 (m : MethodId) (x0 : Addr) (x1 : Int32) : entryFrame m #[(.ref x0), (.int x1)] 3 = mkF m 0 #[.val (.ref x0), .val (.int x1), .unset] [] := by first | (simp [entryFrame, mkF, argsToLocals, Value.category]; done) | rfl
set_option maxRecDepth 65536 in
set_option maxHeartbeats 40000000 in
theorem rm1_4 (l : Launch) (Z : State) (a0 : Array Value) (hw : ∀ d ∈ tables_1, d.before a0 Z = true) (o0 : Addr) (h0 : Heap) (n0 : Nat)  (fr : List (Addr × (Cell → Prop))) (O0 : Own.Owns n0 h0 ((o0, Own.ObjC Z "com/example/twigline/twigline/matcher/StreamHeads" [(("com/example/twigline/twigline/matcher/StreamHeads", "size", "I"), (.int (0 : Int32))), (("com/example/twigline/twigline/matcher/StreamHeads", "starts", "[J"), .null), (("com/example/twigline/twigline/matcher/StreamHeads", "earliest", "[I"), .null)]) :: fr))  : Own.Does l (⟨"com/example/twigline/twigline/matcher/StreamHeads", "<init>", "(I)V"⟩ : MethodName) prog_27_method_1_code 3 none [] ({ frames := 1, cells := 2, slots := 12, locals := 16 } : Room) Z #[(.ref o0), (.int (4 : Int32))] h0 n0 (fun v h => ∃ ra rb, v = none ∧ Own.Owns n0 h ((o0, Own.ObjC Z "com/example/twigline/twigline/matcher/StreamHeads" [(("com/example/twigline/twigline/matcher/StreamHeads", "size", "I"), (.int (4 : Int32))), (("com/example/twigline/twigline/matcher/StreamHeads", "starts", "[J"), (.ref ra)), (("com/example/twigline/twigline/matcher/StreamHeads", "earliest", "[I"), (.ref rb))]) :: (ra, Own.ArrC Z .long [(.long (9223372036854775807 : Int64)), (.long (9223372036854775807 : Int64)), (.long (9223372036854775807 : Int64)), (.long (9223372036854775807 : Int64))]) :: (rb, Own.ArrC Z .int [(.int (0 : Int32)), (.int (0 : Int32)), (.int (0 : Int32)), (.int (2 : Int32)), (.int (0 : Int32)), (.int (1 : Int32)), (.int (2 : Int32)), (.int (3 : Int32))]) :: fr)) := by
  refine Own.doesOf pn3 ?_
  intro p e s m below meth c hx hby hml hret hlk hown hnm hZ
  refine Own.Goes.cast (ef1_4 m o0 (4 : Int32)) ?_
  refine Own.aloadN hx (.ref o0) (hb hby d1_0) rfl rfl rfl ?_
  refine Own.initobj hx hZ hown (hw _ (List.mem_of_getElem? (i := 8) rfl)) (hw _ (List.mem_of_getElem? (i := 9) rfl)) (hw _ (List.mem_of_getElem? (i := 10) rfl)) (by rw [hml]; rfl) (W := 0) (Nat.le_of_eq rfl) (by decide) (by decide) (hb hby d1_1) rfl ?_
  refine Own.aloadN hx (.ref o0) (hb hby d1_4) rfl rfl rfl ?_
  refine Own.iloadN hx (4 : Int32) (hb hby d1_5) rfl rfl ?_
  refine Own.putfield hx hZ hown O0 0 0 rfl rfl (hw _ (List.mem_of_getElem? (i := 11) rfl)) (Or.inr ⟨(hw _ (List.mem_of_getElem? (i := 12) rfl)), rfl, hnm⟩) (hw _ (List.mem_of_getElem? (i := 3) rfl)) (ty := .int) (by decide) rfl rfl ((o0, Own.ObjC Z "com/example/twigline/twigline/matcher/StreamHeads" [(("com/example/twigline/twigline/matcher/StreamHeads", "size", "I"), (.int (4 : Int32))), (("com/example/twigline/twigline/matcher/StreamHeads", "starts", "[J"), .null), (("com/example/twigline/twigline/matcher/StreamHeads", "earliest", "[I"), .null)]) :: fr) rfl (hb hby d1_6) rfl ?_
  intro h1 O2
  refine Own.aloadN hx (.ref o0) (hb hby d1_9) rfl rfl rfl ?_
  refine Own.iloadN hx (4 : Int32) (hb hby d1_10) rfl rfl ?_
  refine Own.newarr hx hZ O2 (aty := .long) (hw _ (List.mem_of_getElem? (i := 0) rfl)) 4 (by decide) [(.long (0 : Int64)), (.long (0 : Int64)), (.long (0 : Int64)), (.long (0 : Int64))] rfl rfl (cap := 4) (by decide) (by decide) (k' := 1) (n' := 4) rfl rfl (by decide) (by decide) (hb hby d1_11) (pc' := 13) rfl ?_
  intro a3 h4 O5
  refine Own.putfield hx hZ hown O5 1 1 rfl rfl (hw _ (List.mem_of_getElem? (i := 13) rfl)) (Or.inr ⟨(hw _ (List.mem_of_getElem? (i := 14) rfl)), rfl, hnm⟩) (hw _ (List.mem_of_getElem? (i := 3) rfl)) (ty := (.array .long)) (by decide) rfl rfl ((a3, Own.ArrC Z .long [(.long (0 : Int64)), (.long (0 : Int64)), (.long (0 : Int64)), (.long (0 : Int64))]) :: (o0, Own.ObjC Z "com/example/twigline/twigline/matcher/StreamHeads" [(("com/example/twigline/twigline/matcher/StreamHeads", "size", "I"), (.int (4 : Int32))), (("com/example/twigline/twigline/matcher/StreamHeads", "starts", "[J"), (.ref a3)), (("com/example/twigline/twigline/matcher/StreamHeads", "earliest", "[I"), .null)]) :: fr) rfl (hb hby d1_13) rfl ?_
  intro h6 O7
  refine Own.aloadN hx (.ref o0) (hb hby d1_16) rfl rfl rfl ?_
  refine Own.iconst hx (2 : Int32) (hb hby d1_17) rfl (by decide) ?_
  refine Own.iloadN hx (4 : Int32) (hb hby d1_18) rfl rfl ?_
  refine Own.imul hx (hb hby d1_19) rfl ?_
  refine Own.vI (8 : Int32) (by decide) ?_
  refine Own.newarr hx hZ O7 (aty := .int) (hw _ (List.mem_of_getElem? (i := 15) rfl)) 8 (by decide) [(.int (0 : Int32)), (.int (0 : Int32)), (.int (0 : Int32)), (.int (0 : Int32)), (.int (0 : Int32)), (.int (0 : Int32)), (.int (0 : Int32)), (.int (0 : Int32))] rfl rfl (cap := 8) (by decide) (by decide) (k' := 2) (n' := 12) rfl rfl (by decide) (by decide) (hb hby d1_20) (pc' := 22) rfl ?_
  intro a8 h9 O10
  refine Own.putfield hx hZ hown O10 2 2 rfl rfl (hw _ (List.mem_of_getElem? (i := 16) rfl)) (Or.inr ⟨(hw _ (List.mem_of_getElem? (i := 17) rfl)), rfl, hnm⟩) (hw _ (List.mem_of_getElem? (i := 3) rfl)) (ty := (.array .int)) (by decide) rfl rfl ((a8, Own.ArrC Z .int [(.int (0 : Int32)), (.int (0 : Int32)), (.int (0 : Int32)), (.int (0 : Int32)), (.int (0 : Int32)), (.int (0 : Int32)), (.int (0 : Int32)), (.int (0 : Int32))]) :: (a3, Own.ArrC Z .long [(.long (0 : Int64)), (.long (0 : Int64)), (.long (0 : Int64)), (.long (0 : Int64))]) :: (o0, Own.ObjC Z "com/example/twigline/twigline/matcher/StreamHeads" [(("com/example/twigline/twigline/matcher/StreamHeads", "size", "I"), (.int (4 : Int32))), (("com/example/twigline/twigline/matcher/StreamHeads", "starts", "[J"), (.ref a3)), (("com/example/twigline/twigline/matcher/StreamHeads", "earliest", "[I"), (.ref a8))]) :: fr) rfl (hb hby d1_22) rfl ?_
  intro h11 O12
  refine Own.iconst hx (0 : Int32) (hb hby d1_25) rfl (by decide) ?_
  refine Own.istoreN hx (0 : Int32) rfl #[.val (.ref o0), .val (.int (4 : Int32)), .val (.int (0 : Int32))] (hb hby d1_26) rfl rfl ?_
  refine Own.iloadN hx (0 : Int32) (hb hby d1_27) rfl rfl ?_
  refine Own.iloadN hx (4 : Int32) (hb hby d1_28) rfl rfl ?_
  have hc13 : (0 : Int32) < (4 : Int32) := by decide
  refine Own.icmpFn hx (Own.q_ge (0 : Int32) (4 : Int32)) (hb hby d1_29) (pcN := 32) rfl (by decide) (pcT := 56) rfl (fun q => absurd hc13 q) (fun _ => ?_)
  refine Own.aloadN hx (.ref o0) (hb hby d1_32) rfl rfl rfl ?_
  refine Own.getfield hx hZ hown O12 2 1 rfl rfl (hw _ (List.mem_of_getElem? (i := 13) rfl)) (hb hby d1_33) rfl ?_
  refine Own.iloadN hx (0 : Int32) (hb hby d1_36) rfl rfl ?_
  refine Own.ldc2 hx hZ hown (9223372036854775807 : Int64) (hb hby d1_37) rfl (hw _ (List.mem_of_getElem? (i := 23) rfl)) ?_
  refine Own.lastore hx hZ O12 1 0 rfl (by decide) (by exact (show 0 < 4 by decide)) ((a8, Own.ArrC Z .int [(.int (0 : Int32)), (.int (0 : Int32)), (.int (0 : Int32)), (.int (0 : Int32)), (.int (0 : Int32)), (.int (0 : Int32)), (.int (0 : Int32)), (.int (0 : Int32))]) :: (a3, Own.ArrC Z .long [(.long (9223372036854775807 : Int64)), (.long (0 : Int64)), (.long (0 : Int64)), (.long (0 : Int64))]) :: (o0, Own.ObjC Z "com/example/twigline/twigline/matcher/StreamHeads" [(("com/example/twigline/twigline/matcher/StreamHeads", "size", "I"), (.int (4 : Int32))), (("com/example/twigline/twigline/matcher/StreamHeads", "starts", "[J"), (.ref a3)), (("com/example/twigline/twigline/matcher/StreamHeads", "earliest", "[I"), (.ref a8))]) :: fr) rfl (hb hby d1_40) rfl ?_
  intro h15 O16
  refine Own.aloadN hx (.ref o0) (hb hby d1_41) rfl rfl rfl ?_
  refine Own.getfield hx hZ hown O16 2 2 rfl rfl (hw _ (List.mem_of_getElem? (i := 16) rfl)) (hb hby d1_42) rfl ?_
  refine Own.iloadN hx (4 : Int32) (hb hby d1_45) rfl rfl ?_
  refine Own.iloadN hx (0 : Int32) (hb hby d1_46) rfl rfl ?_
  refine Own.iadd hx (hb hby d1_47) rfl ?_
  refine Own.vI (4 : Int32) (by decide) ?_
  refine Own.iloadN hx (0 : Int32) (hb hby d1_48) rfl rfl ?_
  refine Own.iastore hx hZ O16 0 4 rfl (by decide) (by exact (show 4 < 8 by decide)) ((a8, Own.ArrC Z .int [(.int (0 : Int32)), (.int (0 : Int32)), (.int (0 : Int32)), (.int (0 : Int32)), (.int (0 : Int32)), (.int (0 : Int32)), (.int (0 : Int32)), (.int (0 : Int32))]) :: (a3, Own.ArrC Z .long [(.long (9223372036854775807 : Int64)), (.long (0 : Int64)), (.long (0 : Int64)), (.long (0 : Int64))]) :: (o0, Own.ObjC Z "com/example/twigline/twigline/matcher/StreamHeads" [(("com/example/twigline/twigline/matcher/StreamHeads", "size", "I"), (.int (4 : Int32))), (("com/example/twigline/twigline/matcher/StreamHeads", "starts", "[J"), (.ref a3)), (("com/example/twigline/twigline/matcher/StreamHeads", "earliest", "[I"), (.ref a8))]) :: fr) rfl (hb hby d1_49) rfl ?_
  intro h17 O18
  refine Own.iinc hx (1 : Int32) #[.val (.ref o0), .val (.int (4 : Int32)), .val (.int (1 : Int32))] (hb hby d1_50) rfl rfl (by decide) rfl ?_
  refine Own.goto hx (hb hby d1_53) (by decide) (pc' := 27) rfl ?_
  refine Own.iloadN hx (1 : Int32) (hb hby d1_27) rfl rfl ?_
  refine Own.iloadN hx (4 : Int32) (hb hby d1_28) rfl rfl ?_
  have hc19 : (1 : Int32) < (4 : Int32) := by decide
  refine Own.icmpFn hx (Own.q_ge (1 : Int32) (4 : Int32)) (hb hby d1_29) (pcN := 32) rfl (by decide) (pcT := 56) rfl (fun q => absurd hc19 q) (fun _ => ?_)
  refine Own.aloadN hx (.ref o0) (hb hby d1_32) rfl rfl rfl ?_
  refine Own.getfield hx hZ hown O18 2 1 rfl rfl (hw _ (List.mem_of_getElem? (i := 13) rfl)) (hb hby d1_33) rfl ?_
  refine Own.iloadN hx (1 : Int32) (hb hby d1_36) rfl rfl ?_
  refine Own.ldc2 hx hZ hown (9223372036854775807 : Int64) (hb hby d1_37) rfl (hw _ (List.mem_of_getElem? (i := 23) rfl)) ?_
  refine Own.lastore hx hZ O18 1 1 rfl (by decide) (by exact (show 1 < 4 by decide)) ((a8, Own.ArrC Z .int [(.int (0 : Int32)), (.int (0 : Int32)), (.int (0 : Int32)), (.int (0 : Int32)), (.int (0 : Int32)), (.int (0 : Int32)), (.int (0 : Int32)), (.int (0 : Int32))]) :: (a3, Own.ArrC Z .long [(.long (9223372036854775807 : Int64)), (.long (9223372036854775807 : Int64)), (.long (0 : Int64)), (.long (0 : Int64))]) :: (o0, Own.ObjC Z "com/example/twigline/twigline/matcher/StreamHeads" [(("com/example/twigline/twigline/matcher/StreamHeads", "size", "I"), (.int (4 : Int32))), (("com/example/twigline/twigline/matcher/StreamHeads", "starts", "[J"), (.ref a3)), (("com/example/twigline/twigline/matcher/StreamHeads", "earliest", "[I"), (.ref a8))]) :: fr) rfl (hb hby d1_40) rfl ?_
  intro h21 O22
  refine Own.aloadN hx (.ref o0) (hb hby d1_41) rfl rfl rfl ?_
  refine Own.getfield hx hZ hown O22 2 2 rfl rfl (hw _ (List.mem_of_getElem? (i := 16) rfl)) (hb hby d1_42) rfl ?_
  refine Own.iloadN hx (4 : Int32) (hb hby d1_45) rfl rfl ?_
  refine Own.iloadN hx (1 : Int32) (hb hby d1_46) rfl rfl ?_
  refine Own.iadd hx (hb hby d1_47) rfl ?_
  refine Own.vI (5 : Int32) (by decide) ?_
  refine Own.iloadN hx (1 : Int32) (hb hby d1_48) rfl rfl ?_
  refine Own.iastore hx hZ O22 0 5 rfl (by decide) (by exact (show 5 < 8 by decide)) ((a8, Own.ArrC Z .int [(.int (0 : Int32)), (.int (0 : Int32)), (.int (0 : Int32)), (.int (0 : Int32)), (.int (0 : Int32)), (.int (1 : Int32)), (.int (0 : Int32)), (.int (0 : Int32))]) :: (a3, Own.ArrC Z .long [(.long (9223372036854775807 : Int64)), (.long (9223372036854775807 : Int64)), (.long (0 : Int64)), (.long (0 : Int64))]) :: (o0, Own.ObjC Z "com/example/twigline/twigline/matcher/StreamHeads" [(("com/example/twigline/twigline/matcher/StreamHeads", "size", "I"), (.int (4 : Int32))), (("com/example/twigline/twigline/matcher/StreamHeads", "starts", "[J"), (.ref a3)), (("com/example/twigline/twigline/matcher/StreamHeads", "earliest", "[I"), (.ref a8))]) :: fr) rfl (hb hby d1_49) rfl ?_
  intro h23 O24
  refine Own.iinc hx (2 : Int32) #[.val (.ref o0), .val (.int (4 : Int32)), .val (.int (2 : Int32))] (hb hby d1_50) rfl rfl (by decide) rfl ?_
  refine Own.goto hx (hb hby d1_53) (by decide) (pc' := 27) rfl ?_
  refine Own.iloadN hx (2 : Int32) (hb hby d1_27) rfl rfl ?_
  refine Own.iloadN hx (4 : Int32) (hb hby d1_28) rfl rfl ?_
  have hc25 : (2 : Int32) < (4 : Int32) := by decide
  refine Own.icmpFn hx (Own.q_ge (2 : Int32) (4 : Int32)) (hb hby d1_29) (pcN := 32) rfl (by decide) (pcT := 56) rfl (fun q => absurd hc25 q) (fun _ => ?_)
  refine Own.aloadN hx (.ref o0) (hb hby d1_32) rfl rfl rfl ?_
  refine Own.getfield hx hZ hown O24 2 1 rfl rfl (hw _ (List.mem_of_getElem? (i := 13) rfl)) (hb hby d1_33) rfl ?_
  refine Own.iloadN hx (2 : Int32) (hb hby d1_36) rfl rfl ?_
  refine Own.ldc2 hx hZ hown (9223372036854775807 : Int64) (hb hby d1_37) rfl (hw _ (List.mem_of_getElem? (i := 23) rfl)) ?_
  refine Own.lastore hx hZ O24 1 2 rfl (by decide) (by exact (show 2 < 4 by decide)) ((a8, Own.ArrC Z .int [(.int (0 : Int32)), (.int (0 : Int32)), (.int (0 : Int32)), (.int (0 : Int32)), (.int (0 : Int32)), (.int (1 : Int32)), (.int (0 : Int32)), (.int (0 : Int32))]) :: (a3, Own.ArrC Z .long [(.long (9223372036854775807 : Int64)), (.long (9223372036854775807 : Int64)), (.long (9223372036854775807 : Int64)), (.long (0 : Int64))]) :: (o0, Own.ObjC Z "com/example/twigline/twigline/matcher/StreamHeads" [(("com/example/twigline/twigline/matcher/StreamHeads", "size", "I"), (.int (4 : Int32))), (("com/example/twigline/twigline/matcher/StreamHeads", "starts", "[J"), (.ref a3)), (("com/example/twigline/twigline/matcher/StreamHeads", "earliest", "[I"), (.ref a8))]) :: fr) rfl (hb hby d1_40) rfl ?_
  intro h27 O28
  refine Own.aloadN hx (.ref o0) (hb hby d1_41) rfl rfl rfl ?_
  refine Own.getfield hx hZ hown O28 2 2 rfl rfl (hw _ (List.mem_of_getElem? (i := 16) rfl)) (hb hby d1_42) rfl ?_
  refine Own.iloadN hx (4 : Int32) (hb hby d1_45) rfl rfl ?_
  refine Own.iloadN hx (2 : Int32) (hb hby d1_46) rfl rfl ?_
  refine Own.iadd hx (hb hby d1_47) rfl ?_
  refine Own.vI (6 : Int32) (by decide) ?_
  refine Own.iloadN hx (2 : Int32) (hb hby d1_48) rfl rfl ?_
  refine Own.iastore hx hZ O28 0 6 rfl (by decide) (by exact (show 6 < 8 by decide)) ((a8, Own.ArrC Z .int [(.int (0 : Int32)), (.int (0 : Int32)), (.int (0 : Int32)), (.int (0 : Int32)), (.int (0 : Int32)), (.int (1 : Int32)), (.int (2 : Int32)), (.int (0 : Int32))]) :: (a3, Own.ArrC Z .long [(.long (9223372036854775807 : Int64)), (.long (9223372036854775807 : Int64)), (.long (9223372036854775807 : Int64)), (.long (0 : Int64))]) :: (o0, Own.ObjC Z "com/example/twigline/twigline/matcher/StreamHeads" [(("com/example/twigline/twigline/matcher/StreamHeads", "size", "I"), (.int (4 : Int32))), (("com/example/twigline/twigline/matcher/StreamHeads", "starts", "[J"), (.ref a3)), (("com/example/twigline/twigline/matcher/StreamHeads", "earliest", "[I"), (.ref a8))]) :: fr) rfl (hb hby d1_49) rfl ?_
  intro h29 O30
  refine Own.iinc hx (3 : Int32) #[.val (.ref o0), .val (.int (4 : Int32)), .val (.int (3 : Int32))] (hb hby d1_50) rfl rfl (by decide) rfl ?_
  refine Own.goto hx (hb hby d1_53) (by decide) (pc' := 27) rfl ?_
  refine Own.iloadN hx (3 : Int32) (hb hby d1_27) rfl rfl ?_
  refine Own.iloadN hx (4 : Int32) (hb hby d1_28) rfl rfl ?_
  have hc31 : (3 : Int32) < (4 : Int32) := by decide
  refine Own.icmpFn hx (Own.q_ge (3 : Int32) (4 : Int32)) (hb hby d1_29) (pcN := 32) rfl (by decide) (pcT := 56) rfl (fun q => absurd hc31 q) (fun _ => ?_)
  refine Own.aloadN hx (.ref o0) (hb hby d1_32) rfl rfl rfl ?_
  refine Own.getfield hx hZ hown O30 2 1 rfl rfl (hw _ (List.mem_of_getElem? (i := 13) rfl)) (hb hby d1_33) rfl ?_
  refine Own.iloadN hx (3 : Int32) (hb hby d1_36) rfl rfl ?_
  refine Own.ldc2 hx hZ hown (9223372036854775807 : Int64) (hb hby d1_37) rfl (hw _ (List.mem_of_getElem? (i := 23) rfl)) ?_
  refine Own.lastore hx hZ O30 1 3 rfl (by decide) (by exact (show 3 < 4 by decide)) ((a8, Own.ArrC Z .int [(.int (0 : Int32)), (.int (0 : Int32)), (.int (0 : Int32)), (.int (0 : Int32)), (.int (0 : Int32)), (.int (1 : Int32)), (.int (2 : Int32)), (.int (0 : Int32))]) :: (a3, Own.ArrC Z .long [(.long (9223372036854775807 : Int64)), (.long (9223372036854775807 : Int64)), (.long (9223372036854775807 : Int64)), (.long (9223372036854775807 : Int64))]) :: (o0, Own.ObjC Z "com/example/twigline/twigline/matcher/StreamHeads" [(("com/example/twigline/twigline/matcher/StreamHeads", "size", "I"), (.int (4 : Int32))), (("com/example/twigline/twigline/matcher/StreamHeads", "starts", "[J"), (.ref a3)), (("com/example/twigline/twigline/matcher/StreamHeads", "earliest", "[I"), (.ref a8))]) :: fr) rfl (hb hby d1_40) rfl ?_
  intro h33 O34
  refine Own.aloadN hx (.ref o0) (hb hby d1_41) rfl rfl rfl ?_
  refine Own.getfield hx hZ hown O34 2 2 rfl rfl (hw _ (List.mem_of_getElem? (i := 16) rfl)) (hb hby d1_42) rfl ?_
  refine Own.iloadN hx (4 : Int32) (hb hby d1_45) rfl rfl ?_
  refine Own.iloadN hx (3 : Int32) (hb hby d1_46) rfl rfl ?_
  refine Own.iadd hx (hb hby d1_47) rfl ?_
  refine Own.vI (7 : Int32) (by decide) ?_
  refine Own.iloadN hx (3 : Int32) (hb hby d1_48) rfl rfl ?_
  refine Own.iastore hx hZ O34 0 7 rfl (by decide) (by exact (show 7 < 8 by decide)) ((a8, Own.ArrC Z .int [(.int (0 : Int32)), (.int (0 : Int32)), (.int (0 : Int32)), (.int (0 : Int32)), (.int (0 : Int32)), (.int (1 : Int32)), (.int (2 : Int32)), (.int (3 : Int32))]) :: (a3, Own.ArrC Z .long [(.long (9223372036854775807 : Int64)), (.long (9223372036854775807 : Int64)), (.long (9223372036854775807 : Int64)), (.long (9223372036854775807 : Int64))]) :: (o0, Own.ObjC Z "com/example/twigline/twigline/matcher/StreamHeads" [(("com/example/twigline/twigline/matcher/StreamHeads", "size", "I"), (.int (4 : Int32))), (("com/example/twigline/twigline/matcher/StreamHeads", "starts", "[J"), (.ref a3)), (("com/example/twigline/twigline/matcher/StreamHeads", "earliest", "[I"), (.ref a8))]) :: fr) rfl (hb hby d1_49) rfl ?_
  intro h35 O36
  refine Own.iinc hx (4 : Int32) #[.val (.ref o0), .val (.int (4 : Int32)), .val (.int (4 : Int32))] (hb hby d1_50) rfl rfl (by decide) rfl ?_
  refine Own.goto hx (hb hby d1_53) (by decide) (pc' := 27) rfl ?_
  refine Own.iloadN hx (4 : Int32) (hb hby d1_27) rfl rfl ?_
  refine Own.iloadN hx (4 : Int32) (hb hby d1_28) rfl rfl ?_
  have hc37 : ¬ ((4 : Int32) < (4 : Int32)) := by decide
  refine Own.icmpFn hx (Own.q_ge (4 : Int32) (4 : Int32)) (hb hby d1_29) (pcN := 32) rfl (by decide) (pcT := 56) rfl (fun _ => ?_) (fun q => absurd q hc37)
  refine Own.iloadN hx (4 : Int32) (hb hby d1_56) rfl rfl ?_
  refine Own.iconst hx (1 : Int32) (hb hby d1_57) rfl (by decide) ?_
  refine Own.isub hx (hb hby d1_58) rfl ?_
  refine Own.vI (3 : Int32) (by decide) ?_
  refine Own.istoreN hx (3 : Int32) rfl #[.val (.ref o0), .val (.int (4 : Int32)), .val (.int (3 : Int32))] (hb hby d1_59) rfl rfl ?_
  refine Own.iloadN hx (3 : Int32) (hb hby d1_60) rfl rfl ?_
  have hc39 : (0 : Int32) < (3 : Int32) := by decide
  refine Own.ifFn hx (Own.z_le (3 : Int32)) (hb hby d1_61) (pcN := 64) rfl (by decide) (pcT := 98) rfl (fun q => absurd hc39 q) (fun _ => ?_)
  refine Own.aloadN hx (.ref o0) (hb hby d1_64) rfl rfl rfl ?_
  refine Own.getfield hx hZ hown O36 2 2 rfl rfl (hw _ (List.mem_of_getElem? (i := 16) rfl)) (hb hby d1_65) rfl ?_
  refine Own.iloadN hx (3 : Int32) (hb hby d1_68) rfl rfl ?_
  refine Own.aloadN hx (.ref o0) (hb hby d1_69) rfl rfl rfl ?_
  refine Own.aloadN hx (.ref o0) (hb hby d1_70) rfl rfl rfl ?_
  refine Own.getfield hx hZ hown O36 2 2 rfl rfl (hw _ (List.mem_of_getElem? (i := 16) rfl)) (hb hby d1_71) rfl ?_
  refine Own.iconst hx (2 : Int32) (hb hby d1_74) rfl (by decide) ?_
  refine Own.iloadN hx (3 : Int32) (hb hby d1_75) rfl rfl ?_
  refine Own.imul hx (hb hby d1_76) rfl ?_
  refine Own.vI (6 : Int32) (by decide) ?_
  refine Own.iaload hx hZ O36 0 6 rfl (by decide) (v := (.int (2 : Int32))) rfl (hb hby d1_77) rfl ?_
  refine Own.aloadN hx (.ref o0) (hb hby d1_78) rfl rfl rfl ?_
  refine Own.getfield hx hZ hown O36 2 2 rfl rfl (hw _ (List.mem_of_getElem? (i := 16) rfl)) (hb hby d1_79) rfl ?_
  refine Own.iconst hx (2 : Int32) (hb hby d1_82) rfl (by decide) ?_
  refine Own.iloadN hx (3 : Int32) (hb hby d1_83) rfl rfl ?_
  refine Own.imul hx (hb hby d1_84) rfl ?_
  refine Own.vI (6 : Int32) (by decide) ?_
  refine Own.iconst hx (1 : Int32) (hb hby d1_85) rfl (by decide) ?_
  refine Own.iadd hx (hb hby d1_86) rfl ?_
  refine Own.vI (7 : Int32) (by decide) ?_
  refine Own.iaload hx hZ O36 0 7 rfl (by decide) (v := (.int (3 : Int32))) rfl (hb hby d1_87) rfl ?_
  have O41 : Own.Owns n0 h35 ((a3, Own.ArrC Z .long [(.long (9223372036854775807 : Int64)), (.long (9223372036854775807 : Int64)), (.long (9223372036854775807 : Int64)), (.long (9223372036854775807 : Int64))]) :: (a8, Own.ArrC Z .int [(.int (0 : Int32)), (.int (0 : Int32)), (.int (0 : Int32)), (.int (0 : Int32)), (.int (0 : Int32)), (.int (1 : Int32)), (.int (2 : Int32)), (.int (3 : Int32))]) :: (o0, Own.ObjC Z "com/example/twigline/twigline/matcher/StreamHeads" [(("com/example/twigline/twigline/matcher/StreamHeads", "size", "I"), (.int (4 : Int32))), (("com/example/twigline/twigline/matcher/StreamHeads", "starts", "[J"), (.ref a3)), (("com/example/twigline/twigline/matcher/StreamHeads", "earliest", "[I"), (.ref a8))]) :: fr) := O36.pick 1 rfl
  have O42 : Own.Owns n0 h35 ((o0, Own.ObjC Z "com/example/twigline/twigline/matcher/StreamHeads" [(("com/example/twigline/twigline/matcher/StreamHeads", "size", "I"), (.int (4 : Int32))), (("com/example/twigline/twigline/matcher/StreamHeads", "starts", "[J"), (.ref a3)), (("com/example/twigline/twigline/matcher/StreamHeads", "earliest", "[I"), (.ref a8))]) :: (a3, Own.ArrC Z .long [(.long (9223372036854775807 : Int64)), (.long (9223372036854775807 : Int64)), (.long (9223372036854775807 : Int64)), (.long (9223372036854775807 : Int64))]) :: (a8, Own.ArrC Z .int [(.int (0 : Int32)), (.int (0 : Int32)), (.int (0 : Int32)), (.int (0 : Int32)), (.int (0 : Int32)), (.int (1 : Int32)), (.int (2 : Int32)), (.int (3 : Int32))]) :: fr) := O41.pick 2 rfl
  refine Own.callP hx hZ hown (O42.exa (i := 0) rfl) (hw _ (List.mem_of_getElem? (i := 24) rfl)) (hw _ (List.mem_of_getElem? (i := 25) rfl)) (hw _ (List.mem_of_getElem? (i := 3) rfl)) (hw _ (List.mem_of_getElem? (i := 26) rfl)) (hw _ (List.mem_of_getElem? (i := 4) rfl)) (hw _ (List.mem_of_getElem? (i := 27) rfl)) (by decide) pd1 (argsL := [(.int (2 : Int32)), (.int (3 : Int32))]) (rest := [(.int (3 : Int32)), (.ref a8)]) rfl (W := 2) (Nat.le_of_eq rfl) (rm := ({ frames := 0, cells := 0, slots := 0, locals := 0 } : Room)) (by decide) (by decide) (by decide) (by decide) (k' := 2) (n' := 12) rfl rfl (by rw [hml]; rfl) [(.int (3 : Int32)), (.int (2 : Int32)), (.ref o0), (.int (3 : Int32)), (.ref a8)] rfl (hb hby d1_88) (pc' := 91) rfl (rm4 l Z a0 hw o0 h35 n0 2 3 4 a3 a8 [(9223372036854775807 : Int64), (9223372036854775807 : Int64), (9223372036854775807 : Int64), (9223372036854775807 : Int64)] (by decide) (by decide) (by decide) ((a8, Own.ArrC Z .int [(.int (0 : Int32)), (.int (0 : Int32)), (.int (0 : Int32)), (.int (0 : Int32)), (.int (0 : Int32)), (.int (1 : Int32)), (.int (2 : Int32)), (.int (3 : Int32))]) :: fr) O42) ?_
  rintro _ h' ⟨rfl, eh⟩
  rw [eh]; clear eh h'
  show Own.Goes _ _ _ _ _ _ _ _ _ _ _ _ _ _ _ _ _ (mkF m 91 #[.val (.ref o0), .val (.int (4 : Int32)), .val (.int (3 : Int32))] [(.int (2 : Int32)), (.int (3 : Int32)), (.ref a8)])
  refine Own.iastore hx hZ O42 2 3 rfl (by decide) (by exact (show 3 < 8 by decide)) ((o0, Own.ObjC Z "com/example/twigline/twigline/matcher/StreamHeads" [(("com/example/twigline/twigline/matcher/StreamHeads", "size", "I"), (.int (4 : Int32))), (("com/example/twigline/twigline/matcher/StreamHeads", "starts", "[J"), (.ref a3)), (("com/example/twigline/twigline/matcher/StreamHeads", "earliest", "[I"), (.ref a8))]) :: (a3, Own.ArrC Z .long [(.long (9223372036854775807 : Int64)), (.long (9223372036854775807 : Int64)), (.long (9223372036854775807 : Int64)), (.long (9223372036854775807 : Int64))]) :: (a8, Own.ArrC Z .int [(.int (0 : Int32)), (.int (0 : Int32)), (.int (0 : Int32)), (.int (2 : Int32)), (.int (0 : Int32)), (.int (1 : Int32)), (.int (2 : Int32)), (.int (3 : Int32))]) :: fr) rfl (hb hby d1_91) rfl ?_
  intro h43 O44
  refine Own.iinc hx (2 : Int32) #[.val (.ref o0), .val (.int (4 : Int32)), .val (.int (2 : Int32))] (hb hby d1_92) rfl rfl (by decide) rfl ?_
  refine Own.goto hx (hb hby d1_95) (by decide) (pc' := 60) rfl ?_
  refine Own.iloadN hx (2 : Int32) (hb hby d1_60) rfl rfl ?_
  have hc45 : (0 : Int32) < (2 : Int32) := by decide
  refine Own.ifFn hx (Own.z_le (2 : Int32)) (hb hby d1_61) (pcN := 64) rfl (by decide) (pcT := 98) rfl (fun q => absurd hc45 q) (fun _ => ?_)
  refine Own.aloadN hx (.ref o0) (hb hby d1_64) rfl rfl rfl ?_
  refine Own.getfield hx hZ hown O44 0 2 rfl rfl (hw _ (List.mem_of_getElem? (i := 16) rfl)) (hb hby d1_65) rfl ?_
  refine Own.iloadN hx (2 : Int32) (hb hby d1_68) rfl rfl ?_
  refine Own.aloadN hx (.ref o0) (hb hby d1_69) rfl rfl rfl ?_
  refine Own.aloadN hx (.ref o0) (hb hby d1_70) rfl rfl rfl ?_
  refine Own.getfield hx hZ hown O44 0 2 rfl rfl (hw _ (List.mem_of_getElem? (i := 16) rfl)) (hb hby d1_71) rfl ?_
  refine Own.iconst hx (2 : Int32) (hb hby d1_74) rfl (by decide) ?_
  refine Own.iloadN hx (2 : Int32) (hb hby d1_75) rfl rfl ?_
  refine Own.imul hx (hb hby d1_76) rfl ?_
  refine Own.vI (4 : Int32) (by decide) ?_
  refine Own.iaload hx hZ O44 2 4 rfl (by decide) (v := (.int (0 : Int32))) rfl (hb hby d1_77) rfl ?_
  refine Own.aloadN hx (.ref o0) (hb hby d1_78) rfl rfl rfl ?_
  refine Own.getfield hx hZ hown O44 0 2 rfl rfl (hw _ (List.mem_of_getElem? (i := 16) rfl)) (hb hby d1_79) rfl ?_
  refine Own.iconst hx (2 : Int32) (hb hby d1_82) rfl (by decide) ?_
  refine Own.iloadN hx (2 : Int32) (hb hby d1_83) rfl rfl ?_
  refine Own.imul hx (hb hby d1_84) rfl ?_
  refine Own.vI (4 : Int32) (by decide) ?_
  refine Own.iconst hx (1 : Int32) (hb hby d1_85) rfl (by decide) ?_
  refine Own.iadd hx (hb hby d1_86) rfl ?_
  refine Own.vI (5 : Int32) (by decide) ?_
  refine Own.iaload hx hZ O44 2 5 rfl (by decide) (v := (.int (1 : Int32))) rfl (hb hby d1_87) rfl ?_
  have O47 : Own.Owns n0 h43 ((a3, Own.ArrC Z .long [(.long (9223372036854775807 : Int64)), (.long (9223372036854775807 : Int64)), (.long (9223372036854775807 : Int64)), (.long (9223372036854775807 : Int64))]) :: (o0, Own.ObjC Z "com/example/twigline/twigline/matcher/StreamHeads" [(("com/example/twigline/twigline/matcher/StreamHeads", "size", "I"), (.int (4 : Int32))), (("com/example/twigline/twigline/matcher/StreamHeads", "starts", "[J"), (.ref a3)), (("com/example/twigline/twigline/matcher/StreamHeads", "earliest", "[I"), (.ref a8))]) :: (a8, Own.ArrC Z .int [(.int (0 : Int32)), (.int (0 : Int32)), (.int (0 : Int32)), (.int (2 : Int32)), (.int (0 : Int32)), (.int (1 : Int32)), (.int (2 : Int32)), (.int (3 : Int32))]) :: fr) := O44.pick 1 rfl
  have O48 : Own.Owns n0 h43 ((o0, Own.ObjC Z "com/example/twigline/twigline/matcher/StreamHeads" [(("com/example/twigline/twigline/matcher/StreamHeads", "size", "I"), (.int (4 : Int32))), (("com/example/twigline/twigline/matcher/StreamHeads", "starts", "[J"), (.ref a3)), (("com/example/twigline/twigline/matcher/StreamHeads", "earliest", "[I"), (.ref a8))]) :: (a3, Own.ArrC Z .long [(.long (9223372036854775807 : Int64)), (.long (9223372036854775807 : Int64)), (.long (9223372036854775807 : Int64)), (.long (9223372036854775807 : Int64))]) :: (a8, Own.ArrC Z .int [(.int (0 : Int32)), (.int (0 : Int32)), (.int (0 : Int32)), (.int (2 : Int32)), (.int (0 : Int32)), (.int (1 : Int32)), (.int (2 : Int32)), (.int (3 : Int32))]) :: fr) := O47.pick 1 rfl
  refine Own.callP hx hZ hown (O48.exa (i := 0) rfl) (hw _ (List.mem_of_getElem? (i := 24) rfl)) (hw _ (List.mem_of_getElem? (i := 25) rfl)) (hw _ (List.mem_of_getElem? (i := 3) rfl)) (hw _ (List.mem_of_getElem? (i := 26) rfl)) (hw _ (List.mem_of_getElem? (i := 4) rfl)) (hw _ (List.mem_of_getElem? (i := 27) rfl)) (by decide) pd1 (argsL := [(.int (0 : Int32)), (.int (1 : Int32))]) (rest := [(.int (2 : Int32)), (.ref a8)]) rfl (W := 2) (Nat.le_of_eq rfl) (rm := ({ frames := 0, cells := 0, slots := 0, locals := 0 } : Room)) (by decide) (by decide) (by decide) (by decide) (k' := 2) (n' := 12) rfl rfl (by rw [hml]; rfl) [(.int (1 : Int32)), (.int (0 : Int32)), (.ref o0), (.int (2 : Int32)), (.ref a8)] rfl (hb hby d1_88) (pc' := 91) rfl (rm4 l Z a0 hw o0 h43 n0 0 1 4 a3 a8 [(9223372036854775807 : Int64), (9223372036854775807 : Int64), (9223372036854775807 : Int64), (9223372036854775807 : Int64)] (by decide) (by decide) (by decide) ((a8, Own.ArrC Z .int [(.int (0 : Int32)), (.int (0 : Int32)), (.int (0 : Int32)), (.int (2 : Int32)), (.int (0 : Int32)), (.int (1 : Int32)), (.int (2 : Int32)), (.int (3 : Int32))]) :: fr) O48) ?_
  rintro _ h' ⟨rfl, eh⟩
  rw [eh]; clear eh h'
  show Own.Goes _ _ _ _ _ _ _ _ _ _ _ _ _ _ _ _ _ (mkF m 91 #[.val (.ref o0), .val (.int (4 : Int32)), .val (.int (2 : Int32))] [(.int (0 : Int32)), (.int (2 : Int32)), (.ref a8)])
  refine Own.iastore hx hZ O48 2 2 rfl (by decide) (by exact (show 2 < 8 by decide)) ((o0, Own.ObjC Z "com/example/twigline/twigline/matcher/StreamHeads" [(("com/example/twigline/twigline/matcher/StreamHeads", "size", "I"), (.int (4 : Int32))), (("com/example/twigline/twigline/matcher/StreamHeads", "starts", "[J"), (.ref a3)), (("com/example/twigline/twigline/matcher/StreamHeads", "earliest", "[I"), (.ref a8))]) :: (a3, Own.ArrC Z .long [(.long (9223372036854775807 : Int64)), (.long (9223372036854775807 : Int64)), (.long (9223372036854775807 : Int64)), (.long (9223372036854775807 : Int64))]) :: (a8, Own.ArrC Z .int [(.int (0 : Int32)), (.int (0 : Int32)), (.int (0 : Int32)), (.int (2 : Int32)), (.int (0 : Int32)), (.int (1 : Int32)), (.int (2 : Int32)), (.int (3 : Int32))]) :: fr) rfl (hb hby d1_91) rfl ?_
  intro h49 O50
  refine Own.iinc hx (1 : Int32) #[.val (.ref o0), .val (.int (4 : Int32)), .val (.int (1 : Int32))] (hb hby d1_92) rfl rfl (by decide) rfl ?_
  refine Own.goto hx (hb hby d1_95) (by decide) (pc' := 60) rfl ?_
  refine Own.iloadN hx (1 : Int32) (hb hby d1_60) rfl rfl ?_
  have hc51 : (0 : Int32) < (1 : Int32) := by decide
  refine Own.ifFn hx (Own.z_le (1 : Int32)) (hb hby d1_61) (pcN := 64) rfl (by decide) (pcT := 98) rfl (fun q => absurd hc51 q) (fun _ => ?_)
  refine Own.aloadN hx (.ref o0) (hb hby d1_64) rfl rfl rfl ?_
  refine Own.getfield hx hZ hown O50 0 2 rfl rfl (hw _ (List.mem_of_getElem? (i := 16) rfl)) (hb hby d1_65) rfl ?_
  refine Own.iloadN hx (1 : Int32) (hb hby d1_68) rfl rfl ?_
  refine Own.aloadN hx (.ref o0) (hb hby d1_69) rfl rfl rfl ?_
  refine Own.aloadN hx (.ref o0) (hb hby d1_70) rfl rfl rfl ?_
  refine Own.getfield hx hZ hown O50 0 2 rfl rfl (hw _ (List.mem_of_getElem? (i := 16) rfl)) (hb hby d1_71) rfl ?_
  refine Own.iconst hx (2 : Int32) (hb hby d1_74) rfl (by decide) ?_
  refine Own.iloadN hx (1 : Int32) (hb hby d1_75) rfl rfl ?_
  refine Own.imul hx (hb hby d1_76) rfl ?_
  refine Own.vI (2 : Int32) (by decide) ?_
  refine Own.iaload hx hZ O50 2 2 rfl (by decide) (v := (.int (0 : Int32))) rfl (hb hby d1_77) rfl ?_
  refine Own.aloadN hx (.ref o0) (hb hby d1_78) rfl rfl rfl ?_
  refine Own.getfield hx hZ hown O50 0 2 rfl rfl (hw _ (List.mem_of_getElem? (i := 16) rfl)) (hb hby d1_79) rfl ?_
  refine Own.iconst hx (2 : Int32) (hb hby d1_82) rfl (by decide) ?_
  refine Own.iloadN hx (1 : Int32) (hb hby d1_83) rfl rfl ?_
  refine Own.imul hx (hb hby d1_84) rfl ?_
  refine Own.vI (2 : Int32) (by decide) ?_
  refine Own.iconst hx (1 : Int32) (hb hby d1_85) rfl (by decide) ?_
  refine Own.iadd hx (hb hby d1_86) rfl ?_
  refine Own.vI (3 : Int32) (by decide) ?_
  refine Own.iaload hx hZ O50 2 3 rfl (by decide) (v := (.int (2 : Int32))) rfl (hb hby d1_87) rfl ?_
  have O53 : Own.Owns n0 h49 ((a3, Own.ArrC Z .long [(.long (9223372036854775807 : Int64)), (.long (9223372036854775807 : Int64)), (.long (9223372036854775807 : Int64)), (.long (9223372036854775807 : Int64))]) :: (o0, Own.ObjC Z "com/example/twigline/twigline/matcher/StreamHeads" [(("com/example/twigline/twigline/matcher/StreamHeads", "size", "I"), (.int (4 : Int32))), (("com/example/twigline/twigline/matcher/StreamHeads", "starts", "[J"), (.ref a3)), (("com/example/twigline/twigline/matcher/StreamHeads", "earliest", "[I"), (.ref a8))]) :: (a8, Own.ArrC Z .int [(.int (0 : Int32)), (.int (0 : Int32)), (.int (0 : Int32)), (.int (2 : Int32)), (.int (0 : Int32)), (.int (1 : Int32)), (.int (2 : Int32)), (.int (3 : Int32))]) :: fr) := O50.pick 1 rfl
  have O54 : Own.Owns n0 h49 ((o0, Own.ObjC Z "com/example/twigline/twigline/matcher/StreamHeads" [(("com/example/twigline/twigline/matcher/StreamHeads", "size", "I"), (.int (4 : Int32))), (("com/example/twigline/twigline/matcher/StreamHeads", "starts", "[J"), (.ref a3)), (("com/example/twigline/twigline/matcher/StreamHeads", "earliest", "[I"), (.ref a8))]) :: (a3, Own.ArrC Z .long [(.long (9223372036854775807 : Int64)), (.long (9223372036854775807 : Int64)), (.long (9223372036854775807 : Int64)), (.long (9223372036854775807 : Int64))]) :: (a8, Own.ArrC Z .int [(.int (0 : Int32)), (.int (0 : Int32)), (.int (0 : Int32)), (.int (2 : Int32)), (.int (0 : Int32)), (.int (1 : Int32)), (.int (2 : Int32)), (.int (3 : Int32))]) :: fr) := O53.pick 1 rfl
  refine Own.callP hx hZ hown (O54.exa (i := 0) rfl) (hw _ (List.mem_of_getElem? (i := 24) rfl)) (hw _ (List.mem_of_getElem? (i := 25) rfl)) (hw _ (List.mem_of_getElem? (i := 3) rfl)) (hw _ (List.mem_of_getElem? (i := 26) rfl)) (hw _ (List.mem_of_getElem? (i := 4) rfl)) (hw _ (List.mem_of_getElem? (i := 27) rfl)) (by decide) pd1 (argsL := [(.int (0 : Int32)), (.int (2 : Int32))]) (rest := [(.int (1 : Int32)), (.ref a8)]) rfl (W := 2) (Nat.le_of_eq rfl) (rm := ({ frames := 0, cells := 0, slots := 0, locals := 0 } : Room)) (by decide) (by decide) (by decide) (by decide) (k' := 2) (n' := 12) rfl rfl (by rw [hml]; rfl) [(.int (2 : Int32)), (.int (0 : Int32)), (.ref o0), (.int (1 : Int32)), (.ref a8)] rfl (hb hby d1_88) (pc' := 91) rfl (rm4 l Z a0 hw o0 h49 n0 0 2 4 a3 a8 [(9223372036854775807 : Int64), (9223372036854775807 : Int64), (9223372036854775807 : Int64), (9223372036854775807 : Int64)] (by decide) (by decide) (by decide) ((a8, Own.ArrC Z .int [(.int (0 : Int32)), (.int (0 : Int32)), (.int (0 : Int32)), (.int (2 : Int32)), (.int (0 : Int32)), (.int (1 : Int32)), (.int (2 : Int32)), (.int (3 : Int32))]) :: fr) O54) ?_
  rintro _ h' ⟨rfl, eh⟩
  rw [eh]; clear eh h'
  show Own.Goes _ _ _ _ _ _ _ _ _ _ _ _ _ _ _ _ _ (mkF m 91 #[.val (.ref o0), .val (.int (4 : Int32)), .val (.int (1 : Int32))] [(.int (0 : Int32)), (.int (1 : Int32)), (.ref a8)])
  refine Own.iastore hx hZ O54 2 1 rfl (by decide) (by exact (show 1 < 8 by decide)) ((o0, Own.ObjC Z "com/example/twigline/twigline/matcher/StreamHeads" [(("com/example/twigline/twigline/matcher/StreamHeads", "size", "I"), (.int (4 : Int32))), (("com/example/twigline/twigline/matcher/StreamHeads", "starts", "[J"), (.ref a3)), (("com/example/twigline/twigline/matcher/StreamHeads", "earliest", "[I"), (.ref a8))]) :: (a3, Own.ArrC Z .long [(.long (9223372036854775807 : Int64)), (.long (9223372036854775807 : Int64)), (.long (9223372036854775807 : Int64)), (.long (9223372036854775807 : Int64))]) :: (a8, Own.ArrC Z .int [(.int (0 : Int32)), (.int (0 : Int32)), (.int (0 : Int32)), (.int (2 : Int32)), (.int (0 : Int32)), (.int (1 : Int32)), (.int (2 : Int32)), (.int (3 : Int32))]) :: fr) rfl (hb hby d1_91) rfl ?_
  intro h55 O56
  refine Own.iinc hx (0 : Int32) #[.val (.ref o0), .val (.int (4 : Int32)), .val (.int (0 : Int32))] (hb hby d1_92) rfl rfl (by decide) rfl ?_
  refine Own.goto hx (hb hby d1_95) (by decide) (pc' := 60) rfl ?_
  refine Own.iloadN hx (0 : Int32) (hb hby d1_60) rfl rfl ?_
  have hc57 : ¬ ((0 : Int32) < (0 : Int32)) := by decide
  refine Own.ifFn hx (Own.z_le (0 : Int32)) (hb hby d1_61) (pcN := 64) rfl (by decide) (pcT := 98) rfl (fun _ => ?_) (fun q => absurd q hc57)
  have O59 : Own.Owns n0 h55 ((a8, Own.ArrC Z .int [(.int (0 : Int32)), (.int (0 : Int32)), (.int (0 : Int32)), (.int (2 : Int32)), (.int (0 : Int32)), (.int (1 : Int32)), (.int (2 : Int32)), (.int (3 : Int32))]) :: (o0, Own.ObjC Z "com/example/twigline/twigline/matcher/StreamHeads" [(("com/example/twigline/twigline/matcher/StreamHeads", "size", "I"), (.int (4 : Int32))), (("com/example/twigline/twigline/matcher/StreamHeads", "starts", "[J"), (.ref a3)), (("com/example/twigline/twigline/matcher/StreamHeads", "earliest", "[I"), (.ref a8))]) :: (a3, Own.ArrC Z .long [(.long (9223372036854775807 : Int64)), (.long (9223372036854775807 : Int64)), (.long (9223372036854775807 : Int64)), (.long (9223372036854775807 : Int64))]) :: fr) := O56.pick 2 rfl
  have O60 : Own.Owns n0 h55 ((a3, Own.ArrC Z .long [(.long (9223372036854775807 : Int64)), (.long (9223372036854775807 : Int64)), (.long (9223372036854775807 : Int64)), (.long (9223372036854775807 : Int64))]) :: (a8, Own.ArrC Z .int [(.int (0 : Int32)), (.int (0 : Int32)), (.int (0 : Int32)), (.int (2 : Int32)), (.int (0 : Int32)), (.int (1 : Int32)), (.int (2 : Int32)), (.int (3 : Int32))]) :: (o0, Own.ObjC Z "com/example/twigline/twigline/matcher/StreamHeads" [(("com/example/twigline/twigline/matcher/StreamHeads", "size", "I"), (.int (4 : Int32))), (("com/example/twigline/twigline/matcher/StreamHeads", "starts", "[J"), (.ref a3)), (("com/example/twigline/twigline/matcher/StreamHeads", "earliest", "[I"), (.ref a8))]) :: fr) := O59.pick 2 rfl
  have O61 : Own.Owns n0 h55 ((o0, Own.ObjC Z "com/example/twigline/twigline/matcher/StreamHeads" [(("com/example/twigline/twigline/matcher/StreamHeads", "size", "I"), (.int (4 : Int32))), (("com/example/twigline/twigline/matcher/StreamHeads", "starts", "[J"), (.ref a3)), (("com/example/twigline/twigline/matcher/StreamHeads", "earliest", "[I"), (.ref a8))]) :: (a3, Own.ArrC Z .long [(.long (9223372036854775807 : Int64)), (.long (9223372036854775807 : Int64)), (.long (9223372036854775807 : Int64)), (.long (9223372036854775807 : Int64))]) :: (a8, Own.ArrC Z .int [(.int (0 : Int32)), (.int (0 : Int32)), (.int (0 : Int32)), (.int (2 : Int32)), (.int (0 : Int32)), (.int (1 : Int32)), (.int (2 : Int32)), (.int (3 : Int32))]) :: fr) := O60.pick 2 rfl
  exact Own.retV hx hret hlk (hb hby d1_98) (by decide) (by decide) ⟨a3, a8, rfl, O61⟩

theorem ef1_5 (m : MethodId) (x0 : Addr) (x1 : Int32) : entryFrame m #[(.ref x0), (.int x1)] 3 = mkF m 0 #[.val (.ref x0), .val (.int x1), .unset] [] := by first | (simp [entryFrame, mkF, argsToLocals, Value.category]; done) | rfl
set_option maxRecDepth 65536 in
set_option maxHeartbeats 40000000 in
theorem rm1_5 (l : Launch) (Z : State) (a0 : Array Value) (hw : ∀ d ∈ tables_1, d.before a0 Z = true) (o0 : Addr) (h0 : Heap) (n0 : Nat)  (fr : List (Addr × (Cell → Prop))) (O0 : Own.Owns n0 h0 ((o0, Own.ObjC Z "com/example/twigline/twigline/matcher/StreamHeads" [(("com/example/twigline/twigline/matcher/StreamHeads", "size", "I"), (.int (0 : Int32))), (("com/example/twigline/twigline/matcher/StreamHeads", "starts", "[J"), .null), (("com/example/twigline/twigline/matcher/StreamHeads", "earliest", "[I"), .null)]) :: fr))  : Own.Does l (⟨"com/example/twigline/twigline/matcher/StreamHeads", "<init>", "(I)V"⟩ : MethodName) prog_27_method_1_code 3 none [] ({ frames := 1, cells := 2, slots := 15, locals := 16 } : Room) Z #[(.ref o0), (.int (5 : Int32))] h0 n0 (fun v h => ∃ ra rb, v = none ∧ Own.Owns n0 h ((o0, Own.ObjC Z "com/example/twigline/twigline/matcher/StreamHeads" [(("com/example/twigline/twigline/matcher/StreamHeads", "size", "I"), (.int (5 : Int32))), (("com/example/twigline/twigline/matcher/StreamHeads", "starts", "[J"), (.ref ra)), (("com/example/twigline/twigline/matcher/StreamHeads", "earliest", "[I"), (.ref rb))]) :: (ra, Own.ArrC Z .long [(.long (9223372036854775807 : Int64)), (.long (9223372036854775807 : Int64)), (.long (9223372036854775807 : Int64)), (.long (9223372036854775807 : Int64)), (.long (9223372036854775807 : Int64))]) :: (rb, Own.ArrC Z .int [(.int (0 : Int32)), (.int (3 : Int32)), (.int (3 : Int32)), (.int (1 : Int32)), (.int (3 : Int32)), (.int (0 : Int32)), (.int (1 : Int32)), (.int (2 : Int32)), (.int (3 : Int32)), (.int (4 : Int32))]) :: fr)) := by
  refine Own.doesOf pn3 ?_
  intro p e s m below meth c hx hby hml hret hlk hown hnm hZ
  refine Own.Goes.cast (ef1_5 m o0 (5 : Int32)) ?_
  refine Own.aloadN hx (.ref o0) (hb hby d1_0) rfl rfl rfl ?_
  refine Own.initobj hx hZ hown (hw _ (List.mem_of_getElem? (i := 8) rfl)) (hw _ (List.mem_of_getElem? (i := 9) rfl)) (hw _ (List.mem_of_getElem? (i := 10) rfl)) (by rw [hml]; rfl) (W := 0) (Nat.le_of_eq rfl) (by decide) (by decide) (hb hby d1_1) rfl ?_
  refine Own.aloadN hx (.ref o0) (hb hby d1_4) rfl rfl rfl ?_
  refine Own.iloadN hx (5 : Int32) (hb hby d1_5) rfl rfl ?_
  refine Own.putfield hx hZ hown O0 0 0 rfl rfl (hw _ (List.mem_of_getElem? (i := 11) rfl)) (Or.inr ⟨(hw _ (List.mem_of_getElem? (i := 12) rfl)), rfl, hnm⟩) (hw _ (List.mem_of_getElem? (i := 3) rfl)) (ty := .int) (by decide) rfl rfl ((o0, Own.ObjC Z "com/example/twigline/twigline/matcher/StreamHeads" [(("com/example/twigline/twigline/matcher/StreamHeads", "size", "I"), (.int (5 : Int32))), (("com/example/twigline/twigline/matcher/StreamHeads", "starts", "[J"), .null), (("com/example/twigline/twigline/matcher/StreamHeads", "earliest", "[I"), .null)]) :: fr) rfl (hb hby d1_6) rfl ?_
  intro h1 O2
  refine Own.aloadN hx (.ref o0) (hb hby d1_9) rfl rfl rfl ?_
  refine Own.iloadN hx (5 : Int32) (hb hby d1_10) rfl rfl ?_
  refine Own.newarr hx hZ O2 (aty := .long) (hw _ (List.mem_of_getElem? (i := 0) rfl)) 5 (by decide) [(.long (0 : Int64)), (.long (0 : Int64)), (.long (0 : Int64)), (.long (0 : Int64)), (.long (0 : Int64))] rfl rfl (cap := 5) (by decide) (by decide) (k' := 1) (n' := 5) rfl rfl (by decide) (by decide) (hb hby d1_11) (pc' := 13) rfl ?_
  intro a3 h4 O5
  refine Own.putfield hx hZ hown O5 1 1 rfl rfl (hw _ (List.mem_of_getElem? (i := 13) rfl)) (Or.inr ⟨(hw _ (List.mem_of_getElem? (i := 14) rfl)), rfl, hnm⟩) (hw _ (List.mem_of_getElem? (i := 3) rfl)) (ty := (.array .long)) (by decide) rfl rfl ((a3, Own.ArrC Z .long [(.long (0 : Int64)), (.long (0 : Int64)), (.long (0 : Int64)), (.long (0 : Int64)), (.long (0 : Int64))]) :: (o0, Own.ObjC Z "com/example/twigline/twigline/matcher/StreamHeads" [(("com/example/twigline/twigline/matcher/StreamHeads", "size", "I"), (.int (5 : Int32))), (("com/example/twigline/twigline/matcher/StreamHeads", "starts", "[J"), (.ref a3)), (("com/example/twigline/twigline/matcher/StreamHeads", "earliest", "[I"), .null)]) :: fr) rfl (hb hby d1_13) rfl ?_
  intro h6 O7
  refine Own.aloadN hx (.ref o0) (hb hby d1_16) rfl rfl rfl ?_
  refine Own.iconst hx (2 : Int32) (hb hby d1_17) rfl (by decide) ?_
  refine Own.iloadN hx (5 : Int32) (hb hby d1_18) rfl rfl ?_
  refine Own.imul hx (hb hby d1_19) rfl ?_
  refine Own.vI (10 : Int32) (by decide) ?_
  refine Own.newarr hx hZ O7 (aty := .int) (hw _ (List.mem_of_getElem? (i := 15) rfl)) 10 (by decide) [(.int (0 : Int32)), (.int (0 : Int32)), (.int (0 : Int32)), (.int (0 : Int32)), (.int (0 : Int32)), (.int (0 : Int32)), (.int (0 : Int32)), (.int (0 : Int32)), (.int (0 : Int32)), (.int (0 : Int32))] rfl rfl (cap := 10) (by decide) (by decide) (k' := 2) (n' := 15) rfl rfl (by decide) (by decide) (hb hby d1_20) (pc' := 22) rfl ?_
  intro a8 h9 O10
  refine Own.putfield hx hZ hown O10 2 2 rfl rfl (hw _ (List.mem_of_getElem? (i := 16) rfl)) (Or.inr ⟨(hw _ (List.mem_of_getElem? (i := 17) rfl)), rfl, hnm⟩) (hw _ (List.mem_of_getElem? (i := 3) rfl)) (ty := (.array .int)) (by decide) rfl rfl ((a8, Own.ArrC Z .int [(.int (0 : Int32)), (.int (0 : Int32)), (.int (0 : Int32)), (.int (0 : Int32)), (.int (0 : Int32)), (.int (0 : Int32)), (.int (0 : Int32)), (.int (0 : Int32)), (.int (0 : Int32)), (.int (0 : Int32))]) :: (a3, Own.ArrC Z .long [(.long (0 : Int64)), (.long (0 : Int64)), (.long (0 : Int64)), (.long (0 : Int64)), (.long (0 : Int64))]) :: (o0, Own.ObjC Z "com/example/twigline/twigline/matcher/StreamHeads" [(("com/example/twigline/twigline/matcher/StreamHeads", "size", "I"), (.int (5 : Int32))), (("com/example/twigline/twigline/matcher/StreamHeads", "starts", "[J"), (.ref a3)), (("com/example/twigline/twigline/matcher/StreamHeads", "earliest", "[I"), (.ref a8))]) :: fr) rfl (hb hby d1_22) rfl ?_
  intro h11 O12
  refine Own.iconst hx (0 : Int32) (hb hby d1_25) rfl (by decide) ?_
  refine Own.istoreN hx (0 : Int32) rfl #[.val (.ref o0), .val (.int (5 : Int32)), .val (.int (0 : Int32))] (hb hby d1_26) rfl rfl ?_
  refine Own.iloadN hx (0 : Int32) (hb hby d1_27) rfl rfl ?_
  refine Own.iloadN hx (5 : Int32) (hb hby d1_28) rfl rfl ?_
  have hc13 : (0 : Int32) < (5 : Int32) := by decide
  refine Own.icmpFn hx (Own.q_ge (0 : Int32) (5 : Int32)) (hb hby d1_29) (pcN := 32) rfl (by decide) (pcT := 56) rfl (fun q => absurd hc13 q) (fun _ => ?_)
  refine Own.aloadN hx (.ref o0) (hb hby d1_32) rfl rfl rfl ?_
  refine Own.getfield hx hZ hown O12 2 1 rfl rfl (hw _ (List.mem_of_getElem? (i := 13) rfl)) (hb hby d1_33) rfl ?_
  refine Own.iloadN hx (0 : Int32) (hb hby d1_36) rfl rfl ?_
  refine Own.ldc2 hx hZ hown (9223372036854775807 : Int64) (hb hby d1_37) rfl (hw _ (List.mem_of_getElem? (i := 23) rfl)) ?_
  refine Own.lastore hx hZ O12 1 0 rfl (by decide) (by exact (show 0 < 5 by decide)) ((a8, Own.ArrC Z .int [(.int (0 : Int32)), (.int (0 : Int32)), (.int (0 : Int32)), (.int (0 : Int32)), (.int (0 : Int32)), (.int (0 : Int32)), (.int (0 : Int32)), (.int (0 : Int32)), (.int (0 : Int32)), (.int (0 : Int32))]) :: (a3, Own.ArrC Z .long [(.long (9223372036854775807 : Int64)), (.long (0 : Int64)), (.long (0 : Int64)), (.long (0 : Int64)), (.long (0 : Int64))]) :: (o0, Own.ObjC Z "com/example/twigline/twigline/matcher/StreamHeads" [(("com/example/twigline/twigline/matcher/StreamHeads", "size", "I"), (.int (5 : Int32))), (("com/example/twigline/twigline/matcher/StreamHeads", "starts", "[J"), (.ref a3)), (("com/example/twigline/twigline/matcher/StreamHeads", "earliest", "[I"), (.ref a8))]) :: fr) rfl (hb hby d1_40) rfl ?_
  intro h15 O16
  refine Own.aloadN hx (.ref o0) (hb hby d1_41) rfl rfl rfl ?_
  refine Own.getfield hx hZ hown O16 2 2 rfl rfl (hw _ (List.mem_of_getElem? (i := 16) rfl)) (hb hby d1_42) rfl ?_
  refine Own.iloadN hx (5 : Int32) (hb hby d1_45) rfl rfl ?_
  refine Own.iloadN hx (0 : Int32) (hb hby d1_46) rfl rfl ?_
  refine Own.iadd hx (hb hby d1_47) rfl ?_
  refine Own.vI (5 : Int32) (by decide) ?_
  refine Own.iloadN hx (0 : Int32) (hb hby d1_48) rfl rfl ?_
  refine Own.iastore hx hZ O16 0 5 rfl (by decide) (by exact (show 5 < 10 by decide)) ((a8, Own.ArrC Z .int [(.int (0 : Int32)), (.int (0 : Int32)), (.int (0 : Int32)), (.int (0 : Int32)), (.int (0 : Int32)), (.int (0 : Int32)), (.int (0 : Int32)), (.int (0 : Int32)), (.int (0 : Int32)), (.int (0 : Int32))]) :: (a3, Own.ArrC Z .long [(.long (9223372036854775807 : Int64)), (.long (0 : Int64)), (.long (0 : Int64)), (.long (0 : Int64)), (.long (0 : Int64))]) :: (o0, Own.ObjC Z "com/example/twigline/twigline/matcher/StreamHeads" [(("com/example/twigline/twigline/matcher/StreamHeads", "size", "I"), (.int (5 : Int32))), (("com/example/twigline/twigline/matcher/StreamHeads", "starts", "[J"), (.ref a3)), (("com/example/twigline/twigline/matcher/StreamHeads", "earliest", "[I"), (.ref a8))]) :: fr) rfl (hb hby d1_49) rfl ?_
  intro h17 O18
  refine Own.iinc hx (1 : Int32) #[.val (.ref o0), .val (.int (5 : Int32)), .val (.int (1 : Int32))] (hb hby d1_50) rfl rfl (by decide) rfl ?_
  refine Own.goto hx (hb hby d1_53) (by decide) (pc' := 27) rfl ?_
  refine Own.iloadN hx (1 : Int32) (hb hby d1_27) rfl rfl ?_
  refine Own.iloadN hx (5 : Int32) (hb hby d1_28) rfl rfl ?_
  have hc19 : (1 : Int32) < (5 : Int32) := by decide
  refine Own.icmpFn hx (Own.q_ge (1 : Int32) (5 : Int32)) (hb hby d1_29) (pcN := 32) rfl (by decide) (pcT := 56) rfl (fun q => absurd hc19 q) (fun _ => ?_)
  refine Own.aloadN hx (.ref o0) (hb hby d1_32) rfl rfl rfl ?_
  refine Own.getfield hx hZ hown O18 2 1 rfl rfl (hw _ (List.mem_of_getElem? (i := 13) rfl)) (hb hby d1_33) rfl ?_
  refine Own.iloadN hx (1 : Int32) (hb hby d1_36) rfl rfl ?_
  refine Own.ldc2 hx hZ hown (9223372036854775807 : Int64) (hb hby d1_37) rfl (hw _ (List.mem_of_getElem? (i := 23) rfl)) ?_
  refine Own.lastore hx hZ O18 1 1 rfl (by decide) (by exact (show 1 < 5 by decide)) ((a8, Own.ArrC Z .int [(.int (0 : Int32)), (.int (0 : Int32)), (.int (0 : Int32)), (.int (0 : Int32)), (.int (0 : Int32)), (.int (0 : Int32)), (.int (0 : Int32)), (.int (0 : Int32)), (.int (0 : Int32)), (.int (0 : Int32))]) :: (a3, Own.ArrC Z .long [(.long (9223372036854775807 : Int64)), (.long (9223372036854775807 : Int64)), (.long (0 : Int64)), (.long (0 : Int64)), (.long (0 : Int64))]) :: (o0, Own.ObjC Z "com/example/twigline/twigline/matcher/StreamHeads" [(("com/example/twigline/twigline/matcher/StreamHeads", "size", "I"), (.int (5 : Int32))), (("com/example/twigline/twigline/matcher/StreamHeads", "starts", "[J"), (.ref a3)), (("com/example/twigline/twigline/matcher/StreamHeads", "earliest", "[I"), (.ref a8))]) :: fr) rfl (hb hby d1_40) rfl ?_
  intro h21 O22
  refine Own.aloadN hx (.ref o0) (hb hby d1_41) rfl rfl rfl ?_
  refine Own.getfield hx hZ hown O22 2 2 rfl rfl (hw _ (List.mem_of_getElem? (i := 16) rfl)) (hb hby d1_42) rfl ?_
  refine Own.iloadN hx (5 : Int32) (hb hby d1_45) rfl rfl ?_
  refine Own.iloadN hx (1 : Int32) (hb hby d1_46) rfl rfl ?_
  refine Own.iadd hx (hb hby d1_47) rfl ?_
  refine Own.vI (6 : Int32) (by decide) ?_
  refine Own.iloadN hx (1 : Int32) (hb hby d1_48) rfl rfl ?_
  refine Own.iastore hx hZ O22 0 6 rfl (by decide) (by exact (show 6 < 10 by decide)) ((a8, Own.ArrC Z .int [(.int (0 : Int32)), (.int (0 : Int32)), (.int (0 : Int32)), (.int (0 : Int32)), (.int (0 : Int32)), (.int (0 : Int32)), (.int (1 : Int32)), (.int (0 : Int32)), (.int (0 : Int32)), (.int (0 : Int32))]) :: (a3, Own.ArrC Z .long [(.long (9223372036854775807 : Int64)), (.long (9223372036854775807 : Int64)), (.long (0 : Int64)), (.long (0 : Int64)), (.long (0 : Int64))]) :: (o0, Own.ObjC Z "com/example/twigline/twigline/matcher/StreamHeads" [(("com/example/twigline/twigline/matcher/StreamHeads", "size", "I"), (.int (5 : Int32))), (("com/example/twigline/twigline/matcher/StreamHeads", "starts", "[J"), (.ref a3)), (("com/example/twigline/twigline/matcher/StreamHeads", "earliest", "[I"), (.ref a8))]) :: fr) rfl (hb hby d1_49) rfl ?_
  intro h23 O24
  refine Own.iinc hx (2 : Int32) #[.val (.ref o0), .val (.int (5 : Int32)), .val (.int (2 : Int32))] (hb hby d1_50) rfl rfl (by decide) rfl ?_
  refine Own.goto hx (hb hby d1_53) (by decide) (pc' := 27) rfl ?_
  refine Own.iloadN hx (2 : Int32) (hb hby d1_27) rfl rfl ?_
  refine Own.iloadN hx (5 : Int32) (hb hby d1_28) rfl rfl ?_
  have hc25 : (2 : Int32) < (5 : Int32) := by decide
  refine Own.icmpFn hx (Own.q_ge (2 : Int32) (5 : Int32)) (hb hby d1_29) (pcN := 32) rfl (by decide) (pcT := 56) rfl (fun q => absurd hc25 q) (fun _ => ?_)
  refine Own.aloadN hx (.ref o0) (hb hby d1_32) rfl rfl rfl ?_
  refine Own.getfield hx hZ hown O24 2 1 rfl rfl (hw _ (List.mem_of_getElem? (i := 13) rfl)) (hb hby d1_33) rfl ?_
  refine Own.iloadN hx (2 : Int32) (hb hby d1_36) rfl rfl ?_
  refine Own.ldc2 hx hZ hown (9223372036854775807 : Int64) (hb hby d1_37) rfl (hw _ (List.mem_of_getElem? (i := 23) rfl)) ?_
  refine Own.lastore hx hZ O24 1 2 rfl (by decide) (by exact (show 2 < 5 by decide)) ((a8, Own.ArrC Z .int [(.int (0 : Int32)), (.int (0 : Int32)), (.int (0 : Int32)), (.int (0 : Int32)), (.int (0 : Int32)), (.int (0 : Int32)), (.int (1 : Int32)), (.int (0 : Int32)), (.int (0 : Int32)), (.int (0 : Int32))]) :: (a3, Own.ArrC Z .long [(.long (9223372036854775807 : Int64)), (.long (9223372036854775807 : Int64)), (.long (9223372036854775807 : Int64)), (.long (0 : Int64)), (.long (0 : Int64))]) :: (o0, Own.ObjC Z "com/example/twigline/twigline/matcher/StreamHeads" [(("com/example/twigline/twigline/matcher/StreamHeads", "size", "I"), (.int (5 : Int32))), (("com/example/twigline/twigline/matcher/StreamHeads", "starts", "[J"), (.ref a3)), (("com/example/twigline/twigline/matcher/StreamHeads", "earliest", "[I"), (.ref a8))]) :: fr) rfl (hb hby d1_40) rfl ?_
  intro h27 O28
  refine Own.aloadN hx (.ref o0) (hb hby d1_41) rfl rfl rfl ?_
  refine Own.getfield hx hZ hown O28 2 2 rfl rfl (hw _ (List.mem_of_getElem? (i := 16) rfl)) (hb hby d1_42) rfl ?_
  refine Own.iloadN hx (5 : Int32) (hb hby d1_45) rfl rfl ?_
  refine Own.iloadN hx (2 : Int32) (hb hby d1_46) rfl rfl ?_
  refine Own.iadd hx (hb hby d1_47) rfl ?_
  refine Own.vI (7 : Int32) (by decide) ?_
  refine Own.iloadN hx (2 : Int32) (hb hby d1_48) rfl rfl ?_
  refine Own.iastore hx hZ O28 0 7 rfl (by decide) (by exact (show 7 < 10 by decide)) ((a8, Own.ArrC Z .int [(.int (0 : Int32)), (.int (0 : Int32)), (.int (0 : Int32)), (.int (0 : Int32)), (.int (0 : Int32)), (.int (0 : Int32)), (.int (1 : Int32)), (.int (2 : Int32)), (.int (0 : Int32)), (.int (0 : Int32))]) :: (a3, Own.ArrC Z .long [(.long (9223372036854775807 : Int64)), (.long (9223372036854775807 : Int64)), (.long (9223372036854775807 : Int64)), (.long (0 : Int64)), (.long (0 : Int64))]) :: (o0, Own.ObjC Z "com/example/twigline/twigline/matcher/StreamHeads" [(("com/example/twigline/twigline/matcher/StreamHeads", "size", "I"), (.int (5 : Int32))), (("com/example/twigline/twigline/matcher/StreamHeads", "starts", "[J"), (.ref a3)), (("com/example/twigline/twigline/matcher/StreamHeads", "earliest", "[I"), (.ref a8))]) :: fr) rfl (hb hby d1_49) rfl ?_
  intro h29 O30
  refine Own.iinc hx (3 : Int32) #[.val (.ref o0), .val (.int (5 : Int32)), .val (.int (3 : Int32))] (hb hby d1_50) rfl rfl (by decide) rfl ?_
  refine Own.goto hx (hb hby d1_53) (by decide) (pc' := 27) rfl ?_
  refine Own.iloadN hx (3 : Int32) (hb hby d1_27) rfl rfl ?_
  refine Own.iloadN hx (5 : Int32) (hb hby d1_28) rfl rfl ?_
  have hc31 : (3 : Int32) < (5 : Int32) := by decide
  refine Own.icmpFn hx (Own.q_ge (3 : Int32) (5 : Int32)) (hb hby d1_29) (pcN := 32) rfl (by decide) (pcT := 56) rfl (fun q => absurd hc31 q) (fun _ => ?_)
  refine Own.aloadN hx (.ref o0) (hb hby d1_32) rfl rfl rfl ?_
  refine Own.getfield hx hZ hown O30 2 1 rfl rfl (hw _ (List.mem_of_getElem? (i := 13) rfl)) (hb hby d1_33) rfl ?_
  refine Own.iloadN hx (3 : Int32) (hb hby d1_36) rfl rfl ?_
  refine Own.ldc2 hx hZ hown (9223372036854775807 : Int64) (hb hby d1_37) rfl (hw _ (List.mem_of_getElem? (i := 23) rfl)) ?_
  refine Own.lastore hx hZ O30 1 3 rfl (by decide) (by exact (show 3 < 5 by decide)) ((a8, Own.ArrC Z .int [(.int (0 : Int32)), (.int (0 : Int32)), (.int (0 : Int32)), (.int (0 : Int32)), (.int (0 : Int32)), (.int (0 : Int32)), (.int (1 : Int32)), (.int (2 : Int32)), (.int (0 : Int32)), (.int (0 : Int32))]) :: (a3, Own.ArrC Z .long [(.long (9223372036854775807 : Int64)), (.long (9223372036854775807 : Int64)), (.long (9223372036854775807 : Int64)), (.long (9223372036854775807 : Int64)), (.long (0 : Int64))]) :: (o0, Own.ObjC Z "com/example/twigline/twigline/matcher/StreamHeads" [(("com/example/twigline/twigline/matcher/StreamHeads", "size", "I"), (.int (5 : Int32))), (("com/example/twigline/twigline/matcher/StreamHeads", "starts", "[J"), (.ref a3)), (("com/example/twigline/twigline/matcher/StreamHeads", "earliest", "[I"), (.ref a8))]) :: fr) rfl (hb hby d1_40) rfl ?_
  intro h33 O34
  refine Own.aloadN hx (.ref o0) (hb hby d1_41) rfl rfl rfl ?_
  refine Own.getfield hx hZ hown O34 2 2 rfl rfl (hw _ (List.mem_of_getElem? (i := 16) rfl)) (hb hby d1_42) rfl ?_
  refine Own.iloadN hx (5 : Int32) (hb hby d1_45) rfl rfl ?_
  refine Own.iloadN hx (3 : Int32) (hb hby d1_46) rfl rfl ?_
  refine Own.iadd hx (hb hby d1_47) rfl ?_
  refine Own.vI (8 : Int32) (by decide) ?_
  refine Own.iloadN hx (3 : Int32) (hb hby d1_48) rfl rfl ?_
  refine Own.iastore hx hZ O34 0 8 rfl (by decide) (by exact (show 8 < 10 by decide)) ((a8, Own.ArrC Z .int [(.int (0 : Int32)), (.int (0 : Int32)), (.int (0 : Int32)), (.int (0 : Int32)), (.int (0 : Int32)), (.int (0 : Int32)), (.int (1 : Int32)), (.int (2 : Int32)), (.int (3 : Int32)), (.int (0 : Int32))]) :: (a3, Own.ArrC Z .long [(.long (9223372036854775807 : Int64)), (.long (9223372036854775807 : Int64)), (.long (9223372036854775807 : Int64)), (.long (9223372036854775807 : Int64)), (.long (0 : Int64))]) :: (o0, Own.ObjC Z "com/example/twigline/twigline/matcher/StreamHeads" [(("com/example/twigline/twigline/matcher/StreamHeads", "size", "I"), (.int (5 : Int32))), (("com/example/twigline/twigline/matcher/StreamHeads", "starts", "[J"), (.ref a3)), (("com/example/twigline/twigline/matcher/StreamHeads", "earliest", "[I"), (.ref a8))]) :: fr) rfl (hb hby d1_49) rfl ?_
  intro h35 O36
  refine Own.iinc hx (4 : Int32) #[.val (.ref o0), .val (.int (5 : Int32)), .val (.int (4 : Int32))] (hb hby d1_50) rfl rfl (by decide) rfl ?_
  refine Own.goto hx (hb hby d1_53) (by decide) (pc' := 27) rfl ?_
  refine Own.iloadN hx (4 : Int32) (hb hby d1_27) rfl rfl ?_
  refine Own.iloadN hx (5 : Int32) (hb hby d1_28) rfl rfl ?_
  have hc37 : (4 : Int32) < (5 : Int32) := by decide
  refine Own.icmpFn hx (Own.q_ge (4 : Int32) (5 : Int32)) (hb hby d1_29) (pcN := 32) rfl (by decide) (pcT := 56) rfl (fun q => absurd hc37 q) (fun _ => ?_)
  refine Own.aloadN hx (.ref o0) (hb hby d1_32) rfl rfl rfl ?_
  refine Own.getfield hx hZ hown O36 2 1 rfl rfl (hw _ (List.mem_of_getElem? (i := 13) rfl)) (hb hby d1_33) rfl ?_
  refine Own.iloadN hx (4 : Int32) (hb hby d1_36) rfl rfl ?_
  refine Own.ldc2 hx hZ hown (9223372036854775807 : Int64) (hb hby d1_37) rfl (hw _ (List.mem_of_getElem? (i := 23) rfl)) ?_
  refine Own.lastore hx hZ O36 1 4 rfl (by decide) (by exact (show 4 < 5 by decide)) ((a8, Own.ArrC Z .int [(.int (0 : Int32)), (.int (0 : Int32)), (.int (0 : Int32)), (.int (0 : Int32)), (.int (0 : Int32)), (.int (0 : Int32)), (.int (1 : Int32)), (.int (2 : Int32)), (.int (3 : Int32)), (.int (0 : Int32))]) :: (a3, Own.ArrC Z .long [(.long (9223372036854775807 : Int64)), (.long (9223372036854775807 : Int64)), (.long (9223372036854775807 : Int64)), (.long (9223372036854775807 : Int64)), (.long (9223372036854775807 : Int64))]) :: (o0, Own.ObjC Z "com/example/twigline/twigline/matcher/StreamHeads" [(("com/example/twigline/twigline/matcher/StreamHeads", "size", "I"), (.int (5 : Int32))), (("com/example/twigline/twigline/matcher/StreamHeads", "starts", "[J"), (.ref a3)), (("com/example/twigline/twigline/matcher/StreamHeads", "earliest", "[I"), (.ref a8))]) :: fr) rfl (hb hby d1_40) rfl ?_
  intro h39 O40
  refine Own.aloadN hx (.ref o0) (hb hby d1_41) rfl rfl rfl ?_
  refine Own.getfield hx hZ hown O40 2 2 rfl rfl (hw _ (List.mem_of_getElem? (i := 16) rfl)) (hb hby d1_42) rfl ?_
  refine Own.iloadN hx (5 : Int32) (hb hby d1_45) rfl rfl ?_
  refine Own.iloadN hx (4 : Int32) (hb hby d1_46) rfl rfl ?_
  refine Own.iadd hx (hb hby d1_47) rfl ?_
  refine Own.vI (9 : Int32) (by decide) ?_
  refine Own.iloadN hx (4 : Int32) (hb hby d1_48) rfl rfl ?_
  refine Own.iastore hx hZ O40 0 9 rfl (by decide) (by exact (show 9 < 10 by decide)) ((a8, Own.ArrC Z .int [(.int (0 : Int32)), (.int (0 : Int32)), (.int (0 : Int32)), (.int (0 : Int32)), (.int (0 : Int32)), (.int (0 : Int32)), (.int (1 : Int32)), (.int (2 : Int32)), (.int (3 : Int32)), (.int (4 : Int32))]) :: (a3, Own.ArrC Z .long [(.long (9223372036854775807 : Int64)), (.long (9223372036854775807 : Int64)), (.long (9223372036854775807 : Int64)), (.long (9223372036854775807 : Int64)), (.long (9223372036854775807 : Int64))]) :: (o0, Own.ObjC Z "com/example/twigline/twigline/matcher/StreamHeads" [(("com/example/twigline/twigline/matcher/StreamHeads", "size", "I"), (.int (5 : Int32))), (("com/example/twigline/twigline/matcher/StreamHeads", "starts", "[J"), (.ref a3)), (("com/example/twigline/twigline/matcher/StreamHeads", "earliest", "[I"), (.ref a8))]) :: fr) rfl (hb hby d1_49) rfl ?_
  intro h41 O42
  refine Own.iinc hx (5 : Int32) #[.val (.ref o0), .val (.int (5 : Int32)), .val (.int (5 : Int32))] (hb hby d1_50) rfl rfl (by decide) rfl ?_
  refine Own.goto hx (hb hby d1_53) (by decide) (pc' := 27) rfl ?_
  refine Own.iloadN hx (5 : Int32) (hb hby d1_27) rfl rfl ?_
  refine Own.iloadN hx (5 : Int32) (hb hby d1_28) rfl rfl ?_
  have hc43 : ¬ ((5 : Int32) < (5 : Int32)) := by decide
  refine Own.icmpFn hx (Own.q_ge (5 : Int32) (5 : Int32)) (hb hby d1_29) (pcN := 32) rfl (by decide) (pcT := 56) rfl (fun _ => ?_) (fun q => absurd q hc43)
  refine Own.iloadN hx (5 : Int32) (hb hby d1_56) rfl rfl ?_
  refine Own.iconst hx (1 : Int32) (hb hby d1_57) rfl (by decide) ?_
  refine Own.isub hx (hb hby d1_58) rfl ?_
  refine Own.vI (4 : Int32) (by decide) ?_
  refine Own.istoreN hx (4 : Int32) rfl #[.val (.ref o0), .val (.int (5 : Int32)), .val (.int (4 : Int32))] (hb hby d1_59) rfl rfl ?_
  refine Own.iloadN hx (4 : Int32) (hb hby d1_60) rfl rfl ?_
  have hc45 : (0 : Int32) < (4 : Int32) := by decide
  refine Own.ifFn hx (Own.z_le (4 : Int32)) (hb hby d1_61) (pcN := 64) rfl (by decide) (pcT := 98) rfl (fun q => absurd hc45 q) (fun _ => ?_)
  refine Own.aloadN hx (.ref o0) (hb hby d1_64) rfl rfl rfl ?_
  refine Own.getfield hx hZ hown O42 2 2 rfl rfl (hw _ (List.mem_of_getElem? (i := 16) rfl)) (hb hby d1_65) rfl ?_
  refine Own.iloadN hx (4 : Int32) (hb hby d1_68) rfl rfl ?_
  refine Own.aloadN hx (.ref o0) (hb hby d1_69) rfl rfl rfl ?_
  refine Own.aloadN hx (.ref o0) (hb hby d1_70) rfl rfl rfl ?_
  refine Own.getfield hx hZ hown O42 2 2 rfl rfl (hw _ (List.mem_of_getElem? (i := 16) rfl)) (hb hby d1_71) rfl ?_
  refine Own.iconst hx (2 : Int32) (hb hby d1_74) rfl (by decide) ?_
  refine Own.iloadN hx (4 : Int32) (hb hby d1_75) rfl rfl ?_
  refine Own.imul hx (hb hby d1_76) rfl ?_
  refine Own.vI (8 : Int32) (by decide) ?_
  refine Own.iaload hx hZ O42 0 8 rfl (by decide) (v := (.int (3 : Int32))) rfl (hb hby d1_77) rfl ?_
  refine Own.aloadN hx (.ref o0) (hb hby d1_78) rfl rfl rfl ?_
  refine Own.getfield hx hZ hown O42 2 2 rfl rfl (hw _ (List.mem_of_getElem? (i := 16) rfl)) (hb hby d1_79) rfl ?_
  refine Own.iconst hx (2 : Int32) (hb hby d1_82) rfl (by decide) ?_
  refine Own.iloadN hx (4 : Int32) (hb hby d1_83) rfl rfl ?_
  refine Own.imul hx (hb hby d1_84) rfl ?_
  refine Own.vI (8 : Int32) (by decide) ?_
  refine Own.iconst hx (1 : Int32) (hb hby d1_85) rfl (by decide) ?_
  refine Own.iadd hx (hb hby d1_86) rfl ?_
  refine Own.vI (9 : Int32) (by decide) ?_
  refine Own.iaload hx hZ O42 0 9 rfl (by decide) (v := (.int (4 : Int32))) rfl (hb hby d1_87) rfl ?_
  have O47 : Own.Owns n0 h41 ((a3, Own.ArrC Z .long [(.long (9223372036854775807 : Int64)), (.long (9223372036854775807 : Int64)), (.long (9223372036854775807 : Int64)), (.long (9223372036854775807 : Int64)), (.long (9223372036854775807 : Int64))]) :: (a8, Own.ArrC Z .int [(.int (0 : Int32)), (.int (0 : Int32)), (.int (0 : Int32)), (.int (0 : Int32)), (.int (0 : Int32)), (.int (0 : Int32)), (.int (1 : Int32)), (.int (2 : Int32)), (.int (3 : Int32)), (.int (4 : Int32))]) :: (o0, Own.ObjC Z "com/example/twigline/twigline/matcher/StreamHeads" [(("com/example/twigline/twigline/matcher/StreamHeads", "size", "I"), (.int (5 : Int32))), (("com/example/twigline/twigline/matcher/StreamHeads", "starts", "[J"), (.ref a3)), (("com/example/twigline/twigline/matcher/StreamHeads", "earliest", "[I"), (.ref a8))]) :: fr) := O42.pick 1 rfl
  have O48 : Own.Owns n0 h41 ((o0, Own.ObjC Z "com/example/twigline/twigline/matcher/StreamHeads" [(("com/example/twigline/twigline/matcher/StreamHeads", "size", "I"), (.int (5 : Int32))), (("com/example/twigline/twigline/matcher/StreamHeads", "starts", "[J"), (.ref a3)), (("com/example/twigline/twigline/matcher/StreamHeads", "earliest", "[I"), (.ref a8))]) :: (a3, Own.ArrC Z .long [(.long (9223372036854775807 : Int64)), (.long (9223372036854775807 : Int64)), (.long (9223372036854775807 : Int64)), (.long (9223372036854775807 : Int64)), (.long (9223372036854775807 : Int64))]) :: (a8, Own.ArrC Z .int [(.int (0 : Int32)), (.int (0 : Int32)), (.int (0 : Int32)), (.int (0 : Int32)), (.int (0 : Int32)), (.int (0 : Int32)), (.int (1 : Int32)), (.int (2 : Int32)), (.int (3 : Int32)), (.int (4 : Int32))]) :: fr) := O47.pick 2 rfl
  refine Own.callP hx hZ hown (O48.exa (i := 0) rfl) (hw _ (List.mem_of_getElem? (i := 24) rfl)) (hw _ (List.mem_of_getElem? (i := 25) rfl)) (hw _ (List.mem_of_getElem? (i := 3) rfl)) (hw _ (List.mem_of_getElem? (i := 26) rfl)) (hw _ (List.mem_of_getElem? (i := 4) rfl)) (hw _ (List.mem_of_getElem? (i := 27) rfl)) (by decide) pd1 (argsL := [(.int (3 : Int32)), (.int (4 : Int32))]) (rest := [(.int (4 : Int32)), (.ref a8)]) rfl (W := 2) (Nat.le_of_eq rfl) (rm := ({ frames := 0, cells := 0, slots := 0, locals := 0 } : Room)) (by decide) (by decide) (by decide) (by decide) (k' := 2) (n' := 15) rfl rfl (by rw [hml]; rfl) [(.int (4 : Int32)), (.int (3 : Int32)), (.ref o0), (.int (4 : Int32)), (.ref a8)] rfl (hb hby d1_88) (pc' := 91) rfl (rm4 l Z a0 hw o0 h41 n0 3 4 5 a3 a8 [(9223372036854775807 : Int64), (9223372036854775807 : Int64), (9223372036854775807 : Int64), (9223372036854775807 : Int64), (9223372036854775807 : Int64)] (by decide) (by decide) (by decide) ((a8, Own.ArrC Z .int [(.int (0 : Int32)), (.int (0 : Int32)), (.int (0 : Int32)), (.int (0 : Int32)), (.int (0 : Int32)), (.int (0 : Int32)), (.int (1 : Int32)), (.int (2 : Int32)), (.int (3 : Int32)), (.int (4 : Int32))]) :: fr) O48) ?_
  rintro _ h' ⟨rfl, eh⟩
  rw [eh]; clear eh h'
  show Own.Goes _ _ _ _ _ _ _ _ _ _ _ _ _ _ _ _ _ (mkF m 91 #[.val (.ref o0), .val (.int (5 : Int32)), .val (.int (4 : Int32))] [(.int (3 : Int32)), (.int (4 : Int32)), (.ref a8)])
  refine Own.iastore hx hZ O48 2 4 rfl (by decide) (by exact (show 4 < 10 by decide)) ((o0, Own.ObjC Z "com/example/twigline/twigline/matcher/StreamHeads" [(("com/example/twigline/twigline/matcher/StreamHeads", "size", "I"), (.int (5 : Int32))), (("com/example/twigline/twigline/matcher/StreamHeads", "starts", "[J"), (.ref a3)), (("com/example/twigline/twigline/matcher/StreamHeads", "earliest", "[I"), (.ref a8))]) :: (a3, Own.ArrC Z .long [(.long (9223372036854775807 : Int64)), (.long (9223372036854775807 : Int64)), (.long (9223372036854775807 : Int64)), (.long (9223372036854775807 : Int64)), (.long (9223372036854775807 : Int64))]) :: (a8, Own.ArrC Z .int [(.int (0 : Int32)), (.int (0 : Int32)), (.int (0 : Int32)), (.int (0 : Int32)), (.int (3 : Int32)), (.int (0 : Int32)), (.int (1 : Int32)), (.int (2 : Int32)), (.int (3 : Int32)), (.int (4 : Int32))]) :: fr) rfl (hb hby d1_91) rfl ?_
  intro h49 O50
  refine Own.iinc hx (3 : Int32) #[.val (.ref o0), .val (.int (5 : Int32)), .val (.int (3 : Int32))] (hb hby d1_92) rfl rfl (by decide) rfl ?_
  refine Own.goto hx (hb hby d1_95) (by decide) (pc' := 60) rfl ?_
  refine Own.iloadN hx (3 : Int32) (hb hby d1_60) rfl rfl ?_
  have hc51 : (0 : Int32) < (3 : Int32) := by decide
  refine Own.ifFn hx (Own.z_le (3 : Int32)) (hb hby d1_61) (pcN := 64) rfl (by decide) (pcT := 98) rfl (fun q => absurd hc51 q) (fun _ => ?_)
  refine Own.aloadN hx (.ref o0) (hb hby d1_64) rfl rfl rfl ?_
  refine Own.getfield hx hZ hown O50 0 2 rfl rfl (hw _ (List.mem_of_getElem? (i := 16) rfl)) (hb hby d1_65) rfl ?_
  refine Own.iloadN hx (3 : Int32) (hb hby d1_68) rfl rfl ?_
  refine Own.aloadN hx (.ref o0) (hb hby d1_69) rfl rfl rfl ?_
  refine Own.aloadN hx (.ref o0) (hb hby d1_70) rfl rfl rfl ?_
  refine Own.getfield hx hZ hown O50 0 2 rfl rfl (hw _ (List.mem_of_getElem? (i := 16) rfl)) (hb hby d1_71) rfl ?_
  refine Own.iconst hx (2 : Int32) (hb hby d1_74) rfl (by decide) ?_
  refine Own.iloadN hx (3 : Int32) (hb hby d1_75) rfl rfl ?_
  refine Own.imul hx (hb hby d1_76) rfl ?_
  refine Own.vI (6 : Int32) (by decide) ?_
  refine Own.iaload hx hZ O50 2 6 rfl (by decide) (v := (.int (1 : Int32))) rfl (hb hby d1_77) rfl ?_
  refine Own.aloadN hx (.ref o0) (hb hby d1_78) rfl rfl rfl ?_
  refine Own.getfield hx hZ hown O50 0 2 rfl rfl (hw _ (List.mem_of_getElem? (i := 16) rfl)) (hb hby d1_79) rfl ?_
  refine Own.iconst hx (2 : Int32) (hb hby d1_82) rfl (by decide) ?_
  refine Own.iloadN hx (3 : Int32) (hb hby d1_83) rfl rfl ?_
  refine Own.imul hx (hb hby d1_84) rfl ?_
  refine Own.vI (6 : Int32) (by decide) ?_
  refine Own.iconst hx (1 : Int32) (hb hby d1_85) rfl (by decide) ?_
  refine Own.iadd hx (hb hby d1_86) rfl ?_
  refine Own.vI (7 : Int32) (by decide) ?_
  refine Own.iaload hx hZ O50 2 7 rfl (by decide) (v := (.int (2 : Int32))) rfl (hb hby d1_87) rfl ?_
  have O53 : Own.Owns n0 h49 ((a3, Own.ArrC Z .long [(.long (9223372036854775807 : Int64)), (.long (9223372036854775807 : Int64)), (.long (9223372036854775807 : Int64)), (.long (9223372036854775807 : Int64)), (.long (9223372036854775807 : Int64))]) :: (o0, Own.ObjC Z "com/example/twigline/twigline/matcher/StreamHeads" [(("com/example/twigline/twigline/matcher/StreamHeads", "size", "I"), (.int (5 : Int32))), (("com/example/twigline/twigline/matcher/StreamHeads", "starts", "[J"), (.ref a3)), (("com/example/twigline/twigline/matcher/StreamHeads", "earliest", "[I"), (.ref a8))]) :: (a8, Own.ArrC Z .int [(.int (0 : Int32)), (.int (0 : Int32)), (.int (0 : Int32)), (.int (0 : Int32)), (.int (3 : Int32)), (.int (0 : Int32)), (.int (1 : Int32)), (.int (2 : Int32)), (.int (3 : Int32)), (.int (4 : Int32))]) :: fr) := O50.pick 1 rfl
  have O54 : Own.Owns n0 h49 ((o0, Own.ObjC Z "com/example/twigline/twigline/matcher/StreamHeads" [(("com/example/twigline/twigline/matcher/StreamHeads", "size", "I"), (.int (5 : Int32))), (("com/example/twigline/twigline/matcher/StreamHeads", "starts", "[J"), (.ref a3)), (("com/example/twigline/twigline/matcher/StreamHeads", "earliest", "[I"), (.ref a8))]) :: (a3, Own.ArrC Z .long [(.long (9223372036854775807 : Int64)), (.long (9223372036854775807 : Int64)), (.long (9223372036854775807 : Int64)), (.long (9223372036854775807 : Int64)), (.long (9223372036854775807 : Int64))]) :: (a8, Own.ArrC Z .int [(.int (0 : Int32)), (.int (0 : Int32)), (.int (0 : Int32)), (.int (0 : Int32)), (.int (3 : Int32)), (.int (0 : Int32)), (.int (1 : Int32)), (.int (2 : Int32)), (.int (3 : Int32)), (.int (4 : Int32))]) :: fr) := O53.pick 1 rfl
  refine Own.callP hx hZ hown (O54.exa (i := 0) rfl) (hw _ (List.mem_of_getElem? (i := 24) rfl)) (hw _ (List.mem_of_getElem? (i := 25) rfl)) (hw _ (List.mem_of_getElem? (i := 3) rfl)) (hw _ (List.mem_of_getElem? (i := 26) rfl)) (hw _ (List.mem_of_getElem? (i := 4) rfl)) (hw _ (List.mem_of_getElem? (i := 27) rfl)) (by decide) pd1 (argsL := [(.int (1 : Int32)), (.int (2 : Int32))]) (rest := [(.int (3 : Int32)), (.ref a8)]) rfl (W := 2) (Nat.le_of_eq rfl) (rm := ({ frames := 0, cells := 0, slots := 0, locals := 0 } : Room)) (by decide) (by decide) (by decide) (by decide) (k' := 2) (n' := 15) rfl rfl (by rw [hml]; rfl) [(.int (2 : Int32)), (.int (1 : Int32)), (.ref o0), (.int (3 : Int32)), (.ref a8)] rfl (hb hby d1_88) (pc' := 91) rfl (rm4 l Z a0 hw o0 h49 n0 1 2 5 a3 a8 [(9223372036854775807 : Int64), (9223372036854775807 : Int64), (9223372036854775807 : Int64), (9223372036854775807 : Int64), (9223372036854775807 : Int64)] (by decide) (by decide) (by decide) ((a8, Own.ArrC Z .int [(.int (0 : Int32)), (.int (0 : Int32)), (.int (0 : Int32)), (.int (0 : Int32)), (.int (3 : Int32)), (.int (0 : Int32)), (.int (1 : Int32)), (.int (2 : Int32)), (.int (3 : Int32)), (.int (4 : Int32))]) :: fr) O54) ?_
  rintro _ h' ⟨rfl, eh⟩
  rw [eh]; clear eh h'
  show Own.Goes _ _ _ _ _ _ _ _ _ _ _ _ _ _ _ _ _ (mkF m 91 #[.val (.ref o0), .val (.int (5 : Int32)), .val (.int (3 : Int32))] [(.int (1 : Int32)), (.int (3 : Int32)), (.ref a8)])
  refine Own.iastore hx hZ O54 2 3 rfl (by decide) (by exact (show 3 < 10 by decide)) ((o0, Own.ObjC Z "com/example/twigline/twigline/matcher/StreamHeads" [(("com/example/twigline/twigline/matcher/StreamHeads", "size", "I"), (.int (5 : Int32))), (("com/example/twigline/twigline/matcher/StreamHeads", "starts", "[J"), (.ref a3)), (("com/example/twigline/twigline/matcher/StreamHeads", "earliest", "[I"), (.ref a8))]) :: (a3, Own.ArrC Z .long [(.long (9223372036854775807 : Int64)), (.long (9223372036854775807 : Int64)), (.long (9223372036854775807 : Int64)), (.long (9223372036854775807 : Int64)), (.long (9223372036854775807 : Int64))]) :: (a8, Own.ArrC Z .int [(.int (0 : Int32)), (.int (0 : Int32)), (.int (0 : Int32)), (.int (1 : Int32)), (.int (3 : Int32)), (.int (0 : Int32)), (.int (1 : Int32)), (.int (2 : Int32)), (.int (3 : Int32)), (.int (4 : Int32))]) :: fr) rfl (hb hby d1_91) rfl ?_
  intro h55 O56
  refine Own.iinc hx (2 : Int32) #[.val (.ref o0), .val (.int (5 : Int32)), .val (.int (2 : Int32))] (hb hby d1_92) rfl rfl (by decide) rfl ?_
  refine Own.goto hx (hb hby d1_95) (by decide) (pc' := 60) rfl ?_
  refine Own.iloadN hx (2 : Int32) (hb hby d1_60) rfl rfl ?_
  have hc57 : (0 : Int32) < (2 : Int32) := by decide
  refine Own.ifFn hx (Own.z_le (2 : Int32)) (hb hby d1_61) (pcN := 64) rfl (by decide) (pcT := 98) rfl (fun q => absurd hc57 q) (fun _ => ?_)
  refine Own.aloadN hx (.ref o0) (hb hby d1_64) rfl rfl rfl ?_
  refine Own.getfield hx hZ hown O56 0 2 rfl rfl (hw _ (List.mem_of_getElem? (i := 16) rfl)) (hb hby d1_65) rfl ?_
  refine Own.iloadN hx (2 : Int32) (hb hby d1_68) rfl rfl ?_
  refine Own.aloadN hx (.ref o0) (hb hby d1_69) rfl rfl rfl ?_
  refine Own.aloadN hx (.ref o0) (hb hby d1_70) rfl rfl rfl ?_
  refine Own.getfield hx hZ hown O56 0 2 rfl rfl (hw _ (List.mem_of_getElem? (i := 16) rfl)) (hb hby d1_71) rfl ?_
  refine Own.iconst hx (2 : Int32) (hb hby d1_74) rfl (by decide) ?_
  refine Own.iloadN hx (2 : Int32) (hb hby d1_75) rfl rfl ?_
  refine Own.imul hx (hb hby d1_76) rfl ?_
  refine Own.vI (4 : Int32) (by decide) ?_
  refine Own.iaload hx hZ O56 2 4 rfl (by decide) (v := (.int (3 : Int32))) rfl (hb hby d1_77) rfl ?_
  refine Own.aloadN hx (.ref o0) (hb hby d1_78) rfl rfl rfl ?_
  refine Own.getfield hx hZ hown O56 0 2 rfl rfl (hw _ (List.mem_of_getElem? (i := 16) rfl)) (hb hby d1_79) rfl ?_
  refine Own.iconst hx (2 : Int32) (hb hby d1_82) rfl (by decide) ?_
  refine Own.iloadN hx (2 : Int32) (hb hby d1_83) rfl rfl ?_
  refine Own.imul hx (hb hby d1_84) rfl ?_
  refine Own.vI (4 : Int32) (by decide) ?_
  refine Own.iconst hx (1 : Int32) (hb hby d1_85) rfl (by decide) ?_
  refine Own.iadd hx (hb hby d1_86) rfl ?_
  refine Own.vI (5 : Int32) (by decide) ?_
  refine Own.iaload hx hZ O56 2 5 rfl (by decide) (v := (.int (0 : Int32))) rfl (hb hby d1_87) rfl ?_
  have O59 : Own.Owns n0 h55 ((a3, Own.ArrC Z .long [(.long (9223372036854775807 : Int64)), (.long (9223372036854775807 : Int64)), (.long (9223372036854775807 : Int64)), (.long (9223372036854775807 : Int64)), (.long (9223372036854775807 : Int64))]) :: (o0, Own.ObjC Z "com/example/twigline/twigline/matcher/StreamHeads" [(("com/example/twigline/twigline/matcher/StreamHeads", "size", "I"), (.int (5 : Int32))), (("com/example/twigline/twigline/matcher/StreamHeads", "starts", "[J"), (.ref a3)), (("com/example/twigline/twigline/matcher/StreamHeads", "earliest", "[I"), (.ref a8))]) :: (a8, Own.ArrC Z .int [(.int (0 : Int32)), (.int (0 : Int32)), (.int (0 : Int32)), (.int (1 : Int32)), (.int (3 : Int32)), (.int (0 : Int32)), (.int (1 : Int32)), (.int (2 : Int32)), (.int (3 : Int32)), (.int (4 : Int32))]) :: fr) := O56.pick 1 rfl
  have O60 : Own.Owns n0 h55 ((o0, Own.ObjC Z "com/example/twigline/twigline/matcher/StreamHeads" [(("com/example/twigline/twigline/matcher/StreamHeads", "size", "I"), (.int (5 : Int32))), (("com/example/twigline/twigline/matcher/StreamHeads", "starts", "[J"), (.ref a3)), (("com/example/twigline/twigline/matcher/StreamHeads", "earliest", "[I"), (.ref a8))]) :: (a3, Own.ArrC Z .long [(.long (9223372036854775807 : Int64)), (.long (9223372036854775807 : Int64)), (.long (9223372036854775807 : Int64)), (.long (9223372036854775807 : Int64)), (.long (9223372036854775807 : Int64))]) :: (a8, Own.ArrC Z .int [(.int (0 : Int32)), (.int (0 : Int32)), (.int (0 : Int32)), (.int (1 : Int32)), (.int (3 : Int32)), (.int (0 : Int32)), (.int (1 : Int32)), (.int (2 : Int32)), (.int (3 : Int32)), (.int (4 : Int32))]) :: fr) := O59.pick 1 rfl
  refine Own.callP hx hZ hown (O60.exa (i := 0) rfl) (hw _ (List.mem_of_getElem? (i := 24) rfl)) (hw _ (List.mem_of_getElem? (i := 25) rfl)) (hw _ (List.mem_of_getElem? (i := 3) rfl)) (hw _ (List.mem_of_getElem? (i := 26) rfl)) (hw _ (List.mem_of_getElem? (i := 4) rfl)) (hw _ (List.mem_of_getElem? (i := 27) rfl)) (by decide) pd1 (argsL := [(.int (3 : Int32)), (.int (0 : Int32))]) (rest := [(.int (2 : Int32)), (.ref a8)]) rfl (W := 2) (Nat.le_of_eq rfl) (rm := ({ frames := 0, cells := 0, slots := 0, locals := 0 } : Room)) (by decide) (by decide) (by decide) (by decide) (k' := 2) (n' := 15) rfl rfl (by rw [hml]; rfl) [(.int (0 : Int32)), (.int (3 : Int32)), (.ref o0), (.int (2 : Int32)), (.ref a8)] rfl (hb hby d1_88) (pc' := 91) rfl (rm4 l Z a0 hw o0 h55 n0 3 0 5 a3 a8 [(9223372036854775807 : Int64), (9223372036854775807 : Int64), (9223372036854775807 : Int64), (9223372036854775807 : Int64), (9223372036854775807 : Int64)] (by decide) (by decide) (by decide) ((a8, Own.ArrC Z .int [(.int (0 : Int32)), (.int (0 : Int32)), (.int (0 : Int32)), (.int (1 : Int32)), (.int (3 : Int32)), (.int (0 : Int32)), (.int (1 : Int32)), (.int (2 : Int32)), (.int (3 : Int32)), (.int (4 : Int32))]) :: fr) O60) ?_
  rintro _ h' ⟨rfl, eh⟩
  rw [eh]; clear eh h'
  show Own.Goes _ _ _ _ _ _ _ _ _ _ _ _ _ _ _ _ _ (mkF m 91 #[.val (.ref o0), .val (.int (5 : Int32)), .val (.int (2 : Int32))] [(.int (3 : Int32)), (.int (2 : Int32)), (.ref a8)])
  refine Own.iastore hx hZ O60 2 2 rfl (by decide) (by exact (show 2 < 10 by decide)) ((o0, Own.ObjC Z "com/example/twigline/twigline/matcher/StreamHeads" [(("com/example/twigline/twigline/matcher/StreamHeads", "size", "I"), (.int (5 : Int32))), (("com/example/twigline/twigline/matcher/StreamHeads", "starts", "[J"), (.ref a3)), (("com/example/twigline/twigline/matcher/StreamHeads", "earliest", "[I"), (.ref a8))]) :: (a3, Own.ArrC Z .long [(.long (9223372036854775807 : Int64)), (.long (9223372036854775807 : Int64)), (.long (9223372036854775807 : Int64)), (.long (9223372036854775807 : Int64)), (.long (9223372036854775807 : Int64))]) :: (a8, Own.ArrC Z .int [(.int (0 : Int32)), (.int (0 : Int32)), (.int (3 : Int32)), (.int (1 : Int32)), (.int (3 : Int32)), (.int (0 : Int32)), (.int (1 : Int32)), (.int (2 : Int32)), (.int (3 : Int32)), (.int (4 : Int32))]) :: fr) rfl (hb hby d1_91) rfl ?_
  intro h61 O62
  refine Own.iinc hx (1 : Int32) #[.val (.ref o0), .val (.int (5 : Int32)), .val (.int (1 : Int32))] (hb hby d1_92) rfl rfl (by decide) rfl ?_
  refine Own.goto hx (hb hby d1_95) (by decide) (pc' := 60) rfl ?_
  refine Own.iloadN hx (1 : Int32) (hb hby d1_60) rfl rfl ?_
  have hc63 : (0 : Int32) < (1 : Int32) := by decide
  refine Own.ifFn hx (Own.z_le (1 : Int32)) (hb hby d1_61) (pcN := 64) rfl (by decide) (pcT := 98) rfl (fun q => absurd hc63 q) (fun _ => ?_)
  refine Own.aloadN hx (.ref o0) (hb hby d1_64) rfl rfl rfl ?_
  refine Own.getfield hx hZ hown O62 0 2 rfl rfl (hw _ (List.mem_of_getElem? (i := 16) rfl)) (hb hby d1_65) rfl ?_
  refine Own.iloadN hx (1 : Int32) (hb hby d1_68) rfl rfl ?_
  refine Own.aloadN hx (.ref o0) (hb hby d1_69) rfl rfl rfl ?_
  refine Own.aloadN hx (.ref o0) (hb hby d1_70) rfl rfl rfl ?_
  refine Own.getfield hx hZ hown O62 0 2 rfl rfl (hw _ (List.mem_of_getElem? (i := 16) rfl)) (hb hby d1_71) rfl ?_
  refine Own.iconst hx (2 : Int32) (hb hby d1_74) rfl (by decide) ?_
  refine Own.iloadN hx (1 : Int32) (hb hby d1_75) rfl rfl ?_
  refine Own.imul hx (hb hby d1_76) rfl ?_
  refine Own.vI (2 : Int32) (by decide) ?_
  refine Own.iaload hx hZ O62 2 2 rfl (by decide) (v := (.int (3 : Int32))) rfl (hb hby d1_77) rfl ?_
  refine Own.aloadN hx (.ref o0) (hb hby d1_78) rfl rfl rfl ?_
  refine Own.getfield hx hZ hown O62 0 2 rfl rfl (hw _ (List.mem_of_getElem? (i := 16) rfl)) (hb hby d1_79) rfl ?_
  refine Own.iconst hx (2 : Int32) (hb hby d1_82) rfl (by decide) ?_
  refine Own.iloadN hx (1 : Int32) (hb hby d1_83) rfl rfl ?_
  refine Own.imul hx (hb hby d1_84) rfl ?_
  refine Own.vI (2 : Int32) (by decide) ?_
  refine Own.iconst hx (1 : Int32) (hb hby d1_85) rfl (by decide) ?_
  refine Own.iadd hx (hb hby d1_86) rfl ?_
  refine Own.vI (3 : Int32) (by decide) ?_
  refine Own.iaload hx hZ O62 2 3 rfl (by decide) (v := (.int (1 : Int32))) rfl (hb hby d1_87) rfl ?_
  have O65 : Own.Owns n0 h61 ((a3, Own.ArrC Z .long [(.long (9223372036854775807 : Int64)), (.long (9223372036854775807 : Int64)), (.long (9223372036854775807 : Int64)), (.long (9223372036854775807 : Int64)), (.long (9223372036854775807 : Int64))]) :: (o0, Own.ObjC Z "com/example/twigline/twigline/matcher/StreamHeads" [(("com/example/twigline/twigline/matcher/StreamHeads", "size", "I"), (.int (5 : Int32))), (("com/example/twigline/twigline/matcher/StreamHeads", "starts", "[J"), (.ref a3)), (("com/example/twigline/twigline/matcher/StreamHeads", "earliest", "[I"), (.ref a8))]) :: (a8, Own.ArrC Z .int [(.int (0 : Int32)), (.int (0 : Int32)), (.int (3 : Int32)), (.int (1 : Int32)), (.int (3 : Int32)), (.int (0 : Int32)), (.int (1 : Int32)), (.int (2 : Int32)), (.int (3 : Int32)), (.int (4 : Int32))]) :: fr) := O62.pick 1 rfl
  have O66 : Own.Owns n0 h61 ((o0, Own.ObjC Z "com/example/twigline/twigline/matcher/StreamHeads" [(("com/example/twigline/twigline/matcher/StreamHeads", "size", "I"), (.int (5 : Int32))), (("com/example/twigline/twigline/matcher/StreamHeads", "starts", "[J"), (.ref a3)), (("com/example/twigline/twigline/matcher/StreamHeads", "earliest", "[I"), (.ref a8))]) :: (a3, Own.ArrC Z .long [(.long (9223372036854775807 : Int64)), (.long (9223372036854775807 : Int64)), (.long (9223372036854775807 : Int64)), (.long (9223372036854775807 : Int64)), (.long (9223372036854775807 : Int64))]) :: (a8, Own.ArrC Z .int [(.int (0 : Int32)), (.int (0 : Int32)), (.int (3 : Int32)), (.int (1 : Int32)), (.int (3 : Int32)), (.int (0 : Int32)), (.int (1 : Int32)), (.int (2 : Int32)), (.int (3 : Int32)), (.int (4 : Int32))]) :: fr) := O65.pick 1 rfl
  refine Own.callP hx hZ hown (O66.exa (i := 0) rfl) (hw _ (List.mem_of_getElem? (i := 24) rfl)) (hw _ (List.mem_of_getElem? (i := 25) rfl)) (hw _ (List.mem_of_getElem? (i := 3) rfl)) (hw _ (List.mem_of_getElem? (i := 26) rfl)) (hw _ (List.mem_of_getElem? (i := 4) rfl)) (hw _ (List.mem_of_getElem? (i := 27) rfl)) (by decide) pd1 (argsL := [(.int (3 : Int32)), (.int (1 : Int32))]) (rest := [(.int (1 : Int32)), (.ref a8)]) rfl (W := 2) (Nat.le_of_eq rfl) (rm := ({ frames := 0, cells := 0, slots := 0, locals := 0 } : Room)) (by decide) (by decide) (by decide) (by decide) (k' := 2) (n' := 15) rfl rfl (by rw [hml]; rfl) [(.int (1 : Int32)), (.int (3 : Int32)), (.ref o0), (.int (1 : Int32)), (.ref a8)] rfl (hb hby d1_88) (pc' := 91) rfl (rm4 l Z a0 hw o0 h61 n0 3 1 5 a3 a8 [(9223372036854775807 : Int64), (9223372036854775807 : Int64), (9223372036854775807 : Int64), (9223372036854775807 : Int64), (9223372036854775807 : Int64)] (by decide) (by decide) (by decide) ((a8, Own.ArrC Z .int [(.int (0 : Int32)), (.int (0 : Int32)), (.int (3 : Int32)), (.int (1 : Int32)), (.int (3 : Int32)), (.int (0 : Int32)), (.int (1 : Int32)), (.int (2 : Int32)), (.int (3 : Int32)), (.int (4 : Int32))]) :: fr) O66) ?_
  rintro _ h' ⟨rfl, eh⟩
  rw [eh]; clear eh h'
  show Own.Goes _ _ _ _ _ _ _ _ _ _ _ _ _ _ _ _ _ (mkF m 91 #[.val (.ref o0), .val (.int (5 : Int32)), .val (.int (1 : Int32))] [(.int (3 : Int32)), (.int (1 : Int32)), (.ref a8)])
  refine Own.iastore hx hZ O66 2 1 rfl (by decide) (by exact (show 1 < 10 by decide)) ((o0, Own.ObjC Z "com/example/twigline/twigline/matcher/StreamHeads" [(("com/example/twigline/twigline/matcher/StreamHeads", "size", "I"), (.int (5 : Int32))), (("com/example/twigline/twigline/matcher/StreamHeads", "starts", "[J"), (.ref a3)), (("com/example/twigline/twigline/matcher/StreamHeads", "earliest", "[I"), (.ref a8))]) :: (a3, Own.ArrC Z .long [(.long (9223372036854775807 : Int64)), (.long (9223372036854775807 : Int64)), (.long (9223372036854775807 : Int64)), (.long (9223372036854775807 : Int64)), (.long (9223372036854775807 : Int64))]) :: (a8, Own.ArrC Z .int [(.int (0 : Int32)), (.int (3 : Int32)), (.int (3 : Int32)), (.int (1 : Int32)), (.int (3 : Int32)), (.int (0 : Int32)), (.int (1 : Int32)), (.int (2 : Int32)), (.int (3 : Int32)), (.int (4 : Int32))]) :: fr) rfl (hb hby d1_91) rfl ?_
  intro h67 O68
  refine Own.iinc hx (0 : Int32) #[.val (.ref o0), .val (.int (5 : Int32)), .val (.int (0 : Int32))] (hb hby d1_92) rfl rfl (by decide) rfl ?_
  refine Own.goto hx (hb hby d1_95) (by decide) (pc' := 60) rfl ?_
  refine Own.iloadN hx (0 : Int32) (hb hby d1_60) rfl rfl ?_
  have hc69 : ¬ ((0 : Int32) < (0 : Int32)) := by decide
  refine Own.ifFn hx (Own.z_le (0 : Int32)) (hb hby d1_61) (pcN := 64) rfl (by decide) (pcT := 98) rfl (fun _ => ?_) (fun q => absurd q hc69)
  have O71 : Own.Owns n0 h67 ((a8, Own.ArrC Z .int [(.int (0 : Int32)), (.int (3 : Int32)), (.int (3 : Int32)), (.int (1 : Int32)), (.int (3 : Int32)), (.int (0 : Int32)), (.int (1 : Int32)), (.int (2 : Int32)), (.int (3 : Int32)), (.int (4 : Int32))]) :: (o0, Own.ObjC Z "com/example/twigline/twigline/matcher/StreamHeads" [(("com/example/twigline/twigline/matcher/StreamHeads", "size", "I"), (.int (5 : Int32))), (("com/example/twigline/twigline/matcher/StreamHeads", "starts", "[J"), (.ref a3)), (("com/example/twigline/twigline/matcher/StreamHeads", "earliest", "[I"), (.ref a8))]) :: (a3, Own.ArrC Z .long [(.long (9223372036854775807 : Int64)), (.long (9223372036854775807 : Int64)), (.long (9223372036854775807 : Int64)), (.long (9223372036854775807 : Int64)), (.long (9223372036854775807 : Int64))]) :: fr) := O68.pick 2 rfl
  have O72 : Own.Owns n0 h67 ((a3, Own.ArrC Z .long [(.long (9223372036854775807 : Int64)), (.long (9223372036854775807 : Int64)), (.long (9223372036854775807 : Int64)), (.long (9223372036854775807 : Int64)), (.long (9223372036854775807 : Int64))]) :: (a8, Own.ArrC Z .int [(.int (0 : Int32)), (.int (3 : Int32)), (.int (3 : Int32)), (.int (1 : Int32)), (.int (3 : Int32)), (.int (0 : Int32)), (.int (1 : Int32)), (.int (2 : Int32)), (.int (3 : Int32)), (.int (4 : Int32))]) :: (o0, Own.ObjC Z "com/example/twigline/twigline/matcher/StreamHeads" [(("com/example/twigline/twigline/matcher/StreamHeads", "size", "I"), (.int (5 : Int32))), (("com/example/twigline/twigline/matcher/StreamHeads", "starts", "[J"), (.ref a3)), (("com/example/twigline/twigline/matcher/StreamHeads", "earliest", "[I"), (.ref a8))]) :: fr) := O71.pick 2 rfl
  have O73 : Own.Owns n0 h67 ((o0, Own.ObjC Z "com/example/twigline/twigline/matcher/StreamHeads" [(("com/example/twigline/twigline/matcher/StreamHeads", "size", "I"), (.int (5 : Int32))), (("com/example/twigline/twigline/matcher/StreamHeads", "starts", "[J"), (.ref a3)), (("com/example/twigline/twigline/matcher/StreamHeads", "earliest", "[I"), (.ref a8))]) :: (a3, Own.ArrC Z .long [(.long (9223372036854775807 : Int64)), (.long (9223372036854775807 : Int64)), (.long (9223372036854775807 : Int64)), (.long (9223372036854775807 : Int64)), (.long (9223372036854775807 : Int64))]) :: (a8, Own.ArrC Z .int [(.int (0 : Int32)), (.int (3 : Int32)), (.int (3 : Int32)), (.int (1 : Int32)), (.int (3 : Int32)), (.int (0 : Int32)), (.int (1 : Int32)), (.int (2 : Int32)), (.int (3 : Int32)), (.int (4 : Int32))]) :: fr) := O72.pick 2 rfl
  exact Own.retV hx hret hlk (hb hby d1_98) (by decide) (by decide) ⟨a3, a8, rfl, O73⟩

theorem ef1_6 (m : MethodId) (x0 : Addr) (x1 : Int32) : entryFrame m #[(.ref x0), (.int x1)] 3 = mkF m 0 #[.val (.ref x0), .val (.int x1), .unset] [] := by first | (simp [entryFrame, mkF, argsToLocals, Value.category]; done) | rfl
set_option maxRecDepth 65536 in
set_option maxHeartbeats 40000000 in
theorem rm1_6 (l : Launch) (Z : State) (a0 : Array Value) (hw : ∀ d ∈ tables_1, d.before a0 Z = true) (o0 : Addr) (h0 : Heap) (n0 : Nat)  (fr : List (Addr × (Cell → Prop))) (O0 : Own.Owns n0 h0 ((o0, Own.ObjC Z "com/example/twigline/twigline/matcher/StreamHeads" [(("com/example/twigline/twigline/matcher/StreamHeads", "size", "I"), (.int (0 : Int32))), (("com/example/twigline/twigline/matcher/StreamHeads", "starts", "[J"), .null), (("com/example/twigline/twigline/matcher/StreamHeads", "earliest", "[I"), .null)]) :: fr))  : Own.Does l (⟨"com/example/twigline/twigline/matcher/StreamHeads", "<init>", "(I)V"⟩ : MethodName) prog_27_method_1_code 3 none [] ({ frames := 1, cells := 2, slots := 18, locals := 16 } : Room) Z #[(.ref o0), (.int (6 : Int32))] h0 n0 (fun v h => ∃ ra rb, v = none ∧ Own.Owns n0 h ((o0, Own.ObjC Z "com/example/twigline/twigline/matcher/StreamHeads" [(("com/example/twigline/twigline/matcher/StreamHeads", "size", "I"), (.int (6 : Int32))), (("com/example/twigline/twigline/matcher/StreamHeads", "starts", "[J"), (.ref ra)), (("com/example/twigline/twigline/matcher/StreamHeads", "earliest", "[I"), (.ref rb))]) :: (ra, Own.ArrC Z .long [(.long (9223372036854775807 : Int64)), (.long (9223372036854775807 : Int64)), (.long (9223372036854775807 : Int64)), (.long (9223372036854775807 : Int64)), (.long (9223372036854775807 : Int64)), (.long (9223372036854775807 : Int64))]) :: (rb, Own.ArrC Z .int [(.int (0 : Int32)), (.int (2 : Int32)), (.int (2 : Int32)), (.int (0 : Int32)), (.int (2 : Int32)), (.int (4 : Int32)), (.int (0 : Int32)), (.int (1 : Int32)), (.int (2 : Int32)), (.int (3 : Int32)), (.int (4 : Int32)), (.int (5 : Int32))]) :: fr)) := by
  refine Own.doesOf pn3 ?_
  intro p e s m below meth c hx hby hml hret hlk hown hnm hZ
  refine Own.Goes.cast (ef1_6 m o0 (6 : Int32)) ?_
  refine Own.aloadN hx (.ref o0) (hb hby d1_0) rfl rfl rfl ?_
  refine Own.initobj hx hZ hown (hw _ (List.mem_of_getElem? (i := 8) rfl)) (hw _ (List.mem_of_getElem? (i := 9) rfl)) (hw _ (List.mem_of_getElem? (i := 10) rfl)) (by rw [hml]; rfl) (W := 0) (Nat.le_of_eq rfl) (by decide) (by decide) (hb hby d1_1) rfl ?_
  refine Own.aloadN hx (.ref o0) (hb hby d1_4) rfl rfl rfl ?_
  refine Own.iloadN hx (6 : Int32) (hb hby d1_5) rfl rfl ?_
  refine Own.putfield hx hZ hown O0 0 0 rfl rfl (hw _ (List.mem_of_getElem? (i := 11) rfl)) (Or.inr ⟨(hw _ (List.mem_of_getElem? (i := 12) rfl)), rfl, hnm⟩) (hw _ (List.mem_of_getElem? (i := 3) rfl)) (ty := .int) (by decide) rfl rfl ((o0, Own.ObjC Z "com/example/twigline/twigline/matcher/StreamHeads" [(("com/example/twigline/twigline/matcher/StreamHeads", "size", "I"), (.int (6 : Int32))), (("com/example/twigline/twigline/matcher/StreamHeads", "starts", "[J"), .null), (("com/example/twigline/twigline/matcher/StreamHeads", "earliest", "[I"), .null)]) :: fr) rfl (hb hby d1_6) rfl ?_
  intro h1 O2
  refine Own.aloadN hx (.ref o0) (hb hby d1_9) rfl rfl rfl ?_
  refine Own.iloadN hx (6 : Int32) (hb hby d1_10) rfl rfl ?_
  refine Own.newarr hx hZ O2 (aty := .long) (hw _ (List.mem_of_getElem? (i := 0) rfl)) 6 (by decide) [(.long (0 : Int64)), (.long (0 : Int64)), (.long (0 : Int64)), (.long (0 : Int64)), (.long (0 : Int64)), (.long (0 : Int64))] rfl rfl (cap := 6) (by decide) (by decide) (k' := 1) (n' := 6) rfl rfl (by decide) (by decide) (hb hby d1_11) (pc' := 13) rfl ?_
  intro a3 h4 O5
  refine Own.putfield hx hZ hown O5 1 1 rfl rfl (hw _ (List.mem_of_getElem? (i := 13) rfl)) (Or.inr ⟨(hw _ (List.mem_of_getElem? (i := 14) rfl)), rfl, hnm⟩) (hw _ (List.mem_of_getElem? (i := 3) rfl)) (ty := (.array .long)) (by decide) rfl rfl ((a3, Own.ArrC Z .long [(.long (0 : Int64)), (.long (0 : Int64)), (.long (0 : Int64)), (.long (0 : Int64)), (.long (0 : Int64)), (.long (0 : Int64))]) :: (o0, Own.ObjC Z "com/example/twigline/twigline/matcher/StreamHeads" [(("com/example/twigline/twigline/matcher/StreamHeads", "size", "I"), (.int (6 : Int32))), (("com/example/twigline/twigline/matcher/StreamHeads", "starts", "[J"), (.ref a3)), (("com/example/twigline/twigline/matcher/StreamHeads", "earliest", "[I"), .null)]) :: fr) rfl (hb hby d1_13) rfl ?_
  intro h6 O7
  refine Own.aloadN hx (.ref o0) (hb hby d1_16) rfl rfl rfl ?_
  refine Own.iconst hx (2 : Int32) (hb hby d1_17) rfl (by decide) ?_
  refine Own.iloadN hx (6 : Int32) (hb hby d1_18) rfl rfl ?_
  refine Own.imul hx (hb hby d1_19) rfl ?_
  refine Own.vI (12 : Int32) (by decide) ?_
  refine Own.newarr hx hZ O7 (aty := .int) (hw _ (List.mem_of_getElem? (i := 15) rfl)) 12 (by decide) [(.int (0 : Int32)), (.int (0 : Int32)), (.int (0 : Int32)), (.int (0 : Int32)), (.int (0 : Int32)), (.int (0 : Int32)), (.int (0 : Int32)), (.int (0 : Int32)), (.int (0 : Int32)), (.int (0 : Int32)), (.int (0 : Int32)), (.int (0 : Int32))] rfl rfl (cap := 12) (by decide) (by decide) (k' := 2) (n' := 18) rfl rfl (by decide) (by decide) (hb hby d1_20) (pc' := 22) rfl ?_
  intro a8 h9 O10
  refine Own.putfield hx hZ hown O10 2 2 rfl rfl (hw _ (List.mem_of_getElem? (i := 16) rfl)) (Or.inr ⟨(hw _ (List.mem_of_getElem? (i := 17) rfl)), rfl, hnm⟩) (hw _ (List.mem_of_getElem? (i := 3) rfl)) (ty := (.array .int)) (by decide) rfl rfl ((a8, Own.ArrC Z .int [(.int (0 : Int32)), (.int (0 : Int32)), (.int (0 : Int32)), (.int (0 : Int32)), (.int (0 : Int32)), (.int (0 : Int32)), (.int (0 : Int32)), (.int (0 : Int32)), (.int (0 : Int32)), (.int (0 : Int32)), (.int (0 : Int32)), (.int (0 : Int32))]) :: (a3, Own.ArrC Z .long [(.long (0 : Int64)), (.long (0 : Int64)), (.long (0 : Int64)), (.long (0 : Int64)), (.long (0 : Int64)), (.long (0 : Int64))]) :: (o0, Own.ObjC Z "com/example/twigline/twigline/matcher/StreamHeads" [(("com/example/twigline/twigline/matcher/StreamHeads", "size", "I"), (.int (6 : Int32))), (("com/example/twigline/twigline/matcher/StreamHeads", "starts", "[J"), (.ref a3)), (("com/example/twigline/twigline/matcher/StreamHeads", "earliest", "[I"), (.ref a8))]) :: fr) rfl (hb hby d1_22) rfl ?_
  intro h11 O12
  refine Own.iconst hx (0 : Int32) (hb hby d1_25) rfl (by decide) ?_
  refine Own.istoreN hx (0 : Int32) rfl #[.val (.ref o0), .val (.int (6 : Int32)), .val (.int (0 : Int32))] (hb hby d1_26) rfl rfl ?_
  refine Own.iloadN hx (0 : Int32) (hb hby d1_27) rfl rfl ?_
  refine Own.iloadN hx (6 : Int32) (hb hby d1_28) rfl rfl ?_
  have hc13 : (0 : Int32) < (6 : Int32) := by decide
  refine Own.icmpFn hx (Own.q_ge (0 : Int32) (6 : Int32)) (hb hby d1_29) (pcN := 32) rfl (by decide) (pcT := 56) rfl (fun q => absurd hc13 q) (fun _ => ?_)
  refine Own.aloadN hx (.ref o0) (hb hby d1_32) rfl rfl rfl ?_
  refine Own.getfield hx hZ hown O12 2 1 rfl rfl (hw _ (List.mem_of_getElem? (i := 13) rfl)) (hb hby d1_33) rfl ?_
  refine Own.iloadN hx (0 : Int32) (hb hby d1_36) rfl rfl ?_
  refine Own.ldc2 hx hZ hown (9223372036854775807 : Int64) (hb hby d1_37) rfl (hw _ (List.mem_of_getElem? (i := 23) rfl)) ?_
  refine Own.lastore hx hZ O12 1 0 rfl (by decide) (by exact (show 0 < 6 by decide)) ((a8, Own.ArrC Z .int [(.int (0 : Int32)), (.int (0 : Int32)), (.int (0 : Int32)), (.int (0 : Int32)), (.int (0 : Int32)), (.int (0 : Int32)), (.int (0 : Int32)), (.int (0 : Int32)), (.int (0 : Int32)), (.int (0 : Int32)), (.int (0 : Int32)), (.int (0 : Int32))]) :: (a3, Own.ArrC Z .long [(.long (9223372036854775807 : Int64)), (.long (0 : Int64)), (.long (0 : Int64)), (.long (0 : Int64)), (.long (0 : Int64)), (.long (0 : Int64))]) :: (o0, Own.ObjC Z "com/example/twigline/twigline/matcher/StreamHeads" [(("com/example/twigline/twigline/matcher/StreamHeads", "size", "I"), (.int (6 : Int32))), (("com/example/twigline/twigline/matcher/StreamHeads", "starts", "[J"), (.ref a3)), (("com/example/twigline/twigline/matcher/StreamHeads", "earliest", "[I"), (.ref a8))]) :: fr) rfl (hb hby d1_40) rfl ?_
  intro h15 O16
  refine Own.aloadN hx (.ref o0) (hb hby d1_41) rfl rfl rfl ?_
  refine Own.getfield hx hZ hown O16 2 2 rfl rfl (hw _ (List.mem_of_getElem? (i := 16) rfl)) (hb hby d1_42) rfl ?_
  refine Own.iloadN hx (6 : Int32) (hb hby d1_45) rfl rfl ?_
  refine Own.iloadN hx (0 : Int32) (hb hby d1_46) rfl rfl ?_
  refine Own.iadd hx (hb hby d1_47) rfl ?_
  refine Own.vI (6 : Int32) (by decide) ?_
  refine Own.iloadN hx (0 : Int32) (hb hby d1_48) rfl rfl ?_
  refine Own.iastore hx hZ O16 0 6 rfl (by decide) (by exact (show 6 < 12 by decide)) ((a8, Own.ArrC Z .int [(.int (0 : Int32)), (.int (0 : Int32)), (.int (0 : Int32)), (.int (0 : Int32)), (.int (0 : Int32)), (.int (0 : Int32)), (.int (0 : Int32)), (.int (0 : Int32)), (.int (0 : Int32)), (.int (0 : Int32)), (.int (0 : Int32)), (.int (0 : Int32))]) :: (a3, Own.ArrC Z .long [(.long (9223372036854775807 : Int64)), (.long (0 : Int64)), (.long (0 : Int64)), (.long (0 : Int64)), (.long (0 : Int64)), (.long (0 : Int64))]) :: (o0, Own.ObjC Z "com/example/twigline/twigline/matcher/StreamHeads" [(("com/example/twigline/twigline/matcher/StreamHeads", "size", "I"), (.int (6 : Int32))), (("com/example/twigline/twigline/matcher/StreamHeads", "starts", "[J"), (.ref a3)), (("com/example/twigline/twigline/matcher/StreamHeads", "earliest", "[I"), (.ref a8))]) :: fr) rfl (hb hby d1_49) rfl ?_
  intro h17 O18
  refine Own.iinc hx (1 : Int32) #[.val (.ref o0), .val (.int (6 : Int32)), .val (.int (1 : Int32))] (hb hby d1_50) rfl rfl (by decide) rfl ?_
  refine Own.goto hx (hb hby d1_53) (by decide) (pc' := 27) rfl ?_
  refine Own.iloadN hx (1 : Int32) (hb hby d1_27) rfl rfl ?_
  refine Own.iloadN hx (6 : Int32) (hb hby d1_28) rfl rfl ?_
  have hc19 : (1 : Int32) < (6 : Int32) := by decide
  refine Own.icmpFn hx (Own.q_ge (1 : Int32) (6 : Int32)) (hb hby d1_29) (pcN := 32) rfl (by decide) (pcT := 56) rfl (fun q => absurd hc19 q) (fun _ => ?_)
  refine Own.aloadN hx (.ref o0) (hb hby d1_32) rfl rfl rfl ?_
  refine Own.getfield hx hZ hown O18 2 1 rfl rfl (hw _ (List.mem_of_getElem? (i := 13) rfl)) (hb hby d1_33) rfl ?_
  refine Own.iloadN hx (1 : Int32) (hb hby d1_36) rfl rfl ?_
  refine Own.ldc2 hx hZ hown (9223372036854775807 : Int64) (hb hby d1_37) rfl (hw _ (List.mem_of_getElem? (i := 23) rfl)) ?_
  refine Own.lastore hx hZ O18 1 1 rfl (by decide) (by exact (show 1 < 6 by decide)) ((a8, Own.ArrC Z .int [(.int (0 : Int32)), (.int (0 : Int32)), (.int (0 : Int32)), (.int (0 : Int32)), (.int (0 : Int32)), (.int (0 : Int32)), (.int (0 : Int32)), (.int (0 : Int32)), (.int (0 : Int32)), (.int (0 : Int32)), (.int (0 : Int32)), (.int (0 : Int32))]) :: (a3, Own.ArrC Z .long [(.long (9223372036854775807 : Int64)), (.long (9223372036854775807 : Int64)), (.long (0 : Int64)), (.long (0 : Int64)), (.long (0 : Int64)), (.long (0 : Int64))]) :: (o0, Own.ObjC Z "com/example/twigline/twigline/matcher/StreamHeads" [(("com/example/twigline/twigline/matcher/StreamHeads", "size", "I"), (.int (6 : Int32))), (("com/example/twigline/twigline/matcher/StreamHeads", "starts", "[J"), (.ref a3)), (("com/example/twigline/twigline/matcher/StreamHeads", "earliest", "[I"), (.ref a8))]) :: fr) rfl (hb hby d1_40) rfl ?_
  intro h21 O22
  refine Own.aloadN hx (.ref o0) (hb hby d1_41) rfl rfl rfl ?_
  refine Own.getfield hx hZ hown O22 2 2 rfl rfl (hw _ (List.mem_of_getElem? (i := 16) rfl)) (hb hby d1_42) rfl ?_
  refine Own.iloadN hx (6 : Int32) (hb hby d1_45) rfl rfl ?_
  refine Own.iloadN hx (1 : Int32) (hb hby d1_46) rfl rfl ?_
  refine Own.iadd hx (hb hby d1_47) rfl ?_
  refine Own.vI (7 : Int32) (by decide) ?_
  refine Own.iloadN hx (1 : Int32) (hb hby d1_48) rfl rfl ?_
  refine Own.iastore hx hZ O22 0 7 rfl (by decide) (by exact (show 7 < 12 by decide)) ((a8, Own.ArrC Z .int [(.int (0 : Int32)), (.int (0 : Int32)), (.int (0 : Int32)), (.int (0 : Int32)), (.int (0 : Int32)), (.int (0 : Int32)), (.int (0 : Int32)), (.int (1 : Int32)), (.int (0 : Int32)), (.int (0 : Int32)), (.int (0 : Int32)), (.int (0 : Int32))]) :: (a3, Own.ArrC Z .long [(.long (9223372036854775807 : Int64)), (.long (9223372036854775807 : Int64)), (.long (0 : Int64)), (.long (0 : Int64)), (.long (0 : Int64)), (.long (0 : Int64))]) :: (o0, Own.ObjC Z "com/example/twigline/twigline/matcher/StreamHeads" [(("com/example/twigline/twigline/matcher/StreamHeads", "size", "I"), (.int (6 : Int32))), (("com/example/twigline/twigline/matcher/StreamHeads", "starts", "[J"), (.ref a3)), (("com/example/twigline/twigline/matcher/StreamHeads", "earliest", "[I"), (.ref a8))]) :: fr) rfl (hb hby d1_49) rfl ?_
  intro h23 O24
  refine Own.iinc hx (2 : Int32) #[.val (.ref o0), .val (.int (6 : Int32)), .val (.int (2 : Int32))] (hb hby d1_50) rfl rfl (by decide) rfl ?_
  refine Own.goto hx (hb hby d1_53) (by decide) (pc' := 27) rfl ?_
  refine Own.iloadN hx (2 : Int32) (hb hby d1_27) rfl rfl ?_
  refine Own.iloadN hx (6 : Int32) (hb hby d1_28) rfl rfl ?_
  have hc25 : (2 : Int32) < (6 : Int32) := by decide
  refine Own.icmpFn hx (Own.q_ge (2 : Int32) (6 : Int32)) (hb hby d1_29) (pcN := 32) rfl (by decide) (pcT := 56) rfl (fun q => absurd hc25 q) (fun _ => ?_)
  refine Own.aloadN hx (.ref o0) (hb hby d1_32) rfl rfl rfl ?_
  refine Own.getfield hx hZ hown O24 2 1 rfl rfl (hw _ (List.mem_of_getElem? (i := 13) rfl)) (hb hby d1_33) rfl ?_
  refine Own.iloadN hx (2 : Int32) (hb hby d1_36) rfl rfl ?_
  refine Own.ldc2 hx hZ hown (9223372036854775807 : Int64) (hb hby d1_37) rfl (hw _ (List.mem_of_getElem? (i := 23) rfl)) ?_
  refine Own.lastore hx hZ O24 1 2 rfl (by decide) (by exact (show 2 < 6 by decide)) ((a8, Own.ArrC Z .int [(.int (0 : Int32)), (.int (0 : Int32)), (.int (0 : Int32)), (.int (0 : Int32)), (.int (0 : Int32)), (.int (0 : Int32)), (.int (0 : Int32)), (.int (1 : Int32)), (.int (0 : Int32)), (.int (0 : Int32)), (.int (0 : Int32)), (.int (0 : Int32))]) :: (a3, Own.ArrC Z .long [(.long (9223372036854775807 : Int64)), (.long (9223372036854775807 : Int64)), (.long (9223372036854775807 : Int64)), (.long (0 : Int64)), (.long (0 : Int64)), (.long (0 : Int64))]) :: (o0, Own.ObjC Z "com/example/twigline/twigline/matcher/StreamHeads" [(("com/example/twigline/twigline/matcher/StreamHeads", "size", "I"), (.int (6 : Int32))), (("com/example/twigline/twigline/matcher/StreamHeads", "starts", "[J"), (.ref a3)), (("com/example/twigline/twigline/matcher/StreamHeads", "earliest", "[I"), (.ref a8))]) :: fr) rfl (hb hby d1_40) rfl ?_
  intro h27 O28
  refine Own.aloadN hx (.ref o0) (hb hby d1_41) rfl rfl rfl ?_
  refine Own.getfield hx hZ hown O28 2 2 rfl rfl (hw _ (List.mem_of_getElem? (i := 16) rfl)) (hb hby d1_42) rfl ?_
  refine Own.iloadN hx (6 : Int32) (hb hby d1_45) rfl rfl ?_
  refine Own.iloadN hx (2 : Int32) (hb hby d1_46) rfl rfl ?_
  refine Own.iadd hx (hb hby d1_47) rfl ?_
  refine Own.vI (8 : Int32) (by decide) ?_
  refine Own.iloadN hx (2 : Int32) (hb hby d1_48) rfl rfl ?_
  refine Own.iastore hx hZ O28 0 8 rfl (by decide) (by exact (show 8 < 12 by decide)) ((a8, Own.ArrC Z .int [(.int (0 : Int32)), (.int (0 : Int32)), (.int (0 : Int32)), (.int (0 : Int32)), (.int (0 : Int32)), (.int (0 : Int32)), (.int (0 : Int32)), (.int (1 : Int32)), (.int (2 : Int32)), (.int (0 : Int32)), (.int (0 : Int32)), (.int (0 : Int32))]) :: (a3, Own.ArrC Z .long [(.long (9223372036854775807 : Int64)), (.long (9223372036854775807 : Int64)), (.long (9223372036854775807 : Int64)), (.long (0 : Int64)), (.long (0 : Int64)), (.long (0 : Int64))]) :: (o0, Own.ObjC Z "com/example/twigline/twigline/matcher/StreamHeads" [(("com/example/twigline/twigline/matcher/StreamHeads", "size", "I"), (.int (6 : Int32))), (("com/example/twigline/twigline/matcher/StreamHeads", "starts", "[J"), (.ref a3)), (("com/example/twigline/twigline/matcher/StreamHeads", "earliest", "[I"), (.ref a8))]) :: fr) rfl (hb hby d1_49) rfl ?_
  intro h29 O30
  refine Own.iinc hx (3 : Int32) #[.val (.ref o0), .val (.int (6 : Int32)), .val (.int (3 : Int32))] (hb hby d1_50) rfl rfl (by decide) rfl ?_
  refine Own.goto hx (hb hby d1_53) (by decide) (pc' := 27) rfl ?_
  refine Own.iloadN hx (3 : Int32) (hb hby d1_27) rfl rfl ?_
  refine Own.iloadN hx (6 : Int32) (hb hby d1_28) rfl rfl ?_
  have hc31 : (3 : Int32) < (6 : Int32) := by decide
  refine Own.icmpFn hx (Own.q_ge (3 : Int32) (6 : Int32)) (hb hby d1_29) (pcN := 32) rfl (by decide) (pcT := 56) rfl (fun q => absurd hc31 q) (fun _ => ?_)
  refine Own.aloadN hx (.ref o0) (hb hby d1_32) rfl rfl rfl ?_
  refine Own.getfield hx hZ hown O30 2 1 rfl rfl (hw _ (List.mem_of_getElem? (i := 13) rfl)) (hb hby d1_33) rfl ?_
  refine Own.iloadN hx (3 : Int32) (hb hby d1_36) rfl rfl ?_
  refine Own.ldc2 hx hZ hown (9223372036854775807 : Int64) (hb hby d1_37) rfl (hw _ (List.mem_of_getElem? (i := 23) rfl)) ?_
  refine Own.lastore hx hZ O30 1 3 rfl (by decide) (by exact (show 3 < 6 by decide)) ((a8, Own.ArrC Z .int [(.int (0 : Int32)), (.int (0 : Int32)), (.int (0 : Int32)), (.int (0 : Int32)), (.int (0 : Int32)), (.int (0 : Int32)), (.int (0 : Int32)), (.int (1 : Int32)), (.int (2 : Int32)), (.int (0 : Int32)), (.int (0 : Int32)), (.int (0 : Int32))]) :: (a3, Own.ArrC Z .long [(.long (9223372036854775807 : Int64)), (.long (9223372036854775807 : Int64)), (.long (9223372036854775807 : Int64)), (.long (9223372036854775807 : Int64)), (.long (0 : Int64)), (.long (0 : Int64))]) :: (o0, Own.ObjC Z "com/example/twigline/twigline/matcher/StreamHeads" [(("com/example/twigline/twigline/matcher/StreamHeads", "size", "I"), (.int (6 : Int32))), (("com/example/twigline/twigline/matcher/StreamHeads", "starts", "[J"), (.ref a3)), (("com/example/twigline/twigline/matcher/StreamHeads", "earliest", "[I"), (.ref a8))]) :: fr) rfl (hb hby d1_40) rfl ?_
  intro h33 O34
  refine Own.aloadN hx (.ref o0) (hb hby d1_41) rfl rfl rfl ?_
  refine Own.getfield hx hZ hown O34 2 2 rfl rfl (hw _ (List.mem_of_getElem? (i := 16) rfl)) (hb hby d1_42) rfl ?_
  refine Own.iloadN hx (6 : Int32) (hb hby d1_45) rfl rfl ?_
  refine Own.iloadN hx (3 : Int32) (hb hby d1_46) rfl rfl ?_
  refine Own.iadd hx (hb hby d1_47) rfl ?_
  refine Own.vI (9 : Int32) (by decide) ?_
  refine Own.iloadN hx (3 : Int32) (hb hby d1_48) rfl rfl ?_
  refine Own.iastore hx hZ O34 0 9 rfl (by decide) (by exact (show 9 < 12 by decide)) ((a8, Own.ArrC Z .int [(.int (0 : Int32)), (.int (0 : Int32)), (.int (0 : Int32)), (.int (0 : Int32)), (.int (0 : Int32)), (.int (0 : Int32)), (.int (0 : Int32)), (.int (1 : Int32)), (.int (2 : Int32)), (.int (3 : Int32)), (.int (0 : Int32)), (.int (0 : Int32))]) :: (a3, Own.ArrC Z .long [(.long (9223372036854775807 : Int64)), (.long (9223372036854775807 : Int64)), (.long (9223372036854775807 : Int64)), (.long (9223372036854775807 : Int64)), (.long (0 : Int64)), (.long (0 : Int64))]) :: (o0, Own.ObjC Z "com/example/twigline/twigline/matcher/StreamHeads" [(("com/example/twigline/twigline/matcher/StreamHeads", "size", "I"), (.int (6 : Int32))), (("com/example/twigline/twigline/matcher/StreamHeads", "starts", "[J"), (.ref a3)), (("com/example/twigline/twigline/matcher/StreamHeads", "earliest", "[I"), (.ref a8))]) :: fr) rfl (hb hby d1_49) rfl ?_
  intro h35 O36
  refine Own.iinc hx (4 : Int32) #[.val (.ref o0), .val (.int (6 : Int32)), .val (.int (4 : Int32))] (hb hby d1_50) rfl rfl (by decide) rfl ?_
  refine Own.goto hx (hb hby d1_53) (by decide) (pc' := 27) rfl ?_
  refine Own.iloadN hx (4 : Int32) (hb hby d1_27) rfl rfl ?_
  refine Own.iloadN hx (6 : Int32) (hb hby d1_28) rfl rfl ?_
  have hc37 : (4 : Int32) < (6 : Int32) := by decide
  refine Own.icmpFn hx (Own.q_ge (4 : Int32) (6 : Int32)) (hb hby d1_29) (pcN := 32) rfl (by decide) (pcT := 56) rfl (fun q => absurd hc37 q) (fun _ => ?_)
  refine Own.aloadN hx (.ref o0) (hb hby d1_32) rfl rfl rfl ?_
  refine Own.getfield hx hZ hown O36 2 1 rfl rfl (hw _ (List.mem_of_getElem? (i := 13) rfl)) (hb hby d1_33) rfl ?_
  refine Own.iloadN hx (4 : Int32) (hb hby d1_36) rfl rfl ?_
  refine Own.ldc2 hx hZ hown (9223372036854775807 : Int64) (hb hby d1_37) rfl (hw _ (List.mem_of_getElem? (i := 23) rfl)) ?_
  refine Own.lastore hx hZ O36 1 4 rfl (by decide) (by exact (show 4 < 6 by decide)) ((a8, Own.ArrC Z .int [(.int (0 : Int32)), (.int (0 : Int32)), (.int (0 : Int32)), (.int (0 : Int32)), (.int (0 : Int32)), (.int (0 : Int32)), (.int (0 : Int32)), (.int (1 : Int32)), (.int (2 : Int32)), (.int (3 : Int32)), (.int (0 : Int32)), (.int (0 : Int32))]) :: (a3, Own.ArrC Z .long [(.long (9223372036854775807 : Int64)), (.long (9223372036854775807 : Int64)), (.long (9223372036854775807 : Int64)), (.long (9223372036854775807 : Int64)), (.long (9223372036854775807 : Int64)), (.long (0 : Int64))]) :: (o0, Own.ObjC Z "com/example/twigline/twigline/matcher/StreamHeads" [(("com/example/twigline/twigline/matcher/StreamHeads", "size", "I"), (.int (6 : Int32))), (("com/example/twigline/twigline/matcher/StreamHeads", "starts", "[J"), (.ref a3)), (("com/example/twigline/twigline/matcher/StreamHeads", "earliest", "[I"), (.ref a8))]) :: fr) rfl (hb hby d1_40) rfl ?_
  intro h39 O40
  refine Own.aloadN hx (.ref o0) (hb hby d1_41) rfl rfl rfl ?_
  refine Own.getfield hx hZ hown O40 2 2 rfl rfl (hw _ (List.mem_of_getElem? (i := 16) rfl)) (hb hby d1_42) rfl ?_
  refine Own.iloadN hx (6 : Int32) (hb hby d1_45) rfl rfl ?_
  refine Own.iloadN hx (4 : Int32) (hb hby d1_46) rfl rfl ?_
  refine Own.iadd hx (hb hby d1_47) rfl ?_
  refine Own.vI (10 : Int32) (by decide) ?_
  refine Own.iloadN hx (4 : Int32) (hb hby d1_48) rfl rfl ?_
  refine Own.iastore hx hZ O40 0 10 rfl (by decide) (by exact (show 10 < 12 by decide)) ((a8, Own.ArrC Z .int [(.int (0 : Int32)), (.int (0 : Int32)), (.int (0 : Int32)), (.int (0 : Int32)), (.int (0 : Int32)), (.int (0 : Int32)), (.int (0 : Int32)), (.int (1 : Int32)), (.int (2 : Int32)), (.int (3 : Int32)), (.int (4 : Int32)), (.int (0 : Int32))]) :: (a3, Own.ArrC Z .long [(.long (9223372036854775807 : Int64)), (.long (9223372036854775807 : Int64)), (.long (9223372036854775807 : Int64)), (.long (9223372036854775807 : Int64)), (.long (9223372036854775807 : Int64)), (.long (0 : Int64))]) :: (o0, Own.ObjC Z "com/example/twigline/twigline/matcher/StreamHeads" [(("com/example/twigline/twigline/matcher/StreamHeads", "size", "I"), (.int (6 : Int32))), (("com/example/twigline/twigline/matcher/StreamHeads", "starts", "[J"), (.ref a3)), (("com/example/twigline/twigline/matcher/StreamHeads", "earliest", "[I"), (.ref a8))]) :: fr) rfl (hb hby d1_49) rfl ?_
  intro h41 O42
  refine Own.iinc hx (5 : Int32) #[.val (.ref o0), .val (.int (6 : Int32)), .val (.int (5 : Int32))] (hb hby d1_50) rfl rfl (by decide) rfl ?_
  refine Own.goto hx (hb hby d1_53) (by decide) (pc' := 27) rfl ?_
  refine Own.iloadN hx (5 : Int32) (hb hby d1_27) rfl rfl ?_
  refine Own.iloadN hx (6 : Int32) (hb hby d1_28) rfl rfl ?_
  have hc43 : (5 : Int32) < (6 : Int32) := by decide
  refine Own.icmpFn hx (Own.q_ge (5 : Int32) (6 : Int32)) (hb hby d1_29) (pcN := 32) rfl (by decide) (pcT := 56) rfl (fun q => absurd hc43 q) (fun _ => ?_)
  refine Own.aloadN hx (.ref o0) (hb hby d1_32) rfl rfl rfl ?_
  refine Own.getfield hx hZ hown O42 2 1 rfl rfl (hw _ (List.mem_of_getElem? (i := 13) rfl)) (hb hby d1_33) rfl ?_
  refine Own.iloadN hx (5 : Int32) (hb hby d1_36) rfl rfl ?_
  refine Own.ldc2 hx hZ hown (9223372036854775807 : Int64) (hb hby d1_37) rfl (hw _ (List.mem_of_getElem? (i := 23) rfl)) ?_
  refine Own.lastore hx hZ O42 1 5 rfl (by decide) (by exact (show 5 < 6 by decide)) ((a8, Own.ArrC Z .int [(.int (0 : Int32)), (.int (0 : Int32)), (.int (0 : Int32)), (.int (0 : Int32)), (.int (0 : Int32)), (.int (0 : Int32)), (.int (0 : Int32)), (.int (1 : Int32)), (.int (2 : Int32)), (.int (3 : Int32)), (.int (4 : Int32)), (.int (0 : Int32))]) :: (a3, Own.ArrC Z .long [(.long (9223372036854775807 : Int64)), (.long (9223372036854775807 : Int64)), (.long (9223372036854775807 : Int64)), (.long (9223372036854775807 : Int64)), (.long (9223372036854775807 : Int64)), (.long (9223372036854775807 : Int64))]) :: (o0, Own.ObjC Z "com/example/twigline/twigline/matcher/StreamHeads" [(("com/example/twigline/twigline/matcher/StreamHeads", "size", "I"), (.int (6 : Int32))), (("com/example/twigline/twigline/matcher/StreamHeads", "starts", "[J"), (.ref a3)), (("com/example/twigline/twigline/matcher/StreamHeads", "earliest", "[I"), (.ref a8))]) :: fr) rfl (hb hby d1_40) rfl ?_
  intro h45 O46
  refine Own.aloadN hx (.ref o0) (hb hby d1_41) rfl rfl rfl ?_
  refine Own.getfield hx hZ hown O46 2 2 rfl rfl (hw _ (List.mem_of_getElem? (i := 16) rfl)) (hb hby d1_42) rfl ?_
  refine Own.iloadN hx (6 : Int32) (hb hby d1_45) rfl rfl ?_
  refine Own.iloadN hx (5 : Int32) (hb hby d1_46) rfl rfl ?_
  refine Own.iadd hx (hb hby d1_47) rfl ?_
  refine Own.vI (11 : Int32) (by decide) ?_
  refine Own.iloadN hx (5 : Int32) (hb hby d1_48) rfl rfl ?_
  refine Own.iastore hx hZ O46 0 11 rfl (by decide) (by exact (show 11 < 12 by decide)) ((a8, Own.ArrC Z .int [(.int (0 : Int32)), (.int (0 : Int32)), (.int (0 : Int32)), (.int (0 : Int32)), (.int (0 : Int32)), (.int (0 : Int32)), (.int (0 : Int32)), (.int (1 : Int32)), (.int (2 : Int32)), (.int (3 : Int32)), (.int (4 : Int32)), (.int (5 : Int32))]) :: (a3, Own.ArrC Z .long [(.long (9223372036854775807 : Int64)), (.long (9223372036854775807 : Int64)), (.long (9223372036854775807 : Int64)), (.long (9223372036854775807 : Int64)), (.long (9223372036854775807 : Int64)), (.long (9223372036854775807 : Int64))]) :: (o0, Own.ObjC Z "com/example/twigline/twigline/matcher/StreamHeads" [(("com/example/twigline/twigline/matcher/StreamHeads", "size", "I"), (.int (6 : Int32))), (("com/example/twigline/twigline/matcher/StreamHeads", "starts", "[J"), (.ref a3)), (("com/example/twigline/twigline/matcher/StreamHeads", "earliest", "[I"), (.ref a8))]) :: fr) rfl (hb hby d1_49) rfl ?_
  intro h47 O48
  refine Own.iinc hx (6 : Int32) #[.val (.ref o0), .val (.int (6 : Int32)), .val (.int (6 : Int32))] (hb hby d1_50) rfl rfl (by decide) rfl ?_
  refine Own.goto hx (hb hby d1_53) (by decide) (pc' := 27) rfl ?_
  refine Own.iloadN hx (6 : Int32) (hb hby d1_27) rfl rfl ?_
  refine Own.iloadN hx (6 : Int32) (hb hby d1_28) rfl rfl ?_
  have hc49 : ¬ ((6 : Int32) < (6 : Int32)) := by decide
  refine Own.icmpFn hx (Own.q_ge (6 : Int32) (6 : Int32)) (hb hby d1_29) (pcN := 32) rfl (by decide) (pcT := 56) rfl (fun _ => ?_) (fun q => absurd q hc49)
  refine Own.iloadN hx (6 : Int32) (hb hby d1_56) rfl rfl ?_
  refine Own.iconst hx (1 : Int32) (hb hby d1_57) rfl (by decide) ?_
  refine Own.isub hx (hb hby d1_58) rfl ?_
  refine Own.vI (5 : Int32) (by decide) ?_
  refine Own.istoreN hx (5 : Int32) rfl #[.val (.ref o0), .val (.int (6 : Int32)), .val (.int (5 : Int32))] (hb hby d1_59) rfl rfl ?_
  refine Own.iloadN hx (5 : Int32) (hb hby d1_60) rfl rfl ?_
  have hc51 : (0 : Int32) < (5 : Int32) := by decide
  refine Own.ifFn hx (Own.z_le (5 : Int32)) (hb hby d1_61) (pcN := 64) rfl (by decide) (pcT := 98) rfl (fun q => absurd hc51 q) (fun _ => ?_)
  refine Own.aloadN hx (.ref o0) (hb hby d1_64) rfl rfl rfl ?_
  refine Own.getfield hx hZ hown O48 2 2 rfl rfl (hw _ (List.mem_of_getElem? (i := 16) rfl)) (hb hby d1_65) rfl ?_
  refine Own.iloadN hx (5 : Int32) (hb hby d1_68) rfl rfl ?_
  refine Own.aloadN hx (.ref o0) (hb hby d1_69) rfl rfl rfl ?_
  refine Own.aloadN hx (.ref o0) (hb hby d1_70) rfl rfl rfl ?_
  refine Own.getfield hx hZ hown O48 2 2 rfl rfl (hw _ (List.mem_of_getElem? (i := 16) rfl)) (hb hby d1_71) rfl ?_
  refine Own.iconst hx (2 : Int32) (hb hby d1_74) rfl (by decide) ?_
  refine Own.iloadN hx (5 : Int32) (hb hby d1_75) rfl rfl ?_
  refine Own.imul hx (hb hby d1_76) rfl ?_
  refine Own.vI (10 : Int32) (by decide) ?_
  refine Own.iaload hx hZ O48 0 10 rfl (by decide) (v := (.int (4 : Int32))) rfl (hb hby d1_77) rfl ?_
  refine Own.aloadN hx (.ref o0) (hb hby d1_78) rfl rfl rfl ?_
  refine Own.getfield hx hZ hown O48 2 2 rfl rfl (hw _ (List.mem_of_getElem? (i := 16) rfl)) (hb hby d1_79) rfl ?_
  refine Own.iconst hx (2 : Int32) (hb hby d1_82) rfl (by decide) ?_
  refine Own.iloadN hx (5 : Int32) (hb hby d1_83) rfl rfl ?_
  refine Own.imul hx (hb hby d1_84) rfl ?_
  refine Own.vI (10 : Int32) (by decide) ?_
  refine Own.iconst hx (1 : Int32) (hb hby d1_85) rfl (by decide) ?_
  refine Own.iadd hx (hb hby d1_86) rfl ?_
  refine Own.vI (11 : Int32) (by decide) ?_
  refine Own.iaload hx hZ O48 0 11 rfl (by decide) (v := (.int (5 : Int32))) rfl (hb hby d1_87) rfl ?_
  have O53 : Own.Owns n0 h47 ((a3, Own.ArrC Z .long [(.long (9223372036854775807 : Int64)), (.long (9223372036854775807 : Int64)), (.long (9223372036854775807 : Int64)), (.long (9223372036854775807 : Int64)), (.long (9223372036854775807 : Int64)), (.long (9223372036854775807 : Int64))]) :: (a8, Own.ArrC Z .int [(.int (0 : Int32)), (.int (0 : Int32)), (.int (0 : Int32)), (.int (0 : Int32)), (.int (0 : Int32)), (.int (0 : Int32)), (.int (0 : Int32)), (.int (1 : Int32)), (.int (2 : Int32)), (.int (3 : Int32)), (.int (4 : Int32)), (.int (5 : Int32))]) :: (o0, Own.ObjC Z "com/example/twigline/twigline/matcher/StreamHeads" [(("com/example/twigline/twigline/matcher/StreamHeads", "size", "I"), (.int (6 : Int32))), (("com/example/twigline/twigline/matcher/StreamHeads", "starts", "[J"), (.ref a3)), (("com/example/twigline/twigline/matcher/StreamHeads", "earliest", "[I"), (.ref a8))]) :: fr) := O48.pick 1 rfl
  have O54 : Own.Owns n0 h47 ((o0, Own.ObjC Z "com/example/twigline/twigline/matcher/StreamHeads" [(("com/example/twigline/twigline/matcher/StreamHeads", "size", "I"), (.int (6 : Int32))), (("com/example/twigline/twigline/matcher/StreamHeads", "starts", "[J"), (.ref a3)), (("com/example/twigline/twigline/matcher/StreamHeads", "earliest", "[I"), (.ref a8))]) :: (a3, Own.ArrC Z .long [(.long (9223372036854775807 : Int64)), (.long (9223372036854775807 : Int64)), (.long (9223372036854775807 : Int64)), (.long (9223372036854775807 : Int64)), (.long (9223372036854775807 : Int64)), (.long (9223372036854775807 : Int64))]) :: (a8, Own.ArrC Z .int [(.int (0 : Int32)), (.int (0 : Int32)), (.int (0 : Int32)), (.int (0 : Int32)), (.int (0 : Int32)), (.int (0 : Int32)), (.int (0 : Int32)), (.int (1 : Int32)), (.int (2 : Int32)), (.int (3 : Int32)), (.int (4 : Int32)), (.int (5 : Int32))]) :: fr) := O53.pick 2 rfl
  refine Own.callP hx hZ hown (O54.exa (i := 0) rfl) (hw _ (List.mem_of_getElem? (i := 24) rfl)) (hw _ (List.mem_of_getElem? (i := 25) rfl)) (hw _ (List.mem_of_getElem? (i := 3) rfl)) (hw _ (List.mem_of_getElem? (i := 26) rfl)) (hw _ (List.mem_of_getElem? (i := 4) rfl)) (hw _ (List.mem_of_getElem? (i := 27) rfl)) (by decide) pd1 (argsL := [(.int (4 : Int32)), (.int (5 : Int32))]) (rest := [(.int (5 : Int32)), (.ref a8)]) rfl (W := 2) (Nat.le_of_eq rfl) (rm := ({ frames := 0, cells := 0, slots := 0, locals := 0 } : Room)) (by decide) (by decide) (by decide) (by decide) (k' := 2) (n' := 18) rfl rfl (by rw [hml]; rfl) [(.int (5 : Int32)), (.int (4 : Int32)), (.ref o0), (.int (5 : Int32)), (.ref a8)] rfl (hb hby d1_88) (pc' := 91) rfl (rm4 l Z a0 hw o0 h47 n0 4 5 6 a3 a8 [(9223372036854775807 : Int64), (9223372036854775807 : Int64), (9223372036854775807 : Int64), (9223372036854775807 : Int64), (9223372036854775807 : Int64), (9223372036854775807 : Int64)] (by decide) (by decide) (by decide) ((a8, Own.ArrC Z .int [(.int (0 : Int32)), (.int (0 : Int32)), (.int (0 : Int32)), (.int (0 : Int32)), (.int (0 : Int32)), (.int (0 : Int32)), (.int (0 : Int32)), (.int (1 : Int32)), (.int (2 : Int32)), (.int (3 : Int32)), (.int (4 : Int32)), (.int (5 : Int32))]) :: fr) O54) ?_
  rintro _ h' ⟨rfl, eh⟩
  rw [eh]; clear eh h'
  show Own.Goes _ _ _ _ _ _ _ _ _ _ _ _ _ _ _ _ _ (mkF m 91 #[.val (.ref o0), .val (.int (6 : Int32)), .val (.int (5 : Int32))] [(.int (4 : Int32)), (.int (5 : Int32)), (.ref a8)])
  refine Own.iastore hx hZ O54 2 5 rfl (by decide) (by exact (show 5 < 12 by decide)) ((o0, Own.ObjC Z "com/example/twigline/twigline/matcher/StreamHeads" [(("com/example/twigline/twigline/matcher/StreamHeads", "size", "I"), (.int (6 : Int32))), (("com/example/twigline/twigline/matcher/StreamHeads", "starts", "[J"), (.ref a3)), (("com/example/twigline/twigline/matcher/StreamHeads", "earliest", "[I"), (.ref a8))]) :: (a3, Own.ArrC Z .long [(.long (9223372036854775807 : Int64)), (.long (9223372036854775807 : Int64)), (.long (9223372036854775807 : Int64)), (.long (9223372036854775807 : Int64)), (.long (9223372036854775807 : Int64)), (.long (9223372036854775807 : Int64))]) :: (a8, Own.ArrC Z .int [(.int (0 : Int32)), (.int (0 : Int32)), (.int (0 : Int32)), (.int (0 : Int32)), (.int (0 : Int32)), (.int (4 : Int32)), (.int (0 : Int32)), (.int (1 : Int32)), (.int (2 : Int32)), (.int (3 : Int32)), (.int (4 : Int32)), (.int (5 : Int32))]) :: fr) rfl (hb hby d1_91) rfl ?_
  intro h55 O56
  refine Own.iinc hx (4 : Int32) #[.val (.ref o0), .val (.int (6 : Int32)), .val (.int (4 : Int32))] (hb hby d1_92) rfl rfl (by decide) rfl ?_
  refine Own.goto hx (hb hby d1_95) (by decide) (pc' := 60) rfl ?_
  refine Own.iloadN hx (4 : Int32) (hb hby d1_60) rfl rfl ?_
  have hc57 : (0 : Int32) < (4 : Int32) := by decide
  refine Own.ifFn hx (Own.z_le (4 : Int32)) (hb hby d1_61) (pcN := 64) rfl (by decide) (pcT := 98) rfl (fun q => absurd hc57 q) (fun _ => ?_)
  refine Own.aloadN hx (.ref o0) (hb hby d1_64) rfl rfl rfl ?_
  refine Own.getfield hx hZ hown O56 0 2 rfl rfl (hw _ (List.mem_of_getElem? (i := 16) rfl)) (hb hby d1_65) rfl ?_
  refine Own.iloadN hx (4 : Int32) (hb hby d1_68) rfl rfl ?_
  refine Own.aloadN hx (.ref o0) (hb hby d1_69) rfl rfl rfl ?_
  refine Own.aloadN hx (.ref o0) (hb hby d1_70) rfl rfl rfl ?_
  refine Own.getfield hx hZ hown O56 0 2 rfl rfl (hw _ (List.mem_of_getElem? (i := 16) rfl)) (hb hby d1_71) rfl ?_
  refine Own.iconst hx (2 : Int32) (hb hby d1_74) rfl (by decide) ?_
  refine Own.iloadN hx (4 : Int32) (hb hby d1_75) rfl rfl ?_
  refine Own.imul hx (hb hby d1_76) rfl ?_
  refine Own.vI (8 : Int32) (by decide) ?_
  refine Own.iaload hx hZ O56 2 8 rfl (by decide) (v := (.int (2 : Int32))) rfl (hb hby d1_77) rfl ?_
  refine Own.aloadN hx (.ref o0) (hb hby d1_78) rfl rfl rfl ?_
  refine Own.getfield hx hZ hown O56 0 2 rfl rfl (hw _ (List.mem_of_getElem? (i := 16) rfl)) (hb hby d1_79) rfl ?_
  refine Own.iconst hx (2 : Int32) (hb hby d1_82) rfl (by decide) ?_
  refine Own.iloadN hx (4 : Int32) (hb hby d1_83) rfl rfl ?_
  refine Own.imul hx (hb hby d1_84) rfl ?_
  refine Own.vI (8 : Int32) (by decide) ?_
  refine Own.iconst hx (1 : Int32) (hb hby d1_85) rfl (by decide) ?_
  refine Own.iadd hx (hb hby d1_86) rfl ?_
  refine Own.vI (9 : Int32) (by decide) ?_
  refine Own.iaload hx hZ O56 2 9 rfl (by decide) (v := (.int (3 : Int32))) rfl (hb hby d1_87) rfl ?_
  have O59 : Own.Owns n0 h55 ((a3, Own.ArrC Z .long [(.long (9223372036854775807 : Int64)), (.long (9223372036854775807 : Int64)), (.long (9223372036854775807 : Int64)), (.long (9223372036854775807 : Int64)), (.long (9223372036854775807 : Int64)), (.long (9223372036854775807 : Int64))]) :: (o0, Own.ObjC Z "com/example/twigline/twigline/matcher/StreamHeads" [(("com/example/twigline/twigline/matcher/StreamHeads", "size", "I"), (.int (6 : Int32))), (("com/example/twigline/twigline/matcher/StreamHeads", "starts", "[J"), (.ref a3)), (("com/example/twigline/twigline/matcher/StreamHeads", "earliest", "[I"), (.ref a8))]) :: (a8, Own.ArrC Z .int [(.int (0 : Int32)), (.int (0 : Int32)), (.int (0 : Int32)), (.int (0 : Int32)), (.int (0 : Int32)), (.int (4 : Int32)), (.int (0 : Int32)), (.int (1 : Int32)), (.int (2 : Int32)), (.int (3 : Int32)), (.int (4 : Int32)), (.int (5 : Int32))]) :: fr) := O56.pick 1 rfl
  have O60 : Own.Owns n0 h55 ((o0, Own.ObjC Z "com/example/twigline/twigline/matcher/StreamHeads" [(("com/example/twigline/twigline/matcher/StreamHeads", "size", "I"), (.int (6 : Int32))), (("com/example/twigline/twigline/matcher/StreamHeads", "starts", "[J"), (.ref a3)), (("com/example/twigline/twigline/matcher/StreamHeads", "earliest", "[I"), (.ref a8))]) :: (a3, Own.ArrC Z .long [(.long (9223372036854775807 : Int64)), (.long (9223372036854775807 : Int64)), (.long (9223372036854775807 : Int64)), (.long (9223372036854775807 : Int64)), (.long (9223372036854775807 : Int64)), (.long (9223372036854775807 : Int64))]) :: (a8, Own.ArrC Z .int [(.int (0 : Int32)), (.int (0 : Int32)), (.int (0 : Int32)), (.int (0 : Int32)), (.int (0 : Int32)), (.int (4 : Int32)), (.int (0 : Int32)), (.int (1 : Int32)), (.int (2 : Int32)), (.int (3 : Int32)), (.int (4 : Int32)), (.int (5 : Int32))]) :: fr) := O59.pick 1 rfl
  refine Own.callP hx hZ hown (O60.exa (i := 0) rfl) (hw _ (List.mem_of_getElem? (i := 24) rfl)) (hw _ (List.mem_of_getElem? (i := 25) rfl)) (hw _ (List.mem_of_getElem? (i := 3) rfl)) (hw _ (List.mem_of_getElem? (i := 26) rfl)) (hw _ (List.mem_of_getElem? (i := 4) rfl)) (hw _ (List.mem_of_getElem? (i := 27) rfl)) (by decide) pd1 (argsL := [(.int (2 : Int32)), (.int (3 : Int32))]) (rest := [(.int (4 : Int32)), (.ref a8)]) rfl (W := 2) (Nat.le_of_eq rfl) (rm := ({ frames := 0, cells := 0, slots := 0, locals := 0 } : Room)) (by decide) (by decide) (by decide) (by decide) (k' := 2) (n' := 18) rfl rfl (by rw [hml]; rfl) [(.int (3 : Int32)), (.int (2 : Int32)), (.ref o0), (.int (4 : Int32)), (.ref a8)] rfl (hb hby d1_88) (pc' := 91) rfl (rm4 l Z a0 hw o0 h55 n0 2 3 6 a3 a8 [(9223372036854775807 : Int64), (9223372036854775807 : Int64), (9223372036854775807 : Int64), (9223372036854775807 : Int64), (9223372036854775807 : Int64), (9223372036854775807 : Int64)] (by decide) (by decide) (by decide) ((a8, Own.ArrC Z .int [(.int (0 : Int32)), (.int (0 : Int32)), (.int (0 : Int32)), (.int (0 : Int32)), (.int (0 : Int32)), (.int (4 : Int32)), (.int (0 : Int32)), (.int (1 : Int32)), (.int (2 : Int32)), (.int (3 : Int32)), (.int (4 : Int32)), (.int (5 : Int32))]) :: fr) O60) ?_
  rintro _ h' ⟨rfl, eh⟩
  rw [eh]; clear eh h'
  show Own.Goes _ _ _ _ _ _ _ _ _ _ _ _ _ _ _ _ _ (mkF m 91 #[.val (.ref o0), .val (.int (6 : Int32)), .val (.int (4 : Int32))] [(.int (2 : Int32)), (.int (4 : Int32)), (.ref a8)])
  refine Own.iastore hx hZ O60 2 4 rfl (by decide) (by exact (show 4 < 12 by decide)) ((o0, Own.ObjC Z "com/example/twigline/twigline/matcher/StreamHeads" [(("com/example/twigline/twigline/matcher/StreamHeads", "size", "I"), (.int (6 : Int32))), (("com/example/twigline/twigline/matcher/StreamHeads", "starts", "[J"), (.ref a3)), (("com/example/twigline/twigline/matcher/StreamHeads", "earliest", "[I"), (.ref a8))]) :: (a3, Own.ArrC Z .long [(.long (9223372036854775807 : Int64)), (.long (9223372036854775807 : Int64)), (.long (9223372036854775807 : Int64)), (.long (9223372036854775807 : Int64)), (.long (9223372036854775807 : Int64)), (.long (9223372036854775807 : Int64))]) :: (a8, Own.ArrC Z .int [(.int (0 : Int32)), (.int (0 : Int32)), (.int (0 : Int32)), (.int (0 : Int32)), (.int (2 : Int32)), (.int (4 : Int32)), (.int (0 : Int32)), (.int (1 : Int32)), (.int (2 : Int32)), (.int (3 : Int32)), (.int (4 : Int32)), (.int (5 : Int32))]) :: fr) rfl (hb hby d1_91) rfl ?_
  intro h61 O62
  refine Own.iinc hx (3 : Int32) #[.val (.ref o0), .val (.int (6 : Int32)), .val (.int (3 : Int32))] (hb hby d1_92) rfl rfl (by decide) rfl ?_
  refine Own.goto hx (hb hby d1_95) (by decide) (pc' := 60) rfl ?_
  refine Own.iloadN hx (3 : Int32) (hb hby d1_60) rfl rfl ?_
  have hc63 : (0 : Int32) < (3 : Int32) := by decide
  refine Own.ifFn hx (Own.z_le (3 : Int32)) (hb hby d1_61) (pcN := 64) rfl (by decide) (pcT := 98) rfl (fun q => absurd hc63 q) (fun _ => ?_)
  refine Own.aloadN hx (.ref o0) (hb hby d1_64) rfl rfl rfl ?_
  refine Own.getfield hx hZ hown O62 0 2 rfl rfl (hw _ (List.mem_of_getElem? (i := 16) rfl)) (hb hby d1_65) rfl ?_
  refine Own.iloadN hx (3 : Int32) (hb hby d1_68) rfl rfl ?_
  refine Own.aloadN hx (.ref o0) (hb hby d1_69) rfl rfl rfl ?_
  refine Own.aloadN hx (.ref o0) (hb hby d1_70) rfl rfl rfl ?_
  refine Own.getfield hx hZ hown O62 0 2 rfl rfl (hw _ (List.mem_of_getElem? (i := 16) rfl)) (hb hby d1_71) rfl ?_
  refine Own.iconst hx (2 : Int32) (hb hby d1_74) rfl (by decide) ?_
  refine Own.iloadN hx (3 : Int32) (hb hby d1_75) rfl rfl ?_
  refine Own.imul hx (hb hby d1_76) rfl ?_
  refine Own.vI (6 : Int32) (by decide) ?_
  refine Own.iaload hx hZ O62 2 6 rfl (by decide) (v := (.int (0 : Int32))) rfl (hb hby d1_77) rfl ?_
  refine Own.aloadN hx (.ref o0) (hb hby d1_78) rfl rfl rfl ?_
  refine Own.getfield hx hZ hown O62 0 2 rfl rfl (hw _ (List.mem_of_getElem? (i := 16) rfl)) (hb hby d1_79) rfl ?_
  refine Own.iconst hx (2 : Int32) (hb hby d1_82) rfl (by decide) ?_
  refine Own.iloadN hx (3 : Int32) (hb hby d1_83) rfl rfl ?_
  refine Own.imul hx (hb hby d1_84) rfl ?_
  refine Own.vI (6 : Int32) (by decide) ?_
  refine Own.iconst hx (1 : Int32) (hb hby d1_85) rfl (by decide) ?_
  refine Own.iadd hx (hb hby d1_86) rfl ?_
  refine Own.vI (7 : Int32) (by decide) ?_
  refine Own.iaload hx hZ O62 2 7 rfl (by decide) (v := (.int (1 : Int32))) rfl (hb hby d1_87) rfl ?_
  have O65 : Own.Owns n0 h61 ((a3, Own.ArrC Z .long [(.long (9223372036854775807 : Int64)), (.long (9223372036854775807 : Int64)), (.long (9223372036854775807 : Int64)), (.long (9223372036854775807 : Int64)), (.long (9223372036854775807 : Int64)), (.long (9223372036854775807 : Int64))]) :: (o0, Own.ObjC Z "com/example/twigline/twigline/matcher/StreamHeads" [(("com/example/twigline/twigline/matcher/StreamHeads", "size", "I"), (.int (6 : Int32))), (("com/example/twigline/twigline/matcher/StreamHeads", "starts", "[J"), (.ref a3)), (("com/example/twigline/twigline/matcher/StreamHeads", "earliest", "[I"), (.ref a8))]) :: (a8, Own.ArrC Z .int [(.int (0 : Int32)), (.int (0 : Int32)), (.int (0 : Int32)), (.int (0 : Int32)), (.int (2 : Int32)), (.int (4 : Int32)), (.int (0 : Int32)), (.int (1 : Int32)), (.int (2 : Int32)), (.int (3 : Int32)), (.int (4 : Int32)), (.int (5 : Int32))]) :: fr) := O62.pick 1 rfl
  have O66 : Own.Owns n0 h61 ((o0, Own.ObjC Z "com/example/twigline/twigline/matcher/StreamHeads" [(("com/example/twigline/twigline/matcher/StreamHeads", "size", "I"), (.int (6 : Int32))), (("com/example/twigline/twigline/matcher/StreamHeads", "starts", "[J"), (.ref a3)), (("com/example/twigline/twigline/matcher/StreamHeads", "earliest", "[I"), (.ref a8))]) :: (a3, Own.ArrC Z .long [(.long (9223372036854775807 : Int64)), (.long (9223372036854775807 : Int64)), (.long (9223372036854775807 : Int64)), (.long (9223372036854775807 : Int64)), (.long (9223372036854775807 : Int64)), (.long (9223372036854775807 : Int64))]) :: (a8, Own.ArrC Z .int [(.int (0 : Int32)), (.int (0 : Int32)), (.int (0 : Int32)), (.int (0 : Int32)), (.int (2 : Int32)), (.int (4 : Int32)), (.int (0 : Int32)), (.int (1 : Int32)), (.int (2 : Int32)), (.int (3 : Int32)), (.int (4 : Int32)), (.int (5 : Int32))]) :: fr) := O65.pick 1 rfl
  refine Own.callP hx hZ hown (O66.exa (i := 0) rfl) (hw _ (List.mem_of_getElem? (i := 24) rfl)) (hw _ (List.mem_of_getElem? (i := 25) rfl)) (hw _ (List.mem_of_getElem? (i := 3) rfl)) (hw _ (List.mem_of_getElem? (i := 26) rfl)) (hw _ (List.mem_of_getElem? (i := 4) rfl)) (hw _ (List.mem_of_getElem? (i := 27) rfl)) (by decide) pd1 (argsL := [(.int (0 : Int32)), (.int (1 : Int32))]) (rest := [(.int (3 : Int32)), (.ref a8)]) rfl (W := 2) (Nat.le_of_eq rfl) (rm := ({ frames := 0, cells := 0, slots := 0, locals := 0 } : Room)) (by decide) (by decide) (by decide) (by decide) (k' := 2) (n' := 18) rfl rfl (by rw [hml]; rfl) [(.int (1 : Int32)), (.int (0 : Int32)), (.ref o0), (.int (3 : Int32)), (.ref a8)] rfl (hb hby d1_88) (pc' := 91) rfl (rm4 l Z a0 hw o0 h61 n0 0 1 6 a3 a8 [(9223372036854775807 : Int64), (9223372036854775807 : Int64), (9223372036854775807 : Int64), (9223372036854775807 : Int64), (9223372036854775807 : Int64), (9223372036854775807 : Int64)] (by decide) (by decide) (by decide) ((a8, Own.ArrC Z .int [(.int (0 : Int32)), (.int (0 : Int32)), (.int (0 : Int32)), (.int (0 : Int32)), (.int (2 : Int32)), (.int (4 : Int32)), (.int (0 : Int32)), (.int (1 : Int32)), (.int (2 : Int32)), (.int (3 : Int32)), (.int (4 : Int32)), (.int (5 : Int32))]) :: fr) O66) ?_
  rintro _ h' ⟨rfl, eh⟩
  rw [eh]; clear eh h'
  show Own.Goes _ _ _ _ _ _ _ _ _ _ _ _ _ _ _ _ _ (mkF m 91 #[.val (.ref o0), .val (.int (6 : Int32)), .val (.int (3 : Int32))] [(.int (0 : Int32)), (.int (3 : Int32)), (.ref a8)])
  refine Own.iastore hx hZ O66 2 3 rfl (by decide) (by exact (show 3 < 12 by decide)) ((o0, Own.ObjC Z "com/example/twigline/twigline/matcher/StreamHeads" [(("com/example/twigline/twigline/matcher/StreamHeads", "size", "I"), (.int (6 : Int32))), (("com/example/twigline/twigline/matcher/StreamHeads", "starts", "[J"), (.ref a3)), (("com/example/twigline/twigline/matcher/StreamHeads", "earliest", "[I"), (.ref a8))]) :: (a3, Own.ArrC Z .long [(.long (9223372036854775807 : Int64)), (.long (9223372036854775807 : Int64)), (.long (9223372036854775807 : Int64)), (.long (9223372036854775807 : Int64)), (.long (9223372036854775807 : Int64)), (.long (9223372036854775807 : Int64))]) :: (a8, Own.ArrC Z .int [(.int (0 : Int32)), (.int (0 : Int32)), (.int (0 : Int32)), (.int (0 : Int32)), (.int (2 : Int32)), (.int (4 : Int32)), (.int (0 : Int32)), (.int (1 : Int32)), (.int (2 : Int32)), (.int (3 : Int32)), (.int (4 : Int32)), (.int (5 : Int32))]) :: fr) rfl (hb hby d1_91) rfl ?_
  intro h67 O68
  refine Own.iinc hx (2 : Int32) #[.val (.ref o0), .val (.int (6 : Int32)), .val (.int (2 : Int32))] (hb hby d1_92) rfl rfl (by decide) rfl ?_
  refine Own.goto hx (hb hby d1_95) (by decide) (pc' := 60) rfl ?_
  refine Own.iloadN hx (2 : Int32) (hb hby d1_60) rfl rfl ?_
  have hc69 : (0 : Int32) < (2 : Int32) := by decide
  refine Own.ifFn hx (Own.z_le (2 : Int32)) (hb hby d1_61) (pcN := 64) rfl (by decide) (pcT := 98) rfl (fun q => absurd hc69 q) (fun _ => ?_)
  refine Own.aloadN hx (.ref o0) (hb hby d1_64) rfl rfl rfl ?_
  refine Own.getfield hx hZ hown O68 0 2 rfl rfl (hw _ (List.mem_of_getElem? (i := 16) rfl)) (hb hby d1_65) rfl ?_
  refine Own.iloadN hx (2 : Int32) (hb hby d1_68) rfl rfl ?_
  refine Own.aloadN hx (.ref o0) (hb hby d1_69) rfl rfl rfl ?_
  refine Own.aloadN hx (.ref o0) (hb hby d1_70) rfl rfl rfl ?_
  refine Own.getfield hx hZ hown O68 0 2 rfl rfl (hw _ (List.mem_of_getElem? (i := 16) rfl)) (hb hby d1_71) rfl ?_
  refine Own.iconst hx (2 : Int32) (hb hby d1_74) rfl (by decide) ?_
  refine Own.iloadN hx (2 : Int32) (hb hby d1_75) rfl rfl ?_
  refine Own.imul hx (hb hby d1_76) rfl ?_
  refine Own.vI (4 : Int32) (by decide) ?_
  refine Own.iaload hx hZ O68 2 4 rfl (by decide) (v := (.int (2 : Int32))) rfl (hb hby d1_77) rfl ?_
  refine Own.aloadN hx (.ref o0) (hb hby d1_78) rfl rfl rfl ?_
  refine Own.getfield hx hZ hown O68 0 2 rfl rfl (hw _ (List.mem_of_getElem? (i := 16) rfl)) (hb hby d1_79) rfl ?_
  refine Own.iconst hx (2 : Int32) (hb hby d1_82) rfl (by decide) ?_
  refine Own.iloadN hx (2 : Int32) (hb hby d1_83) rfl rfl ?_
  refine Own.imul hx (hb hby d1_84) rfl ?_
  refine Own.vI (4 : Int32) (by decide) ?_
  refine Own.iconst hx (1 : Int32) (hb hby d1_85) rfl (by decide) ?_
  refine Own.iadd hx (hb hby d1_86) rfl ?_
  refine Own.vI (5 : Int32) (by decide) ?_
  refine Own.iaload hx hZ O68 2 5 rfl (by decide) (v := (.int (4 : Int32))) rfl (hb hby d1_87) rfl ?_
  have O71 : Own.Owns n0 h67 ((a3, Own.ArrC Z .long [(.long (9223372036854775807 : Int64)), (.long (9223372036854775807 : Int64)), (.long (9223372036854775807 : Int64)), (.long (9223372036854775807 : Int64)), (.long (9223372036854775807 : Int64)), (.long (9223372036854775807 : Int64))]) :: (o0, Own.ObjC Z "com/example/twigline/twigline/matcher/StreamHeads" [(("com/example/twigline/twigline/matcher/StreamHeads", "size", "I"), (.int (6 : Int32))), (("com/example/twigline/twigline/matcher/StreamHeads", "starts", "[J"), (.ref a3)), (("com/example/twigline/twigline/matcher/StreamHeads", "earliest", "[I"), (.ref a8))]) :: (a8, Own.ArrC Z .int [(.int (0 : Int32)), (.int (0 : Int32)), (.int (0 : Int32)), (.int (0 : Int32)), (.int (2 : Int32)), (.int (4 : Int32)), (.int (0 : Int32)), (.int (1 : Int32)), (.int (2 : Int32)), (.int (3 : Int32)), (.int (4 : Int32)), (.int (5 : Int32))]) :: fr) := O68.pick 1 rfl
  have O72 : Own.Owns n0 h67 ((o0, Own.ObjC Z "com/example/twigline/twigline/matcher/StreamHeads" [(("com/example/twigline/twigline/matcher/StreamHeads", "size", "I"), (.int (6 : Int32))), (("com/example/twigline/twigline/matcher/StreamHeads", "starts", "[J"), (.ref a3)), (("com/example/twigline/twigline/matcher/StreamHeads", "earliest", "[I"), (.ref a8))]) :: (a3, Own.ArrC Z .long [(.long (9223372036854775807 : Int64)), (.long (9223372036854775807 : Int64)), (.long (9223372036854775807 : Int64)), (.long (9223372036854775807 : Int64)), (.long (9223372036854775807 : Int64)), (.long (9223372036854775807 : Int64))]) :: (a8, Own.ArrC Z .int [(.int (0 : Int32)), (.int (0 : Int32)), (.int (0 : Int32)), (.int (0 : Int32)), (.int (2 : Int32)), (.int (4 : Int32)), (.int (0 : Int32)), (.int (1 : Int32)), (.int (2 : Int32)), (.int (3 : Int32)), (.int (4 : Int32)), (.int (5 : Int32))]) :: fr) := O71.pick 1 rfl
  refine Own.callP hx hZ hown (O72.exa (i := 0) rfl) (hw _ (List.mem_of_getElem? (i := 24) rfl)) (hw _ (List.mem_of_getElem? (i := 25) rfl)) (hw _ (List.mem_of_getElem? (i := 3) rfl)) (hw _ (List.mem_of_getElem? (i := 26) rfl)) (hw _ (List.mem_of_getElem? (i := 4) rfl)) (hw _ (List.mem_of_getElem? (i := 27) rfl)) (by decide) pd1 (argsL := [(.int (2 : Int32)), (.int (4 : Int32))]) (rest := [(.int (2 : Int32)), (.ref a8)]) rfl (W := 2) (Nat.le_of_eq rfl) (rm := ({ frames := 0, cells := 0, slots := 0, locals := 0 } : Room)) (by decide) (by decide) (by decide) (by decide) (k' := 2) (n' := 18) rfl rfl (by rw [hml]; rfl) [(.int (4 : Int32)), (.int (2 : Int32)), (.ref o0), (.int (2 : Int32)), (.ref a8)] rfl (hb hby d1_88) (pc' := 91) rfl (rm4 l Z a0 hw o0 h67 n0 2 4 6 a3 a8 [(9223372036854775807 : Int64), (9223372036854775807 : Int64), (9223372036854775807 : Int64), (9223372036854775807 : Int64), (9223372036854775807 : Int64), (9223372036854775807 : Int64)] (by decide) (by decide) (by decide) ((a8, Own.ArrC Z .int [(.int (0 : Int32)), (.int (0 : Int32)), (.int (0 : Int32)), (.int (0 : Int32)), (.int (2 : Int32)), (.int (4 : Int32)), (.int (0 : Int32)), (.int (1 : Int32)), (.int (2 : Int32)), (.int (3 : Int32)), (.int (4 : Int32)), (.int (5 : Int32))]) :: fr) O72) ?_
  rintro _ h' ⟨rfl, eh⟩
  rw [eh]; clear eh h'
  show Own.Goes _ _ _ _ _ _ _ _ _ _ _ _ _ _ _ _ _ (mkF m 91 #[.val (.ref o0), .val (.int (6 : Int32)), .val (.int (2 : Int32))] [(.int (2 : Int32)), (.int (2 : Int32)), (.ref a8)])
  refine Own.iastore hx hZ O72 2 2 rfl (by decide) (by exact (show 2 < 12 by decide)) ((o0, Own.ObjC Z "com/example/twigline/twigline/matcher/StreamHeads" [(("com/example/twigline/twigline/matcher/StreamHeads", "size", "I"), (.int (6 : Int32))), (("com/example/twigline/twigline/matcher/StreamHeads", "starts", "[J"), (.ref a3)), (("com/example/twigline/twigline/matcher/StreamHeads", "earliest", "[I"), (.ref a8))]) :: (a3, Own.ArrC Z .long [(.long (9223372036854775807 : Int64)), (.long (9223372036854775807 : Int64)), (.long (9223372036854775807 : Int64)), (.long (9223372036854775807 : Int64)), (.long (9223372036854775807 : Int64)), (.long (9223372036854775807 : Int64))]) :: (a8, Own.ArrC Z .int [(.int (0 : Int32)), (.int (0 : Int32)), (.int (2 : Int32)), (.int (0 : Int32)), (.int (2 : Int32)), (.int (4 : Int32)), (.int (0 : Int32)), (.int (1 : Int32)), (.int (2 : Int32)), (.int (3 : Int32)), (.int (4 : Int32)), (.int (5 : Int32))]) :: fr) rfl (hb hby d1_91) rfl ?_
  intro h73 O74
  refine Own.iinc hx (1 : Int32) #[.val (.ref o0), .val (.int (6 : Int32)), .val (.int (1 : Int32))] (hb hby d1_92) rfl rfl (by decide) rfl ?_
  refine Own.goto hx (hb hby d1_95) (by decide) (pc' := 60) rfl ?_
  refine Own.iloadN hx (1 : Int32) (hb hby d1_60) rfl rfl ?_
  have hc75 : (0 : Int32) < (1 : Int32) := by decide
  refine Own.ifFn hx (Own.z_le (1 : Int32)) (hb hby d1_61) (pcN := 64) rfl (by decide) (pcT := 98) rfl (fun q => absurd hc75 q) (fun _ => ?_)
  refine Own.aloadN hx (.ref o0) (hb hby d1_64) rfl rfl rfl ?_
  refine Own.getfield hx hZ hown O74 0 2 rfl rfl (hw _ (List.mem_of_getElem? (i := 16) rfl)) (hb hby d1_65) rfl ?_
  refine Own.iloadN hx (1 : Int32) (hb hby d1_68) rfl rfl ?_
  refine Own.aloadN hx (.ref o0) (hb hby d1_69) rfl rfl rfl ?_
  refine Own.aloadN hx (.ref o0) (hb hby d1_70) rfl rfl rfl ?_
  refine Own.getfield hx hZ hown O74 0 2 rfl rfl (hw _ (List.mem_of_getElem? (i := 16) rfl)) (hb hby d1_71) rfl ?_
  refine Own.iconst hx (2 : Int32) (hb hby d1_74) rfl (by decide) ?_
  refine Own.iloadN hx (1 : Int32) (hb hby d1_75) rfl rfl ?_
  refine Own.imul hx (hb hby d1_76) rfl ?_
  refine Own.vI (2 : Int32) (by decide) ?_
  refine Own.iaload hx hZ O74 2 2 rfl (by decide) (v := (.int (2 : Int32))) rfl (hb hby d1_77) rfl ?_
  refine Own.aloadN hx (.ref o0) (hb hby d1_78) rfl rfl rfl ?_
  refine Own.getfield hx hZ hown O74 0 2 rfl rfl (hw _ (List.mem_of_getElem? (i := 16) rfl)) (hb hby d1_79) rfl ?_
  refine Own.iconst hx (2 : Int32) (hb hby d1_82) rfl (by decide) ?_
  refine Own.iloadN hx (1 : Int32) (hb hby d1_83) rfl rfl ?_
  refine Own.imul hx (hb hby d1_84) rfl ?_
  refine Own.vI (2 : Int32) (by decide) ?_
  refine Own.iconst hx (1 : Int32) (hb hby d1_85) rfl (by decide) ?_
  refine Own.iadd hx (hb hby d1_86) rfl ?_
  refine Own.vI (3 : Int32) (by decide) ?_
  refine Own.iaload hx hZ O74 2 3 rfl (by decide) (v := (.int (0 : Int32))) rfl (hb hby d1_87) rfl ?_
  have O77 : Own.Owns n0 h73 ((a3, Own.ArrC Z .long [(.long (9223372036854775807 : Int64)), (.long (9223372036854775807 : Int64)), (.long (9223372036854775807 : Int64)), (.long (9223372036854775807 : Int64)), (.long (9223372036854775807 : Int64)), (.long (9223372036854775807 : Int64))]) :: (o0, Own.ObjC Z "com/example/twigline/twigline/matcher/StreamHeads" [(("com/example/twigline/twigline/matcher/StreamHeads", "size", "I"), (.int (6 : Int32))), (("com/example/twigline/twigline/matcher/StreamHeads", "starts", "[J"), (.ref a3)), (("com/example/twigline/twigline/matcher/StreamHeads", "earliest", "[I"), (.ref a8))]) :: (a8, Own.ArrC Z .int [(.int (0 : Int32)), (.int (0 : Int32)), (.int (2 : Int32)), (.int (0 : Int32)), (.int (2 : Int32)), (.int (4 : Int32)), (.int (0 : Int32)), (.int (1 : Int32)), (.int (2 : Int32)), (.int (3 : Int32)), (.int (4 : Int32)), (.int (5 : Int32))]) :: fr) := O74.pick 1 rfl
  have O78 : Own.Owns n0 h73 ((o0, Own.ObjC Z "com/example/twigline/twigline/matcher/StreamHeads" [(("com/example/twigline/twigline/matcher/StreamHeads", "size", "I"), (.int (6 : Int32))), (("com/example/twigline/twigline/matcher/StreamHeads", "starts", "[J"), (.ref a3)), (("com/example/twigline/twigline/matcher/StreamHeads", "earliest", "[I"), (.ref a8))]) :: (a3, Own.ArrC Z .long [(.long (9223372036854775807 : Int64)), (.long (9223372036854775807 : Int64)), (.long (9223372036854775807 : Int64)), (.long (9223372036854775807 : Int64)), (.long (9223372036854775807 : Int64)), (.long (9223372036854775807 : Int64))]) :: (a8, Own.ArrC Z .int [(.int (0 : Int32)), (.int (0 : Int32)), (.int (2 : Int32)), (.int (0 : Int32)), (.int (2 : Int32)), (.int (4 : Int32)), (.int (0 : Int32)), (.int (1 : Int32)), (.int (2 : Int32)), (.int (3 : Int32)), (.int (4 : Int32)), (.int (5 : Int32))]) :: fr) := O77.pick 1 rfl
  refine Own.callP hx hZ hown (O78.exa (i := 0) rfl) (hw _ (List.mem_of_getElem? (i := 24) rfl)) (hw _ (List.mem_of_getElem? (i := 25) rfl)) (hw _ (List.mem_of_getElem? (i := 3) rfl)) (hw _ (List.mem_of_getElem? (i := 26) rfl)) (hw _ (List.mem_of_getElem? (i := 4) rfl)) (hw _ (List.mem_of_getElem? (i := 27) rfl)) (by decide) pd1 (argsL := [(.int (2 : Int32)), (.int (0 : Int32))]) (rest := [(.int (1 : Int32)), (.ref a8)]) rfl (W := 2) (Nat.le_of_eq rfl) (rm := ({ frames := 0, cells := 0, slots := 0, locals := 0 } : Room)) (by decide) (by decide) (by decide) (by decide) (k' := 2) (n' := 18) rfl rfl (by rw [hml]; rfl) [(.int (0 : Int32)), (.int (2 : Int32)), (.ref o0), (.int (1 : Int32)), (.ref a8)] rfl (hb hby d1_88) (pc' := 91) rfl (rm4 l Z a0 hw o0 h73 n0 2 0 6 a3 a8 [(9223372036854775807 : Int64), (9223372036854775807 : Int64), (9223372036854775807 : Int64), (9223372036854775807 : Int64), (9223372036854775807 : Int64), (9223372036854775807 : Int64)] (by decide) (by decide) (by decide) ((a8, Own.ArrC Z .int [(.int (0 : Int32)), (.int (0 : Int32)), (.int (2 : Int32)), (.int (0 : Int32)), (.int (2 : Int32)), (.int (4 : Int32)), (.int (0 : Int32)), (.int (1 : Int32)), (.int (2 : Int32)), (.int (3 : Int32)), (.int (4 : Int32)), (.int (5 : Int32))]) :: fr) O78) ?_
  rintro _ h' ⟨rfl, eh⟩
  rw [eh]; clear eh h'
  show Own.Goes _ _ _ _ _ _ _ _ _ _ _ _ _ _ _ _ _ (mkF m 91 #[.val (.ref o0), .val (.int (6 : Int32)), .val (.int (1 : Int32))] [(.int (2 : Int32)), (.int (1 : Int32)), (.ref a8)])
  refine Own.iastore hx hZ O78 2 1 rfl (by decide) (by exact (show 1 < 12 by decide)) ((o0, Own.ObjC Z "com/example/twigline/twigline/matcher/StreamHeads" [(("com/example/twigline/twigline/matcher/StreamHeads", "size", "I"), (.int (6 : Int32))), (("com/example/twigline/twigline/matcher/StreamHeads", "starts", "[J"), (.ref a3)), (("com/example/twigline/twigline/matcher/StreamHeads", "earliest", "[I"), (.ref a8))]) :: (a3, Own.ArrC Z .long [(.long (9223372036854775807 : Int64)), (.long (9223372036854775807 : Int64)), (.long (9223372036854775807 : Int64)), (.long (9223372036854775807 : Int64)), (.long (9223372036854775807 : Int64)), (.long (9223372036854775807 : Int64))]) :: (a8, Own.ArrC Z .int [(.int (0 : Int32)), (.int (2 : Int32)), (.int (2 : Int32)), (.int (0 : Int32)), (.int (2 : Int32)), (.int (4 : Int32)), (.int (0 : Int32)), (.int (1 : Int32)), (.int (2 : Int32)), (.int (3 : Int32)), (.int (4 : Int32)), (.int (5 : Int32))]) :: fr) rfl (hb hby d1_91) rfl ?_
  intro h79 O80
  refine Own.iinc hx (0 : Int32) #[.val (.ref o0), .val (.int (6 : Int32)), .val (.int (0 : Int32))] (hb hby d1_92) rfl rfl (by decide) rfl ?_
  refine Own.goto hx (hb hby d1_95) (by decide) (pc' := 60) rfl ?_
  refine Own.iloadN hx (0 : Int32) (hb hby d1_60) rfl rfl ?_
  have hc81 : ¬ ((0 : Int32) < (0 : Int32)) := by decide
  refine Own.ifFn hx (Own.z_le (0 : Int32)) (hb hby d1_61) (pcN := 64) rfl (by decide) (pcT := 98) rfl (fun _ => ?_) (fun q => absurd q hc81)
  have O83 : Own.Owns n0 h79 ((a8, Own.ArrC Z .int [(.int (0 : Int32)), (.int (2 : Int32)), (.int (2 : Int32)), (.int (0 : Int32)), (.int (2 : Int32)), (.int (4 : Int32)), (.int (0 : Int32)), (.int (1 : Int32)), (.int (2 : Int32)), (.int (3 : Int32)), (.int (4 : Int32)), (.int (5 : Int32))]) :: (o0, Own.ObjC Z "com/example/twigline/twigline/matcher/StreamHeads" [(("com/example/twigline/twigline/matcher/StreamHeads", "size", "I"), (.int (6 : Int32))), (("com/example/twigline/twigline/matcher/StreamHeads", "starts", "[J"), (.ref a3)), (("com/example/twigline/twigline/matcher/StreamHeads", "earliest", "[I"), (.ref a8))]) :: (a3, Own.ArrC Z .long [(.long (9223372036854775807 : Int64)), (.long (9223372036854775807 : Int64)), (.long (9223372036854775807 : Int64)), (.long (9223372036854775807 : Int64)), (.long (9223372036854775807 : Int64)), (.long (9223372036854775807 : Int64))]) :: fr) := O80.pick 2 rfl
  have O84 : Own.Owns n0 h79 ((a3, Own.ArrC Z .long [(.long (9223372036854775807 : Int64)), (.long (9223372036854775807 : Int64)), (.long (9223372036854775807 : Int64)), (.long (9223372036854775807 : Int64)), (.long (9223372036854775807 : Int64)), (.long (9223372036854775807 : Int64))]) :: (a8, Own.ArrC Z .int [(.int (0 : Int32)), (.int (2 : Int32)), (.int (2 : Int32)), (.int (0 : Int32)), (.int (2 : Int32)), (.int (4 : Int32)), (.int (0 : Int32)), (.int (1 : Int32)), (.int (2 : Int32)), (.int (3 : Int32)), (.int (4 : Int32)), (.int (5 : Int32))]) :: (o0, Own.ObjC Z "com/example/twigline/twigline/matcher/StreamHeads" [(("com/example/twigline/twigline/matcher/StreamHeads", "size", "I"), (.int (6 : Int32))), (("com/example/twigline/twigline/matcher/StreamHeads", "starts", "[J"), (.ref a3)), (("com/example/twigline/twigline/matcher/StreamHeads", "earliest", "[I"), (.ref a8))]) :: fr) := O83.pick 2 rfl
  have O85 : Own.Owns n0 h79 ((o0, Own.ObjC Z "com/example/twigline/twigline/matcher/StreamHeads" [(("com/example/twigline/twigline/matcher/StreamHeads", "size", "I"), (.int (6 : Int32))), (("com/example/twigline/twigline/matcher/StreamHeads", "starts", "[J"), (.ref a3)), (("com/example/twigline/twigline/matcher/StreamHeads", "earliest", "[I"), (.ref a8))]) :: (a3, Own.ArrC Z .long [(.long (9223372036854775807 : Int64)), (.long (9223372036854775807 : Int64)), (.long (9223372036854775807 : Int64)), (.long (9223372036854775807 : Int64)), (.long (9223372036854775807 : Int64)), (.long (9223372036854775807 : Int64))]) :: (a8, Own.ArrC Z .int [(.int (0 : Int32)), (.int (2 : Int32)), (.int (2 : Int32)), (.int (0 : Int32)), (.int (2 : Int32)), (.int (4 : Int32)), (.int (0 : Int32)), (.int (1 : Int32)), (.int (2 : Int32)), (.int (3 : Int32)), (.int (4 : Int32)), (.int (5 : Int32))]) :: fr) := O84.pick 2 rfl
  exact Own.retV hx hret hlk (hb hby d1_98) (by decide) (by decide) ⟨a3, a8, rfl, O85⟩

theorem ef1_7 (m : MethodId) (x0 : Addr) (x1 : Int32) : entryFrame m #[(.ref x0), (.int x1)] 3 = mkF m 0 #[.val (.ref x0), .val (.int x1), .unset] [] := by first | (simp [entryFrame, mkF, argsToLocals, Value.category]; done) | rfl
set_option maxRecDepth 65536 in
set_option maxHeartbeats 40000000 in
theorem rm1_7 (l : Launch) (Z : State) (a0 : Array Value) (hw : ∀ d ∈ tables_1, d.before a0 Z = true) (o0 : Addr) (h0 : Heap) (n0 : Nat)  (fr : List (Addr × (Cell → Prop))) (O0 : Own.Owns n0 h0 ((o0, Own.ObjC Z "com/example/twigline/twigline/matcher/StreamHeads" [(("com/example/twigline/twigline/matcher/StreamHeads", "size", "I"), (.int (0 : Int32))), (("com/example/twigline/twigline/matcher/StreamHeads", "starts", "[J"), .null), (("com/example/twigline/twigline/matcher/StreamHeads", "earliest", "[I"), .null)]) :: fr))  : Own.Does l (⟨"com/example/twigline/twigline/matcher/StreamHeads", "<init>", "(I)V"⟩ : MethodName) prog_27_method_1_code 3 none [] ({ frames := 1, cells := 2, slots := 21, locals := 16 } : Room) Z #[(.ref o0), (.int (7 : Int32))] h0 n0 (fun v h => ∃ ra rb, v = none ∧ Own.Owns n0 h ((o0, Own.ObjC Z "com/example/twigline/twigline/matcher/StreamHeads" [(("com/example/twigline/twigline/matcher/StreamHeads", "size", "I"), (.int (7 : Int32))), (("com/example/twigline/twigline/matcher/StreamHeads", "starts", "[J"), (.ref ra)), (("com/example/twigline/twigline/matcher/StreamHeads", "earliest", "[I"), (.ref rb))]) :: (ra, Own.ArrC Z .long [(.long (9223372036854775807 : Int64)), (.long (9223372036854775807 : Int64)), (.long (9223372036854775807 : Int64)), (.long (9223372036854775807 : Int64)), (.long (9223372036854775807 : Int64)), (.long (9223372036854775807 : Int64)), (.long (9223372036854775807 : Int64))]) :: (rb, Own.ArrC Z .int [(.int (0 : Int32)), (.int (1 : Int32)), (.int (1 : Int32)), (.int (5 : Int32)), (.int (1 : Int32)), (.int (3 : Int32)), (.int (5 : Int32)), (.int (0 : Int32)), (.int (1 : Int32)), (.int (2 : Int32)), (.int (3 : Int32)), (.int (4 : Int32)), (.int (5 : Int32)), (.int (6 : Int32))]) :: fr)) := by
  refine Own.doesOf pn3 ?_
  intro p e s m below meth c hx hby hml hret hlk hown hnm hZ
  refine Own.Goes.cast (ef1_7 m o0 (7 : Int32)) ?_
  refine Own.aloadN hx (.ref o0) (hb hby d1_0) rfl rfl rfl ?_
  refine Own.initobj hx hZ hown (hw _ (List.mem_of_getElem? (i := 8) rfl)) (hw _ (List.mem_of_getElem? (i := 9) rfl)) (hw _ (List.mem_of_getElem? (i := 10) rfl)) (by rw [hml]; rfl) (W := 0) (Nat.le_of_eq rfl) (by decide) (by decide) (hb hby d1_1) rfl ?_
  refine Own.aloadN hx (.ref o0) (hb hby d1_4) rfl rfl rfl ?_
  refine Own.iloadN hx (7 : Int32) (hb hby d1_5) rfl rfl ?_
  refine Own.putfield hx hZ hown O0 0 0 rfl rfl (hw _ (List.mem_of_getElem? (i := 11) rfl)) (Or.inr ⟨(hw _ (List.mem_of_getElem? (i := 12) rfl)), rfl, hnm⟩) (hw _ (List.mem_of_getElem? (i := 3) rfl)) (ty := .int) (by decide) rfl rfl ((o0, Own.ObjC Z "com/example/twigline/twigline/matcher/StreamHeads" [(("com/example/twigline/twigline/matcher/StreamHeads", "size", "I"), (.int (7 : Int32))), (("com/example/twigline/twigline/matcher/StreamHeads", "starts", "[J"), .null), (("com/example/twigline/twigline/matcher/StreamHeads", "earliest", "[I"), .null)]) :: fr) rfl (hb hby d1_6) rfl ?_
  intro h1 O2
  refine Own.aloadN hx (.ref o0) (hb hby d1_9) rfl rfl rfl ?_
  refine Own.iloadN hx (7 : Int32) (hb hby d1_10) rfl rfl ?_
  refine Own.newarr hx hZ O2 (aty := .long) (hw _ (List.mem_of_getElem? (i := 0) rfl)) 7 (by decide) [(.long (0 : Int64)), (.long (0 : Int64)), (.long (0 : Int64)), (.long (0 : Int64)), (.long (0 : Int64)), (.long (0 : Int64)), (.long (0 : Int64))] rfl rfl (cap := 7) (by decide) (by decide) (k' := 1) (n' := 7) rfl rfl (by decide) (by decide) (hb hby d1_11) (pc' := 13) rfl ?_
  intro a3 h4 O5
  refine Own.putfield hx hZ hown O5 1 1 rfl rfl (hw _ (List.mem_of_getElem? (i := 13) rfl)) (Or.inr ⟨(hw _ (List.mem_of_getElem? (i := 14) rfl)), rfl, hnm⟩) (hw _ (List.mem_of_getElem? (i := 3) rfl)) (ty := (.array .long)) (by decide) rfl rfl ((a3, Own.ArrC Z .long [(.long (0 : Int64)), (.long (0 : Int64)), (.long (0 : Int64)), (.long (0 : Int64)), (.long (0 : Int64)), (.long (0 : Int64)), (.long (0 : Int64))]) :: (o0, Own.ObjC Z "com/example/twigline/twigline/matcher/StreamHeads" [(("com/example/twigline/twigline/matcher/StreamHeads", "size", "I"), (.int (7 : Int32))), (("com/example/twigline/twigline/matcher/StreamHeads", "starts", "[J"), (.ref a3)), (("com/example/twigline/twigline/matcher/StreamHeads", "earliest", "[I"), .null)]) :: fr) rfl (hb hby d1_13) rfl ?_
  intro h6 O7
  refine Own.aloadN hx (.ref o0) (hb hby d1_16) rfl rfl rfl ?_
  refine Own.iconst hx (2 : Int32) (hb hby d1_17) rfl (by decide) ?_
  refine Own.iloadN hx (7 : Int32) (hb hby d1_18) rfl rfl ?_
  refine Own.imul hx (hb hby d1_19) rfl ?_
  refine Own.vI (14 : Int32) (by decide) ?_
  refine Own.newarr hx hZ O7 (aty := .int) (hw _ (List.mem_of_getElem? (i := 15) rfl)) 14 (by decide) [(.int (0 : Int32)), (.int (0 : Int32)), (.int (0 : Int32)), (.int (0 : Int32)), (.int (0 : Int32)), (.int (0 : Int32)), (.int (0 : Int32)), (.int (0 : Int32)), (.int (0 : Int32)), (.int (0 : Int32)), (.int (0 : Int32)), (.int (0 : Int32)), (.int (0 : Int32)), (.int (0 : Int32))] rfl rfl (cap := 14) (by decide) (by decide) (k' := 2) (n' := 21) rfl rfl (by decide) (by decide) (hb hby d1_20) (pc' := 22) rfl ?_
  intro a8 h9 O10
  refine Own.putfield hx hZ hown O10 2 2 rfl rfl (hw _ (List.mem_of_getElem? (i := 16) rfl)) (Or.inr ⟨(hw _ (List.mem_of_getElem? (i := 17) rfl)), rfl, hnm⟩) (hw _ (List.mem_of_getElem? (i := 3) rfl)) (ty := (.array .int)) (by decide) rfl rfl ((a8, Own.ArrC Z .int [(.int (0 : Int32)), (.int (0 : Int32)), (.int (0 : Int32)), (.int (0 : Int32)), (.int (0 : Int32)), (.int (0 : Int32)), (.int (0 : Int32)), (.int (0 : Int32)), (.int (0 : Int32)), (.int (0 : Int32)), (.int (0 : Int32)), (.int (0 : Int32)), (.int (0 : Int32)), (.int (0 : Int32))]) :: (a3, Own.ArrC Z .long [(.long (0 : Int64)), (.long (0 : Int64)), (.long (0 : Int64)), (.long (0 : Int64)), (.long (0 : Int64)), (.long (0 : Int64)), (.long (0 : Int64))]) :: (o0, Own.ObjC Z "com/example/twigline/twigline/matcher/StreamHeads" [(("com/example/twigline/twigline/matcher/StreamHeads", "size", "I"), (.int (7 : Int32))), (("com/example/twigline/twigline/matcher/StreamHeads", "starts", "[J"), (.ref a3)), (("com/example/twigline/twigline/matcher/StreamHeads", "earliest", "[I"), (.ref a8))]) :: fr) rfl (hb hby d1_22) rfl ?_
  intro h11 O12
  refine Own.iconst hx (0 : Int32) (hb hby d1_25) rfl (by decide) ?_
  refine Own.istoreN hx (0 : Int32) rfl #[.val (.ref o0), .val (.int (7 : Int32)), .val (.int (0 : Int32))] (hb hby d1_26) rfl rfl ?_
  refine Own.iloadN hx (0 : Int32) (hb hby d1_27) rfl rfl ?_
  refine Own.iloadN hx (7 : Int32) (hb hby d1_28) rfl rfl ?_
  have hc13 : (0 : Int32) < (7 : Int32) := by decide
  refine Own.icmpFn hx (Own.q_ge (0 : Int32) (7 : Int32)) (hb hby d1_29) (pcN := 32) rfl (by decide) (pcT := 56) rfl (fun q => absurd hc13 q) (fun _ => ?_)
  refine Own.aloadN hx (.ref o0) (hb hby d1_32) rfl rfl rfl ?_
  refine Own.getfield hx hZ hown O12 2 1 rfl rfl (hw _ (List.mem_of_getElem? (i := 13) rfl)) (hb hby d1_33) rfl ?_
  refine Own.iloadN hx (0 : Int32) (hb hby d1_36) rfl rfl ?_
  refine Own.ldc2 hx hZ hown (9223372036854775807 : Int64) (hb hby d1_37) rfl (hw _ (List.mem_of_getElem? (i := 23) rfl)) ?_
  refine Own.lastore hx hZ O12 1 0 rfl (by decide) (by exact (show 0 < 7 by decide)) ((a8, Own.ArrC Z .int [(.int (0 : Int32)), (.int (0 : Int32)), (.int (0 : Int32)), (.int (0 : Int32)), (.int (0 : Int32)), (.int (0 : Int32)), (.int (0 : Int32)), (.int (0 : Int32)), (.int (0 : Int32)), (.int (0 : Int32)), (.int (0 : Int32)), (.int (0 : Int32)), (.int (0 : Int32)), (.int (0 : Int32))]) :: (a3, Own.ArrC Z .long [(.long (9223372036854775807 : Int64)), (.long (0 : Int64)), (.long (0 : Int64)), (.long (0 : Int64)), (.long (0 : Int64)), (.long (0 : Int64)), (.long (0 : Int64))]) :: (o0, Own.ObjC Z "com/example/twigline/twigline/matcher/StreamHeads" [(("com/example/twigline/twigline/matcher/StreamHeads", "size", "I"), (.int (7 : Int32))), (("com/example/twigline/twigline/matcher/StreamHeads", "starts", "[J"), (.ref a3)), (("com/example/twigline/twigline/matcher/StreamHeads", "earliest", "[I"), (.ref a8))]) :: fr) rfl (hb hby d1_40) rfl ?_
  intro h15 O16
  refine Own.aloadN hx (.ref o0) (hb hby d1_41) rfl rfl rfl ?_
  refine Own.getfield hx hZ hown O16 2 2 rfl rfl (hw _ (List.mem_of_getElem? (i := 16) rfl)) (hb hby d1_42) rfl ?_
  refine Own.iloadN hx (7 : Int32) (hb hby d1_45) rfl rfl ?_
  refine Own.iloadN hx (0 : Int32) (hb hby d1_46) rfl rfl ?_
  refine Own.iadd hx (hb hby d1_47) rfl ?_
  refine Own.vI (7 : Int32) (by decide) ?_
  refine Own.iloadN hx (0 : Int32) (hb hby d1_48) rfl rfl ?_
  refine Own.iastore hx hZ O16 0 7 rfl (by decide) (by exact (show 7 < 14 by decide)) ((a8, Own.ArrC Z .int [(.int (0 : Int32)), (.int (0 : Int32)), (.int (0 : Int32)), (.int (0 : Int32)), (.int (0 : Int32)), (.int (0 : Int32)), (.int (0 : Int32)), (.int (0 : Int32)), (.int (0 : Int32)), (.int (0 : Int32)), (.int (0 : Int32)), (.int (0 : Int32)), (.int (0 : Int32)), (.int (0 : Int32))]) :: (a3, Own.ArrC Z .long [(.long (9223372036854775807 : Int64)), (.long (0 : Int64)), (.long (0 : Int64)), (.long (0 : Int64)), (.long (0 : Int64)), (.long (0 : Int64)), (.long (0 : Int64))]) :: (o0, Own.ObjC Z "com/example/twigline/twigline/matcher/StreamHeads" [(("com/example/twigline/twigline/matcher/StreamHeads", "size", "I"), (.int (7 : Int32))), (("com/example/twigline/twigline/matcher/StreamHeads", "starts", "[J"), (.ref a3)), (("com/example/twigline/twigline/matcher/StreamHeads", "earliest", "[I"), (.ref a8))]) :: fr) rfl (hb hby d1_49) rfl ?_
  intro h17 O18
  refine Own.iinc hx (1 : Int32) #[.val (.ref o0), .val (.int (7 : Int32)), .val (.int (1 : Int32))] (hb hby d1_50) rfl rfl (by decide) rfl ?_
  refine Own.goto hx (hb hby d1_53) (by decide) (pc' := 27) rfl ?_
  refine Own.iloadN hx (1 : Int32) (hb hby d1_27) rfl rfl ?_
  refine Own.iloadN hx (7 : Int32) (hb hby d1_28) rfl rfl ?_
  have hc19 : (1 : Int32) < (7 : Int32) := by decide
  refine Own.icmpFn hx (Own.q_ge (1 : Int32) (7 : Int32)) (hb hby d1_29) (pcN := 32) rfl (by decide) (pcT := 56) rfl (fun q => absurd hc19 q) (fun _ => ?_)
  refine Own.aloadN hx (.ref o0) (hb hby d1_32) rfl rfl rfl ?_
  refine Own.getfield hx hZ hown O18 2 1 rfl rfl (hw _ (List.mem_of_getElem? (i := 13) rfl)) (hb hby d1_33) rfl ?_
  refine Own.iloadN hx (1 : Int32) (hb hby d1_36) rfl rfl ?_
  refine Own.ldc2 hx hZ hown (9223372036854775807 : Int64) (hb hby d1_37) rfl (hw _ (List.mem_of_getElem? (i := 23) rfl)) ?_
  refine Own.lastore hx hZ O18 1 1 rfl (by decide) (by exact (show 1 < 7 by decide)) ((a8, Own.ArrC Z .int [(.int (0 : Int32)), (.int (0 : Int32)), (.int (0 : Int32)), (.int (0 : Int32)), (.int (0 : Int32)), (.int (0 : Int32)), (.int (0 : Int32)), (.int (0 : Int32)), (.int (0 : Int32)), (.int (0 : Int32)), (.int (0 : Int32)), (.int (0 : Int32)), (.int (0 : Int32)), (.int (0 : Int32))]) :: (a3, Own.ArrC Z .long [(.long (9223372036854775807 : Int64)), (.long (9223372036854775807 : Int64)), (.long (0 : Int64)), (.long (0 : Int64)), (.long (0 : Int64)), (.long (0 : Int64)), (.long (0 : Int64))]) :: (o0, Own.ObjC Z "com/example/twigline/twigline/matcher/StreamHeads" [(("com/example/twigline/twigline/matcher/StreamHeads", "size", "I"), (.int (7 : Int32))), (("com/example/twigline/twigline/matcher/StreamHeads", "starts", "[J"), (.ref a3)), (("com/example/twigline/twigline/matcher/StreamHeads", "earliest", "[I"), (.ref a8))]) :: fr) rfl (hb hby d1_40) rfl ?_
  intro h21 O22
  refine Own.aloadN hx (.ref o0) (hb hby d1_41) rfl rfl rfl ?_
  refine Own.getfield hx hZ hown O22 2 2 rfl rfl (hw _ (List.mem_of_getElem? (i := 16) rfl)) (hb hby d1_42) rfl ?_
  refine Own.iloadN hx (7 : Int32) (hb hby d1_45) rfl rfl ?_
  refine Own.iloadN hx (1 : Int32) (hb hby d1_46) rfl rfl ?_
  refine Own.iadd hx (hb hby d1_47) rfl ?_
  refine Own.vI (8 : Int32) (by decide) ?_
  refine Own.iloadN hx (1 : Int32) (hb hby d1_48) rfl rfl ?_
  refine Own.iastore hx hZ O22 0 8 rfl (by decide) (by exact (show 8 < 14 by decide)) ((a8, Own.ArrC Z .int [(.int (0 : Int32)), (.int (0 : Int32)), (.int (0 : Int32)), (.int (0 : Int32)), (.int (0 : Int32)), (.int (0 : Int32)), (.int (0 : Int32)), (.int (0 : Int32)), (.int (1 : Int32)), (.int (0 : Int32)), (.int (0 : Int32)), (.int (0 : Int32)), (.int (0 : Int32)), (.int (0 : Int32))]) :: (a3, Own.ArrC Z .long [(.long (9223372036854775807 : Int64)), (.long (9223372036854775807 : Int64)), (.long (0 : Int64)), (.long (0 : Int64)), (.long (0 : Int64)), (.long (0 : Int64)), (.long (0 : Int64))]) :: (o0, Own.ObjC Z "com/example/twigline/twigline/matcher/StreamHeads" [(("com/example/twigline/twigline/matcher/StreamHeads", "size", "I"), (.int (7 : Int32))), (("com/example/twigline/twigline/matcher/StreamHeads", "starts", "[J"), (.ref a3)), (("com/example/twigline/twigline/matcher/StreamHeads", "earliest", "[I"), (.ref a8))]) :: fr) rfl (hb hby d1_49) rfl ?_
  intro h23 O24
  refine Own.iinc hx (2 : Int32) #[.val (.ref o0), .val (.int (7 : Int32)), .val (.int (2 : Int32))] (hb hby d1_50) rfl rfl (by decide) rfl ?_
  refine Own.goto hx (hb hby d1_53) (by decide) (pc' := 27) rfl ?_
  refine Own.iloadN hx (2 : Int32) (hb hby d1_27) rfl rfl ?_
  refine Own.iloadN hx (7 : Int32) (hb hby d1_28) rfl rfl ?_
  have hc25 : (2 : Int32) < (7 : Int32) := by decide
  refine Own.icmpFn hx (Own.q_ge (2 : Int32) (7 : Int32)) (hb hby d1_29) (pcN := 32) rfl (by decide) (pcT := 56) rfl (fun q => absurd hc25 q) (fun _ => ?_)
  refine Own.aloadN hx (.ref o0) (hb hby d1_32) rfl rfl rfl ?_
  refine Own.getfield hx hZ hown O24 2 1 rfl rfl (hw _ (List.mem_of_getElem? (i := 13) rfl)) (hb hby d1_33) rfl ?_
  refine Own.iloadN hx (2 : Int32) (hb hby d1_36) rfl rfl ?_
  refine Own.ldc2 hx hZ hown (9223372036854775807 : Int64) (hb hby d1_37) rfl (hw _ (List.mem_of_getElem? (i := 23) rfl)) ?_
  refine Own.lastore hx hZ O24 1 2 rfl (by decide) (by exact (show 2 < 7 by decide)) ((a8, Own.ArrC Z .int [(.int (0 : Int32)), (.int (0 : Int32)), (.int (0 : Int32)), (.int (0 : Int32)), (.int (0 : Int32)), (.int (0 : Int32)), (.int (0 : Int32)), (.int (0 : Int32)), (.int (1 : Int32)), (.int (0 : Int32)), (.int (0 : Int32)), (.int (0 : Int32)), (.int (0 : Int32)), (.int (0 : Int32))]) :: (a3, Own.ArrC Z .long [(.long (9223372036854775807 : Int64)), (.long (9223372036854775807 : Int64)), (.long (9223372036854775807 : Int64)), (.long (0 : Int64)), (.long (0 : Int64)), (.long (0 : Int64)), (.long (0 : Int64))]) :: (o0, Own.ObjC Z "com/example/twigline/twigline/matcher/StreamHeads" [(("com/example/twigline/twigline/matcher/StreamHeads", "size", "I"), (.int (7 : Int32))), (("com/example/twigline/twigline/matcher/StreamHeads", "starts", "[J"), (.ref a3)), (("com/example/twigline/twigline/matcher/StreamHeads", "earliest", "[I"), (.ref a8))]) :: fr) rfl (hb hby d1_40) rfl ?_
  intro h27 O28
  refine Own.aloadN hx (.ref o0) (hb hby d1_41) rfl rfl rfl ?_
  refine Own.getfield hx hZ hown O28 2 2 rfl rfl (hw _ (List.mem_of_getElem? (i := 16) rfl)) (hb hby d1_42) rfl ?_
  refine Own.iloadN hx (7 : Int32) (hb hby d1_45) rfl rfl ?_
  refine Own.iloadN hx (2 : Int32) (hb hby d1_46) rfl rfl ?_
  refine Own.iadd hx (hb hby d1_47) rfl ?_
  refine Own.vI (9 : Int32) (by decide) ?_
  refine Own.iloadN hx (2 : Int32) (hb hby d1_48) rfl rfl ?_
  refine Own.iastore hx hZ O28 0 9 rfl (by decide) (by exact (show 9 < 14 by decide)) ((a8, Own.ArrC Z .int [(.int (0 : Int32)), (.int (0 : Int32)), (.int (0 : Int32)), (.int (0 : Int32)), (.int (0 : Int32)), (.int (0 : Int32)), (.int (0 : Int32)), (.int (0 : Int32)), (.int (1 : Int32)), (.int (2 : Int32)), (.int (0 : Int32)), (.int (0 : Int32)), (.int (0 : Int32)), (.int (0 : Int32))]) :: (a3, Own.ArrC Z .long [(.long (9223372036854775807 : Int64)), (.long (9223372036854775807 : Int64)), (.long (9223372036854775807 : Int64)), (.long (0 : Int64)), (.long (0 : Int64)), (.long (0 : Int64)), (.long (0 : Int64))]) :: (o0, Own.ObjC Z "com/example/twigline/twigline/matcher/StreamHeads" [(("com/example/twigline/twigline/matcher/StreamHeads", "size", "I"), (.int (7 : Int32))), (("com/example/twigline/twigline/matcher/StreamHeads", "starts", "[J"), (.ref a3)), (("com/example/twigline/twigline/matcher/StreamHeads", "earliest", "[I"), (.ref a8))]) :: fr) rfl (hb hby d1_49) rfl ?_
  intro h29 O30
  refine Own.iinc hx (3 : Int32) #[.val (.ref o0), .val (.int (7 : Int32)), .val (.int (3 : Int32))] (hb hby d1_50) rfl rfl (by decide) rfl ?_
  refine Own.goto hx (hb hby d1_53) (by decide) (pc' := 27) rfl ?_
  refine Own.iloadN hx (3 : Int32) (hb hby d1_27) rfl rfl ?_
  refine Own.iloadN hx (7 : Int32) (hb hby d1_28) rfl rfl ?_
  have hc31 : (3 : Int32) < (7 : Int32) := by decide
  refine Own.icmpFn hx (Own.q_ge (3 : Int32) (7 : Int32)) (hb hby d1_29) (pcN := 32) rfl (by decide) (pcT := 56) rfl (fun q => absurd hc31 q) (fun _ => ?_)
  refine Own.aloadN hx (.ref o0) (hb hby d1_32) rfl rfl rfl ?_
  refine Own.getfield hx hZ hown O30 2 1 rfl rfl (hw _ (List.mem_of_getElem? (i := 13) rfl)) (hb hby d1_33) rfl ?_
  refine Own.iloadN hx (3 : Int32) (hb hby d1_36) rfl rfl ?_
  refine Own.ldc2 hx hZ hown (9223372036854775807 : Int64) (hb hby d1_37) rfl (hw _ (List.mem_of_getElem? (i := 23) rfl)) ?_
  refine Own.lastore hx hZ O30 1 3 rfl (by decide) (by exact (show 3 < 7 by decide)) ((a8, Own.ArrC Z .int [(.int (0 : Int32)), (.int (0 : Int32)), (.int (0 : Int32)), (.int (0 : Int32)), (.int (0 : Int32)), (.int (0 : Int32)), (.int (0 : Int32)), (.int (0 : Int32)), (.int (1 : Int32)), (.int (2 : Int32)), (.int (0 : Int32)), (.int (0 : Int32)), (.int (0 : Int32)), (.int (0 : Int32))]) :: (a3, Own.ArrC Z .long [(.long (9223372036854775807 : Int64)), (.long (9223372036854775807 : Int64)), (.long (9223372036854775807 : Int64)), (.long (9223372036854775807 : Int64)), (.long (0 : Int64)), (.long (0 : Int64)), (.long (0 : Int64))]) :: (o0, Own.ObjC Z "com/example/twigline/twigline/matcher/StreamHeads" [(("com/example/twigline/twigline/matcher/StreamHeads", "size", "I"), (.int (7 : Int32))), (("com/example/twigline/twigline/matcher/StreamHeads", "starts", "[J"), (.ref a3)), (("com/example/twigline/twigline/matcher/StreamHeads", "earliest", "[I"), (.ref a8))]) :: fr) rfl (hb hby d1_40) rfl ?_
  intro h33 O34
  refine Own.aloadN hx (.ref o0) (hb hby d1_41) rfl rfl rfl ?_
  refine Own.getfield hx hZ hown O34 2 2 rfl rfl (hw _ (List.mem_of_getElem? (i := 16) rfl)) (hb hby d1_42) rfl ?_
  refine Own.iloadN hx (7 : Int32) (hb hby d1_45) rfl rfl ?_
  refine Own.iloadN hx (3 : Int32) (hb hby d1_46) rfl rfl ?_
  refine Own.iadd hx (hb hby d1_47) rfl ?_
  refine Own.vI (10 : Int32) (by decide) ?_
  refine Own.iloadN hx (3 : Int32) (hb hby d1_48) rfl rfl ?_
  refine Own.iastore hx hZ O34 0 10 rfl (by decide) (by exact (show 10 < 14 by decide)) ((a8, Own.ArrC Z .int [(.int (0 : Int32)), (.int (0 : Int32)), (.int (0 : Int32)), (.int (0 : Int32)), (.int (0 : Int32)), (.int (0 : Int32)), (.int (0 : Int32)), (.int (0 : Int32)), (.int (1 : Int32)), (.int (2 : Int32)), (.int (3 : Int32)), (.int (0 : Int32)), (.int (0 : Int32)), (.int (0 : Int32))]) :: (a3, Own.ArrC Z .long [(.long (9223372036854775807 : Int64)), (.long (9223372036854775807 : Int64)), (.long (9223372036854775807 : Int64)), (.long (9223372036854775807 : Int64)), (.long (0 : Int64)), (.long (0 : Int64)), (.long (0 : Int64))]) :: (o0, Own.ObjC Z "com/example/twigline/twigline/matcher/StreamHeads" [(("com/example/twigline/twigline/matcher/StreamHeads", "size", "I"), (.int (7 : Int32))), (("com/example/twigline/twigline/matcher/StreamHeads", "starts", "[J"), (.ref a3)), (("com/example/twigline/twigline/matcher/StreamHeads", "earliest", "[I"), (.ref a8))]) :: fr) rfl (hb hby d1_49) rfl ?_
  intro h35 O36
  refine Own.iinc hx (4 : Int32) #[.val (.ref o0), .val (.int (7 : Int32)), .val (.int (4 : Int32))] (hb hby d1_50) rfl rfl (by decide) rfl ?_
  refine Own.goto hx (hb hby d1_53) (by decide) (pc' := 27) rfl ?_
  refine Own.iloadN hx (4 : Int32) (hb hby d1_27) rfl rfl ?_
  refine Own.iloadN hx (7 : Int32) (hb hby d1_28) rfl rfl ?_
  have hc37 : (4 : Int32) < (7 : Int32) := by decide
  refine Own.icmpFn hx (Own.q_ge (4 : Int32) (7 : Int32)) (hb hby d1_29) (pcN := 32) rfl (by decide) (pcT := 56) rfl (fun q => absurd hc37 q) (fun _ => ?_)
  refine Own.aloadN hx (.ref o0) (hb hby d1_32) rfl rfl rfl ?_
  refine Own.getfield hx hZ hown O36 2 1 rfl rfl (hw _ (List.mem_of_getElem? (i := 13) rfl)) (hb hby d1_33) rfl ?_
  refine Own.iloadN hx (4 : Int32) (hb hby d1_36) rfl rfl ?_
  refine Own.ldc2 hx hZ hown (9223372036854775807 : Int64) (hb hby d1_37) rfl (hw _ (List.mem_of_getElem? (i := 23) rfl)) ?_
  refine Own.lastore hx hZ O36 1 4 rfl (by decide) (by exact (show 4 < 7 by decide)) ((a8, Own.ArrC Z .int [(.int (0 : Int32)), (.int (0 : Int32)), (.int (0 : Int32)), (.int (0 : Int32)), (.int (0 : Int32)), (.int (0 : Int32)), (.int (0 : Int32)), (.int (0 : Int32)), (.int (1 : Int32)), (.int (2 : Int32)), (.int (3 : Int32)), (.int (0 : Int32)), (.int (0 : Int32)), (.int (0 : Int32))]) :: (a3, Own.ArrC Z .long [(.long (9223372036854775807 : Int64)), (.long (9223372036854775807 : Int64)), (.long (9223372036854775807 : Int64)), (.long (9223372036854775807 : Int64)), (.long (9223372036854775807 : Int64)), (.long (0 : Int64)), (.long (0 : Int64))]) :: (o0, Own.ObjC Z "com/example/twigline/twigline/matcher/StreamHeads" [(("com/example/twigline/twigline/matcher/StreamHeads", "size", "I"), (.int (7 : Int32))), (("com/example/twigline/twigline/matcher/StreamHeads", "starts", "[J"), (.ref a3)), (("com/example/twigline/twigline/matcher/StreamHeads", "earliest", "[I"), (.ref a8))]) :: fr) rfl (hb hby d1_40) rfl ?_
  intro h39 O40
  refine Own.aloadN hx (.ref o0) (hb hby d1_41) rfl rfl rfl ?_
  refine Own.getfield hx hZ hown O40 2 2 rfl rfl (hw _ (List.mem_of_getElem? (i := 16) rfl)) (hb hby d1_42) rfl ?_
  refine Own.iloadN hx (7 : Int32) (hb hby d1_45) rfl rfl ?_
  refine Own.iloadN hx (4 : Int32) (hb hby d1_46) rfl rfl ?_
  refine Own.iadd hx (hb hby d1_47) rfl ?_
  refine Own.vI (11 : Int32) (by decide) ?_
  refine Own.iloadN hx (4 : Int32) (hb hby d1_48) rfl rfl ?_
  refine Own.iastore hx hZ O40 0 11 rfl (by decide) (by exact (show 11 < 14 by decide)) ((a8, Own.ArrC Z .int [(.int (0 : Int32)), (.int (0 : Int32)), (.int (0 : Int32)), (.int (0 : Int32)), (.int (0 : Int32)), (.int (0 : Int32)), (.int (0 : Int32)), (.int (0 : Int32)), (.int (1 : Int32)), (.int (2 : Int32)), (.int (3 : Int32)), (.int (4 : Int32)), (.int (0 : Int32)), (.int (0 : Int32))]) :: (a3, Own.ArrC Z .long [(.long (9223372036854775807 : Int64)), (.long (9223372036854775807 : Int64)), (.long (9223372036854775807 : Int64)), (.long (9223372036854775807 : Int64)), (.long (9223372036854775807 : Int64)), (.long (0 : Int64)), (.long (0 : Int64))]) :: (o0, Own.ObjC Z "com/example/twigline/twigline/matcher/StreamHeads" [(("com/example/twigline/twigline/matcher/StreamHeads", "size", "I"), (.int (7 : Int32))), (("com/example/twigline/twigline/matcher/StreamHeads", "starts", "[J"), (.ref a3)), (("com/example/twigline/twigline/matcher/StreamHeads", "earliest", "[I"), (.ref a8))]) :: fr) rfl (hb hby d1_49) rfl ?_
  intro h41 O42
  refine Own.iinc hx (5 : Int32) #[.val (.ref o0), .val (.int (7 : Int32)), .val (.int (5 : Int32))] (hb hby d1_50) rfl rfl (by decide) rfl ?_
  refine Own.goto hx (hb hby d1_53) (by decide) (pc' := 27) rfl ?_
  refine Own.iloadN hx (5 : Int32) (hb hby d1_27) rfl rfl ?_
  refine Own.iloadN hx (7 : Int32) (hb hby d1_28) rfl rfl ?_
  have hc43 : (5 : Int32) < (7 : Int32) := by decide
  refine Own.icmpFn hx (Own.q_ge (5 : Int32) (7 : Int32)) (hb hby d1_29) (pcN := 32) rfl (by decide) (pcT := 56) rfl (fun q => absurd hc43 q) (fun _ => ?_)
  refine Own.aloadN hx (.ref o0) (hb hby d1_32) rfl rfl rfl ?_
  refine Own.getfield hx hZ hown O42 2 1 rfl rfl (hw _ (List.mem_of_getElem? (i := 13) rfl)) (hb hby d1_33) rfl ?_
  refine Own.iloadN hx (5 : Int32) (hb hby d1_36) rfl rfl ?_
  refine Own.ldc2 hx hZ hown (9223372036854775807 : Int64) (hb hby d1_37) rfl (hw _ (List.mem_of_getElem? (i := 23) rfl)) ?_
  refine Own.lastore hx hZ O42 1 5 rfl (by decide) (by exact (show 5 < 7 by decide)) ((a8, Own.ArrC Z .int [(.int (0 : Int32)), (.int (0 : Int32)), (.int (0 : Int32)), (.int (0 : Int32)), (.int (0 : Int32)), (.int (0 : Int32)), (.int (0 : Int32)), (.int (0 : Int32)), (.int (1 : Int32)), (.int (2 : Int32)), (.int (3 : Int32)), (.int (4 : Int32)), (.int (0 : Int32)), (.int (0 : Int32))]) :: (a3, Own.ArrC Z .long [(.long (9223372036854775807 : Int64)), (.long (9223372036854775807 : Int64)), (.long (9223372036854775807 : Int64)), (.long (9223372036854775807 : Int64)), (.long (9223372036854775807 : Int64)), (.long (9223372036854775807 : Int64)), (.long (0 : Int64))]) :: (o0, Own.ObjC Z "com/example/twigline/twigline/matcher/StreamHeads" [(("com/example/twigline/twigline/matcher/StreamHeads", "size", "I"), (.int (7 : Int32))), (("com/example/twigline/twigline/matcher/StreamHeads", "starts", "[J"), (.ref a3)), (("com/example/twigline/twigline/matcher/StreamHeads", "earliest", "[I"), (.ref a8))]) :: fr) rfl (hb hby d1_40) rfl ?_
  intro h45 O46
  refine Own.aloadN hx (.ref o0) (hb hby d1_41) rfl rfl rfl ?_
  refine Own.getfield hx hZ hown O46 2 2 rfl rfl (hw _ (List.mem_of_getElem? (i := 16) rfl)) (hb hby d1_42) rfl ?_
  refine Own.iloadN hx (7 : Int32) (hb hby d1_45) rfl rfl ?_
  refine Own.iloadN hx (5 : Int32) (hb hby d1_46) rfl rfl ?_
  refine Own.iadd hx (hb hby d1_47) rfl ?_
  refine Own.vI (12 : Int32) (by decide) ?_
  refine Own.iloadN hx (5 : Int32) (hb hby d1_48) rfl rfl ?_
  refine Own.iastore hx hZ O46 0 12 rfl (by decide) (by exact (show 12 < 14 by decide)) ((a8, Own.ArrC Z .int [(.int (0 : Int32)), (.int (0 : Int32)), (.int (0 : Int32)), (.int (0 : Int32)), (.int (0 : Int32)), (.int (0 : Int32)), (.int (0 : Int32)), (.int (0 : Int32)), (.int (1 : Int32)), (.int (2 : Int32)), (.int (3 : Int32)), (.int (4 : Int32)), (.int (5 : Int32)), (.int (0 : Int32))]) :: (a3, Own.ArrC Z .long [(.long (9223372036854775807 : Int64)), (.long (9223372036854775807 : Int64)), (.long (9223372036854775807 : Int64)), (.long (9223372036854775807 : Int64)), (.long (9223372036854775807 : Int64)), (.long (9223372036854775807 : Int64)), (.long (0 : Int64))]) :: (o0, Own.ObjC Z "com/example/twigline/twigline/matcher/StreamHeads" [(("com/example/twigline/twigline/matcher/StreamHeads", "size", "I"), (.int (7 : Int32))), (("com/example/twigline/twigline/matcher/StreamHeads", "starts", "[J"), (.ref a3)), (("com/example/twigline/twigline/matcher/StreamHeads", "earliest", "[I"), (.ref a8))]) :: fr) rfl (hb hby d1_49) rfl ?_
  intro h47 O48
  refine Own.iinc hx (6 : Int32) #[.val (.ref o0), .val (.int (7 : Int32)), .val (.int (6 : Int32))] (hb hby d1_50) rfl rfl (by decide) rfl ?_
  refine Own.goto hx (hb hby d1_53) (by decide) (pc' := 27) rfl ?_
  refine Own.iloadN hx (6 : Int32) (hb hby d1_27) rfl rfl ?_
  refine Own.iloadN hx (7 : Int32) (hb hby d1_28) rfl rfl ?_
  have hc49 : (6 : Int32) < (7 : Int32) := by decide
  refine Own.icmpFn hx (Own.q_ge (6 : Int32) (7 : Int32)) (hb hby d1_29) (pcN := 32) rfl (by decide) (pcT := 56) rfl (fun q => absurd hc49 q) (fun _ => ?_)
  refine Own.aloadN hx (.ref o0) (hb hby d1_32) rfl rfl rfl ?_
  refine Own.getfield hx hZ hown O48 2 1 rfl rfl (hw _ (List.mem_of_getElem? (i := 13) rfl)) (hb hby d1_33) rfl ?_
  refine Own.iloadN hx (6 : Int32) (hb hby d1_36) rfl rfl ?_
  refine Own.ldc2 hx hZ hown (9223372036854775807 : Int64) (hb hby d1_37) rfl (hw _ (List.mem_of_getElem? (i := 23) rfl)) ?_
  refine Own.lastore hx hZ O48 1 6 rfl (by decide) (by exact (show 6 < 7 by decide)) ((a8, Own.ArrC Z .int [(.int (0 : Int32)), (.int (0 : Int32)), (.int (0 : Int32)), (.int (0 : Int32)), (.int (0 : Int32)), (.int (0 : Int32)), (.int (0 : Int32)), (.int (0 : Int32)), (.int (1 : Int32)), (.int (2 : Int32)), (.int (3 : Int32)), (.int (4 : Int32)), (.int (5 : Int32)), (.int (0 : Int32))]) :: (a3, Own.ArrC Z .long [(.long (9223372036854775807 : Int64)), (.long (9223372036854775807 : Int64)), (.long (9223372036854775807 : Int64)), (.long (9223372036854775807 : Int64)), (.long (9223372036854775807 : Int64)), (.long (9223372036854775807 : Int64)), (.long (9223372036854775807 : Int64))]) :: (o0, Own.ObjC Z "com/example/twigline/twigline/matcher/StreamHeads" [(("com/example/twigline/twigline/matcher/StreamHeads", "size", "I"), (.int (7 : Int32))), (("com/example/twigline/twigline/matcher/StreamHeads", "starts", "[J"), (.ref a3)), (("com/example/twigline/twigline/matcher/StreamHeads", "earliest", "[I"), (.ref a8))]) :: fr) rfl (hb hby d1_40) rfl ?_
  intro h51 O52
  refine Own.aloadN hx (.ref o0) (hb hby d1_41) rfl rfl rfl ?_
  refine Own.getfield hx hZ hown O52 2 2 rfl rfl (hw _ (List.mem_of_getElem? (i := 16) rfl)) (hb hby d1_42) rfl ?_
  refine Own.iloadN hx (7 : Int32) (hb hby d1_45) rfl rfl ?_
  refine Own.iloadN hx (6 : Int32) (hb hby d1_46) rfl rfl ?_
  refine Own.iadd hx (hb hby d1_47) rfl ?_
  refine Own.vI (13 : Int32) (by decide) ?_
  refine Own.iloadN hx (6 : Int32) (hb hby d1_48) rfl rfl ?_
  refine Own.iastore hx hZ O52 0 13 rfl (by decide) (by exact (show 13 < 14 by decide)) ((a8, Own.ArrC Z .int [(.int (0 : Int32)), (.int (0 : Int32)), (.int (0 : Int32)), (.int (0 : Int32)), (.int (0 : Int32)), (.int (0 : Int32)), (.int (0 : Int32)), (.int (0 : Int32)), (.int (1 : Int32)), (.int (2 : Int32)), (.int (3 : Int32)), (.int (4 : Int32)), (.int (5 : Int32)), (.int (6 : Int32))]) :: (a3, Own.ArrC Z .long [(.long (9223372036854775807 : Int64)), (.long (9223372036854775807 : Int64)), (.long (9223372036854775807 : Int64)), (.long (9223372036854775807 : Int64)), (.long (9223372036854775807 : Int64)), (.long (9223372036854775807 : Int64)), (.long (9223372036854775807 : Int64))]) :: (o0, Own.ObjC Z "com/example/twigline/twigline/matcher/StreamHeads" [(("com/example/twigline/twigline/matcher/StreamHeads", "size", "I"), (.int (7 : Int32))), (("com/example/twigline/twigline/matcher/StreamHeads", "starts", "[J"), (.ref a3)), (("com/example/twigline/twigline/matcher/StreamHeads", "earliest", "[I"), (.ref a8))]) :: fr) rfl (hb hby d1_49) rfl ?_
  intro h53 O54
  refine Own.iinc hx (7 : Int32) #[.val (.ref o0), .val (.int (7 : Int32)), .val (.int (7 : Int32))] (hb hby d1_50) rfl rfl (by decide) rfl ?_
  refine Own.goto hx (hb hby d1_53) (by decide) (pc' := 27) rfl ?_
  refine Own.iloadN hx (7 : Int32) (hb hby d1_27) rfl rfl ?_
  refine Own.iloadN hx (7 : Int32) (hb hby d1_28) rfl rfl ?_
  have hc55 : ¬ ((7 : Int32) < (7 : Int32)) := by decide
  refine Own.icmpFn hx (Own.q_ge (7 : Int32) (7 : Int32)) (hb hby d1_29) (pcN := 32) rfl (by decide) (pcT := 56) rfl (fun _ => ?_) (fun q => absurd q hc55)
  refine Own.iloadN hx (7 : Int32) (hb hby d1_56) rfl rfl ?_
  refine Own.iconst hx (1 : Int32) (hb hby d1_57) rfl (by decide) ?_
  refine Own.isub hx (hb hby d1_58) rfl ?_
  refine Own.vI (6 : Int32) (by decide) ?_
  refine Own.istoreN hx (6 : Int32) rfl #[.val (.ref o0), .val (.int (7 : Int32)), .val (.int (6 : Int32))] (hb hby d1_59) rfl rfl ?_
  refine Own.iloadN hx (6 : Int32) (hb hby d1_60) rfl rfl ?_
  have hc57 : (0 : Int32) < (6 : Int32) := by decide
  refine Own.ifFn hx (Own.z_le (6 : Int32)) (hb hby d1_61) (pcN := 64) rfl (by decide) (pcT := 98) rfl (fun q => absurd hc57 q) (fun _ => ?_)
  refine Own.aloadN hx (.ref o0) (hb hby d1_64) rfl rfl rfl ?_
  refine Own.getfield hx hZ hown O54 2 2 rfl rfl (hw _ (List.mem_of_getElem? (i := 16) rfl)) (hb hby d1_65) rfl ?_
  refine Own.iloadN hx (6 : Int32) (hb hby d1_68) rfl rfl ?_
  refine Own.aloadN hx (.ref o0) (hb hby d1_69) rfl rfl rfl ?_
  refine Own.aloadN hx (.ref o0) (hb hby d1_70) rfl rfl rfl ?_
  refine Own.getfield hx hZ hown O54 2 2 rfl rfl (hw _ (List.mem_of_getElem? (i := 16) rfl)) (hb hby d1_71) rfl ?_
  refine Own.iconst hx (2 : Int32) (hb hby d1_74) rfl (by decide) ?_
  refine Own.iloadN hx (6 : Int32) (hb hby d1_75) rfl rfl ?_
  refine Own.imul hx (hb hby d1_76) rfl ?_
  refine Own.vI (12 : Int32) (by decide) ?_
  refine Own.iaload hx hZ O54 0 12 rfl (by decide) (v := (.int (5 : Int32))) rfl (hb hby d1_77) rfl ?_
  refine Own.aloadN hx (.ref o0) (hb hby d1_78) rfl rfl rfl ?_
  refine Own.getfield hx hZ hown O54 2 2 rfl rfl (hw _ (List.mem_of_getElem? (i := 16) rfl)) (hb hby d1_79) rfl ?_
  refine Own.iconst hx (2 : Int32) (hb hby d1_82) rfl (by decide) ?_
  refine Own.iloadN hx (6 : Int32) (hb hby d1_83) rfl rfl ?_
  refine Own.imul hx (hb hby d1_84) rfl ?_
  refine Own.vI (12 : Int32) (by decide) ?_
  refine Own.iconst hx (1 : Int32) (hb hby d1_85) rfl (by decide) ?_
  refine Own.iadd hx (hb hby d1_86) rfl ?_
  refine Own.vI (13 : Int32) (by decide) ?_
  refine Own.iaload hx hZ O54 0 13 rfl (by decide) (v := (.int (6 : Int32))) rfl (hb hby d1_87) rfl ?_
  have O59 : Own.Owns n0 h53 ((a3, Own.ArrC Z .long [(.long (9223372036854775807 : Int64)), (.long (9223372036854775807 : Int64)), (.long (9223372036854775807 : Int64)), (.long (9223372036854775807 : Int64)), (.long (9223372036854775807 : Int64)), (.long (9223372036854775807 : Int64)), (.long (9223372036854775807 : Int64))]) :: (a8, Own.ArrC Z .int [(.int (0 : Int32)), (.int (0 : Int32)), (.int (0 : Int32)), (.int (0 : Int32)), (.int (0 : Int32)), (.int (0 : Int32)), (.int (0 : Int32)), (.int (0 : Int32)), (.int (1 : Int32)), (.int (2 : Int32)), (.int (3 : Int32)), (.int (4 : Int32)), (.int (5 : Int32)), (.int (6 : Int32))]) :: (o0, Own.ObjC Z "com/example/twigline/twigline/matcher/StreamHeads" [(("com/example/twigline/twigline/matcher/StreamHeads", "size", "I"), (.int (7 : Int32))), (("com/example/twigline/twigline/matcher/StreamHeads", "starts", "[J"), (.ref a3)), (("com/example/twigline/twigline/matcher/StreamHeads", "earliest", "[I"), (.ref a8))]) :: fr) := O54.pick 1 rfl
  have O60 : Own.Owns n0 h53 ((o0, Own.ObjC Z "com/example/twigline/twigline/matcher/StreamHeads" [(("com/example/twigline/twigline/matcher/StreamHeads", "size", "I"), (.int (7 : Int32))), (("com/example/twigline/twigline/matcher/StreamHeads", "starts", "[J"), (.ref a3)), (("com/example/twigline/twigline/matcher/StreamHeads", "earliest", "[I"), (.ref a8))]) :: (a3, Own.ArrC Z .long [(.long (9223372036854775807 : Int64)), (.long (9223372036854775807 : Int64)), (.long (9223372036854775807 : Int64)), (.long (9223372036854775807 : Int64)), (.long (9223372036854775807 : Int64)), (.long (9223372036854775807 : Int64)), (.long (9223372036854775807 : Int64))]) :: (a8, Own.ArrC Z .int [(.int (0 : Int32)), (.int (0 : Int32)), (.int (0 : Int32)), (.int (0 : Int32)), (.int (0 : Int32)), (.int (0 : Int32)), (.int (0 : Int32)), (.int (0 : Int32)), (.int (1 : Int32)), (.int (2 : Int32)), (.int (3 : Int32)), (.int (4 : Int32)), (.int (5 : Int32)), (.int (6 : Int32))]) :: fr) := O59.pick 2 rfl
  refine Own.callP hx hZ hown (O60.exa (i := 0) rfl) (hw _ (List.mem_of_getElem? (i := 24) rfl)) (hw _ (List.mem_of_getElem? (i := 25) rfl)) (hw _ (List.mem_of_getElem? (i := 3) rfl)) (hw _ (List.mem_of_getElem? (i := 26) rfl)) (hw _ (List.mem_of_getElem? (i := 4) rfl)) (hw _ (List.mem_of_getElem? (i := 27) rfl)) (by decide) pd1 (argsL := [(.int (5 : Int32)), (.int (6 : Int32))]) (rest := [(.int (6 : Int32)), (.ref a8)]) rfl (W := 2) (Nat.le_of_eq rfl) (rm := ({ frames := 0, cells := 0, slots := 0, locals := 0 } : Room)) (by decide) (by decide) (by decide) (by decide) (k' := 2) (n' := 21) rfl rfl (by rw [hml]; rfl) [(.int (6 : Int32)), (.int (5 : Int32)), (.ref o0), (.int (6 : Int32)), (.ref a8)] rfl (hb hby d1_88) (pc' := 91) rfl (rm4 l Z a0 hw o0 h53 n0 5 6 7 a3 a8 [(9223372036854775807 : Int64), (9223372036854775807 : Int64), (9223372036854775807 : Int64), (9223372036854775807 : Int64), (9223372036854775807 : Int64), (9223372036854775807 : Int64), (9223372036854775807 : Int64)] (by decide) (by decide) (by decide) ((a8, Own.ArrC Z .int [(.int (0 : Int32)), (.int (0 : Int32)), (.int (0 : Int32)), (.int (0 : Int32)), (.int (0 : Int32)), (.int (0 : Int32)), (.int (0 : Int32)), (.int (0 : Int32)), (.int (1 : Int32)), (.int (2 : Int32)), (.int (3 : Int32)), (.int (4 : Int32)), (.int (5 : Int32)), (.int (6 : Int32))]) :: fr) O60) ?_
  rintro _ h' ⟨rfl, eh⟩
  rw [eh]; clear eh h'
  show Own.Goes _ _ _ _ _ _ _ _ _ _ _ _ _ _ _ _ _ (mkF m 91 #[.val (.ref o0), .val (.int (7 : Int32)), .val (.int (6 : Int32))] [(.int (5 : Int32)), (.int (6 : Int32)), (.ref a8)])
  refine Own.iastore hx hZ O60 2 6 rfl (by decide) (by exact (show 6 < 14 by decide)) ((o0, Own.ObjC Z "com/example/twigline/twigline/matcher/StreamHeads" [(("com/example/twigline/twigline/matcher/StreamHeads", "size", "I"), (.int (7 : Int32))), (("com/example/twigline/twigline/matcher/StreamHeads", "starts", "[J"), (.ref a3)), (("com/example/twigline/twigline/matcher/StreamHeads", "earliest", "[I"), (.ref a8))]) :: (a3, Own.ArrC Z .long [(.long (9223372036854775807 : Int64)), (.long (9223372036854775807 : Int64)), (.long (9223372036854775807 : Int64)), (.long (9223372036854775807 : Int64)), (.long (9223372036854775807 : Int64)), (.long (9223372036854775807 : Int64)), (.long (9223372036854775807 : Int64))]) :: (a8, Own.ArrC Z .int [(.int (0 : Int32)), (.int (0 : Int32)), (.int (0 : Int32)), (.int (0 : Int32)), (.int (0 : Int32)), (.int (0 : Int32)), (.int (5 : Int32)), (.int (0 : Int32)), (.int (1 : Int32)), (.int (2 : Int32)), (.int (3 : Int32)), (.int (4 : Int32)), (.int (5 : Int32)), (.int (6 : Int32))]) :: fr) rfl (hb hby d1_91) rfl ?_
  intro h61 O62
  refine Own.iinc hx (5 : Int32) #[.val (.ref o0), .val (.int (7 : Int32)), .val (.int (5 : Int32))] (hb hby d1_92) rfl rfl (by decide) rfl ?_
  refine Own.goto hx (hb hby d1_95) (by decide) (pc' := 60) rfl ?_
  refine Own.iloadN hx (5 : Int32) (hb hby d1_60) rfl rfl ?_
  have hc63 : (0 : Int32) < (5 : Int32) := by decide
  refine Own.ifFn hx (Own.z_le (5 : Int32)) (hb hby d1_61) (pcN := 64) rfl (by decide) (pcT := 98) rfl (fun q => absurd hc63 q) (fun _ => ?_)
  refine Own.aloadN hx (.ref o0) (hb hby d1_64) rfl rfl rfl ?_
  refine Own.getfield hx hZ hown O62 0 2 rfl rfl (hw _ (List.mem_of_getElem? (i := 16) rfl)) (hb hby d1_65) rfl ?_
  refine Own.iloadN hx (5 : Int32) (hb hby d1_68) rfl rfl ?_
  refine Own.aloadN hx (.ref o0) (hb hby d1_69) rfl rfl rfl ?_
  refine Own.aloadN hx (.ref o0) (hb hby d1_70) rfl rfl rfl ?_
  refine Own.getfield hx hZ hown O62 0 2 rfl rfl (hw _ (List.mem_of_getElem? (i := 16) rfl)) (hb hby d1_71) rfl ?_
  refine Own.iconst hx (2 : Int32) (hb hby d1_74) rfl (by decide) ?_
  refine Own.iloadN hx (5 : Int32) (hb hby d1_75) rfl rfl ?_
  refine Own.imul hx (hb hby d1_76) rfl ?_
  refine Own.vI (10 : Int32) (by decide) ?_
  refine Own.iaload hx hZ O62 2 10 rfl (by decide) (v := (.int (3 : Int32))) rfl (hb hby d1_77) rfl ?_
  refine Own.aloadN hx (.ref o0) (hb hby d1_78) rfl rfl rfl ?_
  refine Own.getfield hx hZ hown O62 0 2 rfl rfl (hw _ (List.mem_of_getElem? (i := 16) rfl)) (hb hby d1_79) rfl ?_
  refine Own.iconst hx (2 : Int32) (hb hby d1_82) rfl (by decide) ?_
  refine Own.iloadN hx (5 : Int32) (hb hby d1_83) rfl rfl ?_
  refine Own.imul hx (hb hby d1_84) rfl ?_
  refine Own.vI (10 : Int32) (by decide) ?_
  refine Own.iconst hx (1 : Int32) (hb hby d1_85) rfl (by decide) ?_
  refine Own.iadd hx (hb hby d1_86) rfl ?_
  refine Own.vI (11 : Int32) (by decide) ?_
  refine Own.iaload hx hZ O62 2 11 rfl (by decide) (v := (.int (4 : Int32))) rfl (hb hby d1_87) rfl ?_
  have O65 : Own.Owns n0 h61 ((a3, Own.ArrC Z .long [(.long (9223372036854775807 : Int64)), (.long (9223372036854775807 : Int64)), (.long (9223372036854775807 : Int64)), (.long (9223372036854775807 : Int64)), (.long (9223372036854775807 : Int64)), (.long (9223372036854775807 : Int64)), (.long (9223372036854775807 : Int64))]) :: (o0, Own.ObjC Z "com/example/twigline/twigline/matcher/StreamHeads" [(("com/example/twigline/twigline/matcher/StreamHeads", "size", "I"), (.int (7 : Int32))), (("com/example/twigline/twigline/matcher/StreamHeads", "starts", "[J"), (.ref a3)), (("com/example/twigline/twigline/matcher/StreamHeads", "earliest", "[I"), (.ref a8))]) :: (a8, Own.ArrC Z .int [(.int (0 : Int32)), (.int (0 : Int32)), (.int (0 : Int32)), (.int (0 : Int32)), (.int (0 : Int32)), (.int (0 : Int32)), (.int (5 : Int32)), (.int (0 : Int32)), (.int (1 : Int32)), (.int (2 : Int32)), (.int (3 : Int32)), (.int (4 : Int32)), (.int (5 : Int32)), (.int (6 : Int32))]) :: fr) := O62.pick 1 rfl
  have O66 : Own.Owns n0 h61 ((o0, Own.ObjC Z "com/example/twigline/twigline/matcher/StreamHeads" [(("com/example/twigline/twigline/matcher/StreamHeads", "size", "I"), (.int (7 : Int32))), (("com/example/twigline/twigline/matcher/StreamHeads", "starts", "[J"), (.ref a3)), (("com/example/twigline/twigline/matcher/StreamHeads", "earliest", "[I"), (.ref a8))]) :: (a3, Own.ArrC Z .long [(.long (9223372036854775807 : Int64)), (.long (9223372036854775807 : Int64)), (.long (9223372036854775807 : Int64)), (.long (9223372036854775807 : Int64)), (.long (9223372036854775807 : Int64)), (.long (9223372036854775807 : Int64)), (.long (9223372036854775807 : Int64))]) :: (a8, Own.ArrC Z .int [(.int (0 : Int32)), (.int (0 : Int32)), (.int (0 : Int32)), (.int (0 : Int32)), (.int (0 : Int32)), (.int (0 : Int32)), (.int (5 : Int32)), (.int (0 : Int32)), (.int (1 : Int32)), (.int (2 : Int32)), (.int (3 : Int32)), (.int (4 : Int32)), (.int (5 : Int32)), (.int (6 : Int32))]) :: fr) := O65.pick 1 rfl
  refine Own.callP hx hZ hown (O66.exa (i := 0) rfl) (hw _ (List.mem_of_getElem? (i := 24) rfl)) (hw _ (List.mem_of_getElem? (i := 25) rfl)) (hw _ (List.mem_of_getElem? (i := 3) rfl)) (hw _ (List.mem_of_getElem? (i := 26) rfl)) (hw _ (List.mem_of_getElem? (i := 4) rfl)) (hw _ (List.mem_of_getElem? (i := 27) rfl)) (by decide) pd1 (argsL := [(.int (3 : Int32)), (.int (4 : Int32))]) (rest := [(.int (5 : Int32)), (.ref a8)]) rfl (W := 2) (Nat.le_of_eq rfl) (rm := ({ frames := 0, cells := 0, slots := 0, locals := 0 } : Room)) (by decide) (by decide) (by decide) (by decide) (k' := 2) (n' := 21) rfl rfl (by rw [hml]; rfl) [(.int (4 : Int32)), (.int (3 : Int32)), (.ref o0), (.int (5 : Int32)), (.ref a8)] rfl (hb hby d1_88) (pc' := 91) rfl (rm4 l Z a0 hw o0 h61 n0 3 4 7 a3 a8 [(9223372036854775807 : Int64), (9223372036854775807 : Int64), (9223372036854775807 : Int64), (9223372036854775807 : Int64), (9223372036854775807 : Int64), (9223372036854775807 : Int64), (9223372036854775807 : Int64)] (by decide) (by decide) (by decide) ((a8, Own.ArrC Z .int [(.int (0 : Int32)), (.int (0 : Int32)), (.int (0 : Int32)), (.int (0 : Int32)), (.int (0 : Int32)), (.int (0 : Int32)), (.int (5 : Int32)), (.int (0 : Int32)), (.int (1 : Int32)), (.int (2 : Int32)), (.int (3 : Int32)), (.int (4 : Int32)), (.int (5 : Int32)), (.int (6 : Int32))]) :: fr) O66) ?_
  rintro _ h' ⟨rfl, eh⟩
  rw [eh]; clear eh h'
  show Own.Goes _ _ _ _ _ _ _ _ _ _ _ _ _ _ _ _ _ (mkF m 91 #[.val (.ref o0), .val (.int (7 : Int32)), .val (.int (5 : Int32))] [(.int (3 : Int32)), (.int (5 : Int32)), (.ref a8)])
  refine Own.iastore hx hZ O66 2 5 rfl (by decide) (by exact (show 5 < 14 by decide)) ((o0, Own.ObjC Z "com/example/twigline/twigline/matcher/StreamHeads" [(("com/example/twigline/twigline/matcher/StreamHeads", "size", "I"), (.int (7 : Int32))), (("com/example/twigline/twigline/matcher/StreamHeads", "starts", "[J"), (.ref a3)), (("com/example/twigline/twigline/matcher/StreamHeads", "earliest", "[I"), (.ref a8))]) :: (a3, Own.ArrC Z .long [(.long (9223372036854775807 : Int64)), (.long (9223372036854775807 : Int64)), (.long (9223372036854775807 : Int64)), (.long (9223372036854775807 : Int64)), (.long (9223372036854775807 : Int64)), (.long (9223372036854775807 : Int64)), (.long (9223372036854775807 : Int64))]) :: (a8, Own.ArrC Z .int [(.int (0 : Int32)), (.int (0 : Int32)), (.int (0 : Int32)), (.int (0 : Int32)), (.int (0 : Int32)), (.int (3 : Int32)), (.int (5 : Int32)), (.int (0 : Int32)), (.int (1 : Int32)), (.int (2 : Int32)), (.int (3 : Int32)), (.int (4 : Int32)), (.int (5 : Int32)), (.int (6 : Int32))]) :: fr) rfl (hb hby d1_91) rfl ?_
  intro h67 O68
  refine Own.iinc hx (4 : Int32) #[.val (.ref o0), .val (.int (7 : Int32)), .val (.int (4 : Int32))] (hb hby d1_92) rfl rfl (by decide) rfl ?_
  refine Own.goto hx (hb hby d1_95) (by decide) (pc' := 60) rfl ?_
  refine Own.iloadN hx (4 : Int32) (hb hby d1_60) rfl rfl ?_
  have hc69 : (0 : Int32) < (4 : Int32) := by decide
  refine Own.ifFn hx (Own.z_le (4 : Int32)) (hb hby d1_61) (pcN := 64) rfl (by decide) (pcT := 98) rfl (fun q => absurd hc69 q) (fun _ => ?_)
  refine Own.aloadN hx (.ref o0) (hb hby d1_64) rfl rfl rfl ?_
  refine Own.getfield hx hZ hown O68 0 2 rfl rfl (hw _ (List.mem_of_getElem? (i := 16) rfl)) (hb hby d1_65) rfl ?_
  refine Own.iloadN hx (4 : Int32) (hb hby d1_68) rfl rfl ?_
  refine Own.aloadN hx (.ref o0) (hb hby d1_69) rfl rfl rfl ?_
  refine Own.aloadN hx (.ref o0) (hb hby d1_70) rfl rfl rfl ?_
  refine Own.getfield hx hZ hown O68 0 2 rfl rfl (hw _ (List.mem_of_getElem? (i := 16) rfl)) (hb hby d1_71) rfl ?_
  refine Own.iconst hx (2 : Int32) (hb hby d1_74) rfl (by decide) ?_
  refine Own.iloadN hx (4 : Int32) (hb hby d1_75) rfl rfl ?_
  refine Own.imul hx (hb hby d1_76) rfl ?_
  refine Own.vI (8 : Int32) (by decide) ?_
  refine Own.iaload hx hZ O68 2 8 rfl (by decide) (v := (.int (1 : Int32))) rfl (hb hby d1_77) rfl ?_
  refine Own.aloadN hx (.ref o0) (hb hby d1_78) rfl rfl rfl ?_
  refine Own.getfield hx hZ hown O68 0 2 rfl rfl (hw _ (List.mem_of_getElem? (i := 16) rfl)) (hb hby d1_79) rfl ?_
  refine Own.iconst hx (2 : Int32) (hb hby d1_82) rfl (by decide) ?_
  refine Own.iloadN hx (4 : Int32) (hb hby d1_83) rfl rfl ?_
  refine Own.imul hx (hb hby d1_84) rfl ?_
  refine Own.vI (8 : Int32) (by decide) ?_
  refine Own.iconst hx (1 : Int32) (hb hby d1_85) rfl (by decide) ?_
  refine Own.iadd hx (hb hby d1_86) rfl ?_
  refine Own.vI (9 : Int32) (by decide) ?_
  refine Own.iaload hx hZ O68 2 9 rfl (by decide) (v := (.int (2 : Int32))) rfl (hb hby d1_87) rfl ?_
  have O71 : Own.Owns n0 h67 ((a3, Own.ArrC Z .long [(.long (9223372036854775807 : Int64)), (.long (9223372036854775807 : Int64)), (.long (9223372036854775807 : Int64)), (.long (9223372036854775807 : Int64)), (.long (9223372036854775807 : Int64)), (.long (9223372036854775807 : Int64)), (.long (9223372036854775807 : Int64))]) :: (o0, Own.ObjC Z "com/example/twigline/twigline/matcher/StreamHeads" [(("com/example/twigline/twigline/matcher/StreamHeads", "size", "I"), (.int (7 : Int32))), (("com/example/twigline/twigline/matcher/StreamHeads", "starts", "[J"), (.ref a3)), (("com/example/twigline/twigline/matcher/StreamHeads", "earliest", "[I"), (.ref a8))]) :: (a8, Own.ArrC Z .int [(.int (0 : Int32)), (.int (0 : Int32)), (.int (0 : Int32)), (.int (0 : Int32)), (.int (0 : Int32)), (.int (3 : Int32)), (.int (5 : Int32)), (.int (0 : Int32)), (.int (1 : Int32)), (.int (2 : Int32)), (.int (3 : Int32)), (.int (4 : Int32)), (.int (5 : Int32)), (.int (6 : Int32))]) :: fr) := O68.pick 1 rfl
  have O72 : Own.Owns n0 h67 ((o0, Own.ObjC Z "com/example/twigline/twigline/matcher/StreamHeads" [(("com/example/twigline/twigline/matcher/StreamHeads", "size", "I"), (.int (7 : Int32))), (("com/example/twigline/twigline/matcher/StreamHeads", "starts", "[J"), (.ref a3)), (("com/example/twigline/twigline/matcher/StreamHeads", "earliest", "[I"), (.ref a8))]) :: (a3, Own.ArrC Z .long [(.long (9223372036854775807 : Int64)), (.long (9223372036854775807 : Int64)), (.long (9223372036854775807 : Int64)), (.long (9223372036854775807 : Int64)), (.long (9223372036854775807 : Int64)), (.long (9223372036854775807 : Int64)), (.long (9223372036854775807 : Int64))]) :: (a8, Own.ArrC Z .int [(.int (0 : Int32)), (.int (0 : Int32)), (.int (0 : Int32)), (.int (0 : Int32)), (.int (0 : Int32)), (.int (3 : Int32)), (.int (5 : Int32)), (.int (0 : Int32)), (.int (1 : Int32)), (.int (2 : Int32)), (.int (3 : Int32)), (.int (4 : Int32)), (.int (5 : Int32)), (.int (6 : Int32))]) :: fr) := O71.pick 1 rfl
  refine Own.callP hx hZ hown (O72.exa (i := 0) rfl) (hw _ (List.mem_of_getElem? (i := 24) rfl)) (hw _ (List.mem_of_getElem? (i := 25) rfl)) (hw _ (List.mem_of_getElem? (i := 3) rfl)) (hw _ (List.mem_of_getElem? (i := 26) rfl)) (hw _ (List.mem_of_getElem? (i := 4) rfl)) (hw _ (List.mem_of_getElem? (i := 27) rfl)) (by decide) pd1 (argsL := [(.int (1 : Int32)), (.int (2 : Int32))]) (rest := [(.int (4 : Int32)), (.ref a8)]) rfl (W := 2) (Nat.le_of_eq rfl) (rm := ({ frames := 0, cells := 0, slots := 0, locals := 0 } : Room)) (by decide) (by decide) (by decide) (by decide) (k' := 2) (n' := 21) rfl rfl (by rw [hml]; rfl) [(.int (2 : Int32)), (.int (1 : Int32)), (.ref o0), (.int (4 : Int32)), (.ref a8)] rfl (hb hby d1_88) (pc' := 91) rfl (rm4 l Z a0 hw o0 h67 n0 1 2 7 a3 a8 [(9223372036854775807 : Int64), (9223372036854775807 : Int64), (9223372036854775807 : Int64), (9223372036854775807 : Int64), (9223372036854775807 : Int64), (9223372036854775807 : Int64), (9223372036854775807 : Int64)] (by decide) (by decide) (by decide) ((a8, Own.ArrC Z .int [(.int (0 : Int32)), (.int (0 : Int32)), (.int (0 : Int32)), (.int (0 : Int32)), (.int (0 : Int32)), (.int (3 : Int32)), (.int (5 : Int32)), (.int (0 : Int32)), (.int (1 : Int32)), (.int (2 : Int32)), (.int (3 : Int32)), (.int (4 : Int32)), (.int (5 : Int32)), (.int (6 : Int32))]) :: fr) O72) ?_
  rintro _ h' ⟨rfl, eh⟩
  rw [eh]; clear eh h'
  show Own.Goes _ _ _ _ _ _ _ _ _ _ _ _ _ _ _ _ _ (mkF m 91 #[.val (.ref o0), .val (.int (7 : Int32)), .val (.int (4 : Int32))] [(.int (1 : Int32)), (.int (4 : Int32)), (.ref a8)])
  refine Own.iastore hx hZ O72 2 4 rfl (by decide) (by exact (show 4 < 14 by decide)) ((o0, Own.ObjC Z "com/example/twigline/twigline/matcher/StreamHeads" [(("com/example/twigline/twigline/matcher/StreamHeads", "size", "I"), (.int (7 : Int32))), (("com/example/twigline/twigline/matcher/StreamHeads", "starts", "[J"), (.ref a3)), (("com/example/twigline/twigline/matcher/StreamHeads", "earliest", "[I"), (.ref a8))]) :: (a3, Own.ArrC Z .long [(.long (9223372036854775807 : Int64)), (.long (9223372036854775807 : Int64)), (.long (9223372036854775807 : Int64)), (.long (9223372036854775807 : Int64)), (.long (9223372036854775807 : Int64)), (.long (9223372036854775807 : Int64)), (.long (9223372036854775807 : Int64))]) :: (a8, Own.ArrC Z .int [(.int (0 : Int32)), (.int (0 : Int32)), (.int (0 : Int32)), (.int (0 : Int32)), (.int (1 : Int32)), (.int (3 : Int32)), (.int (5 : Int32)), (.int (0 : Int32)), (.int (1 : Int32)), (.int (2 : Int32)), (.int (3 : Int32)), (.int (4 : Int32)), (.int (5 : Int32)), (.int (6 : Int32))]) :: fr) rfl (hb hby d1_91) rfl ?_
  intro h73 O74
  refine Own.iinc hx (3 : Int32) #[.val (.ref o0), .val (.int (7 : Int32)), .val (.int (3 : Int32))] (hb hby d1_92) rfl rfl (by decide) rfl ?_
  refine Own.goto hx (hb hby d1_95) (by decide) (pc' := 60) rfl ?_
  refine Own.iloadN hx (3 : Int32) (hb hby d1_60) rfl rfl ?_
  have hc75 : (0 : Int32) < (3 : Int32) := by decide
  refine Own.ifFn hx (Own.z_le (3 : Int32)) (hb hby d1_61) (pcN := 64) rfl (by decide) (pcT := 98) rfl (fun q => absurd hc75 q) (fun _ => ?_)
  refine Own.aloadN hx (.ref o0) (hb hby d1_64) rfl rfl rfl ?_
  refine Own.getfield hx hZ hown O74 0 2 rfl rfl (hw _ (List.mem_of_getElem? (i := 16) rfl)) (hb hby d1_65) rfl ?_
  refine Own.iloadN hx (3 : Int32) (hb hby d1_68) rfl rfl ?_
  refine Own.aloadN hx (.ref o0) (hb hby d1_69) rfl rfl rfl ?_
  refine Own.aloadN hx (.ref o0) (hb hby d1_70) rfl rfl rfl ?_
  refine Own.getfield hx hZ hown O74 0 2 rfl rfl (hw _ (List.mem_of_getElem? (i := 16) rfl)) (hb hby d1_71) rfl ?_
  refine Own.iconst hx (2 : Int32) (hb hby d1_74) rfl (by decide) ?_
  refine Own.iloadN hx (3 : Int32) (hb hby d1_75) rfl rfl ?_
  refine Own.imul hx (hb hby d1_76) rfl ?_
  refine Own.vI (6 : Int32) (by decide) ?_
  refine Own.iaload hx hZ O74 2 6 rfl (by decide) (v := (.int (5 : Int32))) rfl (hb hby d1_77) rfl ?_
  refine Own.aloadN hx (.ref o0) (hb hby d1_78) rfl rfl rfl ?_
  refine Own.getfield hx hZ hown O74 0 2 rfl rfl (hw _ (List.mem_of_getElem? (i := 16) rfl)) (hb hby d1_79) rfl ?_
  refine Own.iconst hx (2 : Int32) (hb hby d1_82) rfl (by decide) ?_
  refine Own.iloadN hx (3 : Int32) (hb hby d1_83) rfl rfl ?_
  refine Own.imul hx (hb hby d1_84) rfl ?_
  refine Own.vI (6 : Int32) (by decide) ?_
  refine Own.iconst hx (1 : Int32) (hb hby d1_85) rfl (by decide) ?_
  refine Own.iadd hx (hb hby d1_86) rfl ?_
  refine Own.vI (7 : Int32) (by decide) ?_
  refine Own.iaload hx hZ O74 2 7 rfl (by decide) (v := (.int (0 : Int32))) rfl (hb hby d1_87) rfl ?_
  have O77 : Own.Owns n0 h73 ((a3, Own.ArrC Z .long [(.long (9223372036854775807 : Int64)), (.long (9223372036854775807 : Int64)), (.long (9223372036854775807 : Int64)), (.long (9223372036854775807 : Int64)), (.long (9223372036854775807 : Int64)), (.long (9223372036854775807 : Int64)), (.long (9223372036854775807 : Int64))]) :: (o0, Own.ObjC Z "com/example/twigline/twigline/matcher/StreamHeads" [(("com/example/twigline/twigline/matcher/StreamHeads", "size", "I"), (.int (7 : Int32))), (("com/example/twigline/twigline/matcher/StreamHeads", "starts", "[J"), (.ref a3)), (("com/example/twigline/twigline/matcher/StreamHeads", "earliest", "[I"), (.ref a8))]) :: (a8, Own.ArrC Z .int [(.int (0 : Int32)), (.int (0 : Int32)), (.int (0 : Int32)), (.int (0 : Int32)), (.int (1 : Int32)), (.int (3 : Int32)), (.int (5 : Int32)), (.int (0 : Int32)), (.int (1 : Int32)), (.int (2 : Int32)), (.int (3 : Int32)), (.int (4 : Int32)), (.int (5 : Int32)), (.int (6 : Int32))]) :: fr) := O74.pick 1 rfl
  have O78 : Own.Owns n0 h73 ((o0, Own.ObjC Z "com/example/twigline/twigline/matcher/StreamHeads" [(("com/example/twigline/twigline/matcher/StreamHeads", "size", "I"), (.int (7 : Int32))), (("com/example/twigline/twigline/matcher/StreamHeads", "starts", "[J"), (.ref a3)), (("com/example/twigline/twigline/matcher/StreamHeads", "earliest", "[I"), (.ref a8))]) :: (a3, Own.ArrC Z .long [(.long (9223372036854775807 : Int64)), (.long (9223372036854775807 : Int64)), (.long (9223372036854775807 : Int64)), (.long (9223372036854775807 : Int64)), (.long (9223372036854775807 : Int64)), (.long (9223372036854775807 : Int64)), (.long (9223372036854775807 : Int64))]) :: (a8, Own.ArrC Z .int [(.int (0 : Int32)), (.int (0 : Int32)), (.int (0 : Int32)), (.int (0 : Int32)), (.int (1 : Int32)), (.int (3 : Int32)), (.int (5 : Int32)), (.int (0 : Int32)), (.int (1 : Int32)), (.int (2 : Int32)), (.int (3 : Int32)), (.int (4 : Int32)), (.int (5 : Int32)), (.int (6 : Int32))]) :: fr) := O77.pick 1 rfl
  refine Own.callP hx hZ hown (O78.exa (i := 0) rfl) (hw _ (List.mem_of_getElem? (i := 24) rfl)) (hw _ (List.mem_of_getElem? (i := 25) rfl)) (hw _ (List.mem_of_getElem? (i := 3) rfl)) (hw _ (List.mem_of_getElem? (i := 26) rfl)) (hw _ (List.mem_of_getElem? (i := 4) rfl)) (hw _ (List.mem_of_getElem? (i := 27) rfl)) (by decide) pd1 (argsL := [(.int (5 : Int32)), (.int (0 : Int32))]) (rest := [(.int (3 : Int32)), (.ref a8)]) rfl (W := 2) (Nat.le_of_eq rfl) (rm := ({ frames := 0, cells := 0, slots := 0, locals := 0 } : Room)) (by decide) (by decide) (by decide) (by decide) (k' := 2) (n' := 21) rfl rfl (by rw [hml]; rfl) [(.int (0 : Int32)), (.int (5 : Int32)), (.ref o0), (.int (3 : Int32)), (.ref a8)] rfl (hb hby d1_88) (pc' := 91) rfl (rm4 l Z a0 hw o0 h73 n0 5 0 7 a3 a8 [(9223372036854775807 : Int64), (9223372036854775807 : Int64), (9223372036854775807 : Int64), (9223372036854775807 : Int64), (9223372036854775807 : Int64), (9223372036854775807 : Int64), (9223372036854775807 : Int64)] (by decide) (by decide) (by decide) ((a8, Own.ArrC Z .int [(.int (0 : Int32)), (.int (0 : Int32)), (.int (0 : Int32)), (.int (0 : Int32)), (.int (1 : Int32)), (.int (3 : Int32)), (.int (5 : Int32)), (.int (0 : Int32)), (.int (1 : Int32)), (.int (2 : Int32)), (.int (3 : Int32)), (.int (4 : Int32)), (.int (5 : Int32)), (.int (6 : Int32))]) :: fr) O78) ?_
  rintro _ h' ⟨rfl, eh⟩
  rw [eh]; clear eh h'
  show Own.Goes _ _ _ _ _ _ _ _ _ _ _ _ _ _ _ _ _ (mkF m 91 #[.val (.ref o0), .val (.int (7 : Int32)), .val (.int (3 : Int32))] [(.int (5 : Int32)), (.int (3 : Int32)), (.ref a8)])
  refine Own.iastore hx hZ O78 2 3 rfl (by decide) (by exact (show 3 < 14 by decide)) ((o0, Own.ObjC Z "com/example/twigline/twigline/matcher/StreamHeads" [(("com/example/twigline/twigline/matcher/StreamHeads", "size", "I"), (.int (7 : Int32))), (("com/example/twigline/twigline/matcher/StreamHeads", "starts", "[J"), (.ref a3)), (("com/example/twigline/twigline/matcher/StreamHeads", "earliest", "[I"), (.ref a8))]) :: (a3, Own.ArrC Z .long [(.long (9223372036854775807 : Int64)), (.long (9223372036854775807 : Int64)), (.long (9223372036854775807 : Int64)), (.long (9223372036854775807 : Int64)), (.long (9223372036854775807 : Int64)), (.long (9223372036854775807 : Int64)), (.long (9223372036854775807 : Int64))]) :: (a8, Own.ArrC Z .int [(.int (0 : Int32)), (.int (0 : Int32)), (.int (0 : Int32)), (.int (5 : Int32)), (.int (1 : Int32)), (.int (3 : Int32)), (.int (5 : Int32)), (.int (0 : Int32)), (.int (1 : Int32)), (.int (2 : Int32)), (.int (3 : Int32)), (.int (4 : Int32)), (.int (5 : Int32)), (.int (6 : Int32))]) :: fr) rfl (hb hby d1_91) rfl ?_
  intro h79 O80
  refine Own.iinc hx (2 : Int32) #[.val (.ref o0), .val (.int (7 : Int32)), .val (.int (2 : Int32))] (hb hby d1_92) rfl rfl (by decide) rfl ?_
  refine Own.goto hx (hb hby d1_95) (by decide) (pc' := 60) rfl ?_
  refine Own.iloadN hx (2 : Int32) (hb hby d1_60) rfl rfl ?_
  have hc81 : (0 : Int32) < (2 : Int32) := by decide
  refine Own.ifFn hx (Own.z_le (2 : Int32)) (hb hby d1_61) (pcN := 64) rfl (by decide) (pcT := 98) rfl (fun q => absurd hc81 q) (fun _ => ?_)
  refine Own.aloadN hx (.ref o0) (hb hby d1_64) rfl rfl rfl ?_
  refine Own.getfield hx hZ hown O80 0 2 rfl rfl (hw _ (List.mem_of_getElem? (i := 16) rfl)) (hb hby d1_65) rfl ?_
  refine Own.iloadN hx (2 : Int32) (hb hby d1_68) rfl rfl ?_
  refine Own.aloadN hx (.ref o0) (hb hby d1_69) rfl rfl rfl ?_
  refine Own.aloadN hx (.ref o0) (hb hby d1_70) rfl rfl rfl ?_
  refine Own.getfield hx hZ hown O80 0 2 rfl rfl (hw _ (List.mem_of_getElem? (i := 16) rfl)) (hb hby d1_71) rfl ?_
  refine Own.iconst hx (2 : Int32) (hb hby d1_74) rfl (by decide) ?_
  refine Own.iloadN hx (2 : Int32) (hb hby d1_75) rfl rfl ?_
  refine Own.imul hx (hb hby d1_76) rfl ?_
  refine Own.vI (4 : Int32) (by decide) ?_
  refine Own.iaload hx hZ O80 2 4 rfl (by decide) (v := (.int (1 : Int32))) rfl (hb hby d1_77) rfl ?_
  refine Own.aloadN hx (.ref o0) (hb hby d1_78) rfl rfl rfl ?_
  refine Own.getfield hx hZ hown O80 0 2 rfl rfl (hw _ (List.mem_of_getElem? (i := 16) rfl)) (hb hby d1_79) rfl ?_
  refine Own.iconst hx (2 : Int32) (hb hby d1_82) rfl (by decide) ?_
  refine Own.iloadN hx (2 : Int32) (hb hby d1_83) rfl rfl ?_
  refine Own.imul hx (hb hby d1_84) rfl ?_
  refine Own.vI (4 : Int32) (by decide) ?_
  refine Own.iconst hx (1 : Int32) (hb hby d1_85) rfl (by decide) ?_
  refine Own.iadd hx (hb hby d1_86) rfl ?_
  refine Own.vI (5 : Int32) (by decide) ?_
  refine Own.iaload hx hZ O80 2 5 rfl (by decide) (v := (.int (3 : Int32))) rfl (hb hby d1_87) rfl ?_
  have O83 : Own.Owns n0 h79 ((a3, Own.ArrC Z .long [(.long (9223372036854775807 : Int64)), (.long (9223372036854775807 : Int64)), (.long (9223372036854775807 : Int64)), (.long (9223372036854775807 : Int64)), (.long (9223372036854775807 : Int64)), (.long (9223372036854775807 : Int64)), (.long (9223372036854775807 : Int64))]) :: (o0, Own.ObjC Z "com/example/twigline/twigline/matcher/StreamHeads" [(("com/example/twigline/twigline/matcher/StreamHeads", "size", "I"), (.int (7 : Int32))), (("com/example/twigline/twigline/matcher/StreamHeads", "starts", "[J"), (.ref a3)), (("com/example/twigline/twigline/matcher/StreamHeads", "earliest", "[I"), (.ref a8))]) :: (a8, Own.ArrC Z .int [(.int (0 : Int32)), (.int (0 : Int32)), (.int (0 : Int32)), (.int (5 : Int32)), (.int (1 : Int32)), (.int (3 : Int32)), (.int (5 : Int32)), (.int (0 : Int32)), (.int (1 : Int32)), (.int (2 : Int32)), (.int (3 : Int32)), (.int (4 : Int32)), (.int (5 : Int32)), (.int (6 : Int32))]) :: fr) := O80.pick 1 rfl
  have O84 : Own.Owns n0 h79 ((o0, Own.ObjC Z "com/example/twigline/twigline/matcher/StreamHeads" [(("com/example/twigline/twigline/matcher/StreamHeads", "size", "I"), (.int (7 : Int32))), (("com/example/twigline/twigline/matcher/StreamHeads", "starts", "[J"), (.ref a3)), (("com/example/twigline/twigline/matcher/StreamHeads", "earliest", "[I"), (.ref a8))]) :: (a3, Own.ArrC Z .long [(.long (9223372036854775807 : Int64)), (.long (9223372036854775807 : Int64)), (.long (9223372036854775807 : Int64)), (.long (9223372036854775807 : Int64)), (.long (9223372036854775807 : Int64)), (.long (9223372036854775807 : Int64)), (.long (9223372036854775807 : Int64))]) :: (a8, Own.ArrC Z .int [(.int (0 : Int32)), (.int (0 : Int32)), (.int (0 : Int32)), (.int (5 : Int32)), (.int (1 : Int32)), (.int (3 : Int32)), (.int (5 : Int32)), (.int (0 : Int32)), (.int (1 : Int32)), (.int (2 : Int32)), (.int (3 : Int32)), (.int (4 : Int32)), (.int (5 : Int32)), (.int (6 : Int32))]) :: fr) := O83.pick 1 rfl
  refine Own.callP hx hZ hown (O84.exa (i := 0) rfl) (hw _ (List.mem_of_getElem? (i := 24) rfl)) (hw _ (List.mem_of_getElem? (i := 25) rfl)) (hw _ (List.mem_of_getElem? (i := 3) rfl)) (hw _ (List.mem_of_getElem? (i := 26) rfl)) (hw _ (List.mem_of_getElem? (i := 4) rfl)) (hw _ (List.mem_of_getElem? (i := 27) rfl)) (by decide) pd1 (argsL := [(.int (1 : Int32)), (.int (3 : Int32))]) (rest := [(.int (2 : Int32)), (.ref a8)]) rfl (W := 2) (Nat.le_of_eq rfl) (rm := ({ frames := 0, cells := 0, slots := 0, locals := 0 } : Room)) (by decide) (by decide) (by decide) (by decide) (k' := 2) (n' := 21) rfl rfl (by rw [hml]; rfl) [(.int (3 : Int32)), (.int (1 : Int32)), (.ref o0), (.int (2 : Int32)), (.ref a8)] rfl (hb hby d1_88) (pc' := 91) rfl (rm4 l Z a0 hw o0 h79 n0 1 3 7 a3 a8 [(9223372036854775807 : Int64), (9223372036854775807 : Int64), (9223372036854775807 : Int64), (9223372036854775807 : Int64), (9223372036854775807 : Int64), (9223372036854775807 : Int64), (9223372036854775807 : Int64)] (by decide) (by decide) (by decide) ((a8, Own.ArrC Z .int [(.int (0 : Int32)), (.int (0 : Int32)), (.int (0 : Int32)), (.int (5 : Int32)), (.int (1 : Int32)), (.int (3 : Int32)), (.int (5 : Int32)), (.int (0 : Int32)), (.int (1 : Int32)), (.int (2 : Int32)), (.int (3 : Int32)), (.int (4 : Int32)), (.int (5 : Int32)), (.int (6 : Int32))]) :: fr) O84) ?_
  rintro _ h' ⟨rfl, eh⟩
  rw [eh]; clear eh h'
  show Own.Goes _ _ _ _ _ _ _ _ _ _ _ _ _ _ _ _ _ (mkF m 91 #[.val (.ref o0), .val (.int (7 : Int32)), .val (.int (2 : Int32))] [(.int (1 : Int32)), (.int (2 : Int32)), (.ref a8)])
  refine Own.iastore hx hZ O84 2 2 rfl (by decide) (by exact (show 2 < 14 by decide)) ((o0, Own.ObjC Z "com/example/twigline/twigline/matcher/StreamHeads" [(("com/example/twigline/twigline/matcher/StreamHeads", "size", "I"), (.int (7 : Int32))), (("com/example/twigline/twigline/matcher/StreamHeads", "starts", "[J"), (.ref a3)), (("com/example/twigline/twigline/matcher/StreamHeads", "earliest", "[I"), (.ref a8))]) :: (a3, Own.ArrC Z .long [(.long (9223372036854775807 : Int64)), (.long (9223372036854775807 : Int64)), (.long (9223372036854775807 : Int64)), (.long (9223372036854775807 : Int64)), (.long (9223372036854775807 : Int64)), (.long (9223372036854775807 : Int64)), (.long (9223372036854775807 : Int64))]) :: (a8, Own.ArrC Z .int [(.int (0 : Int32)), (.int (0 : Int32)), (.int (1 : Int32)), (.int (5 : Int32)), (.int (1 : Int32)), (.int (3 : Int32)), (.int (5 : Int32)), (.int (0 : Int32)), (.int (1 : Int32)), (.int (2 : Int32)), (.int (3 : Int32)), (.int (4 : Int32)), (.int (5 : Int32)), (.int (6 : Int32))]) :: fr) rfl (hb hby d1_91) rfl ?_
  intro h85 O86
  refine Own.iinc hx (1 : Int32) #[.val (.ref o0), .val (.int (7 : Int32)), .val (.int (1 : Int32))] (hb hby d1_92) rfl rfl (by decide) rfl ?_
  refine Own.goto hx (hb hby d1_95) (by decide) (pc' := 60) rfl ?_
  refine Own.iloadN hx (1 : Int32) (hb hby d1_60) rfl rfl ?_
  have hc87 : (0 : Int32) < (1 : Int32) := by decide
  refine Own.ifFn hx (Own.z_le (1 : Int32)) (hb hby d1_61) (pcN := 64) rfl (by decide) (pcT := 98) rfl (fun q => absurd hc87 q) (fun _ => ?_)
  refine Own.aloadN hx (.ref o0) (hb hby d1_64) rfl rfl rfl ?_
  refine Own.getfield hx hZ hown O86 0 2 rfl rfl (hw _ (List.mem_of_getElem? (i := 16) rfl)) (hb hby d1_65) rfl ?_
  refine Own.iloadN hx (1 : Int32) (hb hby d1_68) rfl rfl ?_
  refine Own.aloadN hx (.ref o0) (hb hby d1_69) rfl rfl rfl ?_
  refine Own.aloadN hx (.ref o0) (hb hby d1_70) rfl rfl rfl ?_
  refine Own.getfield hx hZ hown O86 0 2 rfl rfl (hw _ (List.mem_of_getElem? (i := 16) rfl)) (hb hby d1_71) rfl ?_
  refine Own.iconst hx (2 : Int32) (hb hby d1_74) rfl (by decide) ?_
  refine Own.iloadN hx (1 : Int32) (hb hby d1_75) rfl rfl ?_
  refine Own.imul hx (hb hby d1_76) rfl ?_
  refine Own.vI (2 : Int32) (by decide) ?_
  refine Own.iaload hx hZ O86 2 2 rfl (by decide) (v := (.int (1 : Int32))) rfl (hb hby d1_77) rfl ?_
  refine Own.aloadN hx (.ref o0) (hb hby d1_78) rfl rfl rfl ?_
  refine Own.getfield hx hZ hown O86 0 2 rfl rfl (hw _ (List.mem_of_getElem? (i := 16) rfl)) (hb hby d1_79) rfl ?_
  refine Own.iconst hx (2 : Int32) (hb hby d1_82) rfl (by decide) ?_
  refine Own.iloadN hx (1 : Int32) (hb hby d1_83) rfl rfl ?_
  refine Own.imul hx (hb hby d1_84) rfl ?_
  refine Own.vI (2 : Int32) (by decide) ?_
  refine Own.iconst hx (1 : Int32) (hb hby d1_85) rfl (by decide) ?_
  refine Own.iadd hx (hb hby d1_86) rfl ?_
  refine Own.vI (3 : Int32) (by decide) ?_
  refine Own.iaload hx hZ O86 2 3 rfl (by decide) (v := (.int (5 : Int32))) rfl (hb hby d1_87) rfl ?_
  have O89 : Own.Owns n0 h85 ((a3, Own.ArrC Z .long [(.long (9223372036854775807 : Int64)), (.long (9223372036854775807 : Int64)), (.long (9223372036854775807 : Int64)), (.long (9223372036854775807 : Int64)), (.long (9223372036854775807 : Int64)), (.long (9223372036854775807 : Int64)), (.long (9223372036854775807 : Int64))]) :: (o0, Own.ObjC Z "com/example/twigline/twigline/matcher/StreamHeads" [(("com/example/twigline/twigline/matcher/StreamHeads", "size", "I"), (.int (7 : Int32))), (("com/example/twigline/twigline/matcher/StreamHeads", "starts", "[J"), (.ref a3)), (("com/example/twigline/twigline/matcher/StreamHeads", "earliest", "[I"), (.ref a8))]) :: (a8, Own.ArrC Z .int [(.int (0 : Int32)), (.int (0 : Int32)), (.int (1 : Int32)), (.int (5 : Int32)), (.int (1 : Int32)), (.int (3 : Int32)), (.int (5 : Int32)), (.int (0 : Int32)), (.int (1 : Int32)), (.int (2 : Int32)), (.int (3 : Int32)), (.int (4 : Int32)), (.int (5 : Int32)), (.int (6 : Int32))]) :: fr) := O86.pick 1 rfl
  have O90 : Own.Owns n0 h85 ((o0, Own.ObjC Z "com/example/twigline/twigline/matcher/StreamHeads" [(("com/example/twigline/twigline/matcher/StreamHeads", "size", "I"), (.int (7 : Int32))), (("com/example/twigline/twigline/matcher/StreamHeads", "starts", "[J"), (.ref a3)), (("com/example/twigline/twigline/matcher/StreamHeads", "earliest", "[I"), (.ref a8))]) :: (a3, Own.ArrC Z .long [(.long (9223372036854775807 : Int64)), (.long (9223372036854775807 : Int64)), (.long (9223372036854775807 : Int64)), (.long (9223372036854775807 : Int64)), (.long (9223372036854775807 : Int64)), (.long (9223372036854775807 : Int64)), (.long (9223372036854775807 : Int64))]) :: (a8, Own.ArrC Z .int [(.int (0 : Int32)), (.int (0 : Int32)), (.int (1 : Int32)), (.int (5 : Int32)), (.int (1 : Int32)), (.int (3 : Int32)), (.int (5 : Int32)), (.int (0 : Int32)), (.int (1 : Int32)), (.int (2 : Int32)), (.int (3 : Int32)), (.int (4 : Int32)), (.int (5 : Int32)), (.int (6 : Int32))]) :: fr) := O89.pick 1 rfl
  refine Own.callP hx hZ hown (O90.exa (i := 0) rfl) (hw _ (List.mem_of_getElem? (i := 24) rfl)) (hw _ (List.mem_of_getElem? (i := 25) rfl)) (hw _ (List.mem_of_getElem? (i := 3) rfl)) (hw _ (List.mem_of_getElem? (i := 26) rfl)) (hw _ (List.mem_of_getElem? (i := 4) rfl)) (hw _ (List.mem_of_getElem? (i := 27) rfl)) (by decide) pd1 (argsL := [(.int (1 : Int32)), (.int (5 : Int32))]) (rest := [(.int (1 : Int32)), (.ref a8)]) rfl (W := 2) (Nat.le_of_eq rfl) (rm := ({ frames := 0, cells := 0, slots := 0, locals := 0 } : Room)) (by decide) (by decide) (by decide) (by decide) (k' := 2) (n' := 21) rfl rfl (by rw [hml]; rfl) [(.int (5 : Int32)), (.int (1 : Int32)), (.ref o0), (.int (1 : Int32)), (.ref a8)] rfl (hb hby d1_88) (pc' := 91) rfl (rm4 l Z a0 hw o0 h85 n0 1 5 7 a3 a8 [(9223372036854775807 : Int64), (9223372036854775807 : Int64), (9223372036854775807 : Int64), (9223372036854775807 : Int64), (9223372036854775807 : Int64), (9223372036854775807 : Int64), (9223372036854775807 : Int64)] (by decide) (by decide) (by decide) ((a8, Own.ArrC Z .int [(.int (0 : Int32)), (.int (0 : Int32)), (.int (1 : Int32)), (.int (5 : Int32)), (.int (1 : Int32)), (.int (3 : Int32)), (.int (5 : Int32)), (.int (0 : Int32)), (.int (1 : Int32)), (.int (2 : Int32)), (.int (3 : Int32)), (.int (4 : Int32)), (.int (5 : Int32)), (.int (6 : Int32))]) :: fr) O90) ?_
  rintro _ h' ⟨rfl, eh⟩
  rw [eh]; clear eh h'
  show Own.Goes _ _ _ _ _ _ _ _ _ _ _ _ _ _ _ _ _ (mkF m 91 #[.val (.ref o0), .val (.int (7 : Int32)), .val (.int (1 : Int32))] [(.int (1 : Int32)), (.int (1 : Int32)), (.ref a8)])
  refine Own.iastore hx hZ O90 2 1 rfl (by decide) (by exact (show 1 < 14 by decide)) ((o0, Own.ObjC Z "com/example/twigline/twigline/matcher/StreamHeads" [(("com/example/twigline/twigline/matcher/StreamHeads", "size", "I"), (.int (7 : Int32))), (("com/example/twigline/twigline/matcher/StreamHeads", "starts", "[J"), (.ref a3)), (("com/example/twigline/twigline/matcher/StreamHeads", "earliest", "[I"), (.ref a8))]) :: (a3, Own.ArrC Z .long [(.long (9223372036854775807 : Int64)), (.long (9223372036854775807 : Int64)), (.long (9223372036854775807 : Int64)), (.long (9223372036854775807 : Int64)), (.long (9223372036854775807 : Int64)), (.long (9223372036854775807 : Int64)), (.long (9223372036854775807 : Int64))]) :: (a8, Own.ArrC Z .int [(.int (0 : Int32)), (.int (1 : Int32)), (.int (1 : Int32)), (.int (5 : Int32)), (.int (1 : Int32)), (.int (3 : Int32)), (.int (5 : Int32)), (.int (0 : Int32)), (.int (1 : Int32)), (.int (2 : Int32)), (.int (3 : Int32)), (.int (4 : Int32)), (.int (5 : Int32)), (.int (6 : Int32))]) :: fr) rfl (hb hby d1_91) rfl ?_
  intro h91 O92
  refine Own.iinc hx (0 : Int32) #[.val (.ref o0), .val (.int (7 : Int32)), .val (.int (0 : Int32))] (hb hby d1_92) rfl rfl (by decide) rfl ?_
  refine Own.goto hx (hb hby d1_95) (by decide) (pc' := 60) rfl ?_
  refine Own.iloadN hx (0 : Int32) (hb hby d1_60) rfl rfl ?_
  have hc93 : ¬ ((0 : Int32) < (0 : Int32)) := by decide
  refine Own.ifFn hx (Own.z_le (0 : Int32)) (hb hby d1_61) (pcN := 64) rfl (by decide) (pcT := 98) rfl (fun _ => ?_) (fun q => absurd q hc93)
  have O95 : Own.Owns n0 h91 ((a8, Own.ArrC Z .int [(.int (0 : Int32)), (.int (1 : Int32)), (.int (1 : Int32)), (.int (5 : Int32)), (.int (1 : Int32)), (.int (3 : Int32)), (.int (5 : Int32)), (.int (0 : Int32)), (.int (1 : Int32)), (.int (2 : Int32)), (.int (3 : Int32)), (.int (4 : Int32)), (.int (5 : Int32)), (.int (6 : Int32))]) :: (o0, Own.ObjC Z "com/example/twigline/twigline/matcher/StreamHeads" [(("com/example/twigline/twigline/matcher/StreamHeads", "size", "I"), (.int (7 : Int32))), (("com/example/twigline/twigline/matcher/StreamHeads", "starts", "[J"), (.ref a3)), (("com/example/twigline/twigline/matcher/StreamHeads", "earliest", "[I"), (.ref a8))]) :: (a3, Own.ArrC Z .long [(.long (9223372036854775807 : Int64)), (.long (9223372036854775807 : Int64)), (.long (9223372036854775807 : Int64)), (.long (9223372036854775807 : Int64)), (.long (9223372036854775807 : Int64)), (.long (9223372036854775807 : Int64)), (.long (9223372036854775807 : Int64))]) :: fr) := O92.pick 2 rfl
  have O96 : Own.Owns n0 h91 ((a3, Own.ArrC Z .long [(.long (9223372036854775807 : Int64)), (.long (9223372036854775807 : Int64)), (.long (9223372036854775807 : Int64)), (.long (9223372036854775807 : Int64)), (.long (9223372036854775807 : Int64)), (.long (9223372036854775807 : Int64)), (.long (9223372036854775807 : Int64))]) :: (a8, Own.ArrC Z .int [(.int (0 : Int32)), (.int (1 : Int32)), (.int (1 : Int32)), (.int (5 : Int32)), (.int (1 : Int32)), (.int (3 : Int32)), (.int (5 : Int32)), (.int (0 : Int32)), (.int (1 : Int32)), (.int (2 : Int32)), (.int (3 : Int32)), (.int (4 : Int32)), (.int (5 : Int32)), (.int (6 : Int32))]) :: (o0, Own.ObjC Z "com/example/twigline/twigline/matcher/StreamHeads" [(("com/example/twigline/twigline/matcher/StreamHeads", "size", "I"), (.int (7 : Int32))), (("com/example/twigline/twigline/matcher/StreamHeads", "starts", "[J"), (.ref a3)), (("com/example/twigline/twigline/matcher/StreamHeads", "earliest", "[I"), (.ref a8))]) :: fr) := O95.pick 2 rfl
  have O97 : Own.Owns n0 h91 ((o0, Own.ObjC Z "com/example/twigline/twigline/matcher/StreamHeads" [(("com/example/twigline/twigline/matcher/StreamHeads", "size", "I"), (.int (7 : Int32))), (("com/example/twigline/twigline/matcher/StreamHeads", "starts", "[J"), (.ref a3)), (("com/example/twigline/twigline/matcher/StreamHeads", "earliest", "[I"), (.ref a8))]) :: (a3, Own.ArrC Z .long [(.long (9223372036854775807 : Int64)), (.long (9223372036854775807 : Int64)), (.long (9223372036854775807 : Int64)), (.long (9223372036854775807 : Int64)), (.long (9223372036854775807 : Int64)), (.long (9223372036854775807 : Int64)), (.long (9223372036854775807 : Int64))]) :: (a8, Own.ArrC Z .int [(.int (0 : Int32)), (.int (1 : Int32)), (.int (1 : Int32)), (.int (5 : Int32)), (.int (1 : Int32)), (.int (3 : Int32)), (.int (5 : Int32)), (.int (0 : Int32)), (.int (1 : Int32)), (.int (2 : Int32)), (.int (3 : Int32)), (.int (4 : Int32)), (.int (5 : Int32)), (.int (6 : Int32))]) :: fr) := O96.pick 2 rfl
  exact Own.retV hx hret hlk (hb hby d1_98) (by decide) (by decide) ⟨a3, a8, rfl, O97⟩

theorem d6_9 : decode prog_27_method_4_code 9 = .ok (.iload_n 2, 1) := by decide +kernel
theorem d6_10 : decode prog_27_method_4_code 10 = .ok (.ifCond .le 38, 3) := by decide +kernel
theorem d6_48 : decode prog_27_method_4_code 48 = .ok (.return_, 1) := by decide +kernel
theorem d6_13 : decode prog_27_method_4_code 13 = .ok (.aload_n 0, 1) := by decide +kernel
theorem d6_14 : decode prog_27_method_4_code 14 = .ok (.getfield 19, 3) := by decide +kernel
theorem d6_17 : decode prog_27_method_4_code 17 = .ok (.iload_n 2, 1) := by decide +kernel
theorem d6_18 : decode prog_27_method_4_code 18 = .ok (.aload_n 0, 1) := by decide +kernel
theorem d6_19 : decode prog_27_method_4_code 19 = .ok (.aload_n 0, 1) := by decide +kernel
theorem d6_20 : decode prog_27_method_4_code 20 = .ok (.getfield 19, 3) := by decide +kernel
theorem d6_23 : decode prog_27_method_4_code 23 = .ok (.iconst 2, 1) := by decide +kernel
theorem d6_24 : decode prog_27_method_4_code 24 = .ok (.iload_n 2, 1) := by decide +kernel
theorem d6_25 : decode prog_27_method_4_code 25 = .ok (.imul, 1) := by decide +kernel
theorem d6_26 : decode prog_27_method_4_code 26 = .ok (.iaload, 1) := by decide +kernel
theorem d6_27 : decode prog_27_method_4_code 27 = .ok (.aload_n 0, 1) := by decide +kernel
theorem d6_28 : decode prog_27_method_4_code 28 = .ok (.getfield 19, 3) := by decide +kernel
theorem d6_31 : decode prog_27_method_4_code 31 = .ok (.iconst 2, 1) := by decide +kernel
theorem d6_32 : decode prog_27_method_4_code 32 = .ok (.iload_n 2, 1) := by decide +kernel
theorem d6_33 : decode prog_27_method_4_code 33 = .ok (.imul, 1) := by decide +kernel
theorem d6_34 : decode prog_27_method_4_code 34 = .ok (.iconst 1, 1) := by decide +kernel
theorem d6_35 : decode prog_27_method_4_code 35 = .ok (.iadd, 1) := by decide +kernel
theorem d6_36 : decode prog_27_method_4_code 36 = .ok (.iaload, 1) := by decide +kernel
theorem d6_37 : decode prog_27_method_4_code 37 = .ok (.invokevirtual 25, 3) := by decide +kernel
theorem d6_40 : decode prog_27_method_4_code 40 = .ok (.iastore, 1) := by decide +kernel
theorem d6_41 : decode prog_27_method_4_code 41 = .ok (.iload_n 2, 1) := by decide +kernel
theorem d6_42 : decode prog_27_method_4_code 42 = .ok (.iconst 2, 1) := by decide +kernel
theorem d6_43 : decode prog_27_method_4_code 43 = .ok (.idiv, 1) := by decide +kernel
theorem d6_44 : decode prog_27_method_4_code 44 = .ok (.istore_n 2, 1) := by decide +kernel
theorem d6_45 : decode prog_27_method_4_code 45 = .ok (.goto (-36), 3) := by decide +kernel
set_option maxRecDepth 65536 in
set_option maxHeartbeats 40000000 in
theorem replay_loop {p : Program} {l : Launch} {e : Env} {R : Room} {s : State} {m : MethodId} {args : Array Value} {below : List Frame} {meth : Method} {c : Code} {n0 mc ms : Nat} {k n : Nat} {Z : State} {a0 : Array Value} (hw : ∀ d ∈ tables_1, d.before a0 Z = true) (hx : p.tables.exec = Jvm.exec) (hby : c.code = prog_27_method_4_code) (hml : c.maxLocals = 3) (hown : s.vm.findClass "com/example/twigline/twigline/matcher/StreamHeads" = some m.cls) (hZ : Z.Warmed39 s.vm) (hret : meth.sig.returnType = none) (hlk : meth.locks = false) (hk : k ≤ mc) (hn' : n ≤ ms) (hfC : 1 ≤ R.frames) (hlC : 2 + (3 + 11) + 0 ≤ R.locals) (hcC : k + 0 ≤ R.cells) (hsC : n + 0 ≤ R.slots) {fr : List (Addr × (Cell → Prop))} {o0 oa ob : Addr} {ss : List Int64} {sz : Nat} {px : Int32} (hsz : sz < 100) :
    ∀ t (es : List Nat) (h : Heap), t < sz → InvA ss es sz t → Own.Owns n0 h ((o0, Own.ObjC Z "com/example/twigline/twigline/matcher/StreamHeads" [(("com/example/twigline/twigline/matcher/StreamHeads", "size", "I"), (.int sz.toInt32)), (("com/example/twigline/twigline/matcher/StreamHeads", "starts", "[J"), (.ref oa)), (("com/example/twigline/twigline/matcher/StreamHeads", "earliest", "[I"), (.ref ob))]) :: (oa, Own.ArrC Z .long (ss.map Value.long)) :: (ob, Own.ArrC Z .int (es.map gI)) :: fr) → Own.Goes p l e R s m args below meth c n0 mc ms (fun v h => ∃ es', v = none ∧ InvT ss es' sz ∧ Own.Owns n0 h ((o0, Own.ObjC Z "com/example/twigline/twigline/matcher/StreamHeads" [(("com/example/twigline/twigline/matcher/StreamHeads", "size", "I"), (.int sz.toInt32)), (("com/example/twigline/twigline/matcher/StreamHeads", "starts", "[J"), (.ref oa)), (("com/example/twigline/twigline/matcher/StreamHeads", "earliest", "[I"), (.ref ob))]) :: (oa, Own.ArrC Z .long (ss.map Value.long)) :: (ob, Own.ArrC Z .int (es'.map gI)) :: fr)) h k n (mkF m 9 #[.val (.ref o0), .val (.int px), .val (.int t.toInt32)] []) := by
  intro t
  induction t using Nat.strongRecOn with
  | ind t ih =>
  intro es h ht hI O
  have hlen1 : ss.length = sz := hI.1
  have hlen2 : es.length = 2 * sz := hI.2.1
  by_cases ht0 : t = 0
  · subst ht0
    refine Own.iloadN hx (0 : Nat).toInt32 (hb hby d6_9) rfl rfl ?_
    have hc1 : ¬ ((0 : Int32) < (0 : Nat).toInt32) := (by decide)
    refine Own.ifFn hx (Own.z_le (0 : Nat).toInt32) (hb hby d6_10) (pcN := 13) rfl (by decide) (pcT := 48) rfl (fun _ => ?_) (fun q => absurd q hc1)
    exact Own.retV hx hret hlk (hb hby d6_48) hk hn' ⟨es, rfl, inv_end hI, O⟩
  · have hA := (hI.2.2.1 (2 * t) (by omega) (by omega)).1
    have hB := (hI.2.2.1 (2 * t + 1) (by omega) (by omega)).1
    refine Own.iloadN hx t.toInt32 (hb hby d6_9) rfl rfl ?_
    have hc1 : (0 : Int32) < t.toInt32 := own_pos ht0 (by omega)
    refine Own.ifFn hx (Own.z_le t.toInt32) (hb hby d6_10) (pcN := 13) rfl (by decide) (pcT := 48) rfl (fun q => absurd hc1 q) (fun _ => ?_)
    refine Own.aloadN hx (.ref o0) (hb hby d6_13) rfl rfl rfl ?_
    refine Own.getfield hx hZ hown O 0 2 rfl rfl (hw _ (List.mem_of_getElem? (i := 16) rfl)) (hb hby d6_14) rfl ?_
    refine Own.iloadN hx t.toInt32 (hb hby d6_17) rfl rfl ?_
    refine Own.aloadN hx (.ref o0) (hb hby d6_18) rfl rfl rfl ?_
    refine Own.aloadN hx (.ref o0) (hb hby d6_19) rfl rfl rfl ?_
    refine Own.getfield hx hZ hown O 0 2 rfl rfl (hw _ (List.mem_of_getElem? (i := 16) rfl)) (hb hby d6_20) rfl ?_
    refine Own.iconst hx (2 : Int32) (hb hby d6_23) rfl (by decide) ?_
    refine Own.iloadN hx t.toInt32 (hb hby d6_24) rfl rfl ?_
    refine Own.imul hx (hb hby d6_25) rfl ?_
    refine Own.iaload hx hZ O 2 (2 * t) rfl (own_t2 (by omega)) (v := (.int (es.getD (2 * t) 0).toInt32)) (own_es_at (by omega)) (hb hby d6_26) rfl ?_
    refine Own.aloadN hx (.ref o0) (hb hby d6_27) rfl rfl rfl ?_
    refine Own.getfield hx hZ hown O 0 2 rfl rfl (hw _ (List.mem_of_getElem? (i := 16) rfl)) (hb hby d6_28) rfl ?_
    refine Own.iconst hx (2 : Int32) (hb hby d6_31) rfl (by decide) ?_
    refine Own.iloadN hx t.toInt32 (hb hby d6_32) rfl rfl ?_
    refine Own.imul hx (hb hby d6_33) rfl ?_
    refine Own.iconst hx (1 : Int32) (hb hby d6_34) rfl (by decide) ?_
    refine Own.iadd hx (hb hby d6_35) rfl ?_
    refine Own.iaload hx hZ O 2 (2 * t + 1) rfl (own_t21 (by omega)) (v := (.int (es.getD (2 * t + 1) 0).toInt32)) (own_es_at (by omega)) (hb hby d6_36) rfl ?_
    refine Own.callP hx hZ hown (O.exa (i := 0) rfl) (hw _ (List.mem_of_getElem? (i := 24) rfl)) (hw _ (List.mem_of_getElem? (i := 25) rfl)) (hw _ (List.mem_of_getElem? (i := 3) rfl)) (hw _ (List.mem_of_getElem? (i := 26) rfl)) (hw _ (List.mem_of_getElem? (i := 4) rfl)) (hw _ (List.mem_of_getElem? (i := 27) rfl)) (by decide) pd1 (argsL := [(.int (es.getD (2 * t) 0).toInt32), (.int (es.getD (2 * t + 1) 0).toInt32)]) (rest := [(.int t.toInt32), (.ref ob)]) rfl (W := 2) (Nat.le_of_eq rfl) (rm := ({ frames := 0, cells := 0, slots := 0, locals := 0 } : Room)) hfC hlC hcC hsC (k' := k) (n' := n) (Nat.add_zero _) (Nat.add_zero _) (by rw [hml]; rfl) [(.int (es.getD (2 * t + 1) 0).toInt32), (.int (es.getD (2 * t) 0).toInt32), (.ref o0), (.int t.toInt32), (.ref ob)] rfl (hb hby d6_37) (pc' := 40) rfl (rm4 l Z a0 hw o0 h n0 (es.getD (2 * t) 0) (es.getD (2 * t + 1) 0) sz oa ob ss (by omega) (by omega) (by omega) ((ob, Own.ArrC Z .int (es.map gI)) :: fr) O) ?_
    rintro _ h' ⟨rfl, eh⟩
    rw [eh]; clear eh h'
    show Own.Goes _ _ _ _ _ _ _ _ _ _ _ _ _ _ _ _ _ (mkF m 40 #[.val (.ref o0), .val (.int px), .val (.int t.toInt32)] [(.int (pk ss (es.getD (2 * t) 0) (es.getD (2 * t + 1) 0)).toInt32), (.int t.toInt32), (.ref ob)])
    refine Own.iastore hx hZ O 2 t rfl (own_tl (by omega)) (by rw [List.length_map]; omega) ((o0, Own.ObjC Z "com/example/twigline/twigline/matcher/StreamHeads" [(("com/example/twigline/twigline/matcher/StreamHeads", "size", "I"), (.int sz.toInt32)), (("com/example/twigline/twigline/matcher/StreamHeads", "starts", "[J"), (.ref oa)), (("com/example/twigline/twigline/matcher/StreamHeads", "earliest", "[I"), (.ref ob))]) :: (oa, Own.ArrC Z .long (ss.map Value.long)) :: (ob, Own.ArrC Z .int ((es.set t (pk ss (es.getD (2 * t) 0) (es.getD (2 * t + 1) 0))).map gI)) :: fr) (by rw [List.map_set]; rfl) (hb hby d6_40) rfl ?_
    intro h3 O4
    refine Own.iloadN hx t.toInt32 (hb hby d6_41) rfl rfl ?_
    refine Own.iconst hx (2 : Int32) (hb hby d6_42) rfl (by decide) ?_
    refine Own.idiv hx (hb hby d6_43) rfl (by decide) ?_
    refine Own.istoreN hx (t.toInt32 / (2 : Int32)) rfl #[.val (.ref o0), .val (.int px), .val (.int (t.toInt32 / (2 : Int32)))] (hb hby d6_44) rfl rfl ?_
    refine Own.goto hx (hb hby d6_45) (by decide) (pc' := 9) rfl ?_
    have hih := ih (t / 2) (by omega) (es.set t (pk ss (es.getD (2 * t) 0) (es.getD (2 * t + 1) 0))) h3 (by omega) (inv_step hI (by omega) ht) O4
    rw [own_half (by omega)]; exact hih
theorem d6_0 : decode prog_27_method_4_code 0 = .ok (.aload_n 0, 1) := by decide +kernel
theorem d6_1 : decode prog_27_method_4_code 1 = .ok (.getfield 9, 3) := by decide +kernel
theorem d6_4 : decode prog_27_method_4_code 4 = .ok (.iload_n 1, 1) := by decide +kernel
theorem d6_5 : decode prog_27_method_4_code 5 = .ok (.iadd, 1) := by decide +kernel
theorem d6_6 : decode prog_27_method_4_code 6 = .ok (.iconst 2, 1) := by decide +kernel
theorem d6_7 : decode prog_27_method_4_code 7 = .ok (.idiv, 1) := by decide +kernel
theorem d6_8 : decode prog_27_method_4_code 8 = .ok (.istore_n 2, 1) := by decide +kernel
theorem pn4 : plainFor (⟨"com/example/twigline/twigline/matcher/StreamHeads", "replay", "(I)V"⟩ : MethodName) = true := by first | exact plainFor_of_name (by simp [plainName, overriddenIn]; done) | decide +kernel
theorem ef6 (m : MethodId) (x0 : Addr) (x1 : Int32) : entryFrame m #[(.ref x0), (.int x1)] 3 = mkF m 0 #[.val (.ref x0), .val (.int x1), .unset] [] := by first | (simp [entryFrame, mkF, argsToLocals, Value.category]; done) | rfl
set_option maxRecDepth 65536 in
set_option maxHeartbeats 40000000 in
theorem rm6 (l : Launch) (Z : State) (a0 : Array Value) (hw : ∀ d ∈ tables_1, d.before a0 Z = true) (o0 : Addr) (p1 : Int32) (h0 : Heap) (n0 : Nat) (pl sz : Nat) (oa ob : Addr) (ss : List Int64) (es : List Nat) (hsz : sz < 100) (hpl : p1.toInt = (pl : Int)) (hlt : pl < sz) (hs2 : 2 ≤ sz) (hI : InvA ss es sz ((sz + pl) / 2)) (fr : List (Addr × (Cell → Prop))) (O0 : Own.Owns n0 h0 ((o0, Own.ObjC Z "com/example/twigline/twigline/matcher/StreamHeads" [(("com/example/twigline/twigline/matcher/StreamHeads", "size", "I"), (.int sz.toInt32)), (("com/example/twigline/twigline/matcher/StreamHeads", "starts", "[J"), (.ref oa)), (("com/example/twigline/twigline/matcher/StreamHeads", "earliest", "[I"), (.ref ob))]) :: (oa, Own.ArrC Z .long (ss.map Value.long)) :: (ob, Own.ArrC Z .int (es.map gI)) :: fr))  : Own.Does l (⟨"com/example/twigline/twigline/matcher/StreamHeads", "replay", "(I)V"⟩ : MethodName) prog_27_method_4_code 3 none [] ({ frames := 1, cells := 0, slots := 0, locals := 17 } : Room) Z #[(.ref o0), (.int p1)] h0 n0 (fun v h => ∃ es', v = none ∧ InvT ss es' sz ∧ Own.Owns n0 h ((o0, Own.ObjC Z "com/example/twigline/twigline/matcher/StreamHeads" [(("com/example/twigline/twigline/matcher/StreamHeads", "size", "I"), (.int sz.toInt32)), (("com/example/twigline/twigline/matcher/StreamHeads", "starts", "[J"), (.ref oa)), (("com/example/twigline/twigline/matcher/StreamHeads", "earliest", "[I"), (.ref ob))]) :: (oa, Own.ArrC Z .long (ss.map Value.long)) :: (ob, Own.ArrC Z .int (es'.map gI)) :: fr)) := by
  refine Own.doesOf pn4 ?_
  intro p e s m below meth c hx hby hml hret hlk hown hnm hZ
  refine Own.Goes.cast (ef6 m o0 p1) ?_
  refine Own.aloadN hx (.ref o0) (hb hby d6_0) rfl rfl rfl ?_
  refine Own.getfield hx hZ hown O0 0 0 rfl rfl (hw _ (List.mem_of_getElem? (i := 11) rfl)) (hb hby d6_1) rfl ?_
  refine Own.iloadN hx p1 (hb hby d6_4) rfl rfl ?_
  refine Own.iadd hx (hb hby d6_5) rfl ?_
  refine Own.iconst hx (2 : Int32) (hb hby d6_6) rfl (by decide) ?_
  refine Own.idiv hx (hb hby d6_7) rfl (by decide) ?_
  refine Own.istoreN hx ((sz.toInt32 + p1) / (2 : Int32)) rfl #[.val (.ref o0), .val (.int p1), .val (.int ((sz.toInt32 + p1) / (2 : Int32)))] (hb hby d6_8) rfl rfl ?_
  rw [own_mid hpl (by omega) (by omega)]
  exact replay_loop hw hx hby hml hown hZ hret hlk (by decide) (by decide) (by decide) (by decide) (by decide) (by decide) hsz ((sz + pl) / 2) es _ (by omega) hI O0

theorem own_two {sz : Nat} (hs : sz < 100) (h : (1 : Int32) < sz.toInt32) : 2 ≤ sz := by
  have := Int32.lt_iff_toInt_lt.mp h
  rw [own_tl (nn := sz) (by omega), show (1 : Int32).toInt = 1 from by decide] at this
  omega
theorem pd2 : parseMethodDescriptor "(I)V" = some ⟨[.int], none⟩ := by decide +kernel
theorem d5_0 : decode prog_27_method_3_code 0 = .ok (.aload_n 0, 1) := by decide +kernel
theorem d5_1 : decode prog_27_method_3_code 1 = .ok (.getfield 15, 3) := by decide +kernel
theorem d5_4 : decode prog_27_method_3_code 4 = .ok (.iload_n 1, 1) := by decide +kernel
theorem d5_5 : decode prog_27_method_3_code 5 = .ok (.lload_n 2, 1) := by decide +kernel
theorem d5_6 : decode prog_27_method_3_code 6 = .ok (.lastore, 1) := by decide +kernel
theorem d5_7 : decode prog_27_method_3_code 7 = .ok (.aload_n 0, 1) := by decide +kernel
theorem d5_8 : decode prog_27_method_3_code 8 = .ok (.getfield 9, 3) := by decide +kernel
theorem d5_11 : decode prog_27_method_3_code 11 = .ok (.iconst 1, 1) := by decide +kernel
theorem d5_12 : decode prog_27_method_3_code 12 = .ok (.if_icmp .le 8, 3) := by decide +kernel
theorem d5_15 : decode prog_27_method_3_code 15 = .ok (.aload_n 0, 1) := by decide +kernel
theorem d5_16 : decode prog_27_method_3_code 16 = .ok (.iload_n 1, 1) := by decide +kernel
theorem d5_17 : decode prog_27_method_3_code 17 = .ok (.invokevirtual 29, 3) := by decide +kernel
theorem d5_20 : decode prog_27_method_3_code 20 = .ok (.return_, 1) := by decide +kernel
theorem pn5 : plainFor (⟨"com/example/twigline/twigline/matcher/StreamHeads", "set", "(IJ)V"⟩ : MethodName) = true := by first | exact plainFor_of_name (by simp [plainName, overriddenIn]; done) | decide +kernel
theorem ef5 (m : MethodId) (x0 : Addr) (x1 : Int32) (x2 : Int64) : entryFrame m #[(.ref x0), (.int x1), (.long x2)] 4 = mkF m 0 #[.val (.ref x0), .val (.int x1), .val (.long x2), .second] [] := by first | (simp [entryFrame, mkF, argsToLocals, Value.category]; done) | rfl
set_option maxRecDepth 65536 in
set_option maxHeartbeats 40000000 in
theorem rm5 (l : Launch) (Z : State) (a0 : Array Value) (hw : ∀ d ∈ tables_1, d.before a0 Z = true) (o0 : Addr) (p1 : Int32) (q2 : Int64) (h0 : Heap) (n0 : Nat) (pl sz : Nat) (oa ob : Addr) (ss : List Int64) (es : List Nat) (hsz : sz < 100) (hpl : p1.toInt = (pl : Int)) (hlt : pl < sz) (hI : InvT ss es sz) (fr : List (Addr × (Cell → Prop))) (O0 : Own.Owns n0 h0 ((o0, Own.ObjC Z "com/example/twigline/twigline/matcher/StreamHeads" [(("com/example/twigline/twigline/matcher/StreamHeads", "size", "I"), (.int sz.toInt32)), (("com/example/twigline/twigline/matcher/StreamHeads", "starts", "[J"), (.ref oa)), (("com/example/twigline/twigline/matcher/StreamHeads", "earliest", "[I"), (.ref ob))]) :: (oa, Own.ArrC Z .long (ss.map Value.long)) :: (ob, Own.ArrC Z .int (es.map gI)) :: fr))  : Own.Does l (⟨"com/example/twigline/twigline/matcher/StreamHeads", "set", "(IJ)V"⟩ : MethodName) prog_27_method_3_code 4 none [] ({ frames := 2, cells := 0, slots := 0, locals := 34 } : Room) Z #[(.ref o0), (.int p1), (.long q2)] h0 n0 (fun v h => ∃ es', v = none ∧ InvT (ss.set pl q2) es' sz ∧ Own.Owns n0 h ((o0, Own.ObjC Z "com/example/twigline/twigline/matcher/StreamHeads" [(("com/example/twigline/twigline/matcher/StreamHeads", "size", "I"), (.int sz.toInt32)), (("com/example/twigline/twigline/matcher/StreamHeads", "starts", "[J"), (.ref oa)), (("com/example/twigline/twigline/matcher/StreamHeads", "earliest", "[I"), (.ref ob))]) :: (oa, Own.ArrC Z .long ((ss.set pl q2).map Value.long)) :: (ob, Own.ArrC Z .int (es'.map gI)) :: fr)) := by
  refine Own.doesOf pn5 ?_
  intro p e s m below meth c hx hby hml hret hlk hown hnm hZ
  refine Own.Goes.cast (ef5 m o0 p1 q2) ?_
  refine Own.aloadN hx (.ref o0) (hb hby d5_0) rfl rfl rfl ?_
  refine Own.getfield hx hZ hown O0 0 1 rfl rfl (hw _ (List.mem_of_getElem? (i := 13) rfl)) (hb hby d5_1) rfl ?_
  refine Own.iloadN hx p1 (hb hby d5_4) rfl rfl ?_
  refine Own.lloadN hx q2 (hb hby d5_5) rfl rfl ?_
  refine Own.lastore hx hZ O0 1 pl rfl hpl (by rw [List.length_map, hI.1]; exact hlt) ((o0, Own.ObjC Z "com/example/twigline/twigline/matcher/StreamHeads" [(("com/example/twigline/twigline/matcher/StreamHeads", "size", "I"), (.int sz.toInt32)), (("com/example/twigline/twigline/matcher/StreamHeads", "starts", "[J"), (.ref oa)), (("com/example/twigline/twigline/matcher/StreamHeads", "earliest", "[I"), (.ref ob))]) :: (oa, Own.ArrC Z .long ((ss.set pl q2).map Value.long)) :: (ob, Own.ArrC Z .int (es.map gI)) :: fr) (by rw [List.map_set]; rfl) (hb hby d5_6) rfl ?_
  intro h1 O2
  refine Own.aloadN hx (.ref o0) (hb hby d5_7) rfl rfl rfl ?_
  refine Own.getfield hx hZ hown O2 0 0 rfl rfl (hw _ (List.mem_of_getElem? (i := 11) rfl)) (hb hby d5_8) rfl ?_
  refine Own.iconst hx (1 : Int32) (hb hby d5_11) rfl (by decide) ?_
  refine Own.icmpFn hx (Own.q_le sz.toInt32 (1 : Int32)) (hb hby d5_12) (pcN := 15) rfl (by decide) (pcT := 20) rfl (fun hc3 => ?_) (fun hc3 => ?_)
  · exact Own.retV hx hret hlk (hb hby d5_20) (by decide) (by decide) ⟨es, rfl, inv_end (by have := inv_upd (x := q2) hI hlt; rw [own_one hc3 hlt hsz] at this; exact this), O2⟩
  · refine Own.aloadN hx (.ref o0) (hb hby d5_15) rfl rfl rfl ?_
    refine Own.iloadN hx p1 (hb hby d5_16) rfl rfl ?_
    refine Own.callP hx hZ hown (O2.exa (i := 0) rfl) (hw _ (List.mem_of_getElem? (i := 33) rfl)) (hw _ (List.mem_of_getElem? (i := 34) rfl)) (hw _ (List.mem_of_getElem? (i := 3) rfl)) (hw _ (List.mem_of_getElem? (i := 35) rfl)) (hw _ (List.mem_of_getElem? (i := 4) rfl)) (hw _ (List.mem_of_getElem? (i := 36) rfl)) (by decide) pd2 (argsL := [(.int p1)]) (rest := []) rfl (W := 0) (Nat.le_of_eq rfl) (rm := ({ frames := 1, cells := 0, slots := 0, locals := 17 } : Room)) (by decide) (by decide) (by decide) (by decide) (k' := 0) (n' := 0) rfl rfl (by rw [hml]; rfl) [(.int p1), (.ref o0)] rfl (hb hby d5_17) (pc' := 20) rfl (rm6 l Z a0 hw o0 p1 h1 n0 pl sz oa ob (ss.set pl q2) es hsz hpl hlt (own_two hsz ‹_›) (inv_upd hI hlt) fr O2) ?_
    rintro _ h5 ⟨es4, rfl, hJ, O6⟩
    show Own.Goes _ _ _ _ _ _ _ _ _ _ _ _ _ _ _ _ _ (mkF m 20 #[.val (.ref o0), .val (.int p1), .val (.long q2), .second] [])
    exact Own.retV hx hret hlk (hb hby d5_20) (by decide) (by decide) ⟨es4, rfl, hJ, O6⟩

theorem own_szn {sz : Nat} (h1 : 1 ≤ sz) (hs : sz < 100) : ¬ sz.toInt32 = (0 : Int32) := fun q => by
  have := congrArg Int32.toInt q
  rw [own_tl (nn := sz) (by omega), show (0 : Int32).toInt = 0 from by decide] at this
  omega
theorem d3_0 : decode prog_27_method_7_code 0 = .ok (.aload_n 0, 1) := by decide +kernel
theorem d3_1 : decode prog_27_method_7_code 1 = .ok (.getfield 9, 3) := by decide +kernel
theorem d3_4 : decode prog_27_method_7_code 4 = .ok (.ifCond .ne 9, 3) := by decide +kernel
theorem d3_13 : decode prog_27_method_7_code 13 = .ok (.aload_n 0, 1) := by decide +kernel
theorem d3_14 : decode prog_27_method_7_code 14 = .ok (.getfield 15, 3) := by decide +kernel
theorem d3_17 : decode prog_27_method_7_code 17 = .ok (.aload_n 0, 1) := by decide +kernel
theorem d3_18 : decode prog_27_method_7_code 18 = .ok (.getfield 19, 3) := by decide +kernel
theorem d3_21 : decode prog_27_method_7_code 21 = .ok (.iconst 1, 1) := by decide +kernel
theorem d3_22 : decode prog_27_method_7_code 22 = .ok (.iaload, 1) := by decide +kernel
theorem d3_23 : decode prog_27_method_7_code 23 = .ok (.laload, 1) := by decide +kernel
theorem d3_24 : decode prog_27_method_7_code 24 = .ok (.lreturn, 1) := by decide +kernel
theorem pn6 : plainFor (⟨"com/example/twigline/twigline/matcher/StreamHeads", "earliestStart", "()J"⟩ : MethodName) = true := by first | exact plainFor_of_name (by simp [plainName, overriddenIn]; done) | decide +kernel
theorem ef3 (m : MethodId) (x0 : Addr) : entryFrame m #[(.ref x0)] 1 = mkF m 0 #[.val (.ref x0)] [] := by first | (simp [entryFrame, mkF, argsToLocals, Value.category]; done) | rfl
set_option maxRecDepth 65536 in
set_option maxHeartbeats 40000000 in
theorem rm3 (l : Launch) (Z : State) (a0 : Array Value) (hw : ∀ d ∈ tables_1, d.before a0 Z = true) (o0 : Addr) (h0 : Heap) (n0 : Nat) (sz : Nat) (oa ob : Addr) (ss : List Int64) (es : List Nat) (hsz : sz < 100) (hs1 : 1 ≤ sz) (hI : InvT ss es sz) (fr : List (Addr × (Cell → Prop))) (O0 : Own.Owns n0 h0 ((o0, Own.ObjC Z "com/example/twigline/twigline/matcher/StreamHeads" [(("com/example/twigline/twigline/matcher/StreamHeads", "size", "I"), (.int sz.toInt32)), (("com/example/twigline/twigline/matcher/StreamHeads", "starts", "[J"), (.ref oa)), (("com/example/twigline/twigline/matcher/StreamHeads", "earliest", "[I"), (.ref ob))]) :: (oa, Own.ArrC Z .long (ss.map Value.long)) :: (ob, Own.ArrC Z .int (es.map gI)) :: fr))  : Own.Does l (⟨"com/example/twigline/twigline/matcher/StreamHeads", "earliestStart", "()J"⟩ : MethodName) prog_27_method_7_code 1 (some .long) [] ({ frames := 0, cells := 0, slots := 0, locals := 0 } : Room) Z #[(.ref o0)] h0 n0 (fun v h => v = some (.long (ss.getD (es.getD 1 0) 0)) ∧ h = h0) := by
  refine Own.doesOf pn6 ?_
  intro p e s m below meth c hx hby hml hret hlk hown hnm hZ
  refine Own.Goes.cast (ef3 m o0) ?_
  refine Own.aloadN hx (.ref o0) (hb hby d3_0) rfl rfl rfl ?_
  refine Own.getfield hx hZ hown O0 0 0 rfl rfl (hw _ (List.mem_of_getElem? (i := 11) rfl)) (hb hby d3_1) rfl ?_
  have hc1 : ¬ (sz.toInt32 = (0 : Int32)) := own_szn hs1 hsz
  refine Own.ifFn hx (Own.z_ne sz.toInt32) (hb hby d3_4) (pcN := 7) rfl (by decide) (pcT := 13) rfl (fun _ => ?_) (fun q => absurd q hc1)
  refine Own.aloadN hx (.ref o0) (hb hby d3_13) rfl rfl rfl ?_
  refine Own.getfield hx hZ hown O0 0 1 rfl rfl (hw _ (List.mem_of_getElem? (i := 13) rfl)) (hb hby d3_14) rfl ?_
  refine Own.aloadN hx (.ref o0) (hb hby d3_17) rfl rfl rfl ?_
  refine Own.getfield hx hZ hown O0 0 2 rfl rfl (hw _ (List.mem_of_getElem? (i := 16) rfl)) (hb hby d3_18) rfl ?_
  refine Own.iconst hx (1 : Int32) (hb hby d3_21) rfl (by decide) ?_
  refine Own.iaload hx hZ O0 2 1 rfl (by decide) (v := (.int (es.getD 1 0).toInt32)) (own_es_at (by have := hI.2.1; omega)) (hb hby d3_22) rfl ?_
  refine Own.laload hx hZ O0 1 (es.getD 1 0) rfl (own_tl (by have := (inv_root hI hs1).1; omega)) (v := (.long (ss.getD (es.getD 1 0) 0))) (own_ss_at (by have := (inv_root hI hs1).1; have := hI.1; omega)) (hb hby d3_23) rfl ?_
  exact Own.retL hx hret hlk (hb hby d3_24) (by decide) (by decide) ⟨rfl, rfl⟩

theorem d3_7 : decode prog_27_method_7_code 7 = .ok (.ldc2_w 23, 3) := by decide +kernel
theorem d3_10 : decode prog_27_method_7_code 10 = .ok (.goto 14, 3) := by decide +kernel
theorem ef3_z (m : MethodId) (x0 : Addr) : entryFrame m #[(.ref x0)] 1 = mkF m 0 #[.val (.ref x0)] [] := by first | (simp [entryFrame, mkF, argsToLocals, Value.category]; done) | rfl
set_option maxRecDepth 65536 in
set_option maxHeartbeats 40000000 in
theorem rm3_z (l : Launch) (Z : State) (a0 : Array Value) (hw : ∀ d ∈ tables_1, d.before a0 Z = true) (o0 : Addr) (h0 : Heap) (n0 : Nat) (oa ob : Addr) (fr : List (Addr × (Cell → Prop))) (O0 : Own.Owns n0 h0 ((o0, Own.ObjC Z "com/example/twigline/twigline/matcher/StreamHeads" [(("com/example/twigline/twigline/matcher/StreamHeads", "size", "I"), (.int (0 : Int32))), (("com/example/twigline/twigline/matcher/StreamHeads", "starts", "[J"), (.ref oa)), (("com/example/twigline/twigline/matcher/StreamHeads", "earliest", "[I"), (.ref ob))]) :: fr))  : Own.Does l (⟨"com/example/twigline/twigline/matcher/StreamHeads", "earliestStart", "()J"⟩ : MethodName) prog_27_method_7_code 1 (some .long) [] ({ frames := 0, cells := 0, slots := 0, locals := 0 } : Room) Z #[(.ref o0)] h0 n0 (fun v h => v = some (.long (9223372036854775807 : Int64)) ∧ h = h0) := by
  refine Own.doesOf pn6 ?_
  intro p e s m below meth c hx hby hml hret hlk hown hnm hZ
  refine Own.Goes.cast (ef3_z m o0) ?_
  refine Own.aloadN hx (.ref o0) (hb hby d3_0) rfl rfl rfl ?_
  refine Own.getfield hx hZ hown O0 0 0 rfl rfl (hw _ (List.mem_of_getElem? (i := 11) rfl)) (hb hby d3_1) rfl ?_
  have hc1 : (0 : Int32) = (0 : Int32) := by decide
  refine Own.ifFn hx (Own.z_ne (0 : Int32)) (hb hby d3_4) (pcN := 7) rfl (by decide) (pcT := 13) rfl (fun q => absurd hc1 q) (fun _ => ?_)
  refine Own.ldc2 hx hZ hown (9223372036854775807 : Int64) (hb hby d3_7) rfl (hw _ (List.mem_of_getElem? (i := 23) rfl)) ?_
  refine Own.goto hx (hb hby d3_10) (by decide) (pc' := 24) rfl ?_
  exact Own.retL hx hret hlk (hb hby d3_24) (by decide) (by decide) ⟨rfl, rfl⟩

theorem pd3 : parseMethodDescriptor "()J" = some ⟨[], some .long⟩ := by decide +kernel
theorem pd4 : parseMethodDescriptor "(IJ)V" = some ⟨[.int, .long], none⟩ := by decide +kernel
theorem pd5 : parseMethodDescriptor "([J)J" = some ⟨[(.array .long)], some .long⟩ := by decide +kernel
theorem pn7 : plainFor (⟨"com/example/twigline/twigline/matcher/StreamHeadsEarliestStartPinLaw", "law", "(IJJJJI)Z"⟩ : MethodName) = true := by first | exact plainFor_of_name (by simp [plainName, overriddenIn]; done) | decide +kernel
theorem ef0 (m : MethodId) (x0 : Int32) (x1 : Int64) (x2 : Int64) (x3 : Int64) (x4 : Int64) (x5 : Int32) : entryFrame m #[(.int x0), (.long x1), (.long x2), (.long x3), (.long x4), (.int x5)] maxLocals = mkF m 0 #[.val (.int x0), .val (.long x1), .second, .val (.long x2), .second, .val (.long x3), .second, .val (.long x4), .second, .val (.int x5), .unset, .unset, .unset, .unset, .unset, .unset, .unset] [] := by first | (simp [entryFrame, mkF, argsToLocals, Value.category, maxLocals]; done) | rfl
set_option maxRecDepth 65536 in
set_option maxHeartbeats 40000000 in
theorem rm0 (l : Launch) (Z : State) (a0 : Array Value) (hw : ∀ d ∈ tables_1, d.before a0 Z = true) (p0 : Int32) (q1 : Int64) (q2 : Int64) (q3 : Int64) (q4 : Int64) (p5 : Int32) (h0 : Heap) (n0 : Nat)  (O0 : Own.Owns n0 h0 ([]))  : Own.Does l x code maxLocals ret tables_1 room_1 Z #[(.int p0), (.long q1), (.long q2), (.long q3), (.long q4), (.int p5)] h0 n0 (fun v _ => v = some (.int 1)) := by
  refine Own.doesOf pn7 ?_
  intro p e s m below meth c hx hby hml hret hlk hown hnm hZ
  replace hml : c.maxLocals = 17 := hml
  replace hown : s.vm.findClass "com/example/twigline/twigline/matcher/StreamHeadsEarliestStartPinLaw" = some m.cls := hown
  replace hret : meth.sig.returnType = (some .boolean) := hret
  refine Own.Goes.cast (ef0 m p0 q1 q2 q3 q4 p5) ?_
  refine Own.iloadN hx p0 (hb hby at_0) rfl rfl ?_
  refine Own.bipush hx (7 : Int32) (hb hby at_1) rfl (by decide) ?_
  refine Own.iand hx (hb hby at_3) rfl ?_
  obtain ⟨nn, h_nn⟩ : ∃ z : Int32, z = (p0 &&& (7 : Int32)) := ⟨_, rfl⟩
  refine Own.istore hx nn h_nn #[.val (.int p0), .val (.long q1), .second, .val (.long q2), .second, .val (.long q3), .second, .val (.long q4), .second, .val (.int p5), .val (.int nn), .unset, .unset, .unset, .unset, .unset, .unset] (hb hby at_4) rfl rfl ?_
  rcases own_n8 h_nn with q | q | q | q | q | q | q | q
  · subst q
    refine Own.bipush hx (8 : Int32) (hb hby at_6) rfl (by decide) ?_
    refine Own.newarr hx hZ O0 (aty := .long) (hw _ (List.mem_of_getElem? (i := 0) rfl)) 8 (by decide) [(.long (0 : Int64)), (.long (0 : Int64)), (.long (0 : Int64)), (.long (0 : Int64)), (.long (0 : Int64)), (.long (0 : Int64)), (.long (0 : Int64)), (.long (0 : Int64))] rfl rfl (cap := 8) (by decide) (by decide) (k' := 1) (n' := 8) rfl rfl (by decide) (by decide) (hb hby at_8) (pc' := 10) rfl ?_
    intro a1 h2 O3
    refine Own.astore hx #[.val (.int p0), .val (.long q1), .second, .val (.long q2), .second, .val (.long q3), .second, .val (.long q4), .second, .val (.int p5), .val (.int (0 : Int32)), .val (.ref a1), .unset, .unset, .unset, .unset, .unset] (hb hby at_10) rfl rfl rfl ?_
    refine Own.aload hx (.ref a1) (hb hby at_12) rfl rfl rfl ?_
    refine Own.iconst hx (0 : Int32) (hb hby at_14) rfl (by decide) ?_
    refine Own.ldc2 hx hZ hown (9223372036854775807 : Int64) (hb hby at_15) rfl (hw _ (List.mem_of_getElem? (i := 1) rfl)) ?_
    refine Own.lastore hx hZ O3 0 0 rfl (by decide) (by exact (show 0 < 8 by decide)) ((a1, Own.ArrC Z .long [(.long (9223372036854775807 : Int64)), (.long (0 : Int64)), (.long (0 : Int64)), (.long (0 : Int64)), (.long (0 : Int64)), (.long (0 : Int64)), (.long (0 : Int64)), (.long (0 : Int64))]) :: []) rfl (hb hby at_18) rfl ?_
    intro h4 O5
    refine Own.aload hx (.ref a1) (hb hby at_19) rfl rfl rfl ?_
    refine Own.iconst hx (1 : Int32) (hb hby at_21) rfl (by decide) ?_
    refine Own.ldc2 hx hZ hown (9223372036854775807 : Int64) (hb hby at_22) rfl (hw _ (List.mem_of_getElem? (i := 1) rfl)) ?_
    refine Own.lastore hx hZ O5 0 1 rfl (by decide) (by exact (show 1 < 8 by decide)) ((a1, Own.ArrC Z .long [(.long (9223372036854775807 : Int64)), (.long (9223372036854775807 : Int64)), (.long (0 : Int64)), (.long (0 : Int64)), (.long (0 : Int64)), (.long (0 : Int64)), (.long (0 : Int64)), (.long (0 : Int64))]) :: []) rfl (hb hby at_25) rfl ?_
    intro h6 O7
    refine Own.aload hx (.ref a1) (hb hby at_26) rfl rfl rfl ?_
    refine Own.iconst hx (2 : Int32) (hb hby at_28) rfl (by decide) ?_
    refine Own.ldc2 hx hZ hown (9223372036854775807 : Int64) (hb hby at_29) rfl (hw _ (List.mem_of_getElem? (i := 1) rfl)) ?_
    refine Own.lastore hx hZ O7 0 2 rfl (by decide) (by exact (show 2 < 8 by decide)) ((a1, Own.ArrC Z .long [(.long (9223372036854775807 : Int64)), (.long (9223372036854775807 : Int64)), (.long (9223372036854775807 : Int64)), (.long (0 : Int64)), (.long (0 : Int64)), (.long (0 : Int64)), (.long (0 : Int64)), (.long (0 : Int64))]) :: []) rfl (hb hby at_32) rfl ?_
    intro h8 O9
    refine Own.aload hx (.ref a1) (hb hby at_33) rfl rfl rfl ?_
    refine Own.iconst hx (3 : Int32) (hb hby at_35) rfl (by decide) ?_
    refine Own.ldc2 hx hZ hown (9223372036854775807 : Int64) (hb hby at_36) rfl (hw _ (List.mem_of_getElem? (i := 1) rfl)) ?_
    refine Own.lastore hx hZ O9 0 3 rfl (by decide) (by exact (show 3 < 8 by decide)) ((a1, Own.ArrC Z .long [(.long (9223372036854775807 : Int64)), (.long (9223372036854775807 : Int64)), (.long (9223372036854775807 : Int64)), (.long (9223372036854775807 : Int64)), (.long (0 : Int64)), (.long (0 : Int64)), (.long (0 : Int64)), (.long (0 : Int64))]) :: []) rfl (hb hby at_39) rfl ?_
    intro h10 O11
    refine Own.aload hx (.ref a1) (hb hby at_40) rfl rfl rfl ?_
    refine Own.iconst hx (4 : Int32) (hb hby at_42) rfl (by decide) ?_
    refine Own.ldc2 hx hZ hown (9223372036854775807 : Int64) (hb hby at_43) rfl (hw _ (List.mem_of_getElem? (i := 1) rfl)) ?_
    refine Own.lastore hx hZ O11 0 4 rfl (by decide) (by exact (show 4 < 8 by decide)) ((a1, Own.ArrC Z .long [(.long (9223372036854775807 : Int64)), (.long (9223372036854775807 : Int64)), (.long (9223372036854775807 : Int64)), (.long (9223372036854775807 : Int64)), (.long (9223372036854775807 : Int64)), (.long (0 : Int64)), (.long (0 : Int64)), (.long (0 : Int64))]) :: []) rfl (hb hby at_46) rfl ?_
    intro h12 O13
    refine Own.aload hx (.ref a1) (hb hby at_47) rfl rfl rfl ?_
    refine Own.iconst hx (5 : Int32) (hb hby at_49) rfl (by decide) ?_
    refine Own.ldc2 hx hZ hown (9223372036854775807 : Int64) (hb hby at_50) rfl (hw _ (List.mem_of_getElem? (i := 1) rfl)) ?_
    refine Own.lastore hx hZ O13 0 5 rfl (by decide) (by exact (show 5 < 8 by decide)) ((a1, Own.ArrC Z .long [(.long (9223372036854775807 : Int64)), (.long (9223372036854775807 : Int64)), (.long (9223372036854775807 : Int64)), (.long (9223372036854775807 : Int64)), (.long (9223372036854775807 : Int64)), (.long (9223372036854775807 : Int64)), (.long (0 : Int64)), (.long (0 : Int64))]) :: []) rfl (hb hby at_53) rfl ?_
    intro h14 O15
    refine Own.aload hx (.ref a1) (hb hby at_54) rfl rfl rfl ?_
    refine Own.bipush hx (6 : Int32) (hb hby at_56) rfl (by decide) ?_
    refine Own.ldc2 hx hZ hown (9223372036854775807 : Int64) (hb hby at_58) rfl (hw _ (List.mem_of_getElem? (i := 1) rfl)) ?_
    refine Own.lastore hx hZ O15 0 6 rfl (by decide) (by exact (show 6 < 8 by decide)) ((a1, Own.ArrC Z .long [(.long (9223372036854775807 : Int64)), (.long (9223372036854775807 : Int64)), (.long (9223372036854775807 : Int64)), (.long (9223372036854775807 : Int64)), (.long (9223372036854775807 : Int64)), (.long (9223372036854775807 : Int64)), (.long (9223372036854775807 : Int64)), (.long (0 : Int64))]) :: []) rfl (hb hby at_61) rfl ?_
    intro h16 O17
    refine Own.aload hx (.ref a1) (hb hby at_62) rfl rfl rfl ?_
    refine Own.bipush hx (7 : Int32) (hb hby at_64) rfl (by decide) ?_
    refine Own.ldc2 hx hZ hown (9223372036854775807 : Int64) (hb hby at_66) rfl (hw _ (List.mem_of_getElem? (i := 1) rfl)) ?_
    refine Own.lastore hx hZ O17 0 7 rfl (by decide) (by exact (show 7 < 8 by decide)) ((a1, Own.ArrC Z .long [(.long (9223372036854775807 : Int64)), (.long (9223372036854775807 : Int64)), (.long (9223372036854775807 : Int64)), (.long (9223372036854775807 : Int64)), (.long (9223372036854775807 : Int64)), (.long (9223372036854775807 : Int64)), (.long (9223372036854775807 : Int64)), (.long (9223372036854775807 : Int64))]) :: []) rfl (hb hby at_69) rfl ?_
    intro h18 O19
    refine Own.newobj hx hZ hown O19 (hw _ (List.mem_of_getElem? (i := 2) rfl)) (hw _ (List.mem_of_getElem? (i := 3) rfl)) (hw _ (List.mem_of_getElem? (i := 4) rfl)) [(("com/example/twigline/twigline/matcher/StreamHeads", "size", "I"), (.int (0 : Int32))), (("com/example/twigline/twigline/matcher/StreamHeads", "starts", "[J"), .null), (("com/example/twigline/twigline/matcher/StreamHeads", "earliest", "[I"), .null)] (by intro f hf; simp only [List.mem_cons, List.not_mem_nil, or_false] at hf; rcases hf with rfl | rfl | rfl; exact ⟨Or.inr (hw _ (List.mem_of_getElem? (i := 12) rfl)), .int, by decide, rfl⟩; exact ⟨Or.inr (hw _ (List.mem_of_getElem? (i := 14) rfl)), (.array .long), by decide, rfl⟩; exact ⟨Or.inr (hw _ (List.mem_of_getElem? (i := 17) rfl)), (.array .int), by decide, rfl⟩) (by decide) (k' := 2) (n' := 11) rfl rfl (by decide) (by decide) (hb hby at_70) (pc' := 73) rfl ?_
    intro a20 h21 O22
    refine Own.dup hx (hb hby at_73) rfl rfl ?_
    refine Own.iload hx (0 : Int32) (hb hby at_74) rfl rfl ?_
    refine Own.callI hx hZ hown rfl (hw _ (List.mem_of_getElem? (i := 5) rfl)) (hw _ (List.mem_of_getElem? (i := 6) rfl)) (hw _ (List.mem_of_getElem? (i := 4) rfl)) (hw _ (List.mem_of_getElem? (i := 7) rfl)) (by decide) pd2 (argsL := [(.int (0 : Int32))]) (rest := [(.ref a20)]) rfl (W := 1) (Nat.le_of_eq rfl) (rm := ({ frames := 1, cells := 2, slots := 0, locals := 16 } : Room)) (by decide) (by decide) (by decide) (by decide) (k' := 4) (n' := 11) rfl rfl (by rw [hml]; rfl) [(.int (0 : Int32)), (.ref a20), (.ref a20)] rfl (hb hby at_76) (pc' := 79) rfl (rm1_0 l Z a0 hw a20 h21 n0 ((a1, Own.ArrC Z .long [(.long (9223372036854775807 : Int64)), (.long (9223372036854775807 : Int64)), (.long (9223372036854775807 : Int64)), (.long (9223372036854775807 : Int64)), (.long (9223372036854775807 : Int64)), (.long (9223372036854775807 : Int64)), (.long (9223372036854775807 : Int64)), (.long (9223372036854775807 : Int64))]) :: []) O22) ?_
    rintro _ h25 ⟨ra23, rb24, rfl, O26⟩
    show Own.Goes _ _ _ _ _ _ _ _ _ _ _ _ _ _ _ _ _ (mkF m 79 #[.val (.int p0), .val (.long q1), .second, .val (.long q2), .second, .val (.long q3), .second, .val (.long q4), .second, .val (.int p5), .val (.int (0 : Int32)), .val (.ref a1), .unset, .unset, .unset, .unset, .unset] [(.ref a20)])
    refine Own.astore hx #[.val (.int p0), .val (.long q1), .second, .val (.long q2), .second, .val (.long q3), .second, .val (.long q4), .second, .val (.int p5), .val (.int (0 : Int32)), .val (.ref a1), .val (.ref a20), .unset, .unset, .unset, .unset] (hb hby at_79) rfl rfl rfl ?_
    refine Own.iload hx (0 : Int32) (hb hby at_81) rfl rfl ?_
    have hc27 : (0 : Int32) = (0 : Int32) := by decide
    refine Own.ifFn hx (Own.z_ne (0 : Int32)) (hb hby at_83) (pcN := 86) rfl (by decide) (pcT := 104) rfl (fun q => absurd hc27 q) (fun _ => ?_)
    refine Own.aload hx (.ref a20) (hb hby at_86) rfl rfl rfl ?_
    refine Own.callV hx hZ hown (O26.exa (i := 0) rfl) (hw _ (List.mem_of_getElem? (i := 18) rfl)) (hw _ (List.mem_of_getElem? (i := 19) rfl)) (hw _ (List.mem_of_getElem? (i := 21) rfl)) (hw _ (List.mem_of_getElem? (i := 20) rfl)) (hw _ (List.mem_of_getElem? (i := 4) rfl)) (hw _ (List.mem_of_getElem? (i := 22) rfl)) (by decide) pd3 (argsL := []) (rest := []) rfl (W := 0) (Nat.le_of_eq rfl) (rm := ({ frames := 0, cells := 0, slots := 0, locals := 0 } : Room)) (by decide) (by decide) (by decide) (by decide) (k' := 4) (n' := 11) rfl rfl (by rw [hml]; rfl) [(.ref a20)] rfl (hb hby at_88) (pc' := 91) rfl (rm3_z l Z a0 hw a20 h25 n0 ra23 rb24 ((ra23, Own.ArrC Z .long []) :: (rb24, Own.ArrC Z .int []) :: (a1, Own.ArrC Z .long [(.long (9223372036854775807 : Int64)), (.long (9223372036854775807 : Int64)), (.long (9223372036854775807 : Int64)), (.long (9223372036854775807 : Int64)), (.long (9223372036854775807 : Int64)), (.long (9223372036854775807 : Int64)), (.long (9223372036854775807 : Int64)), (.long (9223372036854775807 : Int64))]) :: []) O26) ?_
    rintro _ h' ⟨rfl, eh⟩
    rw [eh]; clear eh h'
    show Own.Goes _ _ _ _ _ _ _ _ _ _ _ _ _ _ _ _ _ (mkF m 91 #[.val (.int p0), .val (.long q1), .second, .val (.long q2), .second, .val (.long q3), .second, .val (.long q4), .second, .val (.int p5), .val (.int (0 : Int32)), .val (.ref a1), .val (.ref a20), .unset, .unset, .unset, .unset] [(.long (9223372036854775807 : Int64))])
    refine Own.ldc2 hx hZ hown (9223372036854775807 : Int64) (hb hby at_91) rfl (hw _ (List.mem_of_getElem? (i := 1) rfl)) ?_
    refine Own.lcmp hx (hb hby at_94) rfl ?_
    have hc29 : (9223372036854775807 : Int64) = (9223372036854775807 : Int64) := by decide
    refine Own.ifFn hx (Own.w_ne (9223372036854775807 : Int64) (9223372036854775807 : Int64)) (hb hby at_95) (pcN := 98) rfl (by decide) (pcT := 102) rfl (fun q => absurd hc29 q) (fun _ => ?_)
    refine Own.iconst hx (1 : Int32) (hb hby at_98) rfl (by decide) ?_
    refine Own.goto hx (hb hby at_99) (by decide) (pc' := 103) rfl ?_
    exact Own.retS hx hret (by simp) hlk (hb hby at_103) (by decide) (by decide) (Own.bool1 rfl)
  · subst q
    refine Own.bipush hx (8 : Int32) (hb hby at_6) rfl (by decide) ?_
    refine Own.newarr hx hZ O0 (aty := .long) (hw _ (List.mem_of_getElem? (i := 0) rfl)) 8 (by decide) [(.long (0 : Int64)), (.long (0 : Int64)), (.long (0 : Int64)), (.long (0 : Int64)), (.long (0 : Int64)), (.long (0 : Int64)), (.long (0 : Int64)), (.long (0 : Int64))] rfl rfl (cap := 8) (by decide) (by decide) (k' := 1) (n' := 8) rfl rfl (by decide) (by decide) (hb hby at_8) (pc' := 10) rfl ?_
    intro a31 h32 O33
    refine Own.astore hx #[.val (.int p0), .val (.long q1), .second, .val (.long q2), .second, .val (.long q3), .second, .val (.long q4), .second, .val (.int p5), .val (.int (1 : Int32)), .val (.ref a31), .unset, .unset, .unset, .unset, .unset] (hb hby at_10) rfl rfl rfl ?_
    refine Own.aload hx (.ref a31) (hb hby at_12) rfl rfl rfl ?_
    refine Own.iconst hx (0 : Int32) (hb hby at_14) rfl (by decide) ?_
    refine Own.ldc2 hx hZ hown (9223372036854775807 : Int64) (hb hby at_15) rfl (hw _ (List.mem_of_getElem? (i := 1) rfl)) ?_
    refine Own.lastore hx hZ O33 0 0 rfl (by decide) (by exact (show 0 < 8 by decide)) ((a31, Own.ArrC Z .long [(.long (9223372036854775807 : Int64)), (.long (0 : Int64)), (.long (0 : Int64)), (.long (0 : Int64)), (.long (0 : Int64)), (.long (0 : Int64)), (.long (0 : Int64)), (.long (0 : Int64))]) :: []) rfl (hb hby at_18) rfl ?_
    intro h34 O35
    refine Own.aload hx (.ref a31) (hb hby at_19) rfl rfl rfl ?_
    refine Own.iconst hx (1 : Int32) (hb hby at_21) rfl (by decide) ?_
    refine Own.ldc2 hx hZ hown (9223372036854775807 : Int64) (hb hby at_22) rfl (hw _ (List.mem_of_getElem? (i := 1) rfl)) ?_
    refine Own.lastore hx hZ O35 0 1 rfl (by decide) (by exact (show 1 < 8 by decide)) ((a31, Own.ArrC Z .long [(.long (9223372036854775807 : Int64)), (.long (9223372036854775807 : Int64)), (.long (0 : Int64)), (.long (0 : Int64)), (.long (0 : Int64)), (.long (0 : Int64)), (.long (0 : Int64)), (.long (0 : Int64))]) :: []) rfl (hb hby at_25) rfl ?_
    intro h36 O37
    refine Own.aload hx (.ref a31) (hb hby at_26) rfl rfl rfl ?_
    refine Own.iconst hx (2 : Int32) (hb hby at_28) rfl (by decide) ?_
    refine Own.ldc2 hx hZ hown (9223372036854775807 : Int64) (hb hby at_29) rfl (hw _ (List.mem_of_getElem? (i := 1) rfl)) ?_
    refine Own.lastore hx hZ O37 0 2 rfl (by decide) (by exact (show 2 < 8 by decide)) ((a31, Own.ArrC Z .long [(.long (9223372036854775807 : Int64)), (.long (9223372036854775807 : Int64)), (.long (9223372036854775807 : Int64)), (.long (0 : Int64)), (.long (0 : Int64)), (.long (0 : Int64)), (.long (0 : Int64)), (.long (0 : Int64))]) :: []) rfl (hb hby at_32) rfl ?_
    intro h38 O39
    refine Own.aload hx (.ref a31) (hb hby at_33) rfl rfl rfl ?_
    refine Own.iconst hx (3 : Int32) (hb hby at_35) rfl (by decide) ?_
    refine Own.ldc2 hx hZ hown (9223372036854775807 : Int64) (hb hby at_36) rfl (hw _ (List.mem_of_getElem? (i := 1) rfl)) ?_
    refine Own.lastore hx hZ O39 0 3 rfl (by decide) (by exact (show 3 < 8 by decide)) ((a31, Own.ArrC Z .long [(.long (9223372036854775807 : Int64)), (.long (9223372036854775807 : Int64)), (.long (9223372036854775807 : Int64)), (.long (9223372036854775807 : Int64)), (.long (0 : Int64)), (.long (0 : Int64)), (.long (0 : Int64)), (.long (0 : Int64))]) :: []) rfl (hb hby at_39) rfl ?_
    intro h40 O41
    refine Own.aload hx (.ref a31) (hb hby at_40) rfl rfl rfl ?_
    refine Own.iconst hx (4 : Int32) (hb hby at_42) rfl (by decide) ?_
    refine Own.ldc2 hx hZ hown (9223372036854775807 : Int64) (hb hby at_43) rfl (hw _ (List.mem_of_getElem? (i := 1) rfl)) ?_
    refine Own.lastore hx hZ O41 0 4 rfl (by decide) (by exact (show 4 < 8 by decide)) ((a31, Own.ArrC Z .long [(.long (9223372036854775807 : Int64)), (.long (9223372036854775807 : Int64)), (.long (9223372036854775807 : Int64)), (.long (9223372036854775807 : Int64)), (.long (9223372036854775807 : Int64)), (.long (0 : Int64)), (.long (0 : Int64)), (.long (0 : Int64))]) :: []) rfl (hb hby at_46) rfl ?_
    intro h42 O43
    refine Own.aload hx (.ref a31) (hb hby at_47) rfl rfl rfl ?_
    refine Own.iconst hx (5 : Int32) (hb hby at_49) rfl (by decide) ?_
    refine Own.ldc2 hx hZ hown (9223372036854775807 : Int64) (hb hby at_50) rfl (hw _ (List.mem_of_getElem? (i := 1) rfl)) ?_
    refine Own.lastore hx hZ O43 0 5 rfl (by decide) (by exact (show 5 < 8 by decide)) ((a31, Own.ArrC Z .long [(.long (9223372036854775807 : Int64)), (.long (9223372036854775807 : Int64)), (.long (9223372036854775807 : Int64)), (.long (9223372036854775807 : Int64)), (.long (9223372036854775807 : Int64)), (.long (9223372036854775807 : Int64)), (.long (0 : Int64)), (.long (0 : Int64))]) :: []) rfl (hb hby at_53) rfl ?_
    intro h44 O45
    refine Own.aload hx (.ref a31) (hb hby at_54) rfl rfl rfl ?_
    refine Own.bipush hx (6 : Int32) (hb hby at_56) rfl (by decide) ?_
    refine Own.ldc2 hx hZ hown (9223372036854775807 : Int64) (hb hby at_58) rfl (hw _ (List.mem_of_getElem? (i := 1) rfl)) ?_
    refine Own.lastore hx hZ O45 0 6 rfl (by decide) (by exact (show 6 < 8 by decide)) ((a31, Own.ArrC Z .long [(.long (9223372036854775807 : Int64)), (.long (9223372036854775807 : Int64)), (.long (9223372036854775807 : Int64)), (.long (9223372036854775807 : Int64)), (.long (9223372036854775807 : Int64)), (.long (9223372036854775807 : Int64)), (.long (9223372036854775807 : Int64)), (.long (0 : Int64))]) :: []) rfl (hb hby at_61) rfl ?_
    intro h46 O47
    refine Own.aload hx (.ref a31) (hb hby at_62) rfl rfl rfl ?_
    refine Own.bipush hx (7 : Int32) (hb hby at_64) rfl (by decide) ?_
    refine Own.ldc2 hx hZ hown (9223372036854775807 : Int64) (hb hby at_66) rfl (hw _ (List.mem_of_getElem? (i := 1) rfl)) ?_
    refine Own.lastore hx hZ O47 0 7 rfl (by decide) (by exact (show 7 < 8 by decide)) ((a31, Own.ArrC Z .long [(.long (9223372036854775807 : Int64)), (.long (9223372036854775807 : Int64)), (.long (9223372036854775807 : Int64)), (.long (9223372036854775807 : Int64)), (.long (9223372036854775807 : Int64)), (.long (9223372036854775807 : Int64)), (.long (9223372036854775807 : Int64)), (.long (9223372036854775807 : Int64))]) :: []) rfl (hb hby at_69) rfl ?_
    intro h48 O49
    refine Own.newobj hx hZ hown O49 (hw _ (List.mem_of_getElem? (i := 2) rfl)) (hw _ (List.mem_of_getElem? (i := 3) rfl)) (hw _ (List.mem_of_getElem? (i := 4) rfl)) [(("com/example/twigline/twigline/matcher/StreamHeads", "size", "I"), (.int (0 : Int32))), (("com/example/twigline/twigline/matcher/StreamHeads", "starts", "[J"), .null), (("com/example/twigline/twigline/matcher/StreamHeads", "earliest", "[I"), .null)] (by intro f hf; simp only [List.mem_cons, List.not_mem_nil, or_false] at hf; rcases hf with rfl | rfl | rfl; exact ⟨Or.inr (hw _ (List.mem_of_getElem? (i := 12) rfl)), .int, by decide, rfl⟩; exact ⟨Or.inr (hw _ (List.mem_of_getElem? (i := 14) rfl)), (.array .long), by decide, rfl⟩; exact ⟨Or.inr (hw _ (List.mem_of_getElem? (i := 17) rfl)), (.array .int), by decide, rfl⟩) (by decide) (k' := 2) (n' := 11) rfl rfl (by decide) (by decide) (hb hby at_70) (pc' := 73) rfl ?_
    intro a50 h51 O52
    refine Own.dup hx (hb hby at_73) rfl rfl ?_
    refine Own.iload hx (1 : Int32) (hb hby at_74) rfl rfl ?_
    refine Own.callI hx hZ hown rfl (hw _ (List.mem_of_getElem? (i := 5) rfl)) (hw _ (List.mem_of_getElem? (i := 6) rfl)) (hw _ (List.mem_of_getElem? (i := 4) rfl)) (hw _ (List.mem_of_getElem? (i := 7) rfl)) (by decide) pd2 (argsL := [(.int (1 : Int32))]) (rest := [(.ref a50)]) rfl (W := 1) (Nat.le_of_eq rfl) (rm := ({ frames := 1, cells := 2, slots := 3, locals := 16 } : Room)) (by decide) (by decide) (by decide) (by decide) (k' := 4) (n' := 14) rfl rfl (by rw [hml]; rfl) [(.int (1 : Int32)), (.ref a50), (.ref a50)] rfl (hb hby at_76) (pc' := 79) rfl (rm1_1 l Z a0 hw a50 h51 n0 ((a31, Own.ArrC Z .long [(.long (9223372036854775807 : Int64)), (.long (9223372036854775807 : Int64)), (.long (9223372036854775807 : Int64)), (.long (9223372036854775807 : Int64)), (.long (9223372036854775807 : Int64)), (.long (9223372036854775807 : Int64)), (.long (9223372036854775807 : Int64)), (.long (9223372036854775807 : Int64))]) :: []) O52) ?_
    rintro _ h55 ⟨ra53, rb54, rfl, O56⟩
    show Own.Goes _ _ _ _ _ _ _ _ _ _ _ _ _ _ _ _ _ (mkF m 79 #[.val (.int p0), .val (.long q1), .second, .val (.long q2), .second, .val (.long q3), .second, .val (.long q4), .second, .val (.int p5), .val (.int (1 : Int32)), .val (.ref a31), .unset, .unset, .unset, .unset, .unset] [(.ref a50)])
    have O57 : Own.Owns n0 h55 ((a50, Own.ObjC Z "com/example/twigline/twigline/matcher/StreamHeads" [(("com/example/twigline/twigline/matcher/StreamHeads", "size", "I"), (.int (1 : Nat).toInt32)), (("com/example/twigline/twigline/matcher/StreamHeads", "starts", "[J"), (.ref ra53)), (("com/example/twigline/twigline/matcher/StreamHeads", "earliest", "[I"), (.ref rb54))]) :: (ra53, Own.ArrC Z .long ([(9223372036854775807 : Int64)].map Value.long)) :: (rb54, Own.ArrC Z .int ([0, 0].map gI)) :: (a31, Own.ArrC Z .long ([(9223372036854775807 : Int64), (9223372036854775807 : Int64), (9223372036854775807 : Int64), (9223372036854775807 : Int64), (9223372036854775807 : Int64), (9223372036854775807 : Int64), (9223372036854775807 : Int64), (9223372036854775807 : Int64)].map Value.long)) :: []) := O56
    have hI0 : InvT ([(9223372036854775807 : Int64)] : List Int64) [0, 0] 1 := inv_of (by decide +kernel)
    have hL0 : Like ([(9223372036854775807 : Int64)] : List Int64) [(9223372036854775807 : Int64), (9223372036854775807 : Int64), (9223372036854775807 : Int64), (9223372036854775807 : Int64), (9223372036854775807 : Int64), (9223372036854775807 : Int64), (9223372036854775807 : Int64), (9223372036854775807 : Int64)] 1 := ⟨rfl, rfl, by decide, by decide +kernel⟩
    refine Own.astore hx #[.val (.int p0), .val (.long q1), .second, .val (.long q2), .second, .val (.long q3), .second, .val (.long q4), .second, .val (.int p5), .val (.int (1 : Int32)), .val (.ref a31), .val (.ref a50), .unset, .unset, .unset, .unset] (hb hby at_79) rfl rfl rfl ?_
    refine Own.iload hx (1 : Int32) (hb hby at_81) rfl rfl ?_
    have hc58 : ¬ ((1 : Int32) = (0 : Int32)) := by decide
    refine Own.ifFn hx (Own.z_ne (1 : Int32)) (hb hby at_83) (pcN := 86) rfl (by decide) (pcT := 104) rfl (fun _ => ?_) (fun q => absurd q hc58)
    refine Own.iload hx p5 (hb hby at_104) rfl rfl ?_
    refine Own.bipush hx (7 : Int32) (hb hby at_106) rfl (by decide) ?_
    refine Own.iand hx (hb hby at_108) rfl ?_
    refine Own.iload hx (1 : Int32) (hb hby at_109) rfl rfl ?_
    refine Own.irem hx (hb hby at_111) rfl (by decide) ?_
    obtain ⟨px0, h_px0⟩ : ∃ z : Int32, z = ((p5 &&& (7 : Int32)) % (1 : Int32)) := ⟨_, rfl⟩
    refine Own.istore hx px0 h_px0 #[.val (.int p0), .val (.long q1), .second, .val (.long q2), .second, .val (.long q3), .second, .val (.long q4), .second, .val (.int p5), .val (.int (1 : Int32)), .val (.ref a31), .val (.ref a50), .val (.int px0), .unset, .unset, .unset] (hb hby at_112) rfl rfl ?_
    refine Own.iload hx p5 (hb hby at_114) rfl rfl ?_
    refine Own.iconst hx (3 : Int32) (hb hby at_116) rfl (by decide) ?_
    refine Own.iushr hx (hb hby at_117) rfl ?_
    refine Own.bipush hx (7 : Int32) (hb hby at_118) rfl (by decide) ?_
    refine Own.iand hx (hb hby at_120) rfl ?_
    refine Own.iload hx (1 : Int32) (hb hby at_121) rfl rfl ?_
    refine Own.irem hx (hb hby at_123) rfl (by decide) ?_
    obtain ⟨px1, h_px1⟩ : ∃ z : Int32, z = (((p5.toUInt32 >>> ((3 : Int32) &&& 31).toUInt32).toInt32 &&& (7 : Int32)) % (1 : Int32)) := ⟨_, rfl⟩
    refine Own.istore hx px1 h_px1 #[.val (.int p0), .val (.long q1), .second, .val (.long q2), .second, .val (.long q3), .second, .val (.long q4), .second, .val (.int p5), .val (.int (1 : Int32)), .val (.ref a31), .val (.ref a50), .val (.int px0), .val (.int px1), .unset, .unset] (hb hby at_124) rfl rfl ?_
    refine Own.iload hx p5 (hb hby at_126) rfl rfl ?_
    refine Own.bipush hx (6 : Int32) (hb hby at_128) rfl (by decide) ?_
    refine Own.iushr hx (hb hby at_130) rfl ?_
    refine Own.bipush hx (7 : Int32) (hb hby at_131) rfl (by decide) ?_
    refine Own.iand hx (hb hby at_133) rfl ?_
    refine Own.iload hx (1 : Int32) (hb hby at_134) rfl rfl ?_
    refine Own.irem hx (hb hby at_136) rfl (by decide) ?_
    obtain ⟨px2, h_px2⟩ : ∃ z : Int32, z = (((p5.toUInt32 >>> ((6 : Int32) &&& 31).toUInt32).toInt32 &&& (7 : Int32)) % (1 : Int32)) := ⟨_, rfl⟩
    refine Own.istore hx px2 h_px2 #[.val (.int p0), .val (.long q1), .second, .val (.long q2), .second, .val (.long q3), .second, .val (.long q4), .second, .val (.int p5), .val (.int (1 : Int32)), .val (.ref a31), .val (.ref a50), .val (.int px0), .val (.int px1), .val (.int px2), .unset] (hb hby at_137) rfl rfl ?_
    refine Own.iload hx p5 (hb hby at_139) rfl rfl ?_
    refine Own.bipush hx (9 : Int32) (hb hby at_141) rfl (by decide) ?_
    refine Own.iushr hx (hb hby at_143) rfl ?_
    refine Own.bipush hx (7 : Int32) (hb hby at_144) rfl (by decide) ?_
    refine Own.iand hx (hb hby at_146) rfl ?_
    refine Own.iload hx (1 : Int32) (hb hby at_147) rfl rfl ?_
    refine Own.irem hx (hb hby at_149) rfl (by decide) ?_
    obtain ⟨px3, h_px3⟩ : ∃ z : Int32, z = (((p5.toUInt32 >>> ((9 : Int32) &&& 31).toUInt32).toInt32 &&& (7 : Int32)) % (1 : Int32)) := ⟨_, rfl⟩
    refine Own.istore hx px3 h_px3 #[.val (.int p0), .val (.long q1), .second, .val (.long q2), .second, .val (.long q3), .second, .val (.long q4), .second, .val (.int p5), .val (.int (1 : Int32)), .val (.ref a31), .val (.ref a50), .val (.int px0), .val (.int px1), .val (.int px2), .val (.int px3)] (hb hby at_150) rfl rfl ?_
    obtain ⟨pl0, hpl0, hlt0⟩ := own_pl h_px0 (sz := 1) (by decide) (by decide)
    obtain ⟨pl1, hpl1, hlt1⟩ := own_pl h_px1 (sz := 1) (by decide) (by decide)
    obtain ⟨pl2, hpl2, hlt2⟩ := own_pl h_px2 (sz := 1) (by decide) (by decide)
    obtain ⟨pl3, hpl3, hlt3⟩ := own_pl h_px3 (sz := 1) (by decide) (by decide)
    refine Own.aload hx (.ref a50) (hb hby at_152) rfl rfl rfl ?_
    refine Own.iload hx px0 (hb hby at_154) rfl rfl ?_
    refine Own.lloadN hx q1 (hb hby at_156) rfl rfl ?_
    have O61 : Own.Owns n0 h55 ((rb54, Own.ArrC Z .int ([0, 0].map gI)) :: (a50, Own.ObjC Z "com/example/twigline/twigline/matcher/StreamHeads" [(("com/example/twigline/twigline/matcher/StreamHeads", "size", "I"), (.int (1 : Nat).toInt32)), (("com/example/twigline/twigline/matcher/StreamHeads", "starts", "[J"), (.ref ra53)), (("com/example/twigline/twigline/matcher/StreamHeads", "earliest", "[I"), (.ref rb54))]) :: (ra53, Own.ArrC Z .long ([(9223372036854775807 : Int64)].map Value.long)) :: (a31, Own.ArrC Z .long ([(9223372036854775807 : Int64), (9223372036854775807 : Int64), (9223372036854775807 : Int64), (9223372036854775807 : Int64), (9223372036854775807 : Int64), (9223372036854775807 : Int64), (9223372036854775807 : Int64), (9223372036854775807 : Int64)].map Value.long)) :: []) := O57.pick 2 rfl
    have O62 : Own.Owns n0 h55 ((ra53, Own.ArrC Z .long ([(9223372036854775807 : Int64)].map Value.long)) :: (rb54, Own.ArrC Z .int ([0, 0].map gI)) :: (a50, Own.ObjC Z "com/example/twigline/twigline/matcher/StreamHeads" [(("com/example/twigline/twigline/matcher/StreamHeads", "size", "I"), (.int (1 : Nat).toInt32)), (("com/example/twigline/twigline/matcher/StreamHeads", "starts", "[J"), (.ref ra53)), (("com/example/twigline/twigline/matcher/StreamHeads", "earliest", "[I"), (.ref rb54))]) :: (a31, Own.ArrC Z .long ([(9223372036854775807 : Int64), (9223372036854775807 : Int64), (9223372036854775807 : Int64), (9223372036854775807 : Int64), (9223372036854775807 : Int64), (9223372036854775807 : Int64), (9223372036854775807 : Int64), (9223372036854775807 : Int64)].map Value.long)) :: []) := O61.pick 2 rfl
    have O63 : Own.Owns n0 h55 ((a50, Own.ObjC Z "com/example/twigline/twigline/matcher/StreamHeads" [(("com/example/twigline/twigline/matcher/StreamHeads", "size", "I"), (.int (1 : Nat).toInt32)), (("com/example/twigline/twigline/matcher/StreamHeads", "starts", "[J"), (.ref ra53)), (("com/example/twigline/twigline/matcher/StreamHeads", "earliest", "[I"), (.ref rb54))]) :: (ra53, Own.ArrC Z .long ([(9223372036854775807 : Int64)].map Value.long)) :: (rb54, Own.ArrC Z .int ([0, 0].map gI)) :: (a31, Own.ArrC Z .long ([(9223372036854775807 : Int64), (9223372036854775807 : Int64), (9223372036854775807 : Int64), (9223372036854775807 : Int64), (9223372036854775807 : Int64), (9223372036854775807 : Int64), (9223372036854775807 : Int64), (9223372036854775807 : Int64)].map Value.long)) :: []) := O62.pick 2 rfl
    refine Own.callV hx hZ hown (O63.exa (i := 0) rfl) (hw _ (List.mem_of_getElem? (i := 28) rfl)) (hw _ (List.mem_of_getElem? (i := 29) rfl)) (hw _ (List.mem_of_getElem? (i := 31) rfl)) (hw _ (List.mem_of_getElem? (i := 30) rfl)) (hw _ (List.mem_of_getElem? (i := 4) rfl)) (hw _ (List.mem_of_getElem? (i := 32) rfl)) (by decide) pd4 (argsL := [(.int px0), (.long q1)]) (rest := []) rfl (W := 0) (Nat.le_of_eq rfl) (rm := ({ frames := 2, cells := 0, slots := 0, locals := 34 } : Room)) (by decide) (by decide) (by decide) (by decide) (k' := 4) (n' := 14) rfl rfl (by rw [hml]; rfl) [(.long q1), (.int px0), (.ref a50)] rfl (hb hby at_157) (pc' := 160) rfl (rm5 l Z a0 hw a50 px0 q1 h55 n0 pl0 1 ra53 rb54 [(9223372036854775807 : Int64)] [0, 0] (by decide) hpl0 hlt0 hI0 ((a31, Own.ArrC Z .long ([(9223372036854775807 : Int64), (9223372036854775807 : Int64), (9223372036854775807 : Int64), (9223372036854775807 : Int64), (9223372036854775807 : Int64), (9223372036854775807 : Int64), (9223372036854775807 : Int64), (9223372036854775807 : Int64)].map Value.long)) :: []) O63) ?_
    rintro _ h64 ⟨es60, rfl, hI1, O65⟩
    show Own.Goes _ _ _ _ _ _ _ _ _ _ _ _ _ _ _ _ _ (mkF m 160 #[.val (.int p0), .val (.long q1), .second, .val (.long q2), .second, .val (.long q3), .second, .val (.long q4), .second, .val (.int p5), .val (.int (1 : Int32)), .val (.ref a31), .val (.ref a50), .val (.int px0), .val (.int px1), .val (.int px2), .val (.int px3)] [])
    refine Own.aload hx (.ref a31) (hb hby at_160) rfl rfl rfl ?_
    refine Own.iload hx px0 (hb hby at_162) rfl rfl ?_
    refine Own.lloadN hx q1 (hb hby at_164) rfl rfl ?_
    have hL1 := like_set (x := q1) hL0 hlt0
    refine Own.lastore hx hZ O65 3 pl0 rfl hpl0 (by rw [List.length_map, hL0.2.1]; omega) ((a50, Own.ObjC Z "com/example/twigline/twigline/matcher/StreamHeads" [(("com/example/twigline/twigline/matcher/StreamHeads", "size", "I"), (.int (1 : Nat).toInt32)), (("com/example/twigline/twigline/matcher/StreamHeads", "starts", "[J"), (.ref ra53)), (("com/example/twigline/twigline/matcher/StreamHeads", "earliest", "[I"), (.ref rb54))]) :: (ra53, Own.ArrC Z .long (([(9223372036854775807 : Int64)].set pl0 q1).map Value.long)) :: (rb54, Own.ArrC Z .int (es60.map gI)) :: (a31, Own.ArrC Z .long (([(9223372036854775807 : Int64), (9223372036854775807 : Int64), (9223372036854775807 : Int64), (9223372036854775807 : Int64), (9223372036854775807 : Int64), (9223372036854775807 : Int64), (9223372036854775807 : Int64), (9223372036854775807 : Int64)].set pl0 q1).map Value.long)) :: []) (by rw [← show ([(9223372036854775807 : Int64), (9223372036854775807 : Int64), (9223372036854775807 : Int64), (9223372036854775807 : Int64), (9223372036854775807 : Int64), (9223372036854775807 : Int64), (9223372036854775807 : Int64), (9223372036854775807 : Int64)].map Value.long).set pl0 (Value.long q1) = (([(9223372036854775807 : Int64), (9223372036854775807 : Int64), (9223372036854775807 : Int64), (9223372036854775807 : Int64), (9223372036854775807 : Int64), (9223372036854775807 : Int64), (9223372036854775807 : Int64), (9223372036854775807 : Int64)].set pl0 q1).map Value.long) from (List.map_set).symm]; rfl) (hb hby at_165) rfl ?_
    intro h66 O67
    refine Own.aload hx (.ref a50) (hb hby at_166) rfl rfl rfl ?_
    refine Own.iload hx px1 (hb hby at_168) rfl rfl ?_
    refine Own.lloadN hx q2 (hb hby at_170) rfl rfl ?_
    have O69 : Own.Owns n0 h66 ((rb54, Own.ArrC Z .int (es60.map gI)) :: (a50, Own.ObjC Z "com/example/twigline/twigline/matcher/StreamHeads" [(("com/example/twigline/twigline/matcher/StreamHeads", "size", "I"), (.int (1 : Nat).toInt32)), (("com/example/twigline/twigline/matcher/StreamHeads", "starts", "[J"), (.ref ra53)), (("com/example/twigline/twigline/matcher/StreamHeads", "earliest", "[I"), (.ref rb54))]) :: (ra53, Own.ArrC Z .long (([(9223372036854775807 : Int64)].set pl0 q1).map Value.long)) :: (a31, Own.ArrC Z .long (([(9223372036854775807 : Int64), (9223372036854775807 : Int64), (9223372036854775807 : Int64), (9223372036854775807 : Int64), (9223372036854775807 : Int64), (9223372036854775807 : Int64), (9223372036854775807 : Int64), (9223372036854775807 : Int64)].set pl0 q1).map Value.long)) :: []) := O67.pick 2 rfl
    have O70 : Own.Owns n0 h66 ((ra53, Own.ArrC Z .long (([(9223372036854775807 : Int64)].set pl0 q1).map Value.long)) :: (rb54, Own.ArrC Z .int (es60.map gI)) :: (a50, Own.ObjC Z "com/example/twigline/twigline/matcher/StreamHeads" [(("com/example/twigline/twigline/matcher/StreamHeads", "size", "I"), (.int (1 : Nat).toInt32)), (("com/example/twigline/twigline/matcher/StreamHeads", "starts", "[J"), (.ref ra53)), (("com/example/twigline/twigline/matcher/StreamHeads", "earliest", "[I"), (.ref rb54))]) :: (a31, Own.ArrC Z .long (([(9223372036854775807 : Int64), (9223372036854775807 : Int64), (9223372036854775807 : Int64), (9223372036854775807 : Int64), (9223372036854775807 : Int64), (9223372036854775807 : Int64), (9223372036854775807 : Int64), (9223372036854775807 : Int64)].set pl0 q1).map Value.long)) :: []) := O69.pick 2 rfl
    have O71 : Own.Owns n0 h66 ((a50, Own.ObjC Z "com/example/twigline/twigline/matcher/StreamHeads" [(("com/example/twigline/twigline/matcher/StreamHeads", "size", "I"), (.int (1 : Nat).toInt32)), (("com/example/twigline/twigline/matcher/StreamHeads", "starts", "[J"), (.ref ra53)), (("com/example/twigline/twigline/matcher/StreamHeads", "earliest", "[I"), (.ref rb54))]) :: (ra53, Own.ArrC Z .long (([(9223372036854775807 : Int64)].set pl0 q1).map Value.long)) :: (rb54, Own.ArrC Z .int (es60.map gI)) :: (a31, Own.ArrC Z .long (([(9223372036854775807 : Int64), (9223372036854775807 : Int64), (9223372036854775807 : Int64), (9223372036854775807 : Int64), (9223372036854775807 : Int64), (9223372036854775807 : Int64), (9223372036854775807 : Int64), (9223372036854775807 : Int64)].set pl0 q1).map Value.long)) :: []) := O70.pick 2 rfl
    refine Own.callV hx hZ hown (O71.exa (i := 0) rfl) (hw _ (List.mem_of_getElem? (i := 28) rfl)) (hw _ (List.mem_of_getElem? (i := 29) rfl)) (hw _ (List.mem_of_getElem? (i := 31) rfl)) (hw _ (List.mem_of_getElem? (i := 30) rfl)) (hw _ (List.mem_of_getElem? (i := 4) rfl)) (hw _ (List.mem_of_getElem? (i := 32) rfl)) (by decide) pd4 (argsL := [(.int px1), (.long q2)]) (rest := []) rfl (W := 0) (Nat.le_of_eq rfl) (rm := ({ frames := 2, cells := 0, slots := 0, locals := 34 } : Room)) (by decide) (by decide) (by decide) (by decide) (k' := 4) (n' := 14) rfl rfl (by rw [hml]; rfl) [(.long q2), (.int px1), (.ref a50)] rfl (hb hby at_171) (pc' := 174) rfl (rm5 l Z a0 hw a50 px1 q2 h66 n0 pl1 1 ra53 rb54 ([(9223372036854775807 : Int64)].set pl0 q1) es60 (by decide) hpl1 hlt1 hI1 ((a31, Own.ArrC Z .long (([(9223372036854775807 : Int64), (9223372036854775807 : Int64), (9223372036854775807 : Int64), (9223372036854775807 : Int64), (9223372036854775807 : Int64), (9223372036854775807 : Int64), (9223372036854775807 : Int64), (9223372036854775807 : Int64)].set pl0 q1).map Value.long)) :: []) O71) ?_
    rintro _ h72 ⟨es68, rfl, hI2, O73⟩
    show Own.Goes _ _ _ _ _ _ _ _ _ _ _ _ _ _ _ _ _ (mkF m 174 #[.val (.int p0), .val (.long q1), .second, .val (.long q2), .second, .val (.long q3), .second, .val (.long q4), .second, .val (.int p5), .val (.int (1 : Int32)), .val (.ref a31), .val (.ref a50), .val (.int px0), .val (.int px1), .val (.int px2), .val (.int px3)] [])
    refine Own.aload hx (.ref a31) (hb hby at_174) rfl rfl rfl ?_
    refine Own.iload hx px1 (hb hby at_176) rfl rfl ?_
    refine Own.lloadN hx q2 (hb hby at_178) rfl rfl ?_
    have hL2 := like_set (x := q2) hL1 hlt1
    refine Own.lastore hx hZ O73 3 pl1 rfl hpl1 (by rw [List.length_map, hL1.2.1]; omega) ((a50, Own.ObjC Z "com/example/twigline/twigline/matcher/StreamHeads" [(("com/example/twigline/twigline/matcher/StreamHeads", "size", "I"), (.int (1 : Nat).toInt32)), (("com/example/twigline/twigline/matcher/StreamHeads", "starts", "[J"), (.ref ra53)), (("com/example/twigline/twigline/matcher/StreamHeads", "earliest", "[I"), (.ref rb54))]) :: (ra53, Own.ArrC Z .long ((([(9223372036854775807 : Int64)].set pl0 q1).set pl1 q2).map Value.long)) :: (rb54, Own.ArrC Z .int (es68.map gI)) :: (a31, Own.ArrC Z .long ((([(9223372036854775807 : Int64), (9223372036854775807 : Int64), (9223372036854775807 : Int64), (9223372036854775807 : Int64), (9223372036854775807 : Int64), (9223372036854775807 : Int64), (9223372036854775807 : Int64), (9223372036854775807 : Int64)].set pl0 q1).set pl1 q2).map Value.long)) :: []) (by rw [← show (([(9223372036854775807 : Int64), (9223372036854775807 : Int64), (9223372036854775807 : Int64), (9223372036854775807 : Int64), (9223372036854775807 : Int64), (9223372036854775807 : Int64), (9223372036854775807 : Int64), (9223372036854775807 : Int64)].set pl0 q1).map Value.long).set pl1 (Value.long q2) = ((([(9223372036854775807 : Int64), (9223372036854775807 : Int64), (9223372036854775807 : Int64), (9223372036854775807 : Int64), (9223372036854775807 : Int64), (9223372036854775807 : Int64), (9223372036854775807 : Int64), (9223372036854775807 : Int64)].set pl0 q1).set pl1 q2).map Value.long) from (List.map_set).symm]; rfl) (hb hby at_179) rfl ?_
    intro h74 O75
    refine Own.aload hx (.ref a50) (hb hby at_180) rfl rfl rfl ?_
    refine Own.iload hx px2 (hb hby at_182) rfl rfl ?_
    refine Own.lload hx q3 (hb hby at_184) rfl rfl ?_
    have O77 : Own.Owns n0 h74 ((rb54, Own.ArrC Z .int (es68.map gI)) :: (a50, Own.ObjC Z "com/example/twigline/twigline/matcher/StreamHeads" [(("com/example/twigline/twigline/matcher/StreamHeads", "size", "I"), (.int (1 : Nat).toInt32)), (("com/example/twigline/twigline/matcher/StreamHeads", "starts", "[J"), (.ref ra53)), (("com/example/twigline/twigline/matcher/StreamHeads", "earliest", "[I"), (.ref rb54))]) :: (ra53, Own.ArrC Z .long ((([(9223372036854775807 : Int64)].set pl0 q1).set pl1 q2).map Value.long)) :: (a31, Own.ArrC Z .long ((([(9223372036854775807 : Int64), (9223372036854775807 : Int64), (9223372036854775807 : Int64), (9223372036854775807 : Int64), (9223372036854775807 : Int64), (9223372036854775807 : Int64), (9223372036854775807 : Int64), (9223372036854775807 : Int64)].set pl0 q1).set pl1 q2).map Value.long)) :: []) := O75.pick 2 rfl
    have O78 : Own.Owns n0 h74 ((ra53, Own.ArrC Z .long ((([(9223372036854775807 : Int64)].set pl0 q1).set pl1 q2).map Value.long)) :: (rb54, Own.ArrC Z .int (es68.map gI)) :: (a50, Own.ObjC Z "com/example/twigline/twigline/matcher/StreamHeads" [(("com/example/twigline/twigline/matcher/StreamHeads", "size", "I"), (.int (1 : Nat).toInt32)), (("com/example/twigline/twigline/matcher/StreamHeads", "starts", "[J"), (.ref ra53)), (("com/example/twigline/twigline/matcher/StreamHeads", "earliest", "[I"), (.ref rb54))]) :: (a31, Own.ArrC Z .long ((([(9223372036854775807 : Int64), (9223372036854775807 : Int64), (9223372036854775807 : Int64), (9223372036854775807 : Int64), (9223372036854775807 : Int64), (9223372036854775807 : Int64), (9223372036854775807 : Int64), (9223372036854775807 : Int64)].set pl0 q1).set pl1 q2).map Value.long)) :: []) := O77.pick 2 rfl
    have O79 : Own.Owns n0 h74 ((a50, Own.ObjC Z "com/example/twigline/twigline/matcher/StreamHeads" [(("com/example/twigline/twigline/matcher/StreamHeads", "size", "I"), (.int (1 : Nat).toInt32)), (("com/example/twigline/twigline/matcher/StreamHeads", "starts", "[J"), (.ref ra53)), (("com/example/twigline/twigline/matcher/StreamHeads", "earliest", "[I"), (.ref rb54))]) :: (ra53, Own.ArrC Z .long ((([(9223372036854775807 : Int64)].set pl0 q1).set pl1 q2).map Value.long)) :: (rb54, Own.ArrC Z .int (es68.map gI)) :: (a31, Own.ArrC Z .long ((([(9223372036854775807 : Int64), (9223372036854775807 : Int64), (9223372036854775807 : Int64), (9223372036854775807 : Int64), (9223372036854775807 : Int64), (9223372036854775807 : Int64), (9223372036854775807 : Int64), (9223372036854775807 : Int64)].set pl0 q1).set pl1 q2).map Value.long)) :: []) := O78.pick 2 rfl
    refine Own.callV hx hZ hown (O79.exa (i := 0) rfl) (hw _ (List.mem_of_getElem? (i := 28) rfl)) (hw _ (List.mem_of_getElem? (i := 29) rfl)) (hw _ (List.mem_of_getElem? (i := 31) rfl)) (hw _ (List.mem_of_getElem? (i := 30) rfl)) (hw _ (List.mem_of_getElem? (i := 4) rfl)) (hw _ (List.mem_of_getElem? (i := 32) rfl)) (by decide) pd4 (argsL := [(.int px2), (.long q3)]) (rest := []) rfl (W := 0) (Nat.le_of_eq rfl) (rm := ({ frames := 2, cells := 0, slots := 0, locals := 34 } : Room)) (by decide) (by decide) (by decide) (by decide) (k' := 4) (n' := 14) rfl rfl (by rw [hml]; rfl) [(.long q3), (.int px2), (.ref a50)] rfl (hb hby at_186) (pc' := 189) rfl (rm5 l Z a0 hw a50 px2 q3 h74 n0 pl2 1 ra53 rb54 (([(9223372036854775807 : Int64)].set pl0 q1).set pl1 q2) es68 (by decide) hpl2 hlt2 hI2 ((a31, Own.ArrC Z .long ((([(9223372036854775807 : Int64), (9223372036854775807 : Int64), (9223372036854775807 : Int64), (9223372036854775807 : Int64), (9223372036854775807 : Int64), (9223372036854775807 : Int64), (9223372036854775807 : Int64), (9223372036854775807 : Int64)].set pl0 q1).set pl1 q2).map Value.long)) :: []) O79) ?_
    rintro _ h80 ⟨es76, rfl, hI3, O81⟩
    show Own.Goes _ _ _ _ _ _ _ _ _ _ _ _ _ _ _ _ _ (mkF m 189 #[.val (.int p0), .val (.long q1), .second, .val (.long q2), .second, .val (.long q3), .second, .val (.long q4), .second, .val (.int p5), .val (.int (1 : Int32)), .val (.ref a31), .val (.ref a50), .val (.int px0), .val (.int px1), .val (.int px2), .val (.int px3)] [])
    refine Own.aload hx (.ref a31) (hb hby at_189) rfl rfl rfl ?_
    refine Own.iload hx px2 (hb hby at_191) rfl rfl ?_
    refine Own.lload hx q3 (hb hby at_193) rfl rfl ?_
    have hL3 := like_set (x := q3) hL2 hlt2
    refine Own.lastore hx hZ O81 3 pl2 rfl hpl2 (by rw [List.length_map, hL2.2.1]; omega) ((a50, Own.ObjC Z "com/example/twigline/twigline/matcher/StreamHeads" [(("com/example/twigline/twigline/matcher/StreamHeads", "size", "I"), (.int (1 : Nat).toInt32)), (("com/example/twigline/twigline/matcher/StreamHeads", "starts", "[J"), (.ref ra53)), (("com/example/twigline/twigline/matcher/StreamHeads", "earliest", "[I"), (.ref rb54))]) :: (ra53, Own.ArrC Z .long (((([(9223372036854775807 : Int64)].set pl0 q1).set pl1 q2).set pl2 q3).map Value.long)) :: (rb54, Own.ArrC Z .int (es76.map gI)) :: (a31, Own.ArrC Z .long (((([(9223372036854775807 : Int64), (9223372036854775807 : Int64), (9223372036854775807 : Int64), (9223372036854775807 : Int64), (9223372036854775807 : Int64), (9223372036854775807 : Int64), (9223372036854775807 : Int64), (9223372036854775807 : Int64)].set pl0 q1).set pl1 q2).set pl2 q3).map Value.long)) :: []) (by rw [← show ((([(9223372036854775807 : Int64), (9223372036854775807 : Int64), (9223372036854775807 : Int64), (9223372036854775807 : Int64), (9223372036854775807 : Int64), (9223372036854775807 : Int64), (9223372036854775807 : Int64), (9223372036854775807 : Int64)].set pl0 q1).set pl1 q2).map Value.long).set pl2 (Value.long q3) = (((([(9223372036854775807 : Int64), (9223372036854775807 : Int64), (9223372036854775807 : Int64), (9223372036854775807 : Int64), (9223372036854775807 : Int64), (9223372036854775807 : Int64), (9223372036854775807 : Int64), (9223372036854775807 : Int64)].set pl0 q1).set pl1 q2).set pl2 q3).map Value.long) from (List.map_set).symm]; rfl) (hb hby at_195) rfl ?_
    intro h82 O83
    refine Own.aload hx (.ref a50) (hb hby at_196) rfl rfl rfl ?_
    refine Own.iload hx px3 (hb hby at_198) rfl rfl ?_
    refine Own.lload hx q4 (hb hby at_200) rfl rfl ?_
    have O85 : Own.Owns n0 h82 ((rb54, Own.ArrC Z .int (es76.map gI)) :: (a50, Own.ObjC Z "com/example/twigline/twigline/matcher/StreamHeads" [(("com/example/twigline/twigline/matcher/StreamHeads", "size", "I"), (.int (1 : Nat).toInt32)), (("com/example/twigline/twigline/matcher/StreamHeads", "starts", "[J"), (.ref ra53)), (("com/example/twigline/twigline/matcher/StreamHeads", "earliest", "[I"), (.ref rb54))]) :: (ra53, Own.ArrC Z .long (((([(9223372036854775807 : Int64)].set pl0 q1).set pl1 q2).set pl2 q3).map Value.long)) :: (a31, Own.ArrC Z .long (((([(9223372036854775807 : Int64), (9223372036854775807 : Int64), (9223372036854775807 : Int64), (9223372036854775807 : Int64), (9223372036854775807 : Int64), (9223372036854775807 : Int64), (9223372036854775807 : Int64), (9223372036854775807 : Int64)].set pl0 q1).set pl1 q2).set pl2 q3).map Value.long)) :: []) := O83.pick 2 rfl
    have O86 : Own.Owns n0 h82 ((ra53, Own.ArrC Z .long (((([(9223372036854775807 : Int64)].set pl0 q1).set pl1 q2).set pl2 q3).map Value.long)) :: (rb54, Own.ArrC Z .int (es76.map gI)) :: (a50, Own.ObjC Z "com/example/twigline/twigline/matcher/StreamHeads" [(("com/example/twigline/twigline/matcher/StreamHeads", "size", "I"), (.int (1 : Nat).toInt32)), (("com/example/twigline/twigline/matcher/StreamHeads", "starts", "[J"), (.ref ra53)), (("com/example/twigline/twigline/matcher/StreamHeads", "earliest", "[I"), (.ref rb54))]) :: (a31, Own.ArrC Z .long (((([(9223372036854775807 : Int64), (9223372036854775807 : Int64), (9223372036854775807 : Int64), (9223372036854775807 : Int64), (9223372036854775807 : Int64), (9223372036854775807 : Int64), (9223372036854775807 : Int64), (9223372036854775807 : Int64)].set pl0 q1).set pl1 q2).set pl2 q3).map Value.long)) :: []) := O85.pick 2 rfl
    have O87 : Own.Owns n0 h82 ((a50, Own.ObjC Z "com/example/twigline/twigline/matcher/StreamHeads" [(("com/example/twigline/twigline/matcher/StreamHeads", "size", "I"), (.int (1 : Nat).toInt32)), (("com/example/twigline/twigline/matcher/StreamHeads", "starts", "[J"), (.ref ra53)), (("com/example/twigline/twigline/matcher/StreamHeads", "earliest", "[I"), (.ref rb54))]) :: (ra53, Own.ArrC Z .long (((([(9223372036854775807 : Int64)].set pl0 q1).set pl1 q2).set pl2 q3).map Value.long)) :: (rb54, Own.ArrC Z .int (es76.map gI)) :: (a31, Own.ArrC Z .long (((([(9223372036854775807 : Int64), (9223372036854775807 : Int64), (9223372036854775807 : Int64), (9223372036854775807 : Int64), (9223372036854775807 : Int64), (9223372036854775807 : Int64), (9223372036854775807 : Int64), (9223372036854775807 : Int64)].set pl0 q1).set pl1 q2).set pl2 q3).map Value.long)) :: []) := O86.pick 2 rfl
    refine Own.callV hx hZ hown (O87.exa (i := 0) rfl) (hw _ (List.mem_of_getElem? (i := 28) rfl)) (hw _ (List.mem_of_getElem? (i := 29) rfl)) (hw _ (List.mem_of_getElem? (i := 31) rfl)) (hw _ (List.mem_of_getElem? (i := 30) rfl)) (hw _ (List.mem_of_getElem? (i := 4) rfl)) (hw _ (List.mem_of_getElem? (i := 32) rfl)) (by decide) pd4 (argsL := [(.int px3), (.long q4)]) (rest := []) rfl (W := 0) (Nat.le_of_eq rfl) (rm := ({ frames := 2, cells := 0, slots := 0, locals := 34 } : Room)) (by decide) (by decide) (by decide) (by decide) (k' := 4) (n' := 14) rfl rfl (by rw [hml]; rfl) [(.long q4), (.int px3), (.ref a50)] rfl (hb hby at_202) (pc' := 205) rfl (rm5 l Z a0 hw a50 px3 q4 h82 n0 pl3 1 ra53 rb54 ((([(9223372036854775807 : Int64)].set pl0 q1).set pl1 q2).set pl2 q3) es76 (by decide) hpl3 hlt3 hI3 ((a31, Own.ArrC Z .long (((([(9223372036854775807 : Int64), (9223372036854775807 : Int64), (9223372036854775807 : Int64), (9223372036854775807 : Int64), (9223372036854775807 : Int64), (9223372036854775807 : Int64), (9223372036854775807 : Int64), (9223372036854775807 : Int64)].set pl0 q1).set pl1 q2).set pl2 q3).map Value.long)) :: []) O87) ?_
    rintro _ h88 ⟨es84, rfl, hI4, O89⟩
    show Own.Goes _ _ _ _ _ _ _ _ _ _ _ _ _ _ _ _ _ (mkF m 205 #[.val (.int p0), .val (.long q1), .second, .val (.long q2), .second, .val (.long q3), .second, .val (.long q4), .second, .val (.int p5), .val (.int (1 : Int32)), .val (.ref a31), .val (.ref a50), .val (.int px0), .val (.int px1), .val (.int px2), .val (.int px3)] [])
    refine Own.aload hx (.ref a31) (hb hby at_205) rfl rfl rfl ?_
    refine Own.iload hx px3 (hb hby at_207) rfl rfl ?_
    refine Own.lload hx q4 (hb hby at_209) rfl rfl ?_
    have hL4 := like_set (x := q4) hL3 hlt3
    refine Own.lastore hx hZ O89 3 pl3 rfl hpl3 (by rw [List.length_map, hL3.2.1]; omega) ((a50, Own.ObjC Z "com/example/twigline/twigline/matcher/StreamHeads" [(("com/example/twigline/twigline/matcher/StreamHeads", "size", "I"), (.int (1 : Nat).toInt32)), (("com/example/twigline/twigline/matcher/StreamHeads", "starts", "[J"), (.ref ra53)), (("com/example/twigline/twigline/matcher/StreamHeads", "earliest", "[I"), (.ref rb54))]) :: (ra53, Own.ArrC Z .long ((((([(9223372036854775807 : Int64)].set pl0 q1).set pl1 q2).set pl2 q3).set pl3 q4).map Value.long)) :: (rb54, Own.ArrC Z .int (es84.map gI)) :: (a31, Own.ArrC Z .long ((((([(9223372036854775807 : Int64), (9223372036854775807 : Int64), (9223372036854775807 : Int64), (9223372036854775807 : Int64), (9223372036854775807 : Int64), (9223372036854775807 : Int64), (9223372036854775807 : Int64), (9223372036854775807 : Int64)].set pl0 q1).set pl1 q2).set pl2 q3).set pl3 q4).map Value.long)) :: []) (by rw [← show (((([(9223372036854775807 : Int64), (9223372036854775807 : Int64), (9223372036854775807 : Int64), (9223372036854775807 : Int64), (9223372036854775807 : Int64), (9223372036854775807 : Int64), (9223372036854775807 : Int64), (9223372036854775807 : Int64)].set pl0 q1).set pl1 q2).set pl2 q3).map Value.long).set pl3 (Value.long q4) = ((((([(9223372036854775807 : Int64), (9223372036854775807 : Int64), (9223372036854775807 : Int64), (9223372036854775807 : Int64), (9223372036854775807 : Int64), (9223372036854775807 : Int64), (9223372036854775807 : Int64), (9223372036854775807 : Int64)].set pl0 q1).set pl1 q2).set pl2 q3).set pl3 q4).map Value.long) from (List.map_set).symm]; rfl) (hb hby at_211) rfl ?_
    intro h90 O91
    refine Own.aload hx (.ref a50) (hb hby at_212) rfl rfl rfl ?_
    have O92 : Own.Owns n0 h90 ((rb54, Own.ArrC Z .int (es84.map gI)) :: (a50, Own.ObjC Z "com/example/twigline/twigline/matcher/StreamHeads" [(("com/example/twigline/twigline/matcher/StreamHeads", "size", "I"), (.int (1 : Nat).toInt32)), (("com/example/twigline/twigline/matcher/StreamHeads", "starts", "[J"), (.ref ra53)), (("com/example/twigline/twigline/matcher/StreamHeads", "earliest", "[I"), (.ref rb54))]) :: (ra53, Own.ArrC Z .long ((((([(9223372036854775807 : Int64)].set pl0 q1).set pl1 q2).set pl2 q3).set pl3 q4).map Value.long)) :: (a31, Own.ArrC Z .long ((((([(9223372036854775807 : Int64), (9223372036854775807 : Int64), (9223372036854775807 : Int64), (9223372036854775807 : Int64), (9223372036854775807 : Int64), (9223372036854775807 : Int64), (9223372036854775807 : Int64), (9223372036854775807 : Int64)].set pl0 q1).set pl1 q2).set pl2 q3).set pl3 q4).map Value.long)) :: []) := O91.pick 2 rfl
    have O93 : Own.Owns n0 h90 ((ra53, Own.ArrC Z .long ((((([(9223372036854775807 : Int64)].set pl0 q1).set pl1 q2).set pl2 q3).set pl3 q4).map Value.long)) :: (rb54, Own.ArrC Z .int (es84.map gI)) :: (a50, Own.ObjC Z "com/example/twigline/twigline/matcher/StreamHeads" [(("com/example/twigline/twigline/matcher/StreamHeads", "size", "I"), (.int (1 : Nat).toInt32)), (("com/example/twigline/twigline/matcher/StreamHeads", "starts", "[J"), (.ref ra53)), (("com/example/twigline/twigline/matcher/StreamHeads", "earliest", "[I"), (.ref rb54))]) :: (a31, Own.ArrC Z .long ((((([(9223372036854775807 : Int64), (9223372036854775807 : Int64), (9223372036854775807 : Int64), (9223372036854775807 : Int64), (9223372036854775807 : Int64), (9223372036854775807 : Int64), (9223372036854775807 : Int64), (9223372036854775807 : Int64)].set pl0 q1).set pl1 q2).set pl2 q3).set pl3 q4).map Value.long)) :: []) := O92.pick 2 rfl
    have O94 : Own.Owns n0 h90 ((a50, Own.ObjC Z "com/example/twigline/twigline/matcher/StreamHeads" [(("com/example/twigline/twigline/matcher/StreamHeads", "size", "I"), (.int (1 : Nat).toInt32)), (("com/example/twigline/twigline/matcher/StreamHeads", "starts", "[J"), (.ref ra53)), (("com/example/twigline/twigline/matcher/StreamHeads", "earliest", "[I"), (.ref rb54))]) :: (ra53, Own.ArrC Z .long ((((([(9223372036854775807 : Int64)].set pl0 q1).set pl1 q2).set pl2 q3).set pl3 q4).map Value.long)) :: (rb54, Own.ArrC Z .int (es84.map gI)) :: (a31, Own.ArrC Z .long ((((([(9223372036854775807 : Int64), (9223372036854775807 : Int64), (9223372036854775807 : Int64), (9223372036854775807 : Int64), (9223372036854775807 : Int64), (9223372036854775807 : Int64), (9223372036854775807 : Int64), (9223372036854775807 : Int64)].set pl0 q1).set pl1 q2).set pl2 q3).set pl3 q4).map Value.long)) :: []) := O93.pick 2 rfl
    refine Own.callV hx hZ hown (O94.exa (i := 0) rfl) (hw _ (List.mem_of_getElem? (i := 18) rfl)) (hw _ (List.mem_of_getElem? (i := 19) rfl)) (hw _ (List.mem_of_getElem? (i := 21) rfl)) (hw _ (List.mem_of_getElem? (i := 20) rfl)) (hw _ (List.mem_of_getElem? (i := 4) rfl)) (hw _ (List.mem_of_getElem? (i := 22) rfl)) (by decide) pd3 (argsL := []) (rest := []) rfl (W := 0) (Nat.le_of_eq rfl) (rm := ({ frames := 0, cells := 0, slots := 0, locals := 0 } : Room)) (by decide) (by decide) (by decide) (by decide) (k' := 4) (n' := 14) rfl rfl (by rw [hml]; rfl) [(.ref a50)] rfl (hb hby at_214) (pc' := 217) rfl (rm3 l Z a0 hw a50 h90 n0 1 ra53 rb54 (((([(9223372036854775807 : Int64)].set pl0 q1).set pl1 q2).set pl2 q3).set pl3 q4) es84 (by decide) (by decide) hI4 ((a31, Own.ArrC Z .long ((((([(9223372036854775807 : Int64), (9223372036854775807 : Int64), (9223372036854775807 : Int64), (9223372036854775807 : Int64), (9223372036854775807 : Int64), (9223372036854775807 : Int64), (9223372036854775807 : Int64), (9223372036854775807 : Int64)].set pl0 q1).set pl1 q2).set pl2 q3).set pl3 q4).map Value.long)) :: []) O94) ?_
    rintro _ h' ⟨rfl, eh⟩
    rw [eh]; clear eh h'
    show Own.Goes _ _ _ _ _ _ _ _ _ _ _ _ _ _ _ _ _ (mkF m 217 #[.val (.int p0), .val (.long q1), .second, .val (.long q2), .second, .val (.long q3), .second, .val (.long q4), .second, .val (.int p5), .val (.int (1 : Int32)), .val (.ref a31), .val (.ref a50), .val (.int px0), .val (.int px1), .val (.int px2), .val (.int px3)] [(.long ((((([(9223372036854775807 : Int64)].set pl0 q1).set pl1 q2).set pl2 q3).set pl3 q4).getD (es84.getD 1 0) 0))])
    refine Own.aload hx (.ref a31) (hb hby at_217) rfl rfl rfl ?_
    have O95 : Own.Owns n0 h90 ((a31, Own.ArrC Z .long ((((([(9223372036854775807 : Int64), (9223372036854775807 : Int64), (9223372036854775807 : Int64), (9223372036854775807 : Int64), (9223372036854775807 : Int64), (9223372036854775807 : Int64), (9223372036854775807 : Int64), (9223372036854775807 : Int64)].set pl0 q1).set pl1 q2).set pl2 q3).set pl3 q4).map Value.long)) :: (a50, Own.ObjC Z "com/example/twigline/twigline/matcher/StreamHeads" [(("com/example/twigline/twigline/matcher/StreamHeads", "size", "I"), (.int (1 : Nat).toInt32)), (("com/example/twigline/twigline/matcher/StreamHeads", "starts", "[J"), (.ref ra53)), (("com/example/twigline/twigline/matcher/StreamHeads", "earliest", "[I"), (.ref rb54))]) :: (ra53, Own.ArrC Z .long ((((([(9223372036854775807 : Int64)].set pl0 q1).set pl1 q2).set pl2 q3).set pl3 q4).map Value.long)) :: (rb54, Own.ArrC Z .int (es84.map gI)) :: []) := O94.pick 3 rfl
    refine Own.callS hx hZ hown (hw _ (List.mem_of_getElem? (i := 37) rfl)) (hw _ (List.mem_of_getElem? (i := 38) rfl)) (hw _ (List.mem_of_getElem? (i := 39) rfl)) (hw _ (List.mem_of_getElem? (i := 40) rfl)) (by decide) pd5 (argsL := [(.ref a31)]) (rest := [(.long ((((([(9223372036854775807 : Int64)].set pl0 q1).set pl1 q2).set pl2 q3).set pl3 q4).getD (es84.getD 1 0) 0))]) rfl (W := 2) (Nat.le_of_eq rfl) (rm := ({ frames := 1, cells := 0, slots := 0, locals := 19 } : Room)) (by decide) (by decide) (by decide) (by decide) (k' := 4) (n' := 14) rfl rfl (by rw [hml]; rfl) [(.ref a31), (.long ((((([(9223372036854775807 : Int64)].set pl0 q1).set pl1 q2).set pl2 q3).set pl3 q4).getD (es84.getD 1 0) 0))] rfl (hb hby at_219) (pc' := 222) rfl (rm7 l Z a0 hw a31 h90 n0 (((([(9223372036854775807 : Int64), (9223372036854775807 : Int64), (9223372036854775807 : Int64), (9223372036854775807 : Int64), (9223372036854775807 : Int64), (9223372036854775807 : Int64), (9223372036854775807 : Int64), (9223372036854775807 : Int64)].set pl0 q1).set pl1 q2).set pl2 q3).set pl3 q4) hL4.2.1 ((a50, Own.ObjC Z "com/example/twigline/twigline/matcher/StreamHeads" [(("com/example/twigline/twigline/matcher/StreamHeads", "size", "I"), (.int (1 : Nat).toInt32)), (("com/example/twigline/twigline/matcher/StreamHeads", "starts", "[J"), (.ref ra53)), (("com/example/twigline/twigline/matcher/StreamHeads", "earliest", "[I"), (.ref rb54))]) :: (ra53, Own.ArrC Z .long ((((([(9223372036854775807 : Int64)].set pl0 q1).set pl1 q2).set pl2 q3).set pl3 q4).map Value.long)) :: (rb54, Own.ArrC Z .int (es84.map gI)) :: []) O95) ?_
    rintro _ h' ⟨rfl, eh⟩
    rw [eh]; clear eh h'
    show Own.Goes _ _ _ _ _ _ _ _ _ _ _ _ _ _ _ _ _ (mkF m 222 #[.val (.int p0), .val (.long q1), .second, .val (.long q2), .second, .val (.long q3), .second, .val (.long q4), .second, .val (.int p5), .val (.int (1 : Int32)), .val (.ref a31), .val (.ref a50), .val (.int px0), .val (.int px1), .val (.int px2), .val (.int px3)] [(.long (fMin8 (((([(9223372036854775807 : Int64), (9223372036854775807 : Int64), (9223372036854775807 : Int64), (9223372036854775807 : Int64), (9223372036854775807 : Int64), (9223372036854775807 : Int64), (9223372036854775807 : Int64), (9223372036854775807 : Int64)].set pl0 q1).set pl1 q2).set pl2 q3).set pl3 q4))), (.long ((((([(9223372036854775807 : Int64)].set pl0 q1).set pl1 q2).set pl2 q3).set pl3 q4).getD (es84.getD 1 0) 0))])
    refine Own.lcmp hx (hb hby at_222) rfl ?_
    have hc96 : ((((([(9223372036854775807 : Int64)].set pl0 q1).set pl1 q2).set pl2 q3).set pl3 q4).getD (es84.getD 1 0) 0) = (fMin8 (((([(9223372036854775807 : Int64), (9223372036854775807 : Int64), (9223372036854775807 : Int64), (9223372036854775807 : Int64), (9223372036854775807 : Int64), (9223372036854775807 : Int64), (9223372036854775807 : Int64), (9223372036854775807 : Int64)].set pl0 q1).set pl1 q2).set pl2 q3).set pl3 q4)) := like_min hL4 hI4 (by decide)
    refine Own.ifFn hx (Own.w_ne ((((([(9223372036854775807 : Int64)].set pl0 q1).set pl1 q2).set pl2 q3).set pl3 q4).getD (es84.getD 1 0) 0) (fMin8 (((([(9223372036854775807 : Int64), (9223372036854775807 : Int64), (9223372036854775807 : Int64), (9223372036854775807 : Int64), (9223372036854775807 : Int64), (9223372036854775807 : Int64), (9223372036854775807 : Int64), (9223372036854775807 : Int64)].set pl0 q1).set pl1 q2).set pl2 q3).set pl3 q4))) (hb hby at_223) (pcN := 226) rfl (by decide) (pcT := 230) rfl (fun q => absurd hc96 q) (fun _ => ?_)
    refine Own.iconst hx (1 : Int32) (hb hby at_226) rfl (by decide) ?_
    refine Own.goto hx (hb hby at_227) (by decide) (pc' := 231) rfl ?_
    exact Own.retS hx hret (by simp) hlk (hb hby at_231) (by decide) (by decide) (Own.bool1 rfl)
  · subst q
    refine Own.bipush hx (8 : Int32) (hb hby at_6) rfl (by decide) ?_
    refine Own.newarr hx hZ O0 (aty := .long) (hw _ (List.mem_of_getElem? (i := 0) rfl)) 8 (by decide) [(.long (0 : Int64)), (.long (0 : Int64)), (.long (0 : Int64)), (.long (0 : Int64)), (.long (0 : Int64)), (.long (0 : Int64)), (.long (0 : Int64)), (.long (0 : Int64))] rfl rfl (cap := 8) (by decide) (by decide) (k' := 1) (n' := 8) rfl rfl (by decide) (by decide) (hb hby at_8) (pc' := 10) rfl ?_
    intro a98 h99 O100
    refine Own.astore hx #[.val (.int p0), .val (.long q1), .second, .val (.long q2), .second, .val (.long q3), .second, .val (.long q4), .second, .val (.int p5), .val (.int (2 : Int32)), .val (.ref a98), .unset, .unset, .unset, .unset, .unset] (hb hby at_10) rfl rfl rfl ?_
    refine Own.aload hx (.ref a98) (hb hby at_12) rfl rfl rfl ?_
    refine Own.iconst hx (0 : Int32) (hb hby at_14) rfl (by decide) ?_
    refine Own.ldc2 hx hZ hown (9223372036854775807 : Int64) (hb hby at_15) rfl (hw _ (List.mem_of_getElem? (i := 1) rfl)) ?_
    refine Own.lastore hx hZ O100 0 0 rfl (by decide) (by exact (show 0 < 8 by decide)) ((a98, Own.ArrC Z .long [(.long (9223372036854775807 : Int64)), (.long (0 : Int64)), (.long (0 : Int64)), (.long (0 : Int64)), (.long (0 : Int64)), (.long (0 : Int64)), (.long (0 : Int64)), (.long (0 : Int64))]) :: []) rfl (hb hby at_18) rfl ?_
    intro h101 O102
    refine Own.aload hx (.ref a98) (hb hby at_19) rfl rfl rfl ?_
    refine Own.iconst hx (1 : Int32) (hb hby at_21) rfl (by decide) ?_
    refine Own.ldc2 hx hZ hown (9223372036854775807 : Int64) (hb hby at_22) rfl (hw _ (List.mem_of_getElem? (i := 1) rfl)) ?_
    refine Own.lastore hx hZ O102 0 1 rfl (by decide) (by exact (show 1 < 8 by decide)) ((a98, Own.ArrC Z .long [(.long (9223372036854775807 : Int64)), (.long (9223372036854775807 : Int64)), (.long (0 : Int64)), (.long (0 : Int64)), (.long (0 : Int64)), (.long (0 : Int64)), (.long (0 : Int64)), (.long (0 : Int64))]) :: []) rfl (hb hby at_25) rfl ?_
    intro h103 O104
    refine Own.aload hx (.ref a98) (hb hby at_26) rfl rfl rfl ?_
    refine Own.iconst hx (2 : Int32) (hb hby at_28) rfl (by decide) ?_
    refine Own.ldc2 hx hZ hown (9223372036854775807 : Int64) (hb hby at_29) rfl (hw _ (List.mem_of_getElem? (i := 1) rfl)) ?_
    refine Own.lastore hx hZ O104 0 2 rfl (by decide) (by exact (show 2 < 8 by decide)) ((a98, Own.ArrC Z .long [(.long (9223372036854775807 : Int64)), (.long (9223372036854775807 : Int64)), (.long (9223372036854775807 : Int64)), (.long (0 : Int64)), (.long (0 : Int64)), (.long (0 : Int64)), (.long (0 : Int64)), (.long (0 : Int64))]) :: []) rfl (hb hby at_32) rfl ?_
    intro h105 O106
    refine Own.aload hx (.ref a98) (hb hby at_33) rfl rfl rfl ?_
    refine Own.iconst hx (3 : Int32) (hb hby at_35) rfl (by decide) ?_
    refine Own.ldc2 hx hZ hown (9223372036854775807 : Int64) (hb hby at_36) rfl (hw _ (List.mem_of_getElem? (i := 1) rfl)) ?_
    refine Own.lastore hx hZ O106 0 3 rfl (by decide) (by exact (show 3 < 8 by decide)) ((a98, Own.ArrC Z .long [(.long (9223372036854775807 : Int64)), (.long (9223372036854775807 : Int64)), (.long (9223372036854775807 : Int64)), (.long (9223372036854775807 : Int64)), (.long (0 : Int64)), (.long (0 : Int64)), (.long (0 : Int64)), (.long (0 : Int64))]) :: []) rfl (hb hby at_39) rfl ?_
    intro h107 O108
    refine Own.aload hx (.ref a98) (hb hby at_40) rfl rfl rfl ?_
    refine Own.iconst hx (4 : Int32) (hb hby at_42) rfl (by decide) ?_
    refine Own.ldc2 hx hZ hown (9223372036854775807 : Int64) (hb hby at_43) rfl (hw _ (List.mem_of_getElem? (i := 1) rfl)) ?_
    refine Own.lastore hx hZ O108 0 4 rfl (by decide) (by exact (show 4 < 8 by decide)) ((a98, Own.ArrC Z .long [(.long (9223372036854775807 : Int64)), (.long (9223372036854775807 : Int64)), (.long (9223372036854775807 : Int64)), (.long (9223372036854775807 : Int64)), (.long (9223372036854775807 : Int64)), (.long (0 : Int64)), (.long (0 : Int64)), (.long (0 : Int64))]) :: []) rfl (hb hby at_46) rfl ?_
    intro h109 O110
    refine Own.aload hx (.ref a98) (hb hby at_47) rfl rfl rfl ?_
    refine Own.iconst hx (5 : Int32) (hb hby at_49) rfl (by decide) ?_
    refine Own.ldc2 hx hZ hown (9223372036854775807 : Int64) (hb hby at_50) rfl (hw _ (List.mem_of_getElem? (i := 1) rfl)) ?_
    refine Own.lastore hx hZ O110 0 5 rfl (by decide) (by exact (show 5 < 8 by decide)) ((a98, Own.ArrC Z .long [(.long (9223372036854775807 : Int64)), (.long (9223372036854775807 : Int64)), (.long (9223372036854775807 : Int64)), (.long (9223372036854775807 : Int64)), (.long (9223372036854775807 : Int64)), (.long (9223372036854775807 : Int64)), (.long (0 : Int64)), (.long (0 : Int64))]) :: []) rfl (hb hby at_53) rfl ?_
    intro h111 O112
    refine Own.aload hx (.ref a98) (hb hby at_54) rfl rfl rfl ?_
    refine Own.bipush hx (6 : Int32) (hb hby at_56) rfl (by decide) ?_
    refine Own.ldc2 hx hZ hown (9223372036854775807 : Int64) (hb hby at_58) rfl (hw _ (List.mem_of_getElem? (i := 1) rfl)) ?_
    refine Own.lastore hx hZ O112 0 6 rfl (by decide) (by exact (show 6 < 8 by decide)) ((a98, Own.ArrC Z .long [(.long (9223372036854775807 : Int64)), (.long (9223372036854775807 : Int64)), (.long (9223372036854775807 : Int64)), (.long (9223372036854775807 : Int64)), (.long (9223372036854775807 : Int64)), (.long (9223372036854775807 : Int64)), (.long (9223372036854775807 : Int64)), (.long (0 : Int64))]) :: []) rfl (hb hby at_61) rfl ?_
    intro h113 O114
    refine Own.aload hx (.ref a98) (hb hby at_62) rfl rfl rfl ?_
    refine Own.bipush hx (7 : Int32) (hb hby at_64) rfl (by decide) ?_
    refine Own.ldc2 hx hZ hown (9223372036854775807 : Int64) (hb hby at_66) rfl (hw _ (List.mem_of_getElem? (i := 1) rfl)) ?_
    refine Own.lastore hx hZ O114 0 7 rfl (by decide) (by exact (show 7 < 8 by decide)) ((a98, Own.ArrC Z .long [(.long (9223372036854775807 : Int64)), (.long (9223372036854775807 : Int64)), (.long (9223372036854775807 : Int64)), (.long (9223372036854775807 : Int64)), (.long (9223372036854775807 : Int64)), (.long (9223372036854775807 : Int64)), (.long (9223372036854775807 : Int64)), (.long (9223372036854775807 : Int64))]) :: []) rfl (hb hby at_69) rfl ?_
    intro h115 O116
    refine Own.newobj hx hZ hown O116 (hw _ (List.mem_of_getElem? (i := 2) rfl)) (hw _ (List.mem_of_getElem? (i := 3) rfl)) (hw _ (List.mem_of_getElem? (i := 4) rfl)) [(("com/example/twigline/twigline/matcher/StreamHeads", "size", "I"), (.int (0 : Int32))), (("com/example/twigline/twigline/matcher/StreamHeads", "starts", "[J"), .null), (("com/example/twigline/twigline/matcher/StreamHeads", "earliest", "[I"), .null)] (by intro f hf; simp only [List.mem_cons, List.not_mem_nil, or_false] at hf; rcases hf with rfl | rfl | rfl; exact ⟨Or.inr (hw _ (List.mem_of_getElem? (i := 12) rfl)), .int, by decide, rfl⟩; exact ⟨Or.inr (hw _ (List.mem_of_getElem? (i := 14) rfl)), (.array .long), by decide, rfl⟩; exact ⟨Or.inr (hw _ (List.mem_of_getElem? (i := 17) rfl)), (.array .int), by decide, rfl⟩) (by decide) (k' := 2) (n' := 11) rfl rfl (by decide) (by decide) (hb hby at_70) (pc' := 73) rfl ?_
    intro a117 h118 O119
    refine Own.dup hx (hb hby at_73) rfl rfl ?_
    refine Own.iload hx (2 : Int32) (hb hby at_74) rfl rfl ?_
    refine Own.callI hx hZ hown rfl (hw _ (List.mem_of_getElem? (i := 5) rfl)) (hw _ (List.mem_of_getElem? (i := 6) rfl)) (hw _ (List.mem_of_getElem? (i := 4) rfl)) (hw _ (List.mem_of_getElem? (i := 7) rfl)) (by decide) pd2 (argsL := [(.int (2 : Int32))]) (rest := [(.ref a117)]) rfl (W := 1) (Nat.le_of_eq rfl) (rm := ({ frames := 1, cells := 2, slots := 6, locals := 16 } : Room)) (by decide) (by decide) (by decide) (by decide) (k' := 4) (n' := 17) rfl rfl (by rw [hml]; rfl) [(.int (2 : Int32)), (.ref a117), (.ref a117)] rfl (hb hby at_76) (pc' := 79) rfl (rm1_2 l Z a0 hw a117 h118 n0 ((a98, Own.ArrC Z .long [(.long (9223372036854775807 : Int64)), (.long (9223372036854775807 : Int64)), (.long (9223372036854775807 : Int64)), (.long (9223372036854775807 : Int64)), (.long (9223372036854775807 : Int64)), (.long (9223372036854775807 : Int64)), (.long (9223372036854775807 : Int64)), (.long (9223372036854775807 : Int64))]) :: []) O119) ?_
    rintro _ h122 ⟨ra120, rb121, rfl, O123⟩
    show Own.Goes _ _ _ _ _ _ _ _ _ _ _ _ _ _ _ _ _ (mkF m 79 #[.val (.int p0), .val (.long q1), .second, .val (.long q2), .second, .val (.long q3), .second, .val (.long q4), .second, .val (.int p5), .val (.int (2 : Int32)), .val (.ref a98), .unset, .unset, .unset, .unset, .unset] [(.ref a117)])
    have O124 : Own.Owns n0 h122 ((a117, Own.ObjC Z "com/example/twigline/twigline/matcher/StreamHeads" [(("com/example/twigline/twigline/matcher/StreamHeads", "size", "I"), (.int (2 : Nat).toInt32)), (("com/example/twigline/twigline/matcher/StreamHeads", "starts", "[J"), (.ref ra120)), (("com/example/twigline/twigline/matcher/StreamHeads", "earliest", "[I"), (.ref rb121))]) :: (ra120, Own.ArrC Z .long ([(9223372036854775807 : Int64), (9223372036854775807 : Int64)].map Value.long)) :: (rb121, Own.ArrC Z .int ([0, 0, 0, 1].map gI)) :: (a98, Own.ArrC Z .long ([(9223372036854775807 : Int64), (9223372036854775807 : Int64), (9223372036854775807 : Int64), (9223372036854775807 : Int64), (9223372036854775807 : Int64), (9223372036854775807 : Int64), (9223372036854775807 : Int64), (9223372036854775807 : Int64)].map Value.long)) :: []) := O123
    have hI0 : InvT ([(9223372036854775807 : Int64), (9223372036854775807 : Int64)] : List Int64) [0, 0, 0, 1] 2 := inv_of (by decide +kernel)
    have hL0 : Like ([(9223372036854775807 : Int64), (9223372036854775807 : Int64)] : List Int64) [(9223372036854775807 : Int64), (9223372036854775807 : Int64), (9223372036854775807 : Int64), (9223372036854775807 : Int64), (9223372036854775807 : Int64), (9223372036854775807 : Int64), (9223372036854775807 : Int64), (9223372036854775807 : Int64)] 2 := ⟨rfl, rfl, by decide, by decide +kernel⟩
    refine Own.astore hx #[.val (.int p0), .val (.long q1), .second, .val (.long q2), .second, .val (.long q3), .second, .val (.long q4), .second, .val (.int p5), .val (.int (2 : Int32)), .val (.ref a98), .val (.ref a117), .unset, .unset, .unset, .unset] (hb hby at_79) rfl rfl rfl ?_
    refine Own.iload hx (2 : Int32) (hb hby at_81) rfl rfl ?_
    have hc125 : ¬ ((2 : Int32) = (0 : Int32)) := by decide
    refine Own.ifFn hx (Own.z_ne (2 : Int32)) (hb hby at_83) (pcN := 86) rfl (by decide) (pcT := 104) rfl (fun _ => ?_) (fun q => absurd q hc125)
    refine Own.iload hx p5 (hb hby at_104) rfl rfl ?_
    refine Own.bipush hx (7 : Int32) (hb hby at_106) rfl (by decide) ?_
    refine Own.iand hx (hb hby at_108) rfl ?_
    refine Own.iload hx (2 : Int32) (hb hby at_109) rfl rfl ?_
    refine Own.irem hx (hb hby at_111) rfl (by decide) ?_
    obtain ⟨px0, h_px0⟩ : ∃ z : Int32, z = ((p5 &&& (7 : Int32)) % (2 : Int32)) := ⟨_, rfl⟩
    refine Own.istore hx px0 h_px0 #[.val (.int p0), .val (.long q1), .second, .val (.long q2), .second, .val (.long q3), .second, .val (.long q4), .second, .val (.int p5), .val (.int (2 : Int32)), .val (.ref a98), .val (.ref a117), .val (.int px0), .unset, .unset, .unset] (hb hby at_112) rfl rfl ?_
    refine Own.iload hx p5 (hb hby at_114) rfl rfl ?_
    refine Own.iconst hx (3 : Int32) (hb hby at_116) rfl (by decide) ?_
    refine Own.iushr hx (hb hby at_117) rfl ?_
    refine Own.bipush hx (7 : Int32) (hb hby at_118) rfl (by decide) ?_
    refine Own.iand hx (hb hby at_120) rfl ?_
    refine Own.iload hx (2 : Int32) (hb hby at_121) rfl rfl ?_
    refine Own.irem hx (hb hby at_123) rfl (by decide) ?_
    obtain ⟨px1, h_px1⟩ : ∃ z : Int32, z = (((p5.toUInt32 >>> ((3 : Int32) &&& 31).toUInt32).toInt32 &&& (7 : Int32)) % (2 : Int32)) := ⟨_, rfl⟩
    refine Own.istore hx px1 h_px1 #[.val (.int p0), .val (.long q1), .second, .val (.long q2), .second, .val (.long q3), .second, .val (.long q4), .second, .val (.int p5), .val (.int (2 : Int32)), .val (.ref a98), .val (.ref a117), .val (.int px0), .val (.int px1), .unset, .unset] (hb hby at_124) rfl rfl ?_
    refine Own.iload hx p5 (hb hby at_126) rfl rfl ?_
    refine Own.bipush hx (6 : Int32) (hb hby at_128) rfl (by decide) ?_
    refine Own.iushr hx (hb hby at_130) rfl ?_
    refine Own.bipush hx (7 : Int32) (hb hby at_131) rfl (by decide) ?_
    refine Own.iand hx (hb hby at_133) rfl ?_
    refine Own.iload hx (2 : Int32) (hb hby at_134) rfl rfl ?_
    refine Own.irem hx (hb hby at_136) rfl (by decide) ?_
    obtain ⟨px2, h_px2⟩ : ∃ z : Int32, z = (((p5.toUInt32 >>> ((6 : Int32) &&& 31).toUInt32).toInt32 &&& (7 : Int32)) % (2 : Int32)) := ⟨_, rfl⟩
    refine Own.istore hx px2 h_px2 #[.val (.int p0), .val (.long q1), .second, .val (.long q2), .second, .val (.long q3), .second, .val (.long q4), .second, .val (.int p5), .val (.int (2 : Int32)), .val (.ref a98), .val (.ref a117), .val (.int px0), .val (.int px1), .val (.int px2), .unset] (hb hby at_137) rfl rfl ?_
    refine Own.iload hx p5 (hb hby at_139) rfl rfl ?_
    refine Own.bipush hx (9 : Int32) (hb hby at_141) rfl (by decide) ?_
    refine Own.iushr hx (hb hby at_143) rfl ?_
    refine Own.bipush hx (7 : Int32) (hb hby at_144) rfl (by decide) ?_
    refine Own.iand hx (hb hby at_146) rfl ?_
    refine Own.iload hx (2 : Int32) (hb hby at_147) rfl rfl ?_
    refine Own.irem hx (hb hby at_149) rfl (by decide) ?_
    obtain ⟨px3, h_px3⟩ : ∃ z : Int32, z = (((p5.toUInt32 >>> ((9 : Int32) &&& 31).toUInt32).toInt32 &&& (7 : Int32)) % (2 : Int32)) := ⟨_, rfl⟩
    refine Own.istore hx px3 h_px3 #[.val (.int p0), .val (.long q1), .second, .val (.long q2), .second, .val (.long q3), .second, .val (.long q4), .second, .val (.int p5), .val (.int (2 : Int32)), .val (.ref a98), .val (.ref a117), .val (.int px0), .val (.int px1), .val (.int px2), .val (.int px3)] (hb hby at_150) rfl rfl ?_
    obtain ⟨pl0, hpl0, hlt0⟩ := own_pl h_px0 (sz := 2) (by decide) (by decide)
    obtain ⟨pl1, hpl1, hlt1⟩ := own_pl h_px1 (sz := 2) (by decide) (by decide)
    obtain ⟨pl2, hpl2, hlt2⟩ := own_pl h_px2 (sz := 2) (by decide) (by decide)
    obtain ⟨pl3, hpl3, hlt3⟩ := own_pl h_px3 (sz := 2) (by decide) (by decide)
    refine Own.aload hx (.ref a117) (hb hby at_152) rfl rfl rfl ?_
    refine Own.iload hx px0 (hb hby at_154) rfl rfl ?_
    refine Own.lloadN hx q1 (hb hby at_156) rfl rfl ?_
    have O128 : Own.Owns n0 h122 ((rb121, Own.ArrC Z .int ([0, 0, 0, 1].map gI)) :: (a117, Own.ObjC Z "com/example/twigline/twigline/matcher/StreamHeads" [(("com/example/twigline/twigline/matcher/StreamHeads", "size", "I"), (.int (2 : Nat).toInt32)), (("com/example/twigline/twigline/matcher/StreamHeads", "starts", "[J"), (.ref ra120)), (("com/example/twigline/twigline/matcher/StreamHeads", "earliest", "[I"), (.ref rb121))]) :: (ra120, Own.ArrC Z .long ([(9223372036854775807 : Int64), (9223372036854775807 : Int64)].map Value.long)) :: (a98, Own.ArrC Z .long ([(9223372036854775807 : Int64), (9223372036854775807 : Int64), (9223372036854775807 : Int64), (9223372036854775807 : Int64), (9223372036854775807 : Int64), (9223372036854775807 : Int64), (9223372036854775807 : Int64), (9223372036854775807 : Int64)].map Value.long)) :: []) := O124.pick 2 rfl
    have O129 : Own.Owns n0 h122 ((ra120, Own.ArrC Z .long ([(9223372036854775807 : Int64), (9223372036854775807 : Int64)].map Value.long)) :: (rb121, Own.ArrC Z .int ([0, 0, 0, 1].map gI)) :: (a117, Own.ObjC Z "com/example/twigline/twigline/matcher/StreamHeads" [(("com/example/twigline/twigline/matcher/StreamHeads", "size", "I"), (.int (2 : Nat).toInt32)), (("com/example/twigline/twigline/matcher/StreamHeads", "starts", "[J"), (.ref ra120)), (("com/example/twigline/twigline/matcher/StreamHeads", "earliest", "[I"), (.ref rb121))]) :: (a98, Own.ArrC Z .long ([(9223372036854775807 : Int64), (9223372036854775807 : Int64), (9223372036854775807 : Int64), (9223372036854775807 : Int64), (9223372036854775807 : Int64), (9223372036854775807 : Int64), (9223372036854775807 : Int64), (9223372036854775807 : Int64)].map Value.long)) :: []) := O128.pick 2 rfl
    have O130 : Own.Owns n0 h122 ((a117, Own.ObjC Z "com/example/twigline/twigline/matcher/StreamHeads" [(("com/example/twigline/twigline/matcher/StreamHeads", "size", "I"), (.int (2 : Nat).toInt32)), (("com/example/twigline/twigline/matcher/StreamHeads", "starts", "[J"), (.ref ra120)), (("com/example/twigline/twigline/matcher/StreamHeads", "earliest", "[I"), (.ref rb121))]) :: (ra120, Own.ArrC Z .long ([(9223372036854775807 : Int64), (9223372036854775807 : Int64)].map Value.long)) :: (rb121, Own.ArrC Z .int ([0, 0, 0, 1].map gI)) :: (a98, Own.ArrC Z .long ([(9223372036854775807 : Int64), (9223372036854775807 : Int64), (9223372036854775807 : Int64), (9223372036854775807 : Int64), (9223372036854775807 : Int64), (9223372036854775807 : Int64), (9223372036854775807 : Int64), (9223372036854775807 : Int64)].map Value.long)) :: []) := O129.pick 2 rfl
    refine Own.callV hx hZ hown (O130.exa (i := 0) rfl) (hw _ (List.mem_of_getElem? (i := 28) rfl)) (hw _ (List.mem_of_getElem? (i := 29) rfl)) (hw _ (List.mem_of_getElem? (i := 31) rfl)) (hw _ (List.mem_of_getElem? (i := 30) rfl)) (hw _ (List.mem_of_getElem? (i := 4) rfl)) (hw _ (List.mem_of_getElem? (i := 32) rfl)) (by decide) pd4 (argsL := [(.int px0), (.long q1)]) (rest := []) rfl (W := 0) (Nat.le_of_eq rfl) (rm := ({ frames := 2, cells := 0, slots := 0, locals := 34 } : Room)) (by decide) (by decide) (by decide) (by decide) (k' := 4) (n' := 17) rfl rfl (by rw [hml]; rfl) [(.long q1), (.int px0), (.ref a117)] rfl (hb hby at_157) (pc' := 160) rfl (rm5 l Z a0 hw a117 px0 q1 h122 n0 pl0 2 ra120 rb121 [(9223372036854775807 : Int64), (9223372036854775807 : Int64)] [0, 0, 0, 1] (by decide) hpl0 hlt0 hI0 ((a98, Own.ArrC Z .long ([(9223372036854775807 : Int64), (9223372036854775807 : Int64), (9223372036854775807 : Int64), (9223372036854775807 : Int64), (9223372036854775807 : Int64), (9223372036854775807 : Int64), (9223372036854775807 : Int64), (9223372036854775807 : Int64)].map Value.long)) :: []) O130) ?_
    rintro _ h131 ⟨es127, rfl, hI1, O132⟩
    show Own.Goes _ _ _ _ _ _ _ _ _ _ _ _ _ _ _ _ _ (mkF m 160 #[.val (.int p0), .val (.long q1), .second, .val (.long q2), .second, .val (.long q3), .second, .val (.long q4), .second, .val (.int p5), .val (.int (2 : Int32)), .val (.ref a98), .val (.ref a117), .val (.int px0), .val (.int px1), .val (.int px2), .val (.int px3)] [])
    refine Own.aload hx (.ref a98) (hb hby at_160) rfl rfl rfl ?_
    refine Own.iload hx px0 (hb hby at_162) rfl rfl ?_
    refine Own.lloadN hx q1 (hb hby at_164) rfl rfl ?_
    have hL1 := like_set (x := q1) hL0 hlt0
    refine Own.lastore hx hZ O132 3 pl0 rfl hpl0 (by rw [List.length_map, hL0.2.1]; omega) ((a117, Own.ObjC Z "com/example/twigline/twigline/matcher/StreamHeads" [(("com/example/twigline/twigline/matcher/StreamHeads", "size", "I"), (.int (2 : Nat).toInt32)), (("com/example/twigline/twigline/matcher/StreamHeads", "starts", "[J"), (.ref ra120)), (("com/example/twigline/twigline/matcher/StreamHeads", "earliest", "[I"), (.ref rb121))]) :: (ra120, Own.ArrC Z .long (([(9223372036854775807 : Int64), (9223372036854775807 : Int64)].set pl0 q1).map Value.long)) :: (rb121, Own.ArrC Z .int (es127.map gI)) :: (a98, Own.ArrC Z .long (([(9223372036854775807 : Int64), (9223372036854775807 : Int64), (9223372036854775807 : Int64), (9223372036854775807 : Int64), (9223372036854775807 : Int64), (9223372036854775807 : Int64), (9223372036854775807 : Int64), (9223372036854775807 : Int64)].set pl0 q1).map Value.long)) :: []) (by rw [← show ([(9223372036854775807 : Int64), (9223372036854775807 : Int64), (9223372036854775807 : Int64), (9223372036854775807 : Int64), (9223372036854775807 : Int64), (9223372036854775807 : Int64), (9223372036854775807 : Int64), (9223372036854775807 : Int64)].map Value.long).set pl0 (Value.long q1) = (([(9223372036854775807 : Int64), (9223372036854775807 : Int64), (9223372036854775807 : Int64), (9223372036854775807 : Int64), (9223372036854775807 : Int64), (9223372036854775807 : Int64), (9223372036854775807 : Int64), (9223372036854775807 : Int64)].set pl0 q1).map Value.long) from (List.map_set).symm]; rfl) (hb hby at_165) rfl ?_
    intro h133 O134
    refine Own.aload hx (.ref a117) (hb hby at_166) rfl rfl rfl ?_
    refine Own.iload hx px1 (hb hby at_168) rfl rfl ?_
    refine Own.lloadN hx q2 (hb hby at_170) rfl rfl ?_
    have O136 : Own.Owns n0 h133 ((rb121, Own.ArrC Z .int (es127.map gI)) :: (a117, Own.ObjC Z "com/example/twigline/twigline/matcher/StreamHeads" [(("com/example/twigline/twigline/matcher/StreamHeads", "size", "I"), (.int (2 : Nat).toInt32)), (("com/example/twigline/twigline/matcher/StreamHeads", "starts", "[J"), (.ref ra120)), (("com/example/twigline/twigline/matcher/StreamHeads", "earliest", "[I"), (.ref rb121))]) :: (ra120, Own.ArrC Z .long (([(9223372036854775807 : Int64), (9223372036854775807 : Int64)].set pl0 q1).map Value.long)) :: (a98, Own.ArrC Z .long (([(9223372036854775807 : Int64), (9223372036854775807 : Int64), (9223372036854775807 : Int64), (9223372036854775807 : Int64), (9223372036854775807 : Int64), (9223372036854775807 : Int64), (9223372036854775807 : Int64), (9223372036854775807 : Int64)].set pl0 q1).map Value.long)) :: []) := O134.pick 2 rfl
    have O137 : Own.Owns n0 h133 ((ra120, Own.ArrC Z .long (([(9223372036854775807 : Int64), (9223372036854775807 : Int64)].set pl0 q1).map Value.long)) :: (rb121, Own.ArrC Z .int (es127.map gI)) :: (a117, Own.ObjC Z "com/example/twigline/twigline/matcher/StreamHeads" [(("com/example/twigline/twigline/matcher/StreamHeads", "size", "I"), (.int (2 : Nat).toInt32)), (("com/example/twigline/twigline/matcher/StreamHeads", "starts", "[J"), (.ref ra120)), (("com/example/twigline/twigline/matcher/StreamHeads", "earliest", "[I"), (.ref rb121))]) :: (a98, Own.ArrC Z .long (([(9223372036854775807 : Int64), (9223372036854775807 : Int64), (9223372036854775807 : Int64), (9223372036854775807 : Int64), (9223372036854775807 : Int64), (9223372036854775807 : Int64), (9223372036854775807 : Int64), (9223372036854775807 : Int64)].set pl0 q1).map Value.long)) :: []) := O136.pick 2 rfl
    have O138 : Own.Owns n0 h133 ((a117, Own.ObjC Z "com/example/twigline/twigline/matcher/StreamHeads" [(("com/example/twigline/twigline/matcher/StreamHeads", "size", "I"), (.int (2 : Nat).toInt32)), (("com/example/twigline/twigline/matcher/StreamHeads", "starts", "[J"), (.ref ra120)), (("com/example/twigline/twigline/matcher/StreamHeads", "earliest", "[I"), (.ref rb121))]) :: (ra120, Own.ArrC Z .long (([(9223372036854775807 : Int64), (9223372036854775807 : Int64)].set pl0 q1).map Value.long)) :: (rb121, Own.ArrC Z .int (es127.map gI)) :: (a98, Own.ArrC Z .long (([(9223372036854775807 : Int64), (9223372036854775807 : Int64), (9223372036854775807 : Int64), (9223372036854775807 : Int64), (9223372036854775807 : Int64), (9223372036854775807 : Int64), (9223372036854775807 : Int64), (9223372036854775807 : Int64)].set pl0 q1).map Value.long)) :: []) := O137.pick 2 rfl
    refine Own.callV hx hZ hown (O138.exa (i := 0) rfl) (hw _ (List.mem_of_getElem? (i := 28) rfl)) (hw _ (List.mem_of_getElem? (i := 29) rfl)) (hw _ (List.mem_of_getElem? (i := 31) rfl)) (hw _ (List.mem_of_getElem? (i := 30) rfl)) (hw _ (List.mem_of_getElem? (i := 4) rfl)) (hw _ (List.mem_of_getElem? (i := 32) rfl)) (by decide) pd4 (argsL := [(.int px1), (.long q2)]) (rest := []) rfl (W := 0) (Nat.le_of_eq rfl) (rm := ({ frames := 2, cells := 0, slots := 0, locals := 34 } : Room)) (by decide) (by decide) (by decide) (by decide) (k' := 4) (n' := 17) rfl rfl (by rw [hml]; rfl) [(.long q2), (.int px1), (.ref a117)] rfl (hb hby at_171) (pc' := 174) rfl (rm5 l Z a0 hw a117 px1 q2 h133 n0 pl1 2 ra120 rb121 ([(9223372036854775807 : Int64), (9223372036854775807 : Int64)].set pl0 q1) es127 (by decide) hpl1 hlt1 hI1 ((a98, Own.ArrC Z .long (([(9223372036854775807 : Int64), (9223372036854775807 : Int64), (9223372036854775807 : Int64), (9223372036854775807 : Int64), (9223372036854775807 : Int64), (9223372036854775807 : Int64), (9223372036854775807 : Int64), (9223372036854775807 : Int64)].set pl0 q1).map Value.long)) :: []) O138) ?_
    rintro _ h139 ⟨es135, rfl, hI2, O140⟩
    show Own.Goes _ _ _ _ _ _ _ _ _ _ _ _ _ _ _ _ _ (mkF m 174 #[.val (.int p0), .val (.long q1), .second, .val (.long q2), .second, .val (.long q3), .second, .val (.long q4), .second, .val (.int p5), .val (.int (2 : Int32)), .val (.ref a98), .val (.ref a117), .val (.int px0), .val (.int px1), .val (.int px2), .val (.int px3)] [])
    refine Own.aload hx (.ref a98) (hb hby at_174) rfl rfl rfl ?_
    refine Own.iload hx px1 (hb hby at_176) rfl rfl ?_
    refine Own.lloadN hx q2 (hb hby at_178) rfl rfl ?_
    have hL2 := like_set (x := q2) hL1 hlt1
    refine Own.lastore hx hZ O140 3 pl1 rfl hpl1 (by rw [List.length_map, hL1.2.1]; omega) ((a117, Own.ObjC Z "com/example/twigline/twigline/matcher/StreamHeads" [(("com/example/twigline/twigline/matcher/StreamHeads", "size", "I"), (.int (2 : Nat).toInt32)), (("com/example/twigline/twigline/matcher/StreamHeads", "starts", "[J"), (.ref ra120)), (("com/example/twigline/twigline/matcher/StreamHeads", "earliest", "[I"), (.ref rb121))]) :: (ra120, Own.ArrC Z .long ((([(9223372036854775807 : Int64), (9223372036854775807 : Int64)].set pl0 q1).set pl1 q2).map Value.long)) :: (rb121, Own.ArrC Z .int (es135.map gI)) :: (a98, Own.ArrC Z .long ((([(9223372036854775807 : Int64), (9223372036854775807 : Int64), (9223372036854775807 : Int64), (9223372036854775807 : Int64), (9223372036854775807 : Int64), (9223372036854775807 : Int64), (9223372036854775807 : Int64), (9223372036854775807 : Int64)].set pl0 q1).set pl1 q2).map Value.long)) :: []) (by rw [← show (([(9223372036854775807 : Int64), (9223372036854775807 : Int64), (9223372036854775807 : Int64), (9223372036854775807 : Int64), (9223372036854775807 : Int64), (9223372036854775807 : Int64), (9223372036854775807 : Int64), (9223372036854775807 : Int64)].set pl0 q1).map Value.long).set pl1 (Value.long q2) = ((([(9223372036854775807 : Int64), (9223372036854775807 : Int64), (9223372036854775807 : Int64), (9223372036854775807 : Int64), (9223372036854775807 : Int64), (9223372036854775807 : Int64), (9223372036854775807 : Int64), (9223372036854775807 : Int64)].set pl0 q1).set pl1 q2).map Value.long) from (List.map_set).symm]; rfl) (hb hby at_179) rfl ?_
    intro h141 O142
    refine Own.aload hx (.ref a117) (hb hby at_180) rfl rfl rfl ?_
    refine Own.iload hx px2 (hb hby at_182) rfl rfl ?_
    refine Own.lload hx q3 (hb hby at_184) rfl rfl ?_
    have O144 : Own.Owns n0 h141 ((rb121, Own.ArrC Z .int (es135.map gI)) :: (a117, Own.ObjC Z "com/example/twigline/twigline/matcher/StreamHeads" [(("com/example/twigline/twigline/matcher/StreamHeads", "size", "I"), (.int (2 : Nat).toInt32)), (("com/example/twigline/twigline/matcher/StreamHeads", "starts", "[J"), (.ref ra120)), (("com/example/twigline/twigline/matcher/StreamHeads", "earliest", "[I"), (.ref rb121))]) :: (ra120, Own.ArrC Z .long ((([(9223372036854775807 : Int64), (9223372036854775807 : Int64)].set pl0 q1).set pl1 q2).map Value.long)) :: (a98, Own.ArrC Z .long ((([(9223372036854775807 : Int64), (9223372036854775807 : Int64), (9223372036854775807 : Int64), (9223372036854775807 : Int64), (9223372036854775807 : Int64), (9223372036854775807 : Int64), (9223372036854775807 : Int64), (9223372036854775807 : Int64)].set pl0 q1).set pl1 q2).map Value.long)) :: []) := O142.pick 2 rfl
    have O145 : Own.Owns n0 h141 ((ra120, Own.ArrC Z .long ((([(9223372036854775807 : Int64), (9223372036854775807 : Int64)].set pl0 q1).set pl1 q2).map Value.long)) :: (rb121, Own.ArrC Z .int (es135.map gI)) :: (a117, Own.ObjC Z "com/example/twigline/twigline/matcher/StreamHeads" [(("com/example/twigline/twigline/matcher/StreamHeads", "size", "I"), (.int (2 : Nat).toInt32)), (("com/example/twigline/twigline/matcher/StreamHeads", "starts", "[J"), (.ref ra120)), (("com/example/twigline/twigline/matcher/StreamHeads", "earliest", "[I"), (.ref rb121))]) :: (a98, Own.ArrC Z .long ((([(9223372036854775807 : Int64), (9223372036854775807 : Int64), (9223372036854775807 : Int64), (9223372036854775807 : Int64), (9223372036854775807 : Int64), (9223372036854775807 : Int64), (9223372036854775807 : Int64), (9223372036854775807 : Int64)].set pl0 q1).set pl1 q2).map Value.long)) :: []) := O144.pick 2 rfl
    have O146 : Own.Owns n0 h141 ((a117, Own.ObjC Z "com/example/twigline/twigline/matcher/StreamHeads" [(("com/example/twigline/twigline/matcher/StreamHeads", "size", "I"), (.int (2 : Nat).toInt32)), (("com/example/twigline/twigline/matcher/StreamHeads", "starts", "[J"), (.ref ra120)), (("com/example/twigline/twigline/matcher/StreamHeads", "earliest", "[I"), (.ref rb121))]) :: (ra120, Own.ArrC Z .long ((([(9223372036854775807 : Int64), (9223372036854775807 : Int64)].set pl0 q1).set pl1 q2).map Value.long)) :: (rb121, Own.ArrC Z .int (es135.map gI)) :: (a98, Own.ArrC Z .long ((([(9223372036854775807 : Int64), (9223372036854775807 : Int64), (9223372036854775807 : Int64), (9223372036854775807 : Int64), (9223372036854775807 : Int64), (9223372036854775807 : Int64), (9223372036854775807 : Int64), (9223372036854775807 : Int64)].set pl0 q1).set pl1 q2).map Value.long)) :: []) := O145.pick 2 rfl
    refine Own.callV hx hZ hown (O146.exa (i := 0) rfl) (hw _ (List.mem_of_getElem? (i := 28) rfl)) (hw _ (List.mem_of_getElem? (i := 29) rfl)) (hw _ (List.mem_of_getElem? (i := 31) rfl)) (hw _ (List.mem_of_getElem? (i := 30) rfl)) (hw _ (List.mem_of_getElem? (i := 4) rfl)) (hw _ (List.mem_of_getElem? (i := 32) rfl)) (by decide) pd4 (argsL := [(.int px2), (.long q3)]) (rest := []) rfl (W := 0) (Nat.le_of_eq rfl) (rm := ({ frames := 2, cells := 0, slots := 0, locals := 34 } : Room)) (by decide) (by decide) (by decide) (by decide) (k' := 4) (n' := 17) rfl rfl (by rw [hml]; rfl) [(.long q3), (.int px2), (.ref a117)] rfl (hb hby at_186) (pc' := 189) rfl (rm5 l Z a0 hw a117 px2 q3 h141 n0 pl2 2 ra120 rb121 (([(9223372036854775807 : Int64), (9223372036854775807 : Int64)].set pl0 q1).set pl1 q2) es135 (by decide) hpl2 hlt2 hI2 ((a98, Own.ArrC Z .long ((([(9223372036854775807 : Int64), (9223372036854775807 : Int64), (9223372036854775807 : Int64), (9223372036854775807 : Int64), (9223372036854775807 : Int64), (9223372036854775807 : Int64), (9223372036854775807 : Int64), (9223372036854775807 : Int64)].set pl0 q1).set pl1 q2).map Value.long)) :: []) O146) ?_
    rintro _ h147 ⟨es143, rfl, hI3, O148⟩
    show Own.Goes _ _ _ _ _ _ _ _ _ _ _ _ _ _ _ _ _ (mkF m 189 #[.val (.int p0), .val (.long q1), .second, .val (.long q2), .second, .val (.long q3), .second, .val (.long q4), .second, .val (.int p5), .val (.int (2 : Int32)), .val (.ref a98), .val (.ref a117), .val (.int px0), .val (.int px1), .val (.int px2), .val (.int px3)] [])
    refine Own.aload hx (.ref a98) (hb hby at_189) rfl rfl rfl ?_
    refine Own.iload hx px2 (hb hby at_191) rfl rfl ?_
    refine Own.lload hx q3 (hb hby at_193) rfl rfl ?_
    have hL3 := like_set (x := q3) hL2 hlt2
    refine Own.lastore hx hZ O148 3 pl2 rfl hpl2 (by rw [List.length_map, hL2.2.1]; omega) ((a117, Own.ObjC Z "com/example/twigline/twigline/matcher/StreamHeads" [(("com/example/twigline/twigline/matcher/StreamHeads", "size", "I"), (.int (2 : Nat).toInt32)), (("com/example/twigline/twigline/matcher/StreamHeads", "starts", "[J"), (.ref ra120)), (("com/example/twigline/twigline/matcher/StreamHeads", "earliest", "[I"), (.ref rb121))]) :: (ra120, Own.ArrC Z .long (((([(9223372036854775807 : Int64), (9223372036854775807 : Int64)].set pl0 q1).set pl1 q2).set pl2 q3).map Value.long)) :: (rb121, Own.ArrC Z .int (es143.map gI)) :: (a98, Own.ArrC Z .long (((([(9223372036854775807 : Int64), (9223372036854775807 : Int64), (9223372036854775807 : Int64), (9223372036854775807 : Int64), (9223372036854775807 : Int64), (9223372036854775807 : Int64), (9223372036854775807 : Int64), (9223372036854775807 : Int64)].set pl0 q1).set pl1 q2).set pl2 q3).map Value.long)) :: []) (by rw [← show ((([(9223372036854775807 : Int64), (9223372036854775807 : Int64), (9223372036854775807 : Int64), (9223372036854775807 : Int64), (9223372036854775807 : Int64), (9223372036854775807 : Int64), (9223372036854775807 : Int64), (9223372036854775807 : Int64)].set pl0 q1).set pl1 q2).map Value.long).set pl2 (Value.long q3) = (((([(9223372036854775807 : Int64), (9223372036854775807 : Int64), (9223372036854775807 : Int64), (9223372036854775807 : Int64), (9223372036854775807 : Int64), (9223372036854775807 : Int64), (9223372036854775807 : Int64), (9223372036854775807 : Int64)].set pl0 q1).set pl1 q2).set pl2 q3).map Value.long) from (List.map_set).symm]; rfl) (hb hby at_195) rfl ?_
    intro h149 O150
    refine Own.aload hx (.ref a117) (hb hby at_196) rfl rfl rfl ?_
    refine Own.iload hx px3 (hb hby at_198) rfl rfl ?_
    refine Own.lload hx q4 (hb hby at_200) rfl rfl ?_
    have O152 : Own.Owns n0 h149 ((rb121, Own.ArrC Z .int (es143.map gI)) :: (a117, Own.ObjC Z "com/example/twigline/twigline/matcher/StreamHeads" [(("com/example/twigline/twigline/matcher/StreamHeads", "size", "I"), (.int (2 : Nat).toInt32)), (("com/example/twigline/twigline/matcher/StreamHeads", "starts", "[J"), (.ref ra120)), (("com/example/twigline/twigline/matcher/StreamHeads", "earliest", "[I"), (.ref rb121))]) :: (ra120, Own.ArrC Z .long (((([(9223372036854775807 : Int64), (9223372036854775807 : Int64)].set pl0 q1).set pl1 q2).set pl2 q3).map Value.long)) :: (a98, Own.ArrC Z .long (((([(9223372036854775807 : Int64), (9223372036854775807 : Int64), (9223372036854775807 : Int64), (9223372036854775807 : Int64), (9223372036854775807 : Int64), (9223372036854775807 : Int64), (9223372036854775807 : Int64), (9223372036854775807 : Int64)].set pl0 q1).set pl1 q2).set pl2 q3).map Value.long)) :: []) := O150.pick 2 rfl
    have O153 : Own.Owns n0 h149 ((ra120, Own.ArrC Z .long (((([(9223372036854775807 : Int64), (9223372036854775807 : Int64)].set pl0 q1).set pl1 q2).set pl2 q3).map Value.long)) :: (rb121, Own.ArrC Z .int (es143.map gI)) :: (a117, Own.ObjC Z "com/example/twigline/twigline/matcher/StreamHeads" [(("com/example/twigline/twigline/matcher/StreamHeads", "size", "I"), (.int (2 : Nat).toInt32)), (("com/example/twigline/twigline/matcher/StreamHeads", "starts", "[J"), (.ref ra120)), (("com/example/twigline/twigline/matcher/StreamHeads", "earliest", "[I"), (.ref rb121))]) :: (a98, Own.ArrC Z .long (((([(9223372036854775807 : Int64), (9223372036854775807 : Int64), (9223372036854775807 : Int64), (9223372036854775807 : Int64), (9223372036854775807 : Int64), (9223372036854775807 : Int64), (9223372036854775807 : Int64), (9223372036854775807 : Int64)].set pl0 q1).set pl1 q2).set pl2 q3).map Value.long)) :: []) := O152.pick 2 rfl
    have O154 : Own.Owns n0 h149 ((a117, Own.ObjC Z "com/example/twigline/twigline/matcher/StreamHeads" [(("com/example/twigline/twigline/matcher/StreamHeads", "size", "I"), (.int (2 : Nat).toInt32)), (("com/example/twigline/twigline/matcher/StreamHeads", "starts", "[J"), (.ref ra120)), (("com/example/twigline/twigline/matcher/StreamHeads", "earliest", "[I"), (.ref rb121))]) :: (ra120, Own.ArrC Z .long (((([(9223372036854775807 : Int64), (9223372036854775807 : Int64)].set pl0 q1).set pl1 q2).set pl2 q3).map Value.long)) :: (rb121, Own.ArrC Z .int (es143.map gI)) :: (a98, Own.ArrC Z .long (((([(9223372036854775807 : Int64), (9223372036854775807 : Int64), (9223372036854775807 : Int64), (9223372036854775807 : Int64), (9223372036854775807 : Int64), (9223372036854775807 : Int64), (9223372036854775807 : Int64), (9223372036854775807 : Int64)].set pl0 q1).set pl1 q2).set pl2 q3).map Value.long)) :: []) := O153.pick 2 rfl
    refine Own.callV hx hZ hown (O154.exa (i := 0) rfl) (hw _ (List.mem_of_getElem? (i := 28) rfl)) (hw _ (List.mem_of_getElem? (i := 29) rfl)) (hw _ (List.mem_of_getElem? (i := 31) rfl)) (hw _ (List.mem_of_getElem? (i := 30) rfl)) (hw _ (List.mem_of_getElem? (i := 4) rfl)) (hw _ (List.mem_of_getElem? (i := 32) rfl)) (by decide) pd4 (argsL := [(.int px3), (.long q4)]) (rest := []) rfl (W := 0) (Nat.le_of_eq rfl) (rm := ({ frames := 2, cells := 0, slots := 0, locals := 34 } : Room)) (by decide) (by decide) (by decide) (by decide) (k' := 4) (n' := 17) rfl rfl (by rw [hml]; rfl) [(.long q4), (.int px3), (.ref a117)] rfl (hb hby at_202) (pc' := 205) rfl (rm5 l Z a0 hw a117 px3 q4 h149 n0 pl3 2 ra120 rb121 ((([(9223372036854775807 : Int64), (9223372036854775807 : Int64)].set pl0 q1).set pl1 q2).set pl2 q3) es143 (by decide) hpl3 hlt3 hI3 ((a98, Own.ArrC Z .long (((([(9223372036854775807 : Int64), (9223372036854775807 : Int64), (9223372036854775807 : Int64), (9223372036854775807 : Int64), (9223372036854775807 : Int64), (9223372036854775807 : Int64), (9223372036854775807 : Int64), (9223372036854775807 : Int64)].set pl0 q1).set pl1 q2).set pl2 q3).map Value.long)) :: []) O154) ?_
    rintro _ h155 ⟨es151, rfl, hI4, O156⟩
    show Own.Goes _ _ _ _ _ _ _ _ _ _ _ _ _ _ _ _ _ (mkF m 205 #[.val (.int p0), .val (.long q1), .second, .val (.long q2), .second, .val (.long q3), .second, .val (.long q4), .second, .val (.int p5), .val (.int (2 : Int32)), .val (.ref a98), .val (.ref a117), .val (.int px0), .val (.int px1), .val (.int px2), .val (.int px3)] [])
    refine Own.aload hx (.ref a98) (hb hby at_205) rfl rfl rfl ?_
    refine Own.iload hx px3 (hb hby at_207) rfl rfl ?_
    refine Own.lload hx q4 (hb hby at_209) rfl rfl ?_
    have hL4 := like_set (x := q4) hL3 hlt3
    refine Own.lastore hx hZ O156 3 pl3 rfl hpl3 (by rw [List.length_map, hL3.2.1]; omega) ((a117, Own.ObjC Z "com/example/twigline/twigline/matcher/StreamHeads" [(("com/example/twigline/twigline/matcher/StreamHeads", "size", "I"), (.int (2 : Nat).toInt32)), (("com/example/twigline/twigline/matcher/StreamHeads", "starts", "[J"), (.ref ra120)), (("com/example/twigline/twigline/matcher/StreamHeads", "earliest", "[I"), (.ref rb121))]) :: (ra120, Own.ArrC Z .long ((((([(9223372036854775807 : Int64), (9223372036854775807 : Int64)].set pl0 q1).set pl1 q2).set pl2 q3).set pl3 q4).map Value.long)) :: (rb121, Own.ArrC Z .int (es151.map gI)) :: (a98, Own.ArrC Z .long ((((([(9223372036854775807 : Int64), (9223372036854775807 : Int64), (9223372036854775807 : Int64), (9223372036854775807 : Int64), (9223372036854775807 : Int64), (9223372036854775807 : Int64), (9223372036854775807 : Int64), (9223372036854775807 : Int64)].set pl0 q1).set pl1 q2).set pl2 q3).set pl3 q4).map Value.long)) :: []) (by rw [← show (((([(9223372036854775807 : Int64), (9223372036854775807 : Int64), (9223372036854775807 : Int64), (9223372036854775807 : Int64), (9223372036854775807 : Int64), (9223372036854775807 : Int64), (9223372036854775807 : Int64), (9223372036854775807 : Int64)].set pl0 q1).set pl1 q2).set pl2 q3).map Value.long).set pl3 (Value.long q4) = ((((([(9223372036854775807 : Int64), (9223372036854775807 : Int64), (9223372036854775807 : Int64), (9223372036854775807 : Int64), (9223372036854775807 : Int64), (9223372036854775807 : Int64), (9223372036854775807 : Int64), (9223372036854775807 : Int64)].set pl0 q1).set pl1 q2).set pl2 q3).set pl3 q4).map Value.long) from (List.map_set).symm]; rfl) (hb hby at_211) rfl ?_
    intro h157 O158
    refine Own.aload hx (.ref a117) (hb hby at_212) rfl rfl rfl ?_
    have O159 : Own.Owns n0 h157 ((rb121, Own.ArrC Z .int (es151.map gI)) :: (a117, Own.ObjC Z "com/example/twigline/twigline/matcher/StreamHeads" [(("com/example/twigline/twigline/matcher/StreamHeads", "size", "I"), (.int (2 : Nat).toInt32)), (("com/example/twigline/twigline/matcher/StreamHeads", "starts", "[J"), (.ref ra120)), (("com/example/twigline/twigline/matcher/StreamHeads", "earliest", "[I"), (.ref rb121))]) :: (ra120, Own.ArrC Z .long ((((([(9223372036854775807 : Int64), (9223372036854775807 : Int64)].set pl0 q1).set pl1 q2).set pl2 q3).set pl3 q4).map Value.long)) :: (a98, Own.ArrC Z .long ((((([(9223372036854775807 : Int64), (9223372036854775807 : Int64), (9223372036854775807 : Int64), (9223372036854775807 : Int64), (9223372036854775807 : Int64), (9223372036854775807 : Int64), (9223372036854775807 : Int64), (9223372036854775807 : Int64)].set pl0 q1).set pl1 q2).set pl2 q3).set pl3 q4).map Value.long)) :: []) := O158.pick 2 rfl
    have O160 : Own.Owns n0 h157 ((ra120, Own.ArrC Z .long ((((([(9223372036854775807 : Int64), (9223372036854775807 : Int64)].set pl0 q1).set pl1 q2).set pl2 q3).set pl3 q4).map Value.long)) :: (rb121, Own.ArrC Z .int (es151.map gI)) :: (a117, Own.ObjC Z "com/example/twigline/twigline/matcher/StreamHeads" [(("com/example/twigline/twigline/matcher/StreamHeads", "size", "I"), (.int (2 : Nat).toInt32)), (("com/example/twigline/twigline/matcher/StreamHeads", "starts", "[J"), (.ref ra120)), (("com/example/twigline/twigline/matcher/StreamHeads", "earliest", "[I"), (.ref rb121))]) :: (a98, Own.ArrC Z .long ((((([(9223372036854775807 : Int64), (9223372036854775807 : Int64), (9223372036854775807 : Int64), (9223372036854775807 : Int64), (9223372036854775807 : Int64), (9223372036854775807 : Int64), (9223372036854775807 : Int64), (9223372036854775807 : Int64)].set pl0 q1).set pl1 q2).set pl2 q3).set pl3 q4).map Value.long)) :: []) := O159.pick 2 rfl
    have O161 : Own.Owns n0 h157 ((a117, Own.ObjC Z "com/example/twigline/twigline/matcher/StreamHeads" [(("com/example/twigline/twigline/matcher/StreamHeads", "size", "I"), (.int (2 : Nat).toInt32)), (("com/example/twigline/twigline/matcher/StreamHeads", "starts", "[J"), (.ref ra120)), (("com/example/twigline/twigline/matcher/StreamHeads", "earliest", "[I"), (.ref rb121))]) :: (ra120, Own.ArrC Z .long ((((([(9223372036854775807 : Int64), (9223372036854775807 : Int64)].set pl0 q1).set pl1 q2).set pl2 q3).set pl3 q4).map Value.long)) :: (rb121, Own.ArrC Z .int (es151.map gI)) :: (a98, Own.ArrC Z .long ((((([(9223372036854775807 : Int64), (9223372036854775807 : Int64), (9223372036854775807 : Int64), (9223372036854775807 : Int64), (9223372036854775807 : Int64), (9223372036854775807 : Int64), (9223372036854775807 : Int64), (9223372036854775807 : Int64)].set pl0 q1).set pl1 q2).set pl2 q3).set pl3 q4).map Value.long)) :: []) := O160.pick 2 rfl
    refine Own.callV hx hZ hown (O161.exa (i := 0) rfl) (hw _ (List.mem_of_getElem? (i := 18) rfl)) (hw _ (List.mem_of_getElem? (i := 19) rfl)) (hw _ (List.mem_of_getElem? (i := 21) rfl)) (hw _ (List.mem_of_getElem? (i := 20) rfl)) (hw _ (List.mem_of_getElem? (i := 4) rfl)) (hw _ (List.mem_of_getElem? (i := 22) rfl)) (by decide) pd3 (argsL := []) (rest := []) rfl (W := 0) (Nat.le_of_eq rfl) (rm := ({ frames := 0, cells := 0, slots := 0, locals := 0 } : Room)) (by decide) (by decide) (by decide) (by decide) (k' := 4) (n' := 17) rfl rfl (by rw [hml]; rfl) [(.ref a117)] rfl (hb hby at_214) (pc' := 217) rfl (rm3 l Z a0 hw a117 h157 n0 2 ra120 rb121 (((([(9223372036854775807 : Int64), (9223372036854775807 : Int64)].set pl0 q1).set pl1 q2).set pl2 q3).set pl3 q4) es151 (by decide) (by decide) hI4 ((a98, Own.ArrC Z .long ((((([(9223372036854775807 : Int64), (9223372036854775807 : Int64), (9223372036854775807 : Int64), (9223372036854775807 : Int64), (9223372036854775807 : Int64), (9223372036854775807 : Int64), (9223372036854775807 : Int64), (9223372036854775807 : Int64)].set pl0 q1).set pl1 q2).set pl2 q3).set pl3 q4).map Value.long)) :: []) O161) ?_
    rintro _ h' ⟨rfl, eh⟩
    rw [eh]; clear eh h'
    show Own.Goes _ _ _ _ _ _ _ _ _ _ _ _ _ _ _ _ _ (mkF m 217 #[.val (.int p0), .val (.long q1), .second, .val (.long q2), .second, .val (.long q3), .second, .val (.long q4), .second, .val (.int p5), .val (.int (2 : Int32)), .val (.ref a98), .val (.ref a117), .val (.int px0), .val (.int px1), .val (.int px2), .val (.int px3)] [(.long ((((([(9223372036854775807 : Int64), (9223372036854775807 : Int64)].set pl0 q1).set pl1 q2).set pl2 q3).set pl3 q4).getD (es151.getD 1 0) 0))])
    refine Own.aload hx (.ref a98) (hb hby at_217) rfl rfl rfl ?_
    have O162 : Own.Owns n0 h157 ((a98, Own.ArrC Z .long ((((([(9223372036854775807 : Int64), (9223372036854775807 : Int64), (9223372036854775807 : Int64), (9223372036854775807 : Int64), (9223372036854775807 : Int64), (9223372036854775807 : Int64), (9223372036854775807 : Int64), (9223372036854775807 : Int64)].set pl0 q1).set pl1 q2).set pl2 q3).set pl3 q4).map Value.long)) :: (a117, Own.ObjC Z "com/example/twigline/twigline/matcher/StreamHeads" [(("com/example/twigline/twigline/matcher/StreamHeads", "size", "I"), (.int (2 : Nat).toInt32)), (("com/example/twigline/twigline/matcher/StreamHeads", "starts", "[J"), (.ref ra120)), (("com/example/twigline/twigline/matcher/StreamHeads", "earliest", "[I"), (.ref rb121))]) :: (ra120, Own.ArrC Z .long ((((([(9223372036854775807 : Int64), (9223372036854775807 : Int64)].set pl0 q1).set pl1 q2).set pl2 q3).set pl3 q4).map Value.long)) :: (rb121, Own.ArrC Z .int (es151.map gI)) :: []) := O161.pick 3 rfl
    refine Own.callS hx hZ hown (hw _ (List.mem_of_getElem? (i := 37) rfl)) (hw _ (List.mem_of_getElem? (i := 38) rfl)) (hw _ (List.mem_of_getElem? (i := 39) rfl)) (hw _ (List.mem_of_getElem? (i := 40) rfl)) (by decide) pd5 (argsL := [(.ref a98)]) (rest := [(.long ((((([(9223372036854775807 : Int64), (9223372036854775807 : Int64)].set pl0 q1).set pl1 q2).set pl2 q3).set pl3 q4).getD (es151.getD 1 0) 0))]) rfl (W := 2) (Nat.le_of_eq rfl) (rm := ({ frames := 1, cells := 0, slots := 0, locals := 19 } : Room)) (by decide) (by decide) (by decide) (by decide) (k' := 4) (n' := 17) rfl rfl (by rw [hml]; rfl) [(.ref a98), (.long ((((([(9223372036854775807 : Int64), (9223372036854775807 : Int64)].set pl0 q1).set pl1 q2).set pl2 q3).set pl3 q4).getD (es151.getD 1 0) 0))] rfl (hb hby at_219) (pc' := 222) rfl (rm7 l Z a0 hw a98 h157 n0 (((([(9223372036854775807 : Int64), (9223372036854775807 : Int64), (9223372036854775807 : Int64), (9223372036854775807 : Int64), (9223372036854775807 : Int64), (9223372036854775807 : Int64), (9223372036854775807 : Int64), (9223372036854775807 : Int64)].set pl0 q1).set pl1 q2).set pl2 q3).set pl3 q4) hL4.2.1 ((a117, Own.ObjC Z "com/example/twigline/twigline/matcher/StreamHeads" [(("com/example/twigline/twigline/matcher/StreamHeads", "size", "I"), (.int (2 : Nat).toInt32)), (("com/example/twigline/twigline/matcher/StreamHeads", "starts", "[J"), (.ref ra120)), (("com/example/twigline/twigline/matcher/StreamHeads", "earliest", "[I"), (.ref rb121))]) :: (ra120, Own.ArrC Z .long ((((([(9223372036854775807 : Int64), (9223372036854775807 : Int64)].set pl0 q1).set pl1 q2).set pl2 q3).set pl3 q4).map Value.long)) :: (rb121, Own.ArrC Z .int (es151.map gI)) :: []) O162) ?_
    rintro _ h' ⟨rfl, eh⟩
    rw [eh]; clear eh h'
    show Own.Goes _ _ _ _ _ _ _ _ _ _ _ _ _ _ _ _ _ (mkF m 222 #[.val (.int p0), .val (.long q1), .second, .val (.long q2), .second, .val (.long q3), .second, .val (.long q4), .second, .val (.int p5), .val (.int (2 : Int32)), .val (.ref a98), .val (.ref a117), .val (.int px0), .val (.int px1), .val (.int px2), .val (.int px3)] [(.long (fMin8 (((([(9223372036854775807 : Int64), (9223372036854775807 : Int64), (9223372036854775807 : Int64), (9223372036854775807 : Int64), (9223372036854775807 : Int64), (9223372036854775807 : Int64), (9223372036854775807 : Int64), (9223372036854775807 : Int64)].set pl0 q1).set pl1 q2).set pl2 q3).set pl3 q4))), (.long ((((([(9223372036854775807 : Int64), (9223372036854775807 : Int64)].set pl0 q1).set pl1 q2).set pl2 q3).set pl3 q4).getD (es151.getD 1 0) 0))])
    refine Own.lcmp hx (hb hby at_222) rfl ?_
    have hc163 : ((((([(9223372036854775807 : Int64), (9223372036854775807 : Int64)].set pl0 q1).set pl1 q2).set pl2 q3).set pl3 q4).getD (es151.getD 1 0) 0) = (fMin8 (((([(9223372036854775807 : Int64), (9223372036854775807 : Int64), (9223372036854775807 : Int64), (9223372036854775807 : Int64), (9223372036854775807 : Int64), (9223372036854775807 : Int64), (9223372036854775807 : Int64), (9223372036854775807 : Int64)].set pl0 q1).set pl1 q2).set pl2 q3).set pl3 q4)) := like_min hL4 hI4 (by decide)
    refine Own.ifFn hx (Own.w_ne ((((([(9223372036854775807 : Int64), (9223372036854775807 : Int64)].set pl0 q1).set pl1 q2).set pl2 q3).set pl3 q4).getD (es151.getD 1 0) 0) (fMin8 (((([(9223372036854775807 : Int64), (9223372036854775807 : Int64), (9223372036854775807 : Int64), (9223372036854775807 : Int64), (9223372036854775807 : Int64), (9223372036854775807 : Int64), (9223372036854775807 : Int64), (9223372036854775807 : Int64)].set pl0 q1).set pl1 q2).set pl2 q3).set pl3 q4))) (hb hby at_223) (pcN := 226) rfl (by decide) (pcT := 230) rfl (fun q => absurd hc163 q) (fun _ => ?_)
    refine Own.iconst hx (1 : Int32) (hb hby at_226) rfl (by decide) ?_
    refine Own.goto hx (hb hby at_227) (by decide) (pc' := 231) rfl ?_
    exact Own.retS hx hret (by simp) hlk (hb hby at_231) (by decide) (by decide) (Own.bool1 rfl)
  · subst q
    refine Own.bipush hx (8 : Int32) (hb hby at_6) rfl (by decide) ?_
    refine Own.newarr hx hZ O0 (aty := .long) (hw _ (List.mem_of_getElem? (i := 0) rfl)) 8 (by decide) [(.long (0 : Int64)), (.long (0 : Int64)), (.long (0 : Int64)), (.long (0 : Int64)), (.long (0 : Int64)), (.long (0 : Int64)), (.long (0 : Int64)), (.long (0 : Int64))] rfl rfl (cap := 8) (by decide) (by decide) (k' := 1) (n' := 8) rfl rfl (by decide) (by decide) (hb hby at_8) (pc' := 10) rfl ?_
    intro a165 h166 O167
    refine Own.astore hx #[.val (.int p0), .val (.long q1), .second, .val (.long q2), .second, .val (.long q3), .second, .val (.long q4), .second, .val (.int p5), .val (.int (3 : Int32)), .val (.ref a165), .unset, .unset, .unset, .unset, .unset] (hb hby at_10) rfl rfl rfl ?_
    refine Own.aload hx (.ref a165) (hb hby at_12) rfl rfl rfl ?_
    refine Own.iconst hx (0 : Int32) (hb hby at_14) rfl (by decide) ?_
    refine Own.ldc2 hx hZ hown (9223372036854775807 : Int64) (hb hby at_15) rfl (hw _ (List.mem_of_getElem? (i := 1) rfl)) ?_
    refine Own.lastore hx hZ O167 0 0 rfl (by decide) (by exact (show 0 < 8 by decide)) ((a165, Own.ArrC Z .long [(.long (9223372036854775807 : Int64)), (.long (0 : Int64)), (.long (0 : Int64)), (.long (0 : Int64)), (.long (0 : Int64)), (.long (0 : Int64)), (.long (0 : Int64)), (.long (0 : Int64))]) :: []) rfl (hb hby at_18) rfl ?_
    intro h168 O169
    refine Own.aload hx (.ref a165) (hb hby at_19) rfl rfl rfl ?_
    refine Own.iconst hx (1 : Int32) (hb hby at_21) rfl (by decide) ?_
    refine Own.ldc2 hx hZ hown (9223372036854775807 : Int64) (hb hby at_22) rfl (hw _ (List.mem_of_getElem? (i := 1) rfl)) ?_
    refine Own.lastore hx hZ O169 0 1 rfl (by decide) (by exact (show 1 < 8 by decide)) ((a165, Own.ArrC Z .long [(.long (9223372036854775807 : Int64)), (.long (9223372036854775807 : Int64)), (.long (0 : Int64)), (.long (0 : Int64)), (.long (0 : Int64)), (.long (0 : Int64)), (.long (0 : Int64)), (.long (0 : Int64))]) :: []) rfl (hb hby at_25) rfl ?_
    intro h170 O171
    refine Own.aload hx (.ref a165) (hb hby at_26) rfl rfl rfl ?_
    refine Own.iconst hx (2 : Int32) (hb hby at_28) rfl (by decide) ?_
    refine Own.ldc2 hx hZ hown (9223372036854775807 : Int64) (hb hby at_29) rfl (hw _ (List.mem_of_getElem? (i := 1) rfl)) ?_
    refine Own.lastore hx hZ O171 0 2 rfl (by decide) (by exact (show 2 < 8 by decide)) ((a165, Own.ArrC Z .long [(.long (9223372036854775807 : Int64)), (.long (9223372036854775807 : Int64)), (.long (9223372036854775807 : Int64)), (.long (0 : Int64)), (.long (0 : Int64)), (.long (0 : Int64)), (.long (0 : Int64)), (.long (0 : Int64))]) :: []) rfl (hb hby at_32) rfl ?_
    intro h172 O173
    refine Own.aload hx (.ref a165) (hb hby at_33) rfl rfl rfl ?_
    refine Own.iconst hx (3 : Int32) (hb hby at_35) rfl (by decide) ?_
    refine Own.ldc2 hx hZ hown (9223372036854775807 : Int64) (hb hby at_36) rfl (hw _ (List.mem_of_getElem? (i := 1) rfl)) ?_
    refine Own.lastore hx hZ O173 0 3 rfl (by decide) (by exact (show 3 < 8 by decide)) ((a165, Own.ArrC Z .long [(.long (9223372036854775807 : Int64)), (.long (9223372036854775807 : Int64)), (.long (9223372036854775807 : Int64)), (.long (9223372036854775807 : Int64)), (.long (0 : Int64)), (.long (0 : Int64)), (.long (0 : Int64)), (.long (0 : Int64))]) :: []) rfl (hb hby at_39) rfl ?_
    intro h174 O175
    refine Own.aload hx (.ref a165) (hb hby at_40) rfl rfl rfl ?_
    refine Own.iconst hx (4 : Int32) (hb hby at_42) rfl (by decide) ?_
    refine Own.ldc2 hx hZ hown (9223372036854775807 : Int64) (hb hby at_43) rfl (hw _ (List.mem_of_getElem? (i := 1) rfl)) ?_
    refine Own.lastore hx hZ O175 0 4 rfl (by decide) (by exact (show 4 < 8 by decide)) ((a165, Own.ArrC Z .long [(.long (9223372036854775807 : Int64)), (.long (9223372036854775807 : Int64)), (.long (9223372036854775807 : Int64)), (.long (9223372036854775807 : Int64)), (.long (9223372036854775807 : Int64)), (.long (0 : Int64)), (.long (0 : Int64)), (.long (0 : Int64))]) :: []) rfl (hb hby at_46) rfl ?_
    intro h176 O177
    refine Own.aload hx (.ref a165) (hb hby at_47) rfl rfl rfl ?_
    refine Own.iconst hx (5 : Int32) (hb hby at_49) rfl (by decide) ?_
    refine Own.ldc2 hx hZ hown (9223372036854775807 : Int64) (hb hby at_50) rfl (hw _ (List.mem_of_getElem? (i := 1) rfl)) ?_
    refine Own.lastore hx hZ O177 0 5 rfl (by decide) (by exact (show 5 < 8 by decide)) ((a165, Own.ArrC Z .long [(.long (9223372036854775807 : Int64)), (.long (9223372036854775807 : Int64)), (.long (9223372036854775807 : Int64)), (.long (9223372036854775807 : Int64)), (.long (9223372036854775807 : Int64)), (.long (9223372036854775807 : Int64)), (.long (0 : Int64)), (.long (0 : Int64))]) :: []) rfl (hb hby at_53) rfl ?_
    intro h178 O179
    refine Own.aload hx (.ref a165) (hb hby at_54) rfl rfl rfl ?_
    refine Own.bipush hx (6 : Int32) (hb hby at_56) rfl (by decide) ?_
    refine Own.ldc2 hx hZ hown (9223372036854775807 : Int64) (hb hby at_58) rfl (hw _ (List.mem_of_getElem? (i := 1) rfl)) ?_
    refine Own.lastore hx hZ O179 0 6 rfl (by decide) (by exact (show 6 < 8 by decide)) ((a165, Own.ArrC Z .long [(.long (9223372036854775807 : Int64)), (.long (9223372036854775807 : Int64)), (.long (9223372036854775807 : Int64)), (.long (9223372036854775807 : Int64)), (.long (9223372036854775807 : Int64)), (.long (9223372036854775807 : Int64)), (.long (9223372036854775807 : Int64)), (.long (0 : Int64))]) :: []) rfl (hb hby at_61) rfl ?_
    intro h180 O181
    refine Own.aload hx (.ref a165) (hb hby at_62) rfl rfl rfl ?_
    refine Own.bipush hx (7 : Int32) (hb hby at_64) rfl (by decide) ?_
    refine Own.ldc2 hx hZ hown (9223372036854775807 : Int64) (hb hby at_66) rfl (hw _ (List.mem_of_getElem? (i := 1) rfl)) ?_
    refine Own.lastore hx hZ O181 0 7 rfl (by decide) (by exact (show 7 < 8 by decide)) ((a165, Own.ArrC Z .long [(.long (9223372036854775807 : Int64)), (.long (9223372036854775807 : Int64)), (.long (9223372036854775807 : Int64)), (.long (9223372036854775807 : Int64)), (.long (9223372036854775807 : Int64)), (.long (9223372036854775807 : Int64)), (.long (9223372036854775807 : Int64)), (.long (9223372036854775807 : Int64))]) :: []) rfl (hb hby at_69) rfl ?_
    intro h182 O183
    refine Own.newobj hx hZ hown O183 (hw _ (List.mem_of_getElem? (i := 2) rfl)) (hw _ (List.mem_of_getElem? (i := 3) rfl)) (hw _ (List.mem_of_getElem? (i := 4) rfl)) [(("com/example/twigline/twigline/matcher/StreamHeads", "size", "I"), (.int (0 : Int32))), (("com/example/twigline/twigline/matcher/StreamHeads", "starts", "[J"), .null), (("com/example/twigline/twigline/matcher/StreamHeads", "earliest", "[I"), .null)] (by intro f hf; simp only [List.mem_cons, List.not_mem_nil, or_false] at hf; rcases hf with rfl | rfl | rfl; exact ⟨Or.inr (hw _ (List.mem_of_getElem? (i := 12) rfl)), .int, by decide, rfl⟩; exact ⟨Or.inr (hw _ (List.mem_of_getElem? (i := 14) rfl)), (.array .long), by decide, rfl⟩; exact ⟨Or.inr (hw _ (List.mem_of_getElem? (i := 17) rfl)), (.array .int), by decide, rfl⟩) (by decide) (k' := 2) (n' := 11) rfl rfl (by decide) (by decide) (hb hby at_70) (pc' := 73) rfl ?_
    intro a184 h185 O186
    refine Own.dup hx (hb hby at_73) rfl rfl ?_
    refine Own.iload hx (3 : Int32) (hb hby at_74) rfl rfl ?_
    refine Own.callI hx hZ hown rfl (hw _ (List.mem_of_getElem? (i := 5) rfl)) (hw _ (List.mem_of_getElem? (i := 6) rfl)) (hw _ (List.mem_of_getElem? (i := 4) rfl)) (hw _ (List.mem_of_getElem? (i := 7) rfl)) (by decide) pd2 (argsL := [(.int (3 : Int32))]) (rest := [(.ref a184)]) rfl (W := 1) (Nat.le_of_eq rfl) (rm := ({ frames := 1, cells := 2, slots := 9, locals := 16 } : Room)) (by decide) (by decide) (by decide) (by decide) (k' := 4) (n' := 20) rfl rfl (by rw [hml]; rfl) [(.int (3 : Int32)), (.ref a184), (.ref a184)] rfl (hb hby at_76) (pc' := 79) rfl (rm1_3 l Z a0 hw a184 h185 n0 ((a165, Own.ArrC Z .long [(.long (9223372036854775807 : Int64)), (.long (9223372036854775807 : Int64)), (.long (9223372036854775807 : Int64)), (.long (9223372036854775807 : Int64)), (.long (9223372036854775807 : Int64)), (.long (9223372036854775807 : Int64)), (.long (9223372036854775807 : Int64)), (.long (9223372036854775807 : Int64))]) :: []) O186) ?_
    rintro _ h189 ⟨ra187, rb188, rfl, O190⟩
    show Own.Goes _ _ _ _ _ _ _ _ _ _ _ _ _ _ _ _ _ (mkF m 79 #[.val (.int p0), .val (.long q1), .second, .val (.long q2), .second, .val (.long q3), .second, .val (.long q4), .second, .val (.int p5), .val (.int (3 : Int32)), .val (.ref a165), .unset, .unset, .unset, .unset, .unset] [(.ref a184)])
    have O191 : Own.Owns n0 h189 ((a184, Own.ObjC Z "com/example/twigline/twigline/matcher/StreamHeads" [(("com/example/twigline/twigline/matcher/StreamHeads", "size", "I"), (.int (3 : Nat).toInt32)), (("com/example/twigline/twigline/matcher/StreamHeads", "starts", "[J"), (.ref ra187)), (("com/example/twigline/twigline/matcher/StreamHeads", "earliest", "[I"), (.ref rb188))]) :: (ra187, Own.ArrC Z .long ([(9223372036854775807 : Int64), (9223372036854775807 : Int64), (9223372036854775807 : Int64)].map Value.long)) :: (rb188, Own.ArrC Z .int ([0, 1, 1, 0, 1, 2].map gI)) :: (a165, Own.ArrC Z .long ([(9223372036854775807 : Int64), (9223372036854775807 : Int64), (9223372036854775807 : Int64), (9223372036854775807 : Int64), (9223372036854775807 : Int64), (9223372036854775807 : Int64), (9223372036854775807 : Int64), (9223372036854775807 : Int64)].map Value.long)) :: []) := O190
    have hI0 : InvT ([(9223372036854775807 : Int64), (9223372036854775807 : Int64), (9223372036854775807 : Int64)] : List Int64) [0, 1, 1, 0, 1, 2] 3 := inv_of (by decide +kernel)
    have hL0 : Like ([(9223372036854775807 : Int64), (9223372036854775807 : Int64), (9223372036854775807 : Int64)] : List Int64) [(9223372036854775807 : Int64), (9223372036854775807 : Int64), (9223372036854775807 : Int64), (9223372036854775807 : Int64), (9223372036854775807 : Int64), (9223372036854775807 : Int64), (9223372036854775807 : Int64), (9223372036854775807 : Int64)] 3 := ⟨rfl, rfl, by decide, by decide +kernel⟩
    refine Own.astore hx #[.val (.int p0), .val (.long q1), .second, .val (.long q2), .second, .val (.long q3), .second, .val (.long q4), .second, .val (.int p5), .val (.int (3 : Int32)), .val (.ref a165), .val (.ref a184), .unset, .unset, .unset, .unset] (hb hby at_79) rfl rfl rfl ?_
    refine Own.iload hx (3 : Int32) (hb hby at_81) rfl rfl ?_
    have hc192 : ¬ ((3 : Int32) = (0 : Int32)) := by decide
    refine Own.ifFn hx (Own.z_ne (3 : Int32)) (hb hby at_83) (pcN := 86) rfl (by decide) (pcT := 104) rfl (fun _ => ?_) (fun q => absurd q hc192)
    refine Own.iload hx p5 (hb hby at_104) rfl rfl ?_
    refine Own.bipush hx (7 : Int32) (hb hby at_106) rfl (by decide) ?_
    refine Own.iand hx (hb hby at_108) rfl ?_
    refine Own.iload hx (3 : Int32) (hb hby at_109) rfl rfl ?_
    refine Own.irem hx (hb hby at_111) rfl (by decide) ?_
    obtain ⟨px0, h_px0⟩ : ∃ z : Int32, z = ((p5 &&& (7 : Int32)) % (3 : Int32)) := ⟨_, rfl⟩
    refine Own.istore hx px0 h_px0 #[.val (.int p0), .val (.long q1), .second, .val (.long q2), .second, .val (.long q3), .second, .val (.long q4), .second, .val (.int p5), .val (.int (3 : Int32)), .val (.ref a165), .val (.ref a184), .val (.int px0), .unset, .unset, .unset] (hb hby at_112) rfl rfl ?_
    refine Own.iload hx p5 (hb hby at_114) rfl rfl ?_
    refine Own.iconst hx (3 : Int32) (hb hby at_116) rfl (by decide) ?_
    refine Own.iushr hx (hb hby at_117) rfl ?_
    refine Own.bipush hx (7 : Int32) (hb hby at_118) rfl (by decide) ?_
    refine Own.iand hx (hb hby at_120) rfl ?_
    refine Own.iload hx (3 : Int32) (hb hby at_121) rfl rfl ?_
    refine Own.irem hx (hb hby at_123) rfl (by decide) ?_
    obtain ⟨px1, h_px1⟩ : ∃ z : Int32, z = (((p5.toUInt32 >>> ((3 : Int32) &&& 31).toUInt32).toInt32 &&& (7 : Int32)) % (3 : Int32)) := ⟨_, rfl⟩
    refine Own.istore hx px1 h_px1 #[.val (.int p0), .val (.long q1), .second, .val (.long q2), .second, .val (.long q3), .second, .val (.long q4), .second, .val (.int p5), .val (.int (3 : Int32)), .val (.ref a165), .val (.ref a184), .val (.int px0), .val (.int px1), .unset, .unset] (hb hby at_124) rfl rfl ?_
    refine Own.iload hx p5 (hb hby at_126) rfl rfl ?_
    refine Own.bipush hx (6 : Int32) (hb hby at_128) rfl (by decide) ?_
    refine Own.iushr hx (hb hby at_130) rfl ?_
    refine Own.bipush hx (7 : Int32) (hb hby at_131) rfl (by decide) ?_
    refine Own.iand hx (hb hby at_133) rfl ?_
    refine Own.iload hx (3 : Int32) (hb hby at_134) rfl rfl ?_
    refine Own.irem hx (hb hby at_136) rfl (by decide) ?_
    obtain ⟨px2, h_px2⟩ : ∃ z : Int32, z = (((p5.toUInt32 >>> ((6 : Int32) &&& 31).toUInt32).toInt32 &&& (7 : Int32)) % (3 : Int32)) := ⟨_, rfl⟩
    refine Own.istore hx px2 h_px2 #[.val (.int p0), .val (.long q1), .second, .val (.long q2), .second, .val (.long q3), .second, .val (.long q4), .second, .val (.int p5), .val (.int (3 : Int32)), .val (.ref a165), .val (.ref a184), .val (.int px0), .val (.int px1), .val (.int px2), .unset] (hb hby at_137) rfl rfl ?_
    refine Own.iload hx p5 (hb hby at_139) rfl rfl ?_
    refine Own.bipush hx (9 : Int32) (hb hby at_141) rfl (by decide) ?_
    refine Own.iushr hx (hb hby at_143) rfl ?_
    refine Own.bipush hx (7 : Int32) (hb hby at_144) rfl (by decide) ?_
    refine Own.iand hx (hb hby at_146) rfl ?_
    refine Own.iload hx (3 : Int32) (hb hby at_147) rfl rfl ?_
    refine Own.irem hx (hb hby at_149) rfl (by decide) ?_
    obtain ⟨px3, h_px3⟩ : ∃ z : Int32, z = (((p5.toUInt32 >>> ((9 : Int32) &&& 31).toUInt32).toInt32 &&& (7 : Int32)) % (3 : Int32)) := ⟨_, rfl⟩
    refine Own.istore hx px3 h_px3 #[.val (.int p0), .val (.long q1), .second, .val (.long q2), .second, .val (.long q3), .second, .val (.long q4), .second, .val (.int p5), .val (.int (3 : Int32)), .val (.ref a165), .val (.ref a184), .val (.int px0), .val (.int px1), .val (.int px2), .val (.int px3)] (hb hby at_150) rfl rfl ?_
    obtain ⟨pl0, hpl0, hlt0⟩ := own_pl h_px0 (sz := 3) (by decide) (by decide)
    obtain ⟨pl1, hpl1, hlt1⟩ := own_pl h_px1 (sz := 3) (by decide) (by decide)
    obtain ⟨pl2, hpl2, hlt2⟩ := own_pl h_px2 (sz := 3) (by decide) (by decide)
    obtain ⟨pl3, hpl3, hlt3⟩ := own_pl h_px3 (sz := 3) (by decide) (by decide)
    refine Own.aload hx (.ref a184) (hb hby at_152) rfl rfl rfl ?_
    refine Own.iload hx px0 (hb hby at_154) rfl rfl ?_
    refine Own.lloadN hx q1 (hb hby at_156) rfl rfl ?_
    have O195 : Own.Owns n0 h189 ((rb188, Own.ArrC Z .int ([0, 1, 1, 0, 1, 2].map gI)) :: (a184, Own.ObjC Z "com/example/twigline/twigline/matcher/StreamHeads" [(("com/example/twigline/twigline/matcher/StreamHeads", "size", "I"), (.int (3 : Nat).toInt32)), (("com/example/twigline/twigline/matcher/StreamHeads", "starts", "[J"), (.ref ra187)), (("com/example/twigline/twigline/matcher/StreamHeads", "earliest", "[I"), (.ref rb188))]) :: (ra187, Own.ArrC Z .long ([(9223372036854775807 : Int64), (9223372036854775807 : Int64), (9223372036854775807 : Int64)].map Value.long)) :: (a165, Own.ArrC Z .long ([(9223372036854775807 : Int64), (9223372036854775807 : Int64), (9223372036854775807 : Int64), (9223372036854775807 : Int64), (9223372036854775807 : Int64), (9223372036854775807 : Int64), (9223372036854775807 : Int64), (9223372036854775807 : Int64)].map Value.long)) :: []) := O191.pick 2 rfl
    have O196 : Own.Owns n0 h189 ((ra187, Own.ArrC Z .long ([(9223372036854775807 : Int64), (9223372036854775807 : Int64), (9223372036854775807 : Int64)].map Value.long)) :: (rb188, Own.ArrC Z .int ([0, 1, 1, 0, 1, 2].map gI)) :: (a184, Own.ObjC Z "com/example/twigline/twigline/matcher/StreamHeads" [(("com/example/twigline/twigline/matcher/StreamHeads", "size", "I"), (.int (3 : Nat).toInt32)), (("com/example/twigline/twigline/matcher/StreamHeads", "starts", "[J"), (.ref ra187)), (("com/example/twigline/twigline/matcher/StreamHeads", "earliest", "[I"), (.ref rb188))]) :: (a165, Own.ArrC Z .long ([(9223372036854775807 : Int64), (9223372036854775807 : Int64), (9223372036854775807 : Int64), (9223372036854775807 : Int64), (9223372036854775807 : Int64), (9223372036854775807 : Int64), (9223372036854775807 : Int64), (9223372036854775807 : Int64)].map Value.long)) :: []) := O195.pick 2 rfl
    have O197 : Own.Owns n0 h189 ((a184, Own.ObjC Z "com/example/twigline/twigline/matcher/StreamHeads" [(("com/example/twigline/twigline/matcher/StreamHeads", "size", "I"), (.int (3 : Nat).toInt32)), (("com/example/twigline/twigline/matcher/StreamHeads", "starts", "[J"), (.ref ra187)), (("com/example/twigline/twigline/matcher/StreamHeads", "earliest", "[I"), (.ref rb188))]) :: (ra187, Own.ArrC Z .long ([(9223372036854775807 : Int64), (9223372036854775807 : Int64), (9223372036854775807 : Int64)].map Value.long)) :: (rb188, Own.ArrC Z .int ([0, 1, 1, 0, 1, 2].map gI)) :: (a165, Own.ArrC Z .long ([(9223372036854775807 : Int64), (9223372036854775807 : Int64), (9223372036854775807 : Int64), (9223372036854775807 : Int64), (9223372036854775807 : Int64), (9223372036854775807 : Int64), (9223372036854775807 : Int64), (9223372036854775807 : Int64)].map Value.long)) :: []) := O196.pick 2 rfl
    refine Own.callV hx hZ hown (O197.exa (i := 0) rfl) (hw _ (List.mem_of_getElem? (i := 28) rfl)) (hw _ (List.mem_of_getElem? (i := 29) rfl)) (hw _ (List.mem_of_getElem? (i := 31) rfl)) (hw _ (List.mem_of_getElem? (i := 30) rfl)) (hw _ (List.mem_of_getElem? (i := 4) rfl)) (hw _ (List.mem_of_getElem? (i := 32) rfl)) (by decide) pd4 (argsL := [(.int px0), (.long q1)]) (rest := []) rfl (W := 0) (Nat.le_of_eq rfl) (rm := ({ frames := 2, cells := 0, slots := 0, locals := 34 } : Room)) (by decide) (by decide) (by decide) (by decide) (k' := 4) (n' := 20) rfl rfl (by rw [hml]; rfl) [(.long q1), (.int px0), (.ref a184)] rfl (hb hby at_157) (pc' := 160) rfl (rm5 l Z a0 hw a184 px0 q1 h189 n0 pl0 3 ra187 rb188 [(9223372036854775807 : Int64), (9223372036854775807 : Int64), (9223372036854775807 : Int64)] [0, 1, 1, 0, 1, 2] (by decide) hpl0 hlt0 hI0 ((a165, Own.ArrC Z .long ([(9223372036854775807 : Int64), (9223372036854775807 : Int64), (9223372036854775807 : Int64), (9223372036854775807 : Int64), (9223372036854775807 : Int64), (9223372036854775807 : Int64), (9223372036854775807 : Int64), (9223372036854775807 : Int64)].map Value.long)) :: []) O197) ?_
    rintro _ h198 ⟨es194, rfl, hI1, O199⟩
    show Own.Goes _ _ _ _ _ _ _ _ _ _ _ _ _ _ _ _ _ (mkF m 160 #[.val (.int p0), .val (.long q1), .second, .val (.long q2), .second, .val (.long q3), .second, .val (.long q4), .second, .val (.int p5), .val (.int (3 : Int32)), .val (.ref a165), .val (.ref a184), .val (.int px0), .val (.int px1), .val (.int px2), .val (.int px3)] [])
    refine Own.aload hx (.ref a165) (hb hby at_160) rfl rfl rfl ?_
    refine Own.iload hx px0 (hb hby at_162) rfl rfl ?_
    refine Own.lloadN hx q1 (hb hby at_164) rfl rfl ?_
    have hL1 := like_set (x := q1) hL0 hlt0
    refine Own.lastore hx hZ O199 3 pl0 rfl hpl0 (by rw [List.length_map, hL0.2.1]; omega) ((a184, Own.ObjC Z "com/example/twigline/twigline/matcher/StreamHeads" [(("com/example/twigline/twigline/matcher/StreamHeads", "size", "I"), (.int (3 : Nat).toInt32)), (("com/example/twigline/twigline/matcher/StreamHeads", "starts", "[J"), (.ref ra187)), (("com/example/twigline/twigline/matcher/StreamHeads", "earliest", "[I"), (.ref rb188))]) :: (ra187, Own.ArrC Z .long (([(9223372036854775807 : Int64), (9223372036854775807 : Int64), (9223372036854775807 : Int64)].set pl0 q1).map Value.long)) :: (rb188, Own.ArrC Z .int (es194.map gI)) :: (a165, Own.ArrC Z .long (([(9223372036854775807 : Int64), (9223372036854775807 : Int64), (9223372036854775807 : Int64), (9223372036854775807 : Int64), (9223372036854775807 : Int64), (9223372036854775807 : Int64), (9223372036854775807 : Int64), (9223372036854775807 : Int64)].set pl0 q1).map Value.long)) :: []) (by rw [← show ([(9223372036854775807 : Int64), (9223372036854775807 : Int64), (9223372036854775807 : Int64), (9223372036854775807 : Int64), (9223372036854775807 : Int64), (9223372036854775807 : Int64), (9223372036854775807 : Int64), (9223372036854775807 : Int64)].map Value.long).set pl0 (Value.long q1) = (([(9223372036854775807 : Int64), (9223372036854775807 : Int64), (9223372036854775807 : Int64), (9223372036854775807 : Int64), (9223372036854775807 : Int64), (9223372036854775807 : Int64), (9223372036854775807 : Int64), (9223372036854775807 : Int64)].set pl0 q1).map Value.long) from (List.map_set).symm]; rfl) (hb hby at_165) rfl ?_
    intro h200 O201
    refine Own.aload hx (.ref a184) (hb hby at_166) rfl rfl rfl ?_
    refine Own.iload hx px1 (hb hby at_168) rfl rfl ?_
    refine Own.lloadN hx q2 (hb hby at_170) rfl rfl ?_
    have O203 : Own.Owns n0 h200 ((rb188, Own.ArrC Z .int (es194.map gI)) :: (a184, Own.ObjC Z "com/example/twigline/twigline/matcher/StreamHeads" [(("com/example/twigline/twigline/matcher/StreamHeads", "size", "I"), (.int (3 : Nat).toInt32)), (("com/example/twigline/twigline/matcher/StreamHeads", "starts", "[J"), (.ref ra187)), (("com/example/twigline/twigline/matcher/StreamHeads", "earliest", "[I"), (.ref rb188))]) :: (ra187, Own.ArrC Z .long (([(9223372036854775807 : Int64), (9223372036854775807 : Int64), (9223372036854775807 : Int64)].set pl0 q1).map Value.long)) :: (a165, Own.ArrC Z .long (([(9223372036854775807 : Int64), (9223372036854775807 : Int64), (9223372036854775807 : Int64), (9223372036854775807 : Int64), (9223372036854775807 : Int64), (9223372036854775807 : Int64), (9223372036854775807 : Int64), (9223372036854775807 : Int64)].set pl0 q1).map Value.long)) :: []) := O201.pick 2 rfl
    have O204 : Own.Owns n0 h200 ((ra187, Own.ArrC Z .long (([(9223372036854775807 : Int64), (9223372036854775807 : Int64), (9223372036854775807 : Int64)].set pl0 q1).map Value.long)) :: (rb188, Own.ArrC Z .int (es194.map gI)) :: (a184, Own.ObjC Z "com/example/twigline/twigline/matcher/StreamHeads" [(("com/example/twigline/twigline/matcher/StreamHeads", "size", "I"), (.int (3 : Nat).toInt32)), (("com/example/twigline/twigline/matcher/StreamHeads", "starts", "[J"), (.ref ra187)), (("com/example/twigline/twigline/matcher/StreamHeads", "earliest", "[I"), (.ref rb188))]) :: (a165, Own.ArrC Z .long (([(9223372036854775807 : Int64), (9223372036854775807 : Int64), (9223372036854775807 : Int64), (9223372036854775807 : Int64), (9223372036854775807 : Int64), (9223372036854775807 : Int64), (9223372036854775807 : Int64), (9223372036854775807 : Int64)].set pl0 q1).map Value.long)) :: []) := O203.pick 2 rfl
    have O205 : Own.Owns n0 h200 ((a184, Own.ObjC Z "com/example/twigline/twigline/matcher/StreamHeads" [(("com/example/twigline/twigline/matcher/StreamHeads", "size", "I"), (.int (3 : Nat).toInt32)), (("com/example/twigline/twigline/matcher/StreamHeads", "starts", "[J"), (.ref ra187)), (("com/example/twigline/twigline/matcher/StreamHeads", "earliest", "[I"), (.ref rb188))]) :: (ra187, Own.ArrC Z .long (([(9223372036854775807 : Int64), (9223372036854775807 : Int64), (9223372036854775807 : Int64)].set pl0 q1).map Value.long)) :: (rb188, Own.ArrC Z .int (es194.map gI)) :: (a165, Own.ArrC Z .long (([(9223372036854775807 : Int64), (9223372036854775807 : Int64), (9223372036854775807 : Int64), (9223372036854775807 : Int64), (9223372036854775807 : Int64), (9223372036854775807 : Int64), (9223372036854775807 : Int64), (9223372036854775807 : Int64)].set pl0 q1).map Value.long)) :: []) := O204.pick 2 rfl
    refine Own.callV hx hZ hown (O205.exa (i := 0) rfl) (hw _ (List.mem_of_getElem? (i := 28) rfl)) (hw _ (List.mem_of_getElem? (i := 29) rfl)) (hw _ (List.mem_of_getElem? (i := 31) rfl)) (hw _ (List.mem_of_getElem? (i := 30) rfl)) (hw _ (List.mem_of_getElem? (i := 4) rfl)) (hw _ (List.mem_of_getElem? (i := 32) rfl)) (by decide) pd4 (argsL := [(.int px1), (.long q2)]) (rest := []) rfl (W := 0) (Nat.le_of_eq rfl) (rm := ({ frames := 2, cells := 0, slots := 0, locals := 34 } : Room)) (by decide) (by decide) (by decide) (by decide) (k' := 4) (n' := 20) rfl rfl (by rw [hml]; rfl) [(.long q2), (.int px1), (.ref a184)] rfl (hb hby at_171) (pc' := 174) rfl (rm5 l Z a0 hw a184 px1 q2 h200 n0 pl1 3 ra187 rb188 ([(9223372036854775807 : Int64), (9223372036854775807 : Int64), (9223372036854775807 : Int64)].set pl0 q1) es194 (by decide) hpl1 hlt1 hI1 ((a165, Own.ArrC Z .long (([(9223372036854775807 : Int64), (9223372036854775807 : Int64), (9223372036854775807 : Int64), (9223372036854775807 : Int64), (9223372036854775807 : Int64), (9223372036854775807 : Int64), (9223372036854775807 : Int64), (9223372036854775807 : Int64)].set pl0 q1).map Value.long)) :: []) O205) ?_
    rintro _ h206 ⟨es202, rfl, hI2, O207⟩
    show Own.Goes _ _ _ _ _ _ _ _ _ _ _ _ _ _ _ _ _ (mkF m 174 #[.val (.int p0), .val (.long q1), .second, .val (.long q2), .second, .val (.long q3), .second, .val (.long q4), .second, .val (.int p5), .val (.int (3 : Int32)), .val (.ref a165), .val (.ref a184), .val (.int px0), .val (.int px1), .val (.int px2), .val (.int px3)] [])
    refine Own.aload hx (.ref a165) (hb hby at_174) rfl rfl rfl ?_
    refine Own.iload hx px1 (hb hby at_176) rfl rfl ?_
    refine Own.lloadN hx q2 (hb hby at_178) rfl rfl ?_
    have hL2 := like_set (x := q2) hL1 hlt1
    refine Own.lastore hx hZ O207 3 pl1 rfl hpl1 (by rw [List.length_map, hL1.2.1]; omega) ((a184, Own.ObjC Z "com/example/twigline/twigline/matcher/StreamHeads" [(("com/example/twigline/twigline/matcher/StreamHeads", "size", "I"), (.int (3 : Nat).toInt32)), (("com/example/twigline/twigline/matcher/StreamHeads", "starts", "[J"), (.ref ra187)), (("com/example/twigline/twigline/matcher/StreamHeads", "earliest", "[I"), (.ref rb188))]) :: (ra187, Own.ArrC Z .long ((([(9223372036854775807 : Int64), (9223372036854775807 : Int64), (9223372036854775807 : Int64)].set pl0 q1).set pl1 q2).map Value.long)) :: (rb188, Own.ArrC Z .int (es202.map gI)) :: (a165, Own.ArrC Z .long ((([(9223372036854775807 : Int64), (9223372036854775807 : Int64), (9223372036854775807 : Int64), (9223372036854775807 : Int64), (9223372036854775807 : Int64), (9223372036854775807 : Int64), (9223372036854775807 : Int64), (9223372036854775807 : Int64)].set pl0 q1).set pl1 q2).map Value.long)) :: []) (by rw [← show (([(9223372036854775807 : Int64), (9223372036854775807 : Int64), (9223372036854775807 : Int64), (9223372036854775807 : Int64), (9223372036854775807 : Int64), (9223372036854775807 : Int64), (9223372036854775807 : Int64), (9223372036854775807 : Int64)].set pl0 q1).map Value.long).set pl1 (Value.long q2) = ((([(9223372036854775807 : Int64), (9223372036854775807 : Int64), (9223372036854775807 : Int64), (9223372036854775807 : Int64), (9223372036854775807 : Int64), (9223372036854775807 : Int64), (9223372036854775807 : Int64), (9223372036854775807 : Int64)].set pl0 q1).set pl1 q2).map Value.long) from (List.map_set).symm]; rfl) (hb hby at_179) rfl ?_
    intro h208 O209
    refine Own.aload hx (.ref a184) (hb hby at_180) rfl rfl rfl ?_
    refine Own.iload hx px2 (hb hby at_182) rfl rfl ?_
    refine Own.lload hx q3 (hb hby at_184) rfl rfl ?_
    have O211 : Own.Owns n0 h208 ((rb188, Own.ArrC Z .int (es202.map gI)) :: (a184, Own.ObjC Z "com/example/twigline/twigline/matcher/StreamHeads" [(("com/example/twigline/twigline/matcher/StreamHeads", "size", "I"), (.int (3 : Nat).toInt32)), (("com/example/twigline/twigline/matcher/StreamHeads", "starts", "[J"), (.ref ra187)), (("com/example/twigline/twigline/matcher/StreamHeads", "earliest", "[I"), (.ref rb188))]) :: (ra187, Own.ArrC Z .long ((([(9223372036854775807 : Int64), (9223372036854775807 : Int64), (9223372036854775807 : Int64)].set pl0 q1).set pl1 q2).map Value.long)) :: (a165, Own.ArrC Z .long ((([(9223372036854775807 : Int64), (9223372036854775807 : Int64), (9223372036854775807 : Int64), (9223372036854775807 : Int64), (9223372036854775807 : Int64), (9223372036854775807 : Int64), (9223372036854775807 : Int64), (9223372036854775807 : Int64)].set pl0 q1).set pl1 q2).map Value.long)) :: []) := O209.pick 2 rfl
    have O212 : Own.Owns n0 h208 ((ra187, Own.ArrC Z .long ((([(9223372036854775807 : Int64), (9223372036854775807 : Int64), (9223372036854775807 : Int64)].set pl0 q1).set pl1 q2).map Value.long)) :: (rb188, Own.ArrC Z .int (es202.map gI)) :: (a184, Own.ObjC Z "com/example/twigline/twigline/matcher/StreamHeads" [(("com/example/twigline/twigline/matcher/StreamHeads", "size", "I"), (.int (3 : Nat).toInt32)), (("com/example/twigline/twigline/matcher/StreamHeads", "starts", "[J"), (.ref ra187)), (("com/example/twigline/twigline/matcher/StreamHeads", "earliest", "[I"), (.ref rb188))]) :: (a165, Own.ArrC Z .long ((([(9223372036854775807 : Int64), (9223372036854775807 : Int64), (9223372036854775807 : Int64), (9223372036854775807 : Int64), (9223372036854775807 : Int64), (9223372036854775807 : Int64), (9223372036854775807 : Int64), (9223372036854775807 : Int64)].set pl0 q1).set pl1 q2).map Value.long)) :: []) := O211.pick 2 rfl
    have O213 : Own.Owns n0 h208 ((a184, Own.ObjC Z "com/example/twigline/twigline/matcher/StreamHeads" [(("com/example/twigline/twigline/matcher/StreamHeads", "size", "I"), (.int (3 : Nat).toInt32)), (("com/example/twigline/twigline/matcher/StreamHeads", "starts", "[J"), (.ref ra187)), (("com/example/twigline/twigline/matcher/StreamHeads", "earliest", "[I"), (.ref rb188))]) :: (ra187, Own.ArrC Z .long ((([(9223372036854775807 : Int64), (9223372036854775807 : Int64), (9223372036854775807 : Int64)].set pl0 q1).set pl1 q2).map Value.long)) :: (rb188, Own.ArrC Z .int (es202.map gI)) :: (a165, Own.ArrC Z .long ((([(9223372036854775807 : Int64), (9223372036854775807 : Int64), (9223372036854775807 : Int64), (9223372036854775807 : Int64), (9223372036854775807 : Int64), (9223372036854775807 : Int64), (9223372036854775807 : Int64), (9223372036854775807 : Int64)].set pl0 q1).set pl1 q2).map Value.long)) :: []) := O212.pick 2 rfl
    refine Own.callV hx hZ hown (O213.exa (i := 0) rfl) (hw _ (List.mem_of_getElem? (i := 28) rfl)) (hw _ (List.mem_of_getElem? (i := 29) rfl)) (hw _ (List.mem_of_getElem? (i := 31) rfl)) (hw _ (List.mem_of_getElem? (i := 30) rfl)) (hw _ (List.mem_of_getElem? (i := 4) rfl)) (hw _ (List.mem_of_getElem? (i := 32) rfl)) (by decide) pd4 (argsL := [(.int px2), (.long q3)]) (rest := []) rfl (W := 0) (Nat.le_of_eq rfl) (rm := ({ frames := 2, cells := 0, slots := 0, locals := 34 } : Room)) (by decide) (by decide) (by decide) (by decide) (k' := 4) (n' := 20) rfl rfl (by rw [hml]; rfl) [(.long q3), (.int px2), (.ref a184)] rfl (hb hby at_186) (pc' := 189) rfl (rm5 l Z a0 hw a184 px2 q3 h208 n0 pl2 3 ra187 rb188 (([(9223372036854775807 : Int64), (9223372036854775807 : Int64), (9223372036854775807 : Int64)].set pl0 q1).set pl1 q2) es202 (by decide) hpl2 hlt2 hI2 ((a165, Own.ArrC Z .long ((([(9223372036854775807 : Int64), (9223372036854775807 : Int64), (9223372036854775807 : Int64), (9223372036854775807 : Int64), (9223372036854775807 : Int64), (9223372036854775807 : Int64), (9223372036854775807 : Int64), (9223372036854775807 : Int64)].set pl0 q1).set pl1 q2).map Value.long)) :: []) O213) ?_
    rintro _ h214 ⟨es210, rfl, hI3, O215⟩
    show Own.Goes _ _ _ _ _ _ _ _ _ _ _ _ _ _ _ _ _ (mkF m 189 #[.val (.int p0), .val (.long q1), .second, .val (.long q2), .second, .val (.long q3), .second, .val (.long q4), .second, .val (.int p5), .val (.int (3 : Int32)), .val (.ref a165), .val (.ref a184), .val (.int px0), .val (.int px1), .val (.int px2), .val (.int px3)] [])
    refine Own.aload hx (.ref a165) (hb hby at_189) rfl rfl rfl ?_
    refine Own.iload hx px2 (hb hby at_191) rfl rfl ?_
    refine Own.lload hx q3 (hb hby at_193) rfl rfl ?_
    have hL3 := like_set (x := q3) hL2 hlt2
    refine Own.lastore hx hZ O215 3 pl2 rfl hpl2 (by rw [List.length_map, hL2.2.1]; omega) ((a184, Own.ObjC Z "com/example/twigline/twigline/matcher/StreamHeads" [(("com/example/twigline/twigline/matcher/StreamHeads", "size", "I"), (.int (3 : Nat).toInt32)), (("com/example/twigline/twigline/matcher/StreamHeads", "starts", "[J"), (.ref ra187)), (("com/example/twigline/twigline/matcher/StreamHeads", "earliest", "[I"), (.ref rb188))]) :: (ra187, Own.ArrC Z .long (((([(9223372036854775807 : Int64), (9223372036854775807 : Int64), (9223372036854775807 : Int64)].set pl0 q1).set pl1 q2).set pl2 q3).map Value.long)) :: (rb188, Own.ArrC Z .int (es210.map gI)) :: (a165, Own.ArrC Z .long (((([(9223372036854775807 : Int64), (9223372036854775807 : Int64), (9223372036854775807 : Int64), (9223372036854775807 : Int64), (9223372036854775807 : Int64), (9223372036854775807 : Int64), (9223372036854775807 : Int64), (9223372036854775807 : Int64)].set pl0 q1).set pl1 q2).set pl2 q3).map Value.long)) :: []) (by rw [← show ((([(9223372036854775807 : Int64), (9223372036854775807 : Int64), (9223372036854775807 : Int64), (9223372036854775807 : Int64), (9223372036854775807 : Int64), (9223372036854775807 : Int64), (9223372036854775807 : Int64), (9223372036854775807 : Int64)].set pl0 q1).set pl1 q2).map Value.long).set pl2 (Value.long q3) = (((([(9223372036854775807 : Int64), (9223372036854775807 : Int64), (9223372036854775807 : Int64), (9223372036854775807 : Int64), (9223372036854775807 : Int64), (9223372036854775807 : Int64), (9223372036854775807 : Int64), (9223372036854775807 : Int64)].set pl0 q1).set pl1 q2).set pl2 q3).map Value.long) from (List.map_set).symm]; rfl) (hb hby at_195) rfl ?_
    intro h216 O217
    refine Own.aload hx (.ref a184) (hb hby at_196) rfl rfl rfl ?_
    refine Own.iload hx px3 (hb hby at_198) rfl rfl ?_
    refine Own.lload hx q4 (hb hby at_200) rfl rfl ?_
    have O219 : Own.Owns n0 h216 ((rb188, Own.ArrC Z .int (es210.map gI)) :: (a184, Own.ObjC Z "com/example/twigline/twigline/matcher/StreamHeads" [(("com/example/twigline/twigline/matcher/StreamHeads", "size", "I"), (.int (3 : Nat).toInt32)), (("com/example/twigline/twigline/matcher/StreamHeads", "starts", "[J"), (.ref ra187)), (("com/example/twigline/twigline/matcher/StreamHeads", "earliest", "[I"), (.ref rb188))]) :: (ra187, Own.ArrC Z .long (((([(9223372036854775807 : Int64), (9223372036854775807 : Int64), (9223372036854775807 : Int64)].set pl0 q1).set pl1 q2).set pl2 q3).map Value.long)) :: (a165, Own.ArrC Z .long (((([(9223372036854775807 : Int64), (9223372036854775807 : Int64), (9223372036854775807 : Int64), (9223372036854775807 : Int64), (9223372036854775807 : Int64), (9223372036854775807 : Int64), (9223372036854775807 : Int64), (9223372036854775807 : Int64)].set pl0 q1).set pl1 q2).set pl2 q3).map Value.long)) :: []) := O217.pick 2 rfl
    have O220 : Own.Owns n0 h216 ((ra187, Own.ArrC Z .long (((([(9223372036854775807 : Int64), (9223372036854775807 : Int64), (9223372036854775807 : Int64)].set pl0 q1).set pl1 q2).set pl2 q3).map Value.long)) :: (rb188, Own.ArrC Z .int (es210.map gI)) :: (a184, Own.ObjC Z "com/example/twigline/twigline/matcher/StreamHeads" [(("com/example/twigline/twigline/matcher/StreamHeads", "size", "I"), (.int (3 : Nat).toInt32)), (("com/example/twigline/twigline/matcher/StreamHeads", "starts", "[J"), (.ref ra187)), (("com/example/twigline/twigline/matcher/StreamHeads", "earliest", "[I"), (.ref rb188))]) :: (a165, Own.ArrC Z .long (((([(9223372036854775807 : Int64), (9223372036854775807 : Int64), (9223372036854775807 : Int64), (9223372036854775807 : Int64), (9223372036854775807 : Int64), (9223372036854775807 : Int64), (9223372036854775807 : Int64), (9223372036854775807 : Int64)].set pl0 q1).set pl1 q2).set pl2 q3).map Value.long)) :: []) := O219.pick 2 rfl
    have O221 : Own.Owns n0 h216 ((a184, Own.ObjC Z "com/example/twigline/twigline/matcher/StreamHeads" [(("com/example/twigline/twigline/matcher/StreamHeads", "size", "I"), (.int (3 : Nat).toInt32)), (("com/example/twigline/twigline/matcher/StreamHeads", "starts", "[J"), (.ref ra187)), (("com/example/twigline/twigline/matcher/StreamHeads", "earliest", "[I"), (.ref rb188))]) :: (ra187, Own.ArrC Z .long (((([(9223372036854775807 : Int64), (9223372036854775807 : Int64), (9223372036854775807 : Int64)].set pl0 q1).set pl1 q2).set pl2 q3).map Value.long)) :: (rb188, Own.ArrC Z .int (es210.map gI)) :: (a165, Own.ArrC Z .long (((([(9223372036854775807 : Int64), (9223372036854775807 : Int64), (9223372036854775807 : Int64), (9223372036854775807 : Int64), (9223372036854775807 : Int64), (9223372036854775807 : Int64), (9223372036854775807 : Int64), (9223372036854775807 : Int64)].set pl0 q1).set pl1 q2).set pl2 q3).map Value.long)) :: []) := O220.pick 2 rfl
    refine Own.callV hx hZ hown (O221.exa (i := 0) rfl) (hw _ (List.mem_of_getElem? (i := 28) rfl)) (hw _ (List.mem_of_getElem? (i := 29) rfl)) (hw _ (List.mem_of_getElem? (i := 31) rfl)) (hw _ (List.mem_of_getElem? (i := 30) rfl)) (hw _ (List.mem_of_getElem? (i := 4) rfl)) (hw _ (List.mem_of_getElem? (i := 32) rfl)) (by decide) pd4 (argsL := [(.int px3), (.long q4)]) (rest := []) rfl (W := 0) (Nat.le_of_eq rfl) (rm := ({ frames := 2, cells := 0, slots := 0, locals := 34 } : Room)) (by decide) (by decide) (by decide) (by decide) (k' := 4) (n' := 20) rfl rfl (by rw [hml]; rfl) [(.long q4), (.int px3), (.ref a184)] rfl (hb hby at_202) (pc' := 205) rfl (rm5 l Z a0 hw a184 px3 q4 h216 n0 pl3 3 ra187 rb188 ((([(9223372036854775807 : Int64), (9223372036854775807 : Int64), (9223372036854775807 : Int64)].set pl0 q1).set pl1 q2).set pl2 q3) es210 (by decide) hpl3 hlt3 hI3 ((a165, Own.ArrC Z .long (((([(9223372036854775807 : Int64), (9223372036854775807 : Int64), (9223372036854775807 : Int64), (9223372036854775807 : Int64), (9223372036854775807 : Int64), (9223372036854775807 : Int64), (9223372036854775807 : Int64), (9223372036854775807 : Int64)].set pl0 q1).set pl1 q2).set pl2 q3).map Value.long)) :: []) O221) ?_
    rintro _ h222 ⟨es218, rfl, hI4, O223⟩
    show Own.Goes _ _ _ _ _ _ _ _ _ _ _ _ _ _ _ _ _ (mkF m 205 #[.val (.int p0), .val (.long q1), .second, .val (.long q2), .second, .val (.long q3), .second, .val (.long q4), .second, .val (.int p5), .val (.int (3 : Int32)), .val (.ref a165), .val (.ref a184), .val (.int px0), .val (.int px1), .val (.int px2), .val (.int px3)] [])
    refine Own.aload hx (.ref a165) (hb hby at_205) rfl rfl rfl ?_
    refine Own.iload hx px3 (hb hby at_207) rfl rfl ?_
    refine Own.lload hx q4 (hb hby at_209) rfl rfl ?_
    have hL4 := like_set (x := q4) hL3 hlt3
    refine Own.lastore hx hZ O223 3 pl3 rfl hpl3 (by rw [List.length_map, hL3.2.1]; omega) ((a184, Own.ObjC Z "com/example/twigline/twigline/matcher/StreamHeads" [(("com/example/twigline/twigline/matcher/StreamHeads", "size", "I"), (.int (3 : Nat).toInt32)), (("com/example/twigline/twigline/matcher/StreamHeads", "starts", "[J"), (.ref ra187)), (("com/example/twigline/twigline/matcher/StreamHeads", "earliest", "[I"), (.ref rb188))]) :: (ra187, Own.ArrC Z .long ((((([(9223372036854775807 : Int64), (9223372036854775807 : Int64), (9223372036854775807 : Int64)].set pl0 q1).set pl1 q2).set pl2 q3).set pl3 q4).map Value.long)) :: (rb188, Own.ArrC Z .int (es218.map gI)) :: (a165, Own.ArrC Z .long ((((([(9223372036854775807 : Int64), (9223372036854775807 : Int64), (9223372036854775807 : Int64), (9223372036854775807 : Int64), (9223372036854775807 : Int64), (9223372036854775807 : Int64), (9223372036854775807 : Int64), (9223372036854775807 : Int64)].set pl0 q1).set pl1 q2).set pl2 q3).set pl3 q4).map Value.long)) :: []) (by rw [← show (((([(9223372036854775807 : Int64), (9223372036854775807 : Int64), (9223372036854775807 : Int64), (9223372036854775807 : Int64), (9223372036854775807 : Int64), (9223372036854775807 : Int64), (9223372036854775807 : Int64), (9223372036854775807 : Int64)].set pl0 q1).set pl1 q2).set pl2 q3).map Value.long).set pl3 (Value.long q4) = ((((([(9223372036854775807 : Int64), (9223372036854775807 : Int64), (9223372036854775807 : Int64), (9223372036854775807 : Int64), (9223372036854775807 : Int64), (9223372036854775807 : Int64), (9223372036854775807 : Int64), (9223372036854775807 : Int64)].set pl0 q1).set pl1 q2).set pl2 q3).set pl3 q4).map Value.long) from (List.map_set).symm]; rfl) (hb hby at_211) rfl ?_
    intro h224 O225
    refine Own.aload hx (.ref a184) (hb hby at_212) rfl rfl rfl ?_
    have O226 : Own.Owns n0 h224 ((rb188, Own.ArrC Z .int (es218.map gI)) :: (a184, Own.ObjC Z "com/example/twigline/twigline/matcher/StreamHeads" [(("com/example/twigline/twigline/matcher/StreamHeads", "size", "I"), (.int (3 : Nat).toInt32)), (("com/example/twigline/twigline/matcher/StreamHeads", "starts", "[J"), (.ref ra187)), (("com/example/twigline/twigline/matcher/StreamHeads", "earliest", "[I"), (.ref rb188))]) :: (ra187, Own.ArrC Z .long ((((([(9223372036854775807 : Int64), (9223372036854775807 : Int64), (9223372036854775807 : Int64)].set pl0 q1).set pl1 q2).set pl2 q3).set pl3 q4).map Value.long)) :: (a165, Own.ArrC Z .long ((((([(9223372036854775807 : Int64), (9223372036854775807 : Int64), (9223372036854775807 : Int64), (9223372036854775807 : Int64), (9223372036854775807 : Int64), (9223372036854775807 : Int64), (9223372036854775807 : Int64), (9223372036854775807 : Int64)].set pl0 q1).set pl1 q2).set pl2 q3).set pl3 q4).map Value.long)) :: []) := O225.pick 2 rfl
    have O227 : Own.Owns n0 h224 ((ra187, Own.ArrC Z .long ((((([(9223372036854775807 : Int64), (9223372036854775807 : Int64), (9223372036854775807 : Int64)].set pl0 q1).set pl1 q2).set pl2 q3).set pl3 q4).map Value.long)) :: (rb188, Own.ArrC Z .int (es218.map gI)) :: (a184, Own.ObjC Z "com/example/twigline/twigline/matcher/StreamHeads" [(("com/example/twigline/twigline/matcher/StreamHeads", "size", "I"), (.int (3 : Nat).toInt32)), (("com/example/twigline/twigline/matcher/StreamHeads", "starts", "[J"), (.ref ra187)), (("com/example/twigline/twigline/matcher/StreamHeads", "earliest", "[I"), (.ref rb188))]) :: (a165, Own.ArrC Z .long ((((([(9223372036854775807 : Int64), (9223372036854775807 : Int64), (9223372036854775807 : Int64), (9223372036854775807 : Int64), (9223372036854775807 : Int64), (9223372036854775807 : Int64), (9223372036854775807 : Int64), (9223372036854775807 : Int64)].set pl0 q1).set pl1 q2).set pl2 q3).set pl3 q4).map Value.long)) :: []) := O226.pick 2 rfl
    have O228 : Own.Owns n0 h224 ((a184, Own.ObjC Z "com/example/twigline/twigline/matcher/StreamHeads" [(("com/example/twigline/twigline/matcher/StreamHeads", "size", "I"), (.int (3 : Nat).toInt32)), (("com/example/twigline/twigline/matcher/StreamHeads", "starts", "[J"), (.ref ra187)), (("com/example/twigline/twigline/matcher/StreamHeads", "earliest", "[I"), (.ref rb188))]) :: (ra187, Own.ArrC Z .long ((((([(9223372036854775807 : Int64), (9223372036854775807 : Int64), (9223372036854775807 : Int64)].set pl0 q1).set pl1 q2).set pl2 q3).set pl3 q4).map Value.long)) :: (rb188, Own.ArrC Z .int (es218.map gI)) :: (a165, Own.ArrC Z .long ((((([(9223372036854775807 : Int64), (9223372036854775807 : Int64), (9223372036854775807 : Int64), (9223372036854775807 : Int64), (9223372036854775807 : Int64), (9223372036854775807 : Int64), (9223372036854775807 : Int64), (9223372036854775807 : Int64)].set pl0 q1).set pl1 q2).set pl2 q3).set pl3 q4).map Value.long)) :: []) := O227.pick 2 rfl
    refine Own.callV hx hZ hown (O228.exa (i := 0) rfl) (hw _ (List.mem_of_getElem? (i := 18) rfl)) (hw _ (List.mem_of_getElem? (i := 19) rfl)) (hw _ (List.mem_of_getElem? (i := 21) rfl)) (hw _ (List.mem_of_getElem? (i := 20) rfl)) (hw _ (List.mem_of_getElem? (i := 4) rfl)) (hw _ (List.mem_of_getElem? (i := 22) rfl)) (by decide) pd3 (argsL := []) (rest := []) rfl (W := 0) (Nat.le_of_eq rfl) (rm := ({ frames := 0, cells := 0, slots := 0, locals := 0 } : Room)) (by decide) (by decide) (by decide) (by decide) (k' := 4) (n' := 20) rfl rfl (by rw [hml]; rfl) [(.ref a184)] rfl (hb hby at_214) (pc' := 217) rfl (rm3 l Z a0 hw a184 h224 n0 3 ra187 rb188 (((([(9223372036854775807 : Int64), (9223372036854775807 : Int64), (9223372036854775807 : Int64)].set pl0 q1).set pl1 q2).set pl2 q3).set pl3 q4) es218 (by decide) (by decide) hI4 ((a165, Own.ArrC Z .long ((((([(9223372036854775807 : Int64), (9223372036854775807 : Int64), (9223372036854775807 : Int64), (9223372036854775807 : Int64), (9223372036854775807 : Int64), (9223372036854775807 : Int64), (9223372036854775807 : Int64), (9223372036854775807 : Int64)].set pl0 q1).set pl1 q2).set pl2 q3).set pl3 q4).map Value.long)) :: []) O228) ?_
    rintro _ h' ⟨rfl, eh⟩
    rw [eh]; clear eh h'
    show Own.Goes _ _ _ _ _ _ _ _ _ _ _ _ _ _ _ _ _ (mkF m 217 #[.val (.int p0), .val (.long q1), .second, .val (.long q2), .second, .val (.long q3), .second, .val (.long q4), .second, .val (.int p5), .val (.int (3 : Int32)), .val (.ref a165), .val (.ref a184), .val (.int px0), .val (.int px1), .val (.int px2), .val (.int px3)] [(.long ((((([(9223372036854775807 : Int64), (9223372036854775807 : Int64), (9223372036854775807 : Int64)].set pl0 q1).set pl1 q2).set pl2 q3).set pl3 q4).getD (es218.getD 1 0) 0))])
    refine Own.aload hx (.ref a165) (hb hby at_217) rfl rfl rfl ?_
    have O229 : Own.Owns n0 h224 ((a165, Own.ArrC Z .long ((((([(9223372036854775807 : Int64), (9223372036854775807 : Int64), (9223372036854775807 : Int64), (9223372036854775807 : Int64), (9223372036854775807 : Int64), (9223372036854775807 : Int64), (9223372036854775807 : Int64), (9223372036854775807 : Int64)].set pl0 q1).set pl1 q2).set pl2 q3).set pl3 q4).map Value.long)) :: (a184, Own.ObjC Z "com/example/twigline/twigline/matcher/StreamHeads" [(("com/example/twigline/twigline/matcher/StreamHeads", "size", "I"), (.int (3 : Nat).toInt32)), (("com/example/twigline/twigline/matcher/StreamHeads", "starts", "[J"), (.ref ra187)), (("com/example/twigline/twigline/matcher/StreamHeads", "earliest", "[I"), (.ref rb188))]) :: (ra187, Own.ArrC Z .long ((((([(9223372036854775807 : Int64), (9223372036854775807 : Int64), (9223372036854775807 : Int64)].set pl0 q1).set pl1 q2).set pl2 q3).set pl3 q4).map Value.long)) :: (rb188, Own.ArrC Z .int (es218.map gI)) :: []) := O228.pick 3 rfl
    refine Own.callS hx hZ hown (hw _ (List.mem_of_getElem? (i := 37) rfl)) (hw _ (List.mem_of_getElem? (i := 38) rfl)) (hw _ (List.mem_of_getElem? (i := 39) rfl)) (hw _ (List.mem_of_getElem? (i := 40) rfl)) (by decide) pd5 (argsL := [(.ref a165)]) (rest := [(.long ((((([(9223372036854775807 : Int64), (9223372036854775807 : Int64), (9223372036854775807 : Int64)].set pl0 q1).set pl1 q2).set pl2 q3).set pl3 q4).getD (es218.getD 1 0) 0))]) rfl (W := 2) (Nat.le_of_eq rfl) (rm := ({ frames := 1, cells := 0, slots := 0, locals := 19 } : Room)) (by decide) (by decide) (by decide) (by decide) (k' := 4) (n' := 20) rfl rfl (by rw [hml]; rfl) [(.ref a165), (.long ((((([(9223372036854775807 : Int64), (9223372036854775807 : Int64), (9223372036854775807 : Int64)].set pl0 q1).set pl1 q2).set pl2 q3).set pl3 q4).getD (es218.getD 1 0) 0))] rfl (hb hby at_219) (pc' := 222) rfl (rm7 l Z a0 hw a165 h224 n0 (((([(9223372036854775807 : Int64), (9223372036854775807 : Int64), (9223372036854775807 : Int64), (9223372036854775807 : Int64), (9223372036854775807 : Int64), (9223372036854775807 : Int64), (9223372036854775807 : Int64), (9223372036854775807 : Int64)].set pl0 q1).set pl1 q2).set pl2 q3).set pl3 q4) hL4.2.1 ((a184, Own.ObjC Z "com/example/twigline/twigline/matcher/StreamHeads" [(("com/example/twigline/twigline/matcher/StreamHeads", "size", "I"), (.int (3 : Nat).toInt32)), (("com/example/twigline/twigline/matcher/StreamHeads", "starts", "[J"), (.ref ra187)), (("com/example/twigline/twigline/matcher/StreamHeads", "earliest", "[I"), (.ref rb188))]) :: (ra187, Own.ArrC Z .long ((((([(9223372036854775807 : Int64), (9223372036854775807 : Int64), (9223372036854775807 : Int64)].set pl0 q1).set pl1 q2).set pl2 q3).set pl3 q4).map Value.long)) :: (rb188, Own.ArrC Z .int (es218.map gI)) :: []) O229) ?_
    rintro _ h' ⟨rfl, eh⟩
    rw [eh]; clear eh h'
    show Own.Goes _ _ _ _ _ _ _ _ _ _ _ _ _ _ _ _ _ (mkF m 222 #[.val (.int p0), .val (.long q1), .second, .val (.long q2), .second, .val (.long q3), .second, .val (.long q4), .second, .val (.int p5), .val (.int (3 : Int32)), .val (.ref a165), .val (.ref a184), .val (.int px0), .val (.int px1), .val (.int px2), .val (.int px3)] [(.long (fMin8 (((([(9223372036854775807 : Int64), (9223372036854775807 : Int64), (9223372036854775807 : Int64), (9223372036854775807 : Int64), (9223372036854775807 : Int64), (9223372036854775807 : Int64), (9223372036854775807 : Int64), (9223372036854775807 : Int64)].set pl0 q1).set pl1 q2).set pl2 q3).set pl3 q4))), (.long ((((([(9223372036854775807 : Int64), (9223372036854775807 : Int64), (9223372036854775807 : Int64)].set pl0 q1).set pl1 q2).set pl2 q3).set pl3 q4).getD (es218.getD 1 0) 0))])
    refine Own.lcmp hx (hb hby at_222) rfl ?_
    have hc230 : ((((([(9223372036854775807 : Int64), (9223372036854775807 : Int64), (9223372036854775807 : Int64)].set pl0 q1).set pl1 q2).set pl2 q3).set pl3 q4).getD (es218.getD 1 0) 0) = (fMin8 (((([(9223372036854775807 : Int64), (9223372036854775807 : Int64), (9223372036854775807 : Int64), (9223372036854775807 : Int64), (9223372036854775807 : Int64), (9223372036854775807 : Int64), (9223372036854775807 : Int64), (9223372036854775807 : Int64)].set pl0 q1).set pl1 q2).set pl2 q3).set pl3 q4)) := like_min hL4 hI4 (by decide)
    refine Own.ifFn hx (Own.w_ne ((((([(9223372036854775807 : Int64), (9223372036854775807 : Int64), (9223372036854775807 : Int64)].set pl0 q1).set pl1 q2).set pl2 q3).set pl3 q4).getD (es218.getD 1 0) 0) (fMin8 (((([(9223372036854775807 : Int64), (9223372036854775807 : Int64), (9223372036854775807 : Int64), (9223372036854775807 : Int64), (9223372036854775807 : Int64), (9223372036854775807 : Int64), (9223372036854775807 : Int64), (9223372036854775807 : Int64)].set pl0 q1).set pl1 q2).set pl2 q3).set pl3 q4))) (hb hby at_223) (pcN := 226) rfl (by decide) (pcT := 230) rfl (fun q => absurd hc230 q) (fun _ => ?_)
    refine Own.iconst hx (1 : Int32) (hb hby at_226) rfl (by decide) ?_
    refine Own.goto hx (hb hby at_227) (by decide) (pc' := 231) rfl ?_
    exact Own.retS hx hret (by simp) hlk (hb hby at_231) (by decide) (by decide) (Own.bool1 rfl)
  · subst q
    refine Own.bipush hx (8 : Int32) (hb hby at_6) rfl (by decide) ?_
    refine Own.newarr hx hZ O0 (aty := .long) (hw _ (List.mem_of_getElem? (i := 0) rfl)) 8 (by decide) [(.long (0 : Int64)), (.long (0 : Int64)), (.long (0 : Int64)), (.long (0 : Int64)), (.long (0 : Int64)), (.long (0 : Int64)), (.long (0 : Int64)), (.long (0 : Int64))] rfl rfl (cap := 8) (by decide) (by decide) (k' := 1) (n' := 8) rfl rfl (by decide) (by decide) (hb hby at_8) (pc' := 10) rfl ?_
    intro a232 h233 O234
    refine Own.astore hx #[.val (.int p0), .val (.long q1), .second, .val (.long q2), .second, .val (.long q3), .second, .val (.long q4), .second, .val (.int p5), .val (.int (4 : Int32)), .val (.ref a232), .unset, .unset, .unset, .unset, .unset] (hb hby at_10) rfl rfl rfl ?_
    refine Own.aload hx (.ref a232) (hb hby at_12) rfl rfl rfl ?_
    refine Own.iconst hx (0 : Int32) (hb hby at_14) rfl (by decide) ?_
    refine Own.ldc2 hx hZ hown (9223372036854775807 : Int64) (hb hby at_15) rfl (hw _ (List.mem_of_getElem? (i := 1) rfl)) ?_
    refine Own.lastore hx hZ O234 0 0 rfl (by decide) (by exact (show 0 < 8 by decide)) ((a232, Own.ArrC Z .long [(.long (9223372036854775807 : Int64)), (.long (0 : Int64)), (.long (0 : Int64)), (.long (0 : Int64)), (.long (0 : Int64)), (.long (0 : Int64)), (.long (0 : Int64)), (.long (0 : Int64))]) :: []) rfl (hb hby at_18) rfl ?_
    intro h235 O236
    refine Own.aload hx (.ref a232) (hb hby at_19) rfl rfl rfl ?_
    refine Own.iconst hx (1 : Int32) (hb hby at_21) rfl (by decide) ?_
    refine Own.ldc2 hx hZ hown (9223372036854775807 : Int64) (hb hby at_22) rfl (hw _ (List.mem_of_getElem? (i := 1) rfl)) ?_
    refine Own.lastore hx hZ O236 0 1 rfl (by decide) (by exact (show 1 < 8 by decide)) ((a232, Own.ArrC Z .long [(.long (9223372036854775807 : Int64)), (.long (9223372036854775807 : Int64)), (.long (0 : Int64)), (.long (0 : Int64)), (.long (0 : Int64)), (.long (0 : Int64)), (.long (0 : Int64)), (.long (0 : Int64))]) :: []) rfl (hb hby at_25) rfl ?_
    intro h237 O238
    refine Own.aload hx (.ref a232) (hb hby at_26) rfl rfl rfl ?_
    refine Own.iconst hx (2 : Int32) (hb hby at_28) rfl (by decide) ?_
    refine Own.ldc2 hx hZ hown (9223372036854775807 : Int64) (hb hby at_29) rfl (hw _ (List.mem_of_getElem? (i := 1) rfl)) ?_
    refine Own.lastore hx hZ O238 0 2 rfl (by decide) (by exact (show 2 < 8 by decide)) ((a232, Own.ArrC Z .long [(.long (9223372036854775807 : Int64)), (.long (9223372036854775807 : Int64)), (.long (9223372036854775807 : Int64)), (.long (0 : Int64)), (.long (0 : Int64)), (.long (0 : Int64)), (.long (0 : Int64)), (.long (0 : Int64))]) :: []) rfl (hb hby at_32) rfl ?_
    intro h239 O240
    refine Own.aload hx (.ref a232) (hb hby at_33) rfl rfl rfl ?_
    refine Own.iconst hx (3 : Int32) (hb hby at_35) rfl (by decide) ?_
    refine Own.ldc2 hx hZ hown (9223372036854775807 : Int64) (hb hby at_36) rfl (hw _ (List.mem_of_getElem? (i := 1) rfl)) ?_
    refine Own.lastore hx hZ O240 0 3 rfl (by decide) (by exact (show 3 < 8 by decide)) ((a232, Own.ArrC Z .long [(.long (9223372036854775807 : Int64)), (.long (9223372036854775807 : Int64)), (.long (9223372036854775807 : Int64)), (.long (9223372036854775807 : Int64)), (.long (0 : Int64)), (.long (0 : Int64)), (.long (0 : Int64)), (.long (0 : Int64))]) :: []) rfl (hb hby at_39) rfl ?_
    intro h241 O242
    refine Own.aload hx (.ref a232) (hb hby at_40) rfl rfl rfl ?_
    refine Own.iconst hx (4 : Int32) (hb hby at_42) rfl (by decide) ?_
    refine Own.ldc2 hx hZ hown (9223372036854775807 : Int64) (hb hby at_43) rfl (hw _ (List.mem_of_getElem? (i := 1) rfl)) ?_
    refine Own.lastore hx hZ O242 0 4 rfl (by decide) (by exact (show 4 < 8 by decide)) ((a232, Own.ArrC Z .long [(.long (9223372036854775807 : Int64)), (.long (9223372036854775807 : Int64)), (.long (9223372036854775807 : Int64)), (.long (9223372036854775807 : Int64)), (.long (9223372036854775807 : Int64)), (.long (0 : Int64)), (.long (0 : Int64)), (.long (0 : Int64))]) :: []) rfl (hb hby at_46) rfl ?_
    intro h243 O244
    refine Own.aload hx (.ref a232) (hb hby at_47) rfl rfl rfl ?_
    refine Own.iconst hx (5 : Int32) (hb hby at_49) rfl (by decide) ?_
    refine Own.ldc2 hx hZ hown (9223372036854775807 : Int64) (hb hby at_50) rfl (hw _ (List.mem_of_getElem? (i := 1) rfl)) ?_
    refine Own.lastore hx hZ O244 0 5 rfl (by decide) (by exact (show 5 < 8 by decide)) ((a232, Own.ArrC Z .long [(.long (9223372036854775807 : Int64)), (.long (9223372036854775807 : Int64)), (.long (9223372036854775807 : Int64)), (.long (9223372036854775807 : Int64)), (.long (9223372036854775807 : Int64)), (.long (9223372036854775807 : Int64)), (.long (0 : Int64)), (.long (0 : Int64))]) :: []) rfl (hb hby at_53) rfl ?_
    intro h245 O246
    refine Own.aload hx (.ref a232) (hb hby at_54) rfl rfl rfl ?_
    refine Own.bipush hx (6 : Int32) (hb hby at_56) rfl (by decide) ?_
    refine Own.ldc2 hx hZ hown (9223372036854775807 : Int64) (hb hby at_58) rfl (hw _ (List.mem_of_getElem? (i := 1) rfl)) ?_
    refine Own.lastore hx hZ O246 0 6 rfl (by decide) (by exact (show 6 < 8 by decide)) ((a232, Own.ArrC Z .long [(.long (9223372036854775807 : Int64)), (.long (9223372036854775807 : Int64)), (.long (9223372036854775807 : Int64)), (.long (9223372036854775807 : Int64)), (.long (9223372036854775807 : Int64)), (.long (9223372036854775807 : Int64)), (.long (9223372036854775807 : Int64)), (.long (0 : Int64))]) :: []) rfl (hb hby at_61) rfl ?_
    intro h247 O248
    refine Own.aload hx (.ref a232) (hb hby at_62) rfl rfl rfl ?_
    refine Own.bipush hx (7 : Int32) (hb hby at_64) rfl (by decide) ?_
    refine Own.ldc2 hx hZ hown (9223372036854775807 : Int64) (hb hby at_66) rfl (hw _ (List.mem_of_getElem? (i := 1) rfl)) ?_
    refine Own.lastore hx hZ O248 0 7 rfl (by decide) (by exact (show 7 < 8 by decide)) ((a232, Own.ArrC Z .long [(.long (9223372036854775807 : Int64)), (.long (9223372036854775807 : Int64)), (.long (9223372036854775807 : Int64)), (.long (9223372036854775807 : Int64)), (.long (9223372036854775807 : Int64)), (.long (9223372036854775807 : Int64)), (.long (9223372036854775807 : Int64)), (.long (9223372036854775807 : Int64))]) :: []) rfl (hb hby at_69) rfl ?_
    intro h249 O250
    refine Own.newobj hx hZ hown O250 (hw _ (List.mem_of_getElem? (i := 2) rfl)) (hw _ (List.mem_of_getElem? (i := 3) rfl)) (hw _ (List.mem_of_getElem? (i := 4) rfl)) [(("com/example/twigline/twigline/matcher/StreamHeads", "size", "I"), (.int (0 : Int32))), (("com/example/twigline/twigline/matcher/StreamHeads", "starts", "[J"), .null), (("com/example/twigline/twigline/matcher/StreamHeads", "earliest", "[I"), .null)] (by intro f hf; simp only [List.mem_cons, List.not_mem_nil, or_false] at hf; rcases hf with rfl | rfl | rfl; exact ⟨Or.inr (hw _ (List.mem_of_getElem? (i := 12) rfl)), .int, by decide, rfl⟩; exact ⟨Or.inr (hw _ (List.mem_of_getElem? (i := 14) rfl)), (.array .long), by decide, rfl⟩; exact ⟨Or.inr (hw _ (List.mem_of_getElem? (i := 17) rfl)), (.array .int), by decide, rfl⟩) (by decide) (k' := 2) (n' := 11) rfl rfl (by decide) (by decide) (hb hby at_70) (pc' := 73) rfl ?_
    intro a251 h252 O253
    refine Own.dup hx (hb hby at_73) rfl rfl ?_
    refine Own.iload hx (4 : Int32) (hb hby at_74) rfl rfl ?_
    refine Own.callI hx hZ hown rfl (hw _ (List.mem_of_getElem? (i := 5) rfl)) (hw _ (List.mem_of_getElem? (i := 6) rfl)) (hw _ (List.mem_of_getElem? (i := 4) rfl)) (hw _ (List.mem_of_getElem? (i := 7) rfl)) (by decide) pd2 (argsL := [(.int (4 : Int32))]) (rest := [(.ref a251)]) rfl (W := 1) (Nat.le_of_eq rfl) (rm := ({ frames := 1, cells := 2, slots := 12, locals := 16 } : Room)) (by decide) (by decide) (by decide) (by decide) (k' := 4) (n' := 23) rfl rfl (by rw [hml]; rfl) [(.int (4 : Int32)), (.ref a251), (.ref a251)] rfl (hb hby at_76) (pc' := 79) rfl (rm1_4 l Z a0 hw a251 h252 n0 ((a232, Own.ArrC Z .long [(.long (9223372036854775807 : Int64)), (.long (9223372036854775807 : Int64)), (.long (9223372036854775807 : Int64)), (.long (9223372036854775807 : Int64)), (.long (9223372036854775807 : Int64)), (.long (9223372036854775807 : Int64)), (.long (9223372036854775807 : Int64)), (.long (9223372036854775807 : Int64))]) :: []) O253) ?_
    rintro _ h256 ⟨ra254, rb255, rfl, O257⟩
    show Own.Goes _ _ _ _ _ _ _ _ _ _ _ _ _ _ _ _ _ (mkF m 79 #[.val (.int p0), .val (.long q1), .second, .val (.long q2), .second, .val (.long q3), .second, .val (.long q4), .second, .val (.int p5), .val (.int (4 : Int32)), .val (.ref a232), .unset, .unset, .unset, .unset, .unset] [(.ref a251)])
    have O258 : Own.Owns n0 h256 ((a251, Own.ObjC Z "com/example/twigline/twigline/matcher/StreamHeads" [(("com/example/twigline/twigline/matcher/StreamHeads", "size", "I"), (.int (4 : Nat).toInt32)), (("com/example/twigline/twigline/matcher/StreamHeads", "starts", "[J"), (.ref ra254)), (("com/example/twigline/twigline/matcher/StreamHeads", "earliest", "[I"), (.ref rb255))]) :: (ra254, Own.ArrC Z .long ([(9223372036854775807 : Int64), (9223372036854775807 : Int64), (9223372036854775807 : Int64), (9223372036854775807 : Int64)].map Value.long)) :: (rb255, Own.ArrC Z .int ([0, 0, 0, 2, 0, 1, 2, 3].map gI)) :: (a232, Own.ArrC Z .long ([(9223372036854775807 : Int64), (9223372036854775807 : Int64), (9223372036854775807 : Int64), (9223372036854775807 : Int64), (9223372036854775807 : Int64), (9223372036854775807 : Int64), (9223372036854775807 : Int64), (9223372036854775807 : Int64)].map Value.long)) :: []) := O257
    have hI0 : InvT ([(9223372036854775807 : Int64), (9223372036854775807 : Int64), (9223372036854775807 : Int64), (9223372036854775807 : Int64)] : List Int64) [0, 0, 0, 2, 0, 1, 2, 3] 4 := inv_of (by decide +kernel)
    have hL0 : Like ([(9223372036854775807 : Int64), (9223372036854775807 : Int64), (9223372036854775807 : Int64), (9223372036854775807 : Int64)] : List Int64) [(9223372036854775807 : Int64), (9223372036854775807 : Int64), (9223372036854775807 : Int64), (9223372036854775807 : Int64), (9223372036854775807 : Int64), (9223372036854775807 : Int64), (9223372036854775807 : Int64), (9223372036854775807 : Int64)] 4 := ⟨rfl, rfl, by decide, by decide +kernel⟩
    refine Own.astore hx #[.val (.int p0), .val (.long q1), .second, .val (.long q2), .second, .val (.long q3), .second, .val (.long q4), .second, .val (.int p5), .val (.int (4 : Int32)), .val (.ref a232), .val (.ref a251), .unset, .unset, .unset, .unset] (hb hby at_79) rfl rfl rfl ?_
    refine Own.iload hx (4 : Int32) (hb hby at_81) rfl rfl ?_
    have hc259 : ¬ ((4 : Int32) = (0 : Int32)) := by decide
    refine Own.ifFn hx (Own.z_ne (4 : Int32)) (hb hby at_83) (pcN := 86) rfl (by decide) (pcT := 104) rfl (fun _ => ?_) (fun q => absurd q hc259)
    refine Own.iload hx p5 (hb hby at_104) rfl rfl ?_
    refine Own.bipush hx (7 : Int32) (hb hby at_106) rfl (by decide) ?_
    refine Own.iand hx (hb hby at_108) rfl ?_
    refine Own.iload hx (4 : Int32) (hb hby at_109) rfl rfl ?_
    refine Own.irem hx (hb hby at_111) rfl (by decide) ?_
    obtain ⟨px0, h_px0⟩ : ∃ z : Int32, z = ((p5 &&& (7 : Int32)) % (4 : Int32)) := ⟨_, rfl⟩
    refine Own.istore hx px0 h_px0 #[.val (.int p0), .val (.long q1), .second, .val (.long q2), .second, .val (.long q3), .second, .val (.long q4), .second, .val (.int p5), .val (.int (4 : Int32)), .val (.ref a232), .val (.ref a251), .val (.int px0), .unset, .unset, .unset] (hb hby at_112) rfl rfl ?_
    refine Own.iload hx p5 (hb hby at_114) rfl rfl ?_
    refine Own.iconst hx (3 : Int32) (hb hby at_116) rfl (by decide) ?_
    refine Own.iushr hx (hb hby at_117) rfl ?_
    refine Own.bipush hx (7 : Int32) (hb hby at_118) rfl (by decide) ?_
    refine Own.iand hx (hb hby at_120) rfl ?_
    refine Own.iload hx (4 : Int32) (hb hby at_121) rfl rfl ?_
    refine Own.irem hx (hb hby at_123) rfl (by decide) ?_
    obtain ⟨px1, h_px1⟩ : ∃ z : Int32, z = (((p5.toUInt32 >>> ((3 : Int32) &&& 31).toUInt32).toInt32 &&& (7 : Int32)) % (4 : Int32)) := ⟨_, rfl⟩
    refine Own.istore hx px1 h_px1 #[.val (.int p0), .val (.long q1), .second, .val (.long q2), .second, .val (.long q3), .second, .val (.long q4), .second, .val (.int p5), .val (.int (4 : Int32)), .val (.ref a232), .val (.ref a251), .val (.int px0), .val (.int px1), .unset, .unset] (hb hby at_124) rfl rfl ?_
    refine Own.iload hx p5 (hb hby at_126) rfl rfl ?_
    refine Own.bipush hx (6 : Int32) (hb hby at_128) rfl (by decide) ?_
    refine Own.iushr hx (hb hby at_130) rfl ?_
    refine Own.bipush hx (7 : Int32) (hb hby at_131) rfl (by decide) ?_
    refine Own.iand hx (hb hby at_133) rfl ?_
    refine Own.iload hx (4 : Int32) (hb hby at_134) rfl rfl ?_
    refine Own.irem hx (hb hby at_136) rfl (by decide) ?_
    obtain ⟨px2, h_px2⟩ : ∃ z : Int32, z = (((p5.toUInt32 >>> ((6 : Int32) &&& 31).toUInt32).toInt32 &&& (7 : Int32)) % (4 : Int32)) := ⟨_, rfl⟩
    refine Own.istore hx px2 h_px2 #[.val (.int p0), .val (.long q1), .second, .val (.long q2), .second, .val (.long q3), .second, .val (.long q4), .second, .val (.int p5), .val (.int (4 : Int32)), .val (.ref a232), .val (.ref a251), .val (.int px0), .val (.int px1), .val (.int px2), .unset] (hb hby at_137) rfl rfl ?_
    refine Own.iload hx p5 (hb hby at_139) rfl rfl ?_
    refine Own.bipush hx (9 : Int32) (hb hby at_141) rfl (by decide) ?_
    refine Own.iushr hx (hb hby at_143) rfl ?_
    refine Own.bipush hx (7 : Int32) (hb hby at_144) rfl (by decide) ?_
    refine Own.iand hx (hb hby at_146) rfl ?_
    refine Own.iload hx (4 : Int32) (hb hby at_147) rfl rfl ?_
    refine Own.irem hx (hb hby at_149) rfl (by decide) ?_
    obtain ⟨px3, h_px3⟩ : ∃ z : Int32, z = (((p5.toUInt32 >>> ((9 : Int32) &&& 31).toUInt32).toInt32 &&& (7 : Int32)) % (4 : Int32)) := ⟨_, rfl⟩
    refine Own.istore hx px3 h_px3 #[.val (.int p0), .val (.long q1), .second, .val (.long q2), .second, .val (.long q3), .second, .val (.long q4), .second, .val (.int p5), .val (.int (4 : Int32)), .val (.ref a232), .val (.ref a251), .val (.int px0), .val (.int px1), .val (.int px2), .val (.int px3)] (hb hby at_150) rfl rfl ?_
    obtain ⟨pl0, hpl0, hlt0⟩ := own_pl h_px0 (sz := 4) (by decide) (by decide)
    obtain ⟨pl1, hpl1, hlt1⟩ := own_pl h_px1 (sz := 4) (by decide) (by decide)
    obtain ⟨pl2, hpl2, hlt2⟩ := own_pl h_px2 (sz := 4) (by decide) (by decide)
    obtain ⟨pl3, hpl3, hlt3⟩ := own_pl h_px3 (sz := 4) (by decide) (by decide)
    refine Own.aload hx (.ref a251) (hb hby at_152) rfl rfl rfl ?_
    refine Own.iload hx px0 (hb hby at_154) rfl rfl ?_
    refine Own.lloadN hx q1 (hb hby at_156) rfl rfl ?_
    have O262 : Own.Owns n0 h256 ((rb255, Own.ArrC Z .int ([0, 0, 0, 2, 0, 1, 2, 3].map gI)) :: (a251, Own.ObjC Z "com/example/twigline/twigline/matcher/StreamHeads" [(("com/example/twigline/twigline/matcher/StreamHeads", "size", "I"), (.int (4 : Nat).toInt32)), (("com/example/twigline/twigline/matcher/StreamHeads", "starts", "[J"), (.ref ra254)), (("com/example/twigline/twigline/matcher/StreamHeads", "earliest", "[I"), (.ref rb255))]) :: (ra254, Own.ArrC Z .long ([(9223372036854775807 : Int64), (9223372036854775807 : Int64), (9223372036854775807 : Int64), (9223372036854775807 : Int64)].map Value.long)) :: (a232, Own.ArrC Z .long ([(9223372036854775807 : Int64), (9223372036854775807 : Int64), (9223372036854775807 : Int64), (9223372036854775807 : Int64), (9223372036854775807 : Int64), (9223372036854775807 : Int64), (9223372036854775807 : Int64), (9223372036854775807 : Int64)].map Value.long)) :: []) := O258.pick 2 rfl
    have O263 : Own.Owns n0 h256 ((ra254, Own.ArrC Z .long ([(9223372036854775807 : Int64), (9223372036854775807 : Int64), (9223372036854775807 : Int64), (9223372036854775807 : Int64)].map Value.long)) :: (rb255, Own.ArrC Z .int ([0, 0, 0, 2, 0, 1, 2, 3].map gI)) :: (a251, Own.ObjC Z "com/example/twigline/twigline/matcher/StreamHeads" [(("com/example/twigline/twigline/matcher/StreamHeads", "size", "I"), (.int (4 : Nat).toInt32)), (("com/example/twigline/twigline/matcher/StreamHeads", "starts", "[J"), (.ref ra254)), (("com/example/twigline/twigline/matcher/StreamHeads", "earliest", "[I"), (.ref rb255))]) :: (a232, Own.ArrC Z .long ([(9223372036854775807 : Int64), (9223372036854775807 : Int64), (9223372036854775807 : Int64), (9223372036854775807 : Int64), (9223372036854775807 : Int64), (9223372036854775807 : Int64), (9223372036854775807 : Int64), (9223372036854775807 : Int64)].map Value.long)) :: []) := O262.pick 2 rfl
    have O264 : Own.Owns n0 h256 ((a251, Own.ObjC Z "com/example/twigline/twigline/matcher/StreamHeads" [(("com/example/twigline/twigline/matcher/StreamHeads", "size", "I"), (.int (4 : Nat).toInt32)), (("com/example/twigline/twigline/matcher/StreamHeads", "starts", "[J"), (.ref ra254)), (("com/example/twigline/twigline/matcher/StreamHeads", "earliest", "[I"), (.ref rb255))]) :: (ra254, Own.ArrC Z .long ([(9223372036854775807 : Int64), (9223372036854775807 : Int64), (9223372036854775807 : Int64), (9223372036854775807 : Int64)].map Value.long)) :: (rb255, Own.ArrC Z .int ([0, 0, 0, 2, 0, 1, 2, 3].map gI)) :: (a232, Own.ArrC Z .long ([(9223372036854775807 : Int64), (9223372036854775807 : Int64), (9223372036854775807 : Int64), (9223372036854775807 : Int64), (9223372036854775807 : Int64), (9223372036854775807 : Int64), (9223372036854775807 : Int64), (9223372036854775807 : Int64)].map Value.long)) :: []) := O263.pick 2 rfl
    refine Own.callV hx hZ hown (O264.exa (i := 0) rfl) (hw _ (List.mem_of_getElem? (i := 28) rfl)) (hw _ (List.mem_of_getElem? (i := 29) rfl)) (hw _ (List.mem_of_getElem? (i := 31) rfl)) (hw _ (List.mem_of_getElem? (i := 30) rfl)) (hw _ (List.mem_of_getElem? (i := 4) rfl)) (hw _ (List.mem_of_getElem? (i := 32) rfl)) (by decide) pd4 (argsL := [(.int px0), (.long q1)]) (rest := []) rfl (W := 0) (Nat.le_of_eq rfl) (rm := ({ frames := 2, cells := 0, slots := 0, locals := 34 } : Room)) (by decide) (by decide) (by decide) (by decide) (k' := 4) (n' := 23) rfl rfl (by rw [hml]; rfl) [(.long q1), (.int px0), (.ref a251)] rfl (hb hby at_157) (pc' := 160) rfl (rm5 l Z a0 hw a251 px0 q1 h256 n0 pl0 4 ra254 rb255 [(9223372036854775807 : Int64), (9223372036854775807 : Int64), (9223372036854775807 : Int64), (9223372036854775807 : Int64)] [0, 0, 0, 2, 0, 1, 2, 3] (by decide) hpl0 hlt0 hI0 ((a232, Own.ArrC Z .long ([(9223372036854775807 : Int64), (9223372036854775807 : Int64), (9223372036854775807 : Int64), (9223372036854775807 : Int64), (9223372036854775807 : Int64), (9223372036854775807 : Int64), (9223372036854775807 : Int64), (9223372036854775807 : Int64)].map Value.long)) :: []) O264) ?_
    rintro _ h265 ⟨es261, rfl, hI1, O266⟩
    show Own.Goes _ _ _ _ _ _ _ _ _ _ _ _ _ _ _ _ _ (mkF m 160 #[.val (.int p0), .val (.long q1), .second, .val (.long q2), .second, .val (.long q3), .second, .val (.long q4), .second, .val (.int p5), .val (.int (4 : Int32)), .val (.ref a232), .val (.ref a251), .val (.int px0), .val (.int px1), .val (.int px2), .val (.int px3)] [])
    refine Own.aload hx (.ref a232) (hb hby at_160) rfl rfl rfl ?_
    refine Own.iload hx px0 (hb hby at_162) rfl rfl ?_
    refine Own.lloadN hx q1 (hb hby at_164) rfl rfl ?_
    have hL1 := like_set (x := q1) hL0 hlt0
    refine Own.lastore hx hZ O266 3 pl0 rfl hpl0 (by rw [List.length_map, hL0.2.1]; omega) ((a251, Own.ObjC Z "com/example/twigline/twigline/matcher/StreamHeads" [(("com/example/twigline/twigline/matcher/StreamHeads", "size", "I"), (.int (4 : Nat).toInt32)), (("com/example/twigline/twigline/matcher/StreamHeads", "starts", "[J"), (.ref ra254)), (("com/example/twigline/twigline/matcher/StreamHeads", "earliest", "[I"), (.ref rb255))]) :: (ra254, Own.ArrC Z .long (([(9223372036854775807 : Int64), (9223372036854775807 : Int64), (9223372036854775807 : Int64), (9223372036854775807 : Int64)].set pl0 q1).map Value.long)) :: (rb255, Own.ArrC Z .int (es261.map gI)) :: (a232, Own.ArrC Z .long (([(9223372036854775807 : Int64), (9223372036854775807 : Int64), (9223372036854775807 : Int64), (9223372036854775807 : Int64), (9223372036854775807 : Int64), (9223372036854775807 : Int64), (9223372036854775807 : Int64), (9223372036854775807 : Int64)].set pl0 q1).map Value.long)) :: []) (by rw [← show ([(9223372036854775807 : Int64), (9223372036854775807 : Int64), (9223372036854775807 : Int64), (9223372036854775807 : Int64), (9223372036854775807 : Int64), (9223372036854775807 : Int64), (9223372036854775807 : Int64), (9223372036854775807 : Int64)].map Value.long).set pl0 (Value.long q1) = (([(9223372036854775807 : Int64), (9223372036854775807 : Int64), (9223372036854775807 : Int64), (9223372036854775807 : Int64), (9223372036854775807 : Int64), (9223372036854775807 : Int64), (9223372036854775807 : Int64), (9223372036854775807 : Int64)].set pl0 q1).map Value.long) from (List.map_set).symm]; rfl) (hb hby at_165) rfl ?_
    intro h267 O268
    refine Own.aload hx (.ref a251) (hb hby at_166) rfl rfl rfl ?_
    refine Own.iload hx px1 (hb hby at_168) rfl rfl ?_
    refine Own.lloadN hx q2 (hb hby at_170) rfl rfl ?_
    have O270 : Own.Owns n0 h267 ((rb255, Own.ArrC Z .int (es261.map gI)) :: (a251, Own.ObjC Z "com/example/twigline/twigline/matcher/StreamHeads" [(("com/example/twigline/twigline/matcher/StreamHeads", "size", "I"), (.int (4 : Nat).toInt32)), (("com/example/twigline/twigline/matcher/StreamHeads", "starts", "[J"), (.ref ra254)), (("com/example/twigline/twigline/matcher/StreamHeads", "earliest", "[I"), (.ref rb255))]) :: (ra254, Own.ArrC Z .long (([(9223372036854775807 : Int64), (9223372036854775807 : Int64), (9223372036854775807 : Int64), (9223372036854775807 : Int64)].set pl0 q1).map Value.long)) :: (a232, Own.ArrC Z .long (([(9223372036854775807 : Int64), (9223372036854775807 : Int64), (9223372036854775807 : Int64), (9223372036854775807 : Int64), (9223372036854775807 : Int64), (9223372036854775807 : Int64), (9223372036854775807 : Int64), (9223372036854775807 : Int64)].set pl0 q1).map Value.long)) :: []) := O268.pick 2 rfl
    have O271 : Own.Owns n0 h267 ((ra254, Own.ArrC Z .long (([(9223372036854775807 : Int64), (9223372036854775807 : Int64), (9223372036854775807 : Int64), (9223372036854775807 : Int64)].set pl0 q1).map Value.long)) :: (rb255, Own.ArrC Z .int (es261.map gI)) :: (a251, Own.ObjC Z "com/example/twigline/twigline/matcher/StreamHeads" [(("com/example/twigline/twigline/matcher/StreamHeads", "size", "I"), (.int (4 : Nat).toInt32)), (("com/example/twigline/twigline/matcher/StreamHeads", "starts", "[J"), (.ref ra254)), (("com/example/twigline/twigline/matcher/StreamHeads", "earliest", "[I"), (.ref rb255))]) :: (a232, Own.ArrC Z .long (([(9223372036854775807 : Int64), (9223372036854775807 : Int64), (9223372036854775807 : Int64), (9223372036854775807 : Int64), (9223372036854775807 : Int64), (9223372036854775807 : Int64), (9223372036854775807 : Int64), (9223372036854775807 : Int64)].set pl0 q1).map Value.long)) :: []) := O270.pick 2 rfl
    have O272 : Own.Owns n0 h267 ((a251, Own.ObjC Z "com/example/twigline/twigline/matcher/StreamHeads" [(("com/example/twigline/twigline/matcher/StreamHeads", "size", "I"), (.int (4 : Nat).toInt32)), (("com/example/twigline/twigline/matcher/StreamHeads", "starts", "[J"), (.ref ra254)), (("com/example/twigline/twigline/matcher/StreamHeads", "earliest", "[I"), (.ref rb255))]) :: (ra254, Own.ArrC Z .long (([(9223372036854775807 : Int64), (9223372036854775807 : Int64), (9223372036854775807 : Int64), (9223372036854775807 : Int64)].set pl0 q1).map Value.long)) :: (rb255, Own.ArrC Z .int (es261.map gI)) :: (a232, Own.ArrC Z .long (([(9223372036854775807 : Int64), (9223372036854775807 : Int64), (9223372036854775807 : Int64), (9223372036854775807 : Int64), (9223372036854775807 : Int64), (9223372036854775807 : Int64), (9223372036854775807 : Int64), (9223372036854775807 : Int64)].set pl0 q1).map Value.long)) :: []) := O271.pick 2 rfl
    refine Own.callV hx hZ hown (O272.exa (i := 0) rfl) (hw _ (List.mem_of_getElem? (i := 28) rfl)) (hw _ (List.mem_of_getElem? (i := 29) rfl)) (hw _ (List.mem_of_getElem? (i := 31) rfl)) (hw _ (List.mem_of_getElem? (i := 30) rfl)) (hw _ (List.mem_of_getElem? (i := 4) rfl)) (hw _ (List.mem_of_getElem? (i := 32) rfl)) (by decide) pd4 (argsL := [(.int px1), (.long q2)]) (rest := []) rfl (W := 0) (Nat.le_of_eq rfl) (rm := ({ frames := 2, cells := 0, slots := 0, locals := 34 } : Room)) (by decide) (by decide) (by decide) (by decide) (k' := 4) (n' := 23) rfl rfl (by rw [hml]; rfl) [(.long q2), (.int px1), (.ref a251)] rfl (hb hby at_171) (pc' := 174) rfl (rm5 l Z a0 hw a251 px1 q2 h267 n0 pl1 4 ra254 rb255 ([(9223372036854775807 : Int64), (9223372036854775807 : Int64), (9223372036854775807 : Int64), (9223372036854775807 : Int64)].set pl0 q1) es261 (by decide) hpl1 hlt1 hI1 ((a232, Own.ArrC Z .long (([(9223372036854775807 : Int64), (9223372036854775807 : Int64), (9223372036854775807 : Int64), (9223372036854775807 : Int64), (9223372036854775807 : Int64), (9223372036854775807 : Int64), (9223372036854775807 : Int64), (9223372036854775807 : Int64)].set pl0 q1).map Value.long)) :: []) O272) ?_
    rintro _ h273 ⟨es269, rfl, hI2, O274⟩
    show Own.Goes _ _ _ _ _ _ _ _ _ _ _ _ _ _ _ _ _ (mkF m 174 #[.val (.int p0), .val (.long q1), .second, .val (.long q2), .second, .val (.long q3), .second, .val (.long q4), .second, .val (.int p5), .val (.int (4 : Int32)), .val (.ref a232), .val (.ref a251), .val (.int px0), .val (.int px1), .val (.int px2), .val (.int px3)] [])
    refine Own.aload hx (.ref a232) (hb hby at_174) rfl rfl rfl ?_
    refine Own.iload hx px1 (hb hby at_176) rfl rfl ?_
    refine Own.lloadN hx q2 (hb hby at_178) rfl rfl ?_
    have hL2 := like_set (x := q2) hL1 hlt1
    refine Own.lastore hx hZ O274 3 pl1 rfl hpl1 (by rw [List.length_map, hL1.2.1]; omega) ((a251, Own.ObjC Z "com/example/twigline/twigline/matcher/StreamHeads" [(("com/example/twigline/twigline/matcher/StreamHeads", "size", "I"), (.int (4 : Nat).toInt32)), (("com/example/twigline/twigline/matcher/StreamHeads", "starts", "[J"), (.ref ra254)), (("com/example/twigline/twigline/matcher/StreamHeads", "earliest", "[I"), (.ref rb255))]) :: (ra254, Own.ArrC Z .long ((([(9223372036854775807 : Int64), (9223372036854775807 : Int64), (9223372036854775807 : Int64), (9223372036854775807 : Int64)].set pl0 q1).set pl1 q2).map Value.long)) :: (rb255, Own.ArrC Z .int (es269.map gI)) :: (a232, Own.ArrC Z .long ((([(9223372036854775807 : Int64), (9223372036854775807 : Int64), (9223372036854775807 : Int64), (9223372036854775807 : Int64), (9223372036854775807 : Int64), (9223372036854775807 : Int64), (9223372036854775807 : Int64), (9223372036854775807 : Int64)].set pl0 q1).set pl1 q2).map Value.long)) :: []) (by rw [← show (([(9223372036854775807 : Int64), (9223372036854775807 : Int64), (9223372036854775807 : Int64), (9223372036854775807 : Int64), (9223372036854775807 : Int64), (9223372036854775807 : Int64), (9223372036854775807 : Int64), (9223372036854775807 : Int64)].set pl0 q1).map Value.long).set pl1 (Value.long q2) = ((([(9223372036854775807 : Int64), (9223372036854775807 : Int64), (9223372036854775807 : Int64), (9223372036854775807 : Int64), (9223372036854775807 : Int64), (9223372036854775807 : Int64), (9223372036854775807 : Int64), (9223372036854775807 : Int64)].set pl0 q1).set pl1 q2).map Value.long) from (List.map_set).symm]; rfl) (hb hby at_179) rfl ?_
    intro h275 O276
    refine Own.aload hx (.ref a251) (hb hby at_180) rfl rfl rfl ?_
    refine Own.iload hx px2 (hb hby at_182) rfl rfl ?_
    refine Own.lload hx q3 (hb hby at_184) rfl rfl ?_
    have O278 : Own.Owns n0 h275 ((rb255, Own.ArrC Z .int (es269.map gI)) :: (a251, Own.ObjC Z "com/example/twigline/twigline/matcher/StreamHeads" [(("com/example/twigline/twigline/matcher/StreamHeads", "size", "I"), (.int (4 : Nat).toInt32)), (("com/example/twigline/twigline/matcher/StreamHeads", "starts", "[J"), (.ref ra254)), (("com/example/twigline/twigline/matcher/StreamHeads", "earliest", "[I"), (.ref rb255))]) :: (ra254, Own.ArrC Z .long ((([(9223372036854775807 : Int64), (9223372036854775807 : Int64), (9223372036854775807 : Int64), (9223372036854775807 : Int64)].set pl0 q1).set pl1 q2).map Value.long)) :: (a232, Own.ArrC Z .long ((([(9223372036854775807 : Int64), (9223372036854775807 : Int64), (9223372036854775807 : Int64), (9223372036854775807 : Int64), (9223372036854775807 : Int64), (9223372036854775807 : Int64), (9223372036854775807 : Int64), (9223372036854775807 : Int64)].set pl0 q1).set pl1 q2).map Value.long)) :: []) := O276.pick 2 rfl
    have O279 : Own.Owns n0 h275 ((ra254, Own.ArrC Z .long ((([(9223372036854775807 : Int64), (9223372036854775807 : Int64), (9223372036854775807 : Int64), (9223372036854775807 : Int64)].set pl0 q1).set pl1 q2).map Value.long)) :: (rb255, Own.ArrC Z .int (es269.map gI)) :: (a251, Own.ObjC Z "com/example/twigline/twigline/matcher/StreamHeads" [(("com/example/twigline/twigline/matcher/StreamHeads", "size", "I"), (.int (4 : Nat).toInt32)), (("com/example/twigline/twigline/matcher/StreamHeads", "starts", "[J"), (.ref ra254)), (("com/example/twigline/twigline/matcher/StreamHeads", "earliest", "[I"), (.ref rb255))]) :: (a232, Own.ArrC Z .long ((([(9223372036854775807 : Int64), (9223372036854775807 : Int64), (9223372036854775807 : Int64), (9223372036854775807 : Int64), (9223372036854775807 : Int64), (9223372036854775807 : Int64), (9223372036854775807 : Int64), (9223372036854775807 : Int64)].set pl0 q1).set pl1 q2).map Value.long)) :: []) := O278.pick 2 rfl
    have O280 : Own.Owns n0 h275 ((a251, Own.ObjC Z "com/example/twigline/twigline/matcher/StreamHeads" [(("com/example/twigline/twigline/matcher/StreamHeads", "size", "I"), (.int (4 : Nat).toInt32)), (("com/example/twigline/twigline/matcher/StreamHeads", "starts", "[J"), (.ref ra254)), (("com/example/twigline/twigline/matcher/StreamHeads", "earliest", "[I"), (.ref rb255))]) :: (ra254, Own.ArrC Z .long ((([(9223372036854775807 : Int64), (9223372036854775807 : Int64), (9223372036854775807 : Int64), (9223372036854775807 : Int64)].set pl0 q1).set pl1 q2).map Value.long)) :: (rb255, Own.ArrC Z .int (es269.map gI)) :: (a232, Own.ArrC Z .long ((([(9223372036854775807 : Int64), (9223372036854775807 : Int64), (9223372036854775807 : Int64), (9223372036854775807 : Int64), (9223372036854775807 : Int64), (9223372036854775807 : Int64), (9223372036854775807 : Int64), (9223372036854775807 : Int64)].set pl0 q1).set pl1 q2).map Value.long)) :: []) := O279.pick 2 rfl
    refine Own.callV hx hZ hown (O280.exa (i := 0) rfl) (hw _ (List.mem_of_getElem? (i := 28) rfl)) (hw _ (List.mem_of_getElem? (i := 29) rfl)) (hw _ (List.mem_of_getElem? (i := 31) rfl)) (hw _ (List.mem_of_getElem? (i := 30) rfl)) (hw _ (List.mem_of_getElem? (i := 4) rfl)) (hw _ (List.mem_of_getElem? (i := 32) rfl)) (by decide) pd4 (argsL := [(.int px2), (.long q3)]) (rest := []) rfl (W := 0) (Nat.le_of_eq rfl) (rm := ({ frames := 2, cells := 0, slots := 0, locals := 34 } : Room)) (by decide) (by decide) (by decide) (by decide) (k' := 4) (n' := 23) rfl rfl (by rw [hml]; rfl) [(.long q3), (.int px2), (.ref a251)] rfl (hb hby at_186) (pc' := 189) rfl (rm5 l Z a0 hw a251 px2 q3 h275 n0 pl2 4 ra254 rb255 (([(9223372036854775807 : Int64), (9223372036854775807 : Int64), (9223372036854775807 : Int64), (9223372036854775807 : Int64)].set pl0 q1).set pl1 q2) es269 (by decide) hpl2 hlt2 hI2 ((a232, Own.ArrC Z .long ((([(9223372036854775807 : Int64), (9223372036854775807 : Int64), (9223372036854775807 : Int64), (9223372036854775807 : Int64), (9223372036854775807 : Int64), (9223372036854775807 : Int64), (9223372036854775807 : Int64), (9223372036854775807 : Int64)].set pl0 q1).set pl1 q2).map Value.long)) :: []) O280) ?_
    rintro _ h281 ⟨es277, rfl, hI3, O282⟩
    show Own.Goes _ _ _ _ _ _ _ _ _ _ _ _ _ _ _ _ _ (mkF m 189 #[.val (.int p0), .val (.long q1), .second, .val (.long q2), .second, .val (.long q3), .second, .val (.long q4), .second, .val (.int p5), .val (.int (4 : Int32)), .val (.ref a232), .val (.ref a251), .val (.int px0), .val (.int px1), .val (.int px2), .val (.int px3)] [])
    refine Own.aload hx (.ref a232) (hb hby at_189) rfl rfl rfl ?_
    refine Own.iload hx px2 (hb hby at_191) rfl rfl ?_
    refine Own.lload hx q3 (hb hby at_193) rfl rfl ?_
    have hL3 := like_set (x := q3) hL2 hlt2
    refine Own.lastore hx hZ O282 3 pl2 rfl hpl2 (by rw [List.length_map, hL2.2.1]; omega) ((a251, Own.ObjC Z "com/example/twigline/twigline/matcher/StreamHeads" [(("com/example/twigline/twigline/matcher/StreamHeads", "size", "I"), (.int (4 : Nat).toInt32)), (("com/example/twigline/twigline/matcher/StreamHeads", "starts", "[J"), (.ref ra254)), (("com/example/twigline/twigline/matcher/StreamHeads", "earliest", "[I"), (.ref rb255))]) :: (ra254, Own.ArrC Z .long (((([(9223372036854775807 : Int64), (9223372036854775807 : Int64), (9223372036854775807 : Int64), (9223372036854775807 : Int64)].set pl0 q1).set pl1 q2).set pl2 q3).map Value.long)) :: (rb255, Own.ArrC Z .int (es277.map gI)) :: (a232, Own.ArrC Z .long (((([(9223372036854775807 : Int64), (9223372036854775807 : Int64), (9223372036854775807 : Int64), (9223372036854775807 : Int64), (9223372036854775807 : Int64), (9223372036854775807 : Int64), (9223372036854775807 : Int64), (9223372036854775807 : Int64)].set pl0 q1).set pl1 q2).set pl2 q3).map Value.long)) :: []) (by rw [← show ((([(9223372036854775807 : Int64), (9223372036854775807 : Int64), (9223372036854775807 : Int64), (9223372036854775807 : Int64), (9223372036854775807 : Int64), (9223372036854775807 : Int64), (9223372036854775807 : Int64), (9223372036854775807 : Int64)].set pl0 q1).set pl1 q2).map Value.long).set pl2 (Value.long q3) = (((([(9223372036854775807 : Int64), (9223372036854775807 : Int64), (9223372036854775807 : Int64), (9223372036854775807 : Int64), (9223372036854775807 : Int64), (9223372036854775807 : Int64), (9223372036854775807 : Int64), (9223372036854775807 : Int64)].set pl0 q1).set pl1 q2).set pl2 q3).map Value.long) from (List.map_set).symm]; rfl) (hb hby at_195) rfl ?_
    intro h283 O284
    refine Own.aload hx (.ref a251) (hb hby at_196) rfl rfl rfl ?_
    refine Own.iload hx px3 (hb hby at_198) rfl rfl ?_
    refine Own.lload hx q4 (hb hby at_200) rfl rfl ?_
    have O286 : Own.Owns n0 h283 ((rb255, Own.ArrC Z .int (es277.map gI)) :: (a251, Own.ObjC Z "com/example/twigline/twigline/matcher/StreamHeads" [(("com/example/twigline/twigline/matcher/StreamHeads", "size", "I"), (.int (4 : Nat).toInt32)), (("com/example/twigline/twigline/matcher/StreamHeads", "starts", "[J"), (.ref ra254)), (("com/example/twigline/twigline/matcher/StreamHeads", "earliest", "[I"), (.ref rb255))]) :: (ra254, Own.ArrC Z .long (((([(9223372036854775807 : Int64), (9223372036854775807 : Int64), (9223372036854775807 : Int64), (9223372036854775807 : Int64)].set pl0 q1).set pl1 q2).set pl2 q3).map Value.long)) :: (a232, Own.ArrC Z .long (((([(9223372036854775807 : Int64), (9223372036854775807 : Int64), (9223372036854775807 : Int64), (9223372036854775807 : Int64), (9223372036854775807 : Int64), (9223372036854775807 : Int64), (9223372036854775807 : Int64), (9223372036854775807 : Int64)].set pl0 q1).set pl1 q2).set pl2 q3).map Value.long)) :: []) := O284.pick 2 rfl
    have O287 : Own.Owns n0 h283 ((ra254, Own.ArrC Z .long (((([(9223372036854775807 : Int64), (9223372036854775807 : Int64), (9223372036854775807 : Int64), (9223372036854775807 : Int64)].set pl0 q1).set pl1 q2).set pl2 q3).map Value.long)) :: (rb255, Own.ArrC Z .int (es277.map gI)) :: (a251, Own.ObjC Z "com/example/twigline/twigline/matcher/StreamHeads" [(("com/example/twigline/twigline/matcher/StreamHeads", "size", "I"), (.int (4 : Nat).toInt32)), (("com/example/twigline/twigline/matcher/StreamHeads", "starts", "[J"), (.ref ra254)), (("com/example/twigline/twigline/matcher/StreamHeads", "earliest", "[I"), (.ref rb255))]) :: (a232, Own.ArrC Z .long (((([(9223372036854775807 : Int64), (9223372036854775807 : Int64), (9223372036854775807 : Int64), (9223372036854775807 : Int64), (9223372036854775807 : Int64), (9223372036854775807 : Int64), (9223372036854775807 : Int64), (9223372036854775807 : Int64)].set pl0 q1).set pl1 q2).set pl2 q3).map Value.long)) :: []) := O286.pick 2 rfl
    have O288 : Own.Owns n0 h283 ((a251, Own.ObjC Z "com/example/twigline/twigline/matcher/StreamHeads" [(("com/example/twigline/twigline/matcher/StreamHeads", "size", "I"), (.int (4 : Nat).toInt32)), (("com/example/twigline/twigline/matcher/StreamHeads", "starts", "[J"), (.ref ra254)), (("com/example/twigline/twigline/matcher/StreamHeads", "earliest", "[I"), (.ref rb255))]) :: (ra254, Own.ArrC Z .long (((([(9223372036854775807 : Int64), (9223372036854775807 : Int64), (9223372036854775807 : Int64), (9223372036854775807 : Int64)].set pl0 q1).set pl1 q2).set pl2 q3).map Value.long)) :: (rb255, Own.ArrC Z .int (es277.map gI)) :: (a232, Own.ArrC Z .long (((([(9223372036854775807 : Int64), (9223372036854775807 : Int64), (9223372036854775807 : Int64), (9223372036854775807 : Int64), (9223372036854775807 : Int64), (9223372036854775807 : Int64), (9223372036854775807 : Int64), (9223372036854775807 : Int64)].set pl0 q1).set pl1 q2).set pl2 q3).map Value.long)) :: []) := O287.pick 2 rfl
    refine Own.callV hx hZ hown (O288.exa (i := 0) rfl) (hw _ (List.mem_of_getElem? (i := 28) rfl)) (hw _ (List.mem_of_getElem? (i := 29) rfl)) (hw _ (List.mem_of_getElem? (i := 31) rfl)) (hw _ (List.mem_of_getElem? (i := 30) rfl)) (hw _ (List.mem_of_getElem? (i := 4) rfl)) (hw _ (List.mem_of_getElem? (i := 32) rfl)) (by decide) pd4 (argsL := [(.int px3), (.long q4)]) (rest := []) rfl (W := 0) (Nat.le_of_eq rfl) (rm := ({ frames := 2, cells := 0, slots := 0, locals := 34 } : Room)) (by decide) (by decide) (by decide) (by decide) (k' := 4) (n' := 23) rfl rfl (by rw [hml]; rfl) [(.long q4), (.int px3), (.ref a251)] rfl (hb hby at_202) (pc' := 205) rfl (rm5 l Z a0 hw a251 px3 q4 h283 n0 pl3 4 ra254 rb255 ((([(9223372036854775807 : Int64), (9223372036854775807 : Int64), (9223372036854775807 : Int64), (9223372036854775807 : Int64)].set pl0 q1).set pl1 q2).set pl2 q3) es277 (by decide) hpl3 hlt3 hI3 ((a232, Own.ArrC Z .long (((([(9223372036854775807 : Int64), (9223372036854775807 : Int64), (9223372036854775807 : Int64), (9223372036854775807 : Int64), (9223372036854775807 : Int64), (9223372036854775807 : Int64), (9223372036854775807 : Int64), (9223372036854775807 : Int64)].set pl0 q1).set pl1 q2).set pl2 q3).map Value.long)) :: []) O288) ?_
    rintro _ h289 ⟨es285, rfl, hI4, O290⟩
    show Own.Goes _ _ _ _ _ _ _ _ _ _ _ _ _ _ _ _ _ (mkF m 205 #[.val (.int p0), .val (.long q1), .second, .val (.long q2), .second, .val (.long q3), .second, .val (.long q4), .second, .val (.int p5), .val (.int (4 : Int32)), .val (.ref a232), .val (.ref a251), .val (.int px0), .val (.int px1), .val (.int px2), .val (.int px3)] [])
    refine Own.aload hx (.ref a232) (hb hby at_205) rfl rfl rfl ?_
    refine Own.iload hx px3 (hb hby at_207) rfl rfl ?_
    refine Own.lload hx q4 (hb hby at_209) rfl rfl ?_
    have hL4 := like_set (x := q4) hL3 hlt3
    refine Own.lastore hx hZ O290 3 pl3 rfl hpl3 (by rw [List.length_map, hL3.2.1]; omega) ((a251, Own.ObjC Z "com/example/twigline/twigline/matcher/StreamHeads" [(("com/example/twigline/twigline/matcher/StreamHeads", "size", "I"), (.int (4 : Nat).toInt32)), (("com/example/twigline/twigline/matcher/StreamHeads", "starts", "[J"), (.ref ra254)), (("com/example/twigline/twigline/matcher/StreamHeads", "earliest", "[I"), (.ref rb255))]) :: (ra254, Own.ArrC Z .long ((((([(9223372036854775807 : Int64), (9223372036854775807 : Int64), (9223372036854775807 : Int64), (9223372036854775807 : Int64)].set pl0 q1).set pl1 q2).set pl2 q3).set pl3 q4).map Value.long)) :: (rb255, Own.ArrC Z .int (es285.map gI)) :: (a232, Own.ArrC Z .long ((((([(9223372036854775807 : Int64), (9223372036854775807 : Int64), (9223372036854775807 : Int64), (9223372036854775807 : Int64), (9223372036854775807 : Int64), (9223372036854775807 : Int64), (9223372036854775807 : Int64), (9223372036854775807 : Int64)].set pl0 q1).set pl1 q2).set pl2 q3).set pl3 q4).map Value.long)) :: []) (by rw [← show (((([(9223372036854775807 : Int64), (9223372036854775807 : Int64), (9223372036854775807 : Int64), (9223372036854775807 : Int64), (9223372036854775807 : Int64), (9223372036854775807 : Int64), (9223372036854775807 : Int64), (9223372036854775807 : Int64)].set pl0 q1).set pl1 q2).set pl2 q3).map Value.long).set pl3 (Value.long q4) = ((((([(9223372036854775807 : Int64), (9223372036854775807 : Int64), (9223372036854775807 : Int64), (9223372036854775807 : Int64), (9223372036854775807 : Int64), (9223372036854775807 : Int64), (9223372036854775807 : Int64), (9223372036854775807 : Int64)].set pl0 q1).set pl1 q2).set pl2 q3).set pl3 q4).map Value.long) from (List.map_set).symm]; rfl) (hb hby at_211) rfl ?_
    intro h291 O292
    refine Own.aload hx (.ref a251) (hb hby at_212) rfl rfl rfl ?_
    have O293 : Own.Owns n0 h291 ((rb255, Own.ArrC Z .int (es285.map gI)) :: (a251, Own.ObjC Z "com/example/twigline/twigline/matcher/StreamHeads" [(("com/example/twigline/twigline/matcher/StreamHeads", "size", "I"), (.int (4 : Nat).toInt32)), (("com/example/twigline/twigline/matcher/StreamHeads", "starts", "[J"), (.ref ra254)), (("com/example/twigline/twigline/matcher/StreamHeads", "earliest", "[I"), (.ref rb255))]) :: (ra254, Own.ArrC Z .long ((((([(9223372036854775807 : Int64), (9223372036854775807 : Int64), (9223372036854775807 : Int64), (9223372036854775807 : Int64)].set pl0 q1).set pl1 q2).set pl2 q3).set pl3 q4).map Value.long)) :: (a232, Own.ArrC Z .long ((((([(9223372036854775807 : Int64), (9223372036854775807 : Int64), (9223372036854775807 : Int64), (9223372036854775807 : Int64), (9223372036854775807 : Int64), (9223372036854775807 : Int64), (9223372036854775807 : Int64), (9223372036854775807 : Int64)].set pl0 q1).set pl1 q2).set pl2 q3).set pl3 q4).map Value.long)) :: []) := O292.pick 2 rfl
    have O294 : Own.Owns n0 h291 ((ra254, Own.ArrC Z .long ((((([(9223372036854775807 : Int64), (9223372036854775807 : Int64), (9223372036854775807 : Int64), (9223372036854775807 : Int64)].set pl0 q1).set pl1 q2).set pl2 q3).set pl3 q4).map Value.long)) :: (rb255, Own.ArrC Z .int (es285.map gI)) :: (a251, Own.ObjC Z "com/example/twigline/twigline/matcher/StreamHeads" [(("com/example/twigline/twigline/matcher/StreamHeads", "size", "I"), (.int (4 : Nat).toInt32)), (("com/example/twigline/twigline/matcher/StreamHeads", "starts", "[J"), (.ref ra254)), (("com/example/twigline/twigline/matcher/StreamHeads", "earliest", "[I"), (.ref rb255))]) :: (a232, Own.ArrC Z .long ((((([(9223372036854775807 : Int64), (9223372036854775807 : Int64), (9223372036854775807 : Int64), (9223372036854775807 : Int64), (9223372036854775807 : Int64), (9223372036854775807 : Int64), (9223372036854775807 : Int64), (9223372036854775807 : Int64)].set pl0 q1).set pl1 q2).set pl2 q3).set pl3 q4).map Value.long)) :: []) := O293.pick 2 rfl
    have O295 : Own.Owns n0 h291 ((a251, Own.ObjC Z "com/example/twigline/twigline/matcher/StreamHeads" [(("com/example/twigline/twigline/matcher/StreamHeads", "size", "I"), (.int (4 : Nat).toInt32)), (("com/example/twigline/twigline/matcher/StreamHeads", "starts", "[J"), (.ref ra254)), (("com/example/twigline/twigline/matcher/StreamHeads", "earliest", "[I"), (.ref rb255))]) :: (ra254, Own.ArrC Z .long ((((([(9223372036854775807 : Int64), (9223372036854775807 : Int64), (9223372036854775807 : Int64), (9223372036854775807 : Int64)].set pl0 q1).set pl1 q2).set pl2 q3).set pl3 q4).map Value.long)) :: (rb255, Own.ArrC Z .int (es285.map gI)) :: (a232, Own.ArrC Z .long ((((([(9223372036854775807 : Int64), (9223372036854775807 : Int64), (9223372036854775807 : Int64), (9223372036854775807 : Int64), (9223372036854775807 : Int64), (9223372036854775807 : Int64), (9223372036854775807 : Int64), (9223372036854775807 : Int64)].set pl0 q1).set pl1 q2).set pl2 q3).set pl3 q4).map Value.long)) :: []) := O294.pick 2 rfl
    refine Own.callV hx hZ hown (O295.exa (i := 0) rfl) (hw _ (List.mem_of_getElem? (i := 18) rfl)) (hw _ (List.mem_of_getElem? (i := 19) rfl)) (hw _ (List.mem_of_getElem? (i := 21) rfl)) (hw _ (List.mem_of_getElem? (i := 20) rfl)) (hw _ (List.mem_of_getElem? (i := 4) rfl)) (hw _ (List.mem_of_getElem? (i := 22) rfl)) (by decide) pd3 (argsL := []) (rest := []) rfl (W := 0) (Nat.le_of_eq rfl) (rm := ({ frames := 0, cells := 0, slots := 0, locals := 0 } : Room)) (by decide) (by decide) (by decide) (by decide) (k' := 4) (n' := 23) rfl rfl (by rw [hml]; rfl) [(.ref a251)] rfl (hb hby at_214) (pc' := 217) rfl (rm3 l Z a0 hw a251 h291 n0 4 ra254 rb255 (((([(9223372036854775807 : Int64), (9223372036854775807 : Int64), (9223372036854775807 : Int64), (9223372036854775807 : Int64)].set pl0 q1).set pl1 q2).set pl2 q3).set pl3 q4) es285 (by decide) (by decide) hI4 ((a232, Own.ArrC Z .long ((((([(9223372036854775807 : Int64), (9223372036854775807 : Int64), (9223372036854775807 : Int64), (9223372036854775807 : Int64), (9223372036854775807 : Int64), (9223372036854775807 : Int64), (9223372036854775807 : Int64), (9223372036854775807 : Int64)].set pl0 q1).set pl1 q2).set pl2 q3).set pl3 q4).map Value.long)) :: []) O295) ?_
    rintro _ h' ⟨rfl, eh⟩
    rw [eh]; clear eh h'
    show Own.Goes _ _ _ _ _ _ _ _ _ _ _ _ _ _ _ _ _ (mkF m 217 #[.val (.int p0), .val (.long q1), .second, .val (.long q2), .second, .val (.long q3), .second, .val (.long q4), .second, .val (.int p5), .val (.int (4 : Int32)), .val (.ref a232), .val (.ref a251), .val (.int px0), .val (.int px1), .val (.int px2), .val (.int px3)] [(.long ((((([(9223372036854775807 : Int64), (9223372036854775807 : Int64), (9223372036854775807 : Int64), (9223372036854775807 : Int64)].set pl0 q1).set pl1 q2).set pl2 q3).set pl3 q4).getD (es285.getD 1 0) 0))])
    refine Own.aload hx (.ref a232) (hb hby at_217) rfl rfl rfl ?_
    have O296 : Own.Owns n0 h291 ((a232, Own.ArrC Z .long ((((([(9223372036854775807 : Int64), (9223372036854775807 : Int64), (9223372036854775807 : Int64), (9223372036854775807 : Int64), (9223372036854775807 : Int64), (9223372036854775807 : Int64), (9223372036854775807 : Int64), (9223372036854775807 : Int64)].set pl0 q1).set pl1 q2).set pl2 q3).set pl3 q4).map Value.long)) :: (a251, Own.ObjC Z "com/example/twigline/twigline/matcher/StreamHeads" [(("com/example/twigline/twigline/matcher/StreamHeads", "size", "I"), (.int (4 : Nat).toInt32)), (("com/example/twigline/twigline/matcher/StreamHeads", "starts", "[J"), (.ref ra254)), (("com/example/twigline/twigline/matcher/StreamHeads", "earliest", "[I"), (.ref rb255))]) :: (ra254, Own.ArrC Z .long ((((([(9223372036854775807 : Int64), (9223372036854775807 : Int64), (9223372036854775807 : Int64), (9223372036854775807 : Int64)].set pl0 q1).set pl1 q2).set pl2 q3).set pl3 q4).map Value.long)) :: (rb255, Own.ArrC Z .int (es285.map gI)) :: []) := O295.pick 3 rfl
    refine Own.callS hx hZ hown (hw _ (List.mem_of_getElem? (i := 37) rfl)) (hw _ (List.mem_of_getElem? (i := 38) rfl)) (hw _ (List.mem_of_getElem? (i := 39) rfl)) (hw _ (List.mem_of_getElem? (i := 40) rfl)) (by decide) pd5 (argsL := [(.ref a232)]) (rest := [(.long ((((([(9223372036854775807 : Int64), (9223372036854775807 : Int64), (9223372036854775807 : Int64), (9223372036854775807 : Int64)].set pl0 q1).set pl1 q2).set pl2 q3).set pl3 q4).getD (es285.getD 1 0) 0))]) rfl (W := 2) (Nat.le_of_eq rfl) (rm := ({ frames := 1, cells := 0, slots := 0, locals := 19 } : Room)) (by decide) (by decide) (by decide) (by decide) (k' := 4) (n' := 23) rfl rfl (by rw [hml]; rfl) [(.ref a232), (.long ((((([(9223372036854775807 : Int64), (9223372036854775807 : Int64), (9223372036854775807 : Int64), (9223372036854775807 : Int64)].set pl0 q1).set pl1 q2).set pl2 q3).set pl3 q4).getD (es285.getD 1 0) 0))] rfl (hb hby at_219) (pc' := 222) rfl (rm7 l Z a0 hw a232 h291 n0 (((([(9223372036854775807 : Int64), (9223372036854775807 : Int64), (9223372036854775807 : Int64), (9223372036854775807 : Int64), (9223372036854775807 : Int64), (9223372036854775807 : Int64), (9223372036854775807 : Int64), (9223372036854775807 : Int64)].set pl0 q1).set pl1 q2).set pl2 q3).set pl3 q4) hL4.2.1 ((a251, Own.ObjC Z "com/example/twigline/twigline/matcher/StreamHeads" [(("com/example/twigline/twigline/matcher/StreamHeads", "size", "I"), (.int (4 : Nat).toInt32)), (("com/example/twigline/twigline/matcher/StreamHeads", "starts", "[J"), (.ref ra254)), (("com/example/twigline/twigline/matcher/StreamHeads", "earliest", "[I"), (.ref rb255))]) :: (ra254, Own.ArrC Z .long ((((([(9223372036854775807 : Int64), (9223372036854775807 : Int64), (9223372036854775807 : Int64), (9223372036854775807 : Int64)].set pl0 q1).set pl1 q2).set pl2 q3).set pl3 q4).map Value.long)) :: (rb255, Own.ArrC Z .int (es285.map gI)) :: []) O296) ?_
    rintro _ h' ⟨rfl, eh⟩
    rw [eh]; clear eh h'
    show Own.Goes _ _ _ _ _ _ _ _ _ _ _ _ _ _ _ _ _ (mkF m 222 #[.val (.int p0), .val (.long q1), .second, .val (.long q2), .second, .val (.long q3), .second, .val (.long q4), .second, .val (.int p5), .val (.int (4 : Int32)), .val (.ref a232), .val (.ref a251), .val (.int px0), .val (.int px1), .val (.int px2), .val (.int px3)] [(.long (fMin8 (((([(9223372036854775807 : Int64), (9223372036854775807 : Int64), (9223372036854775807 : Int64), (9223372036854775807 : Int64), (9223372036854775807 : Int64), (9223372036854775807 : Int64), (9223372036854775807 : Int64), (9223372036854775807 : Int64)].set pl0 q1).set pl1 q2).set pl2 q3).set pl3 q4))), (.long ((((([(9223372036854775807 : Int64), (9223372036854775807 : Int64), (9223372036854775807 : Int64), (9223372036854775807 : Int64)].set pl0 q1).set pl1 q2).set pl2 q3).set pl3 q4).getD (es285.getD 1 0) 0))])
    refine Own.lcmp hx (hb hby at_222) rfl ?_
    have hc297 : ((((([(9223372036854775807 : Int64), (9223372036854775807 : Int64), (9223372036854775807 : Int64), (9223372036854775807 : Int64)].set pl0 q1).set pl1 q2).set pl2 q3).set pl3 q4).getD (es285.getD 1 0) 0) = (fMin8 (((([(9223372036854775807 : Int64), (9223372036854775807 : Int64), (9223372036854775807 : Int64), (9223372036854775807 : Int64), (9223372036854775807 : Int64), (9223372036854775807 : Int64), (9223372036854775807 : Int64), (9223372036854775807 : Int64)].set pl0 q1).set pl1 q2).set pl2 q3).set pl3 q4)) := like_min hL4 hI4 (by decide)
    refine Own.ifFn hx (Own.w_ne ((((([(9223372036854775807 : Int64), (9223372036854775807 : Int64), (9223372036854775807 : Int64), (9223372036854775807 : Int64)].set pl0 q1).set pl1 q2).set pl2 q3).set pl3 q4).getD (es285.getD 1 0) 0) (fMin8 (((([(9223372036854775807 : Int64), (9223372036854775807 : Int64), (9223372036854775807 : Int64), (9223372036854775807 : Int64), (9223372036854775807 : Int64), (9223372036854775807 : Int64), (9223372036854775807 : Int64), (9223372036854775807 : Int64)].set pl0 q1).set pl1 q2).set pl2 q3).set pl3 q4))) (hb hby at_223) (pcN := 226) rfl (by decide) (pcT := 230) rfl (fun q => absurd hc297 q) (fun _ => ?_)
    refine Own.iconst hx (1 : Int32) (hb hby at_226) rfl (by decide) ?_
    refine Own.goto hx (hb hby at_227) (by decide) (pc' := 231) rfl ?_
    exact Own.retS hx hret (by simp) hlk (hb hby at_231) (by decide) (by decide) (Own.bool1 rfl)
  · subst q
    refine Own.bipush hx (8 : Int32) (hb hby at_6) rfl (by decide) ?_
    refine Own.newarr hx hZ O0 (aty := .long) (hw _ (List.mem_of_getElem? (i := 0) rfl)) 8 (by decide) [(.long (0 : Int64)), (.long (0 : Int64)), (.long (0 : Int64)), (.long (0 : Int64)), (.long (0 : Int64)), (.long (0 : Int64)), (.long (0 : Int64)), (.long (0 : Int64))] rfl rfl (cap := 8) (by decide) (by decide) (k' := 1) (n' := 8) rfl rfl (by decide) (by decide) (hb hby at_8) (pc' := 10) rfl ?_
    intro a299 h300 O301
    refine Own.astore hx #[.val (.int p0), .val (.long q1), .second, .val (.long q2), .second, .val (.long q3), .second, .val (.long q4), .second, .val (.int p5), .val (.int (5 : Int32)), .val (.ref a299), .unset, .unset, .unset, .unset, .unset] (hb hby at_10) rfl rfl rfl ?_
    refine Own.aload hx (.ref a299) (hb hby at_12) rfl rfl rfl ?_
    refine Own.iconst hx (0 : Int32) (hb hby at_14) rfl (by decide) ?_
    refine Own.ldc2 hx hZ hown (9223372036854775807 : Int64) (hb hby at_15) rfl (hw _ (List.mem_of_getElem? (i := 1) rfl)) ?_
    refine Own.lastore hx hZ O301 0 0 rfl (by decide) (by exact (show 0 < 8 by decide)) ((a299, Own.ArrC Z .long [(.long (9223372036854775807 : Int64)), (.long (0 : Int64)), (.long (0 : Int64)), (.long (0 : Int64)), (.long (0 : Int64)), (.long (0 : Int64)), (.long (0 : Int64)), (.long (0 : Int64))]) :: []) rfl (hb hby at_18) rfl ?_
    intro h302 O303
    refine Own.aload hx (.ref a299) (hb hby at_19) rfl rfl rfl ?_
    refine Own.iconst hx (1 : Int32) (hb hby at_21) rfl (by decide) ?_
    refine Own.ldc2 hx hZ hown (9223372036854775807 : Int64) (hb hby at_22) rfl (hw _ (List.mem_of_getElem? (i := 1) rfl)) ?_
    refine Own.lastore hx hZ O303 0 1 rfl (by decide) (by exact (show 1 < 8 by decide)) ((a299, Own.ArrC Z .long [(.long (9223372036854775807 : Int64)), (.long (9223372036854775807 : Int64)), (.long (0 : Int64)), (.long (0 : Int64)), (.long (0 : Int64)), (.long (0 : Int64)), (.long (0 : Int64)), (.long (0 : Int64))]) :: []) rfl (hb hby at_25) rfl ?_
    intro h304 O305
    refine Own.aload hx (.ref a299) (hb hby at_26) rfl rfl rfl ?_
    refine Own.iconst hx (2 : Int32) (hb hby at_28) rfl (by decide) ?_
    refine Own.ldc2 hx hZ hown (9223372036854775807 : Int64) (hb hby at_29) rfl (hw _ (List.mem_of_getElem? (i := 1) rfl)) ?_
    refine Own.lastore hx hZ O305 0 2 rfl (by decide) (by exact (show 2 < 8 by decide)) ((a299, Own.ArrC Z .long [(.long (9223372036854775807 : Int64)), (.long (9223372036854775807 : Int64)), (.long (9223372036854775807 : Int64)), (.long (0 : Int64)), (.long (0 : Int64)), (.long (0 : Int64)), (.long (0 : Int64)), (.long (0 : Int64))]) :: []) rfl (hb hby at_32) rfl ?_
    intro h306 O307
    refine Own.aload hx (.ref a299) (hb hby at_33) rfl rfl rfl ?_
    refine Own.iconst hx (3 : Int32) (hb hby at_35) rfl (by decide) ?_
    refine Own.ldc2 hx hZ hown (9223372036854775807 : Int64) (hb hby at_36) rfl (hw _ (List.mem_of_getElem? (i := 1) rfl)) ?_
    refine Own.lastore hx hZ O307 0 3 rfl (by decide) (by exact (show 3 < 8 by decide)) ((a299, Own.ArrC Z .long [(.long (9223372036854775807 : Int64)), (.long (9223372036854775807 : Int64)), (.long (9223372036854775807 : Int64)), (.long (9223372036854775807 : Int64)), (.long (0 : Int64)), (.long (0 : Int64)), (.long (0 : Int64)), (.long (0 : Int64))]) :: []) rfl (hb hby at_39) rfl ?_
    intro h308 O309
    refine Own.aload hx (.ref a299) (hb hby at_40) rfl rfl rfl ?_
    refine Own.iconst hx (4 : Int32) (hb hby at_42) rfl (by decide) ?_
    refine Own.ldc2 hx hZ hown (9223372036854775807 : Int64) (hb hby at_43) rfl (hw _ (List.mem_of_getElem? (i := 1) rfl)) ?_
    refine Own.lastore hx hZ O309 0 4 rfl (by decide) (by exact (show 4 < 8 by decide)) ((a299, Own.ArrC Z .long [(.long (9223372036854775807 : Int64)), (.long (9223372036854775807 : Int64)), (.long (9223372036854775807 : Int64)), (.long (9223372036854775807 : Int64)), (.long (9223372036854775807 : Int64)), (.long (0 : Int64)), (.long (0 : Int64)), (.long (0 : Int64))]) :: []) rfl (hb hby at_46) rfl ?_
    intro h310 O311
    refine Own.aload hx (.ref a299) (hb hby at_47) rfl rfl rfl ?_
    refine Own.iconst hx (5 : Int32) (hb hby at_49) rfl (by decide) ?_
    refine Own.ldc2 hx hZ hown (9223372036854775807 : Int64) (hb hby at_50) rfl (hw _ (List.mem_of_getElem? (i := 1) rfl)) ?_
    refine Own.lastore hx hZ O311 0 5 rfl (by decide) (by exact (show 5 < 8 by decide)) ((a299, Own.ArrC Z .long [(.long (9223372036854775807 : Int64)), (.long (9223372036854775807 : Int64)), (.long (9223372036854775807 : Int64)), (.long (9223372036854775807 : Int64)), (.long (9223372036854775807 : Int64)), (.long (9223372036854775807 : Int64)), (.long (0 : Int64)), (.long (0 : Int64))]) :: []) rfl (hb hby at_53) rfl ?_
    intro h312 O313
    refine Own.aload hx (.ref a299) (hb hby at_54) rfl rfl rfl ?_
    refine Own.bipush hx (6 : Int32) (hb hby at_56) rfl (by decide) ?_
    refine Own.ldc2 hx hZ hown (9223372036854775807 : Int64) (hb hby at_58) rfl (hw _ (List.mem_of_getElem? (i := 1) rfl)) ?_
    refine Own.lastore hx hZ O313 0 6 rfl (by decide) (by exact (show 6 < 8 by decide)) ((a299, Own.ArrC Z .long [(.long (9223372036854775807 : Int64)), (.long (9223372036854775807 : Int64)), (.long (9223372036854775807 : Int64)), (.long (9223372036854775807 : Int64)), (.long (9223372036854775807 : Int64)), (.long (9223372036854775807 : Int64)), (.long (9223372036854775807 : Int64)), (.long (0 : Int64))]) :: []) rfl (hb hby at_61) rfl ?_
    intro h314 O315
    refine Own.aload hx (.ref a299) (hb hby at_62) rfl rfl rfl ?_
    refine Own.bipush hx (7 : Int32) (hb hby at_64) rfl (by decide) ?_
    refine Own.ldc2 hx hZ hown (9223372036854775807 : Int64) (hb hby at_66) rfl (hw _ (List.mem_of_getElem? (i := 1) rfl)) ?_
    refine Own.lastore hx hZ O315 0 7 rfl (by decide) (by exact (show 7 < 8 by decide)) ((a299, Own.ArrC Z .long [(.long (9223372036854775807 : Int64)), (.long (9223372036854775807 : Int64)), (.long (9223372036854775807 : Int64)), (.long (9223372036854775807 : Int64)), (.long (9223372036854775807 : Int64)), (.long (9223372036854775807 : Int64)), (.long (9223372036854775807 : Int64)), (.long (9223372036854775807 : Int64))]) :: []) rfl (hb hby at_69) rfl ?_
    intro h316 O317
    refine Own.newobj hx hZ hown O317 (hw _ (List.mem_of_getElem? (i := 2) rfl)) (hw _ (List.mem_of_getElem? (i := 3) rfl)) (hw _ (List.mem_of_getElem? (i := 4) rfl)) [(("com/example/twigline/twigline/matcher/StreamHeads", "size", "I"), (.int (0 : Int32))), (("com/example/twigline/twigline/matcher/StreamHeads", "starts", "[J"), .null), (("com/example/twigline/twigline/matcher/StreamHeads", "earliest", "[I"), .null)] (by intro f hf; simp only [List.mem_cons, List.not_mem_nil, or_false] at hf; rcases hf with rfl | rfl | rfl; exact ⟨Or.inr (hw _ (List.mem_of_getElem? (i := 12) rfl)), .int, by decide, rfl⟩; exact ⟨Or.inr (hw _ (List.mem_of_getElem? (i := 14) rfl)), (.array .long), by decide, rfl⟩; exact ⟨Or.inr (hw _ (List.mem_of_getElem? (i := 17) rfl)), (.array .int), by decide, rfl⟩) (by decide) (k' := 2) (n' := 11) rfl rfl (by decide) (by decide) (hb hby at_70) (pc' := 73) rfl ?_
    intro a318 h319 O320
    refine Own.dup hx (hb hby at_73) rfl rfl ?_
    refine Own.iload hx (5 : Int32) (hb hby at_74) rfl rfl ?_
    refine Own.callI hx hZ hown rfl (hw _ (List.mem_of_getElem? (i := 5) rfl)) (hw _ (List.mem_of_getElem? (i := 6) rfl)) (hw _ (List.mem_of_getElem? (i := 4) rfl)) (hw _ (List.mem_of_getElem? (i := 7) rfl)) (by decide) pd2 (argsL := [(.int (5 : Int32))]) (rest := [(.ref a318)]) rfl (W := 1) (Nat.le_of_eq rfl) (rm := ({ frames := 1, cells := 2, slots := 15, locals := 16 } : Room)) (by decide) (by decide) (by decide) (by decide) (k' := 4) (n' := 26) rfl rfl (by rw [hml]; rfl) [(.int (5 : Int32)), (.ref a318), (.ref a318)] rfl (hb hby at_76) (pc' := 79) rfl (rm1_5 l Z a0 hw a318 h319 n0 ((a299, Own.ArrC Z .long [(.long (9223372036854775807 : Int64)), (.long (9223372036854775807 : Int64)), (.long (9223372036854775807 : Int64)), (.long (9223372036854775807 : Int64)), (.long (9223372036854775807 : Int64)), (.long (9223372036854775807 : Int64)), (.long (9223372036854775807 : Int64)), (.long (9223372036854775807 : Int64))]) :: []) O320) ?_
    rintro _ h323 ⟨ra321, rb322, rfl, O324⟩
    show Own.Goes _ _ _ _ _ _ _ _ _ _ _ _ _ _ _ _ _ (mkF m 79 #[.val (.int p0), .val (.long q1), .second, .val (.long q2), .second, .val (.long q3), .second, .val (.long q4), .second, .val (.int p5), .val (.int (5 : Int32)), .val (.ref a299), .unset, .unset, .unset, .unset, .unset] [(.ref a318)])
    have O325 : Own.Owns n0 h323 ((a318, Own.ObjC Z "com/example/twigline/twigline/matcher/StreamHeads" [(("com/example/twigline/twigline/matcher/StreamHeads", "size", "I"), (.int (5 : Nat).toInt32)), (("com/example/twigline/twigline/matcher/StreamHeads", "starts", "[J"), (.ref ra321)), (("com/example/twigline/twigline/matcher/StreamHeads", "earliest", "[I"), (.ref rb322))]) :: (ra321, Own.ArrC Z .long ([(9223372036854775807 : Int64), (9223372036854775807 : Int64), (9223372036854775807 : Int64), (9223372036854775807 : Int64), (9223372036854775807 : Int64)].map Value.long)) :: (rb322, Own.ArrC Z .int ([0, 3, 3, 1, 3, 0, 1, 2, 3, 4].map gI)) :: (a299, Own.ArrC Z .long ([(9223372036854775807 : Int64), (9223372036854775807 : Int64), (9223372036854775807 : Int64), (9223372036854775807 : Int64), (9223372036854775807 : Int64), (9223372036854775807 : Int64), (9223372036854775807 : Int64), (9223372036854775807 : Int64)].map Value.long)) :: []) := O324
    have hI0 : InvT ([(9223372036854775807 : Int64), (9223372036854775807 : Int64), (9223372036854775807 : Int64), (9223372036854775807 : Int64), (9223372036854775807 : Int64)] : List Int64) [0, 3, 3, 1, 3, 0, 1, 2, 3, 4] 5 := inv_of (by decide +kernel)
    have hL0 : Like ([(9223372036854775807 : Int64), (9223372036854775807 : Int64), (9223372036854775807 : Int64), (9223372036854775807 : Int64), (9223372036854775807 : Int64)] : List Int64) [(9223372036854775807 : Int64), (9223372036854775807 : Int64), (9223372036854775807 : Int64), (9223372036854775807 : Int64), (9223372036854775807 : Int64), (9223372036854775807 : Int64), (9223372036854775807 : Int64), (9223372036854775807 : Int64)] 5 := ⟨rfl, rfl, by decide, by decide +kernel⟩
    refine Own.astore hx #[.val (.int p0), .val (.long q1), .second, .val (.long q2), .second, .val (.long q3), .second, .val (.long q4), .second, .val (.int p5), .val (.int (5 : Int32)), .val (.ref a299), .val (.ref a318), .unset, .unset, .unset, .unset] (hb hby at_79) rfl rfl rfl ?_
    refine Own.iload hx (5 : Int32) (hb hby at_81) rfl rfl ?_
    have hc326 : ¬ ((5 : Int32) = (0 : Int32)) := by decide
    refine Own.ifFn hx (Own.z_ne (5 : Int32)) (hb hby at_83) (pcN := 86) rfl (by decide) (pcT := 104) rfl (fun _ => ?_) (fun q => absurd q hc326)
    refine Own.iload hx p5 (hb hby at_104) rfl rfl ?_
    refine Own.bipush hx (7 : Int32) (hb hby at_106) rfl (by decide) ?_
    refine Own.iand hx (hb hby at_108) rfl ?_
    refine Own.iload hx (5 : Int32) (hb hby at_109) rfl rfl ?_
    refine Own.irem hx (hb hby at_111) rfl (by decide) ?_
    obtain ⟨px0, h_px0⟩ : ∃ z : Int32, z = ((p5 &&& (7 : Int32)) % (5 : Int32)) := ⟨_, rfl⟩
    refine Own.istore hx px0 h_px0 #[.val (.int p0), .val (.long q1), .second, .val (.long q2), .second, .val (.long q3), .second, .val (.long q4), .second, .val (.int p5), .val (.int (5 : Int32)), .val (.ref a299), .val (.ref a318), .val (.int px0), .unset, .unset, .unset] (hb hby at_112) rfl rfl ?_
    refine Own.iload hx p5 (hb hby at_114) rfl rfl ?_
    refine Own.iconst hx (3 : Int32) (hb hby at_116) rfl (by decide) ?_
    refine Own.iushr hx (hb hby at_117) rfl ?_
    refine Own.bipush hx (7 : Int32) (hb hby at_118) rfl (by decide) ?_
    refine Own.iand hx (hb hby at_120) rfl ?_
    refine Own.iload hx (5 : Int32) (hb hby at_121) rfl rfl ?_
    refine Own.irem hx (hb hby at_123) rfl (by decide) ?_
    obtain ⟨px1, h_px1⟩ : ∃ z : Int32, z = (((p5.toUInt32 >>> ((3 : Int32) &&& 31).toUInt32).toInt32 &&& (7 : Int32)) % (5 : Int32)) := ⟨_, rfl⟩
    refine Own.istore hx px1 h_px1 #[.val (.int p0), .val (.long q1), .second, .val (.long q2), .second, .val (.long q3), .second, .val (.long q4), .second, .val (.int p5), .val (.int (5 : Int32)), .val (.ref a299), .val (.ref a318), .val (.int px0), .val (.int px1), .unset, .unset] (hb hby at_124) rfl rfl ?_
    refine Own.iload hx p5 (hb hby at_126) rfl rfl ?_
    refine Own.bipush hx (6 : Int32) (hb hby at_128) rfl (by decide) ?_
    refine Own.iushr hx (hb hby at_130) rfl ?_
    refine Own.bipush hx (7 : Int32) (hb hby at_131) rfl (by decide) ?_
    refine Own.iand hx (hb hby at_133) rfl ?_
    refine Own.iload hx (5 : Int32) (hb hby at_134) rfl rfl ?_
    refine Own.irem hx (hb hby at_136) rfl (by decide) ?_
    obtain ⟨px2, h_px2⟩ : ∃ z : Int32, z = (((p5.toUInt32 >>> ((6 : Int32) &&& 31).toUInt32).toInt32 &&& (7 : Int32)) % (5 : Int32)) := ⟨_, rfl⟩
    refine Own.istore hx px2 h_px2 #[.val (.int p0), .val (.long q1), .second, .val (.long q2), .second, .val (.long q3), .second, .val (.long q4), .second, .val (.int p5), .val (.int (5 : Int32)), .val (.ref a299), .val (.ref a318), .val (.int px0), .val (.int px1), .val (.int px2), .unset] (hb hby at_137) rfl rfl ?_
    refine Own.iload hx p5 (hb hby at_139) rfl rfl ?_
    refine Own.bipush hx (9 : Int32) (hb hby at_141) rfl (by decide) ?_
    refine Own.iushr hx (hb hby at_143) rfl ?_
    refine Own.bipush hx (7 : Int32) (hb hby at_144) rfl (by decide) ?_
    refine Own.iand hx (hb hby at_146) rfl ?_
    refine Own.iload hx (5 : Int32) (hb hby at_147) rfl rfl ?_
    refine Own.irem hx (hb hby at_149) rfl (by decide) ?_
    obtain ⟨px3, h_px3⟩ : ∃ z : Int32, z = (((p5.toUInt32 >>> ((9 : Int32) &&& 31).toUInt32).toInt32 &&& (7 : Int32)) % (5 : Int32)) := ⟨_, rfl⟩
    refine Own.istore hx px3 h_px3 #[.val (.int p0), .val (.long q1), .second, .val (.long q2), .second, .val (.long q3), .second, .val (.long q4), .second, .val (.int p5), .val (.int (5 : Int32)), .val (.ref a299), .val (.ref a318), .val (.int px0), .val (.int px1), .val (.int px2), .val (.int px3)] (hb hby at_150) rfl rfl ?_
    obtain ⟨pl0, hpl0, hlt0⟩ := own_pl h_px0 (sz := 5) (by decide) (by decide)
    obtain ⟨pl1, hpl1, hlt1⟩ := own_pl h_px1 (sz := 5) (by decide) (by decide)
    obtain ⟨pl2, hpl2, hlt2⟩ := own_pl h_px2 (sz := 5) (by decide) (by decide)
    obtain ⟨pl3, hpl3, hlt3⟩ := own_pl h_px3 (sz := 5) (by decide) (by decide)
    refine Own.aload hx (.ref a318) (hb hby at_152) rfl rfl rfl ?_
    refine Own.iload hx px0 (hb hby at_154) rfl rfl ?_
    refine Own.lloadN hx q1 (hb hby at_156) rfl rfl ?_
    have O329 : Own.Owns n0 h323 ((rb322, Own.ArrC Z .int ([0, 3, 3, 1, 3, 0, 1, 2, 3, 4].map gI)) :: (a318, Own.ObjC Z "com/example/twigline/twigline/matcher/StreamHeads" [(("com/example/twigline/twigline/matcher/StreamHeads", "size", "I"), (.int (5 : Nat).toInt32)), (("com/example/twigline/twigline/matcher/StreamHeads", "starts", "[J"), (.ref ra321)), (("com/example/twigline/twigline/matcher/StreamHeads", "earliest", "[I"), (.ref rb322))]) :: (ra321, Own.ArrC Z .long ([(9223372036854775807 : Int64), (9223372036854775807 : Int64), (9223372036854775807 : Int64), (9223372036854775807 : Int64), (9223372036854775807 : Int64)].map Value.long)) :: (a299, Own.ArrC Z .long ([(9223372036854775807 : Int64), (9223372036854775807 : Int64), (9223372036854775807 : Int64), (9223372036854775807 : Int64), (9223372036854775807 : Int64), (9223372036854775807 : Int64), (9223372036854775807 : Int64), (9223372036854775807 : Int64)].map Value.long)) :: []) := O325.pick 2 rfl
    have O330 : Own.Owns n0 h323 ((ra321, Own.ArrC Z .long ([(9223372036854775807 : Int64), (9223372036854775807 : Int64), (9223372036854775807 : Int64), (9223372036854775807 : Int64), (9223372036854775807 : Int64)].map Value.long)) :: (rb322, Own.ArrC Z .int ([0, 3, 3, 1, 3, 0, 1, 2, 3, 4].map gI)) :: (a318, Own.ObjC Z "com/example/twigline/twigline/matcher/StreamHeads" [(("com/example/twigline/twigline/matcher/StreamHeads", "size", "I"), (.int (5 : Nat).toInt32)), (("com/example/twigline/twigline/matcher/StreamHeads", "starts", "[J"), (.ref ra321)), (("com/example/twigline/twigline/matcher/StreamHeads", "earliest", "[I"), (.ref rb322))]) :: (a299, Own.ArrC Z .long ([(9223372036854775807 : Int64), (9223372036854775807 : Int64), (9223372036854775807 : Int64), (9223372036854775807 : Int64), (9223372036854775807 : Int64), (9223372036854775807 : Int64), (9223372036854775807 : Int64), (9223372036854775807 : Int64)].map Value.long)) :: []) := O329.pick 2 rfl
    have O331 : Own.Owns n0 h323 ((a318, Own.ObjC Z "com/example/twigline/twigline/matcher/StreamHeads" [(("com/example/twigline/twigline/matcher/StreamHeads", "size", "I"), (.int (5 : Nat).toInt32)), (("com/example/twigline/twigline/matcher/StreamHeads", "starts", "[J"), (.ref ra321)), (("com/example/twigline/twigline/matcher/StreamHeads", "earliest", "[I"), (.ref rb322))]) :: (ra321, Own.ArrC Z .long ([(9223372036854775807 : Int64), (9223372036854775807 : Int64), (9223372036854775807 : Int64), (9223372036854775807 : Int64), (9223372036854775807 : Int64)].map Value.long)) :: (rb322, Own.ArrC Z .int ([0, 3, 3, 1, 3, 0, 1, 2, 3, 4].map gI)) :: (a299, Own.ArrC Z .long ([(9223372036854775807 : Int64), (9223372036854775807 : Int64), (9223372036854775807 : Int64), (9223372036854775807 : Int64), (9223372036854775807 : Int64), (9223372036854775807 : Int64), (9223372036854775807 : Int64), (9223372036854775807 : Int64)].map Value.long)) :: []) := O330.pick 2 rfl
    refine Own.callV hx hZ hown (O331.exa (i := 0) rfl) (hw _ (List.mem_of_getElem? (i := 28) rfl)) (hw _ (List.mem_of_getElem? (i := 29) rfl)) (hw _ (List.mem_of_getElem? (i := 31) rfl)) (hw _ (List.mem_of_getElem? (i := 30) rfl)) (hw _ (List.mem_of_getElem? (i := 4) rfl)) (hw _ (List.mem_of_getElem? (i := 32) rfl)) (by decide) pd4 (argsL := [(.int px0), (.long q1)]) (rest := []) rfl (W := 0) (Nat.le_of_eq rfl) (rm := ({ frames := 2, cells := 0, slots := 0, locals := 34 } : Room)) (by decide) (by decide) (by decide) (by decide) (k' := 4) (n' := 26) rfl rfl (by rw [hml]; rfl) [(.long q1), (.int px0), (.ref a318)] rfl (hb hby at_157) (pc' := 160) rfl (rm5 l Z a0 hw a318 px0 q1 h323 n0 pl0 5 ra321 rb322 [(9223372036854775807 : Int64), (9223372036854775807 : Int64), (9223372036854775807 : Int64), (9223372036854775807 : Int64), (9223372036854775807 : Int64)] [0, 3, 3, 1, 3, 0, 1, 2, 3, 4] (by decide) hpl0 hlt0 hI0 ((a299, Own.ArrC Z .long ([(9223372036854775807 : Int64), (9223372036854775807 : Int64), (9223372036854775807 : Int64), (9223372036854775807 : Int64), (9223372036854775807 : Int64), (9223372036854775807 : Int64), (9223372036854775807 : Int64), (9223372036854775807 : Int64)].map Value.long)) :: []) O331) ?_
    rintro _ h332 ⟨es328, rfl, hI1, O333⟩
    show Own.Goes _ _ _ _ _ _ _ _ _ _ _ _ _ _ _ _ _ (mkF m 160 #[.val (.int p0), .val (.long q1), .second, .val (.long q2), .second, .val (.long q3), .second, .val (.long q4), .second, .val (.int p5), .val (.int (5 : Int32)), .val (.ref a299), .val (.ref a318), .val (.int px0), .val (.int px1), .val (.int px2), .val (.int px3)] [])
    refine Own.aload hx (.ref a299) (hb hby at_160) rfl rfl rfl ?_
    refine Own.iload hx px0 (hb hby at_162) rfl rfl ?_
    refine Own.lloadN hx q1 (hb hby at_164) rfl rfl ?_
    have hL1 := like_set (x := q1) hL0 hlt0
    refine Own.lastore hx hZ O333 3 pl0 rfl hpl0 (by rw [List.length_map, hL0.2.1]; omega) ((a318, Own.ObjC Z "com/example/twigline/twigline/matcher/StreamHeads" [(("com/example/twigline/twigline/matcher/StreamHeads", "size", "I"), (.int (5 : Nat).toInt32)), (("com/example/twigline/twigline/matcher/StreamHeads", "starts", "[J"), (.ref ra321)), (("com/example/twigline/twigline/matcher/StreamHeads", "earliest", "[I"), (.ref rb322))]) :: (ra321, Own.ArrC Z .long (([(9223372036854775807 : Int64), (9223372036854775807 : Int64), (9223372036854775807 : Int64), (9223372036854775807 : Int64), (9223372036854775807 : Int64)].set pl0 q1).map Value.long)) :: (rb322, Own.ArrC Z .int (es328.map gI)) :: (a299, Own.ArrC Z .long (([(9223372036854775807 : Int64), (9223372036854775807 : Int64), (9223372036854775807 : Int64), (9223372036854775807 : Int64), (9223372036854775807 : Int64), (9223372036854775807 : Int64), (9223372036854775807 : Int64), (9223372036854775807 : Int64)].set pl0 q1).map Value.long)) :: []) (by rw [← show ([(9223372036854775807 : Int64), (9223372036854775807 : Int64), (9223372036854775807 : Int64), (9223372036854775807 : Int64), (9223372036854775807 : Int64), (9223372036854775807 : Int64), (9223372036854775807 : Int64), (9223372036854775807 : Int64)].map Value.long).set pl0 (Value.long q1) = (([(9223372036854775807 : Int64), (9223372036854775807 : Int64), (9223372036854775807 : Int64), (9223372036854775807 : Int64), (9223372036854775807 : Int64), (9223372036854775807 : Int64), (9223372036854775807 : Int64), (9223372036854775807 : Int64)].set pl0 q1).map Value.long) from (List.map_set).symm]; rfl) (hb hby at_165) rfl ?_
    intro h334 O335
    refine Own.aload hx (.ref a318) (hb hby at_166) rfl rfl rfl ?_
    refine Own.iload hx px1 (hb hby at_168) rfl rfl ?_
    refine Own.lloadN hx q2 (hb hby at_170) rfl rfl ?_
    have O337 : Own.Owns n0 h334 ((rb322, Own.ArrC Z .int (es328.map gI)) :: (a318, Own.ObjC Z "com/example/twigline/twigline/matcher/StreamHeads" [(("com/example/twigline/twigline/matcher/StreamHeads", "size", "I"), (.int (5 : Nat).toInt32)), (("com/example/twigline/twigline/matcher/StreamHeads", "starts", "[J"), (.ref ra321)), (("com/example/twigline/twigline/matcher/StreamHeads", "earliest", "[I"), (.ref rb322))]) :: (ra321, Own.ArrC Z .long (([(9223372036854775807 : Int64), (9223372036854775807 : Int64), (9223372036854775807 : Int64), (9223372036854775807 : Int64), (9223372036854775807 : Int64)].set pl0 q1).map Value.long)) :: (a299, Own.ArrC Z .long (([(9223372036854775807 : Int64), (9223372036854775807 : Int64), (9223372036854775807 : Int64), (9223372036854775807 : Int64), (9223372036854775807 : Int64), (9223372036854775807 : Int64), (9223372036854775807 : Int64), (9223372036854775807 : Int64)].set pl0 q1).map Value.long)) :: []) := O335.pick 2 rfl
    have O338 : Own.Owns n0 h334 ((ra321, Own.ArrC Z .long (([(9223372036854775807 : Int64), (9223372036854775807 : Int64), (9223372036854775807 : Int64), (9223372036854775807 : Int64), (9223372036854775807 : Int64)].set pl0 q1).map Value.long)) :: (rb322, Own.ArrC Z .int (es328.map gI)) :: (a318, Own.ObjC Z "com/example/twigline/twigline/matcher/StreamHeads" [(("com/example/twigline/twigline/matcher/StreamHeads", "size", "I"), (.int (5 : Nat).toInt32)), (("com/example/twigline/twigline/matcher/StreamHeads", "starts", "[J"), (.ref ra321)), (("com/example/twigline/twigline/matcher/StreamHeads", "earliest", "[I"), (.ref rb322))]) :: (a299, Own.ArrC Z .long (([(9223372036854775807 : Int64), (9223372036854775807 : Int64), (9223372036854775807 : Int64), (9223372036854775807 : Int64), (9223372036854775807 : Int64), (9223372036854775807 : Int64), (9223372036854775807 : Int64), (9223372036854775807 : Int64)].set pl0 q1).map Value.long)) :: []) := O337.pick 2 rfl
    have O339 : Own.Owns n0 h334 ((a318, Own.ObjC Z "com/example/twigline/twigline/matcher/StreamHeads" [(("com/example/twigline/twigline/matcher/StreamHeads", "size", "I"), (.int (5 : Nat).toInt32)), (("com/example/twigline/twigline/matcher/StreamHeads", "starts", "[J"), (.ref ra321)), (("com/example/twigline/twigline/matcher/StreamHeads", "earliest", "[I"), (.ref rb322))]) :: (ra321, Own.ArrC Z .long (([(9223372036854775807 : Int64), (9223372036854775807 : Int64), (9223372036854775807 : Int64), (9223372036854775807 : Int64), (9223372036854775807 : Int64)].set pl0 q1).map Value.long)) :: (rb322, Own.ArrC Z .int (es328.map gI)) :: (a299, Own.ArrC Z .long (([(9223372036854775807 : Int64), (9223372036854775807 : Int64), (9223372036854775807 : Int64), (9223372036854775807 : Int64), (9223372036854775807 : Int64), (9223372036854775807 : Int64), (9223372036854775807 : Int64), (9223372036854775807 : Int64)].set pl0 q1).map Value.long)) :: []) := O338.pick 2 rfl
    refine Own.callV hx hZ hown (O339.exa (i := 0) rfl) (hw _ (List.mem_of_getElem? (i := 28) rfl)) (hw _ (List.mem_of_getElem? (i := 29) rfl)) (hw _ (List.mem_of_getElem? (i := 31) rfl)) (hw _ (List.mem_of_getElem? (i := 30) rfl)) (hw _ (List.mem_of_getElem? (i := 4) rfl)) (hw _ (List.mem_of_getElem? (i := 32) rfl)) (by decide) pd4 (argsL := [(.int px1), (.long q2)]) (rest := []) rfl (W := 0) (Nat.le_of_eq rfl) (rm := ({ frames := 2, cells := 0, slots := 0, locals := 34 } : Room)) (by decide) (by decide) (by decide) (by decide) (k' := 4) (n' := 26) rfl rfl (by rw [hml]; rfl) [(.long q2), (.int px1), (.ref a318)] rfl (hb hby at_171) (pc' := 174) rfl (rm5 l Z a0 hw a318 px1 q2 h334 n0 pl1 5 ra321 rb322 ([(9223372036854775807 : Int64), (9223372036854775807 : Int64), (9223372036854775807 : Int64), (9223372036854775807 : Int64), (9223372036854775807 : Int64)].set pl0 q1) es328 (by decide) hpl1 hlt1 hI1 ((a299, Own.ArrC Z .long (([(9223372036854775807 : Int64), (9223372036854775807 : Int64), (9223372036854775807 : Int64), (9223372036854775807 : Int64), (9223372036854775807 : Int64), (9223372036854775807 : Int64), (9223372036854775807 : Int64), (9223372036854775807 : Int64)].set pl0 q1).map Value.long)) :: []) O339) ?_
    rintro _ h340 ⟨es336, rfl, hI2, O341⟩
    show Own.Goes _ _ _ _ _ _ _ _ _ _ _ _ _ _ _ _ _ (mkF m 174 #[.val (.int p0), .val (.long q1), .second, .val (.long q2), .second, .val (.long q3), .second, .val (.long q4), .second, .val (.int p5), .val (.int (5 : Int32)), .val (.ref a299), .val (.ref a318), .val (.int px0), .val (.int px1), .val (.int px2), .val (.int px3)] [])
    refine Own.aload hx (.ref a299) (hb hby at_174) rfl rfl rfl ?_
    refine Own.iload hx px1 (hb hby at_176) rfl rfl ?_
    refine Own.lloadN hx q2 (hb hby at_178) rfl rfl ?_
    have hL2 := like_set (x := q2) hL1 hlt1
    refine Own.lastore hx hZ O341 3 pl1 rfl hpl1 (by rw [List.length_map, hL1.2.1]; omega) ((a318, Own.ObjC Z "com/example/twigline/twigline/matcher/StreamHeads" [(("com/example/twigline/twigline/matcher/StreamHeads", "size", "I"), (.int (5 : Nat).toInt32)), (("com/example/twigline/twigline/matcher/StreamHeads", "starts", "[J"), (.ref ra321)), (("com/example/twigline/twigline/matcher/StreamHeads", "earliest", "[I"), (.ref rb322))]) :: (ra321, Own.ArrC Z .long ((([(9223372036854775807 : Int64), (9223372036854775807 : Int64), (9223372036854775807 : Int64), (9223372036854775807 : Int64), (9223372036854775807 : Int64)].set pl0 q1).set pl1 q2).map Value.long)) :: (rb322, Own.ArrC Z .int (es336.map gI)) :: (a299, Own.ArrC Z .long ((([(9223372036854775807 : Int64), (9223372036854775807 : Int64), (9223372036854775807 : Int64), (9223372036854775807 : Int64), (9223372036854775807 : Int64), (9223372036854775807 : Int64), (9223372036854775807 : Int64), (9223372036854775807 : Int64)].set pl0 q1).set pl1 q2).map Value.long)) :: []) (by rw [← show (([(9223372036854775807 : Int64), (9223372036854775807 : Int64), (9223372036854775807 : Int64), (9223372036854775807 : Int64), (9223372036854775807 : Int64), (9223372036854775807 : Int64), (9223372036854775807 : Int64), (9223372036854775807 : Int64)].set pl0 q1).map Value.long).set pl1 (Value.long q2) = ((([(9223372036854775807 : Int64), (9223372036854775807 : Int64), (9223372036854775807 : Int64), (9223372036854775807 : Int64), (9223372036854775807 : Int64), (9223372036854775807 : Int64), (9223372036854775807 : Int64), (9223372036854775807 : Int64)].set pl0 q1).set pl1 q2).map Value.long) from (List.map_set).symm]; rfl) (hb hby at_179) rfl ?_
    intro h342 O343
    refine Own.aload hx (.ref a318) (hb hby at_180) rfl rfl rfl ?_
    refine Own.iload hx px2 (hb hby at_182) rfl rfl ?_
    refine Own.lload hx q3 (hb hby at_184) rfl rfl ?_
    have O345 : Own.Owns n0 h342 ((rb322, Own.ArrC Z .int (es336.map gI)) :: (a318, Own.ObjC Z "com/example/twigline/twigline/matcher/StreamHeads" [(("com/example/twigline/twigline/matcher/StreamHeads", "size", "I"), (.int (5 : Nat).toInt32)), (("com/example/twigline/twigline/matcher/StreamHeads", "starts", "[J"), (.ref ra321)), (("com/example/twigline/twigline/matcher/StreamHeads", "earliest", "[I"), (.ref rb322))]) :: (ra321, Own.ArrC Z .long ((([(9223372036854775807 : Int64), (9223372036854775807 : Int64), (9223372036854775807 : Int64), (9223372036854775807 : Int64), (9223372036854775807 : Int64)].set pl0 q1).set pl1 q2).map Value.long)) :: (a299, Own.ArrC Z .long ((([(9223372036854775807 : Int64), (9223372036854775807 : Int64), (9223372036854775807 : Int64), (9223372036854775807 : Int64), (9223372036854775807 : Int64), (9223372036854775807 : Int64), (9223372036854775807 : Int64), (9223372036854775807 : Int64)].set pl0 q1).set pl1 q2).map Value.long)) :: []) := O343.pick 2 rfl
    have O346 : Own.Owns n0 h342 ((ra321, Own.ArrC Z .long ((([(9223372036854775807 : Int64), (9223372036854775807 : Int64), (9223372036854775807 : Int64), (9223372036854775807 : Int64), (9223372036854775807 : Int64)].set pl0 q1).set pl1 q2).map Value.long)) :: (rb322, Own.ArrC Z .int (es336.map gI)) :: (a318, Own.ObjC Z "com/example/twigline/twigline/matcher/StreamHeads" [(("com/example/twigline/twigline/matcher/StreamHeads", "size", "I"), (.int (5 : Nat).toInt32)), (("com/example/twigline/twigline/matcher/StreamHeads", "starts", "[J"), (.ref ra321)), (("com/example/twigline/twigline/matcher/StreamHeads", "earliest", "[I"), (.ref rb322))]) :: (a299, Own.ArrC Z .long ((([(9223372036854775807 : Int64), (9223372036854775807 : Int64), (9223372036854775807 : Int64), (9223372036854775807 : Int64), (9223372036854775807 : Int64), (9223372036854775807 : Int64), (9223372036854775807 : Int64), (9223372036854775807 : Int64)].set pl0 q1).set pl1 q2).map Value.long)) :: []) := O345.pick 2 rfl
    have O347 : Own.Owns n0 h342 ((a318, Own.ObjC Z "com/example/twigline/twigline/matcher/StreamHeads" [(("com/example/twigline/twigline/matcher/StreamHeads", "size", "I"), (.int (5 : Nat).toInt32)), (("com/example/twigline/twigline/matcher/StreamHeads", "starts", "[J"), (.ref ra321)), (("com/example/twigline/twigline/matcher/StreamHeads", "earliest", "[I"), (.ref rb322))]) :: (ra321, Own.ArrC Z .long ((([(9223372036854775807 : Int64), (9223372036854775807 : Int64), (9223372036854775807 : Int64), (9223372036854775807 : Int64), (9223372036854775807 : Int64)].set pl0 q1).set pl1 q2).map Value.long)) :: (rb322, Own.ArrC Z .int (es336.map gI)) :: (a299, Own.ArrC Z .long ((([(9223372036854775807 : Int64), (9223372036854775807 : Int64), (9223372036854775807 : Int64), (9223372036854775807 : Int64), (9223372036854775807 : Int64), (9223372036854775807 : Int64), (9223372036854775807 : Int64), (9223372036854775807 : Int64)].set pl0 q1).set pl1 q2).map Value.long)) :: []) := O346.pick 2 rfl
    refine Own.callV hx hZ hown (O347.exa (i := 0) rfl) (hw _ (List.mem_of_getElem? (i := 28) rfl)) (hw _ (List.mem_of_getElem? (i := 29) rfl)) (hw _ (List.mem_of_getElem? (i := 31) rfl)) (hw _ (List.mem_of_getElem? (i := 30) rfl)) (hw _ (List.mem_of_getElem? (i := 4) rfl)) (hw _ (List.mem_of_getElem? (i := 32) rfl)) (by decide) pd4 (argsL := [(.int px2), (.long q3)]) (rest := []) rfl (W := 0) (Nat.le_of_eq rfl) (rm := ({ frames := 2, cells := 0, slots := 0, locals := 34 } : Room)) (by decide) (by decide) (by decide) (by decide) (k' := 4) (n' := 26) rfl rfl (by rw [hml]; rfl) [(.long q3), (.int px2), (.ref a318)] rfl (hb hby at_186) (pc' := 189) rfl (rm5 l Z a0 hw a318 px2 q3 h342 n0 pl2 5 ra321 rb322 (([(9223372036854775807 : Int64), (9223372036854775807 : Int64), (9223372036854775807 : Int64), (9223372036854775807 : Int64), (9223372036854775807 : Int64)].set pl0 q1).set pl1 q2) es336 (by decide) hpl2 hlt2 hI2 ((a299, Own.ArrC Z .long ((([(9223372036854775807 : Int64), (9223372036854775807 : Int64), (9223372036854775807 : Int64), (9223372036854775807 : Int64), (9223372036854775807 : Int64), (9223372036854775807 : Int64), (9223372036854775807 : Int64), (9223372036854775807 : Int64)].set pl0 q1).set pl1 q2).map Value.long)) :: []) O347) ?_
    rintro _ h348 ⟨es344, rfl, hI3, O349⟩
    show Own.Goes _ _ _ _ _ _ _ _ _ _ _ _ _ _ _ _ _ (mkF m 189 #[.val (.int p0), .val (.long q1), .second, .val (.long q2), .second, .val (.long q3), .second, .val (.long q4), .second, .val (.int p5), .val (.int (5 : Int32)), .val (.ref a299), .val (.ref a318), .val (.int px0), .val (.int px1), .val (.int px2), .val (.int px3)] [])
    refine Own.aload hx (.ref a299) (hb hby at_189) rfl rfl rfl ?_
    refine Own.iload hx px2 (hb hby at_191) rfl rfl ?_
    refine Own.lload hx q3 (hb hby at_193) rfl rfl ?_
    have hL3 := like_set (x := q3) hL2 hlt2
    refine Own.lastore hx hZ O349 3 pl2 rfl hpl2 (by rw [List.length_map, hL2.2.1]; omega) ((a318, Own.ObjC Z "com/example/twigline/twigline/matcher/StreamHeads" [(("com/example/twigline/twigline/matcher/StreamHeads", "size", "I"), (.int (5 : Nat).toInt32)), (("com/example/twigline/twigline/matcher/StreamHeads", "starts", "[J"), (.ref ra321)), (("com/example/twigline/twigline/matcher/StreamHeads", "earliest", "[I"), (.ref rb322))]) :: (ra321, Own.ArrC Z .long (((([(9223372036854775807 : Int64), (9223372036854775807 : Int64), (9223372036854775807 : Int64), (9223372036854775807 : Int64), (9223372036854775807 : Int64)].set pl0 q1).set pl1 q2).set pl2 q3).map Value.long)) :: (rb322, Own.ArrC Z .int (es344.map gI)) :: (a299, Own.ArrC Z .long (((([(9223372036854775807 : Int64), (9223372036854775807 : Int64), (9223372036854775807 : Int64), (9223372036854775807 : Int64), (9223372036854775807 : Int64), (9223372036854775807 : Int64), (9223372036854775807 : Int64), (9223372036854775807 : Int64)].set pl0 q1).set pl1 q2).set pl2 q3).map Value.long)) :: []) (by rw [← show ((([(9223372036854775807 : Int64), (9223372036854775807 : Int64), (9223372036854775807 : Int64), (9223372036854775807 : Int64), (9223372036854775807 : Int64), (9223372036854775807 : Int64), (9223372036854775807 : Int64), (9223372036854775807 : Int64)].set pl0 q1).set pl1 q2).map Value.long).set pl2 (Value.long q3) = (((([(9223372036854775807 : Int64), (9223372036854775807 : Int64), (9223372036854775807 : Int64), (9223372036854775807 : Int64), (9223372036854775807 : Int64), (9223372036854775807 : Int64), (9223372036854775807 : Int64), (9223372036854775807 : Int64)].set pl0 q1).set pl1 q2).set pl2 q3).map Value.long) from (List.map_set).symm]; rfl) (hb hby at_195) rfl ?_
    intro h350 O351
    refine Own.aload hx (.ref a318) (hb hby at_196) rfl rfl rfl ?_
    refine Own.iload hx px3 (hb hby at_198) rfl rfl ?_
    refine Own.lload hx q4 (hb hby at_200) rfl rfl ?_
    have O353 : Own.Owns n0 h350 ((rb322, Own.ArrC Z .int (es344.map gI)) :: (a318, Own.ObjC Z "com/example/twigline/twigline/matcher/StreamHeads" [(("com/example/twigline/twigline/matcher/StreamHeads", "size", "I"), (.int (5 : Nat).toInt32)), (("com/example/twigline/twigline/matcher/StreamHeads", "starts", "[J"), (.ref ra321)), (("com/example/twigline/twigline/matcher/StreamHeads", "earliest", "[I"), (.ref rb322))]) :: (ra321, Own.ArrC Z .long (((([(9223372036854775807 : Int64), (9223372036854775807 : Int64), (9223372036854775807 : Int64), (9223372036854775807 : Int64), (9223372036854775807 : Int64)].set pl0 q1).set pl1 q2).set pl2 q3).map Value.long)) :: (a299, Own.ArrC Z .long (((([(9223372036854775807 : Int64), (9223372036854775807 : Int64), (9223372036854775807 : Int64), (9223372036854775807 : Int64), (9223372036854775807 : Int64), (9223372036854775807 : Int64), (9223372036854775807 : Int64), (9223372036854775807 : Int64)].set pl0 q1).set pl1 q2).set pl2 q3).map Value.long)) :: []) := O351.pick 2 rfl
    have O354 : Own.Owns n0 h350 ((ra321, Own.ArrC Z .long (((([(9223372036854775807 : Int64), (9223372036854775807 : Int64), (9223372036854775807 : Int64), (9223372036854775807 : Int64), (9223372036854775807 : Int64)].set pl0 q1).set pl1 q2).set pl2 q3).map Value.long)) :: (rb322, Own.ArrC Z .int (es344.map gI)) :: (a318, Own.ObjC Z "com/example/twigline/twigline/matcher/StreamHeads" [(("com/example/twigline/twigline/matcher/StreamHeads", "size", "I"), (.int (5 : Nat).toInt32)), (("com/example/twigline/twigline/matcher/StreamHeads", "starts", "[J"), (.ref ra321)), (("com/example/twigline/twigline/matcher/StreamHeads", "earliest", "[I"), (.ref rb322))]) :: (a299, Own.ArrC Z .long (((([(9223372036854775807 : Int64), (9223372036854775807 : Int64), (9223372036854775807 : Int64), (9223372036854775807 : Int64), (9223372036854775807 : Int64), (9223372036854775807 : Int64), (9223372036854775807 : Int64), (9223372036854775807 : Int64)].set pl0 q1).set pl1 q2).set pl2 q3).map Value.long)) :: []) := O353.pick 2 rfl
    have O355 : Own.Owns n0 h350 ((a318, Own.ObjC Z "com/example/twigline/twigline/matcher/StreamHeads" [(("com/example/twigline/twigline/matcher/StreamHeads", "size", "I"), (.int (5 : Nat).toInt32)), (("com/example/twigline/twigline/matcher/StreamHeads", "starts", "[J"), (.ref ra321)), (("com/example/twigline/twigline/matcher/StreamHeads", "earliest", "[I"), (.ref rb322))]) :: (ra321, Own.ArrC Z .long (((([(9223372036854775807 : Int64), (9223372036854775807 : Int64), (9223372036854775807 : Int64), (9223372036854775807 : Int64), (9223372036854775807 : Int64)].set pl0 q1).set pl1 q2).set pl2 q3).map Value.long)) :: (rb322, Own.ArrC Z .int (es344.map gI)) :: (a299, Own.ArrC Z .long (((([(9223372036854775807 : Int64), (9223372036854775807 : Int64), (9223372036854775807 : Int64), (9223372036854775807 : Int64), (9223372036854775807 : Int64), (9223372036854775807 : Int64), (9223372036854775807 : Int64), (9223372036854775807 : Int64)].set pl0 q1).set pl1 q2).set pl2 q3).map Value.long)) :: []) := O354.pick 2 rfl
    refine Own.callV hx hZ hown (O355.exa (i := 0) rfl) (hw _ (List.mem_of_getElem? (i := 28) rfl)) (hw _ (List.mem_of_getElem? (i := 29) rfl)) (hw _ (List.mem_of_getElem? (i := 31) rfl)) (hw _ (List.mem_of_getElem? (i := 30) rfl)) (hw _ (List.mem_of_getElem? (i := 4) rfl)) (hw _ (List.mem_of_getElem? (i := 32) rfl)) (by decide) pd4 (argsL := [(.int px3), (.long q4)]) (rest := []) rfl (W := 0) (Nat.le_of_eq rfl) (rm := ({ frames := 2, cells := 0, slots := 0, locals := 34 } : Room)) (by decide) (by decide) (by decide) (by decide) (k' := 4) (n' := 26) rfl rfl (by rw [hml]; rfl) [(.long q4), (.int px3), (.ref a318)] rfl (hb hby at_202) (pc' := 205) rfl (rm5 l Z a0 hw a318 px3 q4 h350 n0 pl3 5 ra321 rb322 ((([(9223372036854775807 : Int64), (9223372036854775807 : Int64), (9223372036854775807 : Int64), (9223372036854775807 : Int64), (9223372036854775807 : Int64)].set pl0 q1).set pl1 q2).set pl2 q3) es344 (by decide) hpl3 hlt3 hI3 ((a299, Own.ArrC Z .long (((([(9223372036854775807 : Int64), (9223372036854775807 : Int64), (9223372036854775807 : Int64), (9223372036854775807 : Int64), (9223372036854775807 : Int64), (9223372036854775807 : Int64), (9223372036854775807 : Int64), (9223372036854775807 : Int64)].set pl0 q1).set pl1 q2).set pl2 q3).map Value.long)) :: []) O355) ?_
    rintro _ h356 ⟨es352, rfl, hI4, O357⟩
    show Own.Goes _ _ _ _ _ _ _ _ _ _ _ _ _ _ _ _ _ (mkF m 205 #[.val (.int p0), .val (.long q1), .second, .val (.long q2), .second, .val (.long q3), .second, .val (.long q4), .second, .val (.int p5), .val (.int (5 : Int32)), .val (.ref a299), .val (.ref a318), .val (.int px0), .val (.int px1), .val (.int px2), .val (.int px3)] [])
    refine Own.aload hx (.ref a299) (hb hby at_205) rfl rfl rfl ?_
    refine Own.iload hx px3 (hb hby at_207) rfl rfl ?_
    refine Own.lload hx q4 (hb hby at_209) rfl rfl ?_
    have hL4 := like_set (x := q4) hL3 hlt3
    refine Own.lastore hx hZ O357 3 pl3 rfl hpl3 (by rw [List.length_map, hL3.2.1]; omega) ((a318, Own.ObjC Z "com/example/twigline/twigline/matcher/StreamHeads" [(("com/example/twigline/twigline/matcher/StreamHeads", "size", "I"), (.int (5 : Nat).toInt32)), (("com/example/twigline/twigline/matcher/StreamHeads", "starts", "[J"), (.ref ra321)), (("com/example/twigline/twigline/matcher/StreamHeads", "earliest", "[I"), (.ref rb322))]) :: (ra321, Own.ArrC Z .long ((((([(9223372036854775807 : Int64), (9223372036854775807 : Int64), (9223372036854775807 : Int64), (9223372036854775807 : Int64), (9223372036854775807 : Int64)].set pl0 q1).set pl1 q2).set pl2 q3).set pl3 q4).map Value.long)) :: (rb322, Own.ArrC Z .int (es352.map gI)) :: (a299, Own.ArrC Z .long ((((([(9223372036854775807 : Int64), (9223372036854775807 : Int64), (9223372036854775807 : Int64), (9223372036854775807 : Int64), (9223372036854775807 : Int64), (9223372036854775807 : Int64), (9223372036854775807 : Int64), (9223372036854775807 : Int64)].set pl0 q1).set pl1 q2).set pl2 q3).set pl3 q4).map Value.long)) :: []) (by rw [← show (((([(9223372036854775807 : Int64), (9223372036854775807 : Int64), (9223372036854775807 : Int64), (9223372036854775807 : Int64), (9223372036854775807 : Int64), (9223372036854775807 : Int64), (9223372036854775807 : Int64), (9223372036854775807 : Int64)].set pl0 q1).set pl1 q2).set pl2 q3).map Value.long).set pl3 (Value.long q4) = ((((([(9223372036854775807 : Int64), (9223372036854775807 : Int64), (9223372036854775807 : Int64), (9223372036854775807 : Int64), (9223372036854775807 : Int64), (9223372036854775807 : Int64), (9223372036854775807 : Int64), (9223372036854775807 : Int64)].set pl0 q1).set pl1 q2).set pl2 q3).set pl3 q4).map Value.long) from (List.map_set).symm]; rfl) (hb hby at_211) rfl ?_
    intro h358 O359
    refine Own.aload hx (.ref a318) (hb hby at_212) rfl rfl rfl ?_
    have O360 : Own.Owns n0 h358 ((rb322, Own.ArrC Z .int (es352.map gI)) :: (a318, Own.ObjC Z "com/example/twigline/twigline/matcher/StreamHeads" [(("com/example/twigline/twigline/matcher/StreamHeads", "size", "I"), (.int (5 : Nat).toInt32)), (("com/example/twigline/twigline/matcher/StreamHeads", "starts", "[J"), (.ref ra321)), (("com/example/twigline/twigline/matcher/StreamHeads", "earliest", "[I"), (.ref rb322))]) :: (ra321, Own.ArrC Z .long ((((([(9223372036854775807 : Int64), (9223372036854775807 : Int64), (9223372036854775807 : Int64), (9223372036854775807 : Int64), (9223372036854775807 : Int64)].set pl0 q1).set pl1 q2).set pl2 q3).set pl3 q4).map Value.long)) :: (a299, Own.ArrC Z .long ((((([(9223372036854775807 : Int64), (9223372036854775807 : Int64), (9223372036854775807 : Int64), (9223372036854775807 : Int64), (9223372036854775807 : Int64), (9223372036854775807 : Int64), (9223372036854775807 : Int64), (9223372036854775807 : Int64)].set pl0 q1).set pl1 q2).set pl2 q3).set pl3 q4).map Value.long)) :: []) := O359.pick 2 rfl
    have O361 : Own.Owns n0 h358 ((ra321, Own.ArrC Z .long ((((([(9223372036854775807 : Int64), (9223372036854775807 : Int64), (9223372036854775807 : Int64), (9223372036854775807 : Int64), (9223372036854775807 : Int64)].set pl0 q1).set pl1 q2).set pl2 q3).set pl3 q4).map Value.long)) :: (rb322, Own.ArrC Z .int (es352.map gI)) :: (a318, Own.ObjC Z "com/example/twigline/twigline/matcher/StreamHeads" [(("com/example/twigline/twigline/matcher/StreamHeads", "size", "I"), (.int (5 : Nat).toInt32)), (("com/example/twigline/twigline/matcher/StreamHeads", "starts", "[J"), (.ref ra321)), (("com/example/twigline/twigline/matcher/StreamHeads", "earliest", "[I"), (.ref rb322))]) :: (a299, Own.ArrC Z .long ((((([(9223372036854775807 : Int64), (9223372036854775807 : Int64), (9223372036854775807 : Int64), (9223372036854775807 : Int64), (9223372036854775807 : Int64), (9223372036854775807 : Int64), (9223372036854775807 : Int64), (9223372036854775807 : Int64)].set pl0 q1).set pl1 q2).set pl2 q3).set pl3 q4).map Value.long)) :: []) := O360.pick 2 rfl
    have O362 : Own.Owns n0 h358 ((a318, Own.ObjC Z "com/example/twigline/twigline/matcher/StreamHeads" [(("com/example/twigline/twigline/matcher/StreamHeads", "size", "I"), (.int (5 : Nat).toInt32)), (("com/example/twigline/twigline/matcher/StreamHeads", "starts", "[J"), (.ref ra321)), (("com/example/twigline/twigline/matcher/StreamHeads", "earliest", "[I"), (.ref rb322))]) :: (ra321, Own.ArrC Z .long ((((([(9223372036854775807 : Int64), (9223372036854775807 : Int64), (9223372036854775807 : Int64), (9223372036854775807 : Int64), (9223372036854775807 : Int64)].set pl0 q1).set pl1 q2).set pl2 q3).set pl3 q4).map Value.long)) :: (rb322, Own.ArrC Z .int (es352.map gI)) :: (a299, Own.ArrC Z .long ((((([(9223372036854775807 : Int64), (9223372036854775807 : Int64), (9223372036854775807 : Int64), (9223372036854775807 : Int64), (9223372036854775807 : Int64), (9223372036854775807 : Int64), (9223372036854775807 : Int64), (9223372036854775807 : Int64)].set pl0 q1).set pl1 q2).set pl2 q3).set pl3 q4).map Value.long)) :: []) := O361.pick 2 rfl
    refine Own.callV hx hZ hown (O362.exa (i := 0) rfl) (hw _ (List.mem_of_getElem? (i := 18) rfl)) (hw _ (List.mem_of_getElem? (i := 19) rfl)) (hw _ (List.mem_of_getElem? (i := 21) rfl)) (hw _ (List.mem_of_getElem? (i := 20) rfl)) (hw _ (List.mem_of_getElem? (i := 4) rfl)) (hw _ (List.mem_of_getElem? (i := 22) rfl)) (by decide) pd3 (argsL := []) (rest := []) rfl (W := 0) (Nat.le_of_eq rfl) (rm := ({ frames := 0, cells := 0, slots := 0, locals := 0 } : Room)) (by decide) (by decide) (by decide) (by decide) (k' := 4) (n' := 26) rfl rfl (by rw [hml]; rfl) [(.ref a318)] rfl (hb hby at_214) (pc' := 217) rfl (rm3 l Z a0 hw a318 h358 n0 5 ra321 rb322 (((([(9223372036854775807 : Int64), (9223372036854775807 : Int64), (9223372036854775807 : Int64), (9223372036854775807 : Int64), (9223372036854775807 : Int64)].set pl0 q1).set pl1 q2).set pl2 q3).set pl3 q4) es352 (by decide) (by decide) hI4 ((a299, Own.ArrC Z .long ((((([(9223372036854775807 : Int64), (9223372036854775807 : Int64), (9223372036854775807 : Int64), (9223372036854775807 : Int64), (9223372036854775807 : Int64), (9223372036854775807 : Int64), (9223372036854775807 : Int64), (9223372036854775807 : Int64)].set pl0 q1).set pl1 q2).set pl2 q3).set pl3 q4).map Value.long)) :: []) O362) ?_
    rintro _ h' ⟨rfl, eh⟩
    rw [eh]; clear eh h'
    show Own.Goes _ _ _ _ _ _ _ _ _ _ _ _ _ _ _ _ _ (mkF m 217 #[.val (.int p0), .val (.long q1), .second, .val (.long q2), .second, .val (.long q3), .second, .val (.long q4), .second, .val (.int p5), .val (.int (5 : Int32)), .val (.ref a299), .val (.ref a318), .val (.int px0), .val (.int px1), .val (.int px2), .val (.int px3)] [(.long ((((([(9223372036854775807 : Int64), (9223372036854775807 : Int64), (9223372036854775807 : Int64), (9223372036854775807 : Int64), (9223372036854775807 : Int64)].set pl0 q1).set pl1 q2).set pl2 q3).set pl3 q4).getD (es352.getD 1 0) 0))])
    refine Own.aload hx (.ref a299) (hb hby at_217) rfl rfl rfl ?_
    have O363 : Own.Owns n0 h358 ((a299, Own.ArrC Z .long ((((([(9223372036854775807 : Int64), (9223372036854775807 : Int64), (9223372036854775807 : Int64), (9223372036854775807 : Int64), (9223372036854775807 : Int64), (9223372036854775807 : Int64), (9223372036854775807 : Int64), (9223372036854775807 : Int64)].set pl0 q1).set pl1 q2).set pl2 q3).set pl3 q4).map Value.long)) :: (a318, Own.ObjC Z "com/example/twigline/twigline/matcher/StreamHeads" [(("com/example/twigline/twigline/matcher/StreamHeads", "size", "I"), (.int (5 : Nat).toInt32)), (("com/example/twigline/twigline/matcher/StreamHeads", "starts", "[J"), (.ref ra321)), (("com/example/twigline/twigline/matcher/StreamHeads", "earliest", "[I"), (.ref rb322))]) :: (ra321, Own.ArrC Z .long ((((([(9223372036854775807 : Int64), (9223372036854775807 : Int64), (9223372036854775807 : Int64), (9223372036854775807 : Int64), (9223372036854775807 : Int64)].set pl0 q1).set pl1 q2).set pl2 q3).set pl3 q4).map Value.long)) :: (rb322, Own.ArrC Z .int (es352.map gI)) :: []) := O362.pick 3 rfl
    refine Own.callS hx hZ hown (hw _ (List.mem_of_getElem? (i := 37) rfl)) (hw _ (List.mem_of_getElem? (i := 38) rfl)) (hw _ (List.mem_of_getElem? (i := 39) rfl)) (hw _ (List.mem_of_getElem? (i := 40) rfl)) (by decide) pd5 (argsL := [(.ref a299)]) (rest := [(.long ((((([(9223372036854775807 : Int64), (9223372036854775807 : Int64), (9223372036854775807 : Int64), (9223372036854775807 : Int64), (9223372036854775807 : Int64)].set pl0 q1).set pl1 q2).set pl2 q3).set pl3 q4).getD (es352.getD 1 0) 0))]) rfl (W := 2) (Nat.le_of_eq rfl) (rm := ({ frames := 1, cells := 0, slots := 0, locals := 19 } : Room)) (by decide) (by decide) (by decide) (by decide) (k' := 4) (n' := 26) rfl rfl (by rw [hml]; rfl) [(.ref a299), (.long ((((([(9223372036854775807 : Int64), (9223372036854775807 : Int64), (9223372036854775807 : Int64), (9223372036854775807 : Int64), (9223372036854775807 : Int64)].set pl0 q1).set pl1 q2).set pl2 q3).set pl3 q4).getD (es352.getD 1 0) 0))] rfl (hb hby at_219) (pc' := 222) rfl (rm7 l Z a0 hw a299 h358 n0 (((([(9223372036854775807 : Int64), (9223372036854775807 : Int64), (9223372036854775807 : Int64), (9223372036854775807 : Int64), (9223372036854775807 : Int64), (9223372036854775807 : Int64), (9223372036854775807 : Int64), (9223372036854775807 : Int64)].set pl0 q1).set pl1 q2).set pl2 q3).set pl3 q4) hL4.2.1 ((a318, Own.ObjC Z "com/example/twigline/twigline/matcher/StreamHeads" [(("com/example/twigline/twigline/matcher/StreamHeads", "size", "I"), (.int (5 : Nat).toInt32)), (("com/example/twigline/twigline/matcher/StreamHeads", "starts", "[J"), (.ref ra321)), (("com/example/twigline/twigline/matcher/StreamHeads", "earliest", "[I"), (.ref rb322))]) :: (ra321, Own.ArrC Z .long ((((([(9223372036854775807 : Int64), (9223372036854775807 : Int64), (9223372036854775807 : Int64), (9223372036854775807 : Int64), (9223372036854775807 : Int64)].set pl0 q1).set pl1 q2).set pl2 q3).set pl3 q4).map Value.long)) :: (rb322, Own.ArrC Z .int (es352.map gI)) :: []) O363) ?_
    rintro _ h' ⟨rfl, eh⟩
    rw [eh]; clear eh h'
    show Own.Goes _ _ _ _ _ _ _ _ _ _ _ _ _ _ _ _ _ (mkF m 222 #[.val (.int p0), .val (.long q1), .second, .val (.long q2), .second, .val (.long q3), .second, .val (.long q4), .second, .val (.int p5), .val (.int (5 : Int32)), .val (.ref a299), .val (.ref a318), .val (.int px0), .val (.int px1), .val (.int px2), .val (.int px3)] [(.long (fMin8 (((([(9223372036854775807 : Int64), (9223372036854775807 : Int64), (9223372036854775807 : Int64), (9223372036854775807 : Int64), (9223372036854775807 : Int64), (9223372036854775807 : Int64), (9223372036854775807 : Int64), (9223372036854775807 : Int64)].set pl0 q1).set pl1 q2).set pl2 q3).set pl3 q4))), (.long ((((([(9223372036854775807 : Int64), (9223372036854775807 : Int64), (9223372036854775807 : Int64), (9223372036854775807 : Int64), (9223372036854775807 : Int64)].set pl0 q1).set pl1 q2).set pl2 q3).set pl3 q4).getD (es352.getD 1 0) 0))])
    refine Own.lcmp hx (hb hby at_222) rfl ?_
    have hc364 : ((((([(9223372036854775807 : Int64), (9223372036854775807 : Int64), (9223372036854775807 : Int64), (9223372036854775807 : Int64), (9223372036854775807 : Int64)].set pl0 q1).set pl1 q2).set pl2 q3).set pl3 q4).getD (es352.getD 1 0) 0) = (fMin8 (((([(9223372036854775807 : Int64), (9223372036854775807 : Int64), (9223372036854775807 : Int64), (9223372036854775807 : Int64), (9223372036854775807 : Int64), (9223372036854775807 : Int64), (9223372036854775807 : Int64), (9223372036854775807 : Int64)].set pl0 q1).set pl1 q2).set pl2 q3).set pl3 q4)) := like_min hL4 hI4 (by decide)
    refine Own.ifFn hx (Own.w_ne ((((([(9223372036854775807 : Int64), (9223372036854775807 : Int64), (9223372036854775807 : Int64), (9223372036854775807 : Int64), (9223372036854775807 : Int64)].set pl0 q1).set pl1 q2).set pl2 q3).set pl3 q4).getD (es352.getD 1 0) 0) (fMin8 (((([(9223372036854775807 : Int64), (9223372036854775807 : Int64), (9223372036854775807 : Int64), (9223372036854775807 : Int64), (9223372036854775807 : Int64), (9223372036854775807 : Int64), (9223372036854775807 : Int64), (9223372036854775807 : Int64)].set pl0 q1).set pl1 q2).set pl2 q3).set pl3 q4))) (hb hby at_223) (pcN := 226) rfl (by decide) (pcT := 230) rfl (fun q => absurd hc364 q) (fun _ => ?_)
    refine Own.iconst hx (1 : Int32) (hb hby at_226) rfl (by decide) ?_
    refine Own.goto hx (hb hby at_227) (by decide) (pc' := 231) rfl ?_
    exact Own.retS hx hret (by simp) hlk (hb hby at_231) (by decide) (by decide) (Own.bool1 rfl)
  · subst q
    refine Own.bipush hx (8 : Int32) (hb hby at_6) rfl (by decide) ?_
    refine Own.newarr hx hZ O0 (aty := .long) (hw _ (List.mem_of_getElem? (i := 0) rfl)) 8 (by decide) [(.long (0 : Int64)), (.long (0 : Int64)), (.long (0 : Int64)), (.long (0 : Int64)), (.long (0 : Int64)), (.long (0 : Int64)), (.long (0 : Int64)), (.long (0 : Int64))] rfl rfl (cap := 8) (by decide) (by decide) (k' := 1) (n' := 8) rfl rfl (by decide) (by decide) (hb hby at_8) (pc' := 10) rfl ?_
    intro a366 h367 O368
    refine Own.astore hx #[.val (.int p0), .val (.long q1), .second, .val (.long q2), .second, .val (.long q3), .second, .val (.long q4), .second, .val (.int p5), .val (.int (6 : Int32)), .val (.ref a366), .unset, .unset, .unset, .unset, .unset] (hb hby at_10) rfl rfl rfl ?_
    refine Own.aload hx (.ref a366) (hb hby at_12) rfl rfl rfl ?_
    refine Own.iconst hx (0 : Int32) (hb hby at_14) rfl (by decide) ?_
    refine Own.ldc2 hx hZ hown (9223372036854775807 : Int64) (hb hby at_15) rfl (hw _ (List.mem_of_getElem? (i := 1) rfl)) ?_
    refine Own.lastore hx hZ O368 0 0 rfl (by decide) (by exact (show 0 < 8 by decide)) ((a366, Own.ArrC Z .long [(.long (9223372036854775807 : Int64)), (.long (0 : Int64)), (.long (0 : Int64)), (.long (0 : Int64)), (.long (0 : Int64)), (.long (0 : Int64)), (.long (0 : Int64)), (.long (0 : Int64))]) :: []) rfl (hb hby at_18) rfl ?_
    intro h369 O370
    refine Own.aload hx (.ref a366) (hb hby at_19) rfl rfl rfl ?_
    refine Own.iconst hx (1 : Int32) (hb hby at_21) rfl (by decide) ?_
    refine Own.ldc2 hx hZ hown (9223372036854775807 : Int64) (hb hby at_22) rfl (hw _ (List.mem_of_getElem? (i := 1) rfl)) ?_
    refine Own.lastore hx hZ O370 0 1 rfl (by decide) (by exact (show 1 < 8 by decide)) ((a366, Own.ArrC Z .long [(.long (9223372036854775807 : Int64)), (.long (9223372036854775807 : Int64)), (.long (0 : Int64)), (.long (0 : Int64)), (.long (0 : Int64)), (.long (0 : Int64)), (.long (0 : Int64)), (.long (0 : Int64))]) :: []) rfl (hb hby at_25) rfl ?_
    intro h371 O372
    refine Own.aload hx (.ref a366) (hb hby at_26) rfl rfl rfl ?_
    refine Own.iconst hx (2 : Int32) (hb hby at_28) rfl (by decide) ?_
    refine Own.ldc2 hx hZ hown (9223372036854775807 : Int64) (hb hby at_29) rfl (hw _ (List.mem_of_getElem? (i := 1) rfl)) ?_
    refine Own.lastore hx hZ O372 0 2 rfl (by decide) (by exact (show 2 < 8 by decide)) ((a366, Own.ArrC Z .long [(.long (9223372036854775807 : Int64)), (.long (9223372036854775807 : Int64)), (.long (9223372036854775807 : Int64)), (.long (0 : Int64)), (.long (0 : Int64)), (.long (0 : Int64)), (.long (0 : Int64)), (.long (0 : Int64))]) :: []) rfl (hb hby at_32) rfl ?_
    intro h373 O374
    refine Own.aload hx (.ref a366) (hb hby at_33) rfl rfl rfl ?_
    refine Own.iconst hx (3 : Int32) (hb hby at_35) rfl (by decide) ?_
    refine Own.ldc2 hx hZ hown (9223372036854775807 : Int64) (hb hby at_36) rfl (hw _ (List.mem_of_getElem? (i := 1) rfl)) ?_
    refine Own.lastore hx hZ O374 0 3 rfl (by decide) (by exact (show 3 < 8 by decide)) ((a366, Own.ArrC Z .long [(.long (9223372036854775807 : Int64)), (.long (9223372036854775807 : Int64)), (.long (9223372036854775807 : Int64)), (.long (9223372036854775807 : Int64)), (.long (0 : Int64)), (.long (0 : Int64)), (.long (0 : Int64)), (.long (0 : Int64))]) :: []) rfl (hb hby at_39) rfl ?_
    intro h375 O376
    refine Own.aload hx (.ref a366) (hb hby at_40) rfl rfl rfl ?_
    refine Own.iconst hx (4 : Int32) (hb hby at_42) rfl (by decide) ?_
    refine Own.ldc2 hx hZ hown (9223372036854775807 : Int64) (hb hby at_43) rfl (hw _ (List.mem_of_getElem? (i := 1) rfl)) ?_
    refine Own.lastore hx hZ O376 0 4 rfl (by decide) (by exact (show 4 < 8 by decide)) ((a366, Own.ArrC Z .long [(.long (9223372036854775807 : Int64)), (.long (9223372036854775807 : Int64)), (.long (9223372036854775807 : Int64)), (.long (9223372036854775807 : Int64)), (.long (9223372036854775807 : Int64)), (.long (0 : Int64)), (.long (0 : Int64)), (.long (0 : Int64))]) :: []) rfl (hb hby at_46) rfl ?_
    intro h377 O378
    refine Own.aload hx (.ref a366) (hb hby at_47) rfl rfl rfl ?_
    refine Own.iconst hx (5 : Int32) (hb hby at_49) rfl (by decide) ?_
    refine Own.ldc2 hx hZ hown (9223372036854775807 : Int64) (hb hby at_50) rfl (hw _ (List.mem_of_getElem? (i := 1) rfl)) ?_
    refine Own.lastore hx hZ O378 0 5 rfl (by decide) (by exact (show 5 < 8 by decide)) ((a366, Own.ArrC Z .long [(.long (9223372036854775807 : Int64)), (.long (9223372036854775807 : Int64)), (.long (9223372036854775807 : Int64)), (.long (9223372036854775807 : Int64)), (.long (9223372036854775807 : Int64)), (.long (9223372036854775807 : Int64)), (.long (0 : Int64)), (.long (0 : Int64))]) :: []) rfl (hb hby at_53) rfl ?_
    intro h379 O380
    refine Own.aload hx (.ref a366) (hb hby at_54) rfl rfl rfl ?_
    refine Own.bipush hx (6 : Int32) (hb hby at_56) rfl (by decide) ?_
    refine Own.ldc2 hx hZ hown (9223372036854775807 : Int64) (hb hby at_58) rfl (hw _ (List.mem_of_getElem? (i := 1) rfl)) ?_
    refine Own.lastore hx hZ O380 0 6 rfl (by decide) (by exact (show 6 < 8 by decide)) ((a366, Own.ArrC Z .long [(.long (9223372036854775807 : Int64)), (.long (9223372036854775807 : Int64)), (.long (9223372036854775807 : Int64)), (.long (9223372036854775807 : Int64)), (.long (9223372036854775807 : Int64)), (.long (9223372036854775807 : Int64)), (.long (9223372036854775807 : Int64)), (.long (0 : Int64))]) :: []) rfl (hb hby at_61) rfl ?_
    intro h381 O382
    refine Own.aload hx (.ref a366) (hb hby at_62) rfl rfl rfl ?_
    refine Own.bipush hx (7 : Int32) (hb hby at_64) rfl (by decide) ?_
    refine Own.ldc2 hx hZ hown (9223372036854775807 : Int64) (hb hby at_66) rfl (hw _ (List.mem_of_getElem? (i := 1) rfl)) ?_
    refine Own.lastore hx hZ O382 0 7 rfl (by decide) (by exact (show 7 < 8 by decide)) ((a366, Own.ArrC Z .long [(.long (9223372036854775807 : Int64)), (.long (9223372036854775807 : Int64)), (.long (9223372036854775807 : Int64)), (.long (9223372036854775807 : Int64)), (.long (9223372036854775807 : Int64)), (.long (9223372036854775807 : Int64)), (.long (9223372036854775807 : Int64)), (.long (9223372036854775807 : Int64))]) :: []) rfl (hb hby at_69) rfl ?_
    intro h383 O384
    refine Own.newobj hx hZ hown O384 (hw _ (List.mem_of_getElem? (i := 2) rfl)) (hw _ (List.mem_of_getElem? (i := 3) rfl)) (hw _ (List.mem_of_getElem? (i := 4) rfl)) [(("com/example/twigline/twigline/matcher/StreamHeads", "size", "I"), (.int (0 : Int32))), (("com/example/twigline/twigline/matcher/StreamHeads", "starts", "[J"), .null), (("com/example/twigline/twigline/matcher/StreamHeads", "earliest", "[I"), .null)] (by intro f hf; simp only [List.mem_cons, List.not_mem_nil, or_false] at hf; rcases hf with rfl | rfl | rfl; exact ⟨Or.inr (hw _ (List.mem_of_getElem? (i := 12) rfl)), .int, by decide, rfl⟩; exact ⟨Or.inr (hw _ (List.mem_of_getElem? (i := 14) rfl)), (.array .long), by decide, rfl⟩; exact ⟨Or.inr (hw _ (List.mem_of_getElem? (i := 17) rfl)), (.array .int), by decide, rfl⟩) (by decide) (k' := 2) (n' := 11) rfl rfl (by decide) (by decide) (hb hby at_70) (pc' := 73) rfl ?_
    intro a385 h386 O387
    refine Own.dup hx (hb hby at_73) rfl rfl ?_
    refine Own.iload hx (6 : Int32) (hb hby at_74) rfl rfl ?_
    refine Own.callI hx hZ hown rfl (hw _ (List.mem_of_getElem? (i := 5) rfl)) (hw _ (List.mem_of_getElem? (i := 6) rfl)) (hw _ (List.mem_of_getElem? (i := 4) rfl)) (hw _ (List.mem_of_getElem? (i := 7) rfl)) (by decide) pd2 (argsL := [(.int (6 : Int32))]) (rest := [(.ref a385)]) rfl (W := 1) (Nat.le_of_eq rfl) (rm := ({ frames := 1, cells := 2, slots := 18, locals := 16 } : Room)) (by decide) (by decide) (by decide) (by decide) (k' := 4) (n' := 29) rfl rfl (by rw [hml]; rfl) [(.int (6 : Int32)), (.ref a385), (.ref a385)] rfl (hb hby at_76) (pc' := 79) rfl (rm1_6 l Z a0 hw a385 h386 n0 ((a366, Own.ArrC Z .long [(.long (9223372036854775807 : Int64)), (.long (9223372036854775807 : Int64)), (.long (9223372036854775807 : Int64)), (.long (9223372036854775807 : Int64)), (.long (9223372036854775807 : Int64)), (.long (9223372036854775807 : Int64)), (.long (9223372036854775807 : Int64)), (.long (9223372036854775807 : Int64))]) :: []) O387) ?_
    rintro _ h390 ⟨ra388, rb389, rfl, O391⟩
    show Own.Goes _ _ _ _ _ _ _ _ _ _ _ _ _ _ _ _ _ (mkF m 79 #[.val (.int p0), .val (.long q1), .second, .val (.long q2), .second, .val (.long q3), .second, .val (.long q4), .second, .val (.int p5), .val (.int (6 : Int32)), .val (.ref a366), .unset, .unset, .unset, .unset, .unset] [(.ref a385)])
    have O392 : Own.Owns n0 h390 ((a385, Own.ObjC Z "com/example/twigline/twigline/matcher/StreamHeads" [(("com/example/twigline/twigline/matcher/StreamHeads", "size", "I"), (.int (6 : Nat).toInt32)), (("com/example/twigline/twigline/matcher/StreamHeads", "starts", "[J"), (.ref ra388)), (("com/example/twigline/twigline/matcher/StreamHeads", "earliest", "[I"), (.ref rb389))]) :: (ra388, Own.ArrC Z .long ([(9223372036854775807 : Int64), (9223372036854775807 : Int64), (9223372036854775807 : Int64), (9223372036854775807 : Int64), (9223372036854775807 : Int64), (9223372036854775807 : Int64)].map Value.long)) :: (rb389, Own.ArrC Z .int ([0, 2, 2, 0, 2, 4, 0, 1, 2, 3, 4, 5].map gI)) :: (a366, Own.ArrC Z .long ([(9223372036854775807 : Int64), (9223372036854775807 : Int64), (9223372036854775807 : Int64), (9223372036854775807 : Int64), (9223372036854775807 : Int64), (9223372036854775807 : Int64), (9223372036854775807 : Int64), (9223372036854775807 : Int64)].map Value.long)) :: []) := O391
    have hI0 : InvT ([(9223372036854775807 : Int64), (9223372036854775807 : Int64), (9223372036854775807 : Int64), (9223372036854775807 : Int64), (9223372036854775807 : Int64), (9223372036854775807 : Int64)] : List Int64) [0, 2, 2, 0, 2, 4, 0, 1, 2, 3, 4, 5] 6 := inv_of (by decide +kernel)
    have hL0 : Like ([(9223372036854775807 : Int64), (9223372036854775807 : Int64), (9223372036854775807 : Int64), (9223372036854775807 : Int64), (9223372036854775807 : Int64), (9223372036854775807 : Int64)] : List Int64) [(9223372036854775807 : Int64), (9223372036854775807 : Int64), (9223372036854775807 : Int64), (9223372036854775807 : Int64), (9223372036854775807 : Int64), (9223372036854775807 : Int64), (9223372036854775807 : Int64), (9223372036854775807 : Int64)] 6 := ⟨rfl, rfl, by decide, by decide +kernel⟩
    refine Own.astore hx #[.val (.int p0), .val (.long q1), .second, .val (.long q2), .second, .val (.long q3), .second, .val (.long q4), .second, .val (.int p5), .val (.int (6 : Int32)), .val (.ref a366), .val (.ref a385), .unset, .unset, .unset, .unset] (hb hby at_79) rfl rfl rfl ?_
    refine Own.iload hx (6 : Int32) (hb hby at_81) rfl rfl ?_
    have hc393 : ¬ ((6 : Int32) = (0 : Int32)) := by decide
    refine Own.ifFn hx (Own.z_ne (6 : Int32)) (hb hby at_83) (pcN := 86) rfl (by decide) (pcT := 104) rfl (fun _ => ?_) (fun q => absurd q hc393)
    refine Own.iload hx p5 (hb hby at_104) rfl rfl ?_
    refine Own.bipush hx (7 : Int32) (hb hby at_106) rfl (by decide) ?_
    refine Own.iand hx (hb hby at_108) rfl ?_
    refine Own.iload hx (6 : Int32) (hb hby at_109) rfl rfl ?_
    refine Own.irem hx (hb hby at_111) rfl (by decide) ?_
    obtain ⟨px0, h_px0⟩ : ∃ z : Int32, z = ((p5 &&& (7 : Int32)) % (6 : Int32)) := ⟨_, rfl⟩
    refine Own.istore hx px0 h_px0 #[.val (.int p0), .val (.long q1), .second, .val (.long q2), .second, .val (.long q3), .second, .val (.long q4), .second, .val (.int p5), .val (.int (6 : Int32)), .val (.ref a366), .val (.ref a385), .val (.int px0), .unset, .unset, .unset] (hb hby at_112) rfl rfl ?_
    refine Own.iload hx p5 (hb hby at_114) rfl rfl ?_
    refine Own.iconst hx (3 : Int32) (hb hby at_116) rfl (by decide) ?_
    refine Own.iushr hx (hb hby at_117) rfl ?_
    refine Own.bipush hx (7 : Int32) (hb hby at_118) rfl (by decide) ?_
    refine Own.iand hx (hb hby at_120) rfl ?_
    refine Own.iload hx (6 : Int32) (hb hby at_121) rfl rfl ?_
    refine Own.irem hx (hb hby at_123) rfl (by decide) ?_
    obtain ⟨px1, h_px1⟩ : ∃ z : Int32, z = (((p5.toUInt32 >>> ((3 : Int32) &&& 31).toUInt32).toInt32 &&& (7 : Int32)) % (6 : Int32)) := ⟨_, rfl⟩
    refine Own.istore hx px1 h_px1 #[.val (.int p0), .val (.long q1), .second, .val (.long q2), .second, .val (.long q3), .second, .val (.long q4), .second, .val (.int p5), .val (.int (6 : Int32)), .val (.ref a366), .val (.ref a385), .val (.int px0), .val (.int px1), .unset, .unset] (hb hby at_124) rfl rfl ?_
    refine Own.iload hx p5 (hb hby at_126) rfl rfl ?_
    refine Own.bipush hx (6 : Int32) (hb hby at_128) rfl (by decide) ?_
    refine Own.iushr hx (hb hby at_130) rfl ?_
    refine Own.bipush hx (7 : Int32) (hb hby at_131) rfl (by decide) ?_
    refine Own.iand hx (hb hby at_133) rfl ?_
    refine Own.iload hx (6 : Int32) (hb hby at_134) rfl rfl ?_
    refine Own.irem hx (hb hby at_136) rfl (by decide) ?_
    obtain ⟨px2, h_px2⟩ : ∃ z : Int32, z = (((p5.toUInt32 >>> ((6 : Int32) &&& 31).toUInt32).toInt32 &&& (7 : Int32)) % (6 : Int32)) := ⟨_, rfl⟩
    refine Own.istore hx px2 h_px2 #[.val (.int p0), .val (.long q1), .second, .val (.long q2), .second, .val (.long q3), .second, .val (.long q4), .second, .val (.int p5), .val (.int (6 : Int32)), .val (.ref a366), .val (.ref a385), .val (.int px0), .val (.int px1), .val (.int px2), .unset] (hb hby at_137) rfl rfl ?_
    refine Own.iload hx p5 (hb hby at_139) rfl rfl ?_
    refine Own.bipush hx (9 : Int32) (hb hby at_141) rfl (by decide) ?_
    refine Own.iushr hx (hb hby at_143) rfl ?_
    refine Own.bipush hx (7 : Int32) (hb hby at_144) rfl (by decide) ?_
    refine Own.iand hx (hb hby at_146) rfl ?_
    refine Own.iload hx (6 : Int32) (hb hby at_147) rfl rfl ?_
    refine Own.irem hx (hb hby at_149) rfl (by decide) ?_
    obtain ⟨px3, h_px3⟩ : ∃ z : Int32, z = (((p5.toUInt32 >>> ((9 : Int32) &&& 31).toUInt32).toInt32 &&& (7 : Int32)) % (6 : Int32)) := ⟨_, rfl⟩
    refine Own.istore hx px3 h_px3 #[.val (.int p0), .val (.long q1), .second, .val (.long q2), .second, .val (.long q3), .second, .val (.long q4), .second, .val (.int p5), .val (.int (6 : Int32)), .val (.ref a366), .val (.ref a385), .val (.int px0), .val (.int px1), .val (.int px2), .val (.int px3)] (hb hby at_150) rfl rfl ?_
    obtain ⟨pl0, hpl0, hlt0⟩ := own_pl h_px0 (sz := 6) (by decide) (by decide)
    obtain ⟨pl1, hpl1, hlt1⟩ := own_pl h_px1 (sz := 6) (by decide) (by decide)
    obtain ⟨pl2, hpl2, hlt2⟩ := own_pl h_px2 (sz := 6) (by decide) (by decide)
    obtain ⟨pl3, hpl3, hlt3⟩ := own_pl h_px3 (sz := 6) (by decide) (by decide)
    refine Own.aload hx (.ref a385) (hb hby at_152) rfl rfl rfl ?_
    refine Own.iload hx px0 (hb hby at_154) rfl rfl ?_
    refine Own.lloadN hx q1 (hb hby at_156) rfl rfl ?_
    have O396 : Own.Owns n0 h390 ((rb389, Own.ArrC Z .int ([0, 2, 2, 0, 2, 4, 0, 1, 2, 3, 4, 5].map gI)) :: (a385, Own.ObjC Z "com/example/twigline/twigline/matcher/StreamHeads" [(("com/example/twigline/twigline/matcher/StreamHeads", "size", "I"), (.int (6 : Nat).toInt32)), (("com/example/twigline/twigline/matcher/StreamHeads", "starts", "[J"), (.ref ra388)), (("com/example/twigline/twigline/matcher/StreamHeads", "earliest", "[I"), (.ref rb389))]) :: (ra388, Own.ArrC Z .long ([(9223372036854775807 : Int64), (9223372036854775807 : Int64), (9223372036854775807 : Int64), (9223372036854775807 : Int64), (9223372036854775807 : Int64), (9223372036854775807 : Int64)].map Value.long)) :: (a366, Own.ArrC Z .long ([(9223372036854775807 : Int64), (9223372036854775807 : Int64), (9223372036854775807 : Int64), (9223372036854775807 : Int64), (9223372036854775807 : Int64), (9223372036854775807 : Int64), (9223372036854775807 : Int64), (9223372036854775807 : Int64)].map Value.long)) :: []) := O392.pick 2 rfl
    have O397 : Own.Owns n0 h390 ((ra388, Own.ArrC Z .long ([(9223372036854775807 : Int64), (9223372036854775807 : Int64), (9223372036854775807 : Int64), (9223372036854775807 : Int64), (9223372036854775807 : Int64), (9223372036854775807 : Int64)].map Value.long)) :: (rb389, Own.ArrC Z .int ([0, 2, 2, 0, 2, 4, 0, 1, 2, 3, 4, 5].map gI)) :: (a385, Own.ObjC Z "com/example/twigline/twigline/matcher/StreamHeads" [(("com/example/twigline/twigline/matcher/StreamHeads", "size", "I"), (.int (6 : Nat).toInt32)), (("com/example/twigline/twigline/matcher/StreamHeads", "starts", "[J"), (.ref ra388)), (("com/example/twigline/twigline/matcher/StreamHeads", "earliest", "[I"), (.ref rb389))]) :: (a366, Own.ArrC Z .long ([(9223372036854775807 : Int64), (9223372036854775807 : Int64), (9223372036854775807 : Int64), (9223372036854775807 : Int64), (9223372036854775807 : Int64), (9223372036854775807 : Int64), (9223372036854775807 : Int64), (9223372036854775807 : Int64)].map Value.long)) :: []) := O396.pick 2 rfl
    have O398 : Own.Owns n0 h390 ((a385, Own.ObjC Z "com/example/twigline/twigline/matcher/StreamHeads" [(("com/example/twigline/twigline/matcher/StreamHeads", "size", "I"), (.int (6 : Nat).toInt32)), (("com/example/twigline/twigline/matcher/StreamHeads", "starts", "[J"), (.ref ra388)), (("com/example/twigline/twigline/matcher/StreamHeads", "earliest", "[I"), (.ref rb389))]) :: (ra388, Own.ArrC Z .long ([(9223372036854775807 : Int64), (9223372036854775807 : Int64), (9223372036854775807 : Int64), (9223372036854775807 : Int64), (9223372036854775807 : Int64), (9223372036854775807 : Int64)].map Value.long)) :: (rb389, Own.ArrC Z .int ([0, 2, 2, 0, 2, 4, 0, 1, 2, 3, 4, 5].map gI)) :: (a366, Own.ArrC Z .long ([(9223372036854775807 : Int64), (9223372036854775807 : Int64), (9223372036854775807 : Int64), (9223372036854775807 : Int64), (9223372036854775807 : Int64), (9223372036854775807 : Int64), (9223372036854775807 : Int64), (9223372036854775807 : Int64)].map Value.long)) :: []) := O397.pick 2 rfl
    refine Own.callV hx hZ hown (O398.exa (i := 0) rfl) (hw _ (List.mem_of_getElem? (i := 28) rfl)) (hw _ (List.mem_of_getElem? (i := 29) rfl)) (hw _ (List.mem_of_getElem? (i := 31) rfl)) (hw _ (List.mem_of_getElem? (i := 30) rfl)) (hw _ (List.mem_of_getElem? (i := 4) rfl)) (hw _ (List.mem_of_getElem? (i := 32) rfl)) (by decide) pd4 (argsL := [(.int px0), (.long q1)]) (rest := []) rfl (W := 0) (Nat.le_of_eq rfl) (rm := ({ frames := 2, cells := 0, slots := 0, locals := 34 } : Room)) (by decide) (by decide) (by decide) (by decide) (k' := 4) (n' := 29) rfl rfl (by rw [hml]; rfl) [(.long q1), (.int px0), (.ref a385)] rfl (hb hby at_157) (pc' := 160) rfl (rm5 l Z a0 hw a385 px0 q1 h390 n0 pl0 6 ra388 rb389 [(9223372036854775807 : Int64), (9223372036854775807 : Int64), (9223372036854775807 : Int64), (9223372036854775807 : Int64), (9223372036854775807 : Int64), (9223372036854775807 : Int64)] [0, 2, 2, 0, 2, 4, 0, 1, 2, 3, 4, 5] (by decide) hpl0 hlt0 hI0 ((a366, Own.ArrC Z .long ([(9223372036854775807 : Int64), (9223372036854775807 : Int64), (9223372036854775807 : Int64), (9223372036854775807 : Int64), (9223372036854775807 : Int64), (9223372036854775807 : Int64), (9223372036854775807 : Int64), (9223372036854775807 : Int64)].map Value.long)) :: []) O398) ?_
    rintro _ h399 ⟨es395, rfl, hI1, O400⟩
    show Own.Goes _ _ _ _ _ _ _ _ _ _ _ _ _ _ _ _ _ (mkF m 160 #[.val (.int p0), .val (.long q1), .second, .val (.long q2), .second, .val (.long q3), .second, .val (.long q4), .second, .val (.int p5), .val (.int (6 : Int32)), .val (.ref a366), .val (.ref a385), .val (.int px0), .val (.int px1), .val (.int px2), .val (.int px3)] [])
    refine Own.aload hx (.ref a366) (hb hby at_160) rfl rfl rfl ?_
    refine Own.iload hx px0 (hb hby at_162) rfl rfl ?_
    refine Own.lloadN hx q1 (hb hby at_164) rfl rfl ?_
    have hL1 := like_set (x := q1) hL0 hlt0
    refine Own.lastore hx hZ O400 3 pl0 rfl hpl0 (by rw [List.length_map, hL0.2.1]; omega) ((a385, Own.ObjC Z "com/example/twigline/twigline/matcher/StreamHeads" [(("com/example/twigline/twigline/matcher/StreamHeads", "size", "I"), (.int (6 : Nat).toInt32)), (("com/example/twigline/twigline/matcher/StreamHeads", "starts", "[J"), (.ref ra388)), (("com/example/twigline/twigline/matcher/StreamHeads", "earliest", "[I"), (.ref rb389))]) :: (ra388, Own.ArrC Z .long (([(9223372036854775807 : Int64), (9223372036854775807 : Int64), (9223372036854775807 : Int64), (9223372036854775807 : Int64), (9223372036854775807 : Int64), (9223372036854775807 : Int64)].set pl0 q1).map Value.long)) :: (rb389, Own.ArrC Z .int (es395.map gI)) :: (a366, Own.ArrC Z .long (([(9223372036854775807 : Int64), (9223372036854775807 : Int64), (9223372036854775807 : Int64), (9223372036854775807 : Int64), (9223372036854775807 : Int64), (9223372036854775807 : Int64), (9223372036854775807 : Int64), (9223372036854775807 : Int64)].set pl0 q1).map Value.long)) :: []) (by rw [← show ([(9223372036854775807 : Int64), (9223372036854775807 : Int64), (9223372036854775807 : Int64), (9223372036854775807 : Int64), (9223372036854775807 : Int64), (9223372036854775807 : Int64), (9223372036854775807 : Int64), (9223372036854775807 : Int64)].map Value.long).set pl0 (Value.long q1) = (([(9223372036854775807 : Int64), (9223372036854775807 : Int64), (9223372036854775807 : Int64), (9223372036854775807 : Int64), (9223372036854775807 : Int64), (9223372036854775807 : Int64), (9223372036854775807 : Int64), (9223372036854775807 : Int64)].set pl0 q1).map Value.long) from (List.map_set).symm]; rfl) (hb hby at_165) rfl ?_
    intro h401 O402
    refine Own.aload hx (.ref a385) (hb hby at_166) rfl rfl rfl ?_
    refine Own.iload hx px1 (hb hby at_168) rfl rfl ?_
    refine Own.lloadN hx q2 (hb hby at_170) rfl rfl ?_
    have O404 : Own.Owns n0 h401 ((rb389, Own.ArrC Z .int (es395.map gI)) :: (a385, Own.ObjC Z "com/example/twigline/twigline/matcher/StreamHeads" [(("com/example/twigline/twigline/matcher/StreamHeads", "size", "I"), (.int (6 : Nat).toInt32)), (("com/example/twigline/twigline/matcher/StreamHeads", "starts", "[J"), (.ref ra388)), (("com/example/twigline/twigline/matcher/StreamHeads", "earliest", "[I"), (.ref rb389))]) :: (ra388, Own.ArrC Z .long (([(9223372036854775807 : Int64), (9223372036854775807 : Int64), (9223372036854775807 : Int64), (9223372036854775807 : Int64), (9223372036854775807 : Int64), (9223372036854775807 : Int64)].set pl0 q1).map Value.long)) :: (a366, Own.ArrC Z .long (([(9223372036854775807 : Int64), (9223372036854775807 : Int64), (9223372036854775807 : Int64), (9223372036854775807 : Int64), (9223372036854775807 : Int64), (9223372036854775807 : Int64), (9223372036854775807 : Int64), (9223372036854775807 : Int64)].set pl0 q1).map Value.long)) :: []) := O402.pick 2 rfl
    have O405 : Own.Owns n0 h401 ((ra388, Own.ArrC Z .long (([(9223372036854775807 : Int64), (9223372036854775807 : Int64), (9223372036854775807 : Int64), (9223372036854775807 : Int64), (9223372036854775807 : Int64), (9223372036854775807 : Int64)].set pl0 q1).map Value.long)) :: (rb389, Own.ArrC Z .int (es395.map gI)) :: (a385, Own.ObjC Z "com/example/twigline/twigline/matcher/StreamHeads" [(("com/example/twigline/twigline/matcher/StreamHeads", "size", "I"), (.int (6 : Nat).toInt32)), (("com/example/twigline/twigline/matcher/StreamHeads", "starts", "[J"), (.ref ra388)), (("com/example/twigline/twigline/matcher/StreamHeads", "earliest", "[I"), (.ref rb389))]) :: (a366, Own.ArrC Z .long (([(9223372036854775807 : Int64), (9223372036854775807 : Int64), (9223372036854775807 : Int64), (9223372036854775807 : Int64), (9223372036854775807 : Int64), (9223372036854775807 : Int64), (9223372036854775807 : Int64), (9223372036854775807 : Int64)].set pl0 q1).map Value.long)) :: []) := O404.pick 2 rfl
    have O406 : Own.Owns n0 h401 ((a385, Own.ObjC Z "com/example/twigline/twigline/matcher/StreamHeads" [(("com/example/twigline/twigline/matcher/StreamHeads", "size", "I"), (.int (6 : Nat).toInt32)), (("com/example/twigline/twigline/matcher/StreamHeads", "starts", "[J"), (.ref ra388)), (("com/example/twigline/twigline/matcher/StreamHeads", "earliest", "[I"), (.ref rb389))]) :: (ra388, Own.ArrC Z .long (([(9223372036854775807 : Int64), (9223372036854775807 : Int64), (9223372036854775807 : Int64), (9223372036854775807 : Int64), (9223372036854775807 : Int64), (9223372036854775807 : Int64)].set pl0 q1).map Value.long)) :: (rb389, Own.ArrC Z .int (es395.map gI)) :: (a366, Own.ArrC Z .long (([(9223372036854775807 : Int64), (9223372036854775807 : Int64), (9223372036854775807 : Int64), (9223372036854775807 : Int64), (9223372036854775807 : Int64), (9223372036854775807 : Int64), (9223372036854775807 : Int64), (9223372036854775807 : Int64)].set pl0 q1).map Value.long)) :: []) := O405.pick 2 rfl
    refine Own.callV hx hZ hown (O406.exa (i := 0) rfl) (hw _ (List.mem_of_getElem? (i := 28) rfl)) (hw _ (List.mem_of_getElem? (i := 29) rfl)) (hw _ (List.mem_of_getElem? (i := 31) rfl)) (hw _ (List.mem_of_getElem? (i := 30) rfl)) (hw _ (List.mem_of_getElem? (i := 4) rfl)) (hw _ (List.mem_of_getElem? (i := 32) rfl)) (by decide) pd4 (argsL := [(.int px1), (.long q2)]) (rest := []) rfl (W := 0) (Nat.le_of_eq rfl) (rm := ({ frames := 2, cells := 0, slots := 0, locals := 34 } : Room)) (by decide) (by decide) (by decide) (by decide) (k' := 4) (n' := 29) rfl rfl (by rw [hml]; rfl) [(.long q2), (.int px1), (.ref a385)] rfl (hb hby at_171) (pc' := 174) rfl (rm5 l Z a0 hw a385 px1 q2 h401 n0 pl1 6 ra388 rb389 ([(9223372036854775807 : Int64), (9223372036854775807 : Int64), (9223372036854775807 : Int64), (9223372036854775807 : Int64), (9223372036854775807 : Int64), (9223372036854775807 : Int64)].set pl0 q1) es395 (by decide) hpl1 hlt1 hI1 ((a366, Own.ArrC Z .long (([(9223372036854775807 : Int64), (9223372036854775807 : Int64), (9223372036854775807 : Int64), (9223372036854775807 : Int64), (9223372036854775807 : Int64), (9223372036854775807 : Int64), (9223372036854775807 : Int64), (9223372036854775807 : Int64)].set pl0 q1).map Value.long)) :: []) O406) ?_
    rintro _ h407 ⟨es403, rfl, hI2, O408⟩
    show Own.Goes _ _ _ _ _ _ _ _ _ _ _ _ _ _ _ _ _ (mkF m 174 #[.val (.int p0), .val (.long q1), .second, .val (.long q2), .second, .val (.long q3), .second, .val (.long q4), .second, .val (.int p5), .val (.int (6 : Int32)), .val (.ref a366), .val (.ref a385), .val (.int px0), .val (.int px1), .val (.int px2), .val (.int px3)] [])
    refine Own.aload hx (.ref a366) (hb hby at_174) rfl rfl rfl ?_
    refine Own.iload hx px1 (hb hby at_176) rfl rfl ?_
    refine Own.lloadN hx q2 (hb hby at_178) rfl rfl ?_
    have hL2 := like_set (x := q2) hL1 hlt1
    refine Own.lastore hx hZ O408 3 pl1 rfl hpl1 (by rw [List.length_map, hL1.2.1]; omega) ((a385, Own.ObjC Z "com/example/twigline/twigline/matcher/StreamHeads" [(("com/example/twigline/twigline/matcher/StreamHeads", "size", "I"), (.int (6 : Nat).toInt32)), (("com/example/twigline/twigline/matcher/StreamHeads", "starts", "[J"), (.ref ra388)), (("com/example/twigline/twigline/matcher/StreamHeads", "earliest", "[I"), (.ref rb389))]) :: (ra388, Own.ArrC Z .long ((([(9223372036854775807 : Int64), (9223372036854775807 : Int64), (9223372036854775807 : Int64), (9223372036854775807 : Int64), (9223372036854775807 : Int64), (9223372036854775807 : Int64)].set pl0 q1).set pl1 q2).map Value.long)) :: (rb389, Own.ArrC Z .int (es403.map gI)) :: (a366, Own.ArrC Z .long ((([(9223372036854775807 : Int64), (9223372036854775807 : Int64), (9223372036854775807 : Int64), (9223372036854775807 : Int64), (9223372036854775807 : Int64), (9223372036854775807 : Int64), (9223372036854775807 : Int64), (9223372036854775807 : Int64)].set pl0 q1).set pl1 q2).map Value.long)) :: []) (by rw [← show (([(9223372036854775807 : Int64), (9223372036854775807 : Int64), (9223372036854775807 : Int64), (9223372036854775807 : Int64), (9223372036854775807 : Int64), (9223372036854775807 : Int64), (9223372036854775807 : Int64), (9223372036854775807 : Int64)].set pl0 q1).map Value.long).set pl1 (Value.long q2) = ((([(9223372036854775807 : Int64), (9223372036854775807 : Int64), (9223372036854775807 : Int64), (9223372036854775807 : Int64), (9223372036854775807 : Int64), (9223372036854775807 : Int64), (9223372036854775807 : Int64), (9223372036854775807 : Int64)].set pl0 q1).set pl1 q2).map Value.long) from (List.map_set).symm]; rfl) (hb hby at_179) rfl ?_
    intro h409 O410
    refine Own.aload hx (.ref a385) (hb hby at_180) rfl rfl rfl ?_
    refine Own.iload hx px2 (hb hby at_182) rfl rfl ?_
    refine Own.lload hx q3 (hb hby at_184) rfl rfl ?_
    have O412 : Own.Owns n0 h409 ((rb389, Own.ArrC Z .int (es403.map gI)) :: (a385, Own.ObjC Z "com/example/twigline/twigline/matcher/StreamHeads" [(("com/example/twigline/twigline/matcher/StreamHeads", "size", "I"), (.int (6 : Nat).toInt32)), (("com/example/twigline/twigline/matcher/StreamHeads", "starts", "[J"), (.ref ra388)), (("com/example/twigline/twigline/matcher/StreamHeads", "earliest", "[I"), (.ref rb389))]) :: (ra388, Own.ArrC Z .long ((([(9223372036854775807 : Int64), (9223372036854775807 : Int64), (9223372036854775807 : Int64), (9223372036854775807 : Int64), (9223372036854775807 : Int64), (9223372036854775807 : Int64)].set pl0 q1).set pl1 q2).map Value.long)) :: (a366, Own.ArrC Z .long ((([(9223372036854775807 : Int64), (9223372036854775807 : Int64), (9223372036854775807 : Int64), (9223372036854775807 : Int64), (9223372036854775807 : Int64), (9223372036854775807 : Int64), (9223372036854775807 : Int64), (9223372036854775807 : Int64)].set pl0 q1).set pl1 q2).map Value.long)) :: []) := O410.pick 2 rfl
    have O413 : Own.Owns n0 h409 ((ra388, Own.ArrC Z .long ((([(9223372036854775807 : Int64), (9223372036854775807 : Int64), (9223372036854775807 : Int64), (9223372036854775807 : Int64), (9223372036854775807 : Int64), (9223372036854775807 : Int64)].set pl0 q1).set pl1 q2).map Value.long)) :: (rb389, Own.ArrC Z .int (es403.map gI)) :: (a385, Own.ObjC Z "com/example/twigline/twigline/matcher/StreamHeads" [(("com/example/twigline/twigline/matcher/StreamHeads", "size", "I"), (.int (6 : Nat).toInt32)), (("com/example/twigline/twigline/matcher/StreamHeads", "starts", "[J"), (.ref ra388)), (("com/example/twigline/twigline/matcher/StreamHeads", "earliest", "[I"), (.ref rb389))]) :: (a366, Own.ArrC Z .long ((([(9223372036854775807 : Int64), (9223372036854775807 : Int64), (9223372036854775807 : Int64), (9223372036854775807 : Int64), (9223372036854775807 : Int64), (9223372036854775807 : Int64), (9223372036854775807 : Int64), (9223372036854775807 : Int64)].set pl0 q1).set pl1 q2).map Value.long)) :: []) := O412.pick 2 rfl
    have O414 : Own.Owns n0 h409 ((a385, Own.ObjC Z "com/example/twigline/twigline/matcher/StreamHeads" [(("com/example/twigline/twigline/matcher/StreamHeads", "size", "I"), (.int (6 : Nat).toInt32)), (("com/example/twigline/twigline/matcher/StreamHeads", "starts", "[J"), (.ref ra388)), (("com/example/twigline/twigline/matcher/StreamHeads", "earliest", "[I"), (.ref rb389))]) :: (ra388, Own.ArrC Z .long ((([(9223372036854775807 : Int64), (9223372036854775807 : Int64), (9223372036854775807 : Int64), (9223372036854775807 : Int64), (9223372036854775807 : Int64), (9223372036854775807 : Int64)].set pl0 q1).set pl1 q2).map Value.long)) :: (rb389, Own.ArrC Z .int (es403.map gI)) :: (a366, Own.ArrC Z .long ((([(9223372036854775807 : Int64), (9223372036854775807 : Int64), (9223372036854775807 : Int64), (9223372036854775807 : Int64), (9223372036854775807 : Int64), (9223372036854775807 : Int64), (9223372036854775807 : Int64), (9223372036854775807 : Int64)].set pl0 q1).set pl1 q2).map Value.long)) :: []) := O413.pick 2 rfl
    refine Own.callV hx hZ hown (O414.exa (i := 0) rfl) (hw _ (List.mem_of_getElem? (i := 28) rfl)) (hw _ (List.mem_of_getElem? (i := 29) rfl)) (hw _ (List.mem_of_getElem? (i := 31) rfl)) (hw _ (List.mem_of_getElem? (i := 30) rfl)) (hw _ (List.mem_of_getElem? (i := 4) rfl)) (hw _ (List.mem_of_getElem? (i := 32) rfl)) (by decide) pd4 (argsL := [(.int px2), (.long q3)]) (rest := []) rfl (W := 0) (Nat.le_of_eq rfl) (rm := ({ frames := 2, cells := 0, slots := 0, locals := 34 } : Room)) (by decide) (by decide) (by decide) (by decide) (k' := 4) (n' := 29) rfl rfl (by rw [hml]; rfl) [(.long q3), (.int px2), (.ref a385)] rfl (hb hby at_186) (pc' := 189) rfl (rm5 l Z a0 hw a385 px2 q3 h409 n0 pl2 6 ra388 rb389 (([(9223372036854775807 : Int64), (9223372036854775807 : Int64), (9223372036854775807 : Int64), (9223372036854775807 : Int64), (9223372036854775807 : Int64), (9223372036854775807 : Int64)].set pl0 q1).set pl1 q2) es403 (by decide) hpl2 hlt2 hI2 ((a366, Own.ArrC Z .long ((([(9223372036854775807 : Int64), (9223372036854775807 : Int64), (9223372036854775807 : Int64), (9223372036854775807 : Int64), (9223372036854775807 : Int64), (9223372036854775807 : Int64), (9223372036854775807 : Int64), (9223372036854775807 : Int64)].set pl0 q1).set pl1 q2).map Value.long)) :: []) O414) ?_
    rintro _ h415 ⟨es411, rfl, hI3, O416⟩
    show Own.Goes _ _ _ _ _ _ _ _ _ _ _ _ _ _ _ _ _ (mkF m 189 #[.val (.int p0), .val (.long q1), .second, .val (.long q2), .second, .val (.long q3), .second, .val (.long q4), .second, .val (.int p5), .val (.int (6 : Int32)), .val (.ref a366), .val (.ref a385), .val (.int px0), .val (.int px1), .val (.int px2), .val (.int px3)] [])
    refine Own.aload hx (.ref a366) (hb hby at_189) rfl rfl rfl ?_
    refine Own.iload hx px2 (hb hby at_191) rfl rfl ?_
    refine Own.lload hx q3 (hb hby at_193) rfl rfl ?_
    have hL3 := like_set (x := q3) hL2 hlt2
    refine Own.lastore hx hZ O416 3 pl2 rfl hpl2 (by rw [List.length_map, hL2.2.1]; omega) ((a385, Own.ObjC Z "com/example/twigline/twigline/matcher/StreamHeads" [(("com/example/twigline/twigline/matcher/StreamHeads", "size", "I"), (.int (6 : Nat).toInt32)), (("com/example/twigline/twigline/matcher/StreamHeads", "starts", "[J"), (.ref ra388)), (("com/example/twigline/twigline/matcher/StreamHeads", "earliest", "[I"), (.ref rb389))]) :: (ra388, Own.ArrC Z .long (((([(9223372036854775807 : Int64), (9223372036854775807 : Int64), (9223372036854775807 : Int64), (9223372036854775807 : Int64), (9223372036854775807 : Int64), (9223372036854775807 : Int64)].set pl0 q1).set pl1 q2).set pl2 q3).map Value.long)) :: (rb389, Own.ArrC Z .int (es411.map gI)) :: (a366, Own.ArrC Z .long (((([(9223372036854775807 : Int64), (9223372036854775807 : Int64), (9223372036854775807 : Int64), (9223372036854775807 : Int64), (9223372036854775807 : Int64), (9223372036854775807 : Int64), (9223372036854775807 : Int64), (9223372036854775807 : Int64)].set pl0 q1).set pl1 q2).set pl2 q3).map Value.long)) :: []) (by rw [← show ((([(9223372036854775807 : Int64), (9223372036854775807 : Int64), (9223372036854775807 : Int64), (9223372036854775807 : Int64), (9223372036854775807 : Int64), (9223372036854775807 : Int64), (9223372036854775807 : Int64), (9223372036854775807 : Int64)].set pl0 q1).set pl1 q2).map Value.long).set pl2 (Value.long q3) = (((([(9223372036854775807 : Int64), (9223372036854775807 : Int64), (9223372036854775807 : Int64), (9223372036854775807 : Int64), (9223372036854775807 : Int64), (9223372036854775807 : Int64), (9223372036854775807 : Int64), (9223372036854775807 : Int64)].set pl0 q1).set pl1 q2).set pl2 q3).map Value.long) from (List.map_set).symm]; rfl) (hb hby at_195) rfl ?_
    intro h417 O418
    refine Own.aload hx (.ref a385) (hb hby at_196) rfl rfl rfl ?_
    refine Own.iload hx px3 (hb hby at_198) rfl rfl ?_
    refine Own.lload hx q4 (hb hby at_200) rfl rfl ?_
    have O420 : Own.Owns n0 h417 ((rb389, Own.ArrC Z .int (es411.map gI)) :: (a385, Own.ObjC Z "com/example/twigline/twigline/matcher/StreamHeads" [(("com/example/twigline/twigline/matcher/StreamHeads", "size", "I"), (.int (6 : Nat).toInt32)), (("com/example/twigline/twigline/matcher/StreamHeads", "starts", "[J"), (.ref ra388)), (("com/example/twigline/twigline/matcher/StreamHeads", "earliest", "[I"), (.ref rb389))]) :: (ra388, Own.ArrC Z .long (((([(9223372036854775807 : Int64), (9223372036854775807 : Int64), (9223372036854775807 : Int64), (9223372036854775807 : Int64), (9223372036854775807 : Int64), (9223372036854775807 : Int64)].set pl0 q1).set pl1 q2).set pl2 q3).map Value.long)) :: (a366, Own.ArrC Z .long (((([(9223372036854775807 : Int64), (9223372036854775807 : Int64), (9223372036854775807 : Int64), (9223372036854775807 : Int64), (9223372036854775807 : Int64), (9223372036854775807 : Int64), (9223372036854775807 : Int64), (9223372036854775807 : Int64)].set pl0 q1).set pl1 q2).set pl2 q3).map Value.long)) :: []) := O418.pick 2 rfl
    have O421 : Own.Owns n0 h417 ((ra388, Own.ArrC Z .long (((([(9223372036854775807 : Int64), (9223372036854775807 : Int64), (9223372036854775807 : Int64), (9223372036854775807 : Int64), (9223372036854775807 : Int64), (9223372036854775807 : Int64)].set pl0 q1).set pl1 q2).set pl2 q3).map Value.long)) :: (rb389, Own.ArrC Z .int (es411.map gI)) :: (a385, Own.ObjC Z "com/example/twigline/twigline/matcher/StreamHeads" [(("com/example/twigline/twigline/matcher/StreamHeads", "size", "I"), (.int (6 : Nat).toInt32)), (("com/example/twigline/twigline/matcher/StreamHeads", "starts", "[J"), (.ref ra388)), (("com/example/twigline/twigline/matcher/StreamHeads", "earliest", "[I"), (.ref rb389))]) :: (a366, Own.ArrC Z .long (((([(9223372036854775807 : Int64), (9223372036854775807 : Int64), (9223372036854775807 : Int64), (9223372036854775807 : Int64), (9223372036854775807 : Int64), (9223372036854775807 : Int64), (9223372036854775807 : Int64), (9223372036854775807 : Int64)].set pl0 q1).set pl1 q2).set pl2 q3).map Value.long)) :: []) := O420.pick 2 rfl
    have O422 : Own.Owns n0 h417 ((a385, Own.ObjC Z "com/example/twigline/twigline/matcher/StreamHeads" [(("com/example/twigline/twigline/matcher/StreamHeads", "size", "I"), (.int (6 : Nat).toInt32)), (("com/example/twigline/twigline/matcher/StreamHeads", "starts", "[J"), (.ref ra388)), (("com/example/twigline/twigline/matcher/StreamHeads", "earliest", "[I"), (.ref rb389))]) :: (ra388, Own.ArrC Z .long (((([(9223372036854775807 : Int64), (9223372036854775807 : Int64), (9223372036854775807 : Int64), (9223372036854775807 : Int64), (9223372036854775807 : Int64), (9223372036854775807 : Int64)].set pl0 q1).set pl1 q2).set pl2 q3).map Value.long)) :: (rb389, Own.ArrC Z .int (es411.map gI)) :: (a366, Own.ArrC Z .long (((([(9223372036854775807 : Int64), (9223372036854775807 : Int64), (9223372036854775807 : Int64), (9223372036854775807 : Int64), (9223372036854775807 : Int64), (9223372036854775807 : Int64), (9223372036854775807 : Int64), (9223372036854775807 : Int64)].set pl0 q1).set pl1 q2).set pl2 q3).map Value.long)) :: []) := O421.pick 2 rfl
    refine Own.callV hx hZ hown (O422.exa (i := 0) rfl) (hw _ (List.mem_of_getElem? (i := 28) rfl)) (hw _ (List.mem_of_getElem? (i := 29) rfl)) (hw _ (List.mem_of_getElem? (i := 31) rfl)) (hw _ (List.mem_of_getElem? (i := 30) rfl)) (hw _ (List.mem_of_getElem? (i := 4) rfl)) (hw _ (List.mem_of_getElem? (i := 32) rfl)) (by decide) pd4 (argsL := [(.int px3), (.long q4)]) (rest := []) rfl (W := 0) (Nat.le_of_eq rfl) (rm := ({ frames := 2, cells := 0, slots := 0, locals := 34 } : Room)) (by decide) (by decide) (by decide) (by decide) (k' := 4) (n' := 29) rfl rfl (by rw [hml]; rfl) [(.long q4), (.int px3), (.ref a385)] rfl (hb hby at_202) (pc' := 205) rfl (rm5 l Z a0 hw a385 px3 q4 h417 n0 pl3 6 ra388 rb389 ((([(9223372036854775807 : Int64), (9223372036854775807 : Int64), (9223372036854775807 : Int64), (9223372036854775807 : Int64), (9223372036854775807 : Int64), (9223372036854775807 : Int64)].set pl0 q1).set pl1 q2).set pl2 q3) es411 (by decide) hpl3 hlt3 hI3 ((a366, Own.ArrC Z .long (((([(9223372036854775807 : Int64), (9223372036854775807 : Int64), (9223372036854775807 : Int64), (9223372036854775807 : Int64), (9223372036854775807 : Int64), (9223372036854775807 : Int64), (9223372036854775807 : Int64), (9223372036854775807 : Int64)].set pl0 q1).set pl1 q2).set pl2 q3).map Value.long)) :: []) O422) ?_
    rintro _ h423 ⟨es419, rfl, hI4, O424⟩
    show Own.Goes _ _ _ _ _ _ _ _ _ _ _ _ _ _ _ _ _ (mkF m 205 #[.val (.int p0), .val (.long q1), .second, .val (.long q2), .second, .val (.long q3), .second, .val (.long q4), .second, .val (.int p5), .val (.int (6 : Int32)), .val (.ref a366), .val (.ref a385), .val (.int px0), .val (.int px1), .val (.int px2), .val (.int px3)] [])
    refine Own.aload hx (.ref a366) (hb hby at_205) rfl rfl rfl ?_
    refine Own.iload hx px3 (hb hby at_207) rfl rfl ?_
    refine Own.lload hx q4 (hb hby at_209) rfl rfl ?_
    have hL4 := like_set (x := q4) hL3 hlt3
    refine Own.lastore hx hZ O424 3 pl3 rfl hpl3 (by rw [List.length_map, hL3.2.1]; omega) ((a385, Own.ObjC Z "com/example/twigline/twigline/matcher/StreamHeads" [(("com/example/twigline/twigline/matcher/StreamHeads", "size", "I"), (.int (6 : Nat).toInt32)), (("com/example/twigline/twigline/matcher/StreamHeads", "starts", "[J"), (.ref ra388)), (("com/example/twigline/twigline/matcher/StreamHeads", "earliest", "[I"), (.ref rb389))]) :: (ra388, Own.ArrC Z .long ((((([(9223372036854775807 : Int64), (9223372036854775807 : Int64), (9223372036854775807 : Int64), (9223372036854775807 : Int64), (9223372036854775807 : Int64), (9223372036854775807 : Int64)].set pl0 q1).set pl1 q2).set pl2 q3).set pl3 q4).map Value.long)) :: (rb389, Own.ArrC Z .int (es419.map gI)) :: (a366, Own.ArrC Z .long ((((([(9223372036854775807 : Int64), (9223372036854775807 : Int64), (9223372036854775807 : Int64), (9223372036854775807 : Int64), (9223372036854775807 : Int64), (9223372036854775807 : Int64), (9223372036854775807 : Int64), (9223372036854775807 : Int64)].set pl0 q1).set pl1 q2).set pl2 q3).set pl3 q4).map Value.long)) :: []) (by rw [← show (((([(9223372036854775807 : Int64), (9223372036854775807 : Int64), (9223372036854775807 : Int64), (9223372036854775807 : Int64), (9223372036854775807 : Int64), (9223372036854775807 : Int64), (9223372036854775807 : Int64), (9223372036854775807 : Int64)].set pl0 q1).set pl1 q2).set pl2 q3).map Value.long).set pl3 (Value.long q4) = ((((([(9223372036854775807 : Int64), (9223372036854775807 : Int64), (9223372036854775807 : Int64), (9223372036854775807 : Int64), (9223372036854775807 : Int64), (9223372036854775807 : Int64), (9223372036854775807 : Int64), (9223372036854775807 : Int64)].set pl0 q1).set pl1 q2).set pl2 q3).set pl3 q4).map Value.long) from (List.map_set).symm]; rfl) (hb hby at_211) rfl ?_
    intro h425 O426
    refine Own.aload hx (.ref a385) (hb hby at_212) rfl rfl rfl ?_
    have O427 : Own.Owns n0 h425 ((rb389, Own.ArrC Z .int (es419.map gI)) :: (a385, Own.ObjC Z "com/example/twigline/twigline/matcher/StreamHeads" [(("com/example/twigline/twigline/matcher/StreamHeads", "size", "I"), (.int (6 : Nat).toInt32)), (("com/example/twigline/twigline/matcher/StreamHeads", "starts", "[J"), (.ref ra388)), (("com/example/twigline/twigline/matcher/StreamHeads", "earliest", "[I"), (.ref rb389))]) :: (ra388, Own.ArrC Z .long ((((([(9223372036854775807 : Int64), (9223372036854775807 : Int64), (9223372036854775807 : Int64), (9223372036854775807 : Int64), (9223372036854775807 : Int64), (9223372036854775807 : Int64)].set pl0 q1).set pl1 q2).set pl2 q3).set pl3 q4).map Value.long)) :: (a366, Own.ArrC Z .long ((((([(9223372036854775807 : Int64), (9223372036854775807 : Int64), (9223372036854775807 : Int64), (9223372036854775807 : Int64), (9223372036854775807 : Int64), (9223372036854775807 : Int64), (9223372036854775807 : Int64), (9223372036854775807 : Int64)].set pl0 q1).set pl1 q2).set pl2 q3).set pl3 q4).map Value.long)) :: []) := O426.pick 2 rfl
    have O428 : Own.Owns n0 h425 ((ra388, Own.ArrC Z .long ((((([(9223372036854775807 : Int64), (9223372036854775807 : Int64), (9223372036854775807 : Int64), (9223372036854775807 : Int64), (9223372036854775807 : Int64), (9223372036854775807 : Int64)].set pl0 q1).set pl1 q2).set pl2 q3).set pl3 q4).map Value.long)) :: (rb389, Own.ArrC Z .int (es419.map gI)) :: (a385, Own.ObjC Z "com/example/twigline/twigline/matcher/StreamHeads" [(("com/example/twigline/twigline/matcher/StreamHeads", "size", "I"), (.int (6 : Nat).toInt32)), (("com/example/twigline/twigline/matcher/StreamHeads", "starts", "[J"), (.ref ra388)), (("com/example/twigline/twigline/matcher/StreamHeads", "earliest", "[I"), (.ref rb389))]) :: (a366, Own.ArrC Z .long ((((([(9223372036854775807 : Int64), (9223372036854775807 : Int64), (9223372036854775807 : Int64), (9223372036854775807 : Int64), (9223372036854775807 : Int64), (9223372036854775807 : Int64), (9223372036854775807 : Int64), (9223372036854775807 : Int64)].set pl0 q1).set pl1 q2).set pl2 q3).set pl3 q4).map Value.long)) :: []) := O427.pick 2 rfl
    have O429 : Own.Owns n0 h425 ((a385, Own.ObjC Z "com/example/twigline/twigline/matcher/StreamHeads" [(("com/example/twigline/twigline/matcher/StreamHeads", "size", "I"), (.int (6 : Nat).toInt32)), (("com/example/twigline/twigline/matcher/StreamHeads", "starts", "[J"), (.ref ra388)), (("com/example/twigline/twigline/matcher/StreamHeads", "earliest", "[I"), (.ref rb389))]) :: (ra388, Own.ArrC Z .long ((((([(9223372036854775807 : Int64), (9223372036854775807 : Int64), (9223372036854775807 : Int64), (9223372036854775807 : Int64), (9223372036854775807 : Int64), (9223372036854775807 : Int64)].set pl0 q1).set pl1 q2).set pl2 q3).set pl3 q4).map Value.long)) :: (rb389, Own.ArrC Z .int (es419.map gI)) :: (a366, Own.ArrC Z .long ((((([(9223372036854775807 : Int64), (9223372036854775807 : Int64), (9223372036854775807 : Int64), (9223372036854775807 : Int64), (9223372036854775807 : Int64), (9223372036854775807 : Int64), (9223372036854775807 : Int64), (9223372036854775807 : Int64)].set pl0 q1).set pl1 q2).set pl2 q3).set pl3 q4).map Value.long)) :: []) := O428.pick 2 rfl
    refine Own.callV hx hZ hown (O429.exa (i := 0) rfl) (hw _ (List.mem_of_getElem? (i := 18) rfl)) (hw _ (List.mem_of_getElem? (i := 19) rfl)) (hw _ (List.mem_of_getElem? (i := 21) rfl)) (hw _ (List.mem_of_getElem? (i := 20) rfl)) (hw _ (List.mem_of_getElem? (i := 4) rfl)) (hw _ (List.mem_of_getElem? (i := 22) rfl)) (by decide) pd3 (argsL := []) (rest := []) rfl (W := 0) (Nat.le_of_eq rfl) (rm := ({ frames := 0, cells := 0, slots := 0, locals := 0 } : Room)) (by decide) (by decide) (by decide) (by decide) (k' := 4) (n' := 29) rfl rfl (by rw [hml]; rfl) [(.ref a385)] rfl (hb hby at_214) (pc' := 217) rfl (rm3 l Z a0 hw a385 h425 n0 6 ra388 rb389 (((([(9223372036854775807 : Int64), (9223372036854775807 : Int64), (9223372036854775807 : Int64), (9223372036854775807 : Int64), (9223372036854775807 : Int64), (9223372036854775807 : Int64)].set pl0 q1).set pl1 q2).set pl2 q3).set pl3 q4) es419 (by decide) (by decide) hI4 ((a366, Own.ArrC Z .long ((((([(9223372036854775807 : Int64), (9223372036854775807 : Int64), (9223372036854775807 : Int64), (9223372036854775807 : Int64), (9223372036854775807 : Int64), (9223372036854775807 : Int64), (9223372036854775807 : Int64), (9223372036854775807 : Int64)].set pl0 q1).set pl1 q2).set pl2 q3).set pl3 q4).map Value.long)) :: []) O429) ?_
    rintro _ h' ⟨rfl, eh⟩
    rw [eh]; clear eh h'
    show Own.Goes _ _ _ _ _ _ _ _ _ _ _ _ _ _ _ _ _ (mkF m 217 #[.val (.int p0), .val (.long q1), .second, .val (.long q2), .second, .val (.long q3), .second, .val (.long q4), .second, .val (.int p5), .val (.int (6 : Int32)), .val (.ref a366), .val (.ref a385), .val (.int px0), .val (.int px1), .val (.int px2), .val (.int px3)] [(.long ((((([(9223372036854775807 : Int64), (9223372036854775807 : Int64), (9223372036854775807 : Int64), (9223372036854775807 : Int64), (9223372036854775807 : Int64), (9223372036854775807 : Int64)].set pl0 q1).set pl1 q2).set pl2 q3).set pl3 q4).getD (es419.getD 1 0) 0))])
    refine Own.aload hx (.ref a366) (hb hby at_217) rfl rfl rfl ?_
    have O430 : Own.Owns n0 h425 ((a366, Own.ArrC Z .long ((((([(9223372036854775807 : Int64), (9223372036854775807 : Int64), (9223372036854775807 : Int64), (9223372036854775807 : Int64), (9223372036854775807 : Int64), (9223372036854775807 : Int64), (9223372036854775807 : Int64), (9223372036854775807 : Int64)].set pl0 q1).set pl1 q2).set pl2 q3).set pl3 q4).map Value.long)) :: (a385, Own.ObjC Z "com/example/twigline/twigline/matcher/StreamHeads" [(("com/example/twigline/twigline/matcher/StreamHeads", "size", "I"), (.int (6 : Nat).toInt32)), (("com/example/twigline/twigline/matcher/StreamHeads", "starts", "[J"), (.ref ra388)), (("com/example/twigline/twigline/matcher/StreamHeads", "earliest", "[I"), (.ref rb389))]) :: (ra388, Own.ArrC Z .long ((((([(9223372036854775807 : Int64), (9223372036854775807 : Int64), (9223372036854775807 : Int64), (9223372036854775807 : Int64), (9223372036854775807 : Int64), (9223372036854775807 : Int64)].set pl0 q1).set pl1 q2).set pl2 q3).set pl3 q4).map Value.long)) :: (rb389, Own.ArrC Z .int (es419.map gI)) :: []) := O429.pick 3 rfl
    refine Own.callS hx hZ hown (hw _ (List.mem_of_getElem? (i := 37) rfl)) (hw _ (List.mem_of_getElem? (i := 38) rfl)) (hw _ (List.mem_of_getElem? (i := 39) rfl)) (hw _ (List.mem_of_getElem? (i := 40) rfl)) (by decide) pd5 (argsL := [(.ref a366)]) (rest := [(.long ((((([(9223372036854775807 : Int64), (9223372036854775807 : Int64), (9223372036854775807 : Int64), (9223372036854775807 : Int64), (9223372036854775807 : Int64), (9223372036854775807 : Int64)].set pl0 q1).set pl1 q2).set pl2 q3).set pl3 q4).getD (es419.getD 1 0) 0))]) rfl (W := 2) (Nat.le_of_eq rfl) (rm := ({ frames := 1, cells := 0, slots := 0, locals := 19 } : Room)) (by decide) (by decide) (by decide) (by decide) (k' := 4) (n' := 29) rfl rfl (by rw [hml]; rfl) [(.ref a366), (.long ((((([(9223372036854775807 : Int64), (9223372036854775807 : Int64), (9223372036854775807 : Int64), (9223372036854775807 : Int64), (9223372036854775807 : Int64), (9223372036854775807 : Int64)].set pl0 q1).set pl1 q2).set pl2 q3).set pl3 q4).getD (es419.getD 1 0) 0))] rfl (hb hby at_219) (pc' := 222) rfl (rm7 l Z a0 hw a366 h425 n0 (((([(9223372036854775807 : Int64), (9223372036854775807 : Int64), (9223372036854775807 : Int64), (9223372036854775807 : Int64), (9223372036854775807 : Int64), (9223372036854775807 : Int64), (9223372036854775807 : Int64), (9223372036854775807 : Int64)].set pl0 q1).set pl1 q2).set pl2 q3).set pl3 q4) hL4.2.1 ((a385, Own.ObjC Z "com/example/twigline/twigline/matcher/StreamHeads" [(("com/example/twigline/twigline/matcher/StreamHeads", "size", "I"), (.int (6 : Nat).toInt32)), (("com/example/twigline/twigline/matcher/StreamHeads", "starts", "[J"), (.ref ra388)), (("com/example/twigline/twigline/matcher/StreamHeads", "earliest", "[I"), (.ref rb389))]) :: (ra388, Own.ArrC Z .long ((((([(9223372036854775807 : Int64), (9223372036854775807 : Int64), (9223372036854775807 : Int64), (9223372036854775807 : Int64), (9223372036854775807 : Int64), (9223372036854775807 : Int64)].set pl0 q1).set pl1 q2).set pl2 q3).set pl3 q4).map Value.long)) :: (rb389, Own.ArrC Z .int (es419.map gI)) :: []) O430) ?_
    rintro _ h' ⟨rfl, eh⟩
    rw [eh]; clear eh h'
    show Own.Goes _ _ _ _ _ _ _ _ _ _ _ _ _ _ _ _ _ (mkF m 222 #[.val (.int p0), .val (.long q1), .second, .val (.long q2), .second, .val (.long q3), .second, .val (.long q4), .second, .val (.int p5), .val (.int (6 : Int32)), .val (.ref a366), .val (.ref a385), .val (.int px0), .val (.int px1), .val (.int px2), .val (.int px3)] [(.long (fMin8 (((([(9223372036854775807 : Int64), (9223372036854775807 : Int64), (9223372036854775807 : Int64), (9223372036854775807 : Int64), (9223372036854775807 : Int64), (9223372036854775807 : Int64), (9223372036854775807 : Int64), (9223372036854775807 : Int64)].set pl0 q1).set pl1 q2).set pl2 q3).set pl3 q4))), (.long ((((([(9223372036854775807 : Int64), (9223372036854775807 : Int64), (9223372036854775807 : Int64), (9223372036854775807 : Int64), (9223372036854775807 : Int64), (9223372036854775807 : Int64)].set pl0 q1).set pl1 q2).set pl2 q3).set pl3 q4).getD (es419.getD 1 0) 0))])
    refine Own.lcmp hx (hb hby at_222) rfl ?_
    have hc431 : ((((([(9223372036854775807 : Int64), (9223372036854775807 : Int64), (9223372036854775807 : Int64), (9223372036854775807 : Int64), (9223372036854775807 : Int64), (9223372036854775807 : Int64)].set pl0 q1).set pl1 q2).set pl2 q3).set pl3 q4).getD (es419.getD 1 0) 0) = (fMin8 (((([(9223372036854775807 : Int64), (9223372036854775807 : Int64), (9223372036854775807 : Int64), (9223372036854775807 : Int64), (9223372036854775807 : Int64), (9223372036854775807 : Int64), (9223372036854775807 : Int64), (9223372036854775807 : Int64)].set pl0 q1).set pl1 q2).set pl2 q3).set pl3 q4)) := like_min hL4 hI4 (by decide)
    refine Own.ifFn hx (Own.w_ne ((((([(9223372036854775807 : Int64), (9223372036854775807 : Int64), (9223372036854775807 : Int64), (9223372036854775807 : Int64), (9223372036854775807 : Int64), (9223372036854775807 : Int64)].set pl0 q1).set pl1 q2).set pl2 q3).set pl3 q4).getD (es419.getD 1 0) 0) (fMin8 (((([(9223372036854775807 : Int64), (9223372036854775807 : Int64), (9223372036854775807 : Int64), (9223372036854775807 : Int64), (9223372036854775807 : Int64), (9223372036854775807 : Int64), (9223372036854775807 : Int64), (9223372036854775807 : Int64)].set pl0 q1).set pl1 q2).set pl2 q3).set pl3 q4))) (hb hby at_223) (pcN := 226) rfl (by decide) (pcT := 230) rfl (fun q => absurd hc431 q) (fun _ => ?_)
    refine Own.iconst hx (1 : Int32) (hb hby at_226) rfl (by decide) ?_
    refine Own.goto hx (hb hby at_227) (by decide) (pc' := 231) rfl ?_
    exact Own.retS hx hret (by simp) hlk (hb hby at_231) (by decide) (by decide) (Own.bool1 rfl)
  · subst q
    refine Own.bipush hx (8 : Int32) (hb hby at_6) rfl (by decide) ?_
    refine Own.newarr hx hZ O0 (aty := .long) (hw _ (List.mem_of_getElem? (i := 0) rfl)) 8 (by decide) [(.long (0 : Int64)), (.long (0 : Int64)), (.long (0 : Int64)), (.long (0 : Int64)), (.long (0 : Int64)), (.long (0 : Int64)), (.long (0 : Int64)), (.long (0 : Int64))] rfl rfl (cap := 8) (by decide) (by decide) (k' := 1) (n' := 8) rfl rfl (by decide) (by decide) (hb hby at_8) (pc' := 10) rfl ?_
    intro a433 h434 O435
    refine Own.astore hx #[.val (.int p0), .val (.long q1), .second, .val (.long q2), .second, .val (.long q3), .second, .val (.long q4), .second, .val (.int p5), .val (.int (7 : Int32)), .val (.ref a433), .unset, .unset, .unset, .unset, .unset] (hb hby at_10) rfl rfl rfl ?_
    refine Own.aload hx (.ref a433) (hb hby at_12) rfl rfl rfl ?_
    refine Own.iconst hx (0 : Int32) (hb hby at_14) rfl (by decide) ?_
    refine Own.ldc2 hx hZ hown (9223372036854775807 : Int64) (hb hby at_15) rfl (hw _ (List.mem_of_getElem? (i := 1) rfl)) ?_
    refine Own.lastore hx hZ O435 0 0 rfl (by decide) (by exact (show 0 < 8 by decide)) ((a433, Own.ArrC Z .long [(.long (9223372036854775807 : Int64)), (.long (0 : Int64)), (.long (0 : Int64)), (.long (0 : Int64)), (.long (0 : Int64)), (.long (0 : Int64)), (.long (0 : Int64)), (.long (0 : Int64))]) :: []) rfl (hb hby at_18) rfl ?_
    intro h436 O437
    refine Own.aload hx (.ref a433) (hb hby at_19) rfl rfl rfl ?_
    refine Own.iconst hx (1 : Int32) (hb hby at_21) rfl (by decide) ?_
    refine Own.ldc2 hx hZ hown (9223372036854775807 : Int64) (hb hby at_22) rfl (hw _ (List.mem_of_getElem? (i := 1) rfl)) ?_
    refine Own.lastore hx hZ O437 0 1 rfl (by decide) (by exact (show 1 < 8 by decide)) ((a433, Own.ArrC Z .long [(.long (9223372036854775807 : Int64)), (.long (9223372036854775807 : Int64)), (.long (0 : Int64)), (.long (0 : Int64)), (.long (0 : Int64)), (.long (0 : Int64)), (.long (0 : Int64)), (.long (0 : Int64))]) :: []) rfl (hb hby at_25) rfl ?_
    intro h438 O439
    refine Own.aload hx (.ref a433) (hb hby at_26) rfl rfl rfl ?_
    refine Own.iconst hx (2 : Int32) (hb hby at_28) rfl (by decide) ?_
    refine Own.ldc2 hx hZ hown (9223372036854775807 : Int64) (hb hby at_29) rfl (hw _ (List.mem_of_getElem? (i := 1) rfl)) ?_
    refine Own.lastore hx hZ O439 0 2 rfl (by decide) (by exact (show 2 < 8 by decide)) ((a433, Own.ArrC Z .long [(.long (9223372036854775807 : Int64)), (.long (9223372036854775807 : Int64)), (.long (9223372036854775807 : Int64)), (.long (0 : Int64)), (.long (0 : Int64)), (.long (0 : Int64)), (.long (0 : Int64)), (.long (0 : Int64))]) :: []) rfl (hb hby at_32) rfl ?_
    intro h440 O441
    refine Own.aload hx (.ref a433) (hb hby at_33) rfl rfl rfl ?_
    refine Own.iconst hx (3 : Int32) (hb hby at_35) rfl (by decide) ?_
    refine Own.ldc2 hx hZ hown (9223372036854775807 : Int64) (hb hby at_36) rfl (hw _ (List.mem_of_getElem? (i := 1) rfl)) ?_
    refine Own.lastore hx hZ O441 0 3 rfl (by decide) (by exact (show 3 < 8 by decide)) ((a433, Own.ArrC Z .long [(.long (9223372036854775807 : Int64)), (.long (9223372036854775807 : Int64)), (.long (9223372036854775807 : Int64)), (.long (9223372036854775807 : Int64)), (.long (0 : Int64)), (.long (0 : Int64)), (.long (0 : Int64)), (.long (0 : Int64))]) :: []) rfl (hb hby at_39) rfl ?_
    intro h442 O443
    refine Own.aload hx (.ref a433) (hb hby at_40) rfl rfl rfl ?_
    refine Own.iconst hx (4 : Int32) (hb hby at_42) rfl (by decide) ?_
    refine Own.ldc2 hx hZ hown (9223372036854775807 : Int64) (hb hby at_43) rfl (hw _ (List.mem_of_getElem? (i := 1) rfl)) ?_
    refine Own.lastore hx hZ O443 0 4 rfl (by decide) (by exact (show 4 < 8 by decide)) ((a433, Own.ArrC Z .long [(.long (9223372036854775807 : Int64)), (.long (9223372036854775807 : Int64)), (.long (9223372036854775807 : Int64)), (.long (9223372036854775807 : Int64)), (.long (9223372036854775807 : Int64)), (.long (0 : Int64)), (.long (0 : Int64)), (.long (0 : Int64))]) :: []) rfl (hb hby at_46) rfl ?_
    intro h444 O445
    refine Own.aload hx (.ref a433) (hb hby at_47) rfl rfl rfl ?_
    refine Own.iconst hx (5 : Int32) (hb hby at_49) rfl (by decide) ?_
    refine Own.ldc2 hx hZ hown (9223372036854775807 : Int64) (hb hby at_50) rfl (hw _ (List.mem_of_getElem? (i := 1) rfl)) ?_
    refine Own.lastore hx hZ O445 0 5 rfl (by decide) (by exact (show 5 < 8 by decide)) ((a433, Own.ArrC Z .long [(.long (9223372036854775807 : Int64)), (.long (9223372036854775807 : Int64)), (.long (9223372036854775807 : Int64)), (.long (9223372036854775807 : Int64)), (.long (9223372036854775807 : Int64)), (.long (9223372036854775807 : Int64)), (.long (0 : Int64)), (.long (0 : Int64))]) :: []) rfl (hb hby at_53) rfl ?_
    intro h446 O447
    refine Own.aload hx (.ref a433) (hb hby at_54) rfl rfl rfl ?_
    refine Own.bipush hx (6 : Int32) (hb hby at_56) rfl (by decide) ?_
    refine Own.ldc2 hx hZ hown (9223372036854775807 : Int64) (hb hby at_58) rfl (hw _ (List.mem_of_getElem? (i := 1) rfl)) ?_
    refine Own.lastore hx hZ O447 0 6 rfl (by decide) (by exact (show 6 < 8 by decide)) ((a433, Own.ArrC Z .long [(.long (9223372036854775807 : Int64)), (.long (9223372036854775807 : Int64)), (.long (9223372036854775807 : Int64)), (.long (9223372036854775807 : Int64)), (.long (9223372036854775807 : Int64)), (.long (9223372036854775807 : Int64)), (.long (9223372036854775807 : Int64)), (.long (0 : Int64))]) :: []) rfl (hb hby at_61) rfl ?_
    intro h448 O449
    refine Own.aload hx (.ref a433) (hb hby at_62) rfl rfl rfl ?_
    refine Own.bipush hx (7 : Int32) (hb hby at_64) rfl (by decide) ?_
    refine Own.ldc2 hx hZ hown (9223372036854775807 : Int64) (hb hby at_66) rfl (hw _ (List.mem_of_getElem? (i := 1) rfl)) ?_
    refine Own.lastore hx hZ O449 0 7 rfl (by decide) (by exact (show 7 < 8 by decide)) ((a433, Own.ArrC Z .long [(.long (9223372036854775807 : Int64)), (.long (9223372036854775807 : Int64)), (.long (9223372036854775807 : Int64)), (.long (9223372036854775807 : Int64)), (.long (9223372036854775807 : Int64)), (.long (9223372036854775807 : Int64)), (.long (9223372036854775807 : Int64)), (.long (9223372036854775807 : Int64))]) :: []) rfl (hb hby at_69) rfl ?_
    intro h450 O451
    refine Own.newobj hx hZ hown O451 (hw _ (List.mem_of_getElem? (i := 2) rfl)) (hw _ (List.mem_of_getElem? (i := 3) rfl)) (hw _ (List.mem_of_getElem? (i := 4) rfl)) [(("com/example/twigline/twigline/matcher/StreamHeads", "size", "I"), (.int (0 : Int32))), (("com/example/twigline/twigline/matcher/StreamHeads", "starts", "[J"), .null), (("com/example/twigline/twigline/matcher/StreamHeads", "earliest", "[I"), .null)] (by intro f hf; simp only [List.mem_cons, List.not_mem_nil, or_false] at hf; rcases hf with rfl | rfl | rfl; exact ⟨Or.inr (hw _ (List.mem_of_getElem? (i := 12) rfl)), .int, by decide, rfl⟩; exact ⟨Or.inr (hw _ (List.mem_of_getElem? (i := 14) rfl)), (.array .long), by decide, rfl⟩; exact ⟨Or.inr (hw _ (List.mem_of_getElem? (i := 17) rfl)), (.array .int), by decide, rfl⟩) (by decide) (k' := 2) (n' := 11) rfl rfl (by decide) (by decide) (hb hby at_70) (pc' := 73) rfl ?_
    intro a452 h453 O454
    refine Own.dup hx (hb hby at_73) rfl rfl ?_
    refine Own.iload hx (7 : Int32) (hb hby at_74) rfl rfl ?_
    refine Own.callI hx hZ hown rfl (hw _ (List.mem_of_getElem? (i := 5) rfl)) (hw _ (List.mem_of_getElem? (i := 6) rfl)) (hw _ (List.mem_of_getElem? (i := 4) rfl)) (hw _ (List.mem_of_getElem? (i := 7) rfl)) (by decide) pd2 (argsL := [(.int (7 : Int32))]) (rest := [(.ref a452)]) rfl (W := 1) (Nat.le_of_eq rfl) (rm := ({ frames := 1, cells := 2, slots := 21, locals := 16 } : Room)) (by decide) (by decide) (by decide) (by decide) (k' := 4) (n' := 32) rfl rfl (by rw [hml]; rfl) [(.int (7 : Int32)), (.ref a452), (.ref a452)] rfl (hb hby at_76) (pc' := 79) rfl (rm1_7 l Z a0 hw a452 h453 n0 ((a433, Own.ArrC Z .long [(.long (9223372036854775807 : Int64)), (.long (9223372036854775807 : Int64)), (.long (9223372036854775807 : Int64)), (.long (9223372036854775807 : Int64)), (.long (9223372036854775807 : Int64)), (.long (9223372036854775807 : Int64)), (.long (9223372036854775807 : Int64)), (.long (9223372036854775807 : Int64))]) :: []) O454) ?_
    rintro _ h457 ⟨ra455, rb456, rfl, O458⟩
    show Own.Goes _ _ _ _ _ _ _ _ _ _ _ _ _ _ _ _ _ (mkF m 79 #[.val (.int p0), .val (.long q1), .second, .val (.long q2), .second, .val (.long q3), .second, .val (.long q4), .second, .val (.int p5), .val (.int (7 : Int32)), .val (.ref a433), .unset, .unset, .unset, .unset, .unset] [(.ref a452)])
    have O459 : Own.Owns n0 h457 ((a452, Own.ObjC Z "com/example/twigline/twigline/matcher/StreamHeads" [(("com/example/twigline/twigline/matcher/StreamHeads", "size", "I"), (.int (7 : Nat).toInt32)), (("com/example/twigline/twigline/matcher/StreamHeads", "starts", "[J"), (.ref ra455)), (("com/example/twigline/twigline/matcher/StreamHeads", "earliest", "[I"), (.ref rb456))]) :: (ra455, Own.ArrC Z .long ([(9223372036854775807 : Int64), (9223372036854775807 : Int64), (9223372036854775807 : Int64), (9223372036854775807 : Int64), (9223372036854775807 : Int64), (9223372036854775807 : Int64), (9223372036854775807 : Int64)].map Value.long)) :: (rb456, Own.ArrC Z .int ([0, 1, 1, 5, 1, 3, 5, 0, 1, 2, 3, 4, 5, 6].map gI)) :: (a433, Own.ArrC Z .long ([(9223372036854775807 : Int64), (9223372036854775807 : Int64), (9223372036854775807 : Int64), (9223372036854775807 : Int64), (9223372036854775807 : Int64), (9223372036854775807 : Int64), (9223372036854775807 : Int64), (9223372036854775807 : Int64)].map Value.long)) :: []) := O458
    have hI0 : InvT ([(9223372036854775807 : Int64), (9223372036854775807 : Int64), (9223372036854775807 : Int64), (9223372036854775807 : Int64), (9223372036854775807 : Int64), (9223372036854775807 : Int64), (9223372036854775807 : Int64)] : List Int64) [0, 1, 1, 5, 1, 3, 5, 0, 1, 2, 3, 4, 5, 6] 7 := inv_of (by decide +kernel)
    have hL0 : Like ([(9223372036854775807 : Int64), (9223372036854775807 : Int64), (9223372036854775807 : Int64), (9223372036854775807 : Int64), (9223372036854775807 : Int64), (9223372036854775807 : Int64), (9223372036854775807 : Int64)] : List Int64) [(9223372036854775807 : Int64), (9223372036854775807 : Int64), (9223372036854775807 : Int64), (9223372036854775807 : Int64), (9223372036854775807 : Int64), (9223372036854775807 : Int64), (9223372036854775807 : Int64), (9223372036854775807 : Int64)] 7 := ⟨rfl, rfl, by decide, by decide +kernel⟩
    refine Own.astore hx #[.val (.int p0), .val (.long q1), .second, .val (.long q2), .second, .val (.long q3), .second, .val (.long q4), .second, .val (.int p5), .val (.int (7 : Int32)), .val (.ref a433), .val (.ref a452), .unset, .unset, .unset, .unset] (hb hby at_79) rfl rfl rfl ?_
    refine Own.iload hx (7 : Int32) (hb hby at_81) rfl rfl ?_
    have hc460 : ¬ ((7 : Int32) = (0 : Int32)) := by decide
    refine Own.ifFn hx (Own.z_ne (7 : Int32)) (hb hby at_83) (pcN := 86) rfl (by decide) (pcT := 104) rfl (fun _ => ?_) (fun q => absurd q hc460)
    refine Own.iload hx p5 (hb hby at_104) rfl rfl ?_
    refine Own.bipush hx (7 : Int32) (hb hby at_106) rfl (by decide) ?_
    refine Own.iand hx (hb hby at_108) rfl ?_
    refine Own.iload hx (7 : Int32) (hb hby at_109) rfl rfl ?_
    refine Own.irem hx (hb hby at_111) rfl (by decide) ?_
    obtain ⟨px0, h_px0⟩ : ∃ z : Int32, z = ((p5 &&& (7 : Int32)) % (7 : Int32)) := ⟨_, rfl⟩
    refine Own.istore hx px0 h_px0 #[.val (.int p0), .val (.long q1), .second, .val (.long q2), .second, .val (.long q3), .second, .val (.long q4), .second, .val (.int p5), .val (.int (7 : Int32)), .val (.ref a433), .val (.ref a452), .val (.int px0), .unset, .unset, .unset] (hb hby at_112) rfl rfl ?_
    refine Own.iload hx p5 (hb hby at_114) rfl rfl ?_
    refine Own.iconst hx (3 : Int32) (hb hby at_116) rfl (by decide) ?_
    refine Own.iushr hx (hb hby at_117) rfl ?_
    refine Own.bipush hx (7 : Int32) (hb hby at_118) rfl (by decide) ?_
    refine Own.iand hx (hb hby at_120) rfl ?_
    refine Own.iload hx (7 : Int32) (hb hby at_121) rfl rfl ?_
    refine Own.irem hx (hb hby at_123) rfl (by decide) ?_
    obtain ⟨px1, h_px1⟩ : ∃ z : Int32, z = (((p5.toUInt32 >>> ((3 : Int32) &&& 31).toUInt32).toInt32 &&& (7 : Int32)) % (7 : Int32)) := ⟨_, rfl⟩
    refine Own.istore hx px1 h_px1 #[.val (.int p0), .val (.long q1), .second, .val (.long q2), .second, .val (.long q3), .second, .val (.long q4), .second, .val (.int p5), .val (.int (7 : Int32)), .val (.ref a433), .val (.ref a452), .val (.int px0), .val (.int px1), .unset, .unset] (hb hby at_124) rfl rfl ?_
    refine Own.iload hx p5 (hb hby at_126) rfl rfl ?_
    refine Own.bipush hx (6 : Int32) (hb hby at_128) rfl (by decide) ?_
    refine Own.iushr hx (hb hby at_130) rfl ?_
    refine Own.bipush hx (7 : Int32) (hb hby at_131) rfl (by decide) ?_
    refine Own.iand hx (hb hby at_133) rfl ?_
    refine Own.iload hx (7 : Int32) (hb hby at_134) rfl rfl ?_
    refine Own.irem hx (hb hby at_136) rfl (by decide) ?_
    obtain ⟨px2, h_px2⟩ : ∃ z : Int32, z = (((p5.toUInt32 >>> ((6 : Int32) &&& 31).toUInt32).toInt32 &&& (7 : Int32)) % (7 : Int32)) := ⟨_, rfl⟩
    refine Own.istore hx px2 h_px2 #[.val (.int p0), .val (.long q1), .second, .val (.long q2), .second, .val (.long q3), .second, .val (.long q4), .second, .val (.int p5), .val (.int (7 : Int32)), .val (.ref a433), .val (.ref a452), .val (.int px0), .val (.int px1), .val (.int px2), .unset] (hb hby at_137) rfl rfl ?_
    refine Own.iload hx p5 (hb hby at_139) rfl rfl ?_
    refine Own.bipush hx (9 : Int32) (hb hby at_141) rfl (by decide) ?_
    refine Own.iushr hx (hb hby at_143) rfl ?_
    refine Own.bipush hx (7 : Int32) (hb hby at_144) rfl (by decide) ?_
    refine Own.iand hx (hb hby at_146) rfl ?_
    refine Own.iload hx (7 : Int32) (hb hby at_147) rfl rfl ?_
    refine Own.irem hx (hb hby at_149) rfl (by decide) ?_
    obtain ⟨px3, h_px3⟩ : ∃ z : Int32, z = (((p5.toUInt32 >>> ((9 : Int32) &&& 31).toUInt32).toInt32 &&& (7 : Int32)) % (7 : Int32)) := ⟨_, rfl⟩
    refine Own.istore hx px3 h_px3 #[.val (.int p0), .val (.long q1), .second, .val (.long q2), .second, .val (.long q3), .second, .val (.long q4), .second, .val (.int p5), .val (.int (7 : Int32)), .val (.ref a433), .val (.ref a452), .val (.int px0), .val (.int px1), .val (.int px2), .val (.int px3)] (hb hby at_150) rfl rfl ?_
    obtain ⟨pl0, hpl0, hlt0⟩ := own_pl h_px0 (sz := 7) (by decide) (by decide)
    obtain ⟨pl1, hpl1, hlt1⟩ := own_pl h_px1 (sz := 7) (by decide) (by decide)
    obtain ⟨pl2, hpl2, hlt2⟩ := own_pl h_px2 (sz := 7) (by decide) (by decide)
    obtain ⟨pl3, hpl3, hlt3⟩ := own_pl h_px3 (sz := 7) (by decide) (by decide)
    refine Own.aload hx (.ref a452) (hb hby at_152) rfl rfl rfl ?_
    refine Own.iload hx px0 (hb hby at_154) rfl rfl ?_
    refine Own.lloadN hx q1 (hb hby at_156) rfl rfl ?_
    have O463 : Own.Owns n0 h457 ((rb456, Own.ArrC Z .int ([0, 1, 1, 5, 1, 3, 5, 0, 1, 2, 3, 4, 5, 6].map gI)) :: (a452, Own.ObjC Z "com/example/twigline/twigline/matcher/StreamHeads" [(("com/example/twigline/twigline/matcher/StreamHeads", "size", "I"), (.int (7 : Nat).toInt32)), (("com/example/twigline/twigline/matcher/StreamHeads", "starts", "[J"), (.ref ra455)), (("com/example/twigline/twigline/matcher/StreamHeads", "earliest", "[I"), (.ref rb456))]) :: (ra455, Own.ArrC Z .long ([(9223372036854775807 : Int64), (9223372036854775807 : Int64), (9223372036854775807 : Int64), (9223372036854775807 : Int64), (9223372036854775807 : Int64), (9223372036854775807 : Int64), (9223372036854775807 : Int64)].map Value.long)) :: (a433, Own.ArrC Z .long ([(9223372036854775807 : Int64), (9223372036854775807 : Int64), (9223372036854775807 : Int64), (9223372036854775807 : Int64), (9223372036854775807 : Int64), (9223372036854775807 : Int64), (9223372036854775807 : Int64), (9223372036854775807 : Int64)].map Value.long)) :: []) := O459.pick 2 rfl
    have O464 : Own.Owns n0 h457 ((ra455, Own.ArrC Z .long ([(9223372036854775807 : Int64), (9223372036854775807 : Int64), (9223372036854775807 : Int64), (9223372036854775807 : Int64), (9223372036854775807 : Int64), (9223372036854775807 : Int64), (9223372036854775807 : Int64)].map Value.long)) :: (rb456, Own.ArrC Z .int ([0, 1, 1, 5, 1, 3, 5, 0, 1, 2, 3, 4, 5, 6].map gI)) :: (a452, Own.ObjC Z "com/example/twigline/twigline/matcher/StreamHeads" [(("com/example/twigline/twigline/matcher/StreamHeads", "size", "I"), (.int (7 : Nat).toInt32)), (("com/example/twigline/twigline/matcher/StreamHeads", "starts", "[J"), (.ref ra455)), (("com/example/twigline/twigline/matcher/StreamHeads", "earliest", "[I"), (.ref rb456))]) :: (a433, Own.ArrC Z .long ([(9223372036854775807 : Int64), (9223372036854775807 : Int64), (9223372036854775807 : Int64), (9223372036854775807 : Int64), (9223372036854775807 : Int64), (9223372036854775807 : Int64), (9223372036854775807 : Int64), (9223372036854775807 : Int64)].map Value.long)) :: []) := O463.pick 2 rfl
    have O465 : Own.Owns n0 h457 ((a452, Own.ObjC Z "com/example/twigline/twigline/matcher/StreamHeads" [(("com/example/twigline/twigline/matcher/StreamHeads", "size", "I"), (.int (7 : Nat).toInt32)), (("com/example/twigline/twigline/matcher/StreamHeads", "starts", "[J"), (.ref ra455)), (("com/example/twigline/twigline/matcher/StreamHeads", "earliest", "[I"), (.ref rb456))]) :: (ra455, Own.ArrC Z .long ([(9223372036854775807 : Int64), (9223372036854775807 : Int64), (9223372036854775807 : Int64), (9223372036854775807 : Int64), (9223372036854775807 : Int64), (9223372036854775807 : Int64), (9223372036854775807 : Int64)].map Value.long)) :: (rb456, Own.ArrC Z .int ([0, 1, 1, 5, 1, 3, 5, 0, 1, 2, 3, 4, 5, 6].map gI)) :: (a433, Own.ArrC Z .long ([(9223372036854775807 : Int64), (9223372036854775807 : Int64), (9223372036854775807 : Int64), (9223372036854775807 : Int64), (9223372036854775807 : Int64), (9223372036854775807 : Int64), (9223372036854775807 : Int64), (9223372036854775807 : Int64)].map Value.long)) :: []) := O464.pick 2 rfl
    refine Own.callV hx hZ hown (O465.exa (i := 0) rfl) (hw _ (List.mem_of_getElem? (i := 28) rfl)) (hw _ (List.mem_of_getElem? (i := 29) rfl)) (hw _ (List.mem_of_getElem? (i := 31) rfl)) (hw _ (List.mem_of_getElem? (i := 30) rfl)) (hw _ (List.mem_of_getElem? (i := 4) rfl)) (hw _ (List.mem_of_getElem? (i := 32) rfl)) (by decide) pd4 (argsL := [(.int px0), (.long q1)]) (rest := []) rfl (W := 0) (Nat.le_of_eq rfl) (rm := ({ frames := 2, cells := 0, slots := 0, locals := 34 } : Room)) (by decide) (by decide) (by decide) (by decide) (k' := 4) (n' := 32) rfl rfl (by rw [hml]; rfl) [(.long q1), (.int px0), (.ref a452)] rfl (hb hby at_157) (pc' := 160) rfl (rm5 l Z a0 hw a452 px0 q1 h457 n0 pl0 7 ra455 rb456 [(9223372036854775807 : Int64), (9223372036854775807 : Int64), (9223372036854775807 : Int64), (9223372036854775807 : Int64), (9223372036854775807 : Int64), (9223372036854775807 : Int64), (9223372036854775807 : Int64)] [0, 1, 1, 5, 1, 3, 5, 0, 1, 2, 3, 4, 5, 6] (by decide) hpl0 hlt0 hI0 ((a433, Own.ArrC Z .long ([(9223372036854775807 : Int64), (9223372036854775807 : Int64), (9223372036854775807 : Int64), (9223372036854775807 : Int64), (9223372036854775807 : Int64), (9223372036854775807 : Int64), (9223372036854775807 : Int64), (9223372036854775807 : Int64)].map Value.long)) :: []) O465) ?_
    rintro _ h466 ⟨es462, rfl, hI1, O467⟩
    show Own.Goes _ _ _ _ _ _ _ _ _ _ _ _ _ _ _ _ _ (mkF m 160 #[.val (.int p0), .val (.long q1), .second, .val (.long q2), .second, .val (.long q3), .second, .val (.long q4), .second, .val (.int p5), .val (.int (7 : Int32)), .val (.ref a433), .val (.ref a452), .val (.int px0), .val (.int px1), .val (.int px2), .val (.int px3)] [])
    refine Own.aload hx (.ref a433) (hb hby at_160) rfl rfl rfl ?_
    refine Own.iload hx px0 (hb hby at_162) rfl rfl ?_
    refine Own.lloadN hx q1 (hb hby at_164) rfl rfl ?_
    have hL1 := like_set (x := q1) hL0 hlt0
    refine Own.lastore hx hZ O467 3 pl0 rfl hpl0 (by rw [List.length_map, hL0.2.1]; omega) ((a452, Own.ObjC Z "com/example/twigline/twigline/matcher/StreamHeads" [(("com/example/twigline/twigline/matcher/StreamHeads", "size", "I"), (.int (7 : Nat).toInt32)), (("com/example/twigline/twigline/matcher/StreamHeads", "starts", "[J"), (.ref ra455)), (("com/example/twigline/twigline/matcher/StreamHeads", "earliest", "[I"), (.ref rb456))]) :: (ra455, Own.ArrC Z .long (([(9223372036854775807 : Int64), (9223372036854775807 : Int64), (9223372036854775807 : Int64), (9223372036854775807 : Int64), (9223372036854775807 : Int64), (9223372036854775807 : Int64), (9223372036854775807 : Int64)].set pl0 q1).map Value.long)) :: (rb456, Own.ArrC Z .int (es462.map gI)) :: (a433, Own.ArrC Z .long (([(9223372036854775807 : Int64), (9223372036854775807 : Int64), (9223372036854775807 : Int64), (9223372036854775807 : Int64), (9223372036854775807 : Int64), (9223372036854775807 : Int64), (9223372036854775807 : Int64), (9223372036854775807 : Int64)].set pl0 q1).map Value.long)) :: []) (by rw [← show ([(9223372036854775807 : Int64), (9223372036854775807 : Int64), (9223372036854775807 : Int64), (9223372036854775807 : Int64), (9223372036854775807 : Int64), (9223372036854775807 : Int64), (9223372036854775807 : Int64), (9223372036854775807 : Int64)].map Value.long).set pl0 (Value.long q1) = (([(9223372036854775807 : Int64), (9223372036854775807 : Int64), (9223372036854775807 : Int64), (9223372036854775807 : Int64), (9223372036854775807 : Int64), (9223372036854775807 : Int64), (9223372036854775807 : Int64), (9223372036854775807 : Int64)].set pl0 q1).map Value.long) from (List.map_set).symm]; rfl) (hb hby at_165) rfl ?_
    intro h468 O469
    refine Own.aload hx (.ref a452) (hb hby at_166) rfl rfl rfl ?_
    refine Own.iload hx px1 (hb hby at_168) rfl rfl ?_
    refine Own.lloadN hx q2 (hb hby at_170) rfl rfl ?_
    have O471 : Own.Owns n0 h468 ((rb456, Own.ArrC Z .int (es462.map gI)) :: (a452, Own.ObjC Z "com/example/twigline/twigline/matcher/StreamHeads" [(("com/example/twigline/twigline/matcher/StreamHeads", "size", "I"), (.int (7 : Nat).toInt32)), (("com/example/twigline/twigline/matcher/StreamHeads", "starts", "[J"), (.ref ra455)), (("com/example/twigline/twigline/matcher/StreamHeads", "earliest", "[I"), (.ref rb456))]) :: (ra455, Own.ArrC Z .long (([(9223372036854775807 : Int64), (9223372036854775807 : Int64), (9223372036854775807 : Int64), (9223372036854775807 : Int64), (9223372036854775807 : Int64), (9223372036854775807 : Int64), (9223372036854775807 : Int64)].set pl0 q1).map Value.long)) :: (a433, Own.ArrC Z .long (([(9223372036854775807 : Int64), (9223372036854775807 : Int64), (9223372036854775807 : Int64), (9223372036854775807 : Int64), (9223372036854775807 : Int64), (9223372036854775807 : Int64), (9223372036854775807 : Int64), (9223372036854775807 : Int64)].set pl0 q1).map Value.long)) :: []) := O469.pick 2 rfl
    have O472 : Own.Owns n0 h468 ((ra455, Own.ArrC Z .long (([(9223372036854775807 : Int64), (9223372036854775807 : Int64), (9223372036854775807 : Int64), (9223372036854775807 : Int64), (9223372036854775807 : Int64), (9223372036854775807 : Int64), (9223372036854775807 : Int64)].set pl0 q1).map Value.long)) :: (rb456, Own.ArrC Z .int (es462.map gI)) :: (a452, Own.ObjC Z "com/example/twigline/twigline/matcher/StreamHeads" [(("com/example/twigline/twigline/matcher/StreamHeads", "size", "I"), (.int (7 : Nat).toInt32)), (("com/example/twigline/twigline/matcher/StreamHeads", "starts", "[J"), (.ref ra455)), (("com/example/twigline/twigline/matcher/StreamHeads", "earliest", "[I"), (.ref rb456))]) :: (a433, Own.ArrC Z .long (([(9223372036854775807 : Int64), (9223372036854775807 : Int64), (9223372036854775807 : Int64), (9223372036854775807 : Int64), (9223372036854775807 : Int64), (9223372036854775807 : Int64), (9223372036854775807 : Int64), (9223372036854775807 : Int64)].set pl0 q1).map Value.long)) :: []) := O471.pick 2 rfl
    have O473 : Own.Owns n0 h468 ((a452, Own.ObjC Z "com/example/twigline/twigline/matcher/StreamHeads" [(("com/example/twigline/twigline/matcher/StreamHeads", "size", "I"), (.int (7 : Nat).toInt32)), (("com/example/twigline/twigline/matcher/StreamHeads", "starts", "[J"), (.ref ra455)), (("com/example/twigline/twigline/matcher/StreamHeads", "earliest", "[I"), (.ref rb456))]) :: (ra455, Own.ArrC Z .long (([(9223372036854775807 : Int64), (9223372036854775807 : Int64), (9223372036854775807 : Int64), (9223372036854775807 : Int64), (9223372036854775807 : Int64), (9223372036854775807 : Int64), (9223372036854775807 : Int64)].set pl0 q1).map Value.long)) :: (rb456, Own.ArrC Z .int (es462.map gI)) :: (a433, Own.ArrC Z .long (([(9223372036854775807 : Int64), (9223372036854775807 : Int64), (9223372036854775807 : Int64), (9223372036854775807 : Int64), (9223372036854775807 : Int64), (9223372036854775807 : Int64), (9223372036854775807 : Int64), (9223372036854775807 : Int64)].set pl0 q1).map Value.long)) :: []) := O472.pick 2 rfl
    refine Own.callV hx hZ hown (O473.exa (i := 0) rfl) (hw _ (List.mem_of_getElem? (i := 28) rfl)) (hw _ (List.mem_of_getElem? (i := 29) rfl)) (hw _ (List.mem_of_getElem? (i := 31) rfl)) (hw _ (List.mem_of_getElem? (i := 30) rfl)) (hw _ (List.mem_of_getElem? (i := 4) rfl)) (hw _ (List.mem_of_getElem? (i := 32) rfl)) (by decide) pd4 (argsL := [(.int px1), (.long q2)]) (rest := []) rfl (W := 0) (Nat.le_of_eq rfl) (rm := ({ frames := 2, cells := 0, slots := 0, locals := 34 } : Room)) (by decide) (by decide) (by decide) (by decide) (k' := 4) (n' := 32) rfl rfl (by rw [hml]; rfl) [(.long q2), (.int px1), (.ref a452)] rfl (hb hby at_171) (pc' := 174) rfl (rm5 l Z a0 hw a452 px1 q2 h468 n0 pl1 7 ra455 rb456 ([(9223372036854775807 : Int64), (9223372036854775807 : Int64), (9223372036854775807 : Int64), (9223372036854775807 : Int64), (9223372036854775807 : Int64), (9223372036854775807 : Int64), (9223372036854775807 : Int64)].set pl0 q1) es462 (by decide) hpl1 hlt1 hI1 ((a433, Own.ArrC Z .long (([(9223372036854775807 : Int64), (9223372036854775807 : Int64), (9223372036854775807 : Int64), (9223372036854775807 : Int64), (9223372036854775807 : Int64), (9223372036854775807 : Int64), (9223372036854775807 : Int64), (9223372036854775807 : Int64)].set pl0 q1).map Value.long)) :: []) O473) ?_
    rintro _ h474 ⟨es470, rfl, hI2, O475⟩
    show Own.Goes _ _ _ _ _ _ _ _ _ _ _ _ _ _ _ _ _ (mkF m 174 #[.val (.int p0), .val (.long q1), .second, .val (.long q2), .second, .val (.long q3), .second, .val (.long q4), .second, .val (.int p5), .val (.int (7 : Int32)), .val (.ref a433), .val (.ref a452), .val (.int px0), .val (.int px1), .val (.int px2), .val (.int px3)] [])
    refine Own.aload hx (.ref a433) (hb hby at_174) rfl rfl rfl ?_
    refine Own.iload hx px1 (hb hby at_176) rfl rfl ?_
    refine Own.lloadN hx q2 (hb hby at_178) rfl rfl ?_
    have hL2 := like_set (x := q2) hL1 hlt1
    refine Own.lastore hx hZ O475 3 pl1 rfl hpl1 (by rw [List.length_map, hL1.2.1]; omega) ((a452, Own.ObjC Z "com/example/twigline/twigline/matcher/StreamHeads" [(("com/example/twigline/twigline/matcher/StreamHeads", "size", "I"), (.int (7 : Nat).toInt32)), (("com/example/twigline/twigline/matcher/StreamHeads", "starts", "[J"), (.ref ra455)), (("com/example/twigline/twigline/matcher/StreamHeads", "earliest", "[I"), (.ref rb456))]) :: (ra455, Own.ArrC Z .long ((([(9223372036854775807 : Int64), (9223372036854775807 : Int64), (9223372036854775807 : Int64), (9223372036854775807 : Int64), (9223372036854775807 : Int64), (9223372036854775807 : Int64), (9223372036854775807 : Int64)].set pl0 q1).set pl1 q2).map Value.long)) :: (rb456, Own.ArrC Z .int (es470.map gI)) :: (a433, Own.ArrC Z .long ((([(9223372036854775807 : Int64), (9223372036854775807 : Int64), (9223372036854775807 : Int64), (9223372036854775807 : Int64), (9223372036854775807 : Int64), (9223372036854775807 : Int64), (9223372036854775807 : Int64), (9223372036854775807 : Int64)].set pl0 q1).set pl1 q2).map Value.long)) :: []) (by rw [← show (([(9223372036854775807 : Int64), (9223372036854775807 : Int64), (9223372036854775807 : Int64), (9223372036854775807 : Int64), (9223372036854775807 : Int64), (9223372036854775807 : Int64), (9223372036854775807 : Int64), (9223372036854775807 : Int64)].set pl0 q1).map Value.long).set pl1 (Value.long q2) = ((([(9223372036854775807 : Int64), (9223372036854775807 : Int64), (9223372036854775807 : Int64), (9223372036854775807 : Int64), (9223372036854775807 : Int64), (9223372036854775807 : Int64), (9223372036854775807 : Int64), (9223372036854775807 : Int64)].set pl0 q1).set pl1 q2).map Value.long) from (List.map_set).symm]; rfl) (hb hby at_179) rfl ?_
    intro h476 O477
    refine Own.aload hx (.ref a452) (hb hby at_180) rfl rfl rfl ?_
    refine Own.iload hx px2 (hb hby at_182) rfl rfl ?_
    refine Own.lload hx q3 (hb hby at_184) rfl rfl ?_
    have O479 : Own.Owns n0 h476 ((rb456, Own.ArrC Z .int (es470.map gI)) :: (a452, Own.ObjC Z "com/example/twigline/twigline/matcher/StreamHeads" [(("com/example/twigline/twigline/matcher/StreamHeads", "size", "I"), (.int (7 : Nat).toInt32)), (("com/example/twigline/twigline/matcher/StreamHeads", "starts", "[J"), (.ref ra455)), (("com/example/twigline/twigline/matcher/StreamHeads", "earliest", "[I"), (.ref rb456))]) :: (ra455, Own.ArrC Z .long ((([(9223372036854775807 : Int64), (9223372036854775807 : Int64), (9223372036854775807 : Int64), (9223372036854775807 : Int64), (9223372036854775807 : Int64), (9223372036854775807 : Int64), (9223372036854775807 : Int64)].set pl0 q1).set pl1 q2).map Value.long)) :: (a433, Own.ArrC Z .long ((([(9223372036854775807 : Int64), (9223372036854775807 : Int64), (9223372036854775807 : Int64), (9223372036854775807 : Int64), (9223372036854775807 : Int64), (9223372036854775807 : Int64), (9223372036854775807 : Int64), (9223372036854775807 : Int64)].set pl0 q1).set pl1 q2).map Value.long)) :: []) := O477.pick 2 rfl
    have O480 : Own.Owns n0 h476 ((ra455, Own.ArrC Z .long ((([(9223372036854775807 : Int64), (9223372036854775807 : Int64), (9223372036854775807 : Int64), (9223372036854775807 : Int64), (9223372036854775807 : Int64), (9223372036854775807 : Int64), (9223372036854775807 : Int64)].set pl0 q1).set pl1 q2).map Value.long)) :: (rb456, Own.ArrC Z .int (es470.map gI)) :: (a452, Own.ObjC Z "com/example/twigline/twigline/matcher/StreamHeads" [(("com/example/twigline/twigline/matcher/StreamHeads", "size", "I"), (.int (7 : Nat).toInt32)), (("com/example/twigline/twigline/matcher/StreamHeads", "starts", "[J"), (.ref ra455)), (("com/example/twigline/twigline/matcher/StreamHeads", "earliest", "[I"), (.ref rb456))]) :: (a433, Own.ArrC Z .long ((([(9223372036854775807 : Int64), (9223372036854775807 : Int64), (9223372036854775807 : Int64), (9223372036854775807 : Int64), (9223372036854775807 : Int64), (9223372036854775807 : Int64), (9223372036854775807 : Int64), (9223372036854775807 : Int64)].set pl0 q1).set pl1 q2).map Value.long)) :: []) := O479.pick 2 rfl
    have O481 : Own.Owns n0 h476 ((a452, Own.ObjC Z "com/example/twigline/twigline/matcher/StreamHeads" [(("com/example/twigline/twigline/matcher/StreamHeads", "size", "I"), (.int (7 : Nat).toInt32)), (("com/example/twigline/twigline/matcher/StreamHeads", "starts", "[J"), (.ref ra455)), (("com/example/twigline/twigline/matcher/StreamHeads", "earliest", "[I"), (.ref rb456))]) :: (ra455, Own.ArrC Z .long ((([(9223372036854775807 : Int64), (9223372036854775807 : Int64), (9223372036854775807 : Int64), (9223372036854775807 : Int64), (9223372036854775807 : Int64), (9223372036854775807 : Int64), (9223372036854775807 : Int64)].set pl0 q1).set pl1 q2).map Value.long)) :: (rb456, Own.ArrC Z .int (es470.map gI)) :: (a433, Own.ArrC Z .long ((([(9223372036854775807 : Int64), (9223372036854775807 : Int64), (9223372036854775807 : Int64), (9223372036854775807 : Int64), (9223372036854775807 : Int64), (9223372036854775807 : Int64), (9223372036854775807 : Int64), (9223372036854775807 : Int64)].set pl0 q1).set pl1 q2).map Value.long)) :: []) := O480.pick 2 rfl
    refine Own.callV hx hZ hown (O481.exa (i := 0) rfl) (hw _ (List.mem_of_getElem? (i := 28) rfl)) (hw _ (List.mem_of_getElem? (i := 29) rfl)) (hw _ (List.mem_of_getElem? (i := 31) rfl)) (hw _ (List.mem_of_getElem? (i := 30) rfl)) (hw _ (List.mem_of_getElem? (i := 4) rfl)) (hw _ (List.mem_of_getElem? (i := 32) rfl)) (by decide) pd4 (argsL := [(.int px2), (.long q3)]) (rest := []) rfl (W := 0) (Nat.le_of_eq rfl) (rm := ({ frames := 2, cells := 0, slots := 0, locals := 34 } : Room)) (by decide) (by decide) (by decide) (by decide) (k' := 4) (n' := 32) rfl rfl (by rw [hml]; rfl) [(.long q3), (.int px2), (.ref a452)] rfl (hb hby at_186) (pc' := 189) rfl (rm5 l Z a0 hw a452 px2 q3 h476 n0 pl2 7 ra455 rb456 (([(9223372036854775807 : Int64), (9223372036854775807 : Int64), (9223372036854775807 : Int64), (9223372036854775807 : Int64), (9223372036854775807 : Int64), (9223372036854775807 : Int64), (9223372036854775807 : Int64)].set pl0 q1).set pl1 q2) es470 (by decide) hpl2 hlt2 hI2 ((a433, Own.ArrC Z .long ((([(9223372036854775807 : Int64), (9223372036854775807 : Int64), (9223372036854775807 : Int64), (9223372036854775807 : Int64), (9223372036854775807 : Int64), (9223372036854775807 : Int64), (9223372036854775807 : Int64), (9223372036854775807 : Int64)].set pl0 q1).set pl1 q2).map Value.long)) :: []) O481) ?_
    rintro _ h482 ⟨es478, rfl, hI3, O483⟩
    show Own.Goes _ _ _ _ _ _ _ _ _ _ _ _ _ _ _ _ _ (mkF m 189 #[.val (.int p0), .val (.long q1), .second, .val (.long q2), .second, .val (.long q3), .second, .val (.long q4), .second, .val (.int p5), .val (.int (7 : Int32)), .val (.ref a433), .val (.ref a452), .val (.int px0), .val (.int px1), .val (.int px2), .val (.int px3)] [])
    refine Own.aload hx (.ref a433) (hb hby at_189) rfl rfl rfl ?_
    refine Own.iload hx px2 (hb hby at_191) rfl rfl ?_
    refine Own.lload hx q3 (hb hby at_193) rfl rfl ?_
    have hL3 := like_set (x := q3) hL2 hlt2
    refine Own.lastore hx hZ O483 3 pl2 rfl hpl2 (by rw [List.length_map, hL2.2.1]; omega) ((a452, Own.ObjC Z "com/example/twigline/twigline/matcher/StreamHeads" [(("com/example/twigline/twigline/matcher/StreamHeads", "size", "I"), (.int (7 : Nat).toInt32)), (("com/example/twigline/twigline/matcher/StreamHeads", "starts", "[J"), (.ref ra455)), (("com/example/twigline/twigline/matcher/StreamHeads", "earliest", "[I"), (.ref rb456))]) :: (ra455, Own.ArrC Z .long (((([(9223372036854775807 : Int64), (9223372036854775807 : Int64), (9223372036854775807 : Int64), (9223372036854775807 : Int64), (9223372036854775807 : Int64), (9223372036854775807 : Int64), (9223372036854775807 : Int64)].set pl0 q1).set pl1 q2).set pl2 q3).map Value.long)) :: (rb456, Own.ArrC Z .int (es478.map gI)) :: (a433, Own.ArrC Z .long (((([(9223372036854775807 : Int64), (9223372036854775807 : Int64), (9223372036854775807 : Int64), (9223372036854775807 : Int64), (9223372036854775807 : Int64), (9223372036854775807 : Int64), (9223372036854775807 : Int64), (9223372036854775807 : Int64)].set pl0 q1).set pl1 q2).set pl2 q3).map Value.long)) :: []) (by rw [← show ((([(9223372036854775807 : Int64), (9223372036854775807 : Int64), (9223372036854775807 : Int64), (9223372036854775807 : Int64), (9223372036854775807 : Int64), (9223372036854775807 : Int64), (9223372036854775807 : Int64), (9223372036854775807 : Int64)].set pl0 q1).set pl1 q2).map Value.long).set pl2 (Value.long q3) = (((([(9223372036854775807 : Int64), (9223372036854775807 : Int64), (9223372036854775807 : Int64), (9223372036854775807 : Int64), (9223372036854775807 : Int64), (9223372036854775807 : Int64), (9223372036854775807 : Int64), (9223372036854775807 : Int64)].set pl0 q1).set pl1 q2).set pl2 q3).map Value.long) from (List.map_set).symm]; rfl) (hb hby at_195) rfl ?_
    intro h484 O485
    refine Own.aload hx (.ref a452) (hb hby at_196) rfl rfl rfl ?_
    refine Own.iload hx px3 (hb hby at_198) rfl rfl ?_
    refine Own.lload hx q4 (hb hby at_200) rfl rfl ?_
    have O487 : Own.Owns n0 h484 ((rb456, Own.ArrC Z .int (es478.map gI)) :: (a452, Own.ObjC Z "com/example/twigline/twigline/matcher/StreamHeads" [(("com/example/twigline/twigline/matcher/StreamHeads", "size", "I"), (.int (7 : Nat).toInt32)), (("com/example/twigline/twigline/matcher/StreamHeads", "starts", "[J"), (.ref ra455)), (("com/example/twigline/twigline/matcher/StreamHeads", "earliest", "[I"), (.ref rb456))]) :: (ra455, Own.ArrC Z .long (((([(9223372036854775807 : Int64), (9223372036854775807 : Int64), (9223372036854775807 : Int64), (9223372036854775807 : Int64), (9223372036854775807 : Int64), (9223372036854775807 : Int64), (9223372036854775807 : Int64)].set pl0 q1).set pl1 q2).set pl2 q3).map Value.long)) :: (a433, Own.ArrC Z .long (((([(9223372036854775807 : Int64), (9223372036854775807 : Int64), (9223372036854775807 : Int64), (9223372036854775807 : Int64), (9223372036854775807 : Int64), (9223372036854775807 : Int64), (9223372036854775807 : Int64), (9223372036854775807 : Int64)].set pl0 q1).set pl1 q2).set pl2 q3).map Value.long)) :: []) := O485.pick 2 rfl
    have O488 : Own.Owns n0 h484 ((ra455, Own.ArrC Z .long (((([(9223372036854775807 : Int64), (9223372036854775807 : Int64), (9223372036854775807 : Int64), (9223372036854775807 : Int64), (9223372036854775807 : Int64), (9223372036854775807 : Int64), (9223372036854775807 : Int64)].set pl0 q1).set pl1 q2).set pl2 q3).map Value.long)) :: (rb456, Own.ArrC Z .int (es478.map gI)) :: (a452, Own.ObjC Z "com/example/twigline/twigline/matcher/StreamHeads" [(("com/example/twigline/twigline/matcher/StreamHeads", "size", "I"), (.int (7 : Nat).toInt32)), (("com/example/twigline/twigline/matcher/StreamHeads", "starts", "[J"), (.ref ra455)), (("com/example/twigline/twigline/matcher/StreamHeads", "earliest", "[I"), (.ref rb456))]) :: (a433, Own.ArrC Z .long (((([(9223372036854775807 : Int64), (9223372036854775807 : Int64), (9223372036854775807 : Int64), (9223372036854775807 : Int64), (9223372036854775807 : Int64), (9223372036854775807 : Int64), (9223372036854775807 : Int64), (9223372036854775807 : Int64)].set pl0 q1).set pl1 q2).set pl2 q3).map Value.long)) :: []) := O487.pick 2 rfl
    have O489 : Own.Owns n0 h484 ((a452, Own.ObjC Z "com/example/twigline/twigline/matcher/StreamHeads" [(("com/example/twigline/twigline/matcher/StreamHeads", "size", "I"), (.int (7 : Nat).toInt32)), (("com/example/twigline/twigline/matcher/StreamHeads", "starts", "[J"), (.ref ra455)), (("com/example/twigline/twigline/matcher/StreamHeads", "earliest", "[I"), (.ref rb456))]) :: (ra455, Own.ArrC Z .long (((([(9223372036854775807 : Int64), (9223372036854775807 : Int64), (9223372036854775807 : Int64), (9223372036854775807 : Int64), (9223372036854775807 : Int64), (9223372036854775807 : Int64), (9223372036854775807 : Int64)].set pl0 q1).set pl1 q2).set pl2 q3).map Value.long)) :: (rb456, Own.ArrC Z .int (es478.map gI)) :: (a433, Own.ArrC Z .long (((([(9223372036854775807 : Int64), (9223372036854775807 : Int64), (9223372036854775807 : Int64), (9223372036854775807 : Int64), (9223372036854775807 : Int64), (9223372036854775807 : Int64), (9223372036854775807 : Int64), (9223372036854775807 : Int64)].set pl0 q1).set pl1 q2).set pl2 q3).map Value.long)) :: []) := O488.pick 2 rfl
    refine Own.callV hx hZ hown (O489.exa (i := 0) rfl) (hw _ (List.mem_of_getElem? (i := 28) rfl)) (hw _ (List.mem_of_getElem? (i := 29) rfl)) (hw _ (List.mem_of_getElem? (i := 31) rfl)) (hw _ (List.mem_of_getElem? (i := 30) rfl)) (hw _ (List.mem_of_getElem? (i := 4) rfl)) (hw _ (List.mem_of_getElem? (i := 32) rfl)) (by decide) pd4 (argsL := [(.int px3), (.long q4)]) (rest := []) rfl (W := 0) (Nat.le_of_eq rfl) (rm := ({ frames := 2, cells := 0, slots := 0, locals := 34 } : Room)) (by decide) (by decide) (by decide) (by decide) (k' := 4) (n' := 32) rfl rfl (by rw [hml]; rfl) [(.long q4), (.int px3), (.ref a452)] rfl (hb hby at_202) (pc' := 205) rfl (rm5 l Z a0 hw a452 px3 q4 h484 n0 pl3 7 ra455 rb456 ((([(9223372036854775807 : Int64), (9223372036854775807 : Int64), (9223372036854775807 : Int64), (9223372036854775807 : Int64), (9223372036854775807 : Int64), (9223372036854775807 : Int64), (9223372036854775807 : Int64)].set pl0 q1).set pl1 q2).set pl2 q3) es478 (by decide) hpl3 hlt3 hI3 ((a433, Own.ArrC Z .long (((([(9223372036854775807 : Int64), (9223372036854775807 : Int64), (9223372036854775807 : Int64), (9223372036854775807 : Int64), (9223372036854775807 : Int64), (9223372036854775807 : Int64), (9223372036854775807 : Int64), (9223372036854775807 : Int64)].set pl0 q1).set pl1 q2).set pl2 q3).map Value.long)) :: []) O489) ?_
    rintro _ h490 ⟨es486, rfl, hI4, O491⟩
    show Own.Goes _ _ _ _ _ _ _ _ _ _ _ _ _ _ _ _ _ (mkF m 205 #[.val (.int p0), .val (.long q1), .second, .val (.long q2), .second, .val (.long q3), .second, .val (.long q4), .second, .val (.int p5), .val (.int (7 : Int32)), .val (.ref a433), .val (.ref a452), .val (.int px0), .val (.int px1), .val (.int px2), .val (.int px3)] [])
    refine Own.aload hx (.ref a433) (hb hby at_205) rfl rfl rfl ?_
    refine Own.iload hx px3 (hb hby at_207) rfl rfl ?_
    refine Own.lload hx q4 (hb hby at_209) rfl rfl ?_
    have hL4 := like_set (x := q4) hL3 hlt3
    refine Own.lastore hx hZ O491 3 pl3 rfl hpl3 (by rw [List.length_map, hL3.2.1]; omega) ((a452, Own.ObjC Z "com/example/twigline/twigline/matcher/StreamHeads" [(("com/example/twigline/twigline/matcher/StreamHeads", "size", "I"), (.int (7 : Nat).toInt32)), (("com/example/twigline/twigline/matcher/StreamHeads", "starts", "[J"), (.ref ra455)), (("com/example/twigline/twigline/matcher/StreamHeads", "earliest", "[I"), (.ref rb456))]) :: (ra455, Own.ArrC Z .long ((((([(9223372036854775807 : Int64), (9223372036854775807 : Int64), (9223372036854775807 : Int64), (9223372036854775807 : Int64), (9223372036854775807 : Int64), (9223372036854775807 : Int64), (9223372036854775807 : Int64)].set pl0 q1).set pl1 q2).set pl2 q3).set pl3 q4).map Value.long)) :: (rb456, Own.ArrC Z .int (es486.map gI)) :: (a433, Own.ArrC Z .long ((((([(9223372036854775807 : Int64), (9223372036854775807 : Int64), (9223372036854775807 : Int64), (9223372036854775807 : Int64), (9223372036854775807 : Int64), (9223372036854775807 : Int64), (9223372036854775807 : Int64), (9223372036854775807 : Int64)].set pl0 q1).set pl1 q2).set pl2 q3).set pl3 q4).map Value.long)) :: []) (by rw [← show (((([(9223372036854775807 : Int64), (9223372036854775807 : Int64), (9223372036854775807 : Int64), (9223372036854775807 : Int64), (9223372036854775807 : Int64), (9223372036854775807 : Int64), (9223372036854775807 : Int64), (9223372036854775807 : Int64)].set pl0 q1).set pl1 q2).set pl2 q3).map Value.long).set pl3 (Value.long q4) = ((((([(9223372036854775807 : Int64), (9223372036854775807 : Int64), (9223372036854775807 : Int64), (9223372036854775807 : Int64), (9223372036854775807 : Int64), (9223372036854775807 : Int64), (9223372036854775807 : Int64), (9223372036854775807 : Int64)].set pl0 q1).set pl1 q2).set pl2 q3).set pl3 q4).map Value.long) from (List.map_set).symm]; rfl) (hb hby at_211) rfl ?_
    intro h492 O493
    refine Own.aload hx (.ref a452) (hb hby at_212) rfl rfl rfl ?_
    have O494 : Own.Owns n0 h492 ((rb456, Own.ArrC Z .int (es486.map gI)) :: (a452, Own.ObjC Z "com/example/twigline/twigline/matcher/StreamHeads" [(("com/example/twigline/twigline/matcher/StreamHeads", "size", "I"), (.int (7 : Nat).toInt32)), (("com/example/twigline/twigline/matcher/StreamHeads", "starts", "[J"), (.ref ra455)), (("com/example/twigline/twigline/matcher/StreamHeads", "earliest", "[I"), (.ref rb456))]) :: (ra455, Own.ArrC Z .long ((((([(9223372036854775807 : Int64), (9223372036854775807 : Int64), (9223372036854775807 : Int64), (9223372036854775807 : Int64), (9223372036854775807 : Int64), (9223372036854775807 : Int64), (9223372036854775807 : Int64)].set pl0 q1).set pl1 q2).set pl2 q3).set pl3 q4).map Value.long)) :: (a433, Own.ArrC Z .long ((((([(9223372036854775807 : Int64), (9223372036854775807 : Int64), (9223372036854775807 : Int64), (9223372036854775807 : Int64), (9223372036854775807 : Int64), (9223372036854775807 : Int64), (9223372036854775807 : Int64), (9223372036854775807 : Int64)].set pl0 q1).set pl1 q2).set pl2 q3).set pl3 q4).map Value.long)) :: []) := O493.pick 2 rfl
    have O495 : Own.Owns n0 h492 ((ra455, Own.ArrC Z .long ((((([(9223372036854775807 : Int64), (9223372036854775807 : Int64), (9223372036854775807 : Int64), (9223372036854775807 : Int64), (9223372036854775807 : Int64), (9223372036854775807 : Int64), (9223372036854775807 : Int64)].set pl0 q1).set pl1 q2).set pl2 q3).set pl3 q4).map Value.long)) :: (rb456, Own.ArrC Z .int (es486.map gI)) :: (a452, Own.ObjC Z "com/example/twigline/twigline/matcher/StreamHeads" [(("com/example/twigline/twigline/matcher/StreamHeads", "size", "I"), (.int (7 : Nat).toInt32)), (("com/example/twigline/twigline/matcher/StreamHeads", "starts", "[J"), (.ref ra455)), (("com/example/twigline/twigline/matcher/StreamHeads", "earliest", "[I"), (.ref rb456))]) :: (a433, Own.ArrC Z .long ((((([(9223372036854775807 : Int64), (9223372036854775807 : Int64), (9223372036854775807 : Int64), (9223372036854775807 : Int64), (9223372036854775807 : Int64), (9223372036854775807 : Int64), (9223372036854775807 : Int64), (9223372036854775807 : Int64)].set pl0 q1).set pl1 q2).set pl2 q3).set pl3 q4).map Value.long)) :: []) := O494.pick 2 rfl
    have O496 : Own.Owns n0 h492 ((a452, Own.ObjC Z "com/example/twigline/twigline/matcher/StreamHeads" [(("com/example/twigline/twigline/matcher/StreamHeads", "size", "I"), (.int (7 : Nat).toInt32)), (("com/example/twigline/twigline/matcher/StreamHeads", "starts", "[J"), (.ref ra455)), (("com/example/twigline/twigline/matcher/StreamHeads", "earliest", "[I"), (.ref rb456))]) :: (ra455, Own.ArrC Z .long ((((([(9223372036854775807 : Int64), (9223372036854775807 : Int64), (9223372036854775807 : Int64), (9223372036854775807 : Int64), (9223372036854775807 : Int64), (9223372036854775807 : Int64), (9223372036854775807 : Int64)].set pl0 q1).set pl1 q2).set pl2 q3).set pl3 q4).map Value.long)) :: (rb456, Own.ArrC Z .int (es486.map gI)) :: (a433, Own.ArrC Z .long ((((([(9223372036854775807 : Int64), (9223372036854775807 : Int64), (9223372036854775807 : Int64), (9223372036854775807 : Int64), (9223372036854775807 : Int64), (9223372036854775807 : Int64), (9223372036854775807 : Int64), (9223372036854775807 : Int64)].set pl0 q1).set pl1 q2).set pl2 q3).set pl3 q4).map Value.long)) :: []) := O495.pick 2 rfl
    refine Own.callV hx hZ hown (O496.exa (i := 0) rfl) (hw _ (List.mem_of_getElem? (i := 18) rfl)) (hw _ (List.mem_of_getElem? (i := 19) rfl)) (hw _ (List.mem_of_getElem? (i := 21) rfl)) (hw _ (List.mem_of_getElem? (i := 20) rfl)) (hw _ (List.mem_of_getElem? (i := 4) rfl)) (hw _ (List.mem_of_getElem? (i := 22) rfl)) (by decide) pd3 (argsL := []) (rest := []) rfl (W := 0) (Nat.le_of_eq rfl) (rm := ({ frames := 0, cells := 0, slots := 0, locals := 0 } : Room)) (by decide) (by decide) (by decide) (by decide) (k' := 4) (n' := 32) rfl rfl (by rw [hml]; rfl) [(.ref a452)] rfl (hb hby at_214) (pc' := 217) rfl (rm3 l Z a0 hw a452 h492 n0 7 ra455 rb456 (((([(9223372036854775807 : Int64), (9223372036854775807 : Int64), (9223372036854775807 : Int64), (9223372036854775807 : Int64), (9223372036854775807 : Int64), (9223372036854775807 : Int64), (9223372036854775807 : Int64)].set pl0 q1).set pl1 q2).set pl2 q3).set pl3 q4) es486 (by decide) (by decide) hI4 ((a433, Own.ArrC Z .long ((((([(9223372036854775807 : Int64), (9223372036854775807 : Int64), (9223372036854775807 : Int64), (9223372036854775807 : Int64), (9223372036854775807 : Int64), (9223372036854775807 : Int64), (9223372036854775807 : Int64), (9223372036854775807 : Int64)].set pl0 q1).set pl1 q2).set pl2 q3).set pl3 q4).map Value.long)) :: []) O496) ?_
    rintro _ h' ⟨rfl, eh⟩
    rw [eh]; clear eh h'
    show Own.Goes _ _ _ _ _ _ _ _ _ _ _ _ _ _ _ _ _ (mkF m 217 #[.val (.int p0), .val (.long q1), .second, .val (.long q2), .second, .val (.long q3), .second, .val (.long q4), .second, .val (.int p5), .val (.int (7 : Int32)), .val (.ref a433), .val (.ref a452), .val (.int px0), .val (.int px1), .val (.int px2), .val (.int px3)] [(.long ((((([(9223372036854775807 : Int64), (9223372036854775807 : Int64), (9223372036854775807 : Int64), (9223372036854775807 : Int64), (9223372036854775807 : Int64), (9223372036854775807 : Int64), (9223372036854775807 : Int64)].set pl0 q1).set pl1 q2).set pl2 q3).set pl3 q4).getD (es486.getD 1 0) 0))])
    refine Own.aload hx (.ref a433) (hb hby at_217) rfl rfl rfl ?_
    have O497 : Own.Owns n0 h492 ((a433, Own.ArrC Z .long ((((([(9223372036854775807 : Int64), (9223372036854775807 : Int64), (9223372036854775807 : Int64), (9223372036854775807 : Int64), (9223372036854775807 : Int64), (9223372036854775807 : Int64), (9223372036854775807 : Int64), (9223372036854775807 : Int64)].set pl0 q1).set pl1 q2).set pl2 q3).set pl3 q4).map Value.long)) :: (a452, Own.ObjC Z "com/example/twigline/twigline/matcher/StreamHeads" [(("com/example/twigline/twigline/matcher/StreamHeads", "size", "I"), (.int (7 : Nat).toInt32)), (("com/example/twigline/twigline/matcher/StreamHeads", "starts", "[J"), (.ref ra455)), (("com/example/twigline/twigline/matcher/StreamHeads", "earliest", "[I"), (.ref rb456))]) :: (ra455, Own.ArrC Z .long ((((([(9223372036854775807 : Int64), (9223372036854775807 : Int64), (9223372036854775807 : Int64), (9223372036854775807 : Int64), (9223372036854775807 : Int64), (9223372036854775807 : Int64), (9223372036854775807 : Int64)].set pl0 q1).set pl1 q2).set pl2 q3).set pl3 q4).map Value.long)) :: (rb456, Own.ArrC Z .int (es486.map gI)) :: []) := O496.pick 3 rfl
    refine Own.callS hx hZ hown (hw _ (List.mem_of_getElem? (i := 37) rfl)) (hw _ (List.mem_of_getElem? (i := 38) rfl)) (hw _ (List.mem_of_getElem? (i := 39) rfl)) (hw _ (List.mem_of_getElem? (i := 40) rfl)) (by decide) pd5 (argsL := [(.ref a433)]) (rest := [(.long ((((([(9223372036854775807 : Int64), (9223372036854775807 : Int64), (9223372036854775807 : Int64), (9223372036854775807 : Int64), (9223372036854775807 : Int64), (9223372036854775807 : Int64), (9223372036854775807 : Int64)].set pl0 q1).set pl1 q2).set pl2 q3).set pl3 q4).getD (es486.getD 1 0) 0))]) rfl (W := 2) (Nat.le_of_eq rfl) (rm := ({ frames := 1, cells := 0, slots := 0, locals := 19 } : Room)) (by decide) (by decide) (by decide) (by decide) (k' := 4) (n' := 32) rfl rfl (by rw [hml]; rfl) [(.ref a433), (.long ((((([(9223372036854775807 : Int64), (9223372036854775807 : Int64), (9223372036854775807 : Int64), (9223372036854775807 : Int64), (9223372036854775807 : Int64), (9223372036854775807 : Int64), (9223372036854775807 : Int64)].set pl0 q1).set pl1 q2).set pl2 q3).set pl3 q4).getD (es486.getD 1 0) 0))] rfl (hb hby at_219) (pc' := 222) rfl (rm7 l Z a0 hw a433 h492 n0 (((([(9223372036854775807 : Int64), (9223372036854775807 : Int64), (9223372036854775807 : Int64), (9223372036854775807 : Int64), (9223372036854775807 : Int64), (9223372036854775807 : Int64), (9223372036854775807 : Int64), (9223372036854775807 : Int64)].set pl0 q1).set pl1 q2).set pl2 q3).set pl3 q4) hL4.2.1 ((a452, Own.ObjC Z "com/example/twigline/twigline/matcher/StreamHeads" [(("com/example/twigline/twigline/matcher/StreamHeads", "size", "I"), (.int (7 : Nat).toInt32)), (("com/example/twigline/twigline/matcher/StreamHeads", "starts", "[J"), (.ref ra455)), (("com/example/twigline/twigline/matcher/StreamHeads", "earliest", "[I"), (.ref rb456))]) :: (ra455, Own.ArrC Z .long ((((([(9223372036854775807 : Int64), (9223372036854775807 : Int64), (9223372036854775807 : Int64), (9223372036854775807 : Int64), (9223372036854775807 : Int64), (9223372036854775807 : Int64), (9223372036854775807 : Int64)].set pl0 q1).set pl1 q2).set pl2 q3).set pl3 q4).map Value.long)) :: (rb456, Own.ArrC Z .int (es486.map gI)) :: []) O497) ?_
    rintro _ h' ⟨rfl, eh⟩
    rw [eh]; clear eh h'
    show Own.Goes _ _ _ _ _ _ _ _ _ _ _ _ _ _ _ _ _ (mkF m 222 #[.val (.int p0), .val (.long q1), .second, .val (.long q2), .second, .val (.long q3), .second, .val (.long q4), .second, .val (.int p5), .val (.int (7 : Int32)), .val (.ref a433), .val (.ref a452), .val (.int px0), .val (.int px1), .val (.int px2), .val (.int px3)] [(.long (fMin8 (((([(9223372036854775807 : Int64), (9223372036854775807 : Int64), (9223372036854775807 : Int64), (9223372036854775807 : Int64), (9223372036854775807 : Int64), (9223372036854775807 : Int64), (9223372036854775807 : Int64), (9223372036854775807 : Int64)].set pl0 q1).set pl1 q2).set pl2 q3).set pl3 q4))), (.long ((((([(9223372036854775807 : Int64), (9223372036854775807 : Int64), (9223372036854775807 : Int64), (9223372036854775807 : Int64), (9223372036854775807 : Int64), (9223372036854775807 : Int64), (9223372036854775807 : Int64)].set pl0 q1).set pl1 q2).set pl2 q3).set pl3 q4).getD (es486.getD 1 0) 0))])
    refine Own.lcmp hx (hb hby at_222) rfl ?_
    have hc498 : ((((([(9223372036854775807 : Int64), (9223372036854775807 : Int64), (9223372036854775807 : Int64), (9223372036854775807 : Int64), (9223372036854775807 : Int64), (9223372036854775807 : Int64), (9223372036854775807 : Int64)].set pl0 q1).set pl1 q2).set pl2 q3).set pl3 q4).getD (es486.getD 1 0) 0) = (fMin8 (((([(9223372036854775807 : Int64), (9223372036854775807 : Int64), (9223372036854775807 : Int64), (9223372036854775807 : Int64), (9223372036854775807 : Int64), (9223372036854775807 : Int64), (9223372036854775807 : Int64), (9223372036854775807 : Int64)].set pl0 q1).set pl1 q2).set pl2 q3).set pl3 q4)) := like_min hL4 hI4 (by decide)
    refine Own.ifFn hx (Own.w_ne ((((([(9223372036854775807 : Int64), (9223372036854775807 : Int64), (9223372036854775807 : Int64), (9223372036854775807 : Int64), (9223372036854775807 : Int64), (9223372036854775807 : Int64), (9223372036854775807 : Int64)].set pl0 q1).set pl1 q2).set pl2 q3).set pl3 q4).getD (es486.getD 1 0) 0) (fMin8 (((([(9223372036854775807 : Int64), (9223372036854775807 : Int64), (9223372036854775807 : Int64), (9223372036854775807 : Int64), (9223372036854775807 : Int64), (9223372036854775807 : Int64), (9223372036854775807 : Int64), (9223372036854775807 : Int64)].set pl0 q1).set pl1 q2).set pl2 q3).set pl3 q4))) (hb hby at_223) (pcN := 226) rfl (by decide) (pcT := 230) rfl (fun q => absurd hc498 q) (fun _ => ?_)
    refine Own.iconst hx (1 : Int32) (hb hby at_226) rfl (by decide) ?_
    refine Own.goto hx (hb hby at_227) (by decide) (pc' := 231) rfl ?_
    exact Own.retS hx hret (by simp) hlk (hb hby at_231) (by decide) (by decide) (Own.bool1 rfl)

set_option maxRecDepth 65536 in
set_option maxHeartbeats 40000000 in
theorem comes_1 {Post : Tables → Env → Array Value → State → Outcome → State → Prop} (hpost : ∀ tb e args s v u, (limb_1_1.after args s (.returned v) u = true ∧ limb_1_2.after args s (.returned v) u = true ∧ True) → FrameEnd s (.returned v) u (Jvm.fieldLocs frame_1_writes args s ++ Jvm.arrayLocs frame_1_arrays args s ++ Jvm.staticLocs frame_1_statics s) 16 128 → Post tb e args s (.returned v) u) :
    ArmFor flags0 classFile x code maxLocals ret World_1 tables_1 room_1 Calls_1 rest_1 Pre_1 Post := by
  intro l hfl _ _ p e ha hc hk s m args below hf hA hF happ hP
  obtain ⟨hcalls, hrest, hpre⟩ := hP
  obtain ⟨-, -, -, hnamed, -, -, -, hat⟩ := (Spec.applies_iff hf).mp happ
  obtain ⟨hg, hn⟩ := and_e (Cond.before_iff.mp (show (Jvm.Cond.and given_1 narrow_1).before args s = true from hpre))
  obtain ⟨h1, g0⟩ := and_e hg
  obtain ⟨q0, g1⟩ := and_e g0
  obtain ⟨q1, g2⟩ := and_e g1
  obtain ⟨q2, g3⟩ := and_e g2
  obtain ⟨q3, g4⟩ := and_e g3
  obtain ⟨q4, g5⟩ := and_e g4
  have q5 := g5
  obtain ⟨w0, w1, w2, w3, w4, w5, rfl⟩ : ∃ w0 w1 w2 w3 w4 w5 : Value, args = #[w0, w1, w2, w3, w4, w5] := by
    have hs : args.size = 6 := by simpa [Cond.value, given_1] using h1
    obtain ⟨L⟩ := args
    match L, hs with
    | [w0, w1, w2, w3, w4, w5], _ => exact ⟨w0, w1, w2, w3, w4, w5, rfl⟩
  have hw := fun d (hd : d ∈ tables_1) => atoms_spec (ws := Jvm.Cond.code x code maxLocals ret :: tables_1) hat d (List.mem_cons_of_mem _ hd)
  obtain ⟨i0, e0⟩ := is_v q0
  obtain rfl : w0 = (.int i0) := Option.some.inj e0
  obtain ⟨i1, e1⟩ := isL_v q1
  obtain rfl : w1 = (.long i1) := Option.some.inj e1
  obtain ⟨i2, e2⟩ := isL_v q2
  obtain rfl : w2 = (.long i2) := Option.some.inj e2
  obtain ⟨i3, e3⟩ := isL_v q3
  obtain rfl : w3 = (.long i3) := Option.some.inj e3
  obtain ⟨i4, e4⟩ := isL_v q4
  obtain rfl : w4 = (.long i4) := Option.some.inj e4
  obtain ⟨i5, e5⟩ := is_v q5
  obtain rfl : w5 = (.int i5) := Option.some.inj e5
  obtain ⟨n, o, h1, h2, h3, _, L, rfl, ⟨rfl, N⟩, hq⟩ := rm0 l s _ hw i0 i1 i2 i3 i4 i5 s.heap s.heap.size (Own.Owns.nil (Nat.le_refl _)) p e ha hc hk s m _ below hf ((Spec.applies_iff_loose hf).mp happ).1 ⟨rfl, State.Warmed39.refl s, rfl⟩ trivial
  refine ⟨n, _, h1, h2, h3, hpost _ _ _ _ _ _ ⟨Cond.after_iff.mpr rfl, Cond.after_iff.mpr (eq_i res_at (Term.int_eval (1)) rfl), trivial⟩ ⟨hq.1, hq.2.1, (hq.2.2.sift fun y hy => Or.inr (N y hy)).mono (by decide) (by decide)⟩⟩
theorem main_1_1 : Claimed_1_1 := comes_1 fun _ _ _ _ _ _ h hF => ⟨h.1, hF⟩
theorem main_1_2 : Claimed_1_2 := comes_1 fun _ _ _ _ _ _ h hF => ⟨h.2.1, hF⟩
end Jvm.Pilot.@@N@@
namespace Jvm.Pilot.@@N@@
open Jvm Jvm.ClassFile Sem Op Lib Jvm.Free Jvm.Stand Jvm.Pilot.@@N@@.Jvm.D
/-! MADE BY PROGRAM (witnessworld.py) out of the Statement's table words and the real class files: 12 classes; the members and pool entries that the words name. The judged class is class 1, her method 2. -/
namespace start1
open Jvm.ClassFile
def u (s : String) : CpInfo := .utf8 (stringToUtf16 s)
/-- a pool by its gaps: so many unusable entries, then the entry; so many at the end -/
def gap : Nat → List CpInfo → List CpInfo
  | 0, r => r
  | n + 1, r => .unusable :: gap n r
def poolList (es : List (Nat × CpInfo)) (last : Nat) : List CpInfo := es.foldr (fun e r => gap e.1 (e.2 :: r)) (gap last [])
def pool (es : List (Nat × CpInfo)) (last : Nat) : Array CpInfo := ⟨poolList es last⟩
def fileOf (pool : Array CpInfo) (this : Nat) (attrs : Array Attribute := #[]) (ms : Array MethodInfo := #[]) (fl : Nat := 33) (sup : Nat := 0) (ifs : Array Nat := #[]) (fds : Array FieldInfo := #[]) : ClassFile where
  minorVersion := 0
  majorVersion := 65
  constantPool := pool
  accessFlags := fl
  thisClass := this
  superClass := sup
  interfaces := ifs
  fields := fds
  methods := ms
  attributes := attrs
def plain (name : String) (sup : Option ClassId) : Class where
  name := name
  kind := .ordinary
  loader := none
  accessFlags := 33
  super := sup
  interfaces := #[]
  cf := none
  fields := #[]
  methods := #[]
  instanceTypes := #[]
  staticTypes := #[]
  resolved := #[]
  callSites := []
  init := .initialized
  statics := none
  mirror := none

def pool0 : Array CpInfo := pool [(5, u "<init>"), (0, u "()V"), (1, .class_ 10), (1, u "java/lang/Object")] 113

def k0c0 : Code := { maxStack := 0, maxLocals := 1, code := object_method_1_code, exceptionTable := #[], attributes := #[] }
def k0m0 : Method := { name := "<init>", desc := "()V", sig := { parameters := [], returnType := none }, accessFlags := 1, code := some k0c0 }
/-- java/lang/Object -/
def k0 : Class := { plain "java/lang/Object" none with
  accessFlags := 33
  interfaces := #[]
  cf := some (fileOf pool0 8 #[] #[{ accessFlags := 1, nameIndex := 5, descriptorIndex := 6, attributes := #[] }] 33 0 #[] #[])
  fields := #[]
  methods := #[k0m0]
  instanceTypes := #[]
  staticTypes := #[]
  resolved := Array.replicate 124 none
  statics := none }

def pool1 : Array CpInfo := pool [(2, .class_ 4), (1, u "java/lang/Object"), (0, u "<init>"), (0, u "()V"), (0, .methodref 8 9), (0, .class_ 10), (0, .nameAndType 11 12), (0, u "java/lang/Math"), (0, u "min"), (0, u "(JJ)J"), (2, .long 9223372036854775807), (1, .class_ 18), (0, u "com/example/twigline/twigline/matcher/StreamHeads"), (0, .methodref 17 20), (0, .nameAndType 5 21), (0, u "(I)V"), (0, .methodref 17 23), (0, .nameAndType 24 25), (0, u "earliestStart"), (0, u "()J"), (0, .methodref 17 27), (0, .nameAndType 28 29), (0, u "set"), (0, u "(IJ)V"), (0, .methodref 31 32), (0, .class_ 33), (0, .nameAndType 34 35), (0, u "com/example/twigline/twigline/matcher/StreamHeadsEarliestStartPinLaw"), (0, u "min8"), (0, u "([J)J"), (2, u "law"), (0, u "(IJJJJI)Z")] 5

def k1m0 : Method := { name := "<init>", desc := "()V", sig := { parameters := [], returnType := none }, accessFlags := 1, code := none }
def k1c1 : Code := { maxStack := 6, maxLocals := 5, code := method_2_code, exceptionTable := #[], attributes := #[] }
def k1m1 : Method := { name := "min8", desc := "([J)J", sig := { parameters := [(.array .long)], returnType := some .long }, accessFlags := 10, code := some k1c1 }
def k1c2 : Code := { maxStack := 4, maxLocals := 17, code := code, exceptionTable := #[], attributes := #[] }
def k1m2 : Method := { name := "law", desc := "(IJJJJI)Z", sig := { parameters := [.int, .long, .long, .long, .long, .int], returnType := some .boolean }, accessFlags := 9, code := some k1c2 }
/-- com/example/twigline/twigline/matcher/StreamHeadsEarliestStartPinLaw -/
def k1 : Class := { plain "com/example/twigline/twigline/matcher/StreamHeadsEarliestStartPinLaw" (some 0) with
  accessFlags := 49
  interfaces := #[]
  cf := some (fileOf pool1 31 #[] #[{ accessFlags := 1, nameIndex := 5, descriptorIndex := 6, attributes := #[] }, { accessFlags := 10, nameIndex := 34, descriptorIndex := 35, attributes := #[] }, { accessFlags := 9, nameIndex := 38, descriptorIndex := 39, attributes := #[] }] 49 2 #[] #[])
  fields := #[]
  methods := #[k1m0, k1m1, k1m2]
  instanceTypes := #[]
  staticTypes := #[]
  resolved := Array.replicate 45 none
  statics := none }

def pool2 : Array CpInfo := pool [(3, .methodref 4 5), (0, .class_ 6), (0, .nameAndType 7 8), (0, u "java/lang/Object"), (0, u "<init>"), (0, u "()V"), (0, .fieldref 10 11), (0, .class_ 12), (0, .nameAndType 13 14), (0, u "com/example/twigline/twigline/matcher/StreamHeads"), (0, u "size"), (0, u "I"), (0, .fieldref 10 16), (0, .nameAndType 17 18), (0, u "starts"), (0, u "[J"), (0, .fieldref 10 20), (0, .nameAndType 21 22), (0, u "earliest"), (0, u "[I"), (0, .long 9223372036854775807), (1, .methodref 10 26), (0, .nameAndType 27 28), (0, u "earlier"), (0, u "(II)I"), (0, .methodref 10 30), (0, .nameAndType 31 32), (0, u "replay"), (0, u "(I)V"), (6, u "END"), (0, u "J"), (1, u "NONE"), (6, u "set"), (0, u "(IJ)V"), (0, u "earliestStart"), (0, u "()J")] 2

def k2c0 : Code := { maxStack := 7, maxLocals := 3, code := prog_27_method_1_code, exceptionTable := #[], attributes := #[] }
def k2m0 : Method := { name := "<init>", desc := "(I)V", sig := { parameters := [.int], returnType := none }, accessFlags := 0, code := some k2c0 }
def k2c1 : Code := { maxStack := 4, maxLocals := 4, code := prog_27_method_3_code, exceptionTable := #[], attributes := #[] }
def k2m1 : Method := { name := "set", desc := "(IJ)V", sig := { parameters := [.int, .long], returnType := none }, accessFlags := 0, code := some k2c1 }
def k2c2 : Code := { maxStack := 7, maxLocals := 3, code := prog_27_method_4_code, exceptionTable := #[], attributes := #[] }
def k2m2 : Method := { name := "replay", desc := "(I)V", sig := { parameters := [.int], returnType := none }, accessFlags := 2, code := some k2c2 }
def k2c3 : Code := { maxStack := 3, maxLocals := 1, code := prog_27_method_7_code, exceptionTable := #[], attributes := #[] }
def k2m3 : Method := { name := "earliestStart", desc := "()J", sig := { parameters := [], returnType := some .long }, accessFlags := 0, code := some k2c3 }
def k2c4 : Code := { maxStack := 4, maxLocals := 3, code := prog_27_method_8_code, exceptionTable := #[], attributes := #[] }
def k2m4 : Method := { name := "earlier", desc := "(II)I", sig := { parameters := [.int, .int], returnType := some .int }, accessFlags := 2, code := some k2c4 }
/-- com/example/twigline/twigline/matcher/StreamHeads -/
def k2 : Class := { plain "com/example/twigline/twigline/matcher/StreamHeads" (some 0) with
  accessFlags := 48
  interfaces := #[]
  cf := some (fileOf pool2 10 #[] #[{ accessFlags := 0, nameIndex := 7, descriptorIndex := 32, attributes := #[] }, { accessFlags := 0, nameIndex := 49, descriptorIndex := 50, attributes := #[] }, { accessFlags := 2, nameIndex := 31, descriptorIndex := 32, attributes := #[] }, { accessFlags := 0, nameIndex := 51, descriptorIndex := 52, attributes := #[] }, { accessFlags := 2, nameIndex := 27, descriptorIndex := 28, attributes := #[] }] 48 4 #[] #[{ accessFlags := 24, nameIndex := 39, descriptorIndex := 40, attributes := #[] }, { accessFlags := 24, nameIndex := 42, descriptorIndex := 14, attributes := #[] }, { accessFlags := 18, nameIndex := 13, descriptorIndex := 14, attributes := #[] }, { accessFlags := 18, nameIndex := 17, descriptorIndex := 18, attributes := #[] }, { accessFlags := 18, nameIndex := 21, descriptorIndex := 22, attributes := #[] }])
  fields := #[{ name := "END", type := .long, accessFlags := 24, slot := 0, constantValue := 0 }, { name := "NONE", type := .int, accessFlags := 24, slot := 1, constantValue := 0 }, { name := "size", type := .int, accessFlags := 18, slot := 0, constantValue := 0 }, { name := "starts", type := (.array .long), accessFlags := 18, slot := 1, constantValue := 0 }, { name := "earliest", type := (.array .int), accessFlags := 18, slot := 2, constantValue := 0 }]
  methods := #[k2m0, k2m1, k2m2, k2m3, k2m4]
  instanceTypes := #[.int, (.array .long), (.array .int)]
  staticTypes := #[.long, .int]
  resolved := Array.replicate 55 none
  statics := none }

def pool3 : Array CpInfo := pool [(1, .class_ 2), (0, u "java/lang/Math"), (1, .class_ 6), (1, u "java/lang/Object"), (0, u "<init>"), (0, u "()V"), (89, .class_ 100), (1, u "java/lang/Math$RandomNumberGeneratorHolder"), (20, u "(JJ)J"), (50, u "negativeZeroFloatBits"), (0, u "J"), (2, u "negativeZeroDoubleBits"), (24, u "min"), (43, u "$assertionsDisabled"), (0, u "Z"), (91, u "twoToTheDoubleScaleDown"), (0, u "D"), (4, u "twoToTheDoubleScaleUp"), (9, u "E"), (3, u "PI"), (2, u "TAU"), (2, u "DEGREES_TO_RADIANS"), (0, u "RADIANS_TO_DEGREES")] 94

def k3m0 : Method := { name := "<init>", desc := "()V", sig := { parameters := [], returnType := none }, accessFlags := 2, code := none }
def k3c1 : Code := { maxStack := 4, maxLocals := 4, code := jdk_29_method_70_code, exceptionTable := #[], attributes := #[] }
def k3m1 : Method := { name := "min", desc := "(JJ)J", sig := { parameters := [.long, .long], returnType := some .long }, accessFlags := 9, code := some k3c1 }
/-- java/lang/Math -/
def k3 : Class := { plain "java/lang/Math" (some 0) with
  accessFlags := 49
  interfaces := #[]
  cf := some (fileOf pool3 1 #[.nestMembers #[98]] #[{ accessFlags := 2, nameIndex := 7, descriptorIndex := 8, attributes := #[] }, { accessFlags := 9, nameIndex := 201, descriptorIndex := 121, attributes := #[] }] 49 4 #[] #[{ accessFlags := 25, nameIndex := 354, descriptorIndex := 339, attributes := #[] }, { accessFlags := 25, nameIndex := 358, descriptorIndex := 339, attributes := #[] }, { accessFlags := 25, nameIndex := 361, descriptorIndex := 339, attributes := #[] }, { accessFlags := 26, nameIndex := 364, descriptorIndex := 339, attributes := #[] }, { accessFlags := 26, nameIndex := 365, descriptorIndex := 339, attributes := #[] }, { accessFlags := 26, nameIndex := 172, descriptorIndex := 173, attributes := #[] }, { accessFlags := 26, nameIndex := 176, descriptorIndex := 173, attributes := #[] }, { accessFlags := 8, nameIndex := 344, descriptorIndex := 339, attributes := #[] }, { accessFlags := 8, nameIndex := 338, descriptorIndex := 339, attributes := #[] }, { accessFlags := 4120, nameIndex := 245, descriptorIndex := 246, attributes := #[] }])
  fields := #[{ name := "E", type := .double, accessFlags := 25, slot := 0, constantValue := 0 }, { name := "PI", type := .double, accessFlags := 25, slot := 1, constantValue := 0 }, { name := "TAU", type := .double, accessFlags := 25, slot := 2, constantValue := 0 }, { name := "DEGREES_TO_RADIANS", type := .double, accessFlags := 26, slot := 3, constantValue := 0 }, { name := "RADIANS_TO_DEGREES", type := .double, accessFlags := 26, slot := 4, constantValue := 0 }, { name := "negativeZeroFloatBits", type := .long, accessFlags := 26, slot := 5, constantValue := 0 }, { name := "negativeZeroDoubleBits", type := .long, accessFlags := 26, slot := 6, constantValue := 0 }, { name := "twoToTheDoubleScaleUp", type := .double, accessFlags := 8, slot := 7, constantValue := 0 }, { name := "twoToTheDoubleScaleDown", type := .double, accessFlags := 8, slot := 8, constantValue := 0 }, { name := "$assertionsDisabled", type := .boolean, accessFlags := 4120, slot := 9, constantValue := 0 }]
  methods := #[k3m0, k3m1]
  instanceTypes := #[]
  staticTypes := #[.double, .double, .double, .double, .double, .long, .long, .double, .double, .boolean]
  resolved := Array.replicate 460 none
  statics := none }

def pool4 : Array CpInfo := pool [(1, u "java/lang/Cloneable"), (0, .class_ 1), (0, u "java/lang/Object"), (0, .class_ 3)] 3

/-- java/lang/Cloneable -/
def k4 : Class := { plain "java/lang/Cloneable" (some 0) with
  accessFlags := 1537
  interfaces := #[]
  cf := some (fileOf pool4 2 #[] #[] 1537 4 #[] #[])
  fields := #[]
  methods := #[]
  instanceTypes := #[]
  staticTypes := #[]
  resolved := Array.replicate 8 none
  statics := none }

def pool5 : Array CpInfo := pool [(1, u "java/io/Serializable"), (0, .class_ 1), (0, u "java/lang/Object"), (0, .class_ 3)] 3

/-- java/io/Serializable -/
def k5 : Class := { plain "java/io/Serializable" (some 0) with
  accessFlags := 1537
  interfaces := #[]
  cf := some (fileOf pool5 2 #[] #[] 1537 4 #[] #[])
  fields := #[]
  methods := #[]
  instanceTypes := #[]
  staticTypes := #[]
  resolved := Array.replicate 8 none
  statics := none }

/-- the primitive byte -/
def k6 : Class := { plain "byte" none with kind := .primitive 'B', accessFlags := 0x411 }
/-- [B -/
def k7 : Class := { plain "[B" (some 0) with kind := .array 6 .byte, interfaces := #[4, 5], accessFlags := 1041 }

/-- the primitive int -/
def k8 : Class := { plain "int" none with kind := .primitive 'I', accessFlags := 0x411 }
/-- [I -/
def k9 : Class := { plain "[I" (some 0) with kind := .array 8 .int, interfaces := #[4, 5], accessFlags := 1041 }

/-- the primitive long -/
def k10 : Class := { plain "long" none with kind := .primitive 'J', accessFlags := 0x411 }
/-- [J -/
def k11 : Class := { plain "[J" (some 0) with kind := .array 10 .long, interfaces := #[4, 5], accessFlags := 1041 }

def heap : Heap := #[]
def classes : Array Class := #[k0, k1, k2, k3, k4, k5, k6, k7, k8, k9, k10, k11]
def interned : List (Array UInt16 × Addr) := []
def slotsUsed : Nat := 0
def theMethod : MethodId := ⟨1, 2⟩
def args0 : Array Value := #[.int 5, .long 7, .long 9, .long 11, .long 3, .int 300]
def aboutOver (below : List Frame) : State where
  vm := { classes := classes, interned := interned.toArray }
  heap := heap
  slotsUsed := slotsUsed
  threads := #[{ frames := .invoking theMethod args0 :: below }]
def below0 : List Frame := [.native { method := ⟨0, 0⟩, args := #[] }]
def about1 : State := aboutOver below0
def p0 : Program := .bare "" "" ""
def e0 : Env := launch0.env 0 0 0
theorem w_frames : about1.frames = Frame.invoking theMethod args0 :: below0 := rfl
set_option maxRecDepth 65536 in
theorem w_args : argsFit about1.vm theMethod args0 = true := by decide +kernel
set_option maxRecDepth 65536 in
theorem w_heap : heapFits about1 = true := by decide +kernel
set_option maxRecDepth 65536 in
theorem w_runnable : about1.curStatus? = some .runnable := by decide +kernel
set_option maxRecDepth 65536 in
theorem w_alone : about1.alone = true := by decide +kernel
set_option maxRecDepth 65536 in
theorem w_named : about1.methodNamed? x = some theMethod := by decide +kernel
set_option maxRecDepth 65536 in
theorem w_hears : about1.hears theMethod below0 = true := by decide +kernel
set_option maxRecDepth 65536 in
theorem w_ripe : about1.ripe theMethod args0 below0 = true := by decide +kernel
theorem w_running : about1.status = .running := rfl
set_option maxRecDepth 65536 in
theorem w_room : about1.hasRoom e0.platform room_1 = true :=
  launch0.hasRoom_least _ room_1 (by decide +kernel) (by decide +kernel) (by decide +kernel) (by decide +kernel) (by decide +kernel) (by decide +kernel)
theorem allAtoms_all (ts : List Jvm.Cond) (a : Array Jvm.Value) (st : Jvm.State) : (allAtoms ts).before a st = ts.all (fun c => c.before a st) := by
  induction ts with
  | nil => rfl
  | cons c t ih =>
    show (Jvm.Cond.and c (allAtoms t)).before a st = _
    rw [Jvm.Cond.before_and, ih, List.all_cons]
def words1 : List Jvm.Cond := Jvm.Cond.code x code maxLocals ret :: tables_1
/-- a 'code' word, met by the world's own term for the bytes: nothing is compared byte by byte -/
theorem code_word {y : MethodName} {bytes : ByteArray} {mx : Nat} {rt : Option FieldType} {a : Array Value} {s : State} {m : MethodId} {meth : Method} {c : Code} (h1 : s.methodNamed? y = some m) (h2 : s.vm.method? m = some meth) (h3 : meth.code = some c) (h4 : c.code = bytes)
    (h5 : (c.maxLocals == mx && c.exceptionTable.isEmpty && decide (c.maxStack ≤ mostOperands) && decide (meth.sig.returnType = rt) && !meth.locks && decide (parseMethodDescriptor y.desc = some meth.sig)) = true) : (Jvm.Cond.code y bytes mx rt).before a s = true := by
  simp only [Bool.and_eq_true, beq_iff_eq, Bool.not_eq_true', decide_eq_true_eq] at h5
  obtain ⟨⟨⟨⟨⟨g1, g2⟩, g3⟩, g4⟩, g5⟩, g6⟩ := h5
  simp [Cond.before, Cond.holds, Cond.value, h1, h2, h3, h4, g1, g2, g3, g4, g5, g6]
def isCode : Jvm.Cond → Bool
  | .code _ _ _ _ => true
  | _ => false
theorem all_split {L : List Jvm.Cond} {P : Jvm.Cond → Bool} (h1 : L.all (fun c => isCode c || P c) = true) (h2 : ∀ c ∈ L.filter isCode, P c = true) : L.all P = true := by
  refine List.all_eq_true.mpr fun c hc => ?_
  have h := List.all_eq_true.mp h1 c hc
  rcases Bool.eq_false_or_eq_true (isCode c) with hi | hi
  · exact h2 c (List.mem_filter.mpr ⟨hc, hi⟩)
  · simpa [hi] using h
set_option maxRecDepth 65536 in
theorem w_c0 : (Jvm.Cond.code x code maxLocals ret).before args0 about1 = true := code_word (m := ⟨1, 2⟩) (meth := k1m2) (c := k1c2) (by decide +kernel) rfl rfl rfl (by decide +kernel)
set_option maxRecDepth 65536 in
theorem w_c1 : (Jvm.Cond.code ({ cls := "com/example/twigline/twigline/matcher/StreamHeads", name := "<init>", desc := "(I)V" } : Jvm.MethodName) prog_27_method_1_code (3 : Nat) (Option.none : Option Jvm.ClassFile.FieldType)).before args0 about1 = true := code_word (m := ⟨2, 0⟩) (meth := k2m0) (c := k2c0) (by decide +kernel) rfl rfl rfl (by decide +kernel)
set_option maxRecDepth 65536 in
theorem w_c2 : (Jvm.Cond.code ({ cls := "java/lang/Object", name := "<init>", desc := "()V" } : Jvm.MethodName) object_method_1_code (1 : Nat) (Option.none : Option Jvm.ClassFile.FieldType)).before args0 about1 = true := code_word (m := ⟨0, 0⟩) (meth := k0m0) (c := k0c0) (by decide +kernel) rfl rfl rfl (by decide +kernel)
set_option maxRecDepth 65536 in
theorem w_c3 : (Jvm.Cond.code ({ cls := "com/example/twigline/twigline/matcher/StreamHeads", name := "earliestStart", desc := "()J" } : Jvm.MethodName) prog_27_method_7_code (1 : Nat) (Option.some Jvm.ClassFile.FieldType.long)).before args0 about1 = true := code_word (m := ⟨2, 3⟩) (meth := k2m3) (c := k2c3) (by decide +kernel) rfl rfl rfl (by decide +kernel)
set_option maxRecDepth 65536 in
theorem w_c4 : (Jvm.Cond.code ({ cls := "com/example/twigline/twigline/matcher/StreamHeads", name := "earlier", desc := "(II)I" } : Jvm.MethodName) prog_27_method_8_code (3 : Nat) (Option.some Jvm.ClassFile.FieldType.int)).before args0 about1 = true := code_word (m := ⟨2, 4⟩) (meth := k2m4) (c := k2c4) (by decide +kernel) rfl rfl rfl (by decide +kernel)
set_option maxRecDepth 65536 in
theorem w_c5 : (Jvm.Cond.code ({ cls := "com/example/twigline/twigline/matcher/StreamHeads", name := "set", desc := "(IJ)V" } : Jvm.MethodName) prog_27_method_3_code (4 : Nat) (Option.none : Option Jvm.ClassFile.FieldType)).before args0 about1 = true := code_word (m := ⟨2, 1⟩) (meth := k2m1) (c := k2c1) (by decide +kernel) rfl rfl rfl (by decide +kernel)
set_option maxRecDepth 65536 in
theorem w_c6 : (Jvm.Cond.code ({ cls := "com/example/twigline/twigline/matcher/StreamHeads", name := "replay", desc := "(I)V" } : Jvm.MethodName) prog_27_method_4_code (3 : Nat) (Option.none : Option Jvm.ClassFile.FieldType)).before args0 about1 = true := code_word (m := ⟨2, 2⟩) (meth := k2m2) (c := k2c2) (by decide +kernel) rfl rfl rfl (by decide +kernel)
set_option maxRecDepth 65536 in
theorem w_c7 : (Jvm.Cond.code ({ cls := "com/example/twigline/twigline/matcher/StreamHeadsEarliestStartPinLaw", name := "min8", desc := "([J)J" } : Jvm.MethodName) method_2_code (5 : Nat) (Option.some Jvm.ClassFile.FieldType.long)).before args0 about1 = true := code_word (m := ⟨1, 1⟩) (meth := k1m1) (c := k1c1) (by decide +kernel) rfl rfl rfl (by decide +kernel)
set_option maxRecDepth 65536 in
theorem w_c8 : (Jvm.Cond.code ({ cls := "java/lang/Math", name := "min", desc := "(JJ)J" } : Jvm.MethodName) jdk_29_method_70_code (4 : Nat) (Option.some Jvm.ClassFile.FieldType.long)).before args0 about1 = true := code_word (m := ⟨3, 1⟩) (meth := k3m1) (c := k3c1) (by decide +kernel) rfl rfl rfl (by decide +kernel)
def codes1 : List Jvm.Cond := [Jvm.Cond.code x code maxLocals ret, Jvm.Cond.code ({ cls := "com/example/twigline/twigline/matcher/StreamHeads", name := "<init>", desc := "(I)V" } : Jvm.MethodName) prog_27_method_1_code (3 : Nat) (Option.none : Option Jvm.ClassFile.FieldType), Jvm.Cond.code ({ cls := "java/lang/Object", name := "<init>", desc := "()V" } : Jvm.MethodName) object_method_1_code (1 : Nat) (Option.none : Option Jvm.ClassFile.FieldType), Jvm.Cond.code ({ cls := "com/example/twigline/twigline/matcher/StreamHeads", name := "earliestStart", desc := "()J" } : Jvm.MethodName) prog_27_method_7_code (1 : Nat) (Option.some Jvm.ClassFile.FieldType.long), Jvm.Cond.code ({ cls := "com/example/twigline/twigline/matcher/StreamHeads", name := "earlier", desc := "(II)I" } : Jvm.MethodName) prog_27_method_8_code (3 : Nat) (Option.some Jvm.ClassFile.FieldType.int), Jvm.Cond.code ({ cls := "com/example/twigline/twigline/matcher/StreamHeads", name := "set", desc := "(IJ)V" } : Jvm.MethodName) prog_27_method_3_code (4 : Nat) (Option.none : Option Jvm.ClassFile.FieldType), Jvm.Cond.code ({ cls := "com/example/twigline/twigline/matcher/StreamHeads", name := "replay", desc := "(I)V" } : Jvm.MethodName) prog_27_method_4_code (3 : Nat) (Option.none : Option Jvm.ClassFile.FieldType), Jvm.Cond.code ({ cls := "com/example/twigline/twigline/matcher/StreamHeadsEarliestStartPinLaw", name := "min8", desc := "([J)J" } : Jvm.MethodName) method_2_code (5 : Nat) (Option.some Jvm.ClassFile.FieldType.long), Jvm.Cond.code ({ cls := "java/lang/Math", name := "min", desc := "(JJ)J" } : Jvm.MethodName) jdk_29_method_70_code (4 : Nat) (Option.some Jvm.ClassFile.FieldType.long)]
set_option maxRecDepth 65536 in
theorem codes_eq : words1.filter isCode = codes1 := rfl
theorem w_codes : ∀ c ∈ words1.filter isCode, c.before args0 about1 = true := by
  rw [codes_eq]
  intro c hc
  simp only [codes1, List.mem_cons, List.not_mem_nil, or_false] at hc
  rcases hc with rfl | rfl | rfl | rfl | rfl | rfl | rfl | rfl | rfl
  · exact w_c0
  · exact w_c1
  · exact w_c2
  · exact w_c3
  · exact w_c4
  · exact w_c5
  · exact w_c6
  · exact w_c7
  · exact w_c8
set_option maxRecDepth 65536 in
theorem w_t1 : (words1.take 24).all (fun c => isCode c || c.before args0 about1) = true := by decide +kernel
set_option maxRecDepth 65536 in
theorem w_t2 : (words1.drop 24).all (fun c => isCode c || c.before args0 about1) = true := by decide +kernel
theorem w_tables : (allAtoms (Jvm.Cond.code x code maxLocals ret :: tables_1)).before args0 about1 = true := by
  rw [allAtoms_all]
  show words1.all (fun c => c.before args0 about1) = true
  refine all_split ?_ w_codes
  rw [← List.take_append_drop 24 words1, List.all_append, w_t1, w_t2]
  rfl
set_option maxRecDepth 65536 in
theorem w_case : (Jvm.Cond.and given_1 narrow_1).before args0 about1 = true := by decide +kernel
theorem w_applies : (headSpec (Jvm.Cond.code x code maxLocals ret :: tables_1) room_1).applies x e0.platform about1 = true :=
  (Spec.applies_iff w_frames).mpr ⟨w_running, w_runnable, w_alone, w_named, w_hears, w_ripe, w_room, w_tables⟩
theorem atStart : AtStart classFile x code maxLocals ret World_1 tables_1 room_1 Calls_1 rest_1 Pre_1 launch0 p0 e0 about1 theMethod args0 below0 :=
  ⟨lists_1, trivial, launch0.admits_env _ _ _, launch0.least_env, fairChoices_fair.cas, fairChoices_fair.clock, w_frames, w_args, w_heap, w_applies, trivial, trivial, w_case⟩
end start1
theorem witness_1 : WitnessClaimed_1 := ⟨start1.p0, start1.e0, start1.about1, start1.theMethod, start1.args0, start1.below0, start1.atStart⟩
end Jvm.Pilot.@@N@@
