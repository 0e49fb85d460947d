import JvmDerived
import JvmDerived.Pilot.@@N@@Statement
import JvmDerived.Pilot.@@N@@Code
set_option linter.unusedVariables false
set_option linter.unusedSimpArgs false
namespace Jvm.Pilot.@@N@@
open Jvm Jvm.ClassFile Sem Op Lib Jvm.Free Jvm.Stand Jvm.LawKit Jvm.RoadKit Bundle Jvm.Pilot.@@N@@.Jvm.D
namespace Own
section Eng
/-- from the frame g over the heap h, with k cells and n slots made so far, every standing run ends as Fn says, having written at or above n0 alone -/
def Goes (p : Program) (l : Launch) (e : Env) (R : Room) (s : State) (m : MethodId) (args : Array Value) (below : List Frame) (meth : Method) (c : Code) (n0 mc ms : Nat) (Fn : Option Value → Heap → Prop) (h : Heap) (k n : Nat) (g : JFrame) : Prop :=
  ∀ (T : State) (locs : List Loc), Stand p l e R s m args below meth c T locs k n → Fr n0 locs → T.heap = h →
    ∃ (s₂ : State) (o : Outcome), Steps p.tables e below (T.setTop g) s₂ ∧ s₂.status = .running ∧ Ended s₂ below o ∧ ∃ (v : Option Value) (L : List Loc), o = .returned v ∧ (Fn v s₂.heap ∧ Fr n0 L) ∧ FrameEnd s o s₂ L mc ms
/-- the contract of a method at one list of arguments and one heap -/
def Does (l : Launch) (y : MethodName) (bytes : ByteArray) (maxL : Nat) (ret : Option FieldType) (ws : List Jvm.Cond) (rm : Room) (Z : State) (as' : Array Value) (h0 : Heap) (n0 : Nat) (Fn : Option Value → Heap → Prop) : Prop :=
  MetFree l y (head1 (Jvm.Cond.code y bytes maxL ret :: ws) rm) (fun a U => a = as' ∧ Z.Warmed39 U.vm ∧ U.heap = h0) (fun _ _ _ _ _ => True) (fun _ U o U' => ∃ v L, o = .returned v ∧ (Fn v U'.heap ∧ Fr n0 L) ∧ FrameEnd U o U' L rm.cells rm.slots)
variable {p : Program} {l : Launch} {e : Env} {R : Room} {s : State} {m : MethodId} {args : Array Value} {below : List Frame} {meth : Method} {c : Code} {n0 mc ms : Nat} {Fn : Option Value → Heap → Prop} {h : Heap} {k n : Nat}
theorem doesOf {y : MethodName} {bytes : ByteArray} {maxL : Nat} {ret : Option FieldType} {ws : List Jvm.Cond} {rm : Room} {Z : State} {as' : Array Value} {h0 : Heap} (hy : plainFor y = true)
    (body : ∀ (p : Program) (e : Env) (s : State) (m : MethodId) (below : List Frame) (meth : Method) (c : Code), p.tables.exec = Jvm.exec → c.code = bytes → c.maxLocals = maxL → meth.sig.returnType = ret → meth.locks = false → s.vm.findClass y.cls = some m.cls → meth.name = y.name → Z.Warmed39 s.vm →
      Goes p l e rm s m as' below meth c n0 rm.cells rm.slots Fn h0 0 0 (entryFrame m as' maxL)) : Does l y bytes maxL ret ws rm Z as' h0 n0 Fn := by
  refine MetFree.of_bodySF hy hisR ?_
  intro p e s m args below meth c s₁ Bd hml hP _
  obtain ⟨rfl, hZ, hh⟩ := hP
  have e0 : s₁.heap = h0 := by rw [← hh, Bd.state]; rfl
  obtain ⟨s₂, o, h1, h2, h3, h4⟩ := body p e s m below meth c Bd.exec Bd.bytes hml Bd.returns Bd.notSynchronized (findClass_of_methodNamed Bd.named) (name_of_methodNamed Bd.named Bd.method).1 hZ s₁ [] (Stand.of_body Bd) (Fr.nil n0) e0
  exact ⟨s₂, o, h1, h2, h3, h4⟩
theorem Goes.pure {g g' : JFrame} (st : ∀ (T : State) (locs : List Loc) (t : State), Stand p l e R s m args below meth c T locs k n → Steps p.tables e below (T.setTop g') t → Steps p.tables e below (T.setTop g) t) (K : Goes p l e R s m args below meth c n0 mc ms Fn h k n g') : Goes p l e R s m args below meth c n0 mc ms Fn h k n g := fun T locs X N eT => by
  obtain ⟨s₂, o, hs, r⟩ := K T locs X N eT
  exact ⟨s₂, o, st T locs s₂ X hs, r⟩
theorem Goes.move {g g' : JFrame} {k' n' : Nat} {Pr : Heap → Prop} (st : ∀ (T : State) (locs : List Loc), Stand p l e R s m args below meth c T locs k n → Fr n0 locs → T.heap = h → ∃ (T' : State) (locs' : List Loc), Stand p l e R s m args below meth c T' locs' k' n' ∧ Fr n0 locs' ∧ Pr T'.heap ∧ ∀ t, Steps p.tables e below (T'.setTop g') t → Steps p.tables e below (T.setTop g) t)
    (K : ∀ h', Pr h' → Goes p l e R s m args below meth c n0 mc ms Fn h' k' n' g') : Goes p l e R s m args below meth c n0 mc ms Fn h k n g := fun T locs X N eT => by
  obtain ⟨T', locs', X', N', hP, st'⟩ := st T locs X N eT
  obtain ⟨s₂, o, hs, r⟩ := K T'.heap hP T' locs' X' N' rfl
  exact ⟨s₂, o, st' s₂ hs, r⟩
theorem Goes.join {g : JFrame} (g' : JFrame) (K1 : Goes p l e R s m args below meth c n0 mc ms Fn h k n g' → Goes p l e R s m args below meth c n0 mc ms Fn h k n g) (K2 : Goes p l e R s m args below meth c n0 mc ms Fn h k n g') : Goes p l e R s m args below meth c n0 mc ms Fn h k n g := K1 K2
theorem Goes.cast {g g' : JFrame} (q : g = g') (K : Goes p l e R s m args below meth c n0 mc ms Fn h k n g') : Goes p l e R s m args below meth c n0 mc ms Fn h k n g := q ▸ K
theorem Goes.fin {Fn' : Option Value → Heap → Prop} {g : JFrame} (q : ∀ v h, Fn v h → Fn' v h) (K : Goes p l e R s m args below meth c n0 mc ms Fn h k n g) : Goes p l e R s m args below meth c n0 mc ms Fn' h k n g := fun T locs X N eT => by
  obtain ⟨s₂, o, h1, h2, h3, v, L, h4, ⟨h5, h6⟩, h7⟩ := K T locs X N eT
  exact ⟨s₂, o, h1, h2, h3, v, L, h4, ⟨q _ _ h5, h6⟩, h7⟩

theorem iadd (hx : p.tables.exec = Jvm.exec) {pc pc' : Nat} {Ls : Array Slot} {x y : Int32} {rest : List Value} (hd : decode c.code pc = .ok (.iadd, 1)) (hp : pc + 1 = pc') (K : Goes p l e R s m args below meth c n0 mc ms Fn h k n (mkF m pc' Ls (.int (x + y) :: rest))) : Goes p l e R s m args below meth c n0 mc ms Fn h k n (mkF m pc Ls (.int y :: .int x :: rest)) := by
  subst hp; exact K.pure fun T locs t X hs => XS.iadd X.here hx rfl hd rfl hs
theorem isub (hx : p.tables.exec = Jvm.exec) {pc pc' : Nat} {Ls : Array Slot} {x y : Int32} {rest : List Value} (hd : decode c.code pc = .ok (.isub, 1)) (hp : pc + 1 = pc') (K : Goes p l e R s m args below meth c n0 mc ms Fn h k n (mkF m pc' Ls (.int (x - y) :: rest))) : Goes p l e R s m args below meth c n0 mc ms Fn h k n (mkF m pc Ls (.int y :: .int x :: rest)) := by
  subst hp; exact K.pure fun T locs t X hs => XS.isub X.here hx rfl hd rfl hs
theorem imul (hx : p.tables.exec = Jvm.exec) {pc pc' : Nat} {Ls : Array Slot} {x y : Int32} {rest : List Value} (hd : decode c.code pc = .ok (.imul, 1)) (hp : pc + 1 = pc') (K : Goes p l e R s m args below meth c n0 mc ms Fn h k n (mkF m pc' Ls (.int (x * y) :: rest))) : Goes p l e R s m args below meth c n0 mc ms Fn h k n (mkF m pc Ls (.int y :: .int x :: rest)) := by
  subst hp; exact K.pure fun T locs t X hs => XS.imul X.here hx rfl hd rfl hs
theorem iand (hx : p.tables.exec = Jvm.exec) {pc pc' : Nat} {Ls : Array Slot} {x y : Int32} {rest : List Value} (hd : decode c.code pc = .ok (.iand, 1)) (hp : pc + 1 = pc') (K : Goes p l e R s m args below meth c n0 mc ms Fn h k n (mkF m pc' Ls (.int (x &&& y) :: rest))) : Goes p l e R s m args below meth c n0 mc ms Fn h k n (mkF m pc Ls (.int y :: .int x :: rest)) := by
  subst hp; exact K.pure fun T locs t X hs => XS.iand X.here hx rfl hd rfl hs
theorem ior (hx : p.tables.exec = Jvm.exec) {pc pc' : Nat} {Ls : Array Slot} {x y : Int32} {rest : List Value} (hd : decode c.code pc = .ok (.ior, 1)) (hp : pc + 1 = pc') (K : Goes p l e R s m args below meth c n0 mc ms Fn h k n (mkF m pc' Ls (.int (x ||| y) :: rest))) : Goes p l e R s m args below meth c n0 mc ms Fn h k n (mkF m pc Ls (.int y :: .int x :: rest)) := by
  subst hp; exact K.pure fun T locs t X hs => XS.ior X.here hx rfl hd rfl hs
theorem ixor (hx : p.tables.exec = Jvm.exec) {pc pc' : Nat} {Ls : Array Slot} {x y : Int32} {rest : List Value} (hd : decode c.code pc = .ok (.ixor, 1)) (hp : pc + 1 = pc') (K : Goes p l e R s m args below meth c n0 mc ms Fn h k n (mkF m pc' Ls (.int (x ^^^ y) :: rest))) : Goes p l e R s m args below meth c n0 mc ms Fn h k n (mkF m pc Ls (.int y :: .int x :: rest)) := by
  subst hp; exact K.pure fun T locs t X hs => XS.ixor X.here hx rfl hd rfl hs
theorem ishl (hx : p.tables.exec = Jvm.exec) {pc pc' : Nat} {Ls : Array Slot} {x y : Int32} {rest : List Value} (hd : decode c.code pc = .ok (.ishl, 1)) (hp : pc + 1 = pc') (K : Goes p l e R s m args below meth c n0 mc ms Fn h k n (mkF m pc' Ls (.int (x <<< (y &&& 31)) :: rest))) : Goes p l e R s m args below meth c n0 mc ms Fn h k n (mkF m pc Ls (.int y :: .int x :: rest)) := by
  subst hp; exact K.pure fun T locs t X hs => XS.ishl X.here hx rfl hd rfl hs
theorem ishr (hx : p.tables.exec = Jvm.exec) {pc pc' : Nat} {Ls : Array Slot} {x y : Int32} {rest : List Value} (hd : decode c.code pc = .ok (.ishr, 1)) (hp : pc + 1 = pc') (K : Goes p l e R s m args below meth c n0 mc ms Fn h k n (mkF m pc' Ls (.int (x >>> (y &&& 31)) :: rest))) : Goes p l e R s m args below meth c n0 mc ms Fn h k n (mkF m pc Ls (.int y :: .int x :: rest)) := by
  subst hp; exact K.pure fun T locs t X hs => XS.ishr X.here hx rfl hd rfl hs
theorem iushr (hx : p.tables.exec = Jvm.exec) {pc pc' : Nat} {Ls : Array Slot} {x y : Int32} {rest : List Value} (hd : decode c.code pc = .ok (.iushr, 1)) (hp : pc + 1 = pc') (K : Goes p l e R s m args below meth c n0 mc ms Fn h k n (mkF m pc' Ls (.int ((x.toUInt32 >>> (y &&& 31).toUInt32).toInt32) :: rest))) : Goes p l e R s m args below meth c n0 mc ms Fn h k n (mkF m pc Ls (.int y :: .int x :: rest)) := by
  subst hp; exact K.pure fun T locs t X hs => XS.iushr X.here hx rfl hd rfl hs
theorem ladd (hx : p.tables.exec = Jvm.exec) {pc pc' : Nat} {Ls : Array Slot} {x y : Int64} {rest : List Value} (hd : decode c.code pc = .ok (.ladd, 1)) (hp : pc + 1 = pc') (K : Goes p l e R s m args below meth c n0 mc ms Fn h k n (mkF m pc' Ls (.long (x + y) :: rest))) : Goes p l e R s m args below meth c n0 mc ms Fn h k n (mkF m pc Ls (.long y :: .long x :: rest)) := by
  subst hp; exact K.pure fun T locs t X hs => XS.ladd X.here hx rfl hd rfl hs
theorem lsub (hx : p.tables.exec = Jvm.exec) {pc pc' : Nat} {Ls : Array Slot} {x y : Int64} {rest : List Value} (hd : decode c.code pc = .ok (.lsub, 1)) (hp : pc + 1 = pc') (K : Goes p l e R s m args below meth c n0 mc ms Fn h k n (mkF m pc' Ls (.long (x - y) :: rest))) : Goes p l e R s m args below meth c n0 mc ms Fn h k n (mkF m pc Ls (.long y :: .long x :: rest)) := by
  subst hp; exact K.pure fun T locs t X hs => XS.lsub X.here hx rfl hd rfl hs
theorem lmul (hx : p.tables.exec = Jvm.exec) {pc pc' : Nat} {Ls : Array Slot} {x y : Int64} {rest : List Value} (hd : decode c.code pc = .ok (.lmul, 1)) (hp : pc + 1 = pc') (K : Goes p l e R s m args below meth c n0 mc ms Fn h k n (mkF m pc' Ls (.long (x * y) :: rest))) : Goes p l e R s m args below meth c n0 mc ms Fn h k n (mkF m pc Ls (.long y :: .long x :: rest)) := by
  subst hp; exact K.pure fun T locs t X hs => XS.lmul X.here hx rfl hd rfl hs
theorem land (hx : p.tables.exec = Jvm.exec) {pc pc' : Nat} {Ls : Array Slot} {x y : Int64} {rest : List Value} (hd : decode c.code pc = .ok (.land, 1)) (hp : pc + 1 = pc') (K : Goes p l e R s m args below meth c n0 mc ms Fn h k n (mkF m pc' Ls (.long (x &&& y) :: rest))) : Goes p l e R s m args below meth c n0 mc ms Fn h k n (mkF m pc Ls (.long y :: .long x :: rest)) := by
  subst hp; exact K.pure fun T locs t X hs => XS.land X.here hx rfl hd rfl hs
theorem lor (hx : p.tables.exec = Jvm.exec) {pc pc' : Nat} {Ls : Array Slot} {x y : Int64} {rest : List Value} (hd : decode c.code pc = .ok (.lor, 1)) (hp : pc + 1 = pc') (K : Goes p l e R s m args below meth c n0 mc ms Fn h k n (mkF m pc' Ls (.long (x ||| y) :: rest))) : Goes p l e R s m args below meth c n0 mc ms Fn h k n (mkF m pc Ls (.long y :: .long x :: rest)) := by
  subst hp; exact K.pure fun T locs t X hs => XS.lor X.here hx rfl hd rfl hs
theorem lxor (hx : p.tables.exec = Jvm.exec) {pc pc' : Nat} {Ls : Array Slot} {x y : Int64} {rest : List Value} (hd : decode c.code pc = .ok (.lxor, 1)) (hp : pc + 1 = pc') (K : Goes p l e R s m args below meth c n0 mc ms Fn h k n (mkF m pc' Ls (.long (x ^^^ y) :: rest))) : Goes p l e R s m args below meth c n0 mc ms Fn h k n (mkF m pc Ls (.long y :: .long x :: rest)) := by
  subst hp; exact K.pure fun T locs t X hs => XS.lxor X.here hx rfl hd rfl hs
theorem lshl (hx : p.tables.exec = Jvm.exec) {pc pc' : Nat} {Ls : Array Slot} {x : Int64} {y : Int32} {rest : List Value} (hd : decode c.code pc = .ok (.lshl, 1)) (hp : pc + 1 = pc') (K : Goes p l e R s m args below meth c n0 mc ms Fn h k n (mkF m pc' Ls (.long (x <<< (y &&& 0x3f).toInt64) :: rest))) : Goes p l e R s m args below meth c n0 mc ms Fn h k n (mkF m pc Ls (.int y :: .long x :: rest)) := by
  subst hp; exact K.pure fun T locs t X hs => XS.lshl X.here hx rfl hd rfl hs
theorem lshr (hx : p.tables.exec = Jvm.exec) {pc pc' : Nat} {Ls : Array Slot} {x : Int64} {y : Int32} {rest : List Value} (hd : decode c.code pc = .ok (.lshr, 1)) (hp : pc + 1 = pc') (K : Goes p l e R s m args below meth c n0 mc ms Fn h k n (mkF m pc' Ls (.long (x >>> (y &&& 0x3f).toInt64) :: rest))) : Goes p l e R s m args below meth c n0 mc ms Fn h k n (mkF m pc Ls (.int y :: .long x :: rest)) := by
  subst hp; exact K.pure fun T locs t X hs => XS.lshr X.here hx rfl hd rfl hs
theorem lushr (hx : p.tables.exec = Jvm.exec) {pc pc' : Nat} {Ls : Array Slot} {x : Int64} {y : Int32} {rest : List Value} (hd : decode c.code pc = .ok (.lushr, 1)) (hp : pc + 1 = pc') (K : Goes p l e R s m args below meth c n0 mc ms Fn h k n (mkF m pc' Ls (.long ((x.toUInt64 >>> (y &&& 0x3f).toInt64.toUInt64).toInt64) :: rest))) : Goes p l e R s m args below meth c n0 mc ms Fn h k n (mkF m pc Ls (.int y :: .long x :: rest)) := by
  subst hp; exact K.pure fun T locs t X hs => XS.lushr X.here hx rfl hd rfl hs
theorem lcmp (hx : p.tables.exec = Jvm.exec) {pc pc' : Nat} {Ls : Array Slot} {x y : Int64} {rest : List Value} (hd : decode c.code pc = .ok (.lcmp, 1)) (hp : pc + 1 = pc') (K : Goes p l e R s m args below meth c n0 mc ms Fn h k n (mkF m pc' Ls (.int (lcmpW x y) :: rest))) : Goes p l e R s m args below meth c n0 mc ms Fn h k n (mkF m pc Ls (.long y :: .long x :: rest)) := by
  subst hp; exact K.pure fun T locs t X hs => XS.lcmp X.here hx rfl hd rfl hs
theorem idiv (hx : p.tables.exec = Jvm.exec) {pc pc' : Nat} {Ls : Array Slot} {x y : Int32} {rest : List Value} (hd : decode c.code pc = .ok (.idiv, 1)) (hp : pc + 1 = pc') (hy : y ≠ 0) (K : Goes p l e R s m args below meth c n0 mc ms Fn h k n (mkF m pc' Ls (.int (x / y) :: rest))) : Goes p l e R s m args below meth c n0 mc ms Fn h k n (mkF m pc Ls (.int y :: .int x :: rest)) := by
  subst hp; exact K.pure fun T locs t X hs => XS.idiv X.here hx rfl hd rfl hy hs
theorem irem (hx : p.tables.exec = Jvm.exec) {pc pc' : Nat} {Ls : Array Slot} {x y : Int32} {rest : List Value} (hd : decode c.code pc = .ok (.irem, 1)) (hp : pc + 1 = pc') (hy : y ≠ 0) (K : Goes p l e R s m args below meth c n0 mc ms Fn h k n (mkF m pc' Ls (.int (x % y) :: rest))) : Goes p l e R s m args below meth c n0 mc ms Fn h k n (mkF m pc Ls (.int y :: .int x :: rest)) := by
  subst hp; exact K.pure fun T locs t X hs => iremM X hx rfl hd rfl hy hs
theorem ldiv (hx : p.tables.exec = Jvm.exec) {pc pc' : Nat} {Ls : Array Slot} {x y : Int64} {rest : List Value} (hd : decode c.code pc = .ok (.ldiv, 1)) (hp : pc + 1 = pc') (hy : y ≠ 0) (K : Goes p l e R s m args below meth c n0 mc ms Fn h k n (mkF m pc' Ls (.long (x / y) :: rest))) : Goes p l e R s m args below meth c n0 mc ms Fn h k n (mkF m pc Ls (.long y :: .long x :: rest)) := by
  subst hp; exact K.pure fun T locs t X hs => XS.ldiv X.here hx rfl hd rfl hy hs
theorem lrem (hx : p.tables.exec = Jvm.exec) {pc pc' : Nat} {Ls : Array Slot} {x y : Int64} {rest : List Value} (hd : decode c.code pc = .ok (.lrem, 1)) (hp : pc + 1 = pc') (hy : y ≠ 0) (K : Goes p l e R s m args below meth c n0 mc ms Fn h k n (mkF m pc' Ls (.long (x % y) :: rest))) : Goes p l e R s m args below meth c n0 mc ms Fn h k n (mkF m pc Ls (.long y :: .long x :: rest)) := by
  subst hp; exact K.pure fun T locs t X hs => XS.lrem X.here hx rfl hd rfl hy (by rw [lrem_mod]; exact hs)
theorem ineg (hx : p.tables.exec = Jvm.exec) {pc pc' : Nat} {Ls : Array Slot} {x : Int32} {rest : List Value} (hd : decode c.code pc = .ok (.ineg, 1)) (hp : pc + 1 = pc') (K : Goes p l e R s m args below meth c n0 mc ms Fn h k n (mkF m pc' Ls (.int (-x) :: rest))) : Goes p l e R s m args below meth c n0 mc ms Fn h k n (mkF m pc Ls (.int x :: rest)) := by
  subst hp; exact K.pure fun T locs t X hs => XS.ineg X.here hx rfl hd rfl hs
theorem lneg (hx : p.tables.exec = Jvm.exec) {pc pc' : Nat} {Ls : Array Slot} {x : Int64} {rest : List Value} (hd : decode c.code pc = .ok (.lneg, 1)) (hp : pc + 1 = pc') (K : Goes p l e R s m args below meth c n0 mc ms Fn h k n (mkF m pc' Ls (.long (-x) :: rest))) : Goes p l e R s m args below meth c n0 mc ms Fn h k n (mkF m pc Ls (.long x :: rest)) := by
  subst hp; exact K.pure fun T locs t X hs => XS.lneg X.here hx rfl hd rfl hs
theorem i2l (hx : p.tables.exec = Jvm.exec) {pc pc' : Nat} {Ls : Array Slot} {x : Int32} {rest : List Value} (hd : decode c.code pc = .ok (.i2l, 1)) (hp : pc + 1 = pc') (K : Goes p l e R s m args below meth c n0 mc ms Fn h k n (mkF m pc' Ls (.long (x.toInt64) :: rest))) : Goes p l e R s m args below meth c n0 mc ms Fn h k n (mkF m pc Ls (.int x :: rest)) := by
  subst hp; exact K.pure fun T locs t X hs => XS.i2l X.here hx rfl hd rfl hs
theorem l2i (hx : p.tables.exec = Jvm.exec) {pc pc' : Nat} {Ls : Array Slot} {x : Int64} {rest : List Value} (hd : decode c.code pc = .ok (.l2i, 1)) (hp : pc + 1 = pc') (K : Goes p l e R s m args below meth c n0 mc ms Fn h k n (mkF m pc' Ls (.int (x.toInt32) :: rest))) : Goes p l e R s m args below meth c n0 mc ms Fn h k n (mkF m pc Ls (.long x :: rest)) := by
  subst hp; exact K.pure fun T locs t X hs => XS.l2i X.here hx rfl hd rfl hs
theorem i2b (hx : p.tables.exec = Jvm.exec) {pc pc' : Nat} {Ls : Array Slot} {x : Int32} {rest : List Value} (hd : decode c.code pc = .ok (.i2b, 1)) (hp : pc + 1 = pc') (K : Goes p l e R s m args below meth c n0 mc ms Fn h k n (mkF m pc' Ls (.int (x.toInt8.toInt32) :: rest))) : Goes p l e R s m args below meth c n0 mc ms Fn h k n (mkF m pc Ls (.int x :: rest)) := by
  subst hp; exact K.pure fun T locs t X hs => XS.i2b X.here hx rfl hd rfl hs
theorem i2s (hx : p.tables.exec = Jvm.exec) {pc pc' : Nat} {Ls : Array Slot} {x : Int32} {rest : List Value} (hd : decode c.code pc = .ok (.i2s, 1)) (hp : pc + 1 = pc') (K : Goes p l e R s m args below meth c n0 mc ms Fn h k n (mkF m pc' Ls (.int (x.toInt16.toInt32) :: rest))) : Goes p l e R s m args below meth c n0 mc ms Fn h k n (mkF m pc Ls (.int x :: rest)) := by
  subst hp; exact K.pure fun T locs t X hs => XS.i2s X.here hx rfl hd rfl hs
theorem i2c (hx : p.tables.exec = Jvm.exec) {pc pc' : Nat} {Ls : Array Slot} {x : Int32} {rest : List Value} (hd : decode c.code pc = .ok (.i2c, 1)) (hp : pc + 1 = pc') (K : Goes p l e R s m args below meth c n0 mc ms Fn h k n (mkF m pc' Ls (.int (x.toUInt32.toUInt16.toUInt32.toInt32) :: rest))) : Goes p l e R s m args below meth c n0 mc ms Fn h k n (mkF m pc Ls (.int x :: rest)) := by
  subst hp; exact K.pure fun T locs t X hs => XS.i2c X.here hx rfl hd rfl hs
theorem iload (hx : p.tables.exec = Jvm.exec) {pc pc' i : Nat} {Ls : Array Slot} (x : Int32) {rest : List Value} (hd : decode c.code pc = .ok (.iload i, 2)) (hp : pc + 2 = pc') (hl : Ls[i]? = some (.val (.int x))) (K : Goes p l e R s m args below meth c n0 mc ms Fn h k n (mkF m pc' Ls (.int x :: rest))) : Goes p l e R s m args below meth c n0 mc ms Fn h k n (mkF m pc Ls rest) := by
  subst hp; exact K.pure fun T locs t X hs => XS.iload X.here hx rfl hd hl hs
theorem iloadN (hx : p.tables.exec = Jvm.exec) {pc pc' : Nat} {i : Fin 4} {Ls : Array Slot} (x : Int32) {rest : List Value} (hd : decode c.code pc = .ok (.iload_n i, 1)) (hp : pc + 1 = pc') (hl : Ls[i.val]? = some (.val (.int x))) (K : Goes p l e R s m args below meth c n0 mc ms Fn h k n (mkF m pc' Ls (.int x :: rest))) : Goes p l e R s m args below meth c n0 mc ms Fn h k n (mkF m pc Ls rest) := by
  subst hp; exact K.pure fun T locs t X hs => XS.iloadN X.here hx rfl hd hl hs
theorem lload (hx : p.tables.exec = Jvm.exec) {pc pc' i : Nat} {Ls : Array Slot} (x : Int64) {rest : List Value} (hd : decode c.code pc = .ok (.lload i, 2)) (hp : pc + 2 = pc') (hl : Ls[i]? = some (.val (.long x))) (K : Goes p l e R s m args below meth c n0 mc ms Fn h k n (mkF m pc' Ls (.long x :: rest))) : Goes p l e R s m args below meth c n0 mc ms Fn h k n (mkF m pc Ls rest) := by
  subst hp; exact K.pure fun T locs t X hs => XS.lload X.here hx rfl hd hl hs
theorem lloadN (hx : p.tables.exec = Jvm.exec) {pc pc' : Nat} {i : Fin 4} {Ls : Array Slot} (x : Int64) {rest : List Value} (hd : decode c.code pc = .ok (.lload_n i, 1)) (hp : pc + 1 = pc') (hl : Ls[i.val]? = some (.val (.long x))) (K : Goes p l e R s m args below meth c n0 mc ms Fn h k n (mkF m pc' Ls (.long x :: rest))) : Goes p l e R s m args below meth c n0 mc ms Fn h k n (mkF m pc Ls rest) := by
  subst hp; exact K.pure fun T locs t X hs => XS.lloadN X.here hx rfl hd hl hs
theorem aload (hx : p.tables.exec = Jvm.exec) {pc pc' i : Nat} {Ls : Array Slot} (x : Value) {rest : List Value} (hd : decode c.code pc = .ok (.aload i, 2)) (hp : pc + 2 = pc') (hl : Ls[i]? = some (.val x)) (hv : x.isRef = true) (K : Goes p l e R s m args below meth c n0 mc ms Fn h k n (mkF m pc' Ls (x :: rest))) : Goes p l e R s m args below meth c n0 mc ms Fn h k n (mkF m pc Ls rest) := by
  subst hp; exact K.pure fun T locs t X hs => XS.aload X.here hx rfl hd hl hv hs
theorem aloadN (hx : p.tables.exec = Jvm.exec) {pc pc' : Nat} {i : Fin 4} {Ls : Array Slot} (x : Value) {rest : List Value} (hd : decode c.code pc = .ok (.aload_n i, 1)) (hp : pc + 1 = pc') (hl : Ls[i.val]? = some (.val x)) (hv : x.isRef = true) (K : Goes p l e R s m args below meth c n0 mc ms Fn h k n (mkF m pc' Ls (x :: rest))) : Goes p l e R s m args below meth c n0 mc ms Fn h k n (mkF m pc Ls rest) := by
  subst hp; exact K.pure fun T locs t X hs => XS.aloadN X.here hx rfl hd hl hv hs
theorem istore (hx : p.tables.exec = Jvm.exec) {pc pc' i : Nat} {Ls : Array Slot} {x : Int32} (z : Int32) (hz : z = x) {rest : List Value} (Ls' : Array Slot) (hd : decode c.code pc = .ok (.istore i, 2)) (hp : pc + 2 = pc') (hl : storeLocals Ls i (.int z) = some Ls') (K : Goes p l e R s m args below meth c n0 mc ms Fn h k n (mkF m pc' Ls' rest)) : Goes p l e R s m args below meth c n0 mc ms Fn h k n (mkF m pc Ls (.int x :: rest)) := by
  subst hp hz; exact K.pure fun T locs t X hs => XS.istore X.here hx rfl hd rfl hl hs
theorem istoreN (hx : p.tables.exec = Jvm.exec) {pc pc' : Nat} {i : Fin 4} {Ls : Array Slot} {x : Int32} (z : Int32) (hz : z = x) {rest : List Value} (Ls' : Array Slot) (hd : decode c.code pc = .ok (.istore_n i, 1)) (hp : pc + 1 = pc') (hl : storeLocals Ls i.val (.int z) = some Ls') (K : Goes p l e R s m args below meth c n0 mc ms Fn h k n (mkF m pc' Ls' rest)) : Goes p l e R s m args below meth c n0 mc ms Fn h k n (mkF m pc Ls (.int x :: rest)) := by
  subst hp hz; exact K.pure fun T locs t X hs => XS.istoreN X.here hx rfl hd rfl hl hs
theorem lstore (hx : p.tables.exec = Jvm.exec) {pc pc' i : Nat} {Ls : Array Slot} {x : Int64} (z : Int64) (hz : z = x) {rest : List Value} (Ls' : Array Slot) (hd : decode c.code pc = .ok (.lstore i, 2)) (hp : pc + 2 = pc') (hl : storeLocals Ls i (.long z) = some Ls') (K : Goes p l e R s m args below meth c n0 mc ms Fn h k n (mkF m pc' Ls' rest)) : Goes p l e R s m args below meth c n0 mc ms Fn h k n (mkF m pc Ls (.long x :: rest)) := by
  subst hp hz; exact K.pure fun T locs t X hs => XS.lstore X.here hx rfl hd rfl hl hs
theorem lstoreN (hx : p.tables.exec = Jvm.exec) {pc pc' : Nat} {i : Fin 4} {Ls : Array Slot} {x : Int64} (z : Int64) (hz : z = x) {rest : List Value} (Ls' : Array Slot) (hd : decode c.code pc = .ok (.lstore_n i, 1)) (hp : pc + 1 = pc') (hl : storeLocals Ls i.val (.long z) = some Ls') (K : Goes p l e R s m args below meth c n0 mc ms Fn h k n (mkF m pc' Ls' rest)) : Goes p l e R s m args below meth c n0 mc ms Fn h k n (mkF m pc Ls (.long x :: rest)) := by
  subst hp hz; exact K.pure fun T locs t X hs => XS.lstoreN X.here hx rfl hd rfl hl hs
theorem astore (hx : p.tables.exec = Jvm.exec) {pc pc' i : Nat} {Ls : Array Slot} {x : Value} {rest : List Value} (Ls' : Array Slot) (hd : decode c.code pc = .ok (.astore i, 2)) (hp : pc + 2 = pc') (hv : x.isRef = true) (hl : storeLocals Ls i x = some Ls') (K : Goes p l e R s m args below meth c n0 mc ms Fn h k n (mkF m pc' Ls' rest)) : Goes p l e R s m args below meth c n0 mc ms Fn h k n (mkF m pc Ls (x :: rest)) := by
  subst hp; exact K.pure fun T locs t X hs => XS.astore X.here hx rfl hd rfl hv hl hs
theorem astoreN (hx : p.tables.exec = Jvm.exec) {pc pc' : Nat} {i : Fin 4} {Ls : Array Slot} {x : Value} {rest : List Value} (Ls' : Array Slot) (hd : decode c.code pc = .ok (.astore_n i, 1)) (hp : pc + 1 = pc') (hv : x.isRef = true) (hl : storeLocals Ls i.val x = some Ls') (K : Goes p l e R s m args below meth c n0 mc ms Fn h k n (mkF m pc' Ls' rest)) : Goes p l e R s m args below meth c n0 mc ms Fn h k n (mkF m pc Ls (x :: rest)) := by
  subst hp; exact K.pure fun T locs t X hs => XS.astoreN X.here hx rfl hd rfl hv hl hs
theorem iinc (hx : p.tables.exec = Jvm.exec) {pc pc' i : Nat} {ct : Int} {Ls : Array Slot} {x : Int32} (z : Int32) {rest : List Value} (Ls' : Array Slot) (hd : decode c.code pc = .ok (.iinc i ct, 3)) (hp : pc + 3 = pc') (hl : Ls[i]? = some (.val (.int x))) (hz : z = x + Int32.ofInt ct) (hl' : storeLocals Ls i (.int z) = some Ls') (K : Goes p l e R s m args below meth c n0 mc ms Fn h k n (mkF m pc' Ls' rest)) : Goes p l e R s m args below meth c n0 mc ms Fn h k n (mkF m pc Ls rest) := by
  subst hp hz; exact K.pure fun T locs t X hs => XS.iinc X.here hx rfl hd hl hl' hs
theorem iconst (hx : p.tables.exec = Jvm.exec) {pc pc' : Nat} {i : Int} {Ls : Array Slot} (z : Int32) {rest : List Value} (hd : decode c.code pc = .ok (.iconst i, 1)) (hp : pc + 1 = pc') (hz : Int32.ofInt i = z) (K : Goes p l e R s m args below meth c n0 mc ms Fn h k n (mkF m pc' Ls (.int z :: rest))) : Goes p l e R s m args below meth c n0 mc ms Fn h k n (mkF m pc Ls rest) := by
  subst hp hz; exact K.pure fun T locs t X hs => XS.iconst X.here hx rfl hd hs
theorem bipush (hx : p.tables.exec = Jvm.exec) {pc pc' : Nat} {i : Int} {Ls : Array Slot} (z : Int32) {rest : List Value} (hd : decode c.code pc = .ok (.bipush i, 2)) (hp : pc + 2 = pc') (hz : (Int8.ofInt i).toInt32 = z) (K : Goes p l e R s m args below meth c n0 mc ms Fn h k n (mkF m pc' Ls (.int z :: rest))) : Goes p l e R s m args below meth c n0 mc ms Fn h k n (mkF m pc Ls rest) := by
  subst hp hz; exact K.pure fun T locs t X hs => XS.bipush X.here hx rfl hd hs
theorem sipush (hx : p.tables.exec = Jvm.exec) {pc pc' : Nat} {i : Int} {Ls : Array Slot} (z : Int32) {rest : List Value} (hd : decode c.code pc = .ok (.sipush i, 3)) (hp : pc + 3 = pc') (hz : (Int16.ofInt i).toInt32 = z) (K : Goes p l e R s m args below meth c n0 mc ms Fn h k n (mkF m pc' Ls (.int z :: rest))) : Goes p l e R s m args below meth c n0 mc ms Fn h k n (mkF m pc Ls rest) := by
  subst hp hz; exact K.pure fun T locs t X hs => XS.sipush X.here hx rfl hd hs
theorem lconst (hx : p.tables.exec = Jvm.exec) {pc pc' : Nat} {i : Fin 2} {Ls : Array Slot} (z : Int64) {rest : List Value} (hd : decode c.code pc = .ok (.lconst i, 1)) (hp : pc + 1 = pc') (hz : Int64.ofNat i = z) (K : Goes p l e R s m args below meth c n0 mc ms Fn h k n (mkF m pc' Ls (.long z :: rest))) : Goes p l e R s m args below meth c n0 mc ms Fn h k n (mkF m pc Ls rest) := by
  subst hp hz; exact K.pure fun T locs t X hs => XS.lconst X.here hx rfl hd hs
theorem aconstNull (hx : p.tables.exec = Jvm.exec) {pc pc' : Nat} {Ls : Array Slot} {rest : List Value} (hd : decode c.code pc = .ok (.aconst_null, 1)) (hp : pc + 1 = pc') (K : Goes p l e R s m args below meth c n0 mc ms Fn h k n (mkF m pc' Ls (.null :: rest))) : Goes p l e R s m args below meth c n0 mc ms Fn h k n (mkF m pc Ls rest) := by
  subst hp; exact K.pure fun T locs t X hs => XS.aconstNull X.here hx rfl hd hs
theorem dup (hx : p.tables.exec = Jvm.exec) {pc pc' : Nat} {Ls : Array Slot} {x : Value} {rest : List Value} (hd : decode c.code pc = .ok (.dup, 1)) (hp : pc + 1 = pc') (hc : x.category = 1) (K : Goes p l e R s m args below meth c n0 mc ms Fn h k n (mkF m pc' Ls (x :: x :: rest))) : Goes p l e R s m args below meth c n0 mc ms Fn h k n (mkF m pc Ls (x :: rest)) := by
  subst hp; exact K.pure fun T locs t X hs => XS.dup X.here hx rfl hd rfl hc hs
theorem pop (hx : p.tables.exec = Jvm.exec) {pc pc' : Nat} {Ls : Array Slot} {x : Value} {rest : List Value} (hd : decode c.code pc = .ok (.pop, 1)) (hp : pc + 1 = pc') (hc : x.category = 1) (K : Goes p l e R s m args below meth c n0 mc ms Fn h k n (mkF m pc' Ls rest)) : Goes p l e R s m args below meth c n0 mc ms Fn h k n (mkF m pc Ls (x :: rest)) := by
  subst hp; exact K.pure fun T locs t X hs => XS.pop X.here hx rfl hd rfl hc hs
theorem dupX1 (hx : p.tables.exec = Jvm.exec) {pc pc' : Nat} {Ls : Array Slot} {x y : Value} {rest : List Value} (hd : decode c.code pc = .ok (.dup_x1, 1)) (hp : pc + 1 = pc') (hc : x.category = 1) (hc' : y.category = 1) (K : Goes p l e R s m args below meth c n0 mc ms Fn h k n (mkF m pc' Ls (x :: y :: x :: rest))) : Goes p l e R s m args below meth c n0 mc ms Fn h k n (mkF m pc Ls (x :: y :: rest)) := by
  subst hp; exact K.pure fun T locs t X hs => XS.dupX1 X.here hx rfl hd rfl hc hc' hs
theorem dup2 (hx : p.tables.exec = Jvm.exec) {pc pc' : Nat} {Ls : Array Slot} {x y : Value} {rest : List Value} (hd : decode c.code pc = .ok (.dup2, 1)) (hp : pc + 1 = pc') (hc : x.category = 1) (hc' : y.category = 1) (K : Goes p l e R s m args below meth c n0 mc ms Fn h k n (mkF m pc' Ls (x :: y :: x :: y :: rest))) : Goes p l e R s m args below meth c n0 mc ms Fn h k n (mkF m pc Ls (x :: y :: rest)) := by
  subst hp; exact K.pure fun T locs t X hs => XT.dup2 X.here hx rfl hd rfl hc hc' hs
theorem dup2L (hx : p.tables.exec = Jvm.exec) {pc pc' : Nat} {Ls : Array Slot} {x : Int64} {rest : List Value} (hd : decode c.code pc = .ok (.dup2, 1)) (hp : pc + 1 = pc') (K : Goes p l e R s m args below meth c n0 mc ms Fn h k n (mkF m pc' Ls (.long x :: .long x :: rest))) : Goes p l e R s m args below meth c n0 mc ms Fn h k n (mkF m pc Ls (.long x :: rest)) := by
  subst hp; exact K.pure fun T locs t X hs => XT.dup2L X.here hx rfl hd rfl hs
theorem goto (hx : p.tables.exec = Jvm.exec) {pc pc' : Nat} {o : Int} {Ls : Array Slot} {st : List Value} (hd : decode c.code pc = .ok (.goto o, 3)) (ho : 0 ≤ (pc : Int) + o) (hp : ((pc : Int) + o).toNat = pc') (K : Goes p l e R s m args below meth c n0 mc ms Fn h k n (mkF m pc' Ls st)) : Goes p l e R s m args below meth c n0 mc ms Fn h k n (mkF m pc Ls st) :=
  K.pure fun T locs t X hs => XS.goto X.here hx rfl rfl hd ho hp hs
theorem ifF (hx : p.tables.exec = Jvm.exec) {Pr : Prop} [Decidable Pr] {cd : ClassFile.Cond} {x : Int32} (hq : ifCond.holds cd x = decide Pr) {pc pcN pcT : Nat} {o : Int} {Ls : Array Slot} {rest : List Value} (hd : decode c.code pc = .ok (.ifCond cd o, 3)) (hn : pc + 3 = pcN) (ho : 0 ≤ (pc : Int) + o) (hp : ((pc : Int) + o).toNat = pcT)
    (KT : Pr → Goes p l e R s m args below meth c n0 mc ms Fn h k n (mkF m pcT Ls rest)) (KN : ¬ Pr → Goes p l e R s m args below meth c n0 mc ms Fn h k n (mkF m pcN Ls rest)) : Goes p l e R s m args below meth c n0 mc ms Fn h k n (mkF m pc Ls (.int x :: rest)) := by
  subst hn
  by_cases hP : Pr
  · exact (KT hP).pure fun T locs t X hs => XS.ifYes X.here hx rfl rfl hd rfl (by rw [hq]; exact decide_eq_true hP) ho hp hs
  · exact (KN hP).pure fun T locs t X hs => XS.ifNo X.here hx rfl hd rfl (by rw [hq]; exact decide_eq_false hP) hs
theorem icmpF (hx : p.tables.exec = Jvm.exec) {Pr : Prop} [Decidable Pr] {cd : ClassFile.Cond} {x y : Int32} (hq : if_icmp.holds cd x y = decide Pr) {pc pcN pcT : Nat} {o : Int} {Ls : Array Slot} {rest : List Value} (hd : decode c.code pc = .ok (.if_icmp cd o, 3)) (hn : pc + 3 = pcN) (ho : 0 ≤ (pc : Int) + o) (hp : ((pc : Int) + o).toNat = pcT)
    (KT : Pr → Goes p l e R s m args below meth c n0 mc ms Fn h k n (mkF m pcT Ls rest)) (KN : ¬ Pr → Goes p l e R s m args below meth c n0 mc ms Fn h k n (mkF m pcN Ls rest)) : Goes p l e R s m args below meth c n0 mc ms Fn h k n (mkF m pc Ls (.int y :: .int x :: rest)) := by
  subst hn
  by_cases hP : Pr
  · exact (KT hP).pure fun T locs t X hs => XS.icmpYes X.here hx rfl rfl hd rfl (by rw [hq]; exact decide_eq_true hP) ho hp hs
  · exact (KN hP).pure fun T locs t X hs => XS.icmpNo X.here hx rfl hd rfl (by rw [hq]; exact decide_eq_false hP) hs
theorem ifFn (hx : p.tables.exec = Jvm.exec) {Pr : Prop} [Decidable Pr] {cd : ClassFile.Cond} {x : Int32} (hq : ifCond.holds cd x = decide (¬ Pr)) {pc pcN pcT : Nat} {o : Int} {Ls : Array Slot} {rest : List Value} (hd : decode c.code pc = .ok (.ifCond cd o, 3)) (hn : pc + 3 = pcN) (ho : 0 ≤ (pc : Int) + o) (hp : ((pc : Int) + o).toNat = pcT)
    (KT : ¬ Pr → Goes p l e R s m args below meth c n0 mc ms Fn h k n (mkF m pcT Ls rest)) (KN : Pr → Goes p l e R s m args below meth c n0 mc ms Fn h k n (mkF m pcN Ls rest)) : Goes p l e R s m args below meth c n0 mc ms Fn h k n (mkF m pc Ls (.int x :: rest)) := ifF hx hq hd hn ho hp KT fun q => KN (Decidable.of_not_not q)
theorem icmpFn (hx : p.tables.exec = Jvm.exec) {Pr : Prop} [Decidable Pr] {cd : ClassFile.Cond} {x y : Int32} (hq : if_icmp.holds cd x y = decide (¬ Pr)) {pc pcN pcT : Nat} {o : Int} {Ls : Array Slot} {rest : List Value} (hd : decode c.code pc = .ok (.if_icmp cd o, 3)) (hn : pc + 3 = pcN) (ho : 0 ≤ (pc : Int) + o) (hp : ((pc : Int) + o).toNat = pcT)
    (KT : ¬ Pr → Goes p l e R s m args below meth c n0 mc ms Fn h k n (mkF m pcT Ls rest)) (KN : Pr → Goes p l e R s m args below meth c n0 mc ms Fn h k n (mkF m pcN Ls rest)) : Goes p l e R s m args below meth c n0 mc ms Fn h k n (mkF m pc Ls (.int y :: .int x :: rest)) := icmpF hx hq hd hn ho hp KT fun q => KN (Decidable.of_not_not q)
theorem q_eq (x y : Int32) : if_icmp.holds .eq x y = decide (x = y) := by by_cases q : x = y <;> simp [if_icmp.holds, q]
theorem q_ne (x y : Int32) : if_icmp.holds .ne x y = decide (¬ x = y) := by by_cases q : x = y <;> simp [if_icmp.holds, q]
theorem q_lt (x y : Int32) : if_icmp.holds .lt x y = decide (x < y) := by by_cases q : x < y <;> simp [q, (tlt ·), (flt ·)]
theorem q_ge (x y : Int32) : if_icmp.holds .ge x y = decide (¬ x < y) := by by_cases q : x < y <;> simp [q, (tlt ·), (flt ·)]
theorem q_gt (x y : Int32) : if_icmp.holds .gt x y = decide (y < x) := by by_cases q : y < x <;> simp [q, (tlt ·), (flt ·)]
theorem q_le (x y : Int32) : if_icmp.holds .le x y = decide (¬ y < x) := by by_cases q : y < x <;> simp [q, (tlt ·), (flt ·)]
theorem z_eq (x : Int32) : ifCond.holds .eq x = decide (x = 0) := (if0 _ _).trans (q_eq x 0)
theorem z_ne (x : Int32) : ifCond.holds .ne x = decide (¬ x = 0) := (if0 _ _).trans (q_ne x 0)
theorem z_lt (x : Int32) : ifCond.holds .lt x = decide (x < 0) := (if0 _ _).trans (q_lt x 0)
theorem z_ge (x : Int32) : ifCond.holds .ge x = decide (¬ x < 0) := (if0 _ _).trans (q_ge x 0)
theorem z_gt (x : Int32) : ifCond.holds .gt x = decide (0 < x) := (if0 _ _).trans (q_gt x 0)
theorem z_le (x : Int32) : ifCond.holds .le x = decide (¬ 0 < x) := (if0 _ _).trans (q_le x 0)
theorem w_eq (x y : Int64) : ifCond.holds .eq (lcmpW x y) = decide (x = y) := (z_eq _).trans (by simp only [lw_eq])
theorem w_ne (x y : Int64) : ifCond.holds .ne (lcmpW x y) = decide (¬ x = y) := (z_ne _).trans (by simp only [lw_eq])
theorem w_lt (x y : Int64) : ifCond.holds .lt (lcmpW x y) = decide (x < y) := (z_lt _).trans (by simp only [lw_lt])
theorem w_ge (x y : Int64) : ifCond.holds .ge (lcmpW x y) = decide (¬ x < y) := (z_ge _).trans (by simp only [lw_lt])
theorem w_gt (x y : Int64) : ifCond.holds .gt (lcmpW x y) = decide (y < x) := (z_gt _).trans (by simp only [lw_gt])
theorem w_le (x y : Int64) : ifCond.holds .le (lcmpW x y) = decide (¬ y < x) := (z_le _).trans (by simp only [lw_gt])
theorem ifnullN (hx : p.tables.exec = Jvm.exec) {pc pcN : Nat} {o : Int} {a : Addr} {Ls : Array Slot} {rest : List Value} (hd : decode c.code pc = .ok (.ifnull o, 3)) (hn : pc + 3 = pcN) (K : Goes p l e R s m args below meth c n0 mc ms Fn h k n (mkF m pcN Ls rest)) : Goes p l e R s m args below meth c n0 mc ms Fn h k n (mkF m pc Ls (.ref a :: rest)) := by
  subst hn; exact K.pure fun T locs t X hs => XS.ifnullNo X.here hx rfl hd rfl hs
theorem ifnullY (hx : p.tables.exec = Jvm.exec) {pc pcT : Nat} {o : Int} {Ls : Array Slot} {rest : List Value} (hd : decode c.code pc = .ok (.ifnull o, 3)) (ho : 0 ≤ (pc : Int) + o) (hp : ((pc : Int) + o).toNat = pcT) (K : Goes p l e R s m args below meth c n0 mc ms Fn h k n (mkF m pcT Ls rest)) : Goes p l e R s m args below meth c n0 mc ms Fn h k n (mkF m pc Ls (.null :: rest)) :=
  K.pure fun T locs t X hs => XS.ifnullYes X.here hx rfl rfl hd rfl ho hp hs
theorem ifnonnullN (hx : p.tables.exec = Jvm.exec) {pc pcN : Nat} {o : Int} {Ls : Array Slot} {rest : List Value} (hd : decode c.code pc = .ok (.ifnonnull o, 3)) (hn : pc + 3 = pcN) (K : Goes p l e R s m args below meth c n0 mc ms Fn h k n (mkF m pcN Ls rest)) : Goes p l e R s m args below meth c n0 mc ms Fn h k n (mkF m pc Ls (.null :: rest)) := by
  subst hn; exact K.pure fun T locs t X hs => XS.ifnonnullNo X.here hx rfl hd rfl hs
theorem ifnonnullY (hx : p.tables.exec = Jvm.exec) {pc pcT : Nat} {o : Int} {a : Addr} {Ls : Array Slot} {rest : List Value} (hd : decode c.code pc = .ok (.ifnonnull o, 3)) (ho : 0 ≤ (pc : Int) + o) (hp : ((pc : Int) + o).toNat = pcT) (K : Goes p l e R s m args below meth c n0 mc ms Fn h k n (mkF m pcT Ls rest)) : Goes p l e R s m args below meth c n0 mc ms Fn h k n (mkF m pc Ls (.ref a :: rest)) :=
  K.pure fun T locs t X hs => XS.ifnonnullYes X.here hx rfl rfl hd rfl ho hp hs
theorem ldc (hx : p.tables.exec = Jvm.exec) {Z : State} (hZ : Z.Warmed39 s.vm) {a0 : Array Value} {own : String} (hown : s.vm.findClass own = some m.cls) {pc pc' i : Nat} {Ls : Array Slot} (z : Int32) {rest : List Value} (hd : decode c.code pc = .ok (.ldc i, 2)) (hp : pc + 2 = pc') (w : (Jvm.Cond.constant own i z).before a0 Z = true) (K : Goes p l e R s m args below meth c n0 mc ms Fn h k n (mkF m pc' Ls (.int z :: rest))) : Goes p l e R s m args below meth c n0 mc ms Fn h k n (mkF m pc Ls rest) := by
  subst hp; exact K.pure fun T locs t X hs => X.ldcInt hx hown (mvT hZ w) (g := mkF m pc Ls rest) rfl hd t hs
theorem ldc2 (hx : p.tables.exec = Jvm.exec) {Z : State} (hZ : Z.Warmed39 s.vm) {a0 : Array Value} {own : String} (hown : s.vm.findClass own = some m.cls) {pc pc' i : Nat} {Ls : Array Slot} (z : Int64) {rest : List Value} (hd : decode c.code pc = .ok (.ldc2_w i, 3)) (hp : pc + 3 = pc') (w : (Jvm.Cond.constantLong own i z).before a0 Z = true) (K : Goes p l e R s m args below meth c n0 mc ms Fn h k n (mkF m pc' Ls (.long z :: rest))) : Goes p l e R s m args below meth c n0 mc ms Fn h k n (mkF m pc Ls rest) := by
  subst hp; exact K.pure fun T locs t X hs => X.ldc2Long hx hown (mvT hZ w) (g := mkF m pc Ls rest) rfl hd t hs
/-- the end of a walk -/
theorem endOf {v : Option Value} {g : JFrame} (hlk : meth.locks = false) (hv : meth.sig.returnType = none → v = none)
    (st : ∀ (T : State) (locs : List Loc) (fs : List Frame), Stand p l e R s m args below meth c T locs k n → (∀ (f : JFrame) (acts : List Action), f.method = m → f.locked = none → f.entered = [] → (doReturn e (T.setTop f) acts v).1 = T.setFrames fs) → Steps p.tables e below (T.setTop g) (T.setFrames fs))
    (hk : k ≤ mc) (hn : n ≤ ms) (hF : Fn v h) : Goes p l e R s m args below meth c n0 mc ms Fn h k n g := fun T locs X N eT => by
  obtain ⟨fs, hr, hrun, hended, hW, hsame⟩ := X.leave hv hlk
  refine ⟨_, _, st T locs fs X hr, hrun, hended, v, locs, rfl, ⟨?_, N⟩, ⟨_, rfl⟩, hW, hsame.mono hk hn⟩
  show Fn v T.heap
  rw [eT]; exact hF
theorem retI (hx : p.tables.exec = Jvm.exec) (hret : meth.sig.returnType = some .int) (hlk : meth.locks = false) {pc : Nat} {Ls : Array Slot} {z : Int32} {rest : List Value} (hd : decode c.code pc = .ok (.ireturn, 1)) (hk : k ≤ mc) (hn : n ≤ ms) (hF : Fn (some (.int z)) h) : Goes p l e R s m args below meth c n0 mc ms Fn h k n (mkF m pc Ls (.int z :: rest)) :=
  endOf hlk (fun q => by rw [hret] at q; cases q) (fun T locs fs X hr => retOut X hx hret rfl (Or.inl ⟨rfl, Or.inl rfl, _, rfl⟩) hd hr) hk hn hF
theorem retL (hx : p.tables.exec = Jvm.exec) (hret : meth.sig.returnType = some .long) (hlk : meth.locks = false) {pc : Nat} {Ls : Array Slot} {z : Int64} {rest : List Value} (hd : decode c.code pc = .ok (.lreturn, 1)) (hk : k ≤ mc) (hn : n ≤ ms) (hF : Fn (some (.long z)) h) : Goes p l e R s m args below meth c n0 mc ms Fn h k n (mkF m pc Ls (.long z :: rest)) :=
  endOf hlk (fun q => by rw [hret] at q; cases q) (fun T locs fs X hr => retOut X hx hret rfl (Or.inr (Or.inl ⟨rfl, rfl, _, rfl⟩)) hd hr) hk hn hF
theorem retA (hx : p.tables.exec = Jvm.exec) {ty : FieldType} (hret : meth.sig.returnType = some ty) (hty : ty.isReference = true) (hlk : meth.locks = false) {pc : Nat} {Ls : Array Slot} {w : Value} {rest : List Value} (hw : w.isRef = true) (hnr : narrow ty w = w) (hd : decode c.code pc = .ok (.areturn, 1)) (hk : k ≤ mc) (hn : n ≤ ms) (hF : Fn (some w) h) : Goes p l e R s m args below meth c n0 mc ms Fn h k n (mkF m pc Ls (w :: rest)) :=
  endOf hlk (fun q => by rw [hret] at q; cases q) (fun T locs fs X hr => retOut X hx hret hnr (Or.inr (Or.inr (Or.inr (Or.inr ⟨rfl, hty, hw⟩)))) hd hr) hk hn hF
theorem retS (hx : p.tables.exec = Jvm.exec) {ty : FieldType} (hret : meth.sig.returnType = some ty) (hty : ty = .boolean ∨ ty = .byte ∨ ty = .char ∨ ty = .short) (hlk : meth.locks = false) {pc : Nat} {Ls : Array Slot} {z : Int32} {rest : List Value} (hd : decode c.code pc = .ok (.ireturn, 1)) (hk : k ≤ mc) (hn : n ≤ ms) (hF : Fn (some (.int (nar ty z))) h) : Goes p l e R s m args below meth c n0 mc ms Fn h k n (mkF m pc Ls (.int z :: rest)) :=
  endOf hlk (fun q => by rw [hret] at q; cases q) (fun T locs fs X hr => retN X hx hret hty hd hr) hk hn hF
theorem retV (hx : p.tables.exec = Jvm.exec) (hret : meth.sig.returnType = none) (hlk : meth.locks = false) {pc : Nat} {Ls : Array Slot} (hd : decode c.code pc = .ok (.return_, 1)) (hk : k ≤ mc) (hn : n ≤ ms) (hF : Fn none h) : Goes p l e R s m args below meth c n0 mc ms Fn h k n (mkF m pc Ls []) :=
  endOf hlk (fun _ => rfl) (fun T locs fs X hr => X.returnOut hx hret hd hr) hk hn hF
/-- a static method by its contract -/
theorem callS (hx : p.tables.exec = Jvm.exec) {Z : State} (hZ : Z.Warmed39 s.vm) {a0 : Array Value} {own : String} (hown : s.vm.findClass own = some m.cls) {i : Nat} {y : MethodName} {bytes : ByteArray} {maxL : Nat} {ret : Option FieldType} {rm : Room} {F : Option Value → Heap → Prop} {argsL rest : List Value}
    (w1 : (Jvm.Cond.methodLink own i y).before a0 Z = true) (w2 : (Jvm.Cond.static y).before a0 Z = true) (w3 : (Jvm.Cond.initialized y.cls).before a0 Z = true) (w4 : (Jvm.Cond.code y bytes maxL ret).before a0 Z = true) (hy : y.cls ≠ "java/lang/invoke/MethodHandle" ∧ y.cls ≠ "java/lang/invoke/VarHandle")
    {sg : ClassFile.MethodDescriptor} (hsg : parseMethodDescriptor y.desc = some sg) (hlen : argsL.length = sg.parameters.length) {pc pc' : Nat} {Ls : Array Slot} {W : Nat} (hW : (rest.map fun v => v.category).sum ≤ W) (hf : rm.frames + 1 ≤ R.frames) (hl : W + (maxL + 11) + rm.locals ≤ R.locals) (hcl : k + rm.cells ≤ R.cells) (hsl : n + rm.slots ≤ R.slots)
    {k' n' : Nat} (hk' : k + rm.cells = k') (hn' : n + rm.slots = n') (hml : Ls.size = c.maxLocals) (st : List Value) (hst : st = argsL.reverse ++ rest) (hd : decode c.code pc = .ok (.invokestatic i, 3)) (hp : pc + 3 = pc') (D : Does l y bytes maxL ret [] rm Z argsL.toArray h n0 F)
    (K : ∀ v h', F v h' → Goes p l e R s m args below meth c n0 mc ms Fn h' k' n' (mkF m pc' Ls (v.toList ++ rest))) : Goes p l e R s m args below meth c n0 mc ms Fn h k n (mkF m pc Ls st) := fun T locs X N eT => by
  subst hp hst hk' hn'
  obtain ⟨v, _, ⟨T', L', k', n'⟩, -, X', ⟨Lc, hQ, l1, y1, z1⟩, st⟩ := Jvm.LawKit.callS X hx (y := y) hown (mvT hZ w1) (mvT hZ w2) (mvT hZ w3) (mvT hZ w4) hy (backOf (W := W) (Q := fun v h' L => F v h' ∧ Fr n0 L) D hZ w4 w3 hf hl) (g := mkF m pc Ls (argsL.reverse ++ rest)) rfl hml (argsL := argsL) (rest := rest) (lenOf hsg hlen) rfl (by show 2 * 0 + _ ≤ _; omega) hd (fun _ _ => ⟨rfl, eT, hcl, hsl⟩)
  dsimp only [Pt.U, Pt.locs, Pt.cells, Pt.slots] at X' l1 y1 z1 st hQ
  subst l1 y1 z1
  obtain ⟨s₂, o, hs, r⟩ := K v T'.heap hQ.1 T' _ X' (N.app hQ.2) rfl
  exact ⟨s₂, o, st _ hs, r⟩
theorem vI {x : Int32} (z : Int32) (q : x = z) {pc : Nat} {Ls : Array Slot} {rest : List Value} (K : Goes p l e R s m args below meth c n0 mc ms Fn h k n (mkF m pc Ls (.int z :: rest))) : Goes p l e R s m args below meth c n0 mc ms Fn h k n (mkF m pc Ls (.int x :: rest)) := by subst q; exact K
theorem vL {x : Int64} (z : Int64) (q : x = z) {pc : Nat} {Ls : Array Slot} {rest : List Value} (K : Goes p l e R s m args below meth c n0 mc ms Fn h k n (mkF m pc Ls (.long z :: rest))) : Goes p l e R s m args below meth c n0 mc ms Fn h k n (mkF m pc Ls (.long x :: rest)) := by subst q; exact K
theorem bool1 {z : Int32} (q : z = 1) : (some (Value.int (nar .boolean z)) : Option Value) = some (.int 1) := by subst q; rfl
end Eng
end Own
namespace Own
section EngH
def FldC (Z : State) (C nm d : String) (v : Value) (cell : Cell) : Prop := ∃ (cf : ClassId) (kk : Class) (i : Nat) (f : Field), Z.fieldFound? C nm d = some (cf, kk, i, f) ∧ f.isStatic = false ∧ cell.vm ≠ .unknown ∧ cell.vm.isStatics = false ∧ Z.vm.assignable cell.cls cf = true ∧ cell.slots[f.slot]? = some v
def ExaC (Z : State) (C : String) (cell : Cell) : Prop := ∃ kk : Class, Z.vm.findClass C = some cell.cls ∧ Z.vm.classes[cell.cls]? = some kk ∧ cell.vm.isStatics = false ∧ (kk.kind = .ordinary → cell.slots.size = kk.instanceTypes.size)
/-- an object of just the class C with these fields (declaring class, name, descriptor) at these values -/
def ObjC (Z : State) (C : String) (fs : List ((String × String × String) × Value)) (cell : Cell) : Prop := ExaC Z C cell ∧ (∀ f ∈ fs, FldC Z f.1.1 f.1.2.1 f.1.2.2 f.2 cell) ∧ (fs.map fun f => Jvm.RoadKit.slotOf Z f.1.1 f.1.2.1 f.1.2.2).Nodup
/-- an array of the kind ty with these values -/
def ArrC (Z : State) (ty : FieldType) (vs : List Value) (cell : Cell) : Prop := Z.isArrayOf cell ty ∧ cell.vm ≠ .unknown ∧ cell.slots.toList = vs ∧ ∀ v ∈ vs, fits ty v = true
/-- the cells at these places, all at or above n0 and unlike, are as said -/
def Owns (n0 : Nat) (h : Heap) (os : List (Addr × (Cell → Prop))) : Prop := n0 ≤ h.size ∧ (os.map Prod.fst).Nodup ∧ ∀ o ∈ os, n0 ≤ o.1 ∧ ∃ cell, h[o.1]? = some cell ∧ o.2 cell
variable {p : Program} {l : Launch} {e : Env} {R : Room} {s : State} {m : MethodId} {args : Array Value} {below : List Frame} {meth : Method} {c : Code} {n0 mc ms : Nat} {Fn : Option Value → Heap → Prop} {h h' : Heap} {k n : Nat} {Z : State} {a0 : Array Value} {os : List (Addr × (Cell → Prop))} {a : Addr}
theorem Owns.nil (q : n0 ≤ h.size) : Owns n0 h [] := ⟨q, List.nodup_nil, fun _ z => nomatch z⟩
theorem Owns.at (O : Owns n0 h os) {i : Nat} {P : Cell → Prop} (hi : os[i]? = some (a, P)) : n0 ≤ a ∧ ∃ cell, h[a]? = some cell ∧ P cell := O.2.2 (a, P) (List.mem_of_getElem? hi)
theorem Owns.lt (O : Owns n0 h os) {o : Addr × (Cell → Prop)} (ho : o ∈ os) : o.1 < h.size := by obtain ⟨-, cell, q, -⟩ := O.2.2 o ho; exact (Array.getElem?_eq_some_iff.mp q).1
theorem Owns.push {P : Cell → Prop} (O : Owns n0 h os) (E : Ext h h') (q : ∃ cell, h'[h.size]? = some cell ∧ P cell) : Owns n0 h' ((h.size, P) :: os) := by
  refine ⟨Nat.le_trans O.1 E.1, ?_, ?_⟩
  · rw [List.map_cons, List.nodup_cons]
    refine ⟨fun z => ?_, O.2.1⟩
    obtain ⟨o, ho, e1⟩ := List.mem_map.mp z
    exact absurd (O.lt ho) (by rw [e1]; exact Nat.lt_irrefl _)
  · intro o ho
    rcases List.mem_cons.mp ho with rfl | ho
    · exact ⟨O.1, q⟩
    · obtain ⟨q1, cell, q2, q3⟩ := O.2.2 o ho
      exact ⟨q1, cell, E.2 _ _ q2, q3⟩
theorem nodup_at {os : List (Addr × (Cell → Prop))} (hN : (os.map Prod.fst).Nodup) {i j : Nat} {P Q : Cell → Prop} (hi : os[i]? = some (a, P)) (hj : os[j]? = some (a, Q)) : i = j := by
  have h1 : (os.map Prod.fst)[i]? = some a := by rw [List.getElem?_map, hi]; rfl
  have h2 : (os.map Prod.fst)[j]? = some a := by rw [List.getElem?_map, hj]; rfl
  obtain ⟨l1, e1⟩ := List.getElem?_eq_some_iff.mp h1
  obtain ⟨l2, e2⟩ := List.getElem?_eq_some_iff.mp h2
  exact (List.getElem_inj hN).mp (e1.trans e2.symm)
/-- the cell at one owned place is another one now; all others stay -/
theorem Owns.upd {P P' : Cell → Prop} (O : Owns n0 h os) {i : Nat} (hi : os[i]? = some (a, P)) (hs : h.size ≤ h'.size) (ho : ∀ x cell, h[x]? = some cell → x ≠ a → h'[x]? = some cell) (ha : ∃ cell, h'[a]? = some cell ∧ P' cell) : Owns n0 h' (os.set i (a, P')) := by
  have hlt : i < os.length := (List.getElem?_eq_some_iff.mp hi).1
  refine ⟨Nat.le_trans O.1 hs, ?_, ?_⟩
  · have e1 : (os.set i (a, P')).map Prod.fst = os.map Prod.fst := by
      rw [List.map_set]
      refine List.ext_getElem? fun j => ?_
      rw [List.getElem?_set]
      split
      · next q => subst q; rw [List.getElem?_map, hi]; simp [hlt]
      · rfl
    rw [e1]; exact O.2.1
  · intro o hm
    obtain ⟨j, hj⟩ := List.getElem?_of_mem hm
    rw [List.getElem?_set] at hj
    split at hj
    · simp only [hlt, if_true, Option.some.injEq] at hj
      subst hj
      exact ⟨(O.at hi).1, ha⟩
    · next q =>
      obtain ⟨oa, oP⟩ := o
      obtain ⟨q1, cell, q2, q3⟩ := O.at hj
      refine ⟨q1, cell, ho _ _ q2 fun z => ?_, q3⟩
      subst z
      exact q (nodup_at O.2.1 hi hj)
theorem wr_get {sl : Nat} {v : Value} (W : Wr h h' a sl v) : h.size ≤ h'.size ∧ (∀ x cell, h[x]? = some cell → x ≠ a → h'[x]? = some cell) ∧ ∀ cell, h[a]? = some cell → h'[a]? = some (cell.setSlot sl v) := by
  obtain ⟨cell, h1, h2, h3, rfl⟩ := W
  refine ⟨by simp, fun x cx hx hne => ?_, fun c' hc' => ?_⟩
  · rw [Array.getElem?_setIfInBounds_ne (Ne.symm hne)]; exact hx
  · cases h1.symm.trans hc'
    have := (Array.getElem?_eq_some_iff.mp h1).1
    simp [this]
theorem Owns.wr {P P' : Cell → Prop} {sl : Nat} {v : Value} (O : Owns n0 h os) {i : Nat} (hi : os[i]? = some (a, P)) (W : Wr h h' a sl v) (q : ∀ cell, P cell → P' (cell.setSlot sl v)) : Owns n0 h' (os.set i (a, P')) := by
  obtain ⟨w1, w2, w3⟩ := wr_get W
  obtain ⟨-, cell, q1, q2⟩ := O.at hi
  exact O.upd hi w1 w2 ⟨_, w3 _ q1, q _ q2⟩
/-- the i-th object is brought to the front -/
theorem Owns.pick (O : Owns n0 h os) (i : Nat) {o : Addr × (Cell → Prop)} (hi : os[i]? = some o) : Owns n0 h (o :: os.eraseIdx i) := by
  have hlt : i < os.length := (List.getElem?_eq_some_iff.mp hi).1
  have hp : os.Perm (o :: os.eraseIdx i) := by
    have h2 : os[i] = o := (List.getElem?_eq_some_iff.mp hi).2
    have h3 : os = os.take i ++ o :: os.drop (i + 1) := by rw [← h2, List.getElem_cons_drop, List.take_append_drop]
    rw [List.eraseIdx_eq_take_drop_succ]
    conv => lhs; rw [h3]
    exact List.perm_middle
  exact ⟨O.1, (hp.map Prod.fst).nodup_iff.mp O.2.1, fun z hz => O.2.2 z (hp.mem_iff.mpr hz)⟩
theorem Owns.cast {os' : List (Addr × (Cell → Prop))} (O : Owns n0 h os) (q : os = os') : Owns n0 h os' := q ▸ O
theorem Owns.tail {o : Addr × (Cell → Prop)} (O : Owns n0 h (o :: os)) : Owns n0 h os := ⟨O.1, by have h1 := O.2.1; rw [List.map_cons, List.nodup_cons] at h1; exact h1.2, fun z hz => O.2.2 z (List.mem_cons_of_mem _ hz)⟩
theorem fld_of {C nm d : String} {v : Value} {cell : Cell} (q : h[a]? = some cell) (F : FldC Z C nm d v cell) : Fld Z h a C nm d v := by obtain ⟨cf, kk, i, f, r⟩ := F; exact ⟨cell, cf, kk, i, f, q, r⟩
theorem exa_of {C : String} {cell : Cell} (q : h[a]? = some cell) (F : ExaC Z C cell) : Exa Z h a C := by obtain ⟨kk, r⟩ := F; exact ⟨cell, kk, q, r⟩
theorem fldC_of {C nm d : String} {v : Value} {cell : Cell} (q : h[a]? = some cell) (F : Fld Z h a C nm d v) : FldC Z C nm d v cell := by obtain ⟨c', cf, kk, i, f, q', r⟩ := F; cases q.symm.trans q'; exact ⟨cf, kk, i, f, r⟩
theorem exaC_of {C : String} {cell : Cell} (q : h[a]? = some cell) (F : Exa Z h a C) : ExaC Z C cell := by obtain ⟨c', kk, q', r⟩ := F; cases q.symm.trans q'; exact ⟨kk, r⟩
theorem Owns.fld {C : String} {fs : List ((String × String × String) × Value)} (O : Owns n0 h os) {i j : Nat} (hi : os[i]? = some (a, ObjC Z C fs)) {C' nm d : String} {v : Value} (hj : fs[j]? = some ((C', nm, d), v)) : Fld Z h a C' nm d v := by
  obtain ⟨-, cell, q1, q2⟩ := O.at hi
  exact fld_of q1 (q2.2.1 _ (List.mem_of_getElem? hj))
theorem Owns.exa {C : String} {fs : List ((String × String × String) × Value)} (O : Owns n0 h os) {i : Nat} (hi : os[i]? = some (a, ObjC Z C fs)) : Exa Z h a C := by
  obtain ⟨-, cell, q1, q2⟩ := O.at hi
  exact exa_of q1 q2.1
theorem getfield (hx : p.tables.exec = Jvm.exec) (hZ : Z.Warmed39 s.vm) {own : String} (hown : s.vm.findClass own = some m.cls) (O : Owns n0 h os) (i j : Nat) {C C' nm d : String} {fs : List ((String × String × String) × Value)} (hi : os[i]? = some (a, ObjC Z C fs)) {v : Value} (hj : fs[j]? = some ((C', nm, d), v))
    {pc pc' idx : Nat} {Ls : Array Slot} {rest : List Value} (w : (Jvm.Cond.fieldLink own idx C' nm d).before a0 Z = true) (hd : decode c.code pc = .ok (.getfield idx, 3)) (hp : pc + 3 = pc') (K : Goes p l e R s m args below meth c n0 mc ms Fn h k n (mkF m pc' Ls (v :: rest))) : Goes p l e R s m args below meth c n0 mc ms Fn h k n (mkF m pc Ls (.ref a :: rest)) := by
  subst hp
  refine Goes.move (Pr := fun h' => h' = h) (k' := k) (n' := n) (g' := mkF m (pc + 3) Ls (v :: rest)) (fun T locs X N eT => ?_) (fun h' q => by rw [q]; exact K)
  obtain ⟨T', X', e', st⟩ := getF X hx hZ hown (host := "") (Or.inl w) Via.refl eT (O.fld hi hj) (g := mkF m pc Ls (.ref a :: rest)) rfl rfl hd
  exact ⟨T', locs, X', N, e', st⟩
theorem obj_set {C : String} {fs : List ((String × String × String) × Value)} {j : Nat} {C' nm d : String} {old v : Value} (hj : fs[j]? = some ((C', nm, d), old)) {cell : Cell} (q : ObjC Z C fs cell) : ObjC Z C (fs.set j ((C', nm, d), v)) (cell.setSlot (Jvm.RoadKit.slotOf Z C' nm d) v) := by
  obtain ⟨q1, q2, q3⟩ := q
  have hq : (#[cell] : Heap)[0]? = some cell := rfl
  have F0 := q2 _ (List.mem_of_getElem? hj)
  have hst : cell.vm.isStatics = false := by obtain ⟨_, _, _, _, _, _, _, r, _⟩ := F0; exact r
  have hsl : Jvm.RoadKit.slotOf Z C' nm d < cell.slots.size := by
    obtain ⟨cf, kk, i, f, r1, -, -, -, -, r2⟩ := F0
    have e1 : Jvm.RoadKit.slotOf Z C' nm d = f.slot := by simp [Jvm.RoadKit.slotOf, r1]
    rw [e1]; exact (Array.getElem?_eq_some_iff.mp r2).1
  have W : Wr #[cell] #[cell.setSlot (Jvm.RoadKit.slotOf Z C' nm d) v] 0 (Jvm.RoadKit.slotOf Z C' nm d) v := ⟨cell, hq, hst, hsl, by simp⟩
  have hq' : (#[cell.setSlot (Jvm.RoadKit.slotOf Z C' nm d) v] : Heap)[0]? = some (cell.setSlot (Jvm.RoadKit.slotOf Z C' nm d) v) := rfl
  have hlt : j < fs.length := (List.getElem?_eq_some_iff.mp hj).1
  have hslots : (fs.set j ((C', nm, d), v)).map (fun f => Jvm.RoadKit.slotOf Z f.1.1 f.1.2.1 f.1.2.2) = fs.map (fun f => Jvm.RoadKit.slotOf Z f.1.1 f.1.2.1 f.1.2.2) := by
    rw [List.map_set]
    refine List.ext_getElem? fun i => ?_
    rw [List.getElem?_set]
    split
    · next z => subst z; rw [List.getElem?_map, hj]; simp [hlt]
    · rfl
  refine ⟨exaC_of hq' ((exa_of hq q1).wr W), fun f hf => ?_, by rw [hslots]; exact q3⟩
  obtain ⟨i, hi⟩ := List.getElem?_of_mem hf
  rw [List.getElem?_set] at hi
  split at hi
  · simp only [hlt, if_true, Option.some.injEq] at hi
    subst hi
    exact fldC_of hq' ((fld_of hq F0).same W)
  · next z =>
    refine fldC_of hq' ((fld_of hq (q2 f (List.mem_of_getElem? hi))).other W (Or.inr fun y => z ?_))
    have h1 : (fs.map (fun f => Jvm.RoadKit.slotOf Z f.1.1 f.1.2.1 f.1.2.2))[i]? = some (Jvm.RoadKit.slotOf Z f.1.1 f.1.2.1 f.1.2.2) := by rw [List.getElem?_map, hi]; rfl
    have h2 : (fs.map (fun f => Jvm.RoadKit.slotOf Z f.1.1 f.1.2.1 f.1.2.2))[j]? = some (Jvm.RoadKit.slotOf Z C' nm d) := by rw [List.getElem?_map, hj]; rfl
    obtain ⟨l1, e1⟩ := List.getElem?_eq_some_iff.mp h1
    obtain ⟨l2, e2⟩ := List.getElem?_eq_some_iff.mp h2
    exact ((List.getElem_inj q3).mp (e1.trans (y.trans e2.symm))).symm
theorem putfield (hx : p.tables.exec = Jvm.exec) (hZ : Z.Warmed39 s.vm) {own : String} (hown : s.vm.findClass own = some m.cls) (O : Owns n0 h os) (i j : Nat) {C C' nm d : String} {fs : List ((String × String × String) × Value)} (hi : os[i]? = some (a, ObjC Z C fs)) {old v : Value} (hj : fs[j]? = some ((C', nm, d), old))
    {pc pc' idx kk : Nat} {Ls : Array Slot} {rest : List Value} (w : (Jvm.Cond.fieldLink own idx C' nm d).before a0 Z = true) (L : (Jvm.Cond.lays C C' nm d).before a0 Z = true ∨ ((Jvm.Cond.laysFinal C C' nm d).before a0 Z = true ∧ own = C' ∧ meth.name = "<init>")) (wi : (Jvm.Cond.instantiable C kk).before a0 Z = true)
    {ty : FieldType} (hty : parseFieldDescriptor d = some ty) (hnr : narrow ty v = v) (hf : fits ty v = true) (os' : List (Addr × (Cell → Prop))) (hos : os.set i (a, ObjC Z C (fs.set j ((C', nm, d), v))) = os')
    (hd : decode c.code pc = .ok (.putfield idx, 3)) (hp : pc + 3 = pc') (K : ∀ h', Owns n0 h' os' → Goes p l e R s m args below meth c n0 mc ms Fn h' k n (mkF m pc' Ls rest)) : Goes p l e R s m args below meth c n0 mc ms Fn h k n (mkF m pc Ls (v :: .ref a :: rest)) := by
  subst hp hos
  refine Goes.move (Pr := fun h' => Owns n0 h' (os.set i (a, ObjC Z C (fs.set j ((C', nm, d), v))))) (fun T locs X N eT => ?_) K
  obtain ⟨T', h', X', e', W, st⟩ := putF X hx hZ hown (host := "") (Or.inl w) Via.refl eT (O.fld hi hj) (O.exa hi) L wi hty hnr hf (g := mkF m pc Ls (v :: .ref a :: rest)) rfl rfl hd
  exact ⟨T', _, X', Fr.snoc X' N (O.at hi).1, by rw [e']; exact O.wr hi W fun cell q => obj_set hj q, st⟩
theorem nodup_slots {C : String} : ∀ {fs : List ((String × String × String) × Value)}, (∀ f ∈ fs, Laid Z a0 C f.1.1 f.1.2.1 f.1.2.2 ∧ ∃ ty, parseFieldDescriptor f.1.2.2 = some ty ∧ defaultValue ty = f.2) → (fs.map fun f => f.1.2.1).Nodup → (fs.map fun f => Jvm.RoadKit.slotOf Z f.1.1 f.1.2.1 f.1.2.2).Nodup
  | [], _, _ => List.nodup_nil
  | f :: fs, hL, hN => by
    rw [List.map_cons, List.nodup_cons] at hN ⊢
    refine ⟨fun z => ?_, nodup_slots (fun g hg => hL g (List.mem_cons_of_mem _ hg)) hN.2⟩
    obtain ⟨g, hg, e1⟩ := List.mem_map.mp z
    obtain ⟨L1, d1⟩ := hL f List.mem_cons_self
    obtain ⟨L2, d2⟩ := hL g (List.mem_cons_of_mem _ hg)
    obtain ⟨t1, t1', -⟩ := d1
    obtain ⟨t2, t2', -⟩ := d2
    exact slot_ne L1 L2 (fun q => hN.1 (List.mem_map.mpr ⟨g, hg, q.symm⟩)) t1' t2' e1.symm
theorem newobj (hx : p.tables.exec = Jvm.exec) (hZ : Z.Warmed39 s.vm) {own : String} (hown : s.vm.findClass own = some m.cls) (O : Owns n0 h os) {C : String} {idx kk : Nat} (w1 : (Jvm.Cond.classLink own idx C).before a0 Z = true) (w2 : (Jvm.Cond.instantiable C kk).before a0 Z = true) (w3 : (Jvm.Cond.initialized C).before a0 Z = true)
    (fs : List ((String × String × String) × Value)) (hL : ∀ f ∈ fs, Laid Z a0 C f.1.1 f.1.2.1 f.1.2.2 ∧ ∃ ty, parseFieldDescriptor f.1.2.2 = some ty ∧ defaultValue ty = f.2) (hN : (fs.map fun f => f.1.2.1).Nodup) {k' n' : Nat} (hk' : k + 1 = k') (hn' : n + kk = n') (hc : k' ≤ R.cells) (hl : n' ≤ R.slots)
    {pc pc' : Nat} {Ls : Array Slot} {rest : List Value} (hd : decode c.code pc = .ok (.new idx, 3)) (hp : pc + 3 = pc') (K : ∀ a h', Owns n0 h' ((a, ObjC Z C fs) :: os) → Goes p l e R s m args below meth c n0 mc ms Fn h' k' n' (mkF m pc' Ls (.ref a :: rest))) : Goes p l e R s m args below meth c n0 mc ms Fn h k n (mkF m pc Ls rest) := by
  subst hp hk' hn'
  refine Goes.move (Pr := fun h' => Owns n0 h' ((h.size, ObjC Z C fs) :: os)) (fun T locs X N eT => ?_) (fun h' q => K _ _ q)
  obtain ⟨T', h', X', e', E, A, D, ⟨cell, q1, -, -⟩, st⟩ := newO X hx hZ hown w1 w2 w3 eT (g := mkF m pc Ls rest) rfl hd hc hl
  refine ⟨T', locs, X', N, ?_, st⟩
  rw [e']
  refine O.push E ⟨cell, q1, exaC_of q1 A, fun f hf => ?_, nodup_slots hL hN⟩
  obtain ⟨L1, d1⟩ := hL f hf
  obtain ⟨t1, t1', t1''⟩ := d1
  have := D L1 t1'
  rw [t1''] at this
  exact fldC_of q1 this
theorem idx_ok {j : Int32} {i len : Nat} (hj : j.toInt = (i : Int)) (hi : i < len) : ¬ (j < 0 ∨ len ≤ j.toNatClampNeg) ∧ j.toNatClampNeg = i := by
  have h0 : ¬ j < 0 := fun q => by have := Int32.lt_iff_toInt_lt.mp q; rw [hj] at this; have h1 : (0 : Int32).toInt = 0 := by decide
                                   omega
  have h1 : j.toNatClampNeg = i := by have := nat_of h0; omega
  exact ⟨fun q => by rcases q with q | q
                     · exact h0 q
                     · omega, h1⟩
theorem newarr (hx : p.tables.exec = Jvm.exec) (hZ : Z.Warmed39 s.vm) (O : Owns n0 h os) {aty : ArrayType} (w : (Jvm.Cond.arrayClass (newarray.typeOf aty)).before a0 Z = true) {z : Int32} (len : Nat) (hz : z.toInt = (len : Int)) (vs : List Value) (hvs : List.replicate len (defaultValue (newarray.typeOf aty)) = vs) (hfit : fits (newarray.typeOf aty) (defaultValue (newarray.typeOf aty)) = true) {cap : Nat} (hcap : len ≤ cap) (hbg : cap * 8 ≤ 536870912) {k' n' : Nat} (hk' : k + 1 = k') (hn' : n + cap = n') (hc : k' ≤ R.cells) (hl : n' ≤ R.slots)
    {pc pc' : Nat} {Ls : Array Slot} {rest : List Value} (hd : decode c.code pc = .ok (.newarray aty, 2)) (hp : pc + 2 = pc') (K : ∀ a h', Owns n0 h' ((a, ArrC Z (newarray.typeOf aty) vs) :: os) → Goes p l e R s m args below meth c n0 mc ms Fn h' k' n' (mkF m pc' Ls (.ref a :: rest))) : Goes p l e R s m args below meth c n0 mc ms Fn h k n (mkF m pc Ls (.int z :: rest)) := by
  subst hp hk' hn' hvs
  have hz0 : ¬ z < 0 := fun q => by have := Int32.lt_iff_toInt_lt.mp q; rw [hz] at this; have h1 : (0 : Int32).toInt = 0 := by decide
                                    omega
  have hz1 : z.toNatClampNeg = len := by have := nat_of hz0; omega
  refine Goes.move (Pr := fun h' => Owns n0 h' ((h.size, ArrC Z (newarray.typeOf aty) (List.replicate len (defaultValue (newarray.typeOf aty)))) :: os)) (fun T locs X N eT => ?_) (fun h' q => K _ _ q)
  obtain ⟨T', h', cA, X', e', E, A, st⟩ := newP X hx hZ w eT (g := mkF m pc Ls (.int z :: rest)) rfl hd rfl hz0 (cap := cap) (by omega) hbg hc hl
  refine ⟨T', locs, X', N, ?_, st⟩
  rw [e']
  refine O.push E ⟨_, A.1, A.2.1, A.2.2, by simp [newA, hz1], fun v hv => ?_⟩
  rw [(List.mem_replicate.mp hv).2]; exact hfit
theorem arrlen (hx : p.tables.exec = Jvm.exec) (hZ : Z.Warmed39 s.vm) (O : Owns n0 h os) (i : Nat) {ty : FieldType} {vs : List Value} (hi : os[i]? = some (a, ArrC Z ty vs)) (z : Int32) (hz : vs.length.toInt32 = z) {pc pc' : Nat} {Ls : Array Slot} {rest : List Value} (hd : decode c.code pc = .ok (.arraylength, 1)) (hp : pc + 1 = pc')
    (K : Goes p l e R s m args below meth c n0 mc ms Fn h k n (mkF m pc' Ls (.int z :: rest))) : Goes p l e R s m args below meth c n0 mc ms Fn h k n (mkF m pc Ls (.ref a :: rest)) := fun T locs X N eT => by
  subst hp hz
  obtain ⟨-, cell, q1, q2, q3, q4, q5⟩ := O.at hi
  obtain ⟨s₂, o, hs, r⟩ := K T locs X N eT
  refine ⟨s₂, o, ?_, r⟩
  refine X.arraylength hx (by rw [eT]; exact q1) (State.isArrayOf_alike hZ.alike q2) (g := mkF m pc Ls (.ref a :: rest)) rfl rfl hd _ ?_
  have e1 : cell.slots.size = vs.length := by rw [← q4, Array.length_toList]
  rw [e1]; exact hs
theorem iaload (hx : p.tables.exec = Jvm.exec) (hZ : Z.Warmed39 s.vm) (O : Owns n0 h os) (i j : Nat) {vs : List Value} (hi : os[i]? = some (a, ArrC Z .int vs)) {jj : Int32} (hj : jj.toInt = (j : Int)) {v : Value} (hv : vs[j]? = some v) {pc pc' : Nat} {Ls : Array Slot} {rest : List Value} (hd : decode c.code pc = .ok (.iaload, 1)) (hp : pc + 1 = pc')
    (K : Goes p l e R s m args below meth c n0 mc ms Fn h k n (mkF m pc' Ls (v :: rest))) : Goes p l e R s m args below meth c n0 mc ms Fn h k n (mkF m pc Ls (.int jj :: .ref a :: rest)) := fun T locs X N eT => by
  subst hp
  obtain ⟨-, cell, q1, q2, q3, q4, q5⟩ := O.at hi
  have e1 : cell.slots.size = vs.length := by rw [← q4, Array.length_toList]
  obtain ⟨hin, hjn⟩ := idx_ok hj (len := cell.slots.size) (by rw [e1]; exact (List.getElem?_eq_some_iff.mp hv).1)
  obtain ⟨s₂, o, hs, r⟩ := K T locs X N eT
  refine ⟨s₂, o, X.iaload hx (by rw [eT]; exact q1) (State.isArrayOf_alike hZ.alike q2) q3 hin (by rw [hjn, ← Array.getElem?_toList, q4]; exact hv) (g := mkF m pc Ls (.int jj :: .ref a :: rest)) rfl rfl hd _ hs, r⟩
theorem laload (hx : p.tables.exec = Jvm.exec) (hZ : Z.Warmed39 s.vm) (O : Owns n0 h os) (i j : Nat) {vs : List Value} (hi : os[i]? = some (a, ArrC Z .long vs)) {jj : Int32} (hj : jj.toInt = (j : Int)) {v : Value} (hv : vs[j]? = some v) {pc pc' : Nat} {Ls : Array Slot} {rest : List Value} (hd : decode c.code pc = .ok (.laload, 1)) (hp : pc + 1 = pc')
    (K : Goes p l e R s m args below meth c n0 mc ms Fn h k n (mkF m pc' Ls (v :: rest))) : Goes p l e R s m args below meth c n0 mc ms Fn h k n (mkF m pc Ls (.int jj :: .ref a :: rest)) := fun T locs X N eT => by
  subst hp
  obtain ⟨-, cell, q1, q2, q3, q4, q5⟩ := O.at hi
  have e1 : cell.slots.size = vs.length := by rw [← q4, Array.length_toList]
  obtain ⟨hin, hjn⟩ := idx_ok hj (len := cell.slots.size) (by rw [e1]; exact (List.getElem?_eq_some_iff.mp hv).1)
  obtain ⟨s₂, o, hs, r⟩ := K T locs X N eT
  refine ⟨s₂, o, X.laload hx (by rw [eT]; exact q1) (State.isArrayOf_alike hZ.alike q2) q3 hin (by rw [hjn, ← Array.getElem?_toList, q4]; exact hv) (g := mkF m pc Ls (.int jj :: .ref a :: rest)) rfl rfl hd _ hs, r⟩
theorem caload (hx : p.tables.exec = Jvm.exec) (hZ : Z.Warmed39 s.vm) (O : Owns n0 h os) (i j : Nat) {vs : List Value} (hi : os[i]? = some (a, ArrC Z .char vs)) {jj : Int32} (hj : jj.toInt = (j : Int)) {v : Value} (hv : vs[j]? = some v) {pc pc' : Nat} {Ls : Array Slot} {rest : List Value} (hd : decode c.code pc = .ok (.caload, 1)) (hp : pc + 1 = pc')
    (K : Goes p l e R s m args below meth c n0 mc ms Fn h k n (mkF m pc' Ls (v :: rest))) : Goes p l e R s m args below meth c n0 mc ms Fn h k n (mkF m pc Ls (.int jj :: .ref a :: rest)) := fun T locs X N eT => by
  subst hp
  obtain ⟨-, cell, q1, q2, q3, q4, q5⟩ := O.at hi
  have e1 : cell.slots.size = vs.length := by rw [← q4, Array.length_toList]
  obtain ⟨hin, hjn⟩ := idx_ok hj (len := cell.slots.size) (by rw [e1]; exact (List.getElem?_eq_some_iff.mp hv).1)
  obtain ⟨s₂, o, hs, r⟩ := K T locs X N eT
  refine ⟨s₂, o, X.caload hx (by rw [eT]; exact q1) (State.isArrayOf_alike hZ.alike q2) q3 hin (by rw [hjn, ← Array.getElem?_toList, q4]; exact hv) (g := mkF m pc Ls (.int jj :: .ref a :: rest)) rfl rfl hd _ hs, r⟩
theorem iastore (hx : p.tables.exec = Jvm.exec) (hZ : Z.Warmed39 s.vm) (O : Owns n0 h os) (i j : Nat) {vs : List Value} (hi : os[i]? = some (a, ArrC Z .int vs)) {jj : Int32} (hj : jj.toInt = (j : Int)) (hv : j < vs.length) {x : Int32} (os' : List (Addr × (Cell → Prop))) (hos : os.set i (a, ArrC Z .int (vs.set j (.int x))) = os') {pc pc' : Nat} {Ls : Array Slot} {rest : List Value} (hd : decode c.code pc = .ok (.iastore, 1)) (hp : pc + 1 = pc')
    (K : ∀ h', Owns n0 h' os' → Goes p l e R s m args below meth c n0 mc ms Fn h' k n (mkF m pc' Ls rest)) : Goes p l e R s m args below meth c n0 mc ms Fn h k n (mkF m pc Ls (.int x :: .int jj :: .ref a :: rest)) := by
  subst hp hos
  refine Goes.move (Pr := fun h' => Owns n0 h' (os.set i (a, ArrC Z .int (vs.set j (.int x))))) (fun T locs X N eT => ?_) K
  obtain ⟨q0, cell, q1, q2, q3, q4, q5⟩ := O.at hi
  have e1 : cell.slots.size = vs.length := by rw [← q4, Array.length_toList]
  obtain ⟨hin, hjn⟩ := idx_ok hj (len := cell.slots.size) (by rw [e1]; exact hv)
  obtain ⟨T', h', X', e', W, st'⟩ := stI X hx hZ eT ⟨q1, q2, q3⟩ hin (g := mkF m pc Ls (.int x :: .int jj :: .ref a :: rest)) rfl rfl hd
  refine ⟨T', _, X', Fr.snoc X' N q0, ?_, st'⟩
  rw [e']
  rw [hjn] at W
  obtain ⟨w1, w2, w3⟩ := wr_get W
  exact O.upd hi w1 w2 ⟨_, w3 _ q1, q2, q3, by simp [Cell.setSlot, Array.toList_setIfInBounds, q4], fun v hv' => by
    rcases List.mem_or_eq_of_mem_set hv' with z | z
    · exact q5 v z
    · rw [z]; exact rfl⟩
theorem lastore (hx : p.tables.exec = Jvm.exec) (hZ : Z.Warmed39 s.vm) (O : Owns n0 h os) (i j : Nat) {vs : List Value} (hi : os[i]? = some (a, ArrC Z .long vs)) {jj : Int32} (hj : jj.toInt = (j : Int)) (hv : j < vs.length) {x : Int64} (os' : List (Addr × (Cell → Prop))) (hos : os.set i (a, ArrC Z .long (vs.set j (.long x))) = os') {pc pc' : Nat} {Ls : Array Slot} {rest : List Value} (hd : decode c.code pc = .ok (.lastore, 1)) (hp : pc + 1 = pc')
    (K : ∀ h', Owns n0 h' os' → Goes p l e R s m args below meth c n0 mc ms Fn h' k n (mkF m pc' Ls rest)) : Goes p l e R s m args below meth c n0 mc ms Fn h k n (mkF m pc Ls (.long x :: .int jj :: .ref a :: rest)) := by
  subst hp hos
  refine Goes.move (Pr := fun h' => Owns n0 h' (os.set i (a, ArrC Z .long (vs.set j (.long x))))) (fun T locs X N eT => ?_) K
  obtain ⟨q0, cell, q1, q2, q3, q4, q5⟩ := O.at hi
  have e1 : cell.slots.size = vs.length := by rw [← q4, Array.length_toList]
  obtain ⟨hin, hjn⟩ := idx_ok hj (len := cell.slots.size) (by rw [e1]; exact hv)
  obtain ⟨T', h', X', e', W, st'⟩ := stJ X hx hZ eT ⟨q1, q2, q3⟩ hin (g := mkF m pc Ls (.long x :: .int jj :: .ref a :: rest)) rfl rfl hd
  refine ⟨T', _, X', Fr.snoc X' N q0, ?_, st'⟩
  rw [e']
  rw [hjn] at W
  obtain ⟨w1, w2, w3⟩ := wr_get W
  exact O.upd hi w1 w2 ⟨_, w3 _ q1, q2, q3, by simp [Cell.setSlot, Array.toList_setIfInBounds, q4], fun v hv' => by
    rcases List.mem_or_eq_of_mem_set hv' with z | z
    · exact q5 v z
    · rw [z]; exact rfl⟩
theorem castore (hx : p.tables.exec = Jvm.exec) (hZ : Z.Warmed39 s.vm) (O : Owns n0 h os) (i j : Nat) {vs : List Value} (hi : os[i]? = some (a, ArrC Z .char vs)) {jj : Int32} (hj : jj.toInt = (j : Int)) (hv : j < vs.length) {x : Int32} (os' : List (Addr × (Cell → Prop))) (hos : os.set i (a, ArrC Z .char (vs.set j (.int (nar .char x)))) = os') {pc pc' : Nat} {Ls : Array Slot} {rest : List Value} (hd : decode c.code pc = .ok (.castore, 1)) (hp : pc + 1 = pc')
    (K : ∀ h', Owns n0 h' os' → Goes p l e R s m args below meth c n0 mc ms Fn h' k n (mkF m pc' Ls rest)) : Goes p l e R s m args below meth c n0 mc ms Fn h k n (mkF m pc Ls (.int x :: .int jj :: .ref a :: rest)) := by
  subst hp hos
  refine Goes.move (Pr := fun h' => Owns n0 h' (os.set i (a, ArrC Z .char (vs.set j (.int (nar .char x)))))) (fun T locs X N eT => ?_) K
  obtain ⟨q0, cell, q1, q2, q3, q4, q5⟩ := O.at hi
  have e1 : cell.slots.size = vs.length := by rw [← q4, Array.length_toList]
  obtain ⟨hin, hjn⟩ := idx_ok hj (len := cell.slots.size) (by rw [e1]; exact hv)
  obtain ⟨T', h', X', e', W, st'⟩ := stC X hx hZ eT ⟨q1, q2, q3⟩ hin (g := mkF m pc Ls (.int x :: .int jj :: .ref a :: rest)) rfl rfl hd
  refine ⟨T', _, X', Fr.snoc X' N q0, ?_, st'⟩
  rw [e']
  rw [hjn] at W
  obtain ⟨w1, w2, w3⟩ := wr_get W
  exact O.upd hi w1 w2 ⟨_, w3 _ q1, q2, q3, by simp [Cell.setSlot, Array.toList_setIfInBounds, q4], fun v hv' => by
    rcases List.mem_or_eq_of_mem_set hv' with z | z
    · exact q5 v z
    · rw [z]; exact fits_nar_char x⟩
theorem initobj (hx : p.tables.exec = Jvm.exec) (hZ : Z.Warmed39 s.vm) {own : String} (hown : s.vm.findClass own = some m.cls) {idx : Nat} (w1 : (Jvm.Cond.methodLink own idx Lib.objectInit).before a0 Z = true) (w2 : (Jvm.Cond.instanceMethod Lib.objectInit).before a0 Z = true) (w3 : (Jvm.Cond.code Lib.objectInit ⟨#[0xb1]⟩ 1 none).before a0 Z = true)
    {pc pc' : Nat} {Ls : Array Slot} {rest : List Value} (hml : Ls.size = c.maxLocals) {W : Nat} (hW : (rest.map fun v => v.category).sum ≤ W) (hf : 1 ≤ R.frames) (hl : W + 12 ≤ R.locals) (hd : decode c.code pc = .ok (.invokespecial idx, 3)) (hp : pc + 3 = pc') (K : Goes p l e R s m args below meth c n0 mc ms Fn h k n (mkF m pc' Ls rest)) : Goes p l e R s m args below meth c n0 mc ms Fn h k n (mkF m pc Ls (.ref a :: rest)) := by
  subst hp
  refine Goes.move (Pr := fun h' => h' = h) (k' := k) (n' := n) (g' := mkF m (pc + 3) Ls rest) (fun T locs X N eT => ?_) (fun h' q => by rw [q]; exact K)
  obtain ⟨T', X', e', st⟩ := initO X hx hZ hown w1 w2 w3 eT (g := mkF m pc Ls (.ref a :: rest)) rfl hml rfl hd hf (W := W) (by show 2 * 0 + _ ≤ _; omega) hl
  exact ⟨T', locs, X', N, e', st⟩
/-- a constructor by its contract -/
theorem callI (hx : p.tables.exec = Jvm.exec) (hZ : Z.Warmed39 s.vm) {own : String} (hown : s.vm.findClass own = some m.cls) {i : Nat} {y : MethodName} (hyn : y.name = "<init>") {bytes : ByteArray} {maxL : Nat} {rm : Room} {F : Option Value → Heap → Prop} {argsL rest : List Value}
    (w1 : (Jvm.Cond.methodLink own i y).before a0 Z = true) (w2 : (Jvm.Cond.instanceMethod y).before a0 Z = true) (w3 : (Jvm.Cond.initialized y.cls).before a0 Z = true) (w4 : (Jvm.Cond.code y bytes maxL none).before a0 Z = true) (hy : y.cls ≠ "java/lang/invoke/MethodHandle" ∧ y.cls ≠ "java/lang/invoke/VarHandle")
    {sg : ClassFile.MethodDescriptor} (hsg : parseMethodDescriptor y.desc = some sg) (hlen : argsL.length = sg.parameters.length) {pc pc' : Nat} {Ls : Array Slot} {W : Nat} (hW : (rest.map fun v => v.category).sum ≤ W) (hf : rm.frames + 1 ≤ R.frames) (hl : W + (maxL + 11) + rm.locals ≤ R.locals) (hcl : k + rm.cells ≤ R.cells) (hsl : n + rm.slots ≤ R.slots)
    {k' n' : Nat} (hk' : k + rm.cells = k') (hn' : n + rm.slots = n') (hml : Ls.size = c.maxLocals) (st : List Value) (hst : st = argsL.reverse ++ .ref a :: rest) (hd : decode c.code pc = .ok (.invokespecial i, 3)) (hp : pc + 3 = pc') (D : Does l y bytes maxL none [] rm Z (.ref a :: argsL).toArray h n0 F)
    (K : ∀ v h', F v h' → Goes p l e R s m args below meth c n0 mc ms Fn h' k' n' (mkF m pc' Ls (v.toList ++ rest))) : Goes p l e R s m args below meth c n0 mc ms Fn h k n (mkF m pc Ls st) := fun T locs X N eT => by
  subst hp hst hk' hn'
  obtain ⟨v, _, ⟨T', L', k', n'⟩, -, X', ⟨Lc, hQ, l1, y1, z1⟩, st⟩ := X.specialBack hx (y := y) hyn hown (mvT hZ w1) (mvT hZ w2) (mvT hZ w4) hy (backOf (W := W) (Q := fun v h' L => F v h' ∧ Fr n0 L) D hZ w4 w3 hf hl) (g := mkF m pc Ls (argsL.reverse ++ .ref a :: rest)) rfl hml (Steps.refl _) (a := a) (argsL := argsL) (rest := rest) (lenOf hsg hlen) rfl (by show 2 * 0 + _ ≤ _; omega) hd (fun _ _ => ⟨rfl, eT, hcl, hsl⟩)
  dsimp only [Pt.U, Pt.locs, Pt.cells, Pt.slots] at X' l1 y1 z1 st hQ
  subst l1 y1 z1
  obtain ⟨s₂, o, hs, r⟩ := K v T'.heap hQ.1 T' _ X' (N.app hQ.2) rfl
  exact ⟨s₂, o, st.trans hs, r⟩
/-- an instance method by its contract: the receiver is just of the class C -/
theorem callV (hx : p.tables.exec = Jvm.exec) (hZ : Z.Warmed39 s.vm) {own C : String} (hown : s.vm.findClass own = some m.cls) {i : Nat} {y : MethodName} {bytes : ByteArray} {maxL : Nat} {ret : Option FieldType} {rm : Room} {F : Option Value → Heap → Prop} {argsL rest : List Value} (E : Exa Z h a C)
    (w1 : (Jvm.Cond.methodLink own i y).before a0 Z = true) (w2 : (Jvm.Cond.declares y).before a0 Z = true) (w5 : (Jvm.Cond.selects C y y).before a0 Z = true) (w6 : (Jvm.Cond.instanceMethod y).before a0 Z = true) (w3 : (Jvm.Cond.initialized y.cls).before a0 Z = true) (w4 : (Jvm.Cond.code y bytes maxL ret).before a0 Z = true) (hy : y.cls ≠ "java/lang/invoke/MethodHandle" ∧ y.cls ≠ "java/lang/invoke/VarHandle")
    {sg : ClassFile.MethodDescriptor} (hsg : parseMethodDescriptor y.desc = some sg) (hlen : argsL.length = sg.parameters.length) {pc pc' : Nat} {Ls : Array Slot} {W : Nat} (hW : (rest.map fun v => v.category).sum ≤ W) (hf : rm.frames + 1 ≤ R.frames) (hl : W + (maxL + 11) + rm.locals ≤ R.locals) (hcl : k + rm.cells ≤ R.cells) (hsl : n + rm.slots ≤ R.slots)
    {k' n' : Nat} (hk' : k + rm.cells = k') (hn' : n + rm.slots = n') (hml : Ls.size = c.maxLocals) (st : List Value) (hst : st = argsL.reverse ++ .ref a :: rest) (hd : decode c.code pc = .ok (.invokevirtual i, 3)) (hp : pc + 3 = pc') (D : Does l y bytes maxL ret [] rm Z (.ref a :: argsL).toArray h n0 F)
    (K : ∀ v h', F v h' → Goes p l e R s m args below meth c n0 mc ms Fn h' k' n' (mkF m pc' Ls (v.toList ++ rest))) : Goes p l e R s m args below meth c n0 mc ms Fn h k n (mkF m pc Ls st) := fun T locs X N eT => by
  subst hp hst hk' hn'
  obtain ⟨cq, kq, qa, qb, qc⟩ := isOf hZ eT E
  obtain ⟨v, _, ⟨T', L', k', n'⟩, -, X', ⟨Lc, hQ, l1, y1, z1⟩, st⟩ := X.virtualBack hx (y := y) (z := y) hown (mvT hZ w1) (mvT hZ w2) (notFace_of_selects (args := #[]) (mvT hZ w5)) (mvT hZ w5) (mvT hZ w6) hy (backOf (W := W) (Q := fun v h' L => F v h' ∧ Fr n0 L) D hZ w4 w3 hf hl) qa qc (g := mkF m pc Ls (argsL.reverse ++ .ref a :: rest)) rfl hml (Steps.refl _) (argsL := argsL) (rest := rest) (lenOf hsg hlen) rfl (by show 2 * 0 + _ ≤ _; omega) hd (fun _ _ => ⟨rfl, eT, hcl, hsl⟩)
  dsimp only [Pt.U, Pt.locs, Pt.cells, Pt.slots] at X' l1 y1 z1 st hQ
  subst l1 y1 z1
  obtain ⟨s₂, o, hs, r⟩ := K v T'.heap hQ.1 T' _ X' (N.app hQ.2) rfl
  exact ⟨s₂, o, st.trans hs, r⟩
/-- a private method (by invokevirtual) by its contract -/
theorem callP (hx : p.tables.exec = Jvm.exec) (hZ : Z.Warmed39 s.vm) {own C : String} (hown : s.vm.findClass own = some m.cls) {i : Nat} {y : MethodName} {bytes : ByteArray} {maxL : Nat} {ret : Option FieldType} {rm : Room} {F : Option Value → Heap → Prop} {argsL rest : List Value} (E : Exa Z h a C)
    (w1 : (Jvm.Cond.methodLink own i y).before a0 Z = true) (w2 : (Jvm.Cond.instanceMethod y).before a0 Z = true) {ki : Nat} (wi : (Jvm.Cond.instantiable y.cls ki).before a0 Z = true) (w6 : (Jvm.Cond.privateMethod y).before a0 Z = true) (w3 : (Jvm.Cond.initialized y.cls).before a0 Z = true) (w4 : (Jvm.Cond.code y bytes maxL ret).before a0 Z = true) (hy : y.cls ≠ "java/lang/invoke/MethodHandle" ∧ y.cls ≠ "java/lang/invoke/VarHandle")
    {sg : ClassFile.MethodDescriptor} (hsg : parseMethodDescriptor y.desc = some sg) (hlen : argsL.length = sg.parameters.length) {pc pc' : Nat} {Ls : Array Slot} {W : Nat} (hW : (rest.map fun v => v.category).sum ≤ W) (hf : rm.frames + 1 ≤ R.frames) (hl : W + (maxL + 11) + rm.locals ≤ R.locals) (hcl : k + rm.cells ≤ R.cells) (hsl : n + rm.slots ≤ R.slots)
    {k' n' : Nat} (hk' : k + rm.cells = k') (hn' : n + rm.slots = n') (hml : Ls.size = c.maxLocals) (st : List Value) (hst : st = argsL.reverse ++ .ref a :: rest) (hd : decode c.code pc = .ok (.invokevirtual i, 3)) (hp : pc + 3 = pc') (D : Does l y bytes maxL ret [] rm Z (.ref a :: argsL).toArray h n0 F)
    (K : ∀ v h', F v h' → Goes p l e R s m args below meth c n0 mc ms Fn h' k' n' (mkF m pc' Ls (v.toList ++ rest))) : Goes p l e R s m args below meth c n0 mc ms Fn h k n (mkF m pc Ls st) := fun T locs X N eT => by
  subst hp hst hk' hn'
  obtain ⟨cq, qa, qb⟩ := E.cell
  have hpriv : s.PrivateAt y := Cond.privateMethod_at (mvP hZ w6 (args := #[]))
  obtain ⟨_, _, i1, i2, -, i3, -, -⟩ := Cond.instantiable_spec (mvT hZ wi : (Jvm.Cond.instantiable y.cls ki).before args s = true)
  have hsel : (Jvm.Cond.selects y.cls y y).before args s = true := selects_self_of_private i1 i2 (Bool.or_eq_false_iff.mp i3).1 hpriv (mvT hZ w2) hy
  obtain ⟨v, _, ⟨T', L', k', n'⟩, -, X', ⟨Lc, hQ, l1, y1, z1⟩, st⟩ := X.privateBack hx (y := y) hown (mvT hZ w1) (mvT hZ w2) hsel hpriv (mvT hZ w4) hy (backOf (W := W) (Q := fun v h' L => F v h' ∧ Fr n0 L) D hZ w4 w3 hf hl) (g := mkF m pc Ls (argsL.reverse ++ .ref a :: rest)) rfl hml (Steps.refl _) (a := a) (by rw [eT]; exact qa) qb (argsL := argsL) (rest := rest) (lenOf hsg hlen) rfl (by show 2 * 0 + _ ≤ _; omega) hd (fun _ _ => ⟨rfl, eT, hcl, hsl⟩)
  dsimp only [Pt.U, Pt.locs, Pt.cells, Pt.slots] at X' l1 y1 z1 st hQ
  subst l1 y1 z1
  obtain ⟨s₂, o, hs, r⟩ := K v T'.heap hQ.1 T' _ X' (N.app hQ.2) rfl
  exact ⟨s₂, o, st.trans hs, r⟩
end EngH
end Own
theorem own_nb {x : Int32} (q : x = 0 ∨ x = 1) : nar .boolean x = x := by rcases q with rfl | rfl <;> rfl
/-! what FailureFunction.of computes, said of the list of chars -/
def eqAt (cs : List Int32) (i j : Nat) : Bool := decide (i < cs.length) && decide (j < cs.length) && (cs.getD i 0 == cs.getD j 0)
def fallE (E : Nat → Nat → Bool) (rs : List Nat) (i : Nat) : Nat → Nat → Nat
  | 0, b => b
  | f + 1, b => if b = 0 then 0 else if E i b then b else fallE E rs i f (rs.getD (b - 1) 0)
def nextE (E : Nat → Nat → Bool) (rs : List Nat) (i b : Nat) : Nat := if E i (fallE E rs i b b) then fallE E rs i b b + 1 else fallE E rs i b b
def runE (E : Nat → Nat → Bool) : Nat → Nat → List Nat → Nat → List Nat
  | 0, _, rs, _ => rs
  | t + 1, i, rs, b => runE E t (i + 1) (rs.set i (nextE E rs i b)) (nextE E rs i b)
def ofE (E : Nat → Nat → Bool) (n : Nat) : List Nat := runE E (n - 1) 1 (List.replicate n 0) 0
def ofL (cs : List Int32) : List Nat := ofE (eqAt cs) cs.length
abbrev gI (x : Nat) : Value := .int x.toInt32
theorem fall_le (E : Nat → Nat → Bool) (rs : List Nat) (i : Nat) (hr : ∀ j, j < i → rs.getD j 0 ≤ j) : ∀ f b, b ≤ i → fallE E rs i f b ≤ b
  | 0, b, _ => Nat.le_refl _
  | f + 1, b, hb' => by
    unfold fallE
    split
    · omega
    · next q =>
      split
      · exact Nat.le_refl _
      · have h1 := hr (b - 1) (by omega)
        have h2 := fall_le E rs i hr f (rs.getD (b - 1) 0) (by omega)
        omega
theorem fall_fuel (E : Nat → Nat → Bool) (rs : List Nat) (i : Nat) (hr : ∀ j, j < i → rs.getD j 0 ≤ j) : ∀ f g b, b ≤ f → b ≤ g → b ≤ i → fallE E rs i f b = fallE E rs i g b
  | 0, 0, _, _, _, _ => rfl
  | 0, g + 1, b, h1, _, _ => by obtain rfl : b = 0 := by omega
                                unfold fallE; simp
  | f + 1, 0, b, _, h2, _ => by obtain rfl : b = 0 := by omega
                                unfold fallE; simp
  | f + 1, g + 1, b, h1, h2, h3 => by
    unfold fallE
    split
    · rfl
    · next q =>
      split
      · rfl
      · have h4 := hr (b - 1) (by omega)
        exact fall_fuel E rs i hr f g _ (by omega) (by omega) (by omega)
theorem next_le (E : Nat → Nat → Bool) (rs : List Nat) (i b : Nat) (hr : ∀ j, j < i → rs.getD j 0 ≤ j) (hb' : b < i) : nextE E rs i b ≤ i := by
  have := fall_le E rs i hr b b (by omega)
  unfold nextE; split <;> omega
theorem set_inv {rs : List Nat} {i v : Nat} (hr : ∀ j, j < i → rs.getD j 0 ≤ j) (hv : v ≤ i) : ∀ j, j < i + 1 → (rs.set i v).getD j 0 ≤ j := by
  intro j hj
  rw [List.getD_eq_getElem?_getD, List.getElem?_set]
  by_cases q : i = j
  · subst q
    by_cases z : i < rs.length <;> simp [z, hv]
  · rw [if_neg q, ← List.getD_eq_getElem?_getD]
    exact hr j (by omega)
theorem run_len (E : Nat → Nat → Bool) : ∀ t i rs b, (runE E t i rs b).length = rs.length
  | 0, _, _, _ => rfl
  | t + 1, i, rs, b => by unfold runE; rw [run_len E t]; simp
theorem of_len (cs : List Int32) : (ofL cs).length = cs.length := by unfold ofL ofE; rw [run_len]; simp
/-! six chars, known by which are alike -/
def codeE (c : List Nat) (i j : Nat) : Bool := decide (i < c.length) && decide (j < c.length) && (c.getD i 0 == c.getD j 0)
def codeOf (cs : List Int32) : List Nat := cs.map fun x => cs.idxOf x
theorem code_len (cs : List Int32) : (codeOf cs).length = cs.length := by simp [codeOf]
theorem code_get (cs : List Int32) (i : Nat) (hi : i < cs.length) : (codeOf cs).getD i 0 = cs.idxOf cs[i] := by
  simp [codeOf, List.getD_eq_getElem?_getD, hi]
theorem code_le (cs : List Int32) (i : Nat) (hi : i < cs.length) : (codeOf cs).getD i 0 ≤ i := by
  rw [code_get cs i hi]
  apply Nat.le_of_not_lt
  intro h
  have := List.not_of_lt_findIdx (p := (· == cs[i])) (xs := cs) (i := i) h
  simp at this
theorem code_eq (cs : List Int32) : eqAt cs = codeE (codeOf cs) := by
  funext i j
  unfold eqAt codeE
  rw [code_len]
  by_cases hi : i < cs.length
  · by_cases hj : j < cs.length
    · have h1 : cs.getD i 0 = cs[i] := by simp [List.getD_eq_getElem?_getD, hi]
      have h2 : cs.getD j 0 = cs[j] := by simp [List.getD_eq_getElem?_getD, hj]
      rw [h1, h2, code_get cs i hi, code_get cs j hj]
      congr 1
      by_cases q : cs[i] = cs[j]
      · rw [q]; simp
      · have : ¬ cs.idxOf cs[i] = cs.idxOf cs[j] := by
          intro z
          have e1 := List.getElem_idxOf (xs := cs) (x := cs[i]) (List.idxOf_lt_length_of_mem (List.getElem_mem hi))
          have e2 := List.getElem_idxOf (xs := cs) (x := cs[j]) (List.idxOf_lt_length_of_mem (List.getElem_mem hj))
          apply q
          rw [← e1, ← e2]
          congr 1
        rw [beq_eq_false_iff_ne.mpr q, beq_eq_false_iff_ne.mpr this]
    · simp [hj]
  · simp [hi]
def brd (E : Nat → Nat → Bool) (m k : Nat) : Bool := (List.range k).all fun t => E t (m - k + t)
def bordE (E : Nat → Nat → Bool) (m : Nat) : Nat := if m ≥ 6 && brd E m 5 then 5 else if m ≥ 5 && brd E m 4 then 4 else if m ≥ 4 && brd E m 3 then 3 else if m ≥ 3 && brd E m 2 then 2 else if m ≥ 2 && brd E m 1 then 1 else 0
def okE (c : List Nat) : Bool := (List.range c.length).all fun i => (ofE (codeE c) c.length).getD i 9 == bordE (codeE c) (i + 1)
set_option maxRecDepth 100000 in
theorem ok6 : ∀ (c1 : Fin 2) (c2 : Fin 3) (c3 : Fin 4) (c4 : Fin 5) (c5 : Fin 6), okE [0, c1.val, c2.val, c3.val, c4.val, c5.val] = true := by decide +kernel
theorem own_ti {i nn : Nat} (hi : i < nn) (hn : nn < 2147483648) : i.toInt32.toInt = (i : Int) := len_toInt (by omega)
theorem own_tl {nn : Nat} (hn : nn < 2147483648) : nn.toInt32.toInt = (nn : Int) := len_toInt (by omega)
theorem own_cs_at {cs : List Int32} {i : Nat} (hi : i < cs.length) : (cs.map Value.int)[i]? = some (.int (cs.getD i 0)) := by
  rw [List.getElem?_map, List.getD_eq_getElem?_getD, List.getElem?_eq_getElem hi]; rfl
theorem own_rs_at {rs : List Nat} {i : Nat} (hi : i < rs.length) : (rs.map gI)[i]? = some (.int (rs.getD i 0).toInt32) := by
  rw [List.getElem?_map, List.getD_eq_getElem?_getD, List.getElem?_eq_getElem hi]; rfl
theorem own_succ (b : Nat) : (b + 1).toInt32 = b.toInt32 + (1 : Int32) := Int32.ofNat_add b 1
theorem own_tp {b nn : Nat} (h0 : ¬ b = 0) (hb' : b < nn) (hn : nn < 2147483648) : (b.toInt32 - (1 : Int32)).toInt = ((b - 1 : Nat) : Int) := by
  obtain ⟨a, rfl⟩ : ∃ a, b = a + 1 := ⟨b - 1, by omega⟩
  rw [own_succ, Int32.add_sub_cancel]
  exact len_toInt (by omega)
theorem own_pos {b nn : Nat} (h0 : ¬ b = 0) (hb' : b < nn) (hn : nn < 2147483648) : (0 : Int32) < b.toInt32 := by
  rw [Int32.lt_iff_toInt_lt, own_ti hb' hn, show (0 : Int32).toInt = 0 from by decide]; omega
theorem own_lt {i nn : Nat} (hi : i < nn) (hn : nn < 2147483648) : i.toInt32 < nn.toInt32 := by
  rw [Int32.lt_iff_toInt_lt, own_ti hi hn, own_tl hn]; omega
theorem own_ge {i nn : Nat} (h : nn ≤ i) (hn : i < 2147483648) : ¬ i.toInt32 < nn.toInt32 := fun q => by
  rw [Int32.lt_iff_toInt_lt, own_tl hn, own_tl (by omega)] at q; omega
theorem own_E {cs : List Int32} {i j : Nat} (hi : i < cs.length) (hj : j < cs.length) : eqAt cs i j = true ↔ cs.getD i 0 = cs.getD j 0 := by
  unfold eqAt; simp [hi, hj]
theorem fall_zero {E : Nat → Nat → Bool} {rs : List Nat} {i f : Nat} : fallE E rs i (f + 1) 0 = 0 := by unfold fallE; rw [if_pos rfl]
theorem fall_hit {E : Nat → Nat → Bool} {rs : List Nat} {i f b : Nat} (h0 : ¬ b = 0) (h : E i b = true) : fallE E rs i (f + 1) b = b := by unfold fallE; rw [if_neg h0, if_pos h]
theorem fall_miss {E : Nat → Nat → Bool} {rs : List Nat} {i f b : Nat} (h0 : ¬ b = 0) (h : ¬ E i b = true) : fallE E rs i (f + 1) b = fallE E rs i f (rs.getD (b - 1) 0) := by
  conv => lhs; unfold fallE
  rw [if_neg h0, if_neg h]
theorem next_hit {cs : List Int32} {rs : List Nat} {i b : Nat} (hi : i < cs.length) (hbl : fallE (eqAt cs) rs i b b < cs.length) (h : cs.getD i 0 = cs.getD (fallE (eqAt cs) rs i b b) 0) : nextE (eqAt cs) rs i b = fallE (eqAt cs) rs i b b + 1 := by
  unfold nextE; rw [if_pos ((own_E hi hbl).mpr h)]
theorem next_miss {cs : List Int32} {rs : List Nat} {i b : Nat} (hi : i < cs.length) (hbl : fallE (eqAt cs) rs i b b < cs.length) (h : ¬ cs.getD i 0 = cs.getD (fallE (eqAt cs) rs i b b) 0) : nextE (eqAt cs) rs i b = fallE (eqAt cs) rs i b b := by
  unfold nextE; rw [if_neg (fun z => h ((own_E hi hbl).mp z))]
theorem own_rep {nn : Nat} : ∀ j, j < 1 → (List.replicate nn 0).getD j 0 ≤ j := by
  intro j hj
  obtain rfl : j = 0 := by omega
  cases nn <;> simp
theorem own_gs (b : Nat) : gI (b + 1) = Value.int (b.toInt32 + (1 : Int32)) := congrArg Value.int (own_succ b)

theorem d5_15 : decode prog_15_method_2_code 15 = .ok (.iload_n 2, 1) := by decide +kernel
theorem d5_16 : decode prog_15_method_2_code 16 = .ok (.ifCond .le 21, 3) := by decide +kernel
theorem d5_19 : decode prog_15_method_2_code 19 = .ok (.aload_n 0, 1) := by decide +kernel
theorem d5_20 : decode prog_15_method_2_code 20 = .ok (.iload_n 3, 1) := by decide +kernel
theorem d5_21 : decode prog_15_method_2_code 21 = .ok (.caload, 1) := by decide +kernel
theorem d5_22 : decode prog_15_method_2_code 22 = .ok (.aload_n 0, 1) := by decide +kernel
theorem d5_23 : decode prog_15_method_2_code 23 = .ok (.iload_n 2, 1) := by decide +kernel
theorem d5_24 : decode prog_15_method_2_code 24 = .ok (.caload, 1) := by decide +kernel
theorem d5_25 : decode prog_15_method_2_code 25 = .ok (.if_icmp .eq 12, 3) := by decide +kernel
theorem d5_28 : decode prog_15_method_2_code 28 = .ok (.aload_n 1, 1) := by decide +kernel
theorem d5_29 : decode prog_15_method_2_code 29 = .ok (.iload_n 2, 1) := by decide +kernel
theorem d5_30 : decode prog_15_method_2_code 30 = .ok (.iconst 1, 1) := by decide +kernel
theorem d5_31 : decode prog_15_method_2_code 31 = .ok (.isub, 1) := by decide +kernel
theorem d5_32 : decode prog_15_method_2_code 32 = .ok (.iaload, 1) := by decide +kernel
theorem d5_33 : decode prog_15_method_2_code 33 = .ok (.istore_n 2, 1) := by decide +kernel
theorem d5_34 : decode prog_15_method_2_code 34 = .ok (.goto (-19), 3) := by decide +kernel
theorem d5_9 : decode prog_15_method_2_code 9 = .ok (.iload_n 3, 1) := by decide +kernel
theorem d5_10 : decode prog_15_method_2_code 10 = .ok (.aload_n 0, 1) := by decide +kernel
theorem d5_11 : decode prog_15_method_2_code 11 = .ok (.arraylength, 1) := by decide +kernel
theorem d5_12 : decode prog_15_method_2_code 12 = .ok (.if_icmp .ge 47, 3) := by decide +kernel
theorem d5_59 : decode prog_15_method_2_code 59 = .ok (.aload_n 1, 1) := by decide +kernel
theorem d5_60 : decode prog_15_method_2_code 60 = .ok (.areturn, 1) := by decide +kernel
theorem d5_37 : decode prog_15_method_2_code 37 = .ok (.aload_n 0, 1) := by decide +kernel
theorem d5_38 : decode prog_15_method_2_code 38 = .ok (.iload_n 3, 1) := by decide +kernel
theorem d5_39 : decode prog_15_method_2_code 39 = .ok (.caload, 1) := by decide +kernel
theorem d5_40 : decode prog_15_method_2_code 40 = .ok (.aload_n 0, 1) := by decide +kernel
theorem d5_41 : decode prog_15_method_2_code 41 = .ok (.iload_n 2, 1) := by decide +kernel
theorem d5_42 : decode prog_15_method_2_code 42 = .ok (.caload, 1) := by decide +kernel
theorem d5_43 : decode prog_15_method_2_code 43 = .ok (.if_icmp .ne 6, 3) := by decide +kernel
theorem d5_46 : decode prog_15_method_2_code 46 = .ok (.iinc 2 1, 3) := by decide +kernel
theorem d5_49 : decode prog_15_method_2_code 49 = .ok (.aload_n 1, 1) := by decide +kernel
theorem d5_50 : decode prog_15_method_2_code 50 = .ok (.iload_n 3, 1) := by decide +kernel
theorem d5_51 : decode prog_15_method_2_code 51 = .ok (.iload_n 2, 1) := by decide +kernel
theorem d5_52 : decode prog_15_method_2_code 52 = .ok (.iastore, 1) := by decide +kernel
theorem d5_53 : decode prog_15_method_2_code 53 = .ok (.iinc 3 1, 3) := by decide +kernel
theorem d5_56 : decode prog_15_method_2_code 56 = .ok (.goto (-47), 3) := by decide +kernel
set_option maxRecDepth 65536 in
set_option maxHeartbeats 40000000 in
theorem of_inner {p : Program} {l : Launch} {e : Env} {R : Room} {s : State} {m : MethodId} {args : Array Value} {below : List Frame} {meth : Method} {c : Code} {n0 mc ms : Nat} {Fn : Option Value → Heap → Prop} {k n : Nat} {Z : State} {a0 : Array Value} (hw : ∀ d ∈ tables_1, d.before a0 Z = true) (hx : p.tables.exec = Jvm.exec) (hby : c.code = prog_15_method_2_code) (hml : c.maxLocals = 4) (hown : s.vm.findClass "com/example/idxof/idxof/FailureFunction" = some m.cls) (hZ : Z.Warmed39 s.vm) {h : Heap} {fr : List (Addr × (Cell → Prop))} {cs : List Int32} {rs : List Nat} {i : Nat} {o0 r : Addr} (O : Own.Owns n0 h ((r, Own.ArrC Z .int (rs.map gI)) :: (o0, Own.ArrC Z .char (cs.map Value.int)) :: fr)) (hi : i < cs.length) (hlen : rs.length = cs.length) (hn : cs.length < 2147483648) (hr : ∀ j, j < i → rs.getD j 0 ≤ j) :
    ∀ f b, b ≤ f → b < i → Own.Goes p l e R s m args below meth c n0 mc ms Fn h k n (mkF m 37 #[.val (.ref o0), .val (.ref r), .val (.int (fallE (eqAt cs) rs i f b).toInt32), .val (.int i.toInt32)] []) → Own.Goes p l e R s m args below meth c n0 mc ms Fn h k n (mkF m 15 #[.val (.ref o0), .val (.ref r), .val (.int b.toInt32), .val (.int i.toInt32)] []) := by
  intro f
  induction f with
  | zero =>
    intro b hbf hb1 K
    obtain rfl : b = 0 := by omega
    refine Own.iloadN hx (0 : Nat).toInt32 (hb hby d5_15) rfl rfl ?_
    refine Own.ifFn hx (Own.z_le _) (hb hby d5_16) (pcN := 19) rfl (by decide) (pcT := 37) rfl (fun _ => ?_) (fun q => absurd q (by decide))
    exact K
  | succ f ih =>
    intro b hbf hb1 K
    by_cases hb0 : b = 0
    · subst hb0
      refine Own.iloadN hx (0 : Nat).toInt32 (hb hby d5_15) rfl rfl ?_
      refine Own.ifFn hx (Own.z_le _) (hb hby d5_16) (pcN := 19) rfl (by decide) (pcT := 37) rfl (fun _ => ?_) (fun q => absurd q (by decide))
      rw [fall_zero] at K
      exact K
    · skip
      refine Own.iloadN hx b.toInt32 (hb hby d5_15) rfl rfl ?_
      have hc1 : (0 : Int32) < b.toInt32 := own_pos hb0 (Nat.lt_trans hb1 hi) hn
      refine Own.ifFn hx (Own.z_le b.toInt32) (hb hby d5_16) (pcN := 19) rfl (by decide) (pcT := 37) rfl (fun q => absurd hc1 q) (fun _ => ?_)
      refine Own.aloadN hx (.ref o0) (hb hby d5_19) rfl rfl rfl ?_
      refine Own.iloadN hx i.toInt32 (hb hby d5_20) rfl rfl ?_
      refine Own.caload hx hZ O 1 i rfl (own_ti hi hn) (v := (.int (cs.getD i 0))) (own_cs_at hi) (hb hby d5_21) rfl ?_
      refine Own.aloadN hx (.ref o0) (hb hby d5_22) rfl rfl rfl ?_
      refine Own.iloadN hx b.toInt32 (hb hby d5_23) rfl rfl ?_
      refine Own.caload hx hZ O 1 b rfl (own_ti (Nat.lt_trans hb1 hi) hn) (v := (.int (cs.getD b 0))) (own_cs_at (Nat.lt_trans hb1 hi)) (hb hby d5_24) rfl ?_
      refine Own.icmpF hx (Own.q_eq (cs.getD i 0) (cs.getD b 0)) (hb hby d5_25) (pcN := 28) rfl (by decide) (pcT := 37) rfl (fun hcE => ?_) (fun hcE => ?_)
      · rw [fall_hit hb0 ((own_E hi (Nat.lt_trans hb1 hi)).mpr hcE)] at K; exact K
      · refine Own.aloadN hx (.ref r) (hb hby d5_28) rfl rfl rfl ?_
        refine Own.iloadN hx b.toInt32 (hb hby d5_29) rfl rfl ?_
        refine Own.iconst hx (1 : Int32) (hb hby d5_30) rfl (by decide) ?_
        refine Own.isub hx (hb hby d5_31) rfl ?_
        refine Own.iaload hx hZ O 0 (b - 1) rfl (own_tp hb0 (Nat.lt_trans hb1 hi) hn) (v := (.int (rs.getD (b - 1) 0).toInt32)) (own_rs_at (by omega)) (hb hby d5_32) rfl ?_
        refine Own.istoreN hx (rs.getD (b - 1) 0).toInt32 rfl #[.val (.ref o0), .val (.ref r), .val (.int (rs.getD (b - 1) 0).toInt32), .val (.int i.toInt32)] (hb hby d5_33) rfl rfl ?_
        refine Own.goto hx (hb hby d5_34) (by decide) (pc' := 15) rfl ?_
        rw [fall_miss hb0 (fun z => hcE ((own_E hi (Nat.lt_trans hb1 hi)).mp z))] at K
        have h1 := hr (b - 1) (by omega)
        exact ih _ (by omega) (by omega) K
set_option maxRecDepth 65536 in
set_option maxHeartbeats 40000000 in
theorem of_outer {p : Program} {l : Launch} {e : Env} {R : Room} {s : State} {m : MethodId} {args : Array Value} {below : List Frame} {meth : Method} {c : Code} {n0 mc ms : Nat} {k n : Nat} {Z : State} {a0 : Array Value} (hw : ∀ d ∈ tables_1, d.before a0 Z = true) (hx : p.tables.exec = Jvm.exec) (hby : c.code = prog_15_method_2_code) (hml : c.maxLocals = 4) (hown : s.vm.findClass "com/example/idxof/idxof/FailureFunction" = some m.cls) (hZ : Z.Warmed39 s.vm) (hret : meth.sig.returnType = some (.array .int)) (hlk : meth.locks = false) (hk : k ≤ mc) (hn' : n ≤ ms) {fr : List (Addr × (Cell → Prop))} {cs : List Int32} {o0 r : Addr} (hn : cs.length < 2147483648) :
    ∀ t i b (rs : List Nat) (h : Heap), (i + t = cs.length ∨ (t = 0 ∧ cs.length ≤ i)) → i < 2147483648 → b < i → rs.length = cs.length → (∀ j, j < i → rs.getD j 0 ≤ j) → Own.Owns n0 h ((r, Own.ArrC Z .int (rs.map gI)) :: (o0, Own.ArrC Z .char (cs.map Value.int)) :: fr) → runE (eqAt cs) t i rs b = ofL cs → Own.Goes p l e R s m args below meth c n0 mc ms (fun v h => ∃ r, v = some (.ref r) ∧ Own.Owns n0 h ((r, Own.ArrC Z .int ((ofL cs).map gI)) :: (o0, Own.ArrC Z .char (cs.map Value.int)) :: fr)) h k n (mkF m 9 #[.val (.ref o0), .val (.ref r), .val (.int b.toInt32), .val (.int i.toInt32)] []) := by
  intro t
  induction t with
  | zero =>
    intro i b rs h hit hi31 hbi hlen hr O hrun
    obtain rfl : rs = ofL cs := hrun
    refine Own.iloadN hx i.toInt32 (hb hby d5_9) rfl rfl ?_
    refine Own.aloadN hx (.ref o0) (hb hby d5_10) rfl rfl rfl ?_
    refine Own.arrlen hx hZ O 1 rfl cs.length.toInt32 (by rw [List.length_map]) (hb hby d5_11) rfl ?_
    have hc1 : ¬ (i.toInt32 < cs.length.toInt32) := own_ge (by omega) hi31
    refine Own.icmpFn hx (Own.q_ge i.toInt32 cs.length.toInt32) (hb hby d5_12) (pcN := 15) rfl (by decide) (pcT := 59) rfl (fun _ => ?_) (fun q => absurd q hc1)
    refine Own.aloadN hx (.ref r) (hb hby d5_59) rfl rfl rfl ?_
    exact Own.retA hx hret rfl hlk rfl rfl (hb hby d5_60) hk hn' ⟨r, rfl, O⟩
  | succ t ih =>
    intro i b rs h hit hi31 hbi hlen hr O hrun
    have hi : i < cs.length := by omega
    have hfl := fall_le (eqAt cs) rs i hr b b (by omega)
    have hbl : (fallE (eqAt cs) rs i b b) < cs.length := by omega
    refine Own.iloadN hx i.toInt32 (hb hby d5_9) rfl rfl ?_
    refine Own.aloadN hx (.ref o0) (hb hby d5_10) rfl rfl rfl ?_
    refine Own.arrlen hx hZ O 1 rfl cs.length.toInt32 (by rw [List.length_map]) (hb hby d5_11) rfl ?_
    have hc1 : i.toInt32 < cs.length.toInt32 := own_lt hi hn
    refine Own.icmpFn hx (Own.q_ge i.toInt32 cs.length.toInt32) (hb hby d5_12) (pcN := 15) rfl (by decide) (pcT := 59) rfl (fun q => absurd hc1 q) (fun _ => ?_)
    refine of_inner hw hx hby hml hown hZ O hi hlen hn hr b b (Nat.le_refl _) hbi ?_
    refine Own.aloadN hx (.ref o0) (hb hby d5_37) rfl rfl rfl ?_
    refine Own.iloadN hx i.toInt32 (hb hby d5_38) rfl rfl ?_
    refine Own.caload hx hZ O 1 i rfl (own_ti hi hn) (v := (.int (cs.getD i 0))) (own_cs_at hi) (hb hby d5_39) rfl ?_
    refine Own.aloadN hx (.ref o0) (hb hby d5_40) rfl rfl rfl ?_
    refine Own.iloadN hx (fallE (eqAt cs) rs i b b).toInt32 (hb hby d5_41) rfl rfl ?_
    refine Own.caload hx hZ O 1 (fallE (eqAt cs) rs i b b) rfl (own_ti hbl hn) (v := (.int (cs.getD (fallE (eqAt cs) rs i b b) 0))) (own_cs_at hbl) (hb hby d5_42) rfl ?_
    refine Own.icmpFn hx (Own.q_ne (cs.getD i 0) (cs.getD (fallE (eqAt cs) rs i b b) 0)) (hb hby d5_43) (pcN := 46) rfl (by decide) (pcT := 49) rfl (fun hcE => ?_) (fun hcE => ?_)
    · refine Own.aloadN hx (.ref r) (hb hby d5_49) rfl rfl rfl ?_
      refine Own.iloadN hx i.toInt32 (hb hby d5_50) rfl rfl ?_
      refine Own.iloadN hx (fallE (eqAt cs) rs i b b).toInt32 (hb hby d5_51) rfl rfl ?_
      refine Own.iastore hx hZ O 0 i rfl (own_ti hi hn) (by rw [List.length_map, hlen]; exact hi) ((r, Own.ArrC Z .int ((rs.set i (nextE (eqAt cs) rs i b)).map gI)) :: (o0, Own.ArrC Z .char (cs.map Value.int)) :: fr) (by rw [List.map_set, next_miss hi hbl hcE]; rfl) (hb hby d5_52) rfl ?_
      intro h2 O3
      refine Own.iinc hx (i.toInt32 + (1 : Int32)) #[.val (.ref o0), .val (.ref r), .val (.int (fallE (eqAt cs) rs i b b).toInt32), .val (.int (i.toInt32 + (1 : Int32)))] (hb hby d5_53) rfl rfl rfl rfl ?_
      refine Own.goto hx (hb hby d5_56) (by decide) (pc' := 9) rfl ?_
      have hih := ih (i + 1) (nextE (eqAt cs) rs i b) (rs.set i (nextE (eqAt cs) rs i b)) h2 (by omega) (by omega) (by have := next_le (eqAt cs) rs i b hr hbi; omega) (by rw [List.length_set]; exact hlen) (set_inv hr (next_le (eqAt cs) rs i b hr hbi)) O3 hrun
      rw [own_succ i, next_miss hi hbl hcE] at hih
      exact hih
    · refine Own.iinc hx ((fallE (eqAt cs) rs i b b).toInt32 + (1 : Int32)) #[.val (.ref o0), .val (.ref r), .val (.int ((fallE (eqAt cs) rs i b b).toInt32 + (1 : Int32))), .val (.int i.toInt32)] (hb hby d5_46) rfl rfl rfl rfl ?_
      refine Own.aloadN hx (.ref r) (hb hby d5_49) rfl rfl rfl ?_
      refine Own.iloadN hx i.toInt32 (hb hby d5_50) rfl rfl ?_
      refine Own.iloadN hx ((fallE (eqAt cs) rs i b b).toInt32 + (1 : Int32)) (hb hby d5_51) rfl rfl ?_
      refine Own.iastore hx hZ O 0 i rfl (own_ti hi hn) (by rw [List.length_map, hlen]; exact hi) ((r, Own.ArrC Z .int ((rs.set i (nextE (eqAt cs) rs i b)).map gI)) :: (o0, Own.ArrC Z .char (cs.map Value.int)) :: fr) (by rw [List.map_set, next_hit hi hbl hcE, own_gs]; rfl) (hb hby d5_52) rfl ?_
      intro h4 O5
      refine Own.iinc hx (i.toInt32 + (1 : Int32)) #[.val (.ref o0), .val (.ref r), .val (.int ((fallE (eqAt cs) rs i b b).toInt32 + (1 : Int32))), .val (.int (i.toInt32 + (1 : Int32)))] (hb hby d5_53) rfl rfl rfl rfl ?_
      refine Own.goto hx (hb hby d5_56) (by decide) (pc' := 9) rfl ?_
      have hih := ih (i + 1) (nextE (eqAt cs) rs i b) (rs.set i (nextE (eqAt cs) rs i b)) h4 (by omega) (by omega) (by have := next_le (eqAt cs) rs i b hr hbi; omega) (by rw [List.length_set]; exact hlen) (set_inv hr (next_le (eqAt cs) rs i b hr hbi)) O5 hrun
      rw [own_succ i, next_hit hi hbl hcE, own_succ (fallE (eqAt cs) rs i b b)] at hih
      exact hih
theorem d5_0 : decode prog_15_method_2_code 0 = .ok (.aload_n 0, 1) := by decide +kernel
theorem d5_1 : decode prog_15_method_2_code 1 = .ok (.arraylength, 1) := by decide +kernel
theorem d5_2 : decode prog_15_method_2_code 2 = .ok (.newarray .int, 2) := by decide +kernel
theorem d5_4 : decode prog_15_method_2_code 4 = .ok (.astore_n 1, 1) := by decide +kernel
theorem d5_5 : decode prog_15_method_2_code 5 = .ok (.iconst 0, 1) := by decide +kernel
theorem d5_6 : decode prog_15_method_2_code 6 = .ok (.istore_n 2, 1) := by decide +kernel
theorem d5_7 : decode prog_15_method_2_code 7 = .ok (.iconst 1, 1) := by decide +kernel
theorem d5_8 : decode prog_15_method_2_code 8 = .ok (.istore_n 3, 1) := by decide +kernel
theorem pn0 : plainFor (⟨"com/example/idxof/idxof/FailureFunction", "of", "([C)[I"⟩ : MethodName) = true := by first | exact plainFor_of_name (by simp [plainName, overriddenIn]; done) | decide +kernel
theorem ef5 (m : MethodId) (o0 : Addr) : entryFrame m #[(.ref o0)] 4 = mkF m 0 #[.val (.ref o0), .unset, .unset, .unset] [] := by first | (simp [entryFrame, mkF, argsToLocals, Value.category]; done) | rfl
set_option maxRecDepth 65536 in
set_option maxHeartbeats 40000000 in
theorem rm5 (l : Launch) (Z : State) (a0 : Array Value) (hw : ∀ d ∈ tables_1, d.before a0 Z = true) (o0 : Addr) (h0 : Heap) (n0 : Nat) (cs : List Int32) (hcap : cs.length ≤ 4) (fr : List (Addr × (Cell → Prop))) (O0 : Own.Owns n0 h0 ((o0, Own.ArrC Z .char (cs.map Value.int)) :: fr))  : Own.Does l (⟨"com/example/idxof/idxof/FailureFunction", "of", "([C)[I"⟩ : MethodName) prog_15_method_2_code 4 (some (.array .int)) [] ({ frames := 0, cells := 1, slots := 4, locals := 0 } : Room) Z #[(.ref o0)] h0 n0 (fun v h => ∃ r, v = some (.ref r) ∧ Own.Owns n0 h ((r, Own.ArrC Z .int ((ofL cs).map gI)) :: (o0, Own.ArrC Z .char (cs.map Value.int)) :: fr)) := by
  refine Own.doesOf pn0 ?_
  intro p e s m below meth c hx hby hml hret hlk hown hnm hZ
  refine Own.Goes.cast (ef5 m o0) ?_
  refine Own.aloadN hx (.ref o0) (hb hby d5_0) rfl rfl rfl ?_
  refine Own.arrlen hx hZ O0 0 rfl cs.length.toInt32 (by rw [List.length_map]) (hb hby d5_1) rfl ?_
  refine Own.newarr hx hZ O0 (aty := .int) (hw _ (List.mem_of_getElem? (i := 23) rfl)) cs.length (own_tl (by omega)) (List.replicate cs.length (.int (0 : Int32))) rfl rfl (cap := 4) hcap (by decide) (k' := 1) (n' := 4) rfl rfl (by decide) (by decide) (hb hby d5_2) (pc' := 4) rfl ?_
  intro a1 h2 O3
  refine Own.astoreN hx #[.val (.ref o0), .val (.ref a1), .unset, .unset] (hb hby d5_4) rfl rfl rfl ?_
  refine Own.iconst hx (0 : Int32) (hb hby d5_5) rfl (by decide) ?_
  refine Own.istoreN hx (0 : Int32) rfl #[.val (.ref o0), .val (.ref a1), .val (.int (0 : Int32)), .unset] (hb hby d5_6) rfl rfl ?_
  refine Own.iconst hx (1 : Int32) (hb hby d5_7) rfl (by decide) ?_
  refine Own.istoreN hx (1 : Int32) rfl #[.val (.ref o0), .val (.ref a1), .val (.int (0 : Int32)), .val (.int (1 : Int32))] (hb hby d5_8) rfl rfl ?_
  have hO : Own.Owns n0 h2 ((a1, Own.ArrC Z .int ((List.replicate cs.length 0).map gI)) :: (o0, Own.ArrC Z .char (cs.map Value.int)) :: fr) := by rw [List.map_replicate]; exact O3
  exact of_outer hw hx hby hml hown hZ hret hlk (by decide) (by decide) (by omega) (cs.length - 1) 1 0 (List.replicate cs.length 0) h2 (by omega) (by omega) (by omega) (by simp) (own_rep) hO rfl

theorem pd0 : parseMethodDescriptor "([C)[I" = some ⟨[(.array .char)], some (.array .int)⟩ := by decide +kernel
theorem d3_0 : decode prog_23_method_1_code 0 = .ok (.aload_n 0, 1) := by decide +kernel
theorem d3_1 : decode prog_23_method_1_code 1 = .ok (.invokespecial 1, 3) := by decide +kernel
theorem d3_4 : decode prog_23_method_1_code 4 = .ok (.aload_n 0, 1) := by decide +kernel
theorem d3_5 : decode prog_23_method_1_code 5 = .ok (.aload_n 1, 1) := by decide +kernel
theorem d3_6 : decode prog_23_method_1_code 6 = .ok (.putfield 7, 3) := by decide +kernel
theorem d3_9 : decode prog_23_method_1_code 9 = .ok (.aload_n 0, 1) := by decide +kernel
theorem d3_10 : decode prog_23_method_1_code 10 = .ok (.aload_n 1, 1) := by decide +kernel
theorem d3_11 : decode prog_23_method_1_code 11 = .ok (.invokestatic 13, 3) := by decide +kernel
theorem d3_14 : decode prog_23_method_1_code 14 = .ok (.putfield 19, 3) := by decide +kernel
theorem d3_17 : decode prog_23_method_1_code 17 = .ok (.return_, 1) := by decide +kernel
theorem pn1 : plainFor (⟨"com/example/idxof/idxof/KnuthMorrisPrattPattern", "<init>", "([C)V"⟩ : MethodName) = true := by first | exact plainFor_of_name (by simp [plainName, overriddenIn]; done) | decide +kernel
theorem ef3 (m : MethodId) (o0 : Addr) (o1 : Addr) : entryFrame m #[(.ref o0), (.ref o1)] 2 = mkF m 0 #[.val (.ref o0), .val (.ref o1)] [] := by first | (simp [entryFrame, mkF, argsToLocals, Value.category]; done) | rfl
set_option maxRecDepth 65536 in
set_option maxHeartbeats 40000000 in
theorem rm3 (l : Launch) (Z : State) (a0 : Array Value) (hw : ∀ d ∈ tables_1, d.before a0 Z = true) (o0 : Addr) (o1 : Addr) (h0 : Heap) (n0 : Nat) (cs : List Int32) (hcap : cs.length ≤ 4) (fr : List (Addr × (Cell → Prop))) (O0 : Own.Owns n0 h0 ((o0, Own.ObjC Z "com/example/idxof/idxof/KnuthMorrisPrattPattern" [(("com/example/idxof/idxof/KnuthMorrisPrattPattern", "chars", "[C"), .null), (("com/example/idxof/idxof/KnuthMorrisPrattPattern", "borders", "[I"), .null)]) :: (o1, Own.ArrC Z .char (cs.map Value.int)) :: fr))  : Own.Does l (⟨"com/example/idxof/idxof/KnuthMorrisPrattPattern", "<init>", "([C)V"⟩ : MethodName) prog_23_method_1_code 2 none [] ({ frames := 1, cells := 1, slots := 4, locals := 16 } : Room) Z #[(.ref o0), (.ref o1)] h0 n0 (fun v h => ∃ r, v = none ∧ Own.Owns n0 h ((o0, Own.ObjC Z "com/example/idxof/idxof/KnuthMorrisPrattPattern" [(("com/example/idxof/idxof/KnuthMorrisPrattPattern", "chars", "[C"), (.ref o1)), (("com/example/idxof/idxof/KnuthMorrisPrattPattern", "borders", "[I"), (.ref r))]) :: (r, Own.ArrC Z .int ((ofL cs).map gI)) :: (o1, Own.ArrC Z .char (cs.map Value.int)) :: fr)) := by
  refine Own.doesOf pn1 ?_
  intro p e s m below meth c hx hby hml hret hlk hown hnm hZ
  refine Own.Goes.cast (ef3 m o0 o1) ?_
  refine Own.aloadN hx (.ref o0) (hb hby d3_0) rfl rfl rfl ?_
  refine Own.initobj hx hZ hown (hw _ (List.mem_of_getElem? (i := 14) rfl)) (hw _ (List.mem_of_getElem? (i := 15) rfl)) (hw _ (List.mem_of_getElem? (i := 16) rfl)) (by rw [hml]; rfl) (W := 0) (Nat.le_of_eq rfl) (by decide) (by decide) (hb hby d3_1) rfl ?_
  refine Own.aloadN hx (.ref o0) (hb hby d3_4) rfl rfl rfl ?_
  refine Own.aloadN hx (.ref o1) (hb hby d3_5) rfl rfl rfl ?_
  refine Own.putfield hx hZ hown O0 0 0 rfl rfl (hw _ (List.mem_of_getElem? (i := 17) rfl)) (Or.inr ⟨(hw _ (List.mem_of_getElem? (i := 18) rfl)), rfl, hnm⟩) (hw _ (List.mem_of_getElem? (i := 9) rfl)) (ty := (.array .char)) (by decide) rfl rfl ((o0, Own.ObjC Z "com/example/idxof/idxof/KnuthMorrisPrattPattern" [(("com/example/idxof/idxof/KnuthMorrisPrattPattern", "chars", "[C"), (.ref o1)), (("com/example/idxof/idxof/KnuthMorrisPrattPattern", "borders", "[I"), .null)]) :: (o1, Own.ArrC Z .char (cs.map Value.int)) :: fr) rfl (hb hby d3_6) rfl ?_
  intro h1 O2
  refine Own.aloadN hx (.ref o0) (hb hby d3_9) rfl rfl rfl ?_
  refine Own.aloadN hx (.ref o1) (hb hby d3_10) rfl rfl rfl ?_
  have O3 : Own.Owns n0 h1 ((o1, Own.ArrC Z .char (cs.map Value.int)) :: (o0, Own.ObjC Z "com/example/idxof/idxof/KnuthMorrisPrattPattern" [(("com/example/idxof/idxof/KnuthMorrisPrattPattern", "chars", "[C"), (.ref o1)), (("com/example/idxof/idxof/KnuthMorrisPrattPattern", "borders", "[I"), .null)]) :: fr) := O2.pick 1 rfl
  refine Own.callS hx hZ hown (hw _ (List.mem_of_getElem? (i := 19) rfl)) (hw _ (List.mem_of_getElem? (i := 20) rfl)) (hw _ (List.mem_of_getElem? (i := 21) rfl)) (hw _ (List.mem_of_getElem? (i := 22) rfl)) (by decide) pd0 (argsL := [(.ref o1)]) (rest := [(.ref o0)]) rfl (W := 1) (Nat.le_of_eq rfl) (rm := ({ frames := 0, cells := 1, slots := 4, locals := 0 } : Room)) (by decide) (by decide) (by decide) (by decide) (k' := 1) (n' := 4) rfl rfl (by rw [hml]; rfl) [(.ref o1), (.ref o0)] rfl (hb hby d3_11) (pc' := 14) rfl (rm5 l Z a0 hw o1 h1 n0 cs hcap ((o0, Own.ObjC Z "com/example/idxof/idxof/KnuthMorrisPrattPattern" [(("com/example/idxof/idxof/KnuthMorrisPrattPattern", "chars", "[C"), (.ref o1)), (("com/example/idxof/idxof/KnuthMorrisPrattPattern", "borders", "[I"), .null)]) :: fr) O3) ?_
  rintro _ h5 ⟨r4, rfl, O6⟩
  show Own.Goes _ _ _ _ _ _ _ _ _ _ _ _ _ _ _ _ _ (mkF m 14 #[.val (.ref o0), .val (.ref o1)] [(.ref r4), (.ref o0)])
  refine Own.putfield hx hZ hown O6 2 1 rfl rfl (hw _ (List.mem_of_getElem? (i := 24) rfl)) (Or.inr ⟨(hw _ (List.mem_of_getElem? (i := 25) rfl)), rfl, hnm⟩) (hw _ (List.mem_of_getElem? (i := 9) rfl)) (ty := (.array .int)) (by decide) rfl rfl ((r4, Own.ArrC Z .int ((ofL cs).map gI)) :: (o1, Own.ArrC Z .char (cs.map Value.int)) :: (o0, Own.ObjC Z "com/example/idxof/idxof/KnuthMorrisPrattPattern" [(("com/example/idxof/idxof/KnuthMorrisPrattPattern", "chars", "[C"), (.ref o1)), (("com/example/idxof/idxof/KnuthMorrisPrattPattern", "borders", "[I"), (.ref r4))]) :: fr) rfl (hb hby d3_14) rfl ?_
  intro h7 O8
  have O9 : Own.Owns n0 h7 ((o1, Own.ArrC Z .char (cs.map Value.int)) :: (r4, Own.ArrC Z .int ((ofL cs).map gI)) :: (o0, Own.ObjC Z "com/example/idxof/idxof/KnuthMorrisPrattPattern" [(("com/example/idxof/idxof/KnuthMorrisPrattPattern", "chars", "[C"), (.ref o1)), (("com/example/idxof/idxof/KnuthMorrisPrattPattern", "borders", "[I"), (.ref r4))]) :: fr) := O8.pick 1 rfl
  have O10 : Own.Owns n0 h7 ((r4, Own.ArrC Z .int ((ofL cs).map gI)) :: (o1, Own.ArrC Z .char (cs.map Value.int)) :: (o0, Own.ObjC Z "com/example/idxof/idxof/KnuthMorrisPrattPattern" [(("com/example/idxof/idxof/KnuthMorrisPrattPattern", "chars", "[C"), (.ref o1)), (("com/example/idxof/idxof/KnuthMorrisPrattPattern", "borders", "[I"), (.ref r4))]) :: fr) := O9.pick 1 rfl
  have O11 : Own.Owns n0 h7 ((o0, Own.ObjC Z "com/example/idxof/idxof/KnuthMorrisPrattPattern" [(("com/example/idxof/idxof/KnuthMorrisPrattPattern", "chars", "[C"), (.ref o1)), (("com/example/idxof/idxof/KnuthMorrisPrattPattern", "borders", "[I"), (.ref r4))]) :: (r4, Own.ArrC Z .int ((ofL cs).map gI)) :: (o1, Own.ArrC Z .char (cs.map Value.int)) :: fr) := O10.pick 2 rfl
  exact Own.retV hx hret hlk (hb hby d3_17) (by decide) (by decide) ⟨r4, rfl, O11⟩

theorem own_X {cs : List Int32} {cx : Int32} {b : Nat} (hb' : b < cs.length) : eqAt (cs ++ [cx]) cs.length b = true ↔ cx = cs.getD b 0 := by
  unfold eqAt
  have h1 : (cs ++ [cx]).getD cs.length 0 = cx := by simp [List.getD_eq_getElem?_getD]
  have h2 : (cs ++ [cx]).getD b 0 = cs.getD b 0 := by simp [List.getD_eq_getElem?_getD, List.getElem?_append_left hb']
  rw [h1, h2]
  simp
  omega
theorem own_nh {cs : List Int32} {cx : Int32} {rs : List Nat} {b : Nat} (hbl : fallE (eqAt (cs ++ [cx])) rs cs.length b b < cs.length) (h : cx = cs.getD (fallE (eqAt (cs ++ [cx])) rs cs.length b b) 0) : (nextE (eqAt (cs ++ [cx])) rs cs.length b).toInt32 = (fallE (eqAt (cs ++ [cx])) rs cs.length b b).toInt32 + (1 : Int32) := by
  unfold nextE; rw [if_pos ((own_X hbl).mpr h), own_succ]
theorem own_nm' {cs : List Int32} {cx : Int32} {rs : List Nat} {b : Nat} (hbl : fallE (eqAt (cs ++ [cx])) rs cs.length b b < cs.length) (h : ¬ cx = cs.getD (fallE (eqAt (cs ++ [cx])) rs cs.length b b) 0) : (nextE (eqAt (cs ++ [cx])) rs cs.length b).toInt32 = (fallE (eqAt (cs ++ [cx])) rs cs.length b b).toInt32 := by
  unfold nextE; rw [if_neg (fun z => h ((own_X hbl).mp z))]
theorem run_le (E : Nat → Nat → Bool) (nn : Nat) : ∀ t i rs b, (i + t = nn ∨ (t = 0 ∧ nn ≤ i)) → b < i → (∀ j, j < i → rs.getD j 0 ≤ j) → ∀ j, j < nn → (runE E t i rs b).getD j 0 ≤ j
  | 0, i, rs, b, h, _, hr => fun j hj => hr j (by omega)
  | t + 1, i, rs, b, h, hbi, hr => by
    unfold runE
    have h1 := next_le E rs i b hr hbi
    exact run_le E nn t (i + 1) _ _ (by omega) (by omega) (set_inv hr h1)
theorem own_of_le (cs : List Int32) : ∀ j, j < cs.length → (ofL cs).getD j 0 ≤ j := by
  unfold ofL ofE
  exact run_le (eqAt cs) cs.length _ _ _ _ (by omega) (by omega) own_rep

theorem d6_22 : decode prog_23_method_3_code 22 = .ok (.iload_n 3, 1) := by decide +kernel
theorem d6_23 : decode prog_23_method_3_code 23 = .ok (.ifCond .le 25, 3) := by decide +kernel
theorem d6_26 : decode prog_23_method_3_code 26 = .ok (.iload_n 2, 1) := by decide +kernel
theorem d6_27 : decode prog_23_method_3_code 27 = .ok (.aload_n 0, 1) := by decide +kernel
theorem d6_28 : decode prog_23_method_3_code 28 = .ok (.getfield 7, 3) := by decide +kernel
theorem d6_31 : decode prog_23_method_3_code 31 = .ok (.iload_n 3, 1) := by decide +kernel
theorem d6_32 : decode prog_23_method_3_code 32 = .ok (.caload, 1) := by decide +kernel
theorem d6_33 : decode prog_23_method_3_code 33 = .ok (.if_icmp .eq 15, 3) := by decide +kernel
theorem d6_36 : decode prog_23_method_3_code 36 = .ok (.aload_n 0, 1) := by decide +kernel
theorem d6_37 : decode prog_23_method_3_code 37 = .ok (.getfield 19, 3) := by decide +kernel
theorem d6_40 : decode prog_23_method_3_code 40 = .ok (.iload_n 3, 1) := by decide +kernel
theorem d6_41 : decode prog_23_method_3_code 41 = .ok (.iconst 1, 1) := by decide +kernel
theorem d6_42 : decode prog_23_method_3_code 42 = .ok (.isub, 1) := by decide +kernel
theorem d6_43 : decode prog_23_method_3_code 43 = .ok (.iaload, 1) := by decide +kernel
theorem d6_44 : decode prog_23_method_3_code 44 = .ok (.istore_n 3, 1) := by decide +kernel
theorem d6_45 : decode prog_23_method_3_code 45 = .ok (.goto (-23), 3) := by decide +kernel
set_option maxRecDepth 65536 in
set_option maxHeartbeats 40000000 in
theorem ext_inner {p : Program} {l : Launch} {e : Env} {R : Room} {s : State} {m : MethodId} {args : Array Value} {below : List Frame} {meth : Method} {c : Code} {n0 mc ms : Nat} {Fn : Option Value → Heap → Prop} {k n : Nat} {Z : State} {a0 : Array Value} (hw : ∀ d ∈ tables_1, d.before a0 Z = true) (hx : p.tables.exec = Jvm.exec) (hby : c.code = prog_23_method_3_code) (hml : c.maxLocals = 4) (hown : s.vm.findClass "com/example/idxof/idxof/KnuthMorrisPrattPattern" = some m.cls) (hZ : Z.Warmed39 s.vm) {h : Heap} {fr : List (Addr × (Cell → Prop))} {cs : List Int32} {rs : List Nat} {o0 oc ob : Addr} {mm cx : Int32} (O : Own.Owns n0 h ((o0, Own.ObjC Z "com/example/idxof/idxof/KnuthMorrisPrattPattern" [(("com/example/idxof/idxof/KnuthMorrisPrattPattern", "chars", "[C"), (.ref oc)), (("com/example/idxof/idxof/KnuthMorrisPrattPattern", "borders", "[I"), (.ref ob))]) :: (oc, Own.ArrC Z .char (cs.map Value.int)) :: (ob, Own.ArrC Z .int (rs.map gI)) :: fr)) (hlen : rs.length = cs.length) (hn : cs.length < 2147483648) (hr : ∀ j, j < cs.length → rs.getD j 0 ≤ j) :
    ∀ f b, b ≤ f → b < cs.length → Own.Goes p l e R s m args below meth c n0 mc ms Fn h k n (mkF m 48 #[.val (.ref o0), .val (.int mm), .val (.int cx), .val (.int (fallE (eqAt (cs ++ [cx])) rs cs.length f b).toInt32)] []) → Own.Goes p l e R s m args below meth c n0 mc ms Fn h k n (mkF m 22 #[.val (.ref o0), .val (.int mm), .val (.int cx), .val (.int b.toInt32)] []) := by
  intro f
  induction f with
  | zero =>
    intro b hbf hb1 K
    obtain rfl : b = 0 := by omega
    refine Own.iloadN hx (0 : Nat).toInt32 (hb hby d6_22) rfl rfl ?_
    refine Own.ifFn hx (Own.z_le _) (hb hby d6_23) (pcN := 26) rfl (by decide) (pcT := 48) rfl (fun _ => ?_) (fun q => absurd q (by decide))
    exact K
  | succ f ih =>
    intro b hbf hb1 K
    by_cases hb0 : b = 0
    · subst hb0
      refine Own.iloadN hx (0 : Nat).toInt32 (hb hby d6_22) rfl rfl ?_
      refine Own.ifFn hx (Own.z_le _) (hb hby d6_23) (pcN := 26) rfl (by decide) (pcT := 48) rfl (fun _ => ?_) (fun q => absurd q (by decide))
      rw [fall_zero] at K
      exact K
    · skip
      refine Own.iloadN hx b.toInt32 (hb hby d6_22) rfl rfl ?_
      have hc1 : (0 : Int32) < b.toInt32 := own_pos hb0 hb1 hn
      refine Own.ifFn hx (Own.z_le b.toInt32) (hb hby d6_23) (pcN := 26) rfl (by decide) (pcT := 48) rfl (fun q => absurd hc1 q) (fun _ => ?_)
      refine Own.iloadN hx cx (hb hby d6_26) rfl rfl ?_
      refine Own.aloadN hx (.ref o0) (hb hby d6_27) rfl rfl rfl ?_
      refine Own.getfield hx hZ hown O 0 0 rfl rfl (hw _ (List.mem_of_getElem? (i := 17) rfl)) (hb hby d6_28) rfl ?_
      refine Own.iloadN hx b.toInt32 (hb hby d6_31) rfl rfl ?_
      refine Own.caload hx hZ O 1 b rfl (own_ti hb1 hn) (v := (.int (cs.getD b 0))) (own_cs_at hb1) (hb hby d6_32) rfl ?_
      refine Own.icmpF hx (Own.q_eq cx (cs.getD b 0)) (hb hby d6_33) (pcN := 36) rfl (by decide) (pcT := 48) rfl (fun hcE => ?_) (fun hcE => ?_)
      · rw [fall_hit hb0 ((own_X hb1).mpr hcE)] at K; exact K
      · refine Own.aloadN hx (.ref o0) (hb hby d6_36) rfl rfl rfl ?_
        refine Own.getfield hx hZ hown O 0 1 rfl rfl (hw _ (List.mem_of_getElem? (i := 24) rfl)) (hb hby d6_37) rfl ?_
        refine Own.iloadN hx b.toInt32 (hb hby d6_40) rfl rfl ?_
        refine Own.iconst hx (1 : Int32) (hb hby d6_41) rfl (by decide) ?_
        refine Own.isub hx (hb hby d6_42) rfl ?_
        refine Own.iaload hx hZ O 2 (b - 1) rfl (own_tp hb0 hb1 hn) (v := (.int (rs.getD (b - 1) 0).toInt32)) (own_rs_at (by omega)) (hb hby d6_43) rfl ?_
        refine Own.istoreN hx (rs.getD (b - 1) 0).toInt32 rfl #[.val (.ref o0), .val (.int mm), .val (.int cx), .val (.int (rs.getD (b - 1) 0).toInt32)] (hb hby d6_44) rfl rfl ?_
        refine Own.goto hx (hb hby d6_45) (by decide) (pc' := 22) rfl ?_
        rw [fall_miss hb0 (fun z => hcE ((own_X hb1).mp z))] at K
        have h1 := hr (b - 1) (by omega)
        exact ih _ (by omega) (by omega) K
theorem d6_48 : decode prog_23_method_3_code 48 = .ok (.iload_n 2, 1) := by decide +kernel
theorem d6_49 : decode prog_23_method_3_code 49 = .ok (.aload_n 0, 1) := by decide +kernel
theorem d6_50 : decode prog_23_method_3_code 50 = .ok (.getfield 7, 3) := by decide +kernel
theorem d6_53 : decode prog_23_method_3_code 53 = .ok (.iload_n 3, 1) := by decide +kernel
theorem d6_54 : decode prog_23_method_3_code 54 = .ok (.caload, 1) := by decide +kernel
theorem d6_55 : decode prog_23_method_3_code 55 = .ok (.if_icmp .ne 9, 3) := by decide +kernel
theorem d6_58 : decode prog_23_method_3_code 58 = .ok (.iload_n 3, 1) := by decide +kernel
theorem d6_59 : decode prog_23_method_3_code 59 = .ok (.iconst 1, 1) := by decide +kernel
theorem d6_60 : decode prog_23_method_3_code 60 = .ok (.iadd, 1) := by decide +kernel
theorem d6_61 : decode prog_23_method_3_code 61 = .ok (.goto 4, 3) := by decide +kernel
theorem d6_64 : decode prog_23_method_3_code 64 = .ok (.iload_n 3, 1) := by decide +kernel
theorem d6_65 : decode prog_23_method_3_code 65 = .ok (.ireturn, 1) := by decide +kernel
set_option maxRecDepth 65536 in
set_option maxHeartbeats 40000000 in
theorem ext_tail {p : Program} {l : Launch} {e : Env} {R : Room} {s : State} {m : MethodId} {args : Array Value} {below : List Frame} {meth : Method} {c : Code} {n0 mc ms : Nat} {Fn : Option Value → Heap → Prop} {k n : Nat} {Z : State} {a0 : Array Value} (hw : ∀ d ∈ tables_1, d.before a0 Z = true) (hx : p.tables.exec = Jvm.exec) (hby : c.code = prog_23_method_3_code) (hml : c.maxLocals = 4) (hown : s.vm.findClass "com/example/idxof/idxof/KnuthMorrisPrattPattern" = some m.cls) (hZ : Z.Warmed39 s.vm) (hret : meth.sig.returnType = some .int) (hlk : meth.locks = false) (hk : k ≤ mc) (hn' : n ≤ ms) {h : Heap} {fr : List (Addr × (Cell → Prop))} {cs : List Int32} {rs : List Nat} {o0 oc ob : Addr} {mm cx : Int32} (O : Own.Owns n0 h ((o0, Own.ObjC Z "com/example/idxof/idxof/KnuthMorrisPrattPattern" [(("com/example/idxof/idxof/KnuthMorrisPrattPattern", "chars", "[C"), (.ref oc)), (("com/example/idxof/idxof/KnuthMorrisPrattPattern", "borders", "[I"), (.ref ob))]) :: (oc, Own.ArrC Z .char (cs.map Value.int)) :: (ob, Own.ArrC Z .int (rs.map gI)) :: fr)) (hlen : rs.length = cs.length) (hn : cs.length < 2147483648) (hr : ∀ j, j < cs.length → rs.getD j 0 ≤ j) (b : Nat) (hbc : b < cs.length)
    (hF : Fn (some (.int (nextE (eqAt (cs ++ [cx])) rs cs.length b).toInt32)) h) : Own.Goes p l e R s m args below meth c n0 mc ms Fn h k n (mkF m 22 #[.val (.ref o0), .val (.int mm), .val (.int cx), .val (.int b.toInt32)] []) := by
  have hfl := fall_le (eqAt (cs ++ [cx])) rs cs.length hr b b (by omega)
  have hbl : (fallE (eqAt (cs ++ [cx])) rs cs.length b b) < cs.length := by omega
  refine ext_inner hw hx hby hml hown hZ O hlen hn hr b b (Nat.le_refl _) hbc ?_
  refine Own.iloadN hx cx (hb hby d6_48) rfl rfl ?_
  refine Own.aloadN hx (.ref o0) (hb hby d6_49) rfl rfl rfl ?_
  refine Own.getfield hx hZ hown O 0 0 rfl rfl (hw _ (List.mem_of_getElem? (i := 17) rfl)) (hb hby d6_50) rfl ?_
  refine Own.iloadN hx (fallE (eqAt (cs ++ [cx])) rs cs.length b b).toInt32 (hb hby d6_53) rfl rfl ?_
  refine Own.caload hx hZ O 1 (fallE (eqAt (cs ++ [cx])) rs cs.length b b) rfl (own_ti hbl hn) (v := (.int (cs.getD (fallE (eqAt (cs ++ [cx])) rs cs.length b b) 0))) (own_cs_at hbl) (hb hby d6_54) rfl ?_
  refine Own.icmpFn hx (Own.q_ne cx (cs.getD (fallE (eqAt (cs ++ [cx])) rs cs.length b b) 0)) (hb hby d6_55) (pcN := 58) rfl (by decide) (pcT := 64) rfl (fun hcE => ?_) (fun hcE => ?_)
  · refine Own.iloadN hx (fallE (eqAt (cs ++ [cx])) rs cs.length b b).toInt32 (hb hby d6_64) rfl rfl ?_
    exact Own.retI hx hret hlk (hb hby d6_65) hk hn' (by rw [own_nm' hbl hcE] at hF; exact hF)
  · refine Own.iloadN hx (fallE (eqAt (cs ++ [cx])) rs cs.length b b).toInt32 (hb hby d6_58) rfl rfl ?_
    refine Own.iconst hx (1 : Int32) (hb hby d6_59) rfl (by decide) ?_
    refine Own.iadd hx (hb hby d6_60) rfl ?_
    refine Own.goto hx (hb hby d6_61) (by decide) (pc' := 65) rfl ?_
    exact Own.retI hx hret hlk (hb hby d6_65) hk hn' (by rw [own_nh hbl hcE] at hF; exact hF)
theorem d6_0 : decode prog_23_method_3_code 0 = .ok (.iload_n 1, 1) := by decide +kernel
theorem d6_1 : decode prog_23_method_3_code 1 = .ok (.aload_n 0, 1) := by decide +kernel
theorem d6_2 : decode prog_23_method_3_code 2 = .ok (.getfield 7, 3) := by decide +kernel
theorem d6_5 : decode prog_23_method_3_code 5 = .ok (.arraylength, 1) := by decide +kernel
theorem d6_6 : decode prog_23_method_3_code 6 = .ok (.if_icmp .ne 14, 3) := by decide +kernel
theorem d6_20 : decode prog_23_method_3_code 20 = .ok (.iload_n 1, 1) := by decide +kernel
theorem d6_21 : decode prog_23_method_3_code 21 = .ok (.istore_n 3, 1) := by decide +kernel
theorem pn2 : plainFor (⟨"com/example/idxof/idxof/KnuthMorrisPrattPattern", "extend", "(IC)I"⟩ : MethodName) = true := by first | exact plainFor_of_name (by simp [plainName, overriddenIn]; done) | decide +kernel
theorem ef6_1_0 (m : MethodId) (o0 : Addr) (p2 : Int32) : entryFrame m #[(.ref o0), (.int (0 : Int32)), (.int p2)] 4 = mkF m 0 #[.val (.ref o0), .val (.int (0 : Int32)), .val (.int p2), .unset] [] := by first | (simp [entryFrame, mkF, argsToLocals, Value.category]; done) | rfl
set_option maxRecDepth 65536 in
set_option maxHeartbeats 40000000 in
theorem rm6_1_0 (l : Launch) (Z : State) (a0 : Array Value) (hw : ∀ d ∈ tables_1, d.before a0 Z = true) (o0 : Addr) (p2 : Int32) (h0 : Heap) (n0 : Nat) (cs : List Int32) (hlen : cs.length = 1) (oc ob : Addr) (fr : List (Addr × (Cell → Prop))) (O0 : Own.Owns n0 h0 ((o0, Own.ObjC Z "com/example/idxof/idxof/KnuthMorrisPrattPattern" [(("com/example/idxof/idxof/KnuthMorrisPrattPattern", "chars", "[C"), (.ref oc)), (("com/example/idxof/idxof/KnuthMorrisPrattPattern", "borders", "[I"), (.ref ob))]) :: (oc, Own.ArrC Z .char (cs.map Value.int)) :: (ob, Own.ArrC Z .int ((ofL cs).map gI)) :: fr))  : Own.Does l (⟨"com/example/idxof/idxof/KnuthMorrisPrattPattern", "extend", "(IC)I"⟩ : MethodName) prog_23_method_3_code 4 (some .int) [] ({ frames := 0, cells := 0, slots := 0, locals := 0 } : Room) Z #[(.ref o0), (.int (0 : Int32)), (.int p2)] h0 n0 (fun v h => v = some (.int (nextE (eqAt (cs ++ [p2])) (ofL cs) cs.length 0).toInt32) ∧ h = h0) := by
  refine Own.doesOf pn2 ?_
  intro p e s m below meth c hx hby hml hret hlk hown hnm hZ
  refine Own.Goes.cast (ef6_1_0 m o0 p2) ?_
  refine Own.iloadN hx (0 : Int32) (hb hby d6_0) rfl rfl ?_
  refine Own.aloadN hx (.ref o0) (hb hby d6_1) rfl rfl rfl ?_
  refine Own.getfield hx hZ hown O0 0 0 rfl rfl (hw _ (List.mem_of_getElem? (i := 17) rfl)) (hb hby d6_2) rfl ?_
  refine Own.arrlen hx hZ O0 1 rfl (1 : Int32) (by rw [List.length_map, hlen]; rfl) (hb hby d6_5) rfl ?_
  have hc1 : ¬ ((0 : Int32) = (1 : Int32)) := by decide
  refine Own.icmpFn hx (Own.q_ne (0 : Int32) (1 : Int32)) (hb hby d6_6) (pcN := 9) rfl (by decide) (pcT := 20) rfl (fun _ => ?_) (fun q => absurd q hc1)
  refine Own.iloadN hx (0 : Int32) (hb hby d6_20) rfl rfl ?_
  refine Own.istoreN hx (0 : Int32) rfl #[.val (.ref o0), .val (.int (0 : Int32)), .val (.int p2), .val (.int (0 : Int32))] (hb hby d6_21) rfl rfl ?_
  exact ext_tail hw hx hby hml hown hZ hret hlk (by decide) (by decide) O0 (of_len cs) (by omega) (own_of_le cs) 0 (by omega) ⟨rfl, rfl⟩

theorem d6_9 : decode prog_23_method_3_code 9 = .ok (.aload_n 0, 1) := by decide +kernel
theorem d6_10 : decode prog_23_method_3_code 10 = .ok (.getfield 19, 3) := by decide +kernel
theorem d6_13 : decode prog_23_method_3_code 13 = .ok (.iload_n 1, 1) := by decide +kernel
theorem d6_14 : decode prog_23_method_3_code 14 = .ok (.iconst 1, 1) := by decide +kernel
theorem d6_15 : decode prog_23_method_3_code 15 = .ok (.isub, 1) := by decide +kernel
theorem d6_16 : decode prog_23_method_3_code 16 = .ok (.iaload, 1) := by decide +kernel
theorem d6_17 : decode prog_23_method_3_code 17 = .ok (.goto 4, 3) := by decide +kernel
theorem ef6_1_1 (m : MethodId) (o0 : Addr) (p2 : Int32) : entryFrame m #[(.ref o0), (.int (1 : Int32)), (.int p2)] 4 = mkF m 0 #[.val (.ref o0), .val (.int (1 : Int32)), .val (.int p2), .unset] [] := by first | (simp [entryFrame, mkF, argsToLocals, Value.category]; done) | rfl
set_option maxRecDepth 65536 in
set_option maxHeartbeats 40000000 in
theorem rm6_1_1 (l : Launch) (Z : State) (a0 : Array Value) (hw : ∀ d ∈ tables_1, d.before a0 Z = true) (o0 : Addr) (p2 : Int32) (h0 : Heap) (n0 : Nat) (cs : List Int32) (hlen : cs.length = 1) (oc ob : Addr) (fr : List (Addr × (Cell → Prop))) (O0 : Own.Owns n0 h0 ((o0, Own.ObjC Z "com/example/idxof/idxof/KnuthMorrisPrattPattern" [(("com/example/idxof/idxof/KnuthMorrisPrattPattern", "chars", "[C"), (.ref oc)), (("com/example/idxof/idxof/KnuthMorrisPrattPattern", "borders", "[I"), (.ref ob))]) :: (oc, Own.ArrC Z .char (cs.map Value.int)) :: (ob, Own.ArrC Z .int ((ofL cs).map gI)) :: fr))  : Own.Does l (⟨"com/example/idxof/idxof/KnuthMorrisPrattPattern", "extend", "(IC)I"⟩ : MethodName) prog_23_method_3_code 4 (some .int) [] ({ frames := 0, cells := 0, slots := 0, locals := 0 } : Room) Z #[(.ref o0), (.int (1 : Int32)), (.int p2)] h0 n0 (fun v h => v = some (.int (nextE (eqAt (cs ++ [p2])) (ofL cs) cs.length ((ofL cs).getD 0 0)).toInt32) ∧ h = h0) := by
  refine Own.doesOf pn2 ?_
  intro p e s m below meth c hx hby hml hret hlk hown hnm hZ
  refine Own.Goes.cast (ef6_1_1 m o0 p2) ?_
  refine Own.iloadN hx (1 : Int32) (hb hby d6_0) rfl rfl ?_
  refine Own.aloadN hx (.ref o0) (hb hby d6_1) rfl rfl rfl ?_
  refine Own.getfield hx hZ hown O0 0 0 rfl rfl (hw _ (List.mem_of_getElem? (i := 17) rfl)) (hb hby d6_2) rfl ?_
  refine Own.arrlen hx hZ O0 1 rfl (1 : Int32) (by rw [List.length_map, hlen]; rfl) (hb hby d6_5) rfl ?_
  have hc1 : (1 : Int32) = (1 : Int32) := by decide
  refine Own.icmpFn hx (Own.q_ne (1 : Int32) (1 : Int32)) (hb hby d6_6) (pcN := 9) rfl (by decide) (pcT := 20) rfl (fun q => absurd hc1 q) (fun _ => ?_)
  refine Own.aloadN hx (.ref o0) (hb hby d6_9) rfl rfl rfl ?_
  refine Own.getfield hx hZ hown O0 0 1 rfl rfl (hw _ (List.mem_of_getElem? (i := 24) rfl)) (hb hby d6_10) rfl ?_
  refine Own.iloadN hx (1 : Int32) (hb hby d6_13) rfl rfl ?_
  refine Own.iconst hx (1 : Int32) (hb hby d6_14) rfl (by decide) ?_
  refine Own.isub hx (hb hby d6_15) rfl ?_
  refine Own.vI (0 : Int32) (by decide) ?_
  refine Own.iaload hx hZ O0 2 0 rfl (by decide) (v := (.int ((ofL cs).getD 0 0).toInt32)) (own_rs_at (by rw [of_len]; omega)) (hb hby d6_16) rfl ?_
  refine Own.goto hx (hb hby d6_17) (by decide) (pc' := 21) rfl ?_
  refine Own.istoreN hx ((ofL cs).getD 0 0).toInt32 rfl #[.val (.ref o0), .val (.int (1 : Int32)), .val (.int p2), .val (.int ((ofL cs).getD 0 0).toInt32)] (hb hby d6_21) rfl rfl ?_
  exact ext_tail hw hx hby hml hown hZ hret hlk (by decide) (by decide) O0 (of_len cs) (by omega) (own_of_le cs) ((ofL cs).getD 0 0) (by have := own_of_le cs 0 (by omega); omega) ⟨rfl, rfl⟩

theorem ef6_2_0 (m : MethodId) (o0 : Addr) (p2 : Int32) : entryFrame m #[(.ref o0), (.int (0 : Int32)), (.int p2)] 4 = mkF m 0 #[.val (.ref o0), .val (.int (0 : Int32)), .val (.int p2), .unset] [] := by first | (simp [entryFrame, mkF, argsToLocals, Value.category]; done) | rfl
set_option maxRecDepth 65536 in
set_option maxHeartbeats 40000000 in
theorem rm6_2_0 (l : Launch) (Z : State) (a0 : Array Value) (hw : ∀ d ∈ tables_1, d.before a0 Z = true) (o0 : Addr) (p2 : Int32) (h0 : Heap) (n0 : Nat) (cs : List Int32) (hlen : cs.length = 2) (oc ob : Addr) (fr : List (Addr × (Cell → Prop))) (O0 : Own.Owns n0 h0 ((o0, Own.ObjC Z "com/example/idxof/idxof/KnuthMorrisPrattPattern" [(("com/example/idxof/idxof/KnuthMorrisPrattPattern", "chars", "[C"), (.ref oc)), (("com/example/idxof/idxof/KnuthMorrisPrattPattern", "borders", "[I"), (.ref ob))]) :: (oc, Own.ArrC Z .char (cs.map Value.int)) :: (ob, Own.ArrC Z .int ((ofL cs).map gI)) :: fr))  : Own.Does l (⟨"com/example/idxof/idxof/KnuthMorrisPrattPattern", "extend", "(IC)I"⟩ : MethodName) prog_23_method_3_code 4 (some .int) [] ({ frames := 0, cells := 0, slots := 0, locals := 0 } : Room) Z #[(.ref o0), (.int (0 : Int32)), (.int p2)] h0 n0 (fun v h => v = some (.int (nextE (eqAt (cs ++ [p2])) (ofL cs) cs.length 0).toInt32) ∧ h = h0) := by
  refine Own.doesOf pn2 ?_
  intro p e s m below meth c hx hby hml hret hlk hown hnm hZ
  refine Own.Goes.cast (ef6_2_0 m o0 p2) ?_
  refine Own.iloadN hx (0 : Int32) (hb hby d6_0) rfl rfl ?_
  refine Own.aloadN hx (.ref o0) (hb hby d6_1) rfl rfl rfl ?_
  refine Own.getfield hx hZ hown O0 0 0 rfl rfl (hw _ (List.mem_of_getElem? (i := 17) rfl)) (hb hby d6_2) rfl ?_
  refine Own.arrlen hx hZ O0 1 rfl (2 : Int32) (by rw [List.length_map, hlen]; rfl) (hb hby d6_5) rfl ?_
  have hc1 : ¬ ((0 : Int32) = (2 : Int32)) := by decide
  refine Own.icmpFn hx (Own.q_ne (0 : Int32) (2 : Int32)) (hb hby d6_6) (pcN := 9) rfl (by decide) (pcT := 20) rfl (fun _ => ?_) (fun q => absurd q hc1)
  refine Own.iloadN hx (0 : Int32) (hb hby d6_20) rfl rfl ?_
  refine Own.istoreN hx (0 : Int32) rfl #[.val (.ref o0), .val (.int (0 : Int32)), .val (.int p2), .val (.int (0 : Int32))] (hb hby d6_21) rfl rfl ?_
  exact ext_tail hw hx hby hml hown hZ hret hlk (by decide) (by decide) O0 (of_len cs) (by omega) (own_of_le cs) 0 (by omega) ⟨rfl, rfl⟩

theorem ef6_2_1 (m : MethodId) (o0 : Addr) (p2 : Int32) : entryFrame m #[(.ref o0), (.int (1 : Int32)), (.int p2)] 4 = mkF m 0 #[.val (.ref o0), .val (.int (1 : Int32)), .val (.int p2), .unset] [] := by first | (simp [entryFrame, mkF, argsToLocals, Value.category]; done) | rfl
set_option maxRecDepth 65536 in
set_option maxHeartbeats 40000000 in
theorem rm6_2_1 (l : Launch) (Z : State) (a0 : Array Value) (hw : ∀ d ∈ tables_1, d.before a0 Z = true) (o0 : Addr) (p2 : Int32) (h0 : Heap) (n0 : Nat) (cs : List Int32) (hlen : cs.length = 2) (oc ob : Addr) (fr : List (Addr × (Cell → Prop))) (O0 : Own.Owns n0 h0 ((o0, Own.ObjC Z "com/example/idxof/idxof/KnuthMorrisPrattPattern" [(("com/example/idxof/idxof/KnuthMorrisPrattPattern", "chars", "[C"), (.ref oc)), (("com/example/idxof/idxof/KnuthMorrisPrattPattern", "borders", "[I"), (.ref ob))]) :: (oc, Own.ArrC Z .char (cs.map Value.int)) :: (ob, Own.ArrC Z .int ((ofL cs).map gI)) :: fr))  : Own.Does l (⟨"com/example/idxof/idxof/KnuthMorrisPrattPattern", "extend", "(IC)I"⟩ : MethodName) prog_23_method_3_code 4 (some .int) [] ({ frames := 0, cells := 0, slots := 0, locals := 0 } : Room) Z #[(.ref o0), (.int (1 : Int32)), (.int p2)] h0 n0 (fun v h => v = some (.int (nextE (eqAt (cs ++ [p2])) (ofL cs) cs.length 1).toInt32) ∧ h = h0) := by
  refine Own.doesOf pn2 ?_
  intro p e s m below meth c hx hby hml hret hlk hown hnm hZ
  refine Own.Goes.cast (ef6_2_1 m o0 p2) ?_
  refine Own.iloadN hx (1 : Int32) (hb hby d6_0) rfl rfl ?_
  refine Own.aloadN hx (.ref o0) (hb hby d6_1) rfl rfl rfl ?_
  refine Own.getfield hx hZ hown O0 0 0 rfl rfl (hw _ (List.mem_of_getElem? (i := 17) rfl)) (hb hby d6_2) rfl ?_
  refine Own.arrlen hx hZ O0 1 rfl (2 : Int32) (by rw [List.length_map, hlen]; rfl) (hb hby d6_5) rfl ?_
  have hc1 : ¬ ((1 : Int32) = (2 : Int32)) := by decide
  refine Own.icmpFn hx (Own.q_ne (1 : Int32) (2 : Int32)) (hb hby d6_6) (pcN := 9) rfl (by decide) (pcT := 20) rfl (fun _ => ?_) (fun q => absurd q hc1)
  refine Own.iloadN hx (1 : Int32) (hb hby d6_20) rfl rfl ?_
  refine Own.istoreN hx (1 : Int32) rfl #[.val (.ref o0), .val (.int (1 : Int32)), .val (.int p2), .val (.int (1 : Int32))] (hb hby d6_21) rfl rfl ?_
  exact ext_tail hw hx hby hml hown hZ hret hlk (by decide) (by decide) O0 (of_len cs) (by omega) (own_of_le cs) 1 (by omega) ⟨rfl, rfl⟩

theorem ef6_2_2 (m : MethodId) (o0 : Addr) (p2 : Int32) : entryFrame m #[(.ref o0), (.int (2 : Int32)), (.int p2)] 4 = mkF m 0 #[.val (.ref o0), .val (.int (2 : Int32)), .val (.int p2), .unset] [] := by first | (simp [entryFrame, mkF, argsToLocals, Value.category]; done) | rfl
set_option maxRecDepth 65536 in
set_option maxHeartbeats 40000000 in
theorem rm6_2_2 (l : Launch) (Z : State) (a0 : Array Value) (hw : ∀ d ∈ tables_1, d.before a0 Z = true) (o0 : Addr) (p2 : Int32) (h0 : Heap) (n0 : Nat) (cs : List Int32) (hlen : cs.length = 2) (oc ob : Addr) (fr : List (Addr × (Cell → Prop))) (O0 : Own.Owns n0 h0 ((o0, Own.ObjC Z "com/example/idxof/idxof/KnuthMorrisPrattPattern" [(("com/example/idxof/idxof/KnuthMorrisPrattPattern", "chars", "[C"), (.ref oc)), (("com/example/idxof/idxof/KnuthMorrisPrattPattern", "borders", "[I"), (.ref ob))]) :: (oc, Own.ArrC Z .char (cs.map Value.int)) :: (ob, Own.ArrC Z .int ((ofL cs).map gI)) :: fr))  : Own.Does l (⟨"com/example/idxof/idxof/KnuthMorrisPrattPattern", "extend", "(IC)I"⟩ : MethodName) prog_23_method_3_code 4 (some .int) [] ({ frames := 0, cells := 0, slots := 0, locals := 0 } : Room) Z #[(.ref o0), (.int (2 : Int32)), (.int p2)] h0 n0 (fun v h => v = some (.int (nextE (eqAt (cs ++ [p2])) (ofL cs) cs.length ((ofL cs).getD 1 0)).toInt32) ∧ h = h0) := by
  refine Own.doesOf pn2 ?_
  intro p e s m below meth c hx hby hml hret hlk hown hnm hZ
  refine Own.Goes.cast (ef6_2_2 m o0 p2) ?_
  refine Own.iloadN hx (2 : Int32) (hb hby d6_0) rfl rfl ?_
  refine Own.aloadN hx (.ref o0) (hb hby d6_1) rfl rfl rfl ?_
  refine Own.getfield hx hZ hown O0 0 0 rfl rfl (hw _ (List.mem_of_getElem? (i := 17) rfl)) (hb hby d6_2) rfl ?_
  refine Own.arrlen hx hZ O0 1 rfl (2 : Int32) (by rw [List.length_map, hlen]; rfl) (hb hby d6_5) rfl ?_
  have hc1 : (2 : Int32) = (2 : Int32) := by decide
  refine Own.icmpFn hx (Own.q_ne (2 : Int32) (2 : Int32)) (hb hby d6_6) (pcN := 9) rfl (by decide) (pcT := 20) rfl (fun q => absurd hc1 q) (fun _ => ?_)
  refine Own.aloadN hx (.ref o0) (hb hby d6_9) rfl rfl rfl ?_
  refine Own.getfield hx hZ hown O0 0 1 rfl rfl (hw _ (List.mem_of_getElem? (i := 24) rfl)) (hb hby d6_10) rfl ?_
  refine Own.iloadN hx (2 : Int32) (hb hby d6_13) rfl rfl ?_
  refine Own.iconst hx (1 : Int32) (hb hby d6_14) rfl (by decide) ?_
  refine Own.isub hx (hb hby d6_15) rfl ?_
  refine Own.vI (1 : Int32) (by decide) ?_
  refine Own.iaload hx hZ O0 2 1 rfl (by decide) (v := (.int ((ofL cs).getD 1 0).toInt32)) (own_rs_at (by rw [of_len]; omega)) (hb hby d6_16) rfl ?_
  refine Own.goto hx (hb hby d6_17) (by decide) (pc' := 21) rfl ?_
  refine Own.istoreN hx ((ofL cs).getD 1 0).toInt32 rfl #[.val (.ref o0), .val (.int (2 : Int32)), .val (.int p2), .val (.int ((ofL cs).getD 1 0).toInt32)] (hb hby d6_21) rfl rfl ?_
  exact ext_tail hw hx hby hml hown hZ hret hlk (by decide) (by decide) O0 (of_len cs) (by omega) (own_of_le cs) ((ofL cs).getD 1 0) (by have := own_of_le cs 1 (by omega); omega) ⟨rfl, rfl⟩

theorem ef6_3_0 (m : MethodId) (o0 : Addr) (p2 : Int32) : entryFrame m #[(.ref o0), (.int (0 : Int32)), (.int p2)] 4 = mkF m 0 #[.val (.ref o0), .val (.int (0 : Int32)), .val (.int p2), .unset] [] := by first | (simp [entryFrame, mkF, argsToLocals, Value.category]; done) | rfl
set_option maxRecDepth 65536 in
set_option maxHeartbeats 40000000 in
theorem rm6_3_0 (l : Launch) (Z : State) (a0 : Array Value) (hw : ∀ d ∈ tables_1, d.before a0 Z = true) (o0 : Addr) (p2 : Int32) (h0 : Heap) (n0 : Nat) (cs : List Int32) (hlen : cs.length = 3) (oc ob : Addr) (fr : List (Addr × (Cell → Prop))) (O0 : Own.Owns n0 h0 ((o0, Own.ObjC Z "com/example/idxof/idxof/KnuthMorrisPrattPattern" [(("com/example/idxof/idxof/KnuthMorrisPrattPattern", "chars", "[C"), (.ref oc)), (("com/example/idxof/idxof/KnuthMorrisPrattPattern", "borders", "[I"), (.ref ob))]) :: (oc, Own.ArrC Z .char (cs.map Value.int)) :: (ob, Own.ArrC Z .int ((ofL cs).map gI)) :: fr))  : Own.Does l (⟨"com/example/idxof/idxof/KnuthMorrisPrattPattern", "extend", "(IC)I"⟩ : MethodName) prog_23_method_3_code 4 (some .int) [] ({ frames := 0, cells := 0, slots := 0, locals := 0 } : Room) Z #[(.ref o0), (.int (0 : Int32)), (.int p2)] h0 n0 (fun v h => v = some (.int (nextE (eqAt (cs ++ [p2])) (ofL cs) cs.length 0).toInt32) ∧ h = h0) := by
  refine Own.doesOf pn2 ?_
  intro p e s m below meth c hx hby hml hret hlk hown hnm hZ
  refine Own.Goes.cast (ef6_3_0 m o0 p2) ?_
  refine Own.iloadN hx (0 : Int32) (hb hby d6_0) rfl rfl ?_
  refine Own.aloadN hx (.ref o0) (hb hby d6_1) rfl rfl rfl ?_
  refine Own.getfield hx hZ hown O0 0 0 rfl rfl (hw _ (List.mem_of_getElem? (i := 17) rfl)) (hb hby d6_2) rfl ?_
  refine Own.arrlen hx hZ O0 1 rfl (3 : Int32) (by rw [List.length_map, hlen]; rfl) (hb hby d6_5) rfl ?_
  have hc1 : ¬ ((0 : Int32) = (3 : Int32)) := by decide
  refine Own.icmpFn hx (Own.q_ne (0 : Int32) (3 : Int32)) (hb hby d6_6) (pcN := 9) rfl (by decide) (pcT := 20) rfl (fun _ => ?_) (fun q => absurd q hc1)
  refine Own.iloadN hx (0 : Int32) (hb hby d6_20) rfl rfl ?_
  refine Own.istoreN hx (0 : Int32) rfl #[.val (.ref o0), .val (.int (0 : Int32)), .val (.int p2), .val (.int (0 : Int32))] (hb hby d6_21) rfl rfl ?_
  exact ext_tail hw hx hby hml hown hZ hret hlk (by decide) (by decide) O0 (of_len cs) (by omega) (own_of_le cs) 0 (by omega) ⟨rfl, rfl⟩

theorem ef6_3_1 (m : MethodId) (o0 : Addr) (p2 : Int32) : entryFrame m #[(.ref o0), (.int (1 : Int32)), (.int p2)] 4 = mkF m 0 #[.val (.ref o0), .val (.int (1 : Int32)), .val (.int p2), .unset] [] := by first | (simp [entryFrame, mkF, argsToLocals, Value.category]; done) | rfl
set_option maxRecDepth 65536 in
set_option maxHeartbeats 40000000 in
theorem rm6_3_1 (l : Launch) (Z : State) (a0 : Array Value) (hw : ∀ d ∈ tables_1, d.before a0 Z = true) (o0 : Addr) (p2 : Int32) (h0 : Heap) (n0 : Nat) (cs : List Int32) (hlen : cs.length = 3) (oc ob : Addr) (fr : List (Addr × (Cell → Prop))) (O0 : Own.Owns n0 h0 ((o0, Own.ObjC Z "com/example/idxof/idxof/KnuthMorrisPrattPattern" [(("com/example/idxof/idxof/KnuthMorrisPrattPattern", "chars", "[C"), (.ref oc)), (("com/example/idxof/idxof/KnuthMorrisPrattPattern", "borders", "[I"), (.ref ob))]) :: (oc, Own.ArrC Z .char (cs.map Value.int)) :: (ob, Own.ArrC Z .int ((ofL cs).map gI)) :: fr))  : Own.Does l (⟨"com/example/idxof/idxof/KnuthMorrisPrattPattern", "extend", "(IC)I"⟩ : MethodName) prog_23_method_3_code 4 (some .int) [] ({ frames := 0, cells := 0, slots := 0, locals := 0 } : Room) Z #[(.ref o0), (.int (1 : Int32)), (.int p2)] h0 n0 (fun v h => v = some (.int (nextE (eqAt (cs ++ [p2])) (ofL cs) cs.length 1).toInt32) ∧ h = h0) := by
  refine Own.doesOf pn2 ?_
  intro p e s m below meth c hx hby hml hret hlk hown hnm hZ
  refine Own.Goes.cast (ef6_3_1 m o0 p2) ?_
  refine Own.iloadN hx (1 : Int32) (hb hby d6_0) rfl rfl ?_
  refine Own.aloadN hx (.ref o0) (hb hby d6_1) rfl rfl rfl ?_
  refine Own.getfield hx hZ hown O0 0 0 rfl rfl (hw _ (List.mem_of_getElem? (i := 17) rfl)) (hb hby d6_2) rfl ?_
  refine Own.arrlen hx hZ O0 1 rfl (3 : Int32) (by rw [List.length_map, hlen]; rfl) (hb hby d6_5) rfl ?_
  have hc1 : ¬ ((1 : Int32) = (3 : Int32)) := by decide
  refine Own.icmpFn hx (Own.q_ne (1 : Int32) (3 : Int32)) (hb hby d6_6) (pcN := 9) rfl (by decide) (pcT := 20) rfl (fun _ => ?_) (fun q => absurd q hc1)
  refine Own.iloadN hx (1 : Int32) (hb hby d6_20) rfl rfl ?_
  refine Own.istoreN hx (1 : Int32) rfl #[.val (.ref o0), .val (.int (1 : Int32)), .val (.int p2), .val (.int (1 : Int32))] (hb hby d6_21) rfl rfl ?_
  exact ext_tail hw hx hby hml hown hZ hret hlk (by decide) (by decide) O0 (of_len cs) (by omega) (own_of_le cs) 1 (by omega) ⟨rfl, rfl⟩

theorem ef6_3_2 (m : MethodId) (o0 : Addr) (p2 : Int32) : entryFrame m #[(.ref o0), (.int (2 : Int32)), (.int p2)] 4 = mkF m 0 #[.val (.ref o0), .val (.int (2 : Int32)), .val (.int p2), .unset] [] := by first | (simp [entryFrame, mkF, argsToLocals, Value.category]; done) | rfl
set_option maxRecDepth 65536 in
set_option maxHeartbeats 40000000 in
theorem rm6_3_2 (l : Launch) (Z : State) (a0 : Array Value) (hw : ∀ d ∈ tables_1, d.before a0 Z = true) (o0 : Addr) (p2 : Int32) (h0 : Heap) (n0 : Nat) (cs : List Int32) (hlen : cs.length = 3) (oc ob : Addr) (fr : List (Addr × (Cell → Prop))) (O0 : Own.Owns n0 h0 ((o0, Own.ObjC Z "com/example/idxof/idxof/KnuthMorrisPrattPattern" [(("com/example/idxof/idxof/KnuthMorrisPrattPattern", "chars", "[C"), (.ref oc)), (("com/example/idxof/idxof/KnuthMorrisPrattPattern", "borders", "[I"), (.ref ob))]) :: (oc, Own.ArrC Z .char (cs.map Value.int)) :: (ob, Own.ArrC Z .int ((ofL cs).map gI)) :: fr))  : Own.Does l (⟨"com/example/idxof/idxof/KnuthMorrisPrattPattern", "extend", "(IC)I"⟩ : MethodName) prog_23_method_3_code 4 (some .int) [] ({ frames := 0, cells := 0, slots := 0, locals := 0 } : Room) Z #[(.ref o0), (.int (2 : Int32)), (.int p2)] h0 n0 (fun v h => v = some (.int (nextE (eqAt (cs ++ [p2])) (ofL cs) cs.length 2).toInt32) ∧ h = h0) := by
  refine Own.doesOf pn2 ?_
  intro p e s m below meth c hx hby hml hret hlk hown hnm hZ
  refine Own.Goes.cast (ef6_3_2 m o0 p2) ?_
  refine Own.iloadN hx (2 : Int32) (hb hby d6_0) rfl rfl ?_
  refine Own.aloadN hx (.ref o0) (hb hby d6_1) rfl rfl rfl ?_
  refine Own.getfield hx hZ hown O0 0 0 rfl rfl (hw _ (List.mem_of_getElem? (i := 17) rfl)) (hb hby d6_2) rfl ?_
  refine Own.arrlen hx hZ O0 1 rfl (3 : Int32) (by rw [List.length_map, hlen]; rfl) (hb hby d6_5) rfl ?_
  have hc1 : ¬ ((2 : Int32) = (3 : Int32)) := by decide
  refine Own.icmpFn hx (Own.q_ne (2 : Int32) (3 : Int32)) (hb hby d6_6) (pcN := 9) rfl (by decide) (pcT := 20) rfl (fun _ => ?_) (fun q => absurd q hc1)
  refine Own.iloadN hx (2 : Int32) (hb hby d6_20) rfl rfl ?_
  refine Own.istoreN hx (2 : Int32) rfl #[.val (.ref o0), .val (.int (2 : Int32)), .val (.int p2), .val (.int (2 : Int32))] (hb hby d6_21) rfl rfl ?_
  exact ext_tail hw hx hby hml hown hZ hret hlk (by decide) (by decide) O0 (of_len cs) (by omega) (own_of_le cs) 2 (by omega) ⟨rfl, rfl⟩

theorem ef6_3_3 (m : MethodId) (o0 : Addr) (p2 : Int32) : entryFrame m #[(.ref o0), (.int (3 : Int32)), (.int p2)] 4 = mkF m 0 #[.val (.ref o0), .val (.int (3 : Int32)), .val (.int p2), .unset] [] := by first | (simp [entryFrame, mkF, argsToLocals, Value.category]; done) | rfl
set_option maxRecDepth 65536 in
set_option maxHeartbeats 40000000 in
theorem rm6_3_3 (l : Launch) (Z : State) (a0 : Array Value) (hw : ∀ d ∈ tables_1, d.before a0 Z = true) (o0 : Addr) (p2 : Int32) (h0 : Heap) (n0 : Nat) (cs : List Int32) (hlen : cs.length = 3) (oc ob : Addr) (fr : List (Addr × (Cell → Prop))) (O0 : Own.Owns n0 h0 ((o0, Own.ObjC Z "com/example/idxof/idxof/KnuthMorrisPrattPattern" [(("com/example/idxof/idxof/KnuthMorrisPrattPattern", "chars", "[C"), (.ref oc)), (("com/example/idxof/idxof/KnuthMorrisPrattPattern", "borders", "[I"), (.ref ob))]) :: (oc, Own.ArrC Z .char (cs.map Value.int)) :: (ob, Own.ArrC Z .int ((ofL cs).map gI)) :: fr))  : Own.Does l (⟨"com/example/idxof/idxof/KnuthMorrisPrattPattern", "extend", "(IC)I"⟩ : MethodName) prog_23_method_3_code 4 (some .int) [] ({ frames := 0, cells := 0, slots := 0, locals := 0 } : Room) Z #[(.ref o0), (.int (3 : Int32)), (.int p2)] h0 n0 (fun v h => v = some (.int (nextE (eqAt (cs ++ [p2])) (ofL cs) cs.length ((ofL cs).getD 2 0)).toInt32) ∧ h = h0) := by
  refine Own.doesOf pn2 ?_
  intro p e s m below meth c hx hby hml hret hlk hown hnm hZ
  refine Own.Goes.cast (ef6_3_3 m o0 p2) ?_
  refine Own.iloadN hx (3 : Int32) (hb hby d6_0) rfl rfl ?_
  refine Own.aloadN hx (.ref o0) (hb hby d6_1) rfl rfl rfl ?_
  refine Own.getfield hx hZ hown O0 0 0 rfl rfl (hw _ (List.mem_of_getElem? (i := 17) rfl)) (hb hby d6_2) rfl ?_
  refine Own.arrlen hx hZ O0 1 rfl (3 : Int32) (by rw [List.length_map, hlen]; rfl) (hb hby d6_5) rfl ?_
  have hc1 : (3 : Int32) = (3 : Int32) := by decide
  refine Own.icmpFn hx (Own.q_ne (3 : Int32) (3 : Int32)) (hb hby d6_6) (pcN := 9) rfl (by decide) (pcT := 20) rfl (fun q => absurd hc1 q) (fun _ => ?_)
  refine Own.aloadN hx (.ref o0) (hb hby d6_9) rfl rfl rfl ?_
  refine Own.getfield hx hZ hown O0 0 1 rfl rfl (hw _ (List.mem_of_getElem? (i := 24) rfl)) (hb hby d6_10) rfl ?_
  refine Own.iloadN hx (3 : Int32) (hb hby d6_13) rfl rfl ?_
  refine Own.iconst hx (1 : Int32) (hb hby d6_14) rfl (by decide) ?_
  refine Own.isub hx (hb hby d6_15) rfl ?_
  refine Own.vI (2 : Int32) (by decide) ?_
  refine Own.iaload hx hZ O0 2 2 rfl (by decide) (v := (.int ((ofL cs).getD 2 0).toInt32)) (own_rs_at (by rw [of_len]; omega)) (hb hby d6_16) rfl ?_
  refine Own.goto hx (hb hby d6_17) (by decide) (pc' := 21) rfl ?_
  refine Own.istoreN hx ((ofL cs).getD 2 0).toInt32 rfl #[.val (.ref o0), .val (.int (3 : Int32)), .val (.int p2), .val (.int ((ofL cs).getD 2 0).toInt32)] (hb hby d6_21) rfl rfl ?_
  exact ext_tail hw hx hby hml hown hZ hret hlk (by decide) (by decide) O0 (of_len cs) (by omega) (own_of_le cs) ((ofL cs).getD 2 0) (by have := own_of_le cs 2 (by omega); omega) ⟨rfl, rfl⟩

theorem ef6_4_0 (m : MethodId) (o0 : Addr) (p2 : Int32) : entryFrame m #[(.ref o0), (.int (0 : Int32)), (.int p2)] 4 = mkF m 0 #[.val (.ref o0), .val (.int (0 : Int32)), .val (.int p2), .unset] [] := by first | (simp [entryFrame, mkF, argsToLocals, Value.category]; done) | rfl
set_option maxRecDepth 65536 in
set_option maxHeartbeats 40000000 in
theorem rm6_4_0 (l : Launch) (Z : State) (a0 : Array Value) (hw : ∀ d ∈ tables_1, d.before a0 Z = true) (o0 : Addr) (p2 : Int32) (h0 : Heap) (n0 : Nat) (cs : List Int32) (hlen : cs.length = 4) (oc ob : Addr) (fr : List (Addr × (Cell → Prop))) (O0 : Own.Owns n0 h0 ((o0, Own.ObjC Z "com/example/idxof/idxof/KnuthMorrisPrattPattern" [(("com/example/idxof/idxof/KnuthMorrisPrattPattern", "chars", "[C"), (.ref oc)), (("com/example/idxof/idxof/KnuthMorrisPrattPattern", "borders", "[I"), (.ref ob))]) :: (oc, Own.ArrC Z .char (cs.map Value.int)) :: (ob, Own.ArrC Z .int ((ofL cs).map gI)) :: fr))  : Own.Does l (⟨"com/example/idxof/idxof/KnuthMorrisPrattPattern", "extend", "(IC)I"⟩ : MethodName) prog_23_method_3_code 4 (some .int) [] ({ frames := 0, cells := 0, slots := 0, locals := 0 } : Room) Z #[(.ref o0), (.int (0 : Int32)), (.int p2)] h0 n0 (fun v h => v = some (.int (nextE (eqAt (cs ++ [p2])) (ofL cs) cs.length 0).toInt32) ∧ h = h0) := by
  refine Own.doesOf pn2 ?_
  intro p e s m below meth c hx hby hml hret hlk hown hnm hZ
  refine Own.Goes.cast (ef6_4_0 m o0 p2) ?_
  refine Own.iloadN hx (0 : Int32) (hb hby d6_0) rfl rfl ?_
  refine Own.aloadN hx (.ref o0) (hb hby d6_1) rfl rfl rfl ?_
  refine Own.getfield hx hZ hown O0 0 0 rfl rfl (hw _ (List.mem_of_getElem? (i := 17) rfl)) (hb hby d6_2) rfl ?_
  refine Own.arrlen hx hZ O0 1 rfl (4 : Int32) (by rw [List.length_map, hlen]; rfl) (hb hby d6_5) rfl ?_
  have hc1 : ¬ ((0 : Int32) = (4 : Int32)) := by decide
  refine Own.icmpFn hx (Own.q_ne (0 : Int32) (4 : Int32)) (hb hby d6_6) (pcN := 9) rfl (by decide) (pcT := 20) rfl (fun _ => ?_) (fun q => absurd q hc1)
  refine Own.iloadN hx (0 : Int32) (hb hby d6_20) rfl rfl ?_
  refine Own.istoreN hx (0 : Int32) rfl #[.val (.ref o0), .val (.int (0 : Int32)), .val (.int p2), .val (.int (0 : Int32))] (hb hby d6_21) rfl rfl ?_
  exact ext_tail hw hx hby hml hown hZ hret hlk (by decide) (by decide) O0 (of_len cs) (by omega) (own_of_le cs) 0 (by omega) ⟨rfl, rfl⟩

theorem ef6_4_1 (m : MethodId) (o0 : Addr) (p2 : Int32) : entryFrame m #[(.ref o0), (.int (1 : Int32)), (.int p2)] 4 = mkF m 0 #[.val (.ref o0), .val (.int (1 : Int32)), .val (.int p2), .unset] [] := by first | (simp [entryFrame, mkF, argsToLocals, Value.category]; done) | rfl
set_option maxRecDepth 65536 in
set_option maxHeartbeats 40000000 in
theorem rm6_4_1 (l : Launch) (Z : State) (a0 : Array Value) (hw : ∀ d ∈ tables_1, d.before a0 Z = true) (o0 : Addr) (p2 : Int32) (h0 : Heap) (n0 : Nat) (cs : List Int32) (hlen : cs.length = 4) (oc ob : Addr) (fr : List (Addr × (Cell → Prop))) (O0 : Own.Owns n0 h0 ((o0, Own.ObjC Z "com/example/idxof/idxof/KnuthMorrisPrattPattern" [(("com/example/idxof/idxof/KnuthMorrisPrattPattern", "chars", "[C"), (.ref oc)), (("com/example/idxof/idxof/KnuthMorrisPrattPattern", "borders", "[I"), (.ref ob))]) :: (oc, Own.ArrC Z .char (cs.map Value.int)) :: (ob, Own.ArrC Z .int ((ofL cs).map gI)) :: fr))  : Own.Does l (⟨"com/example/idxof/idxof/KnuthMorrisPrattPattern", "extend", "(IC)I"⟩ : MethodName) prog_23_method_3_code 4 (some .int) [] ({ frames := 0, cells := 0, slots := 0, locals := 0 } : Room) Z #[(.ref o0), (.int (1 : Int32)), (.int p2)] h0 n0 (fun v h => v = some (.int (nextE (eqAt (cs ++ [p2])) (ofL cs) cs.length 1).toInt32) ∧ h = h0) := by
  refine Own.doesOf pn2 ?_
  intro p e s m below meth c hx hby hml hret hlk hown hnm hZ
  refine Own.Goes.cast (ef6_4_1 m o0 p2) ?_
  refine Own.iloadN hx (1 : Int32) (hb hby d6_0) rfl rfl ?_
  refine Own.aloadN hx (.ref o0) (hb hby d6_1) rfl rfl rfl ?_
  refine Own.getfield hx hZ hown O0 0 0 rfl rfl (hw _ (List.mem_of_getElem? (i := 17) rfl)) (hb hby d6_2) rfl ?_
  refine Own.arrlen hx hZ O0 1 rfl (4 : Int32) (by rw [List.length_map, hlen]; rfl) (hb hby d6_5) rfl ?_
  have hc1 : ¬ ((1 : Int32) = (4 : Int32)) := by decide
  refine Own.icmpFn hx (Own.q_ne (1 : Int32) (4 : Int32)) (hb hby d6_6) (pcN := 9) rfl (by decide) (pcT := 20) rfl (fun _ => ?_) (fun q => absurd q hc1)
  refine Own.iloadN hx (1 : Int32) (hb hby d6_20) rfl rfl ?_
  refine Own.istoreN hx (1 : Int32) rfl #[.val (.ref o0), .val (.int (1 : Int32)), .val (.int p2), .val (.int (1 : Int32))] (hb hby d6_21) rfl rfl ?_
  exact ext_tail hw hx hby hml hown hZ hret hlk (by decide) (by decide) O0 (of_len cs) (by omega) (own_of_le cs) 1 (by omega) ⟨rfl, rfl⟩

theorem ef6_4_2 (m : MethodId) (o0 : Addr) (p2 : Int32) : entryFrame m #[(.ref o0), (.int (2 : Int32)), (.int p2)] 4 = mkF m 0 #[.val (.ref o0), .val (.int (2 : Int32)), .val (.int p2), .unset] [] := by first | (simp [entryFrame, mkF, argsToLocals, Value.category]; done) | rfl
set_option maxRecDepth 65536 in
set_option maxHeartbeats 40000000 in
theorem rm6_4_2 (l : Launch) (Z : State) (a0 : Array Value) (hw : ∀ d ∈ tables_1, d.before a0 Z = true) (o0 : Addr) (p2 : Int32) (h0 : Heap) (n0 : Nat) (cs : List Int32) (hlen : cs.length = 4) (oc ob : Addr) (fr : List (Addr × (Cell → Prop))) (O0 : Own.Owns n0 h0 ((o0, Own.ObjC Z "com/example/idxof/idxof/KnuthMorrisPrattPattern" [(("com/example/idxof/idxof/KnuthMorrisPrattPattern", "chars", "[C"), (.ref oc)), (("com/example/idxof/idxof/KnuthMorrisPrattPattern", "borders", "[I"), (.ref ob))]) :: (oc, Own.ArrC Z .char (cs.map Value.int)) :: (ob, Own.ArrC Z .int ((ofL cs).map gI)) :: fr))  : Own.Does l (⟨"com/example/idxof/idxof/KnuthMorrisPrattPattern", "extend", "(IC)I"⟩ : MethodName) prog_23_method_3_code 4 (some .int) [] ({ frames := 0, cells := 0, slots := 0, locals := 0 } : Room) Z #[(.ref o0), (.int (2 : Int32)), (.int p2)] h0 n0 (fun v h => v = some (.int (nextE (eqAt (cs ++ [p2])) (ofL cs) cs.length 2).toInt32) ∧ h = h0) := by
  refine Own.doesOf pn2 ?_
  intro p e s m below meth c hx hby hml hret hlk hown hnm hZ
  refine Own.Goes.cast (ef6_4_2 m o0 p2) ?_
  refine Own.iloadN hx (2 : Int32) (hb hby d6_0) rfl rfl ?_
  refine Own.aloadN hx (.ref o0) (hb hby d6_1) rfl rfl rfl ?_
  refine Own.getfield hx hZ hown O0 0 0 rfl rfl (hw _ (List.mem_of_getElem? (i := 17) rfl)) (hb hby d6_2) rfl ?_
  refine Own.arrlen hx hZ O0 1 rfl (4 : Int32) (by rw [List.length_map, hlen]; rfl) (hb hby d6_5) rfl ?_
  have hc1 : ¬ ((2 : Int32) = (4 : Int32)) := by decide
  refine Own.icmpFn hx (Own.q_ne (2 : Int32) (4 : Int32)) (hb hby d6_6) (pcN := 9) rfl (by decide) (pcT := 20) rfl (fun _ => ?_) (fun q => absurd q hc1)
  refine Own.iloadN hx (2 : Int32) (hb hby d6_20) rfl rfl ?_
  refine Own.istoreN hx (2 : Int32) rfl #[.val (.ref o0), .val (.int (2 : Int32)), .val (.int p2), .val (.int (2 : Int32))] (hb hby d6_21) rfl rfl ?_
  exact ext_tail hw hx hby hml hown hZ hret hlk (by decide) (by decide) O0 (of_len cs) (by omega) (own_of_le cs) 2 (by omega) ⟨rfl, rfl⟩

theorem ef6_4_3 (m : MethodId) (o0 : Addr) (p2 : Int32) : entryFrame m #[(.ref o0), (.int (3 : Int32)), (.int p2)] 4 = mkF m 0 #[.val (.ref o0), .val (.int (3 : Int32)), .val (.int p2), .unset] [] := by first | (simp [entryFrame, mkF, argsToLocals, Value.category]; done) | rfl
set_option maxRecDepth 65536 in
set_option maxHeartbeats 40000000 in
theorem rm6_4_3 (l : Launch) (Z : State) (a0 : Array Value) (hw : ∀ d ∈ tables_1, d.before a0 Z = true) (o0 : Addr) (p2 : Int32) (h0 : Heap) (n0 : Nat) (cs : List Int32) (hlen : cs.length = 4) (oc ob : Addr) (fr : List (Addr × (Cell → Prop))) (O0 : Own.Owns n0 h0 ((o0, Own.ObjC Z "com/example/idxof/idxof/KnuthMorrisPrattPattern" [(("com/example/idxof/idxof/KnuthMorrisPrattPattern", "chars", "[C"), (.ref oc)), (("com/example/idxof/idxof/KnuthMorrisPrattPattern", "borders", "[I"), (.ref ob))]) :: (oc, Own.ArrC Z .char (cs.map Value.int)) :: (ob, Own.ArrC Z .int ((ofL cs).map gI)) :: fr))  : Own.Does l (⟨"com/example/idxof/idxof/KnuthMorrisPrattPattern", "extend", "(IC)I"⟩ : MethodName) prog_23_method_3_code 4 (some .int) [] ({ frames := 0, cells := 0, slots := 0, locals := 0 } : Room) Z #[(.ref o0), (.int (3 : Int32)), (.int p2)] h0 n0 (fun v h => v = some (.int (nextE (eqAt (cs ++ [p2])) (ofL cs) cs.length 3).toInt32) ∧ h = h0) := by
  refine Own.doesOf pn2 ?_
  intro p e s m below meth c hx hby hml hret hlk hown hnm hZ
  refine Own.Goes.cast (ef6_4_3 m o0 p2) ?_
  refine Own.iloadN hx (3 : Int32) (hb hby d6_0) rfl rfl ?_
  refine Own.aloadN hx (.ref o0) (hb hby d6_1) rfl rfl rfl ?_
  refine Own.getfield hx hZ hown O0 0 0 rfl rfl (hw _ (List.mem_of_getElem? (i := 17) rfl)) (hb hby d6_2) rfl ?_
  refine Own.arrlen hx hZ O0 1 rfl (4 : Int32) (by rw [List.length_map, hlen]; rfl) (hb hby d6_5) rfl ?_
  have hc1 : ¬ ((3 : Int32) = (4 : Int32)) := by decide
  refine Own.icmpFn hx (Own.q_ne (3 : Int32) (4 : Int32)) (hb hby d6_6) (pcN := 9) rfl (by decide) (pcT := 20) rfl (fun _ => ?_) (fun q => absurd q hc1)
  refine Own.iloadN hx (3 : Int32) (hb hby d6_20) rfl rfl ?_
  refine Own.istoreN hx (3 : Int32) rfl #[.val (.ref o0), .val (.int (3 : Int32)), .val (.int p2), .val (.int (3 : Int32))] (hb hby d6_21) rfl rfl ?_
  exact ext_tail hw hx hby hml hown hZ hret hlk (by decide) (by decide) O0 (of_len cs) (by omega) (own_of_le cs) 3 (by omega) ⟨rfl, rfl⟩

theorem ef6_4_4 (m : MethodId) (o0 : Addr) (p2 : Int32) : entryFrame m #[(.ref o0), (.int (4 : Int32)), (.int p2)] 4 = mkF m 0 #[.val (.ref o0), .val (.int (4 : Int32)), .val (.int p2), .unset] [] := by first | (simp [entryFrame, mkF, argsToLocals, Value.category]; done) | rfl
set_option maxRecDepth 65536 in
set_option maxHeartbeats 40000000 in
theorem rm6_4_4 (l : Launch) (Z : State) (a0 : Array Value) (hw : ∀ d ∈ tables_1, d.before a0 Z = true) (o0 : Addr) (p2 : Int32) (h0 : Heap) (n0 : Nat) (cs : List Int32) (hlen : cs.length = 4) (oc ob : Addr) (fr : List (Addr × (Cell → Prop))) (O0 : Own.Owns n0 h0 ((o0, Own.ObjC Z "com/example/idxof/idxof/KnuthMorrisPrattPattern" [(("com/example/idxof/idxof/KnuthMorrisPrattPattern", "chars", "[C"), (.ref oc)), (("com/example/idxof/idxof/KnuthMorrisPrattPattern", "borders", "[I"), (.ref ob))]) :: (oc, Own.ArrC Z .char (cs.map Value.int)) :: (ob, Own.ArrC Z .int ((ofL cs).map gI)) :: fr))  : Own.Does l (⟨"com/example/idxof/idxof/KnuthMorrisPrattPattern", "extend", "(IC)I"⟩ : MethodName) prog_23_method_3_code 4 (some .int) [] ({ frames := 0, cells := 0, slots := 0, locals := 0 } : Room) Z #[(.ref o0), (.int (4 : Int32)), (.int p2)] h0 n0 (fun v h => v = some (.int (nextE (eqAt (cs ++ [p2])) (ofL cs) cs.length ((ofL cs).getD 3 0)).toInt32) ∧ h = h0) := by
  refine Own.doesOf pn2 ?_
  intro p e s m below meth c hx hby hml hret hlk hown hnm hZ
  refine Own.Goes.cast (ef6_4_4 m o0 p2) ?_
  refine Own.iloadN hx (4 : Int32) (hb hby d6_0) rfl rfl ?_
  refine Own.aloadN hx (.ref o0) (hb hby d6_1) rfl rfl rfl ?_
  refine Own.getfield hx hZ hown O0 0 0 rfl rfl (hw _ (List.mem_of_getElem? (i := 17) rfl)) (hb hby d6_2) rfl ?_
  refine Own.arrlen hx hZ O0 1 rfl (4 : Int32) (by rw [List.length_map, hlen]; rfl) (hb hby d6_5) rfl ?_
  have hc1 : (4 : Int32) = (4 : Int32) := by decide
  refine Own.icmpFn hx (Own.q_ne (4 : Int32) (4 : Int32)) (hb hby d6_6) (pcN := 9) rfl (by decide) (pcT := 20) rfl (fun q => absurd hc1 q) (fun _ => ?_)
  refine Own.aloadN hx (.ref o0) (hb hby d6_9) rfl rfl rfl ?_
  refine Own.getfield hx hZ hown O0 0 1 rfl rfl (hw _ (List.mem_of_getElem? (i := 24) rfl)) (hb hby d6_10) rfl ?_
  refine Own.iloadN hx (4 : Int32) (hb hby d6_13) rfl rfl ?_
  refine Own.iconst hx (1 : Int32) (hb hby d6_14) rfl (by decide) ?_
  refine Own.isub hx (hb hby d6_15) rfl ?_
  refine Own.vI (3 : Int32) (by decide) ?_
  refine Own.iaload hx hZ O0 2 3 rfl (by decide) (v := (.int ((ofL cs).getD 3 0).toInt32)) (own_rs_at (by rw [of_len]; omega)) (hb hby d6_16) rfl ?_
  refine Own.goto hx (hb hby d6_17) (by decide) (pc' := 21) rfl ?_
  refine Own.istoreN hx ((ofL cs).getD 3 0).toInt32 rfl #[.val (.ref o0), .val (.int (4 : Int32)), .val (.int p2), .val (.int ((ofL cs).getD 3 0).toInt32)] (hb hby d6_21) rfl rfl ?_
  exact ext_tail hw hx hby hml hown hZ hret hlk (by decide) (by decide) O0 (of_len cs) (by omega) (own_of_le cs) ((ofL cs).getD 3 0) (by have := own_of_le cs 3 (by omega); omega) ⟨rfl, rfl⟩

theorem d2_0 : decode method_2_code 0 = .ok (.iload_n 3, 1) := by decide +kernel
theorem d2_1 : decode method_2_code 1 = .ok (.iload_n 1, 1) := by decide +kernel
theorem d2_2 : decode method_2_code 2 = .ok (.if_icmp .ge 9, 3) := by decide +kernel
theorem d2_11 : decode method_2_code 11 = .ok (.iload_n 2, 1) := by decide +kernel
theorem d2_12 : decode method_2_code 12 = .ok (.ireturn, 1) := by decide +kernel
theorem pn3 : plainFor (⟨"com/example/idxof/idxof/KnuthMorrisPrattPatternExtendPinLaw", "at", "([CICI)C"⟩ : MethodName) = true := by first | exact plainFor_of_name (by simp [plainName, overriddenIn]; done) | decide +kernel
theorem ef2_c (m : MethodId) (o0 : Addr) (p1 : Int32) (p2 : Int32) (p3 : Int32) : entryFrame m #[(.ref o0), (.int p1), (.int p2), (.int p3)] 4 = mkF m 0 #[.val (.ref o0), .val (.int p1), .val (.int p2), .val (.int p3)] [] := by first | (simp [entryFrame, mkF, argsToLocals, Value.category]; done) | rfl
set_option maxRecDepth 65536 in
set_option maxHeartbeats 40000000 in
theorem rm2_c (l : Launch) (Z : State) (a0 : Array Value) (hw : ∀ d ∈ tables_1, d.before a0 Z = true) (o0 : Addr) (p1 : Int32) (p2 : Int32) (p3 : Int32) (h0 : Heap) (n0 : Nat)  (hge : ¬ (p3 < p1)) (hc : nar .char p2 = p2) : Own.Does l (⟨"com/example/idxof/idxof/KnuthMorrisPrattPatternExtendPinLaw", "at", "([CICI)C"⟩ : MethodName) method_2_code 4 (some .char) [] ({ frames := 0, cells := 0, slots := 0, locals := 0 } : Room) Z #[(.ref o0), (.int p1), (.int p2), (.int p3)] h0 n0 (fun v h => v = some (.int p2) ∧ h = h0) := by
  refine Own.doesOf pn3 ?_
  intro p e s m below meth c hx hby hml hret hlk hown hnm hZ
  refine Own.Goes.cast (ef2_c m o0 p1 p2 p3) ?_
  refine Own.iloadN hx p3 (hb hby d2_0) rfl rfl ?_
  refine Own.iloadN hx p1 (hb hby d2_1) rfl rfl ?_
  have hc1 : ¬ (p3 < p1) := hge
  refine Own.icmpFn hx (Own.q_ge p3 p1) (hb hby d2_2) (pcN := 5) rfl (by decide) (pcT := 11) rfl (fun _ => ?_) (fun q => absurd q hc1)
  refine Own.iloadN hx p2 (hb hby d2_11) rfl rfl ?_
  exact Own.retS hx hret (by simp) hlk (hb hby d2_12) (by decide) (by decide) ⟨by rw [hc], rfl⟩

theorem d2_5 : decode method_2_code 5 = .ok (.aload_n 0, 1) := by decide +kernel
theorem d2_6 : decode method_2_code 6 = .ok (.iload_n 3, 1) := by decide +kernel
theorem d2_7 : decode method_2_code 7 = .ok (.caload, 1) := by decide +kernel
theorem d2_8 : decode method_2_code 8 = .ok (.goto 4, 3) := by decide +kernel
theorem ef2_1_0 (m : MethodId) (o0 : Addr) (p1 : Int32) (p2 : Int32) : entryFrame m #[(.ref o0), (.int p1), (.int p2), (.int (0 : Int32))] 4 = mkF m 0 #[.val (.ref o0), .val (.int p1), .val (.int p2), .val (.int (0 : Int32))] [] := by first | (simp [entryFrame, mkF, argsToLocals, Value.category]; done) | rfl
set_option maxRecDepth 65536 in
set_option maxHeartbeats 40000000 in
theorem rm2_1_0 (l : Launch) (Z : State) (a0 : Array Value) (hw : ∀ d ∈ tables_1, d.before a0 Z = true) (o0 : Addr) (p1 : Int32) (p2 : Int32) (h0 : Heap) (n0 : Nat) (y0 : Int32) (fr : List (Addr × (Cell → Prop))) (O0 : Own.Owns n0 h0 ((o0, Own.ArrC Z .char [(.int y0)]) :: fr)) (hlt : (0 : Int32) < p1) (hy : nar .char y0 = y0) : Own.Does l (⟨"com/example/idxof/idxof/KnuthMorrisPrattPatternExtendPinLaw", "at", "([CICI)C"⟩ : MethodName) method_2_code 4 (some .char) [] ({ frames := 0, cells := 0, slots := 0, locals := 0 } : Room) Z #[(.ref o0), (.int p1), (.int p2), (.int (0 : Int32))] h0 n0 (fun v h => v = some (.int y0) ∧ h = h0) := by
  refine Own.doesOf pn3 ?_
  intro p e s m below meth c hx hby hml hret hlk hown hnm hZ
  refine Own.Goes.cast (ef2_1_0 m o0 p1 p2) ?_
  refine Own.iloadN hx (0 : Int32) (hb hby d2_0) rfl rfl ?_
  refine Own.iloadN hx p1 (hb hby d2_1) rfl rfl ?_
  have hc1 : (0 : Int32) < p1 := hlt
  refine Own.icmpFn hx (Own.q_ge (0 : Int32) p1) (hb hby d2_2) (pcN := 5) rfl (by decide) (pcT := 11) rfl (fun q => absurd hc1 q) (fun _ => ?_)
  refine Own.aloadN hx (.ref o0) (hb hby d2_5) rfl rfl rfl ?_
  refine Own.iloadN hx (0 : Int32) (hb hby d2_6) rfl rfl ?_
  refine Own.caload hx hZ O0 0 0 rfl (by decide) (v := (.int y0)) rfl (hb hby d2_7) rfl ?_
  refine Own.goto hx (hb hby d2_8) (by decide) (pc' := 12) rfl ?_
  exact Own.retS hx hret (by simp) hlk (hb hby d2_12) (by decide) (by decide) ⟨by rw [hy], rfl⟩

theorem ef2_2_0 (m : MethodId) (o0 : Addr) (p1 : Int32) (p2 : Int32) : entryFrame m #[(.ref o0), (.int p1), (.int p2), (.int (0 : Int32))] 4 = mkF m 0 #[.val (.ref o0), .val (.int p1), .val (.int p2), .val (.int (0 : Int32))] [] := by first | (simp [entryFrame, mkF, argsToLocals, Value.category]; done) | rfl
set_option maxRecDepth 65536 in
set_option maxHeartbeats 40000000 in
theorem rm2_2_0 (l : Launch) (Z : State) (a0 : Array Value) (hw : ∀ d ∈ tables_1, d.before a0 Z = true) (o0 : Addr) (p1 : Int32) (p2 : Int32) (h0 : Heap) (n0 : Nat) (y0 y1 : Int32) (fr : List (Addr × (Cell → Prop))) (O0 : Own.Owns n0 h0 ((o0, Own.ArrC Z .char [(.int y0), (.int y1)]) :: fr)) (hlt : (0 : Int32) < p1) (hy : nar .char y0 = y0) : Own.Does l (⟨"com/example/idxof/idxof/KnuthMorrisPrattPatternExtendPinLaw", "at", "([CICI)C"⟩ : MethodName) method_2_code 4 (some .char) [] ({ frames := 0, cells := 0, slots := 0, locals := 0 } : Room) Z #[(.ref o0), (.int p1), (.int p2), (.int (0 : Int32))] h0 n0 (fun v h => v = some (.int y0) ∧ h = h0) := by
  refine Own.doesOf pn3 ?_
  intro p e s m below meth c hx hby hml hret hlk hown hnm hZ
  refine Own.Goes.cast (ef2_2_0 m o0 p1 p2) ?_
  refine Own.iloadN hx (0 : Int32) (hb hby d2_0) rfl rfl ?_
  refine Own.iloadN hx p1 (hb hby d2_1) rfl rfl ?_
  have hc1 : (0 : Int32) < p1 := hlt
  refine Own.icmpFn hx (Own.q_ge (0 : Int32) p1) (hb hby d2_2) (pcN := 5) rfl (by decide) (pcT := 11) rfl (fun q => absurd hc1 q) (fun _ => ?_)
  refine Own.aloadN hx (.ref o0) (hb hby d2_5) rfl rfl rfl ?_
  refine Own.iloadN hx (0 : Int32) (hb hby d2_6) rfl rfl ?_
  refine Own.caload hx hZ O0 0 0 rfl (by decide) (v := (.int y0)) rfl (hb hby d2_7) rfl ?_
  refine Own.goto hx (hb hby d2_8) (by decide) (pc' := 12) rfl ?_
  exact Own.retS hx hret (by simp) hlk (hb hby d2_12) (by decide) (by decide) ⟨by rw [hy], rfl⟩

theorem ef2_2_1 (m : MethodId) (o0 : Addr) (p1 : Int32) (p2 : Int32) : entryFrame m #[(.ref o0), (.int p1), (.int p2), (.int (1 : Int32))] 4 = mkF m 0 #[.val (.ref o0), .val (.int p1), .val (.int p2), .val (.int (1 : Int32))] [] := by first | (simp [entryFrame, mkF, argsToLocals, Value.category]; done) | rfl
set_option maxRecDepth 65536 in
set_option maxHeartbeats 40000000 in
theorem rm2_2_1 (l : Launch) (Z : State) (a0 : Array Value) (hw : ∀ d ∈ tables_1, d.before a0 Z = true) (o0 : Addr) (p1 : Int32) (p2 : Int32) (h0 : Heap) (n0 : Nat) (y0 y1 : Int32) (fr : List (Addr × (Cell → Prop))) (O0 : Own.Owns n0 h0 ((o0, Own.ArrC Z .char [(.int y0), (.int y1)]) :: fr)) (hlt : (1 : Int32) < p1) (hy : nar .char y1 = y1) : Own.Does l (⟨"com/example/idxof/idxof/KnuthMorrisPrattPatternExtendPinLaw", "at", "([CICI)C"⟩ : MethodName) method_2_code 4 (some .char) [] ({ frames := 0, cells := 0, slots := 0, locals := 0 } : Room) Z #[(.ref o0), (.int p1), (.int p2), (.int (1 : Int32))] h0 n0 (fun v h => v = some (.int y1) ∧ h = h0) := by
  refine Own.doesOf pn3 ?_
  intro p e s m below meth c hx hby hml hret hlk hown hnm hZ
  refine Own.Goes.cast (ef2_2_1 m o0 p1 p2) ?_
  refine Own.iloadN hx (1 : Int32) (hb hby d2_0) rfl rfl ?_
  refine Own.iloadN hx p1 (hb hby d2_1) rfl rfl ?_
  have hc1 : (1 : Int32) < p1 := hlt
  refine Own.icmpFn hx (Own.q_ge (1 : Int32) p1) (hb hby d2_2) (pcN := 5) rfl (by decide) (pcT := 11) rfl (fun q => absurd hc1 q) (fun _ => ?_)
  refine Own.aloadN hx (.ref o0) (hb hby d2_5) rfl rfl rfl ?_
  refine Own.iloadN hx (1 : Int32) (hb hby d2_6) rfl rfl ?_
  refine Own.caload hx hZ O0 0 1 rfl (by decide) (v := (.int y1)) rfl (hb hby d2_7) rfl ?_
  refine Own.goto hx (hb hby d2_8) (by decide) (pc' := 12) rfl ?_
  exact Own.retS hx hret (by simp) hlk (hb hby d2_12) (by decide) (by decide) ⟨by rw [hy], rfl⟩

theorem ef2_3_0 (m : MethodId) (o0 : Addr) (p1 : Int32) (p2 : Int32) : entryFrame m #[(.ref o0), (.int p1), (.int p2), (.int (0 : Int32))] 4 = mkF m 0 #[.val (.ref o0), .val (.int p1), .val (.int p2), .val (.int (0 : Int32))] [] := by first | (simp [entryFrame, mkF, argsToLocals, Value.category]; done) | rfl
set_option maxRecDepth 65536 in
set_option maxHeartbeats 40000000 in
theorem rm2_3_0 (l : Launch) (Z : State) (a0 : Array Value) (hw : ∀ d ∈ tables_1, d.before a0 Z = true) (o0 : Addr) (p1 : Int32) (p2 : Int32) (h0 : Heap) (n0 : Nat) (y0 y1 y2 : Int32) (fr : List (Addr × (Cell → Prop))) (O0 : Own.Owns n0 h0 ((o0, Own.ArrC Z .char [(.int y0), (.int y1), (.int y2)]) :: fr)) (hlt : (0 : Int32) < p1) (hy : nar .char y0 = y0) : Own.Does l (⟨"com/example/idxof/idxof/KnuthMorrisPrattPatternExtendPinLaw", "at", "([CICI)C"⟩ : MethodName) method_2_code 4 (some .char) [] ({ frames := 0, cells := 0, slots := 0, locals := 0 } : Room) Z #[(.ref o0), (.int p1), (.int p2), (.int (0 : Int32))] h0 n0 (fun v h => v = some (.int y0) ∧ h = h0) := by
  refine Own.doesOf pn3 ?_
  intro p e s m below meth c hx hby hml hret hlk hown hnm hZ
  refine Own.Goes.cast (ef2_3_0 m o0 p1 p2) ?_
  refine Own.iloadN hx (0 : Int32) (hb hby d2_0) rfl rfl ?_
  refine Own.iloadN hx p1 (hb hby d2_1) rfl rfl ?_
  have hc1 : (0 : Int32) < p1 := hlt
  refine Own.icmpFn hx (Own.q_ge (0 : Int32) p1) (hb hby d2_2) (pcN := 5) rfl (by decide) (pcT := 11) rfl (fun q => absurd hc1 q) (fun _ => ?_)
  refine Own.aloadN hx (.ref o0) (hb hby d2_5) rfl rfl rfl ?_
  refine Own.iloadN hx (0 : Int32) (hb hby d2_6) rfl rfl ?_
  refine Own.caload hx hZ O0 0 0 rfl (by decide) (v := (.int y0)) rfl (hb hby d2_7) rfl ?_
  refine Own.goto hx (hb hby d2_8) (by decide) (pc' := 12) rfl ?_
  exact Own.retS hx hret (by simp) hlk (hb hby d2_12) (by decide) (by decide) ⟨by rw [hy], rfl⟩

theorem ef2_3_1 (m : MethodId) (o0 : Addr) (p1 : Int32) (p2 : Int32) : entryFrame m #[(.ref o0), (.int p1), (.int p2), (.int (1 : Int32))] 4 = mkF m 0 #[.val (.ref o0), .val (.int p1), .val (.int p2), .val (.int (1 : Int32))] [] := by first | (simp [entryFrame, mkF, argsToLocals, Value.category]; done) | rfl
set_option maxRecDepth 65536 in
set_option maxHeartbeats 40000000 in
theorem rm2_3_1 (l : Launch) (Z : State) (a0 : Array Value) (hw : ∀ d ∈ tables_1, d.before a0 Z = true) (o0 : Addr) (p1 : Int32) (p2 : Int32) (h0 : Heap) (n0 : Nat) (y0 y1 y2 : Int32) (fr : List (Addr × (Cell → Prop))) (O0 : Own.Owns n0 h0 ((o0, Own.ArrC Z .char [(.int y0), (.int y1), (.int y2)]) :: fr)) (hlt : (1 : Int32) < p1) (hy : nar .char y1 = y1) : Own.Does l (⟨"com/example/idxof/idxof/KnuthMorrisPrattPatternExtendPinLaw", "at", "([CICI)C"⟩ : MethodName) method_2_code 4 (some .char) [] ({ frames := 0, cells := 0, slots := 0, locals := 0 } : Room) Z #[(.ref o0), (.int p1), (.int p2), (.int (1 : Int32))] h0 n0 (fun v h => v = some (.int y1) ∧ h = h0) := by
  refine Own.doesOf pn3 ?_
  intro p e s m below meth c hx hby hml hret hlk hown hnm hZ
  refine Own.Goes.cast (ef2_3_1 m o0 p1 p2) ?_
  refine Own.iloadN hx (1 : Int32) (hb hby d2_0) rfl rfl ?_
  refine Own.iloadN hx p1 (hb hby d2_1) rfl rfl ?_
  have hc1 : (1 : Int32) < p1 := hlt
  refine Own.icmpFn hx (Own.q_ge (1 : Int32) p1) (hb hby d2_2) (pcN := 5) rfl (by decide) (pcT := 11) rfl (fun q => absurd hc1 q) (fun _ => ?_)
  refine Own.aloadN hx (.ref o0) (hb hby d2_5) rfl rfl rfl ?_
  refine Own.iloadN hx (1 : Int32) (hb hby d2_6) rfl rfl ?_
  refine Own.caload hx hZ O0 0 1 rfl (by decide) (v := (.int y1)) rfl (hb hby d2_7) rfl ?_
  refine Own.goto hx (hb hby d2_8) (by decide) (pc' := 12) rfl ?_
  exact Own.retS hx hret (by simp) hlk (hb hby d2_12) (by decide) (by decide) ⟨by rw [hy], rfl⟩

theorem ef2_3_2 (m : MethodId) (o0 : Addr) (p1 : Int32) (p2 : Int32) : entryFrame m #[(.ref o0), (.int p1), (.int p2), (.int (2 : Int32))] 4 = mkF m 0 #[.val (.ref o0), .val (.int p1), .val (.int p2), .val (.int (2 : Int32))] [] := by first | (simp [entryFrame, mkF, argsToLocals, Value.category]; done) | rfl
set_option maxRecDepth 65536 in
set_option maxHeartbeats 40000000 in
theorem rm2_3_2 (l : Launch) (Z : State) (a0 : Array Value) (hw : ∀ d ∈ tables_1, d.before a0 Z = true) (o0 : Addr) (p1 : Int32) (p2 : Int32) (h0 : Heap) (n0 : Nat) (y0 y1 y2 : Int32) (fr : List (Addr × (Cell → Prop))) (O0 : Own.Owns n0 h0 ((o0, Own.ArrC Z .char [(.int y0), (.int y1), (.int y2)]) :: fr)) (hlt : (2 : Int32) < p1) (hy : nar .char y2 = y2) : Own.Does l (⟨"com/example/idxof/idxof/KnuthMorrisPrattPatternExtendPinLaw", "at", "([CICI)C"⟩ : MethodName) method_2_code 4 (some .char) [] ({ frames := 0, cells := 0, slots := 0, locals := 0 } : Room) Z #[(.ref o0), (.int p1), (.int p2), (.int (2 : Int32))] h0 n0 (fun v h => v = some (.int y2) ∧ h = h0) := by
  refine Own.doesOf pn3 ?_
  intro p e s m below meth c hx hby hml hret hlk hown hnm hZ
  refine Own.Goes.cast (ef2_3_2 m o0 p1 p2) ?_
  refine Own.iloadN hx (2 : Int32) (hb hby d2_0) rfl rfl ?_
  refine Own.iloadN hx p1 (hb hby d2_1) rfl rfl ?_
  have hc1 : (2 : Int32) < p1 := hlt
  refine Own.icmpFn hx (Own.q_ge (2 : Int32) p1) (hb hby d2_2) (pcN := 5) rfl (by decide) (pcT := 11) rfl (fun q => absurd hc1 q) (fun _ => ?_)
  refine Own.aloadN hx (.ref o0) (hb hby d2_5) rfl rfl rfl ?_
  refine Own.iloadN hx (2 : Int32) (hb hby d2_6) rfl rfl ?_
  refine Own.caload hx hZ O0 0 2 rfl (by decide) (v := (.int y2)) rfl (hb hby d2_7) rfl ?_
  refine Own.goto hx (hb hby d2_8) (by decide) (pc' := 12) rfl ?_
  exact Own.retS hx hret (by simp) hlk (hb hby d2_12) (by decide) (by decide) ⟨by rw [hy], rfl⟩

theorem ef2_4_0 (m : MethodId) (o0 : Addr) (p1 : Int32) (p2 : Int32) : entryFrame m #[(.ref o0), (.int p1), (.int p2), (.int (0 : Int32))] 4 = mkF m 0 #[.val (.ref o0), .val (.int p1), .val (.int p2), .val (.int (0 : Int32))] [] := by first | (simp [entryFrame, mkF, argsToLocals, Value.category]; done) | rfl
set_option maxRecDepth 65536 in
set_option maxHeartbeats 40000000 in
theorem rm2_4_0 (l : Launch) (Z : State) (a0 : Array Value) (hw : ∀ d ∈ tables_1, d.before a0 Z = true) (o0 : Addr) (p1 : Int32) (p2 : Int32) (h0 : Heap) (n0 : Nat) (y0 y1 y2 y3 : Int32) (fr : List (Addr × (Cell → Prop))) (O0 : Own.Owns n0 h0 ((o0, Own.ArrC Z .char [(.int y0), (.int y1), (.int y2), (.int y3)]) :: fr)) (hlt : (0 : Int32) < p1) (hy : nar .char y0 = y0) : Own.Does l (⟨"com/example/idxof/idxof/KnuthMorrisPrattPatternExtendPinLaw", "at", "([CICI)C"⟩ : MethodName) method_2_code 4 (some .char) [] ({ frames := 0, cells := 0, slots := 0, locals := 0 } : Room) Z #[(.ref o0), (.int p1), (.int p2), (.int (0 : Int32))] h0 n0 (fun v h => v = some (.int y0) ∧ h = h0) := by
  refine Own.doesOf pn3 ?_
  intro p e s m below meth c hx hby hml hret hlk hown hnm hZ
  refine Own.Goes.cast (ef2_4_0 m o0 p1 p2) ?_
  refine Own.iloadN hx (0 : Int32) (hb hby d2_0) rfl rfl ?_
  refine Own.iloadN hx p1 (hb hby d2_1) rfl rfl ?_
  have hc1 : (0 : Int32) < p1 := hlt
  refine Own.icmpFn hx (Own.q_ge (0 : Int32) p1) (hb hby d2_2) (pcN := 5) rfl (by decide) (pcT := 11) rfl (fun q => absurd hc1 q) (fun _ => ?_)
  refine Own.aloadN hx (.ref o0) (hb hby d2_5) rfl rfl rfl ?_
  refine Own.iloadN hx (0 : Int32) (hb hby d2_6) rfl rfl ?_
  refine Own.caload hx hZ O0 0 0 rfl (by decide) (v := (.int y0)) rfl (hb hby d2_7) rfl ?_
  refine Own.goto hx (hb hby d2_8) (by decide) (pc' := 12) rfl ?_
  exact Own.retS hx hret (by simp) hlk (hb hby d2_12) (by decide) (by decide) ⟨by rw [hy], rfl⟩

theorem ef2_4_1 (m : MethodId) (o0 : Addr) (p1 : Int32) (p2 : Int32) : entryFrame m #[(.ref o0), (.int p1), (.int p2), (.int (1 : Int32))] 4 = mkF m 0 #[.val (.ref o0), .val (.int p1), .val (.int p2), .val (.int (1 : Int32))] [] := by first | (simp [entryFrame, mkF, argsToLocals, Value.category]; done) | rfl
set_option maxRecDepth 65536 in
set_option maxHeartbeats 40000000 in
theorem rm2_4_1 (l : Launch) (Z : State) (a0 : Array Value) (hw : ∀ d ∈ tables_1, d.before a0 Z = true) (o0 : Addr) (p1 : Int32) (p2 : Int32) (h0 : Heap) (n0 : Nat) (y0 y1 y2 y3 : Int32) (fr : List (Addr × (Cell → Prop))) (O0 : Own.Owns n0 h0 ((o0, Own.ArrC Z .char [(.int y0), (.int y1), (.int y2), (.int y3)]) :: fr)) (hlt : (1 : Int32) < p1) (hy : nar .char y1 = y1) : Own.Does l (⟨"com/example/idxof/idxof/KnuthMorrisPrattPatternExtendPinLaw", "at", "([CICI)C"⟩ : MethodName) method_2_code 4 (some .char) [] ({ frames := 0, cells := 0, slots := 0, locals := 0 } : Room) Z #[(.ref o0), (.int p1), (.int p2), (.int (1 : Int32))] h0 n0 (fun v h => v = some (.int y1) ∧ h = h0) := by
  refine Own.doesOf pn3 ?_
  intro p e s m below meth c hx hby hml hret hlk hown hnm hZ
  refine Own.Goes.cast (ef2_4_1 m o0 p1 p2) ?_
  refine Own.iloadN hx (1 : Int32) (hb hby d2_0) rfl rfl ?_
  refine Own.iloadN hx p1 (hb hby d2_1) rfl rfl ?_
  have hc1 : (1 : Int32) < p1 := hlt
  refine Own.icmpFn hx (Own.q_ge (1 : Int32) p1) (hb hby d2_2) (pcN := 5) rfl (by decide) (pcT := 11) rfl (fun q => absurd hc1 q) (fun _ => ?_)
  refine Own.aloadN hx (.ref o0) (hb hby d2_5) rfl rfl rfl ?_
  refine Own.iloadN hx (1 : Int32) (hb hby d2_6) rfl rfl ?_
  refine Own.caload hx hZ O0 0 1 rfl (by decide) (v := (.int y1)) rfl (hb hby d2_7) rfl ?_
  refine Own.goto hx (hb hby d2_8) (by decide) (pc' := 12) rfl ?_
  exact Own.retS hx hret (by simp) hlk (hb hby d2_12) (by decide) (by decide) ⟨by rw [hy], rfl⟩

theorem ef2_4_2 (m : MethodId) (o0 : Addr) (p1 : Int32) (p2 : Int32) : entryFrame m #[(.ref o0), (.int p1), (.int p2), (.int (2 : Int32))] 4 = mkF m 0 #[.val (.ref o0), .val (.int p1), .val (.int p2), .val (.int (2 : Int32))] [] := by first | (simp [entryFrame, mkF, argsToLocals, Value.category]; done) | rfl
set_option maxRecDepth 65536 in
set_option maxHeartbeats 40000000 in
theorem rm2_4_2 (l : Launch) (Z : State) (a0 : Array Value) (hw : ∀ d ∈ tables_1, d.before a0 Z = true) (o0 : Addr) (p1 : Int32) (p2 : Int32) (h0 : Heap) (n0 : Nat) (y0 y1 y2 y3 : Int32) (fr : List (Addr × (Cell → Prop))) (O0 : Own.Owns n0 h0 ((o0, Own.ArrC Z .char [(.int y0), (.int y1), (.int y2), (.int y3)]) :: fr)) (hlt : (2 : Int32) < p1) (hy : nar .char y2 = y2) : Own.Does l (⟨"com/example/idxof/idxof/KnuthMorrisPrattPatternExtendPinLaw", "at", "([CICI)C"⟩ : MethodName) method_2_code 4 (some .char) [] ({ frames := 0, cells := 0, slots := 0, locals := 0 } : Room) Z #[(.ref o0), (.int p1), (.int p2), (.int (2 : Int32))] h0 n0 (fun v h => v = some (.int y2) ∧ h = h0) := by
  refine Own.doesOf pn3 ?_
  intro p e s m below meth c hx hby hml hret hlk hown hnm hZ
  refine Own.Goes.cast (ef2_4_2 m o0 p1 p2) ?_
  refine Own.iloadN hx (2 : Int32) (hb hby d2_0) rfl rfl ?_
  refine Own.iloadN hx p1 (hb hby d2_1) rfl rfl ?_
  have hc1 : (2 : Int32) < p1 := hlt
  refine Own.icmpFn hx (Own.q_ge (2 : Int32) p1) (hb hby d2_2) (pcN := 5) rfl (by decide) (pcT := 11) rfl (fun q => absurd hc1 q) (fun _ => ?_)
  refine Own.aloadN hx (.ref o0) (hb hby d2_5) rfl rfl rfl ?_
  refine Own.iloadN hx (2 : Int32) (hb hby d2_6) rfl rfl ?_
  refine Own.caload hx hZ O0 0 2 rfl (by decide) (v := (.int y2)) rfl (hb hby d2_7) rfl ?_
  refine Own.goto hx (hb hby d2_8) (by decide) (pc' := 12) rfl ?_
  exact Own.retS hx hret (by simp) hlk (hb hby d2_12) (by decide) (by decide) ⟨by rw [hy], rfl⟩

theorem ef2_4_3 (m : MethodId) (o0 : Addr) (p1 : Int32) (p2 : Int32) : entryFrame m #[(.ref o0), (.int p1), (.int p2), (.int (3 : Int32))] 4 = mkF m 0 #[.val (.ref o0), .val (.int p1), .val (.int p2), .val (.int (3 : Int32))] [] := by first | (simp [entryFrame, mkF, argsToLocals, Value.category]; done) | rfl
set_option maxRecDepth 65536 in
set_option maxHeartbeats 40000000 in
theorem rm2_4_3 (l : Launch) (Z : State) (a0 : Array Value) (hw : ∀ d ∈ tables_1, d.before a0 Z = true) (o0 : Addr) (p1 : Int32) (p2 : Int32) (h0 : Heap) (n0 : Nat) (y0 y1 y2 y3 : Int32) (fr : List (Addr × (Cell → Prop))) (O0 : Own.Owns n0 h0 ((o0, Own.ArrC Z .char [(.int y0), (.int y1), (.int y2), (.int y3)]) :: fr)) (hlt : (3 : Int32) < p1) (hy : nar .char y3 = y3) : Own.Does l (⟨"com/example/idxof/idxof/KnuthMorrisPrattPatternExtendPinLaw", "at", "([CICI)C"⟩ : MethodName) method_2_code 4 (some .char) [] ({ frames := 0, cells := 0, slots := 0, locals := 0 } : Room) Z #[(.ref o0), (.int p1), (.int p2), (.int (3 : Int32))] h0 n0 (fun v h => v = some (.int y3) ∧ h = h0) := by
  refine Own.doesOf pn3 ?_
  intro p e s m below meth c hx hby hml hret hlk hown hnm hZ
  refine Own.Goes.cast (ef2_4_3 m o0 p1 p2) ?_
  refine Own.iloadN hx (3 : Int32) (hb hby d2_0) rfl rfl ?_
  refine Own.iloadN hx p1 (hb hby d2_1) rfl rfl ?_
  have hc1 : (3 : Int32) < p1 := hlt
  refine Own.icmpFn hx (Own.q_ge (3 : Int32) p1) (hb hby d2_2) (pcN := 5) rfl (by decide) (pcT := 11) rfl (fun q => absurd hc1 q) (fun _ => ?_)
  refine Own.aloadN hx (.ref o0) (hb hby d2_5) rfl rfl rfl ?_
  refine Own.iloadN hx (3 : Int32) (hb hby d2_6) rfl rfl ?_
  refine Own.caload hx hZ O0 0 3 rfl (by decide) (v := (.int y3)) rfl (hb hby d2_7) rfl ?_
  refine Own.goto hx (hb hby d2_8) (by decide) (pc' := 12) rfl ?_
  exact Own.retS hx hret (by simp) hlk (hb hby d2_12) (by decide) (by decide) ⟨by rw [hy], rfl⟩

theorem pd1 : parseMethodDescriptor "([CICI)C" = some ⟨[(.array .char), .int, .char, .int], some .char⟩ := by decide +kernel
def fX1_0_1 (y0 p2 : Int32) : Int32 := (if y0 = p2 then (1 : Int32) else (0 : Int32))
theorem d1_0 : decode method_3_code 0 = .ok (.iload_n 3, 1) := by decide +kernel
theorem d1_1 : decode method_3_code 1 = .ok (.iload_n 1, 1) := by decide +kernel
theorem d1_2 : decode method_3_code 2 = .ok (.iconst 1, 1) := by decide +kernel
theorem d1_3 : decode method_3_code 3 = .ok (.iadd, 1) := by decide +kernel
theorem d1_4 : decode method_3_code 4 = .ok (.if_icmp .gt 9, 3) := by decide +kernel
theorem d1_7 : decode method_3_code 7 = .ok (.iload_n 3, 1) := by decide +kernel
theorem d1_8 : decode method_3_code 8 = .ok (.aload_n 0, 1) := by decide +kernel
theorem d1_9 : decode method_3_code 9 = .ok (.arraylength, 1) := by decide +kernel
theorem d1_10 : decode method_3_code 10 = .ok (.if_icmp .le 5, 3) := by decide +kernel
theorem d1_15 : decode method_3_code 15 = .ok (.iload_n 1, 1) := by decide +kernel
theorem d1_16 : decode method_3_code 16 = .ok (.iconst 1, 1) := by decide +kernel
theorem d1_17 : decode method_3_code 17 = .ok (.iadd, 1) := by decide +kernel
theorem d1_18 : decode method_3_code 18 = .ok (.iload_n 3, 1) := by decide +kernel
theorem d1_19 : decode method_3_code 19 = .ok (.isub, 1) := by decide +kernel
theorem d1_20 : decode method_3_code 20 = .ok (.istore 4, 2) := by decide +kernel
theorem d1_22 : decode method_3_code 22 = .ok (.iconst 0, 1) := by decide +kernel
theorem d1_23 : decode method_3_code 23 = .ok (.iload_n 3, 1) := by decide +kernel
theorem d1_24 : decode method_3_code 24 = .ok (.if_icmp .ge 17, 3) := by decide +kernel
theorem d1_27 : decode method_3_code 27 = .ok (.aload_n 0, 1) := by decide +kernel
theorem d1_28 : decode method_3_code 28 = .ok (.iconst 0, 1) := by decide +kernel
theorem d1_29 : decode method_3_code 29 = .ok (.caload, 1) := by decide +kernel
theorem d1_30 : decode method_3_code 30 = .ok (.aload_n 0, 1) := by decide +kernel
theorem d1_31 : decode method_3_code 31 = .ok (.iload_n 1, 1) := by decide +kernel
theorem d1_32 : decode method_3_code 32 = .ok (.iload_n 2, 1) := by decide +kernel
theorem d1_33 : decode method_3_code 33 = .ok (.iload 4, 2) := by decide +kernel
theorem d1_35 : decode method_3_code 35 = .ok (.invokestatic 7, 3) := by decide +kernel
theorem d1_38 : decode method_3_code 38 = .ok (.if_icmp .ne 70, 3) := by decide +kernel
theorem d1_41 : decode method_3_code 41 = .ok (.iconst 1, 1) := by decide +kernel
theorem d1_42 : decode method_3_code 42 = .ok (.iload_n 3, 1) := by decide +kernel
theorem d1_43 : decode method_3_code 43 = .ok (.if_icmp .ge 19, 3) := by decide +kernel
theorem d1_62 : decode method_3_code 62 = .ok (.iconst 2, 1) := by decide +kernel
theorem d1_63 : decode method_3_code 63 = .ok (.iload_n 3, 1) := by decide +kernel
theorem d1_64 : decode method_3_code 64 = .ok (.if_icmp .ge 19, 3) := by decide +kernel
theorem d1_83 : decode method_3_code 83 = .ok (.iconst 3, 1) := by decide +kernel
theorem d1_84 : decode method_3_code 84 = .ok (.iload_n 3, 1) := by decide +kernel
theorem d1_85 : decode method_3_code 85 = .ok (.if_icmp .ge 19, 3) := by decide +kernel
theorem d1_104 : decode method_3_code 104 = .ok (.iconst 1, 1) := by decide +kernel
theorem d1_105 : decode method_3_code 105 = .ok (.goto 4, 3) := by decide +kernel
theorem d1_108 : decode method_3_code 108 = .ok (.iconst 0, 1) := by decide +kernel
theorem d1_109 : decode method_3_code 109 = .ok (.ireturn, 1) := by decide +kernel
theorem pn4 : plainFor (⟨"com/example/idxof/idxof/KnuthMorrisPrattPatternExtendPinLaw", "ends", "([CICI)Z"⟩ : MethodName) = true := by first | exact plainFor_of_name (by simp [plainName, overriddenIn]; done) | decide +kernel
theorem ef1_1_0_1 (m : MethodId) (o0 : Addr) (p2 : Int32) : entryFrame m #[(.ref o0), (.int (0 : Int32)), (.int p2), (.int (1 : Int32))] 5 = mkF m 0 #[.val (.ref o0), .val (.int (0 : Int32)), .val (.int p2), .val (.int (1 : Int32)), .unset] [] := by first | (simp [entryFrame, mkF, argsToLocals, Value.category]; done) | rfl
set_option maxRecDepth 65536 in
set_option maxHeartbeats 40000000 in
theorem rm1_1_0_1 (l : Launch) (Z : State) (a0 : Array Value) (hw : ∀ d ∈ tables_1, d.before a0 Z = true) (o0 : Addr) (p2 : Int32) (h0 : Heap) (n0 : Nat) (y0 : Int32) (fr : List (Addr × (Cell → Prop))) (O0 : Own.Owns n0 h0 ((o0, Own.ArrC Z .char [(.int y0)]) :: fr)) (hy0 : nar .char y0 = y0) (hc : nar .char p2 = p2) : Own.Does l (⟨"com/example/idxof/idxof/KnuthMorrisPrattPatternExtendPinLaw", "ends", "([CICI)Z"⟩ : MethodName) method_3_code 5 (some .boolean) [] ({ frames := 1, cells := 0, slots := 0, locals := 24 } : Room) Z #[(.ref o0), (.int (0 : Int32)), (.int p2), (.int (1 : Int32))] h0 n0 (fun v h => v = some (.int (fX1_0_1 y0 p2)) ∧ h = h0) := by
  refine Own.doesOf pn4 ?_
  intro p e s m below meth c hx hby hml hret hlk hown hnm hZ
  refine Own.Goes.cast (ef1_1_0_1 m o0 p2) ?_
  refine Own.iloadN hx (1 : Int32) (hb hby d1_0) rfl rfl ?_
  refine Own.iloadN hx (0 : Int32) (hb hby d1_1) rfl rfl ?_
  refine Own.iconst hx (1 : Int32) (hb hby d1_2) rfl (by decide) ?_
  refine Own.iadd hx (hb hby d1_3) rfl ?_
  refine Own.vI (1 : Int32) (by decide) ?_
  have hc1 : ¬ ((1 : Int32) < (1 : Int32)) := by decide
  refine Own.icmpF hx (Own.q_gt (1 : Int32) (1 : Int32)) (hb hby d1_4) (pcN := 7) rfl (by decide) (pcT := 13) rfl (fun q => absurd q hc1) (fun _ => ?_)
  refine Own.iloadN hx (1 : Int32) (hb hby d1_7) rfl rfl ?_
  refine Own.aloadN hx (.ref o0) (hb hby d1_8) rfl rfl rfl ?_
  refine Own.arrlen hx hZ O0 0 rfl (1 : Int32) rfl (hb hby d1_9) rfl ?_
  have hc3 : ¬ ((1 : Int32) < (1 : Int32)) := by decide
  refine Own.icmpFn hx (Own.q_le (1 : Int32) (1 : Int32)) (hb hby d1_10) (pcN := 13) rfl (by decide) (pcT := 15) rfl (fun _ => ?_) (fun q => absurd q hc3)
  refine Own.iloadN hx (0 : Int32) (hb hby d1_15) rfl rfl ?_
  refine Own.iconst hx (1 : Int32) (hb hby d1_16) rfl (by decide) ?_
  refine Own.iadd hx (hb hby d1_17) rfl ?_
  refine Own.vI (1 : Int32) (by decide) ?_
  refine Own.iloadN hx (1 : Int32) (hb hby d1_18) rfl rfl ?_
  refine Own.isub hx (hb hby d1_19) rfl ?_
  refine Own.vI (0 : Int32) (by decide) ?_
  refine Own.istore hx (0 : Int32) rfl #[.val (.ref o0), .val (.int (0 : Int32)), .val (.int p2), .val (.int (1 : Int32)), .val (.int (0 : Int32))] (hb hby d1_20) rfl rfl ?_
  refine Own.iconst hx (0 : Int32) (hb hby d1_22) rfl (by decide) ?_
  refine Own.iloadN hx (1 : Int32) (hb hby d1_23) rfl rfl ?_
  have hc5 : (0 : Int32) < (1 : Int32) := by decide
  refine Own.icmpFn hx (Own.q_ge (0 : Int32) (1 : Int32)) (hb hby d1_24) (pcN := 27) rfl (by decide) (pcT := 41) rfl (fun q => absurd hc5 q) (fun _ => ?_)
  refine Own.aloadN hx (.ref o0) (hb hby d1_27) rfl rfl rfl ?_
  refine Own.iconst hx (0 : Int32) (hb hby d1_28) rfl (by decide) ?_
  refine Own.caload hx hZ O0 0 0 rfl (by decide) (v := (.int y0)) rfl (hb hby d1_29) rfl ?_
  refine Own.aloadN hx (.ref o0) (hb hby d1_30) rfl rfl rfl ?_
  refine Own.iloadN hx (0 : Int32) (hb hby d1_31) rfl rfl ?_
  refine Own.iloadN hx p2 (hb hby d1_32) rfl rfl ?_
  refine Own.iload hx (0 : Int32) (hb hby d1_33) rfl rfl ?_
  refine Own.callS hx hZ hown (hw _ (List.mem_of_getElem? (i := 5) rfl)) (hw _ (List.mem_of_getElem? (i := 6) rfl)) (hw _ (List.mem_of_getElem? (i := 3) rfl)) (hw _ (List.mem_of_getElem? (i := 7) rfl)) (by decide) pd1 (argsL := [(.ref o0), (.int (0 : Int32)), (.int p2), (.int (0 : Int32))]) (rest := [(.int y0)]) rfl (W := 1) (Nat.le_of_eq rfl) (rm := ({ frames := 0, cells := 0, slots := 0, locals := 0 } : Room)) (by decide) (by decide) (by decide) (by decide) (k' := 0) (n' := 0) rfl rfl (by rw [hml]; rfl) [(.int (0 : Int32)), (.int p2), (.int (0 : Int32)), (.ref o0), (.int y0)] rfl (hb hby d1_35) (pc' := 38) rfl (rm2_c l Z a0 hw o0 (0 : Int32) p2 (0 : Int32) h0 n0 (by decide) hc) ?_
  rintro _ h' ⟨rfl, eh⟩
  rw [eh]; clear eh h'
  show Own.Goes _ _ _ _ _ _ _ _ _ _ _ _ _ _ _ _ _ (mkF m 38 #[.val (.ref o0), .val (.int (0 : Int32)), .val (.int p2), .val (.int (1 : Int32)), .val (.int (0 : Int32))] [(.int p2), (.int y0)])
  refine Own.icmpFn hx (Own.q_ne y0 p2) (hb hby d1_38) (pcN := 41) rfl (by decide) (pcT := 108) rfl (fun hc7 => ?_) (fun hc7 => ?_)
  · refine Own.iconst hx (0 : Int32) (hb hby d1_108) rfl (by decide) ?_
    exact Own.retS hx hret (by simp) hlk (hb hby d1_109) (by decide) (by decide) ⟨by rw [show fX1_0_1 y0 p2 = (0 : Int32) from by simp only [fX1_0_1, if_neg hc7]]; try rfl, rfl⟩
  · refine Own.iconst hx (1 : Int32) (hb hby d1_41) rfl (by decide) ?_
    refine Own.iloadN hx (1 : Int32) (hb hby d1_42) rfl rfl ?_
    have hc8 : ¬ ((1 : Int32) < (1 : Int32)) := by decide
    refine Own.icmpFn hx (Own.q_ge (1 : Int32) (1 : Int32)) (hb hby d1_43) (pcN := 46) rfl (by decide) (pcT := 62) rfl (fun _ => ?_) (fun q => absurd q hc8)
    refine Own.iconst hx (2 : Int32) (hb hby d1_62) rfl (by decide) ?_
    refine Own.iloadN hx (1 : Int32) (hb hby d1_63) rfl rfl ?_
    have hc10 : ¬ ((2 : Int32) < (1 : Int32)) := by decide
    refine Own.icmpFn hx (Own.q_ge (2 : Int32) (1 : Int32)) (hb hby d1_64) (pcN := 67) rfl (by decide) (pcT := 83) rfl (fun _ => ?_) (fun q => absurd q hc10)
    refine Own.iconst hx (3 : Int32) (hb hby d1_83) rfl (by decide) ?_
    refine Own.iloadN hx (1 : Int32) (hb hby d1_84) rfl rfl ?_
    have hc12 : ¬ ((3 : Int32) < (1 : Int32)) := by decide
    refine Own.icmpFn hx (Own.q_ge (3 : Int32) (1 : Int32)) (hb hby d1_85) (pcN := 88) rfl (by decide) (pcT := 104) rfl (fun _ => ?_) (fun q => absurd q hc12)
    refine Own.iconst hx (1 : Int32) (hb hby d1_104) rfl (by decide) ?_
    refine Own.goto hx (hb hby d1_105) (by decide) (pc' := 109) rfl ?_
    exact Own.retS hx hret (by simp) hlk (hb hby d1_109) (by decide) (by decide) ⟨by rw [show fX1_0_1 y0 p2 = (1 : Int32) from by simp only [fX1_0_1, if_pos hc7]]; try rfl, rfl⟩

theorem d1_13 : decode method_3_code 13 = .ok (.iconst 0, 1) := by decide +kernel
theorem d1_14 : decode method_3_code 14 = .ok (.ireturn, 1) := by decide +kernel
theorem ef1_1_0_2 (m : MethodId) (o0 : Addr) (p2 : Int32) : entryFrame m #[(.ref o0), (.int (0 : Int32)), (.int p2), (.int (2 : Int32))] 5 = mkF m 0 #[.val (.ref o0), .val (.int (0 : Int32)), .val (.int p2), .val (.int (2 : Int32)), .unset] [] := by first | (simp [entryFrame, mkF, argsToLocals, Value.category]; done) | rfl
set_option maxRecDepth 65536 in
set_option maxHeartbeats 40000000 in
theorem rm1_1_0_2 (l : Launch) (Z : State) (a0 : Array Value) (hw : ∀ d ∈ tables_1, d.before a0 Z = true) (o0 : Addr) (p2 : Int32) (h0 : Heap) (n0 : Nat) (y0 : Int32) (fr : List (Addr × (Cell → Prop))) (O0 : Own.Owns n0 h0 ((o0, Own.ArrC Z .char [(.int y0)]) :: fr)) (hy0 : nar .char y0 = y0) (hc : nar .char p2 = p2) : Own.Does l (⟨"com/example/idxof/idxof/KnuthMorrisPrattPatternExtendPinLaw", "ends", "([CICI)Z"⟩ : MethodName) method_3_code 5 (some .boolean) [] ({ frames := 1, cells := 0, slots := 0, locals := 24 } : Room) Z #[(.ref o0), (.int (0 : Int32)), (.int p2), (.int (2 : Int32))] h0 n0 (fun v h => v = some (.int (0 : Int32)) ∧ h = h0) := by
  refine Own.doesOf pn4 ?_
  intro p e s m below meth c hx hby hml hret hlk hown hnm hZ
  refine Own.Goes.cast (ef1_1_0_2 m o0 p2) ?_
  refine Own.iloadN hx (2 : Int32) (hb hby d1_0) rfl rfl ?_
  refine Own.iloadN hx (0 : Int32) (hb hby d1_1) rfl rfl ?_
  refine Own.iconst hx (1 : Int32) (hb hby d1_2) rfl (by decide) ?_
  refine Own.iadd hx (hb hby d1_3) rfl ?_
  refine Own.vI (1 : Int32) (by decide) ?_
  have hc1 : (1 : Int32) < (2 : Int32) := by decide
  refine Own.icmpF hx (Own.q_gt (2 : Int32) (1 : Int32)) (hb hby d1_4) (pcN := 7) rfl (by decide) (pcT := 13) rfl (fun _ => ?_) (fun q => absurd hc1 q)
  refine Own.iconst hx (0 : Int32) (hb hby d1_13) rfl (by decide) ?_
  exact Own.retS hx hret (by simp) hlk (hb hby d1_14) (by decide) (by decide) ⟨rfl, rfl⟩

theorem ef1_1_0_3 (m : MethodId) (o0 : Addr) (p2 : Int32) : entryFrame m #[(.ref o0), (.int (0 : Int32)), (.int p2), (.int (3 : Int32))] 5 = mkF m 0 #[.val (.ref o0), .val (.int (0 : Int32)), .val (.int p2), .val (.int (3 : Int32)), .unset] [] := by first | (simp [entryFrame, mkF, argsToLocals, Value.category]; done) | rfl
set_option maxRecDepth 65536 in
set_option maxHeartbeats 40000000 in
theorem rm1_1_0_3 (l : Launch) (Z : State) (a0 : Array Value) (hw : ∀ d ∈ tables_1, d.before a0 Z = true) (o0 : Addr) (p2 : Int32) (h0 : Heap) (n0 : Nat) (y0 : Int32) (fr : List (Addr × (Cell → Prop))) (O0 : Own.Owns n0 h0 ((o0, Own.ArrC Z .char [(.int y0)]) :: fr)) (hy0 : nar .char y0 = y0) (hc : nar .char p2 = p2) : Own.Does l (⟨"com/example/idxof/idxof/KnuthMorrisPrattPatternExtendPinLaw", "ends", "([CICI)Z"⟩ : MethodName) method_3_code 5 (some .boolean) [] ({ frames := 1, cells := 0, slots := 0, locals := 24 } : Room) Z #[(.ref o0), (.int (0 : Int32)), (.int p2), (.int (3 : Int32))] h0 n0 (fun v h => v = some (.int (0 : Int32)) ∧ h = h0) := by
  refine Own.doesOf pn4 ?_
  intro p e s m below meth c hx hby hml hret hlk hown hnm hZ
  refine Own.Goes.cast (ef1_1_0_3 m o0 p2) ?_
  refine Own.iloadN hx (3 : Int32) (hb hby d1_0) rfl rfl ?_
  refine Own.iloadN hx (0 : Int32) (hb hby d1_1) rfl rfl ?_
  refine Own.iconst hx (1 : Int32) (hb hby d1_2) rfl (by decide) ?_
  refine Own.iadd hx (hb hby d1_3) rfl ?_
  refine Own.vI (1 : Int32) (by decide) ?_
  have hc1 : (1 : Int32) < (3 : Int32) := by decide
  refine Own.icmpF hx (Own.q_gt (3 : Int32) (1 : Int32)) (hb hby d1_4) (pcN := 7) rfl (by decide) (pcT := 13) rfl (fun _ => ?_) (fun q => absurd hc1 q)
  refine Own.iconst hx (0 : Int32) (hb hby d1_13) rfl (by decide) ?_
  exact Own.retS hx hret (by simp) hlk (hb hby d1_14) (by decide) (by decide) ⟨rfl, rfl⟩

theorem ef1_1_0_4 (m : MethodId) (o0 : Addr) (p2 : Int32) : entryFrame m #[(.ref o0), (.int (0 : Int32)), (.int p2), (.int (4 : Int32))] 5 = mkF m 0 #[.val (.ref o0), .val (.int (0 : Int32)), .val (.int p2), .val (.int (4 : Int32)), .unset] [] := by first | (simp [entryFrame, mkF, argsToLocals, Value.category]; done) | rfl
set_option maxRecDepth 65536 in
set_option maxHeartbeats 40000000 in
theorem rm1_1_0_4 (l : Launch) (Z : State) (a0 : Array Value) (hw : ∀ d ∈ tables_1, d.before a0 Z = true) (o0 : Addr) (p2 : Int32) (h0 : Heap) (n0 : Nat) (y0 : Int32) (fr : List (Addr × (Cell → Prop))) (O0 : Own.Owns n0 h0 ((o0, Own.ArrC Z .char [(.int y0)]) :: fr)) (hy0 : nar .char y0 = y0) (hc : nar .char p2 = p2) : Own.Does l (⟨"com/example/idxof/idxof/KnuthMorrisPrattPatternExtendPinLaw", "ends", "([CICI)Z"⟩ : MethodName) method_3_code 5 (some .boolean) [] ({ frames := 1, cells := 0, slots := 0, locals := 24 } : Room) Z #[(.ref o0), (.int (0 : Int32)), (.int p2), (.int (4 : Int32))] h0 n0 (fun v h => v = some (.int (0 : Int32)) ∧ h = h0) := by
  refine Own.doesOf pn4 ?_
  intro p e s m below meth c hx hby hml hret hlk hown hnm hZ
  refine Own.Goes.cast (ef1_1_0_4 m o0 p2) ?_
  refine Own.iloadN hx (4 : Int32) (hb hby d1_0) rfl rfl ?_
  refine Own.iloadN hx (0 : Int32) (hb hby d1_1) rfl rfl ?_
  refine Own.iconst hx (1 : Int32) (hb hby d1_2) rfl (by decide) ?_
  refine Own.iadd hx (hb hby d1_3) rfl ?_
  refine Own.vI (1 : Int32) (by decide) ?_
  have hc1 : (1 : Int32) < (4 : Int32) := by decide
  refine Own.icmpF hx (Own.q_gt (4 : Int32) (1 : Int32)) (hb hby d1_4) (pcN := 7) rfl (by decide) (pcT := 13) rfl (fun _ => ?_) (fun q => absurd hc1 q)
  refine Own.iconst hx (0 : Int32) (hb hby d1_13) rfl (by decide) ?_
  exact Own.retS hx hret (by simp) hlk (hb hby d1_14) (by decide) (by decide) ⟨rfl, rfl⟩

def fX1_1_1 (y0 p2 : Int32) : Int32 := (if y0 = p2 then (1 : Int32) else (0 : Int32))
theorem ef1_1_1_1 (m : MethodId) (o0 : Addr) (p2 : Int32) : entryFrame m #[(.ref o0), (.int (1 : Int32)), (.int p2), (.int (1 : Int32))] 5 = mkF m 0 #[.val (.ref o0), .val (.int (1 : Int32)), .val (.int p2), .val (.int (1 : Int32)), .unset] [] := by first | (simp [entryFrame, mkF, argsToLocals, Value.category]; done) | rfl
set_option maxRecDepth 65536 in
set_option maxHeartbeats 40000000 in
theorem rm1_1_1_1 (l : Launch) (Z : State) (a0 : Array Value) (hw : ∀ d ∈ tables_1, d.before a0 Z = true) (o0 : Addr) (p2 : Int32) (h0 : Heap) (n0 : Nat) (y0 : Int32) (fr : List (Addr × (Cell → Prop))) (O0 : Own.Owns n0 h0 ((o0, Own.ArrC Z .char [(.int y0)]) :: fr)) (hy0 : nar .char y0 = y0) (hc : nar .char p2 = p2) : Own.Does l (⟨"com/example/idxof/idxof/KnuthMorrisPrattPatternExtendPinLaw", "ends", "([CICI)Z"⟩ : MethodName) method_3_code 5 (some .boolean) [] ({ frames := 1, cells := 0, slots := 0, locals := 24 } : Room) Z #[(.ref o0), (.int (1 : Int32)), (.int p2), (.int (1 : Int32))] h0 n0 (fun v h => v = some (.int (fX1_1_1 y0 p2)) ∧ h = h0) := by
  refine Own.doesOf pn4 ?_
  intro p e s m below meth c hx hby hml hret hlk hown hnm hZ
  refine Own.Goes.cast (ef1_1_1_1 m o0 p2) ?_
  refine Own.iloadN hx (1 : Int32) (hb hby d1_0) rfl rfl ?_
  refine Own.iloadN hx (1 : Int32) (hb hby d1_1) rfl rfl ?_
  refine Own.iconst hx (1 : Int32) (hb hby d1_2) rfl (by decide) ?_
  refine Own.iadd hx (hb hby d1_3) rfl ?_
  refine Own.vI (2 : Int32) (by decide) ?_
  have hc1 : ¬ ((2 : Int32) < (1 : Int32)) := by decide
  refine Own.icmpF hx (Own.q_gt (1 : Int32) (2 : Int32)) (hb hby d1_4) (pcN := 7) rfl (by decide) (pcT := 13) rfl (fun q => absurd q hc1) (fun _ => ?_)
  refine Own.iloadN hx (1 : Int32) (hb hby d1_7) rfl rfl ?_
  refine Own.aloadN hx (.ref o0) (hb hby d1_8) rfl rfl rfl ?_
  refine Own.arrlen hx hZ O0 0 rfl (1 : Int32) rfl (hb hby d1_9) rfl ?_
  have hc3 : ¬ ((1 : Int32) < (1 : Int32)) := by decide
  refine Own.icmpFn hx (Own.q_le (1 : Int32) (1 : Int32)) (hb hby d1_10) (pcN := 13) rfl (by decide) (pcT := 15) rfl (fun _ => ?_) (fun q => absurd q hc3)
  refine Own.iloadN hx (1 : Int32) (hb hby d1_15) rfl rfl ?_
  refine Own.iconst hx (1 : Int32) (hb hby d1_16) rfl (by decide) ?_
  refine Own.iadd hx (hb hby d1_17) rfl ?_
  refine Own.vI (2 : Int32) (by decide) ?_
  refine Own.iloadN hx (1 : Int32) (hb hby d1_18) rfl rfl ?_
  refine Own.isub hx (hb hby d1_19) rfl ?_
  refine Own.vI (1 : Int32) (by decide) ?_
  refine Own.istore hx (1 : Int32) rfl #[.val (.ref o0), .val (.int (1 : Int32)), .val (.int p2), .val (.int (1 : Int32)), .val (.int (1 : Int32))] (hb hby d1_20) rfl rfl ?_
  refine Own.iconst hx (0 : Int32) (hb hby d1_22) rfl (by decide) ?_
  refine Own.iloadN hx (1 : Int32) (hb hby d1_23) rfl rfl ?_
  have hc5 : (0 : Int32) < (1 : Int32) := by decide
  refine Own.icmpFn hx (Own.q_ge (0 : Int32) (1 : Int32)) (hb hby d1_24) (pcN := 27) rfl (by decide) (pcT := 41) rfl (fun q => absurd hc5 q) (fun _ => ?_)
  refine Own.aloadN hx (.ref o0) (hb hby d1_27) rfl rfl rfl ?_
  refine Own.iconst hx (0 : Int32) (hb hby d1_28) rfl (by decide) ?_
  refine Own.caload hx hZ O0 0 0 rfl (by decide) (v := (.int y0)) rfl (hb hby d1_29) rfl ?_
  refine Own.aloadN hx (.ref o0) (hb hby d1_30) rfl rfl rfl ?_
  refine Own.iloadN hx (1 : Int32) (hb hby d1_31) rfl rfl ?_
  refine Own.iloadN hx p2 (hb hby d1_32) rfl rfl ?_
  refine Own.iload hx (1 : Int32) (hb hby d1_33) rfl rfl ?_
  refine Own.callS hx hZ hown (hw _ (List.mem_of_getElem? (i := 5) rfl)) (hw _ (List.mem_of_getElem? (i := 6) rfl)) (hw _ (List.mem_of_getElem? (i := 3) rfl)) (hw _ (List.mem_of_getElem? (i := 7) rfl)) (by decide) pd1 (argsL := [(.ref o0), (.int (1 : Int32)), (.int p2), (.int (1 : Int32))]) (rest := [(.int y0)]) rfl (W := 1) (Nat.le_of_eq rfl) (rm := ({ frames := 0, cells := 0, slots := 0, locals := 0 } : Room)) (by decide) (by decide) (by decide) (by decide) (k' := 0) (n' := 0) rfl rfl (by rw [hml]; rfl) [(.int (1 : Int32)), (.int p2), (.int (1 : Int32)), (.ref o0), (.int y0)] rfl (hb hby d1_35) (pc' := 38) rfl (rm2_c l Z a0 hw o0 (1 : Int32) p2 (1 : Int32) h0 n0 (by decide) hc) ?_
  rintro _ h' ⟨rfl, eh⟩
  rw [eh]; clear eh h'
  show Own.Goes _ _ _ _ _ _ _ _ _ _ _ _ _ _ _ _ _ (mkF m 38 #[.val (.ref o0), .val (.int (1 : Int32)), .val (.int p2), .val (.int (1 : Int32)), .val (.int (1 : Int32))] [(.int p2), (.int y0)])
  refine Own.icmpFn hx (Own.q_ne y0 p2) (hb hby d1_38) (pcN := 41) rfl (by decide) (pcT := 108) rfl (fun hc7 => ?_) (fun hc7 => ?_)
  · refine Own.iconst hx (0 : Int32) (hb hby d1_108) rfl (by decide) ?_
    exact Own.retS hx hret (by simp) hlk (hb hby d1_109) (by decide) (by decide) ⟨by rw [show fX1_1_1 y0 p2 = (0 : Int32) from by simp only [fX1_1_1, if_neg hc7]]; try rfl, rfl⟩
  · refine Own.iconst hx (1 : Int32) (hb hby d1_41) rfl (by decide) ?_
    refine Own.iloadN hx (1 : Int32) (hb hby d1_42) rfl rfl ?_
    have hc8 : ¬ ((1 : Int32) < (1 : Int32)) := by decide
    refine Own.icmpFn hx (Own.q_ge (1 : Int32) (1 : Int32)) (hb hby d1_43) (pcN := 46) rfl (by decide) (pcT := 62) rfl (fun _ => ?_) (fun q => absurd q hc8)
    refine Own.iconst hx (2 : Int32) (hb hby d1_62) rfl (by decide) ?_
    refine Own.iloadN hx (1 : Int32) (hb hby d1_63) rfl rfl ?_
    have hc10 : ¬ ((2 : Int32) < (1 : Int32)) := by decide
    refine Own.icmpFn hx (Own.q_ge (2 : Int32) (1 : Int32)) (hb hby d1_64) (pcN := 67) rfl (by decide) (pcT := 83) rfl (fun _ => ?_) (fun q => absurd q hc10)
    refine Own.iconst hx (3 : Int32) (hb hby d1_83) rfl (by decide) ?_
    refine Own.iloadN hx (1 : Int32) (hb hby d1_84) rfl rfl ?_
    have hc12 : ¬ ((3 : Int32) < (1 : Int32)) := by decide
    refine Own.icmpFn hx (Own.q_ge (3 : Int32) (1 : Int32)) (hb hby d1_85) (pcN := 88) rfl (by decide) (pcT := 104) rfl (fun _ => ?_) (fun q => absurd q hc12)
    refine Own.iconst hx (1 : Int32) (hb hby d1_104) rfl (by decide) ?_
    refine Own.goto hx (hb hby d1_105) (by decide) (pc' := 109) rfl ?_
    exact Own.retS hx hret (by simp) hlk (hb hby d1_109) (by decide) (by decide) ⟨by rw [show fX1_1_1 y0 p2 = (1 : Int32) from by simp only [fX1_1_1, if_pos hc7]]; try rfl, rfl⟩

theorem ef1_1_1_2 (m : MethodId) (o0 : Addr) (p2 : Int32) : entryFrame m #[(.ref o0), (.int (1 : Int32)), (.int p2), (.int (2 : Int32))] 5 = mkF m 0 #[.val (.ref o0), .val (.int (1 : Int32)), .val (.int p2), .val (.int (2 : Int32)), .unset] [] := by first | (simp [entryFrame, mkF, argsToLocals, Value.category]; done) | rfl
set_option maxRecDepth 65536 in
set_option maxHeartbeats 40000000 in
theorem rm1_1_1_2 (l : Launch) (Z : State) (a0 : Array Value) (hw : ∀ d ∈ tables_1, d.before a0 Z = true) (o0 : Addr) (p2 : Int32) (h0 : Heap) (n0 : Nat) (y0 : Int32) (fr : List (Addr × (Cell → Prop))) (O0 : Own.Owns n0 h0 ((o0, Own.ArrC Z .char [(.int y0)]) :: fr)) (hy0 : nar .char y0 = y0) (hc : nar .char p2 = p2) : Own.Does l (⟨"com/example/idxof/idxof/KnuthMorrisPrattPatternExtendPinLaw", "ends", "([CICI)Z"⟩ : MethodName) method_3_code 5 (some .boolean) [] ({ frames := 1, cells := 0, slots := 0, locals := 24 } : Room) Z #[(.ref o0), (.int (1 : Int32)), (.int p2), (.int (2 : Int32))] h0 n0 (fun v h => v = some (.int (0 : Int32)) ∧ h = h0) := by
  refine Own.doesOf pn4 ?_
  intro p e s m below meth c hx hby hml hret hlk hown hnm hZ
  refine Own.Goes.cast (ef1_1_1_2 m o0 p2) ?_
  refine Own.iloadN hx (2 : Int32) (hb hby d1_0) rfl rfl ?_
  refine Own.iloadN hx (1 : Int32) (hb hby d1_1) rfl rfl ?_
  refine Own.iconst hx (1 : Int32) (hb hby d1_2) rfl (by decide) ?_
  refine Own.iadd hx (hb hby d1_3) rfl ?_
  refine Own.vI (2 : Int32) (by decide) ?_
  have hc1 : ¬ ((2 : Int32) < (2 : Int32)) := by decide
  refine Own.icmpF hx (Own.q_gt (2 : Int32) (2 : Int32)) (hb hby d1_4) (pcN := 7) rfl (by decide) (pcT := 13) rfl (fun q => absurd q hc1) (fun _ => ?_)
  refine Own.iloadN hx (2 : Int32) (hb hby d1_7) rfl rfl ?_
  refine Own.aloadN hx (.ref o0) (hb hby d1_8) rfl rfl rfl ?_
  refine Own.arrlen hx hZ O0 0 rfl (1 : Int32) rfl (hb hby d1_9) rfl ?_
  have hc3 : (1 : Int32) < (2 : Int32) := by decide
  refine Own.icmpFn hx (Own.q_le (2 : Int32) (1 : Int32)) (hb hby d1_10) (pcN := 13) rfl (by decide) (pcT := 15) rfl (fun q => absurd hc3 q) (fun _ => ?_)
  refine Own.iconst hx (0 : Int32) (hb hby d1_13) rfl (by decide) ?_
  exact Own.retS hx hret (by simp) hlk (hb hby d1_14) (by decide) (by decide) ⟨rfl, rfl⟩

theorem ef1_1_1_3 (m : MethodId) (o0 : Addr) (p2 : Int32) : entryFrame m #[(.ref o0), (.int (1 : Int32)), (.int p2), (.int (3 : Int32))] 5 = mkF m 0 #[.val (.ref o0), .val (.int (1 : Int32)), .val (.int p2), .val (.int (3 : Int32)), .unset] [] := by first | (simp [entryFrame, mkF, argsToLocals, Value.category]; done) | rfl
set_option maxRecDepth 65536 in
set_option maxHeartbeats 40000000 in
theorem rm1_1_1_3 (l : Launch) (Z : State) (a0 : Array Value) (hw : ∀ d ∈ tables_1, d.before a0 Z = true) (o0 : Addr) (p2 : Int32) (h0 : Heap) (n0 : Nat) (y0 : Int32) (fr : List (Addr × (Cell → Prop))) (O0 : Own.Owns n0 h0 ((o0, Own.ArrC Z .char [(.int y0)]) :: fr)) (hy0 : nar .char y0 = y0) (hc : nar .char p2 = p2) : Own.Does l (⟨"com/example/idxof/idxof/KnuthMorrisPrattPatternExtendPinLaw", "ends", "([CICI)Z"⟩ : MethodName) method_3_code 5 (some .boolean) [] ({ frames := 1, cells := 0, slots := 0, locals := 24 } : Room) Z #[(.ref o0), (.int (1 : Int32)), (.int p2), (.int (3 : Int32))] h0 n0 (fun v h => v = some (.int (0 : Int32)) ∧ h = h0) := by
  refine Own.doesOf pn4 ?_
  intro p e s m below meth c hx hby hml hret hlk hown hnm hZ
  refine Own.Goes.cast (ef1_1_1_3 m o0 p2) ?_
  refine Own.iloadN hx (3 : Int32) (hb hby d1_0) rfl rfl ?_
  refine Own.iloadN hx (1 : Int32) (hb hby d1_1) rfl rfl ?_
  refine Own.iconst hx (1 : Int32) (hb hby d1_2) rfl (by decide) ?_
  refine Own.iadd hx (hb hby d1_3) rfl ?_
  refine Own.vI (2 : Int32) (by decide) ?_
  have hc1 : (2 : Int32) < (3 : Int32) := by decide
  refine Own.icmpF hx (Own.q_gt (3 : Int32) (2 : Int32)) (hb hby d1_4) (pcN := 7) rfl (by decide) (pcT := 13) rfl (fun _ => ?_) (fun q => absurd hc1 q)
  refine Own.iconst hx (0 : Int32) (hb hby d1_13) rfl (by decide) ?_
  exact Own.retS hx hret (by simp) hlk (hb hby d1_14) (by decide) (by decide) ⟨rfl, rfl⟩

theorem ef1_1_1_4 (m : MethodId) (o0 : Addr) (p2 : Int32) : entryFrame m #[(.ref o0), (.int (1 : Int32)), (.int p2), (.int (4 : Int32))] 5 = mkF m 0 #[.val (.ref o0), .val (.int (1 : Int32)), .val (.int p2), .val (.int (4 : Int32)), .unset] [] := by first | (simp [entryFrame, mkF, argsToLocals, Value.category]; done) | rfl
set_option maxRecDepth 65536 in
set_option maxHeartbeats 40000000 in
theorem rm1_1_1_4 (l : Launch) (Z : State) (a0 : Array Value) (hw : ∀ d ∈ tables_1, d.before a0 Z = true) (o0 : Addr) (p2 : Int32) (h0 : Heap) (n0 : Nat) (y0 : Int32) (fr : List (Addr × (Cell → Prop))) (O0 : Own.Owns n0 h0 ((o0, Own.ArrC Z .char [(.int y0)]) :: fr)) (hy0 : nar .char y0 = y0) (hc : nar .char p2 = p2) : Own.Does l (⟨"com/example/idxof/idxof/KnuthMorrisPrattPatternExtendPinLaw", "ends", "([CICI)Z"⟩ : MethodName) method_3_code 5 (some .boolean) [] ({ frames := 1, cells := 0, slots := 0, locals := 24 } : Room) Z #[(.ref o0), (.int (1 : Int32)), (.int p2), (.int (4 : Int32))] h0 n0 (fun v h => v = some (.int (0 : Int32)) ∧ h = h0) := by
  refine Own.doesOf pn4 ?_
  intro p e s m below meth c hx hby hml hret hlk hown hnm hZ
  refine Own.Goes.cast (ef1_1_1_4 m o0 p2) ?_
  refine Own.iloadN hx (4 : Int32) (hb hby d1_0) rfl rfl ?_
  refine Own.iloadN hx (1 : Int32) (hb hby d1_1) rfl rfl ?_
  refine Own.iconst hx (1 : Int32) (hb hby d1_2) rfl (by decide) ?_
  refine Own.iadd hx (hb hby d1_3) rfl ?_
  refine Own.vI (2 : Int32) (by decide) ?_
  have hc1 : (2 : Int32) < (4 : Int32) := by decide
  refine Own.icmpF hx (Own.q_gt (4 : Int32) (2 : Int32)) (hb hby d1_4) (pcN := 7) rfl (by decide) (pcT := 13) rfl (fun _ => ?_) (fun q => absurd hc1 q)
  refine Own.iconst hx (0 : Int32) (hb hby d1_13) rfl (by decide) ?_
  exact Own.retS hx hret (by simp) hlk (hb hby d1_14) (by decide) (by decide) ⟨rfl, rfl⟩

def fX2_0_1 (y0 y1 p2 : Int32) : Int32 := (if y0 = p2 then (1 : Int32) else (0 : Int32))
theorem ef1_2_0_1 (m : MethodId) (o0 : Addr) (p2 : Int32) : entryFrame m #[(.ref o0), (.int (0 : Int32)), (.int p2), (.int (1 : Int32))] 5 = mkF m 0 #[.val (.ref o0), .val (.int (0 : Int32)), .val (.int p2), .val (.int (1 : Int32)), .unset] [] := by first | (simp [entryFrame, mkF, argsToLocals, Value.category]; done) | rfl
set_option maxRecDepth 65536 in
set_option maxHeartbeats 40000000 in
theorem rm1_2_0_1 (l : Launch) (Z : State) (a0 : Array Value) (hw : ∀ d ∈ tables_1, d.before a0 Z = true) (o0 : Addr) (p2 : Int32) (h0 : Heap) (n0 : Nat) (y0 y1 : Int32) (fr : List (Addr × (Cell → Prop))) (O0 : Own.Owns n0 h0 ((o0, Own.ArrC Z .char [(.int y0), (.int y1)]) :: fr)) (hy0 : nar .char y0 = y0) (hy1 : nar .char y1 = y1) (hc : nar .char p2 = p2) : Own.Does l (⟨"com/example/idxof/idxof/KnuthMorrisPrattPatternExtendPinLaw", "ends", "([CICI)Z"⟩ : MethodName) method_3_code 5 (some .boolean) [] ({ frames := 1, cells := 0, slots := 0, locals := 24 } : Room) Z #[(.ref o0), (.int (0 : Int32)), (.int p2), (.int (1 : Int32))] h0 n0 (fun v h => v = some (.int (fX2_0_1 y0 y1 p2)) ∧ h = h0) := by
  refine Own.doesOf pn4 ?_
  intro p e s m below meth c hx hby hml hret hlk hown hnm hZ
  refine Own.Goes.cast (ef1_2_0_1 m o0 p2) ?_
  refine Own.iloadN hx (1 : Int32) (hb hby d1_0) rfl rfl ?_
  refine Own.iloadN hx (0 : Int32) (hb hby d1_1) rfl rfl ?_
  refine Own.iconst hx (1 : Int32) (hb hby d1_2) rfl (by decide) ?_
  refine Own.iadd hx (hb hby d1_3) rfl ?_
  refine Own.vI (1 : Int32) (by decide) ?_
  have hc1 : ¬ ((1 : Int32) < (1 : Int32)) := by decide
  refine Own.icmpF hx (Own.q_gt (1 : Int32) (1 : Int32)) (hb hby d1_4) (pcN := 7) rfl (by decide) (pcT := 13) rfl (fun q => absurd q hc1) (fun _ => ?_)
  refine Own.iloadN hx (1 : Int32) (hb hby d1_7) rfl rfl ?_
  refine Own.aloadN hx (.ref o0) (hb hby d1_8) rfl rfl rfl ?_
  refine Own.arrlen hx hZ O0 0 rfl (2 : Int32) rfl (hb hby d1_9) rfl ?_
  have hc3 : ¬ ((2 : Int32) < (1 : Int32)) := by decide
  refine Own.icmpFn hx (Own.q_le (1 : Int32) (2 : Int32)) (hb hby d1_10) (pcN := 13) rfl (by decide) (pcT := 15) rfl (fun _ => ?_) (fun q => absurd q hc3)
  refine Own.iloadN hx (0 : Int32) (hb hby d1_15) rfl rfl ?_
  refine Own.iconst hx (1 : Int32) (hb hby d1_16) rfl (by decide) ?_
  refine Own.iadd hx (hb hby d1_17) rfl ?_
  refine Own.vI (1 : Int32) (by decide) ?_
  refine Own.iloadN hx (1 : Int32) (hb hby d1_18) rfl rfl ?_
  refine Own.isub hx (hb hby d1_19) rfl ?_
  refine Own.vI (0 : Int32) (by decide) ?_
  refine Own.istore hx (0 : Int32) rfl #[.val (.ref o0), .val (.int (0 : Int32)), .val (.int p2), .val (.int (1 : Int32)), .val (.int (0 : Int32))] (hb hby d1_20) rfl rfl ?_
  refine Own.iconst hx (0 : Int32) (hb hby d1_22) rfl (by decide) ?_
  refine Own.iloadN hx (1 : Int32) (hb hby d1_23) rfl rfl ?_
  have hc5 : (0 : Int32) < (1 : Int32) := by decide
  refine Own.icmpFn hx (Own.q_ge (0 : Int32) (1 : Int32)) (hb hby d1_24) (pcN := 27) rfl (by decide) (pcT := 41) rfl (fun q => absurd hc5 q) (fun _ => ?_)
  refine Own.aloadN hx (.ref o0) (hb hby d1_27) rfl rfl rfl ?_
  refine Own.iconst hx (0 : Int32) (hb hby d1_28) rfl (by decide) ?_
  refine Own.caload hx hZ O0 0 0 rfl (by decide) (v := (.int y0)) rfl (hb hby d1_29) rfl ?_
  refine Own.aloadN hx (.ref o0) (hb hby d1_30) rfl rfl rfl ?_
  refine Own.iloadN hx (0 : Int32) (hb hby d1_31) rfl rfl ?_
  refine Own.iloadN hx p2 (hb hby d1_32) rfl rfl ?_
  refine Own.iload hx (0 : Int32) (hb hby d1_33) rfl rfl ?_
  refine Own.callS hx hZ hown (hw _ (List.mem_of_getElem? (i := 5) rfl)) (hw _ (List.mem_of_getElem? (i := 6) rfl)) (hw _ (List.mem_of_getElem? (i := 3) rfl)) (hw _ (List.mem_of_getElem? (i := 7) rfl)) (by decide) pd1 (argsL := [(.ref o0), (.int (0 : Int32)), (.int p2), (.int (0 : Int32))]) (rest := [(.int y0)]) rfl (W := 1) (Nat.le_of_eq rfl) (rm := ({ frames := 0, cells := 0, slots := 0, locals := 0 } : Room)) (by decide) (by decide) (by decide) (by decide) (k' := 0) (n' := 0) rfl rfl (by rw [hml]; rfl) [(.int (0 : Int32)), (.int p2), (.int (0 : Int32)), (.ref o0), (.int y0)] rfl (hb hby d1_35) (pc' := 38) rfl (rm2_c l Z a0 hw o0 (0 : Int32) p2 (0 : Int32) h0 n0 (by decide) hc) ?_
  rintro _ h' ⟨rfl, eh⟩
  rw [eh]; clear eh h'
  show Own.Goes _ _ _ _ _ _ _ _ _ _ _ _ _ _ _ _ _ (mkF m 38 #[.val (.ref o0), .val (.int (0 : Int32)), .val (.int p2), .val (.int (1 : Int32)), .val (.int (0 : Int32))] [(.int p2), (.int y0)])
  refine Own.icmpFn hx (Own.q_ne y0 p2) (hb hby d1_38) (pcN := 41) rfl (by decide) (pcT := 108) rfl (fun hc7 => ?_) (fun hc7 => ?_)
  · refine Own.iconst hx (0 : Int32) (hb hby d1_108) rfl (by decide) ?_
    exact Own.retS hx hret (by simp) hlk (hb hby d1_109) (by decide) (by decide) ⟨by rw [show fX2_0_1 y0 y1 p2 = (0 : Int32) from by simp only [fX2_0_1, if_neg hc7]]; try rfl, rfl⟩
  · refine Own.iconst hx (1 : Int32) (hb hby d1_41) rfl (by decide) ?_
    refine Own.iloadN hx (1 : Int32) (hb hby d1_42) rfl rfl ?_
    have hc8 : ¬ ((1 : Int32) < (1 : Int32)) := by decide
    refine Own.icmpFn hx (Own.q_ge (1 : Int32) (1 : Int32)) (hb hby d1_43) (pcN := 46) rfl (by decide) (pcT := 62) rfl (fun _ => ?_) (fun q => absurd q hc8)
    refine Own.iconst hx (2 : Int32) (hb hby d1_62) rfl (by decide) ?_
    refine Own.iloadN hx (1 : Int32) (hb hby d1_63) rfl rfl ?_
    have hc10 : ¬ ((2 : Int32) < (1 : Int32)) := by decide
    refine Own.icmpFn hx (Own.q_ge (2 : Int32) (1 : Int32)) (hb hby d1_64) (pcN := 67) rfl (by decide) (pcT := 83) rfl (fun _ => ?_) (fun q => absurd q hc10)
    refine Own.iconst hx (3 : Int32) (hb hby d1_83) rfl (by decide) ?_
    refine Own.iloadN hx (1 : Int32) (hb hby d1_84) rfl rfl ?_
    have hc12 : ¬ ((3 : Int32) < (1 : Int32)) := by decide
    refine Own.icmpFn hx (Own.q_ge (3 : Int32) (1 : Int32)) (hb hby d1_85) (pcN := 88) rfl (by decide) (pcT := 104) rfl (fun _ => ?_) (fun q => absurd q hc12)
    refine Own.iconst hx (1 : Int32) (hb hby d1_104) rfl (by decide) ?_
    refine Own.goto hx (hb hby d1_105) (by decide) (pc' := 109) rfl ?_
    exact Own.retS hx hret (by simp) hlk (hb hby d1_109) (by decide) (by decide) ⟨by rw [show fX2_0_1 y0 y1 p2 = (1 : Int32) from by simp only [fX2_0_1, if_pos hc7]]; try rfl, rfl⟩

theorem ef1_2_0_2 (m : MethodId) (o0 : Addr) (p2 : Int32) : entryFrame m #[(.ref o0), (.int (0 : Int32)), (.int p2), (.int (2 : Int32))] 5 = mkF m 0 #[.val (.ref o0), .val (.int (0 : Int32)), .val (.int p2), .val (.int (2 : Int32)), .unset] [] := by first | (simp [entryFrame, mkF, argsToLocals, Value.category]; done) | rfl
set_option maxRecDepth 65536 in
set_option maxHeartbeats 40000000 in
theorem rm1_2_0_2 (l : Launch) (Z : State) (a0 : Array Value) (hw : ∀ d ∈ tables_1, d.before a0 Z = true) (o0 : Addr) (p2 : Int32) (h0 : Heap) (n0 : Nat) (y0 y1 : Int32) (fr : List (Addr × (Cell → Prop))) (O0 : Own.Owns n0 h0 ((o0, Own.ArrC Z .char [(.int y0), (.int y1)]) :: fr)) (hy0 : nar .char y0 = y0) (hy1 : nar .char y1 = y1) (hc : nar .char p2 = p2) : Own.Does l (⟨"com/example/idxof/idxof/KnuthMorrisPrattPatternExtendPinLaw", "ends", "([CICI)Z"⟩ : MethodName) method_3_code 5 (some .boolean) [] ({ frames := 1, cells := 0, slots := 0, locals := 24 } : Room) Z #[(.ref o0), (.int (0 : Int32)), (.int p2), (.int (2 : Int32))] h0 n0 (fun v h => v = some (.int (0 : Int32)) ∧ h = h0) := by
  refine Own.doesOf pn4 ?_
  intro p e s m below meth c hx hby hml hret hlk hown hnm hZ
  refine Own.Goes.cast (ef1_2_0_2 m o0 p2) ?_
  refine Own.iloadN hx (2 : Int32) (hb hby d1_0) rfl rfl ?_
  refine Own.iloadN hx (0 : Int32) (hb hby d1_1) rfl rfl ?_
  refine Own.iconst hx (1 : Int32) (hb hby d1_2) rfl (by decide) ?_
  refine Own.iadd hx (hb hby d1_3) rfl ?_
  refine Own.vI (1 : Int32) (by decide) ?_
  have hc1 : (1 : Int32) < (2 : Int32) := by decide
  refine Own.icmpF hx (Own.q_gt (2 : Int32) (1 : Int32)) (hb hby d1_4) (pcN := 7) rfl (by decide) (pcT := 13) rfl (fun _ => ?_) (fun q => absurd hc1 q)
  refine Own.iconst hx (0 : Int32) (hb hby d1_13) rfl (by decide) ?_
  exact Own.retS hx hret (by simp) hlk (hb hby d1_14) (by decide) (by decide) ⟨rfl, rfl⟩

theorem ef1_2_0_3 (m : MethodId) (o0 : Addr) (p2 : Int32) : entryFrame m #[(.ref o0), (.int (0 : Int32)), (.int p2), (.int (3 : Int32))] 5 = mkF m 0 #[.val (.ref o0), .val (.int (0 : Int32)), .val (.int p2), .val (.int (3 : Int32)), .unset] [] := by first | (simp [entryFrame, mkF, argsToLocals, Value.category]; done) | rfl
set_option maxRecDepth 65536 in
set_option maxHeartbeats 40000000 in
theorem rm1_2_0_3 (l : Launch) (Z : State) (a0 : Array Value) (hw : ∀ d ∈ tables_1, d.before a0 Z = true) (o0 : Addr) (p2 : Int32) (h0 : Heap) (n0 : Nat) (y0 y1 : Int32) (fr : List (Addr × (Cell → Prop))) (O0 : Own.Owns n0 h0 ((o0, Own.ArrC Z .char [(.int y0), (.int y1)]) :: fr)) (hy0 : nar .char y0 = y0) (hy1 : nar .char y1 = y1) (hc : nar .char p2 = p2) : Own.Does l (⟨"com/example/idxof/idxof/KnuthMorrisPrattPatternExtendPinLaw", "ends", "([CICI)Z"⟩ : MethodName) method_3_code 5 (some .boolean) [] ({ frames := 1, cells := 0, slots := 0, locals := 24 } : Room) Z #[(.ref o0), (.int (0 : Int32)), (.int p2), (.int (3 : Int32))] h0 n0 (fun v h => v = some (.int (0 : Int32)) ∧ h = h0) := by
  refine Own.doesOf pn4 ?_
  intro p e s m below meth c hx hby hml hret hlk hown hnm hZ
  refine Own.Goes.cast (ef1_2_0_3 m o0 p2) ?_
  refine Own.iloadN hx (3 : Int32) (hb hby d1_0) rfl rfl ?_
  refine Own.iloadN hx (0 : Int32) (hb hby d1_1) rfl rfl ?_
  refine Own.iconst hx (1 : Int32) (hb hby d1_2) rfl (by decide) ?_
  refine Own.iadd hx (hb hby d1_3) rfl ?_
  refine Own.vI (1 : Int32) (by decide) ?_
  have hc1 : (1 : Int32) < (3 : Int32) := by decide
  refine Own.icmpF hx (Own.q_gt (3 : Int32) (1 : Int32)) (hb hby d1_4) (pcN := 7) rfl (by decide) (pcT := 13) rfl (fun _ => ?_) (fun q => absurd hc1 q)
  refine Own.iconst hx (0 : Int32) (hb hby d1_13) rfl (by decide) ?_
  exact Own.retS hx hret (by simp) hlk (hb hby d1_14) (by decide) (by decide) ⟨rfl, rfl⟩

theorem ef1_2_0_4 (m : MethodId) (o0 : Addr) (p2 : Int32) : entryFrame m #[(.ref o0), (.int (0 : Int32)), (.int p2), (.int (4 : Int32))] 5 = mkF m 0 #[.val (.ref o0), .val (.int (0 : Int32)), .val (.int p2), .val (.int (4 : Int32)), .unset] [] := by first | (simp [entryFrame, mkF, argsToLocals, Value.category]; done) | rfl
set_option maxRecDepth 65536 in
set_option maxHeartbeats 40000000 in
theorem rm1_2_0_4 (l : Launch) (Z : State) (a0 : Array Value) (hw : ∀ d ∈ tables_1, d.before a0 Z = true) (o0 : Addr) (p2 : Int32) (h0 : Heap) (n0 : Nat) (y0 y1 : Int32) (fr : List (Addr × (Cell → Prop))) (O0 : Own.Owns n0 h0 ((o0, Own.ArrC Z .char [(.int y0), (.int y1)]) :: fr)) (hy0 : nar .char y0 = y0) (hy1 : nar .char y1 = y1) (hc : nar .char p2 = p2) : Own.Does l (⟨"com/example/idxof/idxof/KnuthMorrisPrattPatternExtendPinLaw", "ends", "([CICI)Z"⟩ : MethodName) method_3_code 5 (some .boolean) [] ({ frames := 1, cells := 0, slots := 0, locals := 24 } : Room) Z #[(.ref o0), (.int (0 : Int32)), (.int p2), (.int (4 : Int32))] h0 n0 (fun v h => v = some (.int (0 : Int32)) ∧ h = h0) := by
  refine Own.doesOf pn4 ?_
  intro p e s m below meth c hx hby hml hret hlk hown hnm hZ
  refine Own.Goes.cast (ef1_2_0_4 m o0 p2) ?_
  refine Own.iloadN hx (4 : Int32) (hb hby d1_0) rfl rfl ?_
  refine Own.iloadN hx (0 : Int32) (hb hby d1_1) rfl rfl ?_
  refine Own.iconst hx (1 : Int32) (hb hby d1_2) rfl (by decide) ?_
  refine Own.iadd hx (hb hby d1_3) rfl ?_
  refine Own.vI (1 : Int32) (by decide) ?_
  have hc1 : (1 : Int32) < (4 : Int32) := by decide
  refine Own.icmpF hx (Own.q_gt (4 : Int32) (1 : Int32)) (hb hby d1_4) (pcN := 7) rfl (by decide) (pcT := 13) rfl (fun _ => ?_) (fun q => absurd hc1 q)
  refine Own.iconst hx (0 : Int32) (hb hby d1_13) rfl (by decide) ?_
  exact Own.retS hx hret (by simp) hlk (hb hby d1_14) (by decide) (by decide) ⟨rfl, rfl⟩

def fX2_1_1 (y0 y1 p2 : Int32) : Int32 := (if y0 = p2 then (1 : Int32) else (0 : Int32))
theorem ef1_2_1_1 (m : MethodId) (o0 : Addr) (p2 : Int32) : entryFrame m #[(.ref o0), (.int (1 : Int32)), (.int p2), (.int (1 : Int32))] 5 = mkF m 0 #[.val (.ref o0), .val (.int (1 : Int32)), .val (.int p2), .val (.int (1 : Int32)), .unset] [] := by first | (simp [entryFrame, mkF, argsToLocals, Value.category]; done) | rfl
set_option maxRecDepth 65536 in
set_option maxHeartbeats 40000000 in
theorem rm1_2_1_1 (l : Launch) (Z : State) (a0 : Array Value) (hw : ∀ d ∈ tables_1, d.before a0 Z = true) (o0 : Addr) (p2 : Int32) (h0 : Heap) (n0 : Nat) (y0 y1 : Int32) (fr : List (Addr × (Cell → Prop))) (O0 : Own.Owns n0 h0 ((o0, Own.ArrC Z .char [(.int y0), (.int y1)]) :: fr)) (hy0 : nar .char y0 = y0) (hy1 : nar .char y1 = y1) (hc : nar .char p2 = p2) : Own.Does l (⟨"com/example/idxof/idxof/KnuthMorrisPrattPatternExtendPinLaw", "ends", "([CICI)Z"⟩ : MethodName) method_3_code 5 (some .boolean) [] ({ frames := 1, cells := 0, slots := 0, locals := 24 } : Room) Z #[(.ref o0), (.int (1 : Int32)), (.int p2), (.int (1 : Int32))] h0 n0 (fun v h => v = some (.int (fX2_1_1 y0 y1 p2)) ∧ h = h0) := by
  refine Own.doesOf pn4 ?_
  intro p e s m below meth c hx hby hml hret hlk hown hnm hZ
  refine Own.Goes.cast (ef1_2_1_1 m o0 p2) ?_
  refine Own.iloadN hx (1 : Int32) (hb hby d1_0) rfl rfl ?_
  refine Own.iloadN hx (1 : Int32) (hb hby d1_1) rfl rfl ?_
  refine Own.iconst hx (1 : Int32) (hb hby d1_2) rfl (by decide) ?_
  refine Own.iadd hx (hb hby d1_3) rfl ?_
  refine Own.vI (2 : Int32) (by decide) ?_
  have hc1 : ¬ ((2 : Int32) < (1 : Int32)) := by decide
  refine Own.icmpF hx (Own.q_gt (1 : Int32) (2 : Int32)) (hb hby d1_4) (pcN := 7) rfl (by decide) (pcT := 13) rfl (fun q => absurd q hc1) (fun _ => ?_)
  refine Own.iloadN hx (1 : Int32) (hb hby d1_7) rfl rfl ?_
  refine Own.aloadN hx (.ref o0) (hb hby d1_8) rfl rfl rfl ?_
  refine Own.arrlen hx hZ O0 0 rfl (2 : Int32) rfl (hb hby d1_9) rfl ?_
  have hc3 : ¬ ((2 : Int32) < (1 : Int32)) := by decide
  refine Own.icmpFn hx (Own.q_le (1 : Int32) (2 : Int32)) (hb hby d1_10) (pcN := 13) rfl (by decide) (pcT := 15) rfl (fun _ => ?_) (fun q => absurd q hc3)
  refine Own.iloadN hx (1 : Int32) (hb hby d1_15) rfl rfl ?_
  refine Own.iconst hx (1 : Int32) (hb hby d1_16) rfl (by decide) ?_
  refine Own.iadd hx (hb hby d1_17) rfl ?_
  refine Own.vI (2 : Int32) (by decide) ?_
  refine Own.iloadN hx (1 : Int32) (hb hby d1_18) rfl rfl ?_
  refine Own.isub hx (hb hby d1_19) rfl ?_
  refine Own.vI (1 : Int32) (by decide) ?_
  refine Own.istore hx (1 : Int32) rfl #[.val (.ref o0), .val (.int (1 : Int32)), .val (.int p2), .val (.int (1 : Int32)), .val (.int (1 : Int32))] (hb hby d1_20) rfl rfl ?_
  refine Own.iconst hx (0 : Int32) (hb hby d1_22) rfl (by decide) ?_
  refine Own.iloadN hx (1 : Int32) (hb hby d1_23) rfl rfl ?_
  have hc5 : (0 : Int32) < (1 : Int32) := by decide
  refine Own.icmpFn hx (Own.q_ge (0 : Int32) (1 : Int32)) (hb hby d1_24) (pcN := 27) rfl (by decide) (pcT := 41) rfl (fun q => absurd hc5 q) (fun _ => ?_)
  refine Own.aloadN hx (.ref o0) (hb hby d1_27) rfl rfl rfl ?_
  refine Own.iconst hx (0 : Int32) (hb hby d1_28) rfl (by decide) ?_
  refine Own.caload hx hZ O0 0 0 rfl (by decide) (v := (.int y0)) rfl (hb hby d1_29) rfl ?_
  refine Own.aloadN hx (.ref o0) (hb hby d1_30) rfl rfl rfl ?_
  refine Own.iloadN hx (1 : Int32) (hb hby d1_31) rfl rfl ?_
  refine Own.iloadN hx p2 (hb hby d1_32) rfl rfl ?_
  refine Own.iload hx (1 : Int32) (hb hby d1_33) rfl rfl ?_
  refine Own.callS hx hZ hown (hw _ (List.mem_of_getElem? (i := 5) rfl)) (hw _ (List.mem_of_getElem? (i := 6) rfl)) (hw _ (List.mem_of_getElem? (i := 3) rfl)) (hw _ (List.mem_of_getElem? (i := 7) rfl)) (by decide) pd1 (argsL := [(.ref o0), (.int (1 : Int32)), (.int p2), (.int (1 : Int32))]) (rest := [(.int y0)]) rfl (W := 1) (Nat.le_of_eq rfl) (rm := ({ frames := 0, cells := 0, slots := 0, locals := 0 } : Room)) (by decide) (by decide) (by decide) (by decide) (k' := 0) (n' := 0) rfl rfl (by rw [hml]; rfl) [(.int (1 : Int32)), (.int p2), (.int (1 : Int32)), (.ref o0), (.int y0)] rfl (hb hby d1_35) (pc' := 38) rfl (rm2_c l Z a0 hw o0 (1 : Int32) p2 (1 : Int32) h0 n0 (by decide) hc) ?_
  rintro _ h' ⟨rfl, eh⟩
  rw [eh]; clear eh h'
  show Own.Goes _ _ _ _ _ _ _ _ _ _ _ _ _ _ _ _ _ (mkF m 38 #[.val (.ref o0), .val (.int (1 : Int32)), .val (.int p2), .val (.int (1 : Int32)), .val (.int (1 : Int32))] [(.int p2), (.int y0)])
  refine Own.icmpFn hx (Own.q_ne y0 p2) (hb hby d1_38) (pcN := 41) rfl (by decide) (pcT := 108) rfl (fun hc7 => ?_) (fun hc7 => ?_)
  · refine Own.iconst hx (0 : Int32) (hb hby d1_108) rfl (by decide) ?_
    exact Own.retS hx hret (by simp) hlk (hb hby d1_109) (by decide) (by decide) ⟨by rw [show fX2_1_1 y0 y1 p2 = (0 : Int32) from by simp only [fX2_1_1, if_neg hc7]]; try rfl, rfl⟩
  · refine Own.iconst hx (1 : Int32) (hb hby d1_41) rfl (by decide) ?_
    refine Own.iloadN hx (1 : Int32) (hb hby d1_42) rfl rfl ?_
    have hc8 : ¬ ((1 : Int32) < (1 : Int32)) := by decide
    refine Own.icmpFn hx (Own.q_ge (1 : Int32) (1 : Int32)) (hb hby d1_43) (pcN := 46) rfl (by decide) (pcT := 62) rfl (fun _ => ?_) (fun q => absurd q hc8)
    refine Own.iconst hx (2 : Int32) (hb hby d1_62) rfl (by decide) ?_
    refine Own.iloadN hx (1 : Int32) (hb hby d1_63) rfl rfl ?_
    have hc10 : ¬ ((2 : Int32) < (1 : Int32)) := by decide
    refine Own.icmpFn hx (Own.q_ge (2 : Int32) (1 : Int32)) (hb hby d1_64) (pcN := 67) rfl (by decide) (pcT := 83) rfl (fun _ => ?_) (fun q => absurd q hc10)
    refine Own.iconst hx (3 : Int32) (hb hby d1_83) rfl (by decide) ?_
    refine Own.iloadN hx (1 : Int32) (hb hby d1_84) rfl rfl ?_
    have hc12 : ¬ ((3 : Int32) < (1 : Int32)) := by decide
    refine Own.icmpFn hx (Own.q_ge (3 : Int32) (1 : Int32)) (hb hby d1_85) (pcN := 88) rfl (by decide) (pcT := 104) rfl (fun _ => ?_) (fun q => absurd q hc12)
    refine Own.iconst hx (1 : Int32) (hb hby d1_104) rfl (by decide) ?_
    refine Own.goto hx (hb hby d1_105) (by decide) (pc' := 109) rfl ?_
    exact Own.retS hx hret (by simp) hlk (hb hby d1_109) (by decide) (by decide) ⟨by rw [show fX2_1_1 y0 y1 p2 = (1 : Int32) from by simp only [fX2_1_1, if_pos hc7]]; try rfl, rfl⟩

def fX2_1_2 (y0 y1 p2 : Int32) : Int32 := (if y1 = p2 then (1 : Int32) else (0 : Int32))
theorem d1_46 : decode method_3_code 46 = .ok (.aload_n 0, 1) := by decide +kernel
theorem d1_47 : decode method_3_code 47 = .ok (.iconst 1, 1) := by decide +kernel
theorem d1_48 : decode method_3_code 48 = .ok (.caload, 1) := by decide +kernel
theorem d1_49 : decode method_3_code 49 = .ok (.aload_n 0, 1) := by decide +kernel
theorem d1_50 : decode method_3_code 50 = .ok (.iload_n 1, 1) := by decide +kernel
theorem d1_51 : decode method_3_code 51 = .ok (.iload_n 2, 1) := by decide +kernel
theorem d1_52 : decode method_3_code 52 = .ok (.iload 4, 2) := by decide +kernel
theorem d1_54 : decode method_3_code 54 = .ok (.iconst 1, 1) := by decide +kernel
theorem d1_55 : decode method_3_code 55 = .ok (.iadd, 1) := by decide +kernel
theorem d1_56 : decode method_3_code 56 = .ok (.invokestatic 7, 3) := by decide +kernel
theorem d1_59 : decode method_3_code 59 = .ok (.if_icmp .ne 49, 3) := by decide +kernel
theorem ef1_2_1_2 (m : MethodId) (o0 : Addr) (p2 : Int32) : entryFrame m #[(.ref o0), (.int (1 : Int32)), (.int p2), (.int (2 : Int32))] 5 = mkF m 0 #[.val (.ref o0), .val (.int (1 : Int32)), .val (.int p2), .val (.int (2 : Int32)), .unset] [] := by first | (simp [entryFrame, mkF, argsToLocals, Value.category]; done) | rfl
set_option maxRecDepth 65536 in
set_option maxHeartbeats 40000000 in
theorem rm1_2_1_2 (l : Launch) (Z : State) (a0 : Array Value) (hw : ∀ d ∈ tables_1, d.before a0 Z = true) (o0 : Addr) (p2 : Int32) (h0 : Heap) (n0 : Nat) (y0 y1 : Int32) (fr : List (Addr × (Cell → Prop))) (O0 : Own.Owns n0 h0 ((o0, Own.ArrC Z .char [(.int y0), (.int y1)]) :: fr)) (hy0 : nar .char y0 = y0) (hy1 : nar .char y1 = y1) (hc : nar .char p2 = p2) : Own.Does l (⟨"com/example/idxof/idxof/KnuthMorrisPrattPatternExtendPinLaw", "ends", "([CICI)Z"⟩ : MethodName) method_3_code 5 (some .boolean) [] ({ frames := 1, cells := 0, slots := 0, locals := 24 } : Room) Z #[(.ref o0), (.int (1 : Int32)), (.int p2), (.int (2 : Int32))] h0 n0 (fun v h => v = some (.int (fX2_1_2 y0 y1 p2)) ∧ h = h0) := by
  refine Own.doesOf pn4 ?_
  intro p e s m below meth c hx hby hml hret hlk hown hnm hZ
  refine Own.Goes.cast (ef1_2_1_2 m o0 p2) ?_
  refine Own.iloadN hx (2 : Int32) (hb hby d1_0) rfl rfl ?_
  refine Own.iloadN hx (1 : Int32) (hb hby d1_1) rfl rfl ?_
  refine Own.iconst hx (1 : Int32) (hb hby d1_2) rfl (by decide) ?_
  refine Own.iadd hx (hb hby d1_3) rfl ?_
  refine Own.vI (2 : Int32) (by decide) ?_
  have hc1 : ¬ ((2 : Int32) < (2 : Int32)) := by decide
  refine Own.icmpF hx (Own.q_gt (2 : Int32) (2 : Int32)) (hb hby d1_4) (pcN := 7) rfl (by decide) (pcT := 13) rfl (fun q => absurd q hc1) (fun _ => ?_)
  refine Own.iloadN hx (2 : Int32) (hb hby d1_7) rfl rfl ?_
  refine Own.aloadN hx (.ref o0) (hb hby d1_8) rfl rfl rfl ?_
  refine Own.arrlen hx hZ O0 0 rfl (2 : Int32) rfl (hb hby d1_9) rfl ?_
  have hc3 : ¬ ((2 : Int32) < (2 : Int32)) := by decide
  refine Own.icmpFn hx (Own.q_le (2 : Int32) (2 : Int32)) (hb hby d1_10) (pcN := 13) rfl (by decide) (pcT := 15) rfl (fun _ => ?_) (fun q => absurd q hc3)
  refine Own.iloadN hx (1 : Int32) (hb hby d1_15) rfl rfl ?_
  refine Own.iconst hx (1 : Int32) (hb hby d1_16) rfl (by decide) ?_
  refine Own.iadd hx (hb hby d1_17) rfl ?_
  refine Own.vI (2 : Int32) (by decide) ?_
  refine Own.iloadN hx (2 : Int32) (hb hby d1_18) rfl rfl ?_
  refine Own.isub hx (hb hby d1_19) rfl ?_
  refine Own.vI (0 : Int32) (by decide) ?_
  refine Own.istore hx (0 : Int32) rfl #[.val (.ref o0), .val (.int (1 : Int32)), .val (.int p2), .val (.int (2 : Int32)), .val (.int (0 : Int32))] (hb hby d1_20) rfl rfl ?_
  refine Own.iconst hx (0 : Int32) (hb hby d1_22) rfl (by decide) ?_
  refine Own.iloadN hx (2 : Int32) (hb hby d1_23) rfl rfl ?_
  have hc5 : (0 : Int32) < (2 : Int32) := by decide
  refine Own.icmpFn hx (Own.q_ge (0 : Int32) (2 : Int32)) (hb hby d1_24) (pcN := 27) rfl (by decide) (pcT := 41) rfl (fun q => absurd hc5 q) (fun _ => ?_)
  refine Own.aloadN hx (.ref o0) (hb hby d1_27) rfl rfl rfl ?_
  refine Own.iconst hx (0 : Int32) (hb hby d1_28) rfl (by decide) ?_
  refine Own.caload hx hZ O0 0 0 rfl (by decide) (v := (.int y0)) rfl (hb hby d1_29) rfl ?_
  refine Own.aloadN hx (.ref o0) (hb hby d1_30) rfl rfl rfl ?_
  refine Own.iloadN hx (1 : Int32) (hb hby d1_31) rfl rfl ?_
  refine Own.iloadN hx p2 (hb hby d1_32) rfl rfl ?_
  refine Own.iload hx (0 : Int32) (hb hby d1_33) rfl rfl ?_
  refine Own.callS hx hZ hown (hw _ (List.mem_of_getElem? (i := 5) rfl)) (hw _ (List.mem_of_getElem? (i := 6) rfl)) (hw _ (List.mem_of_getElem? (i := 3) rfl)) (hw _ (List.mem_of_getElem? (i := 7) rfl)) (by decide) pd1 (argsL := [(.ref o0), (.int (1 : Int32)), (.int p2), (.int (0 : Int32))]) (rest := [(.int y0)]) rfl (W := 1) (Nat.le_of_eq rfl) (rm := ({ frames := 0, cells := 0, slots := 0, locals := 0 } : Room)) (by decide) (by decide) (by decide) (by decide) (k' := 0) (n' := 0) rfl rfl (by rw [hml]; rfl) [(.int (0 : Int32)), (.int p2), (.int (1 : Int32)), (.ref o0), (.int y0)] rfl (hb hby d1_35) (pc' := 38) rfl (rm2_2_0 l Z a0 hw o0 (1 : Int32) p2 h0 n0 y0 y1 fr O0 (by decide) hy0) ?_
  rintro _ h' ⟨rfl, eh⟩
  rw [eh]; clear eh h'
  show Own.Goes _ _ _ _ _ _ _ _ _ _ _ _ _ _ _ _ _ (mkF m 38 #[.val (.ref o0), .val (.int (1 : Int32)), .val (.int p2), .val (.int (2 : Int32)), .val (.int (0 : Int32))] [(.int y0), (.int y0)])
  have hc7 : y0 = y0 := rfl
  refine Own.icmpFn hx (Own.q_ne y0 y0) (hb hby d1_38) (pcN := 41) rfl (by decide) (pcT := 108) rfl (fun q => absurd hc7 q) (fun _ => ?_)
  refine Own.iconst hx (1 : Int32) (hb hby d1_41) rfl (by decide) ?_
  refine Own.iloadN hx (2 : Int32) (hb hby d1_42) rfl rfl ?_
  have hc9 : (1 : Int32) < (2 : Int32) := by decide
  refine Own.icmpFn hx (Own.q_ge (1 : Int32) (2 : Int32)) (hb hby d1_43) (pcN := 46) rfl (by decide) (pcT := 62) rfl (fun q => absurd hc9 q) (fun _ => ?_)
  refine Own.aloadN hx (.ref o0) (hb hby d1_46) rfl rfl rfl ?_
  refine Own.iconst hx (1 : Int32) (hb hby d1_47) rfl (by decide) ?_
  refine Own.caload hx hZ O0 0 1 rfl (by decide) (v := (.int y1)) rfl (hb hby d1_48) rfl ?_
  refine Own.aloadN hx (.ref o0) (hb hby d1_49) rfl rfl rfl ?_
  refine Own.iloadN hx (1 : Int32) (hb hby d1_50) rfl rfl ?_
  refine Own.iloadN hx p2 (hb hby d1_51) rfl rfl ?_
  refine Own.iload hx (0 : Int32) (hb hby d1_52) rfl rfl ?_
  refine Own.iconst hx (1 : Int32) (hb hby d1_54) rfl (by decide) ?_
  refine Own.iadd hx (hb hby d1_55) rfl ?_
  refine Own.vI (1 : Int32) (by decide) ?_
  refine Own.callS hx hZ hown (hw _ (List.mem_of_getElem? (i := 5) rfl)) (hw _ (List.mem_of_getElem? (i := 6) rfl)) (hw _ (List.mem_of_getElem? (i := 3) rfl)) (hw _ (List.mem_of_getElem? (i := 7) rfl)) (by decide) pd1 (argsL := [(.ref o0), (.int (1 : Int32)), (.int p2), (.int (1 : Int32))]) (rest := [(.int y1)]) rfl (W := 1) (Nat.le_of_eq rfl) (rm := ({ frames := 0, cells := 0, slots := 0, locals := 0 } : Room)) (by decide) (by decide) (by decide) (by decide) (k' := 0) (n' := 0) rfl rfl (by rw [hml]; rfl) [(.int (1 : Int32)), (.int p2), (.int (1 : Int32)), (.ref o0), (.int y1)] rfl (hb hby d1_56) (pc' := 59) rfl (rm2_c l Z a0 hw o0 (1 : Int32) p2 (1 : Int32) h0 n0 (by decide) hc) ?_
  rintro _ h' ⟨rfl, eh⟩
  rw [eh]; clear eh h'
  show Own.Goes _ _ _ _ _ _ _ _ _ _ _ _ _ _ _ _ _ (mkF m 59 #[.val (.ref o0), .val (.int (1 : Int32)), .val (.int p2), .val (.int (2 : Int32)), .val (.int (0 : Int32))] [(.int p2), (.int y1)])
  refine Own.icmpFn hx (Own.q_ne y1 p2) (hb hby d1_59) (pcN := 62) rfl (by decide) (pcT := 108) rfl (fun hc11 => ?_) (fun hc11 => ?_)
  · refine Own.iconst hx (0 : Int32) (hb hby d1_108) rfl (by decide) ?_
    exact Own.retS hx hret (by simp) hlk (hb hby d1_109) (by decide) (by decide) ⟨by rw [show fX2_1_2 y0 y1 p2 = (0 : Int32) from by simp only [fX2_1_2, if_neg hc11]]; try rfl, rfl⟩
  · refine Own.iconst hx (2 : Int32) (hb hby d1_62) rfl (by decide) ?_
    refine Own.iloadN hx (2 : Int32) (hb hby d1_63) rfl rfl ?_
    have hc12 : ¬ ((2 : Int32) < (2 : Int32)) := by decide
    refine Own.icmpFn hx (Own.q_ge (2 : Int32) (2 : Int32)) (hb hby d1_64) (pcN := 67) rfl (by decide) (pcT := 83) rfl (fun _ => ?_) (fun q => absurd q hc12)
    refine Own.iconst hx (3 : Int32) (hb hby d1_83) rfl (by decide) ?_
    refine Own.iloadN hx (2 : Int32) (hb hby d1_84) rfl rfl ?_
    have hc14 : ¬ ((3 : Int32) < (2 : Int32)) := by decide
    refine Own.icmpFn hx (Own.q_ge (3 : Int32) (2 : Int32)) (hb hby d1_85) (pcN := 88) rfl (by decide) (pcT := 104) rfl (fun _ => ?_) (fun q => absurd q hc14)
    refine Own.iconst hx (1 : Int32) (hb hby d1_104) rfl (by decide) ?_
    refine Own.goto hx (hb hby d1_105) (by decide) (pc' := 109) rfl ?_
    exact Own.retS hx hret (by simp) hlk (hb hby d1_109) (by decide) (by decide) ⟨by rw [show fX2_1_2 y0 y1 p2 = (1 : Int32) from by simp only [fX2_1_2, if_pos hc11]]; try rfl, rfl⟩

theorem ef1_2_1_3 (m : MethodId) (o0 : Addr) (p2 : Int32) : entryFrame m #[(.ref o0), (.int (1 : Int32)), (.int p2), (.int (3 : Int32))] 5 = mkF m 0 #[.val (.ref o0), .val (.int (1 : Int32)), .val (.int p2), .val (.int (3 : Int32)), .unset] [] := by first | (simp [entryFrame, mkF, argsToLocals, Value.category]; done) | rfl
set_option maxRecDepth 65536 in
set_option maxHeartbeats 40000000 in
theorem rm1_2_1_3 (l : Launch) (Z : State) (a0 : Array Value) (hw : ∀ d ∈ tables_1, d.before a0 Z = true) (o0 : Addr) (p2 : Int32) (h0 : Heap) (n0 : Nat) (y0 y1 : Int32) (fr : List (Addr × (Cell → Prop))) (O0 : Own.Owns n0 h0 ((o0, Own.ArrC Z .char [(.int y0), (.int y1)]) :: fr)) (hy0 : nar .char y0 = y0) (hy1 : nar .char y1 = y1) (hc : nar .char p2 = p2) : Own.Does l (⟨"com/example/idxof/idxof/KnuthMorrisPrattPatternExtendPinLaw", "ends", "([CICI)Z"⟩ : MethodName) method_3_code 5 (some .boolean) [] ({ frames := 1, cells := 0, slots := 0, locals := 24 } : Room) Z #[(.ref o0), (.int (1 : Int32)), (.int p2), (.int (3 : Int32))] h0 n0 (fun v h => v = some (.int (0 : Int32)) ∧ h = h0) := by
  refine Own.doesOf pn4 ?_
  intro p e s m below meth c hx hby hml hret hlk hown hnm hZ
  refine Own.Goes.cast (ef1_2_1_3 m o0 p2) ?_
  refine Own.iloadN hx (3 : Int32) (hb hby d1_0) rfl rfl ?_
  refine Own.iloadN hx (1 : Int32) (hb hby d1_1) rfl rfl ?_
  refine Own.iconst hx (1 : Int32) (hb hby d1_2) rfl (by decide) ?_
  refine Own.iadd hx (hb hby d1_3) rfl ?_
  refine Own.vI (2 : Int32) (by decide) ?_
  have hc1 : (2 : Int32) < (3 : Int32) := by decide
  refine Own.icmpF hx (Own.q_gt (3 : Int32) (2 : Int32)) (hb hby d1_4) (pcN := 7) rfl (by decide) (pcT := 13) rfl (fun _ => ?_) (fun q => absurd hc1 q)
  refine Own.iconst hx (0 : Int32) (hb hby d1_13) rfl (by decide) ?_
  exact Own.retS hx hret (by simp) hlk (hb hby d1_14) (by decide) (by decide) ⟨rfl, rfl⟩

theorem ef1_2_1_4 (m : MethodId) (o0 : Addr) (p2 : Int32) : entryFrame m #[(.ref o0), (.int (1 : Int32)), (.int p2), (.int (4 : Int32))] 5 = mkF m 0 #[.val (.ref o0), .val (.int (1 : Int32)), .val (.int p2), .val (.int (4 : Int32)), .unset] [] := by first | (simp [entryFrame, mkF, argsToLocals, Value.category]; done) | rfl
set_option maxRecDepth 65536 in
set_option maxHeartbeats 40000000 in
theorem rm1_2_1_4 (l : Launch) (Z : State) (a0 : Array Value) (hw : ∀ d ∈ tables_1, d.before a0 Z = true) (o0 : Addr) (p2 : Int32) (h0 : Heap) (n0 : Nat) (y0 y1 : Int32) (fr : List (Addr × (Cell → Prop))) (O0 : Own.Owns n0 h0 ((o0, Own.ArrC Z .char [(.int y0), (.int y1)]) :: fr)) (hy0 : nar .char y0 = y0) (hy1 : nar .char y1 = y1) (hc : nar .char p2 = p2) : Own.Does l (⟨"com/example/idxof/idxof/KnuthMorrisPrattPatternExtendPinLaw", "ends", "([CICI)Z"⟩ : MethodName) method_3_code 5 (some .boolean) [] ({ frames := 1, cells := 0, slots := 0, locals := 24 } : Room) Z #[(.ref o0), (.int (1 : Int32)), (.int p2), (.int (4 : Int32))] h0 n0 (fun v h => v = some (.int (0 : Int32)) ∧ h = h0) := by
  refine Own.doesOf pn4 ?_
  intro p e s m below meth c hx hby hml hret hlk hown hnm hZ
  refine Own.Goes.cast (ef1_2_1_4 m o0 p2) ?_
  refine Own.iloadN hx (4 : Int32) (hb hby d1_0) rfl rfl ?_
  refine Own.iloadN hx (1 : Int32) (hb hby d1_1) rfl rfl ?_
  refine Own.iconst hx (1 : Int32) (hb hby d1_2) rfl (by decide) ?_
  refine Own.iadd hx (hb hby d1_3) rfl ?_
  refine Own.vI (2 : Int32) (by decide) ?_
  have hc1 : (2 : Int32) < (4 : Int32) := by decide
  refine Own.icmpF hx (Own.q_gt (4 : Int32) (2 : Int32)) (hb hby d1_4) (pcN := 7) rfl (by decide) (pcT := 13) rfl (fun _ => ?_) (fun q => absurd hc1 q)
  refine Own.iconst hx (0 : Int32) (hb hby d1_13) rfl (by decide) ?_
  exact Own.retS hx hret (by simp) hlk (hb hby d1_14) (by decide) (by decide) ⟨rfl, rfl⟩

def fX2_2_1 (y0 y1 p2 : Int32) : Int32 := (if y0 = p2 then (1 : Int32) else (0 : Int32))
theorem ef1_2_2_1 (m : MethodId) (o0 : Addr) (p2 : Int32) : entryFrame m #[(.ref o0), (.int (2 : Int32)), (.int p2), (.int (1 : Int32))] 5 = mkF m 0 #[.val (.ref o0), .val (.int (2 : Int32)), .val (.int p2), .val (.int (1 : Int32)), .unset] [] := by first | (simp [entryFrame, mkF, argsToLocals, Value.category]; done) | rfl
set_option maxRecDepth 65536 in
set_option maxHeartbeats 40000000 in
theorem rm1_2_2_1 (l : Launch) (Z : State) (a0 : Array Value) (hw : ∀ d ∈ tables_1, d.before a0 Z = true) (o0 : Addr) (p2 : Int32) (h0 : Heap) (n0 : Nat) (y0 y1 : Int32) (fr : List (Addr × (Cell → Prop))) (O0 : Own.Owns n0 h0 ((o0, Own.ArrC Z .char [(.int y0), (.int y1)]) :: fr)) (hy0 : nar .char y0 = y0) (hy1 : nar .char y1 = y1) (hc : nar .char p2 = p2) : Own.Does l (⟨"com/example/idxof/idxof/KnuthMorrisPrattPatternExtendPinLaw", "ends", "([CICI)Z"⟩ : MethodName) method_3_code 5 (some .boolean) [] ({ frames := 1, cells := 0, slots := 0, locals := 24 } : Room) Z #[(.ref o0), (.int (2 : Int32)), (.int p2), (.int (1 : Int32))] h0 n0 (fun v h => v = some (.int (fX2_2_1 y0 y1 p2)) ∧ h = h0) := by
  refine Own.doesOf pn4 ?_
  intro p e s m below meth c hx hby hml hret hlk hown hnm hZ
  refine Own.Goes.cast (ef1_2_2_1 m o0 p2) ?_
  refine Own.iloadN hx (1 : Int32) (hb hby d1_0) rfl rfl ?_
  refine Own.iloadN hx (2 : Int32) (hb hby d1_1) rfl rfl ?_
  refine Own.iconst hx (1 : Int32) (hb hby d1_2) rfl (by decide) ?_
  refine Own.iadd hx (hb hby d1_3) rfl ?_
  refine Own.vI (3 : Int32) (by decide) ?_
  have hc1 : ¬ ((3 : Int32) < (1 : Int32)) := by decide
  refine Own.icmpF hx (Own.q_gt (1 : Int32) (3 : Int32)) (hb hby d1_4) (pcN := 7) rfl (by decide) (pcT := 13) rfl (fun q => absurd q hc1) (fun _ => ?_)
  refine Own.iloadN hx (1 : Int32) (hb hby d1_7) rfl rfl ?_
  refine Own.aloadN hx (.ref o0) (hb hby d1_8) rfl rfl rfl ?_
  refine Own.arrlen hx hZ O0 0 rfl (2 : Int32) rfl (hb hby d1_9) rfl ?_
  have hc3 : ¬ ((2 : Int32) < (1 : Int32)) := by decide
  refine Own.icmpFn hx (Own.q_le (1 : Int32) (2 : Int32)) (hb hby d1_10) (pcN := 13) rfl (by decide) (pcT := 15) rfl (fun _ => ?_) (fun q => absurd q hc3)
  refine Own.iloadN hx (2 : Int32) (hb hby d1_15) rfl rfl ?_
  refine Own.iconst hx (1 : Int32) (hb hby d1_16) rfl (by decide) ?_
  refine Own.iadd hx (hb hby d1_17) rfl ?_
  refine Own.vI (3 : Int32) (by decide) ?_
  refine Own.iloadN hx (1 : Int32) (hb hby d1_18) rfl rfl ?_
  refine Own.isub hx (hb hby d1_19) rfl ?_
  refine Own.vI (2 : Int32) (by decide) ?_
  refine Own.istore hx (2 : Int32) rfl #[.val (.ref o0), .val (.int (2 : Int32)), .val (.int p2), .val (.int (1 : Int32)), .val (.int (2 : Int32))] (hb hby d1_20) rfl rfl ?_
  refine Own.iconst hx (0 : Int32) (hb hby d1_22) rfl (by decide) ?_
  refine Own.iloadN hx (1 : Int32) (hb hby d1_23) rfl rfl ?_
  have hc5 : (0 : Int32) < (1 : Int32) := by decide
  refine Own.icmpFn hx (Own.q_ge (0 : Int32) (1 : Int32)) (hb hby d1_24) (pcN := 27) rfl (by decide) (pcT := 41) rfl (fun q => absurd hc5 q) (fun _ => ?_)
  refine Own.aloadN hx (.ref o0) (hb hby d1_27) rfl rfl rfl ?_
  refine Own.iconst hx (0 : Int32) (hb hby d1_28) rfl (by decide) ?_
  refine Own.caload hx hZ O0 0 0 rfl (by decide) (v := (.int y0)) rfl (hb hby d1_29) rfl ?_
  refine Own.aloadN hx (.ref o0) (hb hby d1_30) rfl rfl rfl ?_
  refine Own.iloadN hx (2 : Int32) (hb hby d1_31) rfl rfl ?_
  refine Own.iloadN hx p2 (hb hby d1_32) rfl rfl ?_
  refine Own.iload hx (2 : Int32) (hb hby d1_33) rfl rfl ?_
  refine Own.callS hx hZ hown (hw _ (List.mem_of_getElem? (i := 5) rfl)) (hw _ (List.mem_of_getElem? (i := 6) rfl)) (hw _ (List.mem_of_getElem? (i := 3) rfl)) (hw _ (List.mem_of_getElem? (i := 7) rfl)) (by decide) pd1 (argsL := [(.ref o0), (.int (2 : Int32)), (.int p2), (.int (2 : Int32))]) (rest := [(.int y0)]) rfl (W := 1) (Nat.le_of_eq rfl) (rm := ({ frames := 0, cells := 0, slots := 0, locals := 0 } : Room)) (by decide) (by decide) (by decide) (by decide) (k' := 0) (n' := 0) rfl rfl (by rw [hml]; rfl) [(.int (2 : Int32)), (.int p2), (.int (2 : Int32)), (.ref o0), (.int y0)] rfl (hb hby d1_35) (pc' := 38) rfl (rm2_c l Z a0 hw o0 (2 : Int32) p2 (2 : Int32) h0 n0 (by decide) hc) ?_
  rintro _ h' ⟨rfl, eh⟩
  rw [eh]; clear eh h'
  show Own.Goes _ _ _ _ _ _ _ _ _ _ _ _ _ _ _ _ _ (mkF m 38 #[.val (.ref o0), .val (.int (2 : Int32)), .val (.int p2), .val (.int (1 : Int32)), .val (.int (2 : Int32))] [(.int p2), (.int y0)])
  refine Own.icmpFn hx (Own.q_ne y0 p2) (hb hby d1_38) (pcN := 41) rfl (by decide) (pcT := 108) rfl (fun hc7 => ?_) (fun hc7 => ?_)
  · refine Own.iconst hx (0 : Int32) (hb hby d1_108) rfl (by decide) ?_
    exact Own.retS hx hret (by simp) hlk (hb hby d1_109) (by decide) (by decide) ⟨by rw [show fX2_2_1 y0 y1 p2 = (0 : Int32) from by simp only [fX2_2_1, if_neg hc7]]; try rfl, rfl⟩
  · refine Own.iconst hx (1 : Int32) (hb hby d1_41) rfl (by decide) ?_
    refine Own.iloadN hx (1 : Int32) (hb hby d1_42) rfl rfl ?_
    have hc8 : ¬ ((1 : Int32) < (1 : Int32)) := by decide
    refine Own.icmpFn hx (Own.q_ge (1 : Int32) (1 : Int32)) (hb hby d1_43) (pcN := 46) rfl (by decide) (pcT := 62) rfl (fun _ => ?_) (fun q => absurd q hc8)
    refine Own.iconst hx (2 : Int32) (hb hby d1_62) rfl (by decide) ?_
    refine Own.iloadN hx (1 : Int32) (hb hby d1_63) rfl rfl ?_
    have hc10 : ¬ ((2 : Int32) < (1 : Int32)) := by decide
    refine Own.icmpFn hx (Own.q_ge (2 : Int32) (1 : Int32)) (hb hby d1_64) (pcN := 67) rfl (by decide) (pcT := 83) rfl (fun _ => ?_) (fun q => absurd q hc10)
    refine Own.iconst hx (3 : Int32) (hb hby d1_83) rfl (by decide) ?_
    refine Own.iloadN hx (1 : Int32) (hb hby d1_84) rfl rfl ?_
    have hc12 : ¬ ((3 : Int32) < (1 : Int32)) := by decide
    refine Own.icmpFn hx (Own.q_ge (3 : Int32) (1 : Int32)) (hb hby d1_85) (pcN := 88) rfl (by decide) (pcT := 104) rfl (fun _ => ?_) (fun q => absurd q hc12)
    refine Own.iconst hx (1 : Int32) (hb hby d1_104) rfl (by decide) ?_
    refine Own.goto hx (hb hby d1_105) (by decide) (pc' := 109) rfl ?_
    exact Own.retS hx hret (by simp) hlk (hb hby d1_109) (by decide) (by decide) ⟨by rw [show fX2_2_1 y0 y1 p2 = (1 : Int32) from by simp only [fX2_2_1, if_pos hc7]]; try rfl, rfl⟩

def fX2_2_2 (y0 y1 p2 : Int32) : Int32 := (if y0 = y1 then (if y1 = p2 then (1 : Int32) else (0 : Int32)) else (0 : Int32))
theorem ef1_2_2_2 (m : MethodId) (o0 : Addr) (p2 : Int32) : entryFrame m #[(.ref o0), (.int (2 : Int32)), (.int p2), (.int (2 : Int32))] 5 = mkF m 0 #[.val (.ref o0), .val (.int (2 : Int32)), .val (.int p2), .val (.int (2 : Int32)), .unset] [] := by first | (simp [entryFrame, mkF, argsToLocals, Value.category]; done) | rfl
set_option maxRecDepth 65536 in
set_option maxHeartbeats 40000000 in
theorem rm1_2_2_2 (l : Launch) (Z : State) (a0 : Array Value) (hw : ∀ d ∈ tables_1, d.before a0 Z = true) (o0 : Addr) (p2 : Int32) (h0 : Heap) (n0 : Nat) (y0 y1 : Int32) (fr : List (Addr × (Cell → Prop))) (O0 : Own.Owns n0 h0 ((o0, Own.ArrC Z .char [(.int y0), (.int y1)]) :: fr)) (hy0 : nar .char y0 = y0) (hy1 : nar .char y1 = y1) (hc : nar .char p2 = p2) : Own.Does l (⟨"com/example/idxof/idxof/KnuthMorrisPrattPatternExtendPinLaw", "ends", "([CICI)Z"⟩ : MethodName) method_3_code 5 (some .boolean) [] ({ frames := 1, cells := 0, slots := 0, locals := 24 } : Room) Z #[(.ref o0), (.int (2 : Int32)), (.int p2), (.int (2 : Int32))] h0 n0 (fun v h => v = some (.int (fX2_2_2 y0 y1 p2)) ∧ h = h0) := by
  refine Own.doesOf pn4 ?_
  intro p e s m below meth c hx hby hml hret hlk hown hnm hZ
  refine Own.Goes.cast (ef1_2_2_2 m o0 p2) ?_
  refine Own.iloadN hx (2 : Int32) (hb hby d1_0) rfl rfl ?_
  refine Own.iloadN hx (2 : Int32) (hb hby d1_1) rfl rfl ?_
  refine Own.iconst hx (1 : Int32) (hb hby d1_2) rfl (by decide) ?_
  refine Own.iadd hx (hb hby d1_3) rfl ?_
  refine Own.vI (3 : Int32) (by decide) ?_
  have hc1 : ¬ ((3 : Int32) < (2 : Int32)) := by decide
  refine Own.icmpF hx (Own.q_gt (2 : Int32) (3 : Int32)) (hb hby d1_4) (pcN := 7) rfl (by decide) (pcT := 13) rfl (fun q => absurd q hc1) (fun _ => ?_)
  refine Own.iloadN hx (2 : Int32) (hb hby d1_7) rfl rfl ?_
  refine Own.aloadN hx (.ref o0) (hb hby d1_8) rfl rfl rfl ?_
  refine Own.arrlen hx hZ O0 0 rfl (2 : Int32) rfl (hb hby d1_9) rfl ?_
  have hc3 : ¬ ((2 : Int32) < (2 : Int32)) := by decide
  refine Own.icmpFn hx (Own.q_le (2 : Int32) (2 : Int32)) (hb hby d1_10) (pcN := 13) rfl (by decide) (pcT := 15) rfl (fun _ => ?_) (fun q => absurd q hc3)
  refine Own.iloadN hx (2 : Int32) (hb hby d1_15) rfl rfl ?_
  refine Own.iconst hx (1 : Int32) (hb hby d1_16) rfl (by decide) ?_
  refine Own.iadd hx (hb hby d1_17) rfl ?_
  refine Own.vI (3 : Int32) (by decide) ?_
  refine Own.iloadN hx (2 : Int32) (hb hby d1_18) rfl rfl ?_
  refine Own.isub hx (hb hby d1_19) rfl ?_
  refine Own.vI (1 : Int32) (by decide) ?_
  refine Own.istore hx (1 : Int32) rfl #[.val (.ref o0), .val (.int (2 : Int32)), .val (.int p2), .val (.int (2 : Int32)), .val (.int (1 : Int32))] (hb hby d1_20) rfl rfl ?_
  refine Own.iconst hx (0 : Int32) (hb hby d1_22) rfl (by decide) ?_
  refine Own.iloadN hx (2 : Int32) (hb hby d1_23) rfl rfl ?_
  have hc5 : (0 : Int32) < (2 : Int32) := by decide
  refine Own.icmpFn hx (Own.q_ge (0 : Int32) (2 : Int32)) (hb hby d1_24) (pcN := 27) rfl (by decide) (pcT := 41) rfl (fun q => absurd hc5 q) (fun _ => ?_)
  refine Own.aloadN hx (.ref o0) (hb hby d1_27) rfl rfl rfl ?_
  refine Own.iconst hx (0 : Int32) (hb hby d1_28) rfl (by decide) ?_
  refine Own.caload hx hZ O0 0 0 rfl (by decide) (v := (.int y0)) rfl (hb hby d1_29) rfl ?_
  refine Own.aloadN hx (.ref o0) (hb hby d1_30) rfl rfl rfl ?_
  refine Own.iloadN hx (2 : Int32) (hb hby d1_31) rfl rfl ?_
  refine Own.iloadN hx p2 (hb hby d1_32) rfl rfl ?_
  refine Own.iload hx (1 : Int32) (hb hby d1_33) rfl rfl ?_
  refine Own.callS hx hZ hown (hw _ (List.mem_of_getElem? (i := 5) rfl)) (hw _ (List.mem_of_getElem? (i := 6) rfl)) (hw _ (List.mem_of_getElem? (i := 3) rfl)) (hw _ (List.mem_of_getElem? (i := 7) rfl)) (by decide) pd1 (argsL := [(.ref o0), (.int (2 : Int32)), (.int p2), (.int (1 : Int32))]) (rest := [(.int y0)]) rfl (W := 1) (Nat.le_of_eq rfl) (rm := ({ frames := 0, cells := 0, slots := 0, locals := 0 } : Room)) (by decide) (by decide) (by decide) (by decide) (k' := 0) (n' := 0) rfl rfl (by rw [hml]; rfl) [(.int (1 : Int32)), (.int p2), (.int (2 : Int32)), (.ref o0), (.int y0)] rfl (hb hby d1_35) (pc' := 38) rfl (rm2_2_1 l Z a0 hw o0 (2 : Int32) p2 h0 n0 y0 y1 fr O0 (by decide) hy1) ?_
  rintro _ h' ⟨rfl, eh⟩
  rw [eh]; clear eh h'
  show Own.Goes _ _ _ _ _ _ _ _ _ _ _ _ _ _ _ _ _ (mkF m 38 #[.val (.ref o0), .val (.int (2 : Int32)), .val (.int p2), .val (.int (2 : Int32)), .val (.int (1 : Int32))] [(.int y1), (.int y0)])
  refine Own.icmpFn hx (Own.q_ne y0 y1) (hb hby d1_38) (pcN := 41) rfl (by decide) (pcT := 108) rfl (fun hc7 => ?_) (fun hc7 => ?_)
  · refine Own.iconst hx (0 : Int32) (hb hby d1_108) rfl (by decide) ?_
    exact Own.retS hx hret (by simp) hlk (hb hby d1_109) (by decide) (by decide) ⟨by rw [show fX2_2_2 y0 y1 p2 = (0 : Int32) from by simp only [fX2_2_2, if_neg hc7]]; try rfl, rfl⟩
  · refine Own.iconst hx (1 : Int32) (hb hby d1_41) rfl (by decide) ?_
    refine Own.iloadN hx (2 : Int32) (hb hby d1_42) rfl rfl ?_
    have hc8 : (1 : Int32) < (2 : Int32) := by decide
    refine Own.icmpFn hx (Own.q_ge (1 : Int32) (2 : Int32)) (hb hby d1_43) (pcN := 46) rfl (by decide) (pcT := 62) rfl (fun q => absurd hc8 q) (fun _ => ?_)
    refine Own.aloadN hx (.ref o0) (hb hby d1_46) rfl rfl rfl ?_
    refine Own.iconst hx (1 : Int32) (hb hby d1_47) rfl (by decide) ?_
    refine Own.caload hx hZ O0 0 1 rfl (by decide) (v := (.int y1)) rfl (hb hby d1_48) rfl ?_
    refine Own.aloadN hx (.ref o0) (hb hby d1_49) rfl rfl rfl ?_
    refine Own.iloadN hx (2 : Int32) (hb hby d1_50) rfl rfl ?_
    refine Own.iloadN hx p2 (hb hby d1_51) rfl rfl ?_
    refine Own.iload hx (1 : Int32) (hb hby d1_52) rfl rfl ?_
    refine Own.iconst hx (1 : Int32) (hb hby d1_54) rfl (by decide) ?_
    refine Own.iadd hx (hb hby d1_55) rfl ?_
    refine Own.vI (2 : Int32) (by decide) ?_
    refine Own.callS hx hZ hown (hw _ (List.mem_of_getElem? (i := 5) rfl)) (hw _ (List.mem_of_getElem? (i := 6) rfl)) (hw _ (List.mem_of_getElem? (i := 3) rfl)) (hw _ (List.mem_of_getElem? (i := 7) rfl)) (by decide) pd1 (argsL := [(.ref o0), (.int (2 : Int32)), (.int p2), (.int (2 : Int32))]) (rest := [(.int y1)]) rfl (W := 1) (Nat.le_of_eq rfl) (rm := ({ frames := 0, cells := 0, slots := 0, locals := 0 } : Room)) (by decide) (by decide) (by decide) (by decide) (k' := 0) (n' := 0) rfl rfl (by rw [hml]; rfl) [(.int (2 : Int32)), (.int p2), (.int (2 : Int32)), (.ref o0), (.int y1)] rfl (hb hby d1_56) (pc' := 59) rfl (rm2_c l Z a0 hw o0 (2 : Int32) p2 (2 : Int32) h0 n0 (by decide) hc) ?_
    rintro _ h' ⟨rfl, eh⟩
    rw [eh]; clear eh h'
    show Own.Goes _ _ _ _ _ _ _ _ _ _ _ _ _ _ _ _ _ (mkF m 59 #[.val (.ref o0), .val (.int (2 : Int32)), .val (.int p2), .val (.int (2 : Int32)), .val (.int (1 : Int32))] [(.int p2), (.int y1)])
    refine Own.icmpFn hx (Own.q_ne y1 p2) (hb hby d1_59) (pcN := 62) rfl (by decide) (pcT := 108) rfl (fun hc10 => ?_) (fun hc10 => ?_)
    · refine Own.iconst hx (0 : Int32) (hb hby d1_108) rfl (by decide) ?_
      exact Own.retS hx hret (by simp) hlk (hb hby d1_109) (by decide) (by decide) ⟨by rw [show fX2_2_2 y0 y1 p2 = (0 : Int32) from by simp only [fX2_2_2, if_pos hc7, if_neg hc10]]; try rfl, rfl⟩
    · refine Own.iconst hx (2 : Int32) (hb hby d1_62) rfl (by decide) ?_
      refine Own.iloadN hx (2 : Int32) (hb hby d1_63) rfl rfl ?_
      have hc11 : ¬ ((2 : Int32) < (2 : Int32)) := by decide
      refine Own.icmpFn hx (Own.q_ge (2 : Int32) (2 : Int32)) (hb hby d1_64) (pcN := 67) rfl (by decide) (pcT := 83) rfl (fun _ => ?_) (fun q => absurd q hc11)
      refine Own.iconst hx (3 : Int32) (hb hby d1_83) rfl (by decide) ?_
      refine Own.iloadN hx (2 : Int32) (hb hby d1_84) rfl rfl ?_
      have hc13 : ¬ ((3 : Int32) < (2 : Int32)) := by decide
      refine Own.icmpFn hx (Own.q_ge (3 : Int32) (2 : Int32)) (hb hby d1_85) (pcN := 88) rfl (by decide) (pcT := 104) rfl (fun _ => ?_) (fun q => absurd q hc13)
      refine Own.iconst hx (1 : Int32) (hb hby d1_104) rfl (by decide) ?_
      refine Own.goto hx (hb hby d1_105) (by decide) (pc' := 109) rfl ?_
      exact Own.retS hx hret (by simp) hlk (hb hby d1_109) (by decide) (by decide) ⟨by rw [show fX2_2_2 y0 y1 p2 = (1 : Int32) from by simp only [fX2_2_2, if_pos hc7, if_pos hc10]]; try rfl, rfl⟩

theorem ef1_2_2_3 (m : MethodId) (o0 : Addr) (p2 : Int32) : entryFrame m #[(.ref o0), (.int (2 : Int32)), (.int p2), (.int (3 : Int32))] 5 = mkF m 0 #[.val (.ref o0), .val (.int (2 : Int32)), .val (.int p2), .val (.int (3 : Int32)), .unset] [] := by first | (simp [entryFrame, mkF, argsToLocals, Value.category]; done) | rfl
set_option maxRecDepth 65536 in
set_option maxHeartbeats 40000000 in
theorem rm1_2_2_3 (l : Launch) (Z : State) (a0 : Array Value) (hw : ∀ d ∈ tables_1, d.before a0 Z = true) (o0 : Addr) (p2 : Int32) (h0 : Heap) (n0 : Nat) (y0 y1 : Int32) (fr : List (Addr × (Cell → Prop))) (O0 : Own.Owns n0 h0 ((o0, Own.ArrC Z .char [(.int y0), (.int y1)]) :: fr)) (hy0 : nar .char y0 = y0) (hy1 : nar .char y1 = y1) (hc : nar .char p2 = p2) : Own.Does l (⟨"com/example/idxof/idxof/KnuthMorrisPrattPatternExtendPinLaw", "ends", "([CICI)Z"⟩ : MethodName) method_3_code 5 (some .boolean) [] ({ frames := 1, cells := 0, slots := 0, locals := 24 } : Room) Z #[(.ref o0), (.int (2 : Int32)), (.int p2), (.int (3 : Int32))] h0 n0 (fun v h => v = some (.int (0 : Int32)) ∧ h = h0) := by
  refine Own.doesOf pn4 ?_
  intro p e s m below meth c hx hby hml hret hlk hown hnm hZ
  refine Own.Goes.cast (ef1_2_2_3 m o0 p2) ?_
  refine Own.iloadN hx (3 : Int32) (hb hby d1_0) rfl rfl ?_
  refine Own.iloadN hx (2 : Int32) (hb hby d1_1) rfl rfl ?_
  refine Own.iconst hx (1 : Int32) (hb hby d1_2) rfl (by decide) ?_
  refine Own.iadd hx (hb hby d1_3) rfl ?_
  refine Own.vI (3 : Int32) (by decide) ?_
  have hc1 : ¬ ((3 : Int32) < (3 : Int32)) := by decide
  refine Own.icmpF hx (Own.q_gt (3 : Int32) (3 : Int32)) (hb hby d1_4) (pcN := 7) rfl (by decide) (pcT := 13) rfl (fun q => absurd q hc1) (fun _ => ?_)
  refine Own.iloadN hx (3 : Int32) (hb hby d1_7) rfl rfl ?_
  refine Own.aloadN hx (.ref o0) (hb hby d1_8) rfl rfl rfl ?_
  refine Own.arrlen hx hZ O0 0 rfl (2 : Int32) rfl (hb hby d1_9) rfl ?_
  have hc3 : (2 : Int32) < (3 : Int32) := by decide
  refine Own.icmpFn hx (Own.q_le (3 : Int32) (2 : Int32)) (hb hby d1_10) (pcN := 13) rfl (by decide) (pcT := 15) rfl (fun q => absurd hc3 q) (fun _ => ?_)
  refine Own.iconst hx (0 : Int32) (hb hby d1_13) rfl (by decide) ?_
  exact Own.retS hx hret (by simp) hlk (hb hby d1_14) (by decide) (by decide) ⟨rfl, rfl⟩

theorem ef1_2_2_4 (m : MethodId) (o0 : Addr) (p2 : Int32) : entryFrame m #[(.ref o0), (.int (2 : Int32)), (.int p2), (.int (4 : Int32))] 5 = mkF m 0 #[.val (.ref o0), .val (.int (2 : Int32)), .val (.int p2), .val (.int (4 : Int32)), .unset] [] := by first | (simp [entryFrame, mkF, argsToLocals, Value.category]; done) | rfl
set_option maxRecDepth 65536 in
set_option maxHeartbeats 40000000 in
theorem rm1_2_2_4 (l : Launch) (Z : State) (a0 : Array Value) (hw : ∀ d ∈ tables_1, d.before a0 Z = true) (o0 : Addr) (p2 : Int32) (h0 : Heap) (n0 : Nat) (y0 y1 : Int32) (fr : List (Addr × (Cell → Prop))) (O0 : Own.Owns n0 h0 ((o0, Own.ArrC Z .char [(.int y0), (.int y1)]) :: fr)) (hy0 : nar .char y0 = y0) (hy1 : nar .char y1 = y1) (hc : nar .char p2 = p2) : Own.Does l (⟨"com/example/idxof/idxof/KnuthMorrisPrattPatternExtendPinLaw", "ends", "([CICI)Z"⟩ : MethodName) method_3_code 5 (some .boolean) [] ({ frames := 1, cells := 0, slots := 0, locals := 24 } : Room) Z #[(.ref o0), (.int (2 : Int32)), (.int p2), (.int (4 : Int32))] h0 n0 (fun v h => v = some (.int (0 : Int32)) ∧ h = h0) := by
  refine Own.doesOf pn4 ?_
  intro p e s m below meth c hx hby hml hret hlk hown hnm hZ
  refine Own.Goes.cast (ef1_2_2_4 m o0 p2) ?_
  refine Own.iloadN hx (4 : Int32) (hb hby d1_0) rfl rfl ?_
  refine Own.iloadN hx (2 : Int32) (hb hby d1_1) rfl rfl ?_
  refine Own.iconst hx (1 : Int32) (hb hby d1_2) rfl (by decide) ?_
  refine Own.iadd hx (hb hby d1_3) rfl ?_
  refine Own.vI (3 : Int32) (by decide) ?_
  have hc1 : (3 : Int32) < (4 : Int32) := by decide
  refine Own.icmpF hx (Own.q_gt (4 : Int32) (3 : Int32)) (hb hby d1_4) (pcN := 7) rfl (by decide) (pcT := 13) rfl (fun _ => ?_) (fun q => absurd hc1 q)
  refine Own.iconst hx (0 : Int32) (hb hby d1_13) rfl (by decide) ?_
  exact Own.retS hx hret (by simp) hlk (hb hby d1_14) (by decide) (by decide) ⟨rfl, rfl⟩

def fX3_0_1 (y0 y1 y2 p2 : Int32) : Int32 := (if y0 = p2 then (1 : Int32) else (0 : Int32))
theorem ef1_3_0_1 (m : MethodId) (o0 : Addr) (p2 : Int32) : entryFrame m #[(.ref o0), (.int (0 : Int32)), (.int p2), (.int (1 : Int32))] 5 = mkF m 0 #[.val (.ref o0), .val (.int (0 : Int32)), .val (.int p2), .val (.int (1 : Int32)), .unset] [] := by first | (simp [entryFrame, mkF, argsToLocals, Value.category]; done) | rfl
set_option maxRecDepth 65536 in
set_option maxHeartbeats 40000000 in
theorem rm1_3_0_1 (l : Launch) (Z : State) (a0 : Array Value) (hw : ∀ d ∈ tables_1, d.before a0 Z = true) (o0 : Addr) (p2 : Int32) (h0 : Heap) (n0 : Nat) (y0 y1 y2 : Int32) (fr : List (Addr × (Cell → Prop))) (O0 : Own.Owns n0 h0 ((o0, Own.ArrC Z .char [(.int y0), (.int y1), (.int y2)]) :: fr)) (hy0 : nar .char y0 = y0) (hy1 : nar .char y1 = y1) (hy2 : nar .char y2 = y2) (hc : nar .char p2 = p2) : Own.Does l (⟨"com/example/idxof/idxof/KnuthMorrisPrattPatternExtendPinLaw", "ends", "([CICI)Z"⟩ : MethodName) method_3_code 5 (some .boolean) [] ({ frames := 1, cells := 0, slots := 0, locals := 24 } : Room) Z #[(.ref o0), (.int (0 : Int32)), (.int p2), (.int (1 : Int32))] h0 n0 (fun v h => v = some (.int (fX3_0_1 y0 y1 y2 p2)) ∧ h = h0) := by
  refine Own.doesOf pn4 ?_
  intro p e s m below meth c hx hby hml hret hlk hown hnm hZ
  refine Own.Goes.cast (ef1_3_0_1 m o0 p2) ?_
  refine Own.iloadN hx (1 : Int32) (hb hby d1_0) rfl rfl ?_
  refine Own.iloadN hx (0 : Int32) (hb hby d1_1) rfl rfl ?_
  refine Own.iconst hx (1 : Int32) (hb hby d1_2) rfl (by decide) ?_
  refine Own.iadd hx (hb hby d1_3) rfl ?_
  refine Own.vI (1 : Int32) (by decide) ?_
  have hc1 : ¬ ((1 : Int32) < (1 : Int32)) := by decide
  refine Own.icmpF hx (Own.q_gt (1 : Int32) (1 : Int32)) (hb hby d1_4) (pcN := 7) rfl (by decide) (pcT := 13) rfl (fun q => absurd q hc1) (fun _ => ?_)
  refine Own.iloadN hx (1 : Int32) (hb hby d1_7) rfl rfl ?_
  refine Own.aloadN hx (.ref o0) (hb hby d1_8) rfl rfl rfl ?_
  refine Own.arrlen hx hZ O0 0 rfl (3 : Int32) rfl (hb hby d1_9) rfl ?_
  have hc3 : ¬ ((3 : Int32) < (1 : Int32)) := by decide
  refine Own.icmpFn hx (Own.q_le (1 : Int32) (3 : Int32)) (hb hby d1_10) (pcN := 13) rfl (by decide) (pcT := 15) rfl (fun _ => ?_) (fun q => absurd q hc3)
  refine Own.iloadN hx (0 : Int32) (hb hby d1_15) rfl rfl ?_
  refine Own.iconst hx (1 : Int32) (hb hby d1_16) rfl (by decide) ?_
  refine Own.iadd hx (hb hby d1_17) rfl ?_
  refine Own.vI (1 : Int32) (by decide) ?_
  refine Own.iloadN hx (1 : Int32) (hb hby d1_18) rfl rfl ?_
  refine Own.isub hx (hb hby d1_19) rfl ?_
  refine Own.vI (0 : Int32) (by decide) ?_
  refine Own.istore hx (0 : Int32) rfl #[.val (.ref o0), .val (.int (0 : Int32)), .val (.int p2), .val (.int (1 : Int32)), .val (.int (0 : Int32))] (hb hby d1_20) rfl rfl ?_
  refine Own.iconst hx (0 : Int32) (hb hby d1_22) rfl (by decide) ?_
  refine Own.iloadN hx (1 : Int32) (hb hby d1_23) rfl rfl ?_
  have hc5 : (0 : Int32) < (1 : Int32) := by decide
  refine Own.icmpFn hx (Own.q_ge (0 : Int32) (1 : Int32)) (hb hby d1_24) (pcN := 27) rfl (by decide) (pcT := 41) rfl (fun q => absurd hc5 q) (fun _ => ?_)
  refine Own.aloadN hx (.ref o0) (hb hby d1_27) rfl rfl rfl ?_
  refine Own.iconst hx (0 : Int32) (hb hby d1_28) rfl (by decide) ?_
  refine Own.caload hx hZ O0 0 0 rfl (by decide) (v := (.int y0)) rfl (hb hby d1_29) rfl ?_
  refine Own.aloadN hx (.ref o0) (hb hby d1_30) rfl rfl rfl ?_
  refine Own.iloadN hx (0 : Int32) (hb hby d1_31) rfl rfl ?_
  refine Own.iloadN hx p2 (hb hby d1_32) rfl rfl ?_
  refine Own.iload hx (0 : Int32) (hb hby d1_33) rfl rfl ?_
  refine Own.callS hx hZ hown (hw _ (List.mem_of_getElem? (i := 5) rfl)) (hw _ (List.mem_of_getElem? (i := 6) rfl)) (hw _ (List.mem_of_getElem? (i := 3) rfl)) (hw _ (List.mem_of_getElem? (i := 7) rfl)) (by decide) pd1 (argsL := [(.ref o0), (.int (0 : Int32)), (.int p2), (.int (0 : Int32))]) (rest := [(.int y0)]) rfl (W := 1) (Nat.le_of_eq rfl) (rm := ({ frames := 0, cells := 0, slots := 0, locals := 0 } : Room)) (by decide) (by decide) (by decide) (by decide) (k' := 0) (n' := 0) rfl rfl (by rw [hml]; rfl) [(.int (0 : Int32)), (.int p2), (.int (0 : Int32)), (.ref o0), (.int y0)] rfl (hb hby d1_35) (pc' := 38) rfl (rm2_c l Z a0 hw o0 (0 : Int32) p2 (0 : Int32) h0 n0 (by decide) hc) ?_
  rintro _ h' ⟨rfl, eh⟩
  rw [eh]; clear eh h'
  show Own.Goes _ _ _ _ _ _ _ _ _ _ _ _ _ _ _ _ _ (mkF m 38 #[.val (.ref o0), .val (.int (0 : Int32)), .val (.int p2), .val (.int (1 : Int32)), .val (.int (0 : Int32))] [(.int p2), (.int y0)])
  refine Own.icmpFn hx (Own.q_ne y0 p2) (hb hby d1_38) (pcN := 41) rfl (by decide) (pcT := 108) rfl (fun hc7 => ?_) (fun hc7 => ?_)
  · refine Own.iconst hx (0 : Int32) (hb hby d1_108) rfl (by decide) ?_
    exact Own.retS hx hret (by simp) hlk (hb hby d1_109) (by decide) (by decide) ⟨by rw [show fX3_0_1 y0 y1 y2 p2 = (0 : Int32) from by simp only [fX3_0_1, if_neg hc7]]; try rfl, rfl⟩
  · refine Own.iconst hx (1 : Int32) (hb hby d1_41) rfl (by decide) ?_
    refine Own.iloadN hx (1 : Int32) (hb hby d1_42) rfl rfl ?_
    have hc8 : ¬ ((1 : Int32) < (1 : Int32)) := by decide
    refine Own.icmpFn hx (Own.q_ge (1 : Int32) (1 : Int32)) (hb hby d1_43) (pcN := 46) rfl (by decide) (pcT := 62) rfl (fun _ => ?_) (fun q => absurd q hc8)
    refine Own.iconst hx (2 : Int32) (hb hby d1_62) rfl (by decide) ?_
    refine Own.iloadN hx (1 : Int32) (hb hby d1_63) rfl rfl ?_
    have hc10 : ¬ ((2 : Int32) < (1 : Int32)) := by decide
    refine Own.icmpFn hx (Own.q_ge (2 : Int32) (1 : Int32)) (hb hby d1_64) (pcN := 67) rfl (by decide) (pcT := 83) rfl (fun _ => ?_) (fun q => absurd q hc10)
    refine Own.iconst hx (3 : Int32) (hb hby d1_83) rfl (by decide) ?_
    refine Own.iloadN hx (1 : Int32) (hb hby d1_84) rfl rfl ?_
    have hc12 : ¬ ((3 : Int32) < (1 : Int32)) := by decide
    refine Own.icmpFn hx (Own.q_ge (3 : Int32) (1 : Int32)) (hb hby d1_85) (pcN := 88) rfl (by decide) (pcT := 104) rfl (fun _ => ?_) (fun q => absurd q hc12)
    refine Own.iconst hx (1 : Int32) (hb hby d1_104) rfl (by decide) ?_
    refine Own.goto hx (hb hby d1_105) (by decide) (pc' := 109) rfl ?_
    exact Own.retS hx hret (by simp) hlk (hb hby d1_109) (by decide) (by decide) ⟨by rw [show fX3_0_1 y0 y1 y2 p2 = (1 : Int32) from by simp only [fX3_0_1, if_pos hc7]]; try rfl, rfl⟩

theorem ef1_3_0_2 (m : MethodId) (o0 : Addr) (p2 : Int32) : entryFrame m #[(.ref o0), (.int (0 : Int32)), (.int p2), (.int (2 : Int32))] 5 = mkF m 0 #[.val (.ref o0), .val (.int (0 : Int32)), .val (.int p2), .val (.int (2 : Int32)), .unset] [] := by first | (simp [entryFrame, mkF, argsToLocals, Value.category]; done) | rfl
set_option maxRecDepth 65536 in
set_option maxHeartbeats 40000000 in
theorem rm1_3_0_2 (l : Launch) (Z : State) (a0 : Array Value) (hw : ∀ d ∈ tables_1, d.before a0 Z = true) (o0 : Addr) (p2 : Int32) (h0 : Heap) (n0 : Nat) (y0 y1 y2 : Int32) (fr : List (Addr × (Cell → Prop))) (O0 : Own.Owns n0 h0 ((o0, Own.ArrC Z .char [(.int y0), (.int y1), (.int y2)]) :: fr)) (hy0 : nar .char y0 = y0) (hy1 : nar .char y1 = y1) (hy2 : nar .char y2 = y2) (hc : nar .char p2 = p2) : Own.Does l (⟨"com/example/idxof/idxof/KnuthMorrisPrattPatternExtendPinLaw", "ends", "([CICI)Z"⟩ : MethodName) method_3_code 5 (some .boolean) [] ({ frames := 1, cells := 0, slots := 0, locals := 24 } : Room) Z #[(.ref o0), (.int (0 : Int32)), (.int p2), (.int (2 : Int32))] h0 n0 (fun v h => v = some (.int (0 : Int32)) ∧ h = h0) := by
  refine Own.doesOf pn4 ?_
  intro p e s m below meth c hx hby hml hret hlk hown hnm hZ
  refine Own.Goes.cast (ef1_3_0_2 m o0 p2) ?_
  refine Own.iloadN hx (2 : Int32) (hb hby d1_0) rfl rfl ?_
  refine Own.iloadN hx (0 : Int32) (hb hby d1_1) rfl rfl ?_
  refine Own.iconst hx (1 : Int32) (hb hby d1_2) rfl (by decide) ?_
  refine Own.iadd hx (hb hby d1_3) rfl ?_
  refine Own.vI (1 : Int32) (by decide) ?_
  have hc1 : (1 : Int32) < (2 : Int32) := by decide
  refine Own.icmpF hx (Own.q_gt (2 : Int32) (1 : Int32)) (hb hby d1_4) (pcN := 7) rfl (by decide) (pcT := 13) rfl (fun _ => ?_) (fun q => absurd hc1 q)
  refine Own.iconst hx (0 : Int32) (hb hby d1_13) rfl (by decide) ?_
  exact Own.retS hx hret (by simp) hlk (hb hby d1_14) (by decide) (by decide) ⟨rfl, rfl⟩

theorem ef1_3_0_3 (m : MethodId) (o0 : Addr) (p2 : Int32) : entryFrame m #[(.ref o0), (.int (0 : Int32)), (.int p2), (.int (3 : Int32))] 5 = mkF m 0 #[.val (.ref o0), .val (.int (0 : Int32)), .val (.int p2), .val (.int (3 : Int32)), .unset] [] := by first | (simp [entryFrame, mkF, argsToLocals, Value.category]; done) | rfl
set_option maxRecDepth 65536 in
set_option maxHeartbeats 40000000 in
theorem rm1_3_0_3 (l : Launch) (Z : State) (a0 : Array Value) (hw : ∀ d ∈ tables_1, d.before a0 Z = true) (o0 : Addr) (p2 : Int32) (h0 : Heap) (n0 : Nat) (y0 y1 y2 : Int32) (fr : List (Addr × (Cell → Prop))) (O0 : Own.Owns n0 h0 ((o0, Own.ArrC Z .char [(.int y0), (.int y1), (.int y2)]) :: fr)) (hy0 : nar .char y0 = y0) (hy1 : nar .char y1 = y1) (hy2 : nar .char y2 = y2) (hc : nar .char p2 = p2) : Own.Does l (⟨"com/example/idxof/idxof/KnuthMorrisPrattPatternExtendPinLaw", "ends", "([CICI)Z"⟩ : MethodName) method_3_code 5 (some .boolean) [] ({ frames := 1, cells := 0, slots := 0, locals := 24 } : Room) Z #[(.ref o0), (.int (0 : Int32)), (.int p2), (.int (3 : Int32))] h0 n0 (fun v h => v = some (.int (0 : Int32)) ∧ h = h0) := by
  refine Own.doesOf pn4 ?_
  intro p e s m below meth c hx hby hml hret hlk hown hnm hZ
  refine Own.Goes.cast (ef1_3_0_3 m o0 p2) ?_
  refine Own.iloadN hx (3 : Int32) (hb hby d1_0) rfl rfl ?_
  refine Own.iloadN hx (0 : Int32) (hb hby d1_1) rfl rfl ?_
  refine Own.iconst hx (1 : Int32) (hb hby d1_2) rfl (by decide) ?_
  refine Own.iadd hx (hb hby d1_3) rfl ?_
  refine Own.vI (1 : Int32) (by decide) ?_
  have hc1 : (1 : Int32) < (3 : Int32) := by decide
  refine Own.icmpF hx (Own.q_gt (3 : Int32) (1 : Int32)) (hb hby d1_4) (pcN := 7) rfl (by decide) (pcT := 13) rfl (fun _ => ?_) (fun q => absurd hc1 q)
  refine Own.iconst hx (0 : Int32) (hb hby d1_13) rfl (by decide) ?_
  exact Own.retS hx hret (by simp) hlk (hb hby d1_14) (by decide) (by decide) ⟨rfl, rfl⟩

theorem ef1_3_0_4 (m : MethodId) (o0 : Addr) (p2 : Int32) : entryFrame m #[(.ref o0), (.int (0 : Int32)), (.int p2), (.int (4 : Int32))] 5 = mkF m 0 #[.val (.ref o0), .val (.int (0 : Int32)), .val (.int p2), .val (.int (4 : Int32)), .unset] [] := by first | (simp [entryFrame, mkF, argsToLocals, Value.category]; done) | rfl
set_option maxRecDepth 65536 in
set_option maxHeartbeats 40000000 in
theorem rm1_3_0_4 (l : Launch) (Z : State) (a0 : Array Value) (hw : ∀ d ∈ tables_1, d.before a0 Z = true) (o0 : Addr) (p2 : Int32) (h0 : Heap) (n0 : Nat) (y0 y1 y2 : Int32) (fr : List (Addr × (Cell → Prop))) (O0 : Own.Owns n0 h0 ((o0, Own.ArrC Z .char [(.int y0), (.int y1), (.int y2)]) :: fr)) (hy0 : nar .char y0 = y0) (hy1 : nar .char y1 = y1) (hy2 : nar .char y2 = y2) (hc : nar .char p2 = p2) : Own.Does l (⟨"com/example/idxof/idxof/KnuthMorrisPrattPatternExtendPinLaw", "ends", "([CICI)Z"⟩ : MethodName) method_3_code 5 (some .boolean) [] ({ frames := 1, cells := 0, slots := 0, locals := 24 } : Room) Z #[(.ref o0), (.int (0 : Int32)), (.int p2), (.int (4 : Int32))] h0 n0 (fun v h => v = some (.int (0 : Int32)) ∧ h = h0) := by
  refine Own.doesOf pn4 ?_
  intro p e s m below meth c hx hby hml hret hlk hown hnm hZ
  refine Own.Goes.cast (ef1_3_0_4 m o0 p2) ?_
  refine Own.iloadN hx (4 : Int32) (hb hby d1_0) rfl rfl ?_
  refine Own.iloadN hx (0 : Int32) (hb hby d1_1) rfl rfl ?_
  refine Own.iconst hx (1 : Int32) (hb hby d1_2) rfl (by decide) ?_
  refine Own.iadd hx (hb hby d1_3) rfl ?_
  refine Own.vI (1 : Int32) (by decide) ?_
  have hc1 : (1 : Int32) < (4 : Int32) := by decide
  refine Own.icmpF hx (Own.q_gt (4 : Int32) (1 : Int32)) (hb hby d1_4) (pcN := 7) rfl (by decide) (pcT := 13) rfl (fun _ => ?_) (fun q => absurd hc1 q)
  refine Own.iconst hx (0 : Int32) (hb hby d1_13) rfl (by decide) ?_
  exact Own.retS hx hret (by simp) hlk (hb hby d1_14) (by decide) (by decide) ⟨rfl, rfl⟩

def fX3_1_1 (y0 y1 y2 p2 : Int32) : Int32 := (if y0 = p2 then (1 : Int32) else (0 : Int32))
theorem ef1_3_1_1 (m : MethodId) (o0 : Addr) (p2 : Int32) : entryFrame m #[(.ref o0), (.int (1 : Int32)), (.int p2), (.int (1 : Int32))] 5 = mkF m 0 #[.val (.ref o0), .val (.int (1 : Int32)), .val (.int p2), .val (.int (1 : Int32)), .unset] [] := by first | (simp [entryFrame, mkF, argsToLocals, Value.category]; done) | rfl
set_option maxRecDepth 65536 in
set_option maxHeartbeats 40000000 in
theorem rm1_3_1_1 (l : Launch) (Z : State) (a0 : Array Value) (hw : ∀ d ∈ tables_1, d.before a0 Z = true) (o0 : Addr) (p2 : Int32) (h0 : Heap) (n0 : Nat) (y0 y1 y2 : Int32) (fr : List (Addr × (Cell → Prop))) (O0 : Own.Owns n0 h0 ((o0, Own.ArrC Z .char [(.int y0), (.int y1), (.int y2)]) :: fr)) (hy0 : nar .char y0 = y0) (hy1 : nar .char y1 = y1) (hy2 : nar .char y2 = y2) (hc : nar .char p2 = p2) : Own.Does l (⟨"com/example/idxof/idxof/KnuthMorrisPrattPatternExtendPinLaw", "ends", "([CICI)Z"⟩ : MethodName) method_3_code 5 (some .boolean) [] ({ frames := 1, cells := 0, slots := 0, locals := 24 } : Room) Z #[(.ref o0), (.int (1 : Int32)), (.int p2), (.int (1 : Int32))] h0 n0 (fun v h => v = some (.int (fX3_1_1 y0 y1 y2 p2)) ∧ h = h0) := by
  refine Own.doesOf pn4 ?_
  intro p e s m below meth c hx hby hml hret hlk hown hnm hZ
  refine Own.Goes.cast (ef1_3_1_1 m o0 p2) ?_
  refine Own.iloadN hx (1 : Int32) (hb hby d1_0) rfl rfl ?_
  refine Own.iloadN hx (1 : Int32) (hb hby d1_1) rfl rfl ?_
  refine Own.iconst hx (1 : Int32) (hb hby d1_2) rfl (by decide) ?_
  refine Own.iadd hx (hb hby d1_3) rfl ?_
  refine Own.vI (2 : Int32) (by decide) ?_
  have hc1 : ¬ ((2 : Int32) < (1 : Int32)) := by decide
  refine Own.icmpF hx (Own.q_gt (1 : Int32) (2 : Int32)) (hb hby d1_4) (pcN := 7) rfl (by decide) (pcT := 13) rfl (fun q => absurd q hc1) (fun _ => ?_)
  refine Own.iloadN hx (1 : Int32) (hb hby d1_7) rfl rfl ?_
  refine Own.aloadN hx (.ref o0) (hb hby d1_8) rfl rfl rfl ?_
  refine Own.arrlen hx hZ O0 0 rfl (3 : Int32) rfl (hb hby d1_9) rfl ?_
  have hc3 : ¬ ((3 : Int32) < (1 : Int32)) := by decide
  refine Own.icmpFn hx (Own.q_le (1 : Int32) (3 : Int32)) (hb hby d1_10) (pcN := 13) rfl (by decide) (pcT := 15) rfl (fun _ => ?_) (fun q => absurd q hc3)
  refine Own.iloadN hx (1 : Int32) (hb hby d1_15) rfl rfl ?_
  refine Own.iconst hx (1 : Int32) (hb hby d1_16) rfl (by decide) ?_
  refine Own.iadd hx (hb hby d1_17) rfl ?_
  refine Own.vI (2 : Int32) (by decide) ?_
  refine Own.iloadN hx (1 : Int32) (hb hby d1_18) rfl rfl ?_
  refine Own.isub hx (hb hby d1_19) rfl ?_
  refine Own.vI (1 : Int32) (by decide) ?_
  refine Own.istore hx (1 : Int32) rfl #[.val (.ref o0), .val (.int (1 : Int32)), .val (.int p2), .val (.int (1 : Int32)), .val (.int (1 : Int32))] (hb hby d1_20) rfl rfl ?_
  refine Own.iconst hx (0 : Int32) (hb hby d1_22) rfl (by decide) ?_
  refine Own.iloadN hx (1 : Int32) (hb hby d1_23) rfl rfl ?_
  have hc5 : (0 : Int32) < (1 : Int32) := by decide
  refine Own.icmpFn hx (Own.q_ge (0 : Int32) (1 : Int32)) (hb hby d1_24) (pcN := 27) rfl (by decide) (pcT := 41) rfl (fun q => absurd hc5 q) (fun _ => ?_)
  refine Own.aloadN hx (.ref o0) (hb hby d1_27) rfl rfl rfl ?_
  refine Own.iconst hx (0 : Int32) (hb hby d1_28) rfl (by decide) ?_
  refine Own.caload hx hZ O0 0 0 rfl (by decide) (v := (.int y0)) rfl (hb hby d1_29) rfl ?_
  refine Own.aloadN hx (.ref o0) (hb hby d1_30) rfl rfl rfl ?_
  refine Own.iloadN hx (1 : Int32) (hb hby d1_31) rfl rfl ?_
  refine Own.iloadN hx p2 (hb hby d1_32) rfl rfl ?_
  refine Own.iload hx (1 : Int32) (hb hby d1_33) rfl rfl ?_
  refine Own.callS hx hZ hown (hw _ (List.mem_of_getElem? (i := 5) rfl)) (hw _ (List.mem_of_getElem? (i := 6) rfl)) (hw _ (List.mem_of_getElem? (i := 3) rfl)) (hw _ (List.mem_of_getElem? (i := 7) rfl)) (by decide) pd1 (argsL := [(.ref o0), (.int (1 : Int32)), (.int p2), (.int (1 : Int32))]) (rest := [(.int y0)]) rfl (W := 1) (Nat.le_of_eq rfl) (rm := ({ frames := 0, cells := 0, slots := 0, locals := 0 } : Room)) (by decide) (by decide) (by decide) (by decide) (k' := 0) (n' := 0) rfl rfl (by rw [hml]; rfl) [(.int (1 : Int32)), (.int p2), (.int (1 : Int32)), (.ref o0), (.int y0)] rfl (hb hby d1_35) (pc' := 38) rfl (rm2_c l Z a0 hw o0 (1 : Int32) p2 (1 : Int32) h0 n0 (by decide) hc) ?_
  rintro _ h' ⟨rfl, eh⟩
  rw [eh]; clear eh h'
  show Own.Goes _ _ _ _ _ _ _ _ _ _ _ _ _ _ _ _ _ (mkF m 38 #[.val (.ref o0), .val (.int (1 : Int32)), .val (.int p2), .val (.int (1 : Int32)), .val (.int (1 : Int32))] [(.int p2), (.int y0)])
  refine Own.icmpFn hx (Own.q_ne y0 p2) (hb hby d1_38) (pcN := 41) rfl (by decide) (pcT := 108) rfl (fun hc7 => ?_) (fun hc7 => ?_)
  · refine Own.iconst hx (0 : Int32) (hb hby d1_108) rfl (by decide) ?_
    exact Own.retS hx hret (by simp) hlk (hb hby d1_109) (by decide) (by decide) ⟨by rw [show fX3_1_1 y0 y1 y2 p2 = (0 : Int32) from by simp only [fX3_1_1, if_neg hc7]]; try rfl, rfl⟩
  · refine Own.iconst hx (1 : Int32) (hb hby d1_41) rfl (by decide) ?_
    refine Own.iloadN hx (1 : Int32) (hb hby d1_42) rfl rfl ?_
    have hc8 : ¬ ((1 : Int32) < (1 : Int32)) := by decide
    refine Own.icmpFn hx (Own.q_ge (1 : Int32) (1 : Int32)) (hb hby d1_43) (pcN := 46) rfl (by decide) (pcT := 62) rfl (fun _ => ?_) (fun q => absurd q hc8)
    refine Own.iconst hx (2 : Int32) (hb hby d1_62) rfl (by decide) ?_
    refine Own.iloadN hx (1 : Int32) (hb hby d1_63) rfl rfl ?_
    have hc10 : ¬ ((2 : Int32) < (1 : Int32)) := by decide
    refine Own.icmpFn hx (Own.q_ge (2 : Int32) (1 : Int32)) (hb hby d1_64) (pcN := 67) rfl (by decide) (pcT := 83) rfl (fun _ => ?_) (fun q => absurd q hc10)
    refine Own.iconst hx (3 : Int32) (hb hby d1_83) rfl (by decide) ?_
    refine Own.iloadN hx (1 : Int32) (hb hby d1_84) rfl rfl ?_
    have hc12 : ¬ ((3 : Int32) < (1 : Int32)) := by decide
    refine Own.icmpFn hx (Own.q_ge (3 : Int32) (1 : Int32)) (hb hby d1_85) (pcN := 88) rfl (by decide) (pcT := 104) rfl (fun _ => ?_) (fun q => absurd q hc12)
    refine Own.iconst hx (1 : Int32) (hb hby d1_104) rfl (by decide) ?_
    refine Own.goto hx (hb hby d1_105) (by decide) (pc' := 109) rfl ?_
    exact Own.retS hx hret (by simp) hlk (hb hby d1_109) (by decide) (by decide) ⟨by rw [show fX3_1_1 y0 y1 y2 p2 = (1 : Int32) from by simp only [fX3_1_1, if_pos hc7]]; try rfl, rfl⟩

def fX3_1_2 (y0 y1 y2 p2 : Int32) : Int32 := (if y1 = p2 then (1 : Int32) else (0 : Int32))
theorem ef1_3_1_2 (m : MethodId) (o0 : Addr) (p2 : Int32) : entryFrame m #[(.ref o0), (.int (1 : Int32)), (.int p2), (.int (2 : Int32))] 5 = mkF m 0 #[.val (.ref o0), .val (.int (1 : Int32)), .val (.int p2), .val (.int (2 : Int32)), .unset] [] := by first | (simp [entryFrame, mkF, argsToLocals, Value.category]; done) | rfl
set_option maxRecDepth 65536 in
set_option maxHeartbeats 40000000 in
theorem rm1_3_1_2 (l : Launch) (Z : State) (a0 : Array Value) (hw : ∀ d ∈ tables_1, d.before a0 Z = true) (o0 : Addr) (p2 : Int32) (h0 : Heap) (n0 : Nat) (y0 y1 y2 : Int32) (fr : List (Addr × (Cell → Prop))) (O0 : Own.Owns n0 h0 ((o0, Own.ArrC Z .char [(.int y0), (.int y1), (.int y2)]) :: fr)) (hy0 : nar .char y0 = y0) (hy1 : nar .char y1 = y1) (hy2 : nar .char y2 = y2) (hc : nar .char p2 = p2) : Own.Does l (⟨"com/example/idxof/idxof/KnuthMorrisPrattPatternExtendPinLaw", "ends", "([CICI)Z"⟩ : MethodName) method_3_code 5 (some .boolean) [] ({ frames := 1, cells := 0, slots := 0, locals := 24 } : Room) Z #[(.ref o0), (.int (1 : Int32)), (.int p2), (.int (2 : Int32))] h0 n0 (fun v h => v = some (.int (fX3_1_2 y0 y1 y2 p2)) ∧ h = h0) := by
  refine Own.doesOf pn4 ?_
  intro p e s m below meth c hx hby hml hret hlk hown hnm hZ
  refine Own.Goes.cast (ef1_3_1_2 m o0 p2) ?_
  refine Own.iloadN hx (2 : Int32) (hb hby d1_0) rfl rfl ?_
  refine Own.iloadN hx (1 : Int32) (hb hby d1_1) rfl rfl ?_
  refine Own.iconst hx (1 : Int32) (hb hby d1_2) rfl (by decide) ?_
  refine Own.iadd hx (hb hby d1_3) rfl ?_
  refine Own.vI (2 : Int32) (by decide) ?_
  have hc1 : ¬ ((2 : Int32) < (2 : Int32)) := by decide
  refine Own.icmpF hx (Own.q_gt (2 : Int32) (2 : Int32)) (hb hby d1_4) (pcN := 7) rfl (by decide) (pcT := 13) rfl (fun q => absurd q hc1) (fun _ => ?_)
  refine Own.iloadN hx (2 : Int32) (hb hby d1_7) rfl rfl ?_
  refine Own.aloadN hx (.ref o0) (hb hby d1_8) rfl rfl rfl ?_
  refine Own.arrlen hx hZ O0 0 rfl (3 : Int32) rfl (hb hby d1_9) rfl ?_
  have hc3 : ¬ ((3 : Int32) < (2 : Int32)) := by decide
  refine Own.icmpFn hx (Own.q_le (2 : Int32) (3 : Int32)) (hb hby d1_10) (pcN := 13) rfl (by decide) (pcT := 15) rfl (fun _ => ?_) (fun q => absurd q hc3)
  refine Own.iloadN hx (1 : Int32) (hb hby d1_15) rfl rfl ?_
  refine Own.iconst hx (1 : Int32) (hb hby d1_16) rfl (by decide) ?_
  refine Own.iadd hx (hb hby d1_17) rfl ?_
  refine Own.vI (2 : Int32) (by decide) ?_
  refine Own.iloadN hx (2 : Int32) (hb hby d1_18) rfl rfl ?_
  refine Own.isub hx (hb hby d1_19) rfl ?_
  refine Own.vI (0 : Int32) (by decide) ?_
  refine Own.istore hx (0 : Int32) rfl #[.val (.ref o0), .val (.int (1 : Int32)), .val (.int p2), .val (.int (2 : Int32)), .val (.int (0 : Int32))] (hb hby d1_20) rfl rfl ?_
  refine Own.iconst hx (0 : Int32) (hb hby d1_22) rfl (by decide) ?_
  refine Own.iloadN hx (2 : Int32) (hb hby d1_23) rfl rfl ?_
  have hc5 : (0 : Int32) < (2 : Int32) := by decide
  refine Own.icmpFn hx (Own.q_ge (0 : Int32) (2 : Int32)) (hb hby d1_24) (pcN := 27) rfl (by decide) (pcT := 41) rfl (fun q => absurd hc5 q) (fun _ => ?_)
  refine Own.aloadN hx (.ref o0) (hb hby d1_27) rfl rfl rfl ?_
  refine Own.iconst hx (0 : Int32) (hb hby d1_28) rfl (by decide) ?_
  refine Own.caload hx hZ O0 0 0 rfl (by decide) (v := (.int y0)) rfl (hb hby d1_29) rfl ?_
  refine Own.aloadN hx (.ref o0) (hb hby d1_30) rfl rfl rfl ?_
  refine Own.iloadN hx (1 : Int32) (hb hby d1_31) rfl rfl ?_
  refine Own.iloadN hx p2 (hb hby d1_32) rfl rfl ?_
  refine Own.iload hx (0 : Int32) (hb hby d1_33) rfl rfl ?_
  refine Own.callS hx hZ hown (hw _ (List.mem_of_getElem? (i := 5) rfl)) (hw _ (List.mem_of_getElem? (i := 6) rfl)) (hw _ (List.mem_of_getElem? (i := 3) rfl)) (hw _ (List.mem_of_getElem? (i := 7) rfl)) (by decide) pd1 (argsL := [(.ref o0), (.int (1 : Int32)), (.int p2), (.int (0 : Int32))]) (rest := [(.int y0)]) rfl (W := 1) (Nat.le_of_eq rfl) (rm := ({ frames := 0, cells := 0, slots := 0, locals := 0 } : Room)) (by decide) (by decide) (by decide) (by decide) (k' := 0) (n' := 0) rfl rfl (by rw [hml]; rfl) [(.int (0 : Int32)), (.int p2), (.int (1 : Int32)), (.ref o0), (.int y0)] rfl (hb hby d1_35) (pc' := 38) rfl (rm2_3_0 l Z a0 hw o0 (1 : Int32) p2 h0 n0 y0 y1 y2 fr O0 (by decide) hy0) ?_
  rintro _ h' ⟨rfl, eh⟩
  rw [eh]; clear eh h'
  show Own.Goes _ _ _ _ _ _ _ _ _ _ _ _ _ _ _ _ _ (mkF m 38 #[.val (.ref o0), .val (.int (1 : Int32)), .val (.int p2), .val (.int (2 : Int32)), .val (.int (0 : Int32))] [(.int y0), (.int y0)])
  have hc7 : y0 = y0 := rfl
  refine Own.icmpFn hx (Own.q_ne y0 y0) (hb hby d1_38) (pcN := 41) rfl (by decide) (pcT := 108) rfl (fun q => absurd hc7 q) (fun _ => ?_)
  refine Own.iconst hx (1 : Int32) (hb hby d1_41) rfl (by decide) ?_
  refine Own.iloadN hx (2 : Int32) (hb hby d1_42) rfl rfl ?_
  have hc9 : (1 : Int32) < (2 : Int32) := by decide
  refine Own.icmpFn hx (Own.q_ge (1 : Int32) (2 : Int32)) (hb hby d1_43) (pcN := 46) rfl (by decide) (pcT := 62) rfl (fun q => absurd hc9 q) (fun _ => ?_)
  refine Own.aloadN hx (.ref o0) (hb hby d1_46) rfl rfl rfl ?_
  refine Own.iconst hx (1 : Int32) (hb hby d1_47) rfl (by decide) ?_
  refine Own.caload hx hZ O0 0 1 rfl (by decide) (v := (.int y1)) rfl (hb hby d1_48) rfl ?_
  refine Own.aloadN hx (.ref o0) (hb hby d1_49) rfl rfl rfl ?_
  refine Own.iloadN hx (1 : Int32) (hb hby d1_50) rfl rfl ?_
  refine Own.iloadN hx p2 (hb hby d1_51) rfl rfl ?_
  refine Own.iload hx (0 : Int32) (hb hby d1_52) rfl rfl ?_
  refine Own.iconst hx (1 : Int32) (hb hby d1_54) rfl (by decide) ?_
  refine Own.iadd hx (hb hby d1_55) rfl ?_
  refine Own.vI (1 : Int32) (by decide) ?_
  refine Own.callS hx hZ hown (hw _ (List.mem_of_getElem? (i := 5) rfl)) (hw _ (List.mem_of_getElem? (i := 6) rfl)) (hw _ (List.mem_of_getElem? (i := 3) rfl)) (hw _ (List.mem_of_getElem? (i := 7) rfl)) (by decide) pd1 (argsL := [(.ref o0), (.int (1 : Int32)), (.int p2), (.int (1 : Int32))]) (rest := [(.int y1)]) rfl (W := 1) (Nat.le_of_eq rfl) (rm := ({ frames := 0, cells := 0, slots := 0, locals := 0 } : Room)) (by decide) (by decide) (by decide) (by decide) (k' := 0) (n' := 0) rfl rfl (by rw [hml]; rfl) [(.int (1 : Int32)), (.int p2), (.int (1 : Int32)), (.ref o0), (.int y1)] rfl (hb hby d1_56) (pc' := 59) rfl (rm2_c l Z a0 hw o0 (1 : Int32) p2 (1 : Int32) h0 n0 (by decide) hc) ?_
  rintro _ h' ⟨rfl, eh⟩
  rw [eh]; clear eh h'
  show Own.Goes _ _ _ _ _ _ _ _ _ _ _ _ _ _ _ _ _ (mkF m 59 #[.val (.ref o0), .val (.int (1 : Int32)), .val (.int p2), .val (.int (2 : Int32)), .val (.int (0 : Int32))] [(.int p2), (.int y1)])
  refine Own.icmpFn hx (Own.q_ne y1 p2) (hb hby d1_59) (pcN := 62) rfl (by decide) (pcT := 108) rfl (fun hc11 => ?_) (fun hc11 => ?_)
  · refine Own.iconst hx (0 : Int32) (hb hby d1_108) rfl (by decide) ?_
    exact Own.retS hx hret (by simp) hlk (hb hby d1_109) (by decide) (by decide) ⟨by rw [show fX3_1_2 y0 y1 y2 p2 = (0 : Int32) from by simp only [fX3_1_2, if_neg hc11]]; try rfl, rfl⟩
  · refine Own.iconst hx (2 : Int32) (hb hby d1_62) rfl (by decide) ?_
    refine Own.iloadN hx (2 : Int32) (hb hby d1_63) rfl rfl ?_
    have hc12 : ¬ ((2 : Int32) < (2 : Int32)) := by decide
    refine Own.icmpFn hx (Own.q_ge (2 : Int32) (2 : Int32)) (hb hby d1_64) (pcN := 67) rfl (by decide) (pcT := 83) rfl (fun _ => ?_) (fun q => absurd q hc12)
    refine Own.iconst hx (3 : Int32) (hb hby d1_83) rfl (by decide) ?_
    refine Own.iloadN hx (2 : Int32) (hb hby d1_84) rfl rfl ?_
    have hc14 : ¬ ((3 : Int32) < (2 : Int32)) := by decide
    refine Own.icmpFn hx (Own.q_ge (3 : Int32) (2 : Int32)) (hb hby d1_85) (pcN := 88) rfl (by decide) (pcT := 104) rfl (fun _ => ?_) (fun q => absurd q hc14)
    refine Own.iconst hx (1 : Int32) (hb hby d1_104) rfl (by decide) ?_
    refine Own.goto hx (hb hby d1_105) (by decide) (pc' := 109) rfl ?_
    exact Own.retS hx hret (by simp) hlk (hb hby d1_109) (by decide) (by decide) ⟨by rw [show fX3_1_2 y0 y1 y2 p2 = (1 : Int32) from by simp only [fX3_1_2, if_pos hc11]]; try rfl, rfl⟩

theorem ef1_3_1_3 (m : MethodId) (o0 : Addr) (p2 : Int32) : entryFrame m #[(.ref o0), (.int (1 : Int32)), (.int p2), (.int (3 : Int32))] 5 = mkF m 0 #[.val (.ref o0), .val (.int (1 : Int32)), .val (.int p2), .val (.int (3 : Int32)), .unset] [] := by first | (simp [entryFrame, mkF, argsToLocals, Value.category]; done) | rfl
set_option maxRecDepth 65536 in
set_option maxHeartbeats 40000000 in
theorem rm1_3_1_3 (l : Launch) (Z : State) (a0 : Array Value) (hw : ∀ d ∈ tables_1, d.before a0 Z = true) (o0 : Addr) (p2 : Int32) (h0 : Heap) (n0 : Nat) (y0 y1 y2 : Int32) (fr : List (Addr × (Cell → Prop))) (O0 : Own.Owns n0 h0 ((o0, Own.ArrC Z .char [(.int y0), (.int y1), (.int y2)]) :: fr)) (hy0 : nar .char y0 = y0) (hy1 : nar .char y1 = y1) (hy2 : nar .char y2 = y2) (hc : nar .char p2 = p2) : Own.Does l (⟨"com/example/idxof/idxof/KnuthMorrisPrattPatternExtendPinLaw", "ends", "([CICI)Z"⟩ : MethodName) method_3_code 5 (some .boolean) [] ({ frames := 1, cells := 0, slots := 0, locals := 24 } : Room) Z #[(.ref o0), (.int (1 : Int32)), (.int p2), (.int (3 : Int32))] h0 n0 (fun v h => v = some (.int (0 : Int32)) ∧ h = h0) := by
  refine Own.doesOf pn4 ?_
  intro p e s m below meth c hx hby hml hret hlk hown hnm hZ
  refine Own.Goes.cast (ef1_3_1_3 m o0 p2) ?_
  refine Own.iloadN hx (3 : Int32) (hb hby d1_0) rfl rfl ?_
  refine Own.iloadN hx (1 : Int32) (hb hby d1_1) rfl rfl ?_
  refine Own.iconst hx (1 : Int32) (hb hby d1_2) rfl (by decide) ?_
  refine Own.iadd hx (hb hby d1_3) rfl ?_
  refine Own.vI (2 : Int32) (by decide) ?_
  have hc1 : (2 : Int32) < (3 : Int32) := by decide
  refine Own.icmpF hx (Own.q_gt (3 : Int32) (2 : Int32)) (hb hby d1_4) (pcN := 7) rfl (by decide) (pcT := 13) rfl (fun _ => ?_) (fun q => absurd hc1 q)
  refine Own.iconst hx (0 : Int32) (hb hby d1_13) rfl (by decide) ?_
  exact Own.retS hx hret (by simp) hlk (hb hby d1_14) (by decide) (by decide) ⟨rfl, rfl⟩

theorem ef1_3_1_4 (m : MethodId) (o0 : Addr) (p2 : Int32) : entryFrame m #[(.ref o0), (.int (1 : Int32)), (.int p2), (.int (4 : Int32))] 5 = mkF m 0 #[.val (.ref o0), .val (.int (1 : Int32)), .val (.int p2), .val (.int (4 : Int32)), .unset] [] := by first | (simp [entryFrame, mkF, argsToLocals, Value.category]; done) | rfl
set_option maxRecDepth 65536 in
set_option maxHeartbeats 40000000 in
theorem rm1_3_1_4 (l : Launch) (Z : State) (a0 : Array Value) (hw : ∀ d ∈ tables_1, d.before a0 Z = true) (o0 : Addr) (p2 : Int32) (h0 : Heap) (n0 : Nat) (y0 y1 y2 : Int32) (fr : List (Addr × (Cell → Prop))) (O0 : Own.Owns n0 h0 ((o0, Own.ArrC Z .char [(.int y0), (.int y1), (.int y2)]) :: fr)) (hy0 : nar .char y0 = y0) (hy1 : nar .char y1 = y1) (hy2 : nar .char y2 = y2) (hc : nar .char p2 = p2) : Own.Does l (⟨"com/example/idxof/idxof/KnuthMorrisPrattPatternExtendPinLaw", "ends", "([CICI)Z"⟩ : MethodName) method_3_code 5 (some .boolean) [] ({ frames := 1, cells := 0, slots := 0, locals := 24 } : Room) Z #[(.ref o0), (.int (1 : Int32)), (.int p2), (.int (4 : Int32))] h0 n0 (fun v h => v = some (.int (0 : Int32)) ∧ h = h0) := by
  refine Own.doesOf pn4 ?_
  intro p e s m below meth c hx hby hml hret hlk hown hnm hZ
  refine Own.Goes.cast (ef1_3_1_4 m o0 p2) ?_
  refine Own.iloadN hx (4 : Int32) (hb hby d1_0) rfl rfl ?_
  refine Own.iloadN hx (1 : Int32) (hb hby d1_1) rfl rfl ?_
  refine Own.iconst hx (1 : Int32) (hb hby d1_2) rfl (by decide) ?_
  refine Own.iadd hx (hb hby d1_3) rfl ?_
  refine Own.vI (2 : Int32) (by decide) ?_
  have hc1 : (2 : Int32) < (4 : Int32) := by decide
  refine Own.icmpF hx (Own.q_gt (4 : Int32) (2 : Int32)) (hb hby d1_4) (pcN := 7) rfl (by decide) (pcT := 13) rfl (fun _ => ?_) (fun q => absurd hc1 q)
  refine Own.iconst hx (0 : Int32) (hb hby d1_13) rfl (by decide) ?_
  exact Own.retS hx hret (by simp) hlk (hb hby d1_14) (by decide) (by decide) ⟨rfl, rfl⟩

def fX3_2_1 (y0 y1 y2 p2 : Int32) : Int32 := (if y0 = p2 then (1 : Int32) else (0 : Int32))
theorem ef1_3_2_1 (m : MethodId) (o0 : Addr) (p2 : Int32) : entryFrame m #[(.ref o0), (.int (2 : Int32)), (.int p2), (.int (1 : Int32))] 5 = mkF m 0 #[.val (.ref o0), .val (.int (2 : Int32)), .val (.int p2), .val (.int (1 : Int32)), .unset] [] := by first | (simp [entryFrame, mkF, argsToLocals, Value.category]; done) | rfl
set_option maxRecDepth 65536 in
set_option maxHeartbeats 40000000 in
theorem rm1_3_2_1 (l : Launch) (Z : State) (a0 : Array Value) (hw : ∀ d ∈ tables_1, d.before a0 Z = true) (o0 : Addr) (p2 : Int32) (h0 : Heap) (n0 : Nat) (y0 y1 y2 : Int32) (fr : List (Addr × (Cell → Prop))) (O0 : Own.Owns n0 h0 ((o0, Own.ArrC Z .char [(.int y0), (.int y1), (.int y2)]) :: fr)) (hy0 : nar .char y0 = y0) (hy1 : nar .char y1 = y1) (hy2 : nar .char y2 = y2) (hc : nar .char p2 = p2) : Own.Does l (⟨"com/example/idxof/idxof/KnuthMorrisPrattPatternExtendPinLaw", "ends", "([CICI)Z"⟩ : MethodName) method_3_code 5 (some .boolean) [] ({ frames := 1, cells := 0, slots := 0, locals := 24 } : Room) Z #[(.ref o0), (.int (2 : Int32)), (.int p2), (.int (1 : Int32))] h0 n0 (fun v h => v = some (.int (fX3_2_1 y0 y1 y2 p2)) ∧ h = h0) := by
  refine Own.doesOf pn4 ?_
  intro p e s m below meth c hx hby hml hret hlk hown hnm hZ
  refine Own.Goes.cast (ef1_3_2_1 m o0 p2) ?_
  refine Own.iloadN hx (1 : Int32) (hb hby d1_0) rfl rfl ?_
  refine Own.iloadN hx (2 : Int32) (hb hby d1_1) rfl rfl ?_
  refine Own.iconst hx (1 : Int32) (hb hby d1_2) rfl (by decide) ?_
  refine Own.iadd hx (hb hby d1_3) rfl ?_
  refine Own.vI (3 : Int32) (by decide) ?_
  have hc1 : ¬ ((3 : Int32) < (1 : Int32)) := by decide
  refine Own.icmpF hx (Own.q_gt (1 : Int32) (3 : Int32)) (hb hby d1_4) (pcN := 7) rfl (by decide) (pcT := 13) rfl (fun q => absurd q hc1) (fun _ => ?_)
  refine Own.iloadN hx (1 : Int32) (hb hby d1_7) rfl rfl ?_
  refine Own.aloadN hx (.ref o0) (hb hby d1_8) rfl rfl rfl ?_
  refine Own.arrlen hx hZ O0 0 rfl (3 : Int32) rfl (hb hby d1_9) rfl ?_
  have hc3 : ¬ ((3 : Int32) < (1 : Int32)) := by decide
  refine Own.icmpFn hx (Own.q_le (1 : Int32) (3 : Int32)) (hb hby d1_10) (pcN := 13) rfl (by decide) (pcT := 15) rfl (fun _ => ?_) (fun q => absurd q hc3)
  refine Own.iloadN hx (2 : Int32) (hb hby d1_15) rfl rfl ?_
  refine Own.iconst hx (1 : Int32) (hb hby d1_16) rfl (by decide) ?_
  refine Own.iadd hx (hb hby d1_17) rfl ?_
  refine Own.vI (3 : Int32) (by decide) ?_
  refine Own.iloadN hx (1 : Int32) (hb hby d1_18) rfl rfl ?_
  refine Own.isub hx (hb hby d1_19) rfl ?_
  refine Own.vI (2 : Int32) (by decide) ?_
  refine Own.istore hx (2 : Int32) rfl #[.val (.ref o0), .val (.int (2 : Int32)), .val (.int p2), .val (.int (1 : Int32)), .val (.int (2 : Int32))] (hb hby d1_20) rfl rfl ?_
  refine Own.iconst hx (0 : Int32) (hb hby d1_22) rfl (by decide) ?_
  refine Own.iloadN hx (1 : Int32) (hb hby d1_23) rfl rfl ?_
  have hc5 : (0 : Int32) < (1 : Int32) := by decide
  refine Own.icmpFn hx (Own.q_ge (0 : Int32) (1 : Int32)) (hb hby d1_24) (pcN := 27) rfl (by decide) (pcT := 41) rfl (fun q => absurd hc5 q) (fun _ => ?_)
  refine Own.aloadN hx (.ref o0) (hb hby d1_27) rfl rfl rfl ?_
  refine Own.iconst hx (0 : Int32) (hb hby d1_28) rfl (by decide) ?_
  refine Own.caload hx hZ O0 0 0 rfl (by decide) (v := (.int y0)) rfl (hb hby d1_29) rfl ?_
  refine Own.aloadN hx (.ref o0) (hb hby d1_30) rfl rfl rfl ?_
  refine Own.iloadN hx (2 : Int32) (hb hby d1_31) rfl rfl ?_
  refine Own.iloadN hx p2 (hb hby d1_32) rfl rfl ?_
  refine Own.iload hx (2 : Int32) (hb hby d1_33) rfl rfl ?_
  refine Own.callS hx hZ hown (hw _ (List.mem_of_getElem? (i := 5) rfl)) (hw _ (List.mem_of_getElem? (i := 6) rfl)) (hw _ (List.mem_of_getElem? (i := 3) rfl)) (hw _ (List.mem_of_getElem? (i := 7) rfl)) (by decide) pd1 (argsL := [(.ref o0), (.int (2 : Int32)), (.int p2), (.int (2 : Int32))]) (rest := [(.int y0)]) rfl (W := 1) (Nat.le_of_eq rfl) (rm := ({ frames := 0, cells := 0, slots := 0, locals := 0 } : Room)) (by decide) (by decide) (by decide) (by decide) (k' := 0) (n' := 0) rfl rfl (by rw [hml]; rfl) [(.int (2 : Int32)), (.int p2), (.int (2 : Int32)), (.ref o0), (.int y0)] rfl (hb hby d1_35) (pc' := 38) rfl (rm2_c l Z a0 hw o0 (2 : Int32) p2 (2 : Int32) h0 n0 (by decide) hc) ?_
  rintro _ h' ⟨rfl, eh⟩
  rw [eh]; clear eh h'
  show Own.Goes _ _ _ _ _ _ _ _ _ _ _ _ _ _ _ _ _ (mkF m 38 #[.val (.ref o0), .val (.int (2 : Int32)), .val (.int p2), .val (.int (1 : Int32)), .val (.int (2 : Int32))] [(.int p2), (.int y0)])
  refine Own.icmpFn hx (Own.q_ne y0 p2) (hb hby d1_38) (pcN := 41) rfl (by decide) (pcT := 108) rfl (fun hc7 => ?_) (fun hc7 => ?_)
  · refine Own.iconst hx (0 : Int32) (hb hby d1_108) rfl (by decide) ?_
    exact Own.retS hx hret (by simp) hlk (hb hby d1_109) (by decide) (by decide) ⟨by rw [show fX3_2_1 y0 y1 y2 p2 = (0 : Int32) from by simp only [fX3_2_1, if_neg hc7]]; try rfl, rfl⟩
  · refine Own.iconst hx (1 : Int32) (hb hby d1_41) rfl (by decide) ?_
    refine Own.iloadN hx (1 : Int32) (hb hby d1_42) rfl rfl ?_
    have hc8 : ¬ ((1 : Int32) < (1 : Int32)) := by decide
    refine Own.icmpFn hx (Own.q_ge (1 : Int32) (1 : Int32)) (hb hby d1_43) (pcN := 46) rfl (by decide) (pcT := 62) rfl (fun _ => ?_) (fun q => absurd q hc8)
    refine Own.iconst hx (2 : Int32) (hb hby d1_62) rfl (by decide) ?_
    refine Own.iloadN hx (1 : Int32) (hb hby d1_63) rfl rfl ?_
    have hc10 : ¬ ((2 : Int32) < (1 : Int32)) := by decide
    refine Own.icmpFn hx (Own.q_ge (2 : Int32) (1 : Int32)) (hb hby d1_64) (pcN := 67) rfl (by decide) (pcT := 83) rfl (fun _ => ?_) (fun q => absurd q hc10)
    refine Own.iconst hx (3 : Int32) (hb hby d1_83) rfl (by decide) ?_
    refine Own.iloadN hx (1 : Int32) (hb hby d1_84) rfl rfl ?_
    have hc12 : ¬ ((3 : Int32) < (1 : Int32)) := by decide
    refine Own.icmpFn hx (Own.q_ge (3 : Int32) (1 : Int32)) (hb hby d1_85) (pcN := 88) rfl (by decide) (pcT := 104) rfl (fun _ => ?_) (fun q => absurd q hc12)
    refine Own.iconst hx (1 : Int32) (hb hby d1_104) rfl (by decide) ?_
    refine Own.goto hx (hb hby d1_105) (by decide) (pc' := 109) rfl ?_
    exact Own.retS hx hret (by simp) hlk (hb hby d1_109) (by decide) (by decide) ⟨by rw [show fX3_2_1 y0 y1 y2 p2 = (1 : Int32) from by simp only [fX3_2_1, if_pos hc7]]; try rfl, rfl⟩

def fX3_2_2 (y0 y1 y2 p2 : Int32) : Int32 := (if y0 = y1 then (if y1 = p2 then (1 : Int32) else (0 : Int32)) else (0 : Int32))
theorem ef1_3_2_2 (m : MethodId) (o0 : Addr) (p2 : Int32) : entryFrame m #[(.ref o0), (.int (2 : Int32)), (.int p2), (.int (2 : Int32))] 5 = mkF m 0 #[.val (.ref o0), .val (.int (2 : Int32)), .val (.int p2), .val (.int (2 : Int32)), .unset] [] := by first | (simp [entryFrame, mkF, argsToLocals, Value.category]; done) | rfl
set_option maxRecDepth 65536 in
set_option maxHeartbeats 40000000 in
theorem rm1_3_2_2 (l : Launch) (Z : State) (a0 : Array Value) (hw : ∀ d ∈ tables_1, d.before a0 Z = true) (o0 : Addr) (p2 : Int32) (h0 : Heap) (n0 : Nat) (y0 y1 y2 : Int32) (fr : List (Addr × (Cell → Prop))) (O0 : Own.Owns n0 h0 ((o0, Own.ArrC Z .char [(.int y0), (.int y1), (.int y2)]) :: fr)) (hy0 : nar .char y0 = y0) (hy1 : nar .char y1 = y1) (hy2 : nar .char y2 = y2) (hc : nar .char p2 = p2) : Own.Does l (⟨"com/example/idxof/idxof/KnuthMorrisPrattPatternExtendPinLaw", "ends", "([CICI)Z"⟩ : MethodName) method_3_code 5 (some .boolean) [] ({ frames := 1, cells := 0, slots := 0, locals := 24 } : Room) Z #[(.ref o0), (.int (2 : Int32)), (.int p2), (.int (2 : Int32))] h0 n0 (fun v h => v = some (.int (fX3_2_2 y0 y1 y2 p2)) ∧ h = h0) := by
  refine Own.doesOf pn4 ?_
  intro p e s m below meth c hx hby hml hret hlk hown hnm hZ
  refine Own.Goes.cast (ef1_3_2_2 m o0 p2) ?_
  refine Own.iloadN hx (2 : Int32) (hb hby d1_0) rfl rfl ?_
  refine Own.iloadN hx (2 : Int32) (hb hby d1_1) rfl rfl ?_
  refine Own.iconst hx (1 : Int32) (hb hby d1_2) rfl (by decide) ?_
  refine Own.iadd hx (hb hby d1_3) rfl ?_
  refine Own.vI (3 : Int32) (by decide) ?_
  have hc1 : ¬ ((3 : Int32) < (2 : Int32)) := by decide
  refine Own.icmpF hx (Own.q_gt (2 : Int32) (3 : Int32)) (hb hby d1_4) (pcN := 7) rfl (by decide) (pcT := 13) rfl (fun q => absurd q hc1) (fun _ => ?_)
  refine Own.iloadN hx (2 : Int32) (hb hby d1_7) rfl rfl ?_
  refine Own.aloadN hx (.ref o0) (hb hby d1_8) rfl rfl rfl ?_
  refine Own.arrlen hx hZ O0 0 rfl (3 : Int32) rfl (hb hby d1_9) rfl ?_
  have hc3 : ¬ ((3 : Int32) < (2 : Int32)) := by decide
  refine Own.icmpFn hx (Own.q_le (2 : Int32) (3 : Int32)) (hb hby d1_10) (pcN := 13) rfl (by decide) (pcT := 15) rfl (fun _ => ?_) (fun q => absurd q hc3)
  refine Own.iloadN hx (2 : Int32) (hb hby d1_15) rfl rfl ?_
  refine Own.iconst hx (1 : Int32) (hb hby d1_16) rfl (by decide) ?_
  refine Own.iadd hx (hb hby d1_17) rfl ?_
  refine Own.vI (3 : Int32) (by decide) ?_
  refine Own.iloadN hx (2 : Int32) (hb hby d1_18) rfl rfl ?_
  refine Own.isub hx (hb hby d1_19) rfl ?_
  refine Own.vI (1 : Int32) (by decide) ?_
  refine Own.istore hx (1 : Int32) rfl #[.val (.ref o0), .val (.int (2 : Int32)), .val (.int p2), .val (.int (2 : Int32)), .val (.int (1 : Int32))] (hb hby d1_20) rfl rfl ?_
  refine Own.iconst hx (0 : Int32) (hb hby d1_22) rfl (by decide) ?_
  refine Own.iloadN hx (2 : Int32) (hb hby d1_23) rfl rfl ?_
  have hc5 : (0 : Int32) < (2 : Int32) := by decide
  refine Own.icmpFn hx (Own.q_ge (0 : Int32) (2 : Int32)) (hb hby d1_24) (pcN := 27) rfl (by decide) (pcT := 41) rfl (fun q => absurd hc5 q) (fun _ => ?_)
  refine Own.aloadN hx (.ref o0) (hb hby d1_27) rfl rfl rfl ?_
  refine Own.iconst hx (0 : Int32) (hb hby d1_28) rfl (by decide) ?_
  refine Own.caload hx hZ O0 0 0 rfl (by decide) (v := (.int y0)) rfl (hb hby d1_29) rfl ?_
  refine Own.aloadN hx (.ref o0) (hb hby d1_30) rfl rfl rfl ?_
  refine Own.iloadN hx (2 : Int32) (hb hby d1_31) rfl rfl ?_
  refine Own.iloadN hx p2 (hb hby d1_32) rfl rfl ?_
  refine Own.iload hx (1 : Int32) (hb hby d1_33) rfl rfl ?_
  refine Own.callS hx hZ hown (hw _ (List.mem_of_getElem? (i := 5) rfl)) (hw _ (List.mem_of_getElem? (i := 6) rfl)) (hw _ (List.mem_of_getElem? (i := 3) rfl)) (hw _ (List.mem_of_getElem? (i := 7) rfl)) (by decide) pd1 (argsL := [(.ref o0), (.int (2 : Int32)), (.int p2), (.int (1 : Int32))]) (rest := [(.int y0)]) rfl (W := 1) (Nat.le_of_eq rfl) (rm := ({ frames := 0, cells := 0, slots := 0, locals := 0 } : Room)) (by decide) (by decide) (by decide) (by decide) (k' := 0) (n' := 0) rfl rfl (by rw [hml]; rfl) [(.int (1 : Int32)), (.int p2), (.int (2 : Int32)), (.ref o0), (.int y0)] rfl (hb hby d1_35) (pc' := 38) rfl (rm2_3_1 l Z a0 hw o0 (2 : Int32) p2 h0 n0 y0 y1 y2 fr O0 (by decide) hy1) ?_
  rintro _ h' ⟨rfl, eh⟩
  rw [eh]; clear eh h'
  show Own.Goes _ _ _ _ _ _ _ _ _ _ _ _ _ _ _ _ _ (mkF m 38 #[.val (.ref o0), .val (.int (2 : Int32)), .val (.int p2), .val (.int (2 : Int32)), .val (.int (1 : Int32))] [(.int y1), (.int y0)])
  refine Own.icmpFn hx (Own.q_ne y0 y1) (hb hby d1_38) (pcN := 41) rfl (by decide) (pcT := 108) rfl (fun hc7 => ?_) (fun hc7 => ?_)
  · refine Own.iconst hx (0 : Int32) (hb hby d1_108) rfl (by decide) ?_
    exact Own.retS hx hret (by simp) hlk (hb hby d1_109) (by decide) (by decide) ⟨by rw [show fX3_2_2 y0 y1 y2 p2 = (0 : Int32) from by simp only [fX3_2_2, if_neg hc7]]; try rfl, rfl⟩
  · refine Own.iconst hx (1 : Int32) (hb hby d1_41) rfl (by decide) ?_
    refine Own.iloadN hx (2 : Int32) (hb hby d1_42) rfl rfl ?_
    have hc8 : (1 : Int32) < (2 : Int32) := by decide
    refine Own.icmpFn hx (Own.q_ge (1 : Int32) (2 : Int32)) (hb hby d1_43) (pcN := 46) rfl (by decide) (pcT := 62) rfl (fun q => absurd hc8 q) (fun _ => ?_)
    refine Own.aloadN hx (.ref o0) (hb hby d1_46) rfl rfl rfl ?_
    refine Own.iconst hx (1 : Int32) (hb hby d1_47) rfl (by decide) ?_
    refine Own.caload hx hZ O0 0 1 rfl (by decide) (v := (.int y1)) rfl (hb hby d1_48) rfl ?_
    refine Own.aloadN hx (.ref o0) (hb hby d1_49) rfl rfl rfl ?_
    refine Own.iloadN hx (2 : Int32) (hb hby d1_50) rfl rfl ?_
    refine Own.iloadN hx p2 (hb hby d1_51) rfl rfl ?_
    refine Own.iload hx (1 : Int32) (hb hby d1_52) rfl rfl ?_
    refine Own.iconst hx (1 : Int32) (hb hby d1_54) rfl (by decide) ?_
    refine Own.iadd hx (hb hby d1_55) rfl ?_
    refine Own.vI (2 : Int32) (by decide) ?_
    refine Own.callS hx hZ hown (hw _ (List.mem_of_getElem? (i := 5) rfl)) (hw _ (List.mem_of_getElem? (i := 6) rfl)) (hw _ (List.mem_of_getElem? (i := 3) rfl)) (hw _ (List.mem_of_getElem? (i := 7) rfl)) (by decide) pd1 (argsL := [(.ref o0), (.int (2 : Int32)), (.int p2), (.int (2 : Int32))]) (rest := [(.int y1)]) rfl (W := 1) (Nat.le_of_eq rfl) (rm := ({ frames := 0, cells := 0, slots := 0, locals := 0 } : Room)) (by decide) (by decide) (by decide) (by decide) (k' := 0) (n' := 0) rfl rfl (by rw [hml]; rfl) [(.int (2 : Int32)), (.int p2), (.int (2 : Int32)), (.ref o0), (.int y1)] rfl (hb hby d1_56) (pc' := 59) rfl (rm2_c l Z a0 hw o0 (2 : Int32) p2 (2 : Int32) h0 n0 (by decide) hc) ?_
    rintro _ h' ⟨rfl, eh⟩
    rw [eh]; clear eh h'
    show Own.Goes _ _ _ _ _ _ _ _ _ _ _ _ _ _ _ _ _ (mkF m 59 #[.val (.ref o0), .val (.int (2 : Int32)), .val (.int p2), .val (.int (2 : Int32)), .val (.int (1 : Int32))] [(.int p2), (.int y1)])
    refine Own.icmpFn hx (Own.q_ne y1 p2) (hb hby d1_59) (pcN := 62) rfl (by decide) (pcT := 108) rfl (fun hc10 => ?_) (fun hc10 => ?_)
    · refine Own.iconst hx (0 : Int32) (hb hby d1_108) rfl (by decide) ?_
      exact Own.retS hx hret (by simp) hlk (hb hby d1_109) (by decide) (by decide) ⟨by rw [show fX3_2_2 y0 y1 y2 p2 = (0 : Int32) from by simp only [fX3_2_2, if_pos hc7, if_neg hc10]]; try rfl, rfl⟩
    · refine Own.iconst hx (2 : Int32) (hb hby d1_62) rfl (by decide) ?_
      refine Own.iloadN hx (2 : Int32) (hb hby d1_63) rfl rfl ?_
      have hc11 : ¬ ((2 : Int32) < (2 : Int32)) := by decide
      refine Own.icmpFn hx (Own.q_ge (2 : Int32) (2 : Int32)) (hb hby d1_64) (pcN := 67) rfl (by decide) (pcT := 83) rfl (fun _ => ?_) (fun q => absurd q hc11)
      refine Own.iconst hx (3 : Int32) (hb hby d1_83) rfl (by decide) ?_
      refine Own.iloadN hx (2 : Int32) (hb hby d1_84) rfl rfl ?_
      have hc13 : ¬ ((3 : Int32) < (2 : Int32)) := by decide
      refine Own.icmpFn hx (Own.q_ge (3 : Int32) (2 : Int32)) (hb hby d1_85) (pcN := 88) rfl (by decide) (pcT := 104) rfl (fun _ => ?_) (fun q => absurd q hc13)
      refine Own.iconst hx (1 : Int32) (hb hby d1_104) rfl (by decide) ?_
      refine Own.goto hx (hb hby d1_105) (by decide) (pc' := 109) rfl ?_
      exact Own.retS hx hret (by simp) hlk (hb hby d1_109) (by decide) (by decide) ⟨by rw [show fX3_2_2 y0 y1 y2 p2 = (1 : Int32) from by simp only [fX3_2_2, if_pos hc7, if_pos hc10]]; try rfl, rfl⟩

def fX3_2_3 (y0 y1 y2 p2 : Int32) : Int32 := (if y2 = p2 then (1 : Int32) else (0 : Int32))
theorem d1_67 : decode method_3_code 67 = .ok (.aload_n 0, 1) := by decide +kernel
theorem d1_68 : decode method_3_code 68 = .ok (.iconst 2, 1) := by decide +kernel
theorem d1_69 : decode method_3_code 69 = .ok (.caload, 1) := by decide +kernel
theorem d1_70 : decode method_3_code 70 = .ok (.aload_n 0, 1) := by decide +kernel
theorem d1_71 : decode method_3_code 71 = .ok (.iload_n 1, 1) := by decide +kernel
theorem d1_72 : decode method_3_code 72 = .ok (.iload_n 2, 1) := by decide +kernel
theorem d1_73 : decode method_3_code 73 = .ok (.iload 4, 2) := by decide +kernel
theorem d1_75 : decode method_3_code 75 = .ok (.iconst 2, 1) := by decide +kernel
theorem d1_76 : decode method_3_code 76 = .ok (.iadd, 1) := by decide +kernel
theorem d1_77 : decode method_3_code 77 = .ok (.invokestatic 7, 3) := by decide +kernel
theorem d1_80 : decode method_3_code 80 = .ok (.if_icmp .ne 28, 3) := by decide +kernel
theorem ef1_3_2_3 (m : MethodId) (o0 : Addr) (p2 : Int32) : entryFrame m #[(.ref o0), (.int (2 : Int32)), (.int p2), (.int (3 : Int32))] 5 = mkF m 0 #[.val (.ref o0), .val (.int (2 : Int32)), .val (.int p2), .val (.int (3 : Int32)), .unset] [] := by first | (simp [entryFrame, mkF, argsToLocals, Value.category]; done) | rfl
set_option maxRecDepth 65536 in
set_option maxHeartbeats 40000000 in
theorem rm1_3_2_3 (l : Launch) (Z : State) (a0 : Array Value) (hw : ∀ d ∈ tables_1, d.before a0 Z = true) (o0 : Addr) (p2 : Int32) (h0 : Heap) (n0 : Nat) (y0 y1 y2 : Int32) (fr : List (Addr × (Cell → Prop))) (O0 : Own.Owns n0 h0 ((o0, Own.ArrC Z .char [(.int y0), (.int y1), (.int y2)]) :: fr)) (hy0 : nar .char y0 = y0) (hy1 : nar .char y1 = y1) (hy2 : nar .char y2 = y2) (hc : nar .char p2 = p2) : Own.Does l (⟨"com/example/idxof/idxof/KnuthMorrisPrattPatternExtendPinLaw", "ends", "([CICI)Z"⟩ : MethodName) method_3_code 5 (some .boolean) [] ({ frames := 1, cells := 0, slots := 0, locals := 24 } : Room) Z #[(.ref o0), (.int (2 : Int32)), (.int p2), (.int (3 : Int32))] h0 n0 (fun v h => v = some (.int (fX3_2_3 y0 y1 y2 p2)) ∧ h = h0) := by
  refine Own.doesOf pn4 ?_
  intro p e s m below meth c hx hby hml hret hlk hown hnm hZ
  refine Own.Goes.cast (ef1_3_2_3 m o0 p2) ?_
  refine Own.iloadN hx (3 : Int32) (hb hby d1_0) rfl rfl ?_
  refine Own.iloadN hx (2 : Int32) (hb hby d1_1) rfl rfl ?_
  refine Own.iconst hx (1 : Int32) (hb hby d1_2) rfl (by decide) ?_
  refine Own.iadd hx (hb hby d1_3) rfl ?_
  refine Own.vI (3 : Int32) (by decide) ?_
  have hc1 : ¬ ((3 : Int32) < (3 : Int32)) := by decide
  refine Own.icmpF hx (Own.q_gt (3 : Int32) (3 : Int32)) (hb hby d1_4) (pcN := 7) rfl (by decide) (pcT := 13) rfl (fun q => absurd q hc1) (fun _ => ?_)
  refine Own.iloadN hx (3 : Int32) (hb hby d1_7) rfl rfl ?_
  refine Own.aloadN hx (.ref o0) (hb hby d1_8) rfl rfl rfl ?_
  refine Own.arrlen hx hZ O0 0 rfl (3 : Int32) rfl (hb hby d1_9) rfl ?_
  have hc3 : ¬ ((3 : Int32) < (3 : Int32)) := by decide
  refine Own.icmpFn hx (Own.q_le (3 : Int32) (3 : Int32)) (hb hby d1_10) (pcN := 13) rfl (by decide) (pcT := 15) rfl (fun _ => ?_) (fun q => absurd q hc3)
  refine Own.iloadN hx (2 : Int32) (hb hby d1_15) rfl rfl ?_
  refine Own.iconst hx (1 : Int32) (hb hby d1_16) rfl (by decide) ?_
  refine Own.iadd hx (hb hby d1_17) rfl ?_
  refine Own.vI (3 : Int32) (by decide) ?_
  refine Own.iloadN hx (3 : Int32) (hb hby d1_18) rfl rfl ?_
  refine Own.isub hx (hb hby d1_19) rfl ?_
  refine Own.vI (0 : Int32) (by decide) ?_
  refine Own.istore hx (0 : Int32) rfl #[.val (.ref o0), .val (.int (2 : Int32)), .val (.int p2), .val (.int (3 : Int32)), .val (.int (0 : Int32))] (hb hby d1_20) rfl rfl ?_
  refine Own.iconst hx (0 : Int32) (hb hby d1_22) rfl (by decide) ?_
  refine Own.iloadN hx (3 : Int32) (hb hby d1_23) rfl rfl ?_
  have hc5 : (0 : Int32) < (3 : Int32) := by decide
  refine Own.icmpFn hx (Own.q_ge (0 : Int32) (3 : Int32)) (hb hby d1_24) (pcN := 27) rfl (by decide) (pcT := 41) rfl (fun q => absurd hc5 q) (fun _ => ?_)
  refine Own.aloadN hx (.ref o0) (hb hby d1_27) rfl rfl rfl ?_
  refine Own.iconst hx (0 : Int32) (hb hby d1_28) rfl (by decide) ?_
  refine Own.caload hx hZ O0 0 0 rfl (by decide) (v := (.int y0)) rfl (hb hby d1_29) rfl ?_
  refine Own.aloadN hx (.ref o0) (hb hby d1_30) rfl rfl rfl ?_
  refine Own.iloadN hx (2 : Int32) (hb hby d1_31) rfl rfl ?_
  refine Own.iloadN hx p2 (hb hby d1_32) rfl rfl ?_
  refine Own.iload hx (0 : Int32) (hb hby d1_33) rfl rfl ?_
  refine Own.callS hx hZ hown (hw _ (List.mem_of_getElem? (i := 5) rfl)) (hw _ (List.mem_of_getElem? (i := 6) rfl)) (hw _ (List.mem_of_getElem? (i := 3) rfl)) (hw _ (List.mem_of_getElem? (i := 7) rfl)) (by decide) pd1 (argsL := [(.ref o0), (.int (2 : Int32)), (.int p2), (.int (0 : Int32))]) (rest := [(.int y0)]) rfl (W := 1) (Nat.le_of_eq rfl) (rm := ({ frames := 0, cells := 0, slots := 0, locals := 0 } : Room)) (by decide) (by decide) (by decide) (by decide) (k' := 0) (n' := 0) rfl rfl (by rw [hml]; rfl) [(.int (0 : Int32)), (.int p2), (.int (2 : Int32)), (.ref o0), (.int y0)] rfl (hb hby d1_35) (pc' := 38) rfl (rm2_3_0 l Z a0 hw o0 (2 : Int32) p2 h0 n0 y0 y1 y2 fr O0 (by decide) hy0) ?_
  rintro _ h' ⟨rfl, eh⟩
  rw [eh]; clear eh h'
  show Own.Goes _ _ _ _ _ _ _ _ _ _ _ _ _ _ _ _ _ (mkF m 38 #[.val (.ref o0), .val (.int (2 : Int32)), .val (.int p2), .val (.int (3 : Int32)), .val (.int (0 : Int32))] [(.int y0), (.int y0)])
  have hc7 : y0 = y0 := rfl
  refine Own.icmpFn hx (Own.q_ne y0 y0) (hb hby d1_38) (pcN := 41) rfl (by decide) (pcT := 108) rfl (fun q => absurd hc7 q) (fun _ => ?_)
  refine Own.iconst hx (1 : Int32) (hb hby d1_41) rfl (by decide) ?_
  refine Own.iloadN hx (3 : Int32) (hb hby d1_42) rfl rfl ?_
  have hc9 : (1 : Int32) < (3 : Int32) := by decide
  refine Own.icmpFn hx (Own.q_ge (1 : Int32) (3 : Int32)) (hb hby d1_43) (pcN := 46) rfl (by decide) (pcT := 62) rfl (fun q => absurd hc9 q) (fun _ => ?_)
  refine Own.aloadN hx (.ref o0) (hb hby d1_46) rfl rfl rfl ?_
  refine Own.iconst hx (1 : Int32) (hb hby d1_47) rfl (by decide) ?_
  refine Own.caload hx hZ O0 0 1 rfl (by decide) (v := (.int y1)) rfl (hb hby d1_48) rfl ?_
  refine Own.aloadN hx (.ref o0) (hb hby d1_49) rfl rfl rfl ?_
  refine Own.iloadN hx (2 : Int32) (hb hby d1_50) rfl rfl ?_
  refine Own.iloadN hx p2 (hb hby d1_51) rfl rfl ?_
  refine Own.iload hx (0 : Int32) (hb hby d1_52) rfl rfl ?_
  refine Own.iconst hx (1 : Int32) (hb hby d1_54) rfl (by decide) ?_
  refine Own.iadd hx (hb hby d1_55) rfl ?_
  refine Own.vI (1 : Int32) (by decide) ?_
  refine Own.callS hx hZ hown (hw _ (List.mem_of_getElem? (i := 5) rfl)) (hw _ (List.mem_of_getElem? (i := 6) rfl)) (hw _ (List.mem_of_getElem? (i := 3) rfl)) (hw _ (List.mem_of_getElem? (i := 7) rfl)) (by decide) pd1 (argsL := [(.ref o0), (.int (2 : Int32)), (.int p2), (.int (1 : Int32))]) (rest := [(.int y1)]) rfl (W := 1) (Nat.le_of_eq rfl) (rm := ({ frames := 0, cells := 0, slots := 0, locals := 0 } : Room)) (by decide) (by decide) (by decide) (by decide) (k' := 0) (n' := 0) rfl rfl (by rw [hml]; rfl) [(.int (1 : Int32)), (.int p2), (.int (2 : Int32)), (.ref o0), (.int y1)] rfl (hb hby d1_56) (pc' := 59) rfl (rm2_3_1 l Z a0 hw o0 (2 : Int32) p2 h0 n0 y0 y1 y2 fr O0 (by decide) hy1) ?_
  rintro _ h' ⟨rfl, eh⟩
  rw [eh]; clear eh h'
  show Own.Goes _ _ _ _ _ _ _ _ _ _ _ _ _ _ _ _ _ (mkF m 59 #[.val (.ref o0), .val (.int (2 : Int32)), .val (.int p2), .val (.int (3 : Int32)), .val (.int (0 : Int32))] [(.int y1), (.int y1)])
  have hc11 : y1 = y1 := rfl
  refine Own.icmpFn hx (Own.q_ne y1 y1) (hb hby d1_59) (pcN := 62) rfl (by decide) (pcT := 108) rfl (fun q => absurd hc11 q) (fun _ => ?_)
  refine Own.iconst hx (2 : Int32) (hb hby d1_62) rfl (by decide) ?_
  refine Own.iloadN hx (3 : Int32) (hb hby d1_63) rfl rfl ?_
  have hc13 : (2 : Int32) < (3 : Int32) := by decide
  refine Own.icmpFn hx (Own.q_ge (2 : Int32) (3 : Int32)) (hb hby d1_64) (pcN := 67) rfl (by decide) (pcT := 83) rfl (fun q => absurd hc13 q) (fun _ => ?_)
  refine Own.aloadN hx (.ref o0) (hb hby d1_67) rfl rfl rfl ?_
  refine Own.iconst hx (2 : Int32) (hb hby d1_68) rfl (by decide) ?_
  refine Own.caload hx hZ O0 0 2 rfl (by decide) (v := (.int y2)) rfl (hb hby d1_69) rfl ?_
  refine Own.aloadN hx (.ref o0) (hb hby d1_70) rfl rfl rfl ?_
  refine Own.iloadN hx (2 : Int32) (hb hby d1_71) rfl rfl ?_
  refine Own.iloadN hx p2 (hb hby d1_72) rfl rfl ?_
  refine Own.iload hx (0 : Int32) (hb hby d1_73) rfl rfl ?_
  refine Own.iconst hx (2 : Int32) (hb hby d1_75) rfl (by decide) ?_
  refine Own.iadd hx (hb hby d1_76) rfl ?_
  refine Own.vI (2 : Int32) (by decide) ?_
  refine Own.callS hx hZ hown (hw _ (List.mem_of_getElem? (i := 5) rfl)) (hw _ (List.mem_of_getElem? (i := 6) rfl)) (hw _ (List.mem_of_getElem? (i := 3) rfl)) (hw _ (List.mem_of_getElem? (i := 7) rfl)) (by decide) pd1 (argsL := [(.ref o0), (.int (2 : Int32)), (.int p2), (.int (2 : Int32))]) (rest := [(.int y2)]) rfl (W := 1) (Nat.le_of_eq rfl) (rm := ({ frames := 0, cells := 0, slots := 0, locals := 0 } : Room)) (by decide) (by decide) (by decide) (by decide) (k' := 0) (n' := 0) rfl rfl (by rw [hml]; rfl) [(.int (2 : Int32)), (.int p2), (.int (2 : Int32)), (.ref o0), (.int y2)] rfl (hb hby d1_77) (pc' := 80) rfl (rm2_c l Z a0 hw o0 (2 : Int32) p2 (2 : Int32) h0 n0 (by decide) hc) ?_
  rintro _ h' ⟨rfl, eh⟩
  rw [eh]; clear eh h'
  show Own.Goes _ _ _ _ _ _ _ _ _ _ _ _ _ _ _ _ _ (mkF m 80 #[.val (.ref o0), .val (.int (2 : Int32)), .val (.int p2), .val (.int (3 : Int32)), .val (.int (0 : Int32))] [(.int p2), (.int y2)])
  refine Own.icmpFn hx (Own.q_ne y2 p2) (hb hby d1_80) (pcN := 83) rfl (by decide) (pcT := 108) rfl (fun hc15 => ?_) (fun hc15 => ?_)
  · refine Own.iconst hx (0 : Int32) (hb hby d1_108) rfl (by decide) ?_
    exact Own.retS hx hret (by simp) hlk (hb hby d1_109) (by decide) (by decide) ⟨by rw [show fX3_2_3 y0 y1 y2 p2 = (0 : Int32) from by simp only [fX3_2_3, if_neg hc15]]; try rfl, rfl⟩
  · refine Own.iconst hx (3 : Int32) (hb hby d1_83) rfl (by decide) ?_
    refine Own.iloadN hx (3 : Int32) (hb hby d1_84) rfl rfl ?_
    have hc16 : ¬ ((3 : Int32) < (3 : Int32)) := by decide
    refine Own.icmpFn hx (Own.q_ge (3 : Int32) (3 : Int32)) (hb hby d1_85) (pcN := 88) rfl (by decide) (pcT := 104) rfl (fun _ => ?_) (fun q => absurd q hc16)
    refine Own.iconst hx (1 : Int32) (hb hby d1_104) rfl (by decide) ?_
    refine Own.goto hx (hb hby d1_105) (by decide) (pc' := 109) rfl ?_
    exact Own.retS hx hret (by simp) hlk (hb hby d1_109) (by decide) (by decide) ⟨by rw [show fX3_2_3 y0 y1 y2 p2 = (1 : Int32) from by simp only [fX3_2_3, if_pos hc15]]; try rfl, rfl⟩

theorem ef1_3_2_4 (m : MethodId) (o0 : Addr) (p2 : Int32) : entryFrame m #[(.ref o0), (.int (2 : Int32)), (.int p2), (.int (4 : Int32))] 5 = mkF m 0 #[.val (.ref o0), .val (.int (2 : Int32)), .val (.int p2), .val (.int (4 : Int32)), .unset] [] := by first | (simp [entryFrame, mkF, argsToLocals, Value.category]; done) | rfl
set_option maxRecDepth 65536 in
set_option maxHeartbeats 40000000 in
theorem rm1_3_2_4 (l : Launch) (Z : State) (a0 : Array Value) (hw : ∀ d ∈ tables_1, d.before a0 Z = true) (o0 : Addr) (p2 : Int32) (h0 : Heap) (n0 : Nat) (y0 y1 y2 : Int32) (fr : List (Addr × (Cell → Prop))) (O0 : Own.Owns n0 h0 ((o0, Own.ArrC Z .char [(.int y0), (.int y1), (.int y2)]) :: fr)) (hy0 : nar .char y0 = y0) (hy1 : nar .char y1 = y1) (hy2 : nar .char y2 = y2) (hc : nar .char p2 = p2) : Own.Does l (⟨"com/example/idxof/idxof/KnuthMorrisPrattPatternExtendPinLaw", "ends", "([CICI)Z"⟩ : MethodName) method_3_code 5 (some .boolean) [] ({ frames := 1, cells := 0, slots := 0, locals := 24 } : Room) Z #[(.ref o0), (.int (2 : Int32)), (.int p2), (.int (4 : Int32))] h0 n0 (fun v h => v = some (.int (0 : Int32)) ∧ h = h0) := by
  refine Own.doesOf pn4 ?_
  intro p e s m below meth c hx hby hml hret hlk hown hnm hZ
  refine Own.Goes.cast (ef1_3_2_4 m o0 p2) ?_
  refine Own.iloadN hx (4 : Int32) (hb hby d1_0) rfl rfl ?_
  refine Own.iloadN hx (2 : Int32) (hb hby d1_1) rfl rfl ?_
  refine Own.iconst hx (1 : Int32) (hb hby d1_2) rfl (by decide) ?_
  refine Own.iadd hx (hb hby d1_3) rfl ?_
  refine Own.vI (3 : Int32) (by decide) ?_
  have hc1 : (3 : Int32) < (4 : Int32) := by decide
  refine Own.icmpF hx (Own.q_gt (4 : Int32) (3 : Int32)) (hb hby d1_4) (pcN := 7) rfl (by decide) (pcT := 13) rfl (fun _ => ?_) (fun q => absurd hc1 q)
  refine Own.iconst hx (0 : Int32) (hb hby d1_13) rfl (by decide) ?_
  exact Own.retS hx hret (by simp) hlk (hb hby d1_14) (by decide) (by decide) ⟨rfl, rfl⟩

def fX3_3_1 (y0 y1 y2 p2 : Int32) : Int32 := (if y0 = p2 then (1 : Int32) else (0 : Int32))
theorem ef1_3_3_1 (m : MethodId) (o0 : Addr) (p2 : Int32) : entryFrame m #[(.ref o0), (.int (3 : Int32)), (.int p2), (.int (1 : Int32))] 5 = mkF m 0 #[.val (.ref o0), .val (.int (3 : Int32)), .val (.int p2), .val (.int (1 : Int32)), .unset] [] := by first | (simp [entryFrame, mkF, argsToLocals, Value.category]; done) | rfl
set_option maxRecDepth 65536 in
set_option maxHeartbeats 40000000 in
theorem rm1_3_3_1 (l : Launch) (Z : State) (a0 : Array Value) (hw : ∀ d ∈ tables_1, d.before a0 Z = true) (o0 : Addr) (p2 : Int32) (h0 : Heap) (n0 : Nat) (y0 y1 y2 : Int32) (fr : List (Addr × (Cell → Prop))) (O0 : Own.Owns n0 h0 ((o0, Own.ArrC Z .char [(.int y0), (.int y1), (.int y2)]) :: fr)) (hy0 : nar .char y0 = y0) (hy1 : nar .char y1 = y1) (hy2 : nar .char y2 = y2) (hc : nar .char p2 = p2) : Own.Does l (⟨"com/example/idxof/idxof/KnuthMorrisPrattPatternExtendPinLaw", "ends", "([CICI)Z"⟩ : MethodName) method_3_code 5 (some .boolean) [] ({ frames := 1, cells := 0, slots := 0, locals := 24 } : Room) Z #[(.ref o0), (.int (3 : Int32)), (.int p2), (.int (1 : Int32))] h0 n0 (fun v h => v = some (.int (fX3_3_1 y0 y1 y2 p2)) ∧ h = h0) := by
  refine Own.doesOf pn4 ?_
  intro p e s m below meth c hx hby hml hret hlk hown hnm hZ
  refine Own.Goes.cast (ef1_3_3_1 m o0 p2) ?_
  refine Own.iloadN hx (1 : Int32) (hb hby d1_0) rfl rfl ?_
  refine Own.iloadN hx (3 : Int32) (hb hby d1_1) rfl rfl ?_
  refine Own.iconst hx (1 : Int32) (hb hby d1_2) rfl (by decide) ?_
  refine Own.iadd hx (hb hby d1_3) rfl ?_
  refine Own.vI (4 : Int32) (by decide) ?_
  have hc1 : ¬ ((4 : Int32) < (1 : Int32)) := by decide
  refine Own.icmpF hx (Own.q_gt (1 : Int32) (4 : Int32)) (hb hby d1_4) (pcN := 7) rfl (by decide) (pcT := 13) rfl (fun q => absurd q hc1) (fun _ => ?_)
  refine Own.iloadN hx (1 : Int32) (hb hby d1_7) rfl rfl ?_
  refine Own.aloadN hx (.ref o0) (hb hby d1_8) rfl rfl rfl ?_
  refine Own.arrlen hx hZ O0 0 rfl (3 : Int32) rfl (hb hby d1_9) rfl ?_
  have hc3 : ¬ ((3 : Int32) < (1 : Int32)) := by decide
  refine Own.icmpFn hx (Own.q_le (1 : Int32) (3 : Int32)) (hb hby d1_10) (pcN := 13) rfl (by decide) (pcT := 15) rfl (fun _ => ?_) (fun q => absurd q hc3)
  refine Own.iloadN hx (3 : Int32) (hb hby d1_15) rfl rfl ?_
  refine Own.iconst hx (1 : Int32) (hb hby d1_16) rfl (by decide) ?_
  refine Own.iadd hx (hb hby d1_17) rfl ?_
  refine Own.vI (4 : Int32) (by decide) ?_
  refine Own.iloadN hx (1 : Int32) (hb hby d1_18) rfl rfl ?_
  refine Own.isub hx (hb hby d1_19) rfl ?_
  refine Own.vI (3 : Int32) (by decide) ?_
  refine Own.istore hx (3 : Int32) rfl #[.val (.ref o0), .val (.int (3 : Int32)), .val (.int p2), .val (.int (1 : Int32)), .val (.int (3 : Int32))] (hb hby d1_20) rfl rfl ?_
  refine Own.iconst hx (0 : Int32) (hb hby d1_22) rfl (by decide) ?_
  refine Own.iloadN hx (1 : Int32) (hb hby d1_23) rfl rfl ?_
  have hc5 : (0 : Int32) < (1 : Int32) := by decide
  refine Own.icmpFn hx (Own.q_ge (0 : Int32) (1 : Int32)) (hb hby d1_24) (pcN := 27) rfl (by decide) (pcT := 41) rfl (fun q => absurd hc5 q) (fun _ => ?_)
  refine Own.aloadN hx (.ref o0) (hb hby d1_27) rfl rfl rfl ?_
  refine Own.iconst hx (0 : Int32) (hb hby d1_28) rfl (by decide) ?_
  refine Own.caload hx hZ O0 0 0 rfl (by decide) (v := (.int y0)) rfl (hb hby d1_29) rfl ?_
  refine Own.aloadN hx (.ref o0) (hb hby d1_30) rfl rfl rfl ?_
  refine Own.iloadN hx (3 : Int32) (hb hby d1_31) rfl rfl ?_
  refine Own.iloadN hx p2 (hb hby d1_32) rfl rfl ?_
  refine Own.iload hx (3 : Int32) (hb hby d1_33) rfl rfl ?_
  refine Own.callS hx hZ hown (hw _ (List.mem_of_getElem? (i := 5) rfl)) (hw _ (List.mem_of_getElem? (i := 6) rfl)) (hw _ (List.mem_of_getElem? (i := 3) rfl)) (hw _ (List.mem_of_getElem? (i := 7) rfl)) (by decide) pd1 (argsL := [(.ref o0), (.int (3 : Int32)), (.int p2), (.int (3 : Int32))]) (rest := [(.int y0)]) rfl (W := 1) (Nat.le_of_eq rfl) (rm := ({ frames := 0, cells := 0, slots := 0, locals := 0 } : Room)) (by decide) (by decide) (by decide) (by decide) (k' := 0) (n' := 0) rfl rfl (by rw [hml]; rfl) [(.int (3 : Int32)), (.int p2), (.int (3 : Int32)), (.ref o0), (.int y0)] rfl (hb hby d1_35) (pc' := 38) rfl (rm2_c l Z a0 hw o0 (3 : Int32) p2 (3 : Int32) h0 n0 (by decide) hc) ?_
  rintro _ h' ⟨rfl, eh⟩
  rw [eh]; clear eh h'
  show Own.Goes _ _ _ _ _ _ _ _ _ _ _ _ _ _ _ _ _ (mkF m 38 #[.val (.ref o0), .val (.int (3 : Int32)), .val (.int p2), .val (.int (1 : Int32)), .val (.int (3 : Int32))] [(.int p2), (.int y0)])
  refine Own.icmpFn hx (Own.q_ne y0 p2) (hb hby d1_38) (pcN := 41) rfl (by decide) (pcT := 108) rfl (fun hc7 => ?_) (fun hc7 => ?_)
  · refine Own.iconst hx (0 : Int32) (hb hby d1_108) rfl (by decide) ?_
    exact Own.retS hx hret (by simp) hlk (hb hby d1_109) (by decide) (by decide) ⟨by rw [show fX3_3_1 y0 y1 y2 p2 = (0 : Int32) from by simp only [fX3_3_1, if_neg hc7]]; try rfl, rfl⟩
  · refine Own.iconst hx (1 : Int32) (hb hby d1_41) rfl (by decide) ?_
    refine Own.iloadN hx (1 : Int32) (hb hby d1_42) rfl rfl ?_
    have hc8 : ¬ ((1 : Int32) < (1 : Int32)) := by decide
    refine Own.icmpFn hx (Own.q_ge (1 : Int32) (1 : Int32)) (hb hby d1_43) (pcN := 46) rfl (by decide) (pcT := 62) rfl (fun _ => ?_) (fun q => absurd q hc8)
    refine Own.iconst hx (2 : Int32) (hb hby d1_62) rfl (by decide) ?_
    refine Own.iloadN hx (1 : Int32) (hb hby d1_63) rfl rfl ?_
    have hc10 : ¬ ((2 : Int32) < (1 : Int32)) := by decide
    refine Own.icmpFn hx (Own.q_ge (2 : Int32) (1 : Int32)) (hb hby d1_64) (pcN := 67) rfl (by decide) (pcT := 83) rfl (fun _ => ?_) (fun q => absurd q hc10)
    refine Own.iconst hx (3 : Int32) (hb hby d1_83) rfl (by decide) ?_
    refine Own.iloadN hx (1 : Int32) (hb hby d1_84) rfl rfl ?_
    have hc12 : ¬ ((3 : Int32) < (1 : Int32)) := by decide
    refine Own.icmpFn hx (Own.q_ge (3 : Int32) (1 : Int32)) (hb hby d1_85) (pcN := 88) rfl (by decide) (pcT := 104) rfl (fun _ => ?_) (fun q => absurd q hc12)
    refine Own.iconst hx (1 : Int32) (hb hby d1_104) rfl (by decide) ?_
    refine Own.goto hx (hb hby d1_105) (by decide) (pc' := 109) rfl ?_
    exact Own.retS hx hret (by simp) hlk (hb hby d1_109) (by decide) (by decide) ⟨by rw [show fX3_3_1 y0 y1 y2 p2 = (1 : Int32) from by simp only [fX3_3_1, if_pos hc7]]; try rfl, rfl⟩

def fX3_3_2 (y0 y1 y2 p2 : Int32) : Int32 := (if y0 = y2 then (if y1 = p2 then (1 : Int32) else (0 : Int32)) else (0 : Int32))
theorem ef1_3_3_2 (m : MethodId) (o0 : Addr) (p2 : Int32) : entryFrame m #[(.ref o0), (.int (3 : Int32)), (.int p2), (.int (2 : Int32))] 5 = mkF m 0 #[.val (.ref o0), .val (.int (3 : Int32)), .val (.int p2), .val (.int (2 : Int32)), .unset] [] := by first | (simp [entryFrame, mkF, argsToLocals, Value.category]; done) | rfl
set_option maxRecDepth 65536 in
set_option maxHeartbeats 40000000 in
theorem rm1_3_3_2 (l : Launch) (Z : State) (a0 : Array Value) (hw : ∀ d ∈ tables_1, d.before a0 Z = true) (o0 : Addr) (p2 : Int32) (h0 : Heap) (n0 : Nat) (y0 y1 y2 : Int32) (fr : List (Addr × (Cell → Prop))) (O0 : Own.Owns n0 h0 ((o0, Own.ArrC Z .char [(.int y0), (.int y1), (.int y2)]) :: fr)) (hy0 : nar .char y0 = y0) (hy1 : nar .char y1 = y1) (hy2 : nar .char y2 = y2) (hc : nar .char p2 = p2) : Own.Does l (⟨"com/example/idxof/idxof/KnuthMorrisPrattPatternExtendPinLaw", "ends", "([CICI)Z"⟩ : MethodName) method_3_code 5 (some .boolean) [] ({ frames := 1, cells := 0, slots := 0, locals := 24 } : Room) Z #[(.ref o0), (.int (3 : Int32)), (.int p2), (.int (2 : Int32))] h0 n0 (fun v h => v = some (.int (fX3_3_2 y0 y1 y2 p2)) ∧ h = h0) := by
  refine Own.doesOf pn4 ?_
  intro p e s m below meth c hx hby hml hret hlk hown hnm hZ
  refine Own.Goes.cast (ef1_3_3_2 m o0 p2) ?_
  refine Own.iloadN hx (2 : Int32) (hb hby d1_0) rfl rfl ?_
  refine Own.iloadN hx (3 : Int32) (hb hby d1_1) rfl rfl ?_
  refine Own.iconst hx (1 : Int32) (hb hby d1_2) rfl (by decide) ?_
  refine Own.iadd hx (hb hby d1_3) rfl ?_
  refine Own.vI (4 : Int32) (by decide) ?_
  have hc1 : ¬ ((4 : Int32) < (2 : Int32)) := by decide
  refine Own.icmpF hx (Own.q_gt (2 : Int32) (4 : Int32)) (hb hby d1_4) (pcN := 7) rfl (by decide) (pcT := 13) rfl (fun q => absurd q hc1) (fun _ => ?_)
  refine Own.iloadN hx (2 : Int32) (hb hby d1_7) rfl rfl ?_
  refine Own.aloadN hx (.ref o0) (hb hby d1_8) rfl rfl rfl ?_
  refine Own.arrlen hx hZ O0 0 rfl (3 : Int32) rfl (hb hby d1_9) rfl ?_
  have hc3 : ¬ ((3 : Int32) < (2 : Int32)) := by decide
  refine Own.icmpFn hx (Own.q_le (2 : Int32) (3 : Int32)) (hb hby d1_10) (pcN := 13) rfl (by decide) (pcT := 15) rfl (fun _ => ?_) (fun q => absurd q hc3)
  refine Own.iloadN hx (3 : Int32) (hb hby d1_15) rfl rfl ?_
  refine Own.iconst hx (1 : Int32) (hb hby d1_16) rfl (by decide) ?_
  refine Own.iadd hx (hb hby d1_17) rfl ?_
  refine Own.vI (4 : Int32) (by decide) ?_
  refine Own.iloadN hx (2 : Int32) (hb hby d1_18) rfl rfl ?_
  refine Own.isub hx (hb hby d1_19) rfl ?_
  refine Own.vI (2 : Int32) (by decide) ?_
  refine Own.istore hx (2 : Int32) rfl #[.val (.ref o0), .val (.int (3 : Int32)), .val (.int p2), .val (.int (2 : Int32)), .val (.int (2 : Int32))] (hb hby d1_20) rfl rfl ?_
  refine Own.iconst hx (0 : Int32) (hb hby d1_22) rfl (by decide) ?_
  refine Own.iloadN hx (2 : Int32) (hb hby d1_23) rfl rfl ?_
  have hc5 : (0 : Int32) < (2 : Int32) := by decide
  refine Own.icmpFn hx (Own.q_ge (0 : Int32) (2 : Int32)) (hb hby d1_24) (pcN := 27) rfl (by decide) (pcT := 41) rfl (fun q => absurd hc5 q) (fun _ => ?_)
  refine Own.aloadN hx (.ref o0) (hb hby d1_27) rfl rfl rfl ?_
  refine Own.iconst hx (0 : Int32) (hb hby d1_28) rfl (by decide) ?_
  refine Own.caload hx hZ O0 0 0 rfl (by decide) (v := (.int y0)) rfl (hb hby d1_29) rfl ?_
  refine Own.aloadN hx (.ref o0) (hb hby d1_30) rfl rfl rfl ?_
  refine Own.iloadN hx (3 : Int32) (hb hby d1_31) rfl rfl ?_
  refine Own.iloadN hx p2 (hb hby d1_32) rfl rfl ?_
  refine Own.iload hx (2 : Int32) (hb hby d1_33) rfl rfl ?_
  refine Own.callS hx hZ hown (hw _ (List.mem_of_getElem? (i := 5) rfl)) (hw _ (List.mem_of_getElem? (i := 6) rfl)) (hw _ (List.mem_of_getElem? (i := 3) rfl)) (hw _ (List.mem_of_getElem? (i := 7) rfl)) (by decide) pd1 (argsL := [(.ref o0), (.int (3 : Int32)), (.int p2), (.int (2 : Int32))]) (rest := [(.int y0)]) rfl (W := 1) (Nat.le_of_eq rfl) (rm := ({ frames := 0, cells := 0, slots := 0, locals := 0 } : Room)) (by decide) (by decide) (by decide) (by decide) (k' := 0) (n' := 0) rfl rfl (by rw [hml]; rfl) [(.int (2 : Int32)), (.int p2), (.int (3 : Int32)), (.ref o0), (.int y0)] rfl (hb hby d1_35) (pc' := 38) rfl (rm2_3_2 l Z a0 hw o0 (3 : Int32) p2 h0 n0 y0 y1 y2 fr O0 (by decide) hy2) ?_
  rintro _ h' ⟨rfl, eh⟩
  rw [eh]; clear eh h'
  show Own.Goes _ _ _ _ _ _ _ _ _ _ _ _ _ _ _ _ _ (mkF m 38 #[.val (.ref o0), .val (.int (3 : Int32)), .val (.int p2), .val (.int (2 : Int32)), .val (.int (2 : Int32))] [(.int y2), (.int y0)])
  refine Own.icmpFn hx (Own.q_ne y0 y2) (hb hby d1_38) (pcN := 41) rfl (by decide) (pcT := 108) rfl (fun hc7 => ?_) (fun hc7 => ?_)
  · refine Own.iconst hx (0 : Int32) (hb hby d1_108) rfl (by decide) ?_
    exact Own.retS hx hret (by simp) hlk (hb hby d1_109) (by decide) (by decide) ⟨by rw [show fX3_3_2 y0 y1 y2 p2 = (0 : Int32) from by simp only [fX3_3_2, if_neg hc7]]; try rfl, rfl⟩
  · refine Own.iconst hx (1 : Int32) (hb hby d1_41) rfl (by decide) ?_
    refine Own.iloadN hx (2 : Int32) (hb hby d1_42) rfl rfl ?_
    have hc8 : (1 : Int32) < (2 : Int32) := by decide
    refine Own.icmpFn hx (Own.q_ge (1 : Int32) (2 : Int32)) (hb hby d1_43) (pcN := 46) rfl (by decide) (pcT := 62) rfl (fun q => absurd hc8 q) (fun _ => ?_)
    refine Own.aloadN hx (.ref o0) (hb hby d1_46) rfl rfl rfl ?_
    refine Own.iconst hx (1 : Int32) (hb hby d1_47) rfl (by decide) ?_
    refine Own.caload hx hZ O0 0 1 rfl (by decide) (v := (.int y1)) rfl (hb hby d1_48) rfl ?_
    refine Own.aloadN hx (.ref o0) (hb hby d1_49) rfl rfl rfl ?_
    refine Own.iloadN hx (3 : Int32) (hb hby d1_50) rfl rfl ?_
    refine Own.iloadN hx p2 (hb hby d1_51) rfl rfl ?_
    refine Own.iload hx (2 : Int32) (hb hby d1_52) rfl rfl ?_
    refine Own.iconst hx (1 : Int32) (hb hby d1_54) rfl (by decide) ?_
    refine Own.iadd hx (hb hby d1_55) rfl ?_
    refine Own.vI (3 : Int32) (by decide) ?_
    refine Own.callS hx hZ hown (hw _ (List.mem_of_getElem? (i := 5) rfl)) (hw _ (List.mem_of_getElem? (i := 6) rfl)) (hw _ (List.mem_of_getElem? (i := 3) rfl)) (hw _ (List.mem_of_getElem? (i := 7) rfl)) (by decide) pd1 (argsL := [(.ref o0), (.int (3 : Int32)), (.int p2), (.int (3 : Int32))]) (rest := [(.int y1)]) rfl (W := 1) (Nat.le_of_eq rfl) (rm := ({ frames := 0, cells := 0, slots := 0, locals := 0 } : Room)) (by decide) (by decide) (by decide) (by decide) (k' := 0) (n' := 0) rfl rfl (by rw [hml]; rfl) [(.int (3 : Int32)), (.int p2), (.int (3 : Int32)), (.ref o0), (.int y1)] rfl (hb hby d1_56) (pc' := 59) rfl (rm2_c l Z a0 hw o0 (3 : Int32) p2 (3 : Int32) h0 n0 (by decide) hc) ?_
    rintro _ h' ⟨rfl, eh⟩
    rw [eh]; clear eh h'
    show Own.Goes _ _ _ _ _ _ _ _ _ _ _ _ _ _ _ _ _ (mkF m 59 #[.val (.ref o0), .val (.int (3 : Int32)), .val (.int p2), .val (.int (2 : Int32)), .val (.int (2 : Int32))] [(.int p2), (.int y1)])
    refine Own.icmpFn hx (Own.q_ne y1 p2) (hb hby d1_59) (pcN := 62) rfl (by decide) (pcT := 108) rfl (fun hc10 => ?_) (fun hc10 => ?_)
    · refine Own.iconst hx (0 : Int32) (hb hby d1_108) rfl (by decide) ?_
      exact Own.retS hx hret (by simp) hlk (hb hby d1_109) (by decide) (by decide) ⟨by rw [show fX3_3_2 y0 y1 y2 p2 = (0 : Int32) from by simp only [fX3_3_2, if_pos hc7, if_neg hc10]]; try rfl, rfl⟩
    · refine Own.iconst hx (2 : Int32) (hb hby d1_62) rfl (by decide) ?_
      refine Own.iloadN hx (2 : Int32) (hb hby d1_63) rfl rfl ?_
      have hc11 : ¬ ((2 : Int32) < (2 : Int32)) := by decide
      refine Own.icmpFn hx (Own.q_ge (2 : Int32) (2 : Int32)) (hb hby d1_64) (pcN := 67) rfl (by decide) (pcT := 83) rfl (fun _ => ?_) (fun q => absurd q hc11)
      refine Own.iconst hx (3 : Int32) (hb hby d1_83) rfl (by decide) ?_
      refine Own.iloadN hx (2 : Int32) (hb hby d1_84) rfl rfl ?_
      have hc13 : ¬ ((3 : Int32) < (2 : Int32)) := by decide
      refine Own.icmpFn hx (Own.q_ge (3 : Int32) (2 : Int32)) (hb hby d1_85) (pcN := 88) rfl (by decide) (pcT := 104) rfl (fun _ => ?_) (fun q => absurd q hc13)
      refine Own.iconst hx (1 : Int32) (hb hby d1_104) rfl (by decide) ?_
      refine Own.goto hx (hb hby d1_105) (by decide) (pc' := 109) rfl ?_
      exact Own.retS hx hret (by simp) hlk (hb hby d1_109) (by decide) (by decide) ⟨by rw [show fX3_3_2 y0 y1 y2 p2 = (1 : Int32) from by simp only [fX3_3_2, if_pos hc7, if_pos hc10]]; try rfl, rfl⟩

def fX3_3_3 (y0 y1 y2 p2 : Int32) : Int32 := (if y0 = y1 then (if y1 = y2 then (if y2 = p2 then (1 : Int32) else (0 : Int32)) else (0 : Int32)) else (0 : Int32))
theorem ef1_3_3_3 (m : MethodId) (o0 : Addr) (p2 : Int32) : entryFrame m #[(.ref o0), (.int (3 : Int32)), (.int p2), (.int (3 : Int32))] 5 = mkF m 0 #[.val (.ref o0), .val (.int (3 : Int32)), .val (.int p2), .val (.int (3 : Int32)), .unset] [] := by first | (simp [entryFrame, mkF, argsToLocals, Value.category]; done) | rfl
set_option maxRecDepth 65536 in
set_option maxHeartbeats 40000000 in
theorem rm1_3_3_3 (l : Launch) (Z : State) (a0 : Array Value) (hw : ∀ d ∈ tables_1, d.before a0 Z = true) (o0 : Addr) (p2 : Int32) (h0 : Heap) (n0 : Nat) (y0 y1 y2 : Int32) (fr : List (Addr × (Cell → Prop))) (O0 : Own.Owns n0 h0 ((o0, Own.ArrC Z .char [(.int y0), (.int y1), (.int y2)]) :: fr)) (hy0 : nar .char y0 = y0) (hy1 : nar .char y1 = y1) (hy2 : nar .char y2 = y2) (hc : nar .char p2 = p2) : Own.Does l (⟨"com/example/idxof/idxof/KnuthMorrisPrattPatternExtendPinLaw", "ends", "([CICI)Z"⟩ : MethodName) method_3_code 5 (some .boolean) [] ({ frames := 1, cells := 0, slots := 0, locals := 24 } : Room) Z #[(.ref o0), (.int (3 : Int32)), (.int p2), (.int (3 : Int32))] h0 n0 (fun v h => v = some (.int (fX3_3_3 y0 y1 y2 p2)) ∧ h = h0) := by
  refine Own.doesOf pn4 ?_
  intro p e s m below meth c hx hby hml hret hlk hown hnm hZ
  refine Own.Goes.cast (ef1_3_3_3 m o0 p2) ?_
  refine Own.iloadN hx (3 : Int32) (hb hby d1_0) rfl rfl ?_
  refine Own.iloadN hx (3 : Int32) (hb hby d1_1) rfl rfl ?_
  refine Own.iconst hx (1 : Int32) (hb hby d1_2) rfl (by decide) ?_
  refine Own.iadd hx (hb hby d1_3) rfl ?_
  refine Own.vI (4 : Int32) (by decide) ?_
  have hc1 : ¬ ((4 : Int32) < (3 : Int32)) := by decide
  refine Own.icmpF hx (Own.q_gt (3 : Int32) (4 : Int32)) (hb hby d1_4) (pcN := 7) rfl (by decide) (pcT := 13) rfl (fun q => absurd q hc1) (fun _ => ?_)
  refine Own.iloadN hx (3 : Int32) (hb hby d1_7) rfl rfl ?_
  refine Own.aloadN hx (.ref o0) (hb hby d1_8) rfl rfl rfl ?_
  refine Own.arrlen hx hZ O0 0 rfl (3 : Int32) rfl (hb hby d1_9) rfl ?_
  have hc3 : ¬ ((3 : Int32) < (3 : Int32)) := by decide
  refine Own.icmpFn hx (Own.q_le (3 : Int32) (3 : Int32)) (hb hby d1_10) (pcN := 13) rfl (by decide) (pcT := 15) rfl (fun _ => ?_) (fun q => absurd q hc3)
  refine Own.iloadN hx (3 : Int32) (hb hby d1_15) rfl rfl ?_
  refine Own.iconst hx (1 : Int32) (hb hby d1_16) rfl (by decide) ?_
  refine Own.iadd hx (hb hby d1_17) rfl ?_
  refine Own.vI (4 : Int32) (by decide) ?_
  refine Own.iloadN hx (3 : Int32) (hb hby d1_18) rfl rfl ?_
  refine Own.isub hx (hb hby d1_19) rfl ?_
  refine Own.vI (1 : Int32) (by decide) ?_
  refine Own.istore hx (1 : Int32) rfl #[.val (.ref o0), .val (.int (3 : Int32)), .val (.int p2), .val (.int (3 : Int32)), .val (.int (1 : Int32))] (hb hby d1_20) rfl rfl ?_
  refine Own.iconst hx (0 : Int32) (hb hby d1_22) rfl (by decide) ?_
  refine Own.iloadN hx (3 : Int32) (hb hby d1_23) rfl rfl ?_
  have hc5 : (0 : Int32) < (3 : Int32) := by decide
  refine Own.icmpFn hx (Own.q_ge (0 : Int32) (3 : Int32)) (hb hby d1_24) (pcN := 27) rfl (by decide) (pcT := 41) rfl (fun q => absurd hc5 q) (fun _ => ?_)
  refine Own.aloadN hx (.ref o0) (hb hby d1_27) rfl rfl rfl ?_
  refine Own.iconst hx (0 : Int32) (hb hby d1_28) rfl (by decide) ?_
  refine Own.caload hx hZ O0 0 0 rfl (by decide) (v := (.int y0)) rfl (hb hby d1_29) rfl ?_
  refine Own.aloadN hx (.ref o0) (hb hby d1_30) rfl rfl rfl ?_
  refine Own.iloadN hx (3 : Int32) (hb hby d1_31) rfl rfl ?_
  refine Own.iloadN hx p2 (hb hby d1_32) rfl rfl ?_
  refine Own.iload hx (1 : Int32) (hb hby d1_33) rfl rfl ?_
  refine Own.callS hx hZ hown (hw _ (List.mem_of_getElem? (i := 5) rfl)) (hw _ (List.mem_of_getElem? (i := 6) rfl)) (hw _ (List.mem_of_getElem? (i := 3) rfl)) (hw _ (List.mem_of_getElem? (i := 7) rfl)) (by decide) pd1 (argsL := [(.ref o0), (.int (3 : Int32)), (.int p2), (.int (1 : Int32))]) (rest := [(.int y0)]) rfl (W := 1) (Nat.le_of_eq rfl) (rm := ({ frames := 0, cells := 0, slots := 0, locals := 0 } : Room)) (by decide) (by decide) (by decide) (by decide) (k' := 0) (n' := 0) rfl rfl (by rw [hml]; rfl) [(.int (1 : Int32)), (.int p2), (.int (3 : Int32)), (.ref o0), (.int y0)] rfl (hb hby d1_35) (pc' := 38) rfl (rm2_3_1 l Z a0 hw o0 (3 : Int32) p2 h0 n0 y0 y1 y2 fr O0 (by decide) hy1) ?_
  rintro _ h' ⟨rfl, eh⟩
  rw [eh]; clear eh h'
  show Own.Goes _ _ _ _ _ _ _ _ _ _ _ _ _ _ _ _ _ (mkF m 38 #[.val (.ref o0), .val (.int (3 : Int32)), .val (.int p2), .val (.int (3 : Int32)), .val (.int (1 : Int32))] [(.int y1), (.int y0)])
  refine Own.icmpFn hx (Own.q_ne y0 y1) (hb hby d1_38) (pcN := 41) rfl (by decide) (pcT := 108) rfl (fun hc7 => ?_) (fun hc7 => ?_)
  · refine Own.iconst hx (0 : Int32) (hb hby d1_108) rfl (by decide) ?_
    exact Own.retS hx hret (by simp) hlk (hb hby d1_109) (by decide) (by decide) ⟨by rw [show fX3_3_3 y0 y1 y2 p2 = (0 : Int32) from by simp only [fX3_3_3, if_neg hc7]]; try rfl, rfl⟩
  · refine Own.iconst hx (1 : Int32) (hb hby d1_41) rfl (by decide) ?_
    refine Own.iloadN hx (3 : Int32) (hb hby d1_42) rfl rfl ?_
    have hc8 : (1 : Int32) < (3 : Int32) := by decide
    refine Own.icmpFn hx (Own.q_ge (1 : Int32) (3 : Int32)) (hb hby d1_43) (pcN := 46) rfl (by decide) (pcT := 62) rfl (fun q => absurd hc8 q) (fun _ => ?_)
    refine Own.aloadN hx (.ref o0) (hb hby d1_46) rfl rfl rfl ?_
    refine Own.iconst hx (1 : Int32) (hb hby d1_47) rfl (by decide) ?_
    refine Own.caload hx hZ O0 0 1 rfl (by decide) (v := (.int y1)) rfl (hb hby d1_48) rfl ?_
    refine Own.aloadN hx (.ref o0) (hb hby d1_49) rfl rfl rfl ?_
    refine Own.iloadN hx (3 : Int32) (hb hby d1_50) rfl rfl ?_
    refine Own.iloadN hx p2 (hb hby d1_51) rfl rfl ?_
    refine Own.iload hx (1 : Int32) (hb hby d1_52) rfl rfl ?_
    refine Own.iconst hx (1 : Int32) (hb hby d1_54) rfl (by decide) ?_
    refine Own.iadd hx (hb hby d1_55) rfl ?_
    refine Own.vI (2 : Int32) (by decide) ?_
    refine Own.callS hx hZ hown (hw _ (List.mem_of_getElem? (i := 5) rfl)) (hw _ (List.mem_of_getElem? (i := 6) rfl)) (hw _ (List.mem_of_getElem? (i := 3) rfl)) (hw _ (List.mem_of_getElem? (i := 7) rfl)) (by decide) pd1 (argsL := [(.ref o0), (.int (3 : Int32)), (.int p2), (.int (2 : Int32))]) (rest := [(.int y1)]) rfl (W := 1) (Nat.le_of_eq rfl) (rm := ({ frames := 0, cells := 0, slots := 0, locals := 0 } : Room)) (by decide) (by decide) (by decide) (by decide) (k' := 0) (n' := 0) rfl rfl (by rw [hml]; rfl) [(.int (2 : Int32)), (.int p2), (.int (3 : Int32)), (.ref o0), (.int y1)] rfl (hb hby d1_56) (pc' := 59) rfl (rm2_3_2 l Z a0 hw o0 (3 : Int32) p2 h0 n0 y0 y1 y2 fr O0 (by decide) hy2) ?_
    rintro _ h' ⟨rfl, eh⟩
    rw [eh]; clear eh h'
    show Own.Goes _ _ _ _ _ _ _ _ _ _ _ _ _ _ _ _ _ (mkF m 59 #[.val (.ref o0), .val (.int (3 : Int32)), .val (.int p2), .val (.int (3 : Int32)), .val (.int (1 : Int32))] [(.int y2), (.int y1)])
    refine Own.icmpFn hx (Own.q_ne y1 y2) (hb hby d1_59) (pcN := 62) rfl (by decide) (pcT := 108) rfl (fun hc10 => ?_) (fun hc10 => ?_)
    · refine Own.iconst hx (0 : Int32) (hb hby d1_108) rfl (by decide) ?_
      exact Own.retS hx hret (by simp) hlk (hb hby d1_109) (by decide) (by decide) ⟨by rw [show fX3_3_3 y0 y1 y2 p2 = (0 : Int32) from by simp only [fX3_3_3, if_pos hc7, if_neg hc10]]; try rfl, rfl⟩
    · refine Own.iconst hx (2 : Int32) (hb hby d1_62) rfl (by decide) ?_
      refine Own.iloadN hx (3 : Int32) (hb hby d1_63) rfl rfl ?_
      have hc11 : (2 : Int32) < (3 : Int32) := by decide
      refine Own.icmpFn hx (Own.q_ge (2 : Int32) (3 : Int32)) (hb hby d1_64) (pcN := 67) rfl (by decide) (pcT := 83) rfl (fun q => absurd hc11 q) (fun _ => ?_)
      refine Own.aloadN hx (.ref o0) (hb hby d1_67) rfl rfl rfl ?_
      refine Own.iconst hx (2 : Int32) (hb hby d1_68) rfl (by decide) ?_
      refine Own.caload hx hZ O0 0 2 rfl (by decide) (v := (.int y2)) rfl (hb hby d1_69) rfl ?_
      refine Own.aloadN hx (.ref o0) (hb hby d1_70) rfl rfl rfl ?_
      refine Own.iloadN hx (3 : Int32) (hb hby d1_71) rfl rfl ?_
      refine Own.iloadN hx p2 (hb hby d1_72) rfl rfl ?_
      refine Own.iload hx (1 : Int32) (hb hby d1_73) rfl rfl ?_
      refine Own.iconst hx (2 : Int32) (hb hby d1_75) rfl (by decide) ?_
      refine Own.iadd hx (hb hby d1_76) rfl ?_
      refine Own.vI (3 : Int32) (by decide) ?_
      refine Own.callS hx hZ hown (hw _ (List.mem_of_getElem? (i := 5) rfl)) (hw _ (List.mem_of_getElem? (i := 6) rfl)) (hw _ (List.mem_of_getElem? (i := 3) rfl)) (hw _ (List.mem_of_getElem? (i := 7) rfl)) (by decide) pd1 (argsL := [(.ref o0), (.int (3 : Int32)), (.int p2), (.int (3 : Int32))]) (rest := [(.int y2)]) rfl (W := 1) (Nat.le_of_eq rfl) (rm := ({ frames := 0, cells := 0, slots := 0, locals := 0 } : Room)) (by decide) (by decide) (by decide) (by decide) (k' := 0) (n' := 0) rfl rfl (by rw [hml]; rfl) [(.int (3 : Int32)), (.int p2), (.int (3 : Int32)), (.ref o0), (.int y2)] rfl (hb hby d1_77) (pc' := 80) rfl (rm2_c l Z a0 hw o0 (3 : Int32) p2 (3 : Int32) h0 n0 (by decide) hc) ?_
      rintro _ h' ⟨rfl, eh⟩
      rw [eh]; clear eh h'
      show Own.Goes _ _ _ _ _ _ _ _ _ _ _ _ _ _ _ _ _ (mkF m 80 #[.val (.ref o0), .val (.int (3 : Int32)), .val (.int p2), .val (.int (3 : Int32)), .val (.int (1 : Int32))] [(.int p2), (.int y2)])
      refine Own.icmpFn hx (Own.q_ne y2 p2) (hb hby d1_80) (pcN := 83) rfl (by decide) (pcT := 108) rfl (fun hc13 => ?_) (fun hc13 => ?_)
      · refine Own.iconst hx (0 : Int32) (hb hby d1_108) rfl (by decide) ?_
        exact Own.retS hx hret (by simp) hlk (hb hby d1_109) (by decide) (by decide) ⟨by rw [show fX3_3_3 y0 y1 y2 p2 = (0 : Int32) from by simp only [fX3_3_3, if_pos hc7, if_pos hc10, if_neg hc13]]; try rfl, rfl⟩
      · refine Own.iconst hx (3 : Int32) (hb hby d1_83) rfl (by decide) ?_
        refine Own.iloadN hx (3 : Int32) (hb hby d1_84) rfl rfl ?_
        have hc14 : ¬ ((3 : Int32) < (3 : Int32)) := by decide
        refine Own.icmpFn hx (Own.q_ge (3 : Int32) (3 : Int32)) (hb hby d1_85) (pcN := 88) rfl (by decide) (pcT := 104) rfl (fun _ => ?_) (fun q => absurd q hc14)
        refine Own.iconst hx (1 : Int32) (hb hby d1_104) rfl (by decide) ?_
        refine Own.goto hx (hb hby d1_105) (by decide) (pc' := 109) rfl ?_
        exact Own.retS hx hret (by simp) hlk (hb hby d1_109) (by decide) (by decide) ⟨by rw [show fX3_3_3 y0 y1 y2 p2 = (1 : Int32) from by simp only [fX3_3_3, if_pos hc7, if_pos hc10, if_pos hc13]]; try rfl, rfl⟩

theorem ef1_3_3_4 (m : MethodId) (o0 : Addr) (p2 : Int32) : entryFrame m #[(.ref o0), (.int (3 : Int32)), (.int p2), (.int (4 : Int32))] 5 = mkF m 0 #[.val (.ref o0), .val (.int (3 : Int32)), .val (.int p2), .val (.int (4 : Int32)), .unset] [] := by first | (simp [entryFrame, mkF, argsToLocals, Value.category]; done) | rfl
set_option maxRecDepth 65536 in
set_option maxHeartbeats 40000000 in
theorem rm1_3_3_4 (l : Launch) (Z : State) (a0 : Array Value) (hw : ∀ d ∈ tables_1, d.before a0 Z = true) (o0 : Addr) (p2 : Int32) (h0 : Heap) (n0 : Nat) (y0 y1 y2 : Int32) (fr : List (Addr × (Cell → Prop))) (O0 : Own.Owns n0 h0 ((o0, Own.ArrC Z .char [(.int y0), (.int y1), (.int y2)]) :: fr)) (hy0 : nar .char y0 = y0) (hy1 : nar .char y1 = y1) (hy2 : nar .char y2 = y2) (hc : nar .char p2 = p2) : Own.Does l (⟨"com/example/idxof/idxof/KnuthMorrisPrattPatternExtendPinLaw", "ends", "([CICI)Z"⟩ : MethodName) method_3_code 5 (some .boolean) [] ({ frames := 1, cells := 0, slots := 0, locals := 24 } : Room) Z #[(.ref o0), (.int (3 : Int32)), (.int p2), (.int (4 : Int32))] h0 n0 (fun v h => v = some (.int (0 : Int32)) ∧ h = h0) := by
  refine Own.doesOf pn4 ?_
  intro p e s m below meth c hx hby hml hret hlk hown hnm hZ
  refine Own.Goes.cast (ef1_3_3_4 m o0 p2) ?_
  refine Own.iloadN hx (4 : Int32) (hb hby d1_0) rfl rfl ?_
  refine Own.iloadN hx (3 : Int32) (hb hby d1_1) rfl rfl ?_
  refine Own.iconst hx (1 : Int32) (hb hby d1_2) rfl (by decide) ?_
  refine Own.iadd hx (hb hby d1_3) rfl ?_
  refine Own.vI (4 : Int32) (by decide) ?_
  have hc1 : ¬ ((4 : Int32) < (4 : Int32)) := by decide
  refine Own.icmpF hx (Own.q_gt (4 : Int32) (4 : Int32)) (hb hby d1_4) (pcN := 7) rfl (by decide) (pcT := 13) rfl (fun q => absurd q hc1) (fun _ => ?_)
  refine Own.iloadN hx (4 : Int32) (hb hby d1_7) rfl rfl ?_
  refine Own.aloadN hx (.ref o0) (hb hby d1_8) rfl rfl rfl ?_
  refine Own.arrlen hx hZ O0 0 rfl (3 : Int32) rfl (hb hby d1_9) rfl ?_
  have hc3 : (3 : Int32) < (4 : Int32) := by decide
  refine Own.icmpFn hx (Own.q_le (4 : Int32) (3 : Int32)) (hb hby d1_10) (pcN := 13) rfl (by decide) (pcT := 15) rfl (fun q => absurd hc3 q) (fun _ => ?_)
  refine Own.iconst hx (0 : Int32) (hb hby d1_13) rfl (by decide) ?_
  exact Own.retS hx hret (by simp) hlk (hb hby d1_14) (by decide) (by decide) ⟨rfl, rfl⟩

def fX4_0_1 (y0 y1 y2 y3 p2 : Int32) : Int32 := (if y0 = p2 then (1 : Int32) else (0 : Int32))
theorem ef1_4_0_1 (m : MethodId) (o0 : Addr) (p2 : Int32) : entryFrame m #[(.ref o0), (.int (0 : Int32)), (.int p2), (.int (1 : Int32))] 5 = mkF m 0 #[.val (.ref o0), .val (.int (0 : Int32)), .val (.int p2), .val (.int (1 : Int32)), .unset] [] := by first | (simp [entryFrame, mkF, argsToLocals, Value.category]; done) | rfl
set_option maxRecDepth 65536 in
set_option maxHeartbeats 40000000 in
theorem rm1_4_0_1 (l : Launch) (Z : State) (a0 : Array Value) (hw : ∀ d ∈ tables_1, d.before a0 Z = true) (o0 : Addr) (p2 : Int32) (h0 : Heap) (n0 : Nat) (y0 y1 y2 y3 : Int32) (fr : List (Addr × (Cell → Prop))) (O0 : Own.Owns n0 h0 ((o0, Own.ArrC Z .char [(.int y0), (.int y1), (.int y2), (.int y3)]) :: fr)) (hy0 : nar .char y0 = y0) (hy1 : nar .char y1 = y1) (hy2 : nar .char y2 = y2) (hy3 : nar .char y3 = y3) (hc : nar .char p2 = p2) : Own.Does l (⟨"com/example/idxof/idxof/KnuthMorrisPrattPatternExtendPinLaw", "ends", "([CICI)Z"⟩ : MethodName) method_3_code 5 (some .boolean) [] ({ frames := 1, cells := 0, slots := 0, locals := 24 } : Room) Z #[(.ref o0), (.int (0 : Int32)), (.int p2), (.int (1 : Int32))] h0 n0 (fun v h => v = some (.int (fX4_0_1 y0 y1 y2 y3 p2)) ∧ h = h0) := by
  refine Own.doesOf pn4 ?_
  intro p e s m below meth c hx hby hml hret hlk hown hnm hZ
  refine Own.Goes.cast (ef1_4_0_1 m o0 p2) ?_
  refine Own.iloadN hx (1 : Int32) (hb hby d1_0) rfl rfl ?_
  refine Own.iloadN hx (0 : Int32) (hb hby d1_1) rfl rfl ?_
  refine Own.iconst hx (1 : Int32) (hb hby d1_2) rfl (by decide) ?_
  refine Own.iadd hx (hb hby d1_3) rfl ?_
  refine Own.vI (1 : Int32) (by decide) ?_
  have hc1 : ¬ ((1 : Int32) < (1 : Int32)) := by decide
  refine Own.icmpF hx (Own.q_gt (1 : Int32) (1 : Int32)) (hb hby d1_4) (pcN := 7) rfl (by decide) (pcT := 13) rfl (fun q => absurd q hc1) (fun _ => ?_)
  refine Own.iloadN hx (1 : Int32) (hb hby d1_7) rfl rfl ?_
  refine Own.aloadN hx (.ref o0) (hb hby d1_8) rfl rfl rfl ?_
  refine Own.arrlen hx hZ O0 0 rfl (4 : Int32) rfl (hb hby d1_9) rfl ?_
  have hc3 : ¬ ((4 : Int32) < (1 : Int32)) := by decide
  refine Own.icmpFn hx (Own.q_le (1 : Int32) (4 : Int32)) (hb hby d1_10) (pcN := 13) rfl (by decide) (pcT := 15) rfl (fun _ => ?_) (fun q => absurd q hc3)
  refine Own.iloadN hx (0 : Int32) (hb hby d1_15) rfl rfl ?_
  refine Own.iconst hx (1 : Int32) (hb hby d1_16) rfl (by decide) ?_
  refine Own.iadd hx (hb hby d1_17) rfl ?_
  refine Own.vI (1 : Int32) (by decide) ?_
  refine Own.iloadN hx (1 : Int32) (hb hby d1_18) rfl rfl ?_
  refine Own.isub hx (hb hby d1_19) rfl ?_
  refine Own.vI (0 : Int32) (by decide) ?_
  refine Own.istore hx (0 : Int32) rfl #[.val (.ref o0), .val (.int (0 : Int32)), .val (.int p2), .val (.int (1 : Int32)), .val (.int (0 : Int32))] (hb hby d1_20) rfl rfl ?_
  refine Own.iconst hx (0 : Int32) (hb hby d1_22) rfl (by decide) ?_
  refine Own.iloadN hx (1 : Int32) (hb hby d1_23) rfl rfl ?_
  have hc5 : (0 : Int32) < (1 : Int32) := by decide
  refine Own.icmpFn hx (Own.q_ge (0 : Int32) (1 : Int32)) (hb hby d1_24) (pcN := 27) rfl (by decide) (pcT := 41) rfl (fun q => absurd hc5 q) (fun _ => ?_)
  refine Own.aloadN hx (.ref o0) (hb hby d1_27) rfl rfl rfl ?_
  refine Own.iconst hx (0 : Int32) (hb hby d1_28) rfl (by decide) ?_
  refine Own.caload hx hZ O0 0 0 rfl (by decide) (v := (.int y0)) rfl (hb hby d1_29) rfl ?_
  refine Own.aloadN hx (.ref o0) (hb hby d1_30) rfl rfl rfl ?_
  refine Own.iloadN hx (0 : Int32) (hb hby d1_31) rfl rfl ?_
  refine Own.iloadN hx p2 (hb hby d1_32) rfl rfl ?_
  refine Own.iload hx (0 : Int32) (hb hby d1_33) rfl rfl ?_
  refine Own.callS hx hZ hown (hw _ (List.mem_of_getElem? (i := 5) rfl)) (hw _ (List.mem_of_getElem? (i := 6) rfl)) (hw _ (List.mem_of_getElem? (i := 3) rfl)) (hw _ (List.mem_of_getElem? (i := 7) rfl)) (by decide) pd1 (argsL := [(.ref o0), (.int (0 : Int32)), (.int p2), (.int (0 : Int32))]) (rest := [(.int y0)]) rfl (W := 1) (Nat.le_of_eq rfl) (rm := ({ frames := 0, cells := 0, slots := 0, locals := 0 } : Room)) (by decide) (by decide) (by decide) (by decide) (k' := 0) (n' := 0) rfl rfl (by rw [hml]; rfl) [(.int (0 : Int32)), (.int p2), (.int (0 : Int32)), (.ref o0), (.int y0)] rfl (hb hby d1_35) (pc' := 38) rfl (rm2_c l Z a0 hw o0 (0 : Int32) p2 (0 : Int32) h0 n0 (by decide) hc) ?_
  rintro _ h' ⟨rfl, eh⟩
  rw [eh]; clear eh h'
  show Own.Goes _ _ _ _ _ _ _ _ _ _ _ _ _ _ _ _ _ (mkF m 38 #[.val (.ref o0), .val (.int (0 : Int32)), .val (.int p2), .val (.int (1 : Int32)), .val (.int (0 : Int32))] [(.int p2), (.int y0)])
  refine Own.icmpFn hx (Own.q_ne y0 p2) (hb hby d1_38) (pcN := 41) rfl (by decide) (pcT := 108) rfl (fun hc7 => ?_) (fun hc7 => ?_)
  · refine Own.iconst hx (0 : Int32) (hb hby d1_108) rfl (by decide) ?_
    exact Own.retS hx hret (by simp) hlk (hb hby d1_109) (by decide) (by decide) ⟨by rw [show fX4_0_1 y0 y1 y2 y3 p2 = (0 : Int32) from by simp only [fX4_0_1, if_neg hc7]]; try rfl, rfl⟩
  · refine Own.iconst hx (1 : Int32) (hb hby d1_41) rfl (by decide) ?_
    refine Own.iloadN hx (1 : Int32) (hb hby d1_42) rfl rfl ?_
    have hc8 : ¬ ((1 : Int32) < (1 : Int32)) := by decide
    refine Own.icmpFn hx (Own.q_ge (1 : Int32) (1 : Int32)) (hb hby d1_43) (pcN := 46) rfl (by decide) (pcT := 62) rfl (fun _ => ?_) (fun q => absurd q hc8)
    refine Own.iconst hx (2 : Int32) (hb hby d1_62) rfl (by decide) ?_
    refine Own.iloadN hx (1 : Int32) (hb hby d1_63) rfl rfl ?_
    have hc10 : ¬ ((2 : Int32) < (1 : Int32)) := by decide
    refine Own.icmpFn hx (Own.q_ge (2 : Int32) (1 : Int32)) (hb hby d1_64) (pcN := 67) rfl (by decide) (pcT := 83) rfl (fun _ => ?_) (fun q => absurd q hc10)
    refine Own.iconst hx (3 : Int32) (hb hby d1_83) rfl (by decide) ?_
    refine Own.iloadN hx (1 : Int32) (hb hby d1_84) rfl rfl ?_
    have hc12 : ¬ ((3 : Int32) < (1 : Int32)) := by decide
    refine Own.icmpFn hx (Own.q_ge (3 : Int32) (1 : Int32)) (hb hby d1_85) (pcN := 88) rfl (by decide) (pcT := 104) rfl (fun _ => ?_) (fun q => absurd q hc12)
    refine Own.iconst hx (1 : Int32) (hb hby d1_104) rfl (by decide) ?_
    refine Own.goto hx (hb hby d1_105) (by decide) (pc' := 109) rfl ?_
    exact Own.retS hx hret (by simp) hlk (hb hby d1_109) (by decide) (by decide) ⟨by rw [show fX4_0_1 y0 y1 y2 y3 p2 = (1 : Int32) from by simp only [fX4_0_1, if_pos hc7]]; try rfl, rfl⟩

theorem ef1_4_0_2 (m : MethodId) (o0 : Addr) (p2 : Int32) : entryFrame m #[(.ref o0), (.int (0 : Int32)), (.int p2), (.int (2 : Int32))] 5 = mkF m 0 #[.val (.ref o0), .val (.int (0 : Int32)), .val (.int p2), .val (.int (2 : Int32)), .unset] [] := by first | (simp [entryFrame, mkF, argsToLocals, Value.category]; done) | rfl
set_option maxRecDepth 65536 in
set_option maxHeartbeats 40000000 in
theorem rm1_4_0_2 (l : Launch) (Z : State) (a0 : Array Value) (hw : ∀ d ∈ tables_1, d.before a0 Z = true) (o0 : Addr) (p2 : Int32) (h0 : Heap) (n0 : Nat) (y0 y1 y2 y3 : Int32) (fr : List (Addr × (Cell → Prop))) (O0 : Own.Owns n0 h0 ((o0, Own.ArrC Z .char [(.int y0), (.int y1), (.int y2), (.int y3)]) :: fr)) (hy0 : nar .char y0 = y0) (hy1 : nar .char y1 = y1) (hy2 : nar .char y2 = y2) (hy3 : nar .char y3 = y3) (hc : nar .char p2 = p2) : Own.Does l (⟨"com/example/idxof/idxof/KnuthMorrisPrattPatternExtendPinLaw", "ends", "([CICI)Z"⟩ : MethodName) method_3_code 5 (some .boolean) [] ({ frames := 1, cells := 0, slots := 0, locals := 24 } : Room) Z #[(.ref o0), (.int (0 : Int32)), (.int p2), (.int (2 : Int32))] h0 n0 (fun v h => v = some (.int (0 : Int32)) ∧ h = h0) := by
  refine Own.doesOf pn4 ?_
  intro p e s m below meth c hx hby hml hret hlk hown hnm hZ
  refine Own.Goes.cast (ef1_4_0_2 m o0 p2) ?_
  refine Own.iloadN hx (2 : Int32) (hb hby d1_0) rfl rfl ?_
  refine Own.iloadN hx (0 : Int32) (hb hby d1_1) rfl rfl ?_
  refine Own.iconst hx (1 : Int32) (hb hby d1_2) rfl (by decide) ?_
  refine Own.iadd hx (hb hby d1_3) rfl ?_
  refine Own.vI (1 : Int32) (by decide) ?_
  have hc1 : (1 : Int32) < (2 : Int32) := by decide
  refine Own.icmpF hx (Own.q_gt (2 : Int32) (1 : Int32)) (hb hby d1_4) (pcN := 7) rfl (by decide) (pcT := 13) rfl (fun _ => ?_) (fun q => absurd hc1 q)
  refine Own.iconst hx (0 : Int32) (hb hby d1_13) rfl (by decide) ?_
  exact Own.retS hx hret (by simp) hlk (hb hby d1_14) (by decide) (by decide) ⟨rfl, rfl⟩

theorem ef1_4_0_3 (m : MethodId) (o0 : Addr) (p2 : Int32) : entryFrame m #[(.ref o0), (.int (0 : Int32)), (.int p2), (.int (3 : Int32))] 5 = mkF m 0 #[.val (.ref o0), .val (.int (0 : Int32)), .val (.int p2), .val (.int (3 : Int32)), .unset] [] := by first | (simp [entryFrame, mkF, argsToLocals, Value.category]; done) | rfl
set_option maxRecDepth 65536 in
set_option maxHeartbeats 40000000 in
theorem rm1_4_0_3 (l : Launch) (Z : State) (a0 : Array Value) (hw : ∀ d ∈ tables_1, d.before a0 Z = true) (o0 : Addr) (p2 : Int32) (h0 : Heap) (n0 : Nat) (y0 y1 y2 y3 : Int32) (fr : List (Addr × (Cell → Prop))) (O0 : Own.Owns n0 h0 ((o0, Own.ArrC Z .char [(.int y0), (.int y1), (.int y2), (.int y3)]) :: fr)) (hy0 : nar .char y0 = y0) (hy1 : nar .char y1 = y1) (hy2 : nar .char y2 = y2) (hy3 : nar .char y3 = y3) (hc : nar .char p2 = p2) : Own.Does l (⟨"com/example/idxof/idxof/KnuthMorrisPrattPatternExtendPinLaw", "ends", "([CICI)Z"⟩ : MethodName) method_3_code 5 (some .boolean) [] ({ frames := 1, cells := 0, slots := 0, locals := 24 } : Room) Z #[(.ref o0), (.int (0 : Int32)), (.int p2), (.int (3 : Int32))] h0 n0 (fun v h => v = some (.int (0 : Int32)) ∧ h = h0) := by
  refine Own.doesOf pn4 ?_
  intro p e s m below meth c hx hby hml hret hlk hown hnm hZ
  refine Own.Goes.cast (ef1_4_0_3 m o0 p2) ?_
  refine Own.iloadN hx (3 : Int32) (hb hby d1_0) rfl rfl ?_
  refine Own.iloadN hx (0 : Int32) (hb hby d1_1) rfl rfl ?_
  refine Own.iconst hx (1 : Int32) (hb hby d1_2) rfl (by decide) ?_
  refine Own.iadd hx (hb hby d1_3) rfl ?_
  refine Own.vI (1 : Int32) (by decide) ?_
  have hc1 : (1 : Int32) < (3 : Int32) := by decide
  refine Own.icmpF hx (Own.q_gt (3 : Int32) (1 : Int32)) (hb hby d1_4) (pcN := 7) rfl (by decide) (pcT := 13) rfl (fun _ => ?_) (fun q => absurd hc1 q)
  refine Own.iconst hx (0 : Int32) (hb hby d1_13) rfl (by decide) ?_
  exact Own.retS hx hret (by simp) hlk (hb hby d1_14) (by decide) (by decide) ⟨rfl, rfl⟩

theorem ef1_4_0_4 (m : MethodId) (o0 : Addr) (p2 : Int32) : entryFrame m #[(.ref o0), (.int (0 : Int32)), (.int p2), (.int (4 : Int32))] 5 = mkF m 0 #[.val (.ref o0), .val (.int (0 : Int32)), .val (.int p2), .val (.int (4 : Int32)), .unset] [] := by first | (simp [entryFrame, mkF, argsToLocals, Value.category]; done) | rfl
set_option maxRecDepth 65536 in
set_option maxHeartbeats 40000000 in
theorem rm1_4_0_4 (l : Launch) (Z : State) (a0 : Array Value) (hw : ∀ d ∈ tables_1, d.before a0 Z = true) (o0 : Addr) (p2 : Int32) (h0 : Heap) (n0 : Nat) (y0 y1 y2 y3 : Int32) (fr : List (Addr × (Cell → Prop))) (O0 : Own.Owns n0 h0 ((o0, Own.ArrC Z .char [(.int y0), (.int y1), (.int y2), (.int y3)]) :: fr)) (hy0 : nar .char y0 = y0) (hy1 : nar .char y1 = y1) (hy2 : nar .char y2 = y2) (hy3 : nar .char y3 = y3) (hc : nar .char p2 = p2) : Own.Does l (⟨"com/example/idxof/idxof/KnuthMorrisPrattPatternExtendPinLaw", "ends", "([CICI)Z"⟩ : MethodName) method_3_code 5 (some .boolean) [] ({ frames := 1, cells := 0, slots := 0, locals := 24 } : Room) Z #[(.ref o0), (.int (0 : Int32)), (.int p2), (.int (4 : Int32))] h0 n0 (fun v h => v = some (.int (0 : Int32)) ∧ h = h0) := by
  refine Own.doesOf pn4 ?_
  intro p e s m below meth c hx hby hml hret hlk hown hnm hZ
  refine Own.Goes.cast (ef1_4_0_4 m o0 p2) ?_
  refine Own.iloadN hx (4 : Int32) (hb hby d1_0) rfl rfl ?_
  refine Own.iloadN hx (0 : Int32) (hb hby d1_1) rfl rfl ?_
  refine Own.iconst hx (1 : Int32) (hb hby d1_2) rfl (by decide) ?_
  refine Own.iadd hx (hb hby d1_3) rfl ?_
  refine Own.vI (1 : Int32) (by decide) ?_
  have hc1 : (1 : Int32) < (4 : Int32) := by decide
  refine Own.icmpF hx (Own.q_gt (4 : Int32) (1 : Int32)) (hb hby d1_4) (pcN := 7) rfl (by decide) (pcT := 13) rfl (fun _ => ?_) (fun q => absurd hc1 q)
  refine Own.iconst hx (0 : Int32) (hb hby d1_13) rfl (by decide) ?_
  exact Own.retS hx hret (by simp) hlk (hb hby d1_14) (by decide) (by decide) ⟨rfl, rfl⟩

def fX4_1_1 (y0 y1 y2 y3 p2 : Int32) : Int32 := (if y0 = p2 then (1 : Int32) else (0 : Int32))
theorem ef1_4_1_1 (m : MethodId) (o0 : Addr) (p2 : Int32) : entryFrame m #[(.ref o0), (.int (1 : Int32)), (.int p2), (.int (1 : Int32))] 5 = mkF m 0 #[.val (.ref o0), .val (.int (1 : Int32)), .val (.int p2), .val (.int (1 : Int32)), .unset] [] := by first | (simp [entryFrame, mkF, argsToLocals, Value.category]; done) | rfl
set_option maxRecDepth 65536 in
set_option maxHeartbeats 40000000 in
theorem rm1_4_1_1 (l : Launch) (Z : State) (a0 : Array Value) (hw : ∀ d ∈ tables_1, d.before a0 Z = true) (o0 : Addr) (p2 : Int32) (h0 : Heap) (n0 : Nat) (y0 y1 y2 y3 : Int32) (fr : List (Addr × (Cell → Prop))) (O0 : Own.Owns n0 h0 ((o0, Own.ArrC Z .char [(.int y0), (.int y1), (.int y2), (.int y3)]) :: fr)) (hy0 : nar .char y0 = y0) (hy1 : nar .char y1 = y1) (hy2 : nar .char y2 = y2) (hy3 : nar .char y3 = y3) (hc : nar .char p2 = p2) : Own.Does l (⟨"com/example/idxof/idxof/KnuthMorrisPrattPatternExtendPinLaw", "ends", "([CICI)Z"⟩ : MethodName) method_3_code 5 (some .boolean) [] ({ frames := 1, cells := 0, slots := 0, locals := 24 } : Room) Z #[(.ref o0), (.int (1 : Int32)), (.int p2), (.int (1 : Int32))] h0 n0 (fun v h => v = some (.int (fX4_1_1 y0 y1 y2 y3 p2)) ∧ h = h0) := by
  refine Own.doesOf pn4 ?_
  intro p e s m below meth c hx hby hml hret hlk hown hnm hZ
  refine Own.Goes.cast (ef1_4_1_1 m o0 p2) ?_
  refine Own.iloadN hx (1 : Int32) (hb hby d1_0) rfl rfl ?_
  refine Own.iloadN hx (1 : Int32) (hb hby d1_1) rfl rfl ?_
  refine Own.iconst hx (1 : Int32) (hb hby d1_2) rfl (by decide) ?_
  refine Own.iadd hx (hb hby d1_3) rfl ?_
  refine Own.vI (2 : Int32) (by decide) ?_
  have hc1 : ¬ ((2 : Int32) < (1 : Int32)) := by decide
  refine Own.icmpF hx (Own.q_gt (1 : Int32) (2 : Int32)) (hb hby d1_4) (pcN := 7) rfl (by decide) (pcT := 13) rfl (fun q => absurd q hc1) (fun _ => ?_)
  refine Own.iloadN hx (1 : Int32) (hb hby d1_7) rfl rfl ?_
  refine Own.aloadN hx (.ref o0) (hb hby d1_8) rfl rfl rfl ?_
  refine Own.arrlen hx hZ O0 0 rfl (4 : Int32) rfl (hb hby d1_9) rfl ?_
  have hc3 : ¬ ((4 : Int32) < (1 : Int32)) := by decide
  refine Own.icmpFn hx (Own.q_le (1 : Int32) (4 : Int32)) (hb hby d1_10) (pcN := 13) rfl (by decide) (pcT := 15) rfl (fun _ => ?_) (fun q => absurd q hc3)
  refine Own.iloadN hx (1 : Int32) (hb hby d1_15) rfl rfl ?_
  refine Own.iconst hx (1 : Int32) (hb hby d1_16) rfl (by decide) ?_
  refine Own.iadd hx (hb hby d1_17) rfl ?_
  refine Own.vI (2 : Int32) (by decide) ?_
  refine Own.iloadN hx (1 : Int32) (hb hby d1_18) rfl rfl ?_
  refine Own.isub hx (hb hby d1_19) rfl ?_
  refine Own.vI (1 : Int32) (by decide) ?_
  refine Own.istore hx (1 : Int32) rfl #[.val (.ref o0), .val (.int (1 : Int32)), .val (.int p2), .val (.int (1 : Int32)), .val (.int (1 : Int32))] (hb hby d1_20) rfl rfl ?_
  refine Own.iconst hx (0 : Int32) (hb hby d1_22) rfl (by decide) ?_
  refine Own.iloadN hx (1 : Int32) (hb hby d1_23) rfl rfl ?_
  have hc5 : (0 : Int32) < (1 : Int32) := by decide
  refine Own.icmpFn hx (Own.q_ge (0 : Int32) (1 : Int32)) (hb hby d1_24) (pcN := 27) rfl (by decide) (pcT := 41) rfl (fun q => absurd hc5 q) (fun _ => ?_)
  refine Own.aloadN hx (.ref o0) (hb hby d1_27) rfl rfl rfl ?_
  refine Own.iconst hx (0 : Int32) (hb hby d1_28) rfl (by decide) ?_
  refine Own.caload hx hZ O0 0 0 rfl (by decide) (v := (.int y0)) rfl (hb hby d1_29) rfl ?_
  refine Own.aloadN hx (.ref o0) (hb hby d1_30) rfl rfl rfl ?_
  refine Own.iloadN hx (1 : Int32) (hb hby d1_31) rfl rfl ?_
  refine Own.iloadN hx p2 (hb hby d1_32) rfl rfl ?_
  refine Own.iload hx (1 : Int32) (hb hby d1_33) rfl rfl ?_
  refine Own.callS hx hZ hown (hw _ (List.mem_of_getElem? (i := 5) rfl)) (hw _ (List.mem_of_getElem? (i := 6) rfl)) (hw _ (List.mem_of_getElem? (i := 3) rfl)) (hw _ (List.mem_of_getElem? (i := 7) rfl)) (by decide) pd1 (argsL := [(.ref o0), (.int (1 : Int32)), (.int p2), (.int (1 : Int32))]) (rest := [(.int y0)]) rfl (W := 1) (Nat.le_of_eq rfl) (rm := ({ frames := 0, cells := 0, slots := 0, locals := 0 } : Room)) (by decide) (by decide) (by decide) (by decide) (k' := 0) (n' := 0) rfl rfl (by rw [hml]; rfl) [(.int (1 : Int32)), (.int p2), (.int (1 : Int32)), (.ref o0), (.int y0)] rfl (hb hby d1_35) (pc' := 38) rfl (rm2_c l Z a0 hw o0 (1 : Int32) p2 (1 : Int32) h0 n0 (by decide) hc) ?_
  rintro _ h' ⟨rfl, eh⟩
  rw [eh]; clear eh h'
  show Own.Goes _ _ _ _ _ _ _ _ _ _ _ _ _ _ _ _ _ (mkF m 38 #[.val (.ref o0), .val (.int (1 : Int32)), .val (.int p2), .val (.int (1 : Int32)), .val (.int (1 : Int32))] [(.int p2), (.int y0)])
  refine Own.icmpFn hx (Own.q_ne y0 p2) (hb hby d1_38) (pcN := 41) rfl (by decide) (pcT := 108) rfl (fun hc7 => ?_) (fun hc7 => ?_)
  · refine Own.iconst hx (0 : Int32) (hb hby d1_108) rfl (by decide) ?_
    exact Own.retS hx hret (by simp) hlk (hb hby d1_109) (by decide) (by decide) ⟨by rw [show fX4_1_1 y0 y1 y2 y3 p2 = (0 : Int32) from by simp only [fX4_1_1, if_neg hc7]]; try rfl, rfl⟩
  · refine Own.iconst hx (1 : Int32) (hb hby d1_41) rfl (by decide) ?_
    refine Own.iloadN hx (1 : Int32) (hb hby d1_42) rfl rfl ?_
    have hc8 : ¬ ((1 : Int32) < (1 : Int32)) := by decide
    refine Own.icmpFn hx (Own.q_ge (1 : Int32) (1 : Int32)) (hb hby d1_43) (pcN := 46) rfl (by decide) (pcT := 62) rfl (fun _ => ?_) (fun q => absurd q hc8)
    refine Own.iconst hx (2 : Int32) (hb hby d1_62) rfl (by decide) ?_
    refine Own.iloadN hx (1 : Int32) (hb hby d1_63) rfl rfl ?_
    have hc10 : ¬ ((2 : Int32) < (1 : Int32)) := by decide
    refine Own.icmpFn hx (Own.q_ge (2 : Int32) (1 : Int32)) (hb hby d1_64) (pcN := 67) rfl (by decide) (pcT := 83) rfl (fun _ => ?_) (fun q => absurd q hc10)
    refine Own.iconst hx (3 : Int32) (hb hby d1_83) rfl (by decide) ?_
    refine Own.iloadN hx (1 : Int32) (hb hby d1_84) rfl rfl ?_
    have hc12 : ¬ ((3 : Int32) < (1 : Int32)) := by decide
    refine Own.icmpFn hx (Own.q_ge (3 : Int32) (1 : Int32)) (hb hby d1_85) (pcN := 88) rfl (by decide) (pcT := 104) rfl (fun _ => ?_) (fun q => absurd q hc12)
    refine Own.iconst hx (1 : Int32) (hb hby d1_104) rfl (by decide) ?_
    refine Own.goto hx (hb hby d1_105) (by decide) (pc' := 109) rfl ?_
    exact Own.retS hx hret (by simp) hlk (hb hby d1_109) (by decide) (by decide) ⟨by rw [show fX4_1_1 y0 y1 y2 y3 p2 = (1 : Int32) from by simp only [fX4_1_1, if_pos hc7]]; try rfl, rfl⟩

def fX4_1_2 (y0 y1 y2 y3 p2 : Int32) : Int32 := (if y1 = p2 then (1 : Int32) else (0 : Int32))
theorem ef1_4_1_2 (m : MethodId) (o0 : Addr) (p2 : Int32) : entryFrame m #[(.ref o0), (.int (1 : Int32)), (.int p2), (.int (2 : Int32))] 5 = mkF m 0 #[.val (.ref o0), .val (.int (1 : Int32)), .val (.int p2), .val (.int (2 : Int32)), .unset] [] := by first | (simp [entryFrame, mkF, argsToLocals, Value.category]; done) | rfl
set_option maxRecDepth 65536 in
set_option maxHeartbeats 40000000 in
theorem rm1_4_1_2 (l : Launch) (Z : State) (a0 : Array Value) (hw : ∀ d ∈ tables_1, d.before a0 Z = true) (o0 : Addr) (p2 : Int32) (h0 : Heap) (n0 : Nat) (y0 y1 y2 y3 : Int32) (fr : List (Addr × (Cell → Prop))) (O0 : Own.Owns n0 h0 ((o0, Own.ArrC Z .char [(.int y0), (.int y1), (.int y2), (.int y3)]) :: fr)) (hy0 : nar .char y0 = y0) (hy1 : nar .char y1 = y1) (hy2 : nar .char y2 = y2) (hy3 : nar .char y3 = y3) (hc : nar .char p2 = p2) : Own.Does l (⟨"com/example/idxof/idxof/KnuthMorrisPrattPatternExtendPinLaw", "ends", "([CICI)Z"⟩ : MethodName) method_3_code 5 (some .boolean) [] ({ frames := 1, cells := 0, slots := 0, locals := 24 } : Room) Z #[(.ref o0), (.int (1 : Int32)), (.int p2), (.int (2 : Int32))] h0 n0 (fun v h => v = some (.int (fX4_1_2 y0 y1 y2 y3 p2)) ∧ h = h0) := by
  refine Own.doesOf pn4 ?_
  intro p e s m below meth c hx hby hml hret hlk hown hnm hZ
  refine Own.Goes.cast (ef1_4_1_2 m o0 p2) ?_
  refine Own.iloadN hx (2 : Int32) (hb hby d1_0) rfl rfl ?_
  refine Own.iloadN hx (1 : Int32) (hb hby d1_1) rfl rfl ?_
  refine Own.iconst hx (1 : Int32) (hb hby d1_2) rfl (by decide) ?_
  refine Own.iadd hx (hb hby d1_3) rfl ?_
  refine Own.vI (2 : Int32) (by decide) ?_
  have hc1 : ¬ ((2 : Int32) < (2 : Int32)) := by decide
  refine Own.icmpF hx (Own.q_gt (2 : Int32) (2 : Int32)) (hb hby d1_4) (pcN := 7) rfl (by decide) (pcT := 13) rfl (fun q => absurd q hc1) (fun _ => ?_)
  refine Own.iloadN hx (2 : Int32) (hb hby d1_7) rfl rfl ?_
  refine Own.aloadN hx (.ref o0) (hb hby d1_8) rfl rfl rfl ?_
  refine Own.arrlen hx hZ O0 0 rfl (4 : Int32) rfl (hb hby d1_9) rfl ?_
  have hc3 : ¬ ((4 : Int32) < (2 : Int32)) := by decide
  refine Own.icmpFn hx (Own.q_le (2 : Int32) (4 : Int32)) (hb hby d1_10) (pcN := 13) rfl (by decide) (pcT := 15) rfl (fun _ => ?_) (fun q => absurd q hc3)
  refine Own.iloadN hx (1 : Int32) (hb hby d1_15) rfl rfl ?_
  refine Own.iconst hx (1 : Int32) (hb hby d1_16) rfl (by decide) ?_
  refine Own.iadd hx (hb hby d1_17) rfl ?_
  refine Own.vI (2 : Int32) (by decide) ?_
  refine Own.iloadN hx (2 : Int32) (hb hby d1_18) rfl rfl ?_
  refine Own.isub hx (hb hby d1_19) rfl ?_
  refine Own.vI (0 : Int32) (by decide) ?_
  refine Own.istore hx (0 : Int32) rfl #[.val (.ref o0), .val (.int (1 : Int32)), .val (.int p2), .val (.int (2 : Int32)), .val (.int (0 : Int32))] (hb hby d1_20) rfl rfl ?_
  refine Own.iconst hx (0 : Int32) (hb hby d1_22) rfl (by decide) ?_
  refine Own.iloadN hx (2 : Int32) (hb hby d1_23) rfl rfl ?_
  have hc5 : (0 : Int32) < (2 : Int32) := by decide
  refine Own.icmpFn hx (Own.q_ge (0 : Int32) (2 : Int32)) (hb hby d1_24) (pcN := 27) rfl (by decide) (pcT := 41) rfl (fun q => absurd hc5 q) (fun _ => ?_)
  refine Own.aloadN hx (.ref o0) (hb hby d1_27) rfl rfl rfl ?_
  refine Own.iconst hx (0 : Int32) (hb hby d1_28) rfl (by decide) ?_
  refine Own.caload hx hZ O0 0 0 rfl (by decide) (v := (.int y0)) rfl (hb hby d1_29) rfl ?_
  refine Own.aloadN hx (.ref o0) (hb hby d1_30) rfl rfl rfl ?_
  refine Own.iloadN hx (1 : Int32) (hb hby d1_31) rfl rfl ?_
  refine Own.iloadN hx p2 (hb hby d1_32) rfl rfl ?_
  refine Own.iload hx (0 : Int32) (hb hby d1_33) rfl rfl ?_
  refine Own.callS hx hZ hown (hw _ (List.mem_of_getElem? (i := 5) rfl)) (hw _ (List.mem_of_getElem? (i := 6) rfl)) (hw _ (List.mem_of_getElem? (i := 3) rfl)) (hw _ (List.mem_of_getElem? (i := 7) rfl)) (by decide) pd1 (argsL := [(.ref o0), (.int (1 : Int32)), (.int p2), (.int (0 : Int32))]) (rest := [(.int y0)]) rfl (W := 1) (Nat.le_of_eq rfl) (rm := ({ frames := 0, cells := 0, slots := 0, locals := 0 } : Room)) (by decide) (by decide) (by decide) (by decide) (k' := 0) (n' := 0) rfl rfl (by rw [hml]; rfl) [(.int (0 : Int32)), (.int p2), (.int (1 : Int32)), (.ref o0), (.int y0)] rfl (hb hby d1_35) (pc' := 38) rfl (rm2_4_0 l Z a0 hw o0 (1 : Int32) p2 h0 n0 y0 y1 y2 y3 fr O0 (by decide) hy0) ?_
  rintro _ h' ⟨rfl, eh⟩
  rw [eh]; clear eh h'
  show Own.Goes _ _ _ _ _ _ _ _ _ _ _ _ _ _ _ _ _ (mkF m 38 #[.val (.ref o0), .val (.int (1 : Int32)), .val (.int p2), .val (.int (2 : Int32)), .val (.int (0 : Int32))] [(.int y0), (.int y0)])
  have hc7 : y0 = y0 := rfl
  refine Own.icmpFn hx (Own.q_ne y0 y0) (hb hby d1_38) (pcN := 41) rfl (by decide) (pcT := 108) rfl (fun q => absurd hc7 q) (fun _ => ?_)
  refine Own.iconst hx (1 : Int32) (hb hby d1_41) rfl (by decide) ?_
  refine Own.iloadN hx (2 : Int32) (hb hby d1_42) rfl rfl ?_
  have hc9 : (1 : Int32) < (2 : Int32) := by decide
  refine Own.icmpFn hx (Own.q_ge (1 : Int32) (2 : Int32)) (hb hby d1_43) (pcN := 46) rfl (by decide) (pcT := 62) rfl (fun q => absurd hc9 q) (fun _ => ?_)
  refine Own.aloadN hx (.ref o0) (hb hby d1_46) rfl rfl rfl ?_
  refine Own.iconst hx (1 : Int32) (hb hby d1_47) rfl (by decide) ?_
  refine Own.caload hx hZ O0 0 1 rfl (by decide) (v := (.int y1)) rfl (hb hby d1_48) rfl ?_
  refine Own.aloadN hx (.ref o0) (hb hby d1_49) rfl rfl rfl ?_
  refine Own.iloadN hx (1 : Int32) (hb hby d1_50) rfl rfl ?_
  refine Own.iloadN hx p2 (hb hby d1_51) rfl rfl ?_
  refine Own.iload hx (0 : Int32) (hb hby d1_52) rfl rfl ?_
  refine Own.iconst hx (1 : Int32) (hb hby d1_54) rfl (by decide) ?_
  refine Own.iadd hx (hb hby d1_55) rfl ?_
  refine Own.vI (1 : Int32) (by decide) ?_
  refine Own.callS hx hZ hown (hw _ (List.mem_of_getElem? (i := 5) rfl)) (hw _ (List.mem_of_getElem? (i := 6) rfl)) (hw _ (List.mem_of_getElem? (i := 3) rfl)) (hw _ (List.mem_of_getElem? (i := 7) rfl)) (by decide) pd1 (argsL := [(.ref o0), (.int (1 : Int32)), (.int p2), (.int (1 : Int32))]) (rest := [(.int y1)]) rfl (W := 1) (Nat.le_of_eq rfl) (rm := ({ frames := 0, cells := 0, slots := 0, locals := 0 } : Room)) (by decide) (by decide) (by decide) (by decide) (k' := 0) (n' := 0) rfl rfl (by rw [hml]; rfl) [(.int (1 : Int32)), (.int p2), (.int (1 : Int32)), (.ref o0), (.int y1)] rfl (hb hby d1_56) (pc' := 59) rfl (rm2_c l Z a0 hw o0 (1 : Int32) p2 (1 : Int32) h0 n0 (by decide) hc) ?_
  rintro _ h' ⟨rfl, eh⟩
  rw [eh]; clear eh h'
  show Own.Goes _ _ _ _ _ _ _ _ _ _ _ _ _ _ _ _ _ (mkF m 59 #[.val (.ref o0), .val (.int (1 : Int32)), .val (.int p2), .val (.int (2 : Int32)), .val (.int (0 : Int32))] [(.int p2), (.int y1)])
  refine Own.icmpFn hx (Own.q_ne y1 p2) (hb hby d1_59) (pcN := 62) rfl (by decide) (pcT := 108) rfl (fun hc11 => ?_) (fun hc11 => ?_)
  · refine Own.iconst hx (0 : Int32) (hb hby d1_108) rfl (by decide) ?_
    exact Own.retS hx hret (by simp) hlk (hb hby d1_109) (by decide) (by decide) ⟨by rw [show fX4_1_2 y0 y1 y2 y3 p2 = (0 : Int32) from by simp only [fX4_1_2, if_neg hc11]]; try rfl, rfl⟩
  · refine Own.iconst hx (2 : Int32) (hb hby d1_62) rfl (by decide) ?_
    refine Own.iloadN hx (2 : Int32) (hb hby d1_63) rfl rfl ?_
    have hc12 : ¬ ((2 : Int32) < (2 : Int32)) := by decide
    refine Own.icmpFn hx (Own.q_ge (2 : Int32) (2 : Int32)) (hb hby d1_64) (pcN := 67) rfl (by decide) (pcT := 83) rfl (fun _ => ?_) (fun q => absurd q hc12)
    refine Own.iconst hx (3 : Int32) (hb hby d1_83) rfl (by decide) ?_
    refine Own.iloadN hx (2 : Int32) (hb hby d1_84) rfl rfl ?_
    have hc14 : ¬ ((3 : Int32) < (2 : Int32)) := by decide
    refine Own.icmpFn hx (Own.q_ge (3 : Int32) (2 : Int32)) (hb hby d1_85) (pcN := 88) rfl (by decide) (pcT := 104) rfl (fun _ => ?_) (fun q => absurd q hc14)
    refine Own.iconst hx (1 : Int32) (hb hby d1_104) rfl (by decide) ?_
    refine Own.goto hx (hb hby d1_105) (by decide) (pc' := 109) rfl ?_
    exact Own.retS hx hret (by simp) hlk (hb hby d1_109) (by decide) (by decide) ⟨by rw [show fX4_1_2 y0 y1 y2 y3 p2 = (1 : Int32) from by simp only [fX4_1_2, if_pos hc11]]; try rfl, rfl⟩

theorem ef1_4_1_3 (m : MethodId) (o0 : Addr) (p2 : Int32) : entryFrame m #[(.ref o0), (.int (1 : Int32)), (.int p2), (.int (3 : Int32))] 5 = mkF m 0 #[.val (.ref o0), .val (.int (1 : Int32)), .val (.int p2), .val (.int (3 : Int32)), .unset] [] := by first | (simp [entryFrame, mkF, argsToLocals, Value.category]; done) | rfl
set_option maxRecDepth 65536 in
set_option maxHeartbeats 40000000 in
theorem rm1_4_1_3 (l : Launch) (Z : State) (a0 : Array Value) (hw : ∀ d ∈ tables_1, d.before a0 Z = true) (o0 : Addr) (p2 : Int32) (h0 : Heap) (n0 : Nat) (y0 y1 y2 y3 : Int32) (fr : List (Addr × (Cell → Prop))) (O0 : Own.Owns n0 h0 ((o0, Own.ArrC Z .char [(.int y0), (.int y1), (.int y2), (.int y3)]) :: fr)) (hy0 : nar .char y0 = y0) (hy1 : nar .char y1 = y1) (hy2 : nar .char y2 = y2) (hy3 : nar .char y3 = y3) (hc : nar .char p2 = p2) : Own.Does l (⟨"com/example/idxof/idxof/KnuthMorrisPrattPatternExtendPinLaw", "ends", "([CICI)Z"⟩ : MethodName) method_3_code 5 (some .boolean) [] ({ frames := 1, cells := 0, slots := 0, locals := 24 } : Room) Z #[(.ref o0), (.int (1 : Int32)), (.int p2), (.int (3 : Int32))] h0 n0 (fun v h => v = some (.int (0 : Int32)) ∧ h = h0) := by
  refine Own.doesOf pn4 ?_
  intro p e s m below meth c hx hby hml hret hlk hown hnm hZ
  refine Own.Goes.cast (ef1_4_1_3 m o0 p2) ?_
  refine Own.iloadN hx (3 : Int32) (hb hby d1_0) rfl rfl ?_
  refine Own.iloadN hx (1 : Int32) (hb hby d1_1) rfl rfl ?_
  refine Own.iconst hx (1 : Int32) (hb hby d1_2) rfl (by decide) ?_
  refine Own.iadd hx (hb hby d1_3) rfl ?_
  refine Own.vI (2 : Int32) (by decide) ?_
  have hc1 : (2 : Int32) < (3 : Int32) := by decide
  refine Own.icmpF hx (Own.q_gt (3 : Int32) (2 : Int32)) (hb hby d1_4) (pcN := 7) rfl (by decide) (pcT := 13) rfl (fun _ => ?_) (fun q => absurd hc1 q)
  refine Own.iconst hx (0 : Int32) (hb hby d1_13) rfl (by decide) ?_
  exact Own.retS hx hret (by simp) hlk (hb hby d1_14) (by decide) (by decide) ⟨rfl, rfl⟩

theorem ef1_4_1_4 (m : MethodId) (o0 : Addr) (p2 : Int32) : entryFrame m #[(.ref o0), (.int (1 : Int32)), (.int p2), (.int (4 : Int32))] 5 = mkF m 0 #[.val (.ref o0), .val (.int (1 : Int32)), .val (.int p2), .val (.int (4 : Int32)), .unset] [] := by first | (simp [entryFrame, mkF, argsToLocals, Value.category]; done) | rfl
set_option maxRecDepth 65536 in
set_option maxHeartbeats 40000000 in
theorem rm1_4_1_4 (l : Launch) (Z : State) (a0 : Array Value) (hw : ∀ d ∈ tables_1, d.before a0 Z = true) (o0 : Addr) (p2 : Int32) (h0 : Heap) (n0 : Nat) (y0 y1 y2 y3 : Int32) (fr : List (Addr × (Cell → Prop))) (O0 : Own.Owns n0 h0 ((o0, Own.ArrC Z .char [(.int y0), (.int y1), (.int y2), (.int y3)]) :: fr)) (hy0 : nar .char y0 = y0) (hy1 : nar .char y1 = y1) (hy2 : nar .char y2 = y2) (hy3 : nar .char y3 = y3) (hc : nar .char p2 = p2) : Own.Does l (⟨"com/example/idxof/idxof/KnuthMorrisPrattPatternExtendPinLaw", "ends", "([CICI)Z"⟩ : MethodName) method_3_code 5 (some .boolean) [] ({ frames := 1, cells := 0, slots := 0, locals := 24 } : Room) Z #[(.ref o0), (.int (1 : Int32)), (.int p2), (.int (4 : Int32))] h0 n0 (fun v h => v = some (.int (0 : Int32)) ∧ h = h0) := by
  refine Own.doesOf pn4 ?_
  intro p e s m below meth c hx hby hml hret hlk hown hnm hZ
  refine Own.Goes.cast (ef1_4_1_4 m o0 p2) ?_
  refine Own.iloadN hx (4 : Int32) (hb hby d1_0) rfl rfl ?_
  refine Own.iloadN hx (1 : Int32) (hb hby d1_1) rfl rfl ?_
  refine Own.iconst hx (1 : Int32) (hb hby d1_2) rfl (by decide) ?_
  refine Own.iadd hx (hb hby d1_3) rfl ?_
  refine Own.vI (2 : Int32) (by decide) ?_
  have hc1 : (2 : Int32) < (4 : Int32) := by decide
  refine Own.icmpF hx (Own.q_gt (4 : Int32) (2 : Int32)) (hb hby d1_4) (pcN := 7) rfl (by decide) (pcT := 13) rfl (fun _ => ?_) (fun q => absurd hc1 q)
  refine Own.iconst hx (0 : Int32) (hb hby d1_13) rfl (by decide) ?_
  exact Own.retS hx hret (by simp) hlk (hb hby d1_14) (by decide) (by decide) ⟨rfl, rfl⟩

def fX4_2_1 (y0 y1 y2 y3 p2 : Int32) : Int32 := (if y0 = p2 then (1 : Int32) else (0 : Int32))
theorem ef1_4_2_1 (m : MethodId) (o0 : Addr) (p2 : Int32) : entryFrame m #[(.ref o0), (.int (2 : Int32)), (.int p2), (.int (1 : Int32))] 5 = mkF m 0 #[.val (.ref o0), .val (.int (2 : Int32)), .val (.int p2), .val (.int (1 : Int32)), .unset] [] := by first | (simp [entryFrame, mkF, argsToLocals, Value.category]; done) | rfl
set_option maxRecDepth 65536 in
set_option maxHeartbeats 40000000 in
theorem rm1_4_2_1 (l : Launch) (Z : State) (a0 : Array Value) (hw : ∀ d ∈ tables_1, d.before a0 Z = true) (o0 : Addr) (p2 : Int32) (h0 : Heap) (n0 : Nat) (y0 y1 y2 y3 : Int32) (fr : List (Addr × (Cell → Prop))) (O0 : Own.Owns n0 h0 ((o0, Own.ArrC Z .char [(.int y0), (.int y1), (.int y2), (.int y3)]) :: fr)) (hy0 : nar .char y0 = y0) (hy1 : nar .char y1 = y1) (hy2 : nar .char y2 = y2) (hy3 : nar .char y3 = y3) (hc : nar .char p2 = p2) : Own.Does l (⟨"com/example/idxof/idxof/KnuthMorrisPrattPatternExtendPinLaw", "ends", "([CICI)Z"⟩ : MethodName) method_3_code 5 (some .boolean) [] ({ frames := 1, cells := 0, slots := 0, locals := 24 } : Room) Z #[(.ref o0), (.int (2 : Int32)), (.int p2), (.int (1 : Int32))] h0 n0 (fun v h => v = some (.int (fX4_2_1 y0 y1 y2 y3 p2)) ∧ h = h0) := by
  refine Own.doesOf pn4 ?_
  intro p e s m below meth c hx hby hml hret hlk hown hnm hZ
  refine Own.Goes.cast (ef1_4_2_1 m o0 p2) ?_
  refine Own.iloadN hx (1 : Int32) (hb hby d1_0) rfl rfl ?_
  refine Own.iloadN hx (2 : Int32) (hb hby d1_1) rfl rfl ?_
  refine Own.iconst hx (1 : Int32) (hb hby d1_2) rfl (by decide) ?_
  refine Own.iadd hx (hb hby d1_3) rfl ?_
  refine Own.vI (3 : Int32) (by decide) ?_
  have hc1 : ¬ ((3 : Int32) < (1 : Int32)) := by decide
  refine Own.icmpF hx (Own.q_gt (1 : Int32) (3 : Int32)) (hb hby d1_4) (pcN := 7) rfl (by decide) (pcT := 13) rfl (fun q => absurd q hc1) (fun _ => ?_)
  refine Own.iloadN hx (1 : Int32) (hb hby d1_7) rfl rfl ?_
  refine Own.aloadN hx (.ref o0) (hb hby d1_8) rfl rfl rfl ?_
  refine Own.arrlen hx hZ O0 0 rfl (4 : Int32) rfl (hb hby d1_9) rfl ?_
  have hc3 : ¬ ((4 : Int32) < (1 : Int32)) := by decide
  refine Own.icmpFn hx (Own.q_le (1 : Int32) (4 : Int32)) (hb hby d1_10) (pcN := 13) rfl (by decide) (pcT := 15) rfl (fun _ => ?_) (fun q => absurd q hc3)
  refine Own.iloadN hx (2 : Int32) (hb hby d1_15) rfl rfl ?_
  refine Own.iconst hx (1 : Int32) (hb hby d1_16) rfl (by decide) ?_
  refine Own.iadd hx (hb hby d1_17) rfl ?_
  refine Own.vI (3 : Int32) (by decide) ?_
  refine Own.iloadN hx (1 : Int32) (hb hby d1_18) rfl rfl ?_
  refine Own.isub hx (hb hby d1_19) rfl ?_
  refine Own.vI (2 : Int32) (by decide) ?_
  refine Own.istore hx (2 : Int32) rfl #[.val (.ref o0), .val (.int (2 : Int32)), .val (.int p2), .val (.int (1 : Int32)), .val (.int (2 : Int32))] (hb hby d1_20) rfl rfl ?_
  refine Own.iconst hx (0 : Int32) (hb hby d1_22) rfl (by decide) ?_
  refine Own.iloadN hx (1 : Int32) (hb hby d1_23) rfl rfl ?_
  have hc5 : (0 : Int32) < (1 : Int32) := by decide
  refine Own.icmpFn hx (Own.q_ge (0 : Int32) (1 : Int32)) (hb hby d1_24) (pcN := 27) rfl (by decide) (pcT := 41) rfl (fun q => absurd hc5 q) (fun _ => ?_)
  refine Own.aloadN hx (.ref o0) (hb hby d1_27) rfl rfl rfl ?_
  refine Own.iconst hx (0 : Int32) (hb hby d1_28) rfl (by decide) ?_
  refine Own.caload hx hZ O0 0 0 rfl (by decide) (v := (.int y0)) rfl (hb hby d1_29) rfl ?_
  refine Own.aloadN hx (.ref o0) (hb hby d1_30) rfl rfl rfl ?_
  refine Own.iloadN hx (2 : Int32) (hb hby d1_31) rfl rfl ?_
  refine Own.iloadN hx p2 (hb hby d1_32) rfl rfl ?_
  refine Own.iload hx (2 : Int32) (hb hby d1_33) rfl rfl ?_
  refine Own.callS hx hZ hown (hw _ (List.mem_of_getElem? (i := 5) rfl)) (hw _ (List.mem_of_getElem? (i := 6) rfl)) (hw _ (List.mem_of_getElem? (i := 3) rfl)) (hw _ (List.mem_of_getElem? (i := 7) rfl)) (by decide) pd1 (argsL := [(.ref o0), (.int (2 : Int32)), (.int p2), (.int (2 : Int32))]) (rest := [(.int y0)]) rfl (W := 1) (Nat.le_of_eq rfl) (rm := ({ frames := 0, cells := 0, slots := 0, locals := 0 } : Room)) (by decide) (by decide) (by decide) (by decide) (k' := 0) (n' := 0) rfl rfl (by rw [hml]; rfl) [(.int (2 : Int32)), (.int p2), (.int (2 : Int32)), (.ref o0), (.int y0)] rfl (hb hby d1_35) (pc' := 38) rfl (rm2_c l Z a0 hw o0 (2 : Int32) p2 (2 : Int32) h0 n0 (by decide) hc) ?_
  rintro _ h' ⟨rfl, eh⟩
  rw [eh]; clear eh h'
  show Own.Goes _ _ _ _ _ _ _ _ _ _ _ _ _ _ _ _ _ (mkF m 38 #[.val (.ref o0), .val (.int (2 : Int32)), .val (.int p2), .val (.int (1 : Int32)), .val (.int (2 : Int32))] [(.int p2), (.int y0)])
  refine Own.icmpFn hx (Own.q_ne y0 p2) (hb hby d1_38) (pcN := 41) rfl (by decide) (pcT := 108) rfl (fun hc7 => ?_) (fun hc7 => ?_)
  · refine Own.iconst hx (0 : Int32) (hb hby d1_108) rfl (by decide) ?_
    exact Own.retS hx hret (by simp) hlk (hb hby d1_109) (by decide) (by decide) ⟨by rw [show fX4_2_1 y0 y1 y2 y3 p2 = (0 : Int32) from by simp only [fX4_2_1, if_neg hc7]]; try rfl, rfl⟩
  · refine Own.iconst hx (1 : Int32) (hb hby d1_41) rfl (by decide) ?_
    refine Own.iloadN hx (1 : Int32) (hb hby d1_42) rfl rfl ?_
    have hc8 : ¬ ((1 : Int32) < (1 : Int32)) := by decide
    refine Own.icmpFn hx (Own.q_ge (1 : Int32) (1 : Int32)) (hb hby d1_43) (pcN := 46) rfl (by decide) (pcT := 62) rfl (fun _ => ?_) (fun q => absurd q hc8)
    refine Own.iconst hx (2 : Int32) (hb hby d1_62) rfl (by decide) ?_
    refine Own.iloadN hx (1 : Int32) (hb hby d1_63) rfl rfl ?_
    have hc10 : ¬ ((2 : Int32) < (1 : Int32)) := by decide
    refine Own.icmpFn hx (Own.q_ge (2 : Int32) (1 : Int32)) (hb hby d1_64) (pcN := 67) rfl (by decide) (pcT := 83) rfl (fun _ => ?_) (fun q => absurd q hc10)
    refine Own.iconst hx (3 : Int32) (hb hby d1_83) rfl (by decide) ?_
    refine Own.iloadN hx (1 : Int32) (hb hby d1_84) rfl rfl ?_
    have hc12 : ¬ ((3 : Int32) < (1 : Int32)) := by decide
    refine Own.icmpFn hx (Own.q_ge (3 : Int32) (1 : Int32)) (hb hby d1_85) (pcN := 88) rfl (by decide) (pcT := 104) rfl (fun _ => ?_) (fun q => absurd q hc12)
    refine Own.iconst hx (1 : Int32) (hb hby d1_104) rfl (by decide) ?_
    refine Own.goto hx (hb hby d1_105) (by decide) (pc' := 109) rfl ?_
    exact Own.retS hx hret (by simp) hlk (hb hby d1_109) (by decide) (by decide) ⟨by rw [show fX4_2_1 y0 y1 y2 y3 p2 = (1 : Int32) from by simp only [fX4_2_1, if_pos hc7]]; try rfl, rfl⟩

def fX4_2_2 (y0 y1 y2 y3 p2 : Int32) : Int32 := (if y0 = y1 then (if y1 = p2 then (1 : Int32) else (0 : Int32)) else (0 : Int32))
theorem ef1_4_2_2 (m : MethodId) (o0 : Addr) (p2 : Int32) : entryFrame m #[(.ref o0), (.int (2 : Int32)), (.int p2), (.int (2 : Int32))] 5 = mkF m 0 #[.val (.ref o0), .val (.int (2 : Int32)), .val (.int p2), .val (.int (2 : Int32)), .unset] [] := by first | (simp [entryFrame, mkF, argsToLocals, Value.category]; done) | rfl
set_option maxRecDepth 65536 in
set_option maxHeartbeats 40000000 in
theorem rm1_4_2_2 (l : Launch) (Z : State) (a0 : Array Value) (hw : ∀ d ∈ tables_1, d.before a0 Z = true) (o0 : Addr) (p2 : Int32) (h0 : Heap) (n0 : Nat) (y0 y1 y2 y3 : Int32) (fr : List (Addr × (Cell → Prop))) (O0 : Own.Owns n0 h0 ((o0, Own.ArrC Z .char [(.int y0), (.int y1), (.int y2), (.int y3)]) :: fr)) (hy0 : nar .char y0 = y0) (hy1 : nar .char y1 = y1) (hy2 : nar .char y2 = y2) (hy3 : nar .char y3 = y3) (hc : nar .char p2 = p2) : Own.Does l (⟨"com/example/idxof/idxof/KnuthMorrisPrattPatternExtendPinLaw", "ends", "([CICI)Z"⟩ : MethodName) method_3_code 5 (some .boolean) [] ({ frames := 1, cells := 0, slots := 0, locals := 24 } : Room) Z #[(.ref o0), (.int (2 : Int32)), (.int p2), (.int (2 : Int32))] h0 n0 (fun v h => v = some (.int (fX4_2_2 y0 y1 y2 y3 p2)) ∧ h = h0) := by
  refine Own.doesOf pn4 ?_
  intro p e s m below meth c hx hby hml hret hlk hown hnm hZ
  refine Own.Goes.cast (ef1_4_2_2 m o0 p2) ?_
  refine Own.iloadN hx (2 : Int32) (hb hby d1_0) rfl rfl ?_
  refine Own.iloadN hx (2 : Int32) (hb hby d1_1) rfl rfl ?_
  refine Own.iconst hx (1 : Int32) (hb hby d1_2) rfl (by decide) ?_
  refine Own.iadd hx (hb hby d1_3) rfl ?_
  refine Own.vI (3 : Int32) (by decide) ?_
  have hc1 : ¬ ((3 : Int32) < (2 : Int32)) := by decide
  refine Own.icmpF hx (Own.q_gt (2 : Int32) (3 : Int32)) (hb hby d1_4) (pcN := 7) rfl (by decide) (pcT := 13) rfl (fun q => absurd q hc1) (fun _ => ?_)
  refine Own.iloadN hx (2 : Int32) (hb hby d1_7) rfl rfl ?_
  refine Own.aloadN hx (.ref o0) (hb hby d1_8) rfl rfl rfl ?_
  refine Own.arrlen hx hZ O0 0 rfl (4 : Int32) rfl (hb hby d1_9) rfl ?_
  have hc3 : ¬ ((4 : Int32) < (2 : Int32)) := by decide
  refine Own.icmpFn hx (Own.q_le (2 : Int32) (4 : Int32)) (hb hby d1_10) (pcN := 13) rfl (by decide) (pcT := 15) rfl (fun _ => ?_) (fun q => absurd q hc3)
  refine Own.iloadN hx (2 : Int32) (hb hby d1_15) rfl rfl ?_
  refine Own.iconst hx (1 : Int32) (hb hby d1_16) rfl (by decide) ?_
  refine Own.iadd hx (hb hby d1_17) rfl ?_
  refine Own.vI (3 : Int32) (by decide) ?_
  refine Own.iloadN hx (2 : Int32) (hb hby d1_18) rfl rfl ?_
  refine Own.isub hx (hb hby d1_19) rfl ?_
  refine Own.vI (1 : Int32) (by decide) ?_
  refine Own.istore hx (1 : Int32) rfl #[.val (.ref o0), .val (.int (2 : Int32)), .val (.int p2), .val (.int (2 : Int32)), .val (.int (1 : Int32))] (hb hby d1_20) rfl rfl ?_
  refine Own.iconst hx (0 : Int32) (hb hby d1_22) rfl (by decide) ?_
  refine Own.iloadN hx (2 : Int32) (hb hby d1_23) rfl rfl ?_
  have hc5 : (0 : Int32) < (2 : Int32) := by decide
  refine Own.icmpFn hx (Own.q_ge (0 : Int32) (2 : Int32)) (hb hby d1_24) (pcN := 27) rfl (by decide) (pcT := 41) rfl (fun q => absurd hc5 q) (fun _ => ?_)
  refine Own.aloadN hx (.ref o0) (hb hby d1_27) rfl rfl rfl ?_
  refine Own.iconst hx (0 : Int32) (hb hby d1_28) rfl (by decide) ?_
  refine Own.caload hx hZ O0 0 0 rfl (by decide) (v := (.int y0)) rfl (hb hby d1_29) rfl ?_
  refine Own.aloadN hx (.ref o0) (hb hby d1_30) rfl rfl rfl ?_
  refine Own.iloadN hx (2 : Int32) (hb hby d1_31) rfl rfl ?_
  refine Own.iloadN hx p2 (hb hby d1_32) rfl rfl ?_
  refine Own.iload hx (1 : Int32) (hb hby d1_33) rfl rfl ?_
  refine Own.callS hx hZ hown (hw _ (List.mem_of_getElem? (i := 5) rfl)) (hw _ (List.mem_of_getElem? (i := 6) rfl)) (hw _ (List.mem_of_getElem? (i := 3) rfl)) (hw _ (List.mem_of_getElem? (i := 7) rfl)) (by decide) pd1 (argsL := [(.ref o0), (.int (2 : Int32)), (.int p2), (.int (1 : Int32))]) (rest := [(.int y0)]) rfl (W := 1) (Nat.le_of_eq rfl) (rm := ({ frames := 0, cells := 0, slots := 0, locals := 0 } : Room)) (by decide) (by decide) (by decide) (by decide) (k' := 0) (n' := 0) rfl rfl (by rw [hml]; rfl) [(.int (1 : Int32)), (.int p2), (.int (2 : Int32)), (.ref o0), (.int y0)] rfl (hb hby d1_35) (pc' := 38) rfl (rm2_4_1 l Z a0 hw o0 (2 : Int32) p2 h0 n0 y0 y1 y2 y3 fr O0 (by decide) hy1) ?_
  rintro _ h' ⟨rfl, eh⟩
  rw [eh]; clear eh h'
  show Own.Goes _ _ _ _ _ _ _ _ _ _ _ _ _ _ _ _ _ (mkF m 38 #[.val (.ref o0), .val (.int (2 : Int32)), .val (.int p2), .val (.int (2 : Int32)), .val (.int (1 : Int32))] [(.int y1), (.int y0)])
  refine Own.icmpFn hx (Own.q_ne y0 y1) (hb hby d1_38) (pcN := 41) rfl (by decide) (pcT := 108) rfl (fun hc7 => ?_) (fun hc7 => ?_)
  · refine Own.iconst hx (0 : Int32) (hb hby d1_108) rfl (by decide) ?_
    exact Own.retS hx hret (by simp) hlk (hb hby d1_109) (by decide) (by decide) ⟨by rw [show fX4_2_2 y0 y1 y2 y3 p2 = (0 : Int32) from by simp only [fX4_2_2, if_neg hc7]]; try rfl, rfl⟩
  · refine Own.iconst hx (1 : Int32) (hb hby d1_41) rfl (by decide) ?_
    refine Own.iloadN hx (2 : Int32) (hb hby d1_42) rfl rfl ?_
    have hc8 : (1 : Int32) < (2 : Int32) := by decide
    refine Own.icmpFn hx (Own.q_ge (1 : Int32) (2 : Int32)) (hb hby d1_43) (pcN := 46) rfl (by decide) (pcT := 62) rfl (fun q => absurd hc8 q) (fun _ => ?_)
    refine Own.aloadN hx (.ref o0) (hb hby d1_46) rfl rfl rfl ?_
    refine Own.iconst hx (1 : Int32) (hb hby d1_47) rfl (by decide) ?_
    refine Own.caload hx hZ O0 0 1 rfl (by decide) (v := (.int y1)) rfl (hb hby d1_48) rfl ?_
    refine Own.aloadN hx (.ref o0) (hb hby d1_49) rfl rfl rfl ?_
    refine Own.iloadN hx (2 : Int32) (hb hby d1_50) rfl rfl ?_
    refine Own.iloadN hx p2 (hb hby d1_51) rfl rfl ?_
    refine Own.iload hx (1 : Int32) (hb hby d1_52) rfl rfl ?_
    refine Own.iconst hx (1 : Int32) (hb hby d1_54) rfl (by decide) ?_
    refine Own.iadd hx (hb hby d1_55) rfl ?_
    refine Own.vI (2 : Int32) (by decide) ?_
    refine Own.callS hx hZ hown (hw _ (List.mem_of_getElem? (i := 5) rfl)) (hw _ (List.mem_of_getElem? (i := 6) rfl)) (hw _ (List.mem_of_getElem? (i := 3) rfl)) (hw _ (List.mem_of_getElem? (i := 7) rfl)) (by decide) pd1 (argsL := [(.ref o0), (.int (2 : Int32)), (.int p2), (.int (2 : Int32))]) (rest := [(.int y1)]) rfl (W := 1) (Nat.le_of_eq rfl) (rm := ({ frames := 0, cells := 0, slots := 0, locals := 0 } : Room)) (by decide) (by decide) (by decide) (by decide) (k' := 0) (n' := 0) rfl rfl (by rw [hml]; rfl) [(.int (2 : Int32)), (.int p2), (.int (2 : Int32)), (.ref o0), (.int y1)] rfl (hb hby d1_56) (pc' := 59) rfl (rm2_c l Z a0 hw o0 (2 : Int32) p2 (2 : Int32) h0 n0 (by decide) hc) ?_
    rintro _ h' ⟨rfl, eh⟩
    rw [eh]; clear eh h'
    show Own.Goes _ _ _ _ _ _ _ _ _ _ _ _ _ _ _ _ _ (mkF m 59 #[.val (.ref o0), .val (.int (2 : Int32)), .val (.int p2), .val (.int (2 : Int32)), .val (.int (1 : Int32))] [(.int p2), (.int y1)])
    refine Own.icmpFn hx (Own.q_ne y1 p2) (hb hby d1_59) (pcN := 62) rfl (by decide) (pcT := 108) rfl (fun hc10 => ?_) (fun hc10 => ?_)
    · refine Own.iconst hx (0 : Int32) (hb hby d1_108) rfl (by decide) ?_
      exact Own.retS hx hret (by simp) hlk (hb hby d1_109) (by decide) (by decide) ⟨by rw [show fX4_2_2 y0 y1 y2 y3 p2 = (0 : Int32) from by simp only [fX4_2_2, if_pos hc7, if_neg hc10]]; try rfl, rfl⟩
    · refine Own.iconst hx (2 : Int32) (hb hby d1_62) rfl (by decide) ?_
      refine Own.iloadN hx (2 : Int32) (hb hby d1_63) rfl rfl ?_
      have hc11 : ¬ ((2 : Int32) < (2 : Int32)) := by decide
      refine Own.icmpFn hx (Own.q_ge (2 : Int32) (2 : Int32)) (hb hby d1_64) (pcN := 67) rfl (by decide) (pcT := 83) rfl (fun _ => ?_) (fun q => absurd q hc11)
      refine Own.iconst hx (3 : Int32) (hb hby d1_83) rfl (by decide) ?_
      refine Own.iloadN hx (2 : Int32) (hb hby d1_84) rfl rfl ?_
      have hc13 : ¬ ((3 : Int32) < (2 : Int32)) := by decide
      refine Own.icmpFn hx (Own.q_ge (3 : Int32) (2 : Int32)) (hb hby d1_85) (pcN := 88) rfl (by decide) (pcT := 104) rfl (fun _ => ?_) (fun q => absurd q hc13)
      refine Own.iconst hx (1 : Int32) (hb hby d1_104) rfl (by decide) ?_
      refine Own.goto hx (hb hby d1_105) (by decide) (pc' := 109) rfl ?_
      exact Own.retS hx hret (by simp) hlk (hb hby d1_109) (by decide) (by decide) ⟨by rw [show fX4_2_2 y0 y1 y2 y3 p2 = (1 : Int32) from by simp only [fX4_2_2, if_pos hc7, if_pos hc10]]; try rfl, rfl⟩

def fX4_2_3 (y0 y1 y2 y3 p2 : Int32) : Int32 := (if y2 = p2 then (1 : Int32) else (0 : Int32))
theorem ef1_4_2_3 (m : MethodId) (o0 : Addr) (p2 : Int32) : entryFrame m #[(.ref o0), (.int (2 : Int32)), (.int p2), (.int (3 : Int32))] 5 = mkF m 0 #[.val (.ref o0), .val (.int (2 : Int32)), .val (.int p2), .val (.int (3 : Int32)), .unset] [] := by first | (simp [entryFrame, mkF, argsToLocals, Value.category]; done) | rfl
set_option maxRecDepth 65536 in
set_option maxHeartbeats 40000000 in
theorem rm1_4_2_3 (l : Launch) (Z : State) (a0 : Array Value) (hw : ∀ d ∈ tables_1, d.before a0 Z = true) (o0 : Addr) (p2 : Int32) (h0 : Heap) (n0 : Nat) (y0 y1 y2 y3 : Int32) (fr : List (Addr × (Cell → Prop))) (O0 : Own.Owns n0 h0 ((o0, Own.ArrC Z .char [(.int y0), (.int y1), (.int y2), (.int y3)]) :: fr)) (hy0 : nar .char y0 = y0) (hy1 : nar .char y1 = y1) (hy2 : nar .char y2 = y2) (hy3 : nar .char y3 = y3) (hc : nar .char p2 = p2) : Own.Does l (⟨"com/example/idxof/idxof/KnuthMorrisPrattPatternExtendPinLaw", "ends", "([CICI)Z"⟩ : MethodName) method_3_code 5 (some .boolean) [] ({ frames := 1, cells := 0, slots := 0, locals := 24 } : Room) Z #[(.ref o0), (.int (2 : Int32)), (.int p2), (.int (3 : Int32))] h0 n0 (fun v h => v = some (.int (fX4_2_3 y0 y1 y2 y3 p2)) ∧ h = h0) := by
  refine Own.doesOf pn4 ?_
  intro p e s m below meth c hx hby hml hret hlk hown hnm hZ
  refine Own.Goes.cast (ef1_4_2_3 m o0 p2) ?_
  refine Own.iloadN hx (3 : Int32) (hb hby d1_0) rfl rfl ?_
  refine Own.iloadN hx (2 : Int32) (hb hby d1_1) rfl rfl ?_
  refine Own.iconst hx (1 : Int32) (hb hby d1_2) rfl (by decide) ?_
  refine Own.iadd hx (hb hby d1_3) rfl ?_
  refine Own.vI (3 : Int32) (by decide) ?_
  have hc1 : ¬ ((3 : Int32) < (3 : Int32)) := by decide
  refine Own.icmpF hx (Own.q_gt (3 : Int32) (3 : Int32)) (hb hby d1_4) (pcN := 7) rfl (by decide) (pcT := 13) rfl (fun q => absurd q hc1) (fun _ => ?_)
  refine Own.iloadN hx (3 : Int32) (hb hby d1_7) rfl rfl ?_
  refine Own.aloadN hx (.ref o0) (hb hby d1_8) rfl rfl rfl ?_
  refine Own.arrlen hx hZ O0 0 rfl (4 : Int32) rfl (hb hby d1_9) rfl ?_
  have hc3 : ¬ ((4 : Int32) < (3 : Int32)) := by decide
  refine Own.icmpFn hx (Own.q_le (3 : Int32) (4 : Int32)) (hb hby d1_10) (pcN := 13) rfl (by decide) (pcT := 15) rfl (fun _ => ?_) (fun q => absurd q hc3)
  refine Own.iloadN hx (2 : Int32) (hb hby d1_15) rfl rfl ?_
  refine Own.iconst hx (1 : Int32) (hb hby d1_16) rfl (by decide) ?_
  refine Own.iadd hx (hb hby d1_17) rfl ?_
  refine Own.vI (3 : Int32) (by decide) ?_
  refine Own.iloadN hx (3 : Int32) (hb hby d1_18) rfl rfl ?_
  refine Own.isub hx (hb hby d1_19) rfl ?_
  refine Own.vI (0 : Int32) (by decide) ?_
  refine Own.istore hx (0 : Int32) rfl #[.val (.ref o0), .val (.int (2 : Int32)), .val (.int p2), .val (.int (3 : Int32)), .val (.int (0 : Int32))] (hb hby d1_20) rfl rfl ?_
  refine Own.iconst hx (0 : Int32) (hb hby d1_22) rfl (by decide) ?_
  refine Own.iloadN hx (3 : Int32) (hb hby d1_23) rfl rfl ?_
  have hc5 : (0 : Int32) < (3 : Int32) := by decide
  refine Own.icmpFn hx (Own.q_ge (0 : Int32) (3 : Int32)) (hb hby d1_24) (pcN := 27) rfl (by decide) (pcT := 41) rfl (fun q => absurd hc5 q) (fun _ => ?_)
  refine Own.aloadN hx (.ref o0) (hb hby d1_27) rfl rfl rfl ?_
  refine Own.iconst hx (0 : Int32) (hb hby d1_28) rfl (by decide) ?_
  refine Own.caload hx hZ O0 0 0 rfl (by decide) (v := (.int y0)) rfl (hb hby d1_29) rfl ?_
  refine Own.aloadN hx (.ref o0) (hb hby d1_30) rfl rfl rfl ?_
  refine Own.iloadN hx (2 : Int32) (hb hby d1_31) rfl rfl ?_
  refine Own.iloadN hx p2 (hb hby d1_32) rfl rfl ?_
  refine Own.iload hx (0 : Int32) (hb hby d1_33) rfl rfl ?_
  refine Own.callS hx hZ hown (hw _ (List.mem_of_getElem? (i := 5) rfl)) (hw _ (List.mem_of_getElem? (i := 6) rfl)) (hw _ (List.mem_of_getElem? (i := 3) rfl)) (hw _ (List.mem_of_getElem? (i := 7) rfl)) (by decide) pd1 (argsL := [(.ref o0), (.int (2 : Int32)), (.int p2), (.int (0 : Int32))]) (rest := [(.int y0)]) rfl (W := 1) (Nat.le_of_eq rfl) (rm := ({ frames := 0, cells := 0, slots := 0, locals := 0 } : Room)) (by decide) (by decide) (by decide) (by decide) (k' := 0) (n' := 0) rfl rfl (by rw [hml]; rfl) [(.int (0 : Int32)), (.int p2), (.int (2 : Int32)), (.ref o0), (.int y0)] rfl (hb hby d1_35) (pc' := 38) rfl (rm2_4_0 l Z a0 hw o0 (2 : Int32) p2 h0 n0 y0 y1 y2 y3 fr O0 (by decide) hy0) ?_
  rintro _ h' ⟨rfl, eh⟩
  rw [eh]; clear eh h'
  show Own.Goes _ _ _ _ _ _ _ _ _ _ _ _ _ _ _ _ _ (mkF m 38 #[.val (.ref o0), .val (.int (2 : Int32)), .val (.int p2), .val (.int (3 : Int32)), .val (.int (0 : Int32))] [(.int y0), (.int y0)])
  have hc7 : y0 = y0 := rfl
  refine Own.icmpFn hx (Own.q_ne y0 y0) (hb hby d1_38) (pcN := 41) rfl (by decide) (pcT := 108) rfl (fun q => absurd hc7 q) (fun _ => ?_)
  refine Own.iconst hx (1 : Int32) (hb hby d1_41) rfl (by decide) ?_
  refine Own.iloadN hx (3 : Int32) (hb hby d1_42) rfl rfl ?_
  have hc9 : (1 : Int32) < (3 : Int32) := by decide
  refine Own.icmpFn hx (Own.q_ge (1 : Int32) (3 : Int32)) (hb hby d1_43) (pcN := 46) rfl (by decide) (pcT := 62) rfl (fun q => absurd hc9 q) (fun _ => ?_)
  refine Own.aloadN hx (.ref o0) (hb hby d1_46) rfl rfl rfl ?_
  refine Own.iconst hx (1 : Int32) (hb hby d1_47) rfl (by decide) ?_
  refine Own.caload hx hZ O0 0 1 rfl (by decide) (v := (.int y1)) rfl (hb hby d1_48) rfl ?_
  refine Own.aloadN hx (.ref o0) (hb hby d1_49) rfl rfl rfl ?_
  refine Own.iloadN hx (2 : Int32) (hb hby d1_50) rfl rfl ?_
  refine Own.iloadN hx p2 (hb hby d1_51) rfl rfl ?_
  refine Own.iload hx (0 : Int32) (hb hby d1_52) rfl rfl ?_
  refine Own.iconst hx (1 : Int32) (hb hby d1_54) rfl (by decide) ?_
  refine Own.iadd hx (hb hby d1_55) rfl ?_
  refine Own.vI (1 : Int32) (by decide) ?_
  refine Own.callS hx hZ hown (hw _ (List.mem_of_getElem? (i := 5) rfl)) (hw _ (List.mem_of_getElem? (i := 6) rfl)) (hw _ (List.mem_of_getElem? (i := 3) rfl)) (hw _ (List.mem_of_getElem? (i := 7) rfl)) (by decide) pd1 (argsL := [(.ref o0), (.int (2 : Int32)), (.int p2), (.int (1 : Int32))]) (rest := [(.int y1)]) rfl (W := 1) (Nat.le_of_eq rfl) (rm := ({ frames := 0, cells := 0, slots := 0, locals := 0 } : Room)) (by decide) (by decide) (by decide) (by decide) (k' := 0) (n' := 0) rfl rfl (by rw [hml]; rfl) [(.int (1 : Int32)), (.int p2), (.int (2 : Int32)), (.ref o0), (.int y1)] rfl (hb hby d1_56) (pc' := 59) rfl (rm2_4_1 l Z a0 hw o0 (2 : Int32) p2 h0 n0 y0 y1 y2 y3 fr O0 (by decide) hy1) ?_
  rintro _ h' ⟨rfl, eh⟩
  rw [eh]; clear eh h'
  show Own.Goes _ _ _ _ _ _ _ _ _ _ _ _ _ _ _ _ _ (mkF m 59 #[.val (.ref o0), .val (.int (2 : Int32)), .val (.int p2), .val (.int (3 : Int32)), .val (.int (0 : Int32))] [(.int y1), (.int y1)])
  have hc11 : y1 = y1 := rfl
  refine Own.icmpFn hx (Own.q_ne y1 y1) (hb hby d1_59) (pcN := 62) rfl (by decide) (pcT := 108) rfl (fun q => absurd hc11 q) (fun _ => ?_)
  refine Own.iconst hx (2 : Int32) (hb hby d1_62) rfl (by decide) ?_
  refine Own.iloadN hx (3 : Int32) (hb hby d1_63) rfl rfl ?_
  have hc13 : (2 : Int32) < (3 : Int32) := by decide
  refine Own.icmpFn hx (Own.q_ge (2 : Int32) (3 : Int32)) (hb hby d1_64) (pcN := 67) rfl (by decide) (pcT := 83) rfl (fun q => absurd hc13 q) (fun _ => ?_)
  refine Own.aloadN hx (.ref o0) (hb hby d1_67) rfl rfl rfl ?_
  refine Own.iconst hx (2 : Int32) (hb hby d1_68) rfl (by decide) ?_
  refine Own.caload hx hZ O0 0 2 rfl (by decide) (v := (.int y2)) rfl (hb hby d1_69) rfl ?_
  refine Own.aloadN hx (.ref o0) (hb hby d1_70) rfl rfl rfl ?_
  refine Own.iloadN hx (2 : Int32) (hb hby d1_71) rfl rfl ?_
  refine Own.iloadN hx p2 (hb hby d1_72) rfl rfl ?_
  refine Own.iload hx (0 : Int32) (hb hby d1_73) rfl rfl ?_
  refine Own.iconst hx (2 : Int32) (hb hby d1_75) rfl (by decide) ?_
  refine Own.iadd hx (hb hby d1_76) rfl ?_
  refine Own.vI (2 : Int32) (by decide) ?_
  refine Own.callS hx hZ hown (hw _ (List.mem_of_getElem? (i := 5) rfl)) (hw _ (List.mem_of_getElem? (i := 6) rfl)) (hw _ (List.mem_of_getElem? (i := 3) rfl)) (hw _ (List.mem_of_getElem? (i := 7) rfl)) (by decide) pd1 (argsL := [(.ref o0), (.int (2 : Int32)), (.int p2), (.int (2 : Int32))]) (rest := [(.int y2)]) rfl (W := 1) (Nat.le_of_eq rfl) (rm := ({ frames := 0, cells := 0, slots := 0, locals := 0 } : Room)) (by decide) (by decide) (by decide) (by decide) (k' := 0) (n' := 0) rfl rfl (by rw [hml]; rfl) [(.int (2 : Int32)), (.int p2), (.int (2 : Int32)), (.ref o0), (.int y2)] rfl (hb hby d1_77) (pc' := 80) rfl (rm2_c l Z a0 hw o0 (2 : Int32) p2 (2 : Int32) h0 n0 (by decide) hc) ?_
  rintro _ h' ⟨rfl, eh⟩
  rw [eh]; clear eh h'
  show Own.Goes _ _ _ _ _ _ _ _ _ _ _ _ _ _ _ _ _ (mkF m 80 #[.val (.ref o0), .val (.int (2 : Int32)), .val (.int p2), .val (.int (3 : Int32)), .val (.int (0 : Int32))] [(.int p2), (.int y2)])
  refine Own.icmpFn hx (Own.q_ne y2 p2) (hb hby d1_80) (pcN := 83) rfl (by decide) (pcT := 108) rfl (fun hc15 => ?_) (fun hc15 => ?_)
  · refine Own.iconst hx (0 : Int32) (hb hby d1_108) rfl (by decide) ?_
    exact Own.retS hx hret (by simp) hlk (hb hby d1_109) (by decide) (by decide) ⟨by rw [show fX4_2_3 y0 y1 y2 y3 p2 = (0 : Int32) from by simp only [fX4_2_3, if_neg hc15]]; try rfl, rfl⟩
  · refine Own.iconst hx (3 : Int32) (hb hby d1_83) rfl (by decide) ?_
    refine Own.iloadN hx (3 : Int32) (hb hby d1_84) rfl rfl ?_
    have hc16 : ¬ ((3 : Int32) < (3 : Int32)) := by decide
    refine Own.icmpFn hx (Own.q_ge (3 : Int32) (3 : Int32)) (hb hby d1_85) (pcN := 88) rfl (by decide) (pcT := 104) rfl (fun _ => ?_) (fun q => absurd q hc16)
    refine Own.iconst hx (1 : Int32) (hb hby d1_104) rfl (by decide) ?_
    refine Own.goto hx (hb hby d1_105) (by decide) (pc' := 109) rfl ?_
    exact Own.retS hx hret (by simp) hlk (hb hby d1_109) (by decide) (by decide) ⟨by rw [show fX4_2_3 y0 y1 y2 y3 p2 = (1 : Int32) from by simp only [fX4_2_3, if_pos hc15]]; try rfl, rfl⟩

theorem ef1_4_2_4 (m : MethodId) (o0 : Addr) (p2 : Int32) : entryFrame m #[(.ref o0), (.int (2 : Int32)), (.int p2), (.int (4 : Int32))] 5 = mkF m 0 #[.val (.ref o0), .val (.int (2 : Int32)), .val (.int p2), .val (.int (4 : Int32)), .unset] [] := by first | (simp [entryFrame, mkF, argsToLocals, Value.category]; done) | rfl
set_option maxRecDepth 65536 in
set_option maxHeartbeats 40000000 in
theorem rm1_4_2_4 (l : Launch) (Z : State) (a0 : Array Value) (hw : ∀ d ∈ tables_1, d.before a0 Z = true) (o0 : Addr) (p2 : Int32) (h0 : Heap) (n0 : Nat) (y0 y1 y2 y3 : Int32) (fr : List (Addr × (Cell → Prop))) (O0 : Own.Owns n0 h0 ((o0, Own.ArrC Z .char [(.int y0), (.int y1), (.int y2), (.int y3)]) :: fr)) (hy0 : nar .char y0 = y0) (hy1 : nar .char y1 = y1) (hy2 : nar .char y2 = y2) (hy3 : nar .char y3 = y3) (hc : nar .char p2 = p2) : Own.Does l (⟨"com/example/idxof/idxof/KnuthMorrisPrattPatternExtendPinLaw", "ends", "([CICI)Z"⟩ : MethodName) method_3_code 5 (some .boolean) [] ({ frames := 1, cells := 0, slots := 0, locals := 24 } : Room) Z #[(.ref o0), (.int (2 : Int32)), (.int p2), (.int (4 : Int32))] h0 n0 (fun v h => v = some (.int (0 : Int32)) ∧ h = h0) := by
  refine Own.doesOf pn4 ?_
  intro p e s m below meth c hx hby hml hret hlk hown hnm hZ
  refine Own.Goes.cast (ef1_4_2_4 m o0 p2) ?_
  refine Own.iloadN hx (4 : Int32) (hb hby d1_0) rfl rfl ?_
  refine Own.iloadN hx (2 : Int32) (hb hby d1_1) rfl rfl ?_
  refine Own.iconst hx (1 : Int32) (hb hby d1_2) rfl (by decide) ?_
  refine Own.iadd hx (hb hby d1_3) rfl ?_
  refine Own.vI (3 : Int32) (by decide) ?_
  have hc1 : (3 : Int32) < (4 : Int32) := by decide
  refine Own.icmpF hx (Own.q_gt (4 : Int32) (3 : Int32)) (hb hby d1_4) (pcN := 7) rfl (by decide) (pcT := 13) rfl (fun _ => ?_) (fun q => absurd hc1 q)
  refine Own.iconst hx (0 : Int32) (hb hby d1_13) rfl (by decide) ?_
  exact Own.retS hx hret (by simp) hlk (hb hby d1_14) (by decide) (by decide) ⟨rfl, rfl⟩

def fX4_3_1 (y0 y1 y2 y3 p2 : Int32) : Int32 := (if y0 = p2 then (1 : Int32) else (0 : Int32))
theorem ef1_4_3_1 (m : MethodId) (o0 : Addr) (p2 : Int32) : entryFrame m #[(.ref o0), (.int (3 : Int32)), (.int p2), (.int (1 : Int32))] 5 = mkF m 0 #[.val (.ref o0), .val (.int (3 : Int32)), .val (.int p2), .val (.int (1 : Int32)), .unset] [] := by first | (simp [entryFrame, mkF, argsToLocals, Value.category]; done) | rfl
set_option maxRecDepth 65536 in
set_option maxHeartbeats 40000000 in
theorem rm1_4_3_1 (l : Launch) (Z : State) (a0 : Array Value) (hw : ∀ d ∈ tables_1, d.before a0 Z = true) (o0 : Addr) (p2 : Int32) (h0 : Heap) (n0 : Nat) (y0 y1 y2 y3 : Int32) (fr : List (Addr × (Cell → Prop))) (O0 : Own.Owns n0 h0 ((o0, Own.ArrC Z .char [(.int y0), (.int y1), (.int y2), (.int y3)]) :: fr)) (hy0 : nar .char y0 = y0) (hy1 : nar .char y1 = y1) (hy2 : nar .char y2 = y2) (hy3 : nar .char y3 = y3) (hc : nar .char p2 = p2) : Own.Does l (⟨"com/example/idxof/idxof/KnuthMorrisPrattPatternExtendPinLaw", "ends", "([CICI)Z"⟩ : MethodName) method_3_code 5 (some .boolean) [] ({ frames := 1, cells := 0, slots := 0, locals := 24 } : Room) Z #[(.ref o0), (.int (3 : Int32)), (.int p2), (.int (1 : Int32))] h0 n0 (fun v h => v = some (.int (fX4_3_1 y0 y1 y2 y3 p2)) ∧ h = h0) := by
  refine Own.doesOf pn4 ?_
  intro p e s m below meth c hx hby hml hret hlk hown hnm hZ
  refine Own.Goes.cast (ef1_4_3_1 m o0 p2) ?_
  refine Own.iloadN hx (1 : Int32) (hb hby d1_0) rfl rfl ?_
  refine Own.iloadN hx (3 : Int32) (hb hby d1_1) rfl rfl ?_
  refine Own.iconst hx (1 : Int32) (hb hby d1_2) rfl (by decide) ?_
  refine Own.iadd hx (hb hby d1_3) rfl ?_
  refine Own.vI (4 : Int32) (by decide) ?_
  have hc1 : ¬ ((4 : Int32) < (1 : Int32)) := by decide
  refine Own.icmpF hx (Own.q_gt (1 : Int32) (4 : Int32)) (hb hby d1_4) (pcN := 7) rfl (by decide) (pcT := 13) rfl (fun q => absurd q hc1) (fun _ => ?_)
  refine Own.iloadN hx (1 : Int32) (hb hby d1_7) rfl rfl ?_
  refine Own.aloadN hx (.ref o0) (hb hby d1_8) rfl rfl rfl ?_
  refine Own.arrlen hx hZ O0 0 rfl (4 : Int32) rfl (hb hby d1_9) rfl ?_
  have hc3 : ¬ ((4 : Int32) < (1 : Int32)) := by decide
  refine Own.icmpFn hx (Own.q_le (1 : Int32) (4 : Int32)) (hb hby d1_10) (pcN := 13) rfl (by decide) (pcT := 15) rfl (fun _ => ?_) (fun q => absurd q hc3)
  refine Own.iloadN hx (3 : Int32) (hb hby d1_15) rfl rfl ?_
  refine Own.iconst hx (1 : Int32) (hb hby d1_16) rfl (by decide) ?_
  refine Own.iadd hx (hb hby d1_17) rfl ?_
  refine Own.vI (4 : Int32) (by decide) ?_
  refine Own.iloadN hx (1 : Int32) (hb hby d1_18) rfl rfl ?_
  refine Own.isub hx (hb hby d1_19) rfl ?_
  refine Own.vI (3 : Int32) (by decide) ?_
  refine Own.istore hx (3 : Int32) rfl #[.val (.ref o0), .val (.int (3 : Int32)), .val (.int p2), .val (.int (1 : Int32)), .val (.int (3 : Int32))] (hb hby d1_20) rfl rfl ?_
  refine Own.iconst hx (0 : Int32) (hb hby d1_22) rfl (by decide) ?_
  refine Own.iloadN hx (1 : Int32) (hb hby d1_23) rfl rfl ?_
  have hc5 : (0 : Int32) < (1 : Int32) := by decide
  refine Own.icmpFn hx (Own.q_ge (0 : Int32) (1 : Int32)) (hb hby d1_24) (pcN := 27) rfl (by decide) (pcT := 41) rfl (fun q => absurd hc5 q) (fun _ => ?_)
  refine Own.aloadN hx (.ref o0) (hb hby d1_27) rfl rfl rfl ?_
  refine Own.iconst hx (0 : Int32) (hb hby d1_28) rfl (by decide) ?_
  refine Own.caload hx hZ O0 0 0 rfl (by decide) (v := (.int y0)) rfl (hb hby d1_29) rfl ?_
  refine Own.aloadN hx (.ref o0) (hb hby d1_30) rfl rfl rfl ?_
  refine Own.iloadN hx (3 : Int32) (hb hby d1_31) rfl rfl ?_
  refine Own.iloadN hx p2 (hb hby d1_32) rfl rfl ?_
  refine Own.iload hx (3 : Int32) (hb hby d1_33) rfl rfl ?_
  refine Own.callS hx hZ hown (hw _ (List.mem_of_getElem? (i := 5) rfl)) (hw _ (List.mem_of_getElem? (i := 6) rfl)) (hw _ (List.mem_of_getElem? (i := 3) rfl)) (hw _ (List.mem_of_getElem? (i := 7) rfl)) (by decide) pd1 (argsL := [(.ref o0), (.int (3 : Int32)), (.int p2), (.int (3 : Int32))]) (rest := [(.int y0)]) rfl (W := 1) (Nat.le_of_eq rfl) (rm := ({ frames := 0, cells := 0, slots := 0, locals := 0 } : Room)) (by decide) (by decide) (by decide) (by decide) (k' := 0) (n' := 0) rfl rfl (by rw [hml]; rfl) [(.int (3 : Int32)), (.int p2), (.int (3 : Int32)), (.ref o0), (.int y0)] rfl (hb hby d1_35) (pc' := 38) rfl (rm2_c l Z a0 hw o0 (3 : Int32) p2 (3 : Int32) h0 n0 (by decide) hc) ?_
  rintro _ h' ⟨rfl, eh⟩
  rw [eh]; clear eh h'
  show Own.Goes _ _ _ _ _ _ _ _ _ _ _ _ _ _ _ _ _ (mkF m 38 #[.val (.ref o0), .val (.int (3 : Int32)), .val (.int p2), .val (.int (1 : Int32)), .val (.int (3 : Int32))] [(.int p2), (.int y0)])
  refine Own.icmpFn hx (Own.q_ne y0 p2) (hb hby d1_38) (pcN := 41) rfl (by decide) (pcT := 108) rfl (fun hc7 => ?_) (fun hc7 => ?_)
  · refine Own.iconst hx (0 : Int32) (hb hby d1_108) rfl (by decide) ?_
    exact Own.retS hx hret (by simp) hlk (hb hby d1_109) (by decide) (by decide) ⟨by rw [show fX4_3_1 y0 y1 y2 y3 p2 = (0 : Int32) from by simp only [fX4_3_1, if_neg hc7]]; try rfl, rfl⟩
  · refine Own.iconst hx (1 : Int32) (hb hby d1_41) rfl (by decide) ?_
    refine Own.iloadN hx (1 : Int32) (hb hby d1_42) rfl rfl ?_
    have hc8 : ¬ ((1 : Int32) < (1 : Int32)) := by decide
    refine Own.icmpFn hx (Own.q_ge (1 : Int32) (1 : Int32)) (hb hby d1_43) (pcN := 46) rfl (by decide) (pcT := 62) rfl (fun _ => ?_) (fun q => absurd q hc8)
    refine Own.iconst hx (2 : Int32) (hb hby d1_62) rfl (by decide) ?_
    refine Own.iloadN hx (1 : Int32) (hb hby d1_63) rfl rfl ?_
    have hc10 : ¬ ((2 : Int32) < (1 : Int32)) := by decide
    refine Own.icmpFn hx (Own.q_ge (2 : Int32) (1 : Int32)) (hb hby d1_64) (pcN := 67) rfl (by decide) (pcT := 83) rfl (fun _ => ?_) (fun q => absurd q hc10)
    refine Own.iconst hx (3 : Int32) (hb hby d1_83) rfl (by decide) ?_
    refine Own.iloadN hx (1 : Int32) (hb hby d1_84) rfl rfl ?_
    have hc12 : ¬ ((3 : Int32) < (1 : Int32)) := by decide
    refine Own.icmpFn hx (Own.q_ge (3 : Int32) (1 : Int32)) (hb hby d1_85) (pcN := 88) rfl (by decide) (pcT := 104) rfl (fun _ => ?_) (fun q => absurd q hc12)
    refine Own.iconst hx (1 : Int32) (hb hby d1_104) rfl (by decide) ?_
    refine Own.goto hx (hb hby d1_105) (by decide) (pc' := 109) rfl ?_
    exact Own.retS hx hret (by simp) hlk (hb hby d1_109) (by decide) (by decide) ⟨by rw [show fX4_3_1 y0 y1 y2 y3 p2 = (1 : Int32) from by simp only [fX4_3_1, if_pos hc7]]; try rfl, rfl⟩

def fX4_3_2 (y0 y1 y2 y3 p2 : Int32) : Int32 := (if y0 = y2 then (if y1 = p2 then (1 : Int32) else (0 : Int32)) else (0 : Int32))
theorem ef1_4_3_2 (m : MethodId) (o0 : Addr) (p2 : Int32) : entryFrame m #[(.ref o0), (.int (3 : Int32)), (.int p2), (.int (2 : Int32))] 5 = mkF m 0 #[.val (.ref o0), .val (.int (3 : Int32)), .val (.int p2), .val (.int (2 : Int32)), .unset] [] := by first | (simp [entryFrame, mkF, argsToLocals, Value.category]; done) | rfl
set_option maxRecDepth 65536 in
set_option maxHeartbeats 40000000 in
theorem rm1_4_3_2 (l : Launch) (Z : State) (a0 : Array Value) (hw : ∀ d ∈ tables_1, d.before a0 Z = true) (o0 : Addr) (p2 : Int32) (h0 : Heap) (n0 : Nat) (y0 y1 y2 y3 : Int32) (fr : List (Addr × (Cell → Prop))) (O0 : Own.Owns n0 h0 ((o0, Own.ArrC Z .char [(.int y0), (.int y1), (.int y2), (.int y3)]) :: fr)) (hy0 : nar .char y0 = y0) (hy1 : nar .char y1 = y1) (hy2 : nar .char y2 = y2) (hy3 : nar .char y3 = y3) (hc : nar .char p2 = p2) : Own.Does l (⟨"com/example/idxof/idxof/KnuthMorrisPrattPatternExtendPinLaw", "ends", "([CICI)Z"⟩ : MethodName) method_3_code 5 (some .boolean) [] ({ frames := 1, cells := 0, slots := 0, locals := 24 } : Room) Z #[(.ref o0), (.int (3 : Int32)), (.int p2), (.int (2 : Int32))] h0 n0 (fun v h => v = some (.int (fX4_3_2 y0 y1 y2 y3 p2)) ∧ h = h0) := by
  refine Own.doesOf pn4 ?_
  intro p e s m below meth c hx hby hml hret hlk hown hnm hZ
  refine Own.Goes.cast (ef1_4_3_2 m o0 p2) ?_
  refine Own.iloadN hx (2 : Int32) (hb hby d1_0) rfl rfl ?_
  refine Own.iloadN hx (3 : Int32) (hb hby d1_1) rfl rfl ?_
  refine Own.iconst hx (1 : Int32) (hb hby d1_2) rfl (by decide) ?_
  refine Own.iadd hx (hb hby d1_3) rfl ?_
  refine Own.vI (4 : Int32) (by decide) ?_
  have hc1 : ¬ ((4 : Int32) < (2 : Int32)) := by decide
  refine Own.icmpF hx (Own.q_gt (2 : Int32) (4 : Int32)) (hb hby d1_4) (pcN := 7) rfl (by decide) (pcT := 13) rfl (fun q => absurd q hc1) (fun _ => ?_)
  refine Own.iloadN hx (2 : Int32) (hb hby d1_7) rfl rfl ?_
  refine Own.aloadN hx (.ref o0) (hb hby d1_8) rfl rfl rfl ?_
  refine Own.arrlen hx hZ O0 0 rfl (4 : Int32) rfl (hb hby d1_9) rfl ?_
  have hc3 : ¬ ((4 : Int32) < (2 : Int32)) := by decide
  refine Own.icmpFn hx (Own.q_le (2 : Int32) (4 : Int32)) (hb hby d1_10) (pcN := 13) rfl (by decide) (pcT := 15) rfl (fun _ => ?_) (fun q => absurd q hc3)
  refine Own.iloadN hx (3 : Int32) (hb hby d1_15) rfl rfl ?_
  refine Own.iconst hx (1 : Int32) (hb hby d1_16) rfl (by decide) ?_
  refine Own.iadd hx (hb hby d1_17) rfl ?_
  refine Own.vI (4 : Int32) (by decide) ?_
  refine Own.iloadN hx (2 : Int32) (hb hby d1_18) rfl rfl ?_
  refine Own.isub hx (hb hby d1_19) rfl ?_
  refine Own.vI (2 : Int32) (by decide) ?_
  refine Own.istore hx (2 : Int32) rfl #[.val (.ref o0), .val (.int (3 : Int32)), .val (.int p2), .val (.int (2 : Int32)), .val (.int (2 : Int32))] (hb hby d1_20) rfl rfl ?_
  refine Own.iconst hx (0 : Int32) (hb hby d1_22) rfl (by decide) ?_
  refine Own.iloadN hx (2 : Int32) (hb hby d1_23) rfl rfl ?_
  have hc5 : (0 : Int32) < (2 : Int32) := by decide
  refine Own.icmpFn hx (Own.q_ge (0 : Int32) (2 : Int32)) (hb hby d1_24) (pcN := 27) rfl (by decide) (pcT := 41) rfl (fun q => absurd hc5 q) (fun _ => ?_)
  refine Own.aloadN hx (.ref o0) (hb hby d1_27) rfl rfl rfl ?_
  refine Own.iconst hx (0 : Int32) (hb hby d1_28) rfl (by decide) ?_
  refine Own.caload hx hZ O0 0 0 rfl (by decide) (v := (.int y0)) rfl (hb hby d1_29) rfl ?_
  refine Own.aloadN hx (.ref o0) (hb hby d1_30) rfl rfl rfl ?_
  refine Own.iloadN hx (3 : Int32) (hb hby d1_31) rfl rfl ?_
  refine Own.iloadN hx p2 (hb hby d1_32) rfl rfl ?_
  refine Own.iload hx (2 : Int32) (hb hby d1_33) rfl rfl ?_
  refine Own.callS hx hZ hown (hw _ (List.mem_of_getElem? (i := 5) rfl)) (hw _ (List.mem_of_getElem? (i := 6) rfl)) (hw _ (List.mem_of_getElem? (i := 3) rfl)) (hw _ (List.mem_of_getElem? (i := 7) rfl)) (by decide) pd1 (argsL := [(.ref o0), (.int (3 : Int32)), (.int p2), (.int (2 : Int32))]) (rest := [(.int y0)]) rfl (W := 1) (Nat.le_of_eq rfl) (rm := ({ frames := 0, cells := 0, slots := 0, locals := 0 } : Room)) (by decide) (by decide) (by decide) (by decide) (k' := 0) (n' := 0) rfl rfl (by rw [hml]; rfl) [(.int (2 : Int32)), (.int p2), (.int (3 : Int32)), (.ref o0), (.int y0)] rfl (hb hby d1_35) (pc' := 38) rfl (rm2_4_2 l Z a0 hw o0 (3 : Int32) p2 h0 n0 y0 y1 y2 y3 fr O0 (by decide) hy2) ?_
  rintro _ h' ⟨rfl, eh⟩
  rw [eh]; clear eh h'
  show Own.Goes _ _ _ _ _ _ _ _ _ _ _ _ _ _ _ _ _ (mkF m 38 #[.val (.ref o0), .val (.int (3 : Int32)), .val (.int p2), .val (.int (2 : Int32)), .val (.int (2 : Int32))] [(.int y2), (.int y0)])
  refine Own.icmpFn hx (Own.q_ne y0 y2) (hb hby d1_38) (pcN := 41) rfl (by decide) (pcT := 108) rfl (fun hc7 => ?_) (fun hc7 => ?_)
  · refine Own.iconst hx (0 : Int32) (hb hby d1_108) rfl (by decide) ?_
    exact Own.retS hx hret (by simp) hlk (hb hby d1_109) (by decide) (by decide) ⟨by rw [show fX4_3_2 y0 y1 y2 y3 p2 = (0 : Int32) from by simp only [fX4_3_2, if_neg hc7]]; try rfl, rfl⟩
  · refine Own.iconst hx (1 : Int32) (hb hby d1_41) rfl (by decide) ?_
    refine Own.iloadN hx (2 : Int32) (hb hby d1_42) rfl rfl ?_
    have hc8 : (1 : Int32) < (2 : Int32) := by decide
    refine Own.icmpFn hx (Own.q_ge (1 : Int32) (2 : Int32)) (hb hby d1_43) (pcN := 46) rfl (by decide) (pcT := 62) rfl (fun q => absurd hc8 q) (fun _ => ?_)
    refine Own.aloadN hx (.ref o0) (hb hby d1_46) rfl rfl rfl ?_
    refine Own.iconst hx (1 : Int32) (hb hby d1_47) rfl (by decide) ?_
    refine Own.caload hx hZ O0 0 1 rfl (by decide) (v := (.int y1)) rfl (hb hby d1_48) rfl ?_
    refine Own.aloadN hx (.ref o0) (hb hby d1_49) rfl rfl rfl ?_
    refine Own.iloadN hx (3 : Int32) (hb hby d1_50) rfl rfl ?_
    refine Own.iloadN hx p2 (hb hby d1_51) rfl rfl ?_
    refine Own.iload hx (2 : Int32) (hb hby d1_52) rfl rfl ?_
    refine Own.iconst hx (1 : Int32) (hb hby d1_54) rfl (by decide) ?_
    refine Own.iadd hx (hb hby d1_55) rfl ?_
    refine Own.vI (3 : Int32) (by decide) ?_
    refine Own.callS hx hZ hown (hw _ (List.mem_of_getElem? (i := 5) rfl)) (hw _ (List.mem_of_getElem? (i := 6) rfl)) (hw _ (List.mem_of_getElem? (i := 3) rfl)) (hw _ (List.mem_of_getElem? (i := 7) rfl)) (by decide) pd1 (argsL := [(.ref o0), (.int (3 : Int32)), (.int p2), (.int (3 : Int32))]) (rest := [(.int y1)]) rfl (W := 1) (Nat.le_of_eq rfl) (rm := ({ frames := 0, cells := 0, slots := 0, locals := 0 } : Room)) (by decide) (by decide) (by decide) (by decide) (k' := 0) (n' := 0) rfl rfl (by rw [hml]; rfl) [(.int (3 : Int32)), (.int p2), (.int (3 : Int32)), (.ref o0), (.int y1)] rfl (hb hby d1_56) (pc' := 59) rfl (rm2_c l Z a0 hw o0 (3 : Int32) p2 (3 : Int32) h0 n0 (by decide) hc) ?_
    rintro _ h' ⟨rfl, eh⟩
    rw [eh]; clear eh h'
    show Own.Goes _ _ _ _ _ _ _ _ _ _ _ _ _ _ _ _ _ (mkF m 59 #[.val (.ref o0), .val (.int (3 : Int32)), .val (.int p2), .val (.int (2 : Int32)), .val (.int (2 : Int32))] [(.int p2), (.int y1)])
    refine Own.icmpFn hx (Own.q_ne y1 p2) (hb hby d1_59) (pcN := 62) rfl (by decide) (pcT := 108) rfl (fun hc10 => ?_) (fun hc10 => ?_)
    · refine Own.iconst hx (0 : Int32) (hb hby d1_108) rfl (by decide) ?_
      exact Own.retS hx hret (by simp) hlk (hb hby d1_109) (by decide) (by decide) ⟨by rw [show fX4_3_2 y0 y1 y2 y3 p2 = (0 : Int32) from by simp only [fX4_3_2, if_pos hc7, if_neg hc10]]; try rfl, rfl⟩
    · refine Own.iconst hx (2 : Int32) (hb hby d1_62) rfl (by decide) ?_
      refine Own.iloadN hx (2 : Int32) (hb hby d1_63) rfl rfl ?_
      have hc11 : ¬ ((2 : Int32) < (2 : Int32)) := by decide
      refine Own.icmpFn hx (Own.q_ge (2 : Int32) (2 : Int32)) (hb hby d1_64) (pcN := 67) rfl (by decide) (pcT := 83) rfl (fun _ => ?_) (fun q => absurd q hc11)
      refine Own.iconst hx (3 : Int32) (hb hby d1_83) rfl (by decide) ?_
      refine Own.iloadN hx (2 : Int32) (hb hby d1_84) rfl rfl ?_
      have hc13 : ¬ ((3 : Int32) < (2 : Int32)) := by decide
      refine Own.icmpFn hx (Own.q_ge (3 : Int32) (2 : Int32)) (hb hby d1_85) (pcN := 88) rfl (by decide) (pcT := 104) rfl (fun _ => ?_) (fun q => absurd q hc13)
      refine Own.iconst hx (1 : Int32) (hb hby d1_104) rfl (by decide) ?_
      refine Own.goto hx (hb hby d1_105) (by decide) (pc' := 109) rfl ?_
      exact Own.retS hx hret (by simp) hlk (hb hby d1_109) (by decide) (by decide) ⟨by rw [show fX4_3_2 y0 y1 y2 y3 p2 = (1 : Int32) from by simp only [fX4_3_2, if_pos hc7, if_pos hc10]]; try rfl, rfl⟩

def fX4_3_3 (y0 y1 y2 y3 p2 : Int32) : Int32 := (if y0 = y1 then (if y1 = y2 then (if y2 = p2 then (1 : Int32) else (0 : Int32)) else (0 : Int32)) else (0 : Int32))
theorem ef1_4_3_3 (m : MethodId) (o0 : Addr) (p2 : Int32) : entryFrame m #[(.ref o0), (.int (3 : Int32)), (.int p2), (.int (3 : Int32))] 5 = mkF m 0 #[.val (.ref o0), .val (.int (3 : Int32)), .val (.int p2), .val (.int (3 : Int32)), .unset] [] := by first | (simp [entryFrame, mkF, argsToLocals, Value.category]; done) | rfl
set_option maxRecDepth 65536 in
set_option maxHeartbeats 40000000 in
theorem rm1_4_3_3 (l : Launch) (Z : State) (a0 : Array Value) (hw : ∀ d ∈ tables_1, d.before a0 Z = true) (o0 : Addr) (p2 : Int32) (h0 : Heap) (n0 : Nat) (y0 y1 y2 y3 : Int32) (fr : List (Addr × (Cell → Prop))) (O0 : Own.Owns n0 h0 ((o0, Own.ArrC Z .char [(.int y0), (.int y1), (.int y2), (.int y3)]) :: fr)) (hy0 : nar .char y0 = y0) (hy1 : nar .char y1 = y1) (hy2 : nar .char y2 = y2) (hy3 : nar .char y3 = y3) (hc : nar .char p2 = p2) : Own.Does l (⟨"com/example/idxof/idxof/KnuthMorrisPrattPatternExtendPinLaw", "ends", "([CICI)Z"⟩ : MethodName) method_3_code 5 (some .boolean) [] ({ frames := 1, cells := 0, slots := 0, locals := 24 } : Room) Z #[(.ref o0), (.int (3 : Int32)), (.int p2), (.int (3 : Int32))] h0 n0 (fun v h => v = some (.int (fX4_3_3 y0 y1 y2 y3 p2)) ∧ h = h0) := by
  refine Own.doesOf pn4 ?_
  intro p e s m below meth c hx hby hml hret hlk hown hnm hZ
  refine Own.Goes.cast (ef1_4_3_3 m o0 p2) ?_
  refine Own.iloadN hx (3 : Int32) (hb hby d1_0) rfl rfl ?_
  refine Own.iloadN hx (3 : Int32) (hb hby d1_1) rfl rfl ?_
  refine Own.iconst hx (1 : Int32) (hb hby d1_2) rfl (by decide) ?_
  refine Own.iadd hx (hb hby d1_3) rfl ?_
  refine Own.vI (4 : Int32) (by decide) ?_
  have hc1 : ¬ ((4 : Int32) < (3 : Int32)) := by decide
  refine Own.icmpF hx (Own.q_gt (3 : Int32) (4 : Int32)) (hb hby d1_4) (pcN := 7) rfl (by decide) (pcT := 13) rfl (fun q => absurd q hc1) (fun _ => ?_)
  refine Own.iloadN hx (3 : Int32) (hb hby d1_7) rfl rfl ?_
  refine Own.aloadN hx (.ref o0) (hb hby d1_8) rfl rfl rfl ?_
  refine Own.arrlen hx hZ O0 0 rfl (4 : Int32) rfl (hb hby d1_9) rfl ?_
  have hc3 : ¬ ((4 : Int32) < (3 : Int32)) := by decide
  refine Own.icmpFn hx (Own.q_le (3 : Int32) (4 : Int32)) (hb hby d1_10) (pcN := 13) rfl (by decide) (pcT := 15) rfl (fun _ => ?_) (fun q => absurd q hc3)
  refine Own.iloadN hx (3 : Int32) (hb hby d1_15) rfl rfl ?_
  refine Own.iconst hx (1 : Int32) (hb hby d1_16) rfl (by decide) ?_
  refine Own.iadd hx (hb hby d1_17) rfl ?_
  refine Own.vI (4 : Int32) (by decide) ?_
  refine Own.iloadN hx (3 : Int32) (hb hby d1_18) rfl rfl ?_
  refine Own.isub hx (hb hby d1_19) rfl ?_
  refine Own.vI (1 : Int32) (by decide) ?_
  refine Own.istore hx (1 : Int32) rfl #[.val (.ref o0), .val (.int (3 : Int32)), .val (.int p2), .val (.int (3 : Int32)), .val (.int (1 : Int32))] (hb hby d1_20) rfl rfl ?_
  refine Own.iconst hx (0 : Int32) (hb hby d1_22) rfl (by decide) ?_
  refine Own.iloadN hx (3 : Int32) (hb hby d1_23) rfl rfl ?_
  have hc5 : (0 : Int32) < (3 : Int32) := by decide
  refine Own.icmpFn hx (Own.q_ge (0 : Int32) (3 : Int32)) (hb hby d1_24) (pcN := 27) rfl (by decide) (pcT := 41) rfl (fun q => absurd hc5 q) (fun _ => ?_)
  refine Own.aloadN hx (.ref o0) (hb hby d1_27) rfl rfl rfl ?_
  refine Own.iconst hx (0 : Int32) (hb hby d1_28) rfl (by decide) ?_
  refine Own.caload hx hZ O0 0 0 rfl (by decide) (v := (.int y0)) rfl (hb hby d1_29) rfl ?_
  refine Own.aloadN hx (.ref o0) (hb hby d1_30) rfl rfl rfl ?_
  refine Own.iloadN hx (3 : Int32) (hb hby d1_31) rfl rfl ?_
  refine Own.iloadN hx p2 (hb hby d1_32) rfl rfl ?_
  refine Own.iload hx (1 : Int32) (hb hby d1_33) rfl rfl ?_
  refine Own.callS hx hZ hown (hw _ (List.mem_of_getElem? (i := 5) rfl)) (hw _ (List.mem_of_getElem? (i := 6) rfl)) (hw _ (List.mem_of_getElem? (i := 3) rfl)) (hw _ (List.mem_of_getElem? (i := 7) rfl)) (by decide) pd1 (argsL := [(.ref o0), (.int (3 : Int32)), (.int p2), (.int (1 : Int32))]) (rest := [(.int y0)]) rfl (W := 1) (Nat.le_of_eq rfl) (rm := ({ frames := 0, cells := 0, slots := 0, locals := 0 } : Room)) (by decide) (by decide) (by decide) (by decide) (k' := 0) (n' := 0) rfl rfl (by rw [hml]; rfl) [(.int (1 : Int32)), (.int p2), (.int (3 : Int32)), (.ref o0), (.int y0)] rfl (hb hby d1_35) (pc' := 38) rfl (rm2_4_1 l Z a0 hw o0 (3 : Int32) p2 h0 n0 y0 y1 y2 y3 fr O0 (by decide) hy1) ?_
  rintro _ h' ⟨rfl, eh⟩
  rw [eh]; clear eh h'
  show Own.Goes _ _ _ _ _ _ _ _ _ _ _ _ _ _ _ _ _ (mkF m 38 #[.val (.ref o0), .val (.int (3 : Int32)), .val (.int p2), .val (.int (3 : Int32)), .val (.int (1 : Int32))] [(.int y1), (.int y0)])
  refine Own.icmpFn hx (Own.q_ne y0 y1) (hb hby d1_38) (pcN := 41) rfl (by decide) (pcT := 108) rfl (fun hc7 => ?_) (fun hc7 => ?_)
  · refine Own.iconst hx (0 : Int32) (hb hby d1_108) rfl (by decide) ?_
    exact Own.retS hx hret (by simp) hlk (hb hby d1_109) (by decide) (by decide) ⟨by rw [show fX4_3_3 y0 y1 y2 y3 p2 = (0 : Int32) from by simp only [fX4_3_3, if_neg hc7]]; try rfl, rfl⟩
  · refine Own.iconst hx (1 : Int32) (hb hby d1_41) rfl (by decide) ?_
    refine Own.iloadN hx (3 : Int32) (hb hby d1_42) rfl rfl ?_
    have hc8 : (1 : Int32) < (3 : Int32) := by decide
    refine Own.icmpFn hx (Own.q_ge (1 : Int32) (3 : Int32)) (hb hby d1_43) (pcN := 46) rfl (by decide) (pcT := 62) rfl (fun q => absurd hc8 q) (fun _ => ?_)
    refine Own.aloadN hx (.ref o0) (hb hby d1_46) rfl rfl rfl ?_
    refine Own.iconst hx (1 : Int32) (hb hby d1_47) rfl (by decide) ?_
    refine Own.caload hx hZ O0 0 1 rfl (by decide) (v := (.int y1)) rfl (hb hby d1_48) rfl ?_
    refine Own.aloadN hx (.ref o0) (hb hby d1_49) rfl rfl rfl ?_
    refine Own.iloadN hx (3 : Int32) (hb hby d1_50) rfl rfl ?_
    refine Own.iloadN hx p2 (hb hby d1_51) rfl rfl ?_
    refine Own.iload hx (1 : Int32) (hb hby d1_52) rfl rfl ?_
    refine Own.iconst hx (1 : Int32) (hb hby d1_54) rfl (by decide) ?_
    refine Own.iadd hx (hb hby d1_55) rfl ?_
    refine Own.vI (2 : Int32) (by decide) ?_
    refine Own.callS hx hZ hown (hw _ (List.mem_of_getElem? (i := 5) rfl)) (hw _ (List.mem_of_getElem? (i := 6) rfl)) (hw _ (List.mem_of_getElem? (i := 3) rfl)) (hw _ (List.mem_of_getElem? (i := 7) rfl)) (by decide) pd1 (argsL := [(.ref o0), (.int (3 : Int32)), (.int p2), (.int (2 : Int32))]) (rest := [(.int y1)]) rfl (W := 1) (Nat.le_of_eq rfl) (rm := ({ frames := 0, cells := 0, slots := 0, locals := 0 } : Room)) (by decide) (by decide) (by decide) (by decide) (k' := 0) (n' := 0) rfl rfl (by rw [hml]; rfl) [(.int (2 : Int32)), (.int p2), (.int (3 : Int32)), (.ref o0), (.int y1)] rfl (hb hby d1_56) (pc' := 59) rfl (rm2_4_2 l Z a0 hw o0 (3 : Int32) p2 h0 n0 y0 y1 y2 y3 fr O0 (by decide) hy2) ?_
    rintro _ h' ⟨rfl, eh⟩
    rw [eh]; clear eh h'
    show Own.Goes _ _ _ _ _ _ _ _ _ _ _ _ _ _ _ _ _ (mkF m 59 #[.val (.ref o0), .val (.int (3 : Int32)), .val (.int p2), .val (.int (3 : Int32)), .val (.int (1 : Int32))] [(.int y2), (.int y1)])
    refine Own.icmpFn hx (Own.q_ne y1 y2) (hb hby d1_59) (pcN := 62) rfl (by decide) (pcT := 108) rfl (fun hc10 => ?_) (fun hc10 => ?_)
    · refine Own.iconst hx (0 : Int32) (hb hby d1_108) rfl (by decide) ?_
      exact Own.retS hx hret (by simp) hlk (hb hby d1_109) (by decide) (by decide) ⟨by rw [show fX4_3_3 y0 y1 y2 y3 p2 = (0 : Int32) from by simp only [fX4_3_3, if_pos hc7, if_neg hc10]]; try rfl, rfl⟩
    · refine Own.iconst hx (2 : Int32) (hb hby d1_62) rfl (by decide) ?_
      refine Own.iloadN hx (3 : Int32) (hb hby d1_63) rfl rfl ?_
      have hc11 : (2 : Int32) < (3 : Int32) := by decide
      refine Own.icmpFn hx (Own.q_ge (2 : Int32) (3 : Int32)) (hb hby d1_64) (pcN := 67) rfl (by decide) (pcT := 83) rfl (fun q => absurd hc11 q) (fun _ => ?_)
      refine Own.aloadN hx (.ref o0) (hb hby d1_67) rfl rfl rfl ?_
      refine Own.iconst hx (2 : Int32) (hb hby d1_68) rfl (by decide) ?_
      refine Own.caload hx hZ O0 0 2 rfl (by decide) (v := (.int y2)) rfl (hb hby d1_69) rfl ?_
      refine Own.aloadN hx (.ref o0) (hb hby d1_70) rfl rfl rfl ?_
      refine Own.iloadN hx (3 : Int32) (hb hby d1_71) rfl rfl ?_
      refine Own.iloadN hx p2 (hb hby d1_72) rfl rfl ?_
      refine Own.iload hx (1 : Int32) (hb hby d1_73) rfl rfl ?_
      refine Own.iconst hx (2 : Int32) (hb hby d1_75) rfl (by decide) ?_
      refine Own.iadd hx (hb hby d1_76) rfl ?_
      refine Own.vI (3 : Int32) (by decide) ?_
      refine Own.callS hx hZ hown (hw _ (List.mem_of_getElem? (i := 5) rfl)) (hw _ (List.mem_of_getElem? (i := 6) rfl)) (hw _ (List.mem_of_getElem? (i := 3) rfl)) (hw _ (List.mem_of_getElem? (i := 7) rfl)) (by decide) pd1 (argsL := [(.ref o0), (.int (3 : Int32)), (.int p2), (.int (3 : Int32))]) (rest := [(.int y2)]) rfl (W := 1) (Nat.le_of_eq rfl) (rm := ({ frames := 0, cells := 0, slots := 0, locals := 0 } : Room)) (by decide) (by decide) (by decide) (by decide) (k' := 0) (n' := 0) rfl rfl (by rw [hml]; rfl) [(.int (3 : Int32)), (.int p2), (.int (3 : Int32)), (.ref o0), (.int y2)] rfl (hb hby d1_77) (pc' := 80) rfl (rm2_c l Z a0 hw o0 (3 : Int32) p2 (3 : Int32) h0 n0 (by decide) hc) ?_
      rintro _ h' ⟨rfl, eh⟩
      rw [eh]; clear eh h'
      show Own.Goes _ _ _ _ _ _ _ _ _ _ _ _ _ _ _ _ _ (mkF m 80 #[.val (.ref o0), .val (.int (3 : Int32)), .val (.int p2), .val (.int (3 : Int32)), .val (.int (1 : Int32))] [(.int p2), (.int y2)])
      refine Own.icmpFn hx (Own.q_ne y2 p2) (hb hby d1_80) (pcN := 83) rfl (by decide) (pcT := 108) rfl (fun hc13 => ?_) (fun hc13 => ?_)
      · refine Own.iconst hx (0 : Int32) (hb hby d1_108) rfl (by decide) ?_
        exact Own.retS hx hret (by simp) hlk (hb hby d1_109) (by decide) (by decide) ⟨by rw [show fX4_3_3 y0 y1 y2 y3 p2 = (0 : Int32) from by simp only [fX4_3_3, if_pos hc7, if_pos hc10, if_neg hc13]]; try rfl, rfl⟩
      · refine Own.iconst hx (3 : Int32) (hb hby d1_83) rfl (by decide) ?_
        refine Own.iloadN hx (3 : Int32) (hb hby d1_84) rfl rfl ?_
        have hc14 : ¬ ((3 : Int32) < (3 : Int32)) := by decide
        refine Own.icmpFn hx (Own.q_ge (3 : Int32) (3 : Int32)) (hb hby d1_85) (pcN := 88) rfl (by decide) (pcT := 104) rfl (fun _ => ?_) (fun q => absurd q hc14)
        refine Own.iconst hx (1 : Int32) (hb hby d1_104) rfl (by decide) ?_
        refine Own.goto hx (hb hby d1_105) (by decide) (pc' := 109) rfl ?_
        exact Own.retS hx hret (by simp) hlk (hb hby d1_109) (by decide) (by decide) ⟨by rw [show fX4_3_3 y0 y1 y2 y3 p2 = (1 : Int32) from by simp only [fX4_3_3, if_pos hc7, if_pos hc10, if_pos hc13]]; try rfl, rfl⟩

def fX4_3_4 (y0 y1 y2 y3 p2 : Int32) : Int32 := (if y3 = p2 then (1 : Int32) else (0 : Int32))
theorem d1_88 : decode method_3_code 88 = .ok (.aload_n 0, 1) := by decide +kernel
theorem d1_89 : decode method_3_code 89 = .ok (.iconst 3, 1) := by decide +kernel
theorem d1_90 : decode method_3_code 90 = .ok (.caload, 1) := by decide +kernel
theorem d1_91 : decode method_3_code 91 = .ok (.aload_n 0, 1) := by decide +kernel
theorem d1_92 : decode method_3_code 92 = .ok (.iload_n 1, 1) := by decide +kernel
theorem d1_93 : decode method_3_code 93 = .ok (.iload_n 2, 1) := by decide +kernel
theorem d1_94 : decode method_3_code 94 = .ok (.iload 4, 2) := by decide +kernel
theorem d1_96 : decode method_3_code 96 = .ok (.iconst 3, 1) := by decide +kernel
theorem d1_97 : decode method_3_code 97 = .ok (.iadd, 1) := by decide +kernel
theorem d1_98 : decode method_3_code 98 = .ok (.invokestatic 7, 3) := by decide +kernel
theorem d1_101 : decode method_3_code 101 = .ok (.if_icmp .ne 7, 3) := by decide +kernel
theorem ef1_4_3_4 (m : MethodId) (o0 : Addr) (p2 : Int32) : entryFrame m #[(.ref o0), (.int (3 : Int32)), (.int p2), (.int (4 : Int32))] 5 = mkF m 0 #[.val (.ref o0), .val (.int (3 : Int32)), .val (.int p2), .val (.int (4 : Int32)), .unset] [] := by first | (simp [entryFrame, mkF, argsToLocals, Value.category]; done) | rfl
set_option maxRecDepth 65536 in
set_option maxHeartbeats 40000000 in
theorem rm1_4_3_4 (l : Launch) (Z : State) (a0 : Array Value) (hw : ∀ d ∈ tables_1, d.before a0 Z = true) (o0 : Addr) (p2 : Int32) (h0 : Heap) (n0 : Nat) (y0 y1 y2 y3 : Int32) (fr : List (Addr × (Cell → Prop))) (O0 : Own.Owns n0 h0 ((o0, Own.ArrC Z .char [(.int y0), (.int y1), (.int y2), (.int y3)]) :: fr)) (hy0 : nar .char y0 = y0) (hy1 : nar .char y1 = y1) (hy2 : nar .char y2 = y2) (hy3 : nar .char y3 = y3) (hc : nar .char p2 = p2) : Own.Does l (⟨"com/example/idxof/idxof/KnuthMorrisPrattPatternExtendPinLaw", "ends", "([CICI)Z"⟩ : MethodName) method_3_code 5 (some .boolean) [] ({ frames := 1, cells := 0, slots := 0, locals := 24 } : Room) Z #[(.ref o0), (.int (3 : Int32)), (.int p2), (.int (4 : Int32))] h0 n0 (fun v h => v = some (.int (fX4_3_4 y0 y1 y2 y3 p2)) ∧ h = h0) := by
  refine Own.doesOf pn4 ?_
  intro p e s m below meth c hx hby hml hret hlk hown hnm hZ
  refine Own.Goes.cast (ef1_4_3_4 m o0 p2) ?_
  refine Own.iloadN hx (4 : Int32) (hb hby d1_0) rfl rfl ?_
  refine Own.iloadN hx (3 : Int32) (hb hby d1_1) rfl rfl ?_
  refine Own.iconst hx (1 : Int32) (hb hby d1_2) rfl (by decide) ?_
  refine Own.iadd hx (hb hby d1_3) rfl ?_
  refine Own.vI (4 : Int32) (by decide) ?_
  have hc1 : ¬ ((4 : Int32) < (4 : Int32)) := by decide
  refine Own.icmpF hx (Own.q_gt (4 : Int32) (4 : Int32)) (hb hby d1_4) (pcN := 7) rfl (by decide) (pcT := 13) rfl (fun q => absurd q hc1) (fun _ => ?_)
  refine Own.iloadN hx (4 : Int32) (hb hby d1_7) rfl rfl ?_
  refine Own.aloadN hx (.ref o0) (hb hby d1_8) rfl rfl rfl ?_
  refine Own.arrlen hx hZ O0 0 rfl (4 : Int32) rfl (hb hby d1_9) rfl ?_
  have hc3 : ¬ ((4 : Int32) < (4 : Int32)) := by decide
  refine Own.icmpFn hx (Own.q_le (4 : Int32) (4 : Int32)) (hb hby d1_10) (pcN := 13) rfl (by decide) (pcT := 15) rfl (fun _ => ?_) (fun q => absurd q hc3)
  refine Own.iloadN hx (3 : Int32) (hb hby d1_15) rfl rfl ?_
  refine Own.iconst hx (1 : Int32) (hb hby d1_16) rfl (by decide) ?_
  refine Own.iadd hx (hb hby d1_17) rfl ?_
  refine Own.vI (4 : Int32) (by decide) ?_
  refine Own.iloadN hx (4 : Int32) (hb hby d1_18) rfl rfl ?_
  refine Own.isub hx (hb hby d1_19) rfl ?_
  refine Own.vI (0 : Int32) (by decide) ?_
  refine Own.istore hx (0 : Int32) rfl #[.val (.ref o0), .val (.int (3 : Int32)), .val (.int p2), .val (.int (4 : Int32)), .val (.int (0 : Int32))] (hb hby d1_20) rfl rfl ?_
  refine Own.iconst hx (0 : Int32) (hb hby d1_22) rfl (by decide) ?_
  refine Own.iloadN hx (4 : Int32) (hb hby d1_23) rfl rfl ?_
  have hc5 : (0 : Int32) < (4 : Int32) := by decide
  refine Own.icmpFn hx (Own.q_ge (0 : Int32) (4 : Int32)) (hb hby d1_24) (pcN := 27) rfl (by decide) (pcT := 41) rfl (fun q => absurd hc5 q) (fun _ => ?_)
  refine Own.aloadN hx (.ref o0) (hb hby d1_27) rfl rfl rfl ?_
  refine Own.iconst hx (0 : Int32) (hb hby d1_28) rfl (by decide) ?_
  refine Own.caload hx hZ O0 0 0 rfl (by decide) (v := (.int y0)) rfl (hb hby d1_29) rfl ?_
  refine Own.aloadN hx (.ref o0) (hb hby d1_30) rfl rfl rfl ?_
  refine Own.iloadN hx (3 : Int32) (hb hby d1_31) rfl rfl ?_
  refine Own.iloadN hx p2 (hb hby d1_32) rfl rfl ?_
  refine Own.iload hx (0 : Int32) (hb hby d1_33) rfl rfl ?_
  refine Own.callS hx hZ hown (hw _ (List.mem_of_getElem? (i := 5) rfl)) (hw _ (List.mem_of_getElem? (i := 6) rfl)) (hw _ (List.mem_of_getElem? (i := 3) rfl)) (hw _ (List.mem_of_getElem? (i := 7) rfl)) (by decide) pd1 (argsL := [(.ref o0), (.int (3 : Int32)), (.int p2), (.int (0 : Int32))]) (rest := [(.int y0)]) rfl (W := 1) (Nat.le_of_eq rfl) (rm := ({ frames := 0, cells := 0, slots := 0, locals := 0 } : Room)) (by decide) (by decide) (by decide) (by decide) (k' := 0) (n' := 0) rfl rfl (by rw [hml]; rfl) [(.int (0 : Int32)), (.int p2), (.int (3 : Int32)), (.ref o0), (.int y0)] rfl (hb hby d1_35) (pc' := 38) rfl (rm2_4_0 l Z a0 hw o0 (3 : Int32) p2 h0 n0 y0 y1 y2 y3 fr O0 (by decide) hy0) ?_
  rintro _ h' ⟨rfl, eh⟩
  rw [eh]; clear eh h'
  show Own.Goes _ _ _ _ _ _ _ _ _ _ _ _ _ _ _ _ _ (mkF m 38 #[.val (.ref o0), .val (.int (3 : Int32)), .val (.int p2), .val (.int (4 : Int32)), .val (.int (0 : Int32))] [(.int y0), (.int y0)])
  have hc7 : y0 = y0 := rfl
  refine Own.icmpFn hx (Own.q_ne y0 y0) (hb hby d1_38) (pcN := 41) rfl (by decide) (pcT := 108) rfl (fun q => absurd hc7 q) (fun _ => ?_)
  refine Own.iconst hx (1 : Int32) (hb hby d1_41) rfl (by decide) ?_
  refine Own.iloadN hx (4 : Int32) (hb hby d1_42) rfl rfl ?_
  have hc9 : (1 : Int32) < (4 : Int32) := by decide
  refine Own.icmpFn hx (Own.q_ge (1 : Int32) (4 : Int32)) (hb hby d1_43) (pcN := 46) rfl (by decide) (pcT := 62) rfl (fun q => absurd hc9 q) (fun _ => ?_)
  refine Own.aloadN hx (.ref o0) (hb hby d1_46) rfl rfl rfl ?_
  refine Own.iconst hx (1 : Int32) (hb hby d1_47) rfl (by decide) ?_
  refine Own.caload hx hZ O0 0 1 rfl (by decide) (v := (.int y1)) rfl (hb hby d1_48) rfl ?_
  refine Own.aloadN hx (.ref o0) (hb hby d1_49) rfl rfl rfl ?_
  refine Own.iloadN hx (3 : Int32) (hb hby d1_50) rfl rfl ?_
  refine Own.iloadN hx p2 (hb hby d1_51) rfl rfl ?_
  refine Own.iload hx (0 : Int32) (hb hby d1_52) rfl rfl ?_
  refine Own.iconst hx (1 : Int32) (hb hby d1_54) rfl (by decide) ?_
  refine Own.iadd hx (hb hby d1_55) rfl ?_
  refine Own.vI (1 : Int32) (by decide) ?_
  refine Own.callS hx hZ hown (hw _ (List.mem_of_getElem? (i := 5) rfl)) (hw _ (List.mem_of_getElem? (i := 6) rfl)) (hw _ (List.mem_of_getElem? (i := 3) rfl)) (hw _ (List.mem_of_getElem? (i := 7) rfl)) (by decide) pd1 (argsL := [(.ref o0), (.int (3 : Int32)), (.int p2), (.int (1 : Int32))]) (rest := [(.int y1)]) rfl (W := 1) (Nat.le_of_eq rfl) (rm := ({ frames := 0, cells := 0, slots := 0, locals := 0 } : Room)) (by decide) (by decide) (by decide) (by decide) (k' := 0) (n' := 0) rfl rfl (by rw [hml]; rfl) [(.int (1 : Int32)), (.int p2), (.int (3 : Int32)), (.ref o0), (.int y1)] rfl (hb hby d1_56) (pc' := 59) rfl (rm2_4_1 l Z a0 hw o0 (3 : Int32) p2 h0 n0 y0 y1 y2 y3 fr O0 (by decide) hy1) ?_
  rintro _ h' ⟨rfl, eh⟩
  rw [eh]; clear eh h'
  show Own.Goes _ _ _ _ _ _ _ _ _ _ _ _ _ _ _ _ _ (mkF m 59 #[.val (.ref o0), .val (.int (3 : Int32)), .val (.int p2), .val (.int (4 : Int32)), .val (.int (0 : Int32))] [(.int y1), (.int y1)])
  have hc11 : y1 = y1 := rfl
  refine Own.icmpFn hx (Own.q_ne y1 y1) (hb hby d1_59) (pcN := 62) rfl (by decide) (pcT := 108) rfl (fun q => absurd hc11 q) (fun _ => ?_)
  refine Own.iconst hx (2 : Int32) (hb hby d1_62) rfl (by decide) ?_
  refine Own.iloadN hx (4 : Int32) (hb hby d1_63) rfl rfl ?_
  have hc13 : (2 : Int32) < (4 : Int32) := by decide
  refine Own.icmpFn hx (Own.q_ge (2 : Int32) (4 : Int32)) (hb hby d1_64) (pcN := 67) rfl (by decide) (pcT := 83) rfl (fun q => absurd hc13 q) (fun _ => ?_)
  refine Own.aloadN hx (.ref o0) (hb hby d1_67) rfl rfl rfl ?_
  refine Own.iconst hx (2 : Int32) (hb hby d1_68) rfl (by decide) ?_
  refine Own.caload hx hZ O0 0 2 rfl (by decide) (v := (.int y2)) rfl (hb hby d1_69) rfl ?_
  refine Own.aloadN hx (.ref o0) (hb hby d1_70) rfl rfl rfl ?_
  refine Own.iloadN hx (3 : Int32) (hb hby d1_71) rfl rfl ?_
  refine Own.iloadN hx p2 (hb hby d1_72) rfl rfl ?_
  refine Own.iload hx (0 : Int32) (hb hby d1_73) rfl rfl ?_
  refine Own.iconst hx (2 : Int32) (hb hby d1_75) rfl (by decide) ?_
  refine Own.iadd hx (hb hby d1_76) rfl ?_
  refine Own.vI (2 : Int32) (by decide) ?_
  refine Own.callS hx hZ hown (hw _ (List.mem_of_getElem? (i := 5) rfl)) (hw _ (List.mem_of_getElem? (i := 6) rfl)) (hw _ (List.mem_of_getElem? (i := 3) rfl)) (hw _ (List.mem_of_getElem? (i := 7) rfl)) (by decide) pd1 (argsL := [(.ref o0), (.int (3 : Int32)), (.int p2), (.int (2 : Int32))]) (rest := [(.int y2)]) rfl (W := 1) (Nat.le_of_eq rfl) (rm := ({ frames := 0, cells := 0, slots := 0, locals := 0 } : Room)) (by decide) (by decide) (by decide) (by decide) (k' := 0) (n' := 0) rfl rfl (by rw [hml]; rfl) [(.int (2 : Int32)), (.int p2), (.int (3 : Int32)), (.ref o0), (.int y2)] rfl (hb hby d1_77) (pc' := 80) rfl (rm2_4_2 l Z a0 hw o0 (3 : Int32) p2 h0 n0 y0 y1 y2 y3 fr O0 (by decide) hy2) ?_
  rintro _ h' ⟨rfl, eh⟩
  rw [eh]; clear eh h'
  show Own.Goes _ _ _ _ _ _ _ _ _ _ _ _ _ _ _ _ _ (mkF m 80 #[.val (.ref o0), .val (.int (3 : Int32)), .val (.int p2), .val (.int (4 : Int32)), .val (.int (0 : Int32))] [(.int y2), (.int y2)])
  have hc15 : y2 = y2 := rfl
  refine Own.icmpFn hx (Own.q_ne y2 y2) (hb hby d1_80) (pcN := 83) rfl (by decide) (pcT := 108) rfl (fun q => absurd hc15 q) (fun _ => ?_)
  refine Own.iconst hx (3 : Int32) (hb hby d1_83) rfl (by decide) ?_
  refine Own.iloadN hx (4 : Int32) (hb hby d1_84) rfl rfl ?_
  have hc17 : (3 : Int32) < (4 : Int32) := by decide
  refine Own.icmpFn hx (Own.q_ge (3 : Int32) (4 : Int32)) (hb hby d1_85) (pcN := 88) rfl (by decide) (pcT := 104) rfl (fun q => absurd hc17 q) (fun _ => ?_)
  refine Own.aloadN hx (.ref o0) (hb hby d1_88) rfl rfl rfl ?_
  refine Own.iconst hx (3 : Int32) (hb hby d1_89) rfl (by decide) ?_
  refine Own.caload hx hZ O0 0 3 rfl (by decide) (v := (.int y3)) rfl (hb hby d1_90) rfl ?_
  refine Own.aloadN hx (.ref o0) (hb hby d1_91) rfl rfl rfl ?_
  refine Own.iloadN hx (3 : Int32) (hb hby d1_92) rfl rfl ?_
  refine Own.iloadN hx p2 (hb hby d1_93) rfl rfl ?_
  refine Own.iload hx (0 : Int32) (hb hby d1_94) rfl rfl ?_
  refine Own.iconst hx (3 : Int32) (hb hby d1_96) rfl (by decide) ?_
  refine Own.iadd hx (hb hby d1_97) rfl ?_
  refine Own.vI (3 : Int32) (by decide) ?_
  refine Own.callS hx hZ hown (hw _ (List.mem_of_getElem? (i := 5) rfl)) (hw _ (List.mem_of_getElem? (i := 6) rfl)) (hw _ (List.mem_of_getElem? (i := 3) rfl)) (hw _ (List.mem_of_getElem? (i := 7) rfl)) (by decide) pd1 (argsL := [(.ref o0), (.int (3 : Int32)), (.int p2), (.int (3 : Int32))]) (rest := [(.int y3)]) rfl (W := 1) (Nat.le_of_eq rfl) (rm := ({ frames := 0, cells := 0, slots := 0, locals := 0 } : Room)) (by decide) (by decide) (by decide) (by decide) (k' := 0) (n' := 0) rfl rfl (by rw [hml]; rfl) [(.int (3 : Int32)), (.int p2), (.int (3 : Int32)), (.ref o0), (.int y3)] rfl (hb hby d1_98) (pc' := 101) rfl (rm2_c l Z a0 hw o0 (3 : Int32) p2 (3 : Int32) h0 n0 (by decide) hc) ?_
  rintro _ h' ⟨rfl, eh⟩
  rw [eh]; clear eh h'
  show Own.Goes _ _ _ _ _ _ _ _ _ _ _ _ _ _ _ _ _ (mkF m 101 #[.val (.ref o0), .val (.int (3 : Int32)), .val (.int p2), .val (.int (4 : Int32)), .val (.int (0 : Int32))] [(.int p2), (.int y3)])
  refine Own.icmpFn hx (Own.q_ne y3 p2) (hb hby d1_101) (pcN := 104) rfl (by decide) (pcT := 108) rfl (fun hc19 => ?_) (fun hc19 => ?_)
  · refine Own.iconst hx (0 : Int32) (hb hby d1_108) rfl (by decide) ?_
    exact Own.retS hx hret (by simp) hlk (hb hby d1_109) (by decide) (by decide) ⟨by rw [show fX4_3_4 y0 y1 y2 y3 p2 = (0 : Int32) from by simp only [fX4_3_4, if_neg hc19]]; try rfl, rfl⟩
  · refine Own.iconst hx (1 : Int32) (hb hby d1_104) rfl (by decide) ?_
    refine Own.goto hx (hb hby d1_105) (by decide) (pc' := 109) rfl ?_
    exact Own.retS hx hret (by simp) hlk (hb hby d1_109) (by decide) (by decide) ⟨by rw [show fX4_3_4 y0 y1 y2 y3 p2 = (1 : Int32) from by simp only [fX4_3_4, if_pos hc19]]; try rfl, rfl⟩

def fX4_4_1 (y0 y1 y2 y3 p2 : Int32) : Int32 := (if y0 = p2 then (1 : Int32) else (0 : Int32))
theorem ef1_4_4_1 (m : MethodId) (o0 : Addr) (p2 : Int32) : entryFrame m #[(.ref o0), (.int (4 : Int32)), (.int p2), (.int (1 : Int32))] 5 = mkF m 0 #[.val (.ref o0), .val (.int (4 : Int32)), .val (.int p2), .val (.int (1 : Int32)), .unset] [] := by first | (simp [entryFrame, mkF, argsToLocals, Value.category]; done) | rfl
set_option maxRecDepth 65536 in
set_option maxHeartbeats 40000000 in
theorem rm1_4_4_1 (l : Launch) (Z : State) (a0 : Array Value) (hw : ∀ d ∈ tables_1, d.before a0 Z = true) (o0 : Addr) (p2 : Int32) (h0 : Heap) (n0 : Nat) (y0 y1 y2 y3 : Int32) (fr : List (Addr × (Cell → Prop))) (O0 : Own.Owns n0 h0 ((o0, Own.ArrC Z .char [(.int y0), (.int y1), (.int y2), (.int y3)]) :: fr)) (hy0 : nar .char y0 = y0) (hy1 : nar .char y1 = y1) (hy2 : nar .char y2 = y2) (hy3 : nar .char y3 = y3) (hc : nar .char p2 = p2) : Own.Does l (⟨"com/example/idxof/idxof/KnuthMorrisPrattPatternExtendPinLaw", "ends", "([CICI)Z"⟩ : MethodName) method_3_code 5 (some .boolean) [] ({ frames := 1, cells := 0, slots := 0, locals := 24 } : Room) Z #[(.ref o0), (.int (4 : Int32)), (.int p2), (.int (1 : Int32))] h0 n0 (fun v h => v = some (.int (fX4_4_1 y0 y1 y2 y3 p2)) ∧ h = h0) := by
  refine Own.doesOf pn4 ?_
  intro p e s m below meth c hx hby hml hret hlk hown hnm hZ
  refine Own.Goes.cast (ef1_4_4_1 m o0 p2) ?_
  refine Own.iloadN hx (1 : Int32) (hb hby d1_0) rfl rfl ?_
  refine Own.iloadN hx (4 : Int32) (hb hby d1_1) rfl rfl ?_
  refine Own.iconst hx (1 : Int32) (hb hby d1_2) rfl (by decide) ?_
  refine Own.iadd hx (hb hby d1_3) rfl ?_
  refine Own.vI (5 : Int32) (by decide) ?_
  have hc1 : ¬ ((5 : Int32) < (1 : Int32)) := by decide
  refine Own.icmpF hx (Own.q_gt (1 : Int32) (5 : Int32)) (hb hby d1_4) (pcN := 7) rfl (by decide) (pcT := 13) rfl (fun q => absurd q hc1) (fun _ => ?_)
  refine Own.iloadN hx (1 : Int32) (hb hby d1_7) rfl rfl ?_
  refine Own.aloadN hx (.ref o0) (hb hby d1_8) rfl rfl rfl ?_
  refine Own.arrlen hx hZ O0 0 rfl (4 : Int32) rfl (hb hby d1_9) rfl ?_
  have hc3 : ¬ ((4 : Int32) < (1 : Int32)) := by decide
  refine Own.icmpFn hx (Own.q_le (1 : Int32) (4 : Int32)) (hb hby d1_10) (pcN := 13) rfl (by decide) (pcT := 15) rfl (fun _ => ?_) (fun q => absurd q hc3)
  refine Own.iloadN hx (4 : Int32) (hb hby d1_15) rfl rfl ?_
  refine Own.iconst hx (1 : Int32) (hb hby d1_16) rfl (by decide) ?_
  refine Own.iadd hx (hb hby d1_17) rfl ?_
  refine Own.vI (5 : Int32) (by decide) ?_
  refine Own.iloadN hx (1 : Int32) (hb hby d1_18) rfl rfl ?_
  refine Own.isub hx (hb hby d1_19) rfl ?_
  refine Own.vI (4 : Int32) (by decide) ?_
  refine Own.istore hx (4 : Int32) rfl #[.val (.ref o0), .val (.int (4 : Int32)), .val (.int p2), .val (.int (1 : Int32)), .val (.int (4 : Int32))] (hb hby d1_20) rfl rfl ?_
  refine Own.iconst hx (0 : Int32) (hb hby d1_22) rfl (by decide) ?_
  refine Own.iloadN hx (1 : Int32) (hb hby d1_23) rfl rfl ?_
  have hc5 : (0 : Int32) < (1 : Int32) := by decide
  refine Own.icmpFn hx (Own.q_ge (0 : Int32) (1 : Int32)) (hb hby d1_24) (pcN := 27) rfl (by decide) (pcT := 41) rfl (fun q => absurd hc5 q) (fun _ => ?_)
  refine Own.aloadN hx (.ref o0) (hb hby d1_27) rfl rfl rfl ?_
  refine Own.iconst hx (0 : Int32) (hb hby d1_28) rfl (by decide) ?_
  refine Own.caload hx hZ O0 0 0 rfl (by decide) (v := (.int y0)) rfl (hb hby d1_29) rfl ?_
  refine Own.aloadN hx (.ref o0) (hb hby d1_30) rfl rfl rfl ?_
  refine Own.iloadN hx (4 : Int32) (hb hby d1_31) rfl rfl ?_
  refine Own.iloadN hx p2 (hb hby d1_32) rfl rfl ?_
  refine Own.iload hx (4 : Int32) (hb hby d1_33) rfl rfl ?_
  refine Own.callS hx hZ hown (hw _ (List.mem_of_getElem? (i := 5) rfl)) (hw _ (List.mem_of_getElem? (i := 6) rfl)) (hw _ (List.mem_of_getElem? (i := 3) rfl)) (hw _ (List.mem_of_getElem? (i := 7) rfl)) (by decide) pd1 (argsL := [(.ref o0), (.int (4 : Int32)), (.int p2), (.int (4 : Int32))]) (rest := [(.int y0)]) rfl (W := 1) (Nat.le_of_eq rfl) (rm := ({ frames := 0, cells := 0, slots := 0, locals := 0 } : Room)) (by decide) (by decide) (by decide) (by decide) (k' := 0) (n' := 0) rfl rfl (by rw [hml]; rfl) [(.int (4 : Int32)), (.int p2), (.int (4 : Int32)), (.ref o0), (.int y0)] rfl (hb hby d1_35) (pc' := 38) rfl (rm2_c l Z a0 hw o0 (4 : Int32) p2 (4 : Int32) h0 n0 (by decide) hc) ?_
  rintro _ h' ⟨rfl, eh⟩
  rw [eh]; clear eh h'
  show Own.Goes _ _ _ _ _ _ _ _ _ _ _ _ _ _ _ _ _ (mkF m 38 #[.val (.ref o0), .val (.int (4 : Int32)), .val (.int p2), .val (.int (1 : Int32)), .val (.int (4 : Int32))] [(.int p2), (.int y0)])
  refine Own.icmpFn hx (Own.q_ne y0 p2) (hb hby d1_38) (pcN := 41) rfl (by decide) (pcT := 108) rfl (fun hc7 => ?_) (fun hc7 => ?_)
  · refine Own.iconst hx (0 : Int32) (hb hby d1_108) rfl (by decide) ?_
    exact Own.retS hx hret (by simp) hlk (hb hby d1_109) (by decide) (by decide) ⟨by rw [show fX4_4_1 y0 y1 y2 y3 p2 = (0 : Int32) from by simp only [fX4_4_1, if_neg hc7]]; try rfl, rfl⟩
  · refine Own.iconst hx (1 : Int32) (hb hby d1_41) rfl (by decide) ?_
    refine Own.iloadN hx (1 : Int32) (hb hby d1_42) rfl rfl ?_
    have hc8 : ¬ ((1 : Int32) < (1 : Int32)) := by decide
    refine Own.icmpFn hx (Own.q_ge (1 : Int32) (1 : Int32)) (hb hby d1_43) (pcN := 46) rfl (by decide) (pcT := 62) rfl (fun _ => ?_) (fun q => absurd q hc8)
    refine Own.iconst hx (2 : Int32) (hb hby d1_62) rfl (by decide) ?_
    refine Own.iloadN hx (1 : Int32) (hb hby d1_63) rfl rfl ?_
    have hc10 : ¬ ((2 : Int32) < (1 : Int32)) := by decide
    refine Own.icmpFn hx (Own.q_ge (2 : Int32) (1 : Int32)) (hb hby d1_64) (pcN := 67) rfl (by decide) (pcT := 83) rfl (fun _ => ?_) (fun q => absurd q hc10)
    refine Own.iconst hx (3 : Int32) (hb hby d1_83) rfl (by decide) ?_
    refine Own.iloadN hx (1 : Int32) (hb hby d1_84) rfl rfl ?_
    have hc12 : ¬ ((3 : Int32) < (1 : Int32)) := by decide
    refine Own.icmpFn hx (Own.q_ge (3 : Int32) (1 : Int32)) (hb hby d1_85) (pcN := 88) rfl (by decide) (pcT := 104) rfl (fun _ => ?_) (fun q => absurd q hc12)
    refine Own.iconst hx (1 : Int32) (hb hby d1_104) rfl (by decide) ?_
    refine Own.goto hx (hb hby d1_105) (by decide) (pc' := 109) rfl ?_
    exact Own.retS hx hret (by simp) hlk (hb hby d1_109) (by decide) (by decide) ⟨by rw [show fX4_4_1 y0 y1 y2 y3 p2 = (1 : Int32) from by simp only [fX4_4_1, if_pos hc7]]; try rfl, rfl⟩

def fX4_4_2 (y0 y1 y2 y3 p2 : Int32) : Int32 := (if y0 = y3 then (if y1 = p2 then (1 : Int32) else (0 : Int32)) else (0 : Int32))
theorem ef1_4_4_2 (m : MethodId) (o0 : Addr) (p2 : Int32) : entryFrame m #[(.ref o0), (.int (4 : Int32)), (.int p2), (.int (2 : Int32))] 5 = mkF m 0 #[.val (.ref o0), .val (.int (4 : Int32)), .val (.int p2), .val (.int (2 : Int32)), .unset] [] := by first | (simp [entryFrame, mkF, argsToLocals, Value.category]; done) | rfl
set_option maxRecDepth 65536 in
set_option maxHeartbeats 40000000 in
theorem rm1_4_4_2 (l : Launch) (Z : State) (a0 : Array Value) (hw : ∀ d ∈ tables_1, d.before a0 Z = true) (o0 : Addr) (p2 : Int32) (h0 : Heap) (n0 : Nat) (y0 y1 y2 y3 : Int32) (fr : List (Addr × (Cell → Prop))) (O0 : Own.Owns n0 h0 ((o0, Own.ArrC Z .char [(.int y0), (.int y1), (.int y2), (.int y3)]) :: fr)) (hy0 : nar .char y0 = y0) (hy1 : nar .char y1 = y1) (hy2 : nar .char y2 = y2) (hy3 : nar .char y3 = y3) (hc : nar .char p2 = p2) : Own.Does l (⟨"com/example/idxof/idxof/KnuthMorrisPrattPatternExtendPinLaw", "ends", "([CICI)Z"⟩ : MethodName) method_3_code 5 (some .boolean) [] ({ frames := 1, cells := 0, slots := 0, locals := 24 } : Room) Z #[(.ref o0), (.int (4 : Int32)), (.int p2), (.int (2 : Int32))] h0 n0 (fun v h => v = some (.int (fX4_4_2 y0 y1 y2 y3 p2)) ∧ h = h0) := by
  refine Own.doesOf pn4 ?_
  intro p e s m below meth c hx hby hml hret hlk hown hnm hZ
  refine Own.Goes.cast (ef1_4_4_2 m o0 p2) ?_
  refine Own.iloadN hx (2 : Int32) (hb hby d1_0) rfl rfl ?_
  refine Own.iloadN hx (4 : Int32) (hb hby d1_1) rfl rfl ?_
  refine Own.iconst hx (1 : Int32) (hb hby d1_2) rfl (by decide) ?_
  refine Own.iadd hx (hb hby d1_3) rfl ?_
  refine Own.vI (5 : Int32) (by decide) ?_
  have hc1 : ¬ ((5 : Int32) < (2 : Int32)) := by decide
  refine Own.icmpF hx (Own.q_gt (2 : Int32) (5 : Int32)) (hb hby d1_4) (pcN := 7) rfl (by decide) (pcT := 13) rfl (fun q => absurd q hc1) (fun _ => ?_)
  refine Own.iloadN hx (2 : Int32) (hb hby d1_7) rfl rfl ?_
  refine Own.aloadN hx (.ref o0) (hb hby d1_8) rfl rfl rfl ?_
  refine Own.arrlen hx hZ O0 0 rfl (4 : Int32) rfl (hb hby d1_9) rfl ?_
  have hc3 : ¬ ((4 : Int32) < (2 : Int32)) := by decide
  refine Own.icmpFn hx (Own.q_le (2 : Int32) (4 : Int32)) (hb hby d1_10) (pcN := 13) rfl (by decide) (pcT := 15) rfl (fun _ => ?_) (fun q => absurd q hc3)
  refine Own.iloadN hx (4 : Int32) (hb hby d1_15) rfl rfl ?_
  refine Own.iconst hx (1 : Int32) (hb hby d1_16) rfl (by decide) ?_
  refine Own.iadd hx (hb hby d1_17) rfl ?_
  refine Own.vI (5 : Int32) (by decide) ?_
  refine Own.iloadN hx (2 : Int32) (hb hby d1_18) rfl rfl ?_
  refine Own.isub hx (hb hby d1_19) rfl ?_
  refine Own.vI (3 : Int32) (by decide) ?_
  refine Own.istore hx (3 : Int32) rfl #[.val (.ref o0), .val (.int (4 : Int32)), .val (.int p2), .val (.int (2 : Int32)), .val (.int (3 : Int32))] (hb hby d1_20) rfl rfl ?_
  refine Own.iconst hx (0 : Int32) (hb hby d1_22) rfl (by decide) ?_
  refine Own.iloadN hx (2 : Int32) (hb hby d1_23) rfl rfl ?_
  have hc5 : (0 : Int32) < (2 : Int32) := by decide
  refine Own.icmpFn hx (Own.q_ge (0 : Int32) (2 : Int32)) (hb hby d1_24) (pcN := 27) rfl (by decide) (pcT := 41) rfl (fun q => absurd hc5 q) (fun _ => ?_)
  refine Own.aloadN hx (.ref o0) (hb hby d1_27) rfl rfl rfl ?_
  refine Own.iconst hx (0 : Int32) (hb hby d1_28) rfl (by decide) ?_
  refine Own.caload hx hZ O0 0 0 rfl (by decide) (v := (.int y0)) rfl (hb hby d1_29) rfl ?_
  refine Own.aloadN hx (.ref o0) (hb hby d1_30) rfl rfl rfl ?_
  refine Own.iloadN hx (4 : Int32) (hb hby d1_31) rfl rfl ?_
  refine Own.iloadN hx p2 (hb hby d1_32) rfl rfl ?_
  refine Own.iload hx (3 : Int32) (hb hby d1_33) rfl rfl ?_
  refine Own.callS hx hZ hown (hw _ (List.mem_of_getElem? (i := 5) rfl)) (hw _ (List.mem_of_getElem? (i := 6) rfl)) (hw _ (List.mem_of_getElem? (i := 3) rfl)) (hw _ (List.mem_of_getElem? (i := 7) rfl)) (by decide) pd1 (argsL := [(.ref o0), (.int (4 : Int32)), (.int p2), (.int (3 : Int32))]) (rest := [(.int y0)]) rfl (W := 1) (Nat.le_of_eq rfl) (rm := ({ frames := 0, cells := 0, slots := 0, locals := 0 } : Room)) (by decide) (by decide) (by decide) (by decide) (k' := 0) (n' := 0) rfl rfl (by rw [hml]; rfl) [(.int (3 : Int32)), (.int p2), (.int (4 : Int32)), (.ref o0), (.int y0)] rfl (hb hby d1_35) (pc' := 38) rfl (rm2_4_3 l Z a0 hw o0 (4 : Int32) p2 h0 n0 y0 y1 y2 y3 fr O0 (by decide) hy3) ?_
  rintro _ h' ⟨rfl, eh⟩
  rw [eh]; clear eh h'
  show Own.Goes _ _ _ _ _ _ _ _ _ _ _ _ _ _ _ _ _ (mkF m 38 #[.val (.ref o0), .val (.int (4 : Int32)), .val (.int p2), .val (.int (2 : Int32)), .val (.int (3 : Int32))] [(.int y3), (.int y0)])
  refine Own.icmpFn hx (Own.q_ne y0 y3) (hb hby d1_38) (pcN := 41) rfl (by decide) (pcT := 108) rfl (fun hc7 => ?_) (fun hc7 => ?_)
  · refine Own.iconst hx (0 : Int32) (hb hby d1_108) rfl (by decide) ?_
    exact Own.retS hx hret (by simp) hlk (hb hby d1_109) (by decide) (by decide) ⟨by rw [show fX4_4_2 y0 y1 y2 y3 p2 = (0 : Int32) from by simp only [fX4_4_2, if_neg hc7]]; try rfl, rfl⟩
  · refine Own.iconst hx (1 : Int32) (hb hby d1_41) rfl (by decide) ?_
    refine Own.iloadN hx (2 : Int32) (hb hby d1_42) rfl rfl ?_
    have hc8 : (1 : Int32) < (2 : Int32) := by decide
    refine Own.icmpFn hx (Own.q_ge (1 : Int32) (2 : Int32)) (hb hby d1_43) (pcN := 46) rfl (by decide) (pcT := 62) rfl (fun q => absurd hc8 q) (fun _ => ?_)
    refine Own.aloadN hx (.ref o0) (hb hby d1_46) rfl rfl rfl ?_
    refine Own.iconst hx (1 : Int32) (hb hby d1_47) rfl (by decide) ?_
    refine Own.caload hx hZ O0 0 1 rfl (by decide) (v := (.int y1)) rfl (hb hby d1_48) rfl ?_
    refine Own.aloadN hx (.ref o0) (hb hby d1_49) rfl rfl rfl ?_
    refine Own.iloadN hx (4 : Int32) (hb hby d1_50) rfl rfl ?_
    refine Own.iloadN hx p2 (hb hby d1_51) rfl rfl ?_
    refine Own.iload hx (3 : Int32) (hb hby d1_52) rfl rfl ?_
    refine Own.iconst hx (1 : Int32) (hb hby d1_54) rfl (by decide) ?_
    refine Own.iadd hx (hb hby d1_55) rfl ?_
    refine Own.vI (4 : Int32) (by decide) ?_
    refine Own.callS hx hZ hown (hw _ (List.mem_of_getElem? (i := 5) rfl)) (hw _ (List.mem_of_getElem? (i := 6) rfl)) (hw _ (List.mem_of_getElem? (i := 3) rfl)) (hw _ (List.mem_of_getElem? (i := 7) rfl)) (by decide) pd1 (argsL := [(.ref o0), (.int (4 : Int32)), (.int p2), (.int (4 : Int32))]) (rest := [(.int y1)]) rfl (W := 1) (Nat.le_of_eq rfl) (rm := ({ frames := 0, cells := 0, slots := 0, locals := 0 } : Room)) (by decide) (by decide) (by decide) (by decide) (k' := 0) (n' := 0) rfl rfl (by rw [hml]; rfl) [(.int (4 : Int32)), (.int p2), (.int (4 : Int32)), (.ref o0), (.int y1)] rfl (hb hby d1_56) (pc' := 59) rfl (rm2_c l Z a0 hw o0 (4 : Int32) p2 (4 : Int32) h0 n0 (by decide) hc) ?_
    rintro _ h' ⟨rfl, eh⟩
    rw [eh]; clear eh h'
    show Own.Goes _ _ _ _ _ _ _ _ _ _ _ _ _ _ _ _ _ (mkF m 59 #[.val (.ref o0), .val (.int (4 : Int32)), .val (.int p2), .val (.int (2 : Int32)), .val (.int (3 : Int32))] [(.int p2), (.int y1)])
    refine Own.icmpFn hx (Own.q_ne y1 p2) (hb hby d1_59) (pcN := 62) rfl (by decide) (pcT := 108) rfl (fun hc10 => ?_) (fun hc10 => ?_)
    · refine Own.iconst hx (0 : Int32) (hb hby d1_108) rfl (by decide) ?_
      exact Own.retS hx hret (by simp) hlk (hb hby d1_109) (by decide) (by decide) ⟨by rw [show fX4_4_2 y0 y1 y2 y3 p2 = (0 : Int32) from by simp only [fX4_4_2, if_pos hc7, if_neg hc10]]; try rfl, rfl⟩
    · refine Own.iconst hx (2 : Int32) (hb hby d1_62) rfl (by decide) ?_
      refine Own.iloadN hx (2 : Int32) (hb hby d1_63) rfl rfl ?_
      have hc11 : ¬ ((2 : Int32) < (2 : Int32)) := by decide
      refine Own.icmpFn hx (Own.q_ge (2 : Int32) (2 : Int32)) (hb hby d1_64) (pcN := 67) rfl (by decide) (pcT := 83) rfl (fun _ => ?_) (fun q => absurd q hc11)
      refine Own.iconst hx (3 : Int32) (hb hby d1_83) rfl (by decide) ?_
      refine Own.iloadN hx (2 : Int32) (hb hby d1_84) rfl rfl ?_
      have hc13 : ¬ ((3 : Int32) < (2 : Int32)) := by decide
      refine Own.icmpFn hx (Own.q_ge (3 : Int32) (2 : Int32)) (hb hby d1_85) (pcN := 88) rfl (by decide) (pcT := 104) rfl (fun _ => ?_) (fun q => absurd q hc13)
      refine Own.iconst hx (1 : Int32) (hb hby d1_104) rfl (by decide) ?_
      refine Own.goto hx (hb hby d1_105) (by decide) (pc' := 109) rfl ?_
      exact Own.retS hx hret (by simp) hlk (hb hby d1_109) (by decide) (by decide) ⟨by rw [show fX4_4_2 y0 y1 y2 y3 p2 = (1 : Int32) from by simp only [fX4_4_2, if_pos hc7, if_pos hc10]]; try rfl, rfl⟩

def fX4_4_3 (y0 y1 y2 y3 p2 : Int32) : Int32 := (if y0 = y2 then (if y1 = y3 then (if y2 = p2 then (1 : Int32) else (0 : Int32)) else (0 : Int32)) else (0 : Int32))
theorem ef1_4_4_3 (m : MethodId) (o0 : Addr) (p2 : Int32) : entryFrame m #[(.ref o0), (.int (4 : Int32)), (.int p2), (.int (3 : Int32))] 5 = mkF m 0 #[.val (.ref o0), .val (.int (4 : Int32)), .val (.int p2), .val (.int (3 : Int32)), .unset] [] := by first | (simp [entryFrame, mkF, argsToLocals, Value.category]; done) | rfl
set_option maxRecDepth 65536 in
set_option maxHeartbeats 40000000 in
theorem rm1_4_4_3 (l : Launch) (Z : State) (a0 : Array Value) (hw : ∀ d ∈ tables_1, d.before a0 Z = true) (o0 : Addr) (p2 : Int32) (h0 : Heap) (n0 : Nat) (y0 y1 y2 y3 : Int32) (fr : List (Addr × (Cell → Prop))) (O0 : Own.Owns n0 h0 ((o0, Own.ArrC Z .char [(.int y0), (.int y1), (.int y2), (.int y3)]) :: fr)) (hy0 : nar .char y0 = y0) (hy1 : nar .char y1 = y1) (hy2 : nar .char y2 = y2) (hy3 : nar .char y3 = y3) (hc : nar .char p2 = p2) : Own.Does l (⟨"com/example/idxof/idxof/KnuthMorrisPrattPatternExtendPinLaw", "ends", "([CICI)Z"⟩ : MethodName) method_3_code 5 (some .boolean) [] ({ frames := 1, cells := 0, slots := 0, locals := 24 } : Room) Z #[(.ref o0), (.int (4 : Int32)), (.int p2), (.int (3 : Int32))] h0 n0 (fun v h => v = some (.int (fX4_4_3 y0 y1 y2 y3 p2)) ∧ h = h0) := by
  refine Own.doesOf pn4 ?_
  intro p e s m below meth c hx hby hml hret hlk hown hnm hZ
  refine Own.Goes.cast (ef1_4_4_3 m o0 p2) ?_
  refine Own.iloadN hx (3 : Int32) (hb hby d1_0) rfl rfl ?_
  refine Own.iloadN hx (4 : Int32) (hb hby d1_1) rfl rfl ?_
  refine Own.iconst hx (1 : Int32) (hb hby d1_2) rfl (by decide) ?_
  refine Own.iadd hx (hb hby d1_3) rfl ?_
  refine Own.vI (5 : Int32) (by decide) ?_
  have hc1 : ¬ ((5 : Int32) < (3 : Int32)) := by decide
  refine Own.icmpF hx (Own.q_gt (3 : Int32) (5 : Int32)) (hb hby d1_4) (pcN := 7) rfl (by decide) (pcT := 13) rfl (fun q => absurd q hc1) (fun _ => ?_)
  refine Own.iloadN hx (3 : Int32) (hb hby d1_7) rfl rfl ?_
  refine Own.aloadN hx (.ref o0) (hb hby d1_8) rfl rfl rfl ?_
  refine Own.arrlen hx hZ O0 0 rfl (4 : Int32) rfl (hb hby d1_9) rfl ?_
  have hc3 : ¬ ((4 : Int32) < (3 : Int32)) := by decide
  refine Own.icmpFn hx (Own.q_le (3 : Int32) (4 : Int32)) (hb hby d1_10) (pcN := 13) rfl (by decide) (pcT := 15) rfl (fun _ => ?_) (fun q => absurd q hc3)
  refine Own.iloadN hx (4 : Int32) (hb hby d1_15) rfl rfl ?_
  refine Own.iconst hx (1 : Int32) (hb hby d1_16) rfl (by decide) ?_
  refine Own.iadd hx (hb hby d1_17) rfl ?_
  refine Own.vI (5 : Int32) (by decide) ?_
  refine Own.iloadN hx (3 : Int32) (hb hby d1_18) rfl rfl ?_
  refine Own.isub hx (hb hby d1_19) rfl ?_
  refine Own.vI (2 : Int32) (by decide) ?_
  refine Own.istore hx (2 : Int32) rfl #[.val (.ref o0), .val (.int (4 : Int32)), .val (.int p2), .val (.int (3 : Int32)), .val (.int (2 : Int32))] (hb hby d1_20) rfl rfl ?_
  refine Own.iconst hx (0 : Int32) (hb hby d1_22) rfl (by decide) ?_
  refine Own.iloadN hx (3 : Int32) (hb hby d1_23) rfl rfl ?_
  have hc5 : (0 : Int32) < (3 : Int32) := by decide
  refine Own.icmpFn hx (Own.q_ge (0 : Int32) (3 : Int32)) (hb hby d1_24) (pcN := 27) rfl (by decide) (pcT := 41) rfl (fun q => absurd hc5 q) (fun _ => ?_)
  refine Own.aloadN hx (.ref o0) (hb hby d1_27) rfl rfl rfl ?_
  refine Own.iconst hx (0 : Int32) (hb hby d1_28) rfl (by decide) ?_
  refine Own.caload hx hZ O0 0 0 rfl (by decide) (v := (.int y0)) rfl (hb hby d1_29) rfl ?_
  refine Own.aloadN hx (.ref o0) (hb hby d1_30) rfl rfl rfl ?_
  refine Own.iloadN hx (4 : Int32) (hb hby d1_31) rfl rfl ?_
  refine Own.iloadN hx p2 (hb hby d1_32) rfl rfl ?_
  refine Own.iload hx (2 : Int32) (hb hby d1_33) rfl rfl ?_
  refine Own.callS hx hZ hown (hw _ (List.mem_of_getElem? (i := 5) rfl)) (hw _ (List.mem_of_getElem? (i := 6) rfl)) (hw _ (List.mem_of_getElem? (i := 3) rfl)) (hw _ (List.mem_of_getElem? (i := 7) rfl)) (by decide) pd1 (argsL := [(.ref o0), (.int (4 : Int32)), (.int p2), (.int (2 : Int32))]) (rest := [(.int y0)]) rfl (W := 1) (Nat.le_of_eq rfl) (rm := ({ frames := 0, cells := 0, slots := 0, locals := 0 } : Room)) (by decide) (by decide) (by decide) (by decide) (k' := 0) (n' := 0) rfl rfl (by rw [hml]; rfl) [(.int (2 : Int32)), (.int p2), (.int (4 : Int32)), (.ref o0), (.int y0)] rfl (hb hby d1_35) (pc' := 38) rfl (rm2_4_2 l Z a0 hw o0 (4 : Int32) p2 h0 n0 y0 y1 y2 y3 fr O0 (by decide) hy2) ?_
  rintro _ h' ⟨rfl, eh⟩
  rw [eh]; clear eh h'
  show Own.Goes _ _ _ _ _ _ _ _ _ _ _ _ _ _ _ _ _ (mkF m 38 #[.val (.ref o0), .val (.int (4 : Int32)), .val (.int p2), .val (.int (3 : Int32)), .val (.int (2 : Int32))] [(.int y2), (.int y0)])
  refine Own.icmpFn hx (Own.q_ne y0 y2) (hb hby d1_38) (pcN := 41) rfl (by decide) (pcT := 108) rfl (fun hc7 => ?_) (fun hc7 => ?_)
  · refine Own.iconst hx (0 : Int32) (hb hby d1_108) rfl (by decide) ?_
    exact Own.retS hx hret (by simp) hlk (hb hby d1_109) (by decide) (by decide) ⟨by rw [show fX4_4_3 y0 y1 y2 y3 p2 = (0 : Int32) from by simp only [fX4_4_3, if_neg hc7]]; try rfl, rfl⟩
  · refine Own.iconst hx (1 : Int32) (hb hby d1_41) rfl (by decide) ?_
    refine Own.iloadN hx (3 : Int32) (hb hby d1_42) rfl rfl ?_
    have hc8 : (1 : Int32) < (3 : Int32) := by decide
    refine Own.icmpFn hx (Own.q_ge (1 : Int32) (3 : Int32)) (hb hby d1_43) (pcN := 46) rfl (by decide) (pcT := 62) rfl (fun q => absurd hc8 q) (fun _ => ?_)
    refine Own.aloadN hx (.ref o0) (hb hby d1_46) rfl rfl rfl ?_
    refine Own.iconst hx (1 : Int32) (hb hby d1_47) rfl (by decide) ?_
    refine Own.caload hx hZ O0 0 1 rfl (by decide) (v := (.int y1)) rfl (hb hby d1_48) rfl ?_
    refine Own.aloadN hx (.ref o0) (hb hby d1_49) rfl rfl rfl ?_
    refine Own.iloadN hx (4 : Int32) (hb hby d1_50) rfl rfl ?_
    refine Own.iloadN hx p2 (hb hby d1_51) rfl rfl ?_
    refine Own.iload hx (2 : Int32) (hb hby d1_52) rfl rfl ?_
    refine Own.iconst hx (1 : Int32) (hb hby d1_54) rfl (by decide) ?_
    refine Own.iadd hx (hb hby d1_55) rfl ?_
    refine Own.vI (3 : Int32) (by decide) ?_
    refine Own.callS hx hZ hown (hw _ (List.mem_of_getElem? (i := 5) rfl)) (hw _ (List.mem_of_getElem? (i := 6) rfl)) (hw _ (List.mem_of_getElem? (i := 3) rfl)) (hw _ (List.mem_of_getElem? (i := 7) rfl)) (by decide) pd1 (argsL := [(.ref o0), (.int (4 : Int32)), (.int p2), (.int (3 : Int32))]) (rest := [(.int y1)]) rfl (W := 1) (Nat.le_of_eq rfl) (rm := ({ frames := 0, cells := 0, slots := 0, locals := 0 } : Room)) (by decide) (by decide) (by decide) (by decide) (k' := 0) (n' := 0) rfl rfl (by rw [hml]; rfl) [(.int (3 : Int32)), (.int p2), (.int (4 : Int32)), (.ref o0), (.int y1)] rfl (hb hby d1_56) (pc' := 59) rfl (rm2_4_3 l Z a0 hw o0 (4 : Int32) p2 h0 n0 y0 y1 y2 y3 fr O0 (by decide) hy3) ?_
    rintro _ h' ⟨rfl, eh⟩
    rw [eh]; clear eh h'
    show Own.Goes _ _ _ _ _ _ _ _ _ _ _ _ _ _ _ _ _ (mkF m 59 #[.val (.ref o0), .val (.int (4 : Int32)), .val (.int p2), .val (.int (3 : Int32)), .val (.int (2 : Int32))] [(.int y3), (.int y1)])
    refine Own.icmpFn hx (Own.q_ne y1 y3) (hb hby d1_59) (pcN := 62) rfl (by decide) (pcT := 108) rfl (fun hc10 => ?_) (fun hc10 => ?_)
    · refine Own.iconst hx (0 : Int32) (hb hby d1_108) rfl (by decide) ?_
      exact Own.retS hx hret (by simp) hlk (hb hby d1_109) (by decide) (by decide) ⟨by rw [show fX4_4_3 y0 y1 y2 y3 p2 = (0 : Int32) from by simp only [fX4_4_3, if_pos hc7, if_neg hc10]]; try rfl, rfl⟩
    · refine Own.iconst hx (2 : Int32) (hb hby d1_62) rfl (by decide) ?_
      refine Own.iloadN hx (3 : Int32) (hb hby d1_63) rfl rfl ?_
      have hc11 : (2 : Int32) < (3 : Int32) := by decide
      refine Own.icmpFn hx (Own.q_ge (2 : Int32) (3 : Int32)) (hb hby d1_64) (pcN := 67) rfl (by decide) (pcT := 83) rfl (fun q => absurd hc11 q) (fun _ => ?_)
      refine Own.aloadN hx (.ref o0) (hb hby d1_67) rfl rfl rfl ?_
      refine Own.iconst hx (2 : Int32) (hb hby d1_68) rfl (by decide) ?_
      refine Own.caload hx hZ O0 0 2 rfl (by decide) (v := (.int y2)) rfl (hb hby d1_69) rfl ?_
      refine Own.aloadN hx (.ref o0) (hb hby d1_70) rfl rfl rfl ?_
      refine Own.iloadN hx (4 : Int32) (hb hby d1_71) rfl rfl ?_
      refine Own.iloadN hx p2 (hb hby d1_72) rfl rfl ?_
      refine Own.iload hx (2 : Int32) (hb hby d1_73) rfl rfl ?_
      refine Own.iconst hx (2 : Int32) (hb hby d1_75) rfl (by decide) ?_
      refine Own.iadd hx (hb hby d1_76) rfl ?_
      refine Own.vI (4 : Int32) (by decide) ?_
      refine Own.callS hx hZ hown (hw _ (List.mem_of_getElem? (i := 5) rfl)) (hw _ (List.mem_of_getElem? (i := 6) rfl)) (hw _ (List.mem_of_getElem? (i := 3) rfl)) (hw _ (List.mem_of_getElem? (i := 7) rfl)) (by decide) pd1 (argsL := [(.ref o0), (.int (4 : Int32)), (.int p2), (.int (4 : Int32))]) (rest := [(.int y2)]) rfl (W := 1) (Nat.le_of_eq rfl) (rm := ({ frames := 0, cells := 0, slots := 0, locals := 0 } : Room)) (by decide) (by decide) (by decide) (by decide) (k' := 0) (n' := 0) rfl rfl (by rw [hml]; rfl) [(.int (4 : Int32)), (.int p2), (.int (4 : Int32)), (.ref o0), (.int y2)] rfl (hb hby d1_77) (pc' := 80) rfl (rm2_c l Z a0 hw o0 (4 : Int32) p2 (4 : Int32) h0 n0 (by decide) hc) ?_
      rintro _ h' ⟨rfl, eh⟩
      rw [eh]; clear eh h'
      show Own.Goes _ _ _ _ _ _ _ _ _ _ _ _ _ _ _ _ _ (mkF m 80 #[.val (.ref o0), .val (.int (4 : Int32)), .val (.int p2), .val (.int (3 : Int32)), .val (.int (2 : Int32))] [(.int p2), (.int y2)])
      refine Own.icmpFn hx (Own.q_ne y2 p2) (hb hby d1_80) (pcN := 83) rfl (by decide) (pcT := 108) rfl (fun hc13 => ?_) (fun hc13 => ?_)
      · refine Own.iconst hx (0 : Int32) (hb hby d1_108) rfl (by decide) ?_
        exact Own.retS hx hret (by simp) hlk (hb hby d1_109) (by decide) (by decide) ⟨by rw [show fX4_4_3 y0 y1 y2 y3 p2 = (0 : Int32) from by simp only [fX4_4_3, if_pos hc7, if_pos hc10, if_neg hc13]]; try rfl, rfl⟩
      · refine Own.iconst hx (3 : Int32) (hb hby d1_83) rfl (by decide) ?_
        refine Own.iloadN hx (3 : Int32) (hb hby d1_84) rfl rfl ?_
        have hc14 : ¬ ((3 : Int32) < (3 : Int32)) := by decide
        refine Own.icmpFn hx (Own.q_ge (3 : Int32) (3 : Int32)) (hb hby d1_85) (pcN := 88) rfl (by decide) (pcT := 104) rfl (fun _ => ?_) (fun q => absurd q hc14)
        refine Own.iconst hx (1 : Int32) (hb hby d1_104) rfl (by decide) ?_
        refine Own.goto hx (hb hby d1_105) (by decide) (pc' := 109) rfl ?_
        exact Own.retS hx hret (by simp) hlk (hb hby d1_109) (by decide) (by decide) ⟨by rw [show fX4_4_3 y0 y1 y2 y3 p2 = (1 : Int32) from by simp only [fX4_4_3, if_pos hc7, if_pos hc10, if_pos hc13]]; try rfl, rfl⟩

def fX4_4_4 (y0 y1 y2 y3 p2 : Int32) : Int32 := (if y0 = y1 then (if y1 = y2 then (if y2 = y3 then (if y3 = p2 then (1 : Int32) else (0 : Int32)) else (0 : Int32)) else (0 : Int32)) else (0 : Int32))
theorem ef1_4_4_4 (m : MethodId) (o0 : Addr) (p2 : Int32) : entryFrame m #[(.ref o0), (.int (4 : Int32)), (.int p2), (.int (4 : Int32))] 5 = mkF m 0 #[.val (.ref o0), .val (.int (4 : Int32)), .val (.int p2), .val (.int (4 : Int32)), .unset] [] := by first | (simp [entryFrame, mkF, argsToLocals, Value.category]; done) | rfl
set_option maxRecDepth 65536 in
set_option maxHeartbeats 40000000 in
theorem rm1_4_4_4 (l : Launch) (Z : State) (a0 : Array Value) (hw : ∀ d ∈ tables_1, d.before a0 Z = true) (o0 : Addr) (p2 : Int32) (h0 : Heap) (n0 : Nat) (y0 y1 y2 y3 : Int32) (fr : List (Addr × (Cell → Prop))) (O0 : Own.Owns n0 h0 ((o0, Own.ArrC Z .char [(.int y0), (.int y1), (.int y2), (.int y3)]) :: fr)) (hy0 : nar .char y0 = y0) (hy1 : nar .char y1 = y1) (hy2 : nar .char y2 = y2) (hy3 : nar .char y3 = y3) (hc : nar .char p2 = p2) : Own.Does l (⟨"com/example/idxof/idxof/KnuthMorrisPrattPatternExtendPinLaw", "ends", "([CICI)Z"⟩ : MethodName) method_3_code 5 (some .boolean) [] ({ frames := 1, cells := 0, slots := 0, locals := 24 } : Room) Z #[(.ref o0), (.int (4 : Int32)), (.int p2), (.int (4 : Int32))] h0 n0 (fun v h => v = some (.int (fX4_4_4 y0 y1 y2 y3 p2)) ∧ h = h0) := by
  refine Own.doesOf pn4 ?_
  intro p e s m below meth c hx hby hml hret hlk hown hnm hZ
  refine Own.Goes.cast (ef1_4_4_4 m o0 p2) ?_
  refine Own.iloadN hx (4 : Int32) (hb hby d1_0) rfl rfl ?_
  refine Own.iloadN hx (4 : Int32) (hb hby d1_1) rfl rfl ?_
  refine Own.iconst hx (1 : Int32) (hb hby d1_2) rfl (by decide) ?_
  refine Own.iadd hx (hb hby d1_3) rfl ?_
  refine Own.vI (5 : Int32) (by decide) ?_
  have hc1 : ¬ ((5 : Int32) < (4 : Int32)) := by decide
  refine Own.icmpF hx (Own.q_gt (4 : Int32) (5 : Int32)) (hb hby d1_4) (pcN := 7) rfl (by decide) (pcT := 13) rfl (fun q => absurd q hc1) (fun _ => ?_)
  refine Own.iloadN hx (4 : Int32) (hb hby d1_7) rfl rfl ?_
  refine Own.aloadN hx (.ref o0) (hb hby d1_8) rfl rfl rfl ?_
  refine Own.arrlen hx hZ O0 0 rfl (4 : Int32) rfl (hb hby d1_9) rfl ?_
  have hc3 : ¬ ((4 : Int32) < (4 : Int32)) := by decide
  refine Own.icmpFn hx (Own.q_le (4 : Int32) (4 : Int32)) (hb hby d1_10) (pcN := 13) rfl (by decide) (pcT := 15) rfl (fun _ => ?_) (fun q => absurd q hc3)
  refine Own.iloadN hx (4 : Int32) (hb hby d1_15) rfl rfl ?_
  refine Own.iconst hx (1 : Int32) (hb hby d1_16) rfl (by decide) ?_
  refine Own.iadd hx (hb hby d1_17) rfl ?_
  refine Own.vI (5 : Int32) (by decide) ?_
  refine Own.iloadN hx (4 : Int32) (hb hby d1_18) rfl rfl ?_
  refine Own.isub hx (hb hby d1_19) rfl ?_
  refine Own.vI (1 : Int32) (by decide) ?_
  refine Own.istore hx (1 : Int32) rfl #[.val (.ref o0), .val (.int (4 : Int32)), .val (.int p2), .val (.int (4 : Int32)), .val (.int (1 : Int32))] (hb hby d1_20) rfl rfl ?_
  refine Own.iconst hx (0 : Int32) (hb hby d1_22) rfl (by decide) ?_
  refine Own.iloadN hx (4 : Int32) (hb hby d1_23) rfl rfl ?_
  have hc5 : (0 : Int32) < (4 : Int32) := by decide
  refine Own.icmpFn hx (Own.q_ge (0 : Int32) (4 : Int32)) (hb hby d1_24) (pcN := 27) rfl (by decide) (pcT := 41) rfl (fun q => absurd hc5 q) (fun _ => ?_)
  refine Own.aloadN hx (.ref o0) (hb hby d1_27) rfl rfl rfl ?_
  refine Own.iconst hx (0 : Int32) (hb hby d1_28) rfl (by decide) ?_
  refine Own.caload hx hZ O0 0 0 rfl (by decide) (v := (.int y0)) rfl (hb hby d1_29) rfl ?_
  refine Own.aloadN hx (.ref o0) (hb hby d1_30) rfl rfl rfl ?_
  refine Own.iloadN hx (4 : Int32) (hb hby d1_31) rfl rfl ?_
  refine Own.iloadN hx p2 (hb hby d1_32) rfl rfl ?_
  refine Own.iload hx (1 : Int32) (hb hby d1_33) rfl rfl ?_
  refine Own.callS hx hZ hown (hw _ (List.mem_of_getElem? (i := 5) rfl)) (hw _ (List.mem_of_getElem? (i := 6) rfl)) (hw _ (List.mem_of_getElem? (i := 3) rfl)) (hw _ (List.mem_of_getElem? (i := 7) rfl)) (by decide) pd1 (argsL := [(.ref o0), (.int (4 : Int32)), (.int p2), (.int (1 : Int32))]) (rest := [(.int y0)]) rfl (W := 1) (Nat.le_of_eq rfl) (rm := ({ frames := 0, cells := 0, slots := 0, locals := 0 } : Room)) (by decide) (by decide) (by decide) (by decide) (k' := 0) (n' := 0) rfl rfl (by rw [hml]; rfl) [(.int (1 : Int32)), (.int p2), (.int (4 : Int32)), (.ref o0), (.int y0)] rfl (hb hby d1_35) (pc' := 38) rfl (rm2_4_1 l Z a0 hw o0 (4 : Int32) p2 h0 n0 y0 y1 y2 y3 fr O0 (by decide) hy1) ?_
  rintro _ h' ⟨rfl, eh⟩
  rw [eh]; clear eh h'
  show Own.Goes _ _ _ _ _ _ _ _ _ _ _ _ _ _ _ _ _ (mkF m 38 #[.val (.ref o0), .val (.int (4 : Int32)), .val (.int p2), .val (.int (4 : Int32)), .val (.int (1 : Int32))] [(.int y1), (.int y0)])
  refine Own.icmpFn hx (Own.q_ne y0 y1) (hb hby d1_38) (pcN := 41) rfl (by decide) (pcT := 108) rfl (fun hc7 => ?_) (fun hc7 => ?_)
  · refine Own.iconst hx (0 : Int32) (hb hby d1_108) rfl (by decide) ?_
    exact Own.retS hx hret (by simp) hlk (hb hby d1_109) (by decide) (by decide) ⟨by rw [show fX4_4_4 y0 y1 y2 y3 p2 = (0 : Int32) from by simp only [fX4_4_4, if_neg hc7]]; try rfl, rfl⟩
  · refine Own.iconst hx (1 : Int32) (hb hby d1_41) rfl (by decide) ?_
    refine Own.iloadN hx (4 : Int32) (hb hby d1_42) rfl rfl ?_
    have hc8 : (1 : Int32) < (4 : Int32) := by decide
    refine Own.icmpFn hx (Own.q_ge (1 : Int32) (4 : Int32)) (hb hby d1_43) (pcN := 46) rfl (by decide) (pcT := 62) rfl (fun q => absurd hc8 q) (fun _ => ?_)
    refine Own.aloadN hx (.ref o0) (hb hby d1_46) rfl rfl rfl ?_
    refine Own.iconst hx (1 : Int32) (hb hby d1_47) rfl (by decide) ?_
    refine Own.caload hx hZ O0 0 1 rfl (by decide) (v := (.int y1)) rfl (hb hby d1_48) rfl ?_
    refine Own.aloadN hx (.ref o0) (hb hby d1_49) rfl rfl rfl ?_
    refine Own.iloadN hx (4 : Int32) (hb hby d1_50) rfl rfl ?_
    refine Own.iloadN hx p2 (hb hby d1_51) rfl rfl ?_
    refine Own.iload hx (1 : Int32) (hb hby d1_52) rfl rfl ?_
    refine Own.iconst hx (1 : Int32) (hb hby d1_54) rfl (by decide) ?_
    refine Own.iadd hx (hb hby d1_55) rfl ?_
    refine Own.vI (2 : Int32) (by decide) ?_
    refine Own.callS hx hZ hown (hw _ (List.mem_of_getElem? (i := 5) rfl)) (hw _ (List.mem_of_getElem? (i := 6) rfl)) (hw _ (List.mem_of_getElem? (i := 3) rfl)) (hw _ (List.mem_of_getElem? (i := 7) rfl)) (by decide) pd1 (argsL := [(.ref o0), (.int (4 : Int32)), (.int p2), (.int (2 : Int32))]) (rest := [(.int y1)]) rfl (W := 1) (Nat.le_of_eq rfl) (rm := ({ frames := 0, cells := 0, slots := 0, locals := 0 } : Room)) (by decide) (by decide) (by decide) (by decide) (k' := 0) (n' := 0) rfl rfl (by rw [hml]; rfl) [(.int (2 : Int32)), (.int p2), (.int (4 : Int32)), (.ref o0), (.int y1)] rfl (hb hby d1_56) (pc' := 59) rfl (rm2_4_2 l Z a0 hw o0 (4 : Int32) p2 h0 n0 y0 y1 y2 y3 fr O0 (by decide) hy2) ?_
    rintro _ h' ⟨rfl, eh⟩
    rw [eh]; clear eh h'
    show Own.Goes _ _ _ _ _ _ _ _ _ _ _ _ _ _ _ _ _ (mkF m 59 #[.val (.ref o0), .val (.int (4 : Int32)), .val (.int p2), .val (.int (4 : Int32)), .val (.int (1 : Int32))] [(.int y2), (.int y1)])
    refine Own.icmpFn hx (Own.q_ne y1 y2) (hb hby d1_59) (pcN := 62) rfl (by decide) (pcT := 108) rfl (fun hc10 => ?_) (fun hc10 => ?_)
    · refine Own.iconst hx (0 : Int32) (hb hby d1_108) rfl (by decide) ?_
      exact Own.retS hx hret (by simp) hlk (hb hby d1_109) (by decide) (by decide) ⟨by rw [show fX4_4_4 y0 y1 y2 y3 p2 = (0 : Int32) from by simp only [fX4_4_4, if_pos hc7, if_neg hc10]]; try rfl, rfl⟩
    · refine Own.iconst hx (2 : Int32) (hb hby d1_62) rfl (by decide) ?_
      refine Own.iloadN hx (4 : Int32) (hb hby d1_63) rfl rfl ?_
      have hc11 : (2 : Int32) < (4 : Int32) := by decide
      refine Own.icmpFn hx (Own.q_ge (2 : Int32) (4 : Int32)) (hb hby d1_64) (pcN := 67) rfl (by decide) (pcT := 83) rfl (fun q => absurd hc11 q) (fun _ => ?_)
      refine Own.aloadN hx (.ref o0) (hb hby d1_67) rfl rfl rfl ?_
      refine Own.iconst hx (2 : Int32) (hb hby d1_68) rfl (by decide) ?_
      refine Own.caload hx hZ O0 0 2 rfl (by decide) (v := (.int y2)) rfl (hb hby d1_69) rfl ?_
      refine Own.aloadN hx (.ref o0) (hb hby d1_70) rfl rfl rfl ?_
      refine Own.iloadN hx (4 : Int32) (hb hby d1_71) rfl rfl ?_
      refine Own.iloadN hx p2 (hb hby d1_72) rfl rfl ?_
      refine Own.iload hx (1 : Int32) (hb hby d1_73) rfl rfl ?_
      refine Own.iconst hx (2 : Int32) (hb hby d1_75) rfl (by decide) ?_
      refine Own.iadd hx (hb hby d1_76) rfl ?_
      refine Own.vI (3 : Int32) (by decide) ?_
      refine Own.callS hx hZ hown (hw _ (List.mem_of_getElem? (i := 5) rfl)) (hw _ (List.mem_of_getElem? (i := 6) rfl)) (hw _ (List.mem_of_getElem? (i := 3) rfl)) (hw _ (List.mem_of_getElem? (i := 7) rfl)) (by decide) pd1 (argsL := [(.ref o0), (.int (4 : Int32)), (.int p2), (.int (3 : Int32))]) (rest := [(.int y2)]) rfl (W := 1) (Nat.le_of_eq rfl) (rm := ({ frames := 0, cells := 0, slots := 0, locals := 0 } : Room)) (by decide) (by decide) (by decide) (by decide) (k' := 0) (n' := 0) rfl rfl (by rw [hml]; rfl) [(.int (3 : Int32)), (.int p2), (.int (4 : Int32)), (.ref o0), (.int y2)] rfl (hb hby d1_77) (pc' := 80) rfl (rm2_4_3 l Z a0 hw o0 (4 : Int32) p2 h0 n0 y0 y1 y2 y3 fr O0 (by decide) hy3) ?_
      rintro _ h' ⟨rfl, eh⟩
      rw [eh]; clear eh h'
      show Own.Goes _ _ _ _ _ _ _ _ _ _ _ _ _ _ _ _ _ (mkF m 80 #[.val (.ref o0), .val (.int (4 : Int32)), .val (.int p2), .val (.int (4 : Int32)), .val (.int (1 : Int32))] [(.int y3), (.int y2)])
      refine Own.icmpFn hx (Own.q_ne y2 y3) (hb hby d1_80) (pcN := 83) rfl (by decide) (pcT := 108) rfl (fun hc13 => ?_) (fun hc13 => ?_)
      · refine Own.iconst hx (0 : Int32) (hb hby d1_108) rfl (by decide) ?_
        exact Own.retS hx hret (by simp) hlk (hb hby d1_109) (by decide) (by decide) ⟨by rw [show fX4_4_4 y0 y1 y2 y3 p2 = (0 : Int32) from by simp only [fX4_4_4, if_pos hc7, if_pos hc10, if_neg hc13]]; try rfl, rfl⟩
      · refine Own.iconst hx (3 : Int32) (hb hby d1_83) rfl (by decide) ?_
        refine Own.iloadN hx (4 : Int32) (hb hby d1_84) rfl rfl ?_
        have hc14 : (3 : Int32) < (4 : Int32) := by decide
        refine Own.icmpFn hx (Own.q_ge (3 : Int32) (4 : Int32)) (hb hby d1_85) (pcN := 88) rfl (by decide) (pcT := 104) rfl (fun q => absurd hc14 q) (fun _ => ?_)
        refine Own.aloadN hx (.ref o0) (hb hby d1_88) rfl rfl rfl ?_
        refine Own.iconst hx (3 : Int32) (hb hby d1_89) rfl (by decide) ?_
        refine Own.caload hx hZ O0 0 3 rfl (by decide) (v := (.int y3)) rfl (hb hby d1_90) rfl ?_
        refine Own.aloadN hx (.ref o0) (hb hby d1_91) rfl rfl rfl ?_
        refine Own.iloadN hx (4 : Int32) (hb hby d1_92) rfl rfl ?_
        refine Own.iloadN hx p2 (hb hby d1_93) rfl rfl ?_
        refine Own.iload hx (1 : Int32) (hb hby d1_94) rfl rfl ?_
        refine Own.iconst hx (3 : Int32) (hb hby d1_96) rfl (by decide) ?_
        refine Own.iadd hx (hb hby d1_97) rfl ?_
        refine Own.vI (4 : Int32) (by decide) ?_
        refine Own.callS hx hZ hown (hw _ (List.mem_of_getElem? (i := 5) rfl)) (hw _ (List.mem_of_getElem? (i := 6) rfl)) (hw _ (List.mem_of_getElem? (i := 3) rfl)) (hw _ (List.mem_of_getElem? (i := 7) rfl)) (by decide) pd1 (argsL := [(.ref o0), (.int (4 : Int32)), (.int p2), (.int (4 : Int32))]) (rest := [(.int y3)]) rfl (W := 1) (Nat.le_of_eq rfl) (rm := ({ frames := 0, cells := 0, slots := 0, locals := 0 } : Room)) (by decide) (by decide) (by decide) (by decide) (k' := 0) (n' := 0) rfl rfl (by rw [hml]; rfl) [(.int (4 : Int32)), (.int p2), (.int (4 : Int32)), (.ref o0), (.int y3)] rfl (hb hby d1_98) (pc' := 101) rfl (rm2_c l Z a0 hw o0 (4 : Int32) p2 (4 : Int32) h0 n0 (by decide) hc) ?_
        rintro _ h' ⟨rfl, eh⟩
        rw [eh]; clear eh h'
        show Own.Goes _ _ _ _ _ _ _ _ _ _ _ _ _ _ _ _ _ (mkF m 101 #[.val (.ref o0), .val (.int (4 : Int32)), .val (.int p2), .val (.int (4 : Int32)), .val (.int (1 : Int32))] [(.int p2), (.int y3)])
        refine Own.icmpFn hx (Own.q_ne y3 p2) (hb hby d1_101) (pcN := 104) rfl (by decide) (pcT := 108) rfl (fun hc16 => ?_) (fun hc16 => ?_)
        · refine Own.iconst hx (0 : Int32) (hb hby d1_108) rfl (by decide) ?_
          exact Own.retS hx hret (by simp) hlk (hb hby d1_109) (by decide) (by decide) ⟨by rw [show fX4_4_4 y0 y1 y2 y3 p2 = (0 : Int32) from by simp only [fX4_4_4, if_pos hc7, if_pos hc10, if_pos hc13, if_neg hc16]]; try rfl, rfl⟩
        · refine Own.iconst hx (1 : Int32) (hb hby d1_104) rfl (by decide) ?_
          refine Own.goto hx (hb hby d1_105) (by decide) (pc' := 109) rfl ?_
          exact Own.retS hx hret (by simp) hlk (hb hby d1_109) (by decide) (by decide) ⟨by rw [show fX4_4_4 y0 y1 y2 y3 p2 = (1 : Int32) from by simp only [fX4_4_4, if_pos hc7, if_pos hc10, if_pos hc13, if_pos hc16]]; try rfl, rfl⟩

def restr (E : Nat → Nat → Bool) (n : Nat) (i j : Nat) : Bool := decide (i < n) && decide (j < n) && E i j
theorem restr_eq (cs : List Int32) (cx : Int32) : eqAt cs = restr (eqAt (cs ++ [cx])) cs.length := by
  funext i j
  unfold restr eqAt
  by_cases hi : i < cs.length
  · by_cases hj : j < cs.length
    · have h1 : (cs ++ [cx]).getD i 0 = cs.getD i 0 := by simp [List.getD_eq_getElem?_getD, List.getElem?_append_left hi]
      have h2 : (cs ++ [cx]).getD j 0 = cs.getD j 0 := by simp [List.getD_eq_getElem?_getD, List.getElem?_append_left hj]
      have h3 : i < (cs ++ [cx]).length := by rw [List.length_append]; omega
      have h4 : j < (cs ++ [cx]).length := by rw [List.length_append]; omega
      rw [h1, h2, decide_eq_true hi, decide_eq_true hj, decide_eq_true h3, decide_eq_true h4]; simp
    · rw [decide_eq_false hj]; simp
  · rw [decide_eq_false hi]; simp
def endsE (E : Nat → Nat → Bool) (n m k : Nat) : Bool := decide (k ≤ m + 1) && decide (k ≤ n) && (List.range k).all fun t => E t (if m + 1 - k + t < m then m + 1 - k + t else n)
def expE (E : Nat → Nat → Bool) (n m : Nat) : Nat := if endsE E n m 4 then 4 else if endsE E n m 3 then 3 else if endsE E n m 2 then 2 else if endsE E n m 1 then 1 else 0
def gotE (E : Nat → Nat → Bool) (n m : Nat) : Nat := nextE E (ofE (restr E n) n) n (if m = n then (ofE (restr E n) n).getD (m - 1) 0 else m)
def okX (c : List Nat) (n : Nat) : Bool := (List.range (n + 1)).all fun m => gotE (codeE c) n m == expE (codeE c) n m
theorem own_idem {y x : Int32} (h : y = x.toUInt32.toUInt16.toUInt32.toInt32) : nar .char y = y := by
  subst h
  show (x.toUInt32.toUInt16.toUInt32.toInt32).toUInt32.toUInt16.toUInt32.toInt32 = x.toUInt32.toUInt16.toUInt32.toInt32
  rw [UInt32.toUInt32_toInt32, UInt16.toUInt16_toUInt32]
theorem own_cz {sel cz off cx : Int32} (h : cz = (if sel = (0 : Int32) then off.toUInt32.toUInt16.toUInt32.toInt32 else (if sel = (1 : Int32) then (off + (1 : Int32)).toUInt32.toUInt16.toUInt32.toInt32 else (if sel = (2 : Int32) then (off + (2 : Int32)).toUInt32.toUInt16.toUInt32.toInt32 else cx.toUInt32.toUInt16.toUInt32.toInt32)))) : nar .char cz = cz := by
  by_cases q0 : sel = 0
  · rw [if_pos q0] at h; exact own_idem h
  · rw [if_neg q0] at h
    by_cases q1 : sel = 1
    · rw [if_pos q1] at h; exact own_idem h
    · rw [if_neg q1] at h
      by_cases q2 : sel = 2
      · rw [if_pos q2] at h; exact own_idem h
      · rw [if_neg q2] at h; exact own_idem h
theorem own_nx {nx p : Int32} (h : nx = (1 : Int32) + (p &&& (3 : Int32))) : nx = 1 ∨ nx = 2 ∨ nx = 3 ∨ nx = 4 := by
  have h1 := c_mask p 3 2 (by decide) (by decide)
  have e := c_iadd 1 (p &&& 3)
  have one : (1 : Int32).toInt = 1 := by decide
  rw [← h, one] at e
  have r := rng32 nx
  have h2 : nx.toInt = 1 ∨ nx.toInt = 2 ∨ nx.toInt = 3 ∨ nx.toInt = 4 := by omega
  rcases h2 with q | q | q | q
  · exact Or.inl (Int32.toInt_inj.mp q)
  · exact Or.inr (Or.inl (Int32.toInt_inj.mp q))
  · exact Or.inr (Or.inr (Or.inl (Int32.toInt_inj.mp q)))
  · exact Or.inr (Or.inr (Or.inr (Int32.toInt_inj.mp q)))
theorem own_nnz {nx p : Int32} (h : nx = (1 : Int32) + (p &&& (3 : Int32))) : nx + (1 : Int32) ≠ 0 := by
  rcases own_nx h with q | q | q | q <;> (rw [q]; decide)
theorem own_m0 {y d : Int32} {dd : Int} (hd : d.toInt = dd) (hd0 : 0 < dd) (hy : 0 ≤ y.toInt) : 0 ≤ (y % d).toInt ∧ (y % d).toInt < dd := by
  have e := (c_irem y d dd hd).1 hy
  rw [e]
  exact ⟨Int.emod_nonneg _ (Int.ne_of_gt hd0), Int.emod_lt_of_pos _ hd0⟩
theorem own_nm {nx mx p r : Int32} (h : nx = (1 : Int32) + (p &&& (3 : Int32))) (hm : mx = ((r &&& (7 : Int32)) % (nx + (1 : Int32)))) : (nx = 1 ∧ mx = 0) ∨ (nx = 1 ∧ mx = 1) ∨ (nx = 2 ∧ mx = 0) ∨ (nx = 2 ∧ mx = 1) ∨ (nx = 2 ∧ mx = 2) ∨ (nx = 3 ∧ mx = 0) ∨ (nx = 3 ∧ mx = 1) ∨ (nx = 3 ∧ mx = 2) ∨ (nx = 3 ∧ mx = 3) ∨ (nx = 4 ∧ mx = 0) ∨ (nx = 4 ∧ mx = 1) ∨ (nx = 4 ∧ mx = 2) ∨ (nx = 4 ∧ mx = 3) ∨ (nx = 4 ∧ mx = 4) := by
  have hy := (c_and r (7 : Int32) (by decide)).1
  rcases own_nx h with q | q | q | q
  · rw [q] at hm
    obtain ⟨b1, b2⟩ := own_m0 (y := r &&& 7) (d := (1 : Int32) + 1) (dd := 2) (by decide) (by decide) hy
    rw [← hm] at b1 b2
    have h2 : mx.toInt = 0 ∨ mx.toInt = 1 := by omega
    rcases h2 with u | u
    · exact Or.inl ⟨q, Int32.toInt_inj.mp u⟩
    · exact Or.inr (Or.inl ⟨q, Int32.toInt_inj.mp u⟩)
  · rw [q] at hm
    obtain ⟨b1, b2⟩ := own_m0 (y := r &&& 7) (d := (2 : Int32) + 1) (dd := 3) (by decide) (by decide) hy
    rw [← hm] at b1 b2
    have h2 : mx.toInt = 0 ∨ mx.toInt = 1 ∨ mx.toInt = 2 := by omega
    rcases h2 with u | u | u
    · exact Or.inr (Or.inr (Or.inl ⟨q, Int32.toInt_inj.mp u⟩))
    · exact Or.inr (Or.inr (Or.inr (Or.inl ⟨q, Int32.toInt_inj.mp u⟩)))
    · exact Or.inr (Or.inr (Or.inr (Or.inr (Or.inl ⟨q, Int32.toInt_inj.mp u⟩))))
  · rw [q] at hm
    obtain ⟨b1, b2⟩ := own_m0 (y := r &&& 7) (d := (3 : Int32) + 1) (dd := 4) (by decide) (by decide) hy
    rw [← hm] at b1 b2
    have h2 : mx.toInt = 0 ∨ mx.toInt = 1 ∨ mx.toInt = 2 ∨ mx.toInt = 3 := by omega
    rcases h2 with u | u | u | u
    · exact Or.inr (Or.inr (Or.inr (Or.inr (Or.inr (Or.inl ⟨q, Int32.toInt_inj.mp u⟩)))))
    · exact Or.inr (Or.inr (Or.inr (Or.inr (Or.inr (Or.inr (Or.inl ⟨q, Int32.toInt_inj.mp u⟩))))))
    · exact Or.inr (Or.inr (Or.inr (Or.inr (Or.inr (Or.inr (Or.inr (Or.inl ⟨q, Int32.toInt_inj.mp u⟩)))))))
    · exact Or.inr (Or.inr (Or.inr (Or.inr (Or.inr (Or.inr (Or.inr (Or.inr (Or.inl ⟨q, Int32.toInt_inj.mp u⟩))))))))
  · rw [q] at hm
    obtain ⟨b1, b2⟩ := own_m0 (y := r &&& 7) (d := (4 : Int32) + 1) (dd := 5) (by decide) (by decide) hy
    rw [← hm] at b1 b2
    have h2 : mx.toInt = 0 ∨ mx.toInt = 1 ∨ mx.toInt = 2 ∨ mx.toInt = 3 ∨ mx.toInt = 4 := by omega
    rcases h2 with u | u | u | u | u
    · exact Or.inr (Or.inr (Or.inr (Or.inr (Or.inr (Or.inr (Or.inr (Or.inr (Or.inr (Or.inl ⟨q, Int32.toInt_inj.mp u⟩)))))))))
    · exact Or.inr (Or.inr (Or.inr (Or.inr (Or.inr (Or.inr (Or.inr (Or.inr (Or.inr (Or.inr (Or.inl ⟨q, Int32.toInt_inj.mp u⟩))))))))))
    · exact Or.inr (Or.inr (Or.inr (Or.inr (Or.inr (Or.inr (Or.inr (Or.inr (Or.inr (Or.inr (Or.inr (Or.inl ⟨q, Int32.toInt_inj.mp u⟩)))))))))))
    · exact Or.inr (Or.inr (Or.inr (Or.inr (Or.inr (Or.inr (Or.inr (Or.inr (Or.inr (Or.inr (Or.inr (Or.inr (Or.inl ⟨q, Int32.toInt_inj.mp u⟩))))))))))))
    · exact Or.inr (Or.inr (Or.inr (Or.inr (Or.inr (Or.inr (Or.inr (Or.inr (Or.inr (Or.inr (Or.inr (Or.inr (Or.inr (⟨q, Int32.toInt_inj.mp u⟩)))))))))))))
set_option maxRecDepth 100000 in
theorem okx1 : ∀ (c1 : Fin 2), okX [0, c1.val] 1 = true := by decide +kernel
theorem ext_ok1 (y0 cx : Int32) : ∀ m, m < 2 → gotE (eqAt [y0, cx]) 1 m = expE (eqAt [y0, cx]) 1 m := by
  have h0 : codeOf [y0, cx] = [[y0, cx].idxOf y0, [y0, cx].idxOf cx] := rfl
  have b0 : [y0, cx].idxOf y0 ≤ 0 := code_le [y0, cx] 0 (by exact (show 0 < 2 by decide))
  have b1 : [y0, cx].idxOf cx ≤ 1 := code_le [y0, cx] 1 (by exact (show 1 < 2 by decide))
  have z0 : [y0, cx].idxOf y0 = 0 := by omega
  have h1 := okx1 ⟨[y0, cx].idxOf cx, by omega⟩
  rw [show ([0, [y0, cx].idxOf cx] : List Nat) = codeOf [y0, cx] from by rw [h0, z0] ] at h1
  intro m hm
  have h2 := List.all_eq_true.mp h1 m (by rw [List.mem_range]; exact hm)
  rw [← code_eq] at h2
  exact eq_of_beq h2
theorem xm1_0_1 (y0 cx : Int32) : endsE (eqAt [y0, cx]) 1 0 1 = !(decide (fX1_0_1 y0 cx = 0)) := by
  have e : endsE (eqAt [y0, cx]) 1 0 1 = ((y0 == cx)) := by simp [endsE, eqAt, List.range_succ, Bool.and_assoc]
  rw [e, show (y0 == cx) = decide (y0 = cx) from rfl]; unfold fX1_0_1
  by_cases q0 : y0 = cx
  case neg => rw [if_neg q0, decide_eq_false q0]; simp
  rw [if_pos q0, decide_eq_true q0]
  rfl
theorem xm1_0_2 (y0 cx : Int32) : endsE (eqAt [y0, cx]) 1 0 2 = false := rfl
theorem xm1_0_3 (y0 cx : Int32) : endsE (eqAt [y0, cx]) 1 0 3 = false := rfl
theorem xm1_0_4 (y0 cx : Int32) : endsE (eqAt [y0, cx]) 1 0 4 = false := rfl
theorem own_fin1_0 {y0 cx ex z : Int32} (h_ex : ex = (if fX1_0_1 y0 cx = (0 : Int32) then (0 : Int32) else (1 : Int32))) (h_z : z = (if (nextE (eqAt ([y0] ++ [cx])) (ofL [y0]) [y0].length 0).toInt32 = ex then (1 : Int32) else (0 : Int32))) : z = 1 := by
  have g : nextE (eqAt ([y0] ++ [cx])) (ofL [y0]) [y0].length 0 = gotE (eqAt [y0, cx]) 1 0 := by
    unfold gotE ofL
    rw [restr_eq [y0] cx, if_neg (by decide)]
    rfl
  rw [h_z, g, ext_ok1 y0 cx 0 (by decide), h_ex]
  unfold expE
  simp only [xm1_0_1, xm1_0_2, xm1_0_3, xm1_0_4]
  generalize fX1_0_1 y0 cx = f1
  by_cases q1 : f1 = 0 <;> simp [q1] <;> rfl
theorem xm1_1_1 (y0 cx : Int32) : endsE (eqAt [y0, cx]) 1 1 1 = !(decide (fX1_1_1 y0 cx = 0)) := by
  have e : endsE (eqAt [y0, cx]) 1 1 1 = ((y0 == cx)) := by simp [endsE, eqAt, List.range_succ, Bool.and_assoc]
  rw [e, show (y0 == cx) = decide (y0 = cx) from rfl]; unfold fX1_1_1
  by_cases q0 : y0 = cx
  case neg => rw [if_neg q0, decide_eq_false q0]; simp
  rw [if_pos q0, decide_eq_true q0]
  rfl
theorem xm1_1_2 (y0 cx : Int32) : endsE (eqAt [y0, cx]) 1 1 2 = false := rfl
theorem xm1_1_3 (y0 cx : Int32) : endsE (eqAt [y0, cx]) 1 1 3 = false := rfl
theorem xm1_1_4 (y0 cx : Int32) : endsE (eqAt [y0, cx]) 1 1 4 = false := rfl
theorem own_fin1_1 {y0 cx ex z : Int32} (h_ex : ex = (if fX1_1_1 y0 cx = (0 : Int32) then (0 : Int32) else (1 : Int32))) (h_z : z = (if (nextE (eqAt ([y0] ++ [cx])) (ofL [y0]) [y0].length ((ofL [y0]).getD 0 0)).toInt32 = ex then (1 : Int32) else (0 : Int32))) : z = 1 := by
  have g : nextE (eqAt ([y0] ++ [cx])) (ofL [y0]) [y0].length ((ofL [y0]).getD 0 0) = gotE (eqAt [y0, cx]) 1 1 := by
    unfold gotE ofL
    rw [restr_eq [y0] cx, if_pos rfl]
    rfl
  rw [h_z, g, ext_ok1 y0 cx 1 (by decide), h_ex]
  unfold expE
  simp only [xm1_1_1, xm1_1_2, xm1_1_3, xm1_1_4]
  generalize fX1_1_1 y0 cx = f1
  by_cases q1 : f1 = 0 <;> simp [q1] <;> rfl
set_option maxRecDepth 100000 in
theorem okx2 : ∀ (c1 : Fin 2) (c2 : Fin 3), okX [0, c1.val, c2.val] 2 = true := by decide +kernel
theorem ext_ok2 (y0 y1 cx : Int32) : ∀ m, m < 3 → gotE (eqAt [y0, y1, cx]) 2 m = expE (eqAt [y0, y1, cx]) 2 m := by
  have h0 : codeOf [y0, y1, cx] = [[y0, y1, cx].idxOf y0, [y0, y1, cx].idxOf y1, [y0, y1, cx].idxOf cx] := rfl
  have b0 : [y0, y1, cx].idxOf y0 ≤ 0 := code_le [y0, y1, cx] 0 (by exact (show 0 < 3 by decide))
  have b1 : [y0, y1, cx].idxOf y1 ≤ 1 := code_le [y0, y1, cx] 1 (by exact (show 1 < 3 by decide))
  have b2 : [y0, y1, cx].idxOf cx ≤ 2 := code_le [y0, y1, cx] 2 (by exact (show 2 < 3 by decide))
  have z0 : [y0, y1, cx].idxOf y0 = 0 := by omega
  have h1 := okx2 ⟨[y0, y1, cx].idxOf y1, by omega⟩ ⟨[y0, y1, cx].idxOf cx, by omega⟩
  rw [show ([0, [y0, y1, cx].idxOf y1, [y0, y1, cx].idxOf cx] : List Nat) = codeOf [y0, y1, cx] from by rw [h0, z0] ] at h1
  intro m hm
  have h2 := List.all_eq_true.mp h1 m (by rw [List.mem_range]; exact hm)
  rw [← code_eq] at h2
  exact eq_of_beq h2
theorem xm2_0_1 (y0 y1 cx : Int32) : endsE (eqAt [y0, y1, cx]) 2 0 1 = !(decide (fX2_0_1 y0 y1 cx = 0)) := by
  have e : endsE (eqAt [y0, y1, cx]) 2 0 1 = ((y0 == cx)) := by simp [endsE, eqAt, List.range_succ, Bool.and_assoc]
  rw [e, show (y0 == cx) = decide (y0 = cx) from rfl]; unfold fX2_0_1
  by_cases q0 : y0 = cx
  case neg => rw [if_neg q0, decide_eq_false q0]; simp
  rw [if_pos q0, decide_eq_true q0]
  rfl
theorem xm2_0_2 (y0 y1 cx : Int32) : endsE (eqAt [y0, y1, cx]) 2 0 2 = false := rfl
theorem xm2_0_3 (y0 y1 cx : Int32) : endsE (eqAt [y0, y1, cx]) 2 0 3 = false := rfl
theorem xm2_0_4 (y0 y1 cx : Int32) : endsE (eqAt [y0, y1, cx]) 2 0 4 = false := rfl
theorem own_fin2_0 {y0 y1 cx ex z : Int32} (h_ex : ex = (if fX2_0_1 y0 y1 cx = (0 : Int32) then (0 : Int32) else (1 : Int32))) (h_z : z = (if (nextE (eqAt ([y0, y1] ++ [cx])) (ofL [y0, y1]) [y0, y1].length 0).toInt32 = ex then (1 : Int32) else (0 : Int32))) : z = 1 := by
  have g : nextE (eqAt ([y0, y1] ++ [cx])) (ofL [y0, y1]) [y0, y1].length 0 = gotE (eqAt [y0, y1, cx]) 2 0 := by
    unfold gotE ofL
    rw [restr_eq [y0, y1] cx, if_neg (by decide)]
    rfl
  rw [h_z, g, ext_ok2 y0 y1 cx 0 (by decide), h_ex]
  unfold expE
  simp only [xm2_0_1, xm2_0_2, xm2_0_3, xm2_0_4]
  generalize fX2_0_1 y0 y1 cx = f1
  by_cases q1 : f1 = 0 <;> simp [q1] <;> rfl
theorem xm2_1_1 (y0 y1 cx : Int32) : endsE (eqAt [y0, y1, cx]) 2 1 1 = !(decide (fX2_1_1 y0 y1 cx = 0)) := by
  have e : endsE (eqAt [y0, y1, cx]) 2 1 1 = ((y0 == cx)) := by simp [endsE, eqAt, List.range_succ, Bool.and_assoc]
  rw [e, show (y0 == cx) = decide (y0 = cx) from rfl]; unfold fX2_1_1
  by_cases q0 : y0 = cx
  case neg => rw [if_neg q0, decide_eq_false q0]; simp
  rw [if_pos q0, decide_eq_true q0]
  rfl
theorem xm2_1_2 (y0 y1 cx : Int32) : endsE (eqAt [y0, y1, cx]) 2 1 2 = !(decide (fX2_1_2 y0 y1 cx = 0)) := by
  have e : endsE (eqAt [y0, y1, cx]) 2 1 2 = ((y0 == y0) && (y1 == cx)) := by simp [endsE, eqAt, List.range_succ, Bool.and_assoc]
  rw [e, show (y0 == y0) = decide (y0 = y0) from rfl, show (y1 == cx) = decide (y1 = cx) from rfl]; unfold fX2_1_2
  rw [decide_eq_true (rfl : y0 = y0)]
  by_cases q1 : y1 = cx
  case neg => rw [if_neg q1, decide_eq_false q1]; simp
  rw [if_pos q1, decide_eq_true q1]
  rfl
theorem xm2_1_3 (y0 y1 cx : Int32) : endsE (eqAt [y0, y1, cx]) 2 1 3 = false := rfl
theorem xm2_1_4 (y0 y1 cx : Int32) : endsE (eqAt [y0, y1, cx]) 2 1 4 = false := rfl
theorem own_fin2_1 {y0 y1 cx ex z : Int32} (h_ex : ex = (if fX2_1_2 y0 y1 cx = (0 : Int32) then (if fX2_1_1 y0 y1 cx = (0 : Int32) then (0 : Int32) else (1 : Int32)) else (2 : Int32))) (h_z : z = (if (nextE (eqAt ([y0, y1] ++ [cx])) (ofL [y0, y1]) [y0, y1].length 1).toInt32 = ex then (1 : Int32) else (0 : Int32))) : z = 1 := by
  have g : nextE (eqAt ([y0, y1] ++ [cx])) (ofL [y0, y1]) [y0, y1].length 1 = gotE (eqAt [y0, y1, cx]) 2 1 := by
    unfold gotE ofL
    rw [restr_eq [y0, y1] cx, if_neg (by decide)]
    rfl
  rw [h_z, g, ext_ok2 y0 y1 cx 1 (by decide), h_ex]
  unfold expE
  simp only [xm2_1_1, xm2_1_2, xm2_1_3, xm2_1_4]
  generalize fX2_1_2 y0 y1 cx = f2
  generalize fX2_1_1 y0 y1 cx = f1
  by_cases q2 : f2 = 0 <;> by_cases q1 : f1 = 0 <;> simp [q2, q1] <;> rfl
theorem xm2_2_1 (y0 y1 cx : Int32) : endsE (eqAt [y0, y1, cx]) 2 2 1 = !(decide (fX2_2_1 y0 y1 cx = 0)) := by
  have e : endsE (eqAt [y0, y1, cx]) 2 2 1 = ((y0 == cx)) := by simp [endsE, eqAt, List.range_succ, Bool.and_assoc]
  rw [e, show (y0 == cx) = decide (y0 = cx) from rfl]; unfold fX2_2_1
  by_cases q0 : y0 = cx
  case neg => rw [if_neg q0, decide_eq_false q0]; simp
  rw [if_pos q0, decide_eq_true q0]
  rfl
theorem xm2_2_2 (y0 y1 cx : Int32) : endsE (eqAt [y0, y1, cx]) 2 2 2 = !(decide (fX2_2_2 y0 y1 cx = 0)) := by
  have e : endsE (eqAt [y0, y1, cx]) 2 2 2 = ((y0 == y1) && (y1 == cx)) := by simp [endsE, eqAt, List.range_succ, Bool.and_assoc]
  rw [e, show (y0 == y1) = decide (y0 = y1) from rfl, show (y1 == cx) = decide (y1 = cx) from rfl]; unfold fX2_2_2
  by_cases q0 : y0 = y1
  case neg => rw [if_neg q0, decide_eq_false q0]; simp
  rw [if_pos q0, decide_eq_true q0]
  by_cases q1 : y1 = cx
  case neg => rw [if_neg q1, decide_eq_false q1]; simp
  rw [if_pos q1, decide_eq_true q1]
  rfl
theorem xm2_2_3 (y0 y1 cx : Int32) : endsE (eqAt [y0, y1, cx]) 2 2 3 = false := rfl
theorem xm2_2_4 (y0 y1 cx : Int32) : endsE (eqAt [y0, y1, cx]) 2 2 4 = false := rfl
theorem own_fin2_2 {y0 y1 cx ex z : Int32} (h_ex : ex = (if fX2_2_2 y0 y1 cx = (0 : Int32) then (if fX2_2_1 y0 y1 cx = (0 : Int32) then (0 : Int32) else (1 : Int32)) else (2 : Int32))) (h_z : z = (if (nextE (eqAt ([y0, y1] ++ [cx])) (ofL [y0, y1]) [y0, y1].length ((ofL [y0, y1]).getD 1 0)).toInt32 = ex then (1 : Int32) else (0 : Int32))) : z = 1 := by
  have g : nextE (eqAt ([y0, y1] ++ [cx])) (ofL [y0, y1]) [y0, y1].length ((ofL [y0, y1]).getD 1 0) = gotE (eqAt [y0, y1, cx]) 2 2 := by
    unfold gotE ofL
    rw [restr_eq [y0, y1] cx, if_pos rfl]
    rfl
  rw [h_z, g, ext_ok2 y0 y1 cx 2 (by decide), h_ex]
  unfold expE
  simp only [xm2_2_1, xm2_2_2, xm2_2_3, xm2_2_4]
  generalize fX2_2_2 y0 y1 cx = f2
  generalize fX2_2_1 y0 y1 cx = f1
  by_cases q2 : f2 = 0 <;> by_cases q1 : f1 = 0 <;> simp [q2, q1] <;> rfl
set_option maxRecDepth 100000 in
theorem okx3 : ∀ (c1 : Fin 2) (c2 : Fin 3) (c3 : Fin 4), okX [0, c1.val, c2.val, c3.val] 3 = true := by decide +kernel
theorem ext_ok3 (y0 y1 y2 cx : Int32) : ∀ m, m < 4 → gotE (eqAt [y0, y1, y2, cx]) 3 m = expE (eqAt [y0, y1, y2, cx]) 3 m := by
  have h0 : codeOf [y0, y1, y2, cx] = [[y0, y1, y2, cx].idxOf y0, [y0, y1, y2, cx].idxOf y1, [y0, y1, y2, cx].idxOf y2, [y0, y1, y2, cx].idxOf cx] := rfl
  have b0 : [y0, y1, y2, cx].idxOf y0 ≤ 0 := code_le [y0, y1, y2, cx] 0 (by exact (show 0 < 4 by decide))
  have b1 : [y0, y1, y2, cx].idxOf y1 ≤ 1 := code_le [y0, y1, y2, cx] 1 (by exact (show 1 < 4 by decide))
  have b2 : [y0, y1, y2, cx].idxOf y2 ≤ 2 := code_le [y0, y1, y2, cx] 2 (by exact (show 2 < 4 by decide))
  have b3 : [y0, y1, y2, cx].idxOf cx ≤ 3 := code_le [y0, y1, y2, cx] 3 (by exact (show 3 < 4 by decide))
  have z0 : [y0, y1, y2, cx].idxOf y0 = 0 := by omega
  have h1 := okx3 ⟨[y0, y1, y2, cx].idxOf y1, by omega⟩ ⟨[y0, y1, y2, cx].idxOf y2, by omega⟩ ⟨[y0, y1, y2, cx].idxOf cx, by omega⟩
  rw [show ([0, [y0, y1, y2, cx].idxOf y1, [y0, y1, y2, cx].idxOf y2, [y0, y1, y2, cx].idxOf cx] : List Nat) = codeOf [y0, y1, y2, cx] from by rw [h0, z0] ] at h1
  intro m hm
  have h2 := List.all_eq_true.mp h1 m (by rw [List.mem_range]; exact hm)
  rw [← code_eq] at h2
  exact eq_of_beq h2
theorem xm3_0_1 (y0 y1 y2 cx : Int32) : endsE (eqAt [y0, y1, y2, cx]) 3 0 1 = !(decide (fX3_0_1 y0 y1 y2 cx = 0)) := by
  have e : endsE (eqAt [y0, y1, y2, cx]) 3 0 1 = ((y0 == cx)) := by simp [endsE, eqAt, List.range_succ, Bool.and_assoc]
  rw [e, show (y0 == cx) = decide (y0 = cx) from rfl]; unfold fX3_0_1
  by_cases q0 : y0 = cx
  case neg => rw [if_neg q0, decide_eq_false q0]; simp
  rw [if_pos q0, decide_eq_true q0]
  rfl
theorem xm3_0_2 (y0 y1 y2 cx : Int32) : endsE (eqAt [y0, y1, y2, cx]) 3 0 2 = false := rfl
theorem xm3_0_3 (y0 y1 y2 cx : Int32) : endsE (eqAt [y0, y1, y2, cx]) 3 0 3 = false := rfl
theorem xm3_0_4 (y0 y1 y2 cx : Int32) : endsE (eqAt [y0, y1, y2, cx]) 3 0 4 = false := rfl
theorem own_fin3_0 {y0 y1 y2 cx ex z : Int32} (h_ex : ex = (if fX3_0_1 y0 y1 y2 cx = (0 : Int32) then (0 : Int32) else (1 : Int32))) (h_z : z = (if (nextE (eqAt ([y0, y1, y2] ++ [cx])) (ofL [y0, y1, y2]) [y0, y1, y2].length 0).toInt32 = ex then (1 : Int32) else (0 : Int32))) : z = 1 := by
  have g : nextE (eqAt ([y0, y1, y2] ++ [cx])) (ofL [y0, y1, y2]) [y0, y1, y2].length 0 = gotE (eqAt [y0, y1, y2, cx]) 3 0 := by
    unfold gotE ofL
    rw [restr_eq [y0, y1, y2] cx, if_neg (by decide)]
    rfl
  rw [h_z, g, ext_ok3 y0 y1 y2 cx 0 (by decide), h_ex]
  unfold expE
  simp only [xm3_0_1, xm3_0_2, xm3_0_3, xm3_0_4]
  generalize fX3_0_1 y0 y1 y2 cx = f1
  by_cases q1 : f1 = 0 <;> simp [q1] <;> rfl
theorem xm3_1_1 (y0 y1 y2 cx : Int32) : endsE (eqAt [y0, y1, y2, cx]) 3 1 1 = !(decide (fX3_1_1 y0 y1 y2 cx = 0)) := by
  have e : endsE (eqAt [y0, y1, y2, cx]) 3 1 1 = ((y0 == cx)) := by simp [endsE, eqAt, List.range_succ, Bool.and_assoc]
  rw [e, show (y0 == cx) = decide (y0 = cx) from rfl]; unfold fX3_1_1
  by_cases q0 : y0 = cx
  case neg => rw [if_neg q0, decide_eq_false q0]; simp
  rw [if_pos q0, decide_eq_true q0]
  rfl
theorem xm3_1_2 (y0 y1 y2 cx : Int32) : endsE (eqAt [y0, y1, y2, cx]) 3 1 2 = !(decide (fX3_1_2 y0 y1 y2 cx = 0)) := by
  have e : endsE (eqAt [y0, y1, y2, cx]) 3 1 2 = ((y0 == y0) && (y1 == cx)) := by simp [endsE, eqAt, List.range_succ, Bool.and_assoc]
  rw [e, show (y0 == y0) = decide (y0 = y0) from rfl, show (y1 == cx) = decide (y1 = cx) from rfl]; unfold fX3_1_2
  rw [decide_eq_true (rfl : y0 = y0)]
  by_cases q1 : y1 = cx
  case neg => rw [if_neg q1, decide_eq_false q1]; simp
  rw [if_pos q1, decide_eq_true q1]
  rfl
theorem xm3_1_3 (y0 y1 y2 cx : Int32) : endsE (eqAt [y0, y1, y2, cx]) 3 1 3 = false := rfl
theorem xm3_1_4 (y0 y1 y2 cx : Int32) : endsE (eqAt [y0, y1, y2, cx]) 3 1 4 = false := rfl
theorem own_fin3_1 {y0 y1 y2 cx ex z : Int32} (h_ex : ex = (if fX3_1_2 y0 y1 y2 cx = (0 : Int32) then (if fX3_1_1 y0 y1 y2 cx = (0 : Int32) then (0 : Int32) else (1 : Int32)) else (2 : Int32))) (h_z : z = (if (nextE (eqAt ([y0, y1, y2] ++ [cx])) (ofL [y0, y1, y2]) [y0, y1, y2].length 1).toInt32 = ex then (1 : Int32) else (0 : Int32))) : z = 1 := by
  have g : nextE (eqAt ([y0, y1, y2] ++ [cx])) (ofL [y0, y1, y2]) [y0, y1, y2].length 1 = gotE (eqAt [y0, y1, y2, cx]) 3 1 := by
    unfold gotE ofL
    rw [restr_eq [y0, y1, y2] cx, if_neg (by decide)]
    rfl
  rw [h_z, g, ext_ok3 y0 y1 y2 cx 1 (by decide), h_ex]
  unfold expE
  simp only [xm3_1_1, xm3_1_2, xm3_1_3, xm3_1_4]
  generalize fX3_1_2 y0 y1 y2 cx = f2
  generalize fX3_1_1 y0 y1 y2 cx = f1
  by_cases q2 : f2 = 0 <;> by_cases q1 : f1 = 0 <;> simp [q2, q1] <;> rfl
theorem xm3_2_1 (y0 y1 y2 cx : Int32) : endsE (eqAt [y0, y1, y2, cx]) 3 2 1 = !(decide (fX3_2_1 y0 y1 y2 cx = 0)) := by
  have e : endsE (eqAt [y0, y1, y2, cx]) 3 2 1 = ((y0 == cx)) := by simp [endsE, eqAt, List.range_succ, Bool.and_assoc]
  rw [e, show (y0 == cx) = decide (y0 = cx) from rfl]; unfold fX3_2_1
  by_cases q0 : y0 = cx
  case neg => rw [if_neg q0, decide_eq_false q0]; simp
  rw [if_pos q0, decide_eq_true q0]
  rfl
theorem xm3_2_2 (y0 y1 y2 cx : Int32) : endsE (eqAt [y0, y1, y2, cx]) 3 2 2 = !(decide (fX3_2_2 y0 y1 y2 cx = 0)) := by
  have e : endsE (eqAt [y0, y1, y2, cx]) 3 2 2 = ((y0 == y1) && (y1 == cx)) := by simp [endsE, eqAt, List.range_succ, Bool.and_assoc]
  rw [e, show (y0 == y1) = decide (y0 = y1) from rfl, show (y1 == cx) = decide (y1 = cx) from rfl]; unfold fX3_2_2
  by_cases q0 : y0 = y1
  case neg => rw [if_neg q0, decide_eq_false q0]; simp
  rw [if_pos q0, decide_eq_true q0]
  by_cases q1 : y1 = cx
  case neg => rw [if_neg q1, decide_eq_false q1]; simp
  rw [if_pos q1, decide_eq_true q1]
  rfl
theorem xm3_2_3 (y0 y1 y2 cx : Int32) : endsE (eqAt [y0, y1, y2, cx]) 3 2 3 = !(decide (fX3_2_3 y0 y1 y2 cx = 0)) := by
  have e : endsE (eqAt [y0, y1, y2, cx]) 3 2 3 = ((y0 == y0) && (y1 == y1) && (y2 == cx)) := by simp [endsE, eqAt, List.range_succ, Bool.and_assoc]
  rw [e, show (y0 == y0) = decide (y0 = y0) from rfl, show (y1 == y1) = decide (y1 = y1) from rfl, show (y2 == cx) = decide (y2 = cx) from rfl]; unfold fX3_2_3
  rw [decide_eq_true (rfl : y0 = y0)]
  rw [decide_eq_true (rfl : y1 = y1)]
  by_cases q2 : y2 = cx
  case neg => rw [if_neg q2, decide_eq_false q2]; simp
  rw [if_pos q2, decide_eq_true q2]
  rfl
theorem xm3_2_4 (y0 y1 y2 cx : Int32) : endsE (eqAt [y0, y1, y2, cx]) 3 2 4 = false := rfl
theorem own_fin3_2 {y0 y1 y2 cx ex z : Int32} (h_ex : ex = (if fX3_2_3 y0 y1 y2 cx = (0 : Int32) then (if fX3_2_2 y0 y1 y2 cx = (0 : Int32) then (if fX3_2_1 y0 y1 y2 cx = (0 : Int32) then (0 : Int32) else (1 : Int32)) else (2 : Int32)) else (3 : Int32))) (h_z : z = (if (nextE (eqAt ([y0, y1, y2] ++ [cx])) (ofL [y0, y1, y2]) [y0, y1, y2].length 2).toInt32 = ex then (1 : Int32) else (0 : Int32))) : z = 1 := by
  have g : nextE (eqAt ([y0, y1, y2] ++ [cx])) (ofL [y0, y1, y2]) [y0, y1, y2].length 2 = gotE (eqAt [y0, y1, y2, cx]) 3 2 := by
    unfold gotE ofL
    rw [restr_eq [y0, y1, y2] cx, if_neg (by decide)]
    rfl
  rw [h_z, g, ext_ok3 y0 y1 y2 cx 2 (by decide), h_ex]
  unfold expE
  simp only [xm3_2_1, xm3_2_2, xm3_2_3, xm3_2_4]
  generalize fX3_2_3 y0 y1 y2 cx = f3
  generalize fX3_2_2 y0 y1 y2 cx = f2
  generalize fX3_2_1 y0 y1 y2 cx = f1
  by_cases q3 : f3 = 0 <;> by_cases q2 : f2 = 0 <;> by_cases q1 : f1 = 0 <;> simp [q3, q2, q1] <;> rfl
theorem xm3_3_1 (y0 y1 y2 cx : Int32) : endsE (eqAt [y0, y1, y2, cx]) 3 3 1 = !(decide (fX3_3_1 y0 y1 y2 cx = 0)) := by
  have e : endsE (eqAt [y0, y1, y2, cx]) 3 3 1 = ((y0 == cx)) := by simp [endsE, eqAt, List.range_succ, Bool.and_assoc]
  rw [e, show (y0 == cx) = decide (y0 = cx) from rfl]; unfold fX3_3_1
  by_cases q0 : y0 = cx
  case neg => rw [if_neg q0, decide_eq_false q0]; simp
  rw [if_pos q0, decide_eq_true q0]
  rfl
theorem xm3_3_2 (y0 y1 y2 cx : Int32) : endsE (eqAt [y0, y1, y2, cx]) 3 3 2 = !(decide (fX3_3_2 y0 y1 y2 cx = 0)) := by
  have e : endsE (eqAt [y0, y1, y2, cx]) 3 3 2 = ((y0 == y2) && (y1 == cx)) := by simp [endsE, eqAt, List.range_succ, Bool.and_assoc]
  rw [e, show (y0 == y2) = decide (y0 = y2) from rfl, show (y1 == cx) = decide (y1 = cx) from rfl]; unfold fX3_3_2
  by_cases q0 : y0 = y2
  case neg => rw [if_neg q0, decide_eq_false q0]; simp
  rw [if_pos q0, decide_eq_true q0]
  by_cases q1 : y1 = cx
  case neg => rw [if_neg q1, decide_eq_false q1]; simp
  rw [if_pos q1, decide_eq_true q1]
  rfl
theorem xm3_3_3 (y0 y1 y2 cx : Int32) : endsE (eqAt [y0, y1, y2, cx]) 3 3 3 = !(decide (fX3_3_3 y0 y1 y2 cx = 0)) := by
  have e : endsE (eqAt [y0, y1, y2, cx]) 3 3 3 = ((y0 == y1) && (y1 == y2) && (y2 == cx)) := by simp [endsE, eqAt, List.range_succ, Bool.and_assoc]
  rw [e, show (y0 == y1) = decide (y0 = y1) from rfl, show (y1 == y2) = decide (y1 = y2) from rfl, show (y2 == cx) = decide (y2 = cx) from rfl]; unfold fX3_3_3
  by_cases q0 : y0 = y1
  case neg => rw [if_neg q0, decide_eq_false q0]; simp
  rw [if_pos q0, decide_eq_true q0]
  by_cases q1 : y1 = y2
  case neg => rw [if_neg q1, decide_eq_false q1]; simp
  rw [if_pos q1, decide_eq_true q1]
  by_cases q2 : y2 = cx
  case neg => rw [if_neg q2, decide_eq_false q2]; simp
  rw [if_pos q2, decide_eq_true q2]
  rfl
theorem xm3_3_4 (y0 y1 y2 cx : Int32) : endsE (eqAt [y0, y1, y2, cx]) 3 3 4 = false := rfl
theorem own_fin3_3 {y0 y1 y2 cx ex z : Int32} (h_ex : ex = (if fX3_3_3 y0 y1 y2 cx = (0 : Int32) then (if fX3_3_2 y0 y1 y2 cx = (0 : Int32) then (if fX3_3_1 y0 y1 y2 cx = (0 : Int32) then (0 : Int32) else (1 : Int32)) else (2 : Int32)) else (3 : Int32))) (h_z : z = (if (nextE (eqAt ([y0, y1, y2] ++ [cx])) (ofL [y0, y1, y2]) [y0, y1, y2].length ((ofL [y0, y1, y2]).getD 2 0)).toInt32 = ex then (1 : Int32) else (0 : Int32))) : z = 1 := by
  have g : nextE (eqAt ([y0, y1, y2] ++ [cx])) (ofL [y0, y1, y2]) [y0, y1, y2].length ((ofL [y0, y1, y2]).getD 2 0) = gotE (eqAt [y0, y1, y2, cx]) 3 3 := by
    unfold gotE ofL
    rw [restr_eq [y0, y1, y2] cx, if_pos rfl]
    rfl
  rw [h_z, g, ext_ok3 y0 y1 y2 cx 3 (by decide), h_ex]
  unfold expE
  simp only [xm3_3_1, xm3_3_2, xm3_3_3, xm3_3_4]
  generalize fX3_3_3 y0 y1 y2 cx = f3
  generalize fX3_3_2 y0 y1 y2 cx = f2
  generalize fX3_3_1 y0 y1 y2 cx = f1
  by_cases q3 : f3 = 0 <;> by_cases q2 : f2 = 0 <;> by_cases q1 : f1 = 0 <;> simp [q3, q2, q1] <;> rfl
set_option maxRecDepth 100000 in
theorem okx4 : ∀ (c1 : Fin 2) (c2 : Fin 3) (c3 : Fin 4) (c4 : Fin 5), okX [0, c1.val, c2.val, c3.val, c4.val] 4 = true := by decide +kernel
theorem ext_ok4 (y0 y1 y2 y3 cx : Int32) : ∀ m, m < 5 → gotE (eqAt [y0, y1, y2, y3, cx]) 4 m = expE (eqAt [y0, y1, y2, y3, cx]) 4 m := by
  have h0 : codeOf [y0, y1, y2, y3, cx] = [[y0, y1, y2, y3, cx].idxOf y0, [y0, y1, y2, y3, cx].idxOf y1, [y0, y1, y2, y3, cx].idxOf y2, [y0, y1, y2, y3, cx].idxOf y3, [y0, y1, y2, y3, cx].idxOf cx] := rfl
  have b0 : [y0, y1, y2, y3, cx].idxOf y0 ≤ 0 := code_le [y0, y1, y2, y3, cx] 0 (by exact (show 0 < 5 by decide))
  have b1 : [y0, y1, y2, y3, cx].idxOf y1 ≤ 1 := code_le [y0, y1, y2, y3, cx] 1 (by exact (show 1 < 5 by decide))
  have b2 : [y0, y1, y2, y3, cx].idxOf y2 ≤ 2 := code_le [y0, y1, y2, y3, cx] 2 (by exact (show 2 < 5 by decide))
  have b3 : [y0, y1, y2, y3, cx].idxOf y3 ≤ 3 := code_le [y0, y1, y2, y3, cx] 3 (by exact (show 3 < 5 by decide))
  have b4 : [y0, y1, y2, y3, cx].idxOf cx ≤ 4 := code_le [y0, y1, y2, y3, cx] 4 (by exact (show 4 < 5 by decide))
  have z0 : [y0, y1, y2, y3, cx].idxOf y0 = 0 := by omega
  have h1 := okx4 ⟨[y0, y1, y2, y3, cx].idxOf y1, by omega⟩ ⟨[y0, y1, y2, y3, cx].idxOf y2, by omega⟩ ⟨[y0, y1, y2, y3, cx].idxOf y3, by omega⟩ ⟨[y0, y1, y2, y3, cx].idxOf cx, by omega⟩
  rw [show ([0, [y0, y1, y2, y3, cx].idxOf y1, [y0, y1, y2, y3, cx].idxOf y2, [y0, y1, y2, y3, cx].idxOf y3, [y0, y1, y2, y3, cx].idxOf cx] : List Nat) = codeOf [y0, y1, y2, y3, cx] from by rw [h0, z0] ] at h1
  intro m hm
  have h2 := List.all_eq_true.mp h1 m (by rw [List.mem_range]; exact hm)
  rw [← code_eq] at h2
  exact eq_of_beq h2
theorem xm4_0_1 (y0 y1 y2 y3 cx : Int32) : endsE (eqAt [y0, y1, y2, y3, cx]) 4 0 1 = !(decide (fX4_0_1 y0 y1 y2 y3 cx = 0)) := by
  have e : endsE (eqAt [y0, y1, y2, y3, cx]) 4 0 1 = ((y0 == cx)) := by simp [endsE, eqAt, List.range_succ, Bool.and_assoc]
  rw [e, show (y0 == cx) = decide (y0 = cx) from rfl]; unfold fX4_0_1
  by_cases q0 : y0 = cx
  case neg => rw [if_neg q0, decide_eq_false q0]; simp
  rw [if_pos q0, decide_eq_true q0]
  rfl
theorem xm4_0_2 (y0 y1 y2 y3 cx : Int32) : endsE (eqAt [y0, y1, y2, y3, cx]) 4 0 2 = false := rfl
theorem xm4_0_3 (y0 y1 y2 y3 cx : Int32) : endsE (eqAt [y0, y1, y2, y3, cx]) 4 0 3 = false := rfl
theorem xm4_0_4 (y0 y1 y2 y3 cx : Int32) : endsE (eqAt [y0, y1, y2, y3, cx]) 4 0 4 = false := rfl
theorem own_fin4_0 {y0 y1 y2 y3 cx ex z : Int32} (h_ex : ex = (if fX4_0_1 y0 y1 y2 y3 cx = (0 : Int32) then (0 : Int32) else (1 : Int32))) (h_z : z = (if (nextE (eqAt ([y0, y1, y2, y3] ++ [cx])) (ofL [y0, y1, y2, y3]) [y0, y1, y2, y3].length 0).toInt32 = ex then (1 : Int32) else (0 : Int32))) : z = 1 := by
  have g : nextE (eqAt ([y0, y1, y2, y3] ++ [cx])) (ofL [y0, y1, y2, y3]) [y0, y1, y2, y3].length 0 = gotE (eqAt [y0, y1, y2, y3, cx]) 4 0 := by
    unfold gotE ofL
    rw [restr_eq [y0, y1, y2, y3] cx, if_neg (by decide)]
    rfl
  rw [h_z, g, ext_ok4 y0 y1 y2 y3 cx 0 (by decide), h_ex]
  unfold expE
  simp only [xm4_0_1, xm4_0_2, xm4_0_3, xm4_0_4]
  generalize fX4_0_1 y0 y1 y2 y3 cx = f1
  by_cases q1 : f1 = 0 <;> simp [q1] <;> rfl
theorem xm4_1_1 (y0 y1 y2 y3 cx : Int32) : endsE (eqAt [y0, y1, y2, y3, cx]) 4 1 1 = !(decide (fX4_1_1 y0 y1 y2 y3 cx = 0)) := by
  have e : endsE (eqAt [y0, y1, y2, y3, cx]) 4 1 1 = ((y0 == cx)) := by simp [endsE, eqAt, List.range_succ, Bool.and_assoc]
  rw [e, show (y0 == cx) = decide (y0 = cx) from rfl]; unfold fX4_1_1
  by_cases q0 : y0 = cx
  case neg => rw [if_neg q0, decide_eq_false q0]; simp
  rw [if_pos q0, decide_eq_true q0]
  rfl
theorem xm4_1_2 (y0 y1 y2 y3 cx : Int32) : endsE (eqAt [y0, y1, y2, y3, cx]) 4 1 2 = !(decide (fX4_1_2 y0 y1 y2 y3 cx = 0)) := by
  have e : endsE (eqAt [y0, y1, y2, y3, cx]) 4 1 2 = ((y0 == y0) && (y1 == cx)) := by simp [endsE, eqAt, List.range_succ, Bool.and_assoc]
  rw [e, show (y0 == y0) = decide (y0 = y0) from rfl, show (y1 == cx) = decide (y1 = cx) from rfl]; unfold fX4_1_2
  rw [decide_eq_true (rfl : y0 = y0)]
  by_cases q1 : y1 = cx
  case neg => rw [if_neg q1, decide_eq_false q1]; simp
  rw [if_pos q1, decide_eq_true q1]
  rfl
theorem xm4_1_3 (y0 y1 y2 y3 cx : Int32) : endsE (eqAt [y0, y1, y2, y3, cx]) 4 1 3 = false := rfl
theorem xm4_1_4 (y0 y1 y2 y3 cx : Int32) : endsE (eqAt [y0, y1, y2, y3, cx]) 4 1 4 = false := rfl
theorem own_fin4_1 {y0 y1 y2 y3 cx ex z : Int32} (h_ex : ex = (if fX4_1_2 y0 y1 y2 y3 cx = (0 : Int32) then (if fX4_1_1 y0 y1 y2 y3 cx = (0 : Int32) then (0 : Int32) else (1 : Int32)) else (2 : Int32))) (h_z : z = (if (nextE (eqAt ([y0, y1, y2, y3] ++ [cx])) (ofL [y0, y1, y2, y3]) [y0, y1, y2, y3].length 1).toInt32 = ex then (1 : Int32) else (0 : Int32))) : z = 1 := by
  have g : nextE (eqAt ([y0, y1, y2, y3] ++ [cx])) (ofL [y0, y1, y2, y3]) [y0, y1, y2, y3].length 1 = gotE (eqAt [y0, y1, y2, y3, cx]) 4 1 := by
    unfold gotE ofL
    rw [restr_eq [y0, y1, y2, y3] cx, if_neg (by decide)]
    rfl
  rw [h_z, g, ext_ok4 y0 y1 y2 y3 cx 1 (by decide), h_ex]
  unfold expE
  simp only [xm4_1_1, xm4_1_2, xm4_1_3, xm4_1_4]
  generalize fX4_1_2 y0 y1 y2 y3 cx = f2
  generalize fX4_1_1 y0 y1 y2 y3 cx = f1
  by_cases q2 : f2 = 0 <;> by_cases q1 : f1 = 0 <;> simp [q2, q1] <;> rfl
theorem xm4_2_1 (y0 y1 y2 y3 cx : Int32) : endsE (eqAt [y0, y1, y2, y3, cx]) 4 2 1 = !(decide (fX4_2_1 y0 y1 y2 y3 cx = 0)) := by
  have e : endsE (eqAt [y0, y1, y2, y3, cx]) 4 2 1 = ((y0 == cx)) := by simp [endsE, eqAt, List.range_succ, Bool.and_assoc]
  rw [e, show (y0 == cx) = decide (y0 = cx) from rfl]; unfold fX4_2_1
  by_cases q0 : y0 = cx
  case neg => rw [if_neg q0, decide_eq_false q0]; simp
  rw [if_pos q0, decide_eq_true q0]
  rfl
theorem xm4_2_2 (y0 y1 y2 y3 cx : Int32) : endsE (eqAt [y0, y1, y2, y3, cx]) 4 2 2 = !(decide (fX4_2_2 y0 y1 y2 y3 cx = 0)) := by
  have e : endsE (eqAt [y0, y1, y2, y3, cx]) 4 2 2 = ((y0 == y1) && (y1 == cx)) := by simp [endsE, eqAt, List.range_succ, Bool.and_assoc]
  rw [e, show (y0 == y1) = decide (y0 = y1) from rfl, show (y1 == cx) = decide (y1 = cx) from rfl]; unfold fX4_2_2
  by_cases q0 : y0 = y1
  case neg => rw [if_neg q0, decide_eq_false q0]; simp
  rw [if_pos q0, decide_eq_true q0]
  by_cases q1 : y1 = cx
  case neg => rw [if_neg q1, decide_eq_false q1]; simp
  rw [if_pos q1, decide_eq_true q1]
  rfl
theorem xm4_2_3 (y0 y1 y2 y3 cx : Int32) : endsE (eqAt [y0, y1, y2, y3, cx]) 4 2 3 = !(decide (fX4_2_3 y0 y1 y2 y3 cx = 0)) := by
  have e : endsE (eqAt [y0, y1, y2, y3, cx]) 4 2 3 = ((y0 == y0) && (y1 == y1) && (y2 == cx)) := by simp [endsE, eqAt, List.range_succ, Bool.and_assoc]
  rw [e, show (y0 == y0) = decide (y0 = y0) from rfl, show (y1 == y1) = decide (y1 = y1) from rfl, show (y2 == cx) = decide (y2 = cx) from rfl]; unfold fX4_2_3
  rw [decide_eq_true (rfl : y0 = y0)]
  rw [decide_eq_true (rfl : y1 = y1)]
  by_cases q2 : y2 = cx
  case neg => rw [if_neg q2, decide_eq_false q2]; simp
  rw [if_pos q2, decide_eq_true q2]
  rfl
theorem xm4_2_4 (y0 y1 y2 y3 cx : Int32) : endsE (eqAt [y0, y1, y2, y3, cx]) 4 2 4 = false := rfl
theorem own_fin4_2 {y0 y1 y2 y3 cx ex z : Int32} (h_ex : ex = (if fX4_2_3 y0 y1 y2 y3 cx = (0 : Int32) then (if fX4_2_2 y0 y1 y2 y3 cx = (0 : Int32) then (if fX4_2_1 y0 y1 y2 y3 cx = (0 : Int32) then (0 : Int32) else (1 : Int32)) else (2 : Int32)) else (3 : Int32))) (h_z : z = (if (nextE (eqAt ([y0, y1, y2, y3] ++ [cx])) (ofL [y0, y1, y2, y3]) [y0, y1, y2, y3].length 2).toInt32 = ex then (1 : Int32) else (0 : Int32))) : z = 1 := by
  have g : nextE (eqAt ([y0, y1, y2, y3] ++ [cx])) (ofL [y0, y1, y2, y3]) [y0, y1, y2, y3].length 2 = gotE (eqAt [y0, y1, y2, y3, cx]) 4 2 := by
    unfold gotE ofL
    rw [restr_eq [y0, y1, y2, y3] cx, if_neg (by decide)]
    rfl
  rw [h_z, g, ext_ok4 y0 y1 y2 y3 cx 2 (by decide), h_ex]
  unfold expE
  simp only [xm4_2_1, xm4_2_2, xm4_2_3, xm4_2_4]
  generalize fX4_2_3 y0 y1 y2 y3 cx = f3
  generalize fX4_2_2 y0 y1 y2 y3 cx = f2
  generalize fX4_2_1 y0 y1 y2 y3 cx = f1
  by_cases q3 : f3 = 0 <;> by_cases q2 : f2 = 0 <;> by_cases q1 : f1 = 0 <;> simp [q3, q2, q1] <;> rfl
theorem xm4_3_1 (y0 y1 y2 y3 cx : Int32) : endsE (eqAt [y0, y1, y2, y3, cx]) 4 3 1 = !(decide (fX4_3_1 y0 y1 y2 y3 cx = 0)) := by
  have e : endsE (eqAt [y0, y1, y2, y3, cx]) 4 3 1 = ((y0 == cx)) := by simp [endsE, eqAt, List.range_succ, Bool.and_assoc]
  rw [e, show (y0 == cx) = decide (y0 = cx) from rfl]; unfold fX4_3_1
  by_cases q0 : y0 = cx
  case neg => rw [if_neg q0, decide_eq_false q0]; simp
  rw [if_pos q0, decide_eq_true q0]
  rfl
theorem xm4_3_2 (y0 y1 y2 y3 cx : Int32) : endsE (eqAt [y0, y1, y2, y3, cx]) 4 3 2 = !(decide (fX4_3_2 y0 y1 y2 y3 cx = 0)) := by
  have e : endsE (eqAt [y0, y1, y2, y3, cx]) 4 3 2 = ((y0 == y2) && (y1 == cx)) := by simp [endsE, eqAt, List.range_succ, Bool.and_assoc]
  rw [e, show (y0 == y2) = decide (y0 = y2) from rfl, show (y1 == cx) = decide (y1 = cx) from rfl]; unfold fX4_3_2
  by_cases q0 : y0 = y2
  case neg => rw [if_neg q0, decide_eq_false q0]; simp
  rw [if_pos q0, decide_eq_true q0]
  by_cases q1 : y1 = cx
  case neg => rw [if_neg q1, decide_eq_false q1]; simp
  rw [if_pos q1, decide_eq_true q1]
  rfl
theorem xm4_3_3 (y0 y1 y2 y3 cx : Int32) : endsE (eqAt [y0, y1, y2, y3, cx]) 4 3 3 = !(decide (fX4_3_3 y0 y1 y2 y3 cx = 0)) := by
  have e : endsE (eqAt [y0, y1, y2, y3, cx]) 4 3 3 = ((y0 == y1) && (y1 == y2) && (y2 == cx)) := by simp [endsE, eqAt, List.range_succ, Bool.and_assoc]
  rw [e, show (y0 == y1) = decide (y0 = y1) from rfl, show (y1 == y2) = decide (y1 = y2) from rfl, show (y2 == cx) = decide (y2 = cx) from rfl]; unfold fX4_3_3
  by_cases q0 : y0 = y1
  case neg => rw [if_neg q0, decide_eq_false q0]; simp
  rw [if_pos q0, decide_eq_true q0]
  by_cases q1 : y1 = y2
  case neg => rw [if_neg q1, decide_eq_false q1]; simp
  rw [if_pos q1, decide_eq_true q1]
  by_cases q2 : y2 = cx
  case neg => rw [if_neg q2, decide_eq_false q2]; simp
  rw [if_pos q2, decide_eq_true q2]
  rfl
theorem xm4_3_4 (y0 y1 y2 y3 cx : Int32) : endsE (eqAt [y0, y1, y2, y3, cx]) 4 3 4 = !(decide (fX4_3_4 y0 y1 y2 y3 cx = 0)) := by
  have e : endsE (eqAt [y0, y1, y2, y3, cx]) 4 3 4 = ((y0 == y0) && (y1 == y1) && (y2 == y2) && (y3 == cx)) := by simp [endsE, eqAt, List.range_succ, Bool.and_assoc]
  rw [e, show (y0 == y0) = decide (y0 = y0) from rfl, show (y1 == y1) = decide (y1 = y1) from rfl, show (y2 == y2) = decide (y2 = y2) from rfl, show (y3 == cx) = decide (y3 = cx) from rfl]; unfold fX4_3_4
  rw [decide_eq_true (rfl : y0 = y0)]
  rw [decide_eq_true (rfl : y1 = y1)]
  rw [decide_eq_true (rfl : y2 = y2)]
  by_cases q3 : y3 = cx
  case neg => rw [if_neg q3, decide_eq_false q3]; simp
  rw [if_pos q3, decide_eq_true q3]
  rfl
theorem own_fin4_3 {y0 y1 y2 y3 cx ex z : Int32} (h_ex : ex = (if fX4_3_4 y0 y1 y2 y3 cx = (0 : Int32) then (if fX4_3_3 y0 y1 y2 y3 cx = (0 : Int32) then (if fX4_3_2 y0 y1 y2 y3 cx = (0 : Int32) then (if fX4_3_1 y0 y1 y2 y3 cx = (0 : Int32) then (0 : Int32) else (1 : Int32)) else (2 : Int32)) else (3 : Int32)) else (4 : Int32))) (h_z : z = (if (nextE (eqAt ([y0, y1, y2, y3] ++ [cx])) (ofL [y0, y1, y2, y3]) [y0, y1, y2, y3].length 3).toInt32 = ex then (1 : Int32) else (0 : Int32))) : z = 1 := by
  have g : nextE (eqAt ([y0, y1, y2, y3] ++ [cx])) (ofL [y0, y1, y2, y3]) [y0, y1, y2, y3].length 3 = gotE (eqAt [y0, y1, y2, y3, cx]) 4 3 := by
    unfold gotE ofL
    rw [restr_eq [y0, y1, y2, y3] cx, if_neg (by decide)]
    rfl
  rw [h_z, g, ext_ok4 y0 y1 y2 y3 cx 3 (by decide), h_ex]
  unfold expE
  simp only [xm4_3_1, xm4_3_2, xm4_3_3, xm4_3_4]
  generalize fX4_3_4 y0 y1 y2 y3 cx = f4
  generalize fX4_3_3 y0 y1 y2 y3 cx = f3
  generalize fX4_3_2 y0 y1 y2 y3 cx = f2
  generalize fX4_3_1 y0 y1 y2 y3 cx = f1
  by_cases q4 : f4 = 0 <;> by_cases q3 : f3 = 0 <;> by_cases q2 : f2 = 0 <;> by_cases q1 : f1 = 0 <;> simp [q4, q3, q2, q1] <;> rfl
theorem xm4_4_1 (y0 y1 y2 y3 cx : Int32) : endsE (eqAt [y0, y1, y2, y3, cx]) 4 4 1 = !(decide (fX4_4_1 y0 y1 y2 y3 cx = 0)) := by
  have e : endsE (eqAt [y0, y1, y2, y3, cx]) 4 4 1 = ((y0 == cx)) := by simp [endsE, eqAt, List.range_succ, Bool.and_assoc]
  rw [e, show (y0 == cx) = decide (y0 = cx) from rfl]; unfold fX4_4_1
  by_cases q0 : y0 = cx
  case neg => rw [if_neg q0, decide_eq_false q0]; simp
  rw [if_pos q0, decide_eq_true q0]
  rfl
theorem xm4_4_2 (y0 y1 y2 y3 cx : Int32) : endsE (eqAt [y0, y1, y2, y3, cx]) 4 4 2 = !(decide (fX4_4_2 y0 y1 y2 y3 cx = 0)) := by
  have e : endsE (eqAt [y0, y1, y2, y3, cx]) 4 4 2 = ((y0 == y3) && (y1 == cx)) := by simp [endsE, eqAt, List.range_succ, Bool.and_assoc]
  rw [e, show (y0 == y3) = decide (y0 = y3) from rfl, show (y1 == cx) = decide (y1 = cx) from rfl]; unfold fX4_4_2
  by_cases q0 : y0 = y3
  case neg => rw [if_neg q0, decide_eq_false q0]; simp
  rw [if_pos q0, decide_eq_true q0]
  by_cases q1 : y1 = cx
  case neg => rw [if_neg q1, decide_eq_false q1]; simp
  rw [if_pos q1, decide_eq_true q1]
  rfl
theorem xm4_4_3 (y0 y1 y2 y3 cx : Int32) : endsE (eqAt [y0, y1, y2, y3, cx]) 4 4 3 = !(decide (fX4_4_3 y0 y1 y2 y3 cx = 0)) := by
  have e : endsE (eqAt [y0, y1, y2, y3, cx]) 4 4 3 = ((y0 == y2) && (y1 == y3) && (y2 == cx)) := by simp [endsE, eqAt, List.range_succ, Bool.and_assoc]
  rw [e, show (y0 == y2) = decide (y0 = y2) from rfl, show (y1 == y3) = decide (y1 = y3) from rfl, show (y2 == cx) = decide (y2 = cx) from rfl]; unfold fX4_4_3
  by_cases q0 : y0 = y2
  case neg => rw [if_neg q0, decide_eq_false q0]; simp
  rw [if_pos q0, decide_eq_true q0]
  by_cases q1 : y1 = y3
  case neg => rw [if_neg q1, decide_eq_false q1]; simp
  rw [if_pos q1, decide_eq_true q1]
  by_cases q2 : y2 = cx
  case neg => rw [if_neg q2, decide_eq_false q2]; simp
  rw [if_pos q2, decide_eq_true q2]
  rfl
theorem xm4_4_4 (y0 y1 y2 y3 cx : Int32) : endsE (eqAt [y0, y1, y2, y3, cx]) 4 4 4 = !(decide (fX4_4_4 y0 y1 y2 y3 cx = 0)) := by
  have e : endsE (eqAt [y0, y1, y2, y3, cx]) 4 4 4 = ((y0 == y1) && (y1 == y2) && (y2 == y3) && (y3 == cx)) := by simp [endsE, eqAt, List.range_succ, Bool.and_assoc]
  rw [e, show (y0 == y1) = decide (y0 = y1) from rfl, show (y1 == y2) = decide (y1 = y2) from rfl, show (y2 == y3) = decide (y2 = y3) from rfl, show (y3 == cx) = decide (y3 = cx) from rfl]; unfold fX4_4_4
  by_cases q0 : y0 = y1
  case neg => rw [if_neg q0, decide_eq_false q0]; simp
  rw [if_pos q0, decide_eq_true q0]
  by_cases q1 : y1 = y2
  case neg => rw [if_neg q1, decide_eq_false q1]; simp
  rw [if_pos q1, decide_eq_true q1]
  by_cases q2 : y2 = y3
  case neg => rw [if_neg q2, decide_eq_false q2]; simp
  rw [if_pos q2, decide_eq_true q2]
  by_cases q3 : y3 = cx
  case neg => rw [if_neg q3, decide_eq_false q3]; simp
  rw [if_pos q3, decide_eq_true q3]
  rfl
theorem own_fin4_4 {y0 y1 y2 y3 cx ex z : Int32} (h_ex : ex = (if fX4_4_4 y0 y1 y2 y3 cx = (0 : Int32) then (if fX4_4_3 y0 y1 y2 y3 cx = (0 : Int32) then (if fX4_4_2 y0 y1 y2 y3 cx = (0 : Int32) then (if fX4_4_1 y0 y1 y2 y3 cx = (0 : Int32) then (0 : Int32) else (1 : Int32)) else (2 : Int32)) else (3 : Int32)) else (4 : Int32))) (h_z : z = (if (nextE (eqAt ([y0, y1, y2, y3] ++ [cx])) (ofL [y0, y1, y2, y3]) [y0, y1, y2, y3].length ((ofL [y0, y1, y2, y3]).getD 3 0)).toInt32 = ex then (1 : Int32) else (0 : Int32))) : z = 1 := by
  have g : nextE (eqAt ([y0, y1, y2, y3] ++ [cx])) (ofL [y0, y1, y2, y3]) [y0, y1, y2, y3].length ((ofL [y0, y1, y2, y3]).getD 3 0) = gotE (eqAt [y0, y1, y2, y3, cx]) 4 4 := by
    unfold gotE ofL
    rw [restr_eq [y0, y1, y2, y3] cx, if_pos rfl]
    rfl
  rw [h_z, g, ext_ok4 y0 y1 y2 y3 cx 4 (by decide), h_ex]
  unfold expE
  simp only [xm4_4_1, xm4_4_2, xm4_4_3, xm4_4_4]
  generalize fX4_4_4 y0 y1 y2 y3 cx = f4
  generalize fX4_4_3 y0 y1 y2 y3 cx = f3
  generalize fX4_4_2 y0 y1 y2 y3 cx = f2
  generalize fX4_4_1 y0 y1 y2 y3 cx = f1
  by_cases q4 : f4 = 0 <;> by_cases q3 : f3 = 0 <;> by_cases q2 : f2 = 0 <;> by_cases q1 : f1 = 0 <;> simp [q4, q3, q2, q1] <;> rfl

theorem pd2 : parseMethodDescriptor "([CICI)Z" = some ⟨[(.array .char), .int, .char, .int], some .boolean⟩ := by decide +kernel
theorem pd3 : parseMethodDescriptor "([C)V" = some ⟨[(.array .char)], none⟩ := by decide +kernel
theorem pd4 : parseMethodDescriptor "(IC)I" = some ⟨[.int, .char], some .int⟩ := by decide +kernel
theorem pn5 : plainFor (⟨"com/example/idxof/idxof/KnuthMorrisPrattPatternExtendPinLaw", "law", "(IIII)Z"⟩ : MethodName) = true := by first | exact plainFor_of_name (by simp [plainName, overriddenIn]; done) | decide +kernel
theorem ef0 (m : MethodId) (p0 : Int32) (p1 : Int32) (p2 : Int32) (p3 : Int32) : entryFrame m #[(.int p0), (.int p1), (.int p2), (.int p3)] maxLocals = mkF m 0 #[.val (.int p0), .val (.int p1), .val (.int p2), .val (.int p3), .unset, .unset, .unset, .unset, .unset, .unset, .unset, .unset, .unset, .unset, .unset] [] := by first | (simp [entryFrame, mkF, argsToLocals, Value.category, maxLocals]; done) | rfl
set_option maxRecDepth 65536 in
set_option maxHeartbeats 40000000 in
theorem rm0 (l : Launch) (Z : State) (a0 : Array Value) (hw : ∀ d ∈ tables_1, d.before a0 Z = true) (p0 : Int32) (p1 : Int32) (p2 : Int32) (p3 : Int32) (h0 : Heap) (n0 : Nat)  (O0 : Own.Owns n0 h0 ([]))  : Own.Does l x code maxLocals ret tables_1 room_1 Z #[(.int p0), (.int p1), (.int p2), (.int p3)] h0 n0 (fun v _ => v = some (.int 1)) := by
  refine Own.doesOf pn5 ?_
  intro p e s m below meth c hx hby hml hret hlk hown hnm hZ
  replace hml : c.maxLocals = 15 := hml
  replace hown : s.vm.findClass "com/example/idxof/idxof/KnuthMorrisPrattPatternExtendPinLaw" = some m.cls := hown
  replace hret : meth.sig.returnType = (some .boolean) := hret
  refine Own.Goes.cast (ef0 m p0 p1 p2 p3) ?_
  refine Own.iconst hx (1 : Int32) (hb hby at_0) rfl (by decide) ?_
  refine Own.iloadN hx p0 (hb hby at_1) rfl rfl ?_
  refine Own.iconst hx (3 : Int32) (hb hby at_2) rfl (by decide) ?_
  refine Own.iand hx (hb hby at_3) rfl ?_
  refine Own.iadd hx (hb hby at_4) rfl ?_
  obtain ⟨nx, h_nx⟩ : ∃ z : Int32, z = ((1 : Int32) + (p0 &&& (3 : Int32))) := ⟨_, rfl⟩
  refine Own.istore hx nx h_nx #[.val (.int p0), .val (.int p1), .val (.int p2), .val (.int p3), .val (.int nx), .unset, .unset, .unset, .unset, .unset, .unset, .unset, .unset, .unset, .unset] (hb hby at_5) rfl rfl ?_
  refine Own.iloadN hx p0 (hb hby at_7) rfl rfl ?_
  refine Own.iconst hx (2 : Int32) (hb hby at_8) rfl (by decide) ?_
  refine Own.iushr hx (hb hby at_9) rfl ?_
  refine Own.bipush hx (7 : Int32) (hb hby at_10) rfl (by decide) ?_
  refine Own.iand hx (hb hby at_12) rfl ?_
  refine Own.iload hx nx (hb hby at_13) rfl rfl ?_
  refine Own.iconst hx (1 : Int32) (hb hby at_15) rfl (by decide) ?_
  refine Own.iadd hx (hb hby at_16) rfl ?_
  refine Own.irem hx (hb hby at_17) rfl (own_nnz h_nx) ?_
  obtain ⟨mx, h_mx⟩ : ∃ z : Int32, z = (((p0.toUInt32 >>> ((2 : Int32) &&& 31).toUInt32).toInt32 &&& (7 : Int32)) % (nx + (1 : Int32))) := ⟨_, rfl⟩
  refine Own.istore hx mx h_mx #[.val (.int p0), .val (.int p1), .val (.int p2), .val (.int p3), .val (.int nx), .val (.int mx), .unset, .unset, .unset, .unset, .unset, .unset, .unset, .unset, .unset] (hb hby at_18) rfl rfl ?_
  rcases own_nm h_nx h_mx with ⟨q, q'⟩ | ⟨q, q'⟩ | ⟨q, q'⟩ | ⟨q, q'⟩ | ⟨q, q'⟩ | ⟨q, q'⟩ | ⟨q, q'⟩ | ⟨q, q'⟩ | ⟨q, q'⟩ | ⟨q, q'⟩ | ⟨q, q'⟩ | ⟨q, q'⟩ | ⟨q, q'⟩ | ⟨q, q'⟩
  · subst q q'
    refine Own.iloadN hx p2 (hb hby at_20) rfl rfl ?_
    refine Own.iloadN hx p1 (hb hby at_21) rfl rfl ?_
    refine Own.iconst hx (1 : Int32) (hb hby at_22) rfl (by decide) ?_
    refine Own.iand hx (hb hby at_23) rfl ?_
    refine Own.iadd hx (hb hby at_24) rfl ?_
    refine Own.i2c hx (hb hby at_25) rfl ?_
    obtain ⟨y0, h_y0⟩ : ∃ z : Int32, z = (p2 + (p1 &&& (1 : Int32))).toUInt32.toUInt16.toUInt32.toInt32 := ⟨_, rfl⟩
    refine Own.istore hx y0 h_y0 #[.val (.int p0), .val (.int p1), .val (.int p2), .val (.int p3), .val (.int (1 : Int32)), .val (.int (0 : Int32)), .val (.int y0), .unset, .unset, .unset, .unset, .unset, .unset, .unset, .unset] (hb hby at_26) rfl rfl ?_
    refine Own.iloadN hx p2 (hb hby at_28) rfl rfl ?_
    refine Own.iloadN hx p1 (hb hby at_29) rfl rfl ?_
    refine Own.iconst hx (1 : Int32) (hb hby at_30) rfl (by decide) ?_
    refine Own.iushr hx (hb hby at_31) rfl ?_
    refine Own.iconst hx (1 : Int32) (hb hby at_32) rfl (by decide) ?_
    refine Own.iand hx (hb hby at_33) rfl ?_
    refine Own.iadd hx (hb hby at_34) rfl ?_
    refine Own.i2c hx (hb hby at_35) rfl ?_
    obtain ⟨y1, h_y1⟩ : ∃ z : Int32, z = (p2 + ((p1.toUInt32 >>> ((1 : Int32) &&& 31).toUInt32).toInt32 &&& (1 : Int32))).toUInt32.toUInt16.toUInt32.toInt32 := ⟨_, rfl⟩
    refine Own.istore hx y1 h_y1 #[.val (.int p0), .val (.int p1), .val (.int p2), .val (.int p3), .val (.int (1 : Int32)), .val (.int (0 : Int32)), .val (.int y0), .val (.int y1), .unset, .unset, .unset, .unset, .unset, .unset, .unset] (hb hby at_36) rfl rfl ?_
    refine Own.iloadN hx p2 (hb hby at_38) rfl rfl ?_
    refine Own.iloadN hx p1 (hb hby at_39) rfl rfl ?_
    refine Own.iconst hx (2 : Int32) (hb hby at_40) rfl (by decide) ?_
    refine Own.iushr hx (hb hby at_41) rfl ?_
    refine Own.iconst hx (1 : Int32) (hb hby at_42) rfl (by decide) ?_
    refine Own.iand hx (hb hby at_43) rfl ?_
    refine Own.iadd hx (hb hby at_44) rfl ?_
    refine Own.i2c hx (hb hby at_45) rfl ?_
    obtain ⟨y2, h_y2⟩ : ∃ z : Int32, z = (p2 + ((p1.toUInt32 >>> ((2 : Int32) &&& 31).toUInt32).toInt32 &&& (1 : Int32))).toUInt32.toUInt16.toUInt32.toInt32 := ⟨_, rfl⟩
    refine Own.istore hx y2 h_y2 #[.val (.int p0), .val (.int p1), .val (.int p2), .val (.int p3), .val (.int (1 : Int32)), .val (.int (0 : Int32)), .val (.int y0), .val (.int y1), .val (.int y2), .unset, .unset, .unset, .unset, .unset, .unset] (hb hby at_46) rfl rfl ?_
    refine Own.iloadN hx p2 (hb hby at_48) rfl rfl ?_
    refine Own.iloadN hx p1 (hb hby at_49) rfl rfl ?_
    refine Own.iconst hx (3 : Int32) (hb hby at_50) rfl (by decide) ?_
    refine Own.iushr hx (hb hby at_51) rfl ?_
    refine Own.iconst hx (1 : Int32) (hb hby at_52) rfl (by decide) ?_
    refine Own.iand hx (hb hby at_53) rfl ?_
    refine Own.iadd hx (hb hby at_54) rfl ?_
    refine Own.i2c hx (hb hby at_55) rfl ?_
    obtain ⟨y3, h_y3⟩ : ∃ z : Int32, z = (p2 + ((p1.toUInt32 >>> ((3 : Int32) &&& 31).toUInt32).toInt32 &&& (1 : Int32))).toUInt32.toUInt16.toUInt32.toInt32 := ⟨_, rfl⟩
    refine Own.istore hx y3 h_y3 #[.val (.int p0), .val (.int p1), .val (.int p2), .val (.int p3), .val (.int (1 : Int32)), .val (.int (0 : Int32)), .val (.int y0), .val (.int y1), .val (.int y2), .val (.int y3), .unset, .unset, .unset, .unset, .unset] (hb hby at_56) rfl rfl ?_
    refine Own.iload hx (1 : Int32) (hb hby at_58) rfl rfl ?_
    refine Own.iconst hx (1 : Int32) (hb hby at_60) rfl (by decide) ?_
    have hc1 : (1 : Int32) = (1 : Int32) := by decide
    refine Own.icmpFn hx (Own.q_ne (1 : Int32) (1 : Int32)) (hb hby at_61) (pcN := 64) rfl (by decide) (pcT := 77) rfl (fun q => absurd hc1 q) (fun _ => ?_)
    refine Own.iconst hx (1 : Int32) (hb hby at_64) rfl (by decide) ?_
    refine Own.newarr hx hZ O0 (aty := .char) (hw _ (List.mem_of_getElem? (i := 0) rfl)) 1 (by decide) [(.int (0 : Int32))] rfl rfl (cap := 1) (by decide) (by decide) (k' := 1) (n' := 1) rfl rfl (by decide) (by decide) (hb hby at_65) (pc' := 67) rfl ?_
    intro a3 h4 O5
    refine Own.dup hx (hb hby at_67) rfl rfl ?_
    refine Own.iconst hx (0 : Int32) (hb hby at_68) rfl (by decide) ?_
    refine Own.iload hx y0 (hb hby at_69) rfl rfl ?_
    refine Own.castore hx hZ O5 0 0 rfl (by decide) (by exact (show 0 < 1 by decide)) ((a3, Own.ArrC Z .char [(.int y0)]) :: []) (by rw [own_idem h_y0]; rfl) (hb hby at_71) rfl ?_
    intro h6 O7
    refine Own.astore hx #[.val (.int p0), .val (.int p1), .val (.int p2), .val (.int p3), .val (.int (1 : Int32)), .val (.int (0 : Int32)), .val (.int y0), .val (.int y1), .val (.int y2), .val (.int y3), .val (.ref a3), .unset, .unset, .unset, .unset] (hb hby at_72) rfl rfl rfl ?_
    refine Own.goto hx (hb hby at_74) (by decide) (pc' := 155) rfl ?_
    refine Own.iloadN hx p1 (hb hby at_155) rfl rfl ?_
    refine Own.iconst hx (4 : Int32) (hb hby at_156) rfl (by decide) ?_
    refine Own.iushr hx (hb hby at_157) rfl ?_
    refine Own.iconst hx (3 : Int32) (hb hby at_158) rfl (by decide) ?_
    refine Own.iand hx (hb hby at_159) rfl ?_
    obtain ⟨sel, h_sel⟩ : ∃ z : Int32, z = ((p1.toUInt32 >>> ((4 : Int32) &&& 31).toUInt32).toInt32 &&& (3 : Int32)) := ⟨_, rfl⟩
    refine Own.istore hx sel h_sel #[.val (.int p0), .val (.int p1), .val (.int p2), .val (.int p3), .val (.int (1 : Int32)), .val (.int (0 : Int32)), .val (.int y0), .val (.int y1), .val (.int y2), .val (.int y3), .val (.ref a3), .val (.int sel), .unset, .unset, .unset] (hb hby at_160) rfl rfl ?_
    refine Own.iload hx sel (hb hby at_162) rfl rfl ?_
    obtain ⟨cz, h_cz⟩ : ∃ z : Int32, z = (if sel = (0 : Int32) then p2.toUInt32.toUInt16.toUInt32.toInt32 else (if sel = (1 : Int32) then (p2 + (1 : Int32)).toUInt32.toUInt16.toUInt32.toInt32 else (if sel = (2 : Int32) then (p2 + (2 : Int32)).toUInt32.toUInt16.toUInt32.toInt32 else p3.toUInt32.toUInt16.toUInt32.toInt32))) := ⟨_, rfl⟩
    refine Own.Goes.join (mkF m 208 #[.val (.int p0), .val (.int p1), .val (.int p2), .val (.int p3), .val (.int (1 : Int32)), .val (.int (0 : Int32)), .val (.int y0), .val (.int y1), .val (.int y2), .val (.int y3), .val (.ref a3), .val (.int sel), .val (.int cz), .unset, .unset] []) (fun kJ11 => ?_) ?_
    · refine Own.ifFn hx (Own.z_ne sel) (hb hby at_164) (pcN := 167) rfl (by decide) (pcT := 174) rfl (fun hc8 => ?_) (fun hc8 => ?_)
      · refine Own.iload hx sel (hb hby at_174) rfl rfl ?_
        refine Own.iconst hx (1 : Int32) (hb hby at_176) rfl (by decide) ?_
        refine Own.icmpFn hx (Own.q_ne sel (1 : Int32)) (hb hby at_177) (pcN := 180) rfl (by decide) (pcT := 189) rfl (fun hc12 => ?_) (fun hc12 => ?_)
        · refine Own.iload hx sel (hb hby at_189) rfl rfl ?_
          refine Own.iconst hx (2 : Int32) (hb hby at_191) rfl (by decide) ?_
          refine Own.icmpFn hx (Own.q_ne sel (2 : Int32)) (hb hby at_192) (pcN := 195) rfl (by decide) (pcT := 204) rfl (fun hc13 => ?_) (fun hc13 => ?_)
          · refine Own.iloadN hx p3 (hb hby at_204) rfl rfl ?_
            refine Own.i2c hx (hb hby at_205) rfl ?_
            refine Own.istore hx p3.toUInt32.toUInt16.toUInt32.toInt32 rfl #[.val (.int p0), .val (.int p1), .val (.int p2), .val (.int p3), .val (.int (1 : Int32)), .val (.int (0 : Int32)), .val (.int y0), .val (.int y1), .val (.int y2), .val (.int y3), .val (.ref a3), .val (.int sel), .val (.int p3.toUInt32.toUInt16.toUInt32.toInt32), .unset, .unset] (hb hby at_206) rfl rfl ?_
            try simp only [if_neg hc8, if_neg hc12, if_neg hc13] at h_cz
            subst h_cz
            exact kJ11
          · refine Own.iloadN hx p2 (hb hby at_195) rfl rfl ?_
            refine Own.iconst hx (2 : Int32) (hb hby at_196) rfl (by decide) ?_
            refine Own.iadd hx (hb hby at_197) rfl ?_
            refine Own.i2c hx (hb hby at_198) rfl ?_
            refine Own.istore hx (p2 + (2 : Int32)).toUInt32.toUInt16.toUInt32.toInt32 rfl #[.val (.int p0), .val (.int p1), .val (.int p2), .val (.int p3), .val (.int (1 : Int32)), .val (.int (0 : Int32)), .val (.int y0), .val (.int y1), .val (.int y2), .val (.int y3), .val (.ref a3), .val (.int sel), .val (.int (p2 + (2 : Int32)).toUInt32.toUInt16.toUInt32.toInt32), .unset, .unset] (hb hby at_199) rfl rfl ?_
            refine Own.goto hx (hb hby at_201) (by decide) (pc' := 208) rfl ?_
            try simp only [if_neg hc8, if_neg hc12, if_pos hc13] at h_cz
            subst h_cz
            exact kJ11
        · refine Own.iloadN hx p2 (hb hby at_180) rfl rfl ?_
          refine Own.iconst hx (1 : Int32) (hb hby at_181) rfl (by decide) ?_
          refine Own.iadd hx (hb hby at_182) rfl ?_
          refine Own.i2c hx (hb hby at_183) rfl ?_
          refine Own.istore hx (p2 + (1 : Int32)).toUInt32.toUInt16.toUInt32.toInt32 rfl #[.val (.int p0), .val (.int p1), .val (.int p2), .val (.int p3), .val (.int (1 : Int32)), .val (.int (0 : Int32)), .val (.int y0), .val (.int y1), .val (.int y2), .val (.int y3), .val (.ref a3), .val (.int sel), .val (.int (p2 + (1 : Int32)).toUInt32.toUInt16.toUInt32.toInt32), .unset, .unset] (hb hby at_184) rfl rfl ?_
          refine Own.goto hx (hb hby at_186) (by decide) (pc' := 208) rfl ?_
          try simp only [if_neg hc8, if_pos hc12] at h_cz
          subst h_cz
          exact kJ11
      · refine Own.iloadN hx p2 (hb hby at_167) rfl rfl ?_
        refine Own.i2c hx (hb hby at_168) rfl ?_
        refine Own.istore hx p2.toUInt32.toUInt16.toUInt32.toInt32 rfl #[.val (.int p0), .val (.int p1), .val (.int p2), .val (.int p3), .val (.int (1 : Int32)), .val (.int (0 : Int32)), .val (.int y0), .val (.int y1), .val (.int y2), .val (.int y3), .val (.ref a3), .val (.int sel), .val (.int p2.toUInt32.toUInt16.toUInt32.toInt32), .unset, .unset] (hb hby at_169) rfl rfl ?_
        refine Own.goto hx (hb hby at_171) (by decide) (pc' := 208) rfl ?_
        try simp only [if_pos hc8] at h_cz
        subst h_cz
        exact kJ11
    refine Own.aload hx (.ref a3) (hb hby at_208) rfl rfl rfl ?_
    refine Own.iload hx (0 : Int32) (hb hby at_210) rfl rfl ?_
    refine Own.iload hx cz (hb hby at_212) rfl rfl ?_
    refine Own.iconst hx (4 : Int32) (hb hby at_214) rfl (by decide) ?_
    refine Own.callS hx hZ hown (hw _ (List.mem_of_getElem? (i := 1) rfl)) (hw _ (List.mem_of_getElem? (i := 2) rfl)) (hw _ (List.mem_of_getElem? (i := 3) rfl)) (hw _ (List.mem_of_getElem? (i := 4) rfl)) (by decide) pd2 (argsL := [(.ref a3), (.int (0 : Int32)), (.int cz), (.int (4 : Int32))]) (rest := []) rfl (W := 0) (Nat.le_of_eq rfl) (rm := ({ frames := 1, cells := 0, slots := 0, locals := 24 } : Room)) (by decide) (by decide) (by decide) (by decide) (k' := 1) (n' := 1) rfl rfl (by rw [hml]; rfl) [(.int (4 : Int32)), (.int cz), (.int (0 : Int32)), (.ref a3)] rfl (hb hby at_215) (pc' := 218) rfl (rm1_1_0_4 l Z a0 hw a3 cz h6 n0 y0 ([]) O7 (own_idem h_y0) (own_cz h_cz)) ?_
    rintro _ h' ⟨rfl, eh⟩
    rw [eh]; clear eh h'
    show Own.Goes _ _ _ _ _ _ _ _ _ _ _ _ _ _ _ _ _ (mkF m 218 #[.val (.int p0), .val (.int p1), .val (.int p2), .val (.int p3), .val (.int (1 : Int32)), .val (.int (0 : Int32)), .val (.int y0), .val (.int y1), .val (.int y2), .val (.int y3), .val (.ref a3), .val (.int sel), .val (.int cz), .unset, .unset] [(.int (0 : Int32))])
    have hc14 : (0 : Int32) = (0 : Int32) := by decide
    refine Own.ifF hx (Own.z_eq (0 : Int32)) (hb hby at_218) (pcN := 221) rfl (by decide) (pcT := 227) rfl (fun _ => ?_) (fun q => absurd hc14 q)
    refine Own.aload hx (.ref a3) (hb hby at_227) rfl rfl rfl ?_
    refine Own.iload hx (0 : Int32) (hb hby at_229) rfl rfl ?_
    refine Own.iload hx cz (hb hby at_231) rfl rfl ?_
    refine Own.iconst hx (3 : Int32) (hb hby at_233) rfl (by decide) ?_
    refine Own.callS hx hZ hown (hw _ (List.mem_of_getElem? (i := 1) rfl)) (hw _ (List.mem_of_getElem? (i := 2) rfl)) (hw _ (List.mem_of_getElem? (i := 3) rfl)) (hw _ (List.mem_of_getElem? (i := 4) rfl)) (by decide) pd2 (argsL := [(.ref a3), (.int (0 : Int32)), (.int cz), (.int (3 : Int32))]) (rest := []) rfl (W := 0) (Nat.le_of_eq rfl) (rm := ({ frames := 1, cells := 0, slots := 0, locals := 24 } : Room)) (by decide) (by decide) (by decide) (by decide) (k' := 1) (n' := 1) rfl rfl (by rw [hml]; rfl) [(.int (3 : Int32)), (.int cz), (.int (0 : Int32)), (.ref a3)] rfl (hb hby at_234) (pc' := 237) rfl (rm1_1_0_3 l Z a0 hw a3 cz h6 n0 y0 ([]) O7 (own_idem h_y0) (own_cz h_cz)) ?_
    rintro _ h' ⟨rfl, eh⟩
    rw [eh]; clear eh h'
    show Own.Goes _ _ _ _ _ _ _ _ _ _ _ _ _ _ _ _ _ (mkF m 237 #[.val (.int p0), .val (.int p1), .val (.int p2), .val (.int p3), .val (.int (1 : Int32)), .val (.int (0 : Int32)), .val (.int y0), .val (.int y1), .val (.int y2), .val (.int y3), .val (.ref a3), .val (.int sel), .val (.int cz), .unset, .unset] [(.int (0 : Int32))])
    have hc16 : (0 : Int32) = (0 : Int32) := by decide
    refine Own.ifF hx (Own.z_eq (0 : Int32)) (hb hby at_237) (pcN := 240) rfl (by decide) (pcT := 246) rfl (fun _ => ?_) (fun q => absurd hc16 q)
    refine Own.aload hx (.ref a3) (hb hby at_246) rfl rfl rfl ?_
    refine Own.iload hx (0 : Int32) (hb hby at_248) rfl rfl ?_
    refine Own.iload hx cz (hb hby at_250) rfl rfl ?_
    refine Own.iconst hx (2 : Int32) (hb hby at_252) rfl (by decide) ?_
    refine Own.callS hx hZ hown (hw _ (List.mem_of_getElem? (i := 1) rfl)) (hw _ (List.mem_of_getElem? (i := 2) rfl)) (hw _ (List.mem_of_getElem? (i := 3) rfl)) (hw _ (List.mem_of_getElem? (i := 4) rfl)) (by decide) pd2 (argsL := [(.ref a3), (.int (0 : Int32)), (.int cz), (.int (2 : Int32))]) (rest := []) rfl (W := 0) (Nat.le_of_eq rfl) (rm := ({ frames := 1, cells := 0, slots := 0, locals := 24 } : Room)) (by decide) (by decide) (by decide) (by decide) (k' := 1) (n' := 1) rfl rfl (by rw [hml]; rfl) [(.int (2 : Int32)), (.int cz), (.int (0 : Int32)), (.ref a3)] rfl (hb hby at_253) (pc' := 256) rfl (rm1_1_0_2 l Z a0 hw a3 cz h6 n0 y0 ([]) O7 (own_idem h_y0) (own_cz h_cz)) ?_
    rintro _ h' ⟨rfl, eh⟩
    rw [eh]; clear eh h'
    show Own.Goes _ _ _ _ _ _ _ _ _ _ _ _ _ _ _ _ _ (mkF m 256 #[.val (.int p0), .val (.int p1), .val (.int p2), .val (.int p3), .val (.int (1 : Int32)), .val (.int (0 : Int32)), .val (.int y0), .val (.int y1), .val (.int y2), .val (.int y3), .val (.ref a3), .val (.int sel), .val (.int cz), .unset, .unset] [(.int (0 : Int32))])
    have hc18 : (0 : Int32) = (0 : Int32) := by decide
    refine Own.ifF hx (Own.z_eq (0 : Int32)) (hb hby at_256) (pcN := 259) rfl (by decide) (pcT := 265) rfl (fun _ => ?_) (fun q => absurd hc18 q)
    refine Own.aload hx (.ref a3) (hb hby at_265) rfl rfl rfl ?_
    refine Own.iload hx (0 : Int32) (hb hby at_267) rfl rfl ?_
    refine Own.iload hx cz (hb hby at_269) rfl rfl ?_
    refine Own.iconst hx (1 : Int32) (hb hby at_271) rfl (by decide) ?_
    refine Own.callS hx hZ hown (hw _ (List.mem_of_getElem? (i := 1) rfl)) (hw _ (List.mem_of_getElem? (i := 2) rfl)) (hw _ (List.mem_of_getElem? (i := 3) rfl)) (hw _ (List.mem_of_getElem? (i := 4) rfl)) (by decide) pd2 (argsL := [(.ref a3), (.int (0 : Int32)), (.int cz), (.int (1 : Int32))]) (rest := []) rfl (W := 0) (Nat.le_of_eq rfl) (rm := ({ frames := 1, cells := 0, slots := 0, locals := 24 } : Room)) (by decide) (by decide) (by decide) (by decide) (k' := 1) (n' := 1) rfl rfl (by rw [hml]; rfl) [(.int (1 : Int32)), (.int cz), (.int (0 : Int32)), (.ref a3)] rfl (hb hby at_272) (pc' := 275) rfl (rm1_1_0_1 l Z a0 hw a3 cz h6 n0 y0 ([]) O7 (own_idem h_y0) (own_cz h_cz)) ?_
    rintro _ h' ⟨rfl, eh⟩
    rw [eh]; clear eh h'
    show Own.Goes _ _ _ _ _ _ _ _ _ _ _ _ _ _ _ _ _ (mkF m 275 #[.val (.int p0), .val (.int p1), .val (.int p2), .val (.int p3), .val (.int (1 : Int32)), .val (.int (0 : Int32)), .val (.int y0), .val (.int y1), .val (.int y2), .val (.int y3), .val (.ref a3), .val (.int sel), .val (.int cz), .unset, .unset] [(.int (fX1_0_1 y0 cz))])
    obtain ⟨ex, h_ex⟩ : ∃ z : Int32, z = (if (fX1_0_1 y0 cz) = (0 : Int32) then (0 : Int32) else (1 : Int32)) := ⟨_, rfl⟩
    refine Own.Goes.join (mkF m 287 #[.val (.int p0), .val (.int p1), .val (.int p2), .val (.int p3), .val (.int (1 : Int32)), .val (.int (0 : Int32)), .val (.int y0), .val (.int y1), .val (.int y2), .val (.int y3), .val (.ref a3), .val (.int sel), .val (.int cz), .val (.int ex), .unset] []) (fun kJ21 => ?_) ?_
    · refine Own.ifF hx (Own.z_eq (fX1_0_1 y0 cz)) (hb hby at_275) (pcN := 278) rfl (by decide) (pcT := 284) rfl (fun hc20 => ?_) (fun hc20 => ?_)
      · refine Own.iconst hx (0 : Int32) (hb hby at_284) rfl (by decide) ?_
        refine Own.istore hx (0 : Int32) rfl #[.val (.int p0), .val (.int p1), .val (.int p2), .val (.int p3), .val (.int (1 : Int32)), .val (.int (0 : Int32)), .val (.int y0), .val (.int y1), .val (.int y2), .val (.int y3), .val (.ref a3), .val (.int sel), .val (.int cz), .val (.int (0 : Int32)), .unset] (hb hby at_285) rfl rfl ?_
        try simp only [if_pos hc20] at h_ex
        subst h_ex
        exact kJ21
      · refine Own.iconst hx (1 : Int32) (hb hby at_278) rfl (by decide) ?_
        refine Own.istore hx (1 : Int32) rfl #[.val (.int p0), .val (.int p1), .val (.int p2), .val (.int p3), .val (.int (1 : Int32)), .val (.int (0 : Int32)), .val (.int y0), .val (.int y1), .val (.int y2), .val (.int y3), .val (.ref a3), .val (.int sel), .val (.int cz), .val (.int (1 : Int32)), .unset] (hb hby at_279) rfl rfl ?_
        refine Own.goto hx (hb hby at_281) (by decide) (pc' := 287) rfl ?_
        try simp only [if_neg hc20] at h_ex
        subst h_ex
        exact kJ21
    refine Own.newobj hx hZ hown O7 (hw _ (List.mem_of_getElem? (i := 8) rfl)) (hw _ (List.mem_of_getElem? (i := 9) rfl)) (hw _ (List.mem_of_getElem? (i := 10) rfl)) [(("com/example/idxof/idxof/KnuthMorrisPrattPattern", "chars", "[C"), .null), (("com/example/idxof/idxof/KnuthMorrisPrattPattern", "borders", "[I"), .null)] (by intro f hf; simp only [List.mem_cons, List.not_mem_nil, or_false] at hf; rcases hf with rfl | rfl; exact ⟨Or.inr (hw _ (List.mem_of_getElem? (i := 18) rfl)), (.array .char), by decide, rfl⟩; exact ⟨Or.inr (hw _ (List.mem_of_getElem? (i := 25) rfl)), (.array .int), by decide, rfl⟩) (by decide) (k' := 2) (n' := 3) rfl rfl (by decide) (by decide) (hb hby at_287) (pc' := 290) rfl ?_
    intro a22 h23 O24
    refine Own.dup hx (hb hby at_290) rfl rfl ?_
    refine Own.aload hx (.ref a3) (hb hby at_291) rfl rfl rfl ?_
    have O25 : Own.Owns n0 h23 ((a3, Own.ArrC Z .char [(.int y0)]) :: (a22, Own.ObjC Z "com/example/idxof/idxof/KnuthMorrisPrattPattern" [(("com/example/idxof/idxof/KnuthMorrisPrattPattern", "chars", "[C"), .null), (("com/example/idxof/idxof/KnuthMorrisPrattPattern", "borders", "[I"), .null)]) :: []) := O24.pick 1 rfl
    have O26 : Own.Owns n0 h23 ((a22, Own.ObjC Z "com/example/idxof/idxof/KnuthMorrisPrattPattern" [(("com/example/idxof/idxof/KnuthMorrisPrattPattern", "chars", "[C"), .null), (("com/example/idxof/idxof/KnuthMorrisPrattPattern", "borders", "[I"), .null)]) :: (a3, Own.ArrC Z .char [(.int y0)]) :: []) := O25.pick 1 rfl
    refine Own.callI hx hZ hown rfl (hw _ (List.mem_of_getElem? (i := 11) rfl)) (hw _ (List.mem_of_getElem? (i := 12) rfl)) (hw _ (List.mem_of_getElem? (i := 10) rfl)) (hw _ (List.mem_of_getElem? (i := 13) rfl)) (by decide) pd3 (argsL := [(.ref a3)]) (rest := [(.ref a22)]) rfl (W := 1) (Nat.le_of_eq rfl) (rm := ({ frames := 1, cells := 1, slots := 4, locals := 16 } : Room)) (by decide) (by decide) (by decide) (by decide) (k' := 3) (n' := 7) rfl rfl (by rw [hml]; rfl) [(.ref a3), (.ref a22), (.ref a22)] rfl (hb hby at_293) (pc' := 296) rfl (rm3 l Z a0 hw a22 a3 h23 n0 [y0] (by exact (show 1 ≤ 4 by decide)) ([]) O26) ?_
    rintro _ h28 ⟨r27, rfl, O29⟩
    show Own.Goes _ _ _ _ _ _ _ _ _ _ _ _ _ _ _ _ _ (mkF m 296 #[.val (.int p0), .val (.int p1), .val (.int p2), .val (.int p3), .val (.int (1 : Int32)), .val (.int (0 : Int32)), .val (.int y0), .val (.int y1), .val (.int y2), .val (.int y3), .val (.ref a3), .val (.int sel), .val (.int cz), .val (.int ex), .unset] [(.ref a22)])
    refine Own.astore hx #[.val (.int p0), .val (.int p1), .val (.int p2), .val (.int p3), .val (.int (1 : Int32)), .val (.int (0 : Int32)), .val (.int y0), .val (.int y1), .val (.int y2), .val (.int y3), .val (.ref a3), .val (.int sel), .val (.int cz), .val (.int ex), .val (.ref a22)] (hb hby at_296) rfl rfl rfl ?_
    refine Own.aload hx (.ref a22) (hb hby at_298) rfl rfl rfl ?_
    refine Own.iload hx (0 : Int32) (hb hby at_300) rfl rfl ?_
    refine Own.iload hx cz (hb hby at_302) rfl rfl ?_
    have O30 : Own.Owns n0 h28 ((r27, Own.ArrC Z .int ((ofL [y0]).map gI)) :: (a22, Own.ObjC Z "com/example/idxof/idxof/KnuthMorrisPrattPattern" [(("com/example/idxof/idxof/KnuthMorrisPrattPattern", "chars", "[C"), (.ref a3)), (("com/example/idxof/idxof/KnuthMorrisPrattPattern", "borders", "[I"), (.ref r27))]) :: (a3, Own.ArrC Z .char [(.int y0)]) :: []) := O29.pick 1 rfl
    have O31 : Own.Owns n0 h28 ((a3, Own.ArrC Z .char [(.int y0)]) :: (r27, Own.ArrC Z .int ((ofL [y0]).map gI)) :: (a22, Own.ObjC Z "com/example/idxof/idxof/KnuthMorrisPrattPattern" [(("com/example/idxof/idxof/KnuthMorrisPrattPattern", "chars", "[C"), (.ref a3)), (("com/example/idxof/idxof/KnuthMorrisPrattPattern", "borders", "[I"), (.ref r27))]) :: []) := O30.pick 2 rfl
    have O32 : Own.Owns n0 h28 ((a22, Own.ObjC Z "com/example/idxof/idxof/KnuthMorrisPrattPattern" [(("com/example/idxof/idxof/KnuthMorrisPrattPattern", "chars", "[C"), (.ref a3)), (("com/example/idxof/idxof/KnuthMorrisPrattPattern", "borders", "[I"), (.ref r27))]) :: (a3, Own.ArrC Z .char [(.int y0)]) :: (r27, Own.ArrC Z .int ((ofL [y0]).map gI)) :: []) := O31.pick 2 rfl
    refine Own.callV hx hZ hown (O32.exa (i := 0) rfl) (hw _ (List.mem_of_getElem? (i := 26) rfl)) (hw _ (List.mem_of_getElem? (i := 27) rfl)) (hw _ (List.mem_of_getElem? (i := 29) rfl)) (hw _ (List.mem_of_getElem? (i := 28) rfl)) (hw _ (List.mem_of_getElem? (i := 10) rfl)) (hw _ (List.mem_of_getElem? (i := 30) rfl)) (by decide) pd4 (argsL := [(.int (0 : Int32)), (.int cz)]) (rest := []) rfl (W := 0) (Nat.le_of_eq rfl) (rm := ({ frames := 0, cells := 0, slots := 0, locals := 0 } : Room)) (by decide) (by decide) (by decide) (by decide) (k' := 3) (n' := 7) rfl rfl (by rw [hml]; rfl) [(.int cz), (.int (0 : Int32)), (.ref a22)] rfl (hb hby at_304) (pc' := 307) rfl (rm6_1_0 l Z a0 hw a22 cz h28 n0 [y0] rfl a3 r27 ([]) O32) ?_
    rintro _ h' ⟨rfl, eh⟩
    rw [eh]; clear eh h'
    show Own.Goes _ _ _ _ _ _ _ _ _ _ _ _ _ _ _ _ _ (mkF m 307 #[.val (.int p0), .val (.int p1), .val (.int p2), .val (.int p3), .val (.int (1 : Int32)), .val (.int (0 : Int32)), .val (.int y0), .val (.int y1), .val (.int y2), .val (.int y3), .val (.ref a3), .val (.int sel), .val (.int cz), .val (.int ex), .val (.ref a22)] [(.int (nextE (eqAt ([y0] ++ [cz])) (ofL [y0]) [y0].length 0).toInt32)])
    refine Own.iload hx ex (hb hby at_307) rfl rfl ?_
    obtain ⟨z, h_z⟩ : ∃ z : Int32, z = (if (nextE (eqAt ([y0] ++ [cz])) (ofL [y0]) [y0].length 0).toInt32 = ex then (1 : Int32) else (0 : Int32)) := ⟨_, rfl⟩
    refine Own.Goes.join (mkF m 317 #[.val (.int p0), .val (.int p1), .val (.int p2), .val (.int p3), .val (.int (1 : Int32)), .val (.int (0 : Int32)), .val (.int y0), .val (.int y1), .val (.int y2), .val (.int y3), .val (.ref a3), .val (.int sel), .val (.int cz), .val (.int ex), .val (.ref a22)] [(.int z)]) (fun kJ34 => ?_) ?_
    · refine Own.icmpFn hx (Own.q_ne (nextE (eqAt ([y0] ++ [cz])) (ofL [y0]) [y0].length 0).toInt32 ex) (hb hby at_309) (pcN := 312) rfl (by decide) (pcT := 316) rfl (fun hc33 => ?_) (fun hc33 => ?_)
      · refine Own.iconst hx (0 : Int32) (hb hby at_316) rfl (by decide) ?_
        try simp only [if_neg hc33] at h_z
        subst h_z
        exact kJ34
      · refine Own.iconst hx (1 : Int32) (hb hby at_312) rfl (by decide) ?_
        refine Own.goto hx (hb hby at_313) (by decide) (pc' := 317) rfl ?_
        try simp only [if_pos hc33] at h_z
        subst h_z
        exact kJ34
    exact Own.retS hx hret (by simp) hlk (hb hby at_317) (by decide) (by decide) (Own.bool1 (own_fin1_0 h_ex h_z))
  · subst q q'
    refine Own.iloadN hx p2 (hb hby at_20) rfl rfl ?_
    refine Own.iloadN hx p1 (hb hby at_21) rfl rfl ?_
    refine Own.iconst hx (1 : Int32) (hb hby at_22) rfl (by decide) ?_
    refine Own.iand hx (hb hby at_23) rfl ?_
    refine Own.iadd hx (hb hby at_24) rfl ?_
    refine Own.i2c hx (hb hby at_25) rfl ?_
    obtain ⟨y0, h_y0⟩ : ∃ z : Int32, z = (p2 + (p1 &&& (1 : Int32))).toUInt32.toUInt16.toUInt32.toInt32 := ⟨_, rfl⟩
    refine Own.istore hx y0 h_y0 #[.val (.int p0), .val (.int p1), .val (.int p2), .val (.int p3), .val (.int (1 : Int32)), .val (.int (1 : Int32)), .val (.int y0), .unset, .unset, .unset, .unset, .unset, .unset, .unset, .unset] (hb hby at_26) rfl rfl ?_
    refine Own.iloadN hx p2 (hb hby at_28) rfl rfl ?_
    refine Own.iloadN hx p1 (hb hby at_29) rfl rfl ?_
    refine Own.iconst hx (1 : Int32) (hb hby at_30) rfl (by decide) ?_
    refine Own.iushr hx (hb hby at_31) rfl ?_
    refine Own.iconst hx (1 : Int32) (hb hby at_32) rfl (by decide) ?_
    refine Own.iand hx (hb hby at_33) rfl ?_
    refine Own.iadd hx (hb hby at_34) rfl ?_
    refine Own.i2c hx (hb hby at_35) rfl ?_
    obtain ⟨y1, h_y1⟩ : ∃ z : Int32, z = (p2 + ((p1.toUInt32 >>> ((1 : Int32) &&& 31).toUInt32).toInt32 &&& (1 : Int32))).toUInt32.toUInt16.toUInt32.toInt32 := ⟨_, rfl⟩
    refine Own.istore hx y1 h_y1 #[.val (.int p0), .val (.int p1), .val (.int p2), .val (.int p3), .val (.int (1 : Int32)), .val (.int (1 : Int32)), .val (.int y0), .val (.int y1), .unset, .unset, .unset, .unset, .unset, .unset, .unset] (hb hby at_36) rfl rfl ?_
    refine Own.iloadN hx p2 (hb hby at_38) rfl rfl ?_
    refine Own.iloadN hx p1 (hb hby at_39) rfl rfl ?_
    refine Own.iconst hx (2 : Int32) (hb hby at_40) rfl (by decide) ?_
    refine Own.iushr hx (hb hby at_41) rfl ?_
    refine Own.iconst hx (1 : Int32) (hb hby at_42) rfl (by decide) ?_
    refine Own.iand hx (hb hby at_43) rfl ?_
    refine Own.iadd hx (hb hby at_44) rfl ?_
    refine Own.i2c hx (hb hby at_45) rfl ?_
    obtain ⟨y2, h_y2⟩ : ∃ z : Int32, z = (p2 + ((p1.toUInt32 >>> ((2 : Int32) &&& 31).toUInt32).toInt32 &&& (1 : Int32))).toUInt32.toUInt16.toUInt32.toInt32 := ⟨_, rfl⟩
    refine Own.istore hx y2 h_y2 #[.val (.int p0), .val (.int p1), .val (.int p2), .val (.int p3), .val (.int (1 : Int32)), .val (.int (1 : Int32)), .val (.int y0), .val (.int y1), .val (.int y2), .unset, .unset, .unset, .unset, .unset, .unset] (hb hby at_46) rfl rfl ?_
    refine Own.iloadN hx p2 (hb hby at_48) rfl rfl ?_
    refine Own.iloadN hx p1 (hb hby at_49) rfl rfl ?_
    refine Own.iconst hx (3 : Int32) (hb hby at_50) rfl (by decide) ?_
    refine Own.iushr hx (hb hby at_51) rfl ?_
    refine Own.iconst hx (1 : Int32) (hb hby at_52) rfl (by decide) ?_
    refine Own.iand hx (hb hby at_53) rfl ?_
    refine Own.iadd hx (hb hby at_54) rfl ?_
    refine Own.i2c hx (hb hby at_55) rfl ?_
    obtain ⟨y3, h_y3⟩ : ∃ z : Int32, z = (p2 + ((p1.toUInt32 >>> ((3 : Int32) &&& 31).toUInt32).toInt32 &&& (1 : Int32))).toUInt32.toUInt16.toUInt32.toInt32 := ⟨_, rfl⟩
    refine Own.istore hx y3 h_y3 #[.val (.int p0), .val (.int p1), .val (.int p2), .val (.int p3), .val (.int (1 : Int32)), .val (.int (1 : Int32)), .val (.int y0), .val (.int y1), .val (.int y2), .val (.int y3), .unset, .unset, .unset, .unset, .unset] (hb hby at_56) rfl rfl ?_
    refine Own.iload hx (1 : Int32) (hb hby at_58) rfl rfl ?_
    refine Own.iconst hx (1 : Int32) (hb hby at_60) rfl (by decide) ?_
    have hc35 : (1 : Int32) = (1 : Int32) := by decide
    refine Own.icmpFn hx (Own.q_ne (1 : Int32) (1 : Int32)) (hb hby at_61) (pcN := 64) rfl (by decide) (pcT := 77) rfl (fun q => absurd hc35 q) (fun _ => ?_)
    refine Own.iconst hx (1 : Int32) (hb hby at_64) rfl (by decide) ?_
    refine Own.newarr hx hZ O0 (aty := .char) (hw _ (List.mem_of_getElem? (i := 0) rfl)) 1 (by decide) [(.int (0 : Int32))] rfl rfl (cap := 1) (by decide) (by decide) (k' := 1) (n' := 1) rfl rfl (by decide) (by decide) (hb hby at_65) (pc' := 67) rfl ?_
    intro a37 h38 O39
    refine Own.dup hx (hb hby at_67) rfl rfl ?_
    refine Own.iconst hx (0 : Int32) (hb hby at_68) rfl (by decide) ?_
    refine Own.iload hx y0 (hb hby at_69) rfl rfl ?_
    refine Own.castore hx hZ O39 0 0 rfl (by decide) (by exact (show 0 < 1 by decide)) ((a37, Own.ArrC Z .char [(.int y0)]) :: []) (by rw [own_idem h_y0]; rfl) (hb hby at_71) rfl ?_
    intro h40 O41
    refine Own.astore hx #[.val (.int p0), .val (.int p1), .val (.int p2), .val (.int p3), .val (.int (1 : Int32)), .val (.int (1 : Int32)), .val (.int y0), .val (.int y1), .val (.int y2), .val (.int y3), .val (.ref a37), .unset, .unset, .unset, .unset] (hb hby at_72) rfl rfl rfl ?_
    refine Own.goto hx (hb hby at_74) (by decide) (pc' := 155) rfl ?_
    refine Own.iloadN hx p1 (hb hby at_155) rfl rfl ?_
    refine Own.iconst hx (4 : Int32) (hb hby at_156) rfl (by decide) ?_
    refine Own.iushr hx (hb hby at_157) rfl ?_
    refine Own.iconst hx (3 : Int32) (hb hby at_158) rfl (by decide) ?_
    refine Own.iand hx (hb hby at_159) rfl ?_
    obtain ⟨sel, h_sel⟩ : ∃ z : Int32, z = ((p1.toUInt32 >>> ((4 : Int32) &&& 31).toUInt32).toInt32 &&& (3 : Int32)) := ⟨_, rfl⟩
    refine Own.istore hx sel h_sel #[.val (.int p0), .val (.int p1), .val (.int p2), .val (.int p3), .val (.int (1 : Int32)), .val (.int (1 : Int32)), .val (.int y0), .val (.int y1), .val (.int y2), .val (.int y3), .val (.ref a37), .val (.int sel), .unset, .unset, .unset] (hb hby at_160) rfl rfl ?_
    refine Own.iload hx sel (hb hby at_162) rfl rfl ?_
    obtain ⟨cz, h_cz⟩ : ∃ z : Int32, z = (if sel = (0 : Int32) then p2.toUInt32.toUInt16.toUInt32.toInt32 else (if sel = (1 : Int32) then (p2 + (1 : Int32)).toUInt32.toUInt16.toUInt32.toInt32 else (if sel = (2 : Int32) then (p2 + (2 : Int32)).toUInt32.toUInt16.toUInt32.toInt32 else p3.toUInt32.toUInt16.toUInt32.toInt32))) := ⟨_, rfl⟩
    refine Own.Goes.join (mkF m 208 #[.val (.int p0), .val (.int p1), .val (.int p2), .val (.int p3), .val (.int (1 : Int32)), .val (.int (1 : Int32)), .val (.int y0), .val (.int y1), .val (.int y2), .val (.int y3), .val (.ref a37), .val (.int sel), .val (.int cz), .unset, .unset] []) (fun kJ45 => ?_) ?_
    · refine Own.ifFn hx (Own.z_ne sel) (hb hby at_164) (pcN := 167) rfl (by decide) (pcT := 174) rfl (fun hc42 => ?_) (fun hc42 => ?_)
      · refine Own.iload hx sel (hb hby at_174) rfl rfl ?_
        refine Own.iconst hx (1 : Int32) (hb hby at_176) rfl (by decide) ?_
        refine Own.icmpFn hx (Own.q_ne sel (1 : Int32)) (hb hby at_177) (pcN := 180) rfl (by decide) (pcT := 189) rfl (fun hc46 => ?_) (fun hc46 => ?_)
        · refine Own.iload hx sel (hb hby at_189) rfl rfl ?_
          refine Own.iconst hx (2 : Int32) (hb hby at_191) rfl (by decide) ?_
          refine Own.icmpFn hx (Own.q_ne sel (2 : Int32)) (hb hby at_192) (pcN := 195) rfl (by decide) (pcT := 204) rfl (fun hc47 => ?_) (fun hc47 => ?_)
          · refine Own.iloadN hx p3 (hb hby at_204) rfl rfl ?_
            refine Own.i2c hx (hb hby at_205) rfl ?_
            refine Own.istore hx p3.toUInt32.toUInt16.toUInt32.toInt32 rfl #[.val (.int p0), .val (.int p1), .val (.int p2), .val (.int p3), .val (.int (1 : Int32)), .val (.int (1 : Int32)), .val (.int y0), .val (.int y1), .val (.int y2), .val (.int y3), .val (.ref a37), .val (.int sel), .val (.int p3.toUInt32.toUInt16.toUInt32.toInt32), .unset, .unset] (hb hby at_206) rfl rfl ?_
            try simp only [if_neg hc42, if_neg hc46, if_neg hc47] at h_cz
            subst h_cz
            exact kJ45
          · refine Own.iloadN hx p2 (hb hby at_195) rfl rfl ?_
            refine Own.iconst hx (2 : Int32) (hb hby at_196) rfl (by decide) ?_
            refine Own.iadd hx (hb hby at_197) rfl ?_
            refine Own.i2c hx (hb hby at_198) rfl ?_
            refine Own.istore hx (p2 + (2 : Int32)).toUInt32.toUInt16.toUInt32.toInt32 rfl #[.val (.int p0), .val (.int p1), .val (.int p2), .val (.int p3), .val (.int (1 : Int32)), .val (.int (1 : Int32)), .val (.int y0), .val (.int y1), .val (.int y2), .val (.int y3), .val (.ref a37), .val (.int sel), .val (.int (p2 + (2 : Int32)).toUInt32.toUInt16.toUInt32.toInt32), .unset, .unset] (hb hby at_199) rfl rfl ?_
            refine Own.goto hx (hb hby at_201) (by decide) (pc' := 208) rfl ?_
            try simp only [if_neg hc42, if_neg hc46, if_pos hc47] at h_cz
            subst h_cz
            exact kJ45
        · refine Own.iloadN hx p2 (hb hby at_180) rfl rfl ?_
          refine Own.iconst hx (1 : Int32) (hb hby at_181) rfl (by decide) ?_
          refine Own.iadd hx (hb hby at_182) rfl ?_
          refine Own.i2c hx (hb hby at_183) rfl ?_
          refine Own.istore hx (p2 + (1 : Int32)).toUInt32.toUInt16.toUInt32.toInt32 rfl #[.val (.int p0), .val (.int p1), .val (.int p2), .val (.int p3), .val (.int (1 : Int32)), .val (.int (1 : Int32)), .val (.int y0), .val (.int y1), .val (.int y2), .val (.int y3), .val (.ref a37), .val (.int sel), .val (.int (p2 + (1 : Int32)).toUInt32.toUInt16.toUInt32.toInt32), .unset, .unset] (hb hby at_184) rfl rfl ?_
          refine Own.goto hx (hb hby at_186) (by decide) (pc' := 208) rfl ?_
          try simp only [if_neg hc42, if_pos hc46] at h_cz
          subst h_cz
          exact kJ45
      · refine Own.iloadN hx p2 (hb hby at_167) rfl rfl ?_
        refine Own.i2c hx (hb hby at_168) rfl ?_
        refine Own.istore hx p2.toUInt32.toUInt16.toUInt32.toInt32 rfl #[.val (.int p0), .val (.int p1), .val (.int p2), .val (.int p3), .val (.int (1 : Int32)), .val (.int (1 : Int32)), .val (.int y0), .val (.int y1), .val (.int y2), .val (.int y3), .val (.ref a37), .val (.int sel), .val (.int p2.toUInt32.toUInt16.toUInt32.toInt32), .unset, .unset] (hb hby at_169) rfl rfl ?_
        refine Own.goto hx (hb hby at_171) (by decide) (pc' := 208) rfl ?_
        try simp only [if_pos hc42] at h_cz
        subst h_cz
        exact kJ45
    refine Own.aload hx (.ref a37) (hb hby at_208) rfl rfl rfl ?_
    refine Own.iload hx (1 : Int32) (hb hby at_210) rfl rfl ?_
    refine Own.iload hx cz (hb hby at_212) rfl rfl ?_
    refine Own.iconst hx (4 : Int32) (hb hby at_214) rfl (by decide) ?_
    refine Own.callS hx hZ hown (hw _ (List.mem_of_getElem? (i := 1) rfl)) (hw _ (List.mem_of_getElem? (i := 2) rfl)) (hw _ (List.mem_of_getElem? (i := 3) rfl)) (hw _ (List.mem_of_getElem? (i := 4) rfl)) (by decide) pd2 (argsL := [(.ref a37), (.int (1 : Int32)), (.int cz), (.int (4 : Int32))]) (rest := []) rfl (W := 0) (Nat.le_of_eq rfl) (rm := ({ frames := 1, cells := 0, slots := 0, locals := 24 } : Room)) (by decide) (by decide) (by decide) (by decide) (k' := 1) (n' := 1) rfl rfl (by rw [hml]; rfl) [(.int (4 : Int32)), (.int cz), (.int (1 : Int32)), (.ref a37)] rfl (hb hby at_215) (pc' := 218) rfl (rm1_1_1_4 l Z a0 hw a37 cz h40 n0 y0 ([]) O41 (own_idem h_y0) (own_cz h_cz)) ?_
    rintro _ h' ⟨rfl, eh⟩
    rw [eh]; clear eh h'
    show Own.Goes _ _ _ _ _ _ _ _ _ _ _ _ _ _ _ _ _ (mkF m 218 #[.val (.int p0), .val (.int p1), .val (.int p2), .val (.int p3), .val (.int (1 : Int32)), .val (.int (1 : Int32)), .val (.int y0), .val (.int y1), .val (.int y2), .val (.int y3), .val (.ref a37), .val (.int sel), .val (.int cz), .unset, .unset] [(.int (0 : Int32))])
    have hc48 : (0 : Int32) = (0 : Int32) := by decide
    refine Own.ifF hx (Own.z_eq (0 : Int32)) (hb hby at_218) (pcN := 221) rfl (by decide) (pcT := 227) rfl (fun _ => ?_) (fun q => absurd hc48 q)
    refine Own.aload hx (.ref a37) (hb hby at_227) rfl rfl rfl ?_
    refine Own.iload hx (1 : Int32) (hb hby at_229) rfl rfl ?_
    refine Own.iload hx cz (hb hby at_231) rfl rfl ?_
    refine Own.iconst hx (3 : Int32) (hb hby at_233) rfl (by decide) ?_
    refine Own.callS hx hZ hown (hw _ (List.mem_of_getElem? (i := 1) rfl)) (hw _ (List.mem_of_getElem? (i := 2) rfl)) (hw _ (List.mem_of_getElem? (i := 3) rfl)) (hw _ (List.mem_of_getElem? (i := 4) rfl)) (by decide) pd2 (argsL := [(.ref a37), (.int (1 : Int32)), (.int cz), (.int (3 : Int32))]) (rest := []) rfl (W := 0) (Nat.le_of_eq rfl) (rm := ({ frames := 1, cells := 0, slots := 0, locals := 24 } : Room)) (by decide) (by decide) (by decide) (by decide) (k' := 1) (n' := 1) rfl rfl (by rw [hml]; rfl) [(.int (3 : Int32)), (.int cz), (.int (1 : Int32)), (.ref a37)] rfl (hb hby at_234) (pc' := 237) rfl (rm1_1_1_3 l Z a0 hw a37 cz h40 n0 y0 ([]) O41 (own_idem h_y0) (own_cz h_cz)) ?_
    rintro _ h' ⟨rfl, eh⟩
    rw [eh]; clear eh h'
    show Own.Goes _ _ _ _ _ _ _ _ _ _ _ _ _ _ _ _ _ (mkF m 237 #[.val (.int p0), .val (.int p1), .val (.int p2), .val (.int p3), .val (.int (1 : Int32)), .val (.int (1 : Int32)), .val (.int y0), .val (.int y1), .val (.int y2), .val (.int y3), .val (.ref a37), .val (.int sel), .val (.int cz), .unset, .unset] [(.int (0 : Int32))])
    have hc50 : (0 : Int32) = (0 : Int32) := by decide
    refine Own.ifF hx (Own.z_eq (0 : Int32)) (hb hby at_237) (pcN := 240) rfl (by decide) (pcT := 246) rfl (fun _ => ?_) (fun q => absurd hc50 q)
    refine Own.aload hx (.ref a37) (hb hby at_246) rfl rfl rfl ?_
    refine Own.iload hx (1 : Int32) (hb hby at_248) rfl rfl ?_
    refine Own.iload hx cz (hb hby at_250) rfl rfl ?_
    refine Own.iconst hx (2 : Int32) (hb hby at_252) rfl (by decide) ?_
    refine Own.callS hx hZ hown (hw _ (List.mem_of_getElem? (i := 1) rfl)) (hw _ (List.mem_of_getElem? (i := 2) rfl)) (hw _ (List.mem_of_getElem? (i := 3) rfl)) (hw _ (List.mem_of_getElem? (i := 4) rfl)) (by decide) pd2 (argsL := [(.ref a37), (.int (1 : Int32)), (.int cz), (.int (2 : Int32))]) (rest := []) rfl (W := 0) (Nat.le_of_eq rfl) (rm := ({ frames := 1, cells := 0, slots := 0, locals := 24 } : Room)) (by decide) (by decide) (by decide) (by decide) (k' := 1) (n' := 1) rfl rfl (by rw [hml]; rfl) [(.int (2 : Int32)), (.int cz), (.int (1 : Int32)), (.ref a37)] rfl (hb hby at_253) (pc' := 256) rfl (rm1_1_1_2 l Z a0 hw a37 cz h40 n0 y0 ([]) O41 (own_idem h_y0) (own_cz h_cz)) ?_
    rintro _ h' ⟨rfl, eh⟩
    rw [eh]; clear eh h'
    show Own.Goes _ _ _ _ _ _ _ _ _ _ _ _ _ _ _ _ _ (mkF m 256 #[.val (.int p0), .val (.int p1), .val (.int p2), .val (.int p3), .val (.int (1 : Int32)), .val (.int (1 : Int32)), .val (.int y0), .val (.int y1), .val (.int y2), .val (.int y3), .val (.ref a37), .val (.int sel), .val (.int cz), .unset, .unset] [(.int (0 : Int32))])
    have hc52 : (0 : Int32) = (0 : Int32) := by decide
    refine Own.ifF hx (Own.z_eq (0 : Int32)) (hb hby at_256) (pcN := 259) rfl (by decide) (pcT := 265) rfl (fun _ => ?_) (fun q => absurd hc52 q)
    refine Own.aload hx (.ref a37) (hb hby at_265) rfl rfl rfl ?_
    refine Own.iload hx (1 : Int32) (hb hby at_267) rfl rfl ?_
    refine Own.iload hx cz (hb hby at_269) rfl rfl ?_
    refine Own.iconst hx (1 : Int32) (hb hby at_271) rfl (by decide) ?_
    refine Own.callS hx hZ hown (hw _ (List.mem_of_getElem? (i := 1) rfl)) (hw _ (List.mem_of_getElem? (i := 2) rfl)) (hw _ (List.mem_of_getElem? (i := 3) rfl)) (hw _ (List.mem_of_getElem? (i := 4) rfl)) (by decide) pd2 (argsL := [(.ref a37), (.int (1 : Int32)), (.int cz), (.int (1 : Int32))]) (rest := []) rfl (W := 0) (Nat.le_of_eq rfl) (rm := ({ frames := 1, cells := 0, slots := 0, locals := 24 } : Room)) (by decide) (by decide) (by decide) (by decide) (k' := 1) (n' := 1) rfl rfl (by rw [hml]; rfl) [(.int (1 : Int32)), (.int cz), (.int (1 : Int32)), (.ref a37)] rfl (hb hby at_272) (pc' := 275) rfl (rm1_1_1_1 l Z a0 hw a37 cz h40 n0 y0 ([]) O41 (own_idem h_y0) (own_cz h_cz)) ?_
    rintro _ h' ⟨rfl, eh⟩
    rw [eh]; clear eh h'
    show Own.Goes _ _ _ _ _ _ _ _ _ _ _ _ _ _ _ _ _ (mkF m 275 #[.val (.int p0), .val (.int p1), .val (.int p2), .val (.int p3), .val (.int (1 : Int32)), .val (.int (1 : Int32)), .val (.int y0), .val (.int y1), .val (.int y2), .val (.int y3), .val (.ref a37), .val (.int sel), .val (.int cz), .unset, .unset] [(.int (fX1_1_1 y0 cz))])
    obtain ⟨ex, h_ex⟩ : ∃ z : Int32, z = (if (fX1_1_1 y0 cz) = (0 : Int32) then (0 : Int32) else (1 : Int32)) := ⟨_, rfl⟩
    refine Own.Goes.join (mkF m 287 #[.val (.int p0), .val (.int p1), .val (.int p2), .val (.int p3), .val (.int (1 : Int32)), .val (.int (1 : Int32)), .val (.int y0), .val (.int y1), .val (.int y2), .val (.int y3), .val (.ref a37), .val (.int sel), .val (.int cz), .val (.int ex), .unset] []) (fun kJ55 => ?_) ?_
    · refine Own.ifF hx (Own.z_eq (fX1_1_1 y0 cz)) (hb hby at_275) (pcN := 278) rfl (by decide) (pcT := 284) rfl (fun hc54 => ?_) (fun hc54 => ?_)
      · refine Own.iconst hx (0 : Int32) (hb hby at_284) rfl (by decide) ?_
        refine Own.istore hx (0 : Int32) rfl #[.val (.int p0), .val (.int p1), .val (.int p2), .val (.int p3), .val (.int (1 : Int32)), .val (.int (1 : Int32)), .val (.int y0), .val (.int y1), .val (.int y2), .val (.int y3), .val (.ref a37), .val (.int sel), .val (.int cz), .val (.int (0 : Int32)), .unset] (hb hby at_285) rfl rfl ?_
        try simp only [if_pos hc54] at h_ex
        subst h_ex
        exact kJ55
      · refine Own.iconst hx (1 : Int32) (hb hby at_278) rfl (by decide) ?_
        refine Own.istore hx (1 : Int32) rfl #[.val (.int p0), .val (.int p1), .val (.int p2), .val (.int p3), .val (.int (1 : Int32)), .val (.int (1 : Int32)), .val (.int y0), .val (.int y1), .val (.int y2), .val (.int y3), .val (.ref a37), .val (.int sel), .val (.int cz), .val (.int (1 : Int32)), .unset] (hb hby at_279) rfl rfl ?_
        refine Own.goto hx (hb hby at_281) (by decide) (pc' := 287) rfl ?_
        try simp only [if_neg hc54] at h_ex
        subst h_ex
        exact kJ55
    refine Own.newobj hx hZ hown O41 (hw _ (List.mem_of_getElem? (i := 8) rfl)) (hw _ (List.mem_of_getElem? (i := 9) rfl)) (hw _ (List.mem_of_getElem? (i := 10) rfl)) [(("com/example/idxof/idxof/KnuthMorrisPrattPattern", "chars", "[C"), .null), (("com/example/idxof/idxof/KnuthMorrisPrattPattern", "borders", "[I"), .null)] (by intro f hf; simp only [List.mem_cons, List.not_mem_nil, or_false] at hf; rcases hf with rfl | rfl; exact ⟨Or.inr (hw _ (List.mem_of_getElem? (i := 18) rfl)), (.array .char), by decide, rfl⟩; exact ⟨Or.inr (hw _ (List.mem_of_getElem? (i := 25) rfl)), (.array .int), by decide, rfl⟩) (by decide) (k' := 2) (n' := 3) rfl rfl (by decide) (by decide) (hb hby at_287) (pc' := 290) rfl ?_
    intro a56 h57 O58
    refine Own.dup hx (hb hby at_290) rfl rfl ?_
    refine Own.aload hx (.ref a37) (hb hby at_291) rfl rfl rfl ?_
    have O59 : Own.Owns n0 h57 ((a37, Own.ArrC Z .char [(.int y0)]) :: (a56, Own.ObjC Z "com/example/idxof/idxof/KnuthMorrisPrattPattern" [(("com/example/idxof/idxof/KnuthMorrisPrattPattern", "chars", "[C"), .null), (("com/example/idxof/idxof/KnuthMorrisPrattPattern", "borders", "[I"), .null)]) :: []) := O58.pick 1 rfl
    have O60 : Own.Owns n0 h57 ((a56, Own.ObjC Z "com/example/idxof/idxof/KnuthMorrisPrattPattern" [(("com/example/idxof/idxof/KnuthMorrisPrattPattern", "chars", "[C"), .null), (("com/example/idxof/idxof/KnuthMorrisPrattPattern", "borders", "[I"), .null)]) :: (a37, Own.ArrC Z .char [(.int y0)]) :: []) := O59.pick 1 rfl
    refine Own.callI hx hZ hown rfl (hw _ (List.mem_of_getElem? (i := 11) rfl)) (hw _ (List.mem_of_getElem? (i := 12) rfl)) (hw _ (List.mem_of_getElem? (i := 10) rfl)) (hw _ (List.mem_of_getElem? (i := 13) rfl)) (by decide) pd3 (argsL := [(.ref a37)]) (rest := [(.ref a56)]) rfl (W := 1) (Nat.le_of_eq rfl) (rm := ({ frames := 1, cells := 1, slots := 4, locals := 16 } : Room)) (by decide) (by decide) (by decide) (by decide) (k' := 3) (n' := 7) rfl rfl (by rw [hml]; rfl) [(.ref a37), (.ref a56), (.ref a56)] rfl (hb hby at_293) (pc' := 296) rfl (rm3 l Z a0 hw a56 a37 h57 n0 [y0] (by exact (show 1 ≤ 4 by decide)) ([]) O60) ?_
    rintro _ h62 ⟨r61, rfl, O63⟩
    show Own.Goes _ _ _ _ _ _ _ _ _ _ _ _ _ _ _ _ _ (mkF m 296 #[.val (.int p0), .val (.int p1), .val (.int p2), .val (.int p3), .val (.int (1 : Int32)), .val (.int (1 : Int32)), .val (.int y0), .val (.int y1), .val (.int y2), .val (.int y3), .val (.ref a37), .val (.int sel), .val (.int cz), .val (.int ex), .unset] [(.ref a56)])
    refine Own.astore hx #[.val (.int p0), .val (.int p1), .val (.int p2), .val (.int p3), .val (.int (1 : Int32)), .val (.int (1 : Int32)), .val (.int y0), .val (.int y1), .val (.int y2), .val (.int y3), .val (.ref a37), .val (.int sel), .val (.int cz), .val (.int ex), .val (.ref a56)] (hb hby at_296) rfl rfl rfl ?_
    refine Own.aload hx (.ref a56) (hb hby at_298) rfl rfl rfl ?_
    refine Own.iload hx (1 : Int32) (hb hby at_300) rfl rfl ?_
    refine Own.iload hx cz (hb hby at_302) rfl rfl ?_
    have O64 : Own.Owns n0 h62 ((r61, Own.ArrC Z .int ((ofL [y0]).map gI)) :: (a56, Own.ObjC Z "com/example/idxof/idxof/KnuthMorrisPrattPattern" [(("com/example/idxof/idxof/KnuthMorrisPrattPattern", "chars", "[C"), (.ref a37)), (("com/example/idxof/idxof/KnuthMorrisPrattPattern", "borders", "[I"), (.ref r61))]) :: (a37, Own.ArrC Z .char [(.int y0)]) :: []) := O63.pick 1 rfl
    have O65 : Own.Owns n0 h62 ((a37, Own.ArrC Z .char [(.int y0)]) :: (r61, Own.ArrC Z .int ((ofL [y0]).map gI)) :: (a56, Own.ObjC Z "com/example/idxof/idxof/KnuthMorrisPrattPattern" [(("com/example/idxof/idxof/KnuthMorrisPrattPattern", "chars", "[C"), (.ref a37)), (("com/example/idxof/idxof/KnuthMorrisPrattPattern", "borders", "[I"), (.ref r61))]) :: []) := O64.pick 2 rfl
    have O66 : Own.Owns n0 h62 ((a56, Own.ObjC Z "com/example/idxof/idxof/KnuthMorrisPrattPattern" [(("com/example/idxof/idxof/KnuthMorrisPrattPattern", "chars", "[C"), (.ref a37)), (("com/example/idxof/idxof/KnuthMorrisPrattPattern", "borders", "[I"), (.ref r61))]) :: (a37, Own.ArrC Z .char [(.int y0)]) :: (r61, Own.ArrC Z .int ((ofL [y0]).map gI)) :: []) := O65.pick 2 rfl
    refine Own.callV hx hZ hown (O66.exa (i := 0) rfl) (hw _ (List.mem_of_getElem? (i := 26) rfl)) (hw _ (List.mem_of_getElem? (i := 27) rfl)) (hw _ (List.mem_of_getElem? (i := 29) rfl)) (hw _ (List.mem_of_getElem? (i := 28) rfl)) (hw _ (List.mem_of_getElem? (i := 10) rfl)) (hw _ (List.mem_of_getElem? (i := 30) rfl)) (by decide) pd4 (argsL := [(.int (1 : Int32)), (.int cz)]) (rest := []) rfl (W := 0) (Nat.le_of_eq rfl) (rm := ({ frames := 0, cells := 0, slots := 0, locals := 0 } : Room)) (by decide) (by decide) (by decide) (by decide) (k' := 3) (n' := 7) rfl rfl (by rw [hml]; rfl) [(.int cz), (.int (1 : Int32)), (.ref a56)] rfl (hb hby at_304) (pc' := 307) rfl (rm6_1_1 l Z a0 hw a56 cz h62 n0 [y0] rfl a37 r61 ([]) O66) ?_
    rintro _ h' ⟨rfl, eh⟩
    rw [eh]; clear eh h'
    show Own.Goes _ _ _ _ _ _ _ _ _ _ _ _ _ _ _ _ _ (mkF m 307 #[.val (.int p0), .val (.int p1), .val (.int p2), .val (.int p3), .val (.int (1 : Int32)), .val (.int (1 : Int32)), .val (.int y0), .val (.int y1), .val (.int y2), .val (.int y3), .val (.ref a37), .val (.int sel), .val (.int cz), .val (.int ex), .val (.ref a56)] [(.int (nextE (eqAt ([y0] ++ [cz])) (ofL [y0]) [y0].length ((ofL [y0]).getD 0 0)).toInt32)])
    refine Own.iload hx ex (hb hby at_307) rfl rfl ?_
    obtain ⟨z, h_z⟩ : ∃ z : Int32, z = (if (nextE (eqAt ([y0] ++ [cz])) (ofL [y0]) [y0].length ((ofL [y0]).getD 0 0)).toInt32 = ex then (1 : Int32) else (0 : Int32)) := ⟨_, rfl⟩
    refine Own.Goes.join (mkF m 317 #[.val (.int p0), .val (.int p1), .val (.int p2), .val (.int p3), .val (.int (1 : Int32)), .val (.int (1 : Int32)), .val (.int y0), .val (.int y1), .val (.int y2), .val (.int y3), .val (.ref a37), .val (.int sel), .val (.int cz), .val (.int ex), .val (.ref a56)] [(.int z)]) (fun kJ68 => ?_) ?_
    · refine Own.icmpFn hx (Own.q_ne (nextE (eqAt ([y0] ++ [cz])) (ofL [y0]) [y0].length ((ofL [y0]).getD 0 0)).toInt32 ex) (hb hby at_309) (pcN := 312) rfl (by decide) (pcT := 316) rfl (fun hc67 => ?_) (fun hc67 => ?_)
      · refine Own.iconst hx (0 : Int32) (hb hby at_316) rfl (by decide) ?_
        try simp only [if_neg hc67] at h_z
        subst h_z
        exact kJ68
      · refine Own.iconst hx (1 : Int32) (hb hby at_312) rfl (by decide) ?_
        refine Own.goto hx (hb hby at_313) (by decide) (pc' := 317) rfl ?_
        try simp only [if_pos hc67] at h_z
        subst h_z
        exact kJ68
    exact Own.retS hx hret (by simp) hlk (hb hby at_317) (by decide) (by decide) (Own.bool1 (own_fin1_1 h_ex h_z))
  · subst q q'
    refine Own.iloadN hx p2 (hb hby at_20) rfl rfl ?_
    refine Own.iloadN hx p1 (hb hby at_21) rfl rfl ?_
    refine Own.iconst hx (1 : Int32) (hb hby at_22) rfl (by decide) ?_
    refine Own.iand hx (hb hby at_23) rfl ?_
    refine Own.iadd hx (hb hby at_24) rfl ?_
    refine Own.i2c hx (hb hby at_25) rfl ?_
    obtain ⟨y0, h_y0⟩ : ∃ z : Int32, z = (p2 + (p1 &&& (1 : Int32))).toUInt32.toUInt16.toUInt32.toInt32 := ⟨_, rfl⟩
    refine Own.istore hx y0 h_y0 #[.val (.int p0), .val (.int p1), .val (.int p2), .val (.int p3), .val (.int (2 : Int32)), .val (.int (0 : Int32)), .val (.int y0), .unset, .unset, .unset, .unset, .unset, .unset, .unset, .unset] (hb hby at_26) rfl rfl ?_
    refine Own.iloadN hx p2 (hb hby at_28) rfl rfl ?_
    refine Own.iloadN hx p1 (hb hby at_29) rfl rfl ?_
    refine Own.iconst hx (1 : Int32) (hb hby at_30) rfl (by decide) ?_
    refine Own.iushr hx (hb hby at_31) rfl ?_
    refine Own.iconst hx (1 : Int32) (hb hby at_32) rfl (by decide) ?_
    refine Own.iand hx (hb hby at_33) rfl ?_
    refine Own.iadd hx (hb hby at_34) rfl ?_
    refine Own.i2c hx (hb hby at_35) rfl ?_
    obtain ⟨y1, h_y1⟩ : ∃ z : Int32, z = (p2 + ((p1.toUInt32 >>> ((1 : Int32) &&& 31).toUInt32).toInt32 &&& (1 : Int32))).toUInt32.toUInt16.toUInt32.toInt32 := ⟨_, rfl⟩
    refine Own.istore hx y1 h_y1 #[.val (.int p0), .val (.int p1), .val (.int p2), .val (.int p3), .val (.int (2 : Int32)), .val (.int (0 : Int32)), .val (.int y0), .val (.int y1), .unset, .unset, .unset, .unset, .unset, .unset, .unset] (hb hby at_36) rfl rfl ?_
    refine Own.iloadN hx p2 (hb hby at_38) rfl rfl ?_
    refine Own.iloadN hx p1 (hb hby at_39) rfl rfl ?_
    refine Own.iconst hx (2 : Int32) (hb hby at_40) rfl (by decide) ?_
    refine Own.iushr hx (hb hby at_41) rfl ?_
    refine Own.iconst hx (1 : Int32) (hb hby at_42) rfl (by decide) ?_
    refine Own.iand hx (hb hby at_43) rfl ?_
    refine Own.iadd hx (hb hby at_44) rfl ?_
    refine Own.i2c hx (hb hby at_45) rfl ?_
    obtain ⟨y2, h_y2⟩ : ∃ z : Int32, z = (p2 + ((p1.toUInt32 >>> ((2 : Int32) &&& 31).toUInt32).toInt32 &&& (1 : Int32))).toUInt32.toUInt16.toUInt32.toInt32 := ⟨_, rfl⟩
    refine Own.istore hx y2 h_y2 #[.val (.int p0), .val (.int p1), .val (.int p2), .val (.int p3), .val (.int (2 : Int32)), .val (.int (0 : Int32)), .val (.int y0), .val (.int y1), .val (.int y2), .unset, .unset, .unset, .unset, .unset, .unset] (hb hby at_46) rfl rfl ?_
    refine Own.iloadN hx p2 (hb hby at_48) rfl rfl ?_
    refine Own.iloadN hx p1 (hb hby at_49) rfl rfl ?_
    refine Own.iconst hx (3 : Int32) (hb hby at_50) rfl (by decide) ?_
    refine Own.iushr hx (hb hby at_51) rfl ?_
    refine Own.iconst hx (1 : Int32) (hb hby at_52) rfl (by decide) ?_
    refine Own.iand hx (hb hby at_53) rfl ?_
    refine Own.iadd hx (hb hby at_54) rfl ?_
    refine Own.i2c hx (hb hby at_55) rfl ?_
    obtain ⟨y3, h_y3⟩ : ∃ z : Int32, z = (p2 + ((p1.toUInt32 >>> ((3 : Int32) &&& 31).toUInt32).toInt32 &&& (1 : Int32))).toUInt32.toUInt16.toUInt32.toInt32 := ⟨_, rfl⟩
    refine Own.istore hx y3 h_y3 #[.val (.int p0), .val (.int p1), .val (.int p2), .val (.int p3), .val (.int (2 : Int32)), .val (.int (0 : Int32)), .val (.int y0), .val (.int y1), .val (.int y2), .val (.int y3), .unset, .unset, .unset, .unset, .unset] (hb hby at_56) rfl rfl ?_
    refine Own.iload hx (2 : Int32) (hb hby at_58) rfl rfl ?_
    refine Own.iconst hx (1 : Int32) (hb hby at_60) rfl (by decide) ?_
    have hc69 : ¬ ((2 : Int32) = (1 : Int32)) := by decide
    refine Own.icmpFn hx (Own.q_ne (2 : Int32) (1 : Int32)) (hb hby at_61) (pcN := 64) rfl (by decide) (pcT := 77) rfl (fun _ => ?_) (fun q => absurd q hc69)
    refine Own.iload hx (2 : Int32) (hb hby at_77) rfl rfl ?_
    refine Own.iconst hx (2 : Int32) (hb hby at_79) rfl (by decide) ?_
    have hc71 : (2 : Int32) = (2 : Int32) := by decide
    refine Own.icmpFn hx (Own.q_ne (2 : Int32) (2 : Int32)) (hb hby at_80) (pcN := 83) rfl (by decide) (pcT := 101) rfl (fun q => absurd hc71 q) (fun _ => ?_)
    refine Own.iconst hx (2 : Int32) (hb hby at_83) rfl (by decide) ?_
    refine Own.newarr hx hZ O0 (aty := .char) (hw _ (List.mem_of_getElem? (i := 0) rfl)) 2 (by decide) [(.int (0 : Int32)), (.int (0 : Int32))] rfl rfl (cap := 2) (by decide) (by decide) (k' := 1) (n' := 2) rfl rfl (by decide) (by decide) (hb hby at_84) (pc' := 86) rfl ?_
    intro a73 h74 O75
    refine Own.dup hx (hb hby at_86) rfl rfl ?_
    refine Own.iconst hx (0 : Int32) (hb hby at_87) rfl (by decide) ?_
    refine Own.iload hx y0 (hb hby at_88) rfl rfl ?_
    refine Own.castore hx hZ O75 0 0 rfl (by decide) (by exact (show 0 < 2 by decide)) ((a73, Own.ArrC Z .char [(.int y0), (.int (0 : Int32))]) :: []) (by rw [own_idem h_y0]; rfl) (hb hby at_90) rfl ?_
    intro h76 O77
    refine Own.dup hx (hb hby at_91) rfl rfl ?_
    refine Own.iconst hx (1 : Int32) (hb hby at_92) rfl (by decide) ?_
    refine Own.iload hx y1 (hb hby at_93) rfl rfl ?_
    refine Own.castore hx hZ O77 0 1 rfl (by decide) (by exact (show 1 < 2 by decide)) ((a73, Own.ArrC Z .char [(.int y0), (.int y1)]) :: []) (by rw [own_idem h_y1]; rfl) (hb hby at_95) rfl ?_
    intro h78 O79
    refine Own.astore hx #[.val (.int p0), .val (.int p1), .val (.int p2), .val (.int p3), .val (.int (2 : Int32)), .val (.int (0 : Int32)), .val (.int y0), .val (.int y1), .val (.int y2), .val (.int y3), .val (.ref a73), .unset, .unset, .unset, .unset] (hb hby at_96) rfl rfl rfl ?_
    refine Own.goto hx (hb hby at_98) (by decide) (pc' := 155) rfl ?_
    refine Own.iloadN hx p1 (hb hby at_155) rfl rfl ?_
    refine Own.iconst hx (4 : Int32) (hb hby at_156) rfl (by decide) ?_
    refine Own.iushr hx (hb hby at_157) rfl ?_
    refine Own.iconst hx (3 : Int32) (hb hby at_158) rfl (by decide) ?_
    refine Own.iand hx (hb hby at_159) rfl ?_
    obtain ⟨sel, h_sel⟩ : ∃ z : Int32, z = ((p1.toUInt32 >>> ((4 : Int32) &&& 31).toUInt32).toInt32 &&& (3 : Int32)) := ⟨_, rfl⟩
    refine Own.istore hx sel h_sel #[.val (.int p0), .val (.int p1), .val (.int p2), .val (.int p3), .val (.int (2 : Int32)), .val (.int (0 : Int32)), .val (.int y0), .val (.int y1), .val (.int y2), .val (.int y3), .val (.ref a73), .val (.int sel), .unset, .unset, .unset] (hb hby at_160) rfl rfl ?_
    refine Own.iload hx sel (hb hby at_162) rfl rfl ?_
    obtain ⟨cz, h_cz⟩ : ∃ z : Int32, z = (if sel = (0 : Int32) then p2.toUInt32.toUInt16.toUInt32.toInt32 else (if sel = (1 : Int32) then (p2 + (1 : Int32)).toUInt32.toUInt16.toUInt32.toInt32 else (if sel = (2 : Int32) then (p2 + (2 : Int32)).toUInt32.toUInt16.toUInt32.toInt32 else p3.toUInt32.toUInt16.toUInt32.toInt32))) := ⟨_, rfl⟩
    refine Own.Goes.join (mkF m 208 #[.val (.int p0), .val (.int p1), .val (.int p2), .val (.int p3), .val (.int (2 : Int32)), .val (.int (0 : Int32)), .val (.int y0), .val (.int y1), .val (.int y2), .val (.int y3), .val (.ref a73), .val (.int sel), .val (.int cz), .unset, .unset] []) (fun kJ83 => ?_) ?_
    · refine Own.ifFn hx (Own.z_ne sel) (hb hby at_164) (pcN := 167) rfl (by decide) (pcT := 174) rfl (fun hc80 => ?_) (fun hc80 => ?_)
      · refine Own.iload hx sel (hb hby at_174) rfl rfl ?_
        refine Own.iconst hx (1 : Int32) (hb hby at_176) rfl (by decide) ?_
        refine Own.icmpFn hx (Own.q_ne sel (1 : Int32)) (hb hby at_177) (pcN := 180) rfl (by decide) (pcT := 189) rfl (fun hc84 => ?_) (fun hc84 => ?_)
        · refine Own.iload hx sel (hb hby at_189) rfl rfl ?_
          refine Own.iconst hx (2 : Int32) (hb hby at_191) rfl (by decide) ?_
          refine Own.icmpFn hx (Own.q_ne sel (2 : Int32)) (hb hby at_192) (pcN := 195) rfl (by decide) (pcT := 204) rfl (fun hc85 => ?_) (fun hc85 => ?_)
          · refine Own.iloadN hx p3 (hb hby at_204) rfl rfl ?_
            refine Own.i2c hx (hb hby at_205) rfl ?_
            refine Own.istore hx p3.toUInt32.toUInt16.toUInt32.toInt32 rfl #[.val (.int p0), .val (.int p1), .val (.int p2), .val (.int p3), .val (.int (2 : Int32)), .val (.int (0 : Int32)), .val (.int y0), .val (.int y1), .val (.int y2), .val (.int y3), .val (.ref a73), .val (.int sel), .val (.int p3.toUInt32.toUInt16.toUInt32.toInt32), .unset, .unset] (hb hby at_206) rfl rfl ?_
            try simp only [if_neg hc80, if_neg hc84, if_neg hc85] at h_cz
            subst h_cz
            exact kJ83
          · refine Own.iloadN hx p2 (hb hby at_195) rfl rfl ?_
            refine Own.iconst hx (2 : Int32) (hb hby at_196) rfl (by decide) ?_
            refine Own.iadd hx (hb hby at_197) rfl ?_
            refine Own.i2c hx (hb hby at_198) rfl ?_
            refine Own.istore hx (p2 + (2 : Int32)).toUInt32.toUInt16.toUInt32.toInt32 rfl #[.val (.int p0), .val (.int p1), .val (.int p2), .val (.int p3), .val (.int (2 : Int32)), .val (.int (0 : Int32)), .val (.int y0), .val (.int y1), .val (.int y2), .val (.int y3), .val (.ref a73), .val (.int sel), .val (.int (p2 + (2 : Int32)).toUInt32.toUInt16.toUInt32.toInt32), .unset, .unset] (hb hby at_199) rfl rfl ?_
            refine Own.goto hx (hb hby at_201) (by decide) (pc' := 208) rfl ?_
            try simp only [if_neg hc80, if_neg hc84, if_pos hc85] at h_cz
            subst h_cz
            exact kJ83
        · refine Own.iloadN hx p2 (hb hby at_180) rfl rfl ?_
          refine Own.iconst hx (1 : Int32) (hb hby at_181) rfl (by decide) ?_
          refine Own.iadd hx (hb hby at_182) rfl ?_
          refine Own.i2c hx (hb hby at_183) rfl ?_
          refine Own.istore hx (p2 + (1 : Int32)).toUInt32.toUInt16.toUInt32.toInt32 rfl #[.val (.int p0), .val (.int p1), .val (.int p2), .val (.int p3), .val (.int (2 : Int32)), .val (.int (0 : Int32)), .val (.int y0), .val (.int y1), .val (.int y2), .val (.int y3), .val (.ref a73), .val (.int sel), .val (.int (p2 + (1 : Int32)).toUInt32.toUInt16.toUInt32.toInt32), .unset, .unset] (hb hby at_184) rfl rfl ?_
          refine Own.goto hx (hb hby at_186) (by decide) (pc' := 208) rfl ?_
          try simp only [if_neg hc80, if_pos hc84] at h_cz
          subst h_cz
          exact kJ83
      · refine Own.iloadN hx p2 (hb hby at_167) rfl rfl ?_
        refine Own.i2c hx (hb hby at_168) rfl ?_
        refine Own.istore hx p2.toUInt32.toUInt16.toUInt32.toInt32 rfl #[.val (.int p0), .val (.int p1), .val (.int p2), .val (.int p3), .val (.int (2 : Int32)), .val (.int (0 : Int32)), .val (.int y0), .val (.int y1), .val (.int y2), .val (.int y3), .val (.ref a73), .val (.int sel), .val (.int p2.toUInt32.toUInt16.toUInt32.toInt32), .unset, .unset] (hb hby at_169) rfl rfl ?_
        refine Own.goto hx (hb hby at_171) (by decide) (pc' := 208) rfl ?_
        try simp only [if_pos hc80] at h_cz
        subst h_cz
        exact kJ83
    refine Own.aload hx (.ref a73) (hb hby at_208) rfl rfl rfl ?_
    refine Own.iload hx (0 : Int32) (hb hby at_210) rfl rfl ?_
    refine Own.iload hx cz (hb hby at_212) rfl rfl ?_
    refine Own.iconst hx (4 : Int32) (hb hby at_214) rfl (by decide) ?_
    refine Own.callS hx hZ hown (hw _ (List.mem_of_getElem? (i := 1) rfl)) (hw _ (List.mem_of_getElem? (i := 2) rfl)) (hw _ (List.mem_of_getElem? (i := 3) rfl)) (hw _ (List.mem_of_getElem? (i := 4) rfl)) (by decide) pd2 (argsL := [(.ref a73), (.int (0 : Int32)), (.int cz), (.int (4 : Int32))]) (rest := []) rfl (W := 0) (Nat.le_of_eq rfl) (rm := ({ frames := 1, cells := 0, slots := 0, locals := 24 } : Room)) (by decide) (by decide) (by decide) (by decide) (k' := 1) (n' := 2) rfl rfl (by rw [hml]; rfl) [(.int (4 : Int32)), (.int cz), (.int (0 : Int32)), (.ref a73)] rfl (hb hby at_215) (pc' := 218) rfl (rm1_2_0_4 l Z a0 hw a73 cz h78 n0 y0 y1 ([]) O79 (own_idem h_y0) (own_idem h_y1) (own_cz h_cz)) ?_
    rintro _ h' ⟨rfl, eh⟩
    rw [eh]; clear eh h'
    show Own.Goes _ _ _ _ _ _ _ _ _ _ _ _ _ _ _ _ _ (mkF m 218 #[.val (.int p0), .val (.int p1), .val (.int p2), .val (.int p3), .val (.int (2 : Int32)), .val (.int (0 : Int32)), .val (.int y0), .val (.int y1), .val (.int y2), .val (.int y3), .val (.ref a73), .val (.int sel), .val (.int cz), .unset, .unset] [(.int (0 : Int32))])
    have hc86 : (0 : Int32) = (0 : Int32) := by decide
    refine Own.ifF hx (Own.z_eq (0 : Int32)) (hb hby at_218) (pcN := 221) rfl (by decide) (pcT := 227) rfl (fun _ => ?_) (fun q => absurd hc86 q)
    refine Own.aload hx (.ref a73) (hb hby at_227) rfl rfl rfl ?_
    refine Own.iload hx (0 : Int32) (hb hby at_229) rfl rfl ?_
    refine Own.iload hx cz (hb hby at_231) rfl rfl ?_
    refine Own.iconst hx (3 : Int32) (hb hby at_233) rfl (by decide) ?_
    refine Own.callS hx hZ hown (hw _ (List.mem_of_getElem? (i := 1) rfl)) (hw _ (List.mem_of_getElem? (i := 2) rfl)) (hw _ (List.mem_of_getElem? (i := 3) rfl)) (hw _ (List.mem_of_getElem? (i := 4) rfl)) (by decide) pd2 (argsL := [(.ref a73), (.int (0 : Int32)), (.int cz), (.int (3 : Int32))]) (rest := []) rfl (W := 0) (Nat.le_of_eq rfl) (rm := ({ frames := 1, cells := 0, slots := 0, locals := 24 } : Room)) (by decide) (by decide) (by decide) (by decide) (k' := 1) (n' := 2) rfl rfl (by rw [hml]; rfl) [(.int (3 : Int32)), (.int cz), (.int (0 : Int32)), (.ref a73)] rfl (hb hby at_234) (pc' := 237) rfl (rm1_2_0_3 l Z a0 hw a73 cz h78 n0 y0 y1 ([]) O79 (own_idem h_y0) (own_idem h_y1) (own_cz h_cz)) ?_
    rintro _ h' ⟨rfl, eh⟩
    rw [eh]; clear eh h'
    show Own.Goes _ _ _ _ _ _ _ _ _ _ _ _ _ _ _ _ _ (mkF m 237 #[.val (.int p0), .val (.int p1), .val (.int p2), .val (.int p3), .val (.int (2 : Int32)), .val (.int (0 : Int32)), .val (.int y0), .val (.int y1), .val (.int y2), .val (.int y3), .val (.ref a73), .val (.int sel), .val (.int cz), .unset, .unset] [(.int (0 : Int32))])
    have hc88 : (0 : Int32) = (0 : Int32) := by decide
    refine Own.ifF hx (Own.z_eq (0 : Int32)) (hb hby at_237) (pcN := 240) rfl (by decide) (pcT := 246) rfl (fun _ => ?_) (fun q => absurd hc88 q)
    refine Own.aload hx (.ref a73) (hb hby at_246) rfl rfl rfl ?_
    refine Own.iload hx (0 : Int32) (hb hby at_248) rfl rfl ?_
    refine Own.iload hx cz (hb hby at_250) rfl rfl ?_
    refine Own.iconst hx (2 : Int32) (hb hby at_252) rfl (by decide) ?_
    refine Own.callS hx hZ hown (hw _ (List.mem_of_getElem? (i := 1) rfl)) (hw _ (List.mem_of_getElem? (i := 2) rfl)) (hw _ (List.mem_of_getElem? (i := 3) rfl)) (hw _ (List.mem_of_getElem? (i := 4) rfl)) (by decide) pd2 (argsL := [(.ref a73), (.int (0 : Int32)), (.int cz), (.int (2 : Int32))]) (rest := []) rfl (W := 0) (Nat.le_of_eq rfl) (rm := ({ frames := 1, cells := 0, slots := 0, locals := 24 } : Room)) (by decide) (by decide) (by decide) (by decide) (k' := 1) (n' := 2) rfl rfl (by rw [hml]; rfl) [(.int (2 : Int32)), (.int cz), (.int (0 : Int32)), (.ref a73)] rfl (hb hby at_253) (pc' := 256) rfl (rm1_2_0_2 l Z a0 hw a73 cz h78 n0 y0 y1 ([]) O79 (own_idem h_y0) (own_idem h_y1) (own_cz h_cz)) ?_
    rintro _ h' ⟨rfl, eh⟩
    rw [eh]; clear eh h'
    show Own.Goes _ _ _ _ _ _ _ _ _ _ _ _ _ _ _ _ _ (mkF m 256 #[.val (.int p0), .val (.int p1), .val (.int p2), .val (.int p3), .val (.int (2 : Int32)), .val (.int (0 : Int32)), .val (.int y0), .val (.int y1), .val (.int y2), .val (.int y3), .val (.ref a73), .val (.int sel), .val (.int cz), .unset, .unset] [(.int (0 : Int32))])
    have hc90 : (0 : Int32) = (0 : Int32) := by decide
    refine Own.ifF hx (Own.z_eq (0 : Int32)) (hb hby at_256) (pcN := 259) rfl (by decide) (pcT := 265) rfl (fun _ => ?_) (fun q => absurd hc90 q)
    refine Own.aload hx (.ref a73) (hb hby at_265) rfl rfl rfl ?_
    refine Own.iload hx (0 : Int32) (hb hby at_267) rfl rfl ?_
    refine Own.iload hx cz (hb hby at_269) rfl rfl ?_
    refine Own.iconst hx (1 : Int32) (hb hby at_271) rfl (by decide) ?_
    refine Own.callS hx hZ hown (hw _ (List.mem_of_getElem? (i := 1) rfl)) (hw _ (List.mem_of_getElem? (i := 2) rfl)) (hw _ (List.mem_of_getElem? (i := 3) rfl)) (hw _ (List.mem_of_getElem? (i := 4) rfl)) (by decide) pd2 (argsL := [(.ref a73), (.int (0 : Int32)), (.int cz), (.int (1 : Int32))]) (rest := []) rfl (W := 0) (Nat.le_of_eq rfl) (rm := ({ frames := 1, cells := 0, slots := 0, locals := 24 } : Room)) (by decide) (by decide) (by decide) (by decide) (k' := 1) (n' := 2) rfl rfl (by rw [hml]; rfl) [(.int (1 : Int32)), (.int cz), (.int (0 : Int32)), (.ref a73)] rfl (hb hby at_272) (pc' := 275) rfl (rm1_2_0_1 l Z a0 hw a73 cz h78 n0 y0 y1 ([]) O79 (own_idem h_y0) (own_idem h_y1) (own_cz h_cz)) ?_
    rintro _ h' ⟨rfl, eh⟩
    rw [eh]; clear eh h'
    show Own.Goes _ _ _ _ _ _ _ _ _ _ _ _ _ _ _ _ _ (mkF m 275 #[.val (.int p0), .val (.int p1), .val (.int p2), .val (.int p3), .val (.int (2 : Int32)), .val (.int (0 : Int32)), .val (.int y0), .val (.int y1), .val (.int y2), .val (.int y3), .val (.ref a73), .val (.int sel), .val (.int cz), .unset, .unset] [(.int (fX2_0_1 y0 y1 cz))])
    obtain ⟨ex, h_ex⟩ : ∃ z : Int32, z = (if (fX2_0_1 y0 y1 cz) = (0 : Int32) then (0 : Int32) else (1 : Int32)) := ⟨_, rfl⟩
    refine Own.Goes.join (mkF m 287 #[.val (.int p0), .val (.int p1), .val (.int p2), .val (.int p3), .val (.int (2 : Int32)), .val (.int (0 : Int32)), .val (.int y0), .val (.int y1), .val (.int y2), .val (.int y3), .val (.ref a73), .val (.int sel), .val (.int cz), .val (.int ex), .unset] []) (fun kJ93 => ?_) ?_
    · refine Own.ifF hx (Own.z_eq (fX2_0_1 y0 y1 cz)) (hb hby at_275) (pcN := 278) rfl (by decide) (pcT := 284) rfl (fun hc92 => ?_) (fun hc92 => ?_)
      · refine Own.iconst hx (0 : Int32) (hb hby at_284) rfl (by decide) ?_
        refine Own.istore hx (0 : Int32) rfl #[.val (.int p0), .val (.int p1), .val (.int p2), .val (.int p3), .val (.int (2 : Int32)), .val (.int (0 : Int32)), .val (.int y0), .val (.int y1), .val (.int y2), .val (.int y3), .val (.ref a73), .val (.int sel), .val (.int cz), .val (.int (0 : Int32)), .unset] (hb hby at_285) rfl rfl ?_
        try simp only [if_pos hc92] at h_ex
        subst h_ex
        exact kJ93
      · refine Own.iconst hx (1 : Int32) (hb hby at_278) rfl (by decide) ?_
        refine Own.istore hx (1 : Int32) rfl #[.val (.int p0), .val (.int p1), .val (.int p2), .val (.int p3), .val (.int (2 : Int32)), .val (.int (0 : Int32)), .val (.int y0), .val (.int y1), .val (.int y2), .val (.int y3), .val (.ref a73), .val (.int sel), .val (.int cz), .val (.int (1 : Int32)), .unset] (hb hby at_279) rfl rfl ?_
        refine Own.goto hx (hb hby at_281) (by decide) (pc' := 287) rfl ?_
        try simp only [if_neg hc92] at h_ex
        subst h_ex
        exact kJ93
    refine Own.newobj hx hZ hown O79 (hw _ (List.mem_of_getElem? (i := 8) rfl)) (hw _ (List.mem_of_getElem? (i := 9) rfl)) (hw _ (List.mem_of_getElem? (i := 10) rfl)) [(("com/example/idxof/idxof/KnuthMorrisPrattPattern", "chars", "[C"), .null), (("com/example/idxof/idxof/KnuthMorrisPrattPattern", "borders", "[I"), .null)] (by intro f hf; simp only [List.mem_cons, List.not_mem_nil, or_false] at hf; rcases hf with rfl | rfl; exact ⟨Or.inr (hw _ (List.mem_of_getElem? (i := 18) rfl)), (.array .char), by decide, rfl⟩; exact ⟨Or.inr (hw _ (List.mem_of_getElem? (i := 25) rfl)), (.array .int), by decide, rfl⟩) (by decide) (k' := 2) (n' := 4) rfl rfl (by decide) (by decide) (hb hby at_287) (pc' := 290) rfl ?_
    intro a94 h95 O96
    refine Own.dup hx (hb hby at_290) rfl rfl ?_
    refine Own.aload hx (.ref a73) (hb hby at_291) rfl rfl rfl ?_
    have O97 : Own.Owns n0 h95 ((a73, Own.ArrC Z .char [(.int y0), (.int y1)]) :: (a94, Own.ObjC Z "com/example/idxof/idxof/KnuthMorrisPrattPattern" [(("com/example/idxof/idxof/KnuthMorrisPrattPattern", "chars", "[C"), .null), (("com/example/idxof/idxof/KnuthMorrisPrattPattern", "borders", "[I"), .null)]) :: []) := O96.pick 1 rfl
    have O98 : Own.Owns n0 h95 ((a94, Own.ObjC Z "com/example/idxof/idxof/KnuthMorrisPrattPattern" [(("com/example/idxof/idxof/KnuthMorrisPrattPattern", "chars", "[C"), .null), (("com/example/idxof/idxof/KnuthMorrisPrattPattern", "borders", "[I"), .null)]) :: (a73, Own.ArrC Z .char [(.int y0), (.int y1)]) :: []) := O97.pick 1 rfl
    refine Own.callI hx hZ hown rfl (hw _ (List.mem_of_getElem? (i := 11) rfl)) (hw _ (List.mem_of_getElem? (i := 12) rfl)) (hw _ (List.mem_of_getElem? (i := 10) rfl)) (hw _ (List.mem_of_getElem? (i := 13) rfl)) (by decide) pd3 (argsL := [(.ref a73)]) (rest := [(.ref a94)]) rfl (W := 1) (Nat.le_of_eq rfl) (rm := ({ frames := 1, cells := 1, slots := 4, locals := 16 } : Room)) (by decide) (by decide) (by decide) (by decide) (k' := 3) (n' := 8) rfl rfl (by rw [hml]; rfl) [(.ref a73), (.ref a94), (.ref a94)] rfl (hb hby at_293) (pc' := 296) rfl (rm3 l Z a0 hw a94 a73 h95 n0 [y0, y1] (by exact (show 2 ≤ 4 by decide)) ([]) O98) ?_
    rintro _ h100 ⟨r99, rfl, O101⟩
    show Own.Goes _ _ _ _ _ _ _ _ _ _ _ _ _ _ _ _ _ (mkF m 296 #[.val (.int p0), .val (.int p1), .val (.int p2), .val (.int p3), .val (.int (2 : Int32)), .val (.int (0 : Int32)), .val (.int y0), .val (.int y1), .val (.int y2), .val (.int y3), .val (.ref a73), .val (.int sel), .val (.int cz), .val (.int ex), .unset] [(.ref a94)])
    refine Own.astore hx #[.val (.int p0), .val (.int p1), .val (.int p2), .val (.int p3), .val (.int (2 : Int32)), .val (.int (0 : Int32)), .val (.int y0), .val (.int y1), .val (.int y2), .val (.int y3), .val (.ref a73), .val (.int sel), .val (.int cz), .val (.int ex), .val (.ref a94)] (hb hby at_296) rfl rfl rfl ?_
    refine Own.aload hx (.ref a94) (hb hby at_298) rfl rfl rfl ?_
    refine Own.iload hx (0 : Int32) (hb hby at_300) rfl rfl ?_
    refine Own.iload hx cz (hb hby at_302) rfl rfl ?_
    have O102 : Own.Owns n0 h100 ((r99, Own.ArrC Z .int ((ofL [y0, y1]).map gI)) :: (a94, Own.ObjC Z "com/example/idxof/idxof/KnuthMorrisPrattPattern" [(("com/example/idxof/idxof/KnuthMorrisPrattPattern", "chars", "[C"), (.ref a73)), (("com/example/idxof/idxof/KnuthMorrisPrattPattern", "borders", "[I"), (.ref r99))]) :: (a73, Own.ArrC Z .char [(.int y0), (.int y1)]) :: []) := O101.pick 1 rfl
    have O103 : Own.Owns n0 h100 ((a73, Own.ArrC Z .char [(.int y0), (.int y1)]) :: (r99, Own.ArrC Z .int ((ofL [y0, y1]).map gI)) :: (a94, Own.ObjC Z "com/example/idxof/idxof/KnuthMorrisPrattPattern" [(("com/example/idxof/idxof/KnuthMorrisPrattPattern", "chars", "[C"), (.ref a73)), (("com/example/idxof/idxof/KnuthMorrisPrattPattern", "borders", "[I"), (.ref r99))]) :: []) := O102.pick 2 rfl
    have O104 : Own.Owns n0 h100 ((a94, Own.ObjC Z "com/example/idxof/idxof/KnuthMorrisPrattPattern" [(("com/example/idxof/idxof/KnuthMorrisPrattPattern", "chars", "[C"), (.ref a73)), (("com/example/idxof/idxof/KnuthMorrisPrattPattern", "borders", "[I"), (.ref r99))]) :: (a73, Own.ArrC Z .char [(.int y0), (.int y1)]) :: (r99, Own.ArrC Z .int ((ofL [y0, y1]).map gI)) :: []) := O103.pick 2 rfl
    refine Own.callV hx hZ hown (O104.exa (i := 0) rfl) (hw _ (List.mem_of_getElem? (i := 26) rfl)) (hw _ (List.mem_of_getElem? (i := 27) rfl)) (hw _ (List.mem_of_getElem? (i := 29) rfl)) (hw _ (List.mem_of_getElem? (i := 28) rfl)) (hw _ (List.mem_of_getElem? (i := 10) rfl)) (hw _ (List.mem_of_getElem? (i := 30) rfl)) (by decide) pd4 (argsL := [(.int (0 : Int32)), (.int cz)]) (rest := []) rfl (W := 0) (Nat.le_of_eq rfl) (rm := ({ frames := 0, cells := 0, slots := 0, locals := 0 } : Room)) (by decide) (by decide) (by decide) (by decide) (k' := 3) (n' := 8) rfl rfl (by rw [hml]; rfl) [(.int cz), (.int (0 : Int32)), (.ref a94)] rfl (hb hby at_304) (pc' := 307) rfl (rm6_2_0 l Z a0 hw a94 cz h100 n0 [y0, y1] rfl a73 r99 ([]) O104) ?_
    rintro _ h' ⟨rfl, eh⟩
    rw [eh]; clear eh h'
    show Own.Goes _ _ _ _ _ _ _ _ _ _ _ _ _ _ _ _ _ (mkF m 307 #[.val (.int p0), .val (.int p1), .val (.int p2), .val (.int p3), .val (.int (2 : Int32)), .val (.int (0 : Int32)), .val (.int y0), .val (.int y1), .val (.int y2), .val (.int y3), .val (.ref a73), .val (.int sel), .val (.int cz), .val (.int ex), .val (.ref a94)] [(.int (nextE (eqAt ([y0, y1] ++ [cz])) (ofL [y0, y1]) [y0, y1].length 0).toInt32)])
    refine Own.iload hx ex (hb hby at_307) rfl rfl ?_
    obtain ⟨z, h_z⟩ : ∃ z : Int32, z = (if (nextE (eqAt ([y0, y1] ++ [cz])) (ofL [y0, y1]) [y0, y1].length 0).toInt32 = ex then (1 : Int32) else (0 : Int32)) := ⟨_, rfl⟩
    refine Own.Goes.join (mkF m 317 #[.val (.int p0), .val (.int p1), .val (.int p2), .val (.int p3), .val (.int (2 : Int32)), .val (.int (0 : Int32)), .val (.int y0), .val (.int y1), .val (.int y2), .val (.int y3), .val (.ref a73), .val (.int sel), .val (.int cz), .val (.int ex), .val (.ref a94)] [(.int z)]) (fun kJ106 => ?_) ?_
    · refine Own.icmpFn hx (Own.q_ne (nextE (eqAt ([y0, y1] ++ [cz])) (ofL [y0, y1]) [y0, y1].length 0).toInt32 ex) (hb hby at_309) (pcN := 312) rfl (by decide) (pcT := 316) rfl (fun hc105 => ?_) (fun hc105 => ?_)
      · refine Own.iconst hx (0 : Int32) (hb hby at_316) rfl (by decide) ?_
        try simp only [if_neg hc105] at h_z
        subst h_z
        exact kJ106
      · refine Own.iconst hx (1 : Int32) (hb hby at_312) rfl (by decide) ?_
        refine Own.goto hx (hb hby at_313) (by decide) (pc' := 317) rfl ?_
        try simp only [if_pos hc105] at h_z
        subst h_z
        exact kJ106
    exact Own.retS hx hret (by simp) hlk (hb hby at_317) (by decide) (by decide) (Own.bool1 (own_fin2_0 h_ex h_z))
  · subst q q'
    refine Own.iloadN hx p2 (hb hby at_20) rfl rfl ?_
    refine Own.iloadN hx p1 (hb hby at_21) rfl rfl ?_
    refine Own.iconst hx (1 : Int32) (hb hby at_22) rfl (by decide) ?_
    refine Own.iand hx (hb hby at_23) rfl ?_
    refine Own.iadd hx (hb hby at_24) rfl ?_
    refine Own.i2c hx (hb hby at_25) rfl ?_
    obtain ⟨y0, h_y0⟩ : ∃ z : Int32, z = (p2 + (p1 &&& (1 : Int32))).toUInt32.toUInt16.toUInt32.toInt32 := ⟨_, rfl⟩
    refine Own.istore hx y0 h_y0 #[.val (.int p0), .val (.int p1), .val (.int p2), .val (.int p3), .val (.int (2 : Int32)), .val (.int (1 : Int32)), .val (.int y0), .unset, .unset, .unset, .unset, .unset, .unset, .unset, .unset] (hb hby at_26) rfl rfl ?_
    refine Own.iloadN hx p2 (hb hby at_28) rfl rfl ?_
    refine Own.iloadN hx p1 (hb hby at_29) rfl rfl ?_
    refine Own.iconst hx (1 : Int32) (hb hby at_30) rfl (by decide) ?_
    refine Own.iushr hx (hb hby at_31) rfl ?_
    refine Own.iconst hx (1 : Int32) (hb hby at_32) rfl (by decide) ?_
    refine Own.iand hx (hb hby at_33) rfl ?_
    refine Own.iadd hx (hb hby at_34) rfl ?_
    refine Own.i2c hx (hb hby at_35) rfl ?_
    obtain ⟨y1, h_y1⟩ : ∃ z : Int32, z = (p2 + ((p1.toUInt32 >>> ((1 : Int32) &&& 31).toUInt32).toInt32 &&& (1 : Int32))).toUInt32.toUInt16.toUInt32.toInt32 := ⟨_, rfl⟩
    refine Own.istore hx y1 h_y1 #[.val (.int p0), .val (.int p1), .val (.int p2), .val (.int p3), .val (.int (2 : Int32)), .val (.int (1 : Int32)), .val (.int y0), .val (.int y1), .unset, .unset, .unset, .unset, .unset, .unset, .unset] (hb hby at_36) rfl rfl ?_
    refine Own.iloadN hx p2 (hb hby at_38) rfl rfl ?_
    refine Own.iloadN hx p1 (hb hby at_39) rfl rfl ?_
    refine Own.iconst hx (2 : Int32) (hb hby at_40) rfl (by decide) ?_
    refine Own.iushr hx (hb hby at_41) rfl ?_
    refine Own.iconst hx (1 : Int32) (hb hby at_42) rfl (by decide) ?_
    refine Own.iand hx (hb hby at_43) rfl ?_
    refine Own.iadd hx (hb hby at_44) rfl ?_
    refine Own.i2c hx (hb hby at_45) rfl ?_
    obtain ⟨y2, h_y2⟩ : ∃ z : Int32, z = (p2 + ((p1.toUInt32 >>> ((2 : Int32) &&& 31).toUInt32).toInt32 &&& (1 : Int32))).toUInt32.toUInt16.toUInt32.toInt32 := ⟨_, rfl⟩
    refine Own.istore hx y2 h_y2 #[.val (.int p0), .val (.int p1), .val (.int p2), .val (.int p3), .val (.int (2 : Int32)), .val (.int (1 : Int32)), .val (.int y0), .val (.int y1), .val (.int y2), .unset, .unset, .unset, .unset, .unset, .unset] (hb hby at_46) rfl rfl ?_
    refine Own.iloadN hx p2 (hb hby at_48) rfl rfl ?_
    refine Own.iloadN hx p1 (hb hby at_49) rfl rfl ?_
    refine Own.iconst hx (3 : Int32) (hb hby at_50) rfl (by decide) ?_
    refine Own.iushr hx (hb hby at_51) rfl ?_
    refine Own.iconst hx (1 : Int32) (hb hby at_52) rfl (by decide) ?_
    refine Own.iand hx (hb hby at_53) rfl ?_
    refine Own.iadd hx (hb hby at_54) rfl ?_
    refine Own.i2c hx (hb hby at_55) rfl ?_
    obtain ⟨y3, h_y3⟩ : ∃ z : Int32, z = (p2 + ((p1.toUInt32 >>> ((3 : Int32) &&& 31).toUInt32).toInt32 &&& (1 : Int32))).toUInt32.toUInt16.toUInt32.toInt32 := ⟨_, rfl⟩
    refine Own.istore hx y3 h_y3 #[.val (.int p0), .val (.int p1), .val (.int p2), .val (.int p3), .val (.int (2 : Int32)), .val (.int (1 : Int32)), .val (.int y0), .val (.int y1), .val (.int y2), .val (.int y3), .unset, .unset, .unset, .unset, .unset] (hb hby at_56) rfl rfl ?_
    refine Own.iload hx (2 : Int32) (hb hby at_58) rfl rfl ?_
    refine Own.iconst hx (1 : Int32) (hb hby at_60) rfl (by decide) ?_
    have hc107 : ¬ ((2 : Int32) = (1 : Int32)) := by decide
    refine Own.icmpFn hx (Own.q_ne (2 : Int32) (1 : Int32)) (hb hby at_61) (pcN := 64) rfl (by decide) (pcT := 77) rfl (fun _ => ?_) (fun q => absurd q hc107)
    refine Own.iload hx (2 : Int32) (hb hby at_77) rfl rfl ?_
    refine Own.iconst hx (2 : Int32) (hb hby at_79) rfl (by decide) ?_
    have hc109 : (2 : Int32) = (2 : Int32) := by decide
    refine Own.icmpFn hx (Own.q_ne (2 : Int32) (2 : Int32)) (hb hby at_80) (pcN := 83) rfl (by decide) (pcT := 101) rfl (fun q => absurd hc109 q) (fun _ => ?_)
    refine Own.iconst hx (2 : Int32) (hb hby at_83) rfl (by decide) ?_
    refine Own.newarr hx hZ O0 (aty := .char) (hw _ (List.mem_of_getElem? (i := 0) rfl)) 2 (by decide) [(.int (0 : Int32)), (.int (0 : Int32))] rfl rfl (cap := 2) (by decide) (by decide) (k' := 1) (n' := 2) rfl rfl (by decide) (by decide) (hb hby at_84) (pc' := 86) rfl ?_
    intro a111 h112 O113
    refine Own.dup hx (hb hby at_86) rfl rfl ?_
    refine Own.iconst hx (0 : Int32) (hb hby at_87) rfl (by decide) ?_
    refine Own.iload hx y0 (hb hby at_88) rfl rfl ?_
    refine Own.castore hx hZ O113 0 0 rfl (by decide) (by exact (show 0 < 2 by decide)) ((a111, Own.ArrC Z .char [(.int y0), (.int (0 : Int32))]) :: []) (by rw [own_idem h_y0]; rfl) (hb hby at_90) rfl ?_
    intro h114 O115
    refine Own.dup hx (hb hby at_91) rfl rfl ?_
    refine Own.iconst hx (1 : Int32) (hb hby at_92) rfl (by decide) ?_
    refine Own.iload hx y1 (hb hby at_93) rfl rfl ?_
    refine Own.castore hx hZ O115 0 1 rfl (by decide) (by exact (show 1 < 2 by decide)) ((a111, Own.ArrC Z .char [(.int y0), (.int y1)]) :: []) (by rw [own_idem h_y1]; rfl) (hb hby at_95) rfl ?_
    intro h116 O117
    refine Own.astore hx #[.val (.int p0), .val (.int p1), .val (.int p2), .val (.int p3), .val (.int (2 : Int32)), .val (.int (1 : Int32)), .val (.int y0), .val (.int y1), .val (.int y2), .val (.int y3), .val (.ref a111), .unset, .unset, .unset, .unset] (hb hby at_96) rfl rfl rfl ?_
    refine Own.goto hx (hb hby at_98) (by decide) (pc' := 155) rfl ?_
    refine Own.iloadN hx p1 (hb hby at_155) rfl rfl ?_
    refine Own.iconst hx (4 : Int32) (hb hby at_156) rfl (by decide) ?_
    refine Own.iushr hx (hb hby at_157) rfl ?_
    refine Own.iconst hx (3 : Int32) (hb hby at_158) rfl (by decide) ?_
    refine Own.iand hx (hb hby at_159) rfl ?_
    obtain ⟨sel, h_sel⟩ : ∃ z : Int32, z = ((p1.toUInt32 >>> ((4 : Int32) &&& 31).toUInt32).toInt32 &&& (3 : Int32)) := ⟨_, rfl⟩
    refine Own.istore hx sel h_sel #[.val (.int p0), .val (.int p1), .val (.int p2), .val (.int p3), .val (.int (2 : Int32)), .val (.int (1 : Int32)), .val (.int y0), .val (.int y1), .val (.int y2), .val (.int y3), .val (.ref a111), .val (.int sel), .unset, .unset, .unset] (hb hby at_160) rfl rfl ?_
    refine Own.iload hx sel (hb hby at_162) rfl rfl ?_
    obtain ⟨cz, h_cz⟩ : ∃ z : Int32, z = (if sel = (0 : Int32) then p2.toUInt32.toUInt16.toUInt32.toInt32 else (if sel = (1 : Int32) then (p2 + (1 : Int32)).toUInt32.toUInt16.toUInt32.toInt32 else (if sel = (2 : Int32) then (p2 + (2 : Int32)).toUInt32.toUInt16.toUInt32.toInt32 else p3.toUInt32.toUInt16.toUInt32.toInt32))) := ⟨_, rfl⟩
    refine Own.Goes.join (mkF m 208 #[.val (.int p0), .val (.int p1), .val (.int p2), .val (.int p3), .val (.int (2 : Int32)), .val (.int (1 : Int32)), .val (.int y0), .val (.int y1), .val (.int y2), .val (.int y3), .val (.ref a111), .val (.int sel), .val (.int cz), .unset, .unset] []) (fun kJ121 => ?_) ?_
    · refine Own.ifFn hx (Own.z_ne sel) (hb hby at_164) (pcN := 167) rfl (by decide) (pcT := 174) rfl (fun hc118 => ?_) (fun hc118 => ?_)
      · refine Own.iload hx sel (hb hby at_174) rfl rfl ?_
        refine Own.iconst hx (1 : Int32) (hb hby at_176) rfl (by decide) ?_
        refine Own.icmpFn hx (Own.q_ne sel (1 : Int32)) (hb hby at_177) (pcN := 180) rfl (by decide) (pcT := 189) rfl (fun hc122 => ?_) (fun hc122 => ?_)
        · refine Own.iload hx sel (hb hby at_189) rfl rfl ?_
          refine Own.iconst hx (2 : Int32) (hb hby at_191) rfl (by decide) ?_
          refine Own.icmpFn hx (Own.q_ne sel (2 : Int32)) (hb hby at_192) (pcN := 195) rfl (by decide) (pcT := 204) rfl (fun hc123 => ?_) (fun hc123 => ?_)
          · refine Own.iloadN hx p3 (hb hby at_204) rfl rfl ?_
            refine Own.i2c hx (hb hby at_205) rfl ?_
            refine Own.istore hx p3.toUInt32.toUInt16.toUInt32.toInt32 rfl #[.val (.int p0), .val (.int p1), .val (.int p2), .val (.int p3), .val (.int (2 : Int32)), .val (.int (1 : Int32)), .val (.int y0), .val (.int y1), .val (.int y2), .val (.int y3), .val (.ref a111), .val (.int sel), .val (.int p3.toUInt32.toUInt16.toUInt32.toInt32), .unset, .unset] (hb hby at_206) rfl rfl ?_
            try simp only [if_neg hc118, if_neg hc122, if_neg hc123] at h_cz
            subst h_cz
            exact kJ121
          · refine Own.iloadN hx p2 (hb hby at_195) rfl rfl ?_
            refine Own.iconst hx (2 : Int32) (hb hby at_196) rfl (by decide) ?_
            refine Own.iadd hx (hb hby at_197) rfl ?_
            refine Own.i2c hx (hb hby at_198) rfl ?_
            refine Own.istore hx (p2 + (2 : Int32)).toUInt32.toUInt16.toUInt32.toInt32 rfl #[.val (.int p0), .val (.int p1), .val (.int p2), .val (.int p3), .val (.int (2 : Int32)), .val (.int (1 : Int32)), .val (.int y0), .val (.int y1), .val (.int y2), .val (.int y3), .val (.ref a111), .val (.int sel), .val (.int (p2 + (2 : Int32)).toUInt32.toUInt16.toUInt32.toInt32), .unset, .unset] (hb hby at_199) rfl rfl ?_
            refine Own.goto hx (hb hby at_201) (by decide) (pc' := 208) rfl ?_
            try simp only [if_neg hc118, if_neg hc122, if_pos hc123] at h_cz
            subst h_cz
            exact kJ121
        · refine Own.iloadN hx p2 (hb hby at_180) rfl rfl ?_
          refine Own.iconst hx (1 : Int32) (hb hby at_181) rfl (by decide) ?_
          refine Own.iadd hx (hb hby at_182) rfl ?_
          refine Own.i2c hx (hb hby at_183) rfl ?_
          refine Own.istore hx (p2 + (1 : Int32)).toUInt32.toUInt16.toUInt32.toInt32 rfl #[.val (.int p0), .val (.int p1), .val (.int p2), .val (.int p3), .val (.int (2 : Int32)), .val (.int (1 : Int32)), .val (.int y0), .val (.int y1), .val (.int y2), .val (.int y3), .val (.ref a111), .val (.int sel), .val (.int (p2 + (1 : Int32)).toUInt32.toUInt16.toUInt32.toInt32), .unset, .unset] (hb hby at_184) rfl rfl ?_
          refine Own.goto hx (hb hby at_186) (by decide) (pc' := 208) rfl ?_
          try simp only [if_neg hc118, if_pos hc122] at h_cz
          subst h_cz
          exact kJ121
      · refine Own.iloadN hx p2 (hb hby at_167) rfl rfl ?_
        refine Own.i2c hx (hb hby at_168) rfl ?_
        refine Own.istore hx p2.toUInt32.toUInt16.toUInt32.toInt32 rfl #[.val (.int p0), .val (.int p1), .val (.int p2), .val (.int p3), .val (.int (2 : Int32)), .val (.int (1 : Int32)), .val (.int y0), .val (.int y1), .val (.int y2), .val (.int y3), .val (.ref a111), .val (.int sel), .val (.int p2.toUInt32.toUInt16.toUInt32.toInt32), .unset, .unset] (hb hby at_169) rfl rfl ?_
        refine Own.goto hx (hb hby at_171) (by decide) (pc' := 208) rfl ?_
        try simp only [if_pos hc118] at h_cz
        subst h_cz
        exact kJ121
    refine Own.aload hx (.ref a111) (hb hby at_208) rfl rfl rfl ?_
    refine Own.iload hx (1 : Int32) (hb hby at_210) rfl rfl ?_
    refine Own.iload hx cz (hb hby at_212) rfl rfl ?_
    refine Own.iconst hx (4 : Int32) (hb hby at_214) rfl (by decide) ?_
    refine Own.callS hx hZ hown (hw _ (List.mem_of_getElem? (i := 1) rfl)) (hw _ (List.mem_of_getElem? (i := 2) rfl)) (hw _ (List.mem_of_getElem? (i := 3) rfl)) (hw _ (List.mem_of_getElem? (i := 4) rfl)) (by decide) pd2 (argsL := [(.ref a111), (.int (1 : Int32)), (.int cz), (.int (4 : Int32))]) (rest := []) rfl (W := 0) (Nat.le_of_eq rfl) (rm := ({ frames := 1, cells := 0, slots := 0, locals := 24 } : Room)) (by decide) (by decide) (by decide) (by decide) (k' := 1) (n' := 2) rfl rfl (by rw [hml]; rfl) [(.int (4 : Int32)), (.int cz), (.int (1 : Int32)), (.ref a111)] rfl (hb hby at_215) (pc' := 218) rfl (rm1_2_1_4 l Z a0 hw a111 cz h116 n0 y0 y1 ([]) O117 (own_idem h_y0) (own_idem h_y1) (own_cz h_cz)) ?_
    rintro _ h' ⟨rfl, eh⟩
    rw [eh]; clear eh h'
    show Own.Goes _ _ _ _ _ _ _ _ _ _ _ _ _ _ _ _ _ (mkF m 218 #[.val (.int p0), .val (.int p1), .val (.int p2), .val (.int p3), .val (.int (2 : Int32)), .val (.int (1 : Int32)), .val (.int y0), .val (.int y1), .val (.int y2), .val (.int y3), .val (.ref a111), .val (.int sel), .val (.int cz), .unset, .unset] [(.int (0 : Int32))])
    have hc124 : (0 : Int32) = (0 : Int32) := by decide
    refine Own.ifF hx (Own.z_eq (0 : Int32)) (hb hby at_218) (pcN := 221) rfl (by decide) (pcT := 227) rfl (fun _ => ?_) (fun q => absurd hc124 q)
    refine Own.aload hx (.ref a111) (hb hby at_227) rfl rfl rfl ?_
    refine Own.iload hx (1 : Int32) (hb hby at_229) rfl rfl ?_
    refine Own.iload hx cz (hb hby at_231) rfl rfl ?_
    refine Own.iconst hx (3 : Int32) (hb hby at_233) rfl (by decide) ?_
    refine Own.callS hx hZ hown (hw _ (List.mem_of_getElem? (i := 1) rfl)) (hw _ (List.mem_of_getElem? (i := 2) rfl)) (hw _ (List.mem_of_getElem? (i := 3) rfl)) (hw _ (List.mem_of_getElem? (i := 4) rfl)) (by decide) pd2 (argsL := [(.ref a111), (.int (1 : Int32)), (.int cz), (.int (3 : Int32))]) (rest := []) rfl (W := 0) (Nat.le_of_eq rfl) (rm := ({ frames := 1, cells := 0, slots := 0, locals := 24 } : Room)) (by decide) (by decide) (by decide) (by decide) (k' := 1) (n' := 2) rfl rfl (by rw [hml]; rfl) [(.int (3 : Int32)), (.int cz), (.int (1 : Int32)), (.ref a111)] rfl (hb hby at_234) (pc' := 237) rfl (rm1_2_1_3 l Z a0 hw a111 cz h116 n0 y0 y1 ([]) O117 (own_idem h_y0) (own_idem h_y1) (own_cz h_cz)) ?_
    rintro _ h' ⟨rfl, eh⟩
    rw [eh]; clear eh h'
    show Own.Goes _ _ _ _ _ _ _ _ _ _ _ _ _ _ _ _ _ (mkF m 237 #[.val (.int p0), .val (.int p1), .val (.int p2), .val (.int p3), .val (.int (2 : Int32)), .val (.int (1 : Int32)), .val (.int y0), .val (.int y1), .val (.int y2), .val (.int y3), .val (.ref a111), .val (.int sel), .val (.int cz), .unset, .unset] [(.int (0 : Int32))])
    have hc126 : (0 : Int32) = (0 : Int32) := by decide
    refine Own.ifF hx (Own.z_eq (0 : Int32)) (hb hby at_237) (pcN := 240) rfl (by decide) (pcT := 246) rfl (fun _ => ?_) (fun q => absurd hc126 q)
    refine Own.aload hx (.ref a111) (hb hby at_246) rfl rfl rfl ?_
    refine Own.iload hx (1 : Int32) (hb hby at_248) rfl rfl ?_
    refine Own.iload hx cz (hb hby at_250) rfl rfl ?_
    refine Own.iconst hx (2 : Int32) (hb hby at_252) rfl (by decide) ?_
    refine Own.callS hx hZ hown (hw _ (List.mem_of_getElem? (i := 1) rfl)) (hw _ (List.mem_of_getElem? (i := 2) rfl)) (hw _ (List.mem_of_getElem? (i := 3) rfl)) (hw _ (List.mem_of_getElem? (i := 4) rfl)) (by decide) pd2 (argsL := [(.ref a111), (.int (1 : Int32)), (.int cz), (.int (2 : Int32))]) (rest := []) rfl (W := 0) (Nat.le_of_eq rfl) (rm := ({ frames := 1, cells := 0, slots := 0, locals := 24 } : Room)) (by decide) (by decide) (by decide) (by decide) (k' := 1) (n' := 2) rfl rfl (by rw [hml]; rfl) [(.int (2 : Int32)), (.int cz), (.int (1 : Int32)), (.ref a111)] rfl (hb hby at_253) (pc' := 256) rfl (rm1_2_1_2 l Z a0 hw a111 cz h116 n0 y0 y1 ([]) O117 (own_idem h_y0) (own_idem h_y1) (own_cz h_cz)) ?_
    rintro _ h' ⟨rfl, eh⟩
    rw [eh]; clear eh h'
    show Own.Goes _ _ _ _ _ _ _ _ _ _ _ _ _ _ _ _ _ (mkF m 256 #[.val (.int p0), .val (.int p1), .val (.int p2), .val (.int p3), .val (.int (2 : Int32)), .val (.int (1 : Int32)), .val (.int y0), .val (.int y1), .val (.int y2), .val (.int y3), .val (.ref a111), .val (.int sel), .val (.int cz), .unset, .unset] [(.int (fX2_1_2 y0 y1 cz))])
    obtain ⟨ex, h_ex⟩ : ∃ z : Int32, z = (if (fX2_1_2 y0 y1 cz) = (0 : Int32) then (if (fX2_1_1 y0 y1 cz) = (0 : Int32) then (0 : Int32) else (1 : Int32)) else (2 : Int32)) := ⟨_, rfl⟩
    refine Own.Goes.join (mkF m 287 #[.val (.int p0), .val (.int p1), .val (.int p2), .val (.int p3), .val (.int (2 : Int32)), .val (.int (1 : Int32)), .val (.int y0), .val (.int y1), .val (.int y2), .val (.int y3), .val (.ref a111), .val (.int sel), .val (.int cz), .val (.int ex), .unset] []) (fun kJ130 => ?_) ?_
    · refine Own.ifF hx (Own.z_eq (fX2_1_2 y0 y1 cz)) (hb hby at_256) (pcN := 259) rfl (by decide) (pcT := 265) rfl (fun hc128 => ?_) (fun hc128 => ?_)
      · refine Own.aload hx (.ref a111) (hb hby at_265) rfl rfl rfl ?_
        refine Own.iload hx (1 : Int32) (hb hby at_267) rfl rfl ?_
        refine Own.iload hx cz (hb hby at_269) rfl rfl ?_
        refine Own.iconst hx (1 : Int32) (hb hby at_271) rfl (by decide) ?_
        refine Own.callS hx hZ hown (hw _ (List.mem_of_getElem? (i := 1) rfl)) (hw _ (List.mem_of_getElem? (i := 2) rfl)) (hw _ (List.mem_of_getElem? (i := 3) rfl)) (hw _ (List.mem_of_getElem? (i := 4) rfl)) (by decide) pd2 (argsL := [(.ref a111), (.int (1 : Int32)), (.int cz), (.int (1 : Int32))]) (rest := []) rfl (W := 0) (Nat.le_of_eq rfl) (rm := ({ frames := 1, cells := 0, slots := 0, locals := 24 } : Room)) (by decide) (by decide) (by decide) (by decide) (k' := 1) (n' := 2) rfl rfl (by rw [hml]; rfl) [(.int (1 : Int32)), (.int cz), (.int (1 : Int32)), (.ref a111)] rfl (hb hby at_272) (pc' := 275) rfl (rm1_2_1_1 l Z a0 hw a111 cz h116 n0 y0 y1 ([]) O117 (own_idem h_y0) (own_idem h_y1) (own_cz h_cz)) ?_
        rintro _ h' ⟨rfl, eh⟩
        rw [eh]; clear eh h'
        show Own.Goes _ _ _ _ _ _ _ _ _ _ _ _ _ _ _ _ _ (mkF m 275 #[.val (.int p0), .val (.int p1), .val (.int p2), .val (.int p3), .val (.int (2 : Int32)), .val (.int (1 : Int32)), .val (.int y0), .val (.int y1), .val (.int y2), .val (.int y3), .val (.ref a111), .val (.int sel), .val (.int cz), .unset, .unset] [(.int (fX2_1_1 y0 y1 cz))])
        refine Own.ifF hx (Own.z_eq (fX2_1_1 y0 y1 cz)) (hb hby at_275) (pcN := 278) rfl (by decide) (pcT := 284) rfl (fun hc131 => ?_) (fun hc131 => ?_)
        · refine Own.iconst hx (0 : Int32) (hb hby at_284) rfl (by decide) ?_
          refine Own.istore hx (0 : Int32) rfl #[.val (.int p0), .val (.int p1), .val (.int p2), .val (.int p3), .val (.int (2 : Int32)), .val (.int (1 : Int32)), .val (.int y0), .val (.int y1), .val (.int y2), .val (.int y3), .val (.ref a111), .val (.int sel), .val (.int cz), .val (.int (0 : Int32)), .unset] (hb hby at_285) rfl rfl ?_
          try simp only [if_pos hc128, if_pos hc131] at h_ex
          subst h_ex
          exact kJ130
        · refine Own.iconst hx (1 : Int32) (hb hby at_278) rfl (by decide) ?_
          refine Own.istore hx (1 : Int32) rfl #[.val (.int p0), .val (.int p1), .val (.int p2), .val (.int p3), .val (.int (2 : Int32)), .val (.int (1 : Int32)), .val (.int y0), .val (.int y1), .val (.int y2), .val (.int y3), .val (.ref a111), .val (.int sel), .val (.int cz), .val (.int (1 : Int32)), .unset] (hb hby at_279) rfl rfl ?_
          refine Own.goto hx (hb hby at_281) (by decide) (pc' := 287) rfl ?_
          try simp only [if_pos hc128, if_neg hc131] at h_ex
          subst h_ex
          exact kJ130
      · refine Own.iconst hx (2 : Int32) (hb hby at_259) rfl (by decide) ?_
        refine Own.istore hx (2 : Int32) rfl #[.val (.int p0), .val (.int p1), .val (.int p2), .val (.int p3), .val (.int (2 : Int32)), .val (.int (1 : Int32)), .val (.int y0), .val (.int y1), .val (.int y2), .val (.int y3), .val (.ref a111), .val (.int sel), .val (.int cz), .val (.int (2 : Int32)), .unset] (hb hby at_260) rfl rfl ?_
        refine Own.goto hx (hb hby at_262) (by decide) (pc' := 287) rfl ?_
        try simp only [if_neg hc128] at h_ex
        subst h_ex
        exact kJ130
    refine Own.newobj hx hZ hown O117 (hw _ (List.mem_of_getElem? (i := 8) rfl)) (hw _ (List.mem_of_getElem? (i := 9) rfl)) (hw _ (List.mem_of_getElem? (i := 10) rfl)) [(("com/example/idxof/idxof/KnuthMorrisPrattPattern", "chars", "[C"), .null), (("com/example/idxof/idxof/KnuthMorrisPrattPattern", "borders", "[I"), .null)] (by intro f hf; simp only [List.mem_cons, List.not_mem_nil, or_false] at hf; rcases hf with rfl | rfl; exact ⟨Or.inr (hw _ (List.mem_of_getElem? (i := 18) rfl)), (.array .char), by decide, rfl⟩; exact ⟨Or.inr (hw _ (List.mem_of_getElem? (i := 25) rfl)), (.array .int), by decide, rfl⟩) (by decide) (k' := 2) (n' := 4) rfl rfl (by decide) (by decide) (hb hby at_287) (pc' := 290) rfl ?_
    intro a132 h133 O134
    refine Own.dup hx (hb hby at_290) rfl rfl ?_
    refine Own.aload hx (.ref a111) (hb hby at_291) rfl rfl rfl ?_
    have O135 : Own.Owns n0 h133 ((a111, Own.ArrC Z .char [(.int y0), (.int y1)]) :: (a132, Own.ObjC Z "com/example/idxof/idxof/KnuthMorrisPrattPattern" [(("com/example/idxof/idxof/KnuthMorrisPrattPattern", "chars", "[C"), .null), (("com/example/idxof/idxof/KnuthMorrisPrattPattern", "borders", "[I"), .null)]) :: []) := O134.pick 1 rfl
    have O136 : Own.Owns n0 h133 ((a132, Own.ObjC Z "com/example/idxof/idxof/KnuthMorrisPrattPattern" [(("com/example/idxof/idxof/KnuthMorrisPrattPattern", "chars", "[C"), .null), (("com/example/idxof/idxof/KnuthMorrisPrattPattern", "borders", "[I"), .null)]) :: (a111, Own.ArrC Z .char [(.int y0), (.int y1)]) :: []) := O135.pick 1 rfl
    refine Own.callI hx hZ hown rfl (hw _ (List.mem_of_getElem? (i := 11) rfl)) (hw _ (List.mem_of_getElem? (i := 12) rfl)) (hw _ (List.mem_of_getElem? (i := 10) rfl)) (hw _ (List.mem_of_getElem? (i := 13) rfl)) (by decide) pd3 (argsL := [(.ref a111)]) (rest := [(.ref a132)]) rfl (W := 1) (Nat.le_of_eq rfl) (rm := ({ frames := 1, cells := 1, slots := 4, locals := 16 } : Room)) (by decide) (by decide) (by decide) (by decide) (k' := 3) (n' := 8) rfl rfl (by rw [hml]; rfl) [(.ref a111), (.ref a132), (.ref a132)] rfl (hb hby at_293) (pc' := 296) rfl (rm3 l Z a0 hw a132 a111 h133 n0 [y0, y1] (by exact (show 2 ≤ 4 by decide)) ([]) O136) ?_
    rintro _ h138 ⟨r137, rfl, O139⟩
    show Own.Goes _ _ _ _ _ _ _ _ _ _ _ _ _ _ _ _ _ (mkF m 296 #[.val (.int p0), .val (.int p1), .val (.int p2), .val (.int p3), .val (.int (2 : Int32)), .val (.int (1 : Int32)), .val (.int y0), .val (.int y1), .val (.int y2), .val (.int y3), .val (.ref a111), .val (.int sel), .val (.int cz), .val (.int ex), .unset] [(.ref a132)])
    refine Own.astore hx #[.val (.int p0), .val (.int p1), .val (.int p2), .val (.int p3), .val (.int (2 : Int32)), .val (.int (1 : Int32)), .val (.int y0), .val (.int y1), .val (.int y2), .val (.int y3), .val (.ref a111), .val (.int sel), .val (.int cz), .val (.int ex), .val (.ref a132)] (hb hby at_296) rfl rfl rfl ?_
    refine Own.aload hx (.ref a132) (hb hby at_298) rfl rfl rfl ?_
    refine Own.iload hx (1 : Int32) (hb hby at_300) rfl rfl ?_
    refine Own.iload hx cz (hb hby at_302) rfl rfl ?_
    have O140 : Own.Owns n0 h138 ((r137, Own.ArrC Z .int ((ofL [y0, y1]).map gI)) :: (a132, Own.ObjC Z "com/example/idxof/idxof/KnuthMorrisPrattPattern" [(("com/example/idxof/idxof/KnuthMorrisPrattPattern", "chars", "[C"), (.ref a111)), (("com/example/idxof/idxof/KnuthMorrisPrattPattern", "borders", "[I"), (.ref r137))]) :: (a111, Own.ArrC Z .char [(.int y0), (.int y1)]) :: []) := O139.pick 1 rfl
    have O141 : Own.Owns n0 h138 ((a111, Own.ArrC Z .char [(.int y0), (.int y1)]) :: (r137, Own.ArrC Z .int ((ofL [y0, y1]).map gI)) :: (a132, Own.ObjC Z "com/example/idxof/idxof/KnuthMorrisPrattPattern" [(("com/example/idxof/idxof/KnuthMorrisPrattPattern", "chars", "[C"), (.ref a111)), (("com/example/idxof/idxof/KnuthMorrisPrattPattern", "borders", "[I"), (.ref r137))]) :: []) := O140.pick 2 rfl
    have O142 : Own.Owns n0 h138 ((a132, Own.ObjC Z "com/example/idxof/idxof/KnuthMorrisPrattPattern" [(("com/example/idxof/idxof/KnuthMorrisPrattPattern", "chars", "[C"), (.ref a111)), (("com/example/idxof/idxof/KnuthMorrisPrattPattern", "borders", "[I"), (.ref r137))]) :: (a111, Own.ArrC Z .char [(.int y0), (.int y1)]) :: (r137, Own.ArrC Z .int ((ofL [y0, y1]).map gI)) :: []) := O141.pick 2 rfl
    refine Own.callV hx hZ hown (O142.exa (i := 0) rfl) (hw _ (List.mem_of_getElem? (i := 26) rfl)) (hw _ (List.mem_of_getElem? (i := 27) rfl)) (hw _ (List.mem_of_getElem? (i := 29) rfl)) (hw _ (List.mem_of_getElem? (i := 28) rfl)) (hw _ (List.mem_of_getElem? (i := 10) rfl)) (hw _ (List.mem_of_getElem? (i := 30) rfl)) (by decide) pd4 (argsL := [(.int (1 : Int32)), (.int cz)]) (rest := []) rfl (W := 0) (Nat.le_of_eq rfl) (rm := ({ frames := 0, cells := 0, slots := 0, locals := 0 } : Room)) (by decide) (by decide) (by decide) (by decide) (k' := 3) (n' := 8) rfl rfl (by rw [hml]; rfl) [(.int cz), (.int (1 : Int32)), (.ref a132)] rfl (hb hby at_304) (pc' := 307) rfl (rm6_2_1 l Z a0 hw a132 cz h138 n0 [y0, y1] rfl a111 r137 ([]) O142) ?_
    rintro _ h' ⟨rfl, eh⟩
    rw [eh]; clear eh h'
    show Own.Goes _ _ _ _ _ _ _ _ _ _ _ _ _ _ _ _ _ (mkF m 307 #[.val (.int p0), .val (.int p1), .val (.int p2), .val (.int p3), .val (.int (2 : Int32)), .val (.int (1 : Int32)), .val (.int y0), .val (.int y1), .val (.int y2), .val (.int y3), .val (.ref a111), .val (.int sel), .val (.int cz), .val (.int ex), .val (.ref a132)] [(.int (nextE (eqAt ([y0, y1] ++ [cz])) (ofL [y0, y1]) [y0, y1].length 1).toInt32)])
    refine Own.iload hx ex (hb hby at_307) rfl rfl ?_
    obtain ⟨z, h_z⟩ : ∃ z : Int32, z = (if (nextE (eqAt ([y0, y1] ++ [cz])) (ofL [y0, y1]) [y0, y1].length 1).toInt32 = ex then (1 : Int32) else (0 : Int32)) := ⟨_, rfl⟩
    refine Own.Goes.join (mkF m 317 #[.val (.int p0), .val (.int p1), .val (.int p2), .val (.int p3), .val (.int (2 : Int32)), .val (.int (1 : Int32)), .val (.int y0), .val (.int y1), .val (.int y2), .val (.int y3), .val (.ref a111), .val (.int sel), .val (.int cz), .val (.int ex), .val (.ref a132)] [(.int z)]) (fun kJ144 => ?_) ?_
    · refine Own.icmpFn hx (Own.q_ne (nextE (eqAt ([y0, y1] ++ [cz])) (ofL [y0, y1]) [y0, y1].length 1).toInt32 ex) (hb hby at_309) (pcN := 312) rfl (by decide) (pcT := 316) rfl (fun hc143 => ?_) (fun hc143 => ?_)
      · refine Own.iconst hx (0 : Int32) (hb hby at_316) rfl (by decide) ?_
        try simp only [if_neg hc143] at h_z
        subst h_z
        exact kJ144
      · refine Own.iconst hx (1 : Int32) (hb hby at_312) rfl (by decide) ?_
        refine Own.goto hx (hb hby at_313) (by decide) (pc' := 317) rfl ?_
        try simp only [if_pos hc143] at h_z
        subst h_z
        exact kJ144
    exact Own.retS hx hret (by simp) hlk (hb hby at_317) (by decide) (by decide) (Own.bool1 (own_fin2_1 h_ex h_z))
  · subst q q'
    refine Own.iloadN hx p2 (hb hby at_20) rfl rfl ?_
    refine Own.iloadN hx p1 (hb hby at_21) rfl rfl ?_
    refine Own.iconst hx (1 : Int32) (hb hby at_22) rfl (by decide) ?_
    refine Own.iand hx (hb hby at_23) rfl ?_
    refine Own.iadd hx (hb hby at_24) rfl ?_
    refine Own.i2c hx (hb hby at_25) rfl ?_
    obtain ⟨y0, h_y0⟩ : ∃ z : Int32, z = (p2 + (p1 &&& (1 : Int32))).toUInt32.toUInt16.toUInt32.toInt32 := ⟨_, rfl⟩
    refine Own.istore hx y0 h_y0 #[.val (.int p0), .val (.int p1), .val (.int p2), .val (.int p3), .val (.int (2 : Int32)), .val (.int (2 : Int32)), .val (.int y0), .unset, .unset, .unset, .unset, .unset, .unset, .unset, .unset] (hb hby at_26) rfl rfl ?_
    refine Own.iloadN hx p2 (hb hby at_28) rfl rfl ?_
    refine Own.iloadN hx p1 (hb hby at_29) rfl rfl ?_
    refine Own.iconst hx (1 : Int32) (hb hby at_30) rfl (by decide) ?_
    refine Own.iushr hx (hb hby at_31) rfl ?_
    refine Own.iconst hx (1 : Int32) (hb hby at_32) rfl (by decide) ?_
    refine Own.iand hx (hb hby at_33) rfl ?_
    refine Own.iadd hx (hb hby at_34) rfl ?_
    refine Own.i2c hx (hb hby at_35) rfl ?_
    obtain ⟨y1, h_y1⟩ : ∃ z : Int32, z = (p2 + ((p1.toUInt32 >>> ((1 : Int32) &&& 31).toUInt32).toInt32 &&& (1 : Int32))).toUInt32.toUInt16.toUInt32.toInt32 := ⟨_, rfl⟩
    refine Own.istore hx y1 h_y1 #[.val (.int p0), .val (.int p1), .val (.int p2), .val (.int p3), .val (.int (2 : Int32)), .val (.int (2 : Int32)), .val (.int y0), .val (.int y1), .unset, .unset, .unset, .unset, .unset, .unset, .unset] (hb hby at_36) rfl rfl ?_
    refine Own.iloadN hx p2 (hb hby at_38) rfl rfl ?_
    refine Own.iloadN hx p1 (hb hby at_39) rfl rfl ?_
    refine Own.iconst hx (2 : Int32) (hb hby at_40) rfl (by decide) ?_
    refine Own.iushr hx (hb hby at_41) rfl ?_
    refine Own.iconst hx (1 : Int32) (hb hby at_42) rfl (by decide) ?_
    refine Own.iand hx (hb hby at_43) rfl ?_
    refine Own.iadd hx (hb hby at_44) rfl ?_
    refine Own.i2c hx (hb hby at_45) rfl ?_
    obtain ⟨y2, h_y2⟩ : ∃ z : Int32, z = (p2 + ((p1.toUInt32 >>> ((2 : Int32) &&& 31).toUInt32).toInt32 &&& (1 : Int32))).toUInt32.toUInt16.toUInt32.toInt32 := ⟨_, rfl⟩
    refine Own.istore hx y2 h_y2 #[.val (.int p0), .val (.int p1), .val (.int p2), .val (.int p3), .val (.int (2 : Int32)), .val (.int (2 : Int32)), .val (.int y0), .val (.int y1), .val (.int y2), .unset, .unset, .unset, .unset, .unset, .unset] (hb hby at_46) rfl rfl ?_
    refine Own.iloadN hx p2 (hb hby at_48) rfl rfl ?_
    refine Own.iloadN hx p1 (hb hby at_49) rfl rfl ?_
    refine Own.iconst hx (3 : Int32) (hb hby at_50) rfl (by decide) ?_
    refine Own.iushr hx (hb hby at_51) rfl ?_
    refine Own.iconst hx (1 : Int32) (hb hby at_52) rfl (by decide) ?_
    refine Own.iand hx (hb hby at_53) rfl ?_
    refine Own.iadd hx (hb hby at_54) rfl ?_
    refine Own.i2c hx (hb hby at_55) rfl ?_
    obtain ⟨y3, h_y3⟩ : ∃ z : Int32, z = (p2 + ((p1.toUInt32 >>> ((3 : Int32) &&& 31).toUInt32).toInt32 &&& (1 : Int32))).toUInt32.toUInt16.toUInt32.toInt32 := ⟨_, rfl⟩
    refine Own.istore hx y3 h_y3 #[.val (.int p0), .val (.int p1), .val (.int p2), .val (.int p3), .val (.int (2 : Int32)), .val (.int (2 : Int32)), .val (.int y0), .val (.int y1), .val (.int y2), .val (.int y3), .unset, .unset, .unset, .unset, .unset] (hb hby at_56) rfl rfl ?_
    refine Own.iload hx (2 : Int32) (hb hby at_58) rfl rfl ?_
    refine Own.iconst hx (1 : Int32) (hb hby at_60) rfl (by decide) ?_
    have hc145 : ¬ ((2 : Int32) = (1 : Int32)) := by decide
    refine Own.icmpFn hx (Own.q_ne (2 : Int32) (1 : Int32)) (hb hby at_61) (pcN := 64) rfl (by decide) (pcT := 77) rfl (fun _ => ?_) (fun q => absurd q hc145)
    refine Own.iload hx (2 : Int32) (hb hby at_77) rfl rfl ?_
    refine Own.iconst hx (2 : Int32) (hb hby at_79) rfl (by decide) ?_
    have hc147 : (2 : Int32) = (2 : Int32) := by decide
    refine Own.icmpFn hx (Own.q_ne (2 : Int32) (2 : Int32)) (hb hby at_80) (pcN := 83) rfl (by decide) (pcT := 101) rfl (fun q => absurd hc147 q) (fun _ => ?_)
    refine Own.iconst hx (2 : Int32) (hb hby at_83) rfl (by decide) ?_
    refine Own.newarr hx hZ O0 (aty := .char) (hw _ (List.mem_of_getElem? (i := 0) rfl)) 2 (by decide) [(.int (0 : Int32)), (.int (0 : Int32))] rfl rfl (cap := 2) (by decide) (by decide) (k' := 1) (n' := 2) rfl rfl (by decide) (by decide) (hb hby at_84) (pc' := 86) rfl ?_
    intro a149 h150 O151
    refine Own.dup hx (hb hby at_86) rfl rfl ?_
    refine Own.iconst hx (0 : Int32) (hb hby at_87) rfl (by decide) ?_
    refine Own.iload hx y0 (hb hby at_88) rfl rfl ?_
    refine Own.castore hx hZ O151 0 0 rfl (by decide) (by exact (show 0 < 2 by decide)) ((a149, Own.ArrC Z .char [(.int y0), (.int (0 : Int32))]) :: []) (by rw [own_idem h_y0]; rfl) (hb hby at_90) rfl ?_
    intro h152 O153
    refine Own.dup hx (hb hby at_91) rfl rfl ?_
    refine Own.iconst hx (1 : Int32) (hb hby at_92) rfl (by decide) ?_
    refine Own.iload hx y1 (hb hby at_93) rfl rfl ?_
    refine Own.castore hx hZ O153 0 1 rfl (by decide) (by exact (show 1 < 2 by decide)) ((a149, Own.ArrC Z .char [(.int y0), (.int y1)]) :: []) (by rw [own_idem h_y1]; rfl) (hb hby at_95) rfl ?_
    intro h154 O155
    refine Own.astore hx #[.val (.int p0), .val (.int p1), .val (.int p2), .val (.int p3), .val (.int (2 : Int32)), .val (.int (2 : Int32)), .val (.int y0), .val (.int y1), .val (.int y2), .val (.int y3), .val (.ref a149), .unset, .unset, .unset, .unset] (hb hby at_96) rfl rfl rfl ?_
    refine Own.goto hx (hb hby at_98) (by decide) (pc' := 155) rfl ?_
    refine Own.iloadN hx p1 (hb hby at_155) rfl rfl ?_
    refine Own.iconst hx (4 : Int32) (hb hby at_156) rfl (by decide) ?_
    refine Own.iushr hx (hb hby at_157) rfl ?_
    refine Own.iconst hx (3 : Int32) (hb hby at_158) rfl (by decide) ?_
    refine Own.iand hx (hb hby at_159) rfl ?_
    obtain ⟨sel, h_sel⟩ : ∃ z : Int32, z = ((p1.toUInt32 >>> ((4 : Int32) &&& 31).toUInt32).toInt32 &&& (3 : Int32)) := ⟨_, rfl⟩
    refine Own.istore hx sel h_sel #[.val (.int p0), .val (.int p1), .val (.int p2), .val (.int p3), .val (.int (2 : Int32)), .val (.int (2 : Int32)), .val (.int y0), .val (.int y1), .val (.int y2), .val (.int y3), .val (.ref a149), .val (.int sel), .unset, .unset, .unset] (hb hby at_160) rfl rfl ?_
    refine Own.iload hx sel (hb hby at_162) rfl rfl ?_
    obtain ⟨cz, h_cz⟩ : ∃ z : Int32, z = (if sel = (0 : Int32) then p2.toUInt32.toUInt16.toUInt32.toInt32 else (if sel = (1 : Int32) then (p2 + (1 : Int32)).toUInt32.toUInt16.toUInt32.toInt32 else (if sel = (2 : Int32) then (p2 + (2 : Int32)).toUInt32.toUInt16.toUInt32.toInt32 else p3.toUInt32.toUInt16.toUInt32.toInt32))) := ⟨_, rfl⟩
    refine Own.Goes.join (mkF m 208 #[.val (.int p0), .val (.int p1), .val (.int p2), .val (.int p3), .val (.int (2 : Int32)), .val (.int (2 : Int32)), .val (.int y0), .val (.int y1), .val (.int y2), .val (.int y3), .val (.ref a149), .val (.int sel), .val (.int cz), .unset, .unset] []) (fun kJ159 => ?_) ?_
    · refine Own.ifFn hx (Own.z_ne sel) (hb hby at_164) (pcN := 167) rfl (by decide) (pcT := 174) rfl (fun hc156 => ?_) (fun hc156 => ?_)
      · refine Own.iload hx sel (hb hby at_174) rfl rfl ?_
        refine Own.iconst hx (1 : Int32) (hb hby at_176) rfl (by decide) ?_
        refine Own.icmpFn hx (Own.q_ne sel (1 : Int32)) (hb hby at_177) (pcN := 180) rfl (by decide) (pcT := 189) rfl (fun hc160 => ?_) (fun hc160 => ?_)
        · refine Own.iload hx sel (hb hby at_189) rfl rfl ?_
          refine Own.iconst hx (2 : Int32) (hb hby at_191) rfl (by decide) ?_
          refine Own.icmpFn hx (Own.q_ne sel (2 : Int32)) (hb hby at_192) (pcN := 195) rfl (by decide) (pcT := 204) rfl (fun hc161 => ?_) (fun hc161 => ?_)
          · refine Own.iloadN hx p3 (hb hby at_204) rfl rfl ?_
            refine Own.i2c hx (hb hby at_205) rfl ?_
            refine Own.istore hx p3.toUInt32.toUInt16.toUInt32.toInt32 rfl #[.val (.int p0), .val (.int p1), .val (.int p2), .val (.int p3), .val (.int (2 : Int32)), .val (.int (2 : Int32)), .val (.int y0), .val (.int y1), .val (.int y2), .val (.int y3), .val (.ref a149), .val (.int sel), .val (.int p3.toUInt32.toUInt16.toUInt32.toInt32), .unset, .unset] (hb hby at_206) rfl rfl ?_
            try simp only [if_neg hc156, if_neg hc160, if_neg hc161] at h_cz
            subst h_cz
            exact kJ159
          · refine Own.iloadN hx p2 (hb hby at_195) rfl rfl ?_
            refine Own.iconst hx (2 : Int32) (hb hby at_196) rfl (by decide) ?_
            refine Own.iadd hx (hb hby at_197) rfl ?_
            refine Own.i2c hx (hb hby at_198) rfl ?_
            refine Own.istore hx (p2 + (2 : Int32)).toUInt32.toUInt16.toUInt32.toInt32 rfl #[.val (.int p0), .val (.int p1), .val (.int p2), .val (.int p3), .val (.int (2 : Int32)), .val (.int (2 : Int32)), .val (.int y0), .val (.int y1), .val (.int y2), .val (.int y3), .val (.ref a149), .val (.int sel), .val (.int (p2 + (2 : Int32)).toUInt32.toUInt16.toUInt32.toInt32), .unset, .unset] (hb hby at_199) rfl rfl ?_
            refine Own.goto hx (hb hby at_201) (by decide) (pc' := 208) rfl ?_
            try simp only [if_neg hc156, if_neg hc160, if_pos hc161] at h_cz
            subst h_cz
            exact kJ159
        · refine Own.iloadN hx p2 (hb hby at_180) rfl rfl ?_
          refine Own.iconst hx (1 : Int32) (hb hby at_181) rfl (by decide) ?_
          refine Own.iadd hx (hb hby at_182) rfl ?_
          refine Own.i2c hx (hb hby at_183) rfl ?_
          refine Own.istore hx (p2 + (1 : Int32)).toUInt32.toUInt16.toUInt32.toInt32 rfl #[.val (.int p0), .val (.int p1), .val (.int p2), .val (.int p3), .val (.int (2 : Int32)), .val (.int (2 : Int32)), .val (.int y0), .val (.int y1), .val (.int y2), .val (.int y3), .val (.ref a149), .val (.int sel), .val (.int (p2 + (1 : Int32)).toUInt32.toUInt16.toUInt32.toInt32), .unset, .unset] (hb hby at_184) rfl rfl ?_
          refine Own.goto hx (hb hby at_186) (by decide) (pc' := 208) rfl ?_
          try simp only [if_neg hc156, if_pos hc160] at h_cz
          subst h_cz
          exact kJ159
      · refine Own.iloadN hx p2 (hb hby at_167) rfl rfl ?_
        refine Own.i2c hx (hb hby at_168) rfl ?_
        refine Own.istore hx p2.toUInt32.toUInt16.toUInt32.toInt32 rfl #[.val (.int p0), .val (.int p1), .val (.int p2), .val (.int p3), .val (.int (2 : Int32)), .val (.int (2 : Int32)), .val (.int y0), .val (.int y1), .val (.int y2), .val (.int y3), .val (.ref a149), .val (.int sel), .val (.int p2.toUInt32.toUInt16.toUInt32.toInt32), .unset, .unset] (hb hby at_169) rfl rfl ?_
        refine Own.goto hx (hb hby at_171) (by decide) (pc' := 208) rfl ?_
        try simp only [if_pos hc156] at h_cz
        subst h_cz
        exact kJ159
    refine Own.aload hx (.ref a149) (hb hby at_208) rfl rfl rfl ?_
    refine Own.iload hx (2 : Int32) (hb hby at_210) rfl rfl ?_
    refine Own.iload hx cz (hb hby at_212) rfl rfl ?_
    refine Own.iconst hx (4 : Int32) (hb hby at_214) rfl (by decide) ?_
    refine Own.callS hx hZ hown (hw _ (List.mem_of_getElem? (i := 1) rfl)) (hw _ (List.mem_of_getElem? (i := 2) rfl)) (hw _ (List.mem_of_getElem? (i := 3) rfl)) (hw _ (List.mem_of_getElem? (i := 4) rfl)) (by decide) pd2 (argsL := [(.ref a149), (.int (2 : Int32)), (.int cz), (.int (4 : Int32))]) (rest := []) rfl (W := 0) (Nat.le_of_eq rfl) (rm := ({ frames := 1, cells := 0, slots := 0, locals := 24 } : Room)) (by decide) (by decide) (by decide) (by decide) (k' := 1) (n' := 2) rfl rfl (by rw [hml]; rfl) [(.int (4 : Int32)), (.int cz), (.int (2 : Int32)), (.ref a149)] rfl (hb hby at_215) (pc' := 218) rfl (rm1_2_2_4 l Z a0 hw a149 cz h154 n0 y0 y1 ([]) O155 (own_idem h_y0) (own_idem h_y1) (own_cz h_cz)) ?_
    rintro _ h' ⟨rfl, eh⟩
    rw [eh]; clear eh h'
    show Own.Goes _ _ _ _ _ _ _ _ _ _ _ _ _ _ _ _ _ (mkF m 218 #[.val (.int p0), .val (.int p1), .val (.int p2), .val (.int p3), .val (.int (2 : Int32)), .val (.int (2 : Int32)), .val (.int y0), .val (.int y1), .val (.int y2), .val (.int y3), .val (.ref a149), .val (.int sel), .val (.int cz), .unset, .unset] [(.int (0 : Int32))])
    have hc162 : (0 : Int32) = (0 : Int32) := by decide
    refine Own.ifF hx (Own.z_eq (0 : Int32)) (hb hby at_218) (pcN := 221) rfl (by decide) (pcT := 227) rfl (fun _ => ?_) (fun q => absurd hc162 q)
    refine Own.aload hx (.ref a149) (hb hby at_227) rfl rfl rfl ?_
    refine Own.iload hx (2 : Int32) (hb hby at_229) rfl rfl ?_
    refine Own.iload hx cz (hb hby at_231) rfl rfl ?_
    refine Own.iconst hx (3 : Int32) (hb hby at_233) rfl (by decide) ?_
    refine Own.callS hx hZ hown (hw _ (List.mem_of_getElem? (i := 1) rfl)) (hw _ (List.mem_of_getElem? (i := 2) rfl)) (hw _ (List.mem_of_getElem? (i := 3) rfl)) (hw _ (List.mem_of_getElem? (i := 4) rfl)) (by decide) pd2 (argsL := [(.ref a149), (.int (2 : Int32)), (.int cz), (.int (3 : Int32))]) (rest := []) rfl (W := 0) (Nat.le_of_eq rfl) (rm := ({ frames := 1, cells := 0, slots := 0, locals := 24 } : Room)) (by decide) (by decide) (by decide) (by decide) (k' := 1) (n' := 2) rfl rfl (by rw [hml]; rfl) [(.int (3 : Int32)), (.int cz), (.int (2 : Int32)), (.ref a149)] rfl (hb hby at_234) (pc' := 237) rfl (rm1_2_2_3 l Z a0 hw a149 cz h154 n0 y0 y1 ([]) O155 (own_idem h_y0) (own_idem h_y1) (own_cz h_cz)) ?_
    rintro _ h' ⟨rfl, eh⟩
    rw [eh]; clear eh h'
    show Own.Goes _ _ _ _ _ _ _ _ _ _ _ _ _ _ _ _ _ (mkF m 237 #[.val (.int p0), .val (.int p1), .val (.int p2), .val (.int p3), .val (.int (2 : Int32)), .val (.int (2 : Int32)), .val (.int y0), .val (.int y1), .val (.int y2), .val (.int y3), .val (.ref a149), .val (.int sel), .val (.int cz), .unset, .unset] [(.int (0 : Int32))])
    have hc164 : (0 : Int32) = (0 : Int32) := by decide
    refine Own.ifF hx (Own.z_eq (0 : Int32)) (hb hby at_237) (pcN := 240) rfl (by decide) (pcT := 246) rfl (fun _ => ?_) (fun q => absurd hc164 q)
    refine Own.aload hx (.ref a149) (hb hby at_246) rfl rfl rfl ?_
    refine Own.iload hx (2 : Int32) (hb hby at_248) rfl rfl ?_
    refine Own.iload hx cz (hb hby at_250) rfl rfl ?_
    refine Own.iconst hx (2 : Int32) (hb hby at_252) rfl (by decide) ?_
    refine Own.callS hx hZ hown (hw _ (List.mem_of_getElem? (i := 1) rfl)) (hw _ (List.mem_of_getElem? (i := 2) rfl)) (hw _ (List.mem_of_getElem? (i := 3) rfl)) (hw _ (List.mem_of_getElem? (i := 4) rfl)) (by decide) pd2 (argsL := [(.ref a149), (.int (2 : Int32)), (.int cz), (.int (2 : Int32))]) (rest := []) rfl (W := 0) (Nat.le_of_eq rfl) (rm := ({ frames := 1, cells := 0, slots := 0, locals := 24 } : Room)) (by decide) (by decide) (by decide) (by decide) (k' := 1) (n' := 2) rfl rfl (by rw [hml]; rfl) [(.int (2 : Int32)), (.int cz), (.int (2 : Int32)), (.ref a149)] rfl (hb hby at_253) (pc' := 256) rfl (rm1_2_2_2 l Z a0 hw a149 cz h154 n0 y0 y1 ([]) O155 (own_idem h_y0) (own_idem h_y1) (own_cz h_cz)) ?_
    rintro _ h' ⟨rfl, eh⟩
    rw [eh]; clear eh h'
    show Own.Goes _ _ _ _ _ _ _ _ _ _ _ _ _ _ _ _ _ (mkF m 256 #[.val (.int p0), .val (.int p1), .val (.int p2), .val (.int p3), .val (.int (2 : Int32)), .val (.int (2 : Int32)), .val (.int y0), .val (.int y1), .val (.int y2), .val (.int y3), .val (.ref a149), .val (.int sel), .val (.int cz), .unset, .unset] [(.int (fX2_2_2 y0 y1 cz))])
    obtain ⟨ex, h_ex⟩ : ∃ z : Int32, z = (if (fX2_2_2 y0 y1 cz) = (0 : Int32) then (if (fX2_2_1 y0 y1 cz) = (0 : Int32) then (0 : Int32) else (1 : Int32)) else (2 : Int32)) := ⟨_, rfl⟩
    refine Own.Goes.join (mkF m 287 #[.val (.int p0), .val (.int p1), .val (.int p2), .val (.int p3), .val (.int (2 : Int32)), .val (.int (2 : Int32)), .val (.int y0), .val (.int y1), .val (.int y2), .val (.int y3), .val (.ref a149), .val (.int sel), .val (.int cz), .val (.int ex), .unset] []) (fun kJ168 => ?_) ?_
    · refine Own.ifF hx (Own.z_eq (fX2_2_2 y0 y1 cz)) (hb hby at_256) (pcN := 259) rfl (by decide) (pcT := 265) rfl (fun hc166 => ?_) (fun hc166 => ?_)
      · refine Own.aload hx (.ref a149) (hb hby at_265) rfl rfl rfl ?_
        refine Own.iload hx (2 : Int32) (hb hby at_267) rfl rfl ?_
        refine Own.iload hx cz (hb hby at_269) rfl rfl ?_
        refine Own.iconst hx (1 : Int32) (hb hby at_271) rfl (by decide) ?_
        refine Own.callS hx hZ hown (hw _ (List.mem_of_getElem? (i := 1) rfl)) (hw _ (List.mem_of_getElem? (i := 2) rfl)) (hw _ (List.mem_of_getElem? (i := 3) rfl)) (hw _ (List.mem_of_getElem? (i := 4) rfl)) (by decide) pd2 (argsL := [(.ref a149), (.int (2 : Int32)), (.int cz), (.int (1 : Int32))]) (rest := []) rfl (W := 0) (Nat.le_of_eq rfl) (rm := ({ frames := 1, cells := 0, slots := 0, locals := 24 } : Room)) (by decide) (by decide) (by decide) (by decide) (k' := 1) (n' := 2) rfl rfl (by rw [hml]; rfl) [(.int (1 : Int32)), (.int cz), (.int (2 : Int32)), (.ref a149)] rfl (hb hby at_272) (pc' := 275) rfl (rm1_2_2_1 l Z a0 hw a149 cz h154 n0 y0 y1 ([]) O155 (own_idem h_y0) (own_idem h_y1) (own_cz h_cz)) ?_
        rintro _ h' ⟨rfl, eh⟩
        rw [eh]; clear eh h'
        show Own.Goes _ _ _ _ _ _ _ _ _ _ _ _ _ _ _ _ _ (mkF m 275 #[.val (.int p0), .val (.int p1), .val (.int p2), .val (.int p3), .val (.int (2 : Int32)), .val (.int (2 : Int32)), .val (.int y0), .val (.int y1), .val (.int y2), .val (.int y3), .val (.ref a149), .val (.int sel), .val (.int cz), .unset, .unset] [(.int (fX2_2_1 y0 y1 cz))])
        refine Own.ifF hx (Own.z_eq (fX2_2_1 y0 y1 cz)) (hb hby at_275) (pcN := 278) rfl (by decide) (pcT := 284) rfl (fun hc169 => ?_) (fun hc169 => ?_)
        · refine Own.iconst hx (0 : Int32) (hb hby at_284) rfl (by decide) ?_
          refine Own.istore hx (0 : Int32) rfl #[.val (.int p0), .val (.int p1), .val (.int p2), .val (.int p3), .val (.int (2 : Int32)), .val (.int (2 : Int32)), .val (.int y0), .val (.int y1), .val (.int y2), .val (.int y3), .val (.ref a149), .val (.int sel), .val (.int cz), .val (.int (0 : Int32)), .unset] (hb hby at_285) rfl rfl ?_
          try simp only [if_pos hc166, if_pos hc169] at h_ex
          subst h_ex
          exact kJ168
        · refine Own.iconst hx (1 : Int32) (hb hby at_278) rfl (by decide) ?_
          refine Own.istore hx (1 : Int32) rfl #[.val (.int p0), .val (.int p1), .val (.int p2), .val (.int p3), .val (.int (2 : Int32)), .val (.int (2 : Int32)), .val (.int y0), .val (.int y1), .val (.int y2), .val (.int y3), .val (.ref a149), .val (.int sel), .val (.int cz), .val (.int (1 : Int32)), .unset] (hb hby at_279) rfl rfl ?_
          refine Own.goto hx (hb hby at_281) (by decide) (pc' := 287) rfl ?_
          try simp only [if_pos hc166, if_neg hc169] at h_ex
          subst h_ex
          exact kJ168
      · refine Own.iconst hx (2 : Int32) (hb hby at_259) rfl (by decide) ?_
        refine Own.istore hx (2 : Int32) rfl #[.val (.int p0), .val (.int p1), .val (.int p2), .val (.int p3), .val (.int (2 : Int32)), .val (.int (2 : Int32)), .val (.int y0), .val (.int y1), .val (.int y2), .val (.int y3), .val (.ref a149), .val (.int sel), .val (.int cz), .val (.int (2 : Int32)), .unset] (hb hby at_260) rfl rfl ?_
        refine Own.goto hx (hb hby at_262) (by decide) (pc' := 287) rfl ?_
        try simp only [if_neg hc166] at h_ex
        subst h_ex
        exact kJ168
    refine Own.newobj hx hZ hown O155 (hw _ (List.mem_of_getElem? (i := 8) rfl)) (hw _ (List.mem_of_getElem? (i := 9) rfl)) (hw _ (List.mem_of_getElem? (i := 10) rfl)) [(("com/example/idxof/idxof/KnuthMorrisPrattPattern", "chars", "[C"), .null), (("com/example/idxof/idxof/KnuthMorrisPrattPattern", "borders", "[I"), .null)] (by intro f hf; simp only [List.mem_cons, List.not_mem_nil, or_false] at hf; rcases hf with rfl | rfl; exact ⟨Or.inr (hw _ (List.mem_of_getElem? (i := 18) rfl)), (.array .char), by decide, rfl⟩; exact ⟨Or.inr (hw _ (List.mem_of_getElem? (i := 25) rfl)), (.array .int), by decide, rfl⟩) (by decide) (k' := 2) (n' := 4) rfl rfl (by decide) (by decide) (hb hby at_287) (pc' := 290) rfl ?_
    intro a170 h171 O172
    refine Own.dup hx (hb hby at_290) rfl rfl ?_
    refine Own.aload hx (.ref a149) (hb hby at_291) rfl rfl rfl ?_
    have O173 : Own.Owns n0 h171 ((a149, Own.ArrC Z .char [(.int y0), (.int y1)]) :: (a170, Own.ObjC Z "com/example/idxof/idxof/KnuthMorrisPrattPattern" [(("com/example/idxof/idxof/KnuthMorrisPrattPattern", "chars", "[C"), .null), (("com/example/idxof/idxof/KnuthMorrisPrattPattern", "borders", "[I"), .null)]) :: []) := O172.pick 1 rfl
    have O174 : Own.Owns n0 h171 ((a170, Own.ObjC Z "com/example/idxof/idxof/KnuthMorrisPrattPattern" [(("com/example/idxof/idxof/KnuthMorrisPrattPattern", "chars", "[C"), .null), (("com/example/idxof/idxof/KnuthMorrisPrattPattern", "borders", "[I"), .null)]) :: (a149, Own.ArrC Z .char [(.int y0), (.int y1)]) :: []) := O173.pick 1 rfl
    refine Own.callI hx hZ hown rfl (hw _ (List.mem_of_getElem? (i := 11) rfl)) (hw _ (List.mem_of_getElem? (i := 12) rfl)) (hw _ (List.mem_of_getElem? (i := 10) rfl)) (hw _ (List.mem_of_getElem? (i := 13) rfl)) (by decide) pd3 (argsL := [(.ref a149)]) (rest := [(.ref a170)]) rfl (W := 1) (Nat.le_of_eq rfl) (rm := ({ frames := 1, cells := 1, slots := 4, locals := 16 } : Room)) (by decide) (by decide) (by decide) (by decide) (k' := 3) (n' := 8) rfl rfl (by rw [hml]; rfl) [(.ref a149), (.ref a170), (.ref a170)] rfl (hb hby at_293) (pc' := 296) rfl (rm3 l Z a0 hw a170 a149 h171 n0 [y0, y1] (by exact (show 2 ≤ 4 by decide)) ([]) O174) ?_
    rintro _ h176 ⟨r175, rfl, O177⟩
    show Own.Goes _ _ _ _ _ _ _ _ _ _ _ _ _ _ _ _ _ (mkF m 296 #[.val (.int p0), .val (.int p1), .val (.int p2), .val (.int p3), .val (.int (2 : Int32)), .val (.int (2 : Int32)), .val (.int y0), .val (.int y1), .val (.int y2), .val (.int y3), .val (.ref a149), .val (.int sel), .val (.int cz), .val (.int ex), .unset] [(.ref a170)])
    refine Own.astore hx #[.val (.int p0), .val (.int p1), .val (.int p2), .val (.int p3), .val (.int (2 : Int32)), .val (.int (2 : Int32)), .val (.int y0), .val (.int y1), .val (.int y2), .val (.int y3), .val (.ref a149), .val (.int sel), .val (.int cz), .val (.int ex), .val (.ref a170)] (hb hby at_296) rfl rfl rfl ?_
    refine Own.aload hx (.ref a170) (hb hby at_298) rfl rfl rfl ?_
    refine Own.iload hx (2 : Int32) (hb hby at_300) rfl rfl ?_
    refine Own.iload hx cz (hb hby at_302) rfl rfl ?_
    have O178 : Own.Owns n0 h176 ((r175, Own.ArrC Z .int ((ofL [y0, y1]).map gI)) :: (a170, Own.ObjC Z "com/example/idxof/idxof/KnuthMorrisPrattPattern" [(("com/example/idxof/idxof/KnuthMorrisPrattPattern", "chars", "[C"), (.ref a149)), (("com/example/idxof/idxof/KnuthMorrisPrattPattern", "borders", "[I"), (.ref r175))]) :: (a149, Own.ArrC Z .char [(.int y0), (.int y1)]) :: []) := O177.pick 1 rfl
    have O179 : Own.Owns n0 h176 ((a149, Own.ArrC Z .char [(.int y0), (.int y1)]) :: (r175, Own.ArrC Z .int ((ofL [y0, y1]).map gI)) :: (a170, Own.ObjC Z "com/example/idxof/idxof/KnuthMorrisPrattPattern" [(("com/example/idxof/idxof/KnuthMorrisPrattPattern", "chars", "[C"), (.ref a149)), (("com/example/idxof/idxof/KnuthMorrisPrattPattern", "borders", "[I"), (.ref r175))]) :: []) := O178.pick 2 rfl
    have O180 : Own.Owns n0 h176 ((a170, Own.ObjC Z "com/example/idxof/idxof/KnuthMorrisPrattPattern" [(("com/example/idxof/idxof/KnuthMorrisPrattPattern", "chars", "[C"), (.ref a149)), (("com/example/idxof/idxof/KnuthMorrisPrattPattern", "borders", "[I"), (.ref r175))]) :: (a149, Own.ArrC Z .char [(.int y0), (.int y1)]) :: (r175, Own.ArrC Z .int ((ofL [y0, y1]).map gI)) :: []) := O179.pick 2 rfl
    refine Own.callV hx hZ hown (O180.exa (i := 0) rfl) (hw _ (List.mem_of_getElem? (i := 26) rfl)) (hw _ (List.mem_of_getElem? (i := 27) rfl)) (hw _ (List.mem_of_getElem? (i := 29) rfl)) (hw _ (List.mem_of_getElem? (i := 28) rfl)) (hw _ (List.mem_of_getElem? (i := 10) rfl)) (hw _ (List.mem_of_getElem? (i := 30) rfl)) (by decide) pd4 (argsL := [(.int (2 : Int32)), (.int cz)]) (rest := []) rfl (W := 0) (Nat.le_of_eq rfl) (rm := ({ frames := 0, cells := 0, slots := 0, locals := 0 } : Room)) (by decide) (by decide) (by decide) (by decide) (k' := 3) (n' := 8) rfl rfl (by rw [hml]; rfl) [(.int cz), (.int (2 : Int32)), (.ref a170)] rfl (hb hby at_304) (pc' := 307) rfl (rm6_2_2 l Z a0 hw a170 cz h176 n0 [y0, y1] rfl a149 r175 ([]) O180) ?_
    rintro _ h' ⟨rfl, eh⟩
    rw [eh]; clear eh h'
    show Own.Goes _ _ _ _ _ _ _ _ _ _ _ _ _ _ _ _ _ (mkF m 307 #[.val (.int p0), .val (.int p1), .val (.int p2), .val (.int p3), .val (.int (2 : Int32)), .val (.int (2 : Int32)), .val (.int y0), .val (.int y1), .val (.int y2), .val (.int y3), .val (.ref a149), .val (.int sel), .val (.int cz), .val (.int ex), .val (.ref a170)] [(.int (nextE (eqAt ([y0, y1] ++ [cz])) (ofL [y0, y1]) [y0, y1].length ((ofL [y0, y1]).getD 1 0)).toInt32)])
    refine Own.iload hx ex (hb hby at_307) rfl rfl ?_
    obtain ⟨z, h_z⟩ : ∃ z : Int32, z = (if (nextE (eqAt ([y0, y1] ++ [cz])) (ofL [y0, y1]) [y0, y1].length ((ofL [y0, y1]).getD 1 0)).toInt32 = ex then (1 : Int32) else (0 : Int32)) := ⟨_, rfl⟩
    refine Own.Goes.join (mkF m 317 #[.val (.int p0), .val (.int p1), .val (.int p2), .val (.int p3), .val (.int (2 : Int32)), .val (.int (2 : Int32)), .val (.int y0), .val (.int y1), .val (.int y2), .val (.int y3), .val (.ref a149), .val (.int sel), .val (.int cz), .val (.int ex), .val (.ref a170)] [(.int z)]) (fun kJ182 => ?_) ?_
    · refine Own.icmpFn hx (Own.q_ne (nextE (eqAt ([y0, y1] ++ [cz])) (ofL [y0, y1]) [y0, y1].length ((ofL [y0, y1]).getD 1 0)).toInt32 ex) (hb hby at_309) (pcN := 312) rfl (by decide) (pcT := 316) rfl (fun hc181 => ?_) (fun hc181 => ?_)
      · refine Own.iconst hx (0 : Int32) (hb hby at_316) rfl (by decide) ?_
        try simp only [if_neg hc181] at h_z
        subst h_z
        exact kJ182
      · refine Own.iconst hx (1 : Int32) (hb hby at_312) rfl (by decide) ?_
        refine Own.goto hx (hb hby at_313) (by decide) (pc' := 317) rfl ?_
        try simp only [if_pos hc181] at h_z
        subst h_z
        exact kJ182
    exact Own.retS hx hret (by simp) hlk (hb hby at_317) (by decide) (by decide) (Own.bool1 (own_fin2_2 h_ex h_z))
  · subst q q'
    refine Own.iloadN hx p2 (hb hby at_20) rfl rfl ?_
    refine Own.iloadN hx p1 (hb hby at_21) rfl rfl ?_
    refine Own.iconst hx (1 : Int32) (hb hby at_22) rfl (by decide) ?_
    refine Own.iand hx (hb hby at_23) rfl ?_
    refine Own.iadd hx (hb hby at_24) rfl ?_
    refine Own.i2c hx (hb hby at_25) rfl ?_
    obtain ⟨y0, h_y0⟩ : ∃ z : Int32, z = (p2 + (p1 &&& (1 : Int32))).toUInt32.toUInt16.toUInt32.toInt32 := ⟨_, rfl⟩
    refine Own.istore hx y0 h_y0 #[.val (.int p0), .val (.int p1), .val (.int p2), .val (.int p3), .val (.int (3 : Int32)), .val (.int (0 : Int32)), .val (.int y0), .unset, .unset, .unset, .unset, .unset, .unset, .unset, .unset] (hb hby at_26) rfl rfl ?_
    refine Own.iloadN hx p2 (hb hby at_28) rfl rfl ?_
    refine Own.iloadN hx p1 (hb hby at_29) rfl rfl ?_
    refine Own.iconst hx (1 : Int32) (hb hby at_30) rfl (by decide) ?_
    refine Own.iushr hx (hb hby at_31) rfl ?_
    refine Own.iconst hx (1 : Int32) (hb hby at_32) rfl (by decide) ?_
    refine Own.iand hx (hb hby at_33) rfl ?_
    refine Own.iadd hx (hb hby at_34) rfl ?_
    refine Own.i2c hx (hb hby at_35) rfl ?_
    obtain ⟨y1, h_y1⟩ : ∃ z : Int32, z = (p2 + ((p1.toUInt32 >>> ((1 : Int32) &&& 31).toUInt32).toInt32 &&& (1 : Int32))).toUInt32.toUInt16.toUInt32.toInt32 := ⟨_, rfl⟩
    refine Own.istore hx y1 h_y1 #[.val (.int p0), .val (.int p1), .val (.int p2), .val (.int p3), .val (.int (3 : Int32)), .val (.int (0 : Int32)), .val (.int y0), .val (.int y1), .unset, .unset, .unset, .unset, .unset, .unset, .unset] (hb hby at_36) rfl rfl ?_
    refine Own.iloadN hx p2 (hb hby at_38) rfl rfl ?_
    refine Own.iloadN hx p1 (hb hby at_39) rfl rfl ?_
    refine Own.iconst hx (2 : Int32) (hb hby at_40) rfl (by decide) ?_
    refine Own.iushr hx (hb hby at_41) rfl ?_
    refine Own.iconst hx (1 : Int32) (hb hby at_42) rfl (by decide) ?_
    refine Own.iand hx (hb hby at_43) rfl ?_
    refine Own.iadd hx (hb hby at_44) rfl ?_
    refine Own.i2c hx (hb hby at_45) rfl ?_
    obtain ⟨y2, h_y2⟩ : ∃ z : Int32, z = (p2 + ((p1.toUInt32 >>> ((2 : Int32) &&& 31).toUInt32).toInt32 &&& (1 : Int32))).toUInt32.toUInt16.toUInt32.toInt32 := ⟨_, rfl⟩
    refine Own.istore hx y2 h_y2 #[.val (.int p0), .val (.int p1), .val (.int p2), .val (.int p3), .val (.int (3 : Int32)), .val (.int (0 : Int32)), .val (.int y0), .val (.int y1), .val (.int y2), .unset, .unset, .unset, .unset, .unset, .unset] (hb hby at_46) rfl rfl ?_
    refine Own.iloadN hx p2 (hb hby at_48) rfl rfl ?_
    refine Own.iloadN hx p1 (hb hby at_49) rfl rfl ?_
    refine Own.iconst hx (3 : Int32) (hb hby at_50) rfl (by decide) ?_
    refine Own.iushr hx (hb hby at_51) rfl ?_
    refine Own.iconst hx (1 : Int32) (hb hby at_52) rfl (by decide) ?_
    refine Own.iand hx (hb hby at_53) rfl ?_
    refine Own.iadd hx (hb hby at_54) rfl ?_
    refine Own.i2c hx (hb hby at_55) rfl ?_
    obtain ⟨y3, h_y3⟩ : ∃ z : Int32, z = (p2 + ((p1.toUInt32 >>> ((3 : Int32) &&& 31).toUInt32).toInt32 &&& (1 : Int32))).toUInt32.toUInt16.toUInt32.toInt32 := ⟨_, rfl⟩
    refine Own.istore hx y3 h_y3 #[.val (.int p0), .val (.int p1), .val (.int p2), .val (.int p3), .val (.int (3 : Int32)), .val (.int (0 : Int32)), .val (.int y0), .val (.int y1), .val (.int y2), .val (.int y3), .unset, .unset, .unset, .unset, .unset] (hb hby at_56) rfl rfl ?_
    refine Own.iload hx (3 : Int32) (hb hby at_58) rfl rfl ?_
    refine Own.iconst hx (1 : Int32) (hb hby at_60) rfl (by decide) ?_
    have hc183 : ¬ ((3 : Int32) = (1 : Int32)) := by decide
    refine Own.icmpFn hx (Own.q_ne (3 : Int32) (1 : Int32)) (hb hby at_61) (pcN := 64) rfl (by decide) (pcT := 77) rfl (fun _ => ?_) (fun q => absurd q hc183)
    refine Own.iload hx (3 : Int32) (hb hby at_77) rfl rfl ?_
    refine Own.iconst hx (2 : Int32) (hb hby at_79) rfl (by decide) ?_
    have hc185 : ¬ ((3 : Int32) = (2 : Int32)) := by decide
    refine Own.icmpFn hx (Own.q_ne (3 : Int32) (2 : Int32)) (hb hby at_80) (pcN := 83) rfl (by decide) (pcT := 101) rfl (fun _ => ?_) (fun q => absurd q hc185)
    refine Own.iload hx (3 : Int32) (hb hby at_101) rfl rfl ?_
    refine Own.iconst hx (3 : Int32) (hb hby at_103) rfl (by decide) ?_
    have hc187 : (3 : Int32) = (3 : Int32) := by decide
    refine Own.icmpFn hx (Own.q_ne (3 : Int32) (3 : Int32)) (hb hby at_104) (pcN := 107) rfl (by decide) (pcT := 130) rfl (fun q => absurd hc187 q) (fun _ => ?_)
    refine Own.iconst hx (3 : Int32) (hb hby at_107) rfl (by decide) ?_
    refine Own.newarr hx hZ O0 (aty := .char) (hw _ (List.mem_of_getElem? (i := 0) rfl)) 3 (by decide) [(.int (0 : Int32)), (.int (0 : Int32)), (.int (0 : Int32))] rfl rfl (cap := 3) (by decide) (by decide) (k' := 1) (n' := 3) rfl rfl (by decide) (by decide) (hb hby at_108) (pc' := 110) rfl ?_
    intro a189 h190 O191
    refine Own.dup hx (hb hby at_110) rfl rfl ?_
    refine Own.iconst hx (0 : Int32) (hb hby at_111) rfl (by decide) ?_
    refine Own.iload hx y0 (hb hby at_112) rfl rfl ?_
    refine Own.castore hx hZ O191 0 0 rfl (by decide) (by exact (show 0 < 3 by decide)) ((a189, Own.ArrC Z .char [(.int y0), (.int (0 : Int32)), (.int (0 : Int32))]) :: []) (by rw [own_idem h_y0]; rfl) (hb hby at_114) rfl ?_
    intro h192 O193
    refine Own.dup hx (hb hby at_115) rfl rfl ?_
    refine Own.iconst hx (1 : Int32) (hb hby at_116) rfl (by decide) ?_
    refine Own.iload hx y1 (hb hby at_117) rfl rfl ?_
    refine Own.castore hx hZ O193 0 1 rfl (by decide) (by exact (show 1 < 3 by decide)) ((a189, Own.ArrC Z .char [(.int y0), (.int y1), (.int (0 : Int32))]) :: []) (by rw [own_idem h_y1]; rfl) (hb hby at_119) rfl ?_
    intro h194 O195
    refine Own.dup hx (hb hby at_120) rfl rfl ?_
    refine Own.iconst hx (2 : Int32) (hb hby at_121) rfl (by decide) ?_
    refine Own.iload hx y2 (hb hby at_122) rfl rfl ?_
    refine Own.castore hx hZ O195 0 2 rfl (by decide) (by exact (show 2 < 3 by decide)) ((a189, Own.ArrC Z .char [(.int y0), (.int y1), (.int y2)]) :: []) (by rw [own_idem h_y2]; rfl) (hb hby at_124) rfl ?_
    intro h196 O197
    refine Own.astore hx #[.val (.int p0), .val (.int p1), .val (.int p2), .val (.int p3), .val (.int (3 : Int32)), .val (.int (0 : Int32)), .val (.int y0), .val (.int y1), .val (.int y2), .val (.int y3), .val (.ref a189), .unset, .unset, .unset, .unset] (hb hby at_125) rfl rfl rfl ?_
    refine Own.goto hx (hb hby at_127) (by decide) (pc' := 155) rfl ?_
    refine Own.iloadN hx p1 (hb hby at_155) rfl rfl ?_
    refine Own.iconst hx (4 : Int32) (hb hby at_156) rfl (by decide) ?_
    refine Own.iushr hx (hb hby at_157) rfl ?_
    refine Own.iconst hx (3 : Int32) (hb hby at_158) rfl (by decide) ?_
    refine Own.iand hx (hb hby at_159) rfl ?_
    obtain ⟨sel, h_sel⟩ : ∃ z : Int32, z = ((p1.toUInt32 >>> ((4 : Int32) &&& 31).toUInt32).toInt32 &&& (3 : Int32)) := ⟨_, rfl⟩
    refine Own.istore hx sel h_sel #[.val (.int p0), .val (.int p1), .val (.int p2), .val (.int p3), .val (.int (3 : Int32)), .val (.int (0 : Int32)), .val (.int y0), .val (.int y1), .val (.int y2), .val (.int y3), .val (.ref a189), .val (.int sel), .unset, .unset, .unset] (hb hby at_160) rfl rfl ?_
    refine Own.iload hx sel (hb hby at_162) rfl rfl ?_
    obtain ⟨cz, h_cz⟩ : ∃ z : Int32, z = (if sel = (0 : Int32) then p2.toUInt32.toUInt16.toUInt32.toInt32 else (if sel = (1 : Int32) then (p2 + (1 : Int32)).toUInt32.toUInt16.toUInt32.toInt32 else (if sel = (2 : Int32) then (p2 + (2 : Int32)).toUInt32.toUInt16.toUInt32.toInt32 else p3.toUInt32.toUInt16.toUInt32.toInt32))) := ⟨_, rfl⟩
    refine Own.Goes.join (mkF m 208 #[.val (.int p0), .val (.int p1), .val (.int p2), .val (.int p3), .val (.int (3 : Int32)), .val (.int (0 : Int32)), .val (.int y0), .val (.int y1), .val (.int y2), .val (.int y3), .val (.ref a189), .val (.int sel), .val (.int cz), .unset, .unset] []) (fun kJ201 => ?_) ?_
    · refine Own.ifFn hx (Own.z_ne sel) (hb hby at_164) (pcN := 167) rfl (by decide) (pcT := 174) rfl (fun hc198 => ?_) (fun hc198 => ?_)
      · refine Own.iload hx sel (hb hby at_174) rfl rfl ?_
        refine Own.iconst hx (1 : Int32) (hb hby at_176) rfl (by decide) ?_
        refine Own.icmpFn hx (Own.q_ne sel (1 : Int32)) (hb hby at_177) (pcN := 180) rfl (by decide) (pcT := 189) rfl (fun hc202 => ?_) (fun hc202 => ?_)
        · refine Own.iload hx sel (hb hby at_189) rfl rfl ?_
          refine Own.iconst hx (2 : Int32) (hb hby at_191) rfl (by decide) ?_
          refine Own.icmpFn hx (Own.q_ne sel (2 : Int32)) (hb hby at_192) (pcN := 195) rfl (by decide) (pcT := 204) rfl (fun hc203 => ?_) (fun hc203 => ?_)
          · refine Own.iloadN hx p3 (hb hby at_204) rfl rfl ?_
            refine Own.i2c hx (hb hby at_205) rfl ?_
            refine Own.istore hx p3.toUInt32.toUInt16.toUInt32.toInt32 rfl #[.val (.int p0), .val (.int p1), .val (.int p2), .val (.int p3), .val (.int (3 : Int32)), .val (.int (0 : Int32)), .val (.int y0), .val (.int y1), .val (.int y2), .val (.int y3), .val (.ref a189), .val (.int sel), .val (.int p3.toUInt32.toUInt16.toUInt32.toInt32), .unset, .unset] (hb hby at_206) rfl rfl ?_
            try simp only [if_neg hc198, if_neg hc202, if_neg hc203] at h_cz
            subst h_cz
            exact kJ201
          · refine Own.iloadN hx p2 (hb hby at_195) rfl rfl ?_
            refine Own.iconst hx (2 : Int32) (hb hby at_196) rfl (by decide) ?_
            refine Own.iadd hx (hb hby at_197) rfl ?_
            refine Own.i2c hx (hb hby at_198) rfl ?_
            refine Own.istore hx (p2 + (2 : Int32)).toUInt32.toUInt16.toUInt32.toInt32 rfl #[.val (.int p0), .val (.int p1), .val (.int p2), .val (.int p3), .val (.int (3 : Int32)), .val (.int (0 : Int32)), .val (.int y0), .val (.int y1), .val (.int y2), .val (.int y3), .val (.ref a189), .val (.int sel), .val (.int (p2 + (2 : Int32)).toUInt32.toUInt16.toUInt32.toInt32), .unset, .unset] (hb hby at_199) rfl rfl ?_
            refine Own.goto hx (hb hby at_201) (by decide) (pc' := 208) rfl ?_
            try simp only [if_neg hc198, if_neg hc202, if_pos hc203] at h_cz
            subst h_cz
            exact kJ201
        · refine Own.iloadN hx p2 (hb hby at_180) rfl rfl ?_
          refine Own.iconst hx (1 : Int32) (hb hby at_181) rfl (by decide) ?_
          refine Own.iadd hx (hb hby at_182) rfl ?_
          refine Own.i2c hx (hb hby at_183) rfl ?_
          refine Own.istore hx (p2 + (1 : Int32)).toUInt32.toUInt16.toUInt32.toInt32 rfl #[.val (.int p0), .val (.int p1), .val (.int p2), .val (.int p3), .val (.int (3 : Int32)), .val (.int (0 : Int32)), .val (.int y0), .val (.int y1), .val (.int y2), .val (.int y3), .val (.ref a189), .val (.int sel), .val (.int (p2 + (1 : Int32)).toUInt32.toUInt16.toUInt32.toInt32), .unset, .unset] (hb hby at_184) rfl rfl ?_
          refine Own.goto hx (hb hby at_186) (by decide) (pc' := 208) rfl ?_
          try simp only [if_neg hc198, if_pos hc202] at h_cz
          subst h_cz
          exact kJ201
      · refine Own.iloadN hx p2 (hb hby at_167) rfl rfl ?_
        refine Own.i2c hx (hb hby at_168) rfl ?_
        refine Own.istore hx p2.toUInt32.toUInt16.toUInt32.toInt32 rfl #[.val (.int p0), .val (.int p1), .val (.int p2), .val (.int p3), .val (.int (3 : Int32)), .val (.int (0 : Int32)), .val (.int y0), .val (.int y1), .val (.int y2), .val (.int y3), .val (.ref a189), .val (.int sel), .val (.int p2.toUInt32.toUInt16.toUInt32.toInt32), .unset, .unset] (hb hby at_169) rfl rfl ?_
        refine Own.goto hx (hb hby at_171) (by decide) (pc' := 208) rfl ?_
        try simp only [if_pos hc198] at h_cz
        subst h_cz
        exact kJ201
    refine Own.aload hx (.ref a189) (hb hby at_208) rfl rfl rfl ?_
    refine Own.iload hx (0 : Int32) (hb hby at_210) rfl rfl ?_
    refine Own.iload hx cz (hb hby at_212) rfl rfl ?_
    refine Own.iconst hx (4 : Int32) (hb hby at_214) rfl (by decide) ?_
    refine Own.callS hx hZ hown (hw _ (List.mem_of_getElem? (i := 1) rfl)) (hw _ (List.mem_of_getElem? (i := 2) rfl)) (hw _ (List.mem_of_getElem? (i := 3) rfl)) (hw _ (List.mem_of_getElem? (i := 4) rfl)) (by decide) pd2 (argsL := [(.ref a189), (.int (0 : Int32)), (.int cz), (.int (4 : Int32))]) (rest := []) rfl (W := 0) (Nat.le_of_eq rfl) (rm := ({ frames := 1, cells := 0, slots := 0, locals := 24 } : Room)) (by decide) (by decide) (by decide) (by decide) (k' := 1) (n' := 3) rfl rfl (by rw [hml]; rfl) [(.int (4 : Int32)), (.int cz), (.int (0 : Int32)), (.ref a189)] rfl (hb hby at_215) (pc' := 218) rfl (rm1_3_0_4 l Z a0 hw a189 cz h196 n0 y0 y1 y2 ([]) O197 (own_idem h_y0) (own_idem h_y1) (own_idem h_y2) (own_cz h_cz)) ?_
    rintro _ h' ⟨rfl, eh⟩
    rw [eh]; clear eh h'
    show Own.Goes _ _ _ _ _ _ _ _ _ _ _ _ _ _ _ _ _ (mkF m 218 #[.val (.int p0), .val (.int p1), .val (.int p2), .val (.int p3), .val (.int (3 : Int32)), .val (.int (0 : Int32)), .val (.int y0), .val (.int y1), .val (.int y2), .val (.int y3), .val (.ref a189), .val (.int sel), .val (.int cz), .unset, .unset] [(.int (0 : Int32))])
    have hc204 : (0 : Int32) = (0 : Int32) := by decide
    refine Own.ifF hx (Own.z_eq (0 : Int32)) (hb hby at_218) (pcN := 221) rfl (by decide) (pcT := 227) rfl (fun _ => ?_) (fun q => absurd hc204 q)
    refine Own.aload hx (.ref a189) (hb hby at_227) rfl rfl rfl ?_
    refine Own.iload hx (0 : Int32) (hb hby at_229) rfl rfl ?_
    refine Own.iload hx cz (hb hby at_231) rfl rfl ?_
    refine Own.iconst hx (3 : Int32) (hb hby at_233) rfl (by decide) ?_
    refine Own.callS hx hZ hown (hw _ (List.mem_of_getElem? (i := 1) rfl)) (hw _ (List.mem_of_getElem? (i := 2) rfl)) (hw _ (List.mem_of_getElem? (i := 3) rfl)) (hw _ (List.mem_of_getElem? (i := 4) rfl)) (by decide) pd2 (argsL := [(.ref a189), (.int (0 : Int32)), (.int cz), (.int (3 : Int32))]) (rest := []) rfl (W := 0) (Nat.le_of_eq rfl) (rm := ({ frames := 1, cells := 0, slots := 0, locals := 24 } : Room)) (by decide) (by decide) (by decide) (by decide) (k' := 1) (n' := 3) rfl rfl (by rw [hml]; rfl) [(.int (3 : Int32)), (.int cz), (.int (0 : Int32)), (.ref a189)] rfl (hb hby at_234) (pc' := 237) rfl (rm1_3_0_3 l Z a0 hw a189 cz h196 n0 y0 y1 y2 ([]) O197 (own_idem h_y0) (own_idem h_y1) (own_idem h_y2) (own_cz h_cz)) ?_
    rintro _ h' ⟨rfl, eh⟩
    rw [eh]; clear eh h'
    show Own.Goes _ _ _ _ _ _ _ _ _ _ _ _ _ _ _ _ _ (mkF m 237 #[.val (.int p0), .val (.int p1), .val (.int p2), .val (.int p3), .val (.int (3 : Int32)), .val (.int (0 : Int32)), .val (.int y0), .val (.int y1), .val (.int y2), .val (.int y3), .val (.ref a189), .val (.int sel), .val (.int cz), .unset, .unset] [(.int (0 : Int32))])
    have hc206 : (0 : Int32) = (0 : Int32) := by decide
    refine Own.ifF hx (Own.z_eq (0 : Int32)) (hb hby at_237) (pcN := 240) rfl (by decide) (pcT := 246) rfl (fun _ => ?_) (fun q => absurd hc206 q)
    refine Own.aload hx (.ref a189) (hb hby at_246) rfl rfl rfl ?_
    refine Own.iload hx (0 : Int32) (hb hby at_248) rfl rfl ?_
    refine Own.iload hx cz (hb hby at_250) rfl rfl ?_
    refine Own.iconst hx (2 : Int32) (hb hby at_252) rfl (by decide) ?_
    refine Own.callS hx hZ hown (hw _ (List.mem_of_getElem? (i := 1) rfl)) (hw _ (List.mem_of_getElem? (i := 2) rfl)) (hw _ (List.mem_of_getElem? (i := 3) rfl)) (hw _ (List.mem_of_getElem? (i := 4) rfl)) (by decide) pd2 (argsL := [(.ref a189), (.int (0 : Int32)), (.int cz), (.int (2 : Int32))]) (rest := []) rfl (W := 0) (Nat.le_of_eq rfl) (rm := ({ frames := 1, cells := 0, slots := 0, locals := 24 } : Room)) (by decide) (by decide) (by decide) (by decide) (k' := 1) (n' := 3) rfl rfl (by rw [hml]; rfl) [(.int (2 : Int32)), (.int cz), (.int (0 : Int32)), (.ref a189)] rfl (hb hby at_253) (pc' := 256) rfl (rm1_3_0_2 l Z a0 hw a189 cz h196 n0 y0 y1 y2 ([]) O197 (own_idem h_y0) (own_idem h_y1) (own_idem h_y2) (own_cz h_cz)) ?_
    rintro _ h' ⟨rfl, eh⟩
    rw [eh]; clear eh h'
    show Own.Goes _ _ _ _ _ _ _ _ _ _ _ _ _ _ _ _ _ (mkF m 256 #[.val (.int p0), .val (.int p1), .val (.int p2), .val (.int p3), .val (.int (3 : Int32)), .val (.int (0 : Int32)), .val (.int y0), .val (.int y1), .val (.int y2), .val (.int y3), .val (.ref a189), .val (.int sel), .val (.int cz), .unset, .unset] [(.int (0 : Int32))])
    have hc208 : (0 : Int32) = (0 : Int32) := by decide
    refine Own.ifF hx (Own.z_eq (0 : Int32)) (hb hby at_256) (pcN := 259) rfl (by decide) (pcT := 265) rfl (fun _ => ?_) (fun q => absurd hc208 q)
    refine Own.aload hx (.ref a189) (hb hby at_265) rfl rfl rfl ?_
    refine Own.iload hx (0 : Int32) (hb hby at_267) rfl rfl ?_
    refine Own.iload hx cz (hb hby at_269) rfl rfl ?_
    refine Own.iconst hx (1 : Int32) (hb hby at_271) rfl (by decide) ?_
    refine Own.callS hx hZ hown (hw _ (List.mem_of_getElem? (i := 1) rfl)) (hw _ (List.mem_of_getElem? (i := 2) rfl)) (hw _ (List.mem_of_getElem? (i := 3) rfl)) (hw _ (List.mem_of_getElem? (i := 4) rfl)) (by decide) pd2 (argsL := [(.ref a189), (.int (0 : Int32)), (.int cz), (.int (1 : Int32))]) (rest := []) rfl (W := 0) (Nat.le_of_eq rfl) (rm := ({ frames := 1, cells := 0, slots := 0, locals := 24 } : Room)) (by decide) (by decide) (by decide) (by decide) (k' := 1) (n' := 3) rfl rfl (by rw [hml]; rfl) [(.int (1 : Int32)), (.int cz), (.int (0 : Int32)), (.ref a189)] rfl (hb hby at_272) (pc' := 275) rfl (rm1_3_0_1 l Z a0 hw a189 cz h196 n0 y0 y1 y2 ([]) O197 (own_idem h_y0) (own_idem h_y1) (own_idem h_y2) (own_cz h_cz)) ?_
    rintro _ h' ⟨rfl, eh⟩
    rw [eh]; clear eh h'
    show Own.Goes _ _ _ _ _ _ _ _ _ _ _ _ _ _ _ _ _ (mkF m 275 #[.val (.int p0), .val (.int p1), .val (.int p2), .val (.int p3), .val (.int (3 : Int32)), .val (.int (0 : Int32)), .val (.int y0), .val (.int y1), .val (.int y2), .val (.int y3), .val (.ref a189), .val (.int sel), .val (.int cz), .unset, .unset] [(.int (fX3_0_1 y0 y1 y2 cz))])
    obtain ⟨ex, h_ex⟩ : ∃ z : Int32, z = (if (fX3_0_1 y0 y1 y2 cz) = (0 : Int32) then (0 : Int32) else (1 : Int32)) := ⟨_, rfl⟩
    refine Own.Goes.join (mkF m 287 #[.val (.int p0), .val (.int p1), .val (.int p2), .val (.int p3), .val (.int (3 : Int32)), .val (.int (0 : Int32)), .val (.int y0), .val (.int y1), .val (.int y2), .val (.int y3), .val (.ref a189), .val (.int sel), .val (.int cz), .val (.int ex), .unset] []) (fun kJ211 => ?_) ?_
    · refine Own.ifF hx (Own.z_eq (fX3_0_1 y0 y1 y2 cz)) (hb hby at_275) (pcN := 278) rfl (by decide) (pcT := 284) rfl (fun hc210 => ?_) (fun hc210 => ?_)
      · refine Own.iconst hx (0 : Int32) (hb hby at_284) rfl (by decide) ?_
        refine Own.istore hx (0 : Int32) rfl #[.val (.int p0), .val (.int p1), .val (.int p2), .val (.int p3), .val (.int (3 : Int32)), .val (.int (0 : Int32)), .val (.int y0), .val (.int y1), .val (.int y2), .val (.int y3), .val (.ref a189), .val (.int sel), .val (.int cz), .val (.int (0 : Int32)), .unset] (hb hby at_285) rfl rfl ?_
        try simp only [if_pos hc210] at h_ex
        subst h_ex
        exact kJ211
      · refine Own.iconst hx (1 : Int32) (hb hby at_278) rfl (by decide) ?_
        refine Own.istore hx (1 : Int32) rfl #[.val (.int p0), .val (.int p1), .val (.int p2), .val (.int p3), .val (.int (3 : Int32)), .val (.int (0 : Int32)), .val (.int y0), .val (.int y1), .val (.int y2), .val (.int y3), .val (.ref a189), .val (.int sel), .val (.int cz), .val (.int (1 : Int32)), .unset] (hb hby at_279) rfl rfl ?_
        refine Own.goto hx (hb hby at_281) (by decide) (pc' := 287) rfl ?_
        try simp only [if_neg hc210] at h_ex
        subst h_ex
        exact kJ211
    refine Own.newobj hx hZ hown O197 (hw _ (List.mem_of_getElem? (i := 8) rfl)) (hw _ (List.mem_of_getElem? (i := 9) rfl)) (hw _ (List.mem_of_getElem? (i := 10) rfl)) [(("com/example/idxof/idxof/KnuthMorrisPrattPattern", "chars", "[C"), .null), (("com/example/idxof/idxof/KnuthMorrisPrattPattern", "borders", "[I"), .null)] (by intro f hf; simp only [List.mem_cons, List.not_mem_nil, or_false] at hf; rcases hf with rfl | rfl; exact ⟨Or.inr (hw _ (List.mem_of_getElem? (i := 18) rfl)), (.array .char), by decide, rfl⟩; exact ⟨Or.inr (hw _ (List.mem_of_getElem? (i := 25) rfl)), (.array .int), by decide, rfl⟩) (by decide) (k' := 2) (n' := 5) rfl rfl (by decide) (by decide) (hb hby at_287) (pc' := 290) rfl ?_
    intro a212 h213 O214
    refine Own.dup hx (hb hby at_290) rfl rfl ?_
    refine Own.aload hx (.ref a189) (hb hby at_291) rfl rfl rfl ?_
    have O215 : Own.Owns n0 h213 ((a189, Own.ArrC Z .char [(.int y0), (.int y1), (.int y2)]) :: (a212, Own.ObjC Z "com/example/idxof/idxof/KnuthMorrisPrattPattern" [(("com/example/idxof/idxof/KnuthMorrisPrattPattern", "chars", "[C"), .null), (("com/example/idxof/idxof/KnuthMorrisPrattPattern", "borders", "[I"), .null)]) :: []) := O214.pick 1 rfl
    have O216 : Own.Owns n0 h213 ((a212, Own.ObjC Z "com/example/idxof/idxof/KnuthMorrisPrattPattern" [(("com/example/idxof/idxof/KnuthMorrisPrattPattern", "chars", "[C"), .null), (("com/example/idxof/idxof/KnuthMorrisPrattPattern", "borders", "[I"), .null)]) :: (a189, Own.ArrC Z .char [(.int y0), (.int y1), (.int y2)]) :: []) := O215.pick 1 rfl
    refine Own.callI hx hZ hown rfl (hw _ (List.mem_of_getElem? (i := 11) rfl)) (hw _ (List.mem_of_getElem? (i := 12) rfl)) (hw _ (List.mem_of_getElem? (i := 10) rfl)) (hw _ (List.mem_of_getElem? (i := 13) rfl)) (by decide) pd3 (argsL := [(.ref a189)]) (rest := [(.ref a212)]) rfl (W := 1) (Nat.le_of_eq rfl) (rm := ({ frames := 1, cells := 1, slots := 4, locals := 16 } : Room)) (by decide) (by decide) (by decide) (by decide) (k' := 3) (n' := 9) rfl rfl (by rw [hml]; rfl) [(.ref a189), (.ref a212), (.ref a212)] rfl (hb hby at_293) (pc' := 296) rfl (rm3 l Z a0 hw a212 a189 h213 n0 [y0, y1, y2] (by exact (show 3 ≤ 4 by decide)) ([]) O216) ?_
    rintro _ h218 ⟨r217, rfl, O219⟩
    show Own.Goes _ _ _ _ _ _ _ _ _ _ _ _ _ _ _ _ _ (mkF m 296 #[.val (.int p0), .val (.int p1), .val (.int p2), .val (.int p3), .val (.int (3 : Int32)), .val (.int (0 : Int32)), .val (.int y0), .val (.int y1), .val (.int y2), .val (.int y3), .val (.ref a189), .val (.int sel), .val (.int cz), .val (.int ex), .unset] [(.ref a212)])
    refine Own.astore hx #[.val (.int p0), .val (.int p1), .val (.int p2), .val (.int p3), .val (.int (3 : Int32)), .val (.int (0 : Int32)), .val (.int y0), .val (.int y1), .val (.int y2), .val (.int y3), .val (.ref a189), .val (.int sel), .val (.int cz), .val (.int ex), .val (.ref a212)] (hb hby at_296) rfl rfl rfl ?_
    refine Own.aload hx (.ref a212) (hb hby at_298) rfl rfl rfl ?_
    refine Own.iload hx (0 : Int32) (hb hby at_300) rfl rfl ?_
    refine Own.iload hx cz (hb hby at_302) rfl rfl ?_
    have O220 : Own.Owns n0 h218 ((r217, Own.ArrC Z .int ((ofL [y0, y1, y2]).map gI)) :: (a212, Own.ObjC Z "com/example/idxof/idxof/KnuthMorrisPrattPattern" [(("com/example/idxof/idxof/KnuthMorrisPrattPattern", "chars", "[C"), (.ref a189)), (("com/example/idxof/idxof/KnuthMorrisPrattPattern", "borders", "[I"), (.ref r217))]) :: (a189, Own.ArrC Z .char [(.int y0), (.int y1), (.int y2)]) :: []) := O219.pick 1 rfl
    have O221 : Own.Owns n0 h218 ((a189, Own.ArrC Z .char [(.int y0), (.int y1), (.int y2)]) :: (r217, Own.ArrC Z .int ((ofL [y0, y1, y2]).map gI)) :: (a212, Own.ObjC Z "com/example/idxof/idxof/KnuthMorrisPrattPattern" [(("com/example/idxof/idxof/KnuthMorrisPrattPattern", "chars", "[C"), (.ref a189)), (("com/example/idxof/idxof/KnuthMorrisPrattPattern", "borders", "[I"), (.ref r217))]) :: []) := O220.pick 2 rfl
    have O222 : Own.Owns n0 h218 ((a212, Own.ObjC Z "com/example/idxof/idxof/KnuthMorrisPrattPattern" [(("com/example/idxof/idxof/KnuthMorrisPrattPattern", "chars", "[C"), (.ref a189)), (("com/example/idxof/idxof/KnuthMorrisPrattPattern", "borders", "[I"), (.ref r217))]) :: (a189, Own.ArrC Z .char [(.int y0), (.int y1), (.int y2)]) :: (r217, Own.ArrC Z .int ((ofL [y0, y1, y2]).map gI)) :: []) := O221.pick 2 rfl
    refine Own.callV hx hZ hown (O222.exa (i := 0) rfl) (hw _ (List.mem_of_getElem? (i := 26) rfl)) (hw _ (List.mem_of_getElem? (i := 27) rfl)) (hw _ (List.mem_of_getElem? (i := 29) rfl)) (hw _ (List.mem_of_getElem? (i := 28) rfl)) (hw _ (List.mem_of_getElem? (i := 10) rfl)) (hw _ (List.mem_of_getElem? (i := 30) rfl)) (by decide) pd4 (argsL := [(.int (0 : Int32)), (.int cz)]) (rest := []) rfl (W := 0) (Nat.le_of_eq rfl) (rm := ({ frames := 0, cells := 0, slots := 0, locals := 0 } : Room)) (by decide) (by decide) (by decide) (by decide) (k' := 3) (n' := 9) rfl rfl (by rw [hml]; rfl) [(.int cz), (.int (0 : Int32)), (.ref a212)] rfl (hb hby at_304) (pc' := 307) rfl (rm6_3_0 l Z a0 hw a212 cz h218 n0 [y0, y1, y2] rfl a189 r217 ([]) O222) ?_
    rintro _ h' ⟨rfl, eh⟩
    rw [eh]; clear eh h'
    show Own.Goes _ _ _ _ _ _ _ _ _ _ _ _ _ _ _ _ _ (mkF m 307 #[.val (.int p0), .val (.int p1), .val (.int p2), .val (.int p3), .val (.int (3 : Int32)), .val (.int (0 : Int32)), .val (.int y0), .val (.int y1), .val (.int y2), .val (.int y3), .val (.ref a189), .val (.int sel), .val (.int cz), .val (.int ex), .val (.ref a212)] [(.int (nextE (eqAt ([y0, y1, y2] ++ [cz])) (ofL [y0, y1, y2]) [y0, y1, y2].length 0).toInt32)])
    refine Own.iload hx ex (hb hby at_307) rfl rfl ?_
    obtain ⟨z, h_z⟩ : ∃ z : Int32, z = (if (nextE (eqAt ([y0, y1, y2] ++ [cz])) (ofL [y0, y1, y2]) [y0, y1, y2].length 0).toInt32 = ex then (1 : Int32) else (0 : Int32)) := ⟨_, rfl⟩
    refine Own.Goes.join (mkF m 317 #[.val (.int p0), .val (.int p1), .val (.int p2), .val (.int p3), .val (.int (3 : Int32)), .val (.int (0 : Int32)), .val (.int y0), .val (.int y1), .val (.int y2), .val (.int y3), .val (.ref a189), .val (.int sel), .val (.int cz), .val (.int ex), .val (.ref a212)] [(.int z)]) (fun kJ224 => ?_) ?_
    · refine Own.icmpFn hx (Own.q_ne (nextE (eqAt ([y0, y1, y2] ++ [cz])) (ofL [y0, y1, y2]) [y0, y1, y2].length 0).toInt32 ex) (hb hby at_309) (pcN := 312) rfl (by decide) (pcT := 316) rfl (fun hc223 => ?_) (fun hc223 => ?_)
      · refine Own.iconst hx (0 : Int32) (hb hby at_316) rfl (by decide) ?_
        try simp only [if_neg hc223] at h_z
        subst h_z
        exact kJ224
      · refine Own.iconst hx (1 : Int32) (hb hby at_312) rfl (by decide) ?_
        refine Own.goto hx (hb hby at_313) (by decide) (pc' := 317) rfl ?_
        try simp only [if_pos hc223] at h_z
        subst h_z
        exact kJ224
    exact Own.retS hx hret (by simp) hlk (hb hby at_317) (by decide) (by decide) (Own.bool1 (own_fin3_0 h_ex h_z))
  · subst q q'
    refine Own.iloadN hx p2 (hb hby at_20) rfl rfl ?_
    refine Own.iloadN hx p1 (hb hby at_21) rfl rfl ?_
    refine Own.iconst hx (1 : Int32) (hb hby at_22) rfl (by decide) ?_
    refine Own.iand hx (hb hby at_23) rfl ?_
    refine Own.iadd hx (hb hby at_24) rfl ?_
    refine Own.i2c hx (hb hby at_25) rfl ?_
    obtain ⟨y0, h_y0⟩ : ∃ z : Int32, z = (p2 + (p1 &&& (1 : Int32))).toUInt32.toUInt16.toUInt32.toInt32 := ⟨_, rfl⟩
    refine Own.istore hx y0 h_y0 #[.val (.int p0), .val (.int p1), .val (.int p2), .val (.int p3), .val (.int (3 : Int32)), .val (.int (1 : Int32)), .val (.int y0), .unset, .unset, .unset, .unset, .unset, .unset, .unset, .unset] (hb hby at_26) rfl rfl ?_
    refine Own.iloadN hx p2 (hb hby at_28) rfl rfl ?_
    refine Own.iloadN hx p1 (hb hby at_29) rfl rfl ?_
    refine Own.iconst hx (1 : Int32) (hb hby at_30) rfl (by decide) ?_
    refine Own.iushr hx (hb hby at_31) rfl ?_
    refine Own.iconst hx (1 : Int32) (hb hby at_32) rfl (by decide) ?_
    refine Own.iand hx (hb hby at_33) rfl ?_
    refine Own.iadd hx (hb hby at_34) rfl ?_
    refine Own.i2c hx (hb hby at_35) rfl ?_
    obtain ⟨y1, h_y1⟩ : ∃ z : Int32, z = (p2 + ((p1.toUInt32 >>> ((1 : Int32) &&& 31).toUInt32).toInt32 &&& (1 : Int32))).toUInt32.toUInt16.toUInt32.toInt32 := ⟨_, rfl⟩
    refine Own.istore hx y1 h_y1 #[.val (.int p0), .val (.int p1), .val (.int p2), .val (.int p3), .val (.int (3 : Int32)), .val (.int (1 : Int32)), .val (.int y0), .val (.int y1), .unset, .unset, .unset, .unset, .unset, .unset, .unset] (hb hby at_36) rfl rfl ?_
    refine Own.iloadN hx p2 (hb hby at_38) rfl rfl ?_
    refine Own.iloadN hx p1 (hb hby at_39) rfl rfl ?_
    refine Own.iconst hx (2 : Int32) (hb hby at_40) rfl (by decide) ?_
    refine Own.iushr hx (hb hby at_41) rfl ?_
    refine Own.iconst hx (1 : Int32) (hb hby at_42) rfl (by decide) ?_
    refine Own.iand hx (hb hby at_43) rfl ?_
    refine Own.iadd hx (hb hby at_44) rfl ?_
    refine Own.i2c hx (hb hby at_45) rfl ?_
    obtain ⟨y2, h_y2⟩ : ∃ z : Int32, z = (p2 + ((p1.toUInt32 >>> ((2 : Int32) &&& 31).toUInt32).toInt32 &&& (1 : Int32))).toUInt32.toUInt16.toUInt32.toInt32 := ⟨_, rfl⟩
    refine Own.istore hx y2 h_y2 #[.val (.int p0), .val (.int p1), .val (.int p2), .val (.int p3), .val (.int (3 : Int32)), .val (.int (1 : Int32)), .val (.int y0), .val (.int y1), .val (.int y2), .unset, .unset, .unset, .unset, .unset, .unset] (hb hby at_46) rfl rfl ?_
    refine Own.iloadN hx p2 (hb hby at_48) rfl rfl ?_
    refine Own.iloadN hx p1 (hb hby at_49) rfl rfl ?_
    refine Own.iconst hx (3 : Int32) (hb hby at_50) rfl (by decide) ?_
    refine Own.iushr hx (hb hby at_51) rfl ?_
    refine Own.iconst hx (1 : Int32) (hb hby at_52) rfl (by decide) ?_
    refine Own.iand hx (hb hby at_53) rfl ?_
    refine Own.iadd hx (hb hby at_54) rfl ?_
    refine Own.i2c hx (hb hby at_55) rfl ?_
    obtain ⟨y3, h_y3⟩ : ∃ z : Int32, z = (p2 + ((p1.toUInt32 >>> ((3 : Int32) &&& 31).toUInt32).toInt32 &&& (1 : Int32))).toUInt32.toUInt16.toUInt32.toInt32 := ⟨_, rfl⟩
    refine Own.istore hx y3 h_y3 #[.val (.int p0), .val (.int p1), .val (.int p2), .val (.int p3), .val (.int (3 : Int32)), .val (.int (1 : Int32)), .val (.int y0), .val (.int y1), .val (.int y2), .val (.int y3), .unset, .unset, .unset, .unset, .unset] (hb hby at_56) rfl rfl ?_
    refine Own.iload hx (3 : Int32) (hb hby at_58) rfl rfl ?_
    refine Own.iconst hx (1 : Int32) (hb hby at_60) rfl (by decide) ?_
    have hc225 : ¬ ((3 : Int32) = (1 : Int32)) := by decide
    refine Own.icmpFn hx (Own.q_ne (3 : Int32) (1 : Int32)) (hb hby at_61) (pcN := 64) rfl (by decide) (pcT := 77) rfl (fun _ => ?_) (fun q => absurd q hc225)
    refine Own.iload hx (3 : Int32) (hb hby at_77) rfl rfl ?_
    refine Own.iconst hx (2 : Int32) (hb hby at_79) rfl (by decide) ?_
    have hc227 : ¬ ((3 : Int32) = (2 : Int32)) := by decide
    refine Own.icmpFn hx (Own.q_ne (3 : Int32) (2 : Int32)) (hb hby at_80) (pcN := 83) rfl (by decide) (pcT := 101) rfl (fun _ => ?_) (fun q => absurd q hc227)
    refine Own.iload hx (3 : Int32) (hb hby at_101) rfl rfl ?_
    refine Own.iconst hx (3 : Int32) (hb hby at_103) rfl (by decide) ?_
    have hc229 : (3 : Int32) = (3 : Int32) := by decide
    refine Own.icmpFn hx (Own.q_ne (3 : Int32) (3 : Int32)) (hb hby at_104) (pcN := 107) rfl (by decide) (pcT := 130) rfl (fun q => absurd hc229 q) (fun _ => ?_)
    refine Own.iconst hx (3 : Int32) (hb hby at_107) rfl (by decide) ?_
    refine Own.newarr hx hZ O0 (aty := .char) (hw _ (List.mem_of_getElem? (i := 0) rfl)) 3 (by decide) [(.int (0 : Int32)), (.int (0 : Int32)), (.int (0 : Int32))] rfl rfl (cap := 3) (by decide) (by decide) (k' := 1) (n' := 3) rfl rfl (by decide) (by decide) (hb hby at_108) (pc' := 110) rfl ?_
    intro a231 h232 O233
    refine Own.dup hx (hb hby at_110) rfl rfl ?_
    refine Own.iconst hx (0 : Int32) (hb hby at_111) rfl (by decide) ?_
    refine Own.iload hx y0 (hb hby at_112) rfl rfl ?_
    refine Own.castore hx hZ O233 0 0 rfl (by decide) (by exact (show 0 < 3 by decide)) ((a231, Own.ArrC Z .char [(.int y0), (.int (0 : Int32)), (.int (0 : Int32))]) :: []) (by rw [own_idem h_y0]; rfl) (hb hby at_114) rfl ?_
    intro h234 O235
    refine Own.dup hx (hb hby at_115) rfl rfl ?_
    refine Own.iconst hx (1 : Int32) (hb hby at_116) rfl (by decide) ?_
    refine Own.iload hx y1 (hb hby at_117) rfl rfl ?_
    refine Own.castore hx hZ O235 0 1 rfl (by decide) (by exact (show 1 < 3 by decide)) ((a231, Own.ArrC Z .char [(.int y0), (.int y1), (.int (0 : Int32))]) :: []) (by rw [own_idem h_y1]; rfl) (hb hby at_119) rfl ?_
    intro h236 O237
    refine Own.dup hx (hb hby at_120) rfl rfl ?_
    refine Own.iconst hx (2 : Int32) (hb hby at_121) rfl (by decide) ?_
    refine Own.iload hx y2 (hb hby at_122) rfl rfl ?_
    refine Own.castore hx hZ O237 0 2 rfl (by decide) (by exact (show 2 < 3 by decide)) ((a231, Own.ArrC Z .char [(.int y0), (.int y1), (.int y2)]) :: []) (by rw [own_idem h_y2]; rfl) (hb hby at_124) rfl ?_
    intro h238 O239
    refine Own.astore hx #[.val (.int p0), .val (.int p1), .val (.int p2), .val (.int p3), .val (.int (3 : Int32)), .val (.int (1 : Int32)), .val (.int y0), .val (.int y1), .val (.int y2), .val (.int y3), .val (.ref a231), .unset, .unset, .unset, .unset] (hb hby at_125) rfl rfl rfl ?_
    refine Own.goto hx (hb hby at_127) (by decide) (pc' := 155) rfl ?_
    refine Own.iloadN hx p1 (hb hby at_155) rfl rfl ?_
    refine Own.iconst hx (4 : Int32) (hb hby at_156) rfl (by decide) ?_
    refine Own.iushr hx (hb hby at_157) rfl ?_
    refine Own.iconst hx (3 : Int32) (hb hby at_158) rfl (by decide) ?_
    refine Own.iand hx (hb hby at_159) rfl ?_
    obtain ⟨sel, h_sel⟩ : ∃ z : Int32, z = ((p1.toUInt32 >>> ((4 : Int32) &&& 31).toUInt32).toInt32 &&& (3 : Int32)) := ⟨_, rfl⟩
    refine Own.istore hx sel h_sel #[.val (.int p0), .val (.int p1), .val (.int p2), .val (.int p3), .val (.int (3 : Int32)), .val (.int (1 : Int32)), .val (.int y0), .val (.int y1), .val (.int y2), .val (.int y3), .val (.ref a231), .val (.int sel), .unset, .unset, .unset] (hb hby at_160) rfl rfl ?_
    refine Own.iload hx sel (hb hby at_162) rfl rfl ?_
    obtain ⟨cz, h_cz⟩ : ∃ z : Int32, z = (if sel = (0 : Int32) then p2.toUInt32.toUInt16.toUInt32.toInt32 else (if sel = (1 : Int32) then (p2 + (1 : Int32)).toUInt32.toUInt16.toUInt32.toInt32 else (if sel = (2 : Int32) then (p2 + (2 : Int32)).toUInt32.toUInt16.toUInt32.toInt32 else p3.toUInt32.toUInt16.toUInt32.toInt32))) := ⟨_, rfl⟩
    refine Own.Goes.join (mkF m 208 #[.val (.int p0), .val (.int p1), .val (.int p2), .val (.int p3), .val (.int (3 : Int32)), .val (.int (1 : Int32)), .val (.int y0), .val (.int y1), .val (.int y2), .val (.int y3), .val (.ref a231), .val (.int sel), .val (.int cz), .unset, .unset] []) (fun kJ243 => ?_) ?_
    · refine Own.ifFn hx (Own.z_ne sel) (hb hby at_164) (pcN := 167) rfl (by decide) (pcT := 174) rfl (fun hc240 => ?_) (fun hc240 => ?_)
      · refine Own.iload hx sel (hb hby at_174) rfl rfl ?_
        refine Own.iconst hx (1 : Int32) (hb hby at_176) rfl (by decide) ?_
        refine Own.icmpFn hx (Own.q_ne sel (1 : Int32)) (hb hby at_177) (pcN := 180) rfl (by decide) (pcT := 189) rfl (fun hc244 => ?_) (fun hc244 => ?_)
        · refine Own.iload hx sel (hb hby at_189) rfl rfl ?_
          refine Own.iconst hx (2 : Int32) (hb hby at_191) rfl (by decide) ?_
          refine Own.icmpFn hx (Own.q_ne sel (2 : Int32)) (hb hby at_192) (pcN := 195) rfl (by decide) (pcT := 204) rfl (fun hc245 => ?_) (fun hc245 => ?_)
          · refine Own.iloadN hx p3 (hb hby at_204) rfl rfl ?_
            refine Own.i2c hx (hb hby at_205) rfl ?_
            refine Own.istore hx p3.toUInt32.toUInt16.toUInt32.toInt32 rfl #[.val (.int p0), .val (.int p1), .val (.int p2), .val (.int p3), .val (.int (3 : Int32)), .val (.int (1 : Int32)), .val (.int y0), .val (.int y1), .val (.int y2), .val (.int y3), .val (.ref a231), .val (.int sel), .val (.int p3.toUInt32.toUInt16.toUInt32.toInt32), .unset, .unset] (hb hby at_206) rfl rfl ?_
            try simp only [if_neg hc240, if_neg hc244, if_neg hc245] at h_cz
            subst h_cz
            exact kJ243
          · refine Own.iloadN hx p2 (hb hby at_195) rfl rfl ?_
            refine Own.iconst hx (2 : Int32) (hb hby at_196) rfl (by decide) ?_
            refine Own.iadd hx (hb hby at_197) rfl ?_
            refine Own.i2c hx (hb hby at_198) rfl ?_
            refine Own.istore hx (p2 + (2 : Int32)).toUInt32.toUInt16.toUInt32.toInt32 rfl #[.val (.int p0), .val (.int p1), .val (.int p2), .val (.int p3), .val (.int (3 : Int32)), .val (.int (1 : Int32)), .val (.int y0), .val (.int y1), .val (.int y2), .val (.int y3), .val (.ref a231), .val (.int sel), .val (.int (p2 + (2 : Int32)).toUInt32.toUInt16.toUInt32.toInt32), .unset, .unset] (hb hby at_199) rfl rfl ?_
            refine Own.goto hx (hb hby at_201) (by decide) (pc' := 208) rfl ?_
            try simp only [if_neg hc240, if_neg hc244, if_pos hc245] at h_cz
            subst h_cz
            exact kJ243
        · refine Own.iloadN hx p2 (hb hby at_180) rfl rfl ?_
          refine Own.iconst hx (1 : Int32) (hb hby at_181) rfl (by decide) ?_
          refine Own.iadd hx (hb hby at_182) rfl ?_
          refine Own.i2c hx (hb hby at_183) rfl ?_
          refine Own.istore hx (p2 + (1 : Int32)).toUInt32.toUInt16.toUInt32.toInt32 rfl #[.val (.int p0), .val (.int p1), .val (.int p2), .val (.int p3), .val (.int (3 : Int32)), .val (.int (1 : Int32)), .val (.int y0), .val (.int y1), .val (.int y2), .val (.int y3), .val (.ref a231), .val (.int sel), .val (.int (p2 + (1 : Int32)).toUInt32.toUInt16.toUInt32.toInt32), .unset, .unset] (hb hby at_184) rfl rfl ?_
          refine Own.goto hx (hb hby at_186) (by decide) (pc' := 208) rfl ?_
          try simp only [if_neg hc240, if_pos hc244] at h_cz
          subst h_cz
          exact kJ243
      · refine Own.iloadN hx p2 (hb hby at_167) rfl rfl ?_
        refine Own.i2c hx (hb hby at_168) rfl ?_
        refine Own.istore hx p2.toUInt32.toUInt16.toUInt32.toInt32 rfl #[.val (.int p0), .val (.int p1), .val (.int p2), .val (.int p3), .val (.int (3 : Int32)), .val (.int (1 : Int32)), .val (.int y0), .val (.int y1), .val (.int y2), .val (.int y3), .val (.ref a231), .val (.int sel), .val (.int p2.toUInt32.toUInt16.toUInt32.toInt32), .unset, .unset] (hb hby at_169) rfl rfl ?_
        refine Own.goto hx (hb hby at_171) (by decide) (pc' := 208) rfl ?_
        try simp only [if_pos hc240] at h_cz
        subst h_cz
        exact kJ243
    refine Own.aload hx (.ref a231) (hb hby at_208) rfl rfl rfl ?_
    refine Own.iload hx (1 : Int32) (hb hby at_210) rfl rfl ?_
    refine Own.iload hx cz (hb hby at_212) rfl rfl ?_
    refine Own.iconst hx (4 : Int32) (hb hby at_214) rfl (by decide) ?_
    refine Own.callS hx hZ hown (hw _ (List.mem_of_getElem? (i := 1) rfl)) (hw _ (List.mem_of_getElem? (i := 2) rfl)) (hw _ (List.mem_of_getElem? (i := 3) rfl)) (hw _ (List.mem_of_getElem? (i := 4) rfl)) (by decide) pd2 (argsL := [(.ref a231), (.int (1 : Int32)), (.int cz), (.int (4 : Int32))]) (rest := []) rfl (W := 0) (Nat.le_of_eq rfl) (rm := ({ frames := 1, cells := 0, slots := 0, locals := 24 } : Room)) (by decide) (by decide) (by decide) (by decide) (k' := 1) (n' := 3) rfl rfl (by rw [hml]; rfl) [(.int (4 : Int32)), (.int cz), (.int (1 : Int32)), (.ref a231)] rfl (hb hby at_215) (pc' := 218) rfl (rm1_3_1_4 l Z a0 hw a231 cz h238 n0 y0 y1 y2 ([]) O239 (own_idem h_y0) (own_idem h_y1) (own_idem h_y2) (own_cz h_cz)) ?_
    rintro _ h' ⟨rfl, eh⟩
    rw [eh]; clear eh h'
    show Own.Goes _ _ _ _ _ _ _ _ _ _ _ _ _ _ _ _ _ (mkF m 218 #[.val (.int p0), .val (.int p1), .val (.int p2), .val (.int p3), .val (.int (3 : Int32)), .val (.int (1 : Int32)), .val (.int y0), .val (.int y1), .val (.int y2), .val (.int y3), .val (.ref a231), .val (.int sel), .val (.int cz), .unset, .unset] [(.int (0 : Int32))])
    have hc246 : (0 : Int32) = (0 : Int32) := by decide
    refine Own.ifF hx (Own.z_eq (0 : Int32)) (hb hby at_218) (pcN := 221) rfl (by decide) (pcT := 227) rfl (fun _ => ?_) (fun q => absurd hc246 q)
    refine Own.aload hx (.ref a231) (hb hby at_227) rfl rfl rfl ?_
    refine Own.iload hx (1 : Int32) (hb hby at_229) rfl rfl ?_
    refine Own.iload hx cz (hb hby at_231) rfl rfl ?_
    refine Own.iconst hx (3 : Int32) (hb hby at_233) rfl (by decide) ?_
    refine Own.callS hx hZ hown (hw _ (List.mem_of_getElem? (i := 1) rfl)) (hw _ (List.mem_of_getElem? (i := 2) rfl)) (hw _ (List.mem_of_getElem? (i := 3) rfl)) (hw _ (List.mem_of_getElem? (i := 4) rfl)) (by decide) pd2 (argsL := [(.ref a231), (.int (1 : Int32)), (.int cz), (.int (3 : Int32))]) (rest := []) rfl (W := 0) (Nat.le_of_eq rfl) (rm := ({ frames := 1, cells := 0, slots := 0, locals := 24 } : Room)) (by decide) (by decide) (by decide) (by decide) (k' := 1) (n' := 3) rfl rfl (by rw [hml]; rfl) [(.int (3 : Int32)), (.int cz), (.int (1 : Int32)), (.ref a231)] rfl (hb hby at_234) (pc' := 237) rfl (rm1_3_1_3 l Z a0 hw a231 cz h238 n0 y0 y1 y2 ([]) O239 (own_idem h_y0) (own_idem h_y1) (own_idem h_y2) (own_cz h_cz)) ?_
    rintro _ h' ⟨rfl, eh⟩
    rw [eh]; clear eh h'
    show Own.Goes _ _ _ _ _ _ _ _ _ _ _ _ _ _ _ _ _ (mkF m 237 #[.val (.int p0), .val (.int p1), .val (.int p2), .val (.int p3), .val (.int (3 : Int32)), .val (.int (1 : Int32)), .val (.int y0), .val (.int y1), .val (.int y2), .val (.int y3), .val (.ref a231), .val (.int sel), .val (.int cz), .unset, .unset] [(.int (0 : Int32))])
    have hc248 : (0 : Int32) = (0 : Int32) := by decide
    refine Own.ifF hx (Own.z_eq (0 : Int32)) (hb hby at_237) (pcN := 240) rfl (by decide) (pcT := 246) rfl (fun _ => ?_) (fun q => absurd hc248 q)
    refine Own.aload hx (.ref a231) (hb hby at_246) rfl rfl rfl ?_
    refine Own.iload hx (1 : Int32) (hb hby at_248) rfl rfl ?_
    refine Own.iload hx cz (hb hby at_250) rfl rfl ?_
    refine Own.iconst hx (2 : Int32) (hb hby at_252) rfl (by decide) ?_
    refine Own.callS hx hZ hown (hw _ (List.mem_of_getElem? (i := 1) rfl)) (hw _ (List.mem_of_getElem? (i := 2) rfl)) (hw _ (List.mem_of_getElem? (i := 3) rfl)) (hw _ (List.mem_of_getElem? (i := 4) rfl)) (by decide) pd2 (argsL := [(.ref a231), (.int (1 : Int32)), (.int cz), (.int (2 : Int32))]) (rest := []) rfl (W := 0) (Nat.le_of_eq rfl) (rm := ({ frames := 1, cells := 0, slots := 0, locals := 24 } : Room)) (by decide) (by decide) (by decide) (by decide) (k' := 1) (n' := 3) rfl rfl (by rw [hml]; rfl) [(.int (2 : Int32)), (.int cz), (.int (1 : Int32)), (.ref a231)] rfl (hb hby at_253) (pc' := 256) rfl (rm1_3_1_2 l Z a0 hw a231 cz h238 n0 y0 y1 y2 ([]) O239 (own_idem h_y0) (own_idem h_y1) (own_idem h_y2) (own_cz h_cz)) ?_
    rintro _ h' ⟨rfl, eh⟩
    rw [eh]; clear eh h'
    show Own.Goes _ _ _ _ _ _ _ _ _ _ _ _ _ _ _ _ _ (mkF m 256 #[.val (.int p0), .val (.int p1), .val (.int p2), .val (.int p3), .val (.int (3 : Int32)), .val (.int (1 : Int32)), .val (.int y0), .val (.int y1), .val (.int y2), .val (.int y3), .val (.ref a231), .val (.int sel), .val (.int cz), .unset, .unset] [(.int (fX3_1_2 y0 y1 y2 cz))])
    obtain ⟨ex, h_ex⟩ : ∃ z : Int32, z = (if (fX3_1_2 y0 y1 y2 cz) = (0 : Int32) then (if (fX3_1_1 y0 y1 y2 cz) = (0 : Int32) then (0 : Int32) else (1 : Int32)) else (2 : Int32)) := ⟨_, rfl⟩
    refine Own.Goes.join (mkF m 287 #[.val (.int p0), .val (.int p1), .val (.int p2), .val (.int p3), .val (.int (3 : Int32)), .val (.int (1 : Int32)), .val (.int y0), .val (.int y1), .val (.int y2), .val (.int y3), .val (.ref a231), .val (.int sel), .val (.int cz), .val (.int ex), .unset] []) (fun kJ252 => ?_) ?_
    · refine Own.ifF hx (Own.z_eq (fX3_1_2 y0 y1 y2 cz)) (hb hby at_256) (pcN := 259) rfl (by decide) (pcT := 265) rfl (fun hc250 => ?_) (fun hc250 => ?_)
      · refine Own.aload hx (.ref a231) (hb hby at_265) rfl rfl rfl ?_
        refine Own.iload hx (1 : Int32) (hb hby at_267) rfl rfl ?_
        refine Own.iload hx cz (hb hby at_269) rfl rfl ?_
        refine Own.iconst hx (1 : Int32) (hb hby at_271) rfl (by decide) ?_
        refine Own.callS hx hZ hown (hw _ (List.mem_of_getElem? (i := 1) rfl)) (hw _ (List.mem_of_getElem? (i := 2) rfl)) (hw _ (List.mem_of_getElem? (i := 3) rfl)) (hw _ (List.mem_of_getElem? (i := 4) rfl)) (by decide) pd2 (argsL := [(.ref a231), (.int (1 : Int32)), (.int cz), (.int (1 : Int32))]) (rest := []) rfl (W := 0) (Nat.le_of_eq rfl) (rm := ({ frames := 1, cells := 0, slots := 0, locals := 24 } : Room)) (by decide) (by decide) (by decide) (by decide) (k' := 1) (n' := 3) rfl rfl (by rw [hml]; rfl) [(.int (1 : Int32)), (.int cz), (.int (1 : Int32)), (.ref a231)] rfl (hb hby at_272) (pc' := 275) rfl (rm1_3_1_1 l Z a0 hw a231 cz h238 n0 y0 y1 y2 ([]) O239 (own_idem h_y0) (own_idem h_y1) (own_idem h_y2) (own_cz h_cz)) ?_
        rintro _ h' ⟨rfl, eh⟩
        rw [eh]; clear eh h'
        show Own.Goes _ _ _ _ _ _ _ _ _ _ _ _ _ _ _ _ _ (mkF m 275 #[.val (.int p0), .val (.int p1), .val (.int p2), .val (.int p3), .val (.int (3 : Int32)), .val (.int (1 : Int32)), .val (.int y0), .val (.int y1), .val (.int y2), .val (.int y3), .val (.ref a231), .val (.int sel), .val (.int cz), .unset, .unset] [(.int (fX3_1_1 y0 y1 y2 cz))])
        refine Own.ifF hx (Own.z_eq (fX3_1_1 y0 y1 y2 cz)) (hb hby at_275) (pcN := 278) rfl (by decide) (pcT := 284) rfl (fun hc253 => ?_) (fun hc253 => ?_)
        · refine Own.iconst hx (0 : Int32) (hb hby at_284) rfl (by decide) ?_
          refine Own.istore hx (0 : Int32) rfl #[.val (.int p0), .val (.int p1), .val (.int p2), .val (.int p3), .val (.int (3 : Int32)), .val (.int (1 : Int32)), .val (.int y0), .val (.int y1), .val (.int y2), .val (.int y3), .val (.ref a231), .val (.int sel), .val (.int cz), .val (.int (0 : Int32)), .unset] (hb hby at_285) rfl rfl ?_
          try simp only [if_pos hc250, if_pos hc253] at h_ex
          subst h_ex
          exact kJ252
        · refine Own.iconst hx (1 : Int32) (hb hby at_278) rfl (by decide) ?_
          refine Own.istore hx (1 : Int32) rfl #[.val (.int p0), .val (.int p1), .val (.int p2), .val (.int p3), .val (.int (3 : Int32)), .val (.int (1 : Int32)), .val (.int y0), .val (.int y1), .val (.int y2), .val (.int y3), .val (.ref a231), .val (.int sel), .val (.int cz), .val (.int (1 : Int32)), .unset] (hb hby at_279) rfl rfl ?_
          refine Own.goto hx (hb hby at_281) (by decide) (pc' := 287) rfl ?_
          try simp only [if_pos hc250, if_neg hc253] at h_ex
          subst h_ex
          exact kJ252
      · refine Own.iconst hx (2 : Int32) (hb hby at_259) rfl (by decide) ?_
        refine Own.istore hx (2 : Int32) rfl #[.val (.int p0), .val (.int p1), .val (.int p2), .val (.int p3), .val (.int (3 : Int32)), .val (.int (1 : Int32)), .val (.int y0), .val (.int y1), .val (.int y2), .val (.int y3), .val (.ref a231), .val (.int sel), .val (.int cz), .val (.int (2 : Int32)), .unset] (hb hby at_260) rfl rfl ?_
        refine Own.goto hx (hb hby at_262) (by decide) (pc' := 287) rfl ?_
        try simp only [if_neg hc250] at h_ex
        subst h_ex
        exact kJ252
    refine Own.newobj hx hZ hown O239 (hw _ (List.mem_of_getElem? (i := 8) rfl)) (hw _ (List.mem_of_getElem? (i := 9) rfl)) (hw _ (List.mem_of_getElem? (i := 10) rfl)) [(("com/example/idxof/idxof/KnuthMorrisPrattPattern", "chars", "[C"), .null), (("com/example/idxof/idxof/KnuthMorrisPrattPattern", "borders", "[I"), .null)] (by intro f hf; simp only [List.mem_cons, List.not_mem_nil, or_false] at hf; rcases hf with rfl | rfl; exact ⟨Or.inr (hw _ (List.mem_of_getElem? (i := 18) rfl)), (.array .char), by decide, rfl⟩; exact ⟨Or.inr (hw _ (List.mem_of_getElem? (i := 25) rfl)), (.array .int), by decide, rfl⟩) (by decide) (k' := 2) (n' := 5) rfl rfl (by decide) (by decide) (hb hby at_287) (pc' := 290) rfl ?_
    intro a254 h255 O256
    refine Own.dup hx (hb hby at_290) rfl rfl ?_
    refine Own.aload hx (.ref a231) (hb hby at_291) rfl rfl rfl ?_
    have O257 : Own.Owns n0 h255 ((a231, Own.ArrC Z .char [(.int y0), (.int y1), (.int y2)]) :: (a254, Own.ObjC Z "com/example/idxof/idxof/KnuthMorrisPrattPattern" [(("com/example/idxof/idxof/KnuthMorrisPrattPattern", "chars", "[C"), .null), (("com/example/idxof/idxof/KnuthMorrisPrattPattern", "borders", "[I"), .null)]) :: []) := O256.pick 1 rfl
    have O258 : Own.Owns n0 h255 ((a254, Own.ObjC Z "com/example/idxof/idxof/KnuthMorrisPrattPattern" [(("com/example/idxof/idxof/KnuthMorrisPrattPattern", "chars", "[C"), .null), (("com/example/idxof/idxof/KnuthMorrisPrattPattern", "borders", "[I"), .null)]) :: (a231, Own.ArrC Z .char [(.int y0), (.int y1), (.int y2)]) :: []) := O257.pick 1 rfl
    refine Own.callI hx hZ hown rfl (hw _ (List.mem_of_getElem? (i := 11) rfl)) (hw _ (List.mem_of_getElem? (i := 12) rfl)) (hw _ (List.mem_of_getElem? (i := 10) rfl)) (hw _ (List.mem_of_getElem? (i := 13) rfl)) (by decide) pd3 (argsL := [(.ref a231)]) (rest := [(.ref a254)]) rfl (W := 1) (Nat.le_of_eq rfl) (rm := ({ frames := 1, cells := 1, slots := 4, locals := 16 } : Room)) (by decide) (by decide) (by decide) (by decide) (k' := 3) (n' := 9) rfl rfl (by rw [hml]; rfl) [(.ref a231), (.ref a254), (.ref a254)] rfl (hb hby at_293) (pc' := 296) rfl (rm3 l Z a0 hw a254 a231 h255 n0 [y0, y1, y2] (by exact (show 3 ≤ 4 by decide)) ([]) O258) ?_
    rintro _ h260 ⟨r259, rfl, O261⟩
    show Own.Goes _ _ _ _ _ _ _ _ _ _ _ _ _ _ _ _ _ (mkF m 296 #[.val (.int p0), .val (.int p1), .val (.int p2), .val (.int p3), .val (.int (3 : Int32)), .val (.int (1 : Int32)), .val (.int y0), .val (.int y1), .val (.int y2), .val (.int y3), .val (.ref a231), .val (.int sel), .val (.int cz), .val (.int ex), .unset] [(.ref a254)])
    refine Own.astore hx #[.val (.int p0), .val (.int p1), .val (.int p2), .val (.int p3), .val (.int (3 : Int32)), .val (.int (1 : Int32)), .val (.int y0), .val (.int y1), .val (.int y2), .val (.int y3), .val (.ref a231), .val (.int sel), .val (.int cz), .val (.int ex), .val (.ref a254)] (hb hby at_296) rfl rfl rfl ?_
    refine Own.aload hx (.ref a254) (hb hby at_298) rfl rfl rfl ?_
    refine Own.iload hx (1 : Int32) (hb hby at_300) rfl rfl ?_
    refine Own.iload hx cz (hb hby at_302) rfl rfl ?_
    have O262 : Own.Owns n0 h260 ((r259, Own.ArrC Z .int ((ofL [y0, y1, y2]).map gI)) :: (a254, Own.ObjC Z "com/example/idxof/idxof/KnuthMorrisPrattPattern" [(("com/example/idxof/idxof/KnuthMorrisPrattPattern", "chars", "[C"), (.ref a231)), (("com/example/idxof/idxof/KnuthMorrisPrattPattern", "borders", "[I"), (.ref r259))]) :: (a231, Own.ArrC Z .char [(.int y0), (.int y1), (.int y2)]) :: []) := O261.pick 1 rfl
    have O263 : Own.Owns n0 h260 ((a231, Own.ArrC Z .char [(.int y0), (.int y1), (.int y2)]) :: (r259, Own.ArrC Z .int ((ofL [y0, y1, y2]).map gI)) :: (a254, Own.ObjC Z "com/example/idxof/idxof/KnuthMorrisPrattPattern" [(("com/example/idxof/idxof/KnuthMorrisPrattPattern", "chars", "[C"), (.ref a231)), (("com/example/idxof/idxof/KnuthMorrisPrattPattern", "borders", "[I"), (.ref r259))]) :: []) := O262.pick 2 rfl
    have O264 : Own.Owns n0 h260 ((a254, Own.ObjC Z "com/example/idxof/idxof/KnuthMorrisPrattPattern" [(("com/example/idxof/idxof/KnuthMorrisPrattPattern", "chars", "[C"), (.ref a231)), (("com/example/idxof/idxof/KnuthMorrisPrattPattern", "borders", "[I"), (.ref r259))]) :: (a231, Own.ArrC Z .char [(.int y0), (.int y1), (.int y2)]) :: (r259, Own.ArrC Z .int ((ofL [y0, y1, y2]).map gI)) :: []) := O263.pick 2 rfl
    refine Own.callV hx hZ hown (O264.exa (i := 0) rfl) (hw _ (List.mem_of_getElem? (i := 26) rfl)) (hw _ (List.mem_of_getElem? (i := 27) rfl)) (hw _ (List.mem_of_getElem? (i := 29) rfl)) (hw _ (List.mem_of_getElem? (i := 28) rfl)) (hw _ (List.mem_of_getElem? (i := 10) rfl)) (hw _ (List.mem_of_getElem? (i := 30) rfl)) (by decide) pd4 (argsL := [(.int (1 : Int32)), (.int cz)]) (rest := []) rfl (W := 0) (Nat.le_of_eq rfl) (rm := ({ frames := 0, cells := 0, slots := 0, locals := 0 } : Room)) (by decide) (by decide) (by decide) (by decide) (k' := 3) (n' := 9) rfl rfl (by rw [hml]; rfl) [(.int cz), (.int (1 : Int32)), (.ref a254)] rfl (hb hby at_304) (pc' := 307) rfl (rm6_3_1 l Z a0 hw a254 cz h260 n0 [y0, y1, y2] rfl a231 r259 ([]) O264) ?_
    rintro _ h' ⟨rfl, eh⟩
    rw [eh]; clear eh h'
    show Own.Goes _ _ _ _ _ _ _ _ _ _ _ _ _ _ _ _ _ (mkF m 307 #[.val (.int p0), .val (.int p1), .val (.int p2), .val (.int p3), .val (.int (3 : Int32)), .val (.int (1 : Int32)), .val (.int y0), .val (.int y1), .val (.int y2), .val (.int y3), .val (.ref a231), .val (.int sel), .val (.int cz), .val (.int ex), .val (.ref a254)] [(.int (nextE (eqAt ([y0, y1, y2] ++ [cz])) (ofL [y0, y1, y2]) [y0, y1, y2].length 1).toInt32)])
    refine Own.iload hx ex (hb hby at_307) rfl rfl ?_
    obtain ⟨z, h_z⟩ : ∃ z : Int32, z = (if (nextE (eqAt ([y0, y1, y2] ++ [cz])) (ofL [y0, y1, y2]) [y0, y1, y2].length 1).toInt32 = ex then (1 : Int32) else (0 : Int32)) := ⟨_, rfl⟩
    refine Own.Goes.join (mkF m 317 #[.val (.int p0), .val (.int p1), .val (.int p2), .val (.int p3), .val (.int (3 : Int32)), .val (.int (1 : Int32)), .val (.int y0), .val (.int y1), .val (.int y2), .val (.int y3), .val (.ref a231), .val (.int sel), .val (.int cz), .val (.int ex), .val (.ref a254)] [(.int z)]) (fun kJ266 => ?_) ?_
    · refine Own.icmpFn hx (Own.q_ne (nextE (eqAt ([y0, y1, y2] ++ [cz])) (ofL [y0, y1, y2]) [y0, y1, y2].length 1).toInt32 ex) (hb hby at_309) (pcN := 312) rfl (by decide) (pcT := 316) rfl (fun hc265 => ?_) (fun hc265 => ?_)
      · refine Own.iconst hx (0 : Int32) (hb hby at_316) rfl (by decide) ?_
        try simp only [if_neg hc265] at h_z
        subst h_z
        exact kJ266
      · refine Own.iconst hx (1 : Int32) (hb hby at_312) rfl (by decide) ?_
        refine Own.goto hx (hb hby at_313) (by decide) (pc' := 317) rfl ?_
        try simp only [if_pos hc265] at h_z
        subst h_z
        exact kJ266
    exact Own.retS hx hret (by simp) hlk (hb hby at_317) (by decide) (by decide) (Own.bool1 (own_fin3_1 h_ex h_z))
  · subst q q'
    refine Own.iloadN hx p2 (hb hby at_20) rfl rfl ?_
    refine Own.iloadN hx p1 (hb hby at_21) rfl rfl ?_
    refine Own.iconst hx (1 : Int32) (hb hby at_22) rfl (by decide) ?_
    refine Own.iand hx (hb hby at_23) rfl ?_
    refine Own.iadd hx (hb hby at_24) rfl ?_
    refine Own.i2c hx (hb hby at_25) rfl ?_
    obtain ⟨y0, h_y0⟩ : ∃ z : Int32, z = (p2 + (p1 &&& (1 : Int32))).toUInt32.toUInt16.toUInt32.toInt32 := ⟨_, rfl⟩
    refine Own.istore hx y0 h_y0 #[.val (.int p0), .val (.int p1), .val (.int p2), .val (.int p3), .val (.int (3 : Int32)), .val (.int (2 : Int32)), .val (.int y0), .unset, .unset, .unset, .unset, .unset, .unset, .unset, .unset] (hb hby at_26) rfl rfl ?_
    refine Own.iloadN hx p2 (hb hby at_28) rfl rfl ?_
    refine Own.iloadN hx p1 (hb hby at_29) rfl rfl ?_
    refine Own.iconst hx (1 : Int32) (hb hby at_30) rfl (by decide) ?_
    refine Own.iushr hx (hb hby at_31) rfl ?_
    refine Own.iconst hx (1 : Int32) (hb hby at_32) rfl (by decide) ?_
    refine Own.iand hx (hb hby at_33) rfl ?_
    refine Own.iadd hx (hb hby at_34) rfl ?_
    refine Own.i2c hx (hb hby at_35) rfl ?_
    obtain ⟨y1, h_y1⟩ : ∃ z : Int32, z = (p2 + ((p1.toUInt32 >>> ((1 : Int32) &&& 31).toUInt32).toInt32 &&& (1 : Int32))).toUInt32.toUInt16.toUInt32.toInt32 := ⟨_, rfl⟩
    refine Own.istore hx y1 h_y1 #[.val (.int p0), .val (.int p1), .val (.int p2), .val (.int p3), .val (.int (3 : Int32)), .val (.int (2 : Int32)), .val (.int y0), .val (.int y1), .unset, .unset, .unset, .unset, .unset, .unset, .unset] (hb hby at_36) rfl rfl ?_
    refine Own.iloadN hx p2 (hb hby at_38) rfl rfl ?_
    refine Own.iloadN hx p1 (hb hby at_39) rfl rfl ?_
    refine Own.iconst hx (2 : Int32) (hb hby at_40) rfl (by decide) ?_
    refine Own.iushr hx (hb hby at_41) rfl ?_
    refine Own.iconst hx (1 : Int32) (hb hby at_42) rfl (by decide) ?_
    refine Own.iand hx (hb hby at_43) rfl ?_
    refine Own.iadd hx (hb hby at_44) rfl ?_
    refine Own.i2c hx (hb hby at_45) rfl ?_
    obtain ⟨y2, h_y2⟩ : ∃ z : Int32, z = (p2 + ((p1.toUInt32 >>> ((2 : Int32) &&& 31).toUInt32).toInt32 &&& (1 : Int32))).toUInt32.toUInt16.toUInt32.toInt32 := ⟨_, rfl⟩
    refine Own.istore hx y2 h_y2 #[.val (.int p0), .val (.int p1), .val (.int p2), .val (.int p3), .val (.int (3 : Int32)), .val (.int (2 : Int32)), .val (.int y0), .val (.int y1), .val (.int y2), .unset, .unset, .unset, .unset, .unset, .unset] (hb hby at_46) rfl rfl ?_
    refine Own.iloadN hx p2 (hb hby at_48) rfl rfl ?_
    refine Own.iloadN hx p1 (hb hby at_49) rfl rfl ?_
    refine Own.iconst hx (3 : Int32) (hb hby at_50) rfl (by decide) ?_
    refine Own.iushr hx (hb hby at_51) rfl ?_
    refine Own.iconst hx (1 : Int32) (hb hby at_52) rfl (by decide) ?_
    refine Own.iand hx (hb hby at_53) rfl ?_
    refine Own.iadd hx (hb hby at_54) rfl ?_
    refine Own.i2c hx (hb hby at_55) rfl ?_
    obtain ⟨y3, h_y3⟩ : ∃ z : Int32, z = (p2 + ((p1.toUInt32 >>> ((3 : Int32) &&& 31).toUInt32).toInt32 &&& (1 : Int32))).toUInt32.toUInt16.toUInt32.toInt32 := ⟨_, rfl⟩
    refine Own.istore hx y3 h_y3 #[.val (.int p0), .val (.int p1), .val (.int p2), .val (.int p3), .val (.int (3 : Int32)), .val (.int (2 : Int32)), .val (.int y0), .val (.int y1), .val (.int y2), .val (.int y3), .unset, .unset, .unset, .unset, .unset] (hb hby at_56) rfl rfl ?_
    refine Own.iload hx (3 : Int32) (hb hby at_58) rfl rfl ?_
    refine Own.iconst hx (1 : Int32) (hb hby at_60) rfl (by decide) ?_
    have hc267 : ¬ ((3 : Int32) = (1 : Int32)) := by decide
    refine Own.icmpFn hx (Own.q_ne (3 : Int32) (1 : Int32)) (hb hby at_61) (pcN := 64) rfl (by decide) (pcT := 77) rfl (fun _ => ?_) (fun q => absurd q hc267)
    refine Own.iload hx (3 : Int32) (hb hby at_77) rfl rfl ?_
    refine Own.iconst hx (2 : Int32) (hb hby at_79) rfl (by decide) ?_
    have hc269 : ¬ ((3 : Int32) = (2 : Int32)) := by decide
    refine Own.icmpFn hx (Own.q_ne (3 : Int32) (2 : Int32)) (hb hby at_80) (pcN := 83) rfl (by decide) (pcT := 101) rfl (fun _ => ?_) (fun q => absurd q hc269)
    refine Own.iload hx (3 : Int32) (hb hby at_101) rfl rfl ?_
    refine Own.iconst hx (3 : Int32) (hb hby at_103) rfl (by decide) ?_
    have hc271 : (3 : Int32) = (3 : Int32) := by decide
    refine Own.icmpFn hx (Own.q_ne (3 : Int32) (3 : Int32)) (hb hby at_104) (pcN := 107) rfl (by decide) (pcT := 130) rfl (fun q => absurd hc271 q) (fun _ => ?_)
    refine Own.iconst hx (3 : Int32) (hb hby at_107) rfl (by decide) ?_
    refine Own.newarr hx hZ O0 (aty := .char) (hw _ (List.mem_of_getElem? (i := 0) rfl)) 3 (by decide) [(.int (0 : Int32)), (.int (0 : Int32)), (.int (0 : Int32))] rfl rfl (cap := 3) (by decide) (by decide) (k' := 1) (n' := 3) rfl rfl (by decide) (by decide) (hb hby at_108) (pc' := 110) rfl ?_
    intro a273 h274 O275
    refine Own.dup hx (hb hby at_110) rfl rfl ?_
    refine Own.iconst hx (0 : Int32) (hb hby at_111) rfl (by decide) ?_
    refine Own.iload hx y0 (hb hby at_112) rfl rfl ?_
    refine Own.castore hx hZ O275 0 0 rfl (by decide) (by exact (show 0 < 3 by decide)) ((a273, Own.ArrC Z .char [(.int y0), (.int (0 : Int32)), (.int (0 : Int32))]) :: []) (by rw [own_idem h_y0]; rfl) (hb hby at_114) rfl ?_
    intro h276 O277
    refine Own.dup hx (hb hby at_115) rfl rfl ?_
    refine Own.iconst hx (1 : Int32) (hb hby at_116) rfl (by decide) ?_
    refine Own.iload hx y1 (hb hby at_117) rfl rfl ?_
    refine Own.castore hx hZ O277 0 1 rfl (by decide) (by exact (show 1 < 3 by decide)) ((a273, Own.ArrC Z .char [(.int y0), (.int y1), (.int (0 : Int32))]) :: []) (by rw [own_idem h_y1]; rfl) (hb hby at_119) rfl ?_
    intro h278 O279
    refine Own.dup hx (hb hby at_120) rfl rfl ?_
    refine Own.iconst hx (2 : Int32) (hb hby at_121) rfl (by decide) ?_
    refine Own.iload hx y2 (hb hby at_122) rfl rfl ?_
    refine Own.castore hx hZ O279 0 2 rfl (by decide) (by exact (show 2 < 3 by decide)) ((a273, Own.ArrC Z .char [(.int y0), (.int y1), (.int y2)]) :: []) (by rw [own_idem h_y2]; rfl) (hb hby at_124) rfl ?_
    intro h280 O281
    refine Own.astore hx #[.val (.int p0), .val (.int p1), .val (.int p2), .val (.int p3), .val (.int (3 : Int32)), .val (.int (2 : Int32)), .val (.int y0), .val (.int y1), .val (.int y2), .val (.int y3), .val (.ref a273), .unset, .unset, .unset, .unset] (hb hby at_125) rfl rfl rfl ?_
    refine Own.goto hx (hb hby at_127) (by decide) (pc' := 155) rfl ?_
    refine Own.iloadN hx p1 (hb hby at_155) rfl rfl ?_
    refine Own.iconst hx (4 : Int32) (hb hby at_156) rfl (by decide) ?_
    refine Own.iushr hx (hb hby at_157) rfl ?_
    refine Own.iconst hx (3 : Int32) (hb hby at_158) rfl (by decide) ?_
    refine Own.iand hx (hb hby at_159) rfl ?_
    obtain ⟨sel, h_sel⟩ : ∃ z : Int32, z = ((p1.toUInt32 >>> ((4 : Int32) &&& 31).toUInt32).toInt32 &&& (3 : Int32)) := ⟨_, rfl⟩
    refine Own.istore hx sel h_sel #[.val (.int p0), .val (.int p1), .val (.int p2), .val (.int p3), .val (.int (3 : Int32)), .val (.int (2 : Int32)), .val (.int y0), .val (.int y1), .val (.int y2), .val (.int y3), .val (.ref a273), .val (.int sel), .unset, .unset, .unset] (hb hby at_160) rfl rfl ?_
    refine Own.iload hx sel (hb hby at_162) rfl rfl ?_
    obtain ⟨cz, h_cz⟩ : ∃ z : Int32, z = (if sel = (0 : Int32) then p2.toUInt32.toUInt16.toUInt32.toInt32 else (if sel = (1 : Int32) then (p2 + (1 : Int32)).toUInt32.toUInt16.toUInt32.toInt32 else (if sel = (2 : Int32) then (p2 + (2 : Int32)).toUInt32.toUInt16.toUInt32.toInt32 else p3.toUInt32.toUInt16.toUInt32.toInt32))) := ⟨_, rfl⟩
    refine Own.Goes.join (mkF m 208 #[.val (.int p0), .val (.int p1), .val (.int p2), .val (.int p3), .val (.int (3 : Int32)), .val (.int (2 : Int32)), .val (.int y0), .val (.int y1), .val (.int y2), .val (.int y3), .val (.ref a273), .val (.int sel), .val (.int cz), .unset, .unset] []) (fun kJ285 => ?_) ?_
    · refine Own.ifFn hx (Own.z_ne sel) (hb hby at_164) (pcN := 167) rfl (by decide) (pcT := 174) rfl (fun hc282 => ?_) (fun hc282 => ?_)
      · refine Own.iload hx sel (hb hby at_174) rfl rfl ?_
        refine Own.iconst hx (1 : Int32) (hb hby at_176) rfl (by decide) ?_
        refine Own.icmpFn hx (Own.q_ne sel (1 : Int32)) (hb hby at_177) (pcN := 180) rfl (by decide) (pcT := 189) rfl (fun hc286 => ?_) (fun hc286 => ?_)
        · refine Own.iload hx sel (hb hby at_189) rfl rfl ?_
          refine Own.iconst hx (2 : Int32) (hb hby at_191) rfl (by decide) ?_
          refine Own.icmpFn hx (Own.q_ne sel (2 : Int32)) (hb hby at_192) (pcN := 195) rfl (by decide) (pcT := 204) rfl (fun hc287 => ?_) (fun hc287 => ?_)
          · refine Own.iloadN hx p3 (hb hby at_204) rfl rfl ?_
            refine Own.i2c hx (hb hby at_205) rfl ?_
            refine Own.istore hx p3.toUInt32.toUInt16.toUInt32.toInt32 rfl #[.val (.int p0), .val (.int p1), .val (.int p2), .val (.int p3), .val (.int (3 : Int32)), .val (.int (2 : Int32)), .val (.int y0), .val (.int y1), .val (.int y2), .val (.int y3), .val (.ref a273), .val (.int sel), .val (.int p3.toUInt32.toUInt16.toUInt32.toInt32), .unset, .unset] (hb hby at_206) rfl rfl ?_
            try simp only [if_neg hc282, if_neg hc286, if_neg hc287] at h_cz
            subst h_cz
            exact kJ285
          · refine Own.iloadN hx p2 (hb hby at_195) rfl rfl ?_
            refine Own.iconst hx (2 : Int32) (hb hby at_196) rfl (by decide) ?_
            refine Own.iadd hx (hb hby at_197) rfl ?_
            refine Own.i2c hx (hb hby at_198) rfl ?_
            refine Own.istore hx (p2 + (2 : Int32)).toUInt32.toUInt16.toUInt32.toInt32 rfl #[.val (.int p0), .val (.int p1), .val (.int p2), .val (.int p3), .val (.int (3 : Int32)), .val (.int (2 : Int32)), .val (.int y0), .val (.int y1), .val (.int y2), .val (.int y3), .val (.ref a273), .val (.int sel), .val (.int (p2 + (2 : Int32)).toUInt32.toUInt16.toUInt32.toInt32), .unset, .unset] (hb hby at_199) rfl rfl ?_
            refine Own.goto hx (hb hby at_201) (by decide) (pc' := 208) rfl ?_
            try simp only [if_neg hc282, if_neg hc286, if_pos hc287] at h_cz
            subst h_cz
            exact kJ285
        · refine Own.iloadN hx p2 (hb hby at_180) rfl rfl ?_
          refine Own.iconst hx (1 : Int32) (hb hby at_181) rfl (by decide) ?_
          refine Own.iadd hx (hb hby at_182) rfl ?_
          refine Own.i2c hx (hb hby at_183) rfl ?_
          refine Own.istore hx (p2 + (1 : Int32)).toUInt32.toUInt16.toUInt32.toInt32 rfl #[.val (.int p0), .val (.int p1), .val (.int p2), .val (.int p3), .val (.int (3 : Int32)), .val (.int (2 : Int32)), .val (.int y0), .val (.int y1), .val (.int y2), .val (.int y3), .val (.ref a273), .val (.int sel), .val (.int (p2 + (1 : Int32)).toUInt32.toUInt16.toUInt32.toInt32), .unset, .unset] (hb hby at_184) rfl rfl ?_
          refine Own.goto hx (hb hby at_186) (by decide) (pc' := 208) rfl ?_
          try simp only [if_neg hc282, if_pos hc286] at h_cz
          subst h_cz
          exact kJ285
      · refine Own.iloadN hx p2 (hb hby at_167) rfl rfl ?_
        refine Own.i2c hx (hb hby at_168) rfl ?_
        refine Own.istore hx p2.toUInt32.toUInt16.toUInt32.toInt32 rfl #[.val (.int p0), .val (.int p1), .val (.int p2), .val (.int p3), .val (.int (3 : Int32)), .val (.int (2 : Int32)), .val (.int y0), .val (.int y1), .val (.int y2), .val (.int y3), .val (.ref a273), .val (.int sel), .val (.int p2.toUInt32.toUInt16.toUInt32.toInt32), .unset, .unset] (hb hby at_169) rfl rfl ?_
        refine Own.goto hx (hb hby at_171) (by decide) (pc' := 208) rfl ?_
        try simp only [if_pos hc282] at h_cz
        subst h_cz
        exact kJ285
    refine Own.aload hx (.ref a273) (hb hby at_208) rfl rfl rfl ?_
    refine Own.iload hx (2 : Int32) (hb hby at_210) rfl rfl ?_
    refine Own.iload hx cz (hb hby at_212) rfl rfl ?_
    refine Own.iconst hx (4 : Int32) (hb hby at_214) rfl (by decide) ?_
    refine Own.callS hx hZ hown (hw _ (List.mem_of_getElem? (i := 1) rfl)) (hw _ (List.mem_of_getElem? (i := 2) rfl)) (hw _ (List.mem_of_getElem? (i := 3) rfl)) (hw _ (List.mem_of_getElem? (i := 4) rfl)) (by decide) pd2 (argsL := [(.ref a273), (.int (2 : Int32)), (.int cz), (.int (4 : Int32))]) (rest := []) rfl (W := 0) (Nat.le_of_eq rfl) (rm := ({ frames := 1, cells := 0, slots := 0, locals := 24 } : Room)) (by decide) (by decide) (by decide) (by decide) (k' := 1) (n' := 3) rfl rfl (by rw [hml]; rfl) [(.int (4 : Int32)), (.int cz), (.int (2 : Int32)), (.ref a273)] rfl (hb hby at_215) (pc' := 218) rfl (rm1_3_2_4 l Z a0 hw a273 cz h280 n0 y0 y1 y2 ([]) O281 (own_idem h_y0) (own_idem h_y1) (own_idem h_y2) (own_cz h_cz)) ?_
    rintro _ h' ⟨rfl, eh⟩
    rw [eh]; clear eh h'
    show Own.Goes _ _ _ _ _ _ _ _ _ _ _ _ _ _ _ _ _ (mkF m 218 #[.val (.int p0), .val (.int p1), .val (.int p2), .val (.int p3), .val (.int (3 : Int32)), .val (.int (2 : Int32)), .val (.int y0), .val (.int y1), .val (.int y2), .val (.int y3), .val (.ref a273), .val (.int sel), .val (.int cz), .unset, .unset] [(.int (0 : Int32))])
    have hc288 : (0 : Int32) = (0 : Int32) := by decide
    refine Own.ifF hx (Own.z_eq (0 : Int32)) (hb hby at_218) (pcN := 221) rfl (by decide) (pcT := 227) rfl (fun _ => ?_) (fun q => absurd hc288 q)
    refine Own.aload hx (.ref a273) (hb hby at_227) rfl rfl rfl ?_
    refine Own.iload hx (2 : Int32) (hb hby at_229) rfl rfl ?_
    refine Own.iload hx cz (hb hby at_231) rfl rfl ?_
    refine Own.iconst hx (3 : Int32) (hb hby at_233) rfl (by decide) ?_
    refine Own.callS hx hZ hown (hw _ (List.mem_of_getElem? (i := 1) rfl)) (hw _ (List.mem_of_getElem? (i := 2) rfl)) (hw _ (List.mem_of_getElem? (i := 3) rfl)) (hw _ (List.mem_of_getElem? (i := 4) rfl)) (by decide) pd2 (argsL := [(.ref a273), (.int (2 : Int32)), (.int cz), (.int (3 : Int32))]) (rest := []) rfl (W := 0) (Nat.le_of_eq rfl) (rm := ({ frames := 1, cells := 0, slots := 0, locals := 24 } : Room)) (by decide) (by decide) (by decide) (by decide) (k' := 1) (n' := 3) rfl rfl (by rw [hml]; rfl) [(.int (3 : Int32)), (.int cz), (.int (2 : Int32)), (.ref a273)] rfl (hb hby at_234) (pc' := 237) rfl (rm1_3_2_3 l Z a0 hw a273 cz h280 n0 y0 y1 y2 ([]) O281 (own_idem h_y0) (own_idem h_y1) (own_idem h_y2) (own_cz h_cz)) ?_
    rintro _ h' ⟨rfl, eh⟩
    rw [eh]; clear eh h'
    show Own.Goes _ _ _ _ _ _ _ _ _ _ _ _ _ _ _ _ _ (mkF m 237 #[.val (.int p0), .val (.int p1), .val (.int p2), .val (.int p3), .val (.int (3 : Int32)), .val (.int (2 : Int32)), .val (.int y0), .val (.int y1), .val (.int y2), .val (.int y3), .val (.ref a273), .val (.int sel), .val (.int cz), .unset, .unset] [(.int (fX3_2_3 y0 y1 y2 cz))])
    obtain ⟨ex, h_ex⟩ : ∃ z : Int32, z = (if (fX3_2_3 y0 y1 y2 cz) = (0 : Int32) then (if (fX3_2_2 y0 y1 y2 cz) = (0 : Int32) then (if (fX3_2_1 y0 y1 y2 cz) = (0 : Int32) then (0 : Int32) else (1 : Int32)) else (2 : Int32)) else (3 : Int32)) := ⟨_, rfl⟩
    refine Own.Goes.join (mkF m 287 #[.val (.int p0), .val (.int p1), .val (.int p2), .val (.int p3), .val (.int (3 : Int32)), .val (.int (2 : Int32)), .val (.int y0), .val (.int y1), .val (.int y2), .val (.int y3), .val (.ref a273), .val (.int sel), .val (.int cz), .val (.int ex), .unset] []) (fun kJ293 => ?_) ?_
    · refine Own.ifF hx (Own.z_eq (fX3_2_3 y0 y1 y2 cz)) (hb hby at_237) (pcN := 240) rfl (by decide) (pcT := 246) rfl (fun hc290 => ?_) (fun hc290 => ?_)
      · refine Own.aload hx (.ref a273) (hb hby at_246) rfl rfl rfl ?_
        refine Own.iload hx (2 : Int32) (hb hby at_248) rfl rfl ?_
        refine Own.iload hx cz (hb hby at_250) rfl rfl ?_
        refine Own.iconst hx (2 : Int32) (hb hby at_252) rfl (by decide) ?_
        refine Own.callS hx hZ hown (hw _ (List.mem_of_getElem? (i := 1) rfl)) (hw _ (List.mem_of_getElem? (i := 2) rfl)) (hw _ (List.mem_of_getElem? (i := 3) rfl)) (hw _ (List.mem_of_getElem? (i := 4) rfl)) (by decide) pd2 (argsL := [(.ref a273), (.int (2 : Int32)), (.int cz), (.int (2 : Int32))]) (rest := []) rfl (W := 0) (Nat.le_of_eq rfl) (rm := ({ frames := 1, cells := 0, slots := 0, locals := 24 } : Room)) (by decide) (by decide) (by decide) (by decide) (k' := 1) (n' := 3) rfl rfl (by rw [hml]; rfl) [(.int (2 : Int32)), (.int cz), (.int (2 : Int32)), (.ref a273)] rfl (hb hby at_253) (pc' := 256) rfl (rm1_3_2_2 l Z a0 hw a273 cz h280 n0 y0 y1 y2 ([]) O281 (own_idem h_y0) (own_idem h_y1) (own_idem h_y2) (own_cz h_cz)) ?_
        rintro _ h' ⟨rfl, eh⟩
        rw [eh]; clear eh h'
        show Own.Goes _ _ _ _ _ _ _ _ _ _ _ _ _ _ _ _ _ (mkF m 256 #[.val (.int p0), .val (.int p1), .val (.int p2), .val (.int p3), .val (.int (3 : Int32)), .val (.int (2 : Int32)), .val (.int y0), .val (.int y1), .val (.int y2), .val (.int y3), .val (.ref a273), .val (.int sel), .val (.int cz), .unset, .unset] [(.int (fX3_2_2 y0 y1 y2 cz))])
        refine Own.ifF hx (Own.z_eq (fX3_2_2 y0 y1 y2 cz)) (hb hby at_256) (pcN := 259) rfl (by decide) (pcT := 265) rfl (fun hc294 => ?_) (fun hc294 => ?_)
        · refine Own.aload hx (.ref a273) (hb hby at_265) rfl rfl rfl ?_
          refine Own.iload hx (2 : Int32) (hb hby at_267) rfl rfl ?_
          refine Own.iload hx cz (hb hby at_269) rfl rfl ?_
          refine Own.iconst hx (1 : Int32) (hb hby at_271) rfl (by decide) ?_
          refine Own.callS hx hZ hown (hw _ (List.mem_of_getElem? (i := 1) rfl)) (hw _ (List.mem_of_getElem? (i := 2) rfl)) (hw _ (List.mem_of_getElem? (i := 3) rfl)) (hw _ (List.mem_of_getElem? (i := 4) rfl)) (by decide) pd2 (argsL := [(.ref a273), (.int (2 : Int32)), (.int cz), (.int (1 : Int32))]) (rest := []) rfl (W := 0) (Nat.le_of_eq rfl) (rm := ({ frames := 1, cells := 0, slots := 0, locals := 24 } : Room)) (by decide) (by decide) (by decide) (by decide) (k' := 1) (n' := 3) rfl rfl (by rw [hml]; rfl) [(.int (1 : Int32)), (.int cz), (.int (2 : Int32)), (.ref a273)] rfl (hb hby at_272) (pc' := 275) rfl (rm1_3_2_1 l Z a0 hw a273 cz h280 n0 y0 y1 y2 ([]) O281 (own_idem h_y0) (own_idem h_y1) (own_idem h_y2) (own_cz h_cz)) ?_
          rintro _ h' ⟨rfl, eh⟩
          rw [eh]; clear eh h'
          show Own.Goes _ _ _ _ _ _ _ _ _ _ _ _ _ _ _ _ _ (mkF m 275 #[.val (.int p0), .val (.int p1), .val (.int p2), .val (.int p3), .val (.int (3 : Int32)), .val (.int (2 : Int32)), .val (.int y0), .val (.int y1), .val (.int y2), .val (.int y3), .val (.ref a273), .val (.int sel), .val (.int cz), .unset, .unset] [(.int (fX3_2_1 y0 y1 y2 cz))])
          refine Own.ifF hx (Own.z_eq (fX3_2_1 y0 y1 y2 cz)) (hb hby at_275) (pcN := 278) rfl (by decide) (pcT := 284) rfl (fun hc295 => ?_) (fun hc295 => ?_)
          · refine Own.iconst hx (0 : Int32) (hb hby at_284) rfl (by decide) ?_
            refine Own.istore hx (0 : Int32) rfl #[.val (.int p0), .val (.int p1), .val (.int p2), .val (.int p3), .val (.int (3 : Int32)), .val (.int (2 : Int32)), .val (.int y0), .val (.int y1), .val (.int y2), .val (.int y3), .val (.ref a273), .val (.int sel), .val (.int cz), .val (.int (0 : Int32)), .unset] (hb hby at_285) rfl rfl ?_
            try simp only [if_pos hc290, if_pos hc294, if_pos hc295] at h_ex
            subst h_ex
            exact kJ293
          · refine Own.iconst hx (1 : Int32) (hb hby at_278) rfl (by decide) ?_
            refine Own.istore hx (1 : Int32) rfl #[.val (.int p0), .val (.int p1), .val (.int p2), .val (.int p3), .val (.int (3 : Int32)), .val (.int (2 : Int32)), .val (.int y0), .val (.int y1), .val (.int y2), .val (.int y3), .val (.ref a273), .val (.int sel), .val (.int cz), .val (.int (1 : Int32)), .unset] (hb hby at_279) rfl rfl ?_
            refine Own.goto hx (hb hby at_281) (by decide) (pc' := 287) rfl ?_
            try simp only [if_pos hc290, if_pos hc294, if_neg hc295] at h_ex
            subst h_ex
            exact kJ293
        · refine Own.iconst hx (2 : Int32) (hb hby at_259) rfl (by decide) ?_
          refine Own.istore hx (2 : Int32) rfl #[.val (.int p0), .val (.int p1), .val (.int p2), .val (.int p3), .val (.int (3 : Int32)), .val (.int (2 : Int32)), .val (.int y0), .val (.int y1), .val (.int y2), .val (.int y3), .val (.ref a273), .val (.int sel), .val (.int cz), .val (.int (2 : Int32)), .unset] (hb hby at_260) rfl rfl ?_
          refine Own.goto hx (hb hby at_262) (by decide) (pc' := 287) rfl ?_
          try simp only [if_pos hc290, if_neg hc294] at h_ex
          subst h_ex
          exact kJ293
      · refine Own.iconst hx (3 : Int32) (hb hby at_240) rfl (by decide) ?_
        refine Own.istore hx (3 : Int32) rfl #[.val (.int p0), .val (.int p1), .val (.int p2), .val (.int p3), .val (.int (3 : Int32)), .val (.int (2 : Int32)), .val (.int y0), .val (.int y1), .val (.int y2), .val (.int y3), .val (.ref a273), .val (.int sel), .val (.int cz), .val (.int (3 : Int32)), .unset] (hb hby at_241) rfl rfl ?_
        refine Own.goto hx (hb hby at_243) (by decide) (pc' := 287) rfl ?_
        try simp only [if_neg hc290] at h_ex
        subst h_ex
        exact kJ293
    refine Own.newobj hx hZ hown O281 (hw _ (List.mem_of_getElem? (i := 8) rfl)) (hw _ (List.mem_of_getElem? (i := 9) rfl)) (hw _ (List.mem_of_getElem? (i := 10) rfl)) [(("com/example/idxof/idxof/KnuthMorrisPrattPattern", "chars", "[C"), .null), (("com/example/idxof/idxof/KnuthMorrisPrattPattern", "borders", "[I"), .null)] (by intro f hf; simp only [List.mem_cons, List.not_mem_nil, or_false] at hf; rcases hf with rfl | rfl; exact ⟨Or.inr (hw _ (List.mem_of_getElem? (i := 18) rfl)), (.array .char), by decide, rfl⟩; exact ⟨Or.inr (hw _ (List.mem_of_getElem? (i := 25) rfl)), (.array .int), by decide, rfl⟩) (by decide) (k' := 2) (n' := 5) rfl rfl (by decide) (by decide) (hb hby at_287) (pc' := 290) rfl ?_
    intro a296 h297 O298
    refine Own.dup hx (hb hby at_290) rfl rfl ?_
    refine Own.aload hx (.ref a273) (hb hby at_291) rfl rfl rfl ?_
    have O299 : Own.Owns n0 h297 ((a273, Own.ArrC Z .char [(.int y0), (.int y1), (.int y2)]) :: (a296, Own.ObjC Z "com/example/idxof/idxof/KnuthMorrisPrattPattern" [(("com/example/idxof/idxof/KnuthMorrisPrattPattern", "chars", "[C"), .null), (("com/example/idxof/idxof/KnuthMorrisPrattPattern", "borders", "[I"), .null)]) :: []) := O298.pick 1 rfl
    have O300 : Own.Owns n0 h297 ((a296, Own.ObjC Z "com/example/idxof/idxof/KnuthMorrisPrattPattern" [(("com/example/idxof/idxof/KnuthMorrisPrattPattern", "chars", "[C"), .null), (("com/example/idxof/idxof/KnuthMorrisPrattPattern", "borders", "[I"), .null)]) :: (a273, Own.ArrC Z .char [(.int y0), (.int y1), (.int y2)]) :: []) := O299.pick 1 rfl
    refine Own.callI hx hZ hown rfl (hw _ (List.mem_of_getElem? (i := 11) rfl)) (hw _ (List.mem_of_getElem? (i := 12) rfl)) (hw _ (List.mem_of_getElem? (i := 10) rfl)) (hw _ (List.mem_of_getElem? (i := 13) rfl)) (by decide) pd3 (argsL := [(.ref a273)]) (rest := [(.ref a296)]) rfl (W := 1) (Nat.le_of_eq rfl) (rm := ({ frames := 1, cells := 1, slots := 4, locals := 16 } : Room)) (by decide) (by decide) (by decide) (by decide) (k' := 3) (n' := 9) rfl rfl (by rw [hml]; rfl) [(.ref a273), (.ref a296), (.ref a296)] rfl (hb hby at_293) (pc' := 296) rfl (rm3 l Z a0 hw a296 a273 h297 n0 [y0, y1, y2] (by exact (show 3 ≤ 4 by decide)) ([]) O300) ?_
    rintro _ h302 ⟨r301, rfl, O303⟩
    show Own.Goes _ _ _ _ _ _ _ _ _ _ _ _ _ _ _ _ _ (mkF m 296 #[.val (.int p0), .val (.int p1), .val (.int p2), .val (.int p3), .val (.int (3 : Int32)), .val (.int (2 : Int32)), .val (.int y0), .val (.int y1), .val (.int y2), .val (.int y3), .val (.ref a273), .val (.int sel), .val (.int cz), .val (.int ex), .unset] [(.ref a296)])
    refine Own.astore hx #[.val (.int p0), .val (.int p1), .val (.int p2), .val (.int p3), .val (.int (3 : Int32)), .val (.int (2 : Int32)), .val (.int y0), .val (.int y1), .val (.int y2), .val (.int y3), .val (.ref a273), .val (.int sel), .val (.int cz), .val (.int ex), .val (.ref a296)] (hb hby at_296) rfl rfl rfl ?_
    refine Own.aload hx (.ref a296) (hb hby at_298) rfl rfl rfl ?_
    refine Own.iload hx (2 : Int32) (hb hby at_300) rfl rfl ?_
    refine Own.iload hx cz (hb hby at_302) rfl rfl ?_
    have O304 : Own.Owns n0 h302 ((r301, Own.ArrC Z .int ((ofL [y0, y1, y2]).map gI)) :: (a296, Own.ObjC Z "com/example/idxof/idxof/KnuthMorrisPrattPattern" [(("com/example/idxof/idxof/KnuthMorrisPrattPattern", "chars", "[C"), (.ref a273)), (("com/example/idxof/idxof/KnuthMorrisPrattPattern", "borders", "[I"), (.ref r301))]) :: (a273, Own.ArrC Z .char [(.int y0), (.int y1), (.int y2)]) :: []) := O303.pick 1 rfl
    have O305 : Own.Owns n0 h302 ((a273, Own.ArrC Z .char [(.int y0), (.int y1), (.int y2)]) :: (r301, Own.ArrC Z .int ((ofL [y0, y1, y2]).map gI)) :: (a296, Own.ObjC Z "com/example/idxof/idxof/KnuthMorrisPrattPattern" [(("com/example/idxof/idxof/KnuthMorrisPrattPattern", "chars", "[C"), (.ref a273)), (("com/example/idxof/idxof/KnuthMorrisPrattPattern", "borders", "[I"), (.ref r301))]) :: []) := O304.pick 2 rfl
    have O306 : Own.Owns n0 h302 ((a296, Own.ObjC Z "com/example/idxof/idxof/KnuthMorrisPrattPattern" [(("com/example/idxof/idxof/KnuthMorrisPrattPattern", "chars", "[C"), (.ref a273)), (("com/example/idxof/idxof/KnuthMorrisPrattPattern", "borders", "[I"), (.ref r301))]) :: (a273, Own.ArrC Z .char [(.int y0), (.int y1), (.int y2)]) :: (r301, Own.ArrC Z .int ((ofL [y0, y1, y2]).map gI)) :: []) := O305.pick 2 rfl
    refine Own.callV hx hZ hown (O306.exa (i := 0) rfl) (hw _ (List.mem_of_getElem? (i := 26) rfl)) (hw _ (List.mem_of_getElem? (i := 27) rfl)) (hw _ (List.mem_of_getElem? (i := 29) rfl)) (hw _ (List.mem_of_getElem? (i := 28) rfl)) (hw _ (List.mem_of_getElem? (i := 10) rfl)) (hw _ (List.mem_of_getElem? (i := 30) rfl)) (by decide) pd4 (argsL := [(.int (2 : Int32)), (.int cz)]) (rest := []) rfl (W := 0) (Nat.le_of_eq rfl) (rm := ({ frames := 0, cells := 0, slots := 0, locals := 0 } : Room)) (by decide) (by decide) (by decide) (by decide) (k' := 3) (n' := 9) rfl rfl (by rw [hml]; rfl) [(.int cz), (.int (2 : Int32)), (.ref a296)] rfl (hb hby at_304) (pc' := 307) rfl (rm6_3_2 l Z a0 hw a296 cz h302 n0 [y0, y1, y2] rfl a273 r301 ([]) O306) ?_
    rintro _ h' ⟨rfl, eh⟩
    rw [eh]; clear eh h'
    show Own.Goes _ _ _ _ _ _ _ _ _ _ _ _ _ _ _ _ _ (mkF m 307 #[.val (.int p0), .val (.int p1), .val (.int p2), .val (.int p3), .val (.int (3 : Int32)), .val (.int (2 : Int32)), .val (.int y0), .val (.int y1), .val (.int y2), .val (.int y3), .val (.ref a273), .val (.int sel), .val (.int cz), .val (.int ex), .val (.ref a296)] [(.int (nextE (eqAt ([y0, y1, y2] ++ [cz])) (ofL [y0, y1, y2]) [y0, y1, y2].length 2).toInt32)])
    refine Own.iload hx ex (hb hby at_307) rfl rfl ?_
    obtain ⟨z, h_z⟩ : ∃ z : Int32, z = (if (nextE (eqAt ([y0, y1, y2] ++ [cz])) (ofL [y0, y1, y2]) [y0, y1, y2].length 2).toInt32 = ex then (1 : Int32) else (0 : Int32)) := ⟨_, rfl⟩
    refine Own.Goes.join (mkF m 317 #[.val (.int p0), .val (.int p1), .val (.int p2), .val (.int p3), .val (.int (3 : Int32)), .val (.int (2 : Int32)), .val (.int y0), .val (.int y1), .val (.int y2), .val (.int y3), .val (.ref a273), .val (.int sel), .val (.int cz), .val (.int ex), .val (.ref a296)] [(.int z)]) (fun kJ308 => ?_) ?_
    · refine Own.icmpFn hx (Own.q_ne (nextE (eqAt ([y0, y1, y2] ++ [cz])) (ofL [y0, y1, y2]) [y0, y1, y2].length 2).toInt32 ex) (hb hby at_309) (pcN := 312) rfl (by decide) (pcT := 316) rfl (fun hc307 => ?_) (fun hc307 => ?_)
      · refine Own.iconst hx (0 : Int32) (hb hby at_316) rfl (by decide) ?_
        try simp only [if_neg hc307] at h_z
        subst h_z
        exact kJ308
      · refine Own.iconst hx (1 : Int32) (hb hby at_312) rfl (by decide) ?_
        refine Own.goto hx (hb hby at_313) (by decide) (pc' := 317) rfl ?_
        try simp only [if_pos hc307] at h_z
        subst h_z
        exact kJ308
    exact Own.retS hx hret (by simp) hlk (hb hby at_317) (by decide) (by decide) (Own.bool1 (own_fin3_2 h_ex h_z))
  · subst q q'
    refine Own.iloadN hx p2 (hb hby at_20) rfl rfl ?_
    refine Own.iloadN hx p1 (hb hby at_21) rfl rfl ?_
    refine Own.iconst hx (1 : Int32) (hb hby at_22) rfl (by decide) ?_
    refine Own.iand hx (hb hby at_23) rfl ?_
    refine Own.iadd hx (hb hby at_24) rfl ?_
    refine Own.i2c hx (hb hby at_25) rfl ?_
    obtain ⟨y0, h_y0⟩ : ∃ z : Int32, z = (p2 + (p1 &&& (1 : Int32))).toUInt32.toUInt16.toUInt32.toInt32 := ⟨_, rfl⟩
    refine Own.istore hx y0 h_y0 #[.val (.int p0), .val (.int p1), .val (.int p2), .val (.int p3), .val (.int (3 : Int32)), .val (.int (3 : Int32)), .val (.int y0), .unset, .unset, .unset, .unset, .unset, .unset, .unset, .unset] (hb hby at_26) rfl rfl ?_
    refine Own.iloadN hx p2 (hb hby at_28) rfl rfl ?_
    refine Own.iloadN hx p1 (hb hby at_29) rfl rfl ?_
    refine Own.iconst hx (1 : Int32) (hb hby at_30) rfl (by decide) ?_
    refine Own.iushr hx (hb hby at_31) rfl ?_
    refine Own.iconst hx (1 : Int32) (hb hby at_32) rfl (by decide) ?_
    refine Own.iand hx (hb hby at_33) rfl ?_
    refine Own.iadd hx (hb hby at_34) rfl ?_
    refine Own.i2c hx (hb hby at_35) rfl ?_
    obtain ⟨y1, h_y1⟩ : ∃ z : Int32, z = (p2 + ((p1.toUInt32 >>> ((1 : Int32) &&& 31).toUInt32).toInt32 &&& (1 : Int32))).toUInt32.toUInt16.toUInt32.toInt32 := ⟨_, rfl⟩
    refine Own.istore hx y1 h_y1 #[.val (.int p0), .val (.int p1), .val (.int p2), .val (.int p3), .val (.int (3 : Int32)), .val (.int (3 : Int32)), .val (.int y0), .val (.int y1), .unset, .unset, .unset, .unset, .unset, .unset, .unset] (hb hby at_36) rfl rfl ?_
    refine Own.iloadN hx p2 (hb hby at_38) rfl rfl ?_
    refine Own.iloadN hx p1 (hb hby at_39) rfl rfl ?_
    refine Own.iconst hx (2 : Int32) (hb hby at_40) rfl (by decide) ?_
    refine Own.iushr hx (hb hby at_41) rfl ?_
    refine Own.iconst hx (1 : Int32) (hb hby at_42) rfl (by decide) ?_
    refine Own.iand hx (hb hby at_43) rfl ?_
    refine Own.iadd hx (hb hby at_44) rfl ?_
    refine Own.i2c hx (hb hby at_45) rfl ?_
    obtain ⟨y2, h_y2⟩ : ∃ z : Int32, z = (p2 + ((p1.toUInt32 >>> ((2 : Int32) &&& 31).toUInt32).toInt32 &&& (1 : Int32))).toUInt32.toUInt16.toUInt32.toInt32 := ⟨_, rfl⟩
    refine Own.istore hx y2 h_y2 #[.val (.int p0), .val (.int p1), .val (.int p2), .val (.int p3), .val (.int (3 : Int32)), .val (.int (3 : Int32)), .val (.int y0), .val (.int y1), .val (.int y2), .unset, .unset, .unset, .unset, .unset, .unset] (hb hby at_46) rfl rfl ?_
    refine Own.iloadN hx p2 (hb hby at_48) rfl rfl ?_
    refine Own.iloadN hx p1 (hb hby at_49) rfl rfl ?_
    refine Own.iconst hx (3 : Int32) (hb hby at_50) rfl (by decide) ?_
    refine Own.iushr hx (hb hby at_51) rfl ?_
    refine Own.iconst hx (1 : Int32) (hb hby at_52) rfl (by decide) ?_
    refine Own.iand hx (hb hby at_53) rfl ?_
    refine Own.iadd hx (hb hby at_54) rfl ?_
    refine Own.i2c hx (hb hby at_55) rfl ?_
    obtain ⟨y3, h_y3⟩ : ∃ z : Int32, z = (p2 + ((p1.toUInt32 >>> ((3 : Int32) &&& 31).toUInt32).toInt32 &&& (1 : Int32))).toUInt32.toUInt16.toUInt32.toInt32 := ⟨_, rfl⟩
    refine Own.istore hx y3 h_y3 #[.val (.int p0), .val (.int p1), .val (.int p2), .val (.int p3), .val (.int (3 : Int32)), .val (.int (3 : Int32)), .val (.int y0), .val (.int y1), .val (.int y2), .val (.int y3), .unset, .unset, .unset, .unset, .unset] (hb hby at_56) rfl rfl ?_
    refine Own.iload hx (3 : Int32) (hb hby at_58) rfl rfl ?_
    refine Own.iconst hx (1 : Int32) (hb hby at_60) rfl (by decide) ?_
    have hc309 : ¬ ((3 : Int32) = (1 : Int32)) := by decide
    refine Own.icmpFn hx (Own.q_ne (3 : Int32) (1 : Int32)) (hb hby at_61) (pcN := 64) rfl (by decide) (pcT := 77) rfl (fun _ => ?_) (fun q => absurd q hc309)
    refine Own.iload hx (3 : Int32) (hb hby at_77) rfl rfl ?_
    refine Own.iconst hx (2 : Int32) (hb hby at_79) rfl (by decide) ?_
    have hc311 : ¬ ((3 : Int32) = (2 : Int32)) := by decide
    refine Own.icmpFn hx (Own.q_ne (3 : Int32) (2 : Int32)) (hb hby at_80) (pcN := 83) rfl (by decide) (pcT := 101) rfl (fun _ => ?_) (fun q => absurd q hc311)
    refine Own.iload hx (3 : Int32) (hb hby at_101) rfl rfl ?_
    refine Own.iconst hx (3 : Int32) (hb hby at_103) rfl (by decide) ?_
    have hc313 : (3 : Int32) = (3 : Int32) := by decide
    refine Own.icmpFn hx (Own.q_ne (3 : Int32) (3 : Int32)) (hb hby at_104) (pcN := 107) rfl (by decide) (pcT := 130) rfl (fun q => absurd hc313 q) (fun _ => ?_)
    refine Own.iconst hx (3 : Int32) (hb hby at_107) rfl (by decide) ?_
    refine Own.newarr hx hZ O0 (aty := .char) (hw _ (List.mem_of_getElem? (i := 0) rfl)) 3 (by decide) [(.int (0 : Int32)), (.int (0 : Int32)), (.int (0 : Int32))] rfl rfl (cap := 3) (by decide) (by decide) (k' := 1) (n' := 3) rfl rfl (by decide) (by decide) (hb hby at_108) (pc' := 110) rfl ?_
    intro a315 h316 O317
    refine Own.dup hx (hb hby at_110) rfl rfl ?_
    refine Own.iconst hx (0 : Int32) (hb hby at_111) rfl (by decide) ?_
    refine Own.iload hx y0 (hb hby at_112) rfl rfl ?_
    refine Own.castore hx hZ O317 0 0 rfl (by decide) (by exact (show 0 < 3 by decide)) ((a315, Own.ArrC Z .char [(.int y0), (.int (0 : Int32)), (.int (0 : Int32))]) :: []) (by rw [own_idem h_y0]; rfl) (hb hby at_114) rfl ?_
    intro h318 O319
    refine Own.dup hx (hb hby at_115) rfl rfl ?_
    refine Own.iconst hx (1 : Int32) (hb hby at_116) rfl (by decide) ?_
    refine Own.iload hx y1 (hb hby at_117) rfl rfl ?_
    refine Own.castore hx hZ O319 0 1 rfl (by decide) (by exact (show 1 < 3 by decide)) ((a315, Own.ArrC Z .char [(.int y0), (.int y1), (.int (0 : Int32))]) :: []) (by rw [own_idem h_y1]; rfl) (hb hby at_119) rfl ?_
    intro h320 O321
    refine Own.dup hx (hb hby at_120) rfl rfl ?_
    refine Own.iconst hx (2 : Int32) (hb hby at_121) rfl (by decide) ?_
    refine Own.iload hx y2 (hb hby at_122) rfl rfl ?_
    refine Own.castore hx hZ O321 0 2 rfl (by decide) (by exact (show 2 < 3 by decide)) ((a315, Own.ArrC Z .char [(.int y0), (.int y1), (.int y2)]) :: []) (by rw [own_idem h_y2]; rfl) (hb hby at_124) rfl ?_
    intro h322 O323
    refine Own.astore hx #[.val (.int p0), .val (.int p1), .val (.int p2), .val (.int p3), .val (.int (3 : Int32)), .val (.int (3 : Int32)), .val (.int y0), .val (.int y1), .val (.int y2), .val (.int y3), .val (.ref a315), .unset, .unset, .unset, .unset] (hb hby at_125) rfl rfl rfl ?_
    refine Own.goto hx (hb hby at_127) (by decide) (pc' := 155) rfl ?_
    refine Own.iloadN hx p1 (hb hby at_155) rfl rfl ?_
    refine Own.iconst hx (4 : Int32) (hb hby at_156) rfl (by decide) ?_
    refine Own.iushr hx (hb hby at_157) rfl ?_
    refine Own.iconst hx (3 : Int32) (hb hby at_158) rfl (by decide) ?_
    refine Own.iand hx (hb hby at_159) rfl ?_
    obtain ⟨sel, h_sel⟩ : ∃ z : Int32, z = ((p1.toUInt32 >>> ((4 : Int32) &&& 31).toUInt32).toInt32 &&& (3 : Int32)) := ⟨_, rfl⟩
    refine Own.istore hx sel h_sel #[.val (.int p0), .val (.int p1), .val (.int p2), .val (.int p3), .val (.int (3 : Int32)), .val (.int (3 : Int32)), .val (.int y0), .val (.int y1), .val (.int y2), .val (.int y3), .val (.ref a315), .val (.int sel), .unset, .unset, .unset] (hb hby at_160) rfl rfl ?_
    refine Own.iload hx sel (hb hby at_162) rfl rfl ?_
    obtain ⟨cz, h_cz⟩ : ∃ z : Int32, z = (if sel = (0 : Int32) then p2.toUInt32.toUInt16.toUInt32.toInt32 else (if sel = (1 : Int32) then (p2 + (1 : Int32)).toUInt32.toUInt16.toUInt32.toInt32 else (if sel = (2 : Int32) then (p2 + (2 : Int32)).toUInt32.toUInt16.toUInt32.toInt32 else p3.toUInt32.toUInt16.toUInt32.toInt32))) := ⟨_, rfl⟩
    refine Own.Goes.join (mkF m 208 #[.val (.int p0), .val (.int p1), .val (.int p2), .val (.int p3), .val (.int (3 : Int32)), .val (.int (3 : Int32)), .val (.int y0), .val (.int y1), .val (.int y2), .val (.int y3), .val (.ref a315), .val (.int sel), .val (.int cz), .unset, .unset] []) (fun kJ327 => ?_) ?_
    · refine Own.ifFn hx (Own.z_ne sel) (hb hby at_164) (pcN := 167) rfl (by decide) (pcT := 174) rfl (fun hc324 => ?_) (fun hc324 => ?_)
      · refine Own.iload hx sel (hb hby at_174) rfl rfl ?_
        refine Own.iconst hx (1 : Int32) (hb hby at_176) rfl (by decide) ?_
        refine Own.icmpFn hx (Own.q_ne sel (1 : Int32)) (hb hby at_177) (pcN := 180) rfl (by decide) (pcT := 189) rfl (fun hc328 => ?_) (fun hc328 => ?_)
        · refine Own.iload hx sel (hb hby at_189) rfl rfl ?_
          refine Own.iconst hx (2 : Int32) (hb hby at_191) rfl (by decide) ?_
          refine Own.icmpFn hx (Own.q_ne sel (2 : Int32)) (hb hby at_192) (pcN := 195) rfl (by decide) (pcT := 204) rfl (fun hc329 => ?_) (fun hc329 => ?_)
          · refine Own.iloadN hx p3 (hb hby at_204) rfl rfl ?_
            refine Own.i2c hx (hb hby at_205) rfl ?_
            refine Own.istore hx p3.toUInt32.toUInt16.toUInt32.toInt32 rfl #[.val (.int p0), .val (.int p1), .val (.int p2), .val (.int p3), .val (.int (3 : Int32)), .val (.int (3 : Int32)), .val (.int y0), .val (.int y1), .val (.int y2), .val (.int y3), .val (.ref a315), .val (.int sel), .val (.int p3.toUInt32.toUInt16.toUInt32.toInt32), .unset, .unset] (hb hby at_206) rfl rfl ?_
            try simp only [if_neg hc324, if_neg hc328, if_neg hc329] at h_cz
            subst h_cz
            exact kJ327
          · refine Own.iloadN hx p2 (hb hby at_195) rfl rfl ?_
            refine Own.iconst hx (2 : Int32) (hb hby at_196) rfl (by decide) ?_
            refine Own.iadd hx (hb hby at_197) rfl ?_
            refine Own.i2c hx (hb hby at_198) rfl ?_
            refine Own.istore hx (p2 + (2 : Int32)).toUInt32.toUInt16.toUInt32.toInt32 rfl #[.val (.int p0), .val (.int p1), .val (.int p2), .val (.int p3), .val (.int (3 : Int32)), .val (.int (3 : Int32)), .val (.int y0), .val (.int y1), .val (.int y2), .val (.int y3), .val (.ref a315), .val (.int sel), .val (.int (p2 + (2 : Int32)).toUInt32.toUInt16.toUInt32.toInt32), .unset, .unset] (hb hby at_199) rfl rfl ?_
            refine Own.goto hx (hb hby at_201) (by decide) (pc' := 208) rfl ?_
            try simp only [if_neg hc324, if_neg hc328, if_pos hc329] at h_cz
            subst h_cz
            exact kJ327
        · refine Own.iloadN hx p2 (hb hby at_180) rfl rfl ?_
          refine Own.iconst hx (1 : Int32) (hb hby at_181) rfl (by decide) ?_
          refine Own.iadd hx (hb hby at_182) rfl ?_
          refine Own.i2c hx (hb hby at_183) rfl ?_
          refine Own.istore hx (p2 + (1 : Int32)).toUInt32.toUInt16.toUInt32.toInt32 rfl #[.val (.int p0), .val (.int p1), .val (.int p2), .val (.int p3), .val (.int (3 : Int32)), .val (.int (3 : Int32)), .val (.int y0), .val (.int y1), .val (.int y2), .val (.int y3), .val (.ref a315), .val (.int sel), .val (.int (p2 + (1 : Int32)).toUInt32.toUInt16.toUInt32.toInt32), .unset, .unset] (hb hby at_184) rfl rfl ?_
          refine Own.goto hx (hb hby at_186) (by decide) (pc' := 208) rfl ?_
          try simp only [if_neg hc324, if_pos hc328] at h_cz
          subst h_cz
          exact kJ327
      · refine Own.iloadN hx p2 (hb hby at_167) rfl rfl ?_
        refine Own.i2c hx (hb hby at_168) rfl ?_
        refine Own.istore hx p2.toUInt32.toUInt16.toUInt32.toInt32 rfl #[.val (.int p0), .val (.int p1), .val (.int p2), .val (.int p3), .val (.int (3 : Int32)), .val (.int (3 : Int32)), .val (.int y0), .val (.int y1), .val (.int y2), .val (.int y3), .val (.ref a315), .val (.int sel), .val (.int p2.toUInt32.toUInt16.toUInt32.toInt32), .unset, .unset] (hb hby at_169) rfl rfl ?_
        refine Own.goto hx (hb hby at_171) (by decide) (pc' := 208) rfl ?_
        try simp only [if_pos hc324] at h_cz
        subst h_cz
        exact kJ327
    refine Own.aload hx (.ref a315) (hb hby at_208) rfl rfl rfl ?_
    refine Own.iload hx (3 : Int32) (hb hby at_210) rfl rfl ?_
    refine Own.iload hx cz (hb hby at_212) rfl rfl ?_
    refine Own.iconst hx (4 : Int32) (hb hby at_214) rfl (by decide) ?_
    refine Own.callS hx hZ hown (hw _ (List.mem_of_getElem? (i := 1) rfl)) (hw _ (List.mem_of_getElem? (i := 2) rfl)) (hw _ (List.mem_of_getElem? (i := 3) rfl)) (hw _ (List.mem_of_getElem? (i := 4) rfl)) (by decide) pd2 (argsL := [(.ref a315), (.int (3 : Int32)), (.int cz), (.int (4 : Int32))]) (rest := []) rfl (W := 0) (Nat.le_of_eq rfl) (rm := ({ frames := 1, cells := 0, slots := 0, locals := 24 } : Room)) (by decide) (by decide) (by decide) (by decide) (k' := 1) (n' := 3) rfl rfl (by rw [hml]; rfl) [(.int (4 : Int32)), (.int cz), (.int (3 : Int32)), (.ref a315)] rfl (hb hby at_215) (pc' := 218) rfl (rm1_3_3_4 l Z a0 hw a315 cz h322 n0 y0 y1 y2 ([]) O323 (own_idem h_y0) (own_idem h_y1) (own_idem h_y2) (own_cz h_cz)) ?_
    rintro _ h' ⟨rfl, eh⟩
    rw [eh]; clear eh h'
    show Own.Goes _ _ _ _ _ _ _ _ _ _ _ _ _ _ _ _ _ (mkF m 218 #[.val (.int p0), .val (.int p1), .val (.int p2), .val (.int p3), .val (.int (3 : Int32)), .val (.int (3 : Int32)), .val (.int y0), .val (.int y1), .val (.int y2), .val (.int y3), .val (.ref a315), .val (.int sel), .val (.int cz), .unset, .unset] [(.int (0 : Int32))])
    have hc330 : (0 : Int32) = (0 : Int32) := by decide
    refine Own.ifF hx (Own.z_eq (0 : Int32)) (hb hby at_218) (pcN := 221) rfl (by decide) (pcT := 227) rfl (fun _ => ?_) (fun q => absurd hc330 q)
    refine Own.aload hx (.ref a315) (hb hby at_227) rfl rfl rfl ?_
    refine Own.iload hx (3 : Int32) (hb hby at_229) rfl rfl ?_
    refine Own.iload hx cz (hb hby at_231) rfl rfl ?_
    refine Own.iconst hx (3 : Int32) (hb hby at_233) rfl (by decide) ?_
    refine Own.callS hx hZ hown (hw _ (List.mem_of_getElem? (i := 1) rfl)) (hw _ (List.mem_of_getElem? (i := 2) rfl)) (hw _ (List.mem_of_getElem? (i := 3) rfl)) (hw _ (List.mem_of_getElem? (i := 4) rfl)) (by decide) pd2 (argsL := [(.ref a315), (.int (3 : Int32)), (.int cz), (.int (3 : Int32))]) (rest := []) rfl (W := 0) (Nat.le_of_eq rfl) (rm := ({ frames := 1, cells := 0, slots := 0, locals := 24 } : Room)) (by decide) (by decide) (by decide) (by decide) (k' := 1) (n' := 3) rfl rfl (by rw [hml]; rfl) [(.int (3 : Int32)), (.int cz), (.int (3 : Int32)), (.ref a315)] rfl (hb hby at_234) (pc' := 237) rfl (rm1_3_3_3 l Z a0 hw a315 cz h322 n0 y0 y1 y2 ([]) O323 (own_idem h_y0) (own_idem h_y1) (own_idem h_y2) (own_cz h_cz)) ?_
    rintro _ h' ⟨rfl, eh⟩
    rw [eh]; clear eh h'
    show Own.Goes _ _ _ _ _ _ _ _ _ _ _ _ _ _ _ _ _ (mkF m 237 #[.val (.int p0), .val (.int p1), .val (.int p2), .val (.int p3), .val (.int (3 : Int32)), .val (.int (3 : Int32)), .val (.int y0), .val (.int y1), .val (.int y2), .val (.int y3), .val (.ref a315), .val (.int sel), .val (.int cz), .unset, .unset] [(.int (fX3_3_3 y0 y1 y2 cz))])
    obtain ⟨ex, h_ex⟩ : ∃ z : Int32, z = (if (fX3_3_3 y0 y1 y2 cz) = (0 : Int32) then (if (fX3_3_2 y0 y1 y2 cz) = (0 : Int32) then (if (fX3_3_1 y0 y1 y2 cz) = (0 : Int32) then (0 : Int32) else (1 : Int32)) else (2 : Int32)) else (3 : Int32)) := ⟨_, rfl⟩
    refine Own.Goes.join (mkF m 287 #[.val (.int p0), .val (.int p1), .val (.int p2), .val (.int p3), .val (.int (3 : Int32)), .val (.int (3 : Int32)), .val (.int y0), .val (.int y1), .val (.int y2), .val (.int y3), .val (.ref a315), .val (.int sel), .val (.int cz), .val (.int ex), .unset] []) (fun kJ335 => ?_) ?_
    · refine Own.ifF hx (Own.z_eq (fX3_3_3 y0 y1 y2 cz)) (hb hby at_237) (pcN := 240) rfl (by decide) (pcT := 246) rfl (fun hc332 => ?_) (fun hc332 => ?_)
      · refine Own.aload hx (.ref a315) (hb hby at_246) rfl rfl rfl ?_
        refine Own.iload hx (3 : Int32) (hb hby at_248) rfl rfl ?_
        refine Own.iload hx cz (hb hby at_250) rfl rfl ?_
        refine Own.iconst hx (2 : Int32) (hb hby at_252) rfl (by decide) ?_
        refine Own.callS hx hZ hown (hw _ (List.mem_of_getElem? (i := 1) rfl)) (hw _ (List.mem_of_getElem? (i := 2) rfl)) (hw _ (List.mem_of_getElem? (i := 3) rfl)) (hw _ (List.mem_of_getElem? (i := 4) rfl)) (by decide) pd2 (argsL := [(.ref a315), (.int (3 : Int32)), (.int cz), (.int (2 : Int32))]) (rest := []) rfl (W := 0) (Nat.le_of_eq rfl) (rm := ({ frames := 1, cells := 0, slots := 0, locals := 24 } : Room)) (by decide) (by decide) (by decide) (by decide) (k' := 1) (n' := 3) rfl rfl (by rw [hml]; rfl) [(.int (2 : Int32)), (.int cz), (.int (3 : Int32)), (.ref a315)] rfl (hb hby at_253) (pc' := 256) rfl (rm1_3_3_2 l Z a0 hw a315 cz h322 n0 y0 y1 y2 ([]) O323 (own_idem h_y0) (own_idem h_y1) (own_idem h_y2) (own_cz h_cz)) ?_
        rintro _ h' ⟨rfl, eh⟩
        rw [eh]; clear eh h'
        show Own.Goes _ _ _ _ _ _ _ _ _ _ _ _ _ _ _ _ _ (mkF m 256 #[.val (.int p0), .val (.int p1), .val (.int p2), .val (.int p3), .val (.int (3 : Int32)), .val (.int (3 : Int32)), .val (.int y0), .val (.int y1), .val (.int y2), .val (.int y3), .val (.ref a315), .val (.int sel), .val (.int cz), .unset, .unset] [(.int (fX3_3_2 y0 y1 y2 cz))])
        refine Own.ifF hx (Own.z_eq (fX3_3_2 y0 y1 y2 cz)) (hb hby at_256) (pcN := 259) rfl (by decide) (pcT := 265) rfl (fun hc336 => ?_) (fun hc336 => ?_)
        · refine Own.aload hx (.ref a315) (hb hby at_265) rfl rfl rfl ?_
          refine Own.iload hx (3 : Int32) (hb hby at_267) rfl rfl ?_
          refine Own.iload hx cz (hb hby at_269) rfl rfl ?_
          refine Own.iconst hx (1 : Int32) (hb hby at_271) rfl (by decide) ?_
          refine Own.callS hx hZ hown (hw _ (List.mem_of_getElem? (i := 1) rfl)) (hw _ (List.mem_of_getElem? (i := 2) rfl)) (hw _ (List.mem_of_getElem? (i := 3) rfl)) (hw _ (List.mem_of_getElem? (i := 4) rfl)) (by decide) pd2 (argsL := [(.ref a315), (.int (3 : Int32)), (.int cz), (.int (1 : Int32))]) (rest := []) rfl (W := 0) (Nat.le_of_eq rfl) (rm := ({ frames := 1, cells := 0, slots := 0, locals := 24 } : Room)) (by decide) (by decide) (by decide) (by decide) (k' := 1) (n' := 3) rfl rfl (by rw [hml]; rfl) [(.int (1 : Int32)), (.int cz), (.int (3 : Int32)), (.ref a315)] rfl (hb hby at_272) (pc' := 275) rfl (rm1_3_3_1 l Z a0 hw a315 cz h322 n0 y0 y1 y2 ([]) O323 (own_idem h_y0) (own_idem h_y1) (own_idem h_y2) (own_cz h_cz)) ?_
          rintro _ h' ⟨rfl, eh⟩
          rw [eh]; clear eh h'
          show Own.Goes _ _ _ _ _ _ _ _ _ _ _ _ _ _ _ _ _ (mkF m 275 #[.val (.int p0), .val (.int p1), .val (.int p2), .val (.int p3), .val (.int (3 : Int32)), .val (.int (3 : Int32)), .val (.int y0), .val (.int y1), .val (.int y2), .val (.int y3), .val (.ref a315), .val (.int sel), .val (.int cz), .unset, .unset] [(.int (fX3_3_1 y0 y1 y2 cz))])
          refine Own.ifF hx (Own.z_eq (fX3_3_1 y0 y1 y2 cz)) (hb hby at_275) (pcN := 278) rfl (by decide) (pcT := 284) rfl (fun hc337 => ?_) (fun hc337 => ?_)
          · refine Own.iconst hx (0 : Int32) (hb hby at_284) rfl (by decide) ?_
            refine Own.istore hx (0 : Int32) rfl #[.val (.int p0), .val (.int p1), .val (.int p2), .val (.int p3), .val (.int (3 : Int32)), .val (.int (3 : Int32)), .val (.int y0), .val (.int y1), .val (.int y2), .val (.int y3), .val (.ref a315), .val (.int sel), .val (.int cz), .val (.int (0 : Int32)), .unset] (hb hby at_285) rfl rfl ?_
            try simp only [if_pos hc332, if_pos hc336, if_pos hc337] at h_ex
            subst h_ex
            exact kJ335
          · refine Own.iconst hx (1 : Int32) (hb hby at_278) rfl (by decide) ?_
            refine Own.istore hx (1 : Int32) rfl #[.val (.int p0), .val (.int p1), .val (.int p2), .val (.int p3), .val (.int (3 : Int32)), .val (.int (3 : Int32)), .val (.int y0), .val (.int y1), .val (.int y2), .val (.int y3), .val (.ref a315), .val (.int sel), .val (.int cz), .val (.int (1 : Int32)), .unset] (hb hby at_279) rfl rfl ?_
            refine Own.goto hx (hb hby at_281) (by decide) (pc' := 287) rfl ?_
            try simp only [if_pos hc332, if_pos hc336, if_neg hc337] at h_ex
            subst h_ex
            exact kJ335
        · refine Own.iconst hx (2 : Int32) (hb hby at_259) rfl (by decide) ?_
          refine Own.istore hx (2 : Int32) rfl #[.val (.int p0), .val (.int p1), .val (.int p2), .val (.int p3), .val (.int (3 : Int32)), .val (.int (3 : Int32)), .val (.int y0), .val (.int y1), .val (.int y2), .val (.int y3), .val (.ref a315), .val (.int sel), .val (.int cz), .val (.int (2 : Int32)), .unset] (hb hby at_260) rfl rfl ?_
          refine Own.goto hx (hb hby at_262) (by decide) (pc' := 287) rfl ?_
          try simp only [if_pos hc332, if_neg hc336] at h_ex
          subst h_ex
          exact kJ335
      · refine Own.iconst hx (3 : Int32) (hb hby at_240) rfl (by decide) ?_
        refine Own.istore hx (3 : Int32) rfl #[.val (.int p0), .val (.int p1), .val (.int p2), .val (.int p3), .val (.int (3 : Int32)), .val (.int (3 : Int32)), .val (.int y0), .val (.int y1), .val (.int y2), .val (.int y3), .val (.ref a315), .val (.int sel), .val (.int cz), .val (.int (3 : Int32)), .unset] (hb hby at_241) rfl rfl ?_
        refine Own.goto hx (hb hby at_243) (by decide) (pc' := 287) rfl ?_
        try simp only [if_neg hc332] at h_ex
        subst h_ex
        exact kJ335
    refine Own.newobj hx hZ hown O323 (hw _ (List.mem_of_getElem? (i := 8) rfl)) (hw _ (List.mem_of_getElem? (i := 9) rfl)) (hw _ (List.mem_of_getElem? (i := 10) rfl)) [(("com/example/idxof/idxof/KnuthMorrisPrattPattern", "chars", "[C"), .null), (("com/example/idxof/idxof/KnuthMorrisPrattPattern", "borders", "[I"), .null)] (by intro f hf; simp only [List.mem_cons, List.not_mem_nil, or_false] at hf; rcases hf with rfl | rfl; exact ⟨Or.inr (hw _ (List.mem_of_getElem? (i := 18) rfl)), (.array .char), by decide, rfl⟩; exact ⟨Or.inr (hw _ (List.mem_of_getElem? (i := 25) rfl)), (.array .int), by decide, rfl⟩) (by decide) (k' := 2) (n' := 5) rfl rfl (by decide) (by decide) (hb hby at_287) (pc' := 290) rfl ?_
    intro a338 h339 O340
    refine Own.dup hx (hb hby at_290) rfl rfl ?_
    refine Own.aload hx (.ref a315) (hb hby at_291) rfl rfl rfl ?_
    have O341 : Own.Owns n0 h339 ((a315, Own.ArrC Z .char [(.int y0), (.int y1), (.int y2)]) :: (a338, Own.ObjC Z "com/example/idxof/idxof/KnuthMorrisPrattPattern" [(("com/example/idxof/idxof/KnuthMorrisPrattPattern", "chars", "[C"), .null), (("com/example/idxof/idxof/KnuthMorrisPrattPattern", "borders", "[I"), .null)]) :: []) := O340.pick 1 rfl
    have O342 : Own.Owns n0 h339 ((a338, Own.ObjC Z "com/example/idxof/idxof/KnuthMorrisPrattPattern" [(("com/example/idxof/idxof/KnuthMorrisPrattPattern", "chars", "[C"), .null), (("com/example/idxof/idxof/KnuthMorrisPrattPattern", "borders", "[I"), .null)]) :: (a315, Own.ArrC Z .char [(.int y0), (.int y1), (.int y2)]) :: []) := O341.pick 1 rfl
    refine Own.callI hx hZ hown rfl (hw _ (List.mem_of_getElem? (i := 11) rfl)) (hw _ (List.mem_of_getElem? (i := 12) rfl)) (hw _ (List.mem_of_getElem? (i := 10) rfl)) (hw _ (List.mem_of_getElem? (i := 13) rfl)) (by decide) pd3 (argsL := [(.ref a315)]) (rest := [(.ref a338)]) rfl (W := 1) (Nat.le_of_eq rfl) (rm := ({ frames := 1, cells := 1, slots := 4, locals := 16 } : Room)) (by decide) (by decide) (by decide) (by decide) (k' := 3) (n' := 9) rfl rfl (by rw [hml]; rfl) [(.ref a315), (.ref a338), (.ref a338)] rfl (hb hby at_293) (pc' := 296) rfl (rm3 l Z a0 hw a338 a315 h339 n0 [y0, y1, y2] (by exact (show 3 ≤ 4 by decide)) ([]) O342) ?_
    rintro _ h344 ⟨r343, rfl, O345⟩
    show Own.Goes _ _ _ _ _ _ _ _ _ _ _ _ _ _ _ _ _ (mkF m 296 #[.val (.int p0), .val (.int p1), .val (.int p2), .val (.int p3), .val (.int (3 : Int32)), .val (.int (3 : Int32)), .val (.int y0), .val (.int y1), .val (.int y2), .val (.int y3), .val (.ref a315), .val (.int sel), .val (.int cz), .val (.int ex), .unset] [(.ref a338)])
    refine Own.astore hx #[.val (.int p0), .val (.int p1), .val (.int p2), .val (.int p3), .val (.int (3 : Int32)), .val (.int (3 : Int32)), .val (.int y0), .val (.int y1), .val (.int y2), .val (.int y3), .val (.ref a315), .val (.int sel), .val (.int cz), .val (.int ex), .val (.ref a338)] (hb hby at_296) rfl rfl rfl ?_
    refine Own.aload hx (.ref a338) (hb hby at_298) rfl rfl rfl ?_
    refine Own.iload hx (3 : Int32) (hb hby at_300) rfl rfl ?_
    refine Own.iload hx cz (hb hby at_302) rfl rfl ?_
    have O346 : Own.Owns n0 h344 ((r343, Own.ArrC Z .int ((ofL [y0, y1, y2]).map gI)) :: (a338, Own.ObjC Z "com/example/idxof/idxof/KnuthMorrisPrattPattern" [(("com/example/idxof/idxof/KnuthMorrisPrattPattern", "chars", "[C"), (.ref a315)), (("com/example/idxof/idxof/KnuthMorrisPrattPattern", "borders", "[I"), (.ref r343))]) :: (a315, Own.ArrC Z .char [(.int y0), (.int y1), (.int y2)]) :: []) := O345.pick 1 rfl
    have O347 : Own.Owns n0 h344 ((a315, Own.ArrC Z .char [(.int y0), (.int y1), (.int y2)]) :: (r343, Own.ArrC Z .int ((ofL [y0, y1, y2]).map gI)) :: (a338, Own.ObjC Z "com/example/idxof/idxof/KnuthMorrisPrattPattern" [(("com/example/idxof/idxof/KnuthMorrisPrattPattern", "chars", "[C"), (.ref a315)), (("com/example/idxof/idxof/KnuthMorrisPrattPattern", "borders", "[I"), (.ref r343))]) :: []) := O346.pick 2 rfl
    have O348 : Own.Owns n0 h344 ((a338, Own.ObjC Z "com/example/idxof/idxof/KnuthMorrisPrattPattern" [(("com/example/idxof/idxof/KnuthMorrisPrattPattern", "chars", "[C"), (.ref a315)), (("com/example/idxof/idxof/KnuthMorrisPrattPattern", "borders", "[I"), (.ref r343))]) :: (a315, Own.ArrC Z .char [(.int y0), (.int y1), (.int y2)]) :: (r343, Own.ArrC Z .int ((ofL [y0, y1, y2]).map gI)) :: []) := O347.pick 2 rfl
    refine Own.callV hx hZ hown (O348.exa (i := 0) rfl) (hw _ (List.mem_of_getElem? (i := 26) rfl)) (hw _ (List.mem_of_getElem? (i := 27) rfl)) (hw _ (List.mem_of_getElem? (i := 29) rfl)) (hw _ (List.mem_of_getElem? (i := 28) rfl)) (hw _ (List.mem_of_getElem? (i := 10) rfl)) (hw _ (List.mem_of_getElem? (i := 30) rfl)) (by decide) pd4 (argsL := [(.int (3 : Int32)), (.int cz)]) (rest := []) rfl (W := 0) (Nat.le_of_eq rfl) (rm := ({ frames := 0, cells := 0, slots := 0, locals := 0 } : Room)) (by decide) (by decide) (by decide) (by decide) (k' := 3) (n' := 9) rfl rfl (by rw [hml]; rfl) [(.int cz), (.int (3 : Int32)), (.ref a338)] rfl (hb hby at_304) (pc' := 307) rfl (rm6_3_3 l Z a0 hw a338 cz h344 n0 [y0, y1, y2] rfl a315 r343 ([]) O348) ?_
    rintro _ h' ⟨rfl, eh⟩
    rw [eh]; clear eh h'
    show Own.Goes _ _ _ _ _ _ _ _ _ _ _ _ _ _ _ _ _ (mkF m 307 #[.val (.int p0), .val (.int p1), .val (.int p2), .val (.int p3), .val (.int (3 : Int32)), .val (.int (3 : Int32)), .val (.int y0), .val (.int y1), .val (.int y2), .val (.int y3), .val (.ref a315), .val (.int sel), .val (.int cz), .val (.int ex), .val (.ref a338)] [(.int (nextE (eqAt ([y0, y1, y2] ++ [cz])) (ofL [y0, y1, y2]) [y0, y1, y2].length ((ofL [y0, y1, y2]).getD 2 0)).toInt32)])
    refine Own.iload hx ex (hb hby at_307) rfl rfl ?_
    obtain ⟨z, h_z⟩ : ∃ z : Int32, z = (if (nextE (eqAt ([y0, y1, y2] ++ [cz])) (ofL [y0, y1, y2]) [y0, y1, y2].length ((ofL [y0, y1, y2]).getD 2 0)).toInt32 = ex then (1 : Int32) else (0 : Int32)) := ⟨_, rfl⟩
    refine Own.Goes.join (mkF m 317 #[.val (.int p0), .val (.int p1), .val (.int p2), .val (.int p3), .val (.int (3 : Int32)), .val (.int (3 : Int32)), .val (.int y0), .val (.int y1), .val (.int y2), .val (.int y3), .val (.ref a315), .val (.int sel), .val (.int cz), .val (.int ex), .val (.ref a338)] [(.int z)]) (fun kJ350 => ?_) ?_
    · refine Own.icmpFn hx (Own.q_ne (nextE (eqAt ([y0, y1, y2] ++ [cz])) (ofL [y0, y1, y2]) [y0, y1, y2].length ((ofL [y0, y1, y2]).getD 2 0)).toInt32 ex) (hb hby at_309) (pcN := 312) rfl (by decide) (pcT := 316) rfl (fun hc349 => ?_) (fun hc349 => ?_)
      · refine Own.iconst hx (0 : Int32) (hb hby at_316) rfl (by decide) ?_
        try simp only [if_neg hc349] at h_z
        subst h_z
        exact kJ350
      · refine Own.iconst hx (1 : Int32) (hb hby at_312) rfl (by decide) ?_
        refine Own.goto hx (hb hby at_313) (by decide) (pc' := 317) rfl ?_
        try simp only [if_pos hc349] at h_z
        subst h_z
        exact kJ350
    exact Own.retS hx hret (by simp) hlk (hb hby at_317) (by decide) (by decide) (Own.bool1 (own_fin3_3 h_ex h_z))
  · subst q q'
    refine Own.iloadN hx p2 (hb hby at_20) rfl rfl ?_
    refine Own.iloadN hx p1 (hb hby at_21) rfl rfl ?_
    refine Own.iconst hx (1 : Int32) (hb hby at_22) rfl (by decide) ?_
    refine Own.iand hx (hb hby at_23) rfl ?_
    refine Own.iadd hx (hb hby at_24) rfl ?_
    refine Own.i2c hx (hb hby at_25) rfl ?_
    obtain ⟨y0, h_y0⟩ : ∃ z : Int32, z = (p2 + (p1 &&& (1 : Int32))).toUInt32.toUInt16.toUInt32.toInt32 := ⟨_, rfl⟩
    refine Own.istore hx y0 h_y0 #[.val (.int p0), .val (.int p1), .val (.int p2), .val (.int p3), .val (.int (4 : Int32)), .val (.int (0 : Int32)), .val (.int y0), .unset, .unset, .unset, .unset, .unset, .unset, .unset, .unset] (hb hby at_26) rfl rfl ?_
    refine Own.iloadN hx p2 (hb hby at_28) rfl rfl ?_
    refine Own.iloadN hx p1 (hb hby at_29) rfl rfl ?_
    refine Own.iconst hx (1 : Int32) (hb hby at_30) rfl (by decide) ?_
    refine Own.iushr hx (hb hby at_31) rfl ?_
    refine Own.iconst hx (1 : Int32) (hb hby at_32) rfl (by decide) ?_
    refine Own.iand hx (hb hby at_33) rfl ?_
    refine Own.iadd hx (hb hby at_34) rfl ?_
    refine Own.i2c hx (hb hby at_35) rfl ?_
    obtain ⟨y1, h_y1⟩ : ∃ z : Int32, z = (p2 + ((p1.toUInt32 >>> ((1 : Int32) &&& 31).toUInt32).toInt32 &&& (1 : Int32))).toUInt32.toUInt16.toUInt32.toInt32 := ⟨_, rfl⟩
    refine Own.istore hx y1 h_y1 #[.val (.int p0), .val (.int p1), .val (.int p2), .val (.int p3), .val (.int (4 : Int32)), .val (.int (0 : Int32)), .val (.int y0), .val (.int y1), .unset, .unset, .unset, .unset, .unset, .unset, .unset] (hb hby at_36) rfl rfl ?_
    refine Own.iloadN hx p2 (hb hby at_38) rfl rfl ?_
    refine Own.iloadN hx p1 (hb hby at_39) rfl rfl ?_
    refine Own.iconst hx (2 : Int32) (hb hby at_40) rfl (by decide) ?_
    refine Own.iushr hx (hb hby at_41) rfl ?_
    refine Own.iconst hx (1 : Int32) (hb hby at_42) rfl (by decide) ?_
    refine Own.iand hx (hb hby at_43) rfl ?_
    refine Own.iadd hx (hb hby at_44) rfl ?_
    refine Own.i2c hx (hb hby at_45) rfl ?_
    obtain ⟨y2, h_y2⟩ : ∃ z : Int32, z = (p2 + ((p1.toUInt32 >>> ((2 : Int32) &&& 31).toUInt32).toInt32 &&& (1 : Int32))).toUInt32.toUInt16.toUInt32.toInt32 := ⟨_, rfl⟩
    refine Own.istore hx y2 h_y2 #[.val (.int p0), .val (.int p1), .val (.int p2), .val (.int p3), .val (.int (4 : Int32)), .val (.int (0 : Int32)), .val (.int y0), .val (.int y1), .val (.int y2), .unset, .unset, .unset, .unset, .unset, .unset] (hb hby at_46) rfl rfl ?_
    refine Own.iloadN hx p2 (hb hby at_48) rfl rfl ?_
    refine Own.iloadN hx p1 (hb hby at_49) rfl rfl ?_
    refine Own.iconst hx (3 : Int32) (hb hby at_50) rfl (by decide) ?_
    refine Own.iushr hx (hb hby at_51) rfl ?_
    refine Own.iconst hx (1 : Int32) (hb hby at_52) rfl (by decide) ?_
    refine Own.iand hx (hb hby at_53) rfl ?_
    refine Own.iadd hx (hb hby at_54) rfl ?_
    refine Own.i2c hx (hb hby at_55) rfl ?_
    obtain ⟨y3, h_y3⟩ : ∃ z : Int32, z = (p2 + ((p1.toUInt32 >>> ((3 : Int32) &&& 31).toUInt32).toInt32 &&& (1 : Int32))).toUInt32.toUInt16.toUInt32.toInt32 := ⟨_, rfl⟩
    refine Own.istore hx y3 h_y3 #[.val (.int p0), .val (.int p1), .val (.int p2), .val (.int p3), .val (.int (4 : Int32)), .val (.int (0 : Int32)), .val (.int y0), .val (.int y1), .val (.int y2), .val (.int y3), .unset, .unset, .unset, .unset, .unset] (hb hby at_56) rfl rfl ?_
    refine Own.iload hx (4 : Int32) (hb hby at_58) rfl rfl ?_
    refine Own.iconst hx (1 : Int32) (hb hby at_60) rfl (by decide) ?_
    have hc351 : ¬ ((4 : Int32) = (1 : Int32)) := by decide
    refine Own.icmpFn hx (Own.q_ne (4 : Int32) (1 : Int32)) (hb hby at_61) (pcN := 64) rfl (by decide) (pcT := 77) rfl (fun _ => ?_) (fun q => absurd q hc351)
    refine Own.iload hx (4 : Int32) (hb hby at_77) rfl rfl ?_
    refine Own.iconst hx (2 : Int32) (hb hby at_79) rfl (by decide) ?_
    have hc353 : ¬ ((4 : Int32) = (2 : Int32)) := by decide
    refine Own.icmpFn hx (Own.q_ne (4 : Int32) (2 : Int32)) (hb hby at_80) (pcN := 83) rfl (by decide) (pcT := 101) rfl (fun _ => ?_) (fun q => absurd q hc353)
    refine Own.iload hx (4 : Int32) (hb hby at_101) rfl rfl ?_
    refine Own.iconst hx (3 : Int32) (hb hby at_103) rfl (by decide) ?_
    have hc355 : ¬ ((4 : Int32) = (3 : Int32)) := by decide
    refine Own.icmpFn hx (Own.q_ne (4 : Int32) (3 : Int32)) (hb hby at_104) (pcN := 107) rfl (by decide) (pcT := 130) rfl (fun _ => ?_) (fun q => absurd q hc355)
    refine Own.iconst hx (4 : Int32) (hb hby at_130) rfl (by decide) ?_
    refine Own.newarr hx hZ O0 (aty := .char) (hw _ (List.mem_of_getElem? (i := 0) rfl)) 4 (by decide) [(.int (0 : Int32)), (.int (0 : Int32)), (.int (0 : Int32)), (.int (0 : Int32))] rfl rfl (cap := 4) (by decide) (by decide) (k' := 1) (n' := 4) rfl rfl (by decide) (by decide) (hb hby at_131) (pc' := 133) rfl ?_
    intro a357 h358 O359
    refine Own.dup hx (hb hby at_133) rfl rfl ?_
    refine Own.iconst hx (0 : Int32) (hb hby at_134) rfl (by decide) ?_
    refine Own.iload hx y0 (hb hby at_135) rfl rfl ?_
    refine Own.castore hx hZ O359 0 0 rfl (by decide) (by exact (show 0 < 4 by decide)) ((a357, Own.ArrC Z .char [(.int y0), (.int (0 : Int32)), (.int (0 : Int32)), (.int (0 : Int32))]) :: []) (by rw [own_idem h_y0]; rfl) (hb hby at_137) rfl ?_
    intro h360 O361
    refine Own.dup hx (hb hby at_138) rfl rfl ?_
    refine Own.iconst hx (1 : Int32) (hb hby at_139) rfl (by decide) ?_
    refine Own.iload hx y1 (hb hby at_140) rfl rfl ?_
    refine Own.castore hx hZ O361 0 1 rfl (by decide) (by exact (show 1 < 4 by decide)) ((a357, Own.ArrC Z .char [(.int y0), (.int y1), (.int (0 : Int32)), (.int (0 : Int32))]) :: []) (by rw [own_idem h_y1]; rfl) (hb hby at_142) rfl ?_
    intro h362 O363
    refine Own.dup hx (hb hby at_143) rfl rfl ?_
    refine Own.iconst hx (2 : Int32) (hb hby at_144) rfl (by decide) ?_
    refine Own.iload hx y2 (hb hby at_145) rfl rfl ?_
    refine Own.castore hx hZ O363 0 2 rfl (by decide) (by exact (show 2 < 4 by decide)) ((a357, Own.ArrC Z .char [(.int y0), (.int y1), (.int y2), (.int (0 : Int32))]) :: []) (by rw [own_idem h_y2]; rfl) (hb hby at_147) rfl ?_
    intro h364 O365
    refine Own.dup hx (hb hby at_148) rfl rfl ?_
    refine Own.iconst hx (3 : Int32) (hb hby at_149) rfl (by decide) ?_
    refine Own.iload hx y3 (hb hby at_150) rfl rfl ?_
    refine Own.castore hx hZ O365 0 3 rfl (by decide) (by exact (show 3 < 4 by decide)) ((a357, Own.ArrC Z .char [(.int y0), (.int y1), (.int y2), (.int y3)]) :: []) (by rw [own_idem h_y3]; rfl) (hb hby at_152) rfl ?_
    intro h366 O367
    refine Own.astore hx #[.val (.int p0), .val (.int p1), .val (.int p2), .val (.int p3), .val (.int (4 : Int32)), .val (.int (0 : Int32)), .val (.int y0), .val (.int y1), .val (.int y2), .val (.int y3), .val (.ref a357), .unset, .unset, .unset, .unset] (hb hby at_153) rfl rfl rfl ?_
    refine Own.iloadN hx p1 (hb hby at_155) rfl rfl ?_
    refine Own.iconst hx (4 : Int32) (hb hby at_156) rfl (by decide) ?_
    refine Own.iushr hx (hb hby at_157) rfl ?_
    refine Own.iconst hx (3 : Int32) (hb hby at_158) rfl (by decide) ?_
    refine Own.iand hx (hb hby at_159) rfl ?_
    obtain ⟨sel, h_sel⟩ : ∃ z : Int32, z = ((p1.toUInt32 >>> ((4 : Int32) &&& 31).toUInt32).toInt32 &&& (3 : Int32)) := ⟨_, rfl⟩
    refine Own.istore hx sel h_sel #[.val (.int p0), .val (.int p1), .val (.int p2), .val (.int p3), .val (.int (4 : Int32)), .val (.int (0 : Int32)), .val (.int y0), .val (.int y1), .val (.int y2), .val (.int y3), .val (.ref a357), .val (.int sel), .unset, .unset, .unset] (hb hby at_160) rfl rfl ?_
    refine Own.iload hx sel (hb hby at_162) rfl rfl ?_
    obtain ⟨cz, h_cz⟩ : ∃ z : Int32, z = (if sel = (0 : Int32) then p2.toUInt32.toUInt16.toUInt32.toInt32 else (if sel = (1 : Int32) then (p2 + (1 : Int32)).toUInt32.toUInt16.toUInt32.toInt32 else (if sel = (2 : Int32) then (p2 + (2 : Int32)).toUInt32.toUInt16.toUInt32.toInt32 else p3.toUInt32.toUInt16.toUInt32.toInt32))) := ⟨_, rfl⟩
    refine Own.Goes.join (mkF m 208 #[.val (.int p0), .val (.int p1), .val (.int p2), .val (.int p3), .val (.int (4 : Int32)), .val (.int (0 : Int32)), .val (.int y0), .val (.int y1), .val (.int y2), .val (.int y3), .val (.ref a357), .val (.int sel), .val (.int cz), .unset, .unset] []) (fun kJ371 => ?_) ?_
    · refine Own.ifFn hx (Own.z_ne sel) (hb hby at_164) (pcN := 167) rfl (by decide) (pcT := 174) rfl (fun hc368 => ?_) (fun hc368 => ?_)
      · refine Own.iload hx sel (hb hby at_174) rfl rfl ?_
        refine Own.iconst hx (1 : Int32) (hb hby at_176) rfl (by decide) ?_
        refine Own.icmpFn hx (Own.q_ne sel (1 : Int32)) (hb hby at_177) (pcN := 180) rfl (by decide) (pcT := 189) rfl (fun hc372 => ?_) (fun hc372 => ?_)
        · refine Own.iload hx sel (hb hby at_189) rfl rfl ?_
          refine Own.iconst hx (2 : Int32) (hb hby at_191) rfl (by decide) ?_
          refine Own.icmpFn hx (Own.q_ne sel (2 : Int32)) (hb hby at_192) (pcN := 195) rfl (by decide) (pcT := 204) rfl (fun hc373 => ?_) (fun hc373 => ?_)
          · refine Own.iloadN hx p3 (hb hby at_204) rfl rfl ?_
            refine Own.i2c hx (hb hby at_205) rfl ?_
            refine Own.istore hx p3.toUInt32.toUInt16.toUInt32.toInt32 rfl #[.val (.int p0), .val (.int p1), .val (.int p2), .val (.int p3), .val (.int (4 : Int32)), .val (.int (0 : Int32)), .val (.int y0), .val (.int y1), .val (.int y2), .val (.int y3), .val (.ref a357), .val (.int sel), .val (.int p3.toUInt32.toUInt16.toUInt32.toInt32), .unset, .unset] (hb hby at_206) rfl rfl ?_
            try simp only [if_neg hc368, if_neg hc372, if_neg hc373] at h_cz
            subst h_cz
            exact kJ371
          · refine Own.iloadN hx p2 (hb hby at_195) rfl rfl ?_
            refine Own.iconst hx (2 : Int32) (hb hby at_196) rfl (by decide) ?_
            refine Own.iadd hx (hb hby at_197) rfl ?_
            refine Own.i2c hx (hb hby at_198) rfl ?_
            refine Own.istore hx (p2 + (2 : Int32)).toUInt32.toUInt16.toUInt32.toInt32 rfl #[.val (.int p0), .val (.int p1), .val (.int p2), .val (.int p3), .val (.int (4 : Int32)), .val (.int (0 : Int32)), .val (.int y0), .val (.int y1), .val (.int y2), .val (.int y3), .val (.ref a357), .val (.int sel), .val (.int (p2 + (2 : Int32)).toUInt32.toUInt16.toUInt32.toInt32), .unset, .unset] (hb hby at_199) rfl rfl ?_
            refine Own.goto hx (hb hby at_201) (by decide) (pc' := 208) rfl ?_
            try simp only [if_neg hc368, if_neg hc372, if_pos hc373] at h_cz
            subst h_cz
            exact kJ371
        · refine Own.iloadN hx p2 (hb hby at_180) rfl rfl ?_
          refine Own.iconst hx (1 : Int32) (hb hby at_181) rfl (by decide) ?_
          refine Own.iadd hx (hb hby at_182) rfl ?_
          refine Own.i2c hx (hb hby at_183) rfl ?_
          refine Own.istore hx (p2 + (1 : Int32)).toUInt32.toUInt16.toUInt32.toInt32 rfl #[.val (.int p0), .val (.int p1), .val (.int p2), .val (.int p3), .val (.int (4 : Int32)), .val (.int (0 : Int32)), .val (.int y0), .val (.int y1), .val (.int y2), .val (.int y3), .val (.ref a357), .val (.int sel), .val (.int (p2 + (1 : Int32)).toUInt32.toUInt16.toUInt32.toInt32), .unset, .unset] (hb hby at_184) rfl rfl ?_
          refine Own.goto hx (hb hby at_186) (by decide) (pc' := 208) rfl ?_
          try simp only [if_neg hc368, if_pos hc372] at h_cz
          subst h_cz
          exact kJ371
      · refine Own.iloadN hx p2 (hb hby at_167) rfl rfl ?_
        refine Own.i2c hx (hb hby at_168) rfl ?_
        refine Own.istore hx p2.toUInt32.toUInt16.toUInt32.toInt32 rfl #[.val (.int p0), .val (.int p1), .val (.int p2), .val (.int p3), .val (.int (4 : Int32)), .val (.int (0 : Int32)), .val (.int y0), .val (.int y1), .val (.int y2), .val (.int y3), .val (.ref a357), .val (.int sel), .val (.int p2.toUInt32.toUInt16.toUInt32.toInt32), .unset, .unset] (hb hby at_169) rfl rfl ?_
        refine Own.goto hx (hb hby at_171) (by decide) (pc' := 208) rfl ?_
        try simp only [if_pos hc368] at h_cz
        subst h_cz
        exact kJ371
    refine Own.aload hx (.ref a357) (hb hby at_208) rfl rfl rfl ?_
    refine Own.iload hx (0 : Int32) (hb hby at_210) rfl rfl ?_
    refine Own.iload hx cz (hb hby at_212) rfl rfl ?_
    refine Own.iconst hx (4 : Int32) (hb hby at_214) rfl (by decide) ?_
    refine Own.callS hx hZ hown (hw _ (List.mem_of_getElem? (i := 1) rfl)) (hw _ (List.mem_of_getElem? (i := 2) rfl)) (hw _ (List.mem_of_getElem? (i := 3) rfl)) (hw _ (List.mem_of_getElem? (i := 4) rfl)) (by decide) pd2 (argsL := [(.ref a357), (.int (0 : Int32)), (.int cz), (.int (4 : Int32))]) (rest := []) rfl (W := 0) (Nat.le_of_eq rfl) (rm := ({ frames := 1, cells := 0, slots := 0, locals := 24 } : Room)) (by decide) (by decide) (by decide) (by decide) (k' := 1) (n' := 4) rfl rfl (by rw [hml]; rfl) [(.int (4 : Int32)), (.int cz), (.int (0 : Int32)), (.ref a357)] rfl (hb hby at_215) (pc' := 218) rfl (rm1_4_0_4 l Z a0 hw a357 cz h366 n0 y0 y1 y2 y3 ([]) O367 (own_idem h_y0) (own_idem h_y1) (own_idem h_y2) (own_idem h_y3) (own_cz h_cz)) ?_
    rintro _ h' ⟨rfl, eh⟩
    rw [eh]; clear eh h'
    show Own.Goes _ _ _ _ _ _ _ _ _ _ _ _ _ _ _ _ _ (mkF m 218 #[.val (.int p0), .val (.int p1), .val (.int p2), .val (.int p3), .val (.int (4 : Int32)), .val (.int (0 : Int32)), .val (.int y0), .val (.int y1), .val (.int y2), .val (.int y3), .val (.ref a357), .val (.int sel), .val (.int cz), .unset, .unset] [(.int (0 : Int32))])
    have hc374 : (0 : Int32) = (0 : Int32) := by decide
    refine Own.ifF hx (Own.z_eq (0 : Int32)) (hb hby at_218) (pcN := 221) rfl (by decide) (pcT := 227) rfl (fun _ => ?_) (fun q => absurd hc374 q)
    refine Own.aload hx (.ref a357) (hb hby at_227) rfl rfl rfl ?_
    refine Own.iload hx (0 : Int32) (hb hby at_229) rfl rfl ?_
    refine Own.iload hx cz (hb hby at_231) rfl rfl ?_
    refine Own.iconst hx (3 : Int32) (hb hby at_233) rfl (by decide) ?_
    refine Own.callS hx hZ hown (hw _ (List.mem_of_getElem? (i := 1) rfl)) (hw _ (List.mem_of_getElem? (i := 2) rfl)) (hw _ (List.mem_of_getElem? (i := 3) rfl)) (hw _ (List.mem_of_getElem? (i := 4) rfl)) (by decide) pd2 (argsL := [(.ref a357), (.int (0 : Int32)), (.int cz), (.int (3 : Int32))]) (rest := []) rfl (W := 0) (Nat.le_of_eq rfl) (rm := ({ frames := 1, cells := 0, slots := 0, locals := 24 } : Room)) (by decide) (by decide) (by decide) (by decide) (k' := 1) (n' := 4) rfl rfl (by rw [hml]; rfl) [(.int (3 : Int32)), (.int cz), (.int (0 : Int32)), (.ref a357)] rfl (hb hby at_234) (pc' := 237) rfl (rm1_4_0_3 l Z a0 hw a357 cz h366 n0 y0 y1 y2 y3 ([]) O367 (own_idem h_y0) (own_idem h_y1) (own_idem h_y2) (own_idem h_y3) (own_cz h_cz)) ?_
    rintro _ h' ⟨rfl, eh⟩
    rw [eh]; clear eh h'
    show Own.Goes _ _ _ _ _ _ _ _ _ _ _ _ _ _ _ _ _ (mkF m 237 #[.val (.int p0), .val (.int p1), .val (.int p2), .val (.int p3), .val (.int (4 : Int32)), .val (.int (0 : Int32)), .val (.int y0), .val (.int y1), .val (.int y2), .val (.int y3), .val (.ref a357), .val (.int sel), .val (.int cz), .unset, .unset] [(.int (0 : Int32))])
    have hc376 : (0 : Int32) = (0 : Int32) := by decide
    refine Own.ifF hx (Own.z_eq (0 : Int32)) (hb hby at_237) (pcN := 240) rfl (by decide) (pcT := 246) rfl (fun _ => ?_) (fun q => absurd hc376 q)
    refine Own.aload hx (.ref a357) (hb hby at_246) rfl rfl rfl ?_
    refine Own.iload hx (0 : Int32) (hb hby at_248) rfl rfl ?_
    refine Own.iload hx cz (hb hby at_250) rfl rfl ?_
    refine Own.iconst hx (2 : Int32) (hb hby at_252) rfl (by decide) ?_
    refine Own.callS hx hZ hown (hw _ (List.mem_of_getElem? (i := 1) rfl)) (hw _ (List.mem_of_getElem? (i := 2) rfl)) (hw _ (List.mem_of_getElem? (i := 3) rfl)) (hw _ (List.mem_of_getElem? (i := 4) rfl)) (by decide) pd2 (argsL := [(.ref a357), (.int (0 : Int32)), (.int cz), (.int (2 : Int32))]) (rest := []) rfl (W := 0) (Nat.le_of_eq rfl) (rm := ({ frames := 1, cells := 0, slots := 0, locals := 24 } : Room)) (by decide) (by decide) (by decide) (by decide) (k' := 1) (n' := 4) rfl rfl (by rw [hml]; rfl) [(.int (2 : Int32)), (.int cz), (.int (0 : Int32)), (.ref a357)] rfl (hb hby at_253) (pc' := 256) rfl (rm1_4_0_2 l Z a0 hw a357 cz h366 n0 y0 y1 y2 y3 ([]) O367 (own_idem h_y0) (own_idem h_y1) (own_idem h_y2) (own_idem h_y3) (own_cz h_cz)) ?_
    rintro _ h' ⟨rfl, eh⟩
    rw [eh]; clear eh h'
    show Own.Goes _ _ _ _ _ _ _ _ _ _ _ _ _ _ _ _ _ (mkF m 256 #[.val (.int p0), .val (.int p1), .val (.int p2), .val (.int p3), .val (.int (4 : Int32)), .val (.int (0 : Int32)), .val (.int y0), .val (.int y1), .val (.int y2), .val (.int y3), .val (.ref a357), .val (.int sel), .val (.int cz), .unset, .unset] [(.int (0 : Int32))])
    have hc378 : (0 : Int32) = (0 : Int32) := by decide
    refine Own.ifF hx (Own.z_eq (0 : Int32)) (hb hby at_256) (pcN := 259) rfl (by decide) (pcT := 265) rfl (fun _ => ?_) (fun q => absurd hc378 q)
    refine Own.aload hx (.ref a357) (hb hby at_265) rfl rfl rfl ?_
    refine Own.iload hx (0 : Int32) (hb hby at_267) rfl rfl ?_
    refine Own.iload hx cz (hb hby at_269) rfl rfl ?_
    refine Own.iconst hx (1 : Int32) (hb hby at_271) rfl (by decide) ?_
    refine Own.callS hx hZ hown (hw _ (List.mem_of_getElem? (i := 1) rfl)) (hw _ (List.mem_of_getElem? (i := 2) rfl)) (hw _ (List.mem_of_getElem? (i := 3) rfl)) (hw _ (List.mem_of_getElem? (i := 4) rfl)) (by decide) pd2 (argsL := [(.ref a357), (.int (0 : Int32)), (.int cz), (.int (1 : Int32))]) (rest := []) rfl (W := 0) (Nat.le_of_eq rfl) (rm := ({ frames := 1, cells := 0, slots := 0, locals := 24 } : Room)) (by decide) (by decide) (by decide) (by decide) (k' := 1) (n' := 4) rfl rfl (by rw [hml]; rfl) [(.int (1 : Int32)), (.int cz), (.int (0 : Int32)), (.ref a357)] rfl (hb hby at_272) (pc' := 275) rfl (rm1_4_0_1 l Z a0 hw a357 cz h366 n0 y0 y1 y2 y3 ([]) O367 (own_idem h_y0) (own_idem h_y1) (own_idem h_y2) (own_idem h_y3) (own_cz h_cz)) ?_
    rintro _ h' ⟨rfl, eh⟩
    rw [eh]; clear eh h'
    show Own.Goes _ _ _ _ _ _ _ _ _ _ _ _ _ _ _ _ _ (mkF m 275 #[.val (.int p0), .val (.int p1), .val (.int p2), .val (.int p3), .val (.int (4 : Int32)), .val (.int (0 : Int32)), .val (.int y0), .val (.int y1), .val (.int y2), .val (.int y3), .val (.ref a357), .val (.int sel), .val (.int cz), .unset, .unset] [(.int (fX4_0_1 y0 y1 y2 y3 cz))])
    obtain ⟨ex, h_ex⟩ : ∃ z : Int32, z = (if (fX4_0_1 y0 y1 y2 y3 cz) = (0 : Int32) then (0 : Int32) else (1 : Int32)) := ⟨_, rfl⟩
    refine Own.Goes.join (mkF m 287 #[.val (.int p0), .val (.int p1), .val (.int p2), .val (.int p3), .val (.int (4 : Int32)), .val (.int (0 : Int32)), .val (.int y0), .val (.int y1), .val (.int y2), .val (.int y3), .val (.ref a357), .val (.int sel), .val (.int cz), .val (.int ex), .unset] []) (fun kJ381 => ?_) ?_
    · refine Own.ifF hx (Own.z_eq (fX4_0_1 y0 y1 y2 y3 cz)) (hb hby at_275) (pcN := 278) rfl (by decide) (pcT := 284) rfl (fun hc380 => ?_) (fun hc380 => ?_)
      · refine Own.iconst hx (0 : Int32) (hb hby at_284) rfl (by decide) ?_
        refine Own.istore hx (0 : Int32) rfl #[.val (.int p0), .val (.int p1), .val (.int p2), .val (.int p3), .val (.int (4 : Int32)), .val (.int (0 : Int32)), .val (.int y0), .val (.int y1), .val (.int y2), .val (.int y3), .val (.ref a357), .val (.int sel), .val (.int cz), .val (.int (0 : Int32)), .unset] (hb hby at_285) rfl rfl ?_
        try simp only [if_pos hc380] at h_ex
        subst h_ex
        exact kJ381
      · refine Own.iconst hx (1 : Int32) (hb hby at_278) rfl (by decide) ?_
        refine Own.istore hx (1 : Int32) rfl #[.val (.int p0), .val (.int p1), .val (.int p2), .val (.int p3), .val (.int (4 : Int32)), .val (.int (0 : Int32)), .val (.int y0), .val (.int y1), .val (.int y2), .val (.int y3), .val (.ref a357), .val (.int sel), .val (.int cz), .val (.int (1 : Int32)), .unset] (hb hby at_279) rfl rfl ?_
        refine Own.goto hx (hb hby at_281) (by decide) (pc' := 287) rfl ?_
        try simp only [if_neg hc380] at h_ex
        subst h_ex
        exact kJ381
    refine Own.newobj hx hZ hown O367 (hw _ (List.mem_of_getElem? (i := 8) rfl)) (hw _ (List.mem_of_getElem? (i := 9) rfl)) (hw _ (List.mem_of_getElem? (i := 10) rfl)) [(("com/example/idxof/idxof/KnuthMorrisPrattPattern", "chars", "[C"), .null), (("com/example/idxof/idxof/KnuthMorrisPrattPattern", "borders", "[I"), .null)] (by intro f hf; simp only [List.mem_cons, List.not_mem_nil, or_false] at hf; rcases hf with rfl | rfl; exact ⟨Or.inr (hw _ (List.mem_of_getElem? (i := 18) rfl)), (.array .char), by decide, rfl⟩; exact ⟨Or.inr (hw _ (List.mem_of_getElem? (i := 25) rfl)), (.array .int), by decide, rfl⟩) (by decide) (k' := 2) (n' := 6) rfl rfl (by decide) (by decide) (hb hby at_287) (pc' := 290) rfl ?_
    intro a382 h383 O384
    refine Own.dup hx (hb hby at_290) rfl rfl ?_
    refine Own.aload hx (.ref a357) (hb hby at_291) rfl rfl rfl ?_
    have O385 : Own.Owns n0 h383 ((a357, Own.ArrC Z .char [(.int y0), (.int y1), (.int y2), (.int y3)]) :: (a382, Own.ObjC Z "com/example/idxof/idxof/KnuthMorrisPrattPattern" [(("com/example/idxof/idxof/KnuthMorrisPrattPattern", "chars", "[C"), .null), (("com/example/idxof/idxof/KnuthMorrisPrattPattern", "borders", "[I"), .null)]) :: []) := O384.pick 1 rfl
    have O386 : Own.Owns n0 h383 ((a382, Own.ObjC Z "com/example/idxof/idxof/KnuthMorrisPrattPattern" [(("com/example/idxof/idxof/KnuthMorrisPrattPattern", "chars", "[C"), .null), (("com/example/idxof/idxof/KnuthMorrisPrattPattern", "borders", "[I"), .null)]) :: (a357, Own.ArrC Z .char [(.int y0), (.int y1), (.int y2), (.int y3)]) :: []) := O385.pick 1 rfl
    refine Own.callI hx hZ hown rfl (hw _ (List.mem_of_getElem? (i := 11) rfl)) (hw _ (List.mem_of_getElem? (i := 12) rfl)) (hw _ (List.mem_of_getElem? (i := 10) rfl)) (hw _ (List.mem_of_getElem? (i := 13) rfl)) (by decide) pd3 (argsL := [(.ref a357)]) (rest := [(.ref a382)]) rfl (W := 1) (Nat.le_of_eq rfl) (rm := ({ frames := 1, cells := 1, slots := 4, locals := 16 } : Room)) (by decide) (by decide) (by decide) (by decide) (k' := 3) (n' := 10) rfl rfl (by rw [hml]; rfl) [(.ref a357), (.ref a382), (.ref a382)] rfl (hb hby at_293) (pc' := 296) rfl (rm3 l Z a0 hw a382 a357 h383 n0 [y0, y1, y2, y3] (by exact (show 4 ≤ 4 by decide)) ([]) O386) ?_
    rintro _ h388 ⟨r387, rfl, O389⟩
    show Own.Goes _ _ _ _ _ _ _ _ _ _ _ _ _ _ _ _ _ (mkF m 296 #[.val (.int p0), .val (.int p1), .val (.int p2), .val (.int p3), .val (.int (4 : Int32)), .val (.int (0 : Int32)), .val (.int y0), .val (.int y1), .val (.int y2), .val (.int y3), .val (.ref a357), .val (.int sel), .val (.int cz), .val (.int ex), .unset] [(.ref a382)])
    refine Own.astore hx #[.val (.int p0), .val (.int p1), .val (.int p2), .val (.int p3), .val (.int (4 : Int32)), .val (.int (0 : Int32)), .val (.int y0), .val (.int y1), .val (.int y2), .val (.int y3), .val (.ref a357), .val (.int sel), .val (.int cz), .val (.int ex), .val (.ref a382)] (hb hby at_296) rfl rfl rfl ?_
    refine Own.aload hx (.ref a382) (hb hby at_298) rfl rfl rfl ?_
    refine Own.iload hx (0 : Int32) (hb hby at_300) rfl rfl ?_
    refine Own.iload hx cz (hb hby at_302) rfl rfl ?_
    have O390 : Own.Owns n0 h388 ((r387, Own.ArrC Z .int ((ofL [y0, y1, y2, y3]).map gI)) :: (a382, Own.ObjC Z "com/example/idxof/idxof/KnuthMorrisPrattPattern" [(("com/example/idxof/idxof/KnuthMorrisPrattPattern", "chars", "[C"), (.ref a357)), (("com/example/idxof/idxof/KnuthMorrisPrattPattern", "borders", "[I"), (.ref r387))]) :: (a357, Own.ArrC Z .char [(.int y0), (.int y1), (.int y2), (.int y3)]) :: []) := O389.pick 1 rfl
    have O391 : Own.Owns n0 h388 ((a357, Own.ArrC Z .char [(.int y0), (.int y1), (.int y2), (.int y3)]) :: (r387, Own.ArrC Z .int ((ofL [y0, y1, y2, y3]).map gI)) :: (a382, Own.ObjC Z "com/example/idxof/idxof/KnuthMorrisPrattPattern" [(("com/example/idxof/idxof/KnuthMorrisPrattPattern", "chars", "[C"), (.ref a357)), (("com/example/idxof/idxof/KnuthMorrisPrattPattern", "borders", "[I"), (.ref r387))]) :: []) := O390.pick 2 rfl
    have O392 : Own.Owns n0 h388 ((a382, Own.ObjC Z "com/example/idxof/idxof/KnuthMorrisPrattPattern" [(("com/example/idxof/idxof/KnuthMorrisPrattPattern", "chars", "[C"), (.ref a357)), (("com/example/idxof/idxof/KnuthMorrisPrattPattern", "borders", "[I"), (.ref r387))]) :: (a357, Own.ArrC Z .char [(.int y0), (.int y1), (.int y2), (.int y3)]) :: (r387, Own.ArrC Z .int ((ofL [y0, y1, y2, y3]).map gI)) :: []) := O391.pick 2 rfl
    refine Own.callV hx hZ hown (O392.exa (i := 0) rfl) (hw _ (List.mem_of_getElem? (i := 26) rfl)) (hw _ (List.mem_of_getElem? (i := 27) rfl)) (hw _ (List.mem_of_getElem? (i := 29) rfl)) (hw _ (List.mem_of_getElem? (i := 28) rfl)) (hw _ (List.mem_of_getElem? (i := 10) rfl)) (hw _ (List.mem_of_getElem? (i := 30) rfl)) (by decide) pd4 (argsL := [(.int (0 : Int32)), (.int cz)]) (rest := []) rfl (W := 0) (Nat.le_of_eq rfl) (rm := ({ frames := 0, cells := 0, slots := 0, locals := 0 } : Room)) (by decide) (by decide) (by decide) (by decide) (k' := 3) (n' := 10) rfl rfl (by rw [hml]; rfl) [(.int cz), (.int (0 : Int32)), (.ref a382)] rfl (hb hby at_304) (pc' := 307) rfl (rm6_4_0 l Z a0 hw a382 cz h388 n0 [y0, y1, y2, y3] rfl a357 r387 ([]) O392) ?_
    rintro _ h' ⟨rfl, eh⟩
    rw [eh]; clear eh h'
    show Own.Goes _ _ _ _ _ _ _ _ _ _ _ _ _ _ _ _ _ (mkF m 307 #[.val (.int p0), .val (.int p1), .val (.int p2), .val (.int p3), .val (.int (4 : Int32)), .val (.int (0 : Int32)), .val (.int y0), .val (.int y1), .val (.int y2), .val (.int y3), .val (.ref a357), .val (.int sel), .val (.int cz), .val (.int ex), .val (.ref a382)] [(.int (nextE (eqAt ([y0, y1, y2, y3] ++ [cz])) (ofL [y0, y1, y2, y3]) [y0, y1, y2, y3].length 0).toInt32)])
    refine Own.iload hx ex (hb hby at_307) rfl rfl ?_
    obtain ⟨z, h_z⟩ : ∃ z : Int32, z = (if (nextE (eqAt ([y0, y1, y2, y3] ++ [cz])) (ofL [y0, y1, y2, y3]) [y0, y1, y2, y3].length 0).toInt32 = ex then (1 : Int32) else (0 : Int32)) := ⟨_, rfl⟩
    refine Own.Goes.join (mkF m 317 #[.val (.int p0), .val (.int p1), .val (.int p2), .val (.int p3), .val (.int (4 : Int32)), .val (.int (0 : Int32)), .val (.int y0), .val (.int y1), .val (.int y2), .val (.int y3), .val (.ref a357), .val (.int sel), .val (.int cz), .val (.int ex), .val (.ref a382)] [(.int z)]) (fun kJ394 => ?_) ?_
    · refine Own.icmpFn hx (Own.q_ne (nextE (eqAt ([y0, y1, y2, y3] ++ [cz])) (ofL [y0, y1, y2, y3]) [y0, y1, y2, y3].length 0).toInt32 ex) (hb hby at_309) (pcN := 312) rfl (by decide) (pcT := 316) rfl (fun hc393 => ?_) (fun hc393 => ?_)
      · refine Own.iconst hx (0 : Int32) (hb hby at_316) rfl (by decide) ?_
        try simp only [if_neg hc393] at h_z
        subst h_z
        exact kJ394
      · refine Own.iconst hx (1 : Int32) (hb hby at_312) rfl (by decide) ?_
        refine Own.goto hx (hb hby at_313) (by decide) (pc' := 317) rfl ?_
        try simp only [if_pos hc393] at h_z
        subst h_z
        exact kJ394
    exact Own.retS hx hret (by simp) hlk (hb hby at_317) (by decide) (by decide) (Own.bool1 (own_fin4_0 h_ex h_z))
  · subst q q'
    refine Own.iloadN hx p2 (hb hby at_20) rfl rfl ?_
    refine Own.iloadN hx p1 (hb hby at_21) rfl rfl ?_
    refine Own.iconst hx (1 : Int32) (hb hby at_22) rfl (by decide) ?_
    refine Own.iand hx (hb hby at_23) rfl ?_
    refine Own.iadd hx (hb hby at_24) rfl ?_
    refine Own.i2c hx (hb hby at_25) rfl ?_
    obtain ⟨y0, h_y0⟩ : ∃ z : Int32, z = (p2 + (p1 &&& (1 : Int32))).toUInt32.toUInt16.toUInt32.toInt32 := ⟨_, rfl⟩
    refine Own.istore hx y0 h_y0 #[.val (.int p0), .val (.int p1), .val (.int p2), .val (.int p3), .val (.int (4 : Int32)), .val (.int (1 : Int32)), .val (.int y0), .unset, .unset, .unset, .unset, .unset, .unset, .unset, .unset] (hb hby at_26) rfl rfl ?_
    refine Own.iloadN hx p2 (hb hby at_28) rfl rfl ?_
    refine Own.iloadN hx p1 (hb hby at_29) rfl rfl ?_
    refine Own.iconst hx (1 : Int32) (hb hby at_30) rfl (by decide) ?_
    refine Own.iushr hx (hb hby at_31) rfl ?_
    refine Own.iconst hx (1 : Int32) (hb hby at_32) rfl (by decide) ?_
    refine Own.iand hx (hb hby at_33) rfl ?_
    refine Own.iadd hx (hb hby at_34) rfl ?_
    refine Own.i2c hx (hb hby at_35) rfl ?_
    obtain ⟨y1, h_y1⟩ : ∃ z : Int32, z = (p2 + ((p1.toUInt32 >>> ((1 : Int32) &&& 31).toUInt32).toInt32 &&& (1 : Int32))).toUInt32.toUInt16.toUInt32.toInt32 := ⟨_, rfl⟩
    refine Own.istore hx y1 h_y1 #[.val (.int p0), .val (.int p1), .val (.int p2), .val (.int p3), .val (.int (4 : Int32)), .val (.int (1 : Int32)), .val (.int y0), .val (.int y1), .unset, .unset, .unset, .unset, .unset, .unset, .unset] (hb hby at_36) rfl rfl ?_
    refine Own.iloadN hx p2 (hb hby at_38) rfl rfl ?_
    refine Own.iloadN hx p1 (hb hby at_39) rfl rfl ?_
    refine Own.iconst hx (2 : Int32) (hb hby at_40) rfl (by decide) ?_
    refine Own.iushr hx (hb hby at_41) rfl ?_
    refine Own.iconst hx (1 : Int32) (hb hby at_42) rfl (by decide) ?_
    refine Own.iand hx (hb hby at_43) rfl ?_
    refine Own.iadd hx (hb hby at_44) rfl ?_
    refine Own.i2c hx (hb hby at_45) rfl ?_
    obtain ⟨y2, h_y2⟩ : ∃ z : Int32, z = (p2 + ((p1.toUInt32 >>> ((2 : Int32) &&& 31).toUInt32).toInt32 &&& (1 : Int32))).toUInt32.toUInt16.toUInt32.toInt32 := ⟨_, rfl⟩
    refine Own.istore hx y2 h_y2 #[.val (.int p0), .val (.int p1), .val (.int p2), .val (.int p3), .val (.int (4 : Int32)), .val (.int (1 : Int32)), .val (.int y0), .val (.int y1), .val (.int y2), .unset, .unset, .unset, .unset, .unset, .unset] (hb hby at_46) rfl rfl ?_
    refine Own.iloadN hx p2 (hb hby at_48) rfl rfl ?_
    refine Own.iloadN hx p1 (hb hby at_49) rfl rfl ?_
    refine Own.iconst hx (3 : Int32) (hb hby at_50) rfl (by decide) ?_
    refine Own.iushr hx (hb hby at_51) rfl ?_
    refine Own.iconst hx (1 : Int32) (hb hby at_52) rfl (by decide) ?_
    refine Own.iand hx (hb hby at_53) rfl ?_
    refine Own.iadd hx (hb hby at_54) rfl ?_
    refine Own.i2c hx (hb hby at_55) rfl ?_
    obtain ⟨y3, h_y3⟩ : ∃ z : Int32, z = (p2 + ((p1.toUInt32 >>> ((3 : Int32) &&& 31).toUInt32).toInt32 &&& (1 : Int32))).toUInt32.toUInt16.toUInt32.toInt32 := ⟨_, rfl⟩
    refine Own.istore hx y3 h_y3 #[.val (.int p0), .val (.int p1), .val (.int p2), .val (.int p3), .val (.int (4 : Int32)), .val (.int (1 : Int32)), .val (.int y0), .val (.int y1), .val (.int y2), .val (.int y3), .unset, .unset, .unset, .unset, .unset] (hb hby at_56) rfl rfl ?_
    refine Own.iload hx (4 : Int32) (hb hby at_58) rfl rfl ?_
    refine Own.iconst hx (1 : Int32) (hb hby at_60) rfl (by decide) ?_
    have hc395 : ¬ ((4 : Int32) = (1 : Int32)) := by decide
    refine Own.icmpFn hx (Own.q_ne (4 : Int32) (1 : Int32)) (hb hby at_61) (pcN := 64) rfl (by decide) (pcT := 77) rfl (fun _ => ?_) (fun q => absurd q hc395)
    refine Own.iload hx (4 : Int32) (hb hby at_77) rfl rfl ?_
    refine Own.iconst hx (2 : Int32) (hb hby at_79) rfl (by decide) ?_
    have hc397 : ¬ ((4 : Int32) = (2 : Int32)) := by decide
    refine Own.icmpFn hx (Own.q_ne (4 : Int32) (2 : Int32)) (hb hby at_80) (pcN := 83) rfl (by decide) (pcT := 101) rfl (fun _ => ?_) (fun q => absurd q hc397)
    refine Own.iload hx (4 : Int32) (hb hby at_101) rfl rfl ?_
    refine Own.iconst hx (3 : Int32) (hb hby at_103) rfl (by decide) ?_
    have hc399 : ¬ ((4 : Int32) = (3 : Int32)) := by decide
    refine Own.icmpFn hx (Own.q_ne (4 : Int32) (3 : Int32)) (hb hby at_104) (pcN := 107) rfl (by decide) (pcT := 130) rfl (fun _ => ?_) (fun q => absurd q hc399)
    refine Own.iconst hx (4 : Int32) (hb hby at_130) rfl (by decide) ?_
    refine Own.newarr hx hZ O0 (aty := .char) (hw _ (List.mem_of_getElem? (i := 0) rfl)) 4 (by decide) [(.int (0 : Int32)), (.int (0 : Int32)), (.int (0 : Int32)), (.int (0 : Int32))] rfl rfl (cap := 4) (by decide) (by decide) (k' := 1) (n' := 4) rfl rfl (by decide) (by decide) (hb hby at_131) (pc' := 133) rfl ?_
    intro a401 h402 O403
    refine Own.dup hx (hb hby at_133) rfl rfl ?_
    refine Own.iconst hx (0 : Int32) (hb hby at_134) rfl (by decide) ?_
    refine Own.iload hx y0 (hb hby at_135) rfl rfl ?_
    refine Own.castore hx hZ O403 0 0 rfl (by decide) (by exact (show 0 < 4 by decide)) ((a401, Own.ArrC Z .char [(.int y0), (.int (0 : Int32)), (.int (0 : Int32)), (.int (0 : Int32))]) :: []) (by rw [own_idem h_y0]; rfl) (hb hby at_137) rfl ?_
    intro h404 O405
    refine Own.dup hx (hb hby at_138) rfl rfl ?_
    refine Own.iconst hx (1 : Int32) (hb hby at_139) rfl (by decide) ?_
    refine Own.iload hx y1 (hb hby at_140) rfl rfl ?_
    refine Own.castore hx hZ O405 0 1 rfl (by decide) (by exact (show 1 < 4 by decide)) ((a401, Own.ArrC Z .char [(.int y0), (.int y1), (.int (0 : Int32)), (.int (0 : Int32))]) :: []) (by rw [own_idem h_y1]; rfl) (hb hby at_142) rfl ?_
    intro h406 O407
    refine Own.dup hx (hb hby at_143) rfl rfl ?_
    refine Own.iconst hx (2 : Int32) (hb hby at_144) rfl (by decide) ?_
    refine Own.iload hx y2 (hb hby at_145) rfl rfl ?_
    refine Own.castore hx hZ O407 0 2 rfl (by decide) (by exact (show 2 < 4 by decide)) ((a401, Own.ArrC Z .char [(.int y0), (.int y1), (.int y2), (.int (0 : Int32))]) :: []) (by rw [own_idem h_y2]; rfl) (hb hby at_147) rfl ?_
    intro h408 O409
    refine Own.dup hx (hb hby at_148) rfl rfl ?_
    refine Own.iconst hx (3 : Int32) (hb hby at_149) rfl (by decide) ?_
    refine Own.iload hx y3 (hb hby at_150) rfl rfl ?_
    refine Own.castore hx hZ O409 0 3 rfl (by decide) (by exact (show 3 < 4 by decide)) ((a401, Own.ArrC Z .char [(.int y0), (.int y1), (.int y2), (.int y3)]) :: []) (by rw [own_idem h_y3]; rfl) (hb hby at_152) rfl ?_
    intro h410 O411
    refine Own.astore hx #[.val (.int p0), .val (.int p1), .val (.int p2), .val (.int p3), .val (.int (4 : Int32)), .val (.int (1 : Int32)), .val (.int y0), .val (.int y1), .val (.int y2), .val (.int y3), .val (.ref a401), .unset, .unset, .unset, .unset] (hb hby at_153) rfl rfl rfl ?_
    refine Own.iloadN hx p1 (hb hby at_155) rfl rfl ?_
    refine Own.iconst hx (4 : Int32) (hb hby at_156) rfl (by decide) ?_
    refine Own.iushr hx (hb hby at_157) rfl ?_
    refine Own.iconst hx (3 : Int32) (hb hby at_158) rfl (by decide) ?_
    refine Own.iand hx (hb hby at_159) rfl ?_
    obtain ⟨sel, h_sel⟩ : ∃ z : Int32, z = ((p1.toUInt32 >>> ((4 : Int32) &&& 31).toUInt32).toInt32 &&& (3 : Int32)) := ⟨_, rfl⟩
    refine Own.istore hx sel h_sel #[.val (.int p0), .val (.int p1), .val (.int p2), .val (.int p3), .val (.int (4 : Int32)), .val (.int (1 : Int32)), .val (.int y0), .val (.int y1), .val (.int y2), .val (.int y3), .val (.ref a401), .val (.int sel), .unset, .unset, .unset] (hb hby at_160) rfl rfl ?_
    refine Own.iload hx sel (hb hby at_162) rfl rfl ?_
    obtain ⟨cz, h_cz⟩ : ∃ z : Int32, z = (if sel = (0 : Int32) then p2.toUInt32.toUInt16.toUInt32.toInt32 else (if sel = (1 : Int32) then (p2 + (1 : Int32)).toUInt32.toUInt16.toUInt32.toInt32 else (if sel = (2 : Int32) then (p2 + (2 : Int32)).toUInt32.toUInt16.toUInt32.toInt32 else p3.toUInt32.toUInt16.toUInt32.toInt32))) := ⟨_, rfl⟩
    refine Own.Goes.join (mkF m 208 #[.val (.int p0), .val (.int p1), .val (.int p2), .val (.int p3), .val (.int (4 : Int32)), .val (.int (1 : Int32)), .val (.int y0), .val (.int y1), .val (.int y2), .val (.int y3), .val (.ref a401), .val (.int sel), .val (.int cz), .unset, .unset] []) (fun kJ415 => ?_) ?_
    · refine Own.ifFn hx (Own.z_ne sel) (hb hby at_164) (pcN := 167) rfl (by decide) (pcT := 174) rfl (fun hc412 => ?_) (fun hc412 => ?_)
      · refine Own.iload hx sel (hb hby at_174) rfl rfl ?_
        refine Own.iconst hx (1 : Int32) (hb hby at_176) rfl (by decide) ?_
        refine Own.icmpFn hx (Own.q_ne sel (1 : Int32)) (hb hby at_177) (pcN := 180) rfl (by decide) (pcT := 189) rfl (fun hc416 => ?_) (fun hc416 => ?_)
        · refine Own.iload hx sel (hb hby at_189) rfl rfl ?_
          refine Own.iconst hx (2 : Int32) (hb hby at_191) rfl (by decide) ?_
          refine Own.icmpFn hx (Own.q_ne sel (2 : Int32)) (hb hby at_192) (pcN := 195) rfl (by decide) (pcT := 204) rfl (fun hc417 => ?_) (fun hc417 => ?_)
          · refine Own.iloadN hx p3 (hb hby at_204) rfl rfl ?_
            refine Own.i2c hx (hb hby at_205) rfl ?_
            refine Own.istore hx p3.toUInt32.toUInt16.toUInt32.toInt32 rfl #[.val (.int p0), .val (.int p1), .val (.int p2), .val (.int p3), .val (.int (4 : Int32)), .val (.int (1 : Int32)), .val (.int y0), .val (.int y1), .val (.int y2), .val (.int y3), .val (.ref a401), .val (.int sel), .val (.int p3.toUInt32.toUInt16.toUInt32.toInt32), .unset, .unset] (hb hby at_206) rfl rfl ?_
            try simp only [if_neg hc412, if_neg hc416, if_neg hc417] at h_cz
            subst h_cz
            exact kJ415
          · refine Own.iloadN hx p2 (hb hby at_195) rfl rfl ?_
            refine Own.iconst hx (2 : Int32) (hb hby at_196) rfl (by decide) ?_
            refine Own.iadd hx (hb hby at_197) rfl ?_
            refine Own.i2c hx (hb hby at_198) rfl ?_
            refine Own.istore hx (p2 + (2 : Int32)).toUInt32.toUInt16.toUInt32.toInt32 rfl #[.val (.int p0), .val (.int p1), .val (.int p2), .val (.int p3), .val (.int (4 : Int32)), .val (.int (1 : Int32)), .val (.int y0), .val (.int y1), .val (.int y2), .val (.int y3), .val (.ref a401), .val (.int sel), .val (.int (p2 + (2 : Int32)).toUInt32.toUInt16.toUInt32.toInt32), .unset, .unset] (hb hby at_199) rfl rfl ?_
            refine Own.goto hx (hb hby at_201) (by decide) (pc' := 208) rfl ?_
            try simp only [if_neg hc412, if_neg hc416, if_pos hc417] at h_cz
            subst h_cz
            exact kJ415
        · refine Own.iloadN hx p2 (hb hby at_180) rfl rfl ?_
          refine Own.iconst hx (1 : Int32) (hb hby at_181) rfl (by decide) ?_
          refine Own.iadd hx (hb hby at_182) rfl ?_
          refine Own.i2c hx (hb hby at_183) rfl ?_
          refine Own.istore hx (p2 + (1 : Int32)).toUInt32.toUInt16.toUInt32.toInt32 rfl #[.val (.int p0), .val (.int p1), .val (.int p2), .val (.int p3), .val (.int (4 : Int32)), .val (.int (1 : Int32)), .val (.int y0), .val (.int y1), .val (.int y2), .val (.int y3), .val (.ref a401), .val (.int sel), .val (.int (p2 + (1 : Int32)).toUInt32.toUInt16.toUInt32.toInt32), .unset, .unset] (hb hby at_184) rfl rfl ?_
          refine Own.goto hx (hb hby at_186) (by decide) (pc' := 208) rfl ?_
          try simp only [if_neg hc412, if_pos hc416] at h_cz
          subst h_cz
          exact kJ415
      · refine Own.iloadN hx p2 (hb hby at_167) rfl rfl ?_
        refine Own.i2c hx (hb hby at_168) rfl ?_
        refine Own.istore hx p2.toUInt32.toUInt16.toUInt32.toInt32 rfl #[.val (.int p0), .val (.int p1), .val (.int p2), .val (.int p3), .val (.int (4 : Int32)), .val (.int (1 : Int32)), .val (.int y0), .val (.int y1), .val (.int y2), .val (.int y3), .val (.ref a401), .val (.int sel), .val (.int p2.toUInt32.toUInt16.toUInt32.toInt32), .unset, .unset] (hb hby at_169) rfl rfl ?_
        refine Own.goto hx (hb hby at_171) (by decide) (pc' := 208) rfl ?_
        try simp only [if_pos hc412] at h_cz
        subst h_cz
        exact kJ415
    refine Own.aload hx (.ref a401) (hb hby at_208) rfl rfl rfl ?_
    refine Own.iload hx (1 : Int32) (hb hby at_210) rfl rfl ?_
    refine Own.iload hx cz (hb hby at_212) rfl rfl ?_
    refine Own.iconst hx (4 : Int32) (hb hby at_214) rfl (by decide) ?_
    refine Own.callS hx hZ hown (hw _ (List.mem_of_getElem? (i := 1) rfl)) (hw _ (List.mem_of_getElem? (i := 2) rfl)) (hw _ (List.mem_of_getElem? (i := 3) rfl)) (hw _ (List.mem_of_getElem? (i := 4) rfl)) (by decide) pd2 (argsL := [(.ref a401), (.int (1 : Int32)), (.int cz), (.int (4 : Int32))]) (rest := []) rfl (W := 0) (Nat.le_of_eq rfl) (rm := ({ frames := 1, cells := 0, slots := 0, locals := 24 } : Room)) (by decide) (by decide) (by decide) (by decide) (k' := 1) (n' := 4) rfl rfl (by rw [hml]; rfl) [(.int (4 : Int32)), (.int cz), (.int (1 : Int32)), (.ref a401)] rfl (hb hby at_215) (pc' := 218) rfl (rm1_4_1_4 l Z a0 hw a401 cz h410 n0 y0 y1 y2 y3 ([]) O411 (own_idem h_y0) (own_idem h_y1) (own_idem h_y2) (own_idem h_y3) (own_cz h_cz)) ?_
    rintro _ h' ⟨rfl, eh⟩
    rw [eh]; clear eh h'
    show Own.Goes _ _ _ _ _ _ _ _ _ _ _ _ _ _ _ _ _ (mkF m 218 #[.val (.int p0), .val (.int p1), .val (.int p2), .val (.int p3), .val (.int (4 : Int32)), .val (.int (1 : Int32)), .val (.int y0), .val (.int y1), .val (.int y2), .val (.int y3), .val (.ref a401), .val (.int sel), .val (.int cz), .unset, .unset] [(.int (0 : Int32))])
    have hc418 : (0 : Int32) = (0 : Int32) := by decide
    refine Own.ifF hx (Own.z_eq (0 : Int32)) (hb hby at_218) (pcN := 221) rfl (by decide) (pcT := 227) rfl (fun _ => ?_) (fun q => absurd hc418 q)
    refine Own.aload hx (.ref a401) (hb hby at_227) rfl rfl rfl ?_
    refine Own.iload hx (1 : Int32) (hb hby at_229) rfl rfl ?_
    refine Own.iload hx cz (hb hby at_231) rfl rfl ?_
    refine Own.iconst hx (3 : Int32) (hb hby at_233) rfl (by decide) ?_
    refine Own.callS hx hZ hown (hw _ (List.mem_of_getElem? (i := 1) rfl)) (hw _ (List.mem_of_getElem? (i := 2) rfl)) (hw _ (List.mem_of_getElem? (i := 3) rfl)) (hw _ (List.mem_of_getElem? (i := 4) rfl)) (by decide) pd2 (argsL := [(.ref a401), (.int (1 : Int32)), (.int cz), (.int (3 : Int32))]) (rest := []) rfl (W := 0) (Nat.le_of_eq rfl) (rm := ({ frames := 1, cells := 0, slots := 0, locals := 24 } : Room)) (by decide) (by decide) (by decide) (by decide) (k' := 1) (n' := 4) rfl rfl (by rw [hml]; rfl) [(.int (3 : Int32)), (.int cz), (.int (1 : Int32)), (.ref a401)] rfl (hb hby at_234) (pc' := 237) rfl (rm1_4_1_3 l Z a0 hw a401 cz h410 n0 y0 y1 y2 y3 ([]) O411 (own_idem h_y0) (own_idem h_y1) (own_idem h_y2) (own_idem h_y3) (own_cz h_cz)) ?_
    rintro _ h' ⟨rfl, eh⟩
    rw [eh]; clear eh h'
    show Own.Goes _ _ _ _ _ _ _ _ _ _ _ _ _ _ _ _ _ (mkF m 237 #[.val (.int p0), .val (.int p1), .val (.int p2), .val (.int p3), .val (.int (4 : Int32)), .val (.int (1 : Int32)), .val (.int y0), .val (.int y1), .val (.int y2), .val (.int y3), .val (.ref a401), .val (.int sel), .val (.int cz), .unset, .unset] [(.int (0 : Int32))])
    have hc420 : (0 : Int32) = (0 : Int32) := by decide
    refine Own.ifF hx (Own.z_eq (0 : Int32)) (hb hby at_237) (pcN := 240) rfl (by decide) (pcT := 246) rfl (fun _ => ?_) (fun q => absurd hc420 q)
    refine Own.aload hx (.ref a401) (hb hby at_246) rfl rfl rfl ?_
    refine Own.iload hx (1 : Int32) (hb hby at_248) rfl rfl ?_
    refine Own.iload hx cz (hb hby at_250) rfl rfl ?_
    refine Own.iconst hx (2 : Int32) (hb hby at_252) rfl (by decide) ?_
    refine Own.callS hx hZ hown (hw _ (List.mem_of_getElem? (i := 1) rfl)) (hw _ (List.mem_of_getElem? (i := 2) rfl)) (hw _ (List.mem_of_getElem? (i := 3) rfl)) (hw _ (List.mem_of_getElem? (i := 4) rfl)) (by decide) pd2 (argsL := [(.ref a401), (.int (1 : Int32)), (.int cz), (.int (2 : Int32))]) (rest := []) rfl (W := 0) (Nat.le_of_eq rfl) (rm := ({ frames := 1, cells := 0, slots := 0, locals := 24 } : Room)) (by decide) (by decide) (by decide) (by decide) (k' := 1) (n' := 4) rfl rfl (by rw [hml]; rfl) [(.int (2 : Int32)), (.int cz), (.int (1 : Int32)), (.ref a401)] rfl (hb hby at_253) (pc' := 256) rfl (rm1_4_1_2 l Z a0 hw a401 cz h410 n0 y0 y1 y2 y3 ([]) O411 (own_idem h_y0) (own_idem h_y1) (own_idem h_y2) (own_idem h_y3) (own_cz h_cz)) ?_
    rintro _ h' ⟨rfl, eh⟩
    rw [eh]; clear eh h'
    show Own.Goes _ _ _ _ _ _ _ _ _ _ _ _ _ _ _ _ _ (mkF m 256 #[.val (.int p0), .val (.int p1), .val (.int p2), .val (.int p3), .val (.int (4 : Int32)), .val (.int (1 : Int32)), .val (.int y0), .val (.int y1), .val (.int y2), .val (.int y3), .val (.ref a401), .val (.int sel), .val (.int cz), .unset, .unset] [(.int (fX4_1_2 y0 y1 y2 y3 cz))])
    obtain ⟨ex, h_ex⟩ : ∃ z : Int32, z = (if (fX4_1_2 y0 y1 y2 y3 cz) = (0 : Int32) then (if (fX4_1_1 y0 y1 y2 y3 cz) = (0 : Int32) then (0 : Int32) else (1 : Int32)) else (2 : Int32)) := ⟨_, rfl⟩
    refine Own.Goes.join (mkF m 287 #[.val (.int p0), .val (.int p1), .val (.int p2), .val (.int p3), .val (.int (4 : Int32)), .val (.int (1 : Int32)), .val (.int y0), .val (.int y1), .val (.int y2), .val (.int y3), .val (.ref a401), .val (.int sel), .val (.int cz), .val (.int ex), .unset] []) (fun kJ424 => ?_) ?_
    · refine Own.ifF hx (Own.z_eq (fX4_1_2 y0 y1 y2 y3 cz)) (hb hby at_256) (pcN := 259) rfl (by decide) (pcT := 265) rfl (fun hc422 => ?_) (fun hc422 => ?_)
      · refine Own.aload hx (.ref a401) (hb hby at_265) rfl rfl rfl ?_
        refine Own.iload hx (1 : Int32) (hb hby at_267) rfl rfl ?_
        refine Own.iload hx cz (hb hby at_269) rfl rfl ?_
        refine Own.iconst hx (1 : Int32) (hb hby at_271) rfl (by decide) ?_
        refine Own.callS hx hZ hown (hw _ (List.mem_of_getElem? (i := 1) rfl)) (hw _ (List.mem_of_getElem? (i := 2) rfl)) (hw _ (List.mem_of_getElem? (i := 3) rfl)) (hw _ (List.mem_of_getElem? (i := 4) rfl)) (by decide) pd2 (argsL := [(.ref a401), (.int (1 : Int32)), (.int cz), (.int (1 : Int32))]) (rest := []) rfl (W := 0) (Nat.le_of_eq rfl) (rm := ({ frames := 1, cells := 0, slots := 0, locals := 24 } : Room)) (by decide) (by decide) (by decide) (by decide) (k' := 1) (n' := 4) rfl rfl (by rw [hml]; rfl) [(.int (1 : Int32)), (.int cz), (.int (1 : Int32)), (.ref a401)] rfl (hb hby at_272) (pc' := 275) rfl (rm1_4_1_1 l Z a0 hw a401 cz h410 n0 y0 y1 y2 y3 ([]) O411 (own_idem h_y0) (own_idem h_y1) (own_idem h_y2) (own_idem h_y3) (own_cz h_cz)) ?_
        rintro _ h' ⟨rfl, eh⟩
        rw [eh]; clear eh h'
        show Own.Goes _ _ _ _ _ _ _ _ _ _ _ _ _ _ _ _ _ (mkF m 275 #[.val (.int p0), .val (.int p1), .val (.int p2), .val (.int p3), .val (.int (4 : Int32)), .val (.int (1 : Int32)), .val (.int y0), .val (.int y1), .val (.int y2), .val (.int y3), .val (.ref a401), .val (.int sel), .val (.int cz), .unset, .unset] [(.int (fX4_1_1 y0 y1 y2 y3 cz))])
        refine Own.ifF hx (Own.z_eq (fX4_1_1 y0 y1 y2 y3 cz)) (hb hby at_275) (pcN := 278) rfl (by decide) (pcT := 284) rfl (fun hc425 => ?_) (fun hc425 => ?_)
        · refine Own.iconst hx (0 : Int32) (hb hby at_284) rfl (by decide) ?_
          refine Own.istore hx (0 : Int32) rfl #[.val (.int p0), .val (.int p1), .val (.int p2), .val (.int p3), .val (.int (4 : Int32)), .val (.int (1 : Int32)), .val (.int y0), .val (.int y1), .val (.int y2), .val (.int y3), .val (.ref a401), .val (.int sel), .val (.int cz), .val (.int (0 : Int32)), .unset] (hb hby at_285) rfl rfl ?_
          try simp only [if_pos hc422, if_pos hc425] at h_ex
          subst h_ex
          exact kJ424
        · refine Own.iconst hx (1 : Int32) (hb hby at_278) rfl (by decide) ?_
          refine Own.istore hx (1 : Int32) rfl #[.val (.int p0), .val (.int p1), .val (.int p2), .val (.int p3), .val (.int (4 : Int32)), .val (.int (1 : Int32)), .val (.int y0), .val (.int y1), .val (.int y2), .val (.int y3), .val (.ref a401), .val (.int sel), .val (.int cz), .val (.int (1 : Int32)), .unset] (hb hby at_279) rfl rfl ?_
          refine Own.goto hx (hb hby at_281) (by decide) (pc' := 287) rfl ?_
          try simp only [if_pos hc422, if_neg hc425] at h_ex
          subst h_ex
          exact kJ424
      · refine Own.iconst hx (2 : Int32) (hb hby at_259) rfl (by decide) ?_
        refine Own.istore hx (2 : Int32) rfl #[.val (.int p0), .val (.int p1), .val (.int p2), .val (.int p3), .val (.int (4 : Int32)), .val (.int (1 : Int32)), .val (.int y0), .val (.int y1), .val (.int y2), .val (.int y3), .val (.ref a401), .val (.int sel), .val (.int cz), .val (.int (2 : Int32)), .unset] (hb hby at_260) rfl rfl ?_
        refine Own.goto hx (hb hby at_262) (by decide) (pc' := 287) rfl ?_
        try simp only [if_neg hc422] at h_ex
        subst h_ex
        exact kJ424
    refine Own.newobj hx hZ hown O411 (hw _ (List.mem_of_getElem? (i := 8) rfl)) (hw _ (List.mem_of_getElem? (i := 9) rfl)) (hw _ (List.mem_of_getElem? (i := 10) rfl)) [(("com/example/idxof/idxof/KnuthMorrisPrattPattern", "chars", "[C"), .null), (("com/example/idxof/idxof/KnuthMorrisPrattPattern", "borders", "[I"), .null)] (by intro f hf; simp only [List.mem_cons, List.not_mem_nil, or_false] at hf; rcases hf with rfl | rfl; exact ⟨Or.inr (hw _ (List.mem_of_getElem? (i := 18) rfl)), (.array .char), by decide, rfl⟩; exact ⟨Or.inr (hw _ (List.mem_of_getElem? (i := 25) rfl)), (.array .int), by decide, rfl⟩) (by decide) (k' := 2) (n' := 6) rfl rfl (by decide) (by decide) (hb hby at_287) (pc' := 290) rfl ?_
    intro a426 h427 O428
    refine Own.dup hx (hb hby at_290) rfl rfl ?_
    refine Own.aload hx (.ref a401) (hb hby at_291) rfl rfl rfl ?_
    have O429 : Own.Owns n0 h427 ((a401, Own.ArrC Z .char [(.int y0), (.int y1), (.int y2), (.int y3)]) :: (a426, Own.ObjC Z "com/example/idxof/idxof/KnuthMorrisPrattPattern" [(("com/example/idxof/idxof/KnuthMorrisPrattPattern", "chars", "[C"), .null), (("com/example/idxof/idxof/KnuthMorrisPrattPattern", "borders", "[I"), .null)]) :: []) := O428.pick 1 rfl
    have O430 : Own.Owns n0 h427 ((a426, Own.ObjC Z "com/example/idxof/idxof/KnuthMorrisPrattPattern" [(("com/example/idxof/idxof/KnuthMorrisPrattPattern", "chars", "[C"), .null), (("com/example/idxof/idxof/KnuthMorrisPrattPattern", "borders", "[I"), .null)]) :: (a401, Own.ArrC Z .char [(.int y0), (.int y1), (.int y2), (.int y3)]) :: []) := O429.pick 1 rfl
    refine Own.callI hx hZ hown rfl (hw _ (List.mem_of_getElem? (i := 11) rfl)) (hw _ (List.mem_of_getElem? (i := 12) rfl)) (hw _ (List.mem_of_getElem? (i := 10) rfl)) (hw _ (List.mem_of_getElem? (i := 13) rfl)) (by decide) pd3 (argsL := [(.ref a401)]) (rest := [(.ref a426)]) rfl (W := 1) (Nat.le_of_eq rfl) (rm := ({ frames := 1, cells := 1, slots := 4, locals := 16 } : Room)) (by decide) (by decide) (by decide) (by decide) (k' := 3) (n' := 10) rfl rfl (by rw [hml]; rfl) [(.ref a401), (.ref a426), (.ref a426)] rfl (hb hby at_293) (pc' := 296) rfl (rm3 l Z a0 hw a426 a401 h427 n0 [y0, y1, y2, y3] (by exact (show 4 ≤ 4 by decide)) ([]) O430) ?_
    rintro _ h432 ⟨r431, rfl, O433⟩
    show Own.Goes _ _ _ _ _ _ _ _ _ _ _ _ _ _ _ _ _ (mkF m 296 #[.val (.int p0), .val (.int p1), .val (.int p2), .val (.int p3), .val (.int (4 : Int32)), .val (.int (1 : Int32)), .val (.int y0), .val (.int y1), .val (.int y2), .val (.int y3), .val (.ref a401), .val (.int sel), .val (.int cz), .val (.int ex), .unset] [(.ref a426)])
    refine Own.astore hx #[.val (.int p0), .val (.int p1), .val (.int p2), .val (.int p3), .val (.int (4 : Int32)), .val (.int (1 : Int32)), .val (.int y0), .val (.int y1), .val (.int y2), .val (.int y3), .val (.ref a401), .val (.int sel), .val (.int cz), .val (.int ex), .val (.ref a426)] (hb hby at_296) rfl rfl rfl ?_
    refine Own.aload hx (.ref a426) (hb hby at_298) rfl rfl rfl ?_
    refine Own.iload hx (1 : Int32) (hb hby at_300) rfl rfl ?_
    refine Own.iload hx cz (hb hby at_302) rfl rfl ?_
    have O434 : Own.Owns n0 h432 ((r431, Own.ArrC Z .int ((ofL [y0, y1, y2, y3]).map gI)) :: (a426, Own.ObjC Z "com/example/idxof/idxof/KnuthMorrisPrattPattern" [(("com/example/idxof/idxof/KnuthMorrisPrattPattern", "chars", "[C"), (.ref a401)), (("com/example/idxof/idxof/KnuthMorrisPrattPattern", "borders", "[I"), (.ref r431))]) :: (a401, Own.ArrC Z .char [(.int y0), (.int y1), (.int y2), (.int y3)]) :: []) := O433.pick 1 rfl
    have O435 : Own.Owns n0 h432 ((a401, Own.ArrC Z .char [(.int y0), (.int y1), (.int y2), (.int y3)]) :: (r431, Own.ArrC Z .int ((ofL [y0, y1, y2, y3]).map gI)) :: (a426, Own.ObjC Z "com/example/idxof/idxof/KnuthMorrisPrattPattern" [(("com/example/idxof/idxof/KnuthMorrisPrattPattern", "chars", "[C"), (.ref a401)), (("com/example/idxof/idxof/KnuthMorrisPrattPattern", "borders", "[I"), (.ref r431))]) :: []) := O434.pick 2 rfl
    have O436 : Own.Owns n0 h432 ((a426, Own.ObjC Z "com/example/idxof/idxof/KnuthMorrisPrattPattern" [(("com/example/idxof/idxof/KnuthMorrisPrattPattern", "chars", "[C"), (.ref a401)), (("com/example/idxof/idxof/KnuthMorrisPrattPattern", "borders", "[I"), (.ref r431))]) :: (a401, Own.ArrC Z .char [(.int y0), (.int y1), (.int y2), (.int y3)]) :: (r431, Own.ArrC Z .int ((ofL [y0, y1, y2, y3]).map gI)) :: []) := O435.pick 2 rfl
    refine Own.callV hx hZ hown (O436.exa (i := 0) rfl) (hw _ (List.mem_of_getElem? (i := 26) rfl)) (hw _ (List.mem_of_getElem? (i := 27) rfl)) (hw _ (List.mem_of_getElem? (i := 29) rfl)) (hw _ (List.mem_of_getElem? (i := 28) rfl)) (hw _ (List.mem_of_getElem? (i := 10) rfl)) (hw _ (List.mem_of_getElem? (i := 30) rfl)) (by decide) pd4 (argsL := [(.int (1 : Int32)), (.int cz)]) (rest := []) rfl (W := 0) (Nat.le_of_eq rfl) (rm := ({ frames := 0, cells := 0, slots := 0, locals := 0 } : Room)) (by decide) (by decide) (by decide) (by decide) (k' := 3) (n' := 10) rfl rfl (by rw [hml]; rfl) [(.int cz), (.int (1 : Int32)), (.ref a426)] rfl (hb hby at_304) (pc' := 307) rfl (rm6_4_1 l Z a0 hw a426 cz h432 n0 [y0, y1, y2, y3] rfl a401 r431 ([]) O436) ?_
    rintro _ h' ⟨rfl, eh⟩
    rw [eh]; clear eh h'
    show Own.Goes _ _ _ _ _ _ _ _ _ _ _ _ _ _ _ _ _ (mkF m 307 #[.val (.int p0), .val (.int p1), .val (.int p2), .val (.int p3), .val (.int (4 : Int32)), .val (.int (1 : Int32)), .val (.int y0), .val (.int y1), .val (.int y2), .val (.int y3), .val (.ref a401), .val (.int sel), .val (.int cz), .val (.int ex), .val (.ref a426)] [(.int (nextE (eqAt ([y0, y1, y2, y3] ++ [cz])) (ofL [y0, y1, y2, y3]) [y0, y1, y2, y3].length 1).toInt32)])
    refine Own.iload hx ex (hb hby at_307) rfl rfl ?_
    obtain ⟨z, h_z⟩ : ∃ z : Int32, z = (if (nextE (eqAt ([y0, y1, y2, y3] ++ [cz])) (ofL [y0, y1, y2, y3]) [y0, y1, y2, y3].length 1).toInt32 = ex then (1 : Int32) else (0 : Int32)) := ⟨_, rfl⟩
    refine Own.Goes.join (mkF m 317 #[.val (.int p0), .val (.int p1), .val (.int p2), .val (.int p3), .val (.int (4 : Int32)), .val (.int (1 : Int32)), .val (.int y0), .val (.int y1), .val (.int y2), .val (.int y3), .val (.ref a401), .val (.int sel), .val (.int cz), .val (.int ex), .val (.ref a426)] [(.int z)]) (fun kJ438 => ?_) ?_
    · refine Own.icmpFn hx (Own.q_ne (nextE (eqAt ([y0, y1, y2, y3] ++ [cz])) (ofL [y0, y1, y2, y3]) [y0, y1, y2, y3].length 1).toInt32 ex) (hb hby at_309) (pcN := 312) rfl (by decide) (pcT := 316) rfl (fun hc437 => ?_) (fun hc437 => ?_)
      · refine Own.iconst hx (0 : Int32) (hb hby at_316) rfl (by decide) ?_
        try simp only [if_neg hc437] at h_z
        subst h_z
        exact kJ438
      · refine Own.iconst hx (1 : Int32) (hb hby at_312) rfl (by decide) ?_
        refine Own.goto hx (hb hby at_313) (by decide) (pc' := 317) rfl ?_
        try simp only [if_pos hc437] at h_z
        subst h_z
        exact kJ438
    exact Own.retS hx hret (by simp) hlk (hb hby at_317) (by decide) (by decide) (Own.bool1 (own_fin4_1 h_ex h_z))
  · subst q q'
    refine Own.iloadN hx p2 (hb hby at_20) rfl rfl ?_
    refine Own.iloadN hx p1 (hb hby at_21) rfl rfl ?_
    refine Own.iconst hx (1 : Int32) (hb hby at_22) rfl (by decide) ?_
    refine Own.iand hx (hb hby at_23) rfl ?_
    refine Own.iadd hx (hb hby at_24) rfl ?_
    refine Own.i2c hx (hb hby at_25) rfl ?_
    obtain ⟨y0, h_y0⟩ : ∃ z : Int32, z = (p2 + (p1 &&& (1 : Int32))).toUInt32.toUInt16.toUInt32.toInt32 := ⟨_, rfl⟩
    refine Own.istore hx y0 h_y0 #[.val (.int p0), .val (.int p1), .val (.int p2), .val (.int p3), .val (.int (4 : Int32)), .val (.int (2 : Int32)), .val (.int y0), .unset, .unset, .unset, .unset, .unset, .unset, .unset, .unset] (hb hby at_26) rfl rfl ?_
    refine Own.iloadN hx p2 (hb hby at_28) rfl rfl ?_
    refine Own.iloadN hx p1 (hb hby at_29) rfl rfl ?_
    refine Own.iconst hx (1 : Int32) (hb hby at_30) rfl (by decide) ?_
    refine Own.iushr hx (hb hby at_31) rfl ?_
    refine Own.iconst hx (1 : Int32) (hb hby at_32) rfl (by decide) ?_
    refine Own.iand hx (hb hby at_33) rfl ?_
    refine Own.iadd hx (hb hby at_34) rfl ?_
    refine Own.i2c hx (hb hby at_35) rfl ?_
    obtain ⟨y1, h_y1⟩ : ∃ z : Int32, z = (p2 + ((p1.toUInt32 >>> ((1 : Int32) &&& 31).toUInt32).toInt32 &&& (1 : Int32))).toUInt32.toUInt16.toUInt32.toInt32 := ⟨_, rfl⟩
    refine Own.istore hx y1 h_y1 #[.val (.int p0), .val (.int p1), .val (.int p2), .val (.int p3), .val (.int (4 : Int32)), .val (.int (2 : Int32)), .val (.int y0), .val (.int y1), .unset, .unset, .unset, .unset, .unset, .unset, .unset] (hb hby at_36) rfl rfl ?_
    refine Own.iloadN hx p2 (hb hby at_38) rfl rfl ?_
    refine Own.iloadN hx p1 (hb hby at_39) rfl rfl ?_
    refine Own.iconst hx (2 : Int32) (hb hby at_40) rfl (by decide) ?_
    refine Own.iushr hx (hb hby at_41) rfl ?_
    refine Own.iconst hx (1 : Int32) (hb hby at_42) rfl (by decide) ?_
    refine Own.iand hx (hb hby at_43) rfl ?_
    refine Own.iadd hx (hb hby at_44) rfl ?_
    refine Own.i2c hx (hb hby at_45) rfl ?_
    obtain ⟨y2, h_y2⟩ : ∃ z : Int32, z = (p2 + ((p1.toUInt32 >>> ((2 : Int32) &&& 31).toUInt32).toInt32 &&& (1 : Int32))).toUInt32.toUInt16.toUInt32.toInt32 := ⟨_, rfl⟩
    refine Own.istore hx y2 h_y2 #[.val (.int p0), .val (.int p1), .val (.int p2), .val (.int p3), .val (.int (4 : Int32)), .val (.int (2 : Int32)), .val (.int y0), .val (.int y1), .val (.int y2), .unset, .unset, .unset, .unset, .unset, .unset] (hb hby at_46) rfl rfl ?_
    refine Own.iloadN hx p2 (hb hby at_48) rfl rfl ?_
    refine Own.iloadN hx p1 (hb hby at_49) rfl rfl ?_
    refine Own.iconst hx (3 : Int32) (hb hby at_50) rfl (by decide) ?_
    refine Own.iushr hx (hb hby at_51) rfl ?_
    refine Own.iconst hx (1 : Int32) (hb hby at_52) rfl (by decide) ?_
    refine Own.iand hx (hb hby at_53) rfl ?_
    refine Own.iadd hx (hb hby at_54) rfl ?_
    refine Own.i2c hx (hb hby at_55) rfl ?_
    obtain ⟨y3, h_y3⟩ : ∃ z : Int32, z = (p2 + ((p1.toUInt32 >>> ((3 : Int32) &&& 31).toUInt32).toInt32 &&& (1 : Int32))).toUInt32.toUInt16.toUInt32.toInt32 := ⟨_, rfl⟩
    refine Own.istore hx y3 h_y3 #[.val (.int p0), .val (.int p1), .val (.int p2), .val (.int p3), .val (.int (4 : Int32)), .val (.int (2 : Int32)), .val (.int y0), .val (.int y1), .val (.int y2), .val (.int y3), .unset, .unset, .unset, .unset, .unset] (hb hby at_56) rfl rfl ?_
    refine Own.iload hx (4 : Int32) (hb hby at_58) rfl rfl ?_
    refine Own.iconst hx (1 : Int32) (hb hby at_60) rfl (by decide) ?_
    have hc439 : ¬ ((4 : Int32) = (1 : Int32)) := by decide
    refine Own.icmpFn hx (Own.q_ne (4 : Int32) (1 : Int32)) (hb hby at_61) (pcN := 64) rfl (by decide) (pcT := 77) rfl (fun _ => ?_) (fun q => absurd q hc439)
    refine Own.iload hx (4 : Int32) (hb hby at_77) rfl rfl ?_
    refine Own.iconst hx (2 : Int32) (hb hby at_79) rfl (by decide) ?_
    have hc441 : ¬ ((4 : Int32) = (2 : Int32)) := by decide
    refine Own.icmpFn hx (Own.q_ne (4 : Int32) (2 : Int32)) (hb hby at_80) (pcN := 83) rfl (by decide) (pcT := 101) rfl (fun _ => ?_) (fun q => absurd q hc441)
    refine Own.iload hx (4 : Int32) (hb hby at_101) rfl rfl ?_
    refine Own.iconst hx (3 : Int32) (hb hby at_103) rfl (by decide) ?_
    have hc443 : ¬ ((4 : Int32) = (3 : Int32)) := by decide
    refine Own.icmpFn hx (Own.q_ne (4 : Int32) (3 : Int32)) (hb hby at_104) (pcN := 107) rfl (by decide) (pcT := 130) rfl (fun _ => ?_) (fun q => absurd q hc443)
    refine Own.iconst hx (4 : Int32) (hb hby at_130) rfl (by decide) ?_
    refine Own.newarr hx hZ O0 (aty := .char) (hw _ (List.mem_of_getElem? (i := 0) rfl)) 4 (by decide) [(.int (0 : Int32)), (.int (0 : Int32)), (.int (0 : Int32)), (.int (0 : Int32))] rfl rfl (cap := 4) (by decide) (by decide) (k' := 1) (n' := 4) rfl rfl (by decide) (by decide) (hb hby at_131) (pc' := 133) rfl ?_
    intro a445 h446 O447
    refine Own.dup hx (hb hby at_133) rfl rfl ?_
    refine Own.iconst hx (0 : Int32) (hb hby at_134) rfl (by decide) ?_
    refine Own.iload hx y0 (hb hby at_135) rfl rfl ?_
    refine Own.castore hx hZ O447 0 0 rfl (by decide) (by exact (show 0 < 4 by decide)) ((a445, Own.ArrC Z .char [(.int y0), (.int (0 : Int32)), (.int (0 : Int32)), (.int (0 : Int32))]) :: []) (by rw [own_idem h_y0]; rfl) (hb hby at_137) rfl ?_
    intro h448 O449
    refine Own.dup hx (hb hby at_138) rfl rfl ?_
    refine Own.iconst hx (1 : Int32) (hb hby at_139) rfl (by decide) ?_
    refine Own.iload hx y1 (hb hby at_140) rfl rfl ?_
    refine Own.castore hx hZ O449 0 1 rfl (by decide) (by exact (show 1 < 4 by decide)) ((a445, Own.ArrC Z .char [(.int y0), (.int y1), (.int (0 : Int32)), (.int (0 : Int32))]) :: []) (by rw [own_idem h_y1]; rfl) (hb hby at_142) rfl ?_
    intro h450 O451
    refine Own.dup hx (hb hby at_143) rfl rfl ?_
    refine Own.iconst hx (2 : Int32) (hb hby at_144) rfl (by decide) ?_
    refine Own.iload hx y2 (hb hby at_145) rfl rfl ?_
    refine Own.castore hx hZ O451 0 2 rfl (by decide) (by exact (show 2 < 4 by decide)) ((a445, Own.ArrC Z .char [(.int y0), (.int y1), (.int y2), (.int (0 : Int32))]) :: []) (by rw [own_idem h_y2]; rfl) (hb hby at_147) rfl ?_
    intro h452 O453
    refine Own.dup hx (hb hby at_148) rfl rfl ?_
    refine Own.iconst hx (3 : Int32) (hb hby at_149) rfl (by decide) ?_
    refine Own.iload hx y3 (hb hby at_150) rfl rfl ?_
    refine Own.castore hx hZ O453 0 3 rfl (by decide) (by exact (show 3 < 4 by decide)) ((a445, Own.ArrC Z .char [(.int y0), (.int y1), (.int y2), (.int y3)]) :: []) (by rw [own_idem h_y3]; rfl) (hb hby at_152) rfl ?_
    intro h454 O455
    refine Own.astore hx #[.val (.int p0), .val (.int p1), .val (.int p2), .val (.int p3), .val (.int (4 : Int32)), .val (.int (2 : Int32)), .val (.int y0), .val (.int y1), .val (.int y2), .val (.int y3), .val (.ref a445), .unset, .unset, .unset, .unset] (hb hby at_153) rfl rfl rfl ?_
    refine Own.iloadN hx p1 (hb hby at_155) rfl rfl ?_
    refine Own.iconst hx (4 : Int32) (hb hby at_156) rfl (by decide) ?_
    refine Own.iushr hx (hb hby at_157) rfl ?_
    refine Own.iconst hx (3 : Int32) (hb hby at_158) rfl (by decide) ?_
    refine Own.iand hx (hb hby at_159) rfl ?_
    obtain ⟨sel, h_sel⟩ : ∃ z : Int32, z = ((p1.toUInt32 >>> ((4 : Int32) &&& 31).toUInt32).toInt32 &&& (3 : Int32)) := ⟨_, rfl⟩
    refine Own.istore hx sel h_sel #[.val (.int p0), .val (.int p1), .val (.int p2), .val (.int p3), .val (.int (4 : Int32)), .val (.int (2 : Int32)), .val (.int y0), .val (.int y1), .val (.int y2), .val (.int y3), .val (.ref a445), .val (.int sel), .unset, .unset, .unset] (hb hby at_160) rfl rfl ?_
    refine Own.iload hx sel (hb hby at_162) rfl rfl ?_
    obtain ⟨cz, h_cz⟩ : ∃ z : Int32, z = (if sel = (0 : Int32) then p2.toUInt32.toUInt16.toUInt32.toInt32 else (if sel = (1 : Int32) then (p2 + (1 : Int32)).toUInt32.toUInt16.toUInt32.toInt32 else (if sel = (2 : Int32) then (p2 + (2 : Int32)).toUInt32.toUInt16.toUInt32.toInt32 else p3.toUInt32.toUInt16.toUInt32.toInt32))) := ⟨_, rfl⟩
    refine Own.Goes.join (mkF m 208 #[.val (.int p0), .val (.int p1), .val (.int p2), .val (.int p3), .val (.int (4 : Int32)), .val (.int (2 : Int32)), .val (.int y0), .val (.int y1), .val (.int y2), .val (.int y3), .val (.ref a445), .val (.int sel), .val (.int cz), .unset, .unset] []) (fun kJ459 => ?_) ?_
    · refine Own.ifFn hx (Own.z_ne sel) (hb hby at_164) (pcN := 167) rfl (by decide) (pcT := 174) rfl (fun hc456 => ?_) (fun hc456 => ?_)
      · refine Own.iload hx sel (hb hby at_174) rfl rfl ?_
        refine Own.iconst hx (1 : Int32) (hb hby at_176) rfl (by decide) ?_
        refine Own.icmpFn hx (Own.q_ne sel (1 : Int32)) (hb hby at_177) (pcN := 180) rfl (by decide) (pcT := 189) rfl (fun hc460 => ?_) (fun hc460 => ?_)
        · refine Own.iload hx sel (hb hby at_189) rfl rfl ?_
          refine Own.iconst hx (2 : Int32) (hb hby at_191) rfl (by decide) ?_
          refine Own.icmpFn hx (Own.q_ne sel (2 : Int32)) (hb hby at_192) (pcN := 195) rfl (by decide) (pcT := 204) rfl (fun hc461 => ?_) (fun hc461 => ?_)
          · refine Own.iloadN hx p3 (hb hby at_204) rfl rfl ?_
            refine Own.i2c hx (hb hby at_205) rfl ?_
            refine Own.istore hx p3.toUInt32.toUInt16.toUInt32.toInt32 rfl #[.val (.int p0), .val (.int p1), .val (.int p2), .val (.int p3), .val (.int (4 : Int32)), .val (.int (2 : Int32)), .val (.int y0), .val (.int y1), .val (.int y2), .val (.int y3), .val (.ref a445), .val (.int sel), .val (.int p3.toUInt32.toUInt16.toUInt32.toInt32), .unset, .unset] (hb hby at_206) rfl rfl ?_
            try simp only [if_neg hc456, if_neg hc460, if_neg hc461] at h_cz
            subst h_cz
            exact kJ459
          · refine Own.iloadN hx p2 (hb hby at_195) rfl rfl ?_
            refine Own.iconst hx (2 : Int32) (hb hby at_196) rfl (by decide) ?_
            refine Own.iadd hx (hb hby at_197) rfl ?_
            refine Own.i2c hx (hb hby at_198) rfl ?_
            refine Own.istore hx (p2 + (2 : Int32)).toUInt32.toUInt16.toUInt32.toInt32 rfl #[.val (.int p0), .val (.int p1), .val (.int p2), .val (.int p3), .val (.int (4 : Int32)), .val (.int (2 : Int32)), .val (.int y0), .val (.int y1), .val (.int y2), .val (.int y3), .val (.ref a445), .val (.int sel), .val (.int (p2 + (2 : Int32)).toUInt32.toUInt16.toUInt32.toInt32), .unset, .unset] (hb hby at_199) rfl rfl ?_
            refine Own.goto hx (hb hby at_201) (by decide) (pc' := 208) rfl ?_
            try simp only [if_neg hc456, if_neg hc460, if_pos hc461] at h_cz
            subst h_cz
            exact kJ459
        · refine Own.iloadN hx p2 (hb hby at_180) rfl rfl ?_
          refine Own.iconst hx (1 : Int32) (hb hby at_181) rfl (by decide) ?_
          refine Own.iadd hx (hb hby at_182) rfl ?_
          refine Own.i2c hx (hb hby at_183) rfl ?_
          refine Own.istore hx (p2 + (1 : Int32)).toUInt32.toUInt16.toUInt32.toInt32 rfl #[.val (.int p0), .val (.int p1), .val (.int p2), .val (.int p3), .val (.int (4 : Int32)), .val (.int (2 : Int32)), .val (.int y0), .val (.int y1), .val (.int y2), .val (.int y3), .val (.ref a445), .val (.int sel), .val (.int (p2 + (1 : Int32)).toUInt32.toUInt16.toUInt32.toInt32), .unset, .unset] (hb hby at_184) rfl rfl ?_
          refine Own.goto hx (hb hby at_186) (by decide) (pc' := 208) rfl ?_
          try simp only [if_neg hc456, if_pos hc460] at h_cz
          subst h_cz
          exact kJ459
      · refine Own.iloadN hx p2 (hb hby at_167) rfl rfl ?_
        refine Own.i2c hx (hb hby at_168) rfl ?_
        refine Own.istore hx p2.toUInt32.toUInt16.toUInt32.toInt32 rfl #[.val (.int p0), .val (.int p1), .val (.int p2), .val (.int p3), .val (.int (4 : Int32)), .val (.int (2 : Int32)), .val (.int y0), .val (.int y1), .val (.int y2), .val (.int y3), .val (.ref a445), .val (.int sel), .val (.int p2.toUInt32.toUInt16.toUInt32.toInt32), .unset, .unset] (hb hby at_169) rfl rfl ?_
        refine Own.goto hx (hb hby at_171) (by decide) (pc' := 208) rfl ?_
        try simp only [if_pos hc456] at h_cz
        subst h_cz
        exact kJ459
    refine Own.aload hx (.ref a445) (hb hby at_208) rfl rfl rfl ?_
    refine Own.iload hx (2 : Int32) (hb hby at_210) rfl rfl ?_
    refine Own.iload hx cz (hb hby at_212) rfl rfl ?_
    refine Own.iconst hx (4 : Int32) (hb hby at_214) rfl (by decide) ?_
    refine Own.callS hx hZ hown (hw _ (List.mem_of_getElem? (i := 1) rfl)) (hw _ (List.mem_of_getElem? (i := 2) rfl)) (hw _ (List.mem_of_getElem? (i := 3) rfl)) (hw _ (List.mem_of_getElem? (i := 4) rfl)) (by decide) pd2 (argsL := [(.ref a445), (.int (2 : Int32)), (.int cz), (.int (4 : Int32))]) (rest := []) rfl (W := 0) (Nat.le_of_eq rfl) (rm := ({ frames := 1, cells := 0, slots := 0, locals := 24 } : Room)) (by decide) (by decide) (by decide) (by decide) (k' := 1) (n' := 4) rfl rfl (by rw [hml]; rfl) [(.int (4 : Int32)), (.int cz), (.int (2 : Int32)), (.ref a445)] rfl (hb hby at_215) (pc' := 218) rfl (rm1_4_2_4 l Z a0 hw a445 cz h454 n0 y0 y1 y2 y3 ([]) O455 (own_idem h_y0) (own_idem h_y1) (own_idem h_y2) (own_idem h_y3) (own_cz h_cz)) ?_
    rintro _ h' ⟨rfl, eh⟩
    rw [eh]; clear eh h'
    show Own.Goes _ _ _ _ _ _ _ _ _ _ _ _ _ _ _ _ _ (mkF m 218 #[.val (.int p0), .val (.int p1), .val (.int p2), .val (.int p3), .val (.int (4 : Int32)), .val (.int (2 : Int32)), .val (.int y0), .val (.int y1), .val (.int y2), .val (.int y3), .val (.ref a445), .val (.int sel), .val (.int cz), .unset, .unset] [(.int (0 : Int32))])
    have hc462 : (0 : Int32) = (0 : Int32) := by decide
    refine Own.ifF hx (Own.z_eq (0 : Int32)) (hb hby at_218) (pcN := 221) rfl (by decide) (pcT := 227) rfl (fun _ => ?_) (fun q => absurd hc462 q)
    refine Own.aload hx (.ref a445) (hb hby at_227) rfl rfl rfl ?_
    refine Own.iload hx (2 : Int32) (hb hby at_229) rfl rfl ?_
    refine Own.iload hx cz (hb hby at_231) rfl rfl ?_
    refine Own.iconst hx (3 : Int32) (hb hby at_233) rfl (by decide) ?_
    refine Own.callS hx hZ hown (hw _ (List.mem_of_getElem? (i := 1) rfl)) (hw _ (List.mem_of_getElem? (i := 2) rfl)) (hw _ (List.mem_of_getElem? (i := 3) rfl)) (hw _ (List.mem_of_getElem? (i := 4) rfl)) (by decide) pd2 (argsL := [(.ref a445), (.int (2 : Int32)), (.int cz), (.int (3 : Int32))]) (rest := []) rfl (W := 0) (Nat.le_of_eq rfl) (rm := ({ frames := 1, cells := 0, slots := 0, locals := 24 } : Room)) (by decide) (by decide) (by decide) (by decide) (k' := 1) (n' := 4) rfl rfl (by rw [hml]; rfl) [(.int (3 : Int32)), (.int cz), (.int (2 : Int32)), (.ref a445)] rfl (hb hby at_234) (pc' := 237) rfl (rm1_4_2_3 l Z a0 hw a445 cz h454 n0 y0 y1 y2 y3 ([]) O455 (own_idem h_y0) (own_idem h_y1) (own_idem h_y2) (own_idem h_y3) (own_cz h_cz)) ?_
    rintro _ h' ⟨rfl, eh⟩
    rw [eh]; clear eh h'
    show Own.Goes _ _ _ _ _ _ _ _ _ _ _ _ _ _ _ _ _ (mkF m 237 #[.val (.int p0), .val (.int p1), .val (.int p2), .val (.int p3), .val (.int (4 : Int32)), .val (.int (2 : Int32)), .val (.int y0), .val (.int y1), .val (.int y2), .val (.int y3), .val (.ref a445), .val (.int sel), .val (.int cz), .unset, .unset] [(.int (fX4_2_3 y0 y1 y2 y3 cz))])
    obtain ⟨ex, h_ex⟩ : ∃ z : Int32, z = (if (fX4_2_3 y0 y1 y2 y3 cz) = (0 : Int32) then (if (fX4_2_2 y0 y1 y2 y3 cz) = (0 : Int32) then (if (fX4_2_1 y0 y1 y2 y3 cz) = (0 : Int32) then (0 : Int32) else (1 : Int32)) else (2 : Int32)) else (3 : Int32)) := ⟨_, rfl⟩
    refine Own.Goes.join (mkF m 287 #[.val (.int p0), .val (.int p1), .val (.int p2), .val (.int p3), .val (.int (4 : Int32)), .val (.int (2 : Int32)), .val (.int y0), .val (.int y1), .val (.int y2), .val (.int y3), .val (.ref a445), .val (.int sel), .val (.int cz), .val (.int ex), .unset] []) (fun kJ467 => ?_) ?_
    · refine Own.ifF hx (Own.z_eq (fX4_2_3 y0 y1 y2 y3 cz)) (hb hby at_237) (pcN := 240) rfl (by decide) (pcT := 246) rfl (fun hc464 => ?_) (fun hc464 => ?_)
      · refine Own.aload hx (.ref a445) (hb hby at_246) rfl rfl rfl ?_
        refine Own.iload hx (2 : Int32) (hb hby at_248) rfl rfl ?_
        refine Own.iload hx cz (hb hby at_250) rfl rfl ?_
        refine Own.iconst hx (2 : Int32) (hb hby at_252) rfl (by decide) ?_
        refine Own.callS hx hZ hown (hw _ (List.mem_of_getElem? (i := 1) rfl)) (hw _ (List.mem_of_getElem? (i := 2) rfl)) (hw _ (List.mem_of_getElem? (i := 3) rfl)) (hw _ (List.mem_of_getElem? (i := 4) rfl)) (by decide) pd2 (argsL := [(.ref a445), (.int (2 : Int32)), (.int cz), (.int (2 : Int32))]) (rest := []) rfl (W := 0) (Nat.le_of_eq rfl) (rm := ({ frames := 1, cells := 0, slots := 0, locals := 24 } : Room)) (by decide) (by decide) (by decide) (by decide) (k' := 1) (n' := 4) rfl rfl (by rw [hml]; rfl) [(.int (2 : Int32)), (.int cz), (.int (2 : Int32)), (.ref a445)] rfl (hb hby at_253) (pc' := 256) rfl (rm1_4_2_2 l Z a0 hw a445 cz h454 n0 y0 y1 y2 y3 ([]) O455 (own_idem h_y0) (own_idem h_y1) (own_idem h_y2) (own_idem h_y3) (own_cz h_cz)) ?_
        rintro _ h' ⟨rfl, eh⟩
        rw [eh]; clear eh h'
        show Own.Goes _ _ _ _ _ _ _ _ _ _ _ _ _ _ _ _ _ (mkF m 256 #[.val (.int p0), .val (.int p1), .val (.int p2), .val (.int p3), .val (.int (4 : Int32)), .val (.int (2 : Int32)), .val (.int y0), .val (.int y1), .val (.int y2), .val (.int y3), .val (.ref a445), .val (.int sel), .val (.int cz), .unset, .unset] [(.int (fX4_2_2 y0 y1 y2 y3 cz))])
        refine Own.ifF hx (Own.z_eq (fX4_2_2 y0 y1 y2 y3 cz)) (hb hby at_256) (pcN := 259) rfl (by decide) (pcT := 265) rfl (fun hc468 => ?_) (fun hc468 => ?_)
        · refine Own.aload hx (.ref a445) (hb hby at_265) rfl rfl rfl ?_
          refine Own.iload hx (2 : Int32) (hb hby at_267) rfl rfl ?_
          refine Own.iload hx cz (hb hby at_269) rfl rfl ?_
          refine Own.iconst hx (1 : Int32) (hb hby at_271) rfl (by decide) ?_
          refine Own.callS hx hZ hown (hw _ (List.mem_of_getElem? (i := 1) rfl)) (hw _ (List.mem_of_getElem? (i := 2) rfl)) (hw _ (List.mem_of_getElem? (i := 3) rfl)) (hw _ (List.mem_of_getElem? (i := 4) rfl)) (by decide) pd2 (argsL := [(.ref a445), (.int (2 : Int32)), (.int cz), (.int (1 : Int32))]) (rest := []) rfl (W := 0) (Nat.le_of_eq rfl) (rm := ({ frames := 1, cells := 0, slots := 0, locals := 24 } : Room)) (by decide) (by decide) (by decide) (by decide) (k' := 1) (n' := 4) rfl rfl (by rw [hml]; rfl) [(.int (1 : Int32)), (.int cz), (.int (2 : Int32)), (.ref a445)] rfl (hb hby at_272) (pc' := 275) rfl (rm1_4_2_1 l Z a0 hw a445 cz h454 n0 y0 y1 y2 y3 ([]) O455 (own_idem h_y0) (own_idem h_y1) (own_idem h_y2) (own_idem h_y3) (own_cz h_cz)) ?_
          rintro _ h' ⟨rfl, eh⟩
          rw [eh]; clear eh h'
          show Own.Goes _ _ _ _ _ _ _ _ _ _ _ _ _ _ _ _ _ (mkF m 275 #[.val (.int p0), .val (.int p1), .val (.int p2), .val (.int p3), .val (.int (4 : Int32)), .val (.int (2 : Int32)), .val (.int y0), .val (.int y1), .val (.int y2), .val (.int y3), .val (.ref a445), .val (.int sel), .val (.int cz), .unset, .unset] [(.int (fX4_2_1 y0 y1 y2 y3 cz))])
          refine Own.ifF hx (Own.z_eq (fX4_2_1 y0 y1 y2 y3 cz)) (hb hby at_275) (pcN := 278) rfl (by decide) (pcT := 284) rfl (fun hc469 => ?_) (fun hc469 => ?_)
          · refine Own.iconst hx (0 : Int32) (hb hby at_284) rfl (by decide) ?_
            refine Own.istore hx (0 : Int32) rfl #[.val (.int p0), .val (.int p1), .val (.int p2), .val (.int p3), .val (.int (4 : Int32)), .val (.int (2 : Int32)), .val (.int y0), .val (.int y1), .val (.int y2), .val (.int y3), .val (.ref a445), .val (.int sel), .val (.int cz), .val (.int (0 : Int32)), .unset] (hb hby at_285) rfl rfl ?_
            try simp only [if_pos hc464, if_pos hc468, if_pos hc469] at h_ex
            subst h_ex
            exact kJ467
          · refine Own.iconst hx (1 : Int32) (hb hby at_278) rfl (by decide) ?_
            refine Own.istore hx (1 : Int32) rfl #[.val (.int p0), .val (.int p1), .val (.int p2), .val (.int p3), .val (.int (4 : Int32)), .val (.int (2 : Int32)), .val (.int y0), .val (.int y1), .val (.int y2), .val (.int y3), .val (.ref a445), .val (.int sel), .val (.int cz), .val (.int (1 : Int32)), .unset] (hb hby at_279) rfl rfl ?_
            refine Own.goto hx (hb hby at_281) (by decide) (pc' := 287) rfl ?_
            try simp only [if_pos hc464, if_pos hc468, if_neg hc469] at h_ex
            subst h_ex
            exact kJ467
        · refine Own.iconst hx (2 : Int32) (hb hby at_259) rfl (by decide) ?_
          refine Own.istore hx (2 : Int32) rfl #[.val (.int p0), .val (.int p1), .val (.int p2), .val (.int p3), .val (.int (4 : Int32)), .val (.int (2 : Int32)), .val (.int y0), .val (.int y1), .val (.int y2), .val (.int y3), .val (.ref a445), .val (.int sel), .val (.int cz), .val (.int (2 : Int32)), .unset] (hb hby at_260) rfl rfl ?_
          refine Own.goto hx (hb hby at_262) (by decide) (pc' := 287) rfl ?_
          try simp only [if_pos hc464, if_neg hc468] at h_ex
          subst h_ex
          exact kJ467
      · refine Own.iconst hx (3 : Int32) (hb hby at_240) rfl (by decide) ?_
        refine Own.istore hx (3 : Int32) rfl #[.val (.int p0), .val (.int p1), .val (.int p2), .val (.int p3), .val (.int (4 : Int32)), .val (.int (2 : Int32)), .val (.int y0), .val (.int y1), .val (.int y2), .val (.int y3), .val (.ref a445), .val (.int sel), .val (.int cz), .val (.int (3 : Int32)), .unset] (hb hby at_241) rfl rfl ?_
        refine Own.goto hx (hb hby at_243) (by decide) (pc' := 287) rfl ?_
        try simp only [if_neg hc464] at h_ex
        subst h_ex
        exact kJ467
    refine Own.newobj hx hZ hown O455 (hw _ (List.mem_of_getElem? (i := 8) rfl)) (hw _ (List.mem_of_getElem? (i := 9) rfl)) (hw _ (List.mem_of_getElem? (i := 10) rfl)) [(("com/example/idxof/idxof/KnuthMorrisPrattPattern", "chars", "[C"), .null), (("com/example/idxof/idxof/KnuthMorrisPrattPattern", "borders", "[I"), .null)] (by intro f hf; simp only [List.mem_cons, List.not_mem_nil, or_false] at hf; rcases hf with rfl | rfl; exact ⟨Or.inr (hw _ (List.mem_of_getElem? (i := 18) rfl)), (.array .char), by decide, rfl⟩; exact ⟨Or.inr (hw _ (List.mem_of_getElem? (i := 25) rfl)), (.array .int), by decide, rfl⟩) (by decide) (k' := 2) (n' := 6) rfl rfl (by decide) (by decide) (hb hby at_287) (pc' := 290) rfl ?_
    intro a470 h471 O472
    refine Own.dup hx (hb hby at_290) rfl rfl ?_
    refine Own.aload hx (.ref a445) (hb hby at_291) rfl rfl rfl ?_
    have O473 : Own.Owns n0 h471 ((a445, Own.ArrC Z .char [(.int y0), (.int y1), (.int y2), (.int y3)]) :: (a470, Own.ObjC Z "com/example/idxof/idxof/KnuthMorrisPrattPattern" [(("com/example/idxof/idxof/KnuthMorrisPrattPattern", "chars", "[C"), .null), (("com/example/idxof/idxof/KnuthMorrisPrattPattern", "borders", "[I"), .null)]) :: []) := O472.pick 1 rfl
    have O474 : Own.Owns n0 h471 ((a470, Own.ObjC Z "com/example/idxof/idxof/KnuthMorrisPrattPattern" [(("com/example/idxof/idxof/KnuthMorrisPrattPattern", "chars", "[C"), .null), (("com/example/idxof/idxof/KnuthMorrisPrattPattern", "borders", "[I"), .null)]) :: (a445, Own.ArrC Z .char [(.int y0), (.int y1), (.int y2), (.int y3)]) :: []) := O473.pick 1 rfl
    refine Own.callI hx hZ hown rfl (hw _ (List.mem_of_getElem? (i := 11) rfl)) (hw _ (List.mem_of_getElem? (i := 12) rfl)) (hw _ (List.mem_of_getElem? (i := 10) rfl)) (hw _ (List.mem_of_getElem? (i := 13) rfl)) (by decide) pd3 (argsL := [(.ref a445)]) (rest := [(.ref a470)]) rfl (W := 1) (Nat.le_of_eq rfl) (rm := ({ frames := 1, cells := 1, slots := 4, locals := 16 } : Room)) (by decide) (by decide) (by decide) (by decide) (k' := 3) (n' := 10) rfl rfl (by rw [hml]; rfl) [(.ref a445), (.ref a470), (.ref a470)] rfl (hb hby at_293) (pc' := 296) rfl (rm3 l Z a0 hw a470 a445 h471 n0 [y0, y1, y2, y3] (by exact (show 4 ≤ 4 by decide)) ([]) O474) ?_
    rintro _ h476 ⟨r475, rfl, O477⟩
    show Own.Goes _ _ _ _ _ _ _ _ _ _ _ _ _ _ _ _ _ (mkF m 296 #[.val (.int p0), .val (.int p1), .val (.int p2), .val (.int p3), .val (.int (4 : Int32)), .val (.int (2 : Int32)), .val (.int y0), .val (.int y1), .val (.int y2), .val (.int y3), .val (.ref a445), .val (.int sel), .val (.int cz), .val (.int ex), .unset] [(.ref a470)])
    refine Own.astore hx #[.val (.int p0), .val (.int p1), .val (.int p2), .val (.int p3), .val (.int (4 : Int32)), .val (.int (2 : Int32)), .val (.int y0), .val (.int y1), .val (.int y2), .val (.int y3), .val (.ref a445), .val (.int sel), .val (.int cz), .val (.int ex), .val (.ref a470)] (hb hby at_296) rfl rfl rfl ?_
    refine Own.aload hx (.ref a470) (hb hby at_298) rfl rfl rfl ?_
    refine Own.iload hx (2 : Int32) (hb hby at_300) rfl rfl ?_
    refine Own.iload hx cz (hb hby at_302) rfl rfl ?_
    have O478 : Own.Owns n0 h476 ((r475, Own.ArrC Z .int ((ofL [y0, y1, y2, y3]).map gI)) :: (a470, Own.ObjC Z "com/example/idxof/idxof/KnuthMorrisPrattPattern" [(("com/example/idxof/idxof/KnuthMorrisPrattPattern", "chars", "[C"), (.ref a445)), (("com/example/idxof/idxof/KnuthMorrisPrattPattern", "borders", "[I"), (.ref r475))]) :: (a445, Own.ArrC Z .char [(.int y0), (.int y1), (.int y2), (.int y3)]) :: []) := O477.pick 1 rfl
    have O479 : Own.Owns n0 h476 ((a445, Own.ArrC Z .char [(.int y0), (.int y1), (.int y2), (.int y3)]) :: (r475, Own.ArrC Z .int ((ofL [y0, y1, y2, y3]).map gI)) :: (a470, Own.ObjC Z "com/example/idxof/idxof/KnuthMorrisPrattPattern" [(("com/example/idxof/idxof/KnuthMorrisPrattPattern", "chars", "[C"), (.ref a445)), (("com/example/idxof/idxof/KnuthMorrisPrattPattern", "borders", "[I"), (.ref r475))]) :: []) := O478.pick 2 rfl
    have O480 : Own.Owns n0 h476 ((a470, Own.ObjC Z "com/example/idxof/idxof/KnuthMorrisPrattPattern" [(("com/example/idxof/idxof/KnuthMorrisPrattPattern", "chars", "[C"), (.ref a445)), (("com/example/idxof/idxof/KnuthMorrisPrattPattern", "borders", "[I"), (.ref r475))]) :: (a445, Own.ArrC Z .char [(.int y0), (.int y1), (.int y2), (.int y3)]) :: (r475, Own.ArrC Z .int ((ofL [y0, y1, y2, y3]).map gI)) :: []) := O479.pick 2 rfl
    refine Own.callV hx hZ hown (O480.exa (i := 0) rfl) (hw _ (List.mem_of_getElem? (i := 26) rfl)) (hw _ (List.mem_of_getElem? (i := 27) rfl)) (hw _ (List.mem_of_getElem? (i := 29) rfl)) (hw _ (List.mem_of_getElem? (i := 28) rfl)) (hw _ (List.mem_of_getElem? (i := 10) rfl)) (hw _ (List.mem_of_getElem? (i := 30) rfl)) (by decide) pd4 (argsL := [(.int (2 : Int32)), (.int cz)]) (rest := []) rfl (W := 0) (Nat.le_of_eq rfl) (rm := ({ frames := 0, cells := 0, slots := 0, locals := 0 } : Room)) (by decide) (by decide) (by decide) (by decide) (k' := 3) (n' := 10) rfl rfl (by rw [hml]; rfl) [(.int cz), (.int (2 : Int32)), (.ref a470)] rfl (hb hby at_304) (pc' := 307) rfl (rm6_4_2 l Z a0 hw a470 cz h476 n0 [y0, y1, y2, y3] rfl a445 r475 ([]) O480) ?_
    rintro _ h' ⟨rfl, eh⟩
    rw [eh]; clear eh h'
    show Own.Goes _ _ _ _ _ _ _ _ _ _ _ _ _ _ _ _ _ (mkF m 307 #[.val (.int p0), .val (.int p1), .val (.int p2), .val (.int p3), .val (.int (4 : Int32)), .val (.int (2 : Int32)), .val (.int y0), .val (.int y1), .val (.int y2), .val (.int y3), .val (.ref a445), .val (.int sel), .val (.int cz), .val (.int ex), .val (.ref a470)] [(.int (nextE (eqAt ([y0, y1, y2, y3] ++ [cz])) (ofL [y0, y1, y2, y3]) [y0, y1, y2, y3].length 2).toInt32)])
    refine Own.iload hx ex (hb hby at_307) rfl rfl ?_
    obtain ⟨z, h_z⟩ : ∃ z : Int32, z = (if (nextE (eqAt ([y0, y1, y2, y3] ++ [cz])) (ofL [y0, y1, y2, y3]) [y0, y1, y2, y3].length 2).toInt32 = ex then (1 : Int32) else (0 : Int32)) := ⟨_, rfl⟩
    refine Own.Goes.join (mkF m 317 #[.val (.int p0), .val (.int p1), .val (.int p2), .val (.int p3), .val (.int (4 : Int32)), .val (.int (2 : Int32)), .val (.int y0), .val (.int y1), .val (.int y2), .val (.int y3), .val (.ref a445), .val (.int sel), .val (.int cz), .val (.int ex), .val (.ref a470)] [(.int z)]) (fun kJ482 => ?_) ?_
    · refine Own.icmpFn hx (Own.q_ne (nextE (eqAt ([y0, y1, y2, y3] ++ [cz])) (ofL [y0, y1, y2, y3]) [y0, y1, y2, y3].length 2).toInt32 ex) (hb hby at_309) (pcN := 312) rfl (by decide) (pcT := 316) rfl (fun hc481 => ?_) (fun hc481 => ?_)
      · refine Own.iconst hx (0 : Int32) (hb hby at_316) rfl (by decide) ?_
        try simp only [if_neg hc481] at h_z
        subst h_z
        exact kJ482
      · refine Own.iconst hx (1 : Int32) (hb hby at_312) rfl (by decide) ?_
        refine Own.goto hx (hb hby at_313) (by decide) (pc' := 317) rfl ?_
        try simp only [if_pos hc481] at h_z
        subst h_z
        exact kJ482
    exact Own.retS hx hret (by simp) hlk (hb hby at_317) (by decide) (by decide) (Own.bool1 (own_fin4_2 h_ex h_z))
  · subst q q'
    refine Own.iloadN hx p2 (hb hby at_20) rfl rfl ?_
    refine Own.iloadN hx p1 (hb hby at_21) rfl rfl ?_
    refine Own.iconst hx (1 : Int32) (hb hby at_22) rfl (by decide) ?_
    refine Own.iand hx (hb hby at_23) rfl ?_
    refine Own.iadd hx (hb hby at_24) rfl ?_
    refine Own.i2c hx (hb hby at_25) rfl ?_
    obtain ⟨y0, h_y0⟩ : ∃ z : Int32, z = (p2 + (p1 &&& (1 : Int32))).toUInt32.toUInt16.toUInt32.toInt32 := ⟨_, rfl⟩
    refine Own.istore hx y0 h_y0 #[.val (.int p0), .val (.int p1), .val (.int p2), .val (.int p3), .val (.int (4 : Int32)), .val (.int (3 : Int32)), .val (.int y0), .unset, .unset, .unset, .unset, .unset, .unset, .unset, .unset] (hb hby at_26) rfl rfl ?_
    refine Own.iloadN hx p2 (hb hby at_28) rfl rfl ?_
    refine Own.iloadN hx p1 (hb hby at_29) rfl rfl ?_
    refine Own.iconst hx (1 : Int32) (hb hby at_30) rfl (by decide) ?_
    refine Own.iushr hx (hb hby at_31) rfl ?_
    refine Own.iconst hx (1 : Int32) (hb hby at_32) rfl (by decide) ?_
    refine Own.iand hx (hb hby at_33) rfl ?_
    refine Own.iadd hx (hb hby at_34) rfl ?_
    refine Own.i2c hx (hb hby at_35) rfl ?_
    obtain ⟨y1, h_y1⟩ : ∃ z : Int32, z = (p2 + ((p1.toUInt32 >>> ((1 : Int32) &&& 31).toUInt32).toInt32 &&& (1 : Int32))).toUInt32.toUInt16.toUInt32.toInt32 := ⟨_, rfl⟩
    refine Own.istore hx y1 h_y1 #[.val (.int p0), .val (.int p1), .val (.int p2), .val (.int p3), .val (.int (4 : Int32)), .val (.int (3 : Int32)), .val (.int y0), .val (.int y1), .unset, .unset, .unset, .unset, .unset, .unset, .unset] (hb hby at_36) rfl rfl ?_
    refine Own.iloadN hx p2 (hb hby at_38) rfl rfl ?_
    refine Own.iloadN hx p1 (hb hby at_39) rfl rfl ?_
    refine Own.iconst hx (2 : Int32) (hb hby at_40) rfl (by decide) ?_
    refine Own.iushr hx (hb hby at_41) rfl ?_
    refine Own.iconst hx (1 : Int32) (hb hby at_42) rfl (by decide) ?_
    refine Own.iand hx (hb hby at_43) rfl ?_
    refine Own.iadd hx (hb hby at_44) rfl ?_
    refine Own.i2c hx (hb hby at_45) rfl ?_
    obtain ⟨y2, h_y2⟩ : ∃ z : Int32, z = (p2 + ((p1.toUInt32 >>> ((2 : Int32) &&& 31).toUInt32).toInt32 &&& (1 : Int32))).toUInt32.toUInt16.toUInt32.toInt32 := ⟨_, rfl⟩
    refine Own.istore hx y2 h_y2 #[.val (.int p0), .val (.int p1), .val (.int p2), .val (.int p3), .val (.int (4 : Int32)), .val (.int (3 : Int32)), .val (.int y0), .val (.int y1), .val (.int y2), .unset, .unset, .unset, .unset, .unset, .unset] (hb hby at_46) rfl rfl ?_
    refine Own.iloadN hx p2 (hb hby at_48) rfl rfl ?_
    refine Own.iloadN hx p1 (hb hby at_49) rfl rfl ?_
    refine Own.iconst hx (3 : Int32) (hb hby at_50) rfl (by decide) ?_
    refine Own.iushr hx (hb hby at_51) rfl ?_
    refine Own.iconst hx (1 : Int32) (hb hby at_52) rfl (by decide) ?_
    refine Own.iand hx (hb hby at_53) rfl ?_
    refine Own.iadd hx (hb hby at_54) rfl ?_
    refine Own.i2c hx (hb hby at_55) rfl ?_
    obtain ⟨y3, h_y3⟩ : ∃ z : Int32, z = (p2 + ((p1.toUInt32 >>> ((3 : Int32) &&& 31).toUInt32).toInt32 &&& (1 : Int32))).toUInt32.toUInt16.toUInt32.toInt32 := ⟨_, rfl⟩
    refine Own.istore hx y3 h_y3 #[.val (.int p0), .val (.int p1), .val (.int p2), .val (.int p3), .val (.int (4 : Int32)), .val (.int (3 : Int32)), .val (.int y0), .val (.int y1), .val (.int y2), .val (.int y3), .unset, .unset, .unset, .unset, .unset] (hb hby at_56) rfl rfl ?_
    refine Own.iload hx (4 : Int32) (hb hby at_58) rfl rfl ?_
    refine Own.iconst hx (1 : Int32) (hb hby at_60) rfl (by decide) ?_
    have hc483 : ¬ ((4 : Int32) = (1 : Int32)) := by decide
    refine Own.icmpFn hx (Own.q_ne (4 : Int32) (1 : Int32)) (hb hby at_61) (pcN := 64) rfl (by decide) (pcT := 77) rfl (fun _ => ?_) (fun q => absurd q hc483)
    refine Own.iload hx (4 : Int32) (hb hby at_77) rfl rfl ?_
    refine Own.iconst hx (2 : Int32) (hb hby at_79) rfl (by decide) ?_
    have hc485 : ¬ ((4 : Int32) = (2 : Int32)) := by decide
    refine Own.icmpFn hx (Own.q_ne (4 : Int32) (2 : Int32)) (hb hby at_80) (pcN := 83) rfl (by decide) (pcT := 101) rfl (fun _ => ?_) (fun q => absurd q hc485)
    refine Own.iload hx (4 : Int32) (hb hby at_101) rfl rfl ?_
    refine Own.iconst hx (3 : Int32) (hb hby at_103) rfl (by decide) ?_
    have hc487 : ¬ ((4 : Int32) = (3 : Int32)) := by decide
    refine Own.icmpFn hx (Own.q_ne (4 : Int32) (3 : Int32)) (hb hby at_104) (pcN := 107) rfl (by decide) (pcT := 130) rfl (fun _ => ?_) (fun q => absurd q hc487)
    refine Own.iconst hx (4 : Int32) (hb hby at_130) rfl (by decide) ?_
    refine Own.newarr hx hZ O0 (aty := .char) (hw _ (List.mem_of_getElem? (i := 0) rfl)) 4 (by decide) [(.int (0 : Int32)), (.int (0 : Int32)), (.int (0 : Int32)), (.int (0 : Int32))] rfl rfl (cap := 4) (by decide) (by decide) (k' := 1) (n' := 4) rfl rfl (by decide) (by decide) (hb hby at_131) (pc' := 133) rfl ?_
    intro a489 h490 O491
    refine Own.dup hx (hb hby at_133) rfl rfl ?_
    refine Own.iconst hx (0 : Int32) (hb hby at_134) rfl (by decide) ?_
    refine Own.iload hx y0 (hb hby at_135) rfl rfl ?_
    refine Own.castore hx hZ O491 0 0 rfl (by decide) (by exact (show 0 < 4 by decide)) ((a489, Own.ArrC Z .char [(.int y0), (.int (0 : Int32)), (.int (0 : Int32)), (.int (0 : Int32))]) :: []) (by rw [own_idem h_y0]; rfl) (hb hby at_137) rfl ?_
    intro h492 O493
    refine Own.dup hx (hb hby at_138) rfl rfl ?_
    refine Own.iconst hx (1 : Int32) (hb hby at_139) rfl (by decide) ?_
    refine Own.iload hx y1 (hb hby at_140) rfl rfl ?_
    refine Own.castore hx hZ O493 0 1 rfl (by decide) (by exact (show 1 < 4 by decide)) ((a489, Own.ArrC Z .char [(.int y0), (.int y1), (.int (0 : Int32)), (.int (0 : Int32))]) :: []) (by rw [own_idem h_y1]; rfl) (hb hby at_142) rfl ?_
    intro h494 O495
    refine Own.dup hx (hb hby at_143) rfl rfl ?_
    refine Own.iconst hx (2 : Int32) (hb hby at_144) rfl (by decide) ?_
    refine Own.iload hx y2 (hb hby at_145) rfl rfl ?_
    refine Own.castore hx hZ O495 0 2 rfl (by decide) (by exact (show 2 < 4 by decide)) ((a489, Own.ArrC Z .char [(.int y0), (.int y1), (.int y2), (.int (0 : Int32))]) :: []) (by rw [own_idem h_y2]; rfl) (hb hby at_147) rfl ?_
    intro h496 O497
    refine Own.dup hx (hb hby at_148) rfl rfl ?_
    refine Own.iconst hx (3 : Int32) (hb hby at_149) rfl (by decide) ?_
    refine Own.iload hx y3 (hb hby at_150) rfl rfl ?_
    refine Own.castore hx hZ O497 0 3 rfl (by decide) (by exact (show 3 < 4 by decide)) ((a489, Own.ArrC Z .char [(.int y0), (.int y1), (.int y2), (.int y3)]) :: []) (by rw [own_idem h_y3]; rfl) (hb hby at_152) rfl ?_
    intro h498 O499
    refine Own.astore hx #[.val (.int p0), .val (.int p1), .val (.int p2), .val (.int p3), .val (.int (4 : Int32)), .val (.int (3 : Int32)), .val (.int y0), .val (.int y1), .val (.int y2), .val (.int y3), .val (.ref a489), .unset, .unset, .unset, .unset] (hb hby at_153) rfl rfl rfl ?_
    refine Own.iloadN hx p1 (hb hby at_155) rfl rfl ?_
    refine Own.iconst hx (4 : Int32) (hb hby at_156) rfl (by decide) ?_
    refine Own.iushr hx (hb hby at_157) rfl ?_
    refine Own.iconst hx (3 : Int32) (hb hby at_158) rfl (by decide) ?_
    refine Own.iand hx (hb hby at_159) rfl ?_
    obtain ⟨sel, h_sel⟩ : ∃ z : Int32, z = ((p1.toUInt32 >>> ((4 : Int32) &&& 31).toUInt32).toInt32 &&& (3 : Int32)) := ⟨_, rfl⟩
    refine Own.istore hx sel h_sel #[.val (.int p0), .val (.int p1), .val (.int p2), .val (.int p3), .val (.int (4 : Int32)), .val (.int (3 : Int32)), .val (.int y0), .val (.int y1), .val (.int y2), .val (.int y3), .val (.ref a489), .val (.int sel), .unset, .unset, .unset] (hb hby at_160) rfl rfl ?_
    refine Own.iload hx sel (hb hby at_162) rfl rfl ?_
    obtain ⟨cz, h_cz⟩ : ∃ z : Int32, z = (if sel = (0 : Int32) then p2.toUInt32.toUInt16.toUInt32.toInt32 else (if sel = (1 : Int32) then (p2 + (1 : Int32)).toUInt32.toUInt16.toUInt32.toInt32 else (if sel = (2 : Int32) then (p2 + (2 : Int32)).toUInt32.toUInt16.toUInt32.toInt32 else p3.toUInt32.toUInt16.toUInt32.toInt32))) := ⟨_, rfl⟩
    refine Own.Goes.join (mkF m 208 #[.val (.int p0), .val (.int p1), .val (.int p2), .val (.int p3), .val (.int (4 : Int32)), .val (.int (3 : Int32)), .val (.int y0), .val (.int y1), .val (.int y2), .val (.int y3), .val (.ref a489), .val (.int sel), .val (.int cz), .unset, .unset] []) (fun kJ503 => ?_) ?_
    · refine Own.ifFn hx (Own.z_ne sel) (hb hby at_164) (pcN := 167) rfl (by decide) (pcT := 174) rfl (fun hc500 => ?_) (fun hc500 => ?_)
      · refine Own.iload hx sel (hb hby at_174) rfl rfl ?_
        refine Own.iconst hx (1 : Int32) (hb hby at_176) rfl (by decide) ?_
        refine Own.icmpFn hx (Own.q_ne sel (1 : Int32)) (hb hby at_177) (pcN := 180) rfl (by decide) (pcT := 189) rfl (fun hc504 => ?_) (fun hc504 => ?_)
        · refine Own.iload hx sel (hb hby at_189) rfl rfl ?_
          refine Own.iconst hx (2 : Int32) (hb hby at_191) rfl (by decide) ?_
          refine Own.icmpFn hx (Own.q_ne sel (2 : Int32)) (hb hby at_192) (pcN := 195) rfl (by decide) (pcT := 204) rfl (fun hc505 => ?_) (fun hc505 => ?_)
          · refine Own.iloadN hx p3 (hb hby at_204) rfl rfl ?_
            refine Own.i2c hx (hb hby at_205) rfl ?_
            refine Own.istore hx p3.toUInt32.toUInt16.toUInt32.toInt32 rfl #[.val (.int p0), .val (.int p1), .val (.int p2), .val (.int p3), .val (.int (4 : Int32)), .val (.int (3 : Int32)), .val (.int y0), .val (.int y1), .val (.int y2), .val (.int y3), .val (.ref a489), .val (.int sel), .val (.int p3.toUInt32.toUInt16.toUInt32.toInt32), .unset, .unset] (hb hby at_206) rfl rfl ?_
            try simp only [if_neg hc500, if_neg hc504, if_neg hc505] at h_cz
            subst h_cz
            exact kJ503
          · refine Own.iloadN hx p2 (hb hby at_195) rfl rfl ?_
            refine Own.iconst hx (2 : Int32) (hb hby at_196) rfl (by decide) ?_
            refine Own.iadd hx (hb hby at_197) rfl ?_
            refine Own.i2c hx (hb hby at_198) rfl ?_
            refine Own.istore hx (p2 + (2 : Int32)).toUInt32.toUInt16.toUInt32.toInt32 rfl #[.val (.int p0), .val (.int p1), .val (.int p2), .val (.int p3), .val (.int (4 : Int32)), .val (.int (3 : Int32)), .val (.int y0), .val (.int y1), .val (.int y2), .val (.int y3), .val (.ref a489), .val (.int sel), .val (.int (p2 + (2 : Int32)).toUInt32.toUInt16.toUInt32.toInt32), .unset, .unset] (hb hby at_199) rfl rfl ?_
            refine Own.goto hx (hb hby at_201) (by decide) (pc' := 208) rfl ?_
            try simp only [if_neg hc500, if_neg hc504, if_pos hc505] at h_cz
            subst h_cz
            exact kJ503
        · refine Own.iloadN hx p2 (hb hby at_180) rfl rfl ?_
          refine Own.iconst hx (1 : Int32) (hb hby at_181) rfl (by decide) ?_
          refine Own.iadd hx (hb hby at_182) rfl ?_
          refine Own.i2c hx (hb hby at_183) rfl ?_
          refine Own.istore hx (p2 + (1 : Int32)).toUInt32.toUInt16.toUInt32.toInt32 rfl #[.val (.int p0), .val (.int p1), .val (.int p2), .val (.int p3), .val (.int (4 : Int32)), .val (.int (3 : Int32)), .val (.int y0), .val (.int y1), .val (.int y2), .val (.int y3), .val (.ref a489), .val (.int sel), .val (.int (p2 + (1 : Int32)).toUInt32.toUInt16.toUInt32.toInt32), .unset, .unset] (hb hby at_184) rfl rfl ?_
          refine Own.goto hx (hb hby at_186) (by decide) (pc' := 208) rfl ?_
          try simp only [if_neg hc500, if_pos hc504] at h_cz
          subst h_cz
          exact kJ503
      · refine Own.iloadN hx p2 (hb hby at_167) rfl rfl ?_
        refine Own.i2c hx (hb hby at_168) rfl ?_
        refine Own.istore hx p2.toUInt32.toUInt16.toUInt32.toInt32 rfl #[.val (.int p0), .val (.int p1), .val (.int p2), .val (.int p3), .val (.int (4 : Int32)), .val (.int (3 : Int32)), .val (.int y0), .val (.int y1), .val (.int y2), .val (.int y3), .val (.ref a489), .val (.int sel), .val (.int p2.toUInt32.toUInt16.toUInt32.toInt32), .unset, .unset] (hb hby at_169) rfl rfl ?_
        refine Own.goto hx (hb hby at_171) (by decide) (pc' := 208) rfl ?_
        try simp only [if_pos hc500] at h_cz
        subst h_cz
        exact kJ503
    refine Own.aload hx (.ref a489) (hb hby at_208) rfl rfl rfl ?_
    refine Own.iload hx (3 : Int32) (hb hby at_210) rfl rfl ?_
    refine Own.iload hx cz (hb hby at_212) rfl rfl ?_
    refine Own.iconst hx (4 : Int32) (hb hby at_214) rfl (by decide) ?_
    refine Own.callS hx hZ hown (hw _ (List.mem_of_getElem? (i := 1) rfl)) (hw _ (List.mem_of_getElem? (i := 2) rfl)) (hw _ (List.mem_of_getElem? (i := 3) rfl)) (hw _ (List.mem_of_getElem? (i := 4) rfl)) (by decide) pd2 (argsL := [(.ref a489), (.int (3 : Int32)), (.int cz), (.int (4 : Int32))]) (rest := []) rfl (W := 0) (Nat.le_of_eq rfl) (rm := ({ frames := 1, cells := 0, slots := 0, locals := 24 } : Room)) (by decide) (by decide) (by decide) (by decide) (k' := 1) (n' := 4) rfl rfl (by rw [hml]; rfl) [(.int (4 : Int32)), (.int cz), (.int (3 : Int32)), (.ref a489)] rfl (hb hby at_215) (pc' := 218) rfl (rm1_4_3_4 l Z a0 hw a489 cz h498 n0 y0 y1 y2 y3 ([]) O499 (own_idem h_y0) (own_idem h_y1) (own_idem h_y2) (own_idem h_y3) (own_cz h_cz)) ?_
    rintro _ h' ⟨rfl, eh⟩
    rw [eh]; clear eh h'
    show Own.Goes _ _ _ _ _ _ _ _ _ _ _ _ _ _ _ _ _ (mkF m 218 #[.val (.int p0), .val (.int p1), .val (.int p2), .val (.int p3), .val (.int (4 : Int32)), .val (.int (3 : Int32)), .val (.int y0), .val (.int y1), .val (.int y2), .val (.int y3), .val (.ref a489), .val (.int sel), .val (.int cz), .unset, .unset] [(.int (fX4_3_4 y0 y1 y2 y3 cz))])
    obtain ⟨ex, h_ex⟩ : ∃ z : Int32, z = (if (fX4_3_4 y0 y1 y2 y3 cz) = (0 : Int32) then (if (fX4_3_3 y0 y1 y2 y3 cz) = (0 : Int32) then (if (fX4_3_2 y0 y1 y2 y3 cz) = (0 : Int32) then (if (fX4_3_1 y0 y1 y2 y3 cz) = (0 : Int32) then (0 : Int32) else (1 : Int32)) else (2 : Int32)) else (3 : Int32)) else (4 : Int32)) := ⟨_, rfl⟩
    refine Own.Goes.join (mkF m 287 #[.val (.int p0), .val (.int p1), .val (.int p2), .val (.int p3), .val (.int (4 : Int32)), .val (.int (3 : Int32)), .val (.int y0), .val (.int y1), .val (.int y2), .val (.int y3), .val (.ref a489), .val (.int sel), .val (.int cz), .val (.int ex), .unset] []) (fun kJ510 => ?_) ?_
    · refine Own.ifF hx (Own.z_eq (fX4_3_4 y0 y1 y2 y3 cz)) (hb hby at_218) (pcN := 221) rfl (by decide) (pcT := 227) rfl (fun hc506 => ?_) (fun hc506 => ?_)
      · refine Own.aload hx (.ref a489) (hb hby at_227) rfl rfl rfl ?_
        refine Own.iload hx (3 : Int32) (hb hby at_229) rfl rfl ?_
        refine Own.iload hx cz (hb hby at_231) rfl rfl ?_
        refine Own.iconst hx (3 : Int32) (hb hby at_233) rfl (by decide) ?_
        refine Own.callS hx hZ hown (hw _ (List.mem_of_getElem? (i := 1) rfl)) (hw _ (List.mem_of_getElem? (i := 2) rfl)) (hw _ (List.mem_of_getElem? (i := 3) rfl)) (hw _ (List.mem_of_getElem? (i := 4) rfl)) (by decide) pd2 (argsL := [(.ref a489), (.int (3 : Int32)), (.int cz), (.int (3 : Int32))]) (rest := []) rfl (W := 0) (Nat.le_of_eq rfl) (rm := ({ frames := 1, cells := 0, slots := 0, locals := 24 } : Room)) (by decide) (by decide) (by decide) (by decide) (k' := 1) (n' := 4) rfl rfl (by rw [hml]; rfl) [(.int (3 : Int32)), (.int cz), (.int (3 : Int32)), (.ref a489)] rfl (hb hby at_234) (pc' := 237) rfl (rm1_4_3_3 l Z a0 hw a489 cz h498 n0 y0 y1 y2 y3 ([]) O499 (own_idem h_y0) (own_idem h_y1) (own_idem h_y2) (own_idem h_y3) (own_cz h_cz)) ?_
        rintro _ h' ⟨rfl, eh⟩
        rw [eh]; clear eh h'
        show Own.Goes _ _ _ _ _ _ _ _ _ _ _ _ _ _ _ _ _ (mkF m 237 #[.val (.int p0), .val (.int p1), .val (.int p2), .val (.int p3), .val (.int (4 : Int32)), .val (.int (3 : Int32)), .val (.int y0), .val (.int y1), .val (.int y2), .val (.int y3), .val (.ref a489), .val (.int sel), .val (.int cz), .unset, .unset] [(.int (fX4_3_3 y0 y1 y2 y3 cz))])
        refine Own.ifF hx (Own.z_eq (fX4_3_3 y0 y1 y2 y3 cz)) (hb hby at_237) (pcN := 240) rfl (by decide) (pcT := 246) rfl (fun hc511 => ?_) (fun hc511 => ?_)
        · refine Own.aload hx (.ref a489) (hb hby at_246) rfl rfl rfl ?_
          refine Own.iload hx (3 : Int32) (hb hby at_248) rfl rfl ?_
          refine Own.iload hx cz (hb hby at_250) rfl rfl ?_
          refine Own.iconst hx (2 : Int32) (hb hby at_252) rfl (by decide) ?_
          refine Own.callS hx hZ hown (hw _ (List.mem_of_getElem? (i := 1) rfl)) (hw _ (List.mem_of_getElem? (i := 2) rfl)) (hw _ (List.mem_of_getElem? (i := 3) rfl)) (hw _ (List.mem_of_getElem? (i := 4) rfl)) (by decide) pd2 (argsL := [(.ref a489), (.int (3 : Int32)), (.int cz), (.int (2 : Int32))]) (rest := []) rfl (W := 0) (Nat.le_of_eq rfl) (rm := ({ frames := 1, cells := 0, slots := 0, locals := 24 } : Room)) (by decide) (by decide) (by decide) (by decide) (k' := 1) (n' := 4) rfl rfl (by rw [hml]; rfl) [(.int (2 : Int32)), (.int cz), (.int (3 : Int32)), (.ref a489)] rfl (hb hby at_253) (pc' := 256) rfl (rm1_4_3_2 l Z a0 hw a489 cz h498 n0 y0 y1 y2 y3 ([]) O499 (own_idem h_y0) (own_idem h_y1) (own_idem h_y2) (own_idem h_y3) (own_cz h_cz)) ?_
          rintro _ h' ⟨rfl, eh⟩
          rw [eh]; clear eh h'
          show Own.Goes _ _ _ _ _ _ _ _ _ _ _ _ _ _ _ _ _ (mkF m 256 #[.val (.int p0), .val (.int p1), .val (.int p2), .val (.int p3), .val (.int (4 : Int32)), .val (.int (3 : Int32)), .val (.int y0), .val (.int y1), .val (.int y2), .val (.int y3), .val (.ref a489), .val (.int sel), .val (.int cz), .unset, .unset] [(.int (fX4_3_2 y0 y1 y2 y3 cz))])
          refine Own.ifF hx (Own.z_eq (fX4_3_2 y0 y1 y2 y3 cz)) (hb hby at_256) (pcN := 259) rfl (by decide) (pcT := 265) rfl (fun hc512 => ?_) (fun hc512 => ?_)
          · refine Own.aload hx (.ref a489) (hb hby at_265) rfl rfl rfl ?_
            refine Own.iload hx (3 : Int32) (hb hby at_267) rfl rfl ?_
            refine Own.iload hx cz (hb hby at_269) rfl rfl ?_
            refine Own.iconst hx (1 : Int32) (hb hby at_271) rfl (by decide) ?_
            refine Own.callS hx hZ hown (hw _ (List.mem_of_getElem? (i := 1) rfl)) (hw _ (List.mem_of_getElem? (i := 2) rfl)) (hw _ (List.mem_of_getElem? (i := 3) rfl)) (hw _ (List.mem_of_getElem? (i := 4) rfl)) (by decide) pd2 (argsL := [(.ref a489), (.int (3 : Int32)), (.int cz), (.int (1 : Int32))]) (rest := []) rfl (W := 0) (Nat.le_of_eq rfl) (rm := ({ frames := 1, cells := 0, slots := 0, locals := 24 } : Room)) (by decide) (by decide) (by decide) (by decide) (k' := 1) (n' := 4) rfl rfl (by rw [hml]; rfl) [(.int (1 : Int32)), (.int cz), (.int (3 : Int32)), (.ref a489)] rfl (hb hby at_272) (pc' := 275) rfl (rm1_4_3_1 l Z a0 hw a489 cz h498 n0 y0 y1 y2 y3 ([]) O499 (own_idem h_y0) (own_idem h_y1) (own_idem h_y2) (own_idem h_y3) (own_cz h_cz)) ?_
            rintro _ h' ⟨rfl, eh⟩
            rw [eh]; clear eh h'
            show Own.Goes _ _ _ _ _ _ _ _ _ _ _ _ _ _ _ _ _ (mkF m 275 #[.val (.int p0), .val (.int p1), .val (.int p2), .val (.int p3), .val (.int (4 : Int32)), .val (.int (3 : Int32)), .val (.int y0), .val (.int y1), .val (.int y2), .val (.int y3), .val (.ref a489), .val (.int sel), .val (.int cz), .unset, .unset] [(.int (fX4_3_1 y0 y1 y2 y3 cz))])
            refine Own.ifF hx (Own.z_eq (fX4_3_1 y0 y1 y2 y3 cz)) (hb hby at_275) (pcN := 278) rfl (by decide) (pcT := 284) rfl (fun hc513 => ?_) (fun hc513 => ?_)
            · refine Own.iconst hx (0 : Int32) (hb hby at_284) rfl (by decide) ?_
              refine Own.istore hx (0 : Int32) rfl #[.val (.int p0), .val (.int p1), .val (.int p2), .val (.int p3), .val (.int (4 : Int32)), .val (.int (3 : Int32)), .val (.int y0), .val (.int y1), .val (.int y2), .val (.int y3), .val (.ref a489), .val (.int sel), .val (.int cz), .val (.int (0 : Int32)), .unset] (hb hby at_285) rfl rfl ?_
              try simp only [if_pos hc506, if_pos hc511, if_pos hc512, if_pos hc513] at h_ex
              subst h_ex
              exact kJ510
            · refine Own.iconst hx (1 : Int32) (hb hby at_278) rfl (by decide) ?_
              refine Own.istore hx (1 : Int32) rfl #[.val (.int p0), .val (.int p1), .val (.int p2), .val (.int p3), .val (.int (4 : Int32)), .val (.int (3 : Int32)), .val (.int y0), .val (.int y1), .val (.int y2), .val (.int y3), .val (.ref a489), .val (.int sel), .val (.int cz), .val (.int (1 : Int32)), .unset] (hb hby at_279) rfl rfl ?_
              refine Own.goto hx (hb hby at_281) (by decide) (pc' := 287) rfl ?_
              try simp only [if_pos hc506, if_pos hc511, if_pos hc512, if_neg hc513] at h_ex
              subst h_ex
              exact kJ510
          · refine Own.iconst hx (2 : Int32) (hb hby at_259) rfl (by decide) ?_
            refine Own.istore hx (2 : Int32) rfl #[.val (.int p0), .val (.int p1), .val (.int p2), .val (.int p3), .val (.int (4 : Int32)), .val (.int (3 : Int32)), .val (.int y0), .val (.int y1), .val (.int y2), .val (.int y3), .val (.ref a489), .val (.int sel), .val (.int cz), .val (.int (2 : Int32)), .unset] (hb hby at_260) rfl rfl ?_
            refine Own.goto hx (hb hby at_262) (by decide) (pc' := 287) rfl ?_
            try simp only [if_pos hc506, if_pos hc511, if_neg hc512] at h_ex
            subst h_ex
            exact kJ510
        · refine Own.iconst hx (3 : Int32) (hb hby at_240) rfl (by decide) ?_
          refine Own.istore hx (3 : Int32) rfl #[.val (.int p0), .val (.int p1), .val (.int p2), .val (.int p3), .val (.int (4 : Int32)), .val (.int (3 : Int32)), .val (.int y0), .val (.int y1), .val (.int y2), .val (.int y3), .val (.ref a489), .val (.int sel), .val (.int cz), .val (.int (3 : Int32)), .unset] (hb hby at_241) rfl rfl ?_
          refine Own.goto hx (hb hby at_243) (by decide) (pc' := 287) rfl ?_
          try simp only [if_pos hc506, if_neg hc511] at h_ex
          subst h_ex
          exact kJ510
      · refine Own.iconst hx (4 : Int32) (hb hby at_221) rfl (by decide) ?_
        refine Own.istore hx (4 : Int32) rfl #[.val (.int p0), .val (.int p1), .val (.int p2), .val (.int p3), .val (.int (4 : Int32)), .val (.int (3 : Int32)), .val (.int y0), .val (.int y1), .val (.int y2), .val (.int y3), .val (.ref a489), .val (.int sel), .val (.int cz), .val (.int (4 : Int32)), .unset] (hb hby at_222) rfl rfl ?_
        refine Own.goto hx (hb hby at_224) (by decide) (pc' := 287) rfl ?_
        try simp only [if_neg hc506] at h_ex
        subst h_ex
        exact kJ510
    refine Own.newobj hx hZ hown O499 (hw _ (List.mem_of_getElem? (i := 8) rfl)) (hw _ (List.mem_of_getElem? (i := 9) rfl)) (hw _ (List.mem_of_getElem? (i := 10) rfl)) [(("com/example/idxof/idxof/KnuthMorrisPrattPattern", "chars", "[C"), .null), (("com/example/idxof/idxof/KnuthMorrisPrattPattern", "borders", "[I"), .null)] (by intro f hf; simp only [List.mem_cons, List.not_mem_nil, or_false] at hf; rcases hf with rfl | rfl; exact ⟨Or.inr (hw _ (List.mem_of_getElem? (i := 18) rfl)), (.array .char), by decide, rfl⟩; exact ⟨Or.inr (hw _ (List.mem_of_getElem? (i := 25) rfl)), (.array .int), by decide, rfl⟩) (by decide) (k' := 2) (n' := 6) rfl rfl (by decide) (by decide) (hb hby at_287) (pc' := 290) rfl ?_
    intro a514 h515 O516
    refine Own.dup hx (hb hby at_290) rfl rfl ?_
    refine Own.aload hx (.ref a489) (hb hby at_291) rfl rfl rfl ?_
    have O517 : Own.Owns n0 h515 ((a489, Own.ArrC Z .char [(.int y0), (.int y1), (.int y2), (.int y3)]) :: (a514, Own.ObjC Z "com/example/idxof/idxof/KnuthMorrisPrattPattern" [(("com/example/idxof/idxof/KnuthMorrisPrattPattern", "chars", "[C"), .null), (("com/example/idxof/idxof/KnuthMorrisPrattPattern", "borders", "[I"), .null)]) :: []) := O516.pick 1 rfl
    have O518 : Own.Owns n0 h515 ((a514, Own.ObjC Z "com/example/idxof/idxof/KnuthMorrisPrattPattern" [(("com/example/idxof/idxof/KnuthMorrisPrattPattern", "chars", "[C"), .null), (("com/example/idxof/idxof/KnuthMorrisPrattPattern", "borders", "[I"), .null)]) :: (a489, Own.ArrC Z .char [(.int y0), (.int y1), (.int y2), (.int y3)]) :: []) := O517.pick 1 rfl
    refine Own.callI hx hZ hown rfl (hw _ (List.mem_of_getElem? (i := 11) rfl)) (hw _ (List.mem_of_getElem? (i := 12) rfl)) (hw _ (List.mem_of_getElem? (i := 10) rfl)) (hw _ (List.mem_of_getElem? (i := 13) rfl)) (by decide) pd3 (argsL := [(.ref a489)]) (rest := [(.ref a514)]) rfl (W := 1) (Nat.le_of_eq rfl) (rm := ({ frames := 1, cells := 1, slots := 4, locals := 16 } : Room)) (by decide) (by decide) (by decide) (by decide) (k' := 3) (n' := 10) rfl rfl (by rw [hml]; rfl) [(.ref a489), (.ref a514), (.ref a514)] rfl (hb hby at_293) (pc' := 296) rfl (rm3 l Z a0 hw a514 a489 h515 n0 [y0, y1, y2, y3] (by exact (show 4 ≤ 4 by decide)) ([]) O518) ?_
    rintro _ h520 ⟨r519, rfl, O521⟩
    show Own.Goes _ _ _ _ _ _ _ _ _ _ _ _ _ _ _ _ _ (mkF m 296 #[.val (.int p0), .val (.int p1), .val (.int p2), .val (.int p3), .val (.int (4 : Int32)), .val (.int (3 : Int32)), .val (.int y0), .val (.int y1), .val (.int y2), .val (.int y3), .val (.ref a489), .val (.int sel), .val (.int cz), .val (.int ex), .unset] [(.ref a514)])
    refine Own.astore hx #[.val (.int p0), .val (.int p1), .val (.int p2), .val (.int p3), .val (.int (4 : Int32)), .val (.int (3 : Int32)), .val (.int y0), .val (.int y1), .val (.int y2), .val (.int y3), .val (.ref a489), .val (.int sel), .val (.int cz), .val (.int ex), .val (.ref a514)] (hb hby at_296) rfl rfl rfl ?_
    refine Own.aload hx (.ref a514) (hb hby at_298) rfl rfl rfl ?_
    refine Own.iload hx (3 : Int32) (hb hby at_300) rfl rfl ?_
    refine Own.iload hx cz (hb hby at_302) rfl rfl ?_
    have O522 : Own.Owns n0 h520 ((r519, Own.ArrC Z .int ((ofL [y0, y1, y2, y3]).map gI)) :: (a514, Own.ObjC Z "com/example/idxof/idxof/KnuthMorrisPrattPattern" [(("com/example/idxof/idxof/KnuthMorrisPrattPattern", "chars", "[C"), (.ref a489)), (("com/example/idxof/idxof/KnuthMorrisPrattPattern", "borders", "[I"), (.ref r519))]) :: (a489, Own.ArrC Z .char [(.int y0), (.int y1), (.int y2), (.int y3)]) :: []) := O521.pick 1 rfl
    have O523 : Own.Owns n0 h520 ((a489, Own.ArrC Z .char [(.int y0), (.int y1), (.int y2), (.int y3)]) :: (r519, Own.ArrC Z .int ((ofL [y0, y1, y2, y3]).map gI)) :: (a514, Own.ObjC Z "com/example/idxof/idxof/KnuthMorrisPrattPattern" [(("com/example/idxof/idxof/KnuthMorrisPrattPattern", "chars", "[C"), (.ref a489)), (("com/example/idxof/idxof/KnuthMorrisPrattPattern", "borders", "[I"), (.ref r519))]) :: []) := O522.pick 2 rfl
    have O524 : Own.Owns n0 h520 ((a514, Own.ObjC Z "com/example/idxof/idxof/KnuthMorrisPrattPattern" [(("com/example/idxof/idxof/KnuthMorrisPrattPattern", "chars", "[C"), (.ref a489)), (("com/example/idxof/idxof/KnuthMorrisPrattPattern", "borders", "[I"), (.ref r519))]) :: (a489, Own.ArrC Z .char [(.int y0), (.int y1), (.int y2), (.int y3)]) :: (r519, Own.ArrC Z .int ((ofL [y0, y1, y2, y3]).map gI)) :: []) := O523.pick 2 rfl
    refine Own.callV hx hZ hown (O524.exa (i := 0) rfl) (hw _ (List.mem_of_getElem? (i := 26) rfl)) (hw _ (List.mem_of_getElem? (i := 27) rfl)) (hw _ (List.mem_of_getElem? (i := 29) rfl)) (hw _ (List.mem_of_getElem? (i := 28) rfl)) (hw _ (List.mem_of_getElem? (i := 10) rfl)) (hw _ (List.mem_of_getElem? (i := 30) rfl)) (by decide) pd4 (argsL := [(.int (3 : Int32)), (.int cz)]) (rest := []) rfl (W := 0) (Nat.le_of_eq rfl) (rm := ({ frames := 0, cells := 0, slots := 0, locals := 0 } : Room)) (by decide) (by decide) (by decide) (by decide) (k' := 3) (n' := 10) rfl rfl (by rw [hml]; rfl) [(.int cz), (.int (3 : Int32)), (.ref a514)] rfl (hb hby at_304) (pc' := 307) rfl (rm6_4_3 l Z a0 hw a514 cz h520 n0 [y0, y1, y2, y3] rfl a489 r519 ([]) O524) ?_
    rintro _ h' ⟨rfl, eh⟩
    rw [eh]; clear eh h'
    show Own.Goes _ _ _ _ _ _ _ _ _ _ _ _ _ _ _ _ _ (mkF m 307 #[.val (.int p0), .val (.int p1), .val (.int p2), .val (.int p3), .val (.int (4 : Int32)), .val (.int (3 : Int32)), .val (.int y0), .val (.int y1), .val (.int y2), .val (.int y3), .val (.ref a489), .val (.int sel), .val (.int cz), .val (.int ex), .val (.ref a514)] [(.int (nextE (eqAt ([y0, y1, y2, y3] ++ [cz])) (ofL [y0, y1, y2, y3]) [y0, y1, y2, y3].length 3).toInt32)])
    refine Own.iload hx ex (hb hby at_307) rfl rfl ?_
    obtain ⟨z, h_z⟩ : ∃ z : Int32, z = (if (nextE (eqAt ([y0, y1, y2, y3] ++ [cz])) (ofL [y0, y1, y2, y3]) [y0, y1, y2, y3].length 3).toInt32 = ex then (1 : Int32) else (0 : Int32)) := ⟨_, rfl⟩
    refine Own.Goes.join (mkF m 317 #[.val (.int p0), .val (.int p1), .val (.int p2), .val (.int p3), .val (.int (4 : Int32)), .val (.int (3 : Int32)), .val (.int y0), .val (.int y1), .val (.int y2), .val (.int y3), .val (.ref a489), .val (.int sel), .val (.int cz), .val (.int ex), .val (.ref a514)] [(.int z)]) (fun kJ526 => ?_) ?_
    · refine Own.icmpFn hx (Own.q_ne (nextE (eqAt ([y0, y1, y2, y3] ++ [cz])) (ofL [y0, y1, y2, y3]) [y0, y1, y2, y3].length 3).toInt32 ex) (hb hby at_309) (pcN := 312) rfl (by decide) (pcT := 316) rfl (fun hc525 => ?_) (fun hc525 => ?_)
      · refine Own.iconst hx (0 : Int32) (hb hby at_316) rfl (by decide) ?_
        try simp only [if_neg hc525] at h_z
        subst h_z
        exact kJ526
      · refine Own.iconst hx (1 : Int32) (hb hby at_312) rfl (by decide) ?_
        refine Own.goto hx (hb hby at_313) (by decide) (pc' := 317) rfl ?_
        try simp only [if_pos hc525] at h_z
        subst h_z
        exact kJ526
    exact Own.retS hx hret (by simp) hlk (hb hby at_317) (by decide) (by decide) (Own.bool1 (own_fin4_3 h_ex h_z))
  · subst q q'
    refine Own.iloadN hx p2 (hb hby at_20) rfl rfl ?_
    refine Own.iloadN hx p1 (hb hby at_21) rfl rfl ?_
    refine Own.iconst hx (1 : Int32) (hb hby at_22) rfl (by decide) ?_
    refine Own.iand hx (hb hby at_23) rfl ?_
    refine Own.iadd hx (hb hby at_24) rfl ?_
    refine Own.i2c hx (hb hby at_25) rfl ?_
    obtain ⟨y0, h_y0⟩ : ∃ z : Int32, z = (p2 + (p1 &&& (1 : Int32))).toUInt32.toUInt16.toUInt32.toInt32 := ⟨_, rfl⟩
    refine Own.istore hx y0 h_y0 #[.val (.int p0), .val (.int p1), .val (.int p2), .val (.int p3), .val (.int (4 : Int32)), .val (.int (4 : Int32)), .val (.int y0), .unset, .unset, .unset, .unset, .unset, .unset, .unset, .unset] (hb hby at_26) rfl rfl ?_
    refine Own.iloadN hx p2 (hb hby at_28) rfl rfl ?_
    refine Own.iloadN hx p1 (hb hby at_29) rfl rfl ?_
    refine Own.iconst hx (1 : Int32) (hb hby at_30) rfl (by decide) ?_
    refine Own.iushr hx (hb hby at_31) rfl ?_
    refine Own.iconst hx (1 : Int32) (hb hby at_32) rfl (by decide) ?_
    refine Own.iand hx (hb hby at_33) rfl ?_
    refine Own.iadd hx (hb hby at_34) rfl ?_
    refine Own.i2c hx (hb hby at_35) rfl ?_
    obtain ⟨y1, h_y1⟩ : ∃ z : Int32, z = (p2 + ((p1.toUInt32 >>> ((1 : Int32) &&& 31).toUInt32).toInt32 &&& (1 : Int32))).toUInt32.toUInt16.toUInt32.toInt32 := ⟨_, rfl⟩
    refine Own.istore hx y1 h_y1 #[.val (.int p0), .val (.int p1), .val (.int p2), .val (.int p3), .val (.int (4 : Int32)), .val (.int (4 : Int32)), .val (.int y0), .val (.int y1), .unset, .unset, .unset, .unset, .unset, .unset, .unset] (hb hby at_36) rfl rfl ?_
    refine Own.iloadN hx p2 (hb hby at_38) rfl rfl ?_
    refine Own.iloadN hx p1 (hb hby at_39) rfl rfl ?_
    refine Own.iconst hx (2 : Int32) (hb hby at_40) rfl (by decide) ?_
    refine Own.iushr hx (hb hby at_41) rfl ?_
    refine Own.iconst hx (1 : Int32) (hb hby at_42) rfl (by decide) ?_
    refine Own.iand hx (hb hby at_43) rfl ?_
    refine Own.iadd hx (hb hby at_44) rfl ?_
    refine Own.i2c hx (hb hby at_45) rfl ?_
    obtain ⟨y2, h_y2⟩ : ∃ z : Int32, z = (p2 + ((p1.toUInt32 >>> ((2 : Int32) &&& 31).toUInt32).toInt32 &&& (1 : Int32))).toUInt32.toUInt16.toUInt32.toInt32 := ⟨_, rfl⟩
    refine Own.istore hx y2 h_y2 #[.val (.int p0), .val (.int p1), .val (.int p2), .val (.int p3), .val (.int (4 : Int32)), .val (.int (4 : Int32)), .val (.int y0), .val (.int y1), .val (.int y2), .unset, .unset, .unset, .unset, .unset, .unset] (hb hby at_46) rfl rfl ?_
    refine Own.iloadN hx p2 (hb hby at_48) rfl rfl ?_
    refine Own.iloadN hx p1 (hb hby at_49) rfl rfl ?_
    refine Own.iconst hx (3 : Int32) (hb hby at_50) rfl (by decide) ?_
    refine Own.iushr hx (hb hby at_51) rfl ?_
    refine Own.iconst hx (1 : Int32) (hb hby at_52) rfl (by decide) ?_
    refine Own.iand hx (hb hby at_53) rfl ?_
    refine Own.iadd hx (hb hby at_54) rfl ?_
    refine Own.i2c hx (hb hby at_55) rfl ?_
    obtain ⟨y3, h_y3⟩ : ∃ z : Int32, z = (p2 + ((p1.toUInt32 >>> ((3 : Int32) &&& 31).toUInt32).toInt32 &&& (1 : Int32))).toUInt32.toUInt16.toUInt32.toInt32 := ⟨_, rfl⟩
    refine Own.istore hx y3 h_y3 #[.val (.int p0), .val (.int p1), .val (.int p2), .val (.int p3), .val (.int (4 : Int32)), .val (.int (4 : Int32)), .val (.int y0), .val (.int y1), .val (.int y2), .val (.int y3), .unset, .unset, .unset, .unset, .unset] (hb hby at_56) rfl rfl ?_
    refine Own.iload hx (4 : Int32) (hb hby at_58) rfl rfl ?_
    refine Own.iconst hx (1 : Int32) (hb hby at_60) rfl (by decide) ?_
    have hc527 : ¬ ((4 : Int32) = (1 : Int32)) := by decide
    refine Own.icmpFn hx (Own.q_ne (4 : Int32) (1 : Int32)) (hb hby at_61) (pcN := 64) rfl (by decide) (pcT := 77) rfl (fun _ => ?_) (fun q => absurd q hc527)
    refine Own.iload hx (4 : Int32) (hb hby at_77) rfl rfl ?_
    refine Own.iconst hx (2 : Int32) (hb hby at_79) rfl (by decide) ?_
    have hc529 : ¬ ((4 : Int32) = (2 : Int32)) := by decide
    refine Own.icmpFn hx (Own.q_ne (4 : Int32) (2 : Int32)) (hb hby at_80) (pcN := 83) rfl (by decide) (pcT := 101) rfl (fun _ => ?_) (fun q => absurd q hc529)
    refine Own.iload hx (4 : Int32) (hb hby at_101) rfl rfl ?_
    refine Own.iconst hx (3 : Int32) (hb hby at_103) rfl (by decide) ?_
    have hc531 : ¬ ((4 : Int32) = (3 : Int32)) := by decide
    refine Own.icmpFn hx (Own.q_ne (4 : Int32) (3 : Int32)) (hb hby at_104) (pcN := 107) rfl (by decide) (pcT := 130) rfl (fun _ => ?_) (fun q => absurd q hc531)
    refine Own.iconst hx (4 : Int32) (hb hby at_130) rfl (by decide) ?_
    refine Own.newarr hx hZ O0 (aty := .char) (hw _ (List.mem_of_getElem? (i := 0) rfl)) 4 (by decide) [(.int (0 : Int32)), (.int (0 : Int32)), (.int (0 : Int32)), (.int (0 : Int32))] rfl rfl (cap := 4) (by decide) (by decide) (k' := 1) (n' := 4) rfl rfl (by decide) (by decide) (hb hby at_131) (pc' := 133) rfl ?_
    intro a533 h534 O535
    refine Own.dup hx (hb hby at_133) rfl rfl ?_
    refine Own.iconst hx (0 : Int32) (hb hby at_134) rfl (by decide) ?_
    refine Own.iload hx y0 (hb hby at_135) rfl rfl ?_
    refine Own.castore hx hZ O535 0 0 rfl (by decide) (by exact (show 0 < 4 by decide)) ((a533, Own.ArrC Z .char [(.int y0), (.int (0 : Int32)), (.int (0 : Int32)), (.int (0 : Int32))]) :: []) (by rw [own_idem h_y0]; rfl) (hb hby at_137) rfl ?_
    intro h536 O537
    refine Own.dup hx (hb hby at_138) rfl rfl ?_
    refine Own.iconst hx (1 : Int32) (hb hby at_139) rfl (by decide) ?_
    refine Own.iload hx y1 (hb hby at_140) rfl rfl ?_
    refine Own.castore hx hZ O537 0 1 rfl (by decide) (by exact (show 1 < 4 by decide)) ((a533, Own.ArrC Z .char [(.int y0), (.int y1), (.int (0 : Int32)), (.int (0 : Int32))]) :: []) (by rw [own_idem h_y1]; rfl) (hb hby at_142) rfl ?_
    intro h538 O539
    refine Own.dup hx (hb hby at_143) rfl rfl ?_
    refine Own.iconst hx (2 : Int32) (hb hby at_144) rfl (by decide) ?_
    refine Own.iload hx y2 (hb hby at_145) rfl rfl ?_
    refine Own.castore hx hZ O539 0 2 rfl (by decide) (by exact (show 2 < 4 by decide)) ((a533, Own.ArrC Z .char [(.int y0), (.int y1), (.int y2), (.int (0 : Int32))]) :: []) (by rw [own_idem h_y2]; rfl) (hb hby at_147) rfl ?_
    intro h540 O541
    refine Own.dup hx (hb hby at_148) rfl rfl ?_
    refine Own.iconst hx (3 : Int32) (hb hby at_149) rfl (by decide) ?_
    refine Own.iload hx y3 (hb hby at_150) rfl rfl ?_
    refine Own.castore hx hZ O541 0 3 rfl (by decide) (by exact (show 3 < 4 by decide)) ((a533, Own.ArrC Z .char [(.int y0), (.int y1), (.int y2), (.int y3)]) :: []) (by rw [own_idem h_y3]; rfl) (hb hby at_152) rfl ?_
    intro h542 O543
    refine Own.astore hx #[.val (.int p0), .val (.int p1), .val (.int p2), .val (.int p3), .val (.int (4 : Int32)), .val (.int (4 : Int32)), .val (.int y0), .val (.int y1), .val (.int y2), .val (.int y3), .val (.ref a533), .unset, .unset, .unset, .unset] (hb hby at_153) rfl rfl rfl ?_
    refine Own.iloadN hx p1 (hb hby at_155) rfl rfl ?_
    refine Own.iconst hx (4 : Int32) (hb hby at_156) rfl (by decide) ?_
    refine Own.iushr hx (hb hby at_157) rfl ?_
    refine Own.iconst hx (3 : Int32) (hb hby at_158) rfl (by decide) ?_
    refine Own.iand hx (hb hby at_159) rfl ?_
    obtain ⟨sel, h_sel⟩ : ∃ z : Int32, z = ((p1.toUInt32 >>> ((4 : Int32) &&& 31).toUInt32).toInt32 &&& (3 : Int32)) := ⟨_, rfl⟩
    refine Own.istore hx sel h_sel #[.val (.int p0), .val (.int p1), .val (.int p2), .val (.int p3), .val (.int (4 : Int32)), .val (.int (4 : Int32)), .val (.int y0), .val (.int y1), .val (.int y2), .val (.int y3), .val (.ref a533), .val (.int sel), .unset, .unset, .unset] (hb hby at_160) rfl rfl ?_
    refine Own.iload hx sel (hb hby at_162) rfl rfl ?_
    obtain ⟨cz, h_cz⟩ : ∃ z : Int32, z = (if sel = (0 : Int32) then p2.toUInt32.toUInt16.toUInt32.toInt32 else (if sel = (1 : Int32) then (p2 + (1 : Int32)).toUInt32.toUInt16.toUInt32.toInt32 else (if sel = (2 : Int32) then (p2 + (2 : Int32)).toUInt32.toUInt16.toUInt32.toInt32 else p3.toUInt32.toUInt16.toUInt32.toInt32))) := ⟨_, rfl⟩
    refine Own.Goes.join (mkF m 208 #[.val (.int p0), .val (.int p1), .val (.int p2), .val (.int p3), .val (.int (4 : Int32)), .val (.int (4 : Int32)), .val (.int y0), .val (.int y1), .val (.int y2), .val (.int y3), .val (.ref a533), .val (.int sel), .val (.int cz), .unset, .unset] []) (fun kJ547 => ?_) ?_
    · refine Own.ifFn hx (Own.z_ne sel) (hb hby at_164) (pcN := 167) rfl (by decide) (pcT := 174) rfl (fun hc544 => ?_) (fun hc544 => ?_)
      · refine Own.iload hx sel (hb hby at_174) rfl rfl ?_
        refine Own.iconst hx (1 : Int32) (hb hby at_176) rfl (by decide) ?_
        refine Own.icmpFn hx (Own.q_ne sel (1 : Int32)) (hb hby at_177) (pcN := 180) rfl (by decide) (pcT := 189) rfl (fun hc548 => ?_) (fun hc548 => ?_)
        · refine Own.iload hx sel (hb hby at_189) rfl rfl ?_
          refine Own.iconst hx (2 : Int32) (hb hby at_191) rfl (by decide) ?_
          refine Own.icmpFn hx (Own.q_ne sel (2 : Int32)) (hb hby at_192) (pcN := 195) rfl (by decide) (pcT := 204) rfl (fun hc549 => ?_) (fun hc549 => ?_)
          · refine Own.iloadN hx p3 (hb hby at_204) rfl rfl ?_
            refine Own.i2c hx (hb hby at_205) rfl ?_
            refine Own.istore hx p3.toUInt32.toUInt16.toUInt32.toInt32 rfl #[.val (.int p0), .val (.int p1), .val (.int p2), .val (.int p3), .val (.int (4 : Int32)), .val (.int (4 : Int32)), .val (.int y0), .val (.int y1), .val (.int y2), .val (.int y3), .val (.ref a533), .val (.int sel), .val (.int p3.toUInt32.toUInt16.toUInt32.toInt32), .unset, .unset] (hb hby at_206) rfl rfl ?_
            try simp only [if_neg hc544, if_neg hc548, if_neg hc549] at h_cz
            subst h_cz
            exact kJ547
          · refine Own.iloadN hx p2 (hb hby at_195) rfl rfl ?_
            refine Own.iconst hx (2 : Int32) (hb hby at_196) rfl (by decide) ?_
            refine Own.iadd hx (hb hby at_197) rfl ?_
            refine Own.i2c hx (hb hby at_198) rfl ?_
            refine Own.istore hx (p2 + (2 : Int32)).toUInt32.toUInt16.toUInt32.toInt32 rfl #[.val (.int p0), .val (.int p1), .val (.int p2), .val (.int p3), .val (.int (4 : Int32)), .val (.int (4 : Int32)), .val (.int y0), .val (.int y1), .val (.int y2), .val (.int y3), .val (.ref a533), .val (.int sel), .val (.int (p2 + (2 : Int32)).toUInt32.toUInt16.toUInt32.toInt32), .unset, .unset] (hb hby at_199) rfl rfl ?_
            refine Own.goto hx (hb hby at_201) (by decide) (pc' := 208) rfl ?_
            try simp only [if_neg hc544, if_neg hc548, if_pos hc549] at h_cz
            subst h_cz
            exact kJ547
        · refine Own.iloadN hx p2 (hb hby at_180) rfl rfl ?_
          refine Own.iconst hx (1 : Int32) (hb hby at_181) rfl (by decide) ?_
          refine Own.iadd hx (hb hby at_182) rfl ?_
          refine Own.i2c hx (hb hby at_183) rfl ?_
          refine Own.istore hx (p2 + (1 : Int32)).toUInt32.toUInt16.toUInt32.toInt32 rfl #[.val (.int p0), .val (.int p1), .val (.int p2), .val (.int p3), .val (.int (4 : Int32)), .val (.int (4 : Int32)), .val (.int y0), .val (.int y1), .val (.int y2), .val (.int y3), .val (.ref a533), .val (.int sel), .val (.int (p2 + (1 : Int32)).toUInt32.toUInt16.toUInt32.toInt32), .unset, .unset] (hb hby at_184) rfl rfl ?_
          refine Own.goto hx (hb hby at_186) (by decide) (pc' := 208) rfl ?_
          try simp only [if_neg hc544, if_pos hc548] at h_cz
          subst h_cz
          exact kJ547
      · refine Own.iloadN hx p2 (hb hby at_167) rfl rfl ?_
        refine Own.i2c hx (hb hby at_168) rfl ?_
        refine Own.istore hx p2.toUInt32.toUInt16.toUInt32.toInt32 rfl #[.val (.int p0), .val (.int p1), .val (.int p2), .val (.int p3), .val (.int (4 : Int32)), .val (.int (4 : Int32)), .val (.int y0), .val (.int y1), .val (.int y2), .val (.int y3), .val (.ref a533), .val (.int sel), .val (.int p2.toUInt32.toUInt16.toUInt32.toInt32), .unset, .unset] (hb hby at_169) rfl rfl ?_
        refine Own.goto hx (hb hby at_171) (by decide) (pc' := 208) rfl ?_
        try simp only [if_pos hc544] at h_cz
        subst h_cz
        exact kJ547
    refine Own.aload hx (.ref a533) (hb hby at_208) rfl rfl rfl ?_
    refine Own.iload hx (4 : Int32) (hb hby at_210) rfl rfl ?_
    refine Own.iload hx cz (hb hby at_212) rfl rfl ?_
    refine Own.iconst hx (4 : Int32) (hb hby at_214) rfl (by decide) ?_
    refine Own.callS hx hZ hown (hw _ (List.mem_of_getElem? (i := 1) rfl)) (hw _ (List.mem_of_getElem? (i := 2) rfl)) (hw _ (List.mem_of_getElem? (i := 3) rfl)) (hw _ (List.mem_of_getElem? (i := 4) rfl)) (by decide) pd2 (argsL := [(.ref a533), (.int (4 : Int32)), (.int cz), (.int (4 : Int32))]) (rest := []) rfl (W := 0) (Nat.le_of_eq rfl) (rm := ({ frames := 1, cells := 0, slots := 0, locals := 24 } : Room)) (by decide) (by decide) (by decide) (by decide) (k' := 1) (n' := 4) rfl rfl (by rw [hml]; rfl) [(.int (4 : Int32)), (.int cz), (.int (4 : Int32)), (.ref a533)] rfl (hb hby at_215) (pc' := 218) rfl (rm1_4_4_4 l Z a0 hw a533 cz h542 n0 y0 y1 y2 y3 ([]) O543 (own_idem h_y0) (own_idem h_y1) (own_idem h_y2) (own_idem h_y3) (own_cz h_cz)) ?_
    rintro _ h' ⟨rfl, eh⟩
    rw [eh]; clear eh h'
    show Own.Goes _ _ _ _ _ _ _ _ _ _ _ _ _ _ _ _ _ (mkF m 218 #[.val (.int p0), .val (.int p1), .val (.int p2), .val (.int p3), .val (.int (4 : Int32)), .val (.int (4 : Int32)), .val (.int y0), .val (.int y1), .val (.int y2), .val (.int y3), .val (.ref a533), .val (.int sel), .val (.int cz), .unset, .unset] [(.int (fX4_4_4 y0 y1 y2 y3 cz))])
    obtain ⟨ex, h_ex⟩ : ∃ z : Int32, z = (if (fX4_4_4 y0 y1 y2 y3 cz) = (0 : Int32) then (if (fX4_4_3 y0 y1 y2 y3 cz) = (0 : Int32) then (if (fX4_4_2 y0 y1 y2 y3 cz) = (0 : Int32) then (if (fX4_4_1 y0 y1 y2 y3 cz) = (0 : Int32) then (0 : Int32) else (1 : Int32)) else (2 : Int32)) else (3 : Int32)) else (4 : Int32)) := ⟨_, rfl⟩
    refine Own.Goes.join (mkF m 287 #[.val (.int p0), .val (.int p1), .val (.int p2), .val (.int p3), .val (.int (4 : Int32)), .val (.int (4 : Int32)), .val (.int y0), .val (.int y1), .val (.int y2), .val (.int y3), .val (.ref a533), .val (.int sel), .val (.int cz), .val (.int ex), .unset] []) (fun kJ554 => ?_) ?_
    · refine Own.ifF hx (Own.z_eq (fX4_4_4 y0 y1 y2 y3 cz)) (hb hby at_218) (pcN := 221) rfl (by decide) (pcT := 227) rfl (fun hc550 => ?_) (fun hc550 => ?_)
      · refine Own.aload hx (.ref a533) (hb hby at_227) rfl rfl rfl ?_
        refine Own.iload hx (4 : Int32) (hb hby at_229) rfl rfl ?_
        refine Own.iload hx cz (hb hby at_231) rfl rfl ?_
        refine Own.iconst hx (3 : Int32) (hb hby at_233) rfl (by decide) ?_
        refine Own.callS hx hZ hown (hw _ (List.mem_of_getElem? (i := 1) rfl)) (hw _ (List.mem_of_getElem? (i := 2) rfl)) (hw _ (List.mem_of_getElem? (i := 3) rfl)) (hw _ (List.mem_of_getElem? (i := 4) rfl)) (by decide) pd2 (argsL := [(.ref a533), (.int (4 : Int32)), (.int cz), (.int (3 : Int32))]) (rest := []) rfl (W := 0) (Nat.le_of_eq rfl) (rm := ({ frames := 1, cells := 0, slots := 0, locals := 24 } : Room)) (by decide) (by decide) (by decide) (by decide) (k' := 1) (n' := 4) rfl rfl (by rw [hml]; rfl) [(.int (3 : Int32)), (.int cz), (.int (4 : Int32)), (.ref a533)] rfl (hb hby at_234) (pc' := 237) rfl (rm1_4_4_3 l Z a0 hw a533 cz h542 n0 y0 y1 y2 y3 ([]) O543 (own_idem h_y0) (own_idem h_y1) (own_idem h_y2) (own_idem h_y3) (own_cz h_cz)) ?_
        rintro _ h' ⟨rfl, eh⟩
        rw [eh]; clear eh h'
        show Own.Goes _ _ _ _ _ _ _ _ _ _ _ _ _ _ _ _ _ (mkF m 237 #[.val (.int p0), .val (.int p1), .val (.int p2), .val (.int p3), .val (.int (4 : Int32)), .val (.int (4 : Int32)), .val (.int y0), .val (.int y1), .val (.int y2), .val (.int y3), .val (.ref a533), .val (.int sel), .val (.int cz), .unset, .unset] [(.int (fX4_4_3 y0 y1 y2 y3 cz))])
        refine Own.ifF hx (Own.z_eq (fX4_4_3 y0 y1 y2 y3 cz)) (hb hby at_237) (pcN := 240) rfl (by decide) (pcT := 246) rfl (fun hc555 => ?_) (fun hc555 => ?_)
        · refine Own.aload hx (.ref a533) (hb hby at_246) rfl rfl rfl ?_
          refine Own.iload hx (4 : Int32) (hb hby at_248) rfl rfl ?_
          refine Own.iload hx cz (hb hby at_250) rfl rfl ?_
          refine Own.iconst hx (2 : Int32) (hb hby at_252) rfl (by decide) ?_
          refine Own.callS hx hZ hown (hw _ (List.mem_of_getElem? (i := 1) rfl)) (hw _ (List.mem_of_getElem? (i := 2) rfl)) (hw _ (List.mem_of_getElem? (i := 3) rfl)) (hw _ (List.mem_of_getElem? (i := 4) rfl)) (by decide) pd2 (argsL := [(.ref a533), (.int (4 : Int32)), (.int cz), (.int (2 : Int32))]) (rest := []) rfl (W := 0) (Nat.le_of_eq rfl) (rm := ({ frames := 1, cells := 0, slots := 0, locals := 24 } : Room)) (by decide) (by decide) (by decide) (by decide) (k' := 1) (n' := 4) rfl rfl (by rw [hml]; rfl) [(.int (2 : Int32)), (.int cz), (.int (4 : Int32)), (.ref a533)] rfl (hb hby at_253) (pc' := 256) rfl (rm1_4_4_2 l Z a0 hw a533 cz h542 n0 y0 y1 y2 y3 ([]) O543 (own_idem h_y0) (own_idem h_y1) (own_idem h_y2) (own_idem h_y3) (own_cz h_cz)) ?_
          rintro _ h' ⟨rfl, eh⟩
          rw [eh]; clear eh h'
          show Own.Goes _ _ _ _ _ _ _ _ _ _ _ _ _ _ _ _ _ (mkF m 256 #[.val (.int p0), .val (.int p1), .val (.int p2), .val (.int p3), .val (.int (4 : Int32)), .val (.int (4 : Int32)), .val (.int y0), .val (.int y1), .val (.int y2), .val (.int y3), .val (.ref a533), .val (.int sel), .val (.int cz), .unset, .unset] [(.int (fX4_4_2 y0 y1 y2 y3 cz))])
          refine Own.ifF hx (Own.z_eq (fX4_4_2 y0 y1 y2 y3 cz)) (hb hby at_256) (pcN := 259) rfl (by decide) (pcT := 265) rfl (fun hc556 => ?_) (fun hc556 => ?_)
          · refine Own.aload hx (.ref a533) (hb hby at_265) rfl rfl rfl ?_
            refine Own.iload hx (4 : Int32) (hb hby at_267) rfl rfl ?_
            refine Own.iload hx cz (hb hby at_269) rfl rfl ?_
            refine Own.iconst hx (1 : Int32) (hb hby at_271) rfl (by decide) ?_
            refine Own.callS hx hZ hown (hw _ (List.mem_of_getElem? (i := 1) rfl)) (hw _ (List.mem_of_getElem? (i := 2) rfl)) (hw _ (List.mem_of_getElem? (i := 3) rfl)) (hw _ (List.mem_of_getElem? (i := 4) rfl)) (by decide) pd2 (argsL := [(.ref a533), (.int (4 : Int32)), (.int cz), (.int (1 : Int32))]) (rest := []) rfl (W := 0) (Nat.le_of_eq rfl) (rm := ({ frames := 1, cells := 0, slots := 0, locals := 24 } : Room)) (by decide) (by decide) (by decide) (by decide) (k' := 1) (n' := 4) rfl rfl (by rw [hml]; rfl) [(.int (1 : Int32)), (.int cz), (.int (4 : Int32)), (.ref a533)] rfl (hb hby at_272) (pc' := 275) rfl (rm1_4_4_1 l Z a0 hw a533 cz h542 n0 y0 y1 y2 y3 ([]) O543 (own_idem h_y0) (own_idem h_y1) (own_idem h_y2) (own_idem h_y3) (own_cz h_cz)) ?_
            rintro _ h' ⟨rfl, eh⟩
            rw [eh]; clear eh h'
            show Own.Goes _ _ _ _ _ _ _ _ _ _ _ _ _ _ _ _ _ (mkF m 275 #[.val (.int p0), .val (.int p1), .val (.int p2), .val (.int p3), .val (.int (4 : Int32)), .val (.int (4 : Int32)), .val (.int y0), .val (.int y1), .val (.int y2), .val (.int y3), .val (.ref a533), .val (.int sel), .val (.int cz), .unset, .unset] [(.int (fX4_4_1 y0 y1 y2 y3 cz))])
            refine Own.ifF hx (Own.z_eq (fX4_4_1 y0 y1 y2 y3 cz)) (hb hby at_275) (pcN := 278) rfl (by decide) (pcT := 284) rfl (fun hc557 => ?_) (fun hc557 => ?_)
            · refine Own.iconst hx (0 : Int32) (hb hby at_284) rfl (by decide) ?_
              refine Own.istore hx (0 : Int32) rfl #[.val (.int p0), .val (.int p1), .val (.int p2), .val (.int p3), .val (.int (4 : Int32)), .val (.int (4 : Int32)), .val (.int y0), .val (.int y1), .val (.int y2), .val (.int y3), .val (.ref a533), .val (.int sel), .val (.int cz), .val (.int (0 : Int32)), .unset] (hb hby at_285) rfl rfl ?_
              try simp only [if_pos hc550, if_pos hc555, if_pos hc556, if_pos hc557] at h_ex
              subst h_ex
              exact kJ554
            · refine Own.iconst hx (1 : Int32) (hb hby at_278) rfl (by decide) ?_
              refine Own.istore hx (1 : Int32) rfl #[.val (.int p0), .val (.int p1), .val (.int p2), .val (.int p3), .val (.int (4 : Int32)), .val (.int (4 : Int32)), .val (.int y0), .val (.int y1), .val (.int y2), .val (.int y3), .val (.ref a533), .val (.int sel), .val (.int cz), .val (.int (1 : Int32)), .unset] (hb hby at_279) rfl rfl ?_
              refine Own.goto hx (hb hby at_281) (by decide) (pc' := 287) rfl ?_
              try simp only [if_pos hc550, if_pos hc555, if_pos hc556, if_neg hc557] at h_ex
              subst h_ex
              exact kJ554
          · refine Own.iconst hx (2 : Int32) (hb hby at_259) rfl (by decide) ?_
            refine Own.istore hx (2 : Int32) rfl #[.val (.int p0), .val (.int p1), .val (.int p2), .val (.int p3), .val (.int (4 : Int32)), .val (.int (4 : Int32)), .val (.int y0), .val (.int y1), .val (.int y2), .val (.int y3), .val (.ref a533), .val (.int sel), .val (.int cz), .val (.int (2 : Int32)), .unset] (hb hby at_260) rfl rfl ?_
            refine Own.goto hx (hb hby at_262) (by decide) (pc' := 287) rfl ?_
            try simp only [if_pos hc550, if_pos hc555, if_neg hc556] at h_ex
            subst h_ex
            exact kJ554
        · refine Own.iconst hx (3 : Int32) (hb hby at_240) rfl (by decide) ?_
          refine Own.istore hx (3 : Int32) rfl #[.val (.int p0), .val (.int p1), .val (.int p2), .val (.int p3), .val (.int (4 : Int32)), .val (.int (4 : Int32)), .val (.int y0), .val (.int y1), .val (.int y2), .val (.int y3), .val (.ref a533), .val (.int sel), .val (.int cz), .val (.int (3 : Int32)), .unset] (hb hby at_241) rfl rfl ?_
          refine Own.goto hx (hb hby at_243) (by decide) (pc' := 287) rfl ?_
          try simp only [if_pos hc550, if_neg hc555] at h_ex
          subst h_ex
          exact kJ554
      · refine Own.iconst hx (4 : Int32) (hb hby at_221) rfl (by decide) ?_
        refine Own.istore hx (4 : Int32) rfl #[.val (.int p0), .val (.int p1), .val (.int p2), .val (.int p3), .val (.int (4 : Int32)), .val (.int (4 : Int32)), .val (.int y0), .val (.int y1), .val (.int y2), .val (.int y3), .val (.ref a533), .val (.int sel), .val (.int cz), .val (.int (4 : Int32)), .unset] (hb hby at_222) rfl rfl ?_
        refine Own.goto hx (hb hby at_224) (by decide) (pc' := 287) rfl ?_
        try simp only [if_neg hc550] at h_ex
        subst h_ex
        exact kJ554
    refine Own.newobj hx hZ hown O543 (hw _ (List.mem_of_getElem? (i := 8) rfl)) (hw _ (List.mem_of_getElem? (i := 9) rfl)) (hw _ (List.mem_of_getElem? (i := 10) rfl)) [(("com/example/idxof/idxof/KnuthMorrisPrattPattern", "chars", "[C"), .null), (("com/example/idxof/idxof/KnuthMorrisPrattPattern", "borders", "[I"), .null)] (by intro f hf; simp only [List.mem_cons, List.not_mem_nil, or_false] at hf; rcases hf with rfl | rfl; exact ⟨Or.inr (hw _ (List.mem_of_getElem? (i := 18) rfl)), (.array .char), by decide, rfl⟩; exact ⟨Or.inr (hw _ (List.mem_of_getElem? (i := 25) rfl)), (.array .int), by decide, rfl⟩) (by decide) (k' := 2) (n' := 6) rfl rfl (by decide) (by decide) (hb hby at_287) (pc' := 290) rfl ?_
    intro a558 h559 O560
    refine Own.dup hx (hb hby at_290) rfl rfl ?_
    refine Own.aload hx (.ref a533) (hb hby at_291) rfl rfl rfl ?_
    have O561 : Own.Owns n0 h559 ((a533, Own.ArrC Z .char [(.int y0), (.int y1), (.int y2), (.int y3)]) :: (a558, Own.ObjC Z "com/example/idxof/idxof/KnuthMorrisPrattPattern" [(("com/example/idxof/idxof/KnuthMorrisPrattPattern", "chars", "[C"), .null), (("com/example/idxof/idxof/KnuthMorrisPrattPattern", "borders", "[I"), .null)]) :: []) := O560.pick 1 rfl
    have O562 : Own.Owns n0 h559 ((a558, Own.ObjC Z "com/example/idxof/idxof/KnuthMorrisPrattPattern" [(("com/example/idxof/idxof/KnuthMorrisPrattPattern", "chars", "[C"), .null), (("com/example/idxof/idxof/KnuthMorrisPrattPattern", "borders", "[I"), .null)]) :: (a533, Own.ArrC Z .char [(.int y0), (.int y1), (.int y2), (.int y3)]) :: []) := O561.pick 1 rfl
    refine Own.callI hx hZ hown rfl (hw _ (List.mem_of_getElem? (i := 11) rfl)) (hw _ (List.mem_of_getElem? (i := 12) rfl)) (hw _ (List.mem_of_getElem? (i := 10) rfl)) (hw _ (List.mem_of_getElem? (i := 13) rfl)) (by decide) pd3 (argsL := [(.ref a533)]) (rest := [(.ref a558)]) rfl (W := 1) (Nat.le_of_eq rfl) (rm := ({ frames := 1, cells := 1, slots := 4, locals := 16 } : Room)) (by decide) (by decide) (by decide) (by decide) (k' := 3) (n' := 10) rfl rfl (by rw [hml]; rfl) [(.ref a533), (.ref a558), (.ref a558)] rfl (hb hby at_293) (pc' := 296) rfl (rm3 l Z a0 hw a558 a533 h559 n0 [y0, y1, y2, y3] (by exact (show 4 ≤ 4 by decide)) ([]) O562) ?_
    rintro _ h564 ⟨r563, rfl, O565⟩
    show Own.Goes _ _ _ _ _ _ _ _ _ _ _ _ _ _ _ _ _ (mkF m 296 #[.val (.int p0), .val (.int p1), .val (.int p2), .val (.int p3), .val (.int (4 : Int32)), .val (.int (4 : Int32)), .val (.int y0), .val (.int y1), .val (.int y2), .val (.int y3), .val (.ref a533), .val (.int sel), .val (.int cz), .val (.int ex), .unset] [(.ref a558)])
    refine Own.astore hx #[.val (.int p0), .val (.int p1), .val (.int p2), .val (.int p3), .val (.int (4 : Int32)), .val (.int (4 : Int32)), .val (.int y0), .val (.int y1), .val (.int y2), .val (.int y3), .val (.ref a533), .val (.int sel), .val (.int cz), .val (.int ex), .val (.ref a558)] (hb hby at_296) rfl rfl rfl ?_
    refine Own.aload hx (.ref a558) (hb hby at_298) rfl rfl rfl ?_
    refine Own.iload hx (4 : Int32) (hb hby at_300) rfl rfl ?_
    refine Own.iload hx cz (hb hby at_302) rfl rfl ?_
    have O566 : Own.Owns n0 h564 ((r563, Own.ArrC Z .int ((ofL [y0, y1, y2, y3]).map gI)) :: (a558, Own.ObjC Z "com/example/idxof/idxof/KnuthMorrisPrattPattern" [(("com/example/idxof/idxof/KnuthMorrisPrattPattern", "chars", "[C"), (.ref a533)), (("com/example/idxof/idxof/KnuthMorrisPrattPattern", "borders", "[I"), (.ref r563))]) :: (a533, Own.ArrC Z .char [(.int y0), (.int y1), (.int y2), (.int y3)]) :: []) := O565.pick 1 rfl
    have O567 : Own.Owns n0 h564 ((a533, Own.ArrC Z .char [(.int y0), (.int y1), (.int y2), (.int y3)]) :: (r563, Own.ArrC Z .int ((ofL [y0, y1, y2, y3]).map gI)) :: (a558, Own.ObjC Z "com/example/idxof/idxof/KnuthMorrisPrattPattern" [(("com/example/idxof/idxof/KnuthMorrisPrattPattern", "chars", "[C"), (.ref a533)), (("com/example/idxof/idxof/KnuthMorrisPrattPattern", "borders", "[I"), (.ref r563))]) :: []) := O566.pick 2 rfl
    have O568 : Own.Owns n0 h564 ((a558, Own.ObjC Z "com/example/idxof/idxof/KnuthMorrisPrattPattern" [(("com/example/idxof/idxof/KnuthMorrisPrattPattern", "chars", "[C"), (.ref a533)), (("com/example/idxof/idxof/KnuthMorrisPrattPattern", "borders", "[I"), (.ref r563))]) :: (a533, Own.ArrC Z .char [(.int y0), (.int y1), (.int y2), (.int y3)]) :: (r563, Own.ArrC Z .int ((ofL [y0, y1, y2, y3]).map gI)) :: []) := O567.pick 2 rfl
    refine Own.callV hx hZ hown (O568.exa (i := 0) rfl) (hw _ (List.mem_of_getElem? (i := 26) rfl)) (hw _ (List.mem_of_getElem? (i := 27) rfl)) (hw _ (List.mem_of_getElem? (i := 29) rfl)) (hw _ (List.mem_of_getElem? (i := 28) rfl)) (hw _ (List.mem_of_getElem? (i := 10) rfl)) (hw _ (List.mem_of_getElem? (i := 30) rfl)) (by decide) pd4 (argsL := [(.int (4 : Int32)), (.int cz)]) (rest := []) rfl (W := 0) (Nat.le_of_eq rfl) (rm := ({ frames := 0, cells := 0, slots := 0, locals := 0 } : Room)) (by decide) (by decide) (by decide) (by decide) (k' := 3) (n' := 10) rfl rfl (by rw [hml]; rfl) [(.int cz), (.int (4 : Int32)), (.ref a558)] rfl (hb hby at_304) (pc' := 307) rfl (rm6_4_4 l Z a0 hw a558 cz h564 n0 [y0, y1, y2, y3] rfl a533 r563 ([]) O568) ?_
    rintro _ h' ⟨rfl, eh⟩
    rw [eh]; clear eh h'
    show Own.Goes _ _ _ _ _ _ _ _ _ _ _ _ _ _ _ _ _ (mkF m 307 #[.val (.int p0), .val (.int p1), .val (.int p2), .val (.int p3), .val (.int (4 : Int32)), .val (.int (4 : Int32)), .val (.int y0), .val (.int y1), .val (.int y2), .val (.int y3), .val (.ref a533), .val (.int sel), .val (.int cz), .val (.int ex), .val (.ref a558)] [(.int (nextE (eqAt ([y0, y1, y2, y3] ++ [cz])) (ofL [y0, y1, y2, y3]) [y0, y1, y2, y3].length ((ofL [y0, y1, y2, y3]).getD 3 0)).toInt32)])
    refine Own.iload hx ex (hb hby at_307) rfl rfl ?_
    obtain ⟨z, h_z⟩ : ∃ z : Int32, z = (if (nextE (eqAt ([y0, y1, y2, y3] ++ [cz])) (ofL [y0, y1, y2, y3]) [y0, y1, y2, y3].length ((ofL [y0, y1, y2, y3]).getD 3 0)).toInt32 = ex then (1 : Int32) else (0 : Int32)) := ⟨_, rfl⟩
    refine Own.Goes.join (mkF m 317 #[.val (.int p0), .val (.int p1), .val (.int p2), .val (.int p3), .val (.int (4 : Int32)), .val (.int (4 : Int32)), .val (.int y0), .val (.int y1), .val (.int y2), .val (.int y3), .val (.ref a533), .val (.int sel), .val (.int cz), .val (.int ex), .val (.ref a558)] [(.int z)]) (fun kJ570 => ?_) ?_
    · refine Own.icmpFn hx (Own.q_ne (nextE (eqAt ([y0, y1, y2, y3] ++ [cz])) (ofL [y0, y1, y2, y3]) [y0, y1, y2, y3].length ((ofL [y0, y1, y2, y3]).getD 3 0)).toInt32 ex) (hb hby at_309) (pcN := 312) rfl (by decide) (pcT := 316) rfl (fun hc569 => ?_) (fun hc569 => ?_)
      · refine Own.iconst hx (0 : Int32) (hb hby at_316) rfl (by decide) ?_
        try simp only [if_neg hc569] at h_z
        subst h_z
        exact kJ570
      · refine Own.iconst hx (1 : Int32) (hb hby at_312) rfl (by decide) ?_
        refine Own.goto hx (hb hby at_313) (by decide) (pc' := 317) rfl ?_
        try simp only [if_pos hc569] at h_z
        subst h_z
        exact kJ570
    exact Own.retS hx hret (by simp) hlk (hb hby at_317) (by decide) (by decide) (Own.bool1 (own_fin4_4 h_ex h_z))

set_option maxRecDepth 65536 in
set_option maxHeartbeats 40000000 in
theorem comes_1 {Post : Tables → Env → Array Value → State → Outcome → State → Prop} (hpost : ∀ tb e args s v u, (limb_1_1.after args s (.returned v) u = true ∧ limb_1_2.after args s (.returned v) u = true ∧ True) → FrameEnd s (.returned v) u (Jvm.fieldLocs frame_1_writes args s ++ Jvm.arrayLocs frame_1_arrays args s ++ Jvm.staticLocs frame_1_statics s) 16 128 → Post tb e args s (.returned v) u) :
    ArmFor flags0 classFile x code maxLocals ret World_1 tables_1 room_1 Calls_1 rest_1 Pre_1 Post := by
  intro l hfl _ _ p e ha hc hk s m args below hf hA hF happ hP
  obtain ⟨hcalls, hrest, hpre⟩ := hP
  obtain ⟨-, -, -, hnamed, -, -, -, hat⟩ := (Spec.applies_iff hf).mp happ
  obtain ⟨hg, hn⟩ := and_e (Cond.before_iff.mp (show (Jvm.Cond.and given_1 narrow_1).before args s = true from hpre))
  obtain ⟨h1, g0⟩ := and_e hg
  obtain ⟨q0, g1⟩ := and_e g0
  obtain ⟨q1, g2⟩ := and_e g1
  obtain ⟨q2, g3⟩ := and_e g2
  have q3 := g3
  obtain ⟨w0, w1, w2, w3, rfl⟩ : ∃ w0 w1 w2 w3 : Value, args = #[w0, w1, w2, w3] := by
    have hs : args.size = 4 := by simpa [Cond.value, given_1] using h1
    obtain ⟨L⟩ := args
    match L, hs with
    | [w0, w1, w2, w3], _ => exact ⟨w0, w1, w2, w3, rfl⟩
  have hw := fun d (hd : d ∈ tables_1) => atoms_spec (ws := Jvm.Cond.code x code maxLocals ret :: tables_1) hat d (List.mem_cons_of_mem _ hd)
  obtain ⟨i0, e0⟩ := is_v q0
  obtain rfl : w0 = (.int i0) := Option.some.inj e0
  obtain ⟨i1, e1⟩ := is_v q1
  obtain rfl : w1 = (.int i1) := Option.some.inj e1
  obtain ⟨i2, e2⟩ := is_v q2
  obtain rfl : w2 = (.int i2) := Option.some.inj e2
  obtain ⟨i3, e3⟩ := is_v q3
  obtain rfl : w3 = (.int i3) := Option.some.inj e3
  obtain ⟨n, o, h1, h2, h3, _, L, rfl, ⟨rfl, N⟩, hq⟩ := rm0 l s _ hw i0 i1 i2 i3 s.heap s.heap.size (Own.Owns.nil (Nat.le_refl _)) p e ha hc hk s m _ below hf ((Spec.applies_iff_loose hf).mp happ).1 ⟨rfl, State.Warmed39.refl s, rfl⟩ trivial
  refine ⟨n, _, h1, h2, h3, hpost _ _ _ _ _ _ ⟨Cond.after_iff.mpr rfl, Cond.after_iff.mpr (eq_i res_at (Term.int_eval (1)) rfl), trivial⟩ ⟨hq.1, hq.2.1, (hq.2.2.sift fun y hy => Or.inr (N y hy)).mono (by decide) (by decide)⟩⟩
theorem main_1_1 : Claimed_1_1 := comes_1 fun _ _ _ _ _ _ h hF => ⟨h.1, hF⟩
theorem main_1_2 : Claimed_1_2 := comes_1 fun _ _ _ _ _ _ h hF => ⟨h.2.1, hF⟩
end Jvm.Pilot.@@N@@
namespace Jvm.Pilot.@@N@@
open Jvm Jvm.ClassFile Sem Op Lib Jvm.Free Jvm.Stand Jvm.Pilot.@@N@@.Jvm.D
/-! MADE BY PROGRAM (witnessworld.py) out of the Statement's table words and the real class files: 12 classes; the members and pool entries that the words name. The judged class is class 1, her method 3. -/
namespace start1
open Jvm.ClassFile
def u (s : String) : CpInfo := .utf8 (stringToUtf16 s)
/-- a pool by its gaps: so many unusable entries, then the entry; so many at the end -/
def gap : Nat → List CpInfo → List CpInfo
  | 0, r => r
  | n + 1, r => .unusable :: gap n r
def poolList (es : List (Nat × CpInfo)) (last : Nat) : List CpInfo := es.foldr (fun e r => gap e.1 (e.2 :: r)) (gap last [])
def pool (es : List (Nat × CpInfo)) (last : Nat) : Array CpInfo := ⟨poolList es last⟩
def fileOf (pool : Array CpInfo) (this : Nat) (attrs : Array Attribute := #[]) (ms : Array MethodInfo := #[]) (fl : Nat := 33) (sup : Nat := 0) (ifs : Array Nat := #[]) (fds : Array FieldInfo := #[]) : ClassFile where
  minorVersion := 0
  majorVersion := 65
  constantPool := pool
  accessFlags := fl
  thisClass := this
  superClass := sup
  interfaces := ifs
  fields := fds
  methods := ms
  attributes := attrs
def plain (name : String) (sup : Option ClassId) : Class where
  name := name
  kind := .ordinary
  loader := none
  accessFlags := 33
  super := sup
  interfaces := #[]
  cf := none
  fields := #[]
  methods := #[]
  instanceTypes := #[]
  staticTypes := #[]
  resolved := #[]
  callSites := []
  init := .initialized
  statics := none
  mirror := none

def pool0 : Array CpInfo := pool [(5, u "<init>"), (0, u "()V"), (1, .class_ 10), (1, u "java/lang/Object")] 113

def k0c0 : Code := { maxStack := 0, maxLocals := 1, code := object_method_1_code, exceptionTable := #[], attributes := #[] }
def k0m0 : Method := { name := "<init>", desc := "()V", sig := { parameters := [], returnType := none }, accessFlags := 1, code := some k0c0 }
/-- java/lang/Object -/
def k0 : Class := { plain "java/lang/Object" none with
  accessFlags := 33
  interfaces := #[]
  cf := some (fileOf pool0 8 #[] #[{ accessFlags := 1, nameIndex := 5, descriptorIndex := 6, attributes := #[] }] 33 0 #[] #[])
  fields := #[]
  methods := #[k0m0]
  instanceTypes := #[]
  staticTypes := #[]
  resolved := Array.replicate 124 none
  statics := none }

def pool1 : Array CpInfo := pool [(2, .class_ 4), (1, u "java/lang/Object"), (0, u "<init>"), (0, u "()V"), (0, .methodref 8 9), (0, .class_ 10), (0, .nameAndType 11 12), (0, u "com/example/idxof/idxof/KnuthMorrisPrattPatternExtendPinLaw"), (0, u "at"), (0, u "([CICI)C"), (0, .methodref 8 14), (0, .nameAndType 15 16), (0, u "ends"), (0, u "([CICI)Z"), (0, .class_ 18), (0, u "com/example/idxof/idxof/KnuthMorrisPrattPattern"), (0, .methodref 17 20), (0, .nameAndType 5 21), (0, u "([C)V"), (0, .methodref 17 23), (0, .nameAndType 24 25), (0, u "extend"), (0, u "(IC)I"), (3, u "law"), (0, u "(IIII)Z")] 4

def k1m0 : Method := { name := "<init>", desc := "()V", sig := { parameters := [], returnType := none }, accessFlags := 1, code := none }
def k1c1 : Code := { maxStack := 2, maxLocals := 4, code := method_2_code, exceptionTable := #[], attributes := #[] }
def k1m1 : Method := { name := "at", desc := "([CICI)C", sig := { parameters := [(.array .char), .int, .char, .int], returnType := some .char }, accessFlags := 10, code := some k1c1 }
def k1c2 : Code := { maxStack := 6, maxLocals := 5, code := method_3_code, exceptionTable := #[], attributes := #[] }
def k1m2 : Method := { name := "ends", desc := "([CICI)Z", sig := { parameters := [(.array .char), .int, .char, .int], returnType := some .boolean }, accessFlags := 10, code := some k1c2 }
def k1c3 : Code := { maxStack := 4, maxLocals := 15, code := code, exceptionTable := #[], attributes := #[] }
def k1m3 : Method := { name := "law", desc := "(IIII)Z", sig := { parameters := [.int, .int, .int, .int], returnType := some .boolean }, accessFlags := 9, code := some k1c3 }
/-- com/example/idxof/idxof/KnuthMorrisPrattPatternExtendPinLaw -/
def k1 : Class := { plain "com/example/idxof/idxof/KnuthMorrisPrattPatternExtendPinLaw" (some 0) with
  accessFlags := 49
  interfaces := #[]
  cf := some (fileOf pool1 8 #[] #[{ accessFlags := 1, nameIndex := 5, descriptorIndex := 6, attributes := #[] }, { accessFlags := 10, nameIndex := 11, descriptorIndex := 12, attributes := #[] }, { accessFlags := 10, nameIndex := 15, descriptorIndex := 16, attributes := #[] }, { accessFlags := 9, nameIndex := 29, descriptorIndex := 30, attributes := #[] }] 49 2 #[] #[])
  fields := #[]
  methods := #[k1m0, k1m1, k1m2, k1m3]
  instanceTypes := #[]
  staticTypes := #[]
  resolved := Array.replicate 35 none
  statics := none }

def pool2 : Array CpInfo := pool [(1, .methodref 2 3), (0, .class_ 4), (0, .nameAndType 5 6), (0, u "java/lang/Object"), (0, u "<init>"), (0, u "()V"), (0, .fieldref 8 9), (0, .class_ 10), (0, .nameAndType 11 12), (0, u "com/example/idxof/idxof/KnuthMorrisPrattPattern"), (0, u "chars"), (0, u "[C"), (0, .methodref 14 15), (0, .class_ 16), (0, .nameAndType 17 18), (0, u "com/example/idxof/idxof/FailureFunction"), (0, u "of"), (0, u "([C)[I"), (0, .fieldref 8 20), (0, .nameAndType 21 22), (0, u "borders"), (0, u "[I"), (8, u "extend"), (0, u "(IC)I"), (5, u "ROUNDS_BEFORE_FOLLOWED"), (0, u "I"), (2, u "([C)V")] 12

def k2c0 : Code := { maxStack := 2, maxLocals := 2, code := prog_23_method_1_code, exceptionTable := #[], attributes := #[] }
def k2m0 : Method := { name := "<init>", desc := "([C)V", sig := { parameters := [(.array .char)], returnType := none }, accessFlags := 0, code := some k2c0 }
def k2c1 : Code := { maxStack := 3, maxLocals := 4, code := prog_23_method_3_code, exceptionTable := #[], attributes := #[] }
def k2m1 : Method := { name := "extend", desc := "(IC)I", sig := { parameters := [.int, .char], returnType := some .int }, accessFlags := 0, code := some k2c1 }
/-- com/example/idxof/idxof/KnuthMorrisPrattPattern -/
def k2 : Class := { plain "com/example/idxof/idxof/KnuthMorrisPrattPattern" (some 0) with
  accessFlags := 32
  interfaces := #[]
  cf := some (fileOf pool2 8 #[] #[{ accessFlags := 0, nameIndex := 5, descriptorIndex := 42, attributes := #[] }, { accessFlags := 0, nameIndex := 31, descriptorIndex := 32, attributes := #[] }] 32 2 #[] #[{ accessFlags := 26, nameIndex := 38, descriptorIndex := 39, attributes := #[] }, { accessFlags := 18, nameIndex := 11, descriptorIndex := 12, attributes := #[] }, { accessFlags := 18, nameIndex := 21, descriptorIndex := 22, attributes := #[] }])
  fields := #[{ name := "ROUNDS_BEFORE_FOLLOWED", type := .int, accessFlags := 26, slot := 0, constantValue := 0 }, { name := "chars", type := (.array .char), accessFlags := 18, slot := 0, constantValue := 0 }, { name := "borders", type := (.array .int), accessFlags := 18, slot := 1, constantValue := 0 }]
  methods := #[k2m0, k2m1]
  instanceTypes := #[(.array .char), (.array .int)]
  staticTypes := #[.int]
  resolved := Array.replicate 55 none
  statics := none }

def pool3 : Array CpInfo := pool [(2, .class_ 4), (1, u "java/lang/Object"), (0, u "<init>"), (0, u "()V"), (0, .class_ 8), (0, u "com/example/idxof/idxof/FailureFunction"), (2, u "of"), (0, u "([C)[I")] 5

def k3m0 : Method := { name := "<init>", desc := "()V", sig := { parameters := [], returnType := none }, accessFlags := 2, code := none }
def k3c1 : Code := { maxStack := 3, maxLocals := 4, code := prog_15_method_2_code, exceptionTable := #[], attributes := #[] }
def k3m1 : Method := { name := "of", desc := "([C)[I", sig := { parameters := [(.array .char)], returnType := some (.array .int) }, accessFlags := 8, code := some k3c1 }
/-- com/example/idxof/idxof/FailureFunction -/
def k3 : Class := { plain "com/example/idxof/idxof/FailureFunction" (some 0) with
  accessFlags := 32
  interfaces := #[]
  cf := some (fileOf pool3 7 #[] #[{ accessFlags := 2, nameIndex := 5, descriptorIndex := 6, attributes := #[] }, { accessFlags := 8, nameIndex := 11, descriptorIndex := 12, attributes := #[] }] 32 2 #[] #[])
  fields := #[]
  methods := #[k3m0, k3m1]
  instanceTypes := #[]
  staticTypes := #[]
  resolved := Array.replicate 18 none
  statics := none }

def pool4 : Array CpInfo := pool [(1, u "java/lang/Cloneable"), (0, .class_ 1), (0, u "java/lang/Object"), (0, .class_ 3)] 3

/-- java/lang/Cloneable -/
def k4 : Class := { plain "java/lang/Cloneable" (some 0) with
  accessFlags := 1537
  interfaces := #[]
  cf := some (fileOf pool4 2 #[] #[] 1537 4 #[] #[])
  fields := #[]
  methods := #[]
  instanceTypes := #[]
  staticTypes := #[]
  resolved := Array.replicate 8 none
  statics := none }

def pool5 : Array CpInfo := pool [(1, u "java/io/Serializable"), (0, .class_ 1), (0, u "java/lang/Object"), (0, .class_ 3)] 3

/-- java/io/Serializable -/
def k5 : Class := { plain "java/io/Serializable" (some 0) with
  accessFlags := 1537
  interfaces := #[]
  cf := some (fileOf pool5 2 #[] #[] 1537 4 #[] #[])
  fields := #[]
  methods := #[]
  instanceTypes := #[]
  staticTypes := #[]
  resolved := Array.replicate 8 none
  statics := none }

/-- the primitive byte -/
def k6 : Class := { plain "byte" none with kind := .primitive 'B', accessFlags := 0x411 }
/-- [B -/
def k7 : Class := { plain "[B" (some 0) with kind := .array 6 .byte, interfaces := #[4, 5], accessFlags := 1041 }

/-- the primitive char -/
def k8 : Class := { plain "char" none with kind := .primitive 'C', accessFlags := 0x411 }
/-- [C -/
def k9 : Class := { plain "[C" (some 0) with kind := .array 8 .char, interfaces := #[4, 5], accessFlags := 1041 }

/-- the primitive int -/
def k10 : Class := { plain "int" none with kind := .primitive 'I', accessFlags := 0x411 }
/-- [I -/
def k11 : Class := { plain "[I" (some 0) with kind := .array 10 .int, interfaces := #[4, 5], accessFlags := 1041 }

def heap : Heap := #[]
def classes : Array Class := #[k0, k1, k2, k3, k4, k5, k6, k7, k8, k9, k10, k11]
def interned : List (Array UInt16 × Addr) := []
def slotsUsed : Nat := 0
def theMethod : MethodId := ⟨1, 3⟩
def args0 : Array Value := #[.int 5, .int 7, .int 97, .int 98]
def aboutOver (below : List Frame) : State where
  vm := { classes := classes, interned := interned.toArray }
  heap := heap
  slotsUsed := slotsUsed
  threads := #[{ frames := .invoking theMethod args0 :: below }]
def below0 : List Frame := [.native { method := ⟨0, 0⟩, args := #[] }]
def about1 : State := aboutOver below0
def p0 : Program := .bare "" "" ""
def e0 : Env := launch0.env 0 0 0
theorem w_frames : about1.frames = Frame.invoking theMethod args0 :: below0 := rfl
set_option maxRecDepth 65536 in
theorem w_args : argsFit about1.vm theMethod args0 = true := by decide +kernel
set_option maxRecDepth 65536 in
theorem w_heap : heapFits about1 = true := by decide +kernel
set_option maxRecDepth 65536 in
theorem w_runnable : about1.curStatus? = some .runnable := by decide +kernel
set_option maxRecDepth 65536 in
theorem w_alone : about1.alone = true := by decide +kernel
set_option maxRecDepth 65536 in
theorem w_named : about1.methodNamed? x = some theMethod := by decide +kernel
set_option maxRecDepth 65536 in
theorem w_hears : about1.hears theMethod below0 = true := by decide +kernel
set_option maxRecDepth 65536 in
theorem w_ripe : about1.ripe theMethod args0 below0 = true := by decide +kernel
theorem w_running : about1.status = .running := rfl
set_option maxRecDepth 65536 in
theorem w_room : about1.hasRoom e0.platform room_1 = true :=
  launch0.hasRoom_least _ room_1 (by decide +kernel) (by decide +kernel) (by decide +kernel) (by decide +kernel) (by decide +kernel) (by decide +kernel)
theorem allAtoms_all (ts : List Jvm.Cond) (a : Array Jvm.Value) (st : Jvm.State) : (allAtoms ts).before a st = ts.all (fun c => c.before a st) := by
  induction ts with
  | nil => rfl
  | cons c t ih =>
    show (Jvm.Cond.and c (allAtoms t)).before a st = _
    rw [Jvm.Cond.before_and, ih, List.all_cons]
def words1 : List Jvm.Cond := Jvm.Cond.code x code maxLocals ret :: tables_1
/-- a 'code' word, met by the world's own term for the bytes: nothing is compared byte by byte -/
theorem code_word {y : MethodName} {bytes : ByteArray} {mx : Nat} {rt : Option FieldType} {a : Array Value} {s : State} {m : MethodId} {meth : Method} {c : Code} (h1 : s.methodNamed? y = some m) (h2 : s.vm.method? m = some meth) (h3 : meth.code = some c) (h4 : c.code = bytes)
    (h5 : (c.maxLocals == mx && c.exceptionTable.isEmpty && decide (c.maxStack ≤ mostOperands) && decide (meth.sig.returnType = rt) && !meth.locks && decide (parseMethodDescriptor y.desc = some meth.sig)) = true) : (Jvm.Cond.code y bytes mx rt).before a s = true := by
  simp only [Bool.and_eq_true, beq_iff_eq, Bool.not_eq_true', decide_eq_true_eq] at h5
  obtain ⟨⟨⟨⟨⟨g1, g2⟩, g3⟩, g4⟩, g5⟩, g6⟩ := h5
  simp [Cond.before, Cond.holds, Cond.value, h1, h2, h3, h4, g1, g2, g3, g4, g5, g6]
def isCode : Jvm.Cond → Bool
  | .code _ _ _ _ => true
  | _ => false
theorem all_split {L : List Jvm.Cond} {P : Jvm.Cond → Bool} (h1 : L.all (fun c => isCode c || P c) = true) (h2 : ∀ c ∈ L.filter isCode, P c = true) : L.all P = true := by
  refine List.all_eq_true.mpr fun c hc => ?_
  have h := List.all_eq_true.mp h1 c hc
  rcases Bool.eq_false_or_eq_true (isCode c) with hi | hi
  · exact h2 c (List.mem_filter.mpr ⟨hc, hi⟩)
  · simpa [hi] using h
set_option maxRecDepth 65536 in
theorem w_c0 : (Jvm.Cond.code x code maxLocals ret).before args0 about1 = true := code_word (m := ⟨1, 3⟩) (meth := k1m3) (c := k1c3) (by decide +kernel) rfl rfl rfl (by decide +kernel)
set_option maxRecDepth 65536 in
theorem w_c1 : (Jvm.Cond.code ({ cls := "com/example/idxof/idxof/KnuthMorrisPrattPatternExtendPinLaw", name := "ends", desc := "([CICI)Z" } : Jvm.MethodName) method_3_code (5 : Nat) (Option.some Jvm.ClassFile.FieldType.boolean)).before args0 about1 = true := code_word (m := ⟨1, 2⟩) (meth := k1m2) (c := k1c2) (by decide +kernel) rfl rfl rfl (by decide +kernel)
set_option maxRecDepth 65536 in
theorem w_c2 : (Jvm.Cond.code ({ cls := "com/example/idxof/idxof/KnuthMorrisPrattPatternExtendPinLaw", name := "at", desc := "([CICI)C" } : Jvm.MethodName) method_2_code (4 : Nat) (Option.some Jvm.ClassFile.FieldType.char)).before args0 about1 = true := code_word (m := ⟨1, 1⟩) (meth := k1m1) (c := k1c1) (by decide +kernel) rfl rfl rfl (by decide +kernel)
set_option maxRecDepth 65536 in
theorem w_c3 : (Jvm.Cond.code ({ cls := "com/example/idxof/idxof/KnuthMorrisPrattPattern", name := "<init>", desc := "([C)V" } : Jvm.MethodName) prog_23_method_1_code (2 : Nat) (Option.none : Option Jvm.ClassFile.FieldType)).before args0 about1 = true := code_word (m := ⟨2, 0⟩) (meth := k2m0) (c := k2c0) (by decide +kernel) rfl rfl rfl (by decide +kernel)
set_option maxRecDepth 65536 in
theorem w_c4 : (Jvm.Cond.code ({ cls := "java/lang/Object", name := "<init>", desc := "()V" } : Jvm.MethodName) object_method_1_code (1 : Nat) (Option.none : Option Jvm.ClassFile.FieldType)).before args0 about1 = true := code_word (m := ⟨0, 0⟩) (meth := k0m0) (c := k0c0) (by decide +kernel) rfl rfl rfl (by decide +kernel)
set_option maxRecDepth 65536 in
theorem w_c5 : (Jvm.Cond.code ({ cls := "com/example/idxof/idxof/FailureFunction", name := "of", desc := "([C)[I" } : Jvm.MethodName) prog_15_method_2_code (4 : Nat) (Option.some (Jvm.ClassFile.FieldType.array Jvm.ClassFile.FieldType.int))).before args0 about1 = true := code_word (m := ⟨3, 1⟩) (meth := k3m1) (c := k3c1) (by decide +kernel) rfl rfl rfl (by decide +kernel)
set_option maxRecDepth 65536 in
theorem w_c6 : (Jvm.Cond.code ({ cls := "com/example/idxof/idxof/KnuthMorrisPrattPattern", name := "extend", desc := "(IC)I" } : Jvm.MethodName) prog_23_method_3_code (4 : Nat) (Option.some Jvm.ClassFile.FieldType.int)).before args0 about1 = true := code_word (m := ⟨2, 1⟩) (meth := k2m1) (c := k2c1) (by decide +kernel) rfl rfl rfl (by decide +kernel)
def codes1 : List Jvm.Cond := [Jvm.Cond.code x code maxLocals ret, Jvm.Cond.code ({ cls := "com/example/idxof/idxof/KnuthMorrisPrattPatternExtendPinLaw", name := "ends", desc := "([CICI)Z" } : Jvm.MethodName) method_3_code (5 : Nat) (Option.some Jvm.ClassFile.FieldType.boolean), Jvm.Cond.code ({ cls := "com/example/idxof/idxof/KnuthMorrisPrattPatternExtendPinLaw", name := "at", desc := "([CICI)C" } : Jvm.MethodName) method_2_code (4 : Nat) (Option.some Jvm.ClassFile.FieldType.char), Jvm.Cond.code ({ cls := "com/example/idxof/idxof/KnuthMorrisPrattPattern", name := "<init>", desc := "([C)V" } : Jvm.MethodName) prog_23_method_1_code (2 : Nat) (Option.none : Option Jvm.ClassFile.FieldType), Jvm.Cond.code ({ cls := "java/lang/Object", name := "<init>", desc := "()V" } : Jvm.MethodName) object_method_1_code (1 : Nat) (Option.none : Option Jvm.ClassFile.FieldType), Jvm.Cond.code ({ cls := "com/example/idxof/idxof/FailureFunction", name := "of", desc := "([C)[I" } : Jvm.MethodName) prog_15_method_2_code (4 : Nat) (Option.some (Jvm.ClassFile.FieldType.array Jvm.ClassFile.FieldType.int)), Jvm.Cond.code ({ cls := "com/example/idxof/idxof/KnuthMorrisPrattPattern", name := "extend", desc := "(IC)I" } : Jvm.MethodName) prog_23_method_3_code (4 : Nat) (Option.some Jvm.ClassFile.FieldType.int)]
set_option maxRecDepth 65536 in
theorem codes_eq : words1.filter isCode = codes1 := rfl
theorem w_codes : ∀ c ∈ words1.filter isCode, c.before args0 about1 = true := by
  rw [codes_eq]
  intro c hc
  simp only [codes1, List.mem_cons, List.not_mem_nil, or_false] at hc
  rcases hc with rfl | rfl | rfl | rfl | rfl | rfl | rfl
  · exact w_c0
  · exact w_c1
  · exact w_c2
  · exact w_c3
  · exact w_c4
  · exact w_c5
  · exact w_c6
set_option maxRecDepth 65536 in
theorem w_t1 : (words1.take 24).all (fun c => isCode c || c.before args0 about1) = true := by decide +kernel
set_option maxRecDepth 65536 in
theorem w_t2 : (words1.drop 24).all (fun c => isCode c || c.before args0 about1) = true := by decide +kernel
theorem w_tables : (allAtoms (Jvm.Cond.code x code maxLocals ret :: tables_1)).before args0 about1 = true := by
  rw [allAtoms_all]
  show words1.all (fun c => c.before args0 about1) = true
  refine all_split ?_ w_codes
  rw [← List.take_append_drop 24 words1, List.all_append, w_t1, w_t2]
  rfl
set_option maxRecDepth 65536 in
theorem w_case : (Jvm.Cond.and given_1 narrow_1).before args0 about1 = true := by decide +kernel
theorem w_applies : (headSpec (Jvm.Cond.code x code maxLocals ret :: tables_1) room_1).applies x e0.platform about1 = true :=
  (Spec.applies_iff w_frames).mpr ⟨w_running, w_runnable, w_alone, w_named, w_hears, w_ripe, w_room, w_tables⟩
theorem atStart : AtStart classFile x code maxLocals ret World_1 tables_1 room_1 Calls_1 rest_1 Pre_1 launch0 p0 e0 about1 theMethod args0 below0 :=
  ⟨lists_1, trivial, launch0.admits_env _ _ _, launch0.least_env, fairChoices_fair.cas, fairChoices_fair.clock, w_frames, w_args, w_heap, w_applies, trivial, trivial, w_case⟩
end start1
theorem witness_1 : WitnessClaimed_1 := ⟨start1.p0, start1.e0, start1.about1, start1.theMethod, start1.args0, start1.below0, start1.atStart⟩
end Jvm.Pilot.@@N@@
