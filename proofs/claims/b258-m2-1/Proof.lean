import JvmDerived
import JvmDerived.Pilot.@@N@@Statement
import JvmDerived.Pilot.@@N@@Code
set_option linter.unusedVariables false
set_option linter.unusedSimpArgs false
namespace Jvm.Pilot.@@N@@
open Jvm Jvm.ClassFile Sem Op Lib Jvm.Free Jvm.Stand Jvm.LawKit Jvm.RoadKit Bundle Jvm.Pilot.@@N@@.Jvm.D
namespace Own
section Eng
/-- from the frame g over the heap h, with k cells and n slots made so far, every standing run ends as Fn says, having written at or above n0 alone -/
def Goes (p : Program) (l : Launch) (e : Env) (R : Room) (s : State) (m : MethodId) (args : Array Value) (below : List Frame) (meth : Method) (c : Code) (n0 mc ms : Nat) (Fn : Option Value → Heap → Prop) (h : Heap) (k n : Nat) (g : JFrame) : Prop :=
  ∀ (T : State) (locs : List Loc), Stand p l e R s m args below meth c T locs k n → Fr n0 locs → T.heap = h →
    ∃ (s₂ : State) (o : Outcome), Steps p.tables e below (T.setTop g) s₂ ∧ s₂.status = .running ∧ Ended s₂ below o ∧ ∃ (v : Option Value) (L : List Loc), o = .returned v ∧ (Fn v s₂.heap ∧ Fr n0 L) ∧ FrameEnd s o s₂ L mc ms
/-- the contract of a method at one list of arguments and one heap -/
def Does (l : Launch) (y : MethodName) (bytes : ByteArray) (maxL : Nat) (ret : Option FieldType) (ws : List Jvm.Cond) (rm : Room) (Z : State) (as' : Array Value) (h0 : Heap) (n0 : Nat) (Fn : Option Value → Heap → Prop) : Prop :=
  MetFree l y (head1 (Jvm.Cond.code y bytes maxL ret :: ws) rm) (fun a U => a = as' ∧ Z.Warmed39 U.vm ∧ U.heap = h0) (fun _ _ _ _ _ => True) (fun _ U o U' => ∃ v L, o = .returned v ∧ (Fn v U'.heap ∧ Fr n0 L) ∧ FrameEnd U o U' L rm.cells rm.slots)
variable {p : Program} {l : Launch} {e : Env} {R : Room} {s : State} {m : MethodId} {args : Array Value} {below : List Frame} {meth : Method} {c : Code} {n0 mc ms : Nat} {Fn : Option Value → Heap → Prop} {h : Heap} {k n : Nat}
theorem doesOf {y : MethodName} {bytes : ByteArray} {maxL : Nat} {ret : Option FieldType} {ws : List Jvm.Cond} {rm : Room} {Z : State} {as' : Array Value} {h0 : Heap} (hy : plainFor y = true)
    (body : ∀ (p : Program) (e : Env) (s : State) (m : MethodId) (below : List Frame) (meth : Method) (c : Code), p.tables.exec = Jvm.exec → c.code = bytes → c.maxLocals = maxL → meth.sig.returnType = ret → meth.locks = false → s.vm.findClass y.cls = some m.cls → meth.name = y.name → Z.Warmed39 s.vm →
      Goes p l e rm s m as' below meth c n0 rm.cells rm.slots Fn h0 0 0 (entryFrame m as' maxL)) : Does l y bytes maxL ret ws rm Z as' h0 n0 Fn := by
  refine MetFree.of_bodySF hy hisR ?_
  intro p e s m args below meth c s₁ Bd hml hP _
  obtain ⟨rfl, hZ, hh⟩ := hP
  have e0 : s₁.heap = h0 := by rw [← hh, Bd.state]; rfl
  obtain ⟨s₂, o, h1, h2, h3, h4⟩ := body p e s m below meth c Bd.exec Bd.bytes hml Bd.returns Bd.notSynchronized (findClass_of_methodNamed Bd.named) (name_of_methodNamed Bd.named Bd.method).1 hZ s₁ [] (Stand.of_body Bd) (Fr.nil n0) e0
  exact ⟨s₂, o, h1, h2, h3, h4⟩
theorem Goes.pure {g g' : JFrame} (st : ∀ (T : State) (locs : List Loc) (t : State), Stand p l e R s m args below meth c T locs k n → Steps p.tables e below (T.setTop g') t → Steps p.tables e below (T.setTop g) t) (K : Goes p l e R s m args below meth c n0 mc ms Fn h k n g') : Goes p l e R s m args below meth c n0 mc ms Fn h k n g := fun T locs X N eT => by
  obtain ⟨s₂, o, hs, r⟩ := K T locs X N eT
  exact ⟨s₂, o, st T locs s₂ X hs, r⟩
theorem Goes.move {g g' : JFrame} {k' n' : Nat} {Pr : Heap → Prop} (st : ∀ (T : State) (locs : List Loc), Stand p l e R s m args below meth c T locs k n → Fr n0 locs → T.heap = h → ∃ (T' : State) (locs' : List Loc), Stand p l e R s m args below meth c T' locs' k' n' ∧ Fr n0 locs' ∧ Pr T'.heap ∧ ∀ t, Steps p.tables e below (T'.setTop g') t → Steps p.tables e below (T.setTop g) t)
    (K : ∀ h', Pr h' → Goes p l e R s m args below meth c n0 mc ms Fn h' k' n' g') : Goes p l e R s m args below meth c n0 mc ms Fn h k n g := fun T locs X N eT => by
  obtain ⟨T', locs', X', N', hP, st'⟩ := st T locs X N eT
  obtain ⟨s₂, o, hs, r⟩ := K T'.heap hP T' locs' X' N' rfl
  exact ⟨s₂, o, st' s₂ hs, r⟩
theorem Goes.join {g : JFrame} (g' : JFrame) (K1 : Goes p l e R s m args below meth c n0 mc ms Fn h k n g' → Goes p l e R s m args below meth c n0 mc ms Fn h k n g) (K2 : Goes p l e R s m args below meth c n0 mc ms Fn h k n g') : Goes p l e R s m args below meth c n0 mc ms Fn h k n g := K1 K2
theorem Goes.cast {g g' : JFrame} (q : g = g') (K : Goes p l e R s m args below meth c n0 mc ms Fn h k n g') : Goes p l e R s m args below meth c n0 mc ms Fn h k n g := q ▸ K
theorem Goes.fin {Fn' : Option Value → Heap → Prop} {g : JFrame} (q : ∀ v h, Fn v h → Fn' v h) (K : Goes p l e R s m args below meth c n0 mc ms Fn h k n g) : Goes p l e R s m args below meth c n0 mc ms Fn' h k n g := fun T locs X N eT => by
  obtain ⟨s₂, o, h1, h2, h3, v, L, h4, ⟨h5, h6⟩, h7⟩ := K T locs X N eT
  exact ⟨s₂, o, h1, h2, h3, v, L, h4, ⟨q _ _ h5, h6⟩, h7⟩

theorem iadd (hx : p.tables.exec = Jvm.exec) {pc pc' : Nat} {Ls : Array Slot} {x y : Int32} {rest : List Value} (hd : decode c.code pc = .ok (.iadd, 1)) (hp : pc + 1 = pc') (K : Goes p l e R s m args below meth c n0 mc ms Fn h k n (mkF m pc' Ls (.int (x + y) :: rest))) : Goes p l e R s m args below meth c n0 mc ms Fn h k n (mkF m pc Ls (.int y :: .int x :: rest)) := by
  subst hp; exact K.pure fun T locs t X hs => XS.iadd X.here hx rfl hd rfl hs
theorem isub (hx : p.tables.exec = Jvm.exec) {pc pc' : Nat} {Ls : Array Slot} {x y : Int32} {rest : List Value} (hd : decode c.code pc = .ok (.isub, 1)) (hp : pc + 1 = pc') (K : Goes p l e R s m args below meth c n0 mc ms Fn h k n (mkF m pc' Ls (.int (x - y) :: rest))) : Goes p l e R s m args below meth c n0 mc ms Fn h k n (mkF m pc Ls (.int y :: .int x :: rest)) := by
  subst hp; exact K.pure fun T locs t X hs => XS.isub X.here hx rfl hd rfl hs
theorem imul (hx : p.tables.exec = Jvm.exec) {pc pc' : Nat} {Ls : Array Slot} {x y : Int32} {rest : List Value} (hd : decode c.code pc = .ok (.imul, 1)) (hp : pc + 1 = pc') (K : Goes p l e R s m args below meth c n0 mc ms Fn h k n (mkF m pc' Ls (.int (x * y) :: rest))) : Goes p l e R s m args below meth c n0 mc ms Fn h k n (mkF m pc Ls (.int y :: .int x :: rest)) := by
  subst hp; exact K.pure fun T locs t X hs => XS.imul X.here hx rfl hd rfl hs
theorem iand (hx : p.tables.exec = Jvm.exec) {pc pc' : Nat} {Ls : Array Slot} {x y : Int32} {rest : List Value} (hd : decode c.code pc = .ok (.iand, 1)) (hp : pc + 1 = pc') (K : Goes p l e R s m args below meth c n0 mc ms Fn h k n (mkF m pc' Ls (.int (x &&& y) :: rest))) : Goes p l e R s m args below meth c n0 mc ms Fn h k n (mkF m pc Ls (.int y :: .int x :: rest)) := by
  subst hp; exact K.pure fun T locs t X hs => XS.iand X.here hx rfl hd rfl hs
theorem ior (hx : p.tables.exec = Jvm.exec) {pc pc' : Nat} {Ls : Array Slot} {x y : Int32} {rest : List Value} (hd : decode c.code pc = .ok (.ior, 1)) (hp : pc + 1 = pc') (K : Goes p l e R s m args below meth c n0 mc ms Fn h k n (mkF m pc' Ls (.int (x ||| y) :: rest))) : Goes p l e R s m args below meth c n0 mc ms Fn h k n (mkF m pc Ls (.int y :: .int x :: rest)) := by
  subst hp; exact K.pure fun T locs t X hs => XS.ior X.here hx rfl hd rfl hs
theorem ixor (hx : p.tables.exec = Jvm.exec) {pc pc' : Nat} {Ls : Array Slot} {x y : Int32} {rest : List Value} (hd : decode c.code pc = .ok (.ixor, 1)) (hp : pc + 1 = pc') (K : Goes p l e R s m args below meth c n0 mc ms Fn h k n (mkF m pc' Ls (.int (x ^^^ y) :: rest))) : Goes p l e R s m args below meth c n0 mc ms Fn h k n (mkF m pc Ls (.int y :: .int x :: rest)) := by
  subst hp; exact K.pure fun T locs t X hs => XS.ixor X.here hx rfl hd rfl hs
theorem ishl (hx : p.tables.exec = Jvm.exec) {pc pc' : Nat} {Ls : Array Slot} {x y : Int32} {rest : List Value} (hd : decode c.code pc = .ok (.ishl, 1)) (hp : pc + 1 = pc') (K : Goes p l e R s m args below meth c n0 mc ms Fn h k n (mkF m pc' Ls (.int (x <<< (y &&& 31)) :: rest))) : Goes p l e R s m args below meth c n0 mc ms Fn h k n (mkF m pc Ls (.int y :: .int x :: rest)) := by
  subst hp; exact K.pure fun T locs t X hs => XS.ishl X.here hx rfl hd rfl hs
theorem ishr (hx : p.tables.exec = Jvm.exec) {pc pc' : Nat} {Ls : Array Slot} {x y : Int32} {rest : List Value} (hd : decode c.code pc = .ok (.ishr, 1)) (hp : pc + 1 = pc') (K : Goes p l e R s m args below meth c n0 mc ms Fn h k n (mkF m pc' Ls (.int (x >>> (y &&& 31)) :: rest))) : Goes p l e R s m args below meth c n0 mc ms Fn h k n (mkF m pc Ls (.int y :: .int x :: rest)) := by
  subst hp; exact K.pure fun T locs t X hs => XS.ishr X.here hx rfl hd rfl hs
theorem iushr (hx : p.tables.exec = Jvm.exec) {pc pc' : Nat} {Ls : Array Slot} {x y : Int32} {rest : List Value} (hd : decode c.code pc = .ok (.iushr, 1)) (hp : pc + 1 = pc') (K : Goes p l e R s m args below meth c n0 mc ms Fn h k n (mkF m pc' Ls (.int ((x.toUInt32 >>> (y &&& 31).toUInt32).toInt32) :: rest))) : Goes p l e R s m args below meth c n0 mc ms Fn h k n (mkF m pc Ls (.int y :: .int x :: rest)) := by
  subst hp; exact K.pure fun T locs t X hs => XS.iushr X.here hx rfl hd rfl hs
theorem ladd (hx : p.tables.exec = Jvm.exec) {pc pc' : Nat} {Ls : Array Slot} {x y : Int64} {rest : List Value} (hd : decode c.code pc = .ok (.ladd, 1)) (hp : pc + 1 = pc') (K : Goes p l e R s m args below meth c n0 mc ms Fn h k n (mkF m pc' Ls (.long (x + y) :: rest))) : Goes p l e R s m args below meth c n0 mc ms Fn h k n (mkF m pc Ls (.long y :: .long x :: rest)) := by
  subst hp; exact K.pure fun T locs t X hs => XS.ladd X.here hx rfl hd rfl hs
theorem lsub (hx : p.tables.exec = Jvm.exec) {pc pc' : Nat} {Ls : Array Slot} {x y : Int64} {rest : List Value} (hd : decode c.code pc = .ok (.lsub, 1)) (hp : pc + 1 = pc') (K : Goes p l e R s m args below meth c n0 mc ms Fn h k n (mkF m pc' Ls (.long (x - y) :: rest))) : Goes p l e R s m args below meth c n0 mc ms Fn h k n (mkF m pc Ls (.long y :: .long x :: rest)) := by
  subst hp; exact K.pure fun T locs t X hs => XS.lsub X.here hx rfl hd rfl hs
theorem lmul (hx : p.tables.exec = Jvm.exec) {pc pc' : Nat} {Ls : Array Slot} {x y : Int64} {rest : List Value} (hd : decode c.code pc = .ok (.lmul, 1)) (hp : pc + 1 = pc') (K : Goes p l e R s m args below meth c n0 mc ms Fn h k n (mkF m pc' Ls (.long (x * y) :: rest))) : Goes p l e R s m args below meth c n0 mc ms Fn h k n (mkF m pc Ls (.long y :: .long x :: rest)) := by
  subst hp; exact K.pure fun T locs t X hs => XS.lmul X.here hx rfl hd rfl hs
theorem land (hx : p.tables.exec = Jvm.exec) {pc pc' : Nat} {Ls : Array Slot} {x y : Int64} {rest : List Value} (hd : decode c.code pc = .ok (.land, 1)) (hp : pc + 1 = pc') (K : Goes p l e R s m args below meth c n0 mc ms Fn h k n (mkF m pc' Ls (.long (x &&& y) :: rest))) : Goes p l e R s m args below meth c n0 mc ms Fn h k n (mkF m pc Ls (.long y :: .long x :: rest)) := by
  subst hp; exact K.pure fun T locs t X hs => XS.land X.here hx rfl hd rfl hs
theorem lor (hx : p.tables.exec = Jvm.exec) {pc pc' : Nat} {Ls : Array Slot} {x y : Int64} {rest : List Value} (hd : decode c.code pc = .ok (.lor, 1)) (hp : pc + 1 = pc') (K : Goes p l e R s m args below meth c n0 mc ms Fn h k n (mkF m pc' Ls (.long (x ||| y) :: rest))) : Goes p l e R s m args below meth c n0 mc ms Fn h k n (mkF m pc Ls (.long y :: .long x :: rest)) := by
  subst hp; exact K.pure fun T locs t X hs => XS.lor X.here hx rfl hd rfl hs
theorem lxor (hx : p.tables.exec = Jvm.exec) {pc pc' : Nat} {Ls : Array Slot} {x y : Int64} {rest : List Value} (hd : decode c.code pc = .ok (.lxor, 1)) (hp : pc + 1 = pc') (K : Goes p l e R s m args below meth c n0 mc ms Fn h k n (mkF m pc' Ls (.long (x ^^^ y) :: rest))) : Goes p l e R s m args below meth c n0 mc ms Fn h k n (mkF m pc Ls (.long y :: .long x :: rest)) := by
  subst hp; exact K.pure fun T locs t X hs => XS.lxor X.here hx rfl hd rfl hs
theorem lshl (hx : p.tables.exec = Jvm.exec) {pc pc' : Nat} {Ls : Array Slot} {x : Int64} {y : Int32} {rest : List Value} (hd : decode c.code pc = .ok (.lshl, 1)) (hp : pc + 1 = pc') (K : Goes p l e R s m args below meth c n0 mc ms Fn h k n (mkF m pc' Ls (.long (x <<< (y &&& 0x3f).toInt64) :: rest))) : Goes p l e R s m args below meth c n0 mc ms Fn h k n (mkF m pc Ls (.int y :: .long x :: rest)) := by
  subst hp; exact K.pure fun T locs t X hs => XS.lshl X.here hx rfl hd rfl hs
theorem lshr (hx : p.tables.exec = Jvm.exec) {pc pc' : Nat} {Ls : Array Slot} {x : Int64} {y : Int32} {rest : List Value} (hd : decode c.code pc = .ok (.lshr, 1)) (hp : pc + 1 = pc') (K : Goes p l e R s m args below meth c n0 mc ms Fn h k n (mkF m pc' Ls (.long (x >>> (y &&& 0x3f).toInt64) :: rest))) : Goes p l e R s m args below meth c n0 mc ms Fn h k n (mkF m pc Ls (.int y :: .long x :: rest)) := by
  subst hp; exact K.pure fun T locs t X hs => XS.lshr X.here hx rfl hd rfl hs
theorem lushr (hx : p.tables.exec = Jvm.exec) {pc pc' : Nat} {Ls : Array Slot} {x : Int64} {y : Int32} {rest : List Value} (hd : decode c.code pc = .ok (.lushr, 1)) (hp : pc + 1 = pc') (K : Goes p l e R s m args below meth c n0 mc ms Fn h k n (mkF m pc' Ls (.long ((x.toUInt64 >>> (y &&& 0x3f).toInt64.toUInt64).toInt64) :: rest))) : Goes p l e R s m args below meth c n0 mc ms Fn h k n (mkF m pc Ls (.int y :: .long x :: rest)) := by
  subst hp; exact K.pure fun T locs t X hs => XS.lushr X.here hx rfl hd rfl hs
theorem lcmp (hx : p.tables.exec = Jvm.exec) {pc pc' : Nat} {Ls : Array Slot} {x y : Int64} {rest : List Value} (hd : decode c.code pc = .ok (.lcmp, 1)) (hp : pc + 1 = pc') (K : Goes p l e R s m args below meth c n0 mc ms Fn h k n (mkF m pc' Ls (.int (lcmpW x y) :: rest))) : Goes p l e R s m args below meth c n0 mc ms Fn h k n (mkF m pc Ls (.long y :: .long x :: rest)) := by
  subst hp; exact K.pure fun T locs t X hs => XS.lcmp X.here hx rfl hd rfl hs
theorem idiv (hx : p.tables.exec = Jvm.exec) {pc pc' : Nat} {Ls : Array Slot} {x y : Int32} {rest : List Value} (hd : decode c.code pc = .ok (.idiv, 1)) (hp : pc + 1 = pc') (hy : y ≠ 0) (K : Goes p l e R s m args below meth c n0 mc ms Fn h k n (mkF m pc' Ls (.int (x / y) :: rest))) : Goes p l e R s m args below meth c n0 mc ms Fn h k n (mkF m pc Ls (.int y :: .int x :: rest)) := by
  subst hp; exact K.pure fun T locs t X hs => XS.idiv X.here hx rfl hd rfl hy hs
theorem irem (hx : p.tables.exec = Jvm.exec) {pc pc' : Nat} {Ls : Array Slot} {x y : Int32} {rest : List Value} (hd : decode c.code pc = .ok (.irem, 1)) (hp : pc + 1 = pc') (hy : y ≠ 0) (K : Goes p l e R s m args below meth c n0 mc ms Fn h k n (mkF m pc' Ls (.int (x % y) :: rest))) : Goes p l e R s m args below meth c n0 mc ms Fn h k n (mkF m pc Ls (.int y :: .int x :: rest)) := by
  subst hp; exact K.pure fun T locs t X hs => iremM X hx rfl hd rfl hy hs
theorem ldiv (hx : p.tables.exec = Jvm.exec) {pc pc' : Nat} {Ls : Array Slot} {x y : Int64} {rest : List Value} (hd : decode c.code pc = .ok (.ldiv, 1)) (hp : pc + 1 = pc') (hy : y ≠ 0) (K : Goes p l e R s m args below meth c n0 mc ms Fn h k n (mkF m pc' Ls (.long (x / y) :: rest))) : Goes p l e R s m args below meth c n0 mc ms Fn h k n (mkF m pc Ls (.long y :: .long x :: rest)) := by
  subst hp; exact K.pure fun T locs t X hs => XS.ldiv X.here hx rfl hd rfl hy hs
theorem lrem (hx : p.tables.exec = Jvm.exec) {pc pc' : Nat} {Ls : Array Slot} {x y : Int64} {rest : List Value} (hd : decode c.code pc = .ok (.lrem, 1)) (hp : pc + 1 = pc') (hy : y ≠ 0) (K : Goes p l e R s m args below meth c n0 mc ms Fn h k n (mkF m pc' Ls (.long (x % y) :: rest))) : Goes p l e R s m args below meth c n0 mc ms Fn h k n (mkF m pc Ls (.long y :: .long x :: rest)) := by
  subst hp; exact K.pure fun T locs t X hs => XS.lrem X.here hx rfl hd rfl hy (by rw [lrem_mod]; exact hs)
theorem ineg (hx : p.tables.exec = Jvm.exec) {pc pc' : Nat} {Ls : Array Slot} {x : Int32} {rest : List Value} (hd : decode c.code pc = .ok (.ineg, 1)) (hp : pc + 1 = pc') (K : Goes p l e R s m args below meth c n0 mc ms Fn h k n (mkF m pc' Ls (.int (-x) :: rest))) : Goes p l e R s m args below meth c n0 mc ms Fn h k n (mkF m pc Ls (.int x :: rest)) := by
  subst hp; exact K.pure fun T locs t X hs => XS.ineg X.here hx rfl hd rfl hs
theorem lneg (hx : p.tables.exec = Jvm.exec) {pc pc' : Nat} {Ls : Array Slot} {x : Int64} {rest : List Value} (hd : decode c.code pc = .ok (.lneg, 1)) (hp : pc + 1 = pc') (K : Goes p l e R s m args below meth c n0 mc ms Fn h k n (mkF m pc' Ls (.long (-x) :: rest))) : Goes p l e R s m args below meth c n0 mc ms Fn h k n (mkF m pc Ls (.long x :: rest)) := by
  subst hp; exact K.pure fun T locs t X hs => XS.lneg X.here hx rfl hd rfl hs
theorem i2l (hx : p.tables.exec = Jvm.exec) {pc pc' : Nat} {Ls : Array Slot} {x : Int32} {rest : List Value} (hd : decode c.code pc = .ok (.i2l, 1)) (hp : pc + 1 = pc') (K : Goes p l e R s m args below meth c n0 mc ms Fn h k n (mkF m pc' Ls (.long (x.toInt64) :: rest))) : Goes p l e R s m args below meth c n0 mc ms Fn h k n (mkF m pc Ls (.int x :: rest)) := by
  subst hp; exact K.pure fun T locs t X hs => XS.i2l X.here hx rfl hd rfl hs
theorem l2i (hx : p.tables.exec = Jvm.exec) {pc pc' : Nat} {Ls : Array Slot} {x : Int64} {rest : List Value} (hd : decode c.code pc = .ok (.l2i, 1)) (hp : pc + 1 = pc') (K : Goes p l e R s m args below meth c n0 mc ms Fn h k n (mkF m pc' Ls (.int (x.toInt32) :: rest))) : Goes p l e R s m args below meth c n0 mc ms Fn h k n (mkF m pc Ls (.long x :: rest)) := by
  subst hp; exact K.pure fun T locs t X hs => XS.l2i X.here hx rfl hd rfl hs
theorem i2b (hx : p.tables.exec = Jvm.exec) {pc pc' : Nat} {Ls : Array Slot} {x : Int32} {rest : List Value} (hd : decode c.code pc = .ok (.i2b, 1)) (hp : pc + 1 = pc') (K : Goes p l e R s m args below meth c n0 mc ms Fn h k n (mkF m pc' Ls (.int (x.toInt8.toInt32) :: rest))) : Goes p l e R s m args below meth c n0 mc ms Fn h k n (mkF m pc Ls (.int x :: rest)) := by
  subst hp; exact K.pure fun T locs t X hs => XS.i2b X.here hx rfl hd rfl hs
theorem i2s (hx : p.tables.exec = Jvm.exec) {pc pc' : Nat} {Ls : Array Slot} {x : Int32} {rest : List Value} (hd : decode c.code pc = .ok (.i2s, 1)) (hp : pc + 1 = pc') (K : Goes p l e R s m args below meth c n0 mc ms Fn h k n (mkF m pc' Ls (.int (x.toInt16.toInt32) :: rest))) : Goes p l e R s m args below meth c n0 mc ms Fn h k n (mkF m pc Ls (.int x :: rest)) := by
  subst hp; exact K.pure fun T locs t X hs => XS.i2s X.here hx rfl hd rfl hs
theorem i2c (hx : p.tables.exec = Jvm.exec) {pc pc' : Nat} {Ls : Array Slot} {x : Int32} {rest : List Value} (hd : decode c.code pc = .ok (.i2c, 1)) (hp : pc + 1 = pc') (K : Goes p l e R s m args below meth c n0 mc ms Fn h k n (mkF m pc' Ls (.int (x.toUInt32.toUInt16.toUInt32.toInt32) :: rest))) : Goes p l e R s m args below meth c n0 mc ms Fn h k n (mkF m pc Ls (.int x :: rest)) := by
  subst hp; exact K.pure fun T locs t X hs => XS.i2c X.here hx rfl hd rfl hs
theorem iload (hx : p.tables.exec = Jvm.exec) {pc pc' i : Nat} {Ls : Array Slot} (x : Int32) {rest : List Value} (hd : decode c.code pc = .ok (.iload i, 2)) (hp : pc + 2 = pc') (hl : Ls[i]? = some (.val (.int x))) (K : Goes p l e R s m args below meth c n0 mc ms Fn h k n (mkF m pc' Ls (.int x :: rest))) : Goes p l e R s m args below meth c n0 mc ms Fn h k n (mkF m pc Ls rest) := by
  subst hp; exact K.pure fun T locs t X hs => XS.iload X.here hx rfl hd hl hs
theorem iloadN (hx : p.tables.exec = Jvm.exec) {pc pc' : Nat} {i : Fin 4} {Ls : Array Slot} (x : Int32) {rest : List Value} (hd : decode c.code pc = .ok (.iload_n i, 1)) (hp : pc + 1 = pc') (hl : Ls[i.val]? = some (.val (.int x))) (K : Goes p l e R s m args below meth c n0 mc ms Fn h k n (mkF m pc' Ls (.int x :: rest))) : Goes p l e R s m args below meth c n0 mc ms Fn h k n (mkF m pc Ls rest) := by
  subst hp; exact K.pure fun T locs t X hs => XS.iloadN X.here hx rfl hd hl hs
theorem lload (hx : p.tables.exec = Jvm.exec) {pc pc' i : Nat} {Ls : Array Slot} (x : Int64) {rest : List Value} (hd : decode c.code pc = .ok (.lload i, 2)) (hp : pc + 2 = pc') (hl : Ls[i]? = some (.val (.long x))) (K : Goes p l e R s m args below meth c n0 mc ms Fn h k n (mkF m pc' Ls (.long x :: rest))) : Goes p l e R s m args below meth c n0 mc ms Fn h k n (mkF m pc Ls rest) := by
  subst hp; exact K.pure fun T locs t X hs => XS.lload X.here hx rfl hd hl hs
theorem lloadN (hx : p.tables.exec = Jvm.exec) {pc pc' : Nat} {i : Fin 4} {Ls : Array Slot} (x : Int64) {rest : List Value} (hd : decode c.code pc = .ok (.lload_n i, 1)) (hp : pc + 1 = pc') (hl : Ls[i.val]? = some (.val (.long x))) (K : Goes p l e R s m args below meth c n0 mc ms Fn h k n (mkF m pc' Ls (.long x :: rest))) : Goes p l e R s m args below meth c n0 mc ms Fn h k n (mkF m pc Ls rest) := by
  subst hp; exact K.pure fun T locs t X hs => XS.lloadN X.here hx rfl hd hl hs
theorem aload (hx : p.tables.exec = Jvm.exec) {pc pc' i : Nat} {Ls : Array Slot} (x : Value) {rest : List Value} (hd : decode c.code pc = .ok (.aload i, 2)) (hp : pc + 2 = pc') (hl : Ls[i]? = some (.val x)) (hv : x.isRef = true) (K : Goes p l e R s m args below meth c n0 mc ms Fn h k n (mkF m pc' Ls (x :: rest))) : Goes p l e R s m args below meth c n0 mc ms Fn h k n (mkF m pc Ls rest) := by
  subst hp; exact K.pure fun T locs t X hs => XS.aload X.here hx rfl hd hl hv hs
theorem aloadN (hx : p.tables.exec = Jvm.exec) {pc pc' : Nat} {i : Fin 4} {Ls : Array Slot} (x : Value) {rest : List Value} (hd : decode c.code pc = .ok (.aload_n i, 1)) (hp : pc + 1 = pc') (hl : Ls[i.val]? = some (.val x)) (hv : x.isRef = true) (K : Goes p l e R s m args below meth c n0 mc ms Fn h k n (mkF m pc' Ls (x :: rest))) : Goes p l e R s m args below meth c n0 mc ms Fn h k n (mkF m pc Ls rest) := by
  subst hp; exact K.pure fun T locs t X hs => XS.aloadN X.here hx rfl hd hl hv hs
theorem istore (hx : p.tables.exec = Jvm.exec) {pc pc' i : Nat} {Ls : Array Slot} {x : Int32} (z : Int32) (hz : z = x) {rest : List Value} (Ls' : Array Slot) (hd : decode c.code pc = .ok (.istore i, 2)) (hp : pc + 2 = pc') (hl : storeLocals Ls i (.int z) = some Ls') (K : Goes p l e R s m args below meth c n0 mc ms Fn h k n (mkF m pc' Ls' rest)) : Goes p l e R s m args below meth c n0 mc ms Fn h k n (mkF m pc Ls (.int x :: rest)) := by
  subst hp hz; exact K.pure fun T locs t X hs => XS.istore X.here hx rfl hd rfl hl hs
theorem istoreN (hx : p.tables.exec = Jvm.exec) {pc pc' : Nat} {i : Fin 4} {Ls : Array Slot} {x : Int32} (z : Int32) (hz : z = x) {rest : List Value} (Ls' : Array Slot) (hd : decode c.code pc = .ok (.istore_n i, 1)) (hp : pc + 1 = pc') (hl : storeLocals Ls i.val (.int z) = some Ls') (K : Goes p l e R s m args below meth c n0 mc ms Fn h k n (mkF m pc' Ls' rest)) : Goes p l e R s m args below meth c n0 mc ms Fn h k n (mkF m pc Ls (.int x :: rest)) := by
  subst hp hz; exact K.pure fun T locs t X hs => XS.istoreN X.here hx rfl hd rfl hl hs
theorem lstore (hx : p.tables.exec = Jvm.exec) {pc pc' i : Nat} {Ls : Array Slot} {x : Int64} (z : Int64) (hz : z = x) {rest : List Value} (Ls' : Array Slot) (hd : decode c.code pc = .ok (.lstore i, 2)) (hp : pc + 2 = pc') (hl : storeLocals Ls i (.long z) = some Ls') (K : Goes p l e R s m args below meth c n0 mc ms Fn h k n (mkF m pc' Ls' rest)) : Goes p l e R s m args below meth c n0 mc ms Fn h k n (mkF m pc Ls (.long x :: rest)) := by
  subst hp hz; exact K.pure fun T locs t X hs => XS.lstore X.here hx rfl hd rfl hl hs
theorem lstoreN (hx : p.tables.exec = Jvm.exec) {pc pc' : Nat} {i : Fin 4} {Ls : Array Slot} {x : Int64} (z : Int64) (hz : z = x) {rest : List Value} (Ls' : Array Slot) (hd : decode c.code pc = .ok (.lstore_n i, 1)) (hp : pc + 1 = pc') (hl : storeLocals Ls i.val (.long z) = some Ls') (K : Goes p l e R s m args below meth c n0 mc ms Fn h k n (mkF m pc' Ls' rest)) : Goes p l e R s m args below meth c n0 mc ms Fn h k n (mkF m pc Ls (.long x :: rest)) := by
  subst hp hz; exact K.pure fun T locs t X hs => XS.lstoreN X.here hx rfl hd rfl hl hs
theorem astore (hx : p.tables.exec = Jvm.exec) {pc pc' i : Nat} {Ls : Array Slot} {x : Value} {rest : List Value} (Ls' : Array Slot) (hd : decode c.code pc = .ok (.astore i, 2)) (hp : pc + 2 = pc') (hv : x.isRef = true) (hl : storeLocals Ls i x = some Ls') (K : Goes p l e R s m args below meth c n0 mc ms Fn h k n (mkF m pc' Ls' rest)) : Goes p l e R s m args below meth c n0 mc ms Fn h k n (mkF m pc Ls (x :: rest)) := by
  subst hp; exact K.pure fun T locs t X hs => XS.astore X.here hx rfl hd rfl hv hl hs
theorem astoreN (hx : p.tables.exec = Jvm.exec) {pc pc' : Nat} {i : Fin 4} {Ls : Array Slot} {x : Value} {rest : List Value} (Ls' : Array Slot) (hd : decode c.code pc = .ok (.astore_n i, 1)) (hp : pc + 1 = pc') (hv : x.isRef = true) (hl : storeLocals Ls i.val x = some Ls') (K : Goes p l e R s m args below meth c n0 mc ms Fn h k n (mkF m pc' Ls' rest)) : Goes p l e R s m args below meth c n0 mc ms Fn h k n (mkF m pc Ls (x :: rest)) := by
  subst hp; exact K.pure fun T locs t X hs => XS.astoreN X.here hx rfl hd rfl hv hl hs
theorem iinc (hx : p.tables.exec = Jvm.exec) {pc pc' i : Nat} {ct : Int} {Ls : Array Slot} {x : Int32} (z : Int32) {rest : List Value} (Ls' : Array Slot) (hd : decode c.code pc = .ok (.iinc i ct, 3)) (hp : pc + 3 = pc') (hl : Ls[i]? = some (.val (.int x))) (hz : z = x + Int32.ofInt ct) (hl' : storeLocals Ls i (.int z) = some Ls') (K : Goes p l e R s m args below meth c n0 mc ms Fn h k n (mkF m pc' Ls' rest)) : Goes p l e R s m args below meth c n0 mc ms Fn h k n (mkF m pc Ls rest) := by
  subst hp hz; exact K.pure fun T locs t X hs => XS.iinc X.here hx rfl hd hl hl' hs
theorem iconst (hx : p.tables.exec = Jvm.exec) {pc pc' : Nat} {i : Int} {Ls : Array Slot} (z : Int32) {rest : List Value} (hd : decode c.code pc = .ok (.iconst i, 1)) (hp : pc + 1 = pc') (hz : Int32.ofInt i = z) (K : Goes p l e R s m args below meth c n0 mc ms Fn h k n (mkF m pc' Ls (.int z :: rest))) : Goes p l e R s m args below meth c n0 mc ms Fn h k n (mkF m pc Ls rest) := by
  subst hp hz; exact K.pure fun T locs t X hs => XS.iconst X.here hx rfl hd hs
theorem bipush (hx : p.tables.exec = Jvm.exec) {pc pc' : Nat} {i : Int} {Ls : Array Slot} (z : Int32) {rest : List Value} (hd : decode c.code pc = .ok (.bipush i, 2)) (hp : pc + 2 = pc') (hz : (Int8.ofInt i).toInt32 = z) (K : Goes p l e R s m args below meth c n0 mc ms Fn h k n (mkF m pc' Ls (.int z :: rest))) : Goes p l e R s m args below meth c n0 mc ms Fn h k n (mkF m pc Ls rest) := by
  subst hp hz; exact K.pure fun T locs t X hs => XS.bipush X.here hx rfl hd hs
theorem sipush (hx : p.tables.exec = Jvm.exec) {pc pc' : Nat} {i : Int} {Ls : Array Slot} (z : Int32) {rest : List Value} (hd : decode c.code pc = .ok (.sipush i, 3)) (hp : pc + 3 = pc') (hz : (Int16.ofInt i).toInt32 = z) (K : Goes p l e R s m args below meth c n0 mc ms Fn h k n (mkF m pc' Ls (.int z :: rest))) : Goes p l e R s m args below meth c n0 mc ms Fn h k n (mkF m pc Ls rest) := by
  subst hp hz; exact K.pure fun T locs t X hs => XS.sipush X.here hx rfl hd hs
theorem lconst (hx : p.tables.exec = Jvm.exec) {pc pc' : Nat} {i : Fin 2} {Ls : Array Slot} (z : Int64) {rest : List Value} (hd : decode c.code pc = .ok (.lconst i, 1)) (hp : pc + 1 = pc') (hz : Int64.ofNat i = z) (K : Goes p l e R s m args below meth c n0 mc ms Fn h k n (mkF m pc' Ls (.long z :: rest))) : Goes p l e R s m args below meth c n0 mc ms Fn h k n (mkF m pc Ls rest) := by
  subst hp hz; exact K.pure fun T locs t X hs => XS.lconst X.here hx rfl hd hs
theorem aconstNull (hx : p.tables.exec = Jvm.exec) {pc pc' : Nat} {Ls : Array Slot} {rest : List Value} (hd : decode c.code pc = .ok (.aconst_null, 1)) (hp : pc + 1 = pc') (K : Goes p l e R s m args below meth c n0 mc ms Fn h k n (mkF m pc' Ls (.null :: rest))) : Goes p l e R s m args below meth c n0 mc ms Fn h k n (mkF m pc Ls rest) := by
  subst hp; exact K.pure fun T locs t X hs => XS.aconstNull X.here hx rfl hd hs
theorem dup (hx : p.tables.exec = Jvm.exec) {pc pc' : Nat} {Ls : Array Slot} {x : Value} {rest : List Value} (hd : decode c.code pc = .ok (.dup, 1)) (hp : pc + 1 = pc') (hc : x.category = 1) (K : Goes p l e R s m args below meth c n0 mc ms Fn h k n (mkF m pc' Ls (x :: x :: rest))) : Goes p l e R s m args below meth c n0 mc ms Fn h k n (mkF m pc Ls (x :: rest)) := by
  subst hp; exact K.pure fun T locs t X hs => XS.dup X.here hx rfl hd rfl hc hs
theorem pop (hx : p.tables.exec = Jvm.exec) {pc pc' : Nat} {Ls : Array Slot} {x : Value} {rest : List Value} (hd : decode c.code pc = .ok (.pop, 1)) (hp : pc + 1 = pc') (hc : x.category = 1) (K : Goes p l e R s m args below meth c n0 mc ms Fn h k n (mkF m pc' Ls rest)) : Goes p l e R s m args below meth c n0 mc ms Fn h k n (mkF m pc Ls (x :: rest)) := by
  subst hp; exact K.pure fun T locs t X hs => XS.pop X.here hx rfl hd rfl hc hs
theorem dupX1 (hx : p.tables.exec = Jvm.exec) {pc pc' : Nat} {Ls : Array Slot} {x y : Value} {rest : List Value} (hd : decode c.code pc = .ok (.dup_x1, 1)) (hp : pc + 1 = pc') (hc : x.category = 1) (hc' : y.category = 1) (K : Goes p l e R s m args below meth c n0 mc ms Fn h k n (mkF m pc' Ls (x :: y :: x :: rest))) : Goes p l e R s m args below meth c n0 mc ms Fn h k n (mkF m pc Ls (x :: y :: rest)) := by
  subst hp; exact K.pure fun T locs t X hs => XS.dupX1 X.here hx rfl hd rfl hc hc' hs
theorem dup2 (hx : p.tables.exec = Jvm.exec) {pc pc' : Nat} {Ls : Array Slot} {x y : Value} {rest : List Value} (hd : decode c.code pc = .ok (.dup2, 1)) (hp : pc + 1 = pc') (hc : x.category = 1) (hc' : y.category = 1) (K : Goes p l e R s m args below meth c n0 mc ms Fn h k n (mkF m pc' Ls (x :: y :: x :: y :: rest))) : Goes p l e R s m args below meth c n0 mc ms Fn h k n (mkF m pc Ls (x :: y :: rest)) := by
  subst hp; exact K.pure fun T locs t X hs => XT.dup2 X.here hx rfl hd rfl hc hc' hs
theorem dup2L (hx : p.tables.exec = Jvm.exec) {pc pc' : Nat} {Ls : Array Slot} {x : Int64} {rest : List Value} (hd : decode c.code pc = .ok (.dup2, 1)) (hp : pc + 1 = pc') (K : Goes p l e R s m args below meth c n0 mc ms Fn h k n (mkF m pc' Ls (.long x :: .long x :: rest))) : Goes p l e R s m args below meth c n0 mc ms Fn h k n (mkF m pc Ls (.long x :: rest)) := by
  subst hp; exact K.pure fun T locs t X hs => XT.dup2L X.here hx rfl hd rfl hs
theorem goto (hx : p.tables.exec = Jvm.exec) {pc pc' : Nat} {o : Int} {Ls : Array Slot} {st : List Value} (hd : decode c.code pc = .ok (.goto o, 3)) (ho : 0 ≤ (pc : Int) + o) (hp : ((pc : Int) + o).toNat = pc') (K : Goes p l e R s m args below meth c n0 mc ms Fn h k n (mkF m pc' Ls st)) : Goes p l e R s m args below meth c n0 mc ms Fn h k n (mkF m pc Ls st) :=
  K.pure fun T locs t X hs => XS.goto X.here hx rfl rfl hd ho hp hs
theorem ifF (hx : p.tables.exec = Jvm.exec) {Pr : Prop} [Decidable Pr] {cd : ClassFile.Cond} {x : Int32} (hq : ifCond.holds cd x = decide Pr) {pc pcN pcT : Nat} {o : Int} {Ls : Array Slot} {rest : List Value} (hd : decode c.code pc = .ok (.ifCond cd o, 3)) (hn : pc + 3 = pcN) (ho : 0 ≤ (pc : Int) + o) (hp : ((pc : Int) + o).toNat = pcT)
    (KT : Pr → Goes p l e R s m args below meth c n0 mc ms Fn h k n (mkF m pcT Ls rest)) (KN : ¬ Pr → Goes p l e R s m args below meth c n0 mc ms Fn h k n (mkF m pcN Ls rest)) : Goes p l e R s m args below meth c n0 mc ms Fn h k n (mkF m pc Ls (.int x :: rest)) := by
  subst hn
  by_cases hP : Pr
  · exact (KT hP).pure fun T locs t X hs => XS.ifYes X.here hx rfl rfl hd rfl (by rw [hq]; exact decide_eq_true hP) ho hp hs
  · exact (KN hP).pure fun T locs t X hs => XS.ifNo X.here hx rfl hd rfl (by rw [hq]; exact decide_eq_false hP) hs
theorem icmpF (hx : p.tables.exec = Jvm.exec) {Pr : Prop} [Decidable Pr] {cd : ClassFile.Cond} {x y : Int32} (hq : if_icmp.holds cd x y = decide Pr) {pc pcN pcT : Nat} {o : Int} {Ls : Array Slot} {rest : List Value} (hd : decode c.code pc = .ok (.if_icmp cd o, 3)) (hn : pc + 3 = pcN) (ho : 0 ≤ (pc : Int) + o) (hp : ((pc : Int) + o).toNat = pcT)
    (KT : Pr → Goes p l e R s m args below meth c n0 mc ms Fn h k n (mkF m pcT Ls rest)) (KN : ¬ Pr → Goes p l e R s m args below meth c n0 mc ms Fn h k n (mkF m pcN Ls rest)) : Goes p l e R s m args below meth c n0 mc ms Fn h k n (mkF m pc Ls (.int y :: .int x :: rest)) := by
  subst hn
  by_cases hP : Pr
  · exact (KT hP).pure fun T locs t X hs => XS.icmpYes X.here hx rfl rfl hd rfl (by rw [hq]; exact decide_eq_true hP) ho hp hs
  · exact (KN hP).pure fun T locs t X hs => XS.icmpNo X.here hx rfl hd rfl (by rw [hq]; exact decide_eq_false hP) hs
theorem ifFn (hx : p.tables.exec = Jvm.exec) {Pr : Prop} [Decidable Pr] {cd : ClassFile.Cond} {x : Int32} (hq : ifCond.holds cd x = decide (¬ Pr)) {pc pcN pcT : Nat} {o : Int} {Ls : Array Slot} {rest : List Value} (hd : decode c.code pc = .ok (.ifCond cd o, 3)) (hn : pc + 3 = pcN) (ho : 0 ≤ (pc : Int) + o) (hp : ((pc : Int) + o).toNat = pcT)
    (KT : ¬ Pr → Goes p l e R s m args below meth c n0 mc ms Fn h k n (mkF m pcT Ls rest)) (KN : Pr → Goes p l e R s m args below meth c n0 mc ms Fn h k n (mkF m pcN Ls rest)) : Goes p l e R s m args below meth c n0 mc ms Fn h k n (mkF m pc Ls (.int x :: rest)) := ifF hx hq hd hn ho hp KT fun q => KN (Decidable.of_not_not q)
theorem icmpFn (hx : p.tables.exec = Jvm.exec) {Pr : Prop} [Decidable Pr] {cd : ClassFile.Cond} {x y : Int32} (hq : if_icmp.holds cd x y = decide (¬ Pr)) {pc pcN pcT : Nat} {o : Int} {Ls : Array Slot} {rest : List Value} (hd : decode c.code pc = .ok (.if_icmp cd o, 3)) (hn : pc + 3 = pcN) (ho : 0 ≤ (pc : Int) + o) (hp : ((pc : Int) + o).toNat = pcT)
    (KT : ¬ Pr → Goes p l e R s m args below meth c n0 mc ms Fn h k n (mkF m pcT Ls rest)) (KN : Pr → Goes p l e R s m args below meth c n0 mc ms Fn h k n (mkF m pcN Ls rest)) : Goes p l e R s m args below meth c n0 mc ms Fn h k n (mkF m pc Ls (.int y :: .int x :: rest)) := icmpF hx hq hd hn ho hp KT fun q => KN (Decidable.of_not_not q)
theorem q_eq (x y : Int32) : if_icmp.holds .eq x y = decide (x = y) := by by_cases q : x = y <;> simp [if_icmp.holds, q]
theorem q_ne (x y : Int32) : if_icmp.holds .ne x y = decide (¬ x = y) := by by_cases q : x = y <;> simp [if_icmp.holds, q]
theorem q_lt (x y : Int32) : if_icmp.holds .lt x y = decide (x < y) := by by_cases q : x < y <;> simp [q, (tlt ·), (flt ·)]
theorem q_ge (x y : Int32) : if_icmp.holds .ge x y = decide (¬ x < y) := by by_cases q : x < y <;> simp [q, (tlt ·), (flt ·)]
theorem q_gt (x y : Int32) : if_icmp.holds .gt x y = decide (y < x) := by by_cases q : y < x <;> simp [q, (tlt ·), (flt ·)]
theorem q_le (x y : Int32) : if_icmp.holds .le x y = decide (¬ y < x) := by by_cases q : y < x <;> simp [q, (tlt ·), (flt ·)]
theorem z_eq (x : Int32) : ifCond.holds .eq x = decide (x = 0) := (if0 _ _).trans (q_eq x 0)
theorem z_ne (x : Int32) : ifCond.holds .ne x = decide (¬ x = 0) := (if0 _ _).trans (q_ne x 0)
theorem z_lt (x : Int32) : ifCond.holds .lt x = decide (x < 0) := (if0 _ _).trans (q_lt x 0)
theorem z_ge (x : Int32) : ifCond.holds .ge x = decide (¬ x < 0) := (if0 _ _).trans (q_ge x 0)
theorem z_gt (x : Int32) : ifCond.holds .gt x = decide (0 < x) := (if0 _ _).trans (q_gt x 0)
theorem z_le (x : Int32) : ifCond.holds .le x = decide (¬ 0 < x) := (if0 _ _).trans (q_le x 0)
theorem w_eq (x y : Int64) : ifCond.holds .eq (lcmpW x y) = decide (x = y) := (z_eq _).trans (by simp only [lw_eq])
theorem w_ne (x y : Int64) : ifCond.holds .ne (lcmpW x y) = decide (¬ x = y) := (z_ne _).trans (by simp only [lw_eq])
theorem w_lt (x y : Int64) : ifCond.holds .lt (lcmpW x y) = decide (x < y) := (z_lt _).trans (by simp only [lw_lt])
theorem w_ge (x y : Int64) : ifCond.holds .ge (lcmpW x y) = decide (¬ x < y) := (z_ge _).trans (by simp only [lw_lt])
theorem w_gt (x y : Int64) : ifCond.holds .gt (lcmpW x y) = decide (y < x) := (z_gt _).trans (by simp only [lw_gt])
theorem w_le (x y : Int64) : ifCond.holds .le (lcmpW x y) = decide (¬ y < x) := (z_le _).trans (by simp only [lw_gt])
theorem ifnullN (hx : p.tables.exec = Jvm.exec) {pc pcN : Nat} {o : Int} {a : Addr} {Ls : Array Slot} {rest : List Value} (hd : decode c.code pc = .ok (.ifnull o, 3)) (hn : pc + 3 = pcN) (K : Goes p l e R s m args below meth c n0 mc ms Fn h k n (mkF m pcN Ls rest)) : Goes p l e R s m args below meth c n0 mc ms Fn h k n (mkF m pc Ls (.ref a :: rest)) := by
  subst hn; exact K.pure fun T locs t X hs => XS.ifnullNo X.here hx rfl hd rfl hs
theorem ifnullY (hx : p.tables.exec = Jvm.exec) {pc pcT : Nat} {o : Int} {Ls : Array Slot} {rest : List Value} (hd : decode c.code pc = .ok (.ifnull o, 3)) (ho : 0 ≤ (pc : Int) + o) (hp : ((pc : Int) + o).toNat = pcT) (K : Goes p l e R s m args below meth c n0 mc ms Fn h k n (mkF m pcT Ls rest)) : Goes p l e R s m args below meth c n0 mc ms Fn h k n (mkF m pc Ls (.null :: rest)) :=
  K.pure fun T locs t X hs => XS.ifnullYes X.here hx rfl rfl hd rfl ho hp hs
theorem ifnonnullN (hx : p.tables.exec = Jvm.exec) {pc pcN : Nat} {o : Int} {Ls : Array Slot} {rest : List Value} (hd : decode c.code pc = .ok (.ifnonnull o, 3)) (hn : pc + 3 = pcN) (K : Goes p l e R s m args below meth c n0 mc ms Fn h k n (mkF m pcN Ls rest)) : Goes p l e R s m args below meth c n0 mc ms Fn h k n (mkF m pc Ls (.null :: rest)) := by
  subst hn; exact K.pure fun T locs t X hs => XS.ifnonnullNo X.here hx rfl hd rfl hs
theorem ifnonnullY (hx : p.tables.exec = Jvm.exec) {pc pcT : Nat} {o : Int} {a : Addr} {Ls : Array Slot} {rest : List Value} (hd : decode c.code pc = .ok (.ifnonnull o, 3)) (ho : 0 ≤ (pc : Int) + o) (hp : ((pc : Int) + o).toNat = pcT) (K : Goes p l e R s m args below meth c n0 mc ms Fn h k n (mkF m pcT Ls rest)) : Goes p l e R s m args below meth c n0 mc ms Fn h k n (mkF m pc Ls (.ref a :: rest)) :=
  K.pure fun T locs t X hs => XS.ifnonnullYes X.here hx rfl rfl hd rfl ho hp hs
theorem ldc (hx : p.tables.exec = Jvm.exec) {Z : State} (hZ : Z.Warmed39 s.vm) {a0 : Array Value} {own : String} (hown : s.vm.findClass own = some m.cls) {pc pc' i : Nat} {Ls : Array Slot} (z : Int32) {rest : List Value} (hd : decode c.code pc = .ok (.ldc i, 2)) (hp : pc + 2 = pc') (w : (Jvm.Cond.constant own i z).before a0 Z = true) (K : Goes p l e R s m args below meth c n0 mc ms Fn h k n (mkF m pc' Ls (.int z :: rest))) : Goes p l e R s m args below meth c n0 mc ms Fn h k n (mkF m pc Ls rest) := by
  subst hp; exact K.pure fun T locs t X hs => X.ldcInt hx hown (mvT hZ w) (g := mkF m pc Ls rest) rfl hd t hs
theorem ldc2 (hx : p.tables.exec = Jvm.exec) {Z : State} (hZ : Z.Warmed39 s.vm) {a0 : Array Value} {own : String} (hown : s.vm.findClass own = some m.cls) {pc pc' i : Nat} {Ls : Array Slot} (z : Int64) {rest : List Value} (hd : decode c.code pc = .ok (.ldc2_w i, 3)) (hp : pc + 3 = pc') (w : (Jvm.Cond.constantLong own i z).before a0 Z = true) (K : Goes p l e R s m args below meth c n0 mc ms Fn h k n (mkF m pc' Ls (.long z :: rest))) : Goes p l e R s m args below meth c n0 mc ms Fn h k n (mkF m pc Ls rest) := by
  subst hp; exact K.pure fun T locs t X hs => X.ldc2Long hx hown (mvT hZ w) (g := mkF m pc Ls rest) rfl hd t hs
/-- the end of a walk -/
theorem endOf {v : Option Value} {g : JFrame} (hlk : meth.locks = false) (hv : meth.sig.returnType = none → v = none)
    (st : ∀ (T : State) (locs : List Loc) (fs : List Frame), Stand p l e R s m args below meth c T locs k n → (∀ (f : JFrame) (acts : List Action), f.method = m → f.locked = none → f.entered = [] → (doReturn e (T.setTop f) acts v).1 = T.setFrames fs) → Steps p.tables e below (T.setTop g) (T.setFrames fs))
    (hk : k ≤ mc) (hn : n ≤ ms) (hF : Fn v h) : Goes p l e R s m args below meth c n0 mc ms Fn h k n g := fun T locs X N eT => by
  obtain ⟨fs, hr, hrun, hended, hW, hsame⟩ := X.leave hv hlk
  refine ⟨_, _, st T locs fs X hr, hrun, hended, v, locs, rfl, ⟨?_, N⟩, ⟨_, rfl⟩, hW, hsame.mono hk hn⟩
  show Fn v T.heap
  rw [eT]; exact hF
theorem retI (hx : p.tables.exec = Jvm.exec) (hret : meth.sig.returnType = some .int) (hlk : meth.locks = false) {pc : Nat} {Ls : Array Slot} {z : Int32} {rest : List Value} (hd : decode c.code pc = .ok (.ireturn, 1)) (hk : k ≤ mc) (hn : n ≤ ms) (hF : Fn (some (.int z)) h) : Goes p l e R s m args below meth c n0 mc ms Fn h k n (mkF m pc Ls (.int z :: rest)) :=
  endOf hlk (fun q => by rw [hret] at q; cases q) (fun T locs fs X hr => retOut X hx hret rfl (Or.inl ⟨rfl, Or.inl rfl, _, rfl⟩) hd hr) hk hn hF
theorem retL (hx : p.tables.exec = Jvm.exec) (hret : meth.sig.returnType = some .long) (hlk : meth.locks = false) {pc : Nat} {Ls : Array Slot} {z : Int64} {rest : List Value} (hd : decode c.code pc = .ok (.lreturn, 1)) (hk : k ≤ mc) (hn : n ≤ ms) (hF : Fn (some (.long z)) h) : Goes p l e R s m args below meth c n0 mc ms Fn h k n (mkF m pc Ls (.long z :: rest)) :=
  endOf hlk (fun q => by rw [hret] at q; cases q) (fun T locs fs X hr => retOut X hx hret rfl (Or.inr (Or.inl ⟨rfl, rfl, _, rfl⟩)) hd hr) hk hn hF
theorem retA (hx : p.tables.exec = Jvm.exec) {ty : FieldType} (hret : meth.sig.returnType = some ty) (hty : ty.isReference = true) (hlk : meth.locks = false) {pc : Nat} {Ls : Array Slot} {w : Value} {rest : List Value} (hw : w.isRef = true) (hnr : narrow ty w = w) (hd : decode c.code pc = .ok (.areturn, 1)) (hk : k ≤ mc) (hn : n ≤ ms) (hF : Fn (some w) h) : Goes p l e R s m args below meth c n0 mc ms Fn h k n (mkF m pc Ls (w :: rest)) :=
  endOf hlk (fun q => by rw [hret] at q; cases q) (fun T locs fs X hr => retOut X hx hret hnr (Or.inr (Or.inr (Or.inr (Or.inr ⟨rfl, hty, hw⟩)))) hd hr) hk hn hF
theorem retS (hx : p.tables.exec = Jvm.exec) {ty : FieldType} (hret : meth.sig.returnType = some ty) (hty : ty = .boolean ∨ ty = .byte ∨ ty = .char ∨ ty = .short) (hlk : meth.locks = false) {pc : Nat} {Ls : Array Slot} {z : Int32} {rest : List Value} (hd : decode c.code pc = .ok (.ireturn, 1)) (hk : k ≤ mc) (hn : n ≤ ms) (hF : Fn (some (.int (nar ty z))) h) : Goes p l e R s m args below meth c n0 mc ms Fn h k n (mkF m pc Ls (.int z :: rest)) :=
  endOf hlk (fun q => by rw [hret] at q; cases q) (fun T locs fs X hr => retN X hx hret hty hd hr) hk hn hF
theorem retV (hx : p.tables.exec = Jvm.exec) (hret : meth.sig.returnType = none) (hlk : meth.locks = false) {pc : Nat} {Ls : Array Slot} (hd : decode c.code pc = .ok (.return_, 1)) (hk : k ≤ mc) (hn : n ≤ ms) (hF : Fn none h) : Goes p l e R s m args below meth c n0 mc ms Fn h k n (mkF m pc Ls []) :=
  endOf hlk (fun _ => rfl) (fun T locs fs X hr => X.returnOut hx hret hd hr) hk hn hF
/-- a static method by its contract -/
theorem callS (hx : p.tables.exec = Jvm.exec) {Z : State} (hZ : Z.Warmed39 s.vm) {a0 : Array Value} {own : String} (hown : s.vm.findClass own = some m.cls) {i : Nat} {y : MethodName} {bytes : ByteArray} {maxL : Nat} {ret : Option FieldType} {rm : Room} {F : Option Value → Heap → Prop} {argsL rest : List Value}
    (w1 : (Jvm.Cond.methodLink own i y).before a0 Z = true) (w2 : (Jvm.Cond.static y).before a0 Z = true) (w3 : (Jvm.Cond.initialized y.cls).before a0 Z = true) (w4 : (Jvm.Cond.code y bytes maxL ret).before a0 Z = true) (hy : y.cls ≠ "java/lang/invoke/MethodHandle" ∧ y.cls ≠ "java/lang/invoke/VarHandle")
    {sg : ClassFile.MethodDescriptor} (hsg : parseMethodDescriptor y.desc = some sg) (hlen : argsL.length = sg.parameters.length) {pc pc' : Nat} {Ls : Array Slot} {W : Nat} (hW : (rest.map fun v => v.category).sum ≤ W) (hf : rm.frames + 1 ≤ R.frames) (hl : W + (maxL + 11) + rm.locals ≤ R.locals) (hcl : k + rm.cells ≤ R.cells) (hsl : n + rm.slots ≤ R.slots)
    {k' n' : Nat} (hk' : k + rm.cells = k') (hn' : n + rm.slots = n') (hml : Ls.size = c.maxLocals) (st : List Value) (hst : st = argsL.reverse ++ rest) (hd : decode c.code pc = .ok (.invokestatic i, 3)) (hp : pc + 3 = pc') (D : Does l y bytes maxL ret [] rm Z argsL.toArray h n0 F)
    (K : ∀ v h', F v h' → Goes p l e R s m args below meth c n0 mc ms Fn h' k' n' (mkF m pc' Ls (v.toList ++ rest))) : Goes p l e R s m args below meth c n0 mc ms Fn h k n (mkF m pc Ls st) := fun T locs X N eT => by
  subst hp hst hk' hn'
  obtain ⟨v, _, ⟨T', L', k', n'⟩, -, X', ⟨Lc, hQ, l1, y1, z1⟩, st⟩ := Jvm.LawKit.callS X hx (y := y) hown (mvT hZ w1) (mvT hZ w2) (mvT hZ w3) (mvT hZ w4) hy (backOf (W := W) (Q := fun v h' L => F v h' ∧ Fr n0 L) D hZ w4 w3 hf hl) (g := mkF m pc Ls (argsL.reverse ++ rest)) rfl hml (argsL := argsL) (rest := rest) (lenOf hsg hlen) rfl (by show 2 * 0 + _ ≤ _; omega) hd (fun _ _ => ⟨rfl, eT, hcl, hsl⟩)
  dsimp only [Pt.U, Pt.locs, Pt.cells, Pt.slots] at X' l1 y1 z1 st hQ
  subst l1 y1 z1
  obtain ⟨s₂, o, hs, r⟩ := K v T'.heap hQ.1 T' _ X' (N.app hQ.2) rfl
  exact ⟨s₂, o, st _ hs, r⟩
theorem vI {x : Int32} (z : Int32) (q : x = z) {pc : Nat} {Ls : Array Slot} {rest : List Value} (K : Goes p l e R s m args below meth c n0 mc ms Fn h k n (mkF m pc Ls (.int z :: rest))) : Goes p l e R s m args below meth c n0 mc ms Fn h k n (mkF m pc Ls (.int x :: rest)) := by subst q; exact K
theorem vL {x : Int64} (z : Int64) (q : x = z) {pc : Nat} {Ls : Array Slot} {rest : List Value} (K : Goes p l e R s m args below meth c n0 mc ms Fn h k n (mkF m pc Ls (.long z :: rest))) : Goes p l e R s m args below meth c n0 mc ms Fn h k n (mkF m pc Ls (.long x :: rest)) := by subst q; exact K
theorem bool1 {z : Int32} (q : z = 1) : (some (Value.int (nar .boolean z)) : Option Value) = some (.int 1) := by subst q; rfl
end Eng
end Own
namespace Own
section EngH
def FldC (Z : State) (C nm d : String) (v : Value) (cell : Cell) : Prop := ∃ (cf : ClassId) (kk : Class) (i : Nat) (f : Field), Z.fieldFound? C nm d = some (cf, kk, i, f) ∧ f.isStatic = false ∧ cell.vm ≠ .unknown ∧ cell.vm.isStatics = false ∧ Z.vm.assignable cell.cls cf = true ∧ cell.slots[f.slot]? = some v
def ExaC (Z : State) (C : String) (cell : Cell) : Prop := ∃ kk : Class, Z.vm.findClass C = some cell.cls ∧ Z.vm.classes[cell.cls]? = some kk ∧ cell.vm.isStatics = false ∧ (kk.kind = .ordinary → cell.slots.size = kk.instanceTypes.size)
/-- an object of just the class C with these fields (declaring class, name, descriptor) at these values -/
def ObjC (Z : State) (C : String) (fs : List ((String × String × String) × Value)) (cell : Cell) : Prop := ExaC Z C cell ∧ (∀ f ∈ fs, FldC Z f.1.1 f.1.2.1 f.1.2.2 f.2 cell) ∧ (fs.map fun f => Jvm.RoadKit.slotOf Z f.1.1 f.1.2.1 f.1.2.2).Nodup
/-- an array of the kind ty with these values -/
def ArrC (Z : State) (ty : FieldType) (vs : List Value) (cell : Cell) : Prop := Z.isArrayOf cell ty ∧ cell.vm ≠ .unknown ∧ cell.slots.toList = vs ∧ ∀ v ∈ vs, fits ty v = true
/-- the cells at these places, all at or above n0 and unlike, are as said -/
def Owns (n0 : Nat) (h : Heap) (os : List (Addr × (Cell → Prop))) : Prop := n0 ≤ h.size ∧ (os.map Prod.fst).Nodup ∧ ∀ o ∈ os, n0 ≤ o.1 ∧ ∃ cell, h[o.1]? = some cell ∧ o.2 cell
variable {p : Program} {l : Launch} {e : Env} {R : Room} {s : State} {m : MethodId} {args : Array Value} {below : List Frame} {meth : Method} {c : Code} {n0 mc ms : Nat} {Fn : Option Value → Heap → Prop} {h h' : Heap} {k n : Nat} {Z : State} {a0 : Array Value} {os : List (Addr × (Cell → Prop))} {a : Addr}
theorem Owns.nil (q : n0 ≤ h.size) : Owns n0 h [] := ⟨q, List.nodup_nil, fun _ z => nomatch z⟩
theorem Owns.at (O : Owns n0 h os) {i : Nat} {P : Cell → Prop} (hi : os[i]? = some (a, P)) : n0 ≤ a ∧ ∃ cell, h[a]? = some cell ∧ P cell := O.2.2 (a, P) (List.mem_of_getElem? hi)
theorem Owns.lt (O : Owns n0 h os) {o : Addr × (Cell → Prop)} (ho : o ∈ os) : o.1 < h.size := by obtain ⟨-, cell, q, -⟩ := O.2.2 o ho; exact (Array.getElem?_eq_some_iff.mp q).1
theorem Owns.push {P : Cell → Prop} (O : Owns n0 h os) (E : Ext h h') (q : ∃ cell, h'[h.size]? = some cell ∧ P cell) : Owns n0 h' ((h.size, P) :: os) := by
  refine ⟨Nat.le_trans O.1 E.1, ?_, ?_⟩
  · rw [List.map_cons, List.nodup_cons]
    refine ⟨fun z => ?_, O.2.1⟩
    obtain ⟨o, ho, e1⟩ := List.mem_map.mp z
    exact absurd (O.lt ho) (by rw [e1]; exact Nat.lt_irrefl _)
  · intro o ho
    rcases List.mem_cons.mp ho with rfl | ho
    · exact ⟨O.1, q⟩
    · obtain ⟨q1, cell, q2, q3⟩ := O.2.2 o ho
      exact ⟨q1, cell, E.2 _ _ q2, q3⟩
theorem nodup_at {os : List (Addr × (Cell → Prop))} (hN : (os.map Prod.fst).Nodup) {i j : Nat} {P Q : Cell → Prop} (hi : os[i]? = some (a, P)) (hj : os[j]? = some (a, Q)) : i = j := by
  have h1 : (os.map Prod.fst)[i]? = some a := by rw [List.getElem?_map, hi]; rfl
  have h2 : (os.map Prod.fst)[j]? = some a := by rw [List.getElem?_map, hj]; rfl
  obtain ⟨l1, e1⟩ := List.getElem?_eq_some_iff.mp h1
  obtain ⟨l2, e2⟩ := List.getElem?_eq_some_iff.mp h2
  exact (List.getElem_inj hN).mp (e1.trans e2.symm)
/-- the cell at one owned place is another one now; all others stay -/
theorem Owns.upd {P P' : Cell → Prop} (O : Owns n0 h os) {i : Nat} (hi : os[i]? = some (a, P)) (hs : h.size ≤ h'.size) (ho : ∀ x cell, h[x]? = some cell → x ≠ a → h'[x]? = some cell) (ha : ∃ cell, h'[a]? = some cell ∧ P' cell) : Owns n0 h' (os.set i (a, P')) := by
  have hlt : i < os.length := (List.getElem?_eq_some_iff.mp hi).1
  refine ⟨Nat.le_trans O.1 hs, ?_, ?_⟩
  · have e1 : (os.set i (a, P')).map Prod.fst = os.map Prod.fst := by
      rw [List.map_set]
      refine List.ext_getElem? fun j => ?_
      rw [List.getElem?_set]
      split
      · next q => subst q; rw [List.getElem?_map, hi]; simp [hlt]
      · rfl
    rw [e1]; exact O.2.1
  · intro o hm
    obtain ⟨j, hj⟩ := List.getElem?_of_mem hm
    rw [List.getElem?_set] at hj
    split at hj
    · simp only [hlt, if_true, Option.some.injEq] at hj
      subst hj
      exact ⟨(O.at hi).1, ha⟩
    · next q =>
      obtain ⟨oa, oP⟩ := o
      obtain ⟨q1, cell, q2, q3⟩ := O.at hj
      refine ⟨q1, cell, ho _ _ q2 fun z => ?_, q3⟩
      subst z
      exact q (nodup_at O.2.1 hi hj)
theorem wr_get {sl : Nat} {v : Value} (W : Wr h h' a sl v) : h.size ≤ h'.size ∧ (∀ x cell, h[x]? = some cell → x ≠ a → h'[x]? = some cell) ∧ ∀ cell, h[a]? = some cell → h'[a]? = some (cell.setSlot sl v) := by
  obtain ⟨cell, h1, h2, h3, rfl⟩ := W
  refine ⟨by simp, fun x cx hx hne => ?_, fun c' hc' => ?_⟩
  · rw [Array.getElem?_setIfInBounds_ne (Ne.symm hne)]; exact hx
  · cases h1.symm.trans hc'
    have := (Array.getElem?_eq_some_iff.mp h1).1
    simp [this]
theorem Owns.wr {P P' : Cell → Prop} {sl : Nat} {v : Value} (O : Owns n0 h os) {i : Nat} (hi : os[i]? = some (a, P)) (W : Wr h h' a sl v) (q : ∀ cell, P cell → P' (cell.setSlot sl v)) : Owns n0 h' (os.set i (a, P')) := by
  obtain ⟨w1, w2, w3⟩ := wr_get W
  obtain ⟨-, cell, q1, q2⟩ := O.at hi
  exact O.upd hi w1 w2 ⟨_, w3 _ q1, q _ q2⟩
/-- the i-th object is brought to the front -/
theorem Owns.pick (O : Owns n0 h os) (i : Nat) {o : Addr × (Cell → Prop)} (hi : os[i]? = some o) : Owns n0 h (o :: os.eraseIdx i) := by
  have hlt : i < os.length := (List.getElem?_eq_some_iff.mp hi).1
  have hp : os.Perm (o :: os.eraseIdx i) := by
    have h2 : os[i] = o := (List.getElem?_eq_some_iff.mp hi).2
    have h3 : os = os.take i ++ o :: os.drop (i + 1) := by rw [← h2, List.getElem_cons_drop, List.take_append_drop]
    rw [List.eraseIdx_eq_take_drop_succ]
    conv => lhs; rw [h3]
    exact List.perm_middle
  exact ⟨O.1, (hp.map Prod.fst).nodup_iff.mp O.2.1, fun z hz => O.2.2 z (hp.mem_iff.mpr hz)⟩
theorem Owns.cast {os' : List (Addr × (Cell → Prop))} (O : Owns n0 h os) (q : os = os') : Owns n0 h os' := q ▸ O
theorem Owns.tail {o : Addr × (Cell → Prop)} (O : Owns n0 h (o :: os)) : Owns n0 h os := ⟨O.1, by have h1 := O.2.1; rw [List.map_cons, List.nodup_cons] at h1; exact h1.2, fun z hz => O.2.2 z (List.mem_cons_of_mem _ hz)⟩
theorem fld_of {C nm d : String} {v : Value} {cell : Cell} (q : h[a]? = some cell) (F : FldC Z C nm d v cell) : Fld Z h a C nm d v := by obtain ⟨cf, kk, i, f, r⟩ := F; exact ⟨cell, cf, kk, i, f, q, r⟩
theorem exa_of {C : String} {cell : Cell} (q : h[a]? = some cell) (F : ExaC Z C cell) : Exa Z h a C := by obtain ⟨kk, r⟩ := F; exact ⟨cell, kk, q, r⟩
theorem fldC_of {C nm d : String} {v : Value} {cell : Cell} (q : h[a]? = some cell) (F : Fld Z h a C nm d v) : FldC Z C nm d v cell := by obtain ⟨c', cf, kk, i, f, q', r⟩ := F; cases q.symm.trans q'; exact ⟨cf, kk, i, f, r⟩
theorem exaC_of {C : String} {cell : Cell} (q : h[a]? = some cell) (F : Exa Z h a C) : ExaC Z C cell := by obtain ⟨c', kk, q', r⟩ := F; cases q.symm.trans q'; exact ⟨kk, r⟩
theorem Owns.fld {C : String} {fs : List ((String × String × String) × Value)} (O : Owns n0 h os) {i j : Nat} (hi : os[i]? = some (a, ObjC Z C fs)) {C' nm d : String} {v : Value} (hj : fs[j]? = some ((C', nm, d), v)) : Fld Z h a C' nm d v := by
  obtain ⟨-, cell, q1, q2⟩ := O.at hi
  exact fld_of q1 (q2.2.1 _ (List.mem_of_getElem? hj))
theorem Owns.exa {C : String} {fs : List ((String × String × String) × Value)} (O : Owns n0 h os) {i : Nat} (hi : os[i]? = some (a, ObjC Z C fs)) : Exa Z h a C := by
  obtain ⟨-, cell, q1, q2⟩ := O.at hi
  exact exa_of q1 q2.1
theorem getfield (hx : p.tables.exec = Jvm.exec) (hZ : Z.Warmed39 s.vm) {own : String} (hown : s.vm.findClass own = some m.cls) (O : Owns n0 h os) (i j : Nat) {C C' nm d : String} {fs : List ((String × String × String) × Value)} (hi : os[i]? = some (a, ObjC Z C fs)) {v : Value} (hj : fs[j]? = some ((C', nm, d), v))
    {pc pc' idx : Nat} {Ls : Array Slot} {rest : List Value} (w : (Jvm.Cond.fieldLink own idx C' nm d).before a0 Z = true) (hd : decode c.code pc = .ok (.getfield idx, 3)) (hp : pc + 3 = pc') (K : Goes p l e R s m args below meth c n0 mc ms Fn h k n (mkF m pc' Ls (v :: rest))) : Goes p l e R s m args below meth c n0 mc ms Fn h k n (mkF m pc Ls (.ref a :: rest)) := by
  subst hp
  refine Goes.move (Pr := fun h' => h' = h) (k' := k) (n' := n) (g' := mkF m (pc + 3) Ls (v :: rest)) (fun T locs X N eT => ?_) (fun h' q => by rw [q]; exact K)
  obtain ⟨T', X', e', st⟩ := getF X hx hZ hown (host := "") (Or.inl w) Via.refl eT (O.fld hi hj) (g := mkF m pc Ls (.ref a :: rest)) rfl rfl hd
  exact ⟨T', locs, X', N, e', st⟩
theorem obj_set {C : String} {fs : List ((String × String × String) × Value)} {j : Nat} {C' nm d : String} {old v : Value} (hj : fs[j]? = some ((C', nm, d), old)) {cell : Cell} (q : ObjC Z C fs cell) : ObjC Z C (fs.set j ((C', nm, d), v)) (cell.setSlot (Jvm.RoadKit.slotOf Z C' nm d) v) := by
  obtain ⟨q1, q2, q3⟩ := q
  have hq : (#[cell] : Heap)[0]? = some cell := rfl
  have F0 := q2 _ (List.mem_of_getElem? hj)
  have hst : cell.vm.isStatics = false := by obtain ⟨_, _, _, _, _, _, _, r, _⟩ := F0; exact r
  have hsl : Jvm.RoadKit.slotOf Z C' nm d < cell.slots.size := by
    obtain ⟨cf, kk, i, f, r1, -, -, -, -, r2⟩ := F0
    have e1 : Jvm.RoadKit.slotOf Z C' nm d = f.slot := by simp [Jvm.RoadKit.slotOf, r1]
    rw [e1]; exact (Array.getElem?_eq_some_iff.mp r2).1
  have W : Wr #[cell] #[cell.setSlot (Jvm.RoadKit.slotOf Z C' nm d) v] 0 (Jvm.RoadKit.slotOf Z C' nm d) v := ⟨cell, hq, hst, hsl, by simp⟩
  have hq' : (#[cell.setSlot (Jvm.RoadKit.slotOf Z C' nm d) v] : Heap)[0]? = some (cell.setSlot (Jvm.RoadKit.slotOf Z C' nm d) v) := rfl
  have hlt : j < fs.length := (List.getElem?_eq_some_iff.mp hj).1
  have hslots : (fs.set j ((C', nm, d), v)).map (fun f => Jvm.RoadKit.slotOf Z f.1.1 f.1.2.1 f.1.2.2) = fs.map (fun f => Jvm.RoadKit.slotOf Z f.1.1 f.1.2.1 f.1.2.2) := by
    rw [List.map_set]
    refine List.ext_getElem? fun i => ?_
    rw [List.getElem?_set]
    split
    · next z => subst z; rw [List.getElem?_map, hj]; simp [hlt]
    · rfl
  refine ⟨exaC_of hq' ((exa_of hq q1).wr W), fun f hf => ?_, by rw [hslots]; exact q3⟩
  obtain ⟨i, hi⟩ := List.getElem?_of_mem hf
  rw [List.getElem?_set] at hi
  split at hi
  · simp only [hlt, if_true, Option.some.injEq] at hi
    subst hi
    exact fldC_of hq' ((fld_of hq F0).same W)
  · next z =>
    refine fldC_of hq' ((fld_of hq (q2 f (List.mem_of_getElem? hi))).other W (Or.inr fun y => z ?_))
    have h1 : (fs.map (fun f => Jvm.RoadKit.slotOf Z f.1.1 f.1.2.1 f.1.2.2))[i]? = some (Jvm.RoadKit.slotOf Z f.1.1 f.1.2.1 f.1.2.2) := by rw [List.getElem?_map, hi]; rfl
    have h2 : (fs.map (fun f => Jvm.RoadKit.slotOf Z f.1.1 f.1.2.1 f.1.2.2))[j]? = some (Jvm.RoadKit.slotOf Z C' nm d) := by rw [List.getElem?_map, hj]; rfl
    obtain ⟨l1, e1⟩ := List.getElem?_eq_some_iff.mp h1
    obtain ⟨l2, e2⟩ := List.getElem?_eq_some_iff.mp h2
    exact ((List.getElem_inj q3).mp (e1.trans (y.trans e2.symm))).symm
theorem putfield (hx : p.tables.exec = Jvm.exec) (hZ : Z.Warmed39 s.vm) {own : String} (hown : s.vm.findClass own = some m.cls) (O : Owns n0 h os) (i j : Nat) {C C' nm d : String} {fs : List ((String × String × String) × Value)} (hi : os[i]? = some (a, ObjC Z C fs)) {old v : Value} (hj : fs[j]? = some ((C', nm, d), old))
    {pc pc' idx kk : Nat} {Ls : Array Slot} {rest : List Value} (w : (Jvm.Cond.fieldLink own idx C' nm d).before a0 Z = true) (L : (Jvm.Cond.lays C C' nm d).before a0 Z = true ∨ ((Jvm.Cond.laysFinal C C' nm d).before a0 Z = true ∧ own = C' ∧ meth.name = "<init>")) (wi : (Jvm.Cond.instantiable C kk).before a0 Z = true)
    {ty : FieldType} (hty : parseFieldDescriptor d = some ty) (hnr : narrow ty v = v) (hf : fits ty v = true) (os' : List (Addr × (Cell → Prop))) (hos : os.set i (a, ObjC Z C (fs.set j ((C', nm, d), v))) = os')
    (hd : decode c.code pc = .ok (.putfield idx, 3)) (hp : pc + 3 = pc') (K : ∀ h', Owns n0 h' os' → Goes p l e R s m args below meth c n0 mc ms Fn h' k n (mkF m pc' Ls rest)) : Goes p l e R s m args below meth c n0 mc ms Fn h k n (mkF m pc Ls (v :: .ref a :: rest)) := by
  subst hp hos
  refine Goes.move (Pr := fun h' => Owns n0 h' (os.set i (a, ObjC Z C (fs.set j ((C', nm, d), v))))) (fun T locs X N eT => ?_) K
  obtain ⟨T', h', X', e', W, st⟩ := putF X hx hZ hown (host := "") (Or.inl w) Via.refl eT (O.fld hi hj) (O.exa hi) L wi hty hnr hf (g := mkF m pc Ls (v :: .ref a :: rest)) rfl rfl hd
  exact ⟨T', _, X', Fr.snoc X' N (O.at hi).1, by rw [e']; exact O.wr hi W fun cell q => obj_set hj q, st⟩
theorem nodup_slots {C : String} : ∀ {fs : List ((String × String × String) × Value)}, (∀ f ∈ fs, Laid Z a0 C f.1.1 f.1.2.1 f.1.2.2 ∧ ∃ ty, parseFieldDescriptor f.1.2.2 = some ty ∧ defaultValue ty = f.2) → (fs.map fun f => f.1.2.1).Nodup → (fs.map fun f => Jvm.RoadKit.slotOf Z f.1.1 f.1.2.1 f.1.2.2).Nodup
  | [], _, _ => List.nodup_nil
  | f :: fs, hL, hN => by
    rw [List.map_cons, List.nodup_cons] at hN ⊢
    refine ⟨fun z => ?_, nodup_slots (fun g hg => hL g (List.mem_cons_of_mem _ hg)) hN.2⟩
    obtain ⟨g, hg, e1⟩ := List.mem_map.mp z
    obtain ⟨L1, d1⟩ := hL f List.mem_cons_self
    obtain ⟨L2, d2⟩ := hL g (List.mem_cons_of_mem _ hg)
    obtain ⟨t1, t1', -⟩ := d1
    obtain ⟨t2, t2', -⟩ := d2
    exact slot_ne L1 L2 (fun q => hN.1 (List.mem_map.mpr ⟨g, hg, q.symm⟩)) t1' t2' e1.symm
theorem newobj (hx : p.tables.exec = Jvm.exec) (hZ : Z.Warmed39 s.vm) {own : String} (hown : s.vm.findClass own = some m.cls) (O : Owns n0 h os) {C : String} {idx kk : Nat} (w1 : (Jvm.Cond.classLink own idx C).before a0 Z = true) (w2 : (Jvm.Cond.instantiable C kk).before a0 Z = true) (w3 : (Jvm.Cond.initialized C).before a0 Z = true)
    (fs : List ((String × String × String) × Value)) (hL : ∀ f ∈ fs, Laid Z a0 C f.1.1 f.1.2.1 f.1.2.2 ∧ ∃ ty, parseFieldDescriptor f.1.2.2 = some ty ∧ defaultValue ty = f.2) (hN : (fs.map fun f => f.1.2.1).Nodup) {k' n' : Nat} (hk' : k + 1 = k') (hn' : n + kk = n') (hc : k' ≤ R.cells) (hl : n' ≤ R.slots)
    {pc pc' : Nat} {Ls : Array Slot} {rest : List Value} (hd : decode c.code pc = .ok (.new idx, 3)) (hp : pc + 3 = pc') (K : ∀ a h', Owns n0 h' ((a, ObjC Z C fs) :: os) → Goes p l e R s m args below meth c n0 mc ms Fn h' k' n' (mkF m pc' Ls (.ref a :: rest))) : Goes p l e R s m args below meth c n0 mc ms Fn h k n (mkF m pc Ls rest) := by
  subst hp hk' hn'
  refine Goes.move (Pr := fun h' => Owns n0 h' ((h.size, ObjC Z C fs) :: os)) (fun T locs X N eT => ?_) (fun h' q => K _ _ q)
  obtain ⟨T', h', X', e', E, A, D, ⟨cell, q1, -, -⟩, st⟩ := newO X hx hZ hown w1 w2 w3 eT (g := mkF m pc Ls rest) rfl hd hc hl
  refine ⟨T', locs, X', N, ?_, st⟩
  rw [e']
  refine O.push E ⟨cell, q1, exaC_of q1 A, fun f hf => ?_, nodup_slots hL hN⟩
  obtain ⟨L1, d1⟩ := hL f hf
  obtain ⟨t1, t1', t1''⟩ := d1
  have := D L1 t1'
  rw [t1''] at this
  exact fldC_of q1 this
theorem idx_ok {j : Int32} {i len : Nat} (hj : j.toInt = (i : Int)) (hi : i < len) : ¬ (j < 0 ∨ len ≤ j.toNatClampNeg) ∧ j.toNatClampNeg = i := by
  have h0 : ¬ j < 0 := fun q => by have := Int32.lt_iff_toInt_lt.mp q; rw [hj] at this; have h1 : (0 : Int32).toInt = 0 := by decide
                                   omega
  have h1 : j.toNatClampNeg = i := by have := nat_of h0; omega
  exact ⟨fun q => by rcases q with q | q
                     · exact h0 q
                     · omega, h1⟩
theorem newarr (hx : p.tables.exec = Jvm.exec) (hZ : Z.Warmed39 s.vm) (O : Owns n0 h os) {aty : ArrayType} (w : (Jvm.Cond.arrayClass (newarray.typeOf aty)).before a0 Z = true) {z : Int32} (len : Nat) (hz : z.toInt = (len : Int)) (vs : List Value) (hvs : List.replicate len (defaultValue (newarray.typeOf aty)) = vs) (hfit : fits (newarray.typeOf aty) (defaultValue (newarray.typeOf aty)) = true) {cap : Nat} (hcap : len ≤ cap) (hbg : cap * 8 ≤ 536870912) {k' n' : Nat} (hk' : k + 1 = k') (hn' : n + cap = n') (hc : k' ≤ R.cells) (hl : n' ≤ R.slots)
    {pc pc' : Nat} {Ls : Array Slot} {rest : List Value} (hd : decode c.code pc = .ok (.newarray aty, 2)) (hp : pc + 2 = pc') (K : ∀ a h', Owns n0 h' ((a, ArrC Z (newarray.typeOf aty) vs) :: os) → Goes p l e R s m args below meth c n0 mc ms Fn h' k' n' (mkF m pc' Ls (.ref a :: rest))) : Goes p l e R s m args below meth c n0 mc ms Fn h k n (mkF m pc Ls (.int z :: rest)) := by
  subst hp hk' hn' hvs
  have hz0 : ¬ z < 0 := fun q => by have := Int32.lt_iff_toInt_lt.mp q; rw [hz] at this; have h1 : (0 : Int32).toInt = 0 := by decide
                                    omega
  have hz1 : z.toNatClampNeg = len := by have := nat_of hz0; omega
  refine Goes.move (Pr := fun h' => Owns n0 h' ((h.size, ArrC Z (newarray.typeOf aty) (List.replicate len (defaultValue (newarray.typeOf aty)))) :: os)) (fun T locs X N eT => ?_) (fun h' q => K _ _ q)
  obtain ⟨T', h', cA, X', e', E, A, st⟩ := newP X hx hZ w eT (g := mkF m pc Ls (.int z :: rest)) rfl hd rfl hz0 (cap := cap) (by omega) hbg hc hl
  refine ⟨T', locs, X', N, ?_, st⟩
  rw [e']
  refine O.push E ⟨_, A.1, A.2.1, A.2.2, by simp [newA, hz1], fun v hv => ?_⟩
  rw [(List.mem_replicate.mp hv).2]; exact hfit
theorem arrlen (hx : p.tables.exec = Jvm.exec) (hZ : Z.Warmed39 s.vm) (O : Owns n0 h os) (i : Nat) {ty : FieldType} {vs : List Value} (hi : os[i]? = some (a, ArrC Z ty vs)) (z : Int32) (hz : vs.length.toInt32 = z) {pc pc' : Nat} {Ls : Array Slot} {rest : List Value} (hd : decode c.code pc = .ok (.arraylength, 1)) (hp : pc + 1 = pc')
    (K : Goes p l e R s m args below meth c n0 mc ms Fn h k n (mkF m pc' Ls (.int z :: rest))) : Goes p l e R s m args below meth c n0 mc ms Fn h k n (mkF m pc Ls (.ref a :: rest)) := fun T locs X N eT => by
  subst hp hz
  obtain ⟨-, cell, q1, q2, q3, q4, q5⟩ := O.at hi
  obtain ⟨s₂, o, hs, r⟩ := K T locs X N eT
  refine ⟨s₂, o, ?_, r⟩
  refine X.arraylength hx (by rw [eT]; exact q1) (State.isArrayOf_alike hZ.alike q2) (g := mkF m pc Ls (.ref a :: rest)) rfl rfl hd _ ?_
  have e1 : cell.slots.size = vs.length := by rw [← q4, Array.length_toList]
  rw [e1]; exact hs
theorem iaload (hx : p.tables.exec = Jvm.exec) (hZ : Z.Warmed39 s.vm) (O : Owns n0 h os) (i j : Nat) {vs : List Value} (hi : os[i]? = some (a, ArrC Z .int vs)) {jj : Int32} (hj : jj.toInt = (j : Int)) {v : Value} (hv : vs[j]? = some v) {pc pc' : Nat} {Ls : Array Slot} {rest : List Value} (hd : decode c.code pc = .ok (.iaload, 1)) (hp : pc + 1 = pc')
    (K : Goes p l e R s m args below meth c n0 mc ms Fn h k n (mkF m pc' Ls (v :: rest))) : Goes p l e R s m args below meth c n0 mc ms Fn h k n (mkF m pc Ls (.int jj :: .ref a :: rest)) := fun T locs X N eT => by
  subst hp
  obtain ⟨-, cell, q1, q2, q3, q4, q5⟩ := O.at hi
  have e1 : cell.slots.size = vs.length := by rw [← q4, Array.length_toList]
  obtain ⟨hin, hjn⟩ := idx_ok hj (len := cell.slots.size) (by rw [e1]; exact (List.getElem?_eq_some_iff.mp hv).1)
  obtain ⟨s₂, o, hs, r⟩ := K T locs X N eT
  refine ⟨s₂, o, X.iaload hx (by rw [eT]; exact q1) (State.isArrayOf_alike hZ.alike q2) q3 hin (by rw [hjn, ← Array.getElem?_toList, q4]; exact hv) (g := mkF m pc Ls (.int jj :: .ref a :: rest)) rfl rfl hd _ hs, r⟩
theorem laload (hx : p.tables.exec = Jvm.exec) (hZ : Z.Warmed39 s.vm) (O : Owns n0 h os) (i j : Nat) {vs : List Value} (hi : os[i]? = some (a, ArrC Z .long vs)) {jj : Int32} (hj : jj.toInt = (j : Int)) {v : Value} (hv : vs[j]? = some v) {pc pc' : Nat} {Ls : Array Slot} {rest : List Value} (hd : decode c.code pc = .ok (.laload, 1)) (hp : pc + 1 = pc')
    (K : Goes p l e R s m args below meth c n0 mc ms Fn h k n (mkF m pc' Ls (v :: rest))) : Goes p l e R s m args below meth c n0 mc ms Fn h k n (mkF m pc Ls (.int jj :: .ref a :: rest)) := fun T locs X N eT => by
  subst hp
  obtain ⟨-, cell, q1, q2, q3, q4, q5⟩ := O.at hi
  have e1 : cell.slots.size = vs.length := by rw [← q4, Array.length_toList]
  obtain ⟨hin, hjn⟩ := idx_ok hj (len := cell.slots.size) (by rw [e1]; exact (List.getElem?_eq_some_iff.mp hv).1)
  obtain ⟨s₂, o, hs, r⟩ := K T locs X N eT
  refine ⟨s₂, o, X.laload hx (by rw [eT]; exact q1) (State.isArrayOf_alike hZ.alike q2) q3 hin (by rw [hjn, ← Array.getElem?_toList, q4]; exact hv) (g := mkF m pc Ls (.int jj :: .ref a :: rest)) rfl rfl hd _ hs, r⟩
theorem caload (hx : p.tables.exec = Jvm.exec) (hZ : Z.Warmed39 s.vm) (O : Owns n0 h os) (i j : Nat) {vs : List Value} (hi : os[i]? = some (a, ArrC Z .char vs)) {jj : Int32} (hj : jj.toInt = (j : Int)) {v : Value} (hv : vs[j]? = some v) {pc pc' : Nat} {Ls : Array Slot} {rest : List Value} (hd : decode c.code pc = .ok (.caload, 1)) (hp : pc + 1 = pc')
    (K : Goes p l e R s m args below meth c n0 mc ms Fn h k n (mkF m pc' Ls (v :: rest))) : Goes p l e R s m args below meth c n0 mc ms Fn h k n (mkF m pc Ls (.int jj :: .ref a :: rest)) := fun T locs X N eT => by
  subst hp
  obtain ⟨-, cell, q1, q2, q3, q4, q5⟩ := O.at hi
  have e1 : cell.slots.size = vs.length := by rw [← q4, Array.length_toList]
  obtain ⟨hin, hjn⟩ := idx_ok hj (len := cell.slots.size) (by rw [e1]; exact (List.getElem?_eq_some_iff.mp hv).1)
  obtain ⟨s₂, o, hs, r⟩ := K T locs X N eT
  refine ⟨s₂, o, X.caload hx (by rw [eT]; exact q1) (State.isArrayOf_alike hZ.alike q2) q3 hin (by rw [hjn, ← Array.getElem?_toList, q4]; exact hv) (g := mkF m pc Ls (.int jj :: .ref a :: rest)) rfl rfl hd _ hs, r⟩
theorem iastore (hx : p.tables.exec = Jvm.exec) (hZ : Z.Warmed39 s.vm) (O : Owns n0 h os) (i j : Nat) {vs : List Value} (hi : os[i]? = some (a, ArrC Z .int vs)) {jj : Int32} (hj : jj.toInt = (j : Int)) (hv : j < vs.length) {x : Int32} (os' : List (Addr × (Cell → Prop))) (hos : os.set i (a, ArrC Z .int (vs.set j (.int x))) = os') {pc pc' : Nat} {Ls : Array Slot} {rest : List Value} (hd : decode c.code pc = .ok (.iastore, 1)) (hp : pc + 1 = pc')
    (K : ∀ h', Owns n0 h' os' → Goes p l e R s m args below meth c n0 mc ms Fn h' k n (mkF m pc' Ls rest)) : Goes p l e R s m args below meth c n0 mc ms Fn h k n (mkF m pc Ls (.int x :: .int jj :: .ref a :: rest)) := by
  subst hp hos
  refine Goes.move (Pr := fun h' => Owns n0 h' (os.set i (a, ArrC Z .int (vs.set j (.int x))))) (fun T locs X N eT => ?_) K
  obtain ⟨q0, cell, q1, q2, q3, q4, q5⟩ := O.at hi
  have e1 : cell.slots.size = vs.length := by rw [← q4, Array.length_toList]
  obtain ⟨hin, hjn⟩ := idx_ok hj (len := cell.slots.size) (by rw [e1]; exact hv)
  obtain ⟨T', h', X', e', W, st'⟩ := stI X hx hZ eT ⟨q1, q2, q3⟩ hin (g := mkF m pc Ls (.int x :: .int jj :: .ref a :: rest)) rfl rfl hd
  refine ⟨T', _, X', Fr.snoc X' N q0, ?_, st'⟩
  rw [e']
  rw [hjn] at W
  obtain ⟨w1, w2, w3⟩ := wr_get W
  exact O.upd hi w1 w2 ⟨_, w3 _ q1, q2, q3, by simp [Cell.setSlot, Array.toList_setIfInBounds, q4], fun v hv' => by
    rcases List.mem_or_eq_of_mem_set hv' with z | z
    · exact q5 v z
    · rw [z]; exact rfl⟩
theorem lastore (hx : p.tables.exec = Jvm.exec) (hZ : Z.Warmed39 s.vm) (O : Owns n0 h os) (i j : Nat) {vs : List Value} (hi : os[i]? = some (a, ArrC Z .long vs)) {jj : Int32} (hj : jj.toInt = (j : Int)) (hv : j < vs.length) {x : Int64} (os' : List (Addr × (Cell → Prop))) (hos : os.set i (a, ArrC Z .long (vs.set j (.long x))) = os') {pc pc' : Nat} {Ls : Array Slot} {rest : List Value} (hd : decode c.code pc = .ok (.lastore, 1)) (hp : pc + 1 = pc')
    (K : ∀ h', Owns n0 h' os' → Goes p l e R s m args below meth c n0 mc ms Fn h' k n (mkF m pc' Ls rest)) : Goes p l e R s m args below meth c n0 mc ms Fn h k n (mkF m pc Ls (.long x :: .int jj :: .ref a :: rest)) := by
  subst hp hos
  refine Goes.move (Pr := fun h' => Owns n0 h' (os.set i (a, ArrC Z .long (vs.set j (.long x))))) (fun T locs X N eT => ?_) K
  obtain ⟨q0, cell, q1, q2, q3, q4, q5⟩ := O.at hi
  have e1 : cell.slots.size = vs.length := by rw [← q4, Array.length_toList]
  obtain ⟨hin, hjn⟩ := idx_ok hj (len := cell.slots.size) (by rw [e1]; exact hv)
  obtain ⟨T', h', X', e', W, st'⟩ := stJ X hx hZ eT ⟨q1, q2, q3⟩ hin (g := mkF m pc Ls (.long x :: .int jj :: .ref a :: rest)) rfl rfl hd
  refine ⟨T', _, X', Fr.snoc X' N q0, ?_, st'⟩
  rw [e']
  rw [hjn] at W
  obtain ⟨w1, w2, w3⟩ := wr_get W
  exact O.upd hi w1 w2 ⟨_, w3 _ q1, q2, q3, by simp [Cell.setSlot, Array.toList_setIfInBounds, q4], fun v hv' => by
    rcases List.mem_or_eq_of_mem_set hv' with z | z
    · exact q5 v z
    · rw [z]; exact rfl⟩
theorem castore (hx : p.tables.exec = Jvm.exec) (hZ : Z.Warmed39 s.vm) (O : Owns n0 h os) (i j : Nat) {vs : List Value} (hi : os[i]? = some (a, ArrC Z .char vs)) {jj : Int32} (hj : jj.toInt = (j : Int)) (hv : j < vs.length) {x : Int32} (os' : List (Addr × (Cell → Prop))) (hos : os.set i (a, ArrC Z .char (vs.set j (.int (nar .char x)))) = os') {pc pc' : Nat} {Ls : Array Slot} {rest : List Value} (hd : decode c.code pc = .ok (.castore, 1)) (hp : pc + 1 = pc')
    (K : ∀ h', Owns n0 h' os' → Goes p l e R s m args below meth c n0 mc ms Fn h' k n (mkF m pc' Ls rest)) : Goes p l e R s m args below meth c n0 mc ms Fn h k n (mkF m pc Ls (.int x :: .int jj :: .ref a :: rest)) := by
  subst hp hos
  refine Goes.move (Pr := fun h' => Owns n0 h' (os.set i (a, ArrC Z .char (vs.set j (.int (nar .char x)))))) (fun T locs X N eT => ?_) K
  obtain ⟨q0, cell, q1, q2, q3, q4, q5⟩ := O.at hi
  have e1 : cell.slots.size = vs.length := by rw [← q4, Array.length_toList]
  obtain ⟨hin, hjn⟩ := idx_ok hj (len := cell.slots.size) (by rw [e1]; exact hv)
  obtain ⟨T', h', X', e', W, st'⟩ := stC X hx hZ eT ⟨q1, q2, q3⟩ hin (g := mkF m pc Ls (.int x :: .int jj :: .ref a :: rest)) rfl rfl hd
  refine ⟨T', _, X', Fr.snoc X' N q0, ?_, st'⟩
  rw [e']
  rw [hjn] at W
  obtain ⟨w1, w2, w3⟩ := wr_get W
  exact O.upd hi w1 w2 ⟨_, w3 _ q1, q2, q3, by simp [Cell.setSlot, Array.toList_setIfInBounds, q4], fun v hv' => by
    rcases List.mem_or_eq_of_mem_set hv' with z | z
    · exact q5 v z
    · rw [z]; exact fits_nar_char x⟩
theorem initobj (hx : p.tables.exec = Jvm.exec) (hZ : Z.Warmed39 s.vm) {own : String} (hown : s.vm.findClass own = some m.cls) {idx : Nat} (w1 : (Jvm.Cond.methodLink own idx Lib.objectInit).before a0 Z = true) (w2 : (Jvm.Cond.instanceMethod Lib.objectInit).before a0 Z = true) (w3 : (Jvm.Cond.code Lib.objectInit ⟨#[0xb1]⟩ 1 none).before a0 Z = true)
    {pc pc' : Nat} {Ls : Array Slot} {rest : List Value} (hml : Ls.size = c.maxLocals) {W : Nat} (hW : (rest.map fun v => v.category).sum ≤ W) (hf : 1 ≤ R.frames) (hl : W + 12 ≤ R.locals) (hd : decode c.code pc = .ok (.invokespecial idx, 3)) (hp : pc + 3 = pc') (K : Goes p l e R s m args below meth c n0 mc ms Fn h k n (mkF m pc' Ls rest)) : Goes p l e R s m args below meth c n0 mc ms Fn h k n (mkF m pc Ls (.ref a :: rest)) := by
  subst hp
  refine Goes.move (Pr := fun h' => h' = h) (k' := k) (n' := n) (g' := mkF m (pc + 3) Ls rest) (fun T locs X N eT => ?_) (fun h' q => by rw [q]; exact K)
  obtain ⟨T', X', e', st⟩ := initO X hx hZ hown w1 w2 w3 eT (g := mkF m pc Ls (.ref a :: rest)) rfl hml rfl hd hf (W := W) (by show 2 * 0 + _ ≤ _; omega) hl
  exact ⟨T', locs, X', N, e', st⟩
/-- a constructor by its contract -/
theorem callI (hx : p.tables.exec = Jvm.exec) (hZ : Z.Warmed39 s.vm) {own : String} (hown : s.vm.findClass own = some m.cls) {i : Nat} {y : MethodName} (hyn : y.name = "<init>") {bytes : ByteArray} {maxL : Nat} {rm : Room} {F : Option Value → Heap → Prop} {argsL rest : List Value}
    (w1 : (Jvm.Cond.methodLink own i y).before a0 Z = true) (w2 : (Jvm.Cond.instanceMethod y).before a0 Z = true) (w3 : (Jvm.Cond.initialized y.cls).before a0 Z = true) (w4 : (Jvm.Cond.code y bytes maxL none).before a0 Z = true) (hy : y.cls ≠ "java/lang/invoke/MethodHandle" ∧ y.cls ≠ "java/lang/invoke/VarHandle")
    {sg : ClassFile.MethodDescriptor} (hsg : parseMethodDescriptor y.desc = some sg) (hlen : argsL.length = sg.parameters.length) {pc pc' : Nat} {Ls : Array Slot} {W : Nat} (hW : (rest.map fun v => v.category).sum ≤ W) (hf : rm.frames + 1 ≤ R.frames) (hl : W + (maxL + 11) + rm.locals ≤ R.locals) (hcl : k + rm.cells ≤ R.cells) (hsl : n + rm.slots ≤ R.slots)
    {k' n' : Nat} (hk' : k + rm.cells = k') (hn' : n + rm.slots = n') (hml : Ls.size = c.maxLocals) (st : List Value) (hst : st = argsL.reverse ++ .ref a :: rest) (hd : decode c.code pc = .ok (.invokespecial i, 3)) (hp : pc + 3 = pc') (D : Does l y bytes maxL none [] rm Z (.ref a :: argsL).toArray h n0 F)
    (K : ∀ v h', F v h' → Goes p l e R s m args below meth c n0 mc ms Fn h' k' n' (mkF m pc' Ls (v.toList ++ rest))) : Goes p l e R s m args below meth c n0 mc ms Fn h k n (mkF m pc Ls st) := fun T locs X N eT => by
  subst hp hst hk' hn'
  obtain ⟨v, _, ⟨T', L', k', n'⟩, -, X', ⟨Lc, hQ, l1, y1, z1⟩, st⟩ := X.specialBack hx (y := y) hyn hown (mvT hZ w1) (mvT hZ w2) (mvT hZ w4) hy (backOf (W := W) (Q := fun v h' L => F v h' ∧ Fr n0 L) D hZ w4 w3 hf hl) (g := mkF m pc Ls (argsL.reverse ++ .ref a :: rest)) rfl hml (Steps.refl _) (a := a) (argsL := argsL) (rest := rest) (lenOf hsg hlen) rfl (by show 2 * 0 + _ ≤ _; omega) hd (fun _ _ => ⟨rfl, eT, hcl, hsl⟩)
  dsimp only [Pt.U, Pt.locs, Pt.cells, Pt.slots] at X' l1 y1 z1 st hQ
  subst l1 y1 z1
  obtain ⟨s₂, o, hs, r⟩ := K v T'.heap hQ.1 T' _ X' (N.app hQ.2) rfl
  exact ⟨s₂, o, st.trans hs, r⟩
/-- an instance method by its contract: the receiver is just of the class C -/
theorem callV (hx : p.tables.exec = Jvm.exec) (hZ : Z.Warmed39 s.vm) {own C : String} (hown : s.vm.findClass own = some m.cls) {i : Nat} {y : MethodName} {bytes : ByteArray} {maxL : Nat} {ret : Option FieldType} {rm : Room} {F : Option Value → Heap → Prop} {argsL rest : List Value} (E : Exa Z h a C)
    (w1 : (Jvm.Cond.methodLink own i y).before a0 Z = true) (w2 : (Jvm.Cond.declares y).before a0 Z = true) (w5 : (Jvm.Cond.selects C y y).before a0 Z = true) (w6 : (Jvm.Cond.instanceMethod y).before a0 Z = true) (w3 : (Jvm.Cond.initialized y.cls).before a0 Z = true) (w4 : (Jvm.Cond.code y bytes maxL ret).before a0 Z = true) (hy : y.cls ≠ "java/lang/invoke/MethodHandle" ∧ y.cls ≠ "java/lang/invoke/VarHandle")
    {sg : ClassFile.MethodDescriptor} (hsg : parseMethodDescriptor y.desc = some sg) (hlen : argsL.length = sg.parameters.length) {pc pc' : Nat} {Ls : Array Slot} {W : Nat} (hW : (rest.map fun v => v.category).sum ≤ W) (hf : rm.frames + 1 ≤ R.frames) (hl : W + (maxL + 11) + rm.locals ≤ R.locals) (hcl : k + rm.cells ≤ R.cells) (hsl : n + rm.slots ≤ R.slots)
    {k' n' : Nat} (hk' : k + rm.cells = k') (hn' : n + rm.slots = n') (hml : Ls.size = c.maxLocals) (st : List Value) (hst : st = argsL.reverse ++ .ref a :: rest) (hd : decode c.code pc = .ok (.invokevirtual i, 3)) (hp : pc + 3 = pc') (D : Does l y bytes maxL ret [] rm Z (.ref a :: argsL).toArray h n0 F)
    (K : ∀ v h', F v h' → Goes p l e R s m args below meth c n0 mc ms Fn h' k' n' (mkF m pc' Ls (v.toList ++ rest))) : Goes p l e R s m args below meth c n0 mc ms Fn h k n (mkF m pc Ls st) := fun T locs X N eT => by
  subst hp hst hk' hn'
  obtain ⟨cq, kq, qa, qb, qc⟩ := isOf hZ eT E
  obtain ⟨v, _, ⟨T', L', k', n'⟩, -, X', ⟨Lc, hQ, l1, y1, z1⟩, st⟩ := X.virtualBack hx (y := y) (z := y) hown (mvT hZ w1) (mvT hZ w2) (notFace_of_selects (args := #[]) (mvT hZ w5)) (mvT hZ w5) (mvT hZ w6) hy (backOf (W := W) (Q := fun v h' L => F v h' ∧ Fr n0 L) D hZ w4 w3 hf hl) qa qc (g := mkF m pc Ls (argsL.reverse ++ .ref a :: rest)) rfl hml (Steps.refl _) (argsL := argsL) (rest := rest) (lenOf hsg hlen) rfl (by show 2 * 0 + _ ≤ _; omega) hd (fun _ _ => ⟨rfl, eT, hcl, hsl⟩)
  dsimp only [Pt.U, Pt.locs, Pt.cells, Pt.slots] at X' l1 y1 z1 st hQ
  subst l1 y1 z1
  obtain ⟨s₂, o, hs, r⟩ := K v T'.heap hQ.1 T' _ X' (N.app hQ.2) rfl
  exact ⟨s₂, o, st.trans hs, r⟩
/-- a private method (by invokevirtual) by its contract -/
theorem callP (hx : p.tables.exec = Jvm.exec) (hZ : Z.Warmed39 s.vm) {own C : String} (hown : s.vm.findClass own = some m.cls) {i : Nat} {y : MethodName} {bytes : ByteArray} {maxL : Nat} {ret : Option FieldType} {rm : Room} {F : Option Value → Heap → Prop} {argsL rest : List Value} (E : Exa Z h a C)
    (w1 : (Jvm.Cond.methodLink own i y).before a0 Z = true) (w2 : (Jvm.Cond.instanceMethod y).before a0 Z = true) {ki : Nat} (wi : (Jvm.Cond.instantiable y.cls ki).before a0 Z = true) (w6 : (Jvm.Cond.privateMethod y).before a0 Z = true) (w3 : (Jvm.Cond.initialized y.cls).before a0 Z = true) (w4 : (Jvm.Cond.code y bytes maxL ret).before a0 Z = true) (hy : y.cls ≠ "java/lang/invoke/MethodHandle" ∧ y.cls ≠ "java/lang/invoke/VarHandle")
    {sg : ClassFile.MethodDescriptor} (hsg : parseMethodDescriptor y.desc = some sg) (hlen : argsL.length = sg.parameters.length) {pc pc' : Nat} {Ls : Array Slot} {W : Nat} (hW : (rest.map fun v => v.category).sum ≤ W) (hf : rm.frames + 1 ≤ R.frames) (hl : W + (maxL + 11) + rm.locals ≤ R.locals) (hcl : k + rm.cells ≤ R.cells) (hsl : n + rm.slots ≤ R.slots)
    {k' n' : Nat} (hk' : k + rm.cells = k') (hn' : n + rm.slots = n') (hml : Ls.size = c.maxLocals) (st : List Value) (hst : st = argsL.reverse ++ .ref a :: rest) (hd : decode c.code pc = .ok (.invokevirtual i, 3)) (hp : pc + 3 = pc') (D : Does l y bytes maxL ret [] rm Z (.ref a :: argsL).toArray h n0 F)
    (K : ∀ v h', F v h' → Goes p l e R s m args below meth c n0 mc ms Fn h' k' n' (mkF m pc' Ls (v.toList ++ rest))) : Goes p l e R s m args below meth c n0 mc ms Fn h k n (mkF m pc Ls st) := fun T locs X N eT => by
  subst hp hst hk' hn'
  obtain ⟨cq, qa, qb⟩ := E.cell
  have hpriv : s.PrivateAt y := Cond.privateMethod_at (mvP hZ w6 (args := #[]))
  obtain ⟨_, _, i1, i2, -, i3, -, -⟩ := Cond.instantiable_spec (mvT hZ wi : (Jvm.Cond.instantiable y.cls ki).before args s = true)
  have hsel : (Jvm.Cond.selects y.cls y y).before args s = true := selects_self_of_private i1 i2 (Bool.or_eq_false_iff.mp i3).1 hpriv (mvT hZ w2) hy
  obtain ⟨v, _, ⟨T', L', k', n'⟩, -, X', ⟨Lc, hQ, l1, y1, z1⟩, st⟩ := X.privateBack hx (y := y) hown (mvT hZ w1) (mvT hZ w2) hsel hpriv (mvT hZ w4) hy (backOf (W := W) (Q := fun v h' L => F v h' ∧ Fr n0 L) D hZ w4 w3 hf hl) (g := mkF m pc Ls (argsL.reverse ++ .ref a :: rest)) rfl hml (Steps.refl _) (a := a) (by rw [eT]; exact qa) qb (argsL := argsL) (rest := rest) (lenOf hsg hlen) rfl (by show 2 * 0 + _ ≤ _; omega) hd (fun _ _ => ⟨rfl, eT, hcl, hsl⟩)
  dsimp only [Pt.U, Pt.locs, Pt.cells, Pt.slots] at X' l1 y1 z1 st hQ
  subst l1 y1 z1
  obtain ⟨s₂, o, hs, r⟩ := K v T'.heap hQ.1 T' _ X' (N.app hQ.2) rfl
  exact ⟨s₂, o, st.trans hs, r⟩
end EngH
end Own
theorem own_nb {x : Int32} (q : x = 0 ∨ x = 1) : nar .boolean x = x := by rcases q with rfl | rfl <;> rfl
/-! what FailureFunction.of computes, said of the list of chars -/
def eqAt (cs : List Int32) (i j : Nat) : Bool := decide (i < cs.length) && decide (j < cs.length) && (cs.getD i 0 == cs.getD j 0)
def fallE (E : Nat → Nat → Bool) (rs : List Nat) (i : Nat) : Nat → Nat → Nat
  | 0, b => b
  | f + 1, b => if b = 0 then 0 else if E i b then b else fallE E rs i f (rs.getD (b - 1) 0)
def nextE (E : Nat → Nat → Bool) (rs : List Nat) (i b : Nat) : Nat := if E i (fallE E rs i b b) then fallE E rs i b b + 1 else fallE E rs i b b
def runE (E : Nat → Nat → Bool) : Nat → Nat → List Nat → Nat → List Nat
  | 0, _, rs, _ => rs
  | t + 1, i, rs, b => runE E t (i + 1) (rs.set i (nextE E rs i b)) (nextE E rs i b)
def ofE (E : Nat → Nat → Bool) (n : Nat) : List Nat := runE E (n - 1) 1 (List.replicate n 0) 0
def ofL (cs : List Int32) : List Nat := ofE (eqAt cs) cs.length
abbrev gI (x : Nat) : Value := .int x.toInt32
theorem fall_le (E : Nat → Nat → Bool) (rs : List Nat) (i : Nat) (hr : ∀ j, j < i → rs.getD j 0 ≤ j) : ∀ f b, b ≤ i → fallE E rs i f b ≤ b
  | 0, b, _ => Nat.le_refl _
  | f + 1, b, hb' => by
    unfold fallE
    split
    · omega
    · next q =>
      split
      · exact Nat.le_refl _
      · have h1 := hr (b - 1) (by omega)
        have h2 := fall_le E rs i hr f (rs.getD (b - 1) 0) (by omega)
        omega
theorem fall_fuel (E : Nat → Nat → Bool) (rs : List Nat) (i : Nat) (hr : ∀ j, j < i → rs.getD j 0 ≤ j) : ∀ f g b, b ≤ f → b ≤ g → b ≤ i → fallE E rs i f b = fallE E rs i g b
  | 0, 0, _, _, _, _ => rfl
  | 0, g + 1, b, h1, _, _ => by obtain rfl : b = 0 := by omega
                                unfold fallE; simp
  | f + 1, 0, b, _, h2, _ => by obtain rfl : b = 0 := by omega
                                unfold fallE; simp
  | f + 1, g + 1, b, h1, h2, h3 => by
    unfold fallE
    split
    · rfl
    · next q =>
      split
      · rfl
      · have h4 := hr (b - 1) (by omega)
        exact fall_fuel E rs i hr f g _ (by omega) (by omega) (by omega)
theorem next_le (E : Nat → Nat → Bool) (rs : List Nat) (i b : Nat) (hr : ∀ j, j < i → rs.getD j 0 ≤ j) (hb' : b < i) : nextE E rs i b ≤ i := by
  have := fall_le E rs i hr b b (by omega)
  unfold nextE; split <;> omega
theorem set_inv {rs : List Nat} {i v : Nat} (hr : ∀ j, j < i → rs.getD j 0 ≤ j) (hv : v ≤ i) : ∀ j, j < i + 1 → (rs.set i v).getD j 0 ≤ j := by
  intro j hj
  rw [List.getD_eq_getElem?_getD, List.getElem?_set]
  by_cases q : i = j
  · subst q
    by_cases z : i < rs.length <;> simp [z, hv]
  · rw [if_neg q, ← List.getD_eq_getElem?_getD]
    exact hr j (by omega)
theorem run_len (E : Nat → Nat → Bool) : ∀ t i rs b, (runE E t i rs b).length = rs.length
  | 0, _, _, _ => rfl
  | t + 1, i, rs, b => by unfold runE; rw [run_len E t]; simp
theorem of_len (cs : List Int32) : (ofL cs).length = cs.length := by unfold ofL ofE; rw [run_len]; simp
/-! six chars, known by which are alike -/
def codeE (c : List Nat) (i j : Nat) : Bool := decide (i < c.length) && decide (j < c.length) && (c.getD i 0 == c.getD j 0)
def codeOf (cs : List Int32) : List Nat := cs.map fun x => cs.idxOf x
theorem code_len (cs : List Int32) : (codeOf cs).length = cs.length := by simp [codeOf]
theorem code_get (cs : List Int32) (i : Nat) (hi : i < cs.length) : (codeOf cs).getD i 0 = cs.idxOf cs[i] := by
  simp [codeOf, List.getD_eq_getElem?_getD, hi]
theorem code_le (cs : List Int32) (i : Nat) (hi : i < cs.length) : (codeOf cs).getD i 0 ≤ i := by
  rw [code_get cs i hi]
  apply Nat.le_of_not_lt
  intro h
  have := List.not_of_lt_findIdx (p := (· == cs[i])) (xs := cs) (i := i) h
  simp at this
theorem code_eq (cs : List Int32) : eqAt cs = codeE (codeOf cs) := by
  funext i j
  unfold eqAt codeE
  rw [code_len]
  by_cases hi : i < cs.length
  · by_cases hj : j < cs.length
    · have h1 : cs.getD i 0 = cs[i] := by simp [List.getD_eq_getElem?_getD, hi]
      have h2 : cs.getD j 0 = cs[j] := by simp [List.getD_eq_getElem?_getD, hj]
      rw [h1, h2, code_get cs i hi, code_get cs j hj]
      congr 1
      by_cases q : cs[i] = cs[j]
      · rw [q]; simp
      · have : ¬ cs.idxOf cs[i] = cs.idxOf cs[j] := by
          intro z
          have e1 := List.getElem_idxOf (xs := cs) (x := cs[i]) (List.idxOf_lt_length_of_mem (List.getElem_mem hi))
          have e2 := List.getElem_idxOf (xs := cs) (x := cs[j]) (List.idxOf_lt_length_of_mem (List.getElem_mem hj))
          apply q
          rw [← e1, ← e2]
          congr 1
        rw [beq_eq_false_iff_ne.mpr q, beq_eq_false_iff_ne.mpr this]
    · simp [hj]
  · simp [hi]
def brd (E : Nat → Nat → Bool) (m k : Nat) : Bool := (List.range k).all fun t => E t (m - k + t)
def bordE (E : Nat → Nat → Bool) (m : Nat) : Nat := if m ≥ 6 && brd E m 5 then 5 else if m ≥ 5 && brd E m 4 then 4 else if m ≥ 4 && brd E m 3 then 3 else if m ≥ 3 && brd E m 2 then 2 else if m ≥ 2 && brd E m 1 then 1 else 0
def okE (c : List Nat) : Bool := (List.range c.length).all fun i => (ofE (codeE c) c.length).getD i 9 == bordE (codeE c) (i + 1)
set_option maxRecDepth 100000 in
theorem ok6 : ∀ (c1 : Fin 2) (c2 : Fin 3) (c3 : Fin 4) (c4 : Fin 5) (c5 : Fin 6), okE [0, c1.val, c2.val, c3.val, c4.val, c5.val] = true := by decide +kernel
theorem own_ti {i nn : Nat} (hi : i < nn) (hn : nn < 2147483648) : i.toInt32.toInt = (i : Int) := len_toInt (by omega)
theorem own_tl {nn : Nat} (hn : nn < 2147483648) : nn.toInt32.toInt = (nn : Int) := len_toInt (by omega)
theorem own_cs_at {cs : List Int32} {i : Nat} (hi : i < cs.length) : (cs.map Value.int)[i]? = some (.int (cs.getD i 0)) := by
  rw [List.getElem?_map, List.getD_eq_getElem?_getD, List.getElem?_eq_getElem hi]; rfl
theorem own_rs_at {rs : List Nat} {i : Nat} (hi : i < rs.length) : (rs.map gI)[i]? = some (.int (rs.getD i 0).toInt32) := by
  rw [List.getElem?_map, List.getD_eq_getElem?_getD, List.getElem?_eq_getElem hi]; rfl
theorem own_succ (b : Nat) : (b + 1).toInt32 = b.toInt32 + (1 : Int32) := Int32.ofNat_add b 1
theorem own_tp {b nn : Nat} (h0 : ¬ b = 0) (hb' : b < nn) (hn : nn < 2147483648) : (b.toInt32 - (1 : Int32)).toInt = ((b - 1 : Nat) : Int) := by
  obtain ⟨a, rfl⟩ : ∃ a, b = a + 1 := ⟨b - 1, by omega⟩
  rw [own_succ, Int32.add_sub_cancel]
  exact len_toInt (by omega)
theorem own_pos {b nn : Nat} (h0 : ¬ b = 0) (hb' : b < nn) (hn : nn < 2147483648) : (0 : Int32) < b.toInt32 := by
  rw [Int32.lt_iff_toInt_lt, own_ti hb' hn, show (0 : Int32).toInt = 0 from by decide]; omega
theorem own_lt {i nn : Nat} (hi : i < nn) (hn : nn < 2147483648) : i.toInt32 < nn.toInt32 := by
  rw [Int32.lt_iff_toInt_lt, own_ti hi hn, own_tl hn]; omega
theorem own_ge {i nn : Nat} (h : nn ≤ i) (hn : i < 2147483648) : ¬ i.toInt32 < nn.toInt32 := fun q => by
  rw [Int32.lt_iff_toInt_lt, own_tl hn, own_tl (by omega)] at q; omega
theorem own_E {cs : List Int32} {i j : Nat} (hi : i < cs.length) (hj : j < cs.length) : eqAt cs i j = true ↔ cs.getD i 0 = cs.getD j 0 := by
  unfold eqAt; simp [hi, hj]
theorem fall_zero {E : Nat → Nat → Bool} {rs : List Nat} {i f : Nat} : fallE E rs i (f + 1) 0 = 0 := by unfold fallE; rw [if_pos rfl]
theorem fall_hit {E : Nat → Nat → Bool} {rs : List Nat} {i f b : Nat} (h0 : ¬ b = 0) (h : E i b = true) : fallE E rs i (f + 1) b = b := by unfold fallE; rw [if_neg h0, if_pos h]
theorem fall_miss {E : Nat → Nat → Bool} {rs : List Nat} {i f b : Nat} (h0 : ¬ b = 0) (h : ¬ E i b = true) : fallE E rs i (f + 1) b = fallE E rs i f (rs.getD (b - 1) 0) := by
  conv => lhs; unfold fallE
  rw [if_neg h0, if_neg h]
theorem next_hit {cs : List Int32} {rs : List Nat} {i b : Nat} (hi : i < cs.length) (hbl : fallE (eqAt cs) rs i b b < cs.length) (h : cs.getD i 0 = cs.getD (fallE (eqAt cs) rs i b b) 0) : nextE (eqAt cs) rs i b = fallE (eqAt cs) rs i b b + 1 := by
  unfold nextE; rw [if_pos ((own_E hi hbl).mpr h)]
theorem next_miss {cs : List Int32} {rs : List Nat} {i b : Nat} (hi : i < cs.length) (hbl : fallE (eqAt cs) rs i b b < cs.length) (h : ¬ cs.getD i 0 = cs.getD (fallE (eqAt cs) rs i b b) 0) : nextE (eqAt cs) rs i b = fallE (eqAt cs) rs i b b := by
  unfold nextE; rw [if_neg (fun z => h ((own_E hi hbl).mp z))]
theorem own_rep {nn : Nat} : ∀ j, j < 1 → (List.replicate nn 0).getD j 0 ≤ j := by
  intro j hj
  obtain rfl : j = 0 := by omega
  cases nn <;> simp
theorem own_gs (b : Nat) : gI (b + 1) = Value.int (b.toInt32 + (1 : Int32)) := congrArg Value.int (own_succ b)

theorem d2_15 : decode prog_15_method_2_code 15 = .ok (.iload_n 2, 1) := by decide +kernel
theorem d2_16 : decode prog_15_method_2_code 16 = .ok (.ifCond .le 21, 3) := by decide +kernel
theorem d2_19 : decode prog_15_method_2_code 19 = .ok (.aload_n 0, 1) := by decide +kernel
theorem d2_20 : decode prog_15_method_2_code 20 = .ok (.iload_n 3, 1) := by decide +kernel
theorem d2_21 : decode prog_15_method_2_code 21 = .ok (.caload, 1) := by decide +kernel
theorem d2_22 : decode prog_15_method_2_code 22 = .ok (.aload_n 0, 1) := by decide +kernel
theorem d2_23 : decode prog_15_method_2_code 23 = .ok (.iload_n 2, 1) := by decide +kernel
theorem d2_24 : decode prog_15_method_2_code 24 = .ok (.caload, 1) := by decide +kernel
theorem d2_25 : decode prog_15_method_2_code 25 = .ok (.if_icmp .eq 12, 3) := by decide +kernel
theorem d2_28 : decode prog_15_method_2_code 28 = .ok (.aload_n 1, 1) := by decide +kernel
theorem d2_29 : decode prog_15_method_2_code 29 = .ok (.iload_n 2, 1) := by decide +kernel
theorem d2_30 : decode prog_15_method_2_code 30 = .ok (.iconst 1, 1) := by decide +kernel
theorem d2_31 : decode prog_15_method_2_code 31 = .ok (.isub, 1) := by decide +kernel
theorem d2_32 : decode prog_15_method_2_code 32 = .ok (.iaload, 1) := by decide +kernel
theorem d2_33 : decode prog_15_method_2_code 33 = .ok (.istore_n 2, 1) := by decide +kernel
theorem d2_34 : decode prog_15_method_2_code 34 = .ok (.goto (-19), 3) := by decide +kernel
theorem d2_9 : decode prog_15_method_2_code 9 = .ok (.iload_n 3, 1) := by decide +kernel
theorem d2_10 : decode prog_15_method_2_code 10 = .ok (.aload_n 0, 1) := by decide +kernel
theorem d2_11 : decode prog_15_method_2_code 11 = .ok (.arraylength, 1) := by decide +kernel
theorem d2_12 : decode prog_15_method_2_code 12 = .ok (.if_icmp .ge 47, 3) := by decide +kernel
theorem d2_59 : decode prog_15_method_2_code 59 = .ok (.aload_n 1, 1) := by decide +kernel
theorem d2_60 : decode prog_15_method_2_code 60 = .ok (.areturn, 1) := by decide +kernel
theorem d2_37 : decode prog_15_method_2_code 37 = .ok (.aload_n 0, 1) := by decide +kernel
theorem d2_38 : decode prog_15_method_2_code 38 = .ok (.iload_n 3, 1) := by decide +kernel
theorem d2_39 : decode prog_15_method_2_code 39 = .ok (.caload, 1) := by decide +kernel
theorem d2_40 : decode prog_15_method_2_code 40 = .ok (.aload_n 0, 1) := by decide +kernel
theorem d2_41 : decode prog_15_method_2_code 41 = .ok (.iload_n 2, 1) := by decide +kernel
theorem d2_42 : decode prog_15_method_2_code 42 = .ok (.caload, 1) := by decide +kernel
theorem d2_43 : decode prog_15_method_2_code 43 = .ok (.if_icmp .ne 6, 3) := by decide +kernel
theorem d2_46 : decode prog_15_method_2_code 46 = .ok (.iinc 2 1, 3) := by decide +kernel
theorem d2_49 : decode prog_15_method_2_code 49 = .ok (.aload_n 1, 1) := by decide +kernel
theorem d2_50 : decode prog_15_method_2_code 50 = .ok (.iload_n 3, 1) := by decide +kernel
theorem d2_51 : decode prog_15_method_2_code 51 = .ok (.iload_n 2, 1) := by decide +kernel
theorem d2_52 : decode prog_15_method_2_code 52 = .ok (.iastore, 1) := by decide +kernel
theorem d2_53 : decode prog_15_method_2_code 53 = .ok (.iinc 3 1, 3) := by decide +kernel
theorem d2_56 : decode prog_15_method_2_code 56 = .ok (.goto (-47), 3) := by decide +kernel
set_option maxRecDepth 65536 in
set_option maxHeartbeats 40000000 in
theorem of_inner {p : Program} {l : Launch} {e : Env} {R : Room} {s : State} {m : MethodId} {args : Array Value} {below : List Frame} {meth : Method} {c : Code} {n0 mc ms : Nat} {Fn : Option Value → Heap → Prop} {k n : Nat} {Z : State} {a0 : Array Value} (hw : ∀ d ∈ tables_1, d.before a0 Z = true) (hx : p.tables.exec = Jvm.exec) (hby : c.code = prog_15_method_2_code) (hml : c.maxLocals = 4) (hown : s.vm.findClass "com/example/idxof/idxof/FailureFunction" = some m.cls) (hZ : Z.Warmed39 s.vm) {h : Heap} {fr : List (Addr × (Cell → Prop))} {cs : List Int32} {rs : List Nat} {i : Nat} {o0 r : Addr} (O : Own.Owns n0 h ((r, Own.ArrC Z .int (rs.map gI)) :: (o0, Own.ArrC Z .char (cs.map Value.int)) :: fr)) (hi : i < cs.length) (hlen : rs.length = cs.length) (hn : cs.length < 2147483648) (hr : ∀ j, j < i → rs.getD j 0 ≤ j) :
    ∀ f b, b ≤ f → b < i → Own.Goes p l e R s m args below meth c n0 mc ms Fn h k n (mkF m 37 #[.val (.ref o0), .val (.ref r), .val (.int (fallE (eqAt cs) rs i f b).toInt32), .val (.int i.toInt32)] []) → Own.Goes p l e R s m args below meth c n0 mc ms Fn h k n (mkF m 15 #[.val (.ref o0), .val (.ref r), .val (.int b.toInt32), .val (.int i.toInt32)] []) := by
  intro f
  induction f with
  | zero =>
    intro b hbf hb1 K
    obtain rfl : b = 0 := by omega
    refine Own.iloadN hx (0 : Nat).toInt32 (hb hby d2_15) rfl rfl ?_
    refine Own.ifFn hx (Own.z_le _) (hb hby d2_16) (pcN := 19) rfl (by decide) (pcT := 37) rfl (fun _ => ?_) (fun q => absurd q (by decide))
    exact K
  | succ f ih =>
    intro b hbf hb1 K
    by_cases hb0 : b = 0
    · subst hb0
      refine Own.iloadN hx (0 : Nat).toInt32 (hb hby d2_15) rfl rfl ?_
      refine Own.ifFn hx (Own.z_le _) (hb hby d2_16) (pcN := 19) rfl (by decide) (pcT := 37) rfl (fun _ => ?_) (fun q => absurd q (by decide))
      rw [fall_zero] at K
      exact K
    · skip
      refine Own.iloadN hx b.toInt32 (hb hby d2_15) rfl rfl ?_
      have hc1 : (0 : Int32) < b.toInt32 := own_pos hb0 (Nat.lt_trans hb1 hi) hn
      refine Own.ifFn hx (Own.z_le b.toInt32) (hb hby d2_16) (pcN := 19) rfl (by decide) (pcT := 37) rfl (fun q => absurd hc1 q) (fun _ => ?_)
      refine Own.aloadN hx (.ref o0) (hb hby d2_19) rfl rfl rfl ?_
      refine Own.iloadN hx i.toInt32 (hb hby d2_20) rfl rfl ?_
      refine Own.caload hx hZ O 1 i rfl (own_ti hi hn) (v := (.int (cs.getD i 0))) (own_cs_at hi) (hb hby d2_21) rfl ?_
      refine Own.aloadN hx (.ref o0) (hb hby d2_22) rfl rfl rfl ?_
      refine Own.iloadN hx b.toInt32 (hb hby d2_23) rfl rfl ?_
      refine Own.caload hx hZ O 1 b rfl (own_ti (Nat.lt_trans hb1 hi) hn) (v := (.int (cs.getD b 0))) (own_cs_at (Nat.lt_trans hb1 hi)) (hb hby d2_24) rfl ?_
      refine Own.icmpF hx (Own.q_eq (cs.getD i 0) (cs.getD b 0)) (hb hby d2_25) (pcN := 28) rfl (by decide) (pcT := 37) rfl (fun hcE => ?_) (fun hcE => ?_)
      · rw [fall_hit hb0 ((own_E hi (Nat.lt_trans hb1 hi)).mpr hcE)] at K; exact K
      · refine Own.aloadN hx (.ref r) (hb hby d2_28) rfl rfl rfl ?_
        refine Own.iloadN hx b.toInt32 (hb hby d2_29) rfl rfl ?_
        refine Own.iconst hx (1 : Int32) (hb hby d2_30) rfl (by decide) ?_
        refine Own.isub hx (hb hby d2_31) rfl ?_
        refine Own.iaload hx hZ O 0 (b - 1) rfl (own_tp hb0 (Nat.lt_trans hb1 hi) hn) (v := (.int (rs.getD (b - 1) 0).toInt32)) (own_rs_at (by omega)) (hb hby d2_32) rfl ?_
        refine Own.istoreN hx (rs.getD (b - 1) 0).toInt32 rfl #[.val (.ref o0), .val (.ref r), .val (.int (rs.getD (b - 1) 0).toInt32), .val (.int i.toInt32)] (hb hby d2_33) rfl rfl ?_
        refine Own.goto hx (hb hby d2_34) (by decide) (pc' := 15) rfl ?_
        rw [fall_miss hb0 (fun z => hcE ((own_E hi (Nat.lt_trans hb1 hi)).mp z))] at K
        have h1 := hr (b - 1) (by omega)
        exact ih _ (by omega) (by omega) K
set_option maxRecDepth 65536 in
set_option maxHeartbeats 40000000 in
theorem of_outer {p : Program} {l : Launch} {e : Env} {R : Room} {s : State} {m : MethodId} {args : Array Value} {below : List Frame} {meth : Method} {c : Code} {n0 mc ms : Nat} {k n : Nat} {Z : State} {a0 : Array Value} (hw : ∀ d ∈ tables_1, d.before a0 Z = true) (hx : p.tables.exec = Jvm.exec) (hby : c.code = prog_15_method_2_code) (hml : c.maxLocals = 4) (hown : s.vm.findClass "com/example/idxof/idxof/FailureFunction" = some m.cls) (hZ : Z.Warmed39 s.vm) (hret : meth.sig.returnType = some (.array .int)) (hlk : meth.locks = false) (hk : k ≤ mc) (hn' : n ≤ ms) {fr : List (Addr × (Cell → Prop))} {cs : List Int32} {o0 r : Addr} (hn : cs.length < 2147483648) :
    ∀ t i b (rs : List Nat) (h : Heap), (i + t = cs.length ∨ (t = 0 ∧ cs.length ≤ i)) → i < 2147483648 → b < i → rs.length = cs.length → (∀ j, j < i → rs.getD j 0 ≤ j) → Own.Owns n0 h ((r, Own.ArrC Z .int (rs.map gI)) :: (o0, Own.ArrC Z .char (cs.map Value.int)) :: fr) → runE (eqAt cs) t i rs b = ofL cs → Own.Goes p l e R s m args below meth c n0 mc ms (fun v h => ∃ r, v = some (.ref r) ∧ Own.Owns n0 h ((r, Own.ArrC Z .int ((ofL cs).map gI)) :: (o0, Own.ArrC Z .char (cs.map Value.int)) :: fr)) h k n (mkF m 9 #[.val (.ref o0), .val (.ref r), .val (.int b.toInt32), .val (.int i.toInt32)] []) := by
  intro t
  induction t with
  | zero =>
    intro i b rs h hit hi31 hbi hlen hr O hrun
    obtain rfl : rs = ofL cs := hrun
    refine Own.iloadN hx i.toInt32 (hb hby d2_9) rfl rfl ?_
    refine Own.aloadN hx (.ref o0) (hb hby d2_10) rfl rfl rfl ?_
    refine Own.arrlen hx hZ O 1 rfl cs.length.toInt32 (by rw [List.length_map]) (hb hby d2_11) rfl ?_
    have hc1 : ¬ (i.toInt32 < cs.length.toInt32) := own_ge (by omega) hi31
    refine Own.icmpFn hx (Own.q_ge i.toInt32 cs.length.toInt32) (hb hby d2_12) (pcN := 15) rfl (by decide) (pcT := 59) rfl (fun _ => ?_) (fun q => absurd q hc1)
    refine Own.aloadN hx (.ref r) (hb hby d2_59) rfl rfl rfl ?_
    exact Own.retA hx hret rfl hlk rfl rfl (hb hby d2_60) hk hn' ⟨r, rfl, O⟩
  | succ t ih =>
    intro i b rs h hit hi31 hbi hlen hr O hrun
    have hi : i < cs.length := by omega
    have hfl := fall_le (eqAt cs) rs i hr b b (by omega)
    have hbl : (fallE (eqAt cs) rs i b b) < cs.length := by omega
    refine Own.iloadN hx i.toInt32 (hb hby d2_9) rfl rfl ?_
    refine Own.aloadN hx (.ref o0) (hb hby d2_10) rfl rfl rfl ?_
    refine Own.arrlen hx hZ O 1 rfl cs.length.toInt32 (by rw [List.length_map]) (hb hby d2_11) rfl ?_
    have hc1 : i.toInt32 < cs.length.toInt32 := own_lt hi hn
    refine Own.icmpFn hx (Own.q_ge i.toInt32 cs.length.toInt32) (hb hby d2_12) (pcN := 15) rfl (by decide) (pcT := 59) rfl (fun q => absurd hc1 q) (fun _ => ?_)
    refine of_inner hw hx hby hml hown hZ O hi hlen hn hr b b (Nat.le_refl _) hbi ?_
    refine Own.aloadN hx (.ref o0) (hb hby d2_37) rfl rfl rfl ?_
    refine Own.iloadN hx i.toInt32 (hb hby d2_38) rfl rfl ?_
    refine Own.caload hx hZ O 1 i rfl (own_ti hi hn) (v := (.int (cs.getD i 0))) (own_cs_at hi) (hb hby d2_39) rfl ?_
    refine Own.aloadN hx (.ref o0) (hb hby d2_40) rfl rfl rfl ?_
    refine Own.iloadN hx (fallE (eqAt cs) rs i b b).toInt32 (hb hby d2_41) rfl rfl ?_
    refine Own.caload hx hZ O 1 (fallE (eqAt cs) rs i b b) rfl (own_ti hbl hn) (v := (.int (cs.getD (fallE (eqAt cs) rs i b b) 0))) (own_cs_at hbl) (hb hby d2_42) rfl ?_
    refine Own.icmpFn hx (Own.q_ne (cs.getD i 0) (cs.getD (fallE (eqAt cs) rs i b b) 0)) (hb hby d2_43) (pcN := 46) rfl (by decide) (pcT := 49) rfl (fun hcE => ?_) (fun hcE => ?_)
    · refine Own.aloadN hx (.ref r) (hb hby d2_49) rfl rfl rfl ?_
      refine Own.iloadN hx i.toInt32 (hb hby d2_50) rfl rfl ?_
      refine Own.iloadN hx (fallE (eqAt cs) rs i b b).toInt32 (hb hby d2_51) rfl rfl ?_
      refine Own.iastore hx hZ O 0 i rfl (own_ti hi hn) (by rw [List.length_map, hlen]; exact hi) ((r, Own.ArrC Z .int ((rs.set i (nextE (eqAt cs) rs i b)).map gI)) :: (o0, Own.ArrC Z .char (cs.map Value.int)) :: fr) (by rw [List.map_set, next_miss hi hbl hcE]; rfl) (hb hby d2_52) rfl ?_
      intro h2 O3
      refine Own.iinc hx (i.toInt32 + (1 : Int32)) #[.val (.ref o0), .val (.ref r), .val (.int (fallE (eqAt cs) rs i b b).toInt32), .val (.int (i.toInt32 + (1 : Int32)))] (hb hby d2_53) rfl rfl rfl rfl ?_
      refine Own.goto hx (hb hby d2_56) (by decide) (pc' := 9) rfl ?_
      have hih := ih (i + 1) (nextE (eqAt cs) rs i b) (rs.set i (nextE (eqAt cs) rs i b)) h2 (by omega) (by omega) (by have := next_le (eqAt cs) rs i b hr hbi; omega) (by rw [List.length_set]; exact hlen) (set_inv hr (next_le (eqAt cs) rs i b hr hbi)) O3 hrun
      rw [own_succ i, next_miss hi hbl hcE] at hih
      exact hih
    · refine Own.iinc hx ((fallE (eqAt cs) rs i b b).toInt32 + (1 : Int32)) #[.val (.ref o0), .val (.ref r), .val (.int ((fallE (eqAt cs) rs i b b).toInt32 + (1 : Int32))), .val (.int i.toInt32)] (hb hby d2_46) rfl rfl rfl rfl ?_
      refine Own.aloadN hx (.ref r) (hb hby d2_49) rfl rfl rfl ?_
      refine Own.iloadN hx i.toInt32 (hb hby d2_50) rfl rfl ?_
      refine Own.iloadN hx ((fallE (eqAt cs) rs i b b).toInt32 + (1 : Int32)) (hb hby d2_51) rfl rfl ?_
      refine Own.iastore hx hZ O 0 i rfl (own_ti hi hn) (by rw [List.length_map, hlen]; exact hi) ((r, Own.ArrC Z .int ((rs.set i (nextE (eqAt cs) rs i b)).map gI)) :: (o0, Own.ArrC Z .char (cs.map Value.int)) :: fr) (by rw [List.map_set, next_hit hi hbl hcE, own_gs]; rfl) (hb hby d2_52) rfl ?_
      intro h4 O5
      refine Own.iinc hx (i.toInt32 + (1 : Int32)) #[.val (.ref o0), .val (.ref r), .val (.int ((fallE (eqAt cs) rs i b b).toInt32 + (1 : Int32))), .val (.int (i.toInt32 + (1 : Int32)))] (hb hby d2_53) rfl rfl rfl rfl ?_
      refine Own.goto hx (hb hby d2_56) (by decide) (pc' := 9) rfl ?_
      have hih := ih (i + 1) (nextE (eqAt cs) rs i b) (rs.set i (nextE (eqAt cs) rs i b)) h4 (by omega) (by omega) (by have := next_le (eqAt cs) rs i b hr hbi; omega) (by rw [List.length_set]; exact hlen) (set_inv hr (next_le (eqAt cs) rs i b hr hbi)) O5 hrun
      rw [own_succ i, next_hit hi hbl hcE, own_succ (fallE (eqAt cs) rs i b b)] at hih
      exact hih
theorem d2_0 : decode prog_15_method_2_code 0 = .ok (.aload_n 0, 1) := by decide +kernel
theorem d2_1 : decode prog_15_method_2_code 1 = .ok (.arraylength, 1) := by decide +kernel
theorem d2_2 : decode prog_15_method_2_code 2 = .ok (.newarray .int, 2) := by decide +kernel
theorem d2_4 : decode prog_15_method_2_code 4 = .ok (.astore_n 1, 1) := by decide +kernel
theorem d2_5 : decode prog_15_method_2_code 5 = .ok (.iconst 0, 1) := by decide +kernel
theorem d2_6 : decode prog_15_method_2_code 6 = .ok (.istore_n 2, 1) := by decide +kernel
theorem d2_7 : decode prog_15_method_2_code 7 = .ok (.iconst 1, 1) := by decide +kernel
theorem d2_8 : decode prog_15_method_2_code 8 = .ok (.istore_n 3, 1) := by decide +kernel
theorem pn0 : plainFor (⟨"com/example/idxof/idxof/FailureFunction", "of", "([C)[I"⟩ : MethodName) = true := by first | exact plainFor_of_name (by simp [plainName, overriddenIn]; done) | decide +kernel
theorem ef2 (m : MethodId) (o0 : Addr) : entryFrame m #[(.ref o0)] 4 = mkF m 0 #[.val (.ref o0), .unset, .unset, .unset] [] := by first | (simp [entryFrame, mkF, argsToLocals, Value.category]; done) | rfl
set_option maxRecDepth 65536 in
set_option maxHeartbeats 40000000 in
theorem rm2 (l : Launch) (Z : State) (a0 : Array Value) (hw : ∀ d ∈ tables_1, d.before a0 Z = true) (o0 : Addr) (h0 : Heap) (n0 : Nat) (cs : List Int32) (hcap : cs.length ≤ 6) (fr : List (Addr × (Cell → Prop))) (O0 : Own.Owns n0 h0 ((o0, Own.ArrC Z .char (cs.map Value.int)) :: fr))  : Own.Does l (⟨"com/example/idxof/idxof/FailureFunction", "of", "([C)[I"⟩ : MethodName) prog_15_method_2_code 4 (some (.array .int)) [] ({ frames := 0, cells := 1, slots := 6, locals := 0 } : Room) Z #[(.ref o0)] h0 n0 (fun v h => ∃ r, v = some (.ref r) ∧ Own.Owns n0 h ((r, Own.ArrC Z .int ((ofL cs).map gI)) :: (o0, Own.ArrC Z .char (cs.map Value.int)) :: fr)) := by
  refine Own.doesOf pn0 ?_
  intro p e s m below meth c hx hby hml hret hlk hown hnm hZ
  refine Own.Goes.cast (ef2 m o0) ?_
  refine Own.aloadN hx (.ref o0) (hb hby d2_0) rfl rfl rfl ?_
  refine Own.arrlen hx hZ O0 0 rfl cs.length.toInt32 (by rw [List.length_map]) (hb hby d2_1) rfl ?_
  refine Own.newarr hx hZ O0 (aty := .int) (hw _ (List.mem_of_getElem? (i := 10) rfl)) cs.length (own_tl (by omega)) (List.replicate cs.length (.int (0 : Int32))) rfl rfl (cap := 6) hcap (by decide) (k' := 1) (n' := 6) rfl rfl (by decide) (by decide) (hb hby d2_2) (pc' := 4) rfl ?_
  intro a1 h2 O3
  refine Own.astoreN hx #[.val (.ref o0), .val (.ref a1), .unset, .unset] (hb hby d2_4) rfl rfl rfl ?_
  refine Own.iconst hx (0 : Int32) (hb hby d2_5) rfl (by decide) ?_
  refine Own.istoreN hx (0 : Int32) rfl #[.val (.ref o0), .val (.ref a1), .val (.int (0 : Int32)), .unset] (hb hby d2_6) rfl rfl ?_
  refine Own.iconst hx (1 : Int32) (hb hby d2_7) rfl (by decide) ?_
  refine Own.istoreN hx (1 : Int32) rfl #[.val (.ref o0), .val (.ref a1), .val (.int (0 : Int32)), .val (.int (1 : Int32))] (hb hby d2_8) rfl rfl ?_
  have hO : Own.Owns n0 h2 ((a1, Own.ArrC Z .int ((List.replicate cs.length 0).map gI)) :: (o0, Own.ArrC Z .char (cs.map Value.int)) :: fr) := by rw [List.map_replicate]; exact O3
  exact of_outer hw hx hby hml hown hZ hret hlk (by decide) (by decide) (by omega) (cs.length - 1) 1 0 (List.replicate cs.length 0) h2 (by omega) (by omega) (by omega) (by simp) (own_rep) hO rfl

def fPick (a b cc sel t : Int32) : Int32 := let s := (sel.toUInt32 >>> (((3 : Int32) * t) &&& 31).toUInt32).toInt32 &&& (7 : Int32); if s = 1 then (a.toUInt32 >>> ((16 : Int32) &&& 31).toUInt32).toInt32.toUInt32.toUInt16.toUInt32.toInt32 else if s = 2 then b.toUInt32.toUInt16.toUInt32.toInt32 else if s = 3 then (b.toUInt32 >>> ((16 : Int32) &&& 31).toUInt32).toInt32.toUInt32.toUInt16.toUInt32.toInt32 else if s = 4 then cc.toUInt32.toUInt16.toUInt32.toInt32 else if s = 5 then (cc.toUInt32 >>> ((16 : Int32) &&& 31).toUInt32).toInt32.toUInt32.toUInt16.toUInt32.toInt32 else a.toUInt32.toUInt16.toUInt32.toInt32
theorem d1_0 : decode method_2_code 0 = .ok (.iload_n 3, 1) := by decide +kernel
theorem d1_1 : decode method_2_code 1 = .ok (.iconst 3, 1) := by decide +kernel
theorem d1_2 : decode method_2_code 2 = .ok (.iload 4, 2) := by decide +kernel
theorem d1_4 : decode method_2_code 4 = .ok (.imul, 1) := by decide +kernel
theorem d1_5 : decode method_2_code 5 = .ok (.iushr, 1) := by decide +kernel
theorem d1_6 : decode method_2_code 6 = .ok (.bipush 7, 2) := by decide +kernel
theorem d1_8 : decode method_2_code 8 = .ok (.iand, 1) := by decide +kernel
theorem d1_9 : decode method_2_code 9 = .ok (.istore 5, 2) := by decide +kernel
theorem d1_11 : decode method_2_code 11 = .ok (.iload 5, 2) := by decide +kernel
theorem d1_13 : decode method_2_code 13 = .ok (.iconst 1, 1) := by decide +kernel
theorem d1_14 : decode method_2_code 14 = .ok (.if_icmp .ne 9, 3) := by decide +kernel
theorem d1_17 : decode method_2_code 17 = .ok (.iload_n 0, 1) := by decide +kernel
theorem d1_18 : decode method_2_code 18 = .ok (.bipush 16, 2) := by decide +kernel
theorem d1_20 : decode method_2_code 20 = .ok (.iushr, 1) := by decide +kernel
theorem d1_21 : decode method_2_code 21 = .ok (.i2c, 1) := by decide +kernel
theorem d1_22 : decode method_2_code 22 = .ok (.ireturn, 1) := by decide +kernel
theorem d1_23 : decode method_2_code 23 = .ok (.iload 5, 2) := by decide +kernel
theorem d1_25 : decode method_2_code 25 = .ok (.iconst 2, 1) := by decide +kernel
theorem d1_26 : decode method_2_code 26 = .ok (.if_icmp .ne 6, 3) := by decide +kernel
theorem d1_29 : decode method_2_code 29 = .ok (.iload_n 1, 1) := by decide +kernel
theorem d1_30 : decode method_2_code 30 = .ok (.i2c, 1) := by decide +kernel
theorem d1_31 : decode method_2_code 31 = .ok (.ireturn, 1) := by decide +kernel
theorem d1_32 : decode method_2_code 32 = .ok (.iload 5, 2) := by decide +kernel
theorem d1_34 : decode method_2_code 34 = .ok (.iconst 3, 1) := by decide +kernel
theorem d1_35 : decode method_2_code 35 = .ok (.if_icmp .ne 9, 3) := by decide +kernel
theorem d1_38 : decode method_2_code 38 = .ok (.iload_n 1, 1) := by decide +kernel
theorem d1_39 : decode method_2_code 39 = .ok (.bipush 16, 2) := by decide +kernel
theorem d1_41 : decode method_2_code 41 = .ok (.iushr, 1) := by decide +kernel
theorem d1_42 : decode method_2_code 42 = .ok (.i2c, 1) := by decide +kernel
theorem d1_43 : decode method_2_code 43 = .ok (.ireturn, 1) := by decide +kernel
theorem d1_44 : decode method_2_code 44 = .ok (.iload 5, 2) := by decide +kernel
theorem d1_46 : decode method_2_code 46 = .ok (.iconst 4, 1) := by decide +kernel
theorem d1_47 : decode method_2_code 47 = .ok (.if_icmp .ne 6, 3) := by decide +kernel
theorem d1_50 : decode method_2_code 50 = .ok (.iload_n 2, 1) := by decide +kernel
theorem d1_51 : decode method_2_code 51 = .ok (.i2c, 1) := by decide +kernel
theorem d1_52 : decode method_2_code 52 = .ok (.ireturn, 1) := by decide +kernel
theorem d1_53 : decode method_2_code 53 = .ok (.iload 5, 2) := by decide +kernel
theorem d1_55 : decode method_2_code 55 = .ok (.iconst 5, 1) := by decide +kernel
theorem d1_56 : decode method_2_code 56 = .ok (.if_icmp .ne 9, 3) := by decide +kernel
theorem d1_59 : decode method_2_code 59 = .ok (.iload_n 2, 1) := by decide +kernel
theorem d1_60 : decode method_2_code 60 = .ok (.bipush 16, 2) := by decide +kernel
theorem d1_62 : decode method_2_code 62 = .ok (.iushr, 1) := by decide +kernel
theorem d1_63 : decode method_2_code 63 = .ok (.i2c, 1) := by decide +kernel
theorem d1_64 : decode method_2_code 64 = .ok (.ireturn, 1) := by decide +kernel
theorem d1_65 : decode method_2_code 65 = .ok (.iload_n 0, 1) := by decide +kernel
theorem d1_66 : decode method_2_code 66 = .ok (.i2c, 1) := by decide +kernel
theorem d1_67 : decode method_2_code 67 = .ok (.ireturn, 1) := by decide +kernel
theorem pn1 : plainFor (⟨"com/example/idxof/idxof/FailureFunctionOfPinLaw", "pick", "(IIIII)C"⟩ : MethodName) = true := by first | exact plainFor_of_name (by simp [plainName, overriddenIn]; done) | decide +kernel
theorem ef1 (m : MethodId) (p0 : Int32) (p1 : Int32) (p2 : Int32) (p3 : Int32) (p4 : Int32) : entryFrame m #[(.int p0), (.int p1), (.int p2), (.int p3), (.int p4)] 6 = mkF m 0 #[.val (.int p0), .val (.int p1), .val (.int p2), .val (.int p3), .val (.int p4), .unset] [] := by first | (simp [entryFrame, mkF, argsToLocals, Value.category]; done) | rfl
set_option maxRecDepth 65536 in
set_option maxHeartbeats 40000000 in
theorem rm1 (l : Launch) (Z : State) (a0 : Array Value) (hw : ∀ d ∈ tables_1, d.before a0 Z = true) (p0 : Int32) (p1 : Int32) (p2 : Int32) (p3 : Int32) (p4 : Int32) (h0 : Heap) (n0 : Nat)   : Own.Does l (⟨"com/example/idxof/idxof/FailureFunctionOfPinLaw", "pick", "(IIIII)C"⟩ : MethodName) method_2_code 6 (some .char) [] ({ frames := 0, cells := 0, slots := 0, locals := 0 } : Room) Z #[(.int p0), (.int p1), (.int p2), (.int p3), (.int p4)] h0 n0 (fun v h => v = some (.int (nar .char (fPick p0 p1 p2 p3 p4))) ∧ h = h0) := by
  refine Own.doesOf pn1 ?_
  intro p e s m below meth c hx hby hml hret hlk hown hnm hZ
  refine Own.Goes.cast (ef1 m p0 p1 p2 p3 p4) ?_
  refine Own.iloadN hx p3 (hb hby d1_0) rfl rfl ?_
  refine Own.iconst hx (3 : Int32) (hb hby d1_1) rfl (by decide) ?_
  refine Own.iload hx p4 (hb hby d1_2) rfl rfl ?_
  refine Own.imul hx (hb hby d1_4) rfl ?_
  refine Own.iushr hx (hb hby d1_5) rfl ?_
  refine Own.bipush hx (7 : Int32) (hb hby d1_6) rfl (by decide) ?_
  refine Own.iand hx (hb hby d1_8) rfl ?_
  obtain ⟨v1, h_v1⟩ : ∃ z : Int32, z = ((p3.toUInt32 >>> (((3 : Int32) * p4) &&& 31).toUInt32).toInt32 &&& (7 : Int32)) := ⟨_, rfl⟩
  refine Own.istore hx v1 h_v1 #[.val (.int p0), .val (.int p1), .val (.int p2), .val (.int p3), .val (.int p4), .val (.int v1)] (hb hby d1_9) rfl rfl ?_
  refine Own.iload hx v1 (hb hby d1_11) rfl rfl ?_
  refine Own.iconst hx (1 : Int32) (hb hby d1_13) rfl (by decide) ?_
  refine Own.icmpFn hx (Own.q_ne v1 (1 : Int32)) (hb hby d1_14) (pcN := 17) rfl (by decide) (pcT := 23) rfl (fun hc2 => ?_) (fun hc2 => ?_)
  · refine Own.iload hx v1 (hb hby d1_23) rfl rfl ?_
    refine Own.iconst hx (2 : Int32) (hb hby d1_25) rfl (by decide) ?_
    refine Own.icmpFn hx (Own.q_ne v1 (2 : Int32)) (hb hby d1_26) (pcN := 29) rfl (by decide) (pcT := 32) rfl (fun hc3 => ?_) (fun hc3 => ?_)
    · refine Own.iload hx v1 (hb hby d1_32) rfl rfl ?_
      refine Own.iconst hx (3 : Int32) (hb hby d1_34) rfl (by decide) ?_
      refine Own.icmpFn hx (Own.q_ne v1 (3 : Int32)) (hb hby d1_35) (pcN := 38) rfl (by decide) (pcT := 44) rfl (fun hc4 => ?_) (fun hc4 => ?_)
      · refine Own.iload hx v1 (hb hby d1_44) rfl rfl ?_
        refine Own.iconst hx (4 : Int32) (hb hby d1_46) rfl (by decide) ?_
        refine Own.icmpFn hx (Own.q_ne v1 (4 : Int32)) (hb hby d1_47) (pcN := 50) rfl (by decide) (pcT := 53) rfl (fun hc5 => ?_) (fun hc5 => ?_)
        · refine Own.iload hx v1 (hb hby d1_53) rfl rfl ?_
          refine Own.iconst hx (5 : Int32) (hb hby d1_55) rfl (by decide) ?_
          refine Own.icmpFn hx (Own.q_ne v1 (5 : Int32)) (hb hby d1_56) (pcN := 59) rfl (by decide) (pcT := 65) rfl (fun hc6 => ?_) (fun hc6 => ?_)
          · refine Own.iloadN hx p0 (hb hby d1_65) rfl rfl ?_
            refine Own.i2c hx (hb hby d1_66) rfl ?_
            exact Own.retS hx hret (by simp) hlk (hb hby d1_67) (by decide) (by decide) ⟨by subst h_v1; simp only [fPick, if_neg hc2, if_neg hc3, if_neg hc4, if_neg hc5, if_neg hc6], rfl⟩
          · refine Own.iloadN hx p2 (hb hby d1_59) rfl rfl ?_
            refine Own.bipush hx (16 : Int32) (hb hby d1_60) rfl (by decide) ?_
            refine Own.iushr hx (hb hby d1_62) rfl ?_
            refine Own.i2c hx (hb hby d1_63) rfl ?_
            exact Own.retS hx hret (by simp) hlk (hb hby d1_64) (by decide) (by decide) ⟨by subst h_v1; simp only [fPick, if_neg hc2, if_neg hc3, if_neg hc4, if_neg hc5, if_pos hc6], rfl⟩
        · refine Own.iloadN hx p2 (hb hby d1_50) rfl rfl ?_
          refine Own.i2c hx (hb hby d1_51) rfl ?_
          exact Own.retS hx hret (by simp) hlk (hb hby d1_52) (by decide) (by decide) ⟨by subst h_v1; simp only [fPick, if_neg hc2, if_neg hc3, if_neg hc4, if_pos hc5], rfl⟩
      · refine Own.iloadN hx p1 (hb hby d1_38) rfl rfl ?_
        refine Own.bipush hx (16 : Int32) (hb hby d1_39) rfl (by decide) ?_
        refine Own.iushr hx (hb hby d1_41) rfl ?_
        refine Own.i2c hx (hb hby d1_42) rfl ?_
        exact Own.retS hx hret (by simp) hlk (hb hby d1_43) (by decide) (by decide) ⟨by subst h_v1; simp only [fPick, if_neg hc2, if_neg hc3, if_pos hc4], rfl⟩
    · refine Own.iloadN hx p1 (hb hby d1_29) rfl rfl ?_
      refine Own.i2c hx (hb hby d1_30) rfl ?_
      exact Own.retS hx hret (by simp) hlk (hb hby d1_31) (by decide) (by decide) ⟨by subst h_v1; simp only [fPick, if_neg hc2, if_pos hc3], rfl⟩
  · refine Own.iloadN hx p0 (hb hby d1_17) rfl rfl ?_
    refine Own.bipush hx (16 : Int32) (hb hby d1_18) rfl (by decide) ?_
    refine Own.iushr hx (hb hby d1_20) rfl ?_
    refine Own.i2c hx (hb hby d1_21) rfl ?_
    exact Own.retS hx hret (by simp) hlk (hb hby d1_22) (by decide) (by decide) ⟨by subst h_v1; simp only [fPick, if_pos hc2], rfl⟩

def fB1 (y0 y1 y2 y3 y4 y5 : Int32) : Int32 := (0 : Int32)
theorem d4_0 : decode method_4_code 0 = .ok (.iload_n 1, 1) := by decide +kernel
theorem d4_1 : decode method_4_code 1 = .ok (.iconst 1, 1) := by decide +kernel
theorem d4_2 : decode method_4_code 2 = .ok (.isub, 1) := by decide +kernel
theorem d4_3 : decode method_4_code 3 = .ok (.iconst 5, 1) := by decide +kernel
theorem d4_4 : decode method_4_code 4 = .ok (.if_icmp .lt 14, 3) := by decide +kernel
theorem d4_18 : decode method_4_code 18 = .ok (.iload_n 1, 1) := by decide +kernel
theorem d4_19 : decode method_4_code 19 = .ok (.iconst 1, 1) := by decide +kernel
theorem d4_20 : decode method_4_code 20 = .ok (.isub, 1) := by decide +kernel
theorem d4_21 : decode method_4_code 21 = .ok (.iconst 4, 1) := by decide +kernel
theorem d4_22 : decode method_4_code 22 = .ok (.if_icmp .lt 14, 3) := by decide +kernel
theorem d4_36 : decode method_4_code 36 = .ok (.iload_n 1, 1) := by decide +kernel
theorem d4_37 : decode method_4_code 37 = .ok (.iconst 1, 1) := by decide +kernel
theorem d4_38 : decode method_4_code 38 = .ok (.isub, 1) := by decide +kernel
theorem d4_39 : decode method_4_code 39 = .ok (.iconst 3, 1) := by decide +kernel
theorem d4_40 : decode method_4_code 40 = .ok (.if_icmp .lt 14, 3) := by decide +kernel
theorem d4_54 : decode method_4_code 54 = .ok (.iload_n 1, 1) := by decide +kernel
theorem d4_55 : decode method_4_code 55 = .ok (.iconst 1, 1) := by decide +kernel
theorem d4_56 : decode method_4_code 56 = .ok (.isub, 1) := by decide +kernel
theorem d4_57 : decode method_4_code 57 = .ok (.iconst 2, 1) := by decide +kernel
theorem d4_58 : decode method_4_code 58 = .ok (.if_icmp .lt 14, 3) := by decide +kernel
theorem d4_72 : decode method_4_code 72 = .ok (.iload_n 1, 1) := by decide +kernel
theorem d4_73 : decode method_4_code 73 = .ok (.iconst 1, 1) := by decide +kernel
theorem d4_74 : decode method_4_code 74 = .ok (.isub, 1) := by decide +kernel
theorem d4_75 : decode method_4_code 75 = .ok (.iconst 1, 1) := by decide +kernel
theorem d4_76 : decode method_4_code 76 = .ok (.if_icmp .lt 14, 3) := by decide +kernel
theorem d4_90 : decode method_4_code 90 = .ok (.iconst 0, 1) := by decide +kernel
theorem d4_91 : decode method_4_code 91 = .ok (.ireturn, 1) := by decide +kernel
theorem pn2 : plainFor (⟨"com/example/idxof/idxof/FailureFunctionOfPinLaw", "border", "([CI)I"⟩ : MethodName) = true := by first | exact plainFor_of_name (by simp [plainName, overriddenIn]; done) | decide +kernel
theorem ef4_1 (m : MethodId) (o0 : Addr) : entryFrame m #[(.ref o0), (.int (1 : Int32))] 2 = mkF m 0 #[.val (.ref o0), .val (.int (1 : Int32))] [] := by first | (simp [entryFrame, mkF, argsToLocals, Value.category]; done) | rfl
set_option maxRecDepth 65536 in
set_option maxHeartbeats 40000000 in
theorem rm4_1 (l : Launch) (Z : State) (a0 : Array Value) (hw : ∀ d ∈ tables_1, d.before a0 Z = true) (o0 : Addr) (h0 : Heap) (n0 : Nat) (y0 y1 y2 y3 y4 y5 : Int32) (fr : List (Addr × (Cell → Prop))) (O0 : Own.Owns n0 h0 ((o0, Own.ArrC Z .char [(.int y0), (.int y1), (.int y2), (.int y3), (.int y4), (.int y5)]) :: fr))  : Own.Does l (⟨"com/example/idxof/idxof/FailureFunctionOfPinLaw", "border", "([CI)I"⟩ : MethodName) method_4_code 2 (some .int) [] ({ frames := 1, cells := 0, slots := 0, locals := 18 } : Room) Z #[(.ref o0), (.int (1 : Int32))] h0 n0 (fun v h => v = some (.int (fB1 y0 y1 y2 y3 y4 y5)) ∧ h = h0) := by
  refine Own.doesOf pn2 ?_
  intro p e s m below meth c hx hby hml hret hlk hown hnm hZ
  refine Own.Goes.cast (ef4_1 m o0) ?_
  refine Own.iloadN hx (1 : Int32) (hb hby d4_0) rfl rfl ?_
  refine Own.iconst hx (1 : Int32) (hb hby d4_1) rfl (by decide) ?_
  refine Own.isub hx (hb hby d4_2) rfl ?_
  refine Own.vI (0 : Int32) (by decide) ?_
  refine Own.iconst hx (5 : Int32) (hb hby d4_3) rfl (by decide) ?_
  have hc1 : (0 : Int32) < (5 : Int32) := by decide
  refine Own.icmpF hx (Own.q_lt (0 : Int32) (5 : Int32)) (hb hby d4_4) (pcN := 7) rfl (by decide) (pcT := 18) rfl (fun _ => ?_) (fun q => absurd hc1 q)
  refine Own.iloadN hx (1 : Int32) (hb hby d4_18) rfl rfl ?_
  refine Own.iconst hx (1 : Int32) (hb hby d4_19) rfl (by decide) ?_
  refine Own.isub hx (hb hby d4_20) rfl ?_
  refine Own.vI (0 : Int32) (by decide) ?_
  refine Own.iconst hx (4 : Int32) (hb hby d4_21) rfl (by decide) ?_
  have hc3 : (0 : Int32) < (4 : Int32) := by decide
  refine Own.icmpF hx (Own.q_lt (0 : Int32) (4 : Int32)) (hb hby d4_22) (pcN := 25) rfl (by decide) (pcT := 36) rfl (fun _ => ?_) (fun q => absurd hc3 q)
  refine Own.iloadN hx (1 : Int32) (hb hby d4_36) rfl rfl ?_
  refine Own.iconst hx (1 : Int32) (hb hby d4_37) rfl (by decide) ?_
  refine Own.isub hx (hb hby d4_38) rfl ?_
  refine Own.vI (0 : Int32) (by decide) ?_
  refine Own.iconst hx (3 : Int32) (hb hby d4_39) rfl (by decide) ?_
  have hc5 : (0 : Int32) < (3 : Int32) := by decide
  refine Own.icmpF hx (Own.q_lt (0 : Int32) (3 : Int32)) (hb hby d4_40) (pcN := 43) rfl (by decide) (pcT := 54) rfl (fun _ => ?_) (fun q => absurd hc5 q)
  refine Own.iloadN hx (1 : Int32) (hb hby d4_54) rfl rfl ?_
  refine Own.iconst hx (1 : Int32) (hb hby d4_55) rfl (by decide) ?_
  refine Own.isub hx (hb hby d4_56) rfl ?_
  refine Own.vI (0 : Int32) (by decide) ?_
  refine Own.iconst hx (2 : Int32) (hb hby d4_57) rfl (by decide) ?_
  have hc7 : (0 : Int32) < (2 : Int32) := by decide
  refine Own.icmpF hx (Own.q_lt (0 : Int32) (2 : Int32)) (hb hby d4_58) (pcN := 61) rfl (by decide) (pcT := 72) rfl (fun _ => ?_) (fun q => absurd hc7 q)
  refine Own.iloadN hx (1 : Int32) (hb hby d4_72) rfl rfl ?_
  refine Own.iconst hx (1 : Int32) (hb hby d4_73) rfl (by decide) ?_
  refine Own.isub hx (hb hby d4_74) rfl ?_
  refine Own.vI (0 : Int32) (by decide) ?_
  refine Own.iconst hx (1 : Int32) (hb hby d4_75) rfl (by decide) ?_
  have hc9 : (0 : Int32) < (1 : Int32) := by decide
  refine Own.icmpF hx (Own.q_lt (0 : Int32) (1 : Int32)) (hb hby d4_76) (pcN := 79) rfl (by decide) (pcT := 90) rfl (fun _ => ?_) (fun q => absurd hc9 q)
  refine Own.iconst hx (0 : Int32) (hb hby d4_90) rfl (by decide) ?_
  exact Own.retI hx hret hlk (hb hby d4_91) (by decide) (by decide) ⟨by rw [show fB1 y0 y1 y2 y3 y4 y5 = (0 : Int32) from by simp only [fB1]]; try rfl, rfl⟩

theorem d3_0 : decode method_5_code 0 = .ok (.iload_n 1, 1) := by decide +kernel
theorem d3_1 : decode method_5_code 1 = .ok (.iload_n 3, 1) := by decide +kernel
theorem d3_2 : decode method_5_code 2 = .ok (.if_icmp .le 16, 3) := by decide +kernel
theorem d3_18 : decode method_5_code 18 = .ok (.iconst 1, 1) := by decide +kernel
theorem d3_19 : decode method_5_code 19 = .ok (.goto 4, 3) := by decide +kernel
theorem d3_23 : decode method_5_code 23 = .ok (.ireturn, 1) := by decide +kernel
theorem pn3 : plainFor (⟨"com/example/idxof/idxof/FailureFunctionOfPinLaw", "entry", "([II[CI)Z"⟩ : MethodName) = true := by first | exact plainFor_of_name (by simp [plainName, overriddenIn]; done) | decide +kernel
theorem ef3_a0 (m : MethodId) (o0 : Addr) (p1 : Int32) (o2 : Addr) : entryFrame m #[(.ref o0), (.int p1), (.ref o2), (.int (0 : Int32))] 4 = mkF m 0 #[.val (.ref o0), .val (.int p1), .val (.ref o2), .val (.int (0 : Int32))] [] := by first | (simp [entryFrame, mkF, argsToLocals, Value.category]; done) | rfl
set_option maxRecDepth 65536 in
set_option maxHeartbeats 40000000 in
theorem rm3_a0 (l : Launch) (Z : State) (a0 : Array Value) (hw : ∀ d ∈ tables_1, d.before a0 Z = true) (o0 : Addr) (p1 : Int32) (o2 : Addr) (h0 : Heap) (n0 : Nat)  (hge : ¬ ((0 : Int32) < p1)) : Own.Does l (⟨"com/example/idxof/idxof/FailureFunctionOfPinLaw", "entry", "([II[CI)Z"⟩ : MethodName) method_5_code 4 (some .boolean) [] ({ frames := 0, cells := 0, slots := 0, locals := 0 } : Room) Z #[(.ref o0), (.int p1), (.ref o2), (.int (0 : Int32))] h0 n0 (fun v h => v = some (.int 1) ∧ h = h0) := by
  refine Own.doesOf pn3 ?_
  intro p e s m below meth c hx hby hml hret hlk hown hnm hZ
  refine Own.Goes.cast (ef3_a0 m o0 p1 o2) ?_
  refine Own.iloadN hx p1 (hb hby d3_0) rfl rfl ?_
  refine Own.iloadN hx (0 : Int32) (hb hby d3_1) rfl rfl ?_
  have hc1 : ¬ ((0 : Int32) < p1) := hge
  refine Own.icmpFn hx (Own.q_le p1 (0 : Int32)) (hb hby d3_2) (pcN := 5) rfl (by decide) (pcT := 18) rfl (fun _ => ?_) (fun q => absurd q hc1)
  refine Own.iconst hx (1 : Int32) (hb hby d3_18) rfl (by decide) ?_
  refine Own.goto hx (hb hby d3_19) (by decide) (pc' := 23) rfl ?_
  exact Own.retS hx hret (by simp) hlk (hb hby d3_23) (by decide) (by decide) ⟨rfl, rfl⟩

theorem pd0 : parseMethodDescriptor "([CI)I" = some ⟨[(.array .char), .int], some .int⟩ := by decide +kernel
def fE0 (x y0 y1 y2 y3 y4 y5 : Int32) : Int32 := (if x = (fB1 y0 y1 y2 y3 y4 y5) then (1 : Int32) else (0 : Int32))
theorem d3_5 : decode method_5_code 5 = .ok (.aload_n 0, 1) := by decide +kernel
theorem d3_6 : decode method_5_code 6 = .ok (.iload_n 3, 1) := by decide +kernel
theorem d3_7 : decode method_5_code 7 = .ok (.iaload, 1) := by decide +kernel
theorem d3_8 : decode method_5_code 8 = .ok (.aload_n 2, 1) := by decide +kernel
theorem d3_9 : decode method_5_code 9 = .ok (.iload_n 3, 1) := by decide +kernel
theorem d3_10 : decode method_5_code 10 = .ok (.iconst 1, 1) := by decide +kernel
theorem d3_11 : decode method_5_code 11 = .ok (.iadd, 1) := by decide +kernel
theorem d3_12 : decode method_5_code 12 = .ok (.invokestatic 13, 3) := by decide +kernel
theorem d3_15 : decode method_5_code 15 = .ok (.if_icmp .ne 7, 3) := by decide +kernel
theorem d3_22 : decode method_5_code 22 = .ok (.iconst 0, 1) := by decide +kernel
theorem ef3_b0 (m : MethodId) (o0 : Addr) (p1 : Int32) (o2 : Addr) : entryFrame m #[(.ref o0), (.int p1), (.ref o2), (.int (0 : Int32))] 4 = mkF m 0 #[.val (.ref o0), .val (.int p1), .val (.ref o2), .val (.int (0 : Int32))] [] := by first | (simp [entryFrame, mkF, argsToLocals, Value.category]; done) | rfl
set_option maxRecDepth 65536 in
set_option maxHeartbeats 40000000 in
theorem rm3_b0 (l : Launch) (Z : State) (a0 : Array Value) (hw : ∀ d ∈ tables_1, d.before a0 Z = true) (o0 : Addr) (p1 : Int32) (o2 : Addr) (h0 : Heap) (n0 : Nat) (vs : List Value) (x : Int32) (y0 y1 y2 y3 y4 y5 : Int32) (fr : List (Addr × (Cell → Prop))) (O0 : Own.Owns n0 h0 ((o0, Own.ArrC Z .int vs) :: (o2, Own.ArrC Z .char [(.int y0), (.int y1), (.int y2), (.int y3), (.int y4), (.int y5)]) :: fr)) (hlt : (0 : Int32) < p1) (hv : vs[0]? = some (.int x)) : Own.Does l (⟨"com/example/idxof/idxof/FailureFunctionOfPinLaw", "entry", "([II[CI)Z"⟩ : MethodName) method_5_code 4 (some .boolean) [] ({ frames := 2, cells := 0, slots := 0, locals := 36 } : Room) Z #[(.ref o0), (.int p1), (.ref o2), (.int (0 : Int32))] h0 n0 (fun v h => v = some (.int (fE0 x y0 y1 y2 y3 y4 y5)) ∧ h = h0) := by
  refine Own.doesOf pn3 ?_
  intro p e s m below meth c hx hby hml hret hlk hown hnm hZ
  refine Own.Goes.cast (ef3_b0 m o0 p1 o2) ?_
  refine Own.iloadN hx p1 (hb hby d3_0) rfl rfl ?_
  refine Own.iloadN hx (0 : Int32) (hb hby d3_1) rfl rfl ?_
  have hc1 : (0 : Int32) < p1 := hlt
  refine Own.icmpFn hx (Own.q_le p1 (0 : Int32)) (hb hby d3_2) (pcN := 5) rfl (by decide) (pcT := 18) rfl (fun q => absurd hc1 q) (fun _ => ?_)
  refine Own.aloadN hx (.ref o0) (hb hby d3_5) rfl rfl rfl ?_
  refine Own.iloadN hx (0 : Int32) (hb hby d3_6) rfl rfl ?_
  refine Own.iaload hx hZ O0 0 0 rfl (by decide) (v := (.int x)) hv (hb hby d3_7) rfl ?_
  refine Own.aloadN hx (.ref o2) (hb hby d3_8) rfl rfl rfl ?_
  refine Own.iloadN hx (0 : Int32) (hb hby d3_9) rfl rfl ?_
  refine Own.iconst hx (1 : Int32) (hb hby d3_10) rfl (by decide) ?_
  refine Own.iadd hx (hb hby d3_11) rfl ?_
  refine Own.vI (1 : Int32) (by decide) ?_
  have O3 : Own.Owns n0 h0 ((o2, Own.ArrC Z .char [(.int y0), (.int y1), (.int y2), (.int y3), (.int y4), (.int y5)]) :: (o0, Own.ArrC Z .int vs) :: fr) := O0.pick 1 rfl
  refine Own.callS hx hZ hown (hw _ (List.mem_of_getElem? (i := 14) rfl)) (hw _ (List.mem_of_getElem? (i := 15) rfl)) (hw _ (List.mem_of_getElem? (i := 4) rfl)) (hw _ (List.mem_of_getElem? (i := 16) rfl)) (by decide) pd0 (argsL := [(.ref o2), (.int (1 : Int32))]) (rest := [(.int x)]) rfl (W := 1) (Nat.le_of_eq rfl) (rm := ({ frames := 1, cells := 0, slots := 0, locals := 18 } : Room)) (by decide) (by decide) (by decide) (by decide) (k' := 0) (n' := 0) rfl rfl (by rw [hml]; rfl) [(.int (1 : Int32)), (.ref o2), (.int x)] rfl (hb hby d3_12) (pc' := 15) rfl (rm4_1 l Z a0 hw o2 h0 n0 y0 y1 y2 y3 y4 y5 ((o0, Own.ArrC Z .int vs) :: fr) O3) ?_
  rintro _ h' ⟨rfl, eh⟩
  rw [eh]; clear eh h'
  show Own.Goes _ _ _ _ _ _ _ _ _ _ _ _ _ _ _ _ _ (mkF m 15 #[.val (.ref o0), .val (.int p1), .val (.ref o2), .val (.int (0 : Int32))] [(.int (fB1 y0 y1 y2 y3 y4 y5)), (.int x)])
  refine Own.icmpFn hx (Own.q_ne x (fB1 y0 y1 y2 y3 y4 y5)) (hb hby d3_15) (pcN := 18) rfl (by decide) (pcT := 22) rfl (fun hc4 => ?_) (fun hc4 => ?_)
  · refine Own.iconst hx (0 : Int32) (hb hby d3_22) rfl (by decide) ?_
    exact Own.retS hx hret (by simp) hlk (hb hby d3_23) (by decide) (by decide) ⟨by rw [show fE0 x y0 y1 y2 y3 y4 y5 = (0 : Int32) from by simp only [fE0, if_neg hc4]]; try rfl, rfl⟩
  · refine Own.iconst hx (1 : Int32) (hb hby d3_18) rfl (by decide) ?_
    refine Own.goto hx (hb hby d3_19) (by decide) (pc' := 23) rfl ?_
    exact Own.retS hx hret (by simp) hlk (hb hby d3_23) (by decide) (by decide) ⟨by rw [show fE0 x y0 y1 y2 y3 y4 y5 = (1 : Int32) from by simp only [fE0, if_pos hc4]]; try rfl, rfl⟩

def fM2_1 (y0 y1 y2 y3 y4 y5 : Int32) : Int32 := (if y0 = y1 then (1 : Int32) else (0 : Int32))
theorem d5_0 : decode method_3_code 0 = .ok (.iload_n 1, 1) := by decide +kernel
theorem d5_1 : decode method_3_code 1 = .ok (.iload_n 2, 1) := by decide +kernel
theorem d5_2 : decode method_3_code 2 = .ok (.isub, 1) := by decide +kernel
theorem d5_3 : decode method_3_code 3 = .ok (.istore_n 3, 1) := by decide +kernel
theorem d5_4 : decode method_3_code 4 = .ok (.iload_n 2, 1) := by decide +kernel
theorem d5_5 : decode method_3_code 5 = .ok (.iconst 1, 1) := by decide +kernel
theorem d5_6 : decode method_3_code 6 = .ok (.if_icmp .lt 12, 3) := by decide +kernel
theorem d5_9 : decode method_3_code 9 = .ok (.aload_n 0, 1) := by decide +kernel
theorem d5_10 : decode method_3_code 10 = .ok (.iconst 0, 1) := by decide +kernel
theorem d5_11 : decode method_3_code 11 = .ok (.caload, 1) := by decide +kernel
theorem d5_12 : decode method_3_code 12 = .ok (.aload_n 0, 1) := by decide +kernel
theorem d5_13 : decode method_3_code 13 = .ok (.iload_n 3, 1) := by decide +kernel
theorem d5_14 : decode method_3_code 14 = .ok (.caload, 1) := by decide +kernel
theorem d5_15 : decode method_3_code 15 = .ok (.if_icmp .ne 71, 3) := by decide +kernel
theorem d5_18 : decode method_3_code 18 = .ok (.iload_n 2, 1) := by decide +kernel
theorem d5_19 : decode method_3_code 19 = .ok (.iconst 2, 1) := by decide +kernel
theorem d5_20 : decode method_3_code 20 = .ok (.if_icmp .lt 14, 3) := by decide +kernel
theorem d5_34 : decode method_3_code 34 = .ok (.iload_n 2, 1) := by decide +kernel
theorem d5_35 : decode method_3_code 35 = .ok (.iconst 3, 1) := by decide +kernel
theorem d5_36 : decode method_3_code 36 = .ok (.if_icmp .lt 14, 3) := by decide +kernel
theorem d5_50 : decode method_3_code 50 = .ok (.iload_n 2, 1) := by decide +kernel
theorem d5_51 : decode method_3_code 51 = .ok (.iconst 4, 1) := by decide +kernel
theorem d5_52 : decode method_3_code 52 = .ok (.if_icmp .lt 14, 3) := by decide +kernel
theorem d5_66 : decode method_3_code 66 = .ok (.iload_n 2, 1) := by decide +kernel
theorem d5_67 : decode method_3_code 67 = .ok (.iconst 5, 1) := by decide +kernel
theorem d5_68 : decode method_3_code 68 = .ok (.if_icmp .lt 14, 3) := by decide +kernel
theorem d5_82 : decode method_3_code 82 = .ok (.iconst 1, 1) := by decide +kernel
theorem d5_83 : decode method_3_code 83 = .ok (.goto 4, 3) := by decide +kernel
theorem d5_86 : decode method_3_code 86 = .ok (.iconst 0, 1) := by decide +kernel
theorem d5_87 : decode method_3_code 87 = .ok (.ireturn, 1) := by decide +kernel
theorem pn4 : plainFor (⟨"com/example/idxof/idxof/FailureFunctionOfPinLaw", "match", "([CII)Z"⟩ : MethodName) = true := by first | exact plainFor_of_name (by simp [plainName, overriddenIn]; done) | decide +kernel
theorem ef5_2_1 (m : MethodId) (o0 : Addr) : entryFrame m #[(.ref o0), (.int (2 : Int32)), (.int (1 : Int32))] 4 = mkF m 0 #[.val (.ref o0), .val (.int (2 : Int32)), .val (.int (1 : Int32)), .unset] [] := by first | (simp [entryFrame, mkF, argsToLocals, Value.category]; done) | rfl
set_option maxRecDepth 65536 in
set_option maxHeartbeats 40000000 in
theorem rm5_2_1 (l : Launch) (Z : State) (a0 : Array Value) (hw : ∀ d ∈ tables_1, d.before a0 Z = true) (o0 : Addr) (h0 : Heap) (n0 : Nat) (y0 y1 y2 y3 y4 y5 : Int32) (fr : List (Addr × (Cell → Prop))) (O0 : Own.Owns n0 h0 ((o0, Own.ArrC Z .char [(.int y0), (.int y1), (.int y2), (.int y3), (.int y4), (.int y5)]) :: fr))  : Own.Does l (⟨"com/example/idxof/idxof/FailureFunctionOfPinLaw", "match", "([CII)Z"⟩ : MethodName) method_3_code 4 (some .boolean) [] ({ frames := 0, cells := 0, slots := 0, locals := 0 } : Room) Z #[(.ref o0), (.int (2 : Int32)), (.int (1 : Int32))] h0 n0 (fun v h => v = some (.int (fM2_1 y0 y1 y2 y3 y4 y5)) ∧ h = h0) := by
  refine Own.doesOf pn4 ?_
  intro p e s m below meth c hx hby hml hret hlk hown hnm hZ
  refine Own.Goes.cast (ef5_2_1 m o0) ?_
  refine Own.iloadN hx (2 : Int32) (hb hby d5_0) rfl rfl ?_
  refine Own.iloadN hx (1 : Int32) (hb hby d5_1) rfl rfl ?_
  refine Own.isub hx (hb hby d5_2) rfl ?_
  refine Own.vI (1 : Int32) (by decide) ?_
  refine Own.istoreN hx (1 : Int32) rfl #[.val (.ref o0), .val (.int (2 : Int32)), .val (.int (1 : Int32)), .val (.int (1 : Int32))] (hb hby d5_3) rfl rfl ?_
  refine Own.iloadN hx (1 : Int32) (hb hby d5_4) rfl rfl ?_
  refine Own.iconst hx (1 : Int32) (hb hby d5_5) rfl (by decide) ?_
  have hc1 : ¬ ((1 : Int32) < (1 : Int32)) := by decide
  refine Own.icmpF hx (Own.q_lt (1 : Int32) (1 : Int32)) (hb hby d5_6) (pcN := 9) rfl (by decide) (pcT := 18) rfl (fun q => absurd q hc1) (fun _ => ?_)
  refine Own.aloadN hx (.ref o0) (hb hby d5_9) rfl rfl rfl ?_
  refine Own.iconst hx (0 : Int32) (hb hby d5_10) rfl (by decide) ?_
  refine Own.caload hx hZ O0 0 0 rfl (by decide) (v := (.int y0)) rfl (hb hby d5_11) rfl ?_
  refine Own.aloadN hx (.ref o0) (hb hby d5_12) rfl rfl rfl ?_
  refine Own.iloadN hx (1 : Int32) (hb hby d5_13) rfl rfl ?_
  refine Own.caload hx hZ O0 0 1 rfl (by decide) (v := (.int y1)) rfl (hb hby d5_14) rfl ?_
  refine Own.icmpFn hx (Own.q_ne y0 y1) (hb hby d5_15) (pcN := 18) rfl (by decide) (pcT := 86) rfl (fun hc3 => ?_) (fun hc3 => ?_)
  · refine Own.iconst hx (0 : Int32) (hb hby d5_86) rfl (by decide) ?_
    exact Own.retS hx hret (by simp) hlk (hb hby d5_87) (by decide) (by decide) ⟨by rw [show fM2_1 y0 y1 y2 y3 y4 y5 = (0 : Int32) from by simp only [fM2_1, if_neg hc3]]; try rfl, rfl⟩
  · refine Own.iloadN hx (1 : Int32) (hb hby d5_18) rfl rfl ?_
    refine Own.iconst hx (2 : Int32) (hb hby d5_19) rfl (by decide) ?_
    have hc4 : (1 : Int32) < (2 : Int32) := by decide
    refine Own.icmpF hx (Own.q_lt (1 : Int32) (2 : Int32)) (hb hby d5_20) (pcN := 23) rfl (by decide) (pcT := 34) rfl (fun _ => ?_) (fun q => absurd hc4 q)
    refine Own.iloadN hx (1 : Int32) (hb hby d5_34) rfl rfl ?_
    refine Own.iconst hx (3 : Int32) (hb hby d5_35) rfl (by decide) ?_
    have hc6 : (1 : Int32) < (3 : Int32) := by decide
    refine Own.icmpF hx (Own.q_lt (1 : Int32) (3 : Int32)) (hb hby d5_36) (pcN := 39) rfl (by decide) (pcT := 50) rfl (fun _ => ?_) (fun q => absurd hc6 q)
    refine Own.iloadN hx (1 : Int32) (hb hby d5_50) rfl rfl ?_
    refine Own.iconst hx (4 : Int32) (hb hby d5_51) rfl (by decide) ?_
    have hc8 : (1 : Int32) < (4 : Int32) := by decide
    refine Own.icmpF hx (Own.q_lt (1 : Int32) (4 : Int32)) (hb hby d5_52) (pcN := 55) rfl (by decide) (pcT := 66) rfl (fun _ => ?_) (fun q => absurd hc8 q)
    refine Own.iloadN hx (1 : Int32) (hb hby d5_66) rfl rfl ?_
    refine Own.iconst hx (5 : Int32) (hb hby d5_67) rfl (by decide) ?_
    have hc10 : (1 : Int32) < (5 : Int32) := by decide
    refine Own.icmpF hx (Own.q_lt (1 : Int32) (5 : Int32)) (hb hby d5_68) (pcN := 71) rfl (by decide) (pcT := 82) rfl (fun _ => ?_) (fun q => absurd hc10 q)
    refine Own.iconst hx (1 : Int32) (hb hby d5_82) rfl (by decide) ?_
    refine Own.goto hx (hb hby d5_83) (by decide) (pc' := 87) rfl ?_
    exact Own.retS hx hret (by simp) hlk (hb hby d5_87) (by decide) (by decide) ⟨by rw [show fM2_1 y0 y1 y2 y3 y4 y5 = (1 : Int32) from by simp only [fM2_1, if_pos hc3]]; try rfl, rfl⟩

theorem pd1 : parseMethodDescriptor "([CII)Z" = some ⟨[(.array .char), .int, .int], some .boolean⟩ := by decide +kernel
def fB2 (y0 y1 y2 y3 y4 y5 : Int32) : Int32 := (if (fM2_1 y0 y1 y2 y3 y4 y5) = (0 : Int32) then (0 : Int32) else (1 : Int32))
theorem d4_79 : decode method_4_code 79 = .ok (.aload_n 0, 1) := by decide +kernel
theorem d4_80 : decode method_4_code 80 = .ok (.iload_n 1, 1) := by decide +kernel
theorem d4_81 : decode method_4_code 81 = .ok (.iconst 1, 1) := by decide +kernel
theorem d4_82 : decode method_4_code 82 = .ok (.invokestatic 7, 3) := by decide +kernel
theorem d4_85 : decode method_4_code 85 = .ok (.ifCond .eq 5, 3) := by decide +kernel
theorem d4_88 : decode method_4_code 88 = .ok (.iconst 1, 1) := by decide +kernel
theorem d4_89 : decode method_4_code 89 = .ok (.ireturn, 1) := by decide +kernel
theorem ef4_2 (m : MethodId) (o0 : Addr) : entryFrame m #[(.ref o0), (.int (2 : Int32))] 2 = mkF m 0 #[.val (.ref o0), .val (.int (2 : Int32))] [] := by first | (simp [entryFrame, mkF, argsToLocals, Value.category]; done) | rfl
set_option maxRecDepth 65536 in
set_option maxHeartbeats 40000000 in
theorem rm4_2 (l : Launch) (Z : State) (a0 : Array Value) (hw : ∀ d ∈ tables_1, d.before a0 Z = true) (o0 : Addr) (h0 : Heap) (n0 : Nat) (y0 y1 y2 y3 y4 y5 : Int32) (fr : List (Addr × (Cell → Prop))) (O0 : Own.Owns n0 h0 ((o0, Own.ArrC Z .char [(.int y0), (.int y1), (.int y2), (.int y3), (.int y4), (.int y5)]) :: fr))  : Own.Does l (⟨"com/example/idxof/idxof/FailureFunctionOfPinLaw", "border", "([CI)I"⟩ : MethodName) method_4_code 2 (some .int) [] ({ frames := 1, cells := 0, slots := 0, locals := 18 } : Room) Z #[(.ref o0), (.int (2 : Int32))] h0 n0 (fun v h => v = some (.int (fB2 y0 y1 y2 y3 y4 y5)) ∧ h = h0) := by
  refine Own.doesOf pn2 ?_
  intro p e s m below meth c hx hby hml hret hlk hown hnm hZ
  refine Own.Goes.cast (ef4_2 m o0) ?_
  refine Own.iloadN hx (2 : Int32) (hb hby d4_0) rfl rfl ?_
  refine Own.iconst hx (1 : Int32) (hb hby d4_1) rfl (by decide) ?_
  refine Own.isub hx (hb hby d4_2) rfl ?_
  refine Own.vI (1 : Int32) (by decide) ?_
  refine Own.iconst hx (5 : Int32) (hb hby d4_3) rfl (by decide) ?_
  have hc1 : (1 : Int32) < (5 : Int32) := by decide
  refine Own.icmpF hx (Own.q_lt (1 : Int32) (5 : Int32)) (hb hby d4_4) (pcN := 7) rfl (by decide) (pcT := 18) rfl (fun _ => ?_) (fun q => absurd hc1 q)
  refine Own.iloadN hx (2 : Int32) (hb hby d4_18) rfl rfl ?_
  refine Own.iconst hx (1 : Int32) (hb hby d4_19) rfl (by decide) ?_
  refine Own.isub hx (hb hby d4_20) rfl ?_
  refine Own.vI (1 : Int32) (by decide) ?_
  refine Own.iconst hx (4 : Int32) (hb hby d4_21) rfl (by decide) ?_
  have hc3 : (1 : Int32) < (4 : Int32) := by decide
  refine Own.icmpF hx (Own.q_lt (1 : Int32) (4 : Int32)) (hb hby d4_22) (pcN := 25) rfl (by decide) (pcT := 36) rfl (fun _ => ?_) (fun q => absurd hc3 q)
  refine Own.iloadN hx (2 : Int32) (hb hby d4_36) rfl rfl ?_
  refine Own.iconst hx (1 : Int32) (hb hby d4_37) rfl (by decide) ?_
  refine Own.isub hx (hb hby d4_38) rfl ?_
  refine Own.vI (1 : Int32) (by decide) ?_
  refine Own.iconst hx (3 : Int32) (hb hby d4_39) rfl (by decide) ?_
  have hc5 : (1 : Int32) < (3 : Int32) := by decide
  refine Own.icmpF hx (Own.q_lt (1 : Int32) (3 : Int32)) (hb hby d4_40) (pcN := 43) rfl (by decide) (pcT := 54) rfl (fun _ => ?_) (fun q => absurd hc5 q)
  refine Own.iloadN hx (2 : Int32) (hb hby d4_54) rfl rfl ?_
  refine Own.iconst hx (1 : Int32) (hb hby d4_55) rfl (by decide) ?_
  refine Own.isub hx (hb hby d4_56) rfl ?_
  refine Own.vI (1 : Int32) (by decide) ?_
  refine Own.iconst hx (2 : Int32) (hb hby d4_57) rfl (by decide) ?_
  have hc7 : (1 : Int32) < (2 : Int32) := by decide
  refine Own.icmpF hx (Own.q_lt (1 : Int32) (2 : Int32)) (hb hby d4_58) (pcN := 61) rfl (by decide) (pcT := 72) rfl (fun _ => ?_) (fun q => absurd hc7 q)
  refine Own.iloadN hx (2 : Int32) (hb hby d4_72) rfl rfl ?_
  refine Own.iconst hx (1 : Int32) (hb hby d4_73) rfl (by decide) ?_
  refine Own.isub hx (hb hby d4_74) rfl ?_
  refine Own.vI (1 : Int32) (by decide) ?_
  refine Own.iconst hx (1 : Int32) (hb hby d4_75) rfl (by decide) ?_
  have hc9 : ¬ ((1 : Int32) < (1 : Int32)) := by decide
  refine Own.icmpF hx (Own.q_lt (1 : Int32) (1 : Int32)) (hb hby d4_76) (pcN := 79) rfl (by decide) (pcT := 90) rfl (fun q => absurd q hc9) (fun _ => ?_)
  refine Own.aloadN hx (.ref o0) (hb hby d4_79) rfl rfl rfl ?_
  refine Own.iloadN hx (2 : Int32) (hb hby d4_80) rfl rfl ?_
  refine Own.iconst hx (1 : Int32) (hb hby d4_81) rfl (by decide) ?_
  refine Own.callS hx hZ hown (hw _ (List.mem_of_getElem? (i := 17) rfl)) (hw _ (List.mem_of_getElem? (i := 18) rfl)) (hw _ (List.mem_of_getElem? (i := 4) rfl)) (hw _ (List.mem_of_getElem? (i := 19) rfl)) (by decide) pd1 (argsL := [(.ref o0), (.int (2 : Int32)), (.int (1 : Int32))]) (rest := []) rfl (W := 0) (Nat.le_of_eq rfl) (rm := ({ frames := 0, cells := 0, slots := 0, locals := 0 } : Room)) (by decide) (by decide) (by decide) (by decide) (k' := 0) (n' := 0) rfl rfl (by rw [hml]; rfl) [(.int (1 : Int32)), (.int (2 : Int32)), (.ref o0)] rfl (hb hby d4_82) (pc' := 85) rfl (rm5_2_1 l Z a0 hw o0 h0 n0 y0 y1 y2 y3 y4 y5 fr O0) ?_
  rintro _ h' ⟨rfl, eh⟩
  rw [eh]; clear eh h'
  show Own.Goes _ _ _ _ _ _ _ _ _ _ _ _ _ _ _ _ _ (mkF m 85 #[.val (.ref o0), .val (.int (2 : Int32))] [(.int (fM2_1 y0 y1 y2 y3 y4 y5))])
  refine Own.ifF hx (Own.z_eq (fM2_1 y0 y1 y2 y3 y4 y5)) (hb hby d4_85) (pcN := 88) rfl (by decide) (pcT := 90) rfl (fun hc11 => ?_) (fun hc11 => ?_)
  · refine Own.iconst hx (0 : Int32) (hb hby d4_90) rfl (by decide) ?_
    exact Own.retI hx hret hlk (hb hby d4_91) (by decide) (by decide) ⟨by rw [show fB2 y0 y1 y2 y3 y4 y5 = (0 : Int32) from by simp only [fB2, if_pos hc11]]; try rfl, rfl⟩
  · refine Own.iconst hx (1 : Int32) (hb hby d4_88) rfl (by decide) ?_
    exact Own.retI hx hret hlk (hb hby d4_89) (by decide) (by decide) ⟨by rw [show fB2 y0 y1 y2 y3 y4 y5 = (1 : Int32) from by simp only [fB2, if_neg hc11]]; try rfl, rfl⟩

theorem ef3_a1 (m : MethodId) (o0 : Addr) (p1 : Int32) (o2 : Addr) : entryFrame m #[(.ref o0), (.int p1), (.ref o2), (.int (1 : Int32))] 4 = mkF m 0 #[.val (.ref o0), .val (.int p1), .val (.ref o2), .val (.int (1 : Int32))] [] := by first | (simp [entryFrame, mkF, argsToLocals, Value.category]; done) | rfl
set_option maxRecDepth 65536 in
set_option maxHeartbeats 40000000 in
theorem rm3_a1 (l : Launch) (Z : State) (a0 : Array Value) (hw : ∀ d ∈ tables_1, d.before a0 Z = true) (o0 : Addr) (p1 : Int32) (o2 : Addr) (h0 : Heap) (n0 : Nat)  (hge : ¬ ((1 : Int32) < p1)) : Own.Does l (⟨"com/example/idxof/idxof/FailureFunctionOfPinLaw", "entry", "([II[CI)Z"⟩ : MethodName) method_5_code 4 (some .boolean) [] ({ frames := 0, cells := 0, slots := 0, locals := 0 } : Room) Z #[(.ref o0), (.int p1), (.ref o2), (.int (1 : Int32))] h0 n0 (fun v h => v = some (.int 1) ∧ h = h0) := by
  refine Own.doesOf pn3 ?_
  intro p e s m below meth c hx hby hml hret hlk hown hnm hZ
  refine Own.Goes.cast (ef3_a1 m o0 p1 o2) ?_
  refine Own.iloadN hx p1 (hb hby d3_0) rfl rfl ?_
  refine Own.iloadN hx (1 : Int32) (hb hby d3_1) rfl rfl ?_
  have hc1 : ¬ ((1 : Int32) < p1) := hge
  refine Own.icmpFn hx (Own.q_le p1 (1 : Int32)) (hb hby d3_2) (pcN := 5) rfl (by decide) (pcT := 18) rfl (fun _ => ?_) (fun q => absurd q hc1)
  refine Own.iconst hx (1 : Int32) (hb hby d3_18) rfl (by decide) ?_
  refine Own.goto hx (hb hby d3_19) (by decide) (pc' := 23) rfl ?_
  exact Own.retS hx hret (by simp) hlk (hb hby d3_23) (by decide) (by decide) ⟨rfl, rfl⟩

def fE1 (x y0 y1 y2 y3 y4 y5 : Int32) : Int32 := (if x = (fB2 y0 y1 y2 y3 y4 y5) then (1 : Int32) else (0 : Int32))
theorem ef3_b1 (m : MethodId) (o0 : Addr) (p1 : Int32) (o2 : Addr) : entryFrame m #[(.ref o0), (.int p1), (.ref o2), (.int (1 : Int32))] 4 = mkF m 0 #[.val (.ref o0), .val (.int p1), .val (.ref o2), .val (.int (1 : Int32))] [] := by first | (simp [entryFrame, mkF, argsToLocals, Value.category]; done) | rfl
set_option maxRecDepth 65536 in
set_option maxHeartbeats 40000000 in
theorem rm3_b1 (l : Launch) (Z : State) (a0 : Array Value) (hw : ∀ d ∈ tables_1, d.before a0 Z = true) (o0 : Addr) (p1 : Int32) (o2 : Addr) (h0 : Heap) (n0 : Nat) (vs : List Value) (x : Int32) (y0 y1 y2 y3 y4 y5 : Int32) (fr : List (Addr × (Cell → Prop))) (O0 : Own.Owns n0 h0 ((o0, Own.ArrC Z .int vs) :: (o2, Own.ArrC Z .char [(.int y0), (.int y1), (.int y2), (.int y3), (.int y4), (.int y5)]) :: fr)) (hlt : (1 : Int32) < p1) (hv : vs[1]? = some (.int x)) : Own.Does l (⟨"com/example/idxof/idxof/FailureFunctionOfPinLaw", "entry", "([II[CI)Z"⟩ : MethodName) method_5_code 4 (some .boolean) [] ({ frames := 2, cells := 0, slots := 0, locals := 36 } : Room) Z #[(.ref o0), (.int p1), (.ref o2), (.int (1 : Int32))] h0 n0 (fun v h => v = some (.int (fE1 x y0 y1 y2 y3 y4 y5)) ∧ h = h0) := by
  refine Own.doesOf pn3 ?_
  intro p e s m below meth c hx hby hml hret hlk hown hnm hZ
  refine Own.Goes.cast (ef3_b1 m o0 p1 o2) ?_
  refine Own.iloadN hx p1 (hb hby d3_0) rfl rfl ?_
  refine Own.iloadN hx (1 : Int32) (hb hby d3_1) rfl rfl ?_
  have hc1 : (1 : Int32) < p1 := hlt
  refine Own.icmpFn hx (Own.q_le p1 (1 : Int32)) (hb hby d3_2) (pcN := 5) rfl (by decide) (pcT := 18) rfl (fun q => absurd hc1 q) (fun _ => ?_)
  refine Own.aloadN hx (.ref o0) (hb hby d3_5) rfl rfl rfl ?_
  refine Own.iloadN hx (1 : Int32) (hb hby d3_6) rfl rfl ?_
  refine Own.iaload hx hZ O0 0 1 rfl (by decide) (v := (.int x)) hv (hb hby d3_7) rfl ?_
  refine Own.aloadN hx (.ref o2) (hb hby d3_8) rfl rfl rfl ?_
  refine Own.iloadN hx (1 : Int32) (hb hby d3_9) rfl rfl ?_
  refine Own.iconst hx (1 : Int32) (hb hby d3_10) rfl (by decide) ?_
  refine Own.iadd hx (hb hby d3_11) rfl ?_
  refine Own.vI (2 : Int32) (by decide) ?_
  have O3 : Own.Owns n0 h0 ((o2, Own.ArrC Z .char [(.int y0), (.int y1), (.int y2), (.int y3), (.int y4), (.int y5)]) :: (o0, Own.ArrC Z .int vs) :: fr) := O0.pick 1 rfl
  refine Own.callS hx hZ hown (hw _ (List.mem_of_getElem? (i := 14) rfl)) (hw _ (List.mem_of_getElem? (i := 15) rfl)) (hw _ (List.mem_of_getElem? (i := 4) rfl)) (hw _ (List.mem_of_getElem? (i := 16) rfl)) (by decide) pd0 (argsL := [(.ref o2), (.int (2 : Int32))]) (rest := [(.int x)]) rfl (W := 1) (Nat.le_of_eq rfl) (rm := ({ frames := 1, cells := 0, slots := 0, locals := 18 } : Room)) (by decide) (by decide) (by decide) (by decide) (k' := 0) (n' := 0) rfl rfl (by rw [hml]; rfl) [(.int (2 : Int32)), (.ref o2), (.int x)] rfl (hb hby d3_12) (pc' := 15) rfl (rm4_2 l Z a0 hw o2 h0 n0 y0 y1 y2 y3 y4 y5 ((o0, Own.ArrC Z .int vs) :: fr) O3) ?_
  rintro _ h' ⟨rfl, eh⟩
  rw [eh]; clear eh h'
  show Own.Goes _ _ _ _ _ _ _ _ _ _ _ _ _ _ _ _ _ (mkF m 15 #[.val (.ref o0), .val (.int p1), .val (.ref o2), .val (.int (1 : Int32))] [(.int (fB2 y0 y1 y2 y3 y4 y5)), (.int x)])
  refine Own.icmpFn hx (Own.q_ne x (fB2 y0 y1 y2 y3 y4 y5)) (hb hby d3_15) (pcN := 18) rfl (by decide) (pcT := 22) rfl (fun hc4 => ?_) (fun hc4 => ?_)
  · refine Own.iconst hx (0 : Int32) (hb hby d3_22) rfl (by decide) ?_
    exact Own.retS hx hret (by simp) hlk (hb hby d3_23) (by decide) (by decide) ⟨by rw [show fE1 x y0 y1 y2 y3 y4 y5 = (0 : Int32) from by simp only [fE1, if_neg hc4]]; try rfl, rfl⟩
  · refine Own.iconst hx (1 : Int32) (hb hby d3_18) rfl (by decide) ?_
    refine Own.goto hx (hb hby d3_19) (by decide) (pc' := 23) rfl ?_
    exact Own.retS hx hret (by simp) hlk (hb hby d3_23) (by decide) (by decide) ⟨by rw [show fE1 x y0 y1 y2 y3 y4 y5 = (1 : Int32) from by simp only [fE1, if_pos hc4]]; try rfl, rfl⟩

def fM3_1 (y0 y1 y2 y3 y4 y5 : Int32) : Int32 := (if y0 = y2 then (1 : Int32) else (0 : Int32))
theorem ef5_3_1 (m : MethodId) (o0 : Addr) : entryFrame m #[(.ref o0), (.int (3 : Int32)), (.int (1 : Int32))] 4 = mkF m 0 #[.val (.ref o0), .val (.int (3 : Int32)), .val (.int (1 : Int32)), .unset] [] := by first | (simp [entryFrame, mkF, argsToLocals, Value.category]; done) | rfl
set_option maxRecDepth 65536 in
set_option maxHeartbeats 40000000 in
theorem rm5_3_1 (l : Launch) (Z : State) (a0 : Array Value) (hw : ∀ d ∈ tables_1, d.before a0 Z = true) (o0 : Addr) (h0 : Heap) (n0 : Nat) (y0 y1 y2 y3 y4 y5 : Int32) (fr : List (Addr × (Cell → Prop))) (O0 : Own.Owns n0 h0 ((o0, Own.ArrC Z .char [(.int y0), (.int y1), (.int y2), (.int y3), (.int y4), (.int y5)]) :: fr))  : Own.Does l (⟨"com/example/idxof/idxof/FailureFunctionOfPinLaw", "match", "([CII)Z"⟩ : MethodName) method_3_code 4 (some .boolean) [] ({ frames := 0, cells := 0, slots := 0, locals := 0 } : Room) Z #[(.ref o0), (.int (3 : Int32)), (.int (1 : Int32))] h0 n0 (fun v h => v = some (.int (fM3_1 y0 y1 y2 y3 y4 y5)) ∧ h = h0) := by
  refine Own.doesOf pn4 ?_
  intro p e s m below meth c hx hby hml hret hlk hown hnm hZ
  refine Own.Goes.cast (ef5_3_1 m o0) ?_
  refine Own.iloadN hx (3 : Int32) (hb hby d5_0) rfl rfl ?_
  refine Own.iloadN hx (1 : Int32) (hb hby d5_1) rfl rfl ?_
  refine Own.isub hx (hb hby d5_2) rfl ?_
  refine Own.vI (2 : Int32) (by decide) ?_
  refine Own.istoreN hx (2 : Int32) rfl #[.val (.ref o0), .val (.int (3 : Int32)), .val (.int (1 : Int32)), .val (.int (2 : Int32))] (hb hby d5_3) rfl rfl ?_
  refine Own.iloadN hx (1 : Int32) (hb hby d5_4) rfl rfl ?_
  refine Own.iconst hx (1 : Int32) (hb hby d5_5) rfl (by decide) ?_
  have hc1 : ¬ ((1 : Int32) < (1 : Int32)) := by decide
  refine Own.icmpF hx (Own.q_lt (1 : Int32) (1 : Int32)) (hb hby d5_6) (pcN := 9) rfl (by decide) (pcT := 18) rfl (fun q => absurd q hc1) (fun _ => ?_)
  refine Own.aloadN hx (.ref o0) (hb hby d5_9) rfl rfl rfl ?_
  refine Own.iconst hx (0 : Int32) (hb hby d5_10) rfl (by decide) ?_
  refine Own.caload hx hZ O0 0 0 rfl (by decide) (v := (.int y0)) rfl (hb hby d5_11) rfl ?_
  refine Own.aloadN hx (.ref o0) (hb hby d5_12) rfl rfl rfl ?_
  refine Own.iloadN hx (2 : Int32) (hb hby d5_13) rfl rfl ?_
  refine Own.caload hx hZ O0 0 2 rfl (by decide) (v := (.int y2)) rfl (hb hby d5_14) rfl ?_
  refine Own.icmpFn hx (Own.q_ne y0 y2) (hb hby d5_15) (pcN := 18) rfl (by decide) (pcT := 86) rfl (fun hc3 => ?_) (fun hc3 => ?_)
  · refine Own.iconst hx (0 : Int32) (hb hby d5_86) rfl (by decide) ?_
    exact Own.retS hx hret (by simp) hlk (hb hby d5_87) (by decide) (by decide) ⟨by rw [show fM3_1 y0 y1 y2 y3 y4 y5 = (0 : Int32) from by simp only [fM3_1, if_neg hc3]]; try rfl, rfl⟩
  · refine Own.iloadN hx (1 : Int32) (hb hby d5_18) rfl rfl ?_
    refine Own.iconst hx (2 : Int32) (hb hby d5_19) rfl (by decide) ?_
    have hc4 : (1 : Int32) < (2 : Int32) := by decide
    refine Own.icmpF hx (Own.q_lt (1 : Int32) (2 : Int32)) (hb hby d5_20) (pcN := 23) rfl (by decide) (pcT := 34) rfl (fun _ => ?_) (fun q => absurd hc4 q)
    refine Own.iloadN hx (1 : Int32) (hb hby d5_34) rfl rfl ?_
    refine Own.iconst hx (3 : Int32) (hb hby d5_35) rfl (by decide) ?_
    have hc6 : (1 : Int32) < (3 : Int32) := by decide
    refine Own.icmpF hx (Own.q_lt (1 : Int32) (3 : Int32)) (hb hby d5_36) (pcN := 39) rfl (by decide) (pcT := 50) rfl (fun _ => ?_) (fun q => absurd hc6 q)
    refine Own.iloadN hx (1 : Int32) (hb hby d5_50) rfl rfl ?_
    refine Own.iconst hx (4 : Int32) (hb hby d5_51) rfl (by decide) ?_
    have hc8 : (1 : Int32) < (4 : Int32) := by decide
    refine Own.icmpF hx (Own.q_lt (1 : Int32) (4 : Int32)) (hb hby d5_52) (pcN := 55) rfl (by decide) (pcT := 66) rfl (fun _ => ?_) (fun q => absurd hc8 q)
    refine Own.iloadN hx (1 : Int32) (hb hby d5_66) rfl rfl ?_
    refine Own.iconst hx (5 : Int32) (hb hby d5_67) rfl (by decide) ?_
    have hc10 : (1 : Int32) < (5 : Int32) := by decide
    refine Own.icmpF hx (Own.q_lt (1 : Int32) (5 : Int32)) (hb hby d5_68) (pcN := 71) rfl (by decide) (pcT := 82) rfl (fun _ => ?_) (fun q => absurd hc10 q)
    refine Own.iconst hx (1 : Int32) (hb hby d5_82) rfl (by decide) ?_
    refine Own.goto hx (hb hby d5_83) (by decide) (pc' := 87) rfl ?_
    exact Own.retS hx hret (by simp) hlk (hb hby d5_87) (by decide) (by decide) ⟨by rw [show fM3_1 y0 y1 y2 y3 y4 y5 = (1 : Int32) from by simp only [fM3_1, if_pos hc3]]; try rfl, rfl⟩

def fM3_2 (y0 y1 y2 y3 y4 y5 : Int32) : Int32 := (if y0 = y1 then (if y1 = y2 then (1 : Int32) else (0 : Int32)) else (0 : Int32))
theorem d5_23 : decode method_3_code 23 = .ok (.aload_n 0, 1) := by decide +kernel
theorem d5_24 : decode method_3_code 24 = .ok (.iconst 1, 1) := by decide +kernel
theorem d5_25 : decode method_3_code 25 = .ok (.caload, 1) := by decide +kernel
theorem d5_26 : decode method_3_code 26 = .ok (.aload_n 0, 1) := by decide +kernel
theorem d5_27 : decode method_3_code 27 = .ok (.iload_n 3, 1) := by decide +kernel
theorem d5_28 : decode method_3_code 28 = .ok (.iconst 1, 1) := by decide +kernel
theorem d5_29 : decode method_3_code 29 = .ok (.iadd, 1) := by decide +kernel
theorem d5_30 : decode method_3_code 30 = .ok (.caload, 1) := by decide +kernel
theorem d5_31 : decode method_3_code 31 = .ok (.if_icmp .ne 55, 3) := by decide +kernel
theorem ef5_3_2 (m : MethodId) (o0 : Addr) : entryFrame m #[(.ref o0), (.int (3 : Int32)), (.int (2 : Int32))] 4 = mkF m 0 #[.val (.ref o0), .val (.int (3 : Int32)), .val (.int (2 : Int32)), .unset] [] := by first | (simp [entryFrame, mkF, argsToLocals, Value.category]; done) | rfl
set_option maxRecDepth 65536 in
set_option maxHeartbeats 40000000 in
theorem rm5_3_2 (l : Launch) (Z : State) (a0 : Array Value) (hw : ∀ d ∈ tables_1, d.before a0 Z = true) (o0 : Addr) (h0 : Heap) (n0 : Nat) (y0 y1 y2 y3 y4 y5 : Int32) (fr : List (Addr × (Cell → Prop))) (O0 : Own.Owns n0 h0 ((o0, Own.ArrC Z .char [(.int y0), (.int y1), (.int y2), (.int y3), (.int y4), (.int y5)]) :: fr))  : Own.Does l (⟨"com/example/idxof/idxof/FailureFunctionOfPinLaw", "match", "([CII)Z"⟩ : MethodName) method_3_code 4 (some .boolean) [] ({ frames := 0, cells := 0, slots := 0, locals := 0 } : Room) Z #[(.ref o0), (.int (3 : Int32)), (.int (2 : Int32))] h0 n0 (fun v h => v = some (.int (fM3_2 y0 y1 y2 y3 y4 y5)) ∧ h = h0) := by
  refine Own.doesOf pn4 ?_
  intro p e s m below meth c hx hby hml hret hlk hown hnm hZ
  refine Own.Goes.cast (ef5_3_2 m o0) ?_
  refine Own.iloadN hx (3 : Int32) (hb hby d5_0) rfl rfl ?_
  refine Own.iloadN hx (2 : Int32) (hb hby d5_1) rfl rfl ?_
  refine Own.isub hx (hb hby d5_2) rfl ?_
  refine Own.vI (1 : Int32) (by decide) ?_
  refine Own.istoreN hx (1 : Int32) rfl #[.val (.ref o0), .val (.int (3 : Int32)), .val (.int (2 : Int32)), .val (.int (1 : Int32))] (hb hby d5_3) rfl rfl ?_
  refine Own.iloadN hx (2 : Int32) (hb hby d5_4) rfl rfl ?_
  refine Own.iconst hx (1 : Int32) (hb hby d5_5) rfl (by decide) ?_
  have hc1 : ¬ ((2 : Int32) < (1 : Int32)) := by decide
  refine Own.icmpF hx (Own.q_lt (2 : Int32) (1 : Int32)) (hb hby d5_6) (pcN := 9) rfl (by decide) (pcT := 18) rfl (fun q => absurd q hc1) (fun _ => ?_)
  refine Own.aloadN hx (.ref o0) (hb hby d5_9) rfl rfl rfl ?_
  refine Own.iconst hx (0 : Int32) (hb hby d5_10) rfl (by decide) ?_
  refine Own.caload hx hZ O0 0 0 rfl (by decide) (v := (.int y0)) rfl (hb hby d5_11) rfl ?_
  refine Own.aloadN hx (.ref o0) (hb hby d5_12) rfl rfl rfl ?_
  refine Own.iloadN hx (1 : Int32) (hb hby d5_13) rfl rfl ?_
  refine Own.caload hx hZ O0 0 1 rfl (by decide) (v := (.int y1)) rfl (hb hby d5_14) rfl ?_
  refine Own.icmpFn hx (Own.q_ne y0 y1) (hb hby d5_15) (pcN := 18) rfl (by decide) (pcT := 86) rfl (fun hc3 => ?_) (fun hc3 => ?_)
  · refine Own.iconst hx (0 : Int32) (hb hby d5_86) rfl (by decide) ?_
    exact Own.retS hx hret (by simp) hlk (hb hby d5_87) (by decide) (by decide) ⟨by rw [show fM3_2 y0 y1 y2 y3 y4 y5 = (0 : Int32) from by simp only [fM3_2, if_neg hc3]]; try rfl, rfl⟩
  · refine Own.iloadN hx (2 : Int32) (hb hby d5_18) rfl rfl ?_
    refine Own.iconst hx (2 : Int32) (hb hby d5_19) rfl (by decide) ?_
    have hc4 : ¬ ((2 : Int32) < (2 : Int32)) := by decide
    refine Own.icmpF hx (Own.q_lt (2 : Int32) (2 : Int32)) (hb hby d5_20) (pcN := 23) rfl (by decide) (pcT := 34) rfl (fun q => absurd q hc4) (fun _ => ?_)
    refine Own.aloadN hx (.ref o0) (hb hby d5_23) rfl rfl rfl ?_
    refine Own.iconst hx (1 : Int32) (hb hby d5_24) rfl (by decide) ?_
    refine Own.caload hx hZ O0 0 1 rfl (by decide) (v := (.int y1)) rfl (hb hby d5_25) rfl ?_
    refine Own.aloadN hx (.ref o0) (hb hby d5_26) rfl rfl rfl ?_
    refine Own.iloadN hx (1 : Int32) (hb hby d5_27) rfl rfl ?_
    refine Own.iconst hx (1 : Int32) (hb hby d5_28) rfl (by decide) ?_
    refine Own.iadd hx (hb hby d5_29) rfl ?_
    refine Own.vI (2 : Int32) (by decide) ?_
    refine Own.caload hx hZ O0 0 2 rfl (by decide) (v := (.int y2)) rfl (hb hby d5_30) rfl ?_
    refine Own.icmpFn hx (Own.q_ne y1 y2) (hb hby d5_31) (pcN := 34) rfl (by decide) (pcT := 86) rfl (fun hc6 => ?_) (fun hc6 => ?_)
    · refine Own.iconst hx (0 : Int32) (hb hby d5_86) rfl (by decide) ?_
      exact Own.retS hx hret (by simp) hlk (hb hby d5_87) (by decide) (by decide) ⟨by rw [show fM3_2 y0 y1 y2 y3 y4 y5 = (0 : Int32) from by simp only [fM3_2, if_pos hc3, if_neg hc6]]; try rfl, rfl⟩
    · refine Own.iloadN hx (2 : Int32) (hb hby d5_34) rfl rfl ?_
      refine Own.iconst hx (3 : Int32) (hb hby d5_35) rfl (by decide) ?_
      have hc7 : (2 : Int32) < (3 : Int32) := by decide
      refine Own.icmpF hx (Own.q_lt (2 : Int32) (3 : Int32)) (hb hby d5_36) (pcN := 39) rfl (by decide) (pcT := 50) rfl (fun _ => ?_) (fun q => absurd hc7 q)
      refine Own.iloadN hx (2 : Int32) (hb hby d5_50) rfl rfl ?_
      refine Own.iconst hx (4 : Int32) (hb hby d5_51) rfl (by decide) ?_
      have hc9 : (2 : Int32) < (4 : Int32) := by decide
      refine Own.icmpF hx (Own.q_lt (2 : Int32) (4 : Int32)) (hb hby d5_52) (pcN := 55) rfl (by decide) (pcT := 66) rfl (fun _ => ?_) (fun q => absurd hc9 q)
      refine Own.iloadN hx (2 : Int32) (hb hby d5_66) rfl rfl ?_
      refine Own.iconst hx (5 : Int32) (hb hby d5_67) rfl (by decide) ?_
      have hc11 : (2 : Int32) < (5 : Int32) := by decide
      refine Own.icmpF hx (Own.q_lt (2 : Int32) (5 : Int32)) (hb hby d5_68) (pcN := 71) rfl (by decide) (pcT := 82) rfl (fun _ => ?_) (fun q => absurd hc11 q)
      refine Own.iconst hx (1 : Int32) (hb hby d5_82) rfl (by decide) ?_
      refine Own.goto hx (hb hby d5_83) (by decide) (pc' := 87) rfl ?_
      exact Own.retS hx hret (by simp) hlk (hb hby d5_87) (by decide) (by decide) ⟨by rw [show fM3_2 y0 y1 y2 y3 y4 y5 = (1 : Int32) from by simp only [fM3_2, if_pos hc3, if_pos hc6]]; try rfl, rfl⟩

def fB3 (y0 y1 y2 y3 y4 y5 : Int32) : Int32 := (if (fM3_2 y0 y1 y2 y3 y4 y5) = (0 : Int32) then (if (fM3_1 y0 y1 y2 y3 y4 y5) = (0 : Int32) then (0 : Int32) else (1 : Int32)) else (2 : Int32))
theorem d4_61 : decode method_4_code 61 = .ok (.aload_n 0, 1) := by decide +kernel
theorem d4_62 : decode method_4_code 62 = .ok (.iload_n 1, 1) := by decide +kernel
theorem d4_63 : decode method_4_code 63 = .ok (.iconst 2, 1) := by decide +kernel
theorem d4_64 : decode method_4_code 64 = .ok (.invokestatic 7, 3) := by decide +kernel
theorem d4_67 : decode method_4_code 67 = .ok (.ifCond .eq 5, 3) := by decide +kernel
theorem d4_70 : decode method_4_code 70 = .ok (.iconst 2, 1) := by decide +kernel
theorem d4_71 : decode method_4_code 71 = .ok (.ireturn, 1) := by decide +kernel
theorem ef4_3 (m : MethodId) (o0 : Addr) : entryFrame m #[(.ref o0), (.int (3 : Int32))] 2 = mkF m 0 #[.val (.ref o0), .val (.int (3 : Int32))] [] := by first | (simp [entryFrame, mkF, argsToLocals, Value.category]; done) | rfl
set_option maxRecDepth 65536 in
set_option maxHeartbeats 40000000 in
theorem rm4_3 (l : Launch) (Z : State) (a0 : Array Value) (hw : ∀ d ∈ tables_1, d.before a0 Z = true) (o0 : Addr) (h0 : Heap) (n0 : Nat) (y0 y1 y2 y3 y4 y5 : Int32) (fr : List (Addr × (Cell → Prop))) (O0 : Own.Owns n0 h0 ((o0, Own.ArrC Z .char [(.int y0), (.int y1), (.int y2), (.int y3), (.int y4), (.int y5)]) :: fr))  : Own.Does l (⟨"com/example/idxof/idxof/FailureFunctionOfPinLaw", "border", "([CI)I"⟩ : MethodName) method_4_code 2 (some .int) [] ({ frames := 1, cells := 0, slots := 0, locals := 18 } : Room) Z #[(.ref o0), (.int (3 : Int32))] h0 n0 (fun v h => v = some (.int (fB3 y0 y1 y2 y3 y4 y5)) ∧ h = h0) := by
  refine Own.doesOf pn2 ?_
  intro p e s m below meth c hx hby hml hret hlk hown hnm hZ
  refine Own.Goes.cast (ef4_3 m o0) ?_
  refine Own.iloadN hx (3 : Int32) (hb hby d4_0) rfl rfl ?_
  refine Own.iconst hx (1 : Int32) (hb hby d4_1) rfl (by decide) ?_
  refine Own.isub hx (hb hby d4_2) rfl ?_
  refine Own.vI (2 : Int32) (by decide) ?_
  refine Own.iconst hx (5 : Int32) (hb hby d4_3) rfl (by decide) ?_
  have hc1 : (2 : Int32) < (5 : Int32) := by decide
  refine Own.icmpF hx (Own.q_lt (2 : Int32) (5 : Int32)) (hb hby d4_4) (pcN := 7) rfl (by decide) (pcT := 18) rfl (fun _ => ?_) (fun q => absurd hc1 q)
  refine Own.iloadN hx (3 : Int32) (hb hby d4_18) rfl rfl ?_
  refine Own.iconst hx (1 : Int32) (hb hby d4_19) rfl (by decide) ?_
  refine Own.isub hx (hb hby d4_20) rfl ?_
  refine Own.vI (2 : Int32) (by decide) ?_
  refine Own.iconst hx (4 : Int32) (hb hby d4_21) rfl (by decide) ?_
  have hc3 : (2 : Int32) < (4 : Int32) := by decide
  refine Own.icmpF hx (Own.q_lt (2 : Int32) (4 : Int32)) (hb hby d4_22) (pcN := 25) rfl (by decide) (pcT := 36) rfl (fun _ => ?_) (fun q => absurd hc3 q)
  refine Own.iloadN hx (3 : Int32) (hb hby d4_36) rfl rfl ?_
  refine Own.iconst hx (1 : Int32) (hb hby d4_37) rfl (by decide) ?_
  refine Own.isub hx (hb hby d4_38) rfl ?_
  refine Own.vI (2 : Int32) (by decide) ?_
  refine Own.iconst hx (3 : Int32) (hb hby d4_39) rfl (by decide) ?_
  have hc5 : (2 : Int32) < (3 : Int32) := by decide
  refine Own.icmpF hx (Own.q_lt (2 : Int32) (3 : Int32)) (hb hby d4_40) (pcN := 43) rfl (by decide) (pcT := 54) rfl (fun _ => ?_) (fun q => absurd hc5 q)
  refine Own.iloadN hx (3 : Int32) (hb hby d4_54) rfl rfl ?_
  refine Own.iconst hx (1 : Int32) (hb hby d4_55) rfl (by decide) ?_
  refine Own.isub hx (hb hby d4_56) rfl ?_
  refine Own.vI (2 : Int32) (by decide) ?_
  refine Own.iconst hx (2 : Int32) (hb hby d4_57) rfl (by decide) ?_
  have hc7 : ¬ ((2 : Int32) < (2 : Int32)) := by decide
  refine Own.icmpF hx (Own.q_lt (2 : Int32) (2 : Int32)) (hb hby d4_58) (pcN := 61) rfl (by decide) (pcT := 72) rfl (fun q => absurd q hc7) (fun _ => ?_)
  refine Own.aloadN hx (.ref o0) (hb hby d4_61) rfl rfl rfl ?_
  refine Own.iloadN hx (3 : Int32) (hb hby d4_62) rfl rfl ?_
  refine Own.iconst hx (2 : Int32) (hb hby d4_63) rfl (by decide) ?_
  refine Own.callS hx hZ hown (hw _ (List.mem_of_getElem? (i := 17) rfl)) (hw _ (List.mem_of_getElem? (i := 18) rfl)) (hw _ (List.mem_of_getElem? (i := 4) rfl)) (hw _ (List.mem_of_getElem? (i := 19) rfl)) (by decide) pd1 (argsL := [(.ref o0), (.int (3 : Int32)), (.int (2 : Int32))]) (rest := []) rfl (W := 0) (Nat.le_of_eq rfl) (rm := ({ frames := 0, cells := 0, slots := 0, locals := 0 } : Room)) (by decide) (by decide) (by decide) (by decide) (k' := 0) (n' := 0) rfl rfl (by rw [hml]; rfl) [(.int (2 : Int32)), (.int (3 : Int32)), (.ref o0)] rfl (hb hby d4_64) (pc' := 67) rfl (rm5_3_2 l Z a0 hw o0 h0 n0 y0 y1 y2 y3 y4 y5 fr O0) ?_
  rintro _ h' ⟨rfl, eh⟩
  rw [eh]; clear eh h'
  show Own.Goes _ _ _ _ _ _ _ _ _ _ _ _ _ _ _ _ _ (mkF m 67 #[.val (.ref o0), .val (.int (3 : Int32))] [(.int (fM3_2 y0 y1 y2 y3 y4 y5))])
  refine Own.ifF hx (Own.z_eq (fM3_2 y0 y1 y2 y3 y4 y5)) (hb hby d4_67) (pcN := 70) rfl (by decide) (pcT := 72) rfl (fun hc9 => ?_) (fun hc9 => ?_)
  · refine Own.iloadN hx (3 : Int32) (hb hby d4_72) rfl rfl ?_
    refine Own.iconst hx (1 : Int32) (hb hby d4_73) rfl (by decide) ?_
    refine Own.isub hx (hb hby d4_74) rfl ?_
    refine Own.vI (2 : Int32) (by decide) ?_
    refine Own.iconst hx (1 : Int32) (hb hby d4_75) rfl (by decide) ?_
    have hc10 : ¬ ((2 : Int32) < (1 : Int32)) := by decide
    refine Own.icmpF hx (Own.q_lt (2 : Int32) (1 : Int32)) (hb hby d4_76) (pcN := 79) rfl (by decide) (pcT := 90) rfl (fun q => absurd q hc10) (fun _ => ?_)
    refine Own.aloadN hx (.ref o0) (hb hby d4_79) rfl rfl rfl ?_
    refine Own.iloadN hx (3 : Int32) (hb hby d4_80) rfl rfl ?_
    refine Own.iconst hx (1 : Int32) (hb hby d4_81) rfl (by decide) ?_
    refine Own.callS hx hZ hown (hw _ (List.mem_of_getElem? (i := 17) rfl)) (hw _ (List.mem_of_getElem? (i := 18) rfl)) (hw _ (List.mem_of_getElem? (i := 4) rfl)) (hw _ (List.mem_of_getElem? (i := 19) rfl)) (by decide) pd1 (argsL := [(.ref o0), (.int (3 : Int32)), (.int (1 : Int32))]) (rest := []) rfl (W := 0) (Nat.le_of_eq rfl) (rm := ({ frames := 0, cells := 0, slots := 0, locals := 0 } : Room)) (by decide) (by decide) (by decide) (by decide) (k' := 0) (n' := 0) rfl rfl (by rw [hml]; rfl) [(.int (1 : Int32)), (.int (3 : Int32)), (.ref o0)] rfl (hb hby d4_82) (pc' := 85) rfl (rm5_3_1 l Z a0 hw o0 h0 n0 y0 y1 y2 y3 y4 y5 fr O0) ?_
    rintro _ h' ⟨rfl, eh⟩
    rw [eh]; clear eh h'
    show Own.Goes _ _ _ _ _ _ _ _ _ _ _ _ _ _ _ _ _ (mkF m 85 #[.val (.ref o0), .val (.int (3 : Int32))] [(.int (fM3_1 y0 y1 y2 y3 y4 y5))])
    refine Own.ifF hx (Own.z_eq (fM3_1 y0 y1 y2 y3 y4 y5)) (hb hby d4_85) (pcN := 88) rfl (by decide) (pcT := 90) rfl (fun hc12 => ?_) (fun hc12 => ?_)
    · refine Own.iconst hx (0 : Int32) (hb hby d4_90) rfl (by decide) ?_
      exact Own.retI hx hret hlk (hb hby d4_91) (by decide) (by decide) ⟨by rw [show fB3 y0 y1 y2 y3 y4 y5 = (0 : Int32) from by simp only [fB3, if_pos hc9, if_pos hc12]]; try rfl, rfl⟩
    · refine Own.iconst hx (1 : Int32) (hb hby d4_88) rfl (by decide) ?_
      exact Own.retI hx hret hlk (hb hby d4_89) (by decide) (by decide) ⟨by rw [show fB3 y0 y1 y2 y3 y4 y5 = (1 : Int32) from by simp only [fB3, if_pos hc9, if_neg hc12]]; try rfl, rfl⟩
  · refine Own.iconst hx (2 : Int32) (hb hby d4_70) rfl (by decide) ?_
    exact Own.retI hx hret hlk (hb hby d4_71) (by decide) (by decide) ⟨by rw [show fB3 y0 y1 y2 y3 y4 y5 = (2 : Int32) from by simp only [fB3, if_neg hc9]]; try rfl, rfl⟩

theorem ef3_a2 (m : MethodId) (o0 : Addr) (p1 : Int32) (o2 : Addr) : entryFrame m #[(.ref o0), (.int p1), (.ref o2), (.int (2 : Int32))] 4 = mkF m 0 #[.val (.ref o0), .val (.int p1), .val (.ref o2), .val (.int (2 : Int32))] [] := by first | (simp [entryFrame, mkF, argsToLocals, Value.category]; done) | rfl
set_option maxRecDepth 65536 in
set_option maxHeartbeats 40000000 in
theorem rm3_a2 (l : Launch) (Z : State) (a0 : Array Value) (hw : ∀ d ∈ tables_1, d.before a0 Z = true) (o0 : Addr) (p1 : Int32) (o2 : Addr) (h0 : Heap) (n0 : Nat)  (hge : ¬ ((2 : Int32) < p1)) : Own.Does l (⟨"com/example/idxof/idxof/FailureFunctionOfPinLaw", "entry", "([II[CI)Z"⟩ : MethodName) method_5_code 4 (some .boolean) [] ({ frames := 0, cells := 0, slots := 0, locals := 0 } : Room) Z #[(.ref o0), (.int p1), (.ref o2), (.int (2 : Int32))] h0 n0 (fun v h => v = some (.int 1) ∧ h = h0) := by
  refine Own.doesOf pn3 ?_
  intro p e s m below meth c hx hby hml hret hlk hown hnm hZ
  refine Own.Goes.cast (ef3_a2 m o0 p1 o2) ?_
  refine Own.iloadN hx p1 (hb hby d3_0) rfl rfl ?_
  refine Own.iloadN hx (2 : Int32) (hb hby d3_1) rfl rfl ?_
  have hc1 : ¬ ((2 : Int32) < p1) := hge
  refine Own.icmpFn hx (Own.q_le p1 (2 : Int32)) (hb hby d3_2) (pcN := 5) rfl (by decide) (pcT := 18) rfl (fun _ => ?_) (fun q => absurd q hc1)
  refine Own.iconst hx (1 : Int32) (hb hby d3_18) rfl (by decide) ?_
  refine Own.goto hx (hb hby d3_19) (by decide) (pc' := 23) rfl ?_
  exact Own.retS hx hret (by simp) hlk (hb hby d3_23) (by decide) (by decide) ⟨rfl, rfl⟩

def fE2 (x y0 y1 y2 y3 y4 y5 : Int32) : Int32 := (if x = (fB3 y0 y1 y2 y3 y4 y5) then (1 : Int32) else (0 : Int32))
theorem ef3_b2 (m : MethodId) (o0 : Addr) (p1 : Int32) (o2 : Addr) : entryFrame m #[(.ref o0), (.int p1), (.ref o2), (.int (2 : Int32))] 4 = mkF m 0 #[.val (.ref o0), .val (.int p1), .val (.ref o2), .val (.int (2 : Int32))] [] := by first | (simp [entryFrame, mkF, argsToLocals, Value.category]; done) | rfl
set_option maxRecDepth 65536 in
set_option maxHeartbeats 40000000 in
theorem rm3_b2 (l : Launch) (Z : State) (a0 : Array Value) (hw : ∀ d ∈ tables_1, d.before a0 Z = true) (o0 : Addr) (p1 : Int32) (o2 : Addr) (h0 : Heap) (n0 : Nat) (vs : List Value) (x : Int32) (y0 y1 y2 y3 y4 y5 : Int32) (fr : List (Addr × (Cell → Prop))) (O0 : Own.Owns n0 h0 ((o0, Own.ArrC Z .int vs) :: (o2, Own.ArrC Z .char [(.int y0), (.int y1), (.int y2), (.int y3), (.int y4), (.int y5)]) :: fr)) (hlt : (2 : Int32) < p1) (hv : vs[2]? = some (.int x)) : Own.Does l (⟨"com/example/idxof/idxof/FailureFunctionOfPinLaw", "entry", "([II[CI)Z"⟩ : MethodName) method_5_code 4 (some .boolean) [] ({ frames := 2, cells := 0, slots := 0, locals := 36 } : Room) Z #[(.ref o0), (.int p1), (.ref o2), (.int (2 : Int32))] h0 n0 (fun v h => v = some (.int (fE2 x y0 y1 y2 y3 y4 y5)) ∧ h = h0) := by
  refine Own.doesOf pn3 ?_
  intro p e s m below meth c hx hby hml hret hlk hown hnm hZ
  refine Own.Goes.cast (ef3_b2 m o0 p1 o2) ?_
  refine Own.iloadN hx p1 (hb hby d3_0) rfl rfl ?_
  refine Own.iloadN hx (2 : Int32) (hb hby d3_1) rfl rfl ?_
  have hc1 : (2 : Int32) < p1 := hlt
  refine Own.icmpFn hx (Own.q_le p1 (2 : Int32)) (hb hby d3_2) (pcN := 5) rfl (by decide) (pcT := 18) rfl (fun q => absurd hc1 q) (fun _ => ?_)
  refine Own.aloadN hx (.ref o0) (hb hby d3_5) rfl rfl rfl ?_
  refine Own.iloadN hx (2 : Int32) (hb hby d3_6) rfl rfl ?_
  refine Own.iaload hx hZ O0 0 2 rfl (by decide) (v := (.int x)) hv (hb hby d3_7) rfl ?_
  refine Own.aloadN hx (.ref o2) (hb hby d3_8) rfl rfl rfl ?_
  refine Own.iloadN hx (2 : Int32) (hb hby d3_9) rfl rfl ?_
  refine Own.iconst hx (1 : Int32) (hb hby d3_10) rfl (by decide) ?_
  refine Own.iadd hx (hb hby d3_11) rfl ?_
  refine Own.vI (3 : Int32) (by decide) ?_
  have O3 : Own.Owns n0 h0 ((o2, Own.ArrC Z .char [(.int y0), (.int y1), (.int y2), (.int y3), (.int y4), (.int y5)]) :: (o0, Own.ArrC Z .int vs) :: fr) := O0.pick 1 rfl
  refine Own.callS hx hZ hown (hw _ (List.mem_of_getElem? (i := 14) rfl)) (hw _ (List.mem_of_getElem? (i := 15) rfl)) (hw _ (List.mem_of_getElem? (i := 4) rfl)) (hw _ (List.mem_of_getElem? (i := 16) rfl)) (by decide) pd0 (argsL := [(.ref o2), (.int (3 : Int32))]) (rest := [(.int x)]) rfl (W := 1) (Nat.le_of_eq rfl) (rm := ({ frames := 1, cells := 0, slots := 0, locals := 18 } : Room)) (by decide) (by decide) (by decide) (by decide) (k' := 0) (n' := 0) rfl rfl (by rw [hml]; rfl) [(.int (3 : Int32)), (.ref o2), (.int x)] rfl (hb hby d3_12) (pc' := 15) rfl (rm4_3 l Z a0 hw o2 h0 n0 y0 y1 y2 y3 y4 y5 ((o0, Own.ArrC Z .int vs) :: fr) O3) ?_
  rintro _ h' ⟨rfl, eh⟩
  rw [eh]; clear eh h'
  show Own.Goes _ _ _ _ _ _ _ _ _ _ _ _ _ _ _ _ _ (mkF m 15 #[.val (.ref o0), .val (.int p1), .val (.ref o2), .val (.int (2 : Int32))] [(.int (fB3 y0 y1 y2 y3 y4 y5)), (.int x)])
  refine Own.icmpFn hx (Own.q_ne x (fB3 y0 y1 y2 y3 y4 y5)) (hb hby d3_15) (pcN := 18) rfl (by decide) (pcT := 22) rfl (fun hc4 => ?_) (fun hc4 => ?_)
  · refine Own.iconst hx (0 : Int32) (hb hby d3_22) rfl (by decide) ?_
    exact Own.retS hx hret (by simp) hlk (hb hby d3_23) (by decide) (by decide) ⟨by rw [show fE2 x y0 y1 y2 y3 y4 y5 = (0 : Int32) from by simp only [fE2, if_neg hc4]]; try rfl, rfl⟩
  · refine Own.iconst hx (1 : Int32) (hb hby d3_18) rfl (by decide) ?_
    refine Own.goto hx (hb hby d3_19) (by decide) (pc' := 23) rfl ?_
    exact Own.retS hx hret (by simp) hlk (hb hby d3_23) (by decide) (by decide) ⟨by rw [show fE2 x y0 y1 y2 y3 y4 y5 = (1 : Int32) from by simp only [fE2, if_pos hc4]]; try rfl, rfl⟩

def fM4_1 (y0 y1 y2 y3 y4 y5 : Int32) : Int32 := (if y0 = y3 then (1 : Int32) else (0 : Int32))
theorem ef5_4_1 (m : MethodId) (o0 : Addr) : entryFrame m #[(.ref o0), (.int (4 : Int32)), (.int (1 : Int32))] 4 = mkF m 0 #[.val (.ref o0), .val (.int (4 : Int32)), .val (.int (1 : Int32)), .unset] [] := by first | (simp [entryFrame, mkF, argsToLocals, Value.category]; done) | rfl
set_option maxRecDepth 65536 in
set_option maxHeartbeats 40000000 in
theorem rm5_4_1 (l : Launch) (Z : State) (a0 : Array Value) (hw : ∀ d ∈ tables_1, d.before a0 Z = true) (o0 : Addr) (h0 : Heap) (n0 : Nat) (y0 y1 y2 y3 y4 y5 : Int32) (fr : List (Addr × (Cell → Prop))) (O0 : Own.Owns n0 h0 ((o0, Own.ArrC Z .char [(.int y0), (.int y1), (.int y2), (.int y3), (.int y4), (.int y5)]) :: fr))  : Own.Does l (⟨"com/example/idxof/idxof/FailureFunctionOfPinLaw", "match", "([CII)Z"⟩ : MethodName) method_3_code 4 (some .boolean) [] ({ frames := 0, cells := 0, slots := 0, locals := 0 } : Room) Z #[(.ref o0), (.int (4 : Int32)), (.int (1 : Int32))] h0 n0 (fun v h => v = some (.int (fM4_1 y0 y1 y2 y3 y4 y5)) ∧ h = h0) := by
  refine Own.doesOf pn4 ?_
  intro p e s m below meth c hx hby hml hret hlk hown hnm hZ
  refine Own.Goes.cast (ef5_4_1 m o0) ?_
  refine Own.iloadN hx (4 : Int32) (hb hby d5_0) rfl rfl ?_
  refine Own.iloadN hx (1 : Int32) (hb hby d5_1) rfl rfl ?_
  refine Own.isub hx (hb hby d5_2) rfl ?_
  refine Own.vI (3 : Int32) (by decide) ?_
  refine Own.istoreN hx (3 : Int32) rfl #[.val (.ref o0), .val (.int (4 : Int32)), .val (.int (1 : Int32)), .val (.int (3 : Int32))] (hb hby d5_3) rfl rfl ?_
  refine Own.iloadN hx (1 : Int32) (hb hby d5_4) rfl rfl ?_
  refine Own.iconst hx (1 : Int32) (hb hby d5_5) rfl (by decide) ?_
  have hc1 : ¬ ((1 : Int32) < (1 : Int32)) := by decide
  refine Own.icmpF hx (Own.q_lt (1 : Int32) (1 : Int32)) (hb hby d5_6) (pcN := 9) rfl (by decide) (pcT := 18) rfl (fun q => absurd q hc1) (fun _ => ?_)
  refine Own.aloadN hx (.ref o0) (hb hby d5_9) rfl rfl rfl ?_
  refine Own.iconst hx (0 : Int32) (hb hby d5_10) rfl (by decide) ?_
  refine Own.caload hx hZ O0 0 0 rfl (by decide) (v := (.int y0)) rfl (hb hby d5_11) rfl ?_
  refine Own.aloadN hx (.ref o0) (hb hby d5_12) rfl rfl rfl ?_
  refine Own.iloadN hx (3 : Int32) (hb hby d5_13) rfl rfl ?_
  refine Own.caload hx hZ O0 0 3 rfl (by decide) (v := (.int y3)) rfl (hb hby d5_14) rfl ?_
  refine Own.icmpFn hx (Own.q_ne y0 y3) (hb hby d5_15) (pcN := 18) rfl (by decide) (pcT := 86) rfl (fun hc3 => ?_) (fun hc3 => ?_)
  · refine Own.iconst hx (0 : Int32) (hb hby d5_86) rfl (by decide) ?_
    exact Own.retS hx hret (by simp) hlk (hb hby d5_87) (by decide) (by decide) ⟨by rw [show fM4_1 y0 y1 y2 y3 y4 y5 = (0 : Int32) from by simp only [fM4_1, if_neg hc3]]; try rfl, rfl⟩
  · refine Own.iloadN hx (1 : Int32) (hb hby d5_18) rfl rfl ?_
    refine Own.iconst hx (2 : Int32) (hb hby d5_19) rfl (by decide) ?_
    have hc4 : (1 : Int32) < (2 : Int32) := by decide
    refine Own.icmpF hx (Own.q_lt (1 : Int32) (2 : Int32)) (hb hby d5_20) (pcN := 23) rfl (by decide) (pcT := 34) rfl (fun _ => ?_) (fun q => absurd hc4 q)
    refine Own.iloadN hx (1 : Int32) (hb hby d5_34) rfl rfl ?_
    refine Own.iconst hx (3 : Int32) (hb hby d5_35) rfl (by decide) ?_
    have hc6 : (1 : Int32) < (3 : Int32) := by decide
    refine Own.icmpF hx (Own.q_lt (1 : Int32) (3 : Int32)) (hb hby d5_36) (pcN := 39) rfl (by decide) (pcT := 50) rfl (fun _ => ?_) (fun q => absurd hc6 q)
    refine Own.iloadN hx (1 : Int32) (hb hby d5_50) rfl rfl ?_
    refine Own.iconst hx (4 : Int32) (hb hby d5_51) rfl (by decide) ?_
    have hc8 : (1 : Int32) < (4 : Int32) := by decide
    refine Own.icmpF hx (Own.q_lt (1 : Int32) (4 : Int32)) (hb hby d5_52) (pcN := 55) rfl (by decide) (pcT := 66) rfl (fun _ => ?_) (fun q => absurd hc8 q)
    refine Own.iloadN hx (1 : Int32) (hb hby d5_66) rfl rfl ?_
    refine Own.iconst hx (5 : Int32) (hb hby d5_67) rfl (by decide) ?_
    have hc10 : (1 : Int32) < (5 : Int32) := by decide
    refine Own.icmpF hx (Own.q_lt (1 : Int32) (5 : Int32)) (hb hby d5_68) (pcN := 71) rfl (by decide) (pcT := 82) rfl (fun _ => ?_) (fun q => absurd hc10 q)
    refine Own.iconst hx (1 : Int32) (hb hby d5_82) rfl (by decide) ?_
    refine Own.goto hx (hb hby d5_83) (by decide) (pc' := 87) rfl ?_
    exact Own.retS hx hret (by simp) hlk (hb hby d5_87) (by decide) (by decide) ⟨by rw [show fM4_1 y0 y1 y2 y3 y4 y5 = (1 : Int32) from by simp only [fM4_1, if_pos hc3]]; try rfl, rfl⟩

def fM4_2 (y0 y1 y2 y3 y4 y5 : Int32) : Int32 := (if y0 = y2 then (if y1 = y3 then (1 : Int32) else (0 : Int32)) else (0 : Int32))
theorem ef5_4_2 (m : MethodId) (o0 : Addr) : entryFrame m #[(.ref o0), (.int (4 : Int32)), (.int (2 : Int32))] 4 = mkF m 0 #[.val (.ref o0), .val (.int (4 : Int32)), .val (.int (2 : Int32)), .unset] [] := by first | (simp [entryFrame, mkF, argsToLocals, Value.category]; done) | rfl
set_option maxRecDepth 65536 in
set_option maxHeartbeats 40000000 in
theorem rm5_4_2 (l : Launch) (Z : State) (a0 : Array Value) (hw : ∀ d ∈ tables_1, d.before a0 Z = true) (o0 : Addr) (h0 : Heap) (n0 : Nat) (y0 y1 y2 y3 y4 y5 : Int32) (fr : List (Addr × (Cell → Prop))) (O0 : Own.Owns n0 h0 ((o0, Own.ArrC Z .char [(.int y0), (.int y1), (.int y2), (.int y3), (.int y4), (.int y5)]) :: fr))  : Own.Does l (⟨"com/example/idxof/idxof/FailureFunctionOfPinLaw", "match", "([CII)Z"⟩ : MethodName) method_3_code 4 (some .boolean) [] ({ frames := 0, cells := 0, slots := 0, locals := 0 } : Room) Z #[(.ref o0), (.int (4 : Int32)), (.int (2 : Int32))] h0 n0 (fun v h => v = some (.int (fM4_2 y0 y1 y2 y3 y4 y5)) ∧ h = h0) := by
  refine Own.doesOf pn4 ?_
  intro p e s m below meth c hx hby hml hret hlk hown hnm hZ
  refine Own.Goes.cast (ef5_4_2 m o0) ?_
  refine Own.iloadN hx (4 : Int32) (hb hby d5_0) rfl rfl ?_
  refine Own.iloadN hx (2 : Int32) (hb hby d5_1) rfl rfl ?_
  refine Own.isub hx (hb hby d5_2) rfl ?_
  refine Own.vI (2 : Int32) (by decide) ?_
  refine Own.istoreN hx (2 : Int32) rfl #[.val (.ref o0), .val (.int (4 : Int32)), .val (.int (2 : Int32)), .val (.int (2 : Int32))] (hb hby d5_3) rfl rfl ?_
  refine Own.iloadN hx (2 : Int32) (hb hby d5_4) rfl rfl ?_
  refine Own.iconst hx (1 : Int32) (hb hby d5_5) rfl (by decide) ?_
  have hc1 : ¬ ((2 : Int32) < (1 : Int32)) := by decide
  refine Own.icmpF hx (Own.q_lt (2 : Int32) (1 : Int32)) (hb hby d5_6) (pcN := 9) rfl (by decide) (pcT := 18) rfl (fun q => absurd q hc1) (fun _ => ?_)
  refine Own.aloadN hx (.ref o0) (hb hby d5_9) rfl rfl rfl ?_
  refine Own.iconst hx (0 : Int32) (hb hby d5_10) rfl (by decide) ?_
  refine Own.caload hx hZ O0 0 0 rfl (by decide) (v := (.int y0)) rfl (hb hby d5_11) rfl ?_
  refine Own.aloadN hx (.ref o0) (hb hby d5_12) rfl rfl rfl ?_
  refine Own.iloadN hx (2 : Int32) (hb hby d5_13) rfl rfl ?_
  refine Own.caload hx hZ O0 0 2 rfl (by decide) (v := (.int y2)) rfl (hb hby d5_14) rfl ?_
  refine Own.icmpFn hx (Own.q_ne y0 y2) (hb hby d5_15) (pcN := 18) rfl (by decide) (pcT := 86) rfl (fun hc3 => ?_) (fun hc3 => ?_)
  · refine Own.iconst hx (0 : Int32) (hb hby d5_86) rfl (by decide) ?_
    exact Own.retS hx hret (by simp) hlk (hb hby d5_87) (by decide) (by decide) ⟨by rw [show fM4_2 y0 y1 y2 y3 y4 y5 = (0 : Int32) from by simp only [fM4_2, if_neg hc3]]; try rfl, rfl⟩
  · refine Own.iloadN hx (2 : Int32) (hb hby d5_18) rfl rfl ?_
    refine Own.iconst hx (2 : Int32) (hb hby d5_19) rfl (by decide) ?_
    have hc4 : ¬ ((2 : Int32) < (2 : Int32)) := by decide
    refine Own.icmpF hx (Own.q_lt (2 : Int32) (2 : Int32)) (hb hby d5_20) (pcN := 23) rfl (by decide) (pcT := 34) rfl (fun q => absurd q hc4) (fun _ => ?_)
    refine Own.aloadN hx (.ref o0) (hb hby d5_23) rfl rfl rfl ?_
    refine Own.iconst hx (1 : Int32) (hb hby d5_24) rfl (by decide) ?_
    refine Own.caload hx hZ O0 0 1 rfl (by decide) (v := (.int y1)) rfl (hb hby d5_25) rfl ?_
    refine Own.aloadN hx (.ref o0) (hb hby d5_26) rfl rfl rfl ?_
    refine Own.iloadN hx (2 : Int32) (hb hby d5_27) rfl rfl ?_
    refine Own.iconst hx (1 : Int32) (hb hby d5_28) rfl (by decide) ?_
    refine Own.iadd hx (hb hby d5_29) rfl ?_
    refine Own.vI (3 : Int32) (by decide) ?_
    refine Own.caload hx hZ O0 0 3 rfl (by decide) (v := (.int y3)) rfl (hb hby d5_30) rfl ?_
    refine Own.icmpFn hx (Own.q_ne y1 y3) (hb hby d5_31) (pcN := 34) rfl (by decide) (pcT := 86) rfl (fun hc6 => ?_) (fun hc6 => ?_)
    · refine Own.iconst hx (0 : Int32) (hb hby d5_86) rfl (by decide) ?_
      exact Own.retS hx hret (by simp) hlk (hb hby d5_87) (by decide) (by decide) ⟨by rw [show fM4_2 y0 y1 y2 y3 y4 y5 = (0 : Int32) from by simp only [fM4_2, if_pos hc3, if_neg hc6]]; try rfl, rfl⟩
    · refine Own.iloadN hx (2 : Int32) (hb hby d5_34) rfl rfl ?_
      refine Own.iconst hx (3 : Int32) (hb hby d5_35) rfl (by decide) ?_
      have hc7 : (2 : Int32) < (3 : Int32) := by decide
      refine Own.icmpF hx (Own.q_lt (2 : Int32) (3 : Int32)) (hb hby d5_36) (pcN := 39) rfl (by decide) (pcT := 50) rfl (fun _ => ?_) (fun q => absurd hc7 q)
      refine Own.iloadN hx (2 : Int32) (hb hby d5_50) rfl rfl ?_
      refine Own.iconst hx (4 : Int32) (hb hby d5_51) rfl (by decide) ?_
      have hc9 : (2 : Int32) < (4 : Int32) := by decide
      refine Own.icmpF hx (Own.q_lt (2 : Int32) (4 : Int32)) (hb hby d5_52) (pcN := 55) rfl (by decide) (pcT := 66) rfl (fun _ => ?_) (fun q => absurd hc9 q)
      refine Own.iloadN hx (2 : Int32) (hb hby d5_66) rfl rfl ?_
      refine Own.iconst hx (5 : Int32) (hb hby d5_67) rfl (by decide) ?_
      have hc11 : (2 : Int32) < (5 : Int32) := by decide
      refine Own.icmpF hx (Own.q_lt (2 : Int32) (5 : Int32)) (hb hby d5_68) (pcN := 71) rfl (by decide) (pcT := 82) rfl (fun _ => ?_) (fun q => absurd hc11 q)
      refine Own.iconst hx (1 : Int32) (hb hby d5_82) rfl (by decide) ?_
      refine Own.goto hx (hb hby d5_83) (by decide) (pc' := 87) rfl ?_
      exact Own.retS hx hret (by simp) hlk (hb hby d5_87) (by decide) (by decide) ⟨by rw [show fM4_2 y0 y1 y2 y3 y4 y5 = (1 : Int32) from by simp only [fM4_2, if_pos hc3, if_pos hc6]]; try rfl, rfl⟩

def fM4_3 (y0 y1 y2 y3 y4 y5 : Int32) : Int32 := (if y0 = y1 then (if y1 = y2 then (if y2 = y3 then (1 : Int32) else (0 : Int32)) else (0 : Int32)) else (0 : Int32))
theorem d5_39 : decode method_3_code 39 = .ok (.aload_n 0, 1) := by decide +kernel
theorem d5_40 : decode method_3_code 40 = .ok (.iconst 2, 1) := by decide +kernel
theorem d5_41 : decode method_3_code 41 = .ok (.caload, 1) := by decide +kernel
theorem d5_42 : decode method_3_code 42 = .ok (.aload_n 0, 1) := by decide +kernel
theorem d5_43 : decode method_3_code 43 = .ok (.iload_n 3, 1) := by decide +kernel
theorem d5_44 : decode method_3_code 44 = .ok (.iconst 2, 1) := by decide +kernel
theorem d5_45 : decode method_3_code 45 = .ok (.iadd, 1) := by decide +kernel
theorem d5_46 : decode method_3_code 46 = .ok (.caload, 1) := by decide +kernel
theorem d5_47 : decode method_3_code 47 = .ok (.if_icmp .ne 39, 3) := by decide +kernel
theorem ef5_4_3 (m : MethodId) (o0 : Addr) : entryFrame m #[(.ref o0), (.int (4 : Int32)), (.int (3 : Int32))] 4 = mkF m 0 #[.val (.ref o0), .val (.int (4 : Int32)), .val (.int (3 : Int32)), .unset] [] := by first | (simp [entryFrame, mkF, argsToLocals, Value.category]; done) | rfl
set_option maxRecDepth 65536 in
set_option maxHeartbeats 40000000 in
theorem rm5_4_3 (l : Launch) (Z : State) (a0 : Array Value) (hw : ∀ d ∈ tables_1, d.before a0 Z = true) (o0 : Addr) (h0 : Heap) (n0 : Nat) (y0 y1 y2 y3 y4 y5 : Int32) (fr : List (Addr × (Cell → Prop))) (O0 : Own.Owns n0 h0 ((o0, Own.ArrC Z .char [(.int y0), (.int y1), (.int y2), (.int y3), (.int y4), (.int y5)]) :: fr))  : Own.Does l (⟨"com/example/idxof/idxof/FailureFunctionOfPinLaw", "match", "([CII)Z"⟩ : MethodName) method_3_code 4 (some .boolean) [] ({ frames := 0, cells := 0, slots := 0, locals := 0 } : Room) Z #[(.ref o0), (.int (4 : Int32)), (.int (3 : Int32))] h0 n0 (fun v h => v = some (.int (fM4_3 y0 y1 y2 y3 y4 y5)) ∧ h = h0) := by
  refine Own.doesOf pn4 ?_
  intro p e s m below meth c hx hby hml hret hlk hown hnm hZ
  refine Own.Goes.cast (ef5_4_3 m o0) ?_
  refine Own.iloadN hx (4 : Int32) (hb hby d5_0) rfl rfl ?_
  refine Own.iloadN hx (3 : Int32) (hb hby d5_1) rfl rfl ?_
  refine Own.isub hx (hb hby d5_2) rfl ?_
  refine Own.vI (1 : Int32) (by decide) ?_
  refine Own.istoreN hx (1 : Int32) rfl #[.val (.ref o0), .val (.int (4 : Int32)), .val (.int (3 : Int32)), .val (.int (1 : Int32))] (hb hby d5_3) rfl rfl ?_
  refine Own.iloadN hx (3 : Int32) (hb hby d5_4) rfl rfl ?_
  refine Own.iconst hx (1 : Int32) (hb hby d5_5) rfl (by decide) ?_
  have hc1 : ¬ ((3 : Int32) < (1 : Int32)) := by decide
  refine Own.icmpF hx (Own.q_lt (3 : Int32) (1 : Int32)) (hb hby d5_6) (pcN := 9) rfl (by decide) (pcT := 18) rfl (fun q => absurd q hc1) (fun _ => ?_)
  refine Own.aloadN hx (.ref o0) (hb hby d5_9) rfl rfl rfl ?_
  refine Own.iconst hx (0 : Int32) (hb hby d5_10) rfl (by decide) ?_
  refine Own.caload hx hZ O0 0 0 rfl (by decide) (v := (.int y0)) rfl (hb hby d5_11) rfl ?_
  refine Own.aloadN hx (.ref o0) (hb hby d5_12) rfl rfl rfl ?_
  refine Own.iloadN hx (1 : Int32) (hb hby d5_13) rfl rfl ?_
  refine Own.caload hx hZ O0 0 1 rfl (by decide) (v := (.int y1)) rfl (hb hby d5_14) rfl ?_
  refine Own.icmpFn hx (Own.q_ne y0 y1) (hb hby d5_15) (pcN := 18) rfl (by decide) (pcT := 86) rfl (fun hc3 => ?_) (fun hc3 => ?_)
  · refine Own.iconst hx (0 : Int32) (hb hby d5_86) rfl (by decide) ?_
    exact Own.retS hx hret (by simp) hlk (hb hby d5_87) (by decide) (by decide) ⟨by rw [show fM4_3 y0 y1 y2 y3 y4 y5 = (0 : Int32) from by simp only [fM4_3, if_neg hc3]]; try rfl, rfl⟩
  · refine Own.iloadN hx (3 : Int32) (hb hby d5_18) rfl rfl ?_
    refine Own.iconst hx (2 : Int32) (hb hby d5_19) rfl (by decide) ?_
    have hc4 : ¬ ((3 : Int32) < (2 : Int32)) := by decide
    refine Own.icmpF hx (Own.q_lt (3 : Int32) (2 : Int32)) (hb hby d5_20) (pcN := 23) rfl (by decide) (pcT := 34) rfl (fun q => absurd q hc4) (fun _ => ?_)
    refine Own.aloadN hx (.ref o0) (hb hby d5_23) rfl rfl rfl ?_
    refine Own.iconst hx (1 : Int32) (hb hby d5_24) rfl (by decide) ?_
    refine Own.caload hx hZ O0 0 1 rfl (by decide) (v := (.int y1)) rfl (hb hby d5_25) rfl ?_
    refine Own.aloadN hx (.ref o0) (hb hby d5_26) rfl rfl rfl ?_
    refine Own.iloadN hx (1 : Int32) (hb hby d5_27) rfl rfl ?_
    refine Own.iconst hx (1 : Int32) (hb hby d5_28) rfl (by decide) ?_
    refine Own.iadd hx (hb hby d5_29) rfl ?_
    refine Own.vI (2 : Int32) (by decide) ?_
    refine Own.caload hx hZ O0 0 2 rfl (by decide) (v := (.int y2)) rfl (hb hby d5_30) rfl ?_
    refine Own.icmpFn hx (Own.q_ne y1 y2) (hb hby d5_31) (pcN := 34) rfl (by decide) (pcT := 86) rfl (fun hc6 => ?_) (fun hc6 => ?_)
    · refine Own.iconst hx (0 : Int32) (hb hby d5_86) rfl (by decide) ?_
      exact Own.retS hx hret (by simp) hlk (hb hby d5_87) (by decide) (by decide) ⟨by rw [show fM4_3 y0 y1 y2 y3 y4 y5 = (0 : Int32) from by simp only [fM4_3, if_pos hc3, if_neg hc6]]; try rfl, rfl⟩
    · refine Own.iloadN hx (3 : Int32) (hb hby d5_34) rfl rfl ?_
      refine Own.iconst hx (3 : Int32) (hb hby d5_35) rfl (by decide) ?_
      have hc7 : ¬ ((3 : Int32) < (3 : Int32)) := by decide
      refine Own.icmpF hx (Own.q_lt (3 : Int32) (3 : Int32)) (hb hby d5_36) (pcN := 39) rfl (by decide) (pcT := 50) rfl (fun q => absurd q hc7) (fun _ => ?_)
      refine Own.aloadN hx (.ref o0) (hb hby d5_39) rfl rfl rfl ?_
      refine Own.iconst hx (2 : Int32) (hb hby d5_40) rfl (by decide) ?_
      refine Own.caload hx hZ O0 0 2 rfl (by decide) (v := (.int y2)) rfl (hb hby d5_41) rfl ?_
      refine Own.aloadN hx (.ref o0) (hb hby d5_42) rfl rfl rfl ?_
      refine Own.iloadN hx (1 : Int32) (hb hby d5_43) rfl rfl ?_
      refine Own.iconst hx (2 : Int32) (hb hby d5_44) rfl (by decide) ?_
      refine Own.iadd hx (hb hby d5_45) rfl ?_
      refine Own.vI (3 : Int32) (by decide) ?_
      refine Own.caload hx hZ O0 0 3 rfl (by decide) (v := (.int y3)) rfl (hb hby d5_46) rfl ?_
      refine Own.icmpFn hx (Own.q_ne y2 y3) (hb hby d5_47) (pcN := 50) rfl (by decide) (pcT := 86) rfl (fun hc9 => ?_) (fun hc9 => ?_)
      · refine Own.iconst hx (0 : Int32) (hb hby d5_86) rfl (by decide) ?_
        exact Own.retS hx hret (by simp) hlk (hb hby d5_87) (by decide) (by decide) ⟨by rw [show fM4_3 y0 y1 y2 y3 y4 y5 = (0 : Int32) from by simp only [fM4_3, if_pos hc3, if_pos hc6, if_neg hc9]]; try rfl, rfl⟩
      · refine Own.iloadN hx (3 : Int32) (hb hby d5_50) rfl rfl ?_
        refine Own.iconst hx (4 : Int32) (hb hby d5_51) rfl (by decide) ?_
        have hc10 : (3 : Int32) < (4 : Int32) := by decide
        refine Own.icmpF hx (Own.q_lt (3 : Int32) (4 : Int32)) (hb hby d5_52) (pcN := 55) rfl (by decide) (pcT := 66) rfl (fun _ => ?_) (fun q => absurd hc10 q)
        refine Own.iloadN hx (3 : Int32) (hb hby d5_66) rfl rfl ?_
        refine Own.iconst hx (5 : Int32) (hb hby d5_67) rfl (by decide) ?_
        have hc12 : (3 : Int32) < (5 : Int32) := by decide
        refine Own.icmpF hx (Own.q_lt (3 : Int32) (5 : Int32)) (hb hby d5_68) (pcN := 71) rfl (by decide) (pcT := 82) rfl (fun _ => ?_) (fun q => absurd hc12 q)
        refine Own.iconst hx (1 : Int32) (hb hby d5_82) rfl (by decide) ?_
        refine Own.goto hx (hb hby d5_83) (by decide) (pc' := 87) rfl ?_
        exact Own.retS hx hret (by simp) hlk (hb hby d5_87) (by decide) (by decide) ⟨by rw [show fM4_3 y0 y1 y2 y3 y4 y5 = (1 : Int32) from by simp only [fM4_3, if_pos hc3, if_pos hc6, if_pos hc9]]; try rfl, rfl⟩

def fB4 (y0 y1 y2 y3 y4 y5 : Int32) : Int32 := (if (fM4_3 y0 y1 y2 y3 y4 y5) = (0 : Int32) then (if (fM4_2 y0 y1 y2 y3 y4 y5) = (0 : Int32) then (if (fM4_1 y0 y1 y2 y3 y4 y5) = (0 : Int32) then (0 : Int32) else (1 : Int32)) else (2 : Int32)) else (3 : Int32))
theorem d4_43 : decode method_4_code 43 = .ok (.aload_n 0, 1) := by decide +kernel
theorem d4_44 : decode method_4_code 44 = .ok (.iload_n 1, 1) := by decide +kernel
theorem d4_45 : decode method_4_code 45 = .ok (.iconst 3, 1) := by decide +kernel
theorem d4_46 : decode method_4_code 46 = .ok (.invokestatic 7, 3) := by decide +kernel
theorem d4_49 : decode method_4_code 49 = .ok (.ifCond .eq 5, 3) := by decide +kernel
theorem d4_52 : decode method_4_code 52 = .ok (.iconst 3, 1) := by decide +kernel
theorem d4_53 : decode method_4_code 53 = .ok (.ireturn, 1) := by decide +kernel
theorem ef4_4 (m : MethodId) (o0 : Addr) : entryFrame m #[(.ref o0), (.int (4 : Int32))] 2 = mkF m 0 #[.val (.ref o0), .val (.int (4 : Int32))] [] := by first | (simp [entryFrame, mkF, argsToLocals, Value.category]; done) | rfl
set_option maxRecDepth 65536 in
set_option maxHeartbeats 40000000 in
theorem rm4_4 (l : Launch) (Z : State) (a0 : Array Value) (hw : ∀ d ∈ tables_1, d.before a0 Z = true) (o0 : Addr) (h0 : Heap) (n0 : Nat) (y0 y1 y2 y3 y4 y5 : Int32) (fr : List (Addr × (Cell → Prop))) (O0 : Own.Owns n0 h0 ((o0, Own.ArrC Z .char [(.int y0), (.int y1), (.int y2), (.int y3), (.int y4), (.int y5)]) :: fr))  : Own.Does l (⟨"com/example/idxof/idxof/FailureFunctionOfPinLaw", "border", "([CI)I"⟩ : MethodName) method_4_code 2 (some .int) [] ({ frames := 1, cells := 0, slots := 0, locals := 18 } : Room) Z #[(.ref o0), (.int (4 : Int32))] h0 n0 (fun v h => v = some (.int (fB4 y0 y1 y2 y3 y4 y5)) ∧ h = h0) := by
  refine Own.doesOf pn2 ?_
  intro p e s m below meth c hx hby hml hret hlk hown hnm hZ
  refine Own.Goes.cast (ef4_4 m o0) ?_
  refine Own.iloadN hx (4 : Int32) (hb hby d4_0) rfl rfl ?_
  refine Own.iconst hx (1 : Int32) (hb hby d4_1) rfl (by decide) ?_
  refine Own.isub hx (hb hby d4_2) rfl ?_
  refine Own.vI (3 : Int32) (by decide) ?_
  refine Own.iconst hx (5 : Int32) (hb hby d4_3) rfl (by decide) ?_
  have hc1 : (3 : Int32) < (5 : Int32) := by decide
  refine Own.icmpF hx (Own.q_lt (3 : Int32) (5 : Int32)) (hb hby d4_4) (pcN := 7) rfl (by decide) (pcT := 18) rfl (fun _ => ?_) (fun q => absurd hc1 q)
  refine Own.iloadN hx (4 : Int32) (hb hby d4_18) rfl rfl ?_
  refine Own.iconst hx (1 : Int32) (hb hby d4_19) rfl (by decide) ?_
  refine Own.isub hx (hb hby d4_20) rfl ?_
  refine Own.vI (3 : Int32) (by decide) ?_
  refine Own.iconst hx (4 : Int32) (hb hby d4_21) rfl (by decide) ?_
  have hc3 : (3 : Int32) < (4 : Int32) := by decide
  refine Own.icmpF hx (Own.q_lt (3 : Int32) (4 : Int32)) (hb hby d4_22) (pcN := 25) rfl (by decide) (pcT := 36) rfl (fun _ => ?_) (fun q => absurd hc3 q)
  refine Own.iloadN hx (4 : Int32) (hb hby d4_36) rfl rfl ?_
  refine Own.iconst hx (1 : Int32) (hb hby d4_37) rfl (by decide) ?_
  refine Own.isub hx (hb hby d4_38) rfl ?_
  refine Own.vI (3 : Int32) (by decide) ?_
  refine Own.iconst hx (3 : Int32) (hb hby d4_39) rfl (by decide) ?_
  have hc5 : ¬ ((3 : Int32) < (3 : Int32)) := by decide
  refine Own.icmpF hx (Own.q_lt (3 : Int32) (3 : Int32)) (hb hby d4_40) (pcN := 43) rfl (by decide) (pcT := 54) rfl (fun q => absurd q hc5) (fun _ => ?_)
  refine Own.aloadN hx (.ref o0) (hb hby d4_43) rfl rfl rfl ?_
  refine Own.iloadN hx (4 : Int32) (hb hby d4_44) rfl rfl ?_
  refine Own.iconst hx (3 : Int32) (hb hby d4_45) rfl (by decide) ?_
  refine Own.callS hx hZ hown (hw _ (List.mem_of_getElem? (i := 17) rfl)) (hw _ (List.mem_of_getElem? (i := 18) rfl)) (hw _ (List.mem_of_getElem? (i := 4) rfl)) (hw _ (List.mem_of_getElem? (i := 19) rfl)) (by decide) pd1 (argsL := [(.ref o0), (.int (4 : Int32)), (.int (3 : Int32))]) (rest := []) rfl (W := 0) (Nat.le_of_eq rfl) (rm := ({ frames := 0, cells := 0, slots := 0, locals := 0 } : Room)) (by decide) (by decide) (by decide) (by decide) (k' := 0) (n' := 0) rfl rfl (by rw [hml]; rfl) [(.int (3 : Int32)), (.int (4 : Int32)), (.ref o0)] rfl (hb hby d4_46) (pc' := 49) rfl (rm5_4_3 l Z a0 hw o0 h0 n0 y0 y1 y2 y3 y4 y5 fr O0) ?_
  rintro _ h' ⟨rfl, eh⟩
  rw [eh]; clear eh h'
  show Own.Goes _ _ _ _ _ _ _ _ _ _ _ _ _ _ _ _ _ (mkF m 49 #[.val (.ref o0), .val (.int (4 : Int32))] [(.int (fM4_3 y0 y1 y2 y3 y4 y5))])
  refine Own.ifF hx (Own.z_eq (fM4_3 y0 y1 y2 y3 y4 y5)) (hb hby d4_49) (pcN := 52) rfl (by decide) (pcT := 54) rfl (fun hc7 => ?_) (fun hc7 => ?_)
  · refine Own.iloadN hx (4 : Int32) (hb hby d4_54) rfl rfl ?_
    refine Own.iconst hx (1 : Int32) (hb hby d4_55) rfl (by decide) ?_
    refine Own.isub hx (hb hby d4_56) rfl ?_
    refine Own.vI (3 : Int32) (by decide) ?_
    refine Own.iconst hx (2 : Int32) (hb hby d4_57) rfl (by decide) ?_
    have hc8 : ¬ ((3 : Int32) < (2 : Int32)) := by decide
    refine Own.icmpF hx (Own.q_lt (3 : Int32) (2 : Int32)) (hb hby d4_58) (pcN := 61) rfl (by decide) (pcT := 72) rfl (fun q => absurd q hc8) (fun _ => ?_)
    refine Own.aloadN hx (.ref o0) (hb hby d4_61) rfl rfl rfl ?_
    refine Own.iloadN hx (4 : Int32) (hb hby d4_62) rfl rfl ?_
    refine Own.iconst hx (2 : Int32) (hb hby d4_63) rfl (by decide) ?_
    refine Own.callS hx hZ hown (hw _ (List.mem_of_getElem? (i := 17) rfl)) (hw _ (List.mem_of_getElem? (i := 18) rfl)) (hw _ (List.mem_of_getElem? (i := 4) rfl)) (hw _ (List.mem_of_getElem? (i := 19) rfl)) (by decide) pd1 (argsL := [(.ref o0), (.int (4 : Int32)), (.int (2 : Int32))]) (rest := []) rfl (W := 0) (Nat.le_of_eq rfl) (rm := ({ frames := 0, cells := 0, slots := 0, locals := 0 } : Room)) (by decide) (by decide) (by decide) (by decide) (k' := 0) (n' := 0) rfl rfl (by rw [hml]; rfl) [(.int (2 : Int32)), (.int (4 : Int32)), (.ref o0)] rfl (hb hby d4_64) (pc' := 67) rfl (rm5_4_2 l Z a0 hw o0 h0 n0 y0 y1 y2 y3 y4 y5 fr O0) ?_
    rintro _ h' ⟨rfl, eh⟩
    rw [eh]; clear eh h'
    show Own.Goes _ _ _ _ _ _ _ _ _ _ _ _ _ _ _ _ _ (mkF m 67 #[.val (.ref o0), .val (.int (4 : Int32))] [(.int (fM4_2 y0 y1 y2 y3 y4 y5))])
    refine Own.ifF hx (Own.z_eq (fM4_2 y0 y1 y2 y3 y4 y5)) (hb hby d4_67) (pcN := 70) rfl (by decide) (pcT := 72) rfl (fun hc10 => ?_) (fun hc10 => ?_)
    · refine Own.iloadN hx (4 : Int32) (hb hby d4_72) rfl rfl ?_
      refine Own.iconst hx (1 : Int32) (hb hby d4_73) rfl (by decide) ?_
      refine Own.isub hx (hb hby d4_74) rfl ?_
      refine Own.vI (3 : Int32) (by decide) ?_
      refine Own.iconst hx (1 : Int32) (hb hby d4_75) rfl (by decide) ?_
      have hc11 : ¬ ((3 : Int32) < (1 : Int32)) := by decide
      refine Own.icmpF hx (Own.q_lt (3 : Int32) (1 : Int32)) (hb hby d4_76) (pcN := 79) rfl (by decide) (pcT := 90) rfl (fun q => absurd q hc11) (fun _ => ?_)
      refine Own.aloadN hx (.ref o0) (hb hby d4_79) rfl rfl rfl ?_
      refine Own.iloadN hx (4 : Int32) (hb hby d4_80) rfl rfl ?_
      refine Own.iconst hx (1 : Int32) (hb hby d4_81) rfl (by decide) ?_
      refine Own.callS hx hZ hown (hw _ (List.mem_of_getElem? (i := 17) rfl)) (hw _ (List.mem_of_getElem? (i := 18) rfl)) (hw _ (List.mem_of_getElem? (i := 4) rfl)) (hw _ (List.mem_of_getElem? (i := 19) rfl)) (by decide) pd1 (argsL := [(.ref o0), (.int (4 : Int32)), (.int (1 : Int32))]) (rest := []) rfl (W := 0) (Nat.le_of_eq rfl) (rm := ({ frames := 0, cells := 0, slots := 0, locals := 0 } : Room)) (by decide) (by decide) (by decide) (by decide) (k' := 0) (n' := 0) rfl rfl (by rw [hml]; rfl) [(.int (1 : Int32)), (.int (4 : Int32)), (.ref o0)] rfl (hb hby d4_82) (pc' := 85) rfl (rm5_4_1 l Z a0 hw o0 h0 n0 y0 y1 y2 y3 y4 y5 fr O0) ?_
      rintro _ h' ⟨rfl, eh⟩
      rw [eh]; clear eh h'
      show Own.Goes _ _ _ _ _ _ _ _ _ _ _ _ _ _ _ _ _ (mkF m 85 #[.val (.ref o0), .val (.int (4 : Int32))] [(.int (fM4_1 y0 y1 y2 y3 y4 y5))])
      refine Own.ifF hx (Own.z_eq (fM4_1 y0 y1 y2 y3 y4 y5)) (hb hby d4_85) (pcN := 88) rfl (by decide) (pcT := 90) rfl (fun hc13 => ?_) (fun hc13 => ?_)
      · refine Own.iconst hx (0 : Int32) (hb hby d4_90) rfl (by decide) ?_
        exact Own.retI hx hret hlk (hb hby d4_91) (by decide) (by decide) ⟨by rw [show fB4 y0 y1 y2 y3 y4 y5 = (0 : Int32) from by simp only [fB4, if_pos hc7, if_pos hc10, if_pos hc13]]; try rfl, rfl⟩
      · refine Own.iconst hx (1 : Int32) (hb hby d4_88) rfl (by decide) ?_
        exact Own.retI hx hret hlk (hb hby d4_89) (by decide) (by decide) ⟨by rw [show fB4 y0 y1 y2 y3 y4 y5 = (1 : Int32) from by simp only [fB4, if_pos hc7, if_pos hc10, if_neg hc13]]; try rfl, rfl⟩
    · refine Own.iconst hx (2 : Int32) (hb hby d4_70) rfl (by decide) ?_
      exact Own.retI hx hret hlk (hb hby d4_71) (by decide) (by decide) ⟨by rw [show fB4 y0 y1 y2 y3 y4 y5 = (2 : Int32) from by simp only [fB4, if_pos hc7, if_neg hc10]]; try rfl, rfl⟩
  · refine Own.iconst hx (3 : Int32) (hb hby d4_52) rfl (by decide) ?_
    exact Own.retI hx hret hlk (hb hby d4_53) (by decide) (by decide) ⟨by rw [show fB4 y0 y1 y2 y3 y4 y5 = (3 : Int32) from by simp only [fB4, if_neg hc7]]; try rfl, rfl⟩

theorem ef3_a3 (m : MethodId) (o0 : Addr) (p1 : Int32) (o2 : Addr) : entryFrame m #[(.ref o0), (.int p1), (.ref o2), (.int (3 : Int32))] 4 = mkF m 0 #[.val (.ref o0), .val (.int p1), .val (.ref o2), .val (.int (3 : Int32))] [] := by first | (simp [entryFrame, mkF, argsToLocals, Value.category]; done) | rfl
set_option maxRecDepth 65536 in
set_option maxHeartbeats 40000000 in
theorem rm3_a3 (l : Launch) (Z : State) (a0 : Array Value) (hw : ∀ d ∈ tables_1, d.before a0 Z = true) (o0 : Addr) (p1 : Int32) (o2 : Addr) (h0 : Heap) (n0 : Nat)  (hge : ¬ ((3 : Int32) < p1)) : Own.Does l (⟨"com/example/idxof/idxof/FailureFunctionOfPinLaw", "entry", "([II[CI)Z"⟩ : MethodName) method_5_code 4 (some .boolean) [] ({ frames := 0, cells := 0, slots := 0, locals := 0 } : Room) Z #[(.ref o0), (.int p1), (.ref o2), (.int (3 : Int32))] h0 n0 (fun v h => v = some (.int 1) ∧ h = h0) := by
  refine Own.doesOf pn3 ?_
  intro p e s m below meth c hx hby hml hret hlk hown hnm hZ
  refine Own.Goes.cast (ef3_a3 m o0 p1 o2) ?_
  refine Own.iloadN hx p1 (hb hby d3_0) rfl rfl ?_
  refine Own.iloadN hx (3 : Int32) (hb hby d3_1) rfl rfl ?_
  have hc1 : ¬ ((3 : Int32) < p1) := hge
  refine Own.icmpFn hx (Own.q_le p1 (3 : Int32)) (hb hby d3_2) (pcN := 5) rfl (by decide) (pcT := 18) rfl (fun _ => ?_) (fun q => absurd q hc1)
  refine Own.iconst hx (1 : Int32) (hb hby d3_18) rfl (by decide) ?_
  refine Own.goto hx (hb hby d3_19) (by decide) (pc' := 23) rfl ?_
  exact Own.retS hx hret (by simp) hlk (hb hby d3_23) (by decide) (by decide) ⟨rfl, rfl⟩

def fE3 (x y0 y1 y2 y3 y4 y5 : Int32) : Int32 := (if x = (fB4 y0 y1 y2 y3 y4 y5) then (1 : Int32) else (0 : Int32))
theorem ef3_b3 (m : MethodId) (o0 : Addr) (p1 : Int32) (o2 : Addr) : entryFrame m #[(.ref o0), (.int p1), (.ref o2), (.int (3 : Int32))] 4 = mkF m 0 #[.val (.ref o0), .val (.int p1), .val (.ref o2), .val (.int (3 : Int32))] [] := by first | (simp [entryFrame, mkF, argsToLocals, Value.category]; done) | rfl
set_option maxRecDepth 65536 in
set_option maxHeartbeats 40000000 in
theorem rm3_b3 (l : Launch) (Z : State) (a0 : Array Value) (hw : ∀ d ∈ tables_1, d.before a0 Z = true) (o0 : Addr) (p1 : Int32) (o2 : Addr) (h0 : Heap) (n0 : Nat) (vs : List Value) (x : Int32) (y0 y1 y2 y3 y4 y5 : Int32) (fr : List (Addr × (Cell → Prop))) (O0 : Own.Owns n0 h0 ((o0, Own.ArrC Z .int vs) :: (o2, Own.ArrC Z .char [(.int y0), (.int y1), (.int y2), (.int y3), (.int y4), (.int y5)]) :: fr)) (hlt : (3 : Int32) < p1) (hv : vs[3]? = some (.int x)) : Own.Does l (⟨"com/example/idxof/idxof/FailureFunctionOfPinLaw", "entry", "([II[CI)Z"⟩ : MethodName) method_5_code 4 (some .boolean) [] ({ frames := 2, cells := 0, slots := 0, locals := 36 } : Room) Z #[(.ref o0), (.int p1), (.ref o2), (.int (3 : Int32))] h0 n0 (fun v h => v = some (.int (fE3 x y0 y1 y2 y3 y4 y5)) ∧ h = h0) := by
  refine Own.doesOf pn3 ?_
  intro p e s m below meth c hx hby hml hret hlk hown hnm hZ
  refine Own.Goes.cast (ef3_b3 m o0 p1 o2) ?_
  refine Own.iloadN hx p1 (hb hby d3_0) rfl rfl ?_
  refine Own.iloadN hx (3 : Int32) (hb hby d3_1) rfl rfl ?_
  have hc1 : (3 : Int32) < p1 := hlt
  refine Own.icmpFn hx (Own.q_le p1 (3 : Int32)) (hb hby d3_2) (pcN := 5) rfl (by decide) (pcT := 18) rfl (fun q => absurd hc1 q) (fun _ => ?_)
  refine Own.aloadN hx (.ref o0) (hb hby d3_5) rfl rfl rfl ?_
  refine Own.iloadN hx (3 : Int32) (hb hby d3_6) rfl rfl ?_
  refine Own.iaload hx hZ O0 0 3 rfl (by decide) (v := (.int x)) hv (hb hby d3_7) rfl ?_
  refine Own.aloadN hx (.ref o2) (hb hby d3_8) rfl rfl rfl ?_
  refine Own.iloadN hx (3 : Int32) (hb hby d3_9) rfl rfl ?_
  refine Own.iconst hx (1 : Int32) (hb hby d3_10) rfl (by decide) ?_
  refine Own.iadd hx (hb hby d3_11) rfl ?_
  refine Own.vI (4 : Int32) (by decide) ?_
  have O3 : Own.Owns n0 h0 ((o2, Own.ArrC Z .char [(.int y0), (.int y1), (.int y2), (.int y3), (.int y4), (.int y5)]) :: (o0, Own.ArrC Z .int vs) :: fr) := O0.pick 1 rfl
  refine Own.callS hx hZ hown (hw _ (List.mem_of_getElem? (i := 14) rfl)) (hw _ (List.mem_of_getElem? (i := 15) rfl)) (hw _ (List.mem_of_getElem? (i := 4) rfl)) (hw _ (List.mem_of_getElem? (i := 16) rfl)) (by decide) pd0 (argsL := [(.ref o2), (.int (4 : Int32))]) (rest := [(.int x)]) rfl (W := 1) (Nat.le_of_eq rfl) (rm := ({ frames := 1, cells := 0, slots := 0, locals := 18 } : Room)) (by decide) (by decide) (by decide) (by decide) (k' := 0) (n' := 0) rfl rfl (by rw [hml]; rfl) [(.int (4 : Int32)), (.ref o2), (.int x)] rfl (hb hby d3_12) (pc' := 15) rfl (rm4_4 l Z a0 hw o2 h0 n0 y0 y1 y2 y3 y4 y5 ((o0, Own.ArrC Z .int vs) :: fr) O3) ?_
  rintro _ h' ⟨rfl, eh⟩
  rw [eh]; clear eh h'
  show Own.Goes _ _ _ _ _ _ _ _ _ _ _ _ _ _ _ _ _ (mkF m 15 #[.val (.ref o0), .val (.int p1), .val (.ref o2), .val (.int (3 : Int32))] [(.int (fB4 y0 y1 y2 y3 y4 y5)), (.int x)])
  refine Own.icmpFn hx (Own.q_ne x (fB4 y0 y1 y2 y3 y4 y5)) (hb hby d3_15) (pcN := 18) rfl (by decide) (pcT := 22) rfl (fun hc4 => ?_) (fun hc4 => ?_)
  · refine Own.iconst hx (0 : Int32) (hb hby d3_22) rfl (by decide) ?_
    exact Own.retS hx hret (by simp) hlk (hb hby d3_23) (by decide) (by decide) ⟨by rw [show fE3 x y0 y1 y2 y3 y4 y5 = (0 : Int32) from by simp only [fE3, if_neg hc4]]; try rfl, rfl⟩
  · refine Own.iconst hx (1 : Int32) (hb hby d3_18) rfl (by decide) ?_
    refine Own.goto hx (hb hby d3_19) (by decide) (pc' := 23) rfl ?_
    exact Own.retS hx hret (by simp) hlk (hb hby d3_23) (by decide) (by decide) ⟨by rw [show fE3 x y0 y1 y2 y3 y4 y5 = (1 : Int32) from by simp only [fE3, if_pos hc4]]; try rfl, rfl⟩

def fM5_1 (y0 y1 y2 y3 y4 y5 : Int32) : Int32 := (if y0 = y4 then (1 : Int32) else (0 : Int32))
theorem ef5_5_1 (m : MethodId) (o0 : Addr) : entryFrame m #[(.ref o0), (.int (5 : Int32)), (.int (1 : Int32))] 4 = mkF m 0 #[.val (.ref o0), .val (.int (5 : Int32)), .val (.int (1 : Int32)), .unset] [] := by first | (simp [entryFrame, mkF, argsToLocals, Value.category]; done) | rfl
set_option maxRecDepth 65536 in
set_option maxHeartbeats 40000000 in
theorem rm5_5_1 (l : Launch) (Z : State) (a0 : Array Value) (hw : ∀ d ∈ tables_1, d.before a0 Z = true) (o0 : Addr) (h0 : Heap) (n0 : Nat) (y0 y1 y2 y3 y4 y5 : Int32) (fr : List (Addr × (Cell → Prop))) (O0 : Own.Owns n0 h0 ((o0, Own.ArrC Z .char [(.int y0), (.int y1), (.int y2), (.int y3), (.int y4), (.int y5)]) :: fr))  : Own.Does l (⟨"com/example/idxof/idxof/FailureFunctionOfPinLaw", "match", "([CII)Z"⟩ : MethodName) method_3_code 4 (some .boolean) [] ({ frames := 0, cells := 0, slots := 0, locals := 0 } : Room) Z #[(.ref o0), (.int (5 : Int32)), (.int (1 : Int32))] h0 n0 (fun v h => v = some (.int (fM5_1 y0 y1 y2 y3 y4 y5)) ∧ h = h0) := by
  refine Own.doesOf pn4 ?_
  intro p e s m below meth c hx hby hml hret hlk hown hnm hZ
  refine Own.Goes.cast (ef5_5_1 m o0) ?_
  refine Own.iloadN hx (5 : Int32) (hb hby d5_0) rfl rfl ?_
  refine Own.iloadN hx (1 : Int32) (hb hby d5_1) rfl rfl ?_
  refine Own.isub hx (hb hby d5_2) rfl ?_
  refine Own.vI (4 : Int32) (by decide) ?_
  refine Own.istoreN hx (4 : Int32) rfl #[.val (.ref o0), .val (.int (5 : Int32)), .val (.int (1 : Int32)), .val (.int (4 : Int32))] (hb hby d5_3) rfl rfl ?_
  refine Own.iloadN hx (1 : Int32) (hb hby d5_4) rfl rfl ?_
  refine Own.iconst hx (1 : Int32) (hb hby d5_5) rfl (by decide) ?_
  have hc1 : ¬ ((1 : Int32) < (1 : Int32)) := by decide
  refine Own.icmpF hx (Own.q_lt (1 : Int32) (1 : Int32)) (hb hby d5_6) (pcN := 9) rfl (by decide) (pcT := 18) rfl (fun q => absurd q hc1) (fun _ => ?_)
  refine Own.aloadN hx (.ref o0) (hb hby d5_9) rfl rfl rfl ?_
  refine Own.iconst hx (0 : Int32) (hb hby d5_10) rfl (by decide) ?_
  refine Own.caload hx hZ O0 0 0 rfl (by decide) (v := (.int y0)) rfl (hb hby d5_11) rfl ?_
  refine Own.aloadN hx (.ref o0) (hb hby d5_12) rfl rfl rfl ?_
  refine Own.iloadN hx (4 : Int32) (hb hby d5_13) rfl rfl ?_
  refine Own.caload hx hZ O0 0 4 rfl (by decide) (v := (.int y4)) rfl (hb hby d5_14) rfl ?_
  refine Own.icmpFn hx (Own.q_ne y0 y4) (hb hby d5_15) (pcN := 18) rfl (by decide) (pcT := 86) rfl (fun hc3 => ?_) (fun hc3 => ?_)
  · refine Own.iconst hx (0 : Int32) (hb hby d5_86) rfl (by decide) ?_
    exact Own.retS hx hret (by simp) hlk (hb hby d5_87) (by decide) (by decide) ⟨by rw [show fM5_1 y0 y1 y2 y3 y4 y5 = (0 : Int32) from by simp only [fM5_1, if_neg hc3]]; try rfl, rfl⟩
  · refine Own.iloadN hx (1 : Int32) (hb hby d5_18) rfl rfl ?_
    refine Own.iconst hx (2 : Int32) (hb hby d5_19) rfl (by decide) ?_
    have hc4 : (1 : Int32) < (2 : Int32) := by decide
    refine Own.icmpF hx (Own.q_lt (1 : Int32) (2 : Int32)) (hb hby d5_20) (pcN := 23) rfl (by decide) (pcT := 34) rfl (fun _ => ?_) (fun q => absurd hc4 q)
    refine Own.iloadN hx (1 : Int32) (hb hby d5_34) rfl rfl ?_
    refine Own.iconst hx (3 : Int32) (hb hby d5_35) rfl (by decide) ?_
    have hc6 : (1 : Int32) < (3 : Int32) := by decide
    refine Own.icmpF hx (Own.q_lt (1 : Int32) (3 : Int32)) (hb hby d5_36) (pcN := 39) rfl (by decide) (pcT := 50) rfl (fun _ => ?_) (fun q => absurd hc6 q)
    refine Own.iloadN hx (1 : Int32) (hb hby d5_50) rfl rfl ?_
    refine Own.iconst hx (4 : Int32) (hb hby d5_51) rfl (by decide) ?_
    have hc8 : (1 : Int32) < (4 : Int32) := by decide
    refine Own.icmpF hx (Own.q_lt (1 : Int32) (4 : Int32)) (hb hby d5_52) (pcN := 55) rfl (by decide) (pcT := 66) rfl (fun _ => ?_) (fun q => absurd hc8 q)
    refine Own.iloadN hx (1 : Int32) (hb hby d5_66) rfl rfl ?_
    refine Own.iconst hx (5 : Int32) (hb hby d5_67) rfl (by decide) ?_
    have hc10 : (1 : Int32) < (5 : Int32) := by decide
    refine Own.icmpF hx (Own.q_lt (1 : Int32) (5 : Int32)) (hb hby d5_68) (pcN := 71) rfl (by decide) (pcT := 82) rfl (fun _ => ?_) (fun q => absurd hc10 q)
    refine Own.iconst hx (1 : Int32) (hb hby d5_82) rfl (by decide) ?_
    refine Own.goto hx (hb hby d5_83) (by decide) (pc' := 87) rfl ?_
    exact Own.retS hx hret (by simp) hlk (hb hby d5_87) (by decide) (by decide) ⟨by rw [show fM5_1 y0 y1 y2 y3 y4 y5 = (1 : Int32) from by simp only [fM5_1, if_pos hc3]]; try rfl, rfl⟩

def fM5_2 (y0 y1 y2 y3 y4 y5 : Int32) : Int32 := (if y0 = y3 then (if y1 = y4 then (1 : Int32) else (0 : Int32)) else (0 : Int32))
theorem ef5_5_2 (m : MethodId) (o0 : Addr) : entryFrame m #[(.ref o0), (.int (5 : Int32)), (.int (2 : Int32))] 4 = mkF m 0 #[.val (.ref o0), .val (.int (5 : Int32)), .val (.int (2 : Int32)), .unset] [] := by first | (simp [entryFrame, mkF, argsToLocals, Value.category]; done) | rfl
set_option maxRecDepth 65536 in
set_option maxHeartbeats 40000000 in
theorem rm5_5_2 (l : Launch) (Z : State) (a0 : Array Value) (hw : ∀ d ∈ tables_1, d.before a0 Z = true) (o0 : Addr) (h0 : Heap) (n0 : Nat) (y0 y1 y2 y3 y4 y5 : Int32) (fr : List (Addr × (Cell → Prop))) (O0 : Own.Owns n0 h0 ((o0, Own.ArrC Z .char [(.int y0), (.int y1), (.int y2), (.int y3), (.int y4), (.int y5)]) :: fr))  : Own.Does l (⟨"com/example/idxof/idxof/FailureFunctionOfPinLaw", "match", "([CII)Z"⟩ : MethodName) method_3_code 4 (some .boolean) [] ({ frames := 0, cells := 0, slots := 0, locals := 0 } : Room) Z #[(.ref o0), (.int (5 : Int32)), (.int (2 : Int32))] h0 n0 (fun v h => v = some (.int (fM5_2 y0 y1 y2 y3 y4 y5)) ∧ h = h0) := by
  refine Own.doesOf pn4 ?_
  intro p e s m below meth c hx hby hml hret hlk hown hnm hZ
  refine Own.Goes.cast (ef5_5_2 m o0) ?_
  refine Own.iloadN hx (5 : Int32) (hb hby d5_0) rfl rfl ?_
  refine Own.iloadN hx (2 : Int32) (hb hby d5_1) rfl rfl ?_
  refine Own.isub hx (hb hby d5_2) rfl ?_
  refine Own.vI (3 : Int32) (by decide) ?_
  refine Own.istoreN hx (3 : Int32) rfl #[.val (.ref o0), .val (.int (5 : Int32)), .val (.int (2 : Int32)), .val (.int (3 : Int32))] (hb hby d5_3) rfl rfl ?_
  refine Own.iloadN hx (2 : Int32) (hb hby d5_4) rfl rfl ?_
  refine Own.iconst hx (1 : Int32) (hb hby d5_5) rfl (by decide) ?_
  have hc1 : ¬ ((2 : Int32) < (1 : Int32)) := by decide
  refine Own.icmpF hx (Own.q_lt (2 : Int32) (1 : Int32)) (hb hby d5_6) (pcN := 9) rfl (by decide) (pcT := 18) rfl (fun q => absurd q hc1) (fun _ => ?_)
  refine Own.aloadN hx (.ref o0) (hb hby d5_9) rfl rfl rfl ?_
  refine Own.iconst hx (0 : Int32) (hb hby d5_10) rfl (by decide) ?_
  refine Own.caload hx hZ O0 0 0 rfl (by decide) (v := (.int y0)) rfl (hb hby d5_11) rfl ?_
  refine Own.aloadN hx (.ref o0) (hb hby d5_12) rfl rfl rfl ?_
  refine Own.iloadN hx (3 : Int32) (hb hby d5_13) rfl rfl ?_
  refine Own.caload hx hZ O0 0 3 rfl (by decide) (v := (.int y3)) rfl (hb hby d5_14) rfl ?_
  refine Own.icmpFn hx (Own.q_ne y0 y3) (hb hby d5_15) (pcN := 18) rfl (by decide) (pcT := 86) rfl (fun hc3 => ?_) (fun hc3 => ?_)
  · refine Own.iconst hx (0 : Int32) (hb hby d5_86) rfl (by decide) ?_
    exact Own.retS hx hret (by simp) hlk (hb hby d5_87) (by decide) (by decide) ⟨by rw [show fM5_2 y0 y1 y2 y3 y4 y5 = (0 : Int32) from by simp only [fM5_2, if_neg hc3]]; try rfl, rfl⟩
  · refine Own.iloadN hx (2 : Int32) (hb hby d5_18) rfl rfl ?_
    refine Own.iconst hx (2 : Int32) (hb hby d5_19) rfl (by decide) ?_
    have hc4 : ¬ ((2 : Int32) < (2 : Int32)) := by decide
    refine Own.icmpF hx (Own.q_lt (2 : Int32) (2 : Int32)) (hb hby d5_20) (pcN := 23) rfl (by decide) (pcT := 34) rfl (fun q => absurd q hc4) (fun _ => ?_)
    refine Own.aloadN hx (.ref o0) (hb hby d5_23) rfl rfl rfl ?_
    refine Own.iconst hx (1 : Int32) (hb hby d5_24) rfl (by decide) ?_
    refine Own.caload hx hZ O0 0 1 rfl (by decide) (v := (.int y1)) rfl (hb hby d5_25) rfl ?_
    refine Own.aloadN hx (.ref o0) (hb hby d5_26) rfl rfl rfl ?_
    refine Own.iloadN hx (3 : Int32) (hb hby d5_27) rfl rfl ?_
    refine Own.iconst hx (1 : Int32) (hb hby d5_28) rfl (by decide) ?_
    refine Own.iadd hx (hb hby d5_29) rfl ?_
    refine Own.vI (4 : Int32) (by decide) ?_
    refine Own.caload hx hZ O0 0 4 rfl (by decide) (v := (.int y4)) rfl (hb hby d5_30) rfl ?_
    refine Own.icmpFn hx (Own.q_ne y1 y4) (hb hby d5_31) (pcN := 34) rfl (by decide) (pcT := 86) rfl (fun hc6 => ?_) (fun hc6 => ?_)
    · refine Own.iconst hx (0 : Int32) (hb hby d5_86) rfl (by decide) ?_
      exact Own.retS hx hret (by simp) hlk (hb hby d5_87) (by decide) (by decide) ⟨by rw [show fM5_2 y0 y1 y2 y3 y4 y5 = (0 : Int32) from by simp only [fM5_2, if_pos hc3, if_neg hc6]]; try rfl, rfl⟩
    · refine Own.iloadN hx (2 : Int32) (hb hby d5_34) rfl rfl ?_
      refine Own.iconst hx (3 : Int32) (hb hby d5_35) rfl (by decide) ?_
      have hc7 : (2 : Int32) < (3 : Int32) := by decide
      refine Own.icmpF hx (Own.q_lt (2 : Int32) (3 : Int32)) (hb hby d5_36) (pcN := 39) rfl (by decide) (pcT := 50) rfl (fun _ => ?_) (fun q => absurd hc7 q)
      refine Own.iloadN hx (2 : Int32) (hb hby d5_50) rfl rfl ?_
      refine Own.iconst hx (4 : Int32) (hb hby d5_51) rfl (by decide) ?_
      have hc9 : (2 : Int32) < (4 : Int32) := by decide
      refine Own.icmpF hx (Own.q_lt (2 : Int32) (4 : Int32)) (hb hby d5_52) (pcN := 55) rfl (by decide) (pcT := 66) rfl (fun _ => ?_) (fun q => absurd hc9 q)
      refine Own.iloadN hx (2 : Int32) (hb hby d5_66) rfl rfl ?_
      refine Own.iconst hx (5 : Int32) (hb hby d5_67) rfl (by decide) ?_
      have hc11 : (2 : Int32) < (5 : Int32) := by decide
      refine Own.icmpF hx (Own.q_lt (2 : Int32) (5 : Int32)) (hb hby d5_68) (pcN := 71) rfl (by decide) (pcT := 82) rfl (fun _ => ?_) (fun q => absurd hc11 q)
      refine Own.iconst hx (1 : Int32) (hb hby d5_82) rfl (by decide) ?_
      refine Own.goto hx (hb hby d5_83) (by decide) (pc' := 87) rfl ?_
      exact Own.retS hx hret (by simp) hlk (hb hby d5_87) (by decide) (by decide) ⟨by rw [show fM5_2 y0 y1 y2 y3 y4 y5 = (1 : Int32) from by simp only [fM5_2, if_pos hc3, if_pos hc6]]; try rfl, rfl⟩

def fM5_3 (y0 y1 y2 y3 y4 y5 : Int32) : Int32 := (if y0 = y2 then (if y1 = y3 then (if y2 = y4 then (1 : Int32) else (0 : Int32)) else (0 : Int32)) else (0 : Int32))
theorem ef5_5_3 (m : MethodId) (o0 : Addr) : entryFrame m #[(.ref o0), (.int (5 : Int32)), (.int (3 : Int32))] 4 = mkF m 0 #[.val (.ref o0), .val (.int (5 : Int32)), .val (.int (3 : Int32)), .unset] [] := by first | (simp [entryFrame, mkF, argsToLocals, Value.category]; done) | rfl
set_option maxRecDepth 65536 in
set_option maxHeartbeats 40000000 in
theorem rm5_5_3 (l : Launch) (Z : State) (a0 : Array Value) (hw : ∀ d ∈ tables_1, d.before a0 Z = true) (o0 : Addr) (h0 : Heap) (n0 : Nat) (y0 y1 y2 y3 y4 y5 : Int32) (fr : List (Addr × (Cell → Prop))) (O0 : Own.Owns n0 h0 ((o0, Own.ArrC Z .char [(.int y0), (.int y1), (.int y2), (.int y3), (.int y4), (.int y5)]) :: fr))  : Own.Does l (⟨"com/example/idxof/idxof/FailureFunctionOfPinLaw", "match", "([CII)Z"⟩ : MethodName) method_3_code 4 (some .boolean) [] ({ frames := 0, cells := 0, slots := 0, locals := 0 } : Room) Z #[(.ref o0), (.int (5 : Int32)), (.int (3 : Int32))] h0 n0 (fun v h => v = some (.int (fM5_3 y0 y1 y2 y3 y4 y5)) ∧ h = h0) := by
  refine Own.doesOf pn4 ?_
  intro p e s m below meth c hx hby hml hret hlk hown hnm hZ
  refine Own.Goes.cast (ef5_5_3 m o0) ?_
  refine Own.iloadN hx (5 : Int32) (hb hby d5_0) rfl rfl ?_
  refine Own.iloadN hx (3 : Int32) (hb hby d5_1) rfl rfl ?_
  refine Own.isub hx (hb hby d5_2) rfl ?_
  refine Own.vI (2 : Int32) (by decide) ?_
  refine Own.istoreN hx (2 : Int32) rfl #[.val (.ref o0), .val (.int (5 : Int32)), .val (.int (3 : Int32)), .val (.int (2 : Int32))] (hb hby d5_3) rfl rfl ?_
  refine Own.iloadN hx (3 : Int32) (hb hby d5_4) rfl rfl ?_
  refine Own.iconst hx (1 : Int32) (hb hby d5_5) rfl (by decide) ?_
  have hc1 : ¬ ((3 : Int32) < (1 : Int32)) := by decide
  refine Own.icmpF hx (Own.q_lt (3 : Int32) (1 : Int32)) (hb hby d5_6) (pcN := 9) rfl (by decide) (pcT := 18) rfl (fun q => absurd q hc1) (fun _ => ?_)
  refine Own.aloadN hx (.ref o0) (hb hby d5_9) rfl rfl rfl ?_
  refine Own.iconst hx (0 : Int32) (hb hby d5_10) rfl (by decide) ?_
  refine Own.caload hx hZ O0 0 0 rfl (by decide) (v := (.int y0)) rfl (hb hby d5_11) rfl ?_
  refine Own.aloadN hx (.ref o0) (hb hby d5_12) rfl rfl rfl ?_
  refine Own.iloadN hx (2 : Int32) (hb hby d5_13) rfl rfl ?_
  refine Own.caload hx hZ O0 0 2 rfl (by decide) (v := (.int y2)) rfl (hb hby d5_14) rfl ?_
  refine Own.icmpFn hx (Own.q_ne y0 y2) (hb hby d5_15) (pcN := 18) rfl (by decide) (pcT := 86) rfl (fun hc3 => ?_) (fun hc3 => ?_)
  · refine Own.iconst hx (0 : Int32) (hb hby d5_86) rfl (by decide) ?_
    exact Own.retS hx hret (by simp) hlk (hb hby d5_87) (by decide) (by decide) ⟨by rw [show fM5_3 y0 y1 y2 y3 y4 y5 = (0 : Int32) from by simp only [fM5_3, if_neg hc3]]; try rfl, rfl⟩
  · refine Own.iloadN hx (3 : Int32) (hb hby d5_18) rfl rfl ?_
    refine Own.iconst hx (2 : Int32) (hb hby d5_19) rfl (by decide) ?_
    have hc4 : ¬ ((3 : Int32) < (2 : Int32)) := by decide
    refine Own.icmpF hx (Own.q_lt (3 : Int32) (2 : Int32)) (hb hby d5_20) (pcN := 23) rfl (by decide) (pcT := 34) rfl (fun q => absurd q hc4) (fun _ => ?_)
    refine Own.aloadN hx (.ref o0) (hb hby d5_23) rfl rfl rfl ?_
    refine Own.iconst hx (1 : Int32) (hb hby d5_24) rfl (by decide) ?_
    refine Own.caload hx hZ O0 0 1 rfl (by decide) (v := (.int y1)) rfl (hb hby d5_25) rfl ?_
    refine Own.aloadN hx (.ref o0) (hb hby d5_26) rfl rfl rfl ?_
    refine Own.iloadN hx (2 : Int32) (hb hby d5_27) rfl rfl ?_
    refine Own.iconst hx (1 : Int32) (hb hby d5_28) rfl (by decide) ?_
    refine Own.iadd hx (hb hby d5_29) rfl ?_
    refine Own.vI (3 : Int32) (by decide) ?_
    refine Own.caload hx hZ O0 0 3 rfl (by decide) (v := (.int y3)) rfl (hb hby d5_30) rfl ?_
    refine Own.icmpFn hx (Own.q_ne y1 y3) (hb hby d5_31) (pcN := 34) rfl (by decide) (pcT := 86) rfl (fun hc6 => ?_) (fun hc6 => ?_)
    · refine Own.iconst hx (0 : Int32) (hb hby d5_86) rfl (by decide) ?_
      exact Own.retS hx hret (by simp) hlk (hb hby d5_87) (by decide) (by decide) ⟨by rw [show fM5_3 y0 y1 y2 y3 y4 y5 = (0 : Int32) from by simp only [fM5_3, if_pos hc3, if_neg hc6]]; try rfl, rfl⟩
    · refine Own.iloadN hx (3 : Int32) (hb hby d5_34) rfl rfl ?_
      refine Own.iconst hx (3 : Int32) (hb hby d5_35) rfl (by decide) ?_
      have hc7 : ¬ ((3 : Int32) < (3 : Int32)) := by decide
      refine Own.icmpF hx (Own.q_lt (3 : Int32) (3 : Int32)) (hb hby d5_36) (pcN := 39) rfl (by decide) (pcT := 50) rfl (fun q => absurd q hc7) (fun _ => ?_)
      refine Own.aloadN hx (.ref o0) (hb hby d5_39) rfl rfl rfl ?_
      refine Own.iconst hx (2 : Int32) (hb hby d5_40) rfl (by decide) ?_
      refine Own.caload hx hZ O0 0 2 rfl (by decide) (v := (.int y2)) rfl (hb hby d5_41) rfl ?_
      refine Own.aloadN hx (.ref o0) (hb hby d5_42) rfl rfl rfl ?_
      refine Own.iloadN hx (2 : Int32) (hb hby d5_43) rfl rfl ?_
      refine Own.iconst hx (2 : Int32) (hb hby d5_44) rfl (by decide) ?_
      refine Own.iadd hx (hb hby d5_45) rfl ?_
      refine Own.vI (4 : Int32) (by decide) ?_
      refine Own.caload hx hZ O0 0 4 rfl (by decide) (v := (.int y4)) rfl (hb hby d5_46) rfl ?_
      refine Own.icmpFn hx (Own.q_ne y2 y4) (hb hby d5_47) (pcN := 50) rfl (by decide) (pcT := 86) rfl (fun hc9 => ?_) (fun hc9 => ?_)
      · refine Own.iconst hx (0 : Int32) (hb hby d5_86) rfl (by decide) ?_
        exact Own.retS hx hret (by simp) hlk (hb hby d5_87) (by decide) (by decide) ⟨by rw [show fM5_3 y0 y1 y2 y3 y4 y5 = (0 : Int32) from by simp only [fM5_3, if_pos hc3, if_pos hc6, if_neg hc9]]; try rfl, rfl⟩
      · refine Own.iloadN hx (3 : Int32) (hb hby d5_50) rfl rfl ?_
        refine Own.iconst hx (4 : Int32) (hb hby d5_51) rfl (by decide) ?_
        have hc10 : (3 : Int32) < (4 : Int32) := by decide
        refine Own.icmpF hx (Own.q_lt (3 : Int32) (4 : Int32)) (hb hby d5_52) (pcN := 55) rfl (by decide) (pcT := 66) rfl (fun _ => ?_) (fun q => absurd hc10 q)
        refine Own.iloadN hx (3 : Int32) (hb hby d5_66) rfl rfl ?_
        refine Own.iconst hx (5 : Int32) (hb hby d5_67) rfl (by decide) ?_
        have hc12 : (3 : Int32) < (5 : Int32) := by decide
        refine Own.icmpF hx (Own.q_lt (3 : Int32) (5 : Int32)) (hb hby d5_68) (pcN := 71) rfl (by decide) (pcT := 82) rfl (fun _ => ?_) (fun q => absurd hc12 q)
        refine Own.iconst hx (1 : Int32) (hb hby d5_82) rfl (by decide) ?_
        refine Own.goto hx (hb hby d5_83) (by decide) (pc' := 87) rfl ?_
        exact Own.retS hx hret (by simp) hlk (hb hby d5_87) (by decide) (by decide) ⟨by rw [show fM5_3 y0 y1 y2 y3 y4 y5 = (1 : Int32) from by simp only [fM5_3, if_pos hc3, if_pos hc6, if_pos hc9]]; try rfl, rfl⟩

def fM5_4 (y0 y1 y2 y3 y4 y5 : Int32) : Int32 := (if y0 = y1 then (if y1 = y2 then (if y2 = y3 then (if y3 = y4 then (1 : Int32) else (0 : Int32)) else (0 : Int32)) else (0 : Int32)) else (0 : Int32))
theorem d5_55 : decode method_3_code 55 = .ok (.aload_n 0, 1) := by decide +kernel
theorem d5_56 : decode method_3_code 56 = .ok (.iconst 3, 1) := by decide +kernel
theorem d5_57 : decode method_3_code 57 = .ok (.caload, 1) := by decide +kernel
theorem d5_58 : decode method_3_code 58 = .ok (.aload_n 0, 1) := by decide +kernel
theorem d5_59 : decode method_3_code 59 = .ok (.iload_n 3, 1) := by decide +kernel
theorem d5_60 : decode method_3_code 60 = .ok (.iconst 3, 1) := by decide +kernel
theorem d5_61 : decode method_3_code 61 = .ok (.iadd, 1) := by decide +kernel
theorem d5_62 : decode method_3_code 62 = .ok (.caload, 1) := by decide +kernel
theorem d5_63 : decode method_3_code 63 = .ok (.if_icmp .ne 23, 3) := by decide +kernel
theorem ef5_5_4 (m : MethodId) (o0 : Addr) : entryFrame m #[(.ref o0), (.int (5 : Int32)), (.int (4 : Int32))] 4 = mkF m 0 #[.val (.ref o0), .val (.int (5 : Int32)), .val (.int (4 : Int32)), .unset] [] := by first | (simp [entryFrame, mkF, argsToLocals, Value.category]; done) | rfl
set_option maxRecDepth 65536 in
set_option maxHeartbeats 40000000 in
theorem rm5_5_4 (l : Launch) (Z : State) (a0 : Array Value) (hw : ∀ d ∈ tables_1, d.before a0 Z = true) (o0 : Addr) (h0 : Heap) (n0 : Nat) (y0 y1 y2 y3 y4 y5 : Int32) (fr : List (Addr × (Cell → Prop))) (O0 : Own.Owns n0 h0 ((o0, Own.ArrC Z .char [(.int y0), (.int y1), (.int y2), (.int y3), (.int y4), (.int y5)]) :: fr))  : Own.Does l (⟨"com/example/idxof/idxof/FailureFunctionOfPinLaw", "match", "([CII)Z"⟩ : MethodName) method_3_code 4 (some .boolean) [] ({ frames := 0, cells := 0, slots := 0, locals := 0 } : Room) Z #[(.ref o0), (.int (5 : Int32)), (.int (4 : Int32))] h0 n0 (fun v h => v = some (.int (fM5_4 y0 y1 y2 y3 y4 y5)) ∧ h = h0) := by
  refine Own.doesOf pn4 ?_
  intro p e s m below meth c hx hby hml hret hlk hown hnm hZ
  refine Own.Goes.cast (ef5_5_4 m o0) ?_
  refine Own.iloadN hx (5 : Int32) (hb hby d5_0) rfl rfl ?_
  refine Own.iloadN hx (4 : Int32) (hb hby d5_1) rfl rfl ?_
  refine Own.isub hx (hb hby d5_2) rfl ?_
  refine Own.vI (1 : Int32) (by decide) ?_
  refine Own.istoreN hx (1 : Int32) rfl #[.val (.ref o0), .val (.int (5 : Int32)), .val (.int (4 : Int32)), .val (.int (1 : Int32))] (hb hby d5_3) rfl rfl ?_
  refine Own.iloadN hx (4 : Int32) (hb hby d5_4) rfl rfl ?_
  refine Own.iconst hx (1 : Int32) (hb hby d5_5) rfl (by decide) ?_
  have hc1 : ¬ ((4 : Int32) < (1 : Int32)) := by decide
  refine Own.icmpF hx (Own.q_lt (4 : Int32) (1 : Int32)) (hb hby d5_6) (pcN := 9) rfl (by decide) (pcT := 18) rfl (fun q => absurd q hc1) (fun _ => ?_)
  refine Own.aloadN hx (.ref o0) (hb hby d5_9) rfl rfl rfl ?_
  refine Own.iconst hx (0 : Int32) (hb hby d5_10) rfl (by decide) ?_
  refine Own.caload hx hZ O0 0 0 rfl (by decide) (v := (.int y0)) rfl (hb hby d5_11) rfl ?_
  refine Own.aloadN hx (.ref o0) (hb hby d5_12) rfl rfl rfl ?_
  refine Own.iloadN hx (1 : Int32) (hb hby d5_13) rfl rfl ?_
  refine Own.caload hx hZ O0 0 1 rfl (by decide) (v := (.int y1)) rfl (hb hby d5_14) rfl ?_
  refine Own.icmpFn hx (Own.q_ne y0 y1) (hb hby d5_15) (pcN := 18) rfl (by decide) (pcT := 86) rfl (fun hc3 => ?_) (fun hc3 => ?_)
  · refine Own.iconst hx (0 : Int32) (hb hby d5_86) rfl (by decide) ?_
    exact Own.retS hx hret (by simp) hlk (hb hby d5_87) (by decide) (by decide) ⟨by rw [show fM5_4 y0 y1 y2 y3 y4 y5 = (0 : Int32) from by simp only [fM5_4, if_neg hc3]]; try rfl, rfl⟩
  · refine Own.iloadN hx (4 : Int32) (hb hby d5_18) rfl rfl ?_
    refine Own.iconst hx (2 : Int32) (hb hby d5_19) rfl (by decide) ?_
    have hc4 : ¬ ((4 : Int32) < (2 : Int32)) := by decide
    refine Own.icmpF hx (Own.q_lt (4 : Int32) (2 : Int32)) (hb hby d5_20) (pcN := 23) rfl (by decide) (pcT := 34) rfl (fun q => absurd q hc4) (fun _ => ?_)
    refine Own.aloadN hx (.ref o0) (hb hby d5_23) rfl rfl rfl ?_
    refine Own.iconst hx (1 : Int32) (hb hby d5_24) rfl (by decide) ?_
    refine Own.caload hx hZ O0 0 1 rfl (by decide) (v := (.int y1)) rfl (hb hby d5_25) rfl ?_
    refine Own.aloadN hx (.ref o0) (hb hby d5_26) rfl rfl rfl ?_
    refine Own.iloadN hx (1 : Int32) (hb hby d5_27) rfl rfl ?_
    refine Own.iconst hx (1 : Int32) (hb hby d5_28) rfl (by decide) ?_
    refine Own.iadd hx (hb hby d5_29) rfl ?_
    refine Own.vI (2 : Int32) (by decide) ?_
    refine Own.caload hx hZ O0 0 2 rfl (by decide) (v := (.int y2)) rfl (hb hby d5_30) rfl ?_
    refine Own.icmpFn hx (Own.q_ne y1 y2) (hb hby d5_31) (pcN := 34) rfl (by decide) (pcT := 86) rfl (fun hc6 => ?_) (fun hc6 => ?_)
    · refine Own.iconst hx (0 : Int32) (hb hby d5_86) rfl (by decide) ?_
      exact Own.retS hx hret (by simp) hlk (hb hby d5_87) (by decide) (by decide) ⟨by rw [show fM5_4 y0 y1 y2 y3 y4 y5 = (0 : Int32) from by simp only [fM5_4, if_pos hc3, if_neg hc6]]; try rfl, rfl⟩
    · refine Own.iloadN hx (4 : Int32) (hb hby d5_34) rfl rfl ?_
      refine Own.iconst hx (3 : Int32) (hb hby d5_35) rfl (by decide) ?_
      have hc7 : ¬ ((4 : Int32) < (3 : Int32)) := by decide
      refine Own.icmpF hx (Own.q_lt (4 : Int32) (3 : Int32)) (hb hby d5_36) (pcN := 39) rfl (by decide) (pcT := 50) rfl (fun q => absurd q hc7) (fun _ => ?_)
      refine Own.aloadN hx (.ref o0) (hb hby d5_39) rfl rfl rfl ?_
      refine Own.iconst hx (2 : Int32) (hb hby d5_40) rfl (by decide) ?_
      refine Own.caload hx hZ O0 0 2 rfl (by decide) (v := (.int y2)) rfl (hb hby d5_41) rfl ?_
      refine Own.aloadN hx (.ref o0) (hb hby d5_42) rfl rfl rfl ?_
      refine Own.iloadN hx (1 : Int32) (hb hby d5_43) rfl rfl ?_
      refine Own.iconst hx (2 : Int32) (hb hby d5_44) rfl (by decide) ?_
      refine Own.iadd hx (hb hby d5_45) rfl ?_
      refine Own.vI (3 : Int32) (by decide) ?_
      refine Own.caload hx hZ O0 0 3 rfl (by decide) (v := (.int y3)) rfl (hb hby d5_46) rfl ?_
      refine Own.icmpFn hx (Own.q_ne y2 y3) (hb hby d5_47) (pcN := 50) rfl (by decide) (pcT := 86) rfl (fun hc9 => ?_) (fun hc9 => ?_)
      · refine Own.iconst hx (0 : Int32) (hb hby d5_86) rfl (by decide) ?_
        exact Own.retS hx hret (by simp) hlk (hb hby d5_87) (by decide) (by decide) ⟨by rw [show fM5_4 y0 y1 y2 y3 y4 y5 = (0 : Int32) from by simp only [fM5_4, if_pos hc3, if_pos hc6, if_neg hc9]]; try rfl, rfl⟩
      · refine Own.iloadN hx (4 : Int32) (hb hby d5_50) rfl rfl ?_
        refine Own.iconst hx (4 : Int32) (hb hby d5_51) rfl (by decide) ?_
        have hc10 : ¬ ((4 : Int32) < (4 : Int32)) := by decide
        refine Own.icmpF hx (Own.q_lt (4 : Int32) (4 : Int32)) (hb hby d5_52) (pcN := 55) rfl (by decide) (pcT := 66) rfl (fun q => absurd q hc10) (fun _ => ?_)
        refine Own.aloadN hx (.ref o0) (hb hby d5_55) rfl rfl rfl ?_
        refine Own.iconst hx (3 : Int32) (hb hby d5_56) rfl (by decide) ?_
        refine Own.caload hx hZ O0 0 3 rfl (by decide) (v := (.int y3)) rfl (hb hby d5_57) rfl ?_
        refine Own.aloadN hx (.ref o0) (hb hby d5_58) rfl rfl rfl ?_
        refine Own.iloadN hx (1 : Int32) (hb hby d5_59) rfl rfl ?_
        refine Own.iconst hx (3 : Int32) (hb hby d5_60) rfl (by decide) ?_
        refine Own.iadd hx (hb hby d5_61) rfl ?_
        refine Own.vI (4 : Int32) (by decide) ?_
        refine Own.caload hx hZ O0 0 4 rfl (by decide) (v := (.int y4)) rfl (hb hby d5_62) rfl ?_
        refine Own.icmpFn hx (Own.q_ne y3 y4) (hb hby d5_63) (pcN := 66) rfl (by decide) (pcT := 86) rfl (fun hc12 => ?_) (fun hc12 => ?_)
        · refine Own.iconst hx (0 : Int32) (hb hby d5_86) rfl (by decide) ?_
          exact Own.retS hx hret (by simp) hlk (hb hby d5_87) (by decide) (by decide) ⟨by rw [show fM5_4 y0 y1 y2 y3 y4 y5 = (0 : Int32) from by simp only [fM5_4, if_pos hc3, if_pos hc6, if_pos hc9, if_neg hc12]]; try rfl, rfl⟩
        · refine Own.iloadN hx (4 : Int32) (hb hby d5_66) rfl rfl ?_
          refine Own.iconst hx (5 : Int32) (hb hby d5_67) rfl (by decide) ?_
          have hc13 : (4 : Int32) < (5 : Int32) := by decide
          refine Own.icmpF hx (Own.q_lt (4 : Int32) (5 : Int32)) (hb hby d5_68) (pcN := 71) rfl (by decide) (pcT := 82) rfl (fun _ => ?_) (fun q => absurd hc13 q)
          refine Own.iconst hx (1 : Int32) (hb hby d5_82) rfl (by decide) ?_
          refine Own.goto hx (hb hby d5_83) (by decide) (pc' := 87) rfl ?_
          exact Own.retS hx hret (by simp) hlk (hb hby d5_87) (by decide) (by decide) ⟨by rw [show fM5_4 y0 y1 y2 y3 y4 y5 = (1 : Int32) from by simp only [fM5_4, if_pos hc3, if_pos hc6, if_pos hc9, if_pos hc12]]; try rfl, rfl⟩

def fB5 (y0 y1 y2 y3 y4 y5 : Int32) : Int32 := (if (fM5_4 y0 y1 y2 y3 y4 y5) = (0 : Int32) then (if (fM5_3 y0 y1 y2 y3 y4 y5) = (0 : Int32) then (if (fM5_2 y0 y1 y2 y3 y4 y5) = (0 : Int32) then (if (fM5_1 y0 y1 y2 y3 y4 y5) = (0 : Int32) then (0 : Int32) else (1 : Int32)) else (2 : Int32)) else (3 : Int32)) else (4 : Int32))
theorem d4_25 : decode method_4_code 25 = .ok (.aload_n 0, 1) := by decide +kernel
theorem d4_26 : decode method_4_code 26 = .ok (.iload_n 1, 1) := by decide +kernel
theorem d4_27 : decode method_4_code 27 = .ok (.iconst 4, 1) := by decide +kernel
theorem d4_28 : decode method_4_code 28 = .ok (.invokestatic 7, 3) := by decide +kernel
theorem d4_31 : decode method_4_code 31 = .ok (.ifCond .eq 5, 3) := by decide +kernel
theorem d4_34 : decode method_4_code 34 = .ok (.iconst 4, 1) := by decide +kernel
theorem d4_35 : decode method_4_code 35 = .ok (.ireturn, 1) := by decide +kernel
theorem ef4_5 (m : MethodId) (o0 : Addr) : entryFrame m #[(.ref o0), (.int (5 : Int32))] 2 = mkF m 0 #[.val (.ref o0), .val (.int (5 : Int32))] [] := by first | (simp [entryFrame, mkF, argsToLocals, Value.category]; done) | rfl
set_option maxRecDepth 65536 in
set_option maxHeartbeats 40000000 in
theorem rm4_5 (l : Launch) (Z : State) (a0 : Array Value) (hw : ∀ d ∈ tables_1, d.before a0 Z = true) (o0 : Addr) (h0 : Heap) (n0 : Nat) (y0 y1 y2 y3 y4 y5 : Int32) (fr : List (Addr × (Cell → Prop))) (O0 : Own.Owns n0 h0 ((o0, Own.ArrC Z .char [(.int y0), (.int y1), (.int y2), (.int y3), (.int y4), (.int y5)]) :: fr))  : Own.Does l (⟨"com/example/idxof/idxof/FailureFunctionOfPinLaw", "border", "([CI)I"⟩ : MethodName) method_4_code 2 (some .int) [] ({ frames := 1, cells := 0, slots := 0, locals := 18 } : Room) Z #[(.ref o0), (.int (5 : Int32))] h0 n0 (fun v h => v = some (.int (fB5 y0 y1 y2 y3 y4 y5)) ∧ h = h0) := by
  refine Own.doesOf pn2 ?_
  intro p e s m below meth c hx hby hml hret hlk hown hnm hZ
  refine Own.Goes.cast (ef4_5 m o0) ?_
  refine Own.iloadN hx (5 : Int32) (hb hby d4_0) rfl rfl ?_
  refine Own.iconst hx (1 : Int32) (hb hby d4_1) rfl (by decide) ?_
  refine Own.isub hx (hb hby d4_2) rfl ?_
  refine Own.vI (4 : Int32) (by decide) ?_
  refine Own.iconst hx (5 : Int32) (hb hby d4_3) rfl (by decide) ?_
  have hc1 : (4 : Int32) < (5 : Int32) := by decide
  refine Own.icmpF hx (Own.q_lt (4 : Int32) (5 : Int32)) (hb hby d4_4) (pcN := 7) rfl (by decide) (pcT := 18) rfl (fun _ => ?_) (fun q => absurd hc1 q)
  refine Own.iloadN hx (5 : Int32) (hb hby d4_18) rfl rfl ?_
  refine Own.iconst hx (1 : Int32) (hb hby d4_19) rfl (by decide) ?_
  refine Own.isub hx (hb hby d4_20) rfl ?_
  refine Own.vI (4 : Int32) (by decide) ?_
  refine Own.iconst hx (4 : Int32) (hb hby d4_21) rfl (by decide) ?_
  have hc3 : ¬ ((4 : Int32) < (4 : Int32)) := by decide
  refine Own.icmpF hx (Own.q_lt (4 : Int32) (4 : Int32)) (hb hby d4_22) (pcN := 25) rfl (by decide) (pcT := 36) rfl (fun q => absurd q hc3) (fun _ => ?_)
  refine Own.aloadN hx (.ref o0) (hb hby d4_25) rfl rfl rfl ?_
  refine Own.iloadN hx (5 : Int32) (hb hby d4_26) rfl rfl ?_
  refine Own.iconst hx (4 : Int32) (hb hby d4_27) rfl (by decide) ?_
  refine Own.callS hx hZ hown (hw _ (List.mem_of_getElem? (i := 17) rfl)) (hw _ (List.mem_of_getElem? (i := 18) rfl)) (hw _ (List.mem_of_getElem? (i := 4) rfl)) (hw _ (List.mem_of_getElem? (i := 19) rfl)) (by decide) pd1 (argsL := [(.ref o0), (.int (5 : Int32)), (.int (4 : Int32))]) (rest := []) rfl (W := 0) (Nat.le_of_eq rfl) (rm := ({ frames := 0, cells := 0, slots := 0, locals := 0 } : Room)) (by decide) (by decide) (by decide) (by decide) (k' := 0) (n' := 0) rfl rfl (by rw [hml]; rfl) [(.int (4 : Int32)), (.int (5 : Int32)), (.ref o0)] rfl (hb hby d4_28) (pc' := 31) rfl (rm5_5_4 l Z a0 hw o0 h0 n0 y0 y1 y2 y3 y4 y5 fr O0) ?_
  rintro _ h' ⟨rfl, eh⟩
  rw [eh]; clear eh h'
  show Own.Goes _ _ _ _ _ _ _ _ _ _ _ _ _ _ _ _ _ (mkF m 31 #[.val (.ref o0), .val (.int (5 : Int32))] [(.int (fM5_4 y0 y1 y2 y3 y4 y5))])
  refine Own.ifF hx (Own.z_eq (fM5_4 y0 y1 y2 y3 y4 y5)) (hb hby d4_31) (pcN := 34) rfl (by decide) (pcT := 36) rfl (fun hc5 => ?_) (fun hc5 => ?_)
  · refine Own.iloadN hx (5 : Int32) (hb hby d4_36) rfl rfl ?_
    refine Own.iconst hx (1 : Int32) (hb hby d4_37) rfl (by decide) ?_
    refine Own.isub hx (hb hby d4_38) rfl ?_
    refine Own.vI (4 : Int32) (by decide) ?_
    refine Own.iconst hx (3 : Int32) (hb hby d4_39) rfl (by decide) ?_
    have hc6 : ¬ ((4 : Int32) < (3 : Int32)) := by decide
    refine Own.icmpF hx (Own.q_lt (4 : Int32) (3 : Int32)) (hb hby d4_40) (pcN := 43) rfl (by decide) (pcT := 54) rfl (fun q => absurd q hc6) (fun _ => ?_)
    refine Own.aloadN hx (.ref o0) (hb hby d4_43) rfl rfl rfl ?_
    refine Own.iloadN hx (5 : Int32) (hb hby d4_44) rfl rfl ?_
    refine Own.iconst hx (3 : Int32) (hb hby d4_45) rfl (by decide) ?_
    refine Own.callS hx hZ hown (hw _ (List.mem_of_getElem? (i := 17) rfl)) (hw _ (List.mem_of_getElem? (i := 18) rfl)) (hw _ (List.mem_of_getElem? (i := 4) rfl)) (hw _ (List.mem_of_getElem? (i := 19) rfl)) (by decide) pd1 (argsL := [(.ref o0), (.int (5 : Int32)), (.int (3 : Int32))]) (rest := []) rfl (W := 0) (Nat.le_of_eq rfl) (rm := ({ frames := 0, cells := 0, slots := 0, locals := 0 } : Room)) (by decide) (by decide) (by decide) (by decide) (k' := 0) (n' := 0) rfl rfl (by rw [hml]; rfl) [(.int (3 : Int32)), (.int (5 : Int32)), (.ref o0)] rfl (hb hby d4_46) (pc' := 49) rfl (rm5_5_3 l Z a0 hw o0 h0 n0 y0 y1 y2 y3 y4 y5 fr O0) ?_
    rintro _ h' ⟨rfl, eh⟩
    rw [eh]; clear eh h'
    show Own.Goes _ _ _ _ _ _ _ _ _ _ _ _ _ _ _ _ _ (mkF m 49 #[.val (.ref o0), .val (.int (5 : Int32))] [(.int (fM5_3 y0 y1 y2 y3 y4 y5))])
    refine Own.ifF hx (Own.z_eq (fM5_3 y0 y1 y2 y3 y4 y5)) (hb hby d4_49) (pcN := 52) rfl (by decide) (pcT := 54) rfl (fun hc8 => ?_) (fun hc8 => ?_)
    · refine Own.iloadN hx (5 : Int32) (hb hby d4_54) rfl rfl ?_
      refine Own.iconst hx (1 : Int32) (hb hby d4_55) rfl (by decide) ?_
      refine Own.isub hx (hb hby d4_56) rfl ?_
      refine Own.vI (4 : Int32) (by decide) ?_
      refine Own.iconst hx (2 : Int32) (hb hby d4_57) rfl (by decide) ?_
      have hc9 : ¬ ((4 : Int32) < (2 : Int32)) := by decide
      refine Own.icmpF hx (Own.q_lt (4 : Int32) (2 : Int32)) (hb hby d4_58) (pcN := 61) rfl (by decide) (pcT := 72) rfl (fun q => absurd q hc9) (fun _ => ?_)
      refine Own.aloadN hx (.ref o0) (hb hby d4_61) rfl rfl rfl ?_
      refine Own.iloadN hx (5 : Int32) (hb hby d4_62) rfl rfl ?_
      refine Own.iconst hx (2 : Int32) (hb hby d4_63) rfl (by decide) ?_
      refine Own.callS hx hZ hown (hw _ (List.mem_of_getElem? (i := 17) rfl)) (hw _ (List.mem_of_getElem? (i := 18) rfl)) (hw _ (List.mem_of_getElem? (i := 4) rfl)) (hw _ (List.mem_of_getElem? (i := 19) rfl)) (by decide) pd1 (argsL := [(.ref o0), (.int (5 : Int32)), (.int (2 : Int32))]) (rest := []) rfl (W := 0) (Nat.le_of_eq rfl) (rm := ({ frames := 0, cells := 0, slots := 0, locals := 0 } : Room)) (by decide) (by decide) (by decide) (by decide) (k' := 0) (n' := 0) rfl rfl (by rw [hml]; rfl) [(.int (2 : Int32)), (.int (5 : Int32)), (.ref o0)] rfl (hb hby d4_64) (pc' := 67) rfl (rm5_5_2 l Z a0 hw o0 h0 n0 y0 y1 y2 y3 y4 y5 fr O0) ?_
      rintro _ h' ⟨rfl, eh⟩
      rw [eh]; clear eh h'
      show Own.Goes _ _ _ _ _ _ _ _ _ _ _ _ _ _ _ _ _ (mkF m 67 #[.val (.ref o0), .val (.int (5 : Int32))] [(.int (fM5_2 y0 y1 y2 y3 y4 y5))])
      refine Own.ifF hx (Own.z_eq (fM5_2 y0 y1 y2 y3 y4 y5)) (hb hby d4_67) (pcN := 70) rfl (by decide) (pcT := 72) rfl (fun hc11 => ?_) (fun hc11 => ?_)
      · refine Own.iloadN hx (5 : Int32) (hb hby d4_72) rfl rfl ?_
        refine Own.iconst hx (1 : Int32) (hb hby d4_73) rfl (by decide) ?_
        refine Own.isub hx (hb hby d4_74) rfl ?_
        refine Own.vI (4 : Int32) (by decide) ?_
        refine Own.iconst hx (1 : Int32) (hb hby d4_75) rfl (by decide) ?_
        have hc12 : ¬ ((4 : Int32) < (1 : Int32)) := by decide
        refine Own.icmpF hx (Own.q_lt (4 : Int32) (1 : Int32)) (hb hby d4_76) (pcN := 79) rfl (by decide) (pcT := 90) rfl (fun q => absurd q hc12) (fun _ => ?_)
        refine Own.aloadN hx (.ref o0) (hb hby d4_79) rfl rfl rfl ?_
        refine Own.iloadN hx (5 : Int32) (hb hby d4_80) rfl rfl ?_
        refine Own.iconst hx (1 : Int32) (hb hby d4_81) rfl (by decide) ?_
        refine Own.callS hx hZ hown (hw _ (List.mem_of_getElem? (i := 17) rfl)) (hw _ (List.mem_of_getElem? (i := 18) rfl)) (hw _ (List.mem_of_getElem? (i := 4) rfl)) (hw _ (List.mem_of_getElem? (i := 19) rfl)) (by decide) pd1 (argsL := [(.ref o0), (.int (5 : Int32)), (.int (1 : Int32))]) (rest := []) rfl (W := 0) (Nat.le_of_eq rfl) (rm := ({ frames := 0, cells := 0, slots := 0, locals := 0 } : Room)) (by decide) (by decide) (by decide) (by decide) (k' := 0) (n' := 0) rfl rfl (by rw [hml]; rfl) [(.int (1 : Int32)), (.int (5 : Int32)), (.ref o0)] rfl (hb hby d4_82) (pc' := 85) rfl (rm5_5_1 l Z a0 hw o0 h0 n0 y0 y1 y2 y3 y4 y5 fr O0) ?_
        rintro _ h' ⟨rfl, eh⟩
        rw [eh]; clear eh h'
        show Own.Goes _ _ _ _ _ _ _ _ _ _ _ _ _ _ _ _ _ (mkF m 85 #[.val (.ref o0), .val (.int (5 : Int32))] [(.int (fM5_1 y0 y1 y2 y3 y4 y5))])
        refine Own.ifF hx (Own.z_eq (fM5_1 y0 y1 y2 y3 y4 y5)) (hb hby d4_85) (pcN := 88) rfl (by decide) (pcT := 90) rfl (fun hc14 => ?_) (fun hc14 => ?_)
        · refine Own.iconst hx (0 : Int32) (hb hby d4_90) rfl (by decide) ?_
          exact Own.retI hx hret hlk (hb hby d4_91) (by decide) (by decide) ⟨by rw [show fB5 y0 y1 y2 y3 y4 y5 = (0 : Int32) from by simp only [fB5, if_pos hc5, if_pos hc8, if_pos hc11, if_pos hc14]]; try rfl, rfl⟩
        · refine Own.iconst hx (1 : Int32) (hb hby d4_88) rfl (by decide) ?_
          exact Own.retI hx hret hlk (hb hby d4_89) (by decide) (by decide) ⟨by rw [show fB5 y0 y1 y2 y3 y4 y5 = (1 : Int32) from by simp only [fB5, if_pos hc5, if_pos hc8, if_pos hc11, if_neg hc14]]; try rfl, rfl⟩
      · refine Own.iconst hx (2 : Int32) (hb hby d4_70) rfl (by decide) ?_
        exact Own.retI hx hret hlk (hb hby d4_71) (by decide) (by decide) ⟨by rw [show fB5 y0 y1 y2 y3 y4 y5 = (2 : Int32) from by simp only [fB5, if_pos hc5, if_pos hc8, if_neg hc11]]; try rfl, rfl⟩
    · refine Own.iconst hx (3 : Int32) (hb hby d4_52) rfl (by decide) ?_
      exact Own.retI hx hret hlk (hb hby d4_53) (by decide) (by decide) ⟨by rw [show fB5 y0 y1 y2 y3 y4 y5 = (3 : Int32) from by simp only [fB5, if_pos hc5, if_neg hc8]]; try rfl, rfl⟩
  · refine Own.iconst hx (4 : Int32) (hb hby d4_34) rfl (by decide) ?_
    exact Own.retI hx hret hlk (hb hby d4_35) (by decide) (by decide) ⟨by rw [show fB5 y0 y1 y2 y3 y4 y5 = (4 : Int32) from by simp only [fB5, if_neg hc5]]; try rfl, rfl⟩

theorem ef3_a4 (m : MethodId) (o0 : Addr) (p1 : Int32) (o2 : Addr) : entryFrame m #[(.ref o0), (.int p1), (.ref o2), (.int (4 : Int32))] 4 = mkF m 0 #[.val (.ref o0), .val (.int p1), .val (.ref o2), .val (.int (4 : Int32))] [] := by first | (simp [entryFrame, mkF, argsToLocals, Value.category]; done) | rfl
set_option maxRecDepth 65536 in
set_option maxHeartbeats 40000000 in
theorem rm3_a4 (l : Launch) (Z : State) (a0 : Array Value) (hw : ∀ d ∈ tables_1, d.before a0 Z = true) (o0 : Addr) (p1 : Int32) (o2 : Addr) (h0 : Heap) (n0 : Nat)  (hge : ¬ ((4 : Int32) < p1)) : Own.Does l (⟨"com/example/idxof/idxof/FailureFunctionOfPinLaw", "entry", "([II[CI)Z"⟩ : MethodName) method_5_code 4 (some .boolean) [] ({ frames := 0, cells := 0, slots := 0, locals := 0 } : Room) Z #[(.ref o0), (.int p1), (.ref o2), (.int (4 : Int32))] h0 n0 (fun v h => v = some (.int 1) ∧ h = h0) := by
  refine Own.doesOf pn3 ?_
  intro p e s m below meth c hx hby hml hret hlk hown hnm hZ
  refine Own.Goes.cast (ef3_a4 m o0 p1 o2) ?_
  refine Own.iloadN hx p1 (hb hby d3_0) rfl rfl ?_
  refine Own.iloadN hx (4 : Int32) (hb hby d3_1) rfl rfl ?_
  have hc1 : ¬ ((4 : Int32) < p1) := hge
  refine Own.icmpFn hx (Own.q_le p1 (4 : Int32)) (hb hby d3_2) (pcN := 5) rfl (by decide) (pcT := 18) rfl (fun _ => ?_) (fun q => absurd q hc1)
  refine Own.iconst hx (1 : Int32) (hb hby d3_18) rfl (by decide) ?_
  refine Own.goto hx (hb hby d3_19) (by decide) (pc' := 23) rfl ?_
  exact Own.retS hx hret (by simp) hlk (hb hby d3_23) (by decide) (by decide) ⟨rfl, rfl⟩

def fE4 (x y0 y1 y2 y3 y4 y5 : Int32) : Int32 := (if x = (fB5 y0 y1 y2 y3 y4 y5) then (1 : Int32) else (0 : Int32))
theorem ef3_b4 (m : MethodId) (o0 : Addr) (p1 : Int32) (o2 : Addr) : entryFrame m #[(.ref o0), (.int p1), (.ref o2), (.int (4 : Int32))] 4 = mkF m 0 #[.val (.ref o0), .val (.int p1), .val (.ref o2), .val (.int (4 : Int32))] [] := by first | (simp [entryFrame, mkF, argsToLocals, Value.category]; done) | rfl
set_option maxRecDepth 65536 in
set_option maxHeartbeats 40000000 in
theorem rm3_b4 (l : Launch) (Z : State) (a0 : Array Value) (hw : ∀ d ∈ tables_1, d.before a0 Z = true) (o0 : Addr) (p1 : Int32) (o2 : Addr) (h0 : Heap) (n0 : Nat) (vs : List Value) (x : Int32) (y0 y1 y2 y3 y4 y5 : Int32) (fr : List (Addr × (Cell → Prop))) (O0 : Own.Owns n0 h0 ((o0, Own.ArrC Z .int vs) :: (o2, Own.ArrC Z .char [(.int y0), (.int y1), (.int y2), (.int y3), (.int y4), (.int y5)]) :: fr)) (hlt : (4 : Int32) < p1) (hv : vs[4]? = some (.int x)) : Own.Does l (⟨"com/example/idxof/idxof/FailureFunctionOfPinLaw", "entry", "([II[CI)Z"⟩ : MethodName) method_5_code 4 (some .boolean) [] ({ frames := 2, cells := 0, slots := 0, locals := 36 } : Room) Z #[(.ref o0), (.int p1), (.ref o2), (.int (4 : Int32))] h0 n0 (fun v h => v = some (.int (fE4 x y0 y1 y2 y3 y4 y5)) ∧ h = h0) := by
  refine Own.doesOf pn3 ?_
  intro p e s m below meth c hx hby hml hret hlk hown hnm hZ
  refine Own.Goes.cast (ef3_b4 m o0 p1 o2) ?_
  refine Own.iloadN hx p1 (hb hby d3_0) rfl rfl ?_
  refine Own.iloadN hx (4 : Int32) (hb hby d3_1) rfl rfl ?_
  have hc1 : (4 : Int32) < p1 := hlt
  refine Own.icmpFn hx (Own.q_le p1 (4 : Int32)) (hb hby d3_2) (pcN := 5) rfl (by decide) (pcT := 18) rfl (fun q => absurd hc1 q) (fun _ => ?_)
  refine Own.aloadN hx (.ref o0) (hb hby d3_5) rfl rfl rfl ?_
  refine Own.iloadN hx (4 : Int32) (hb hby d3_6) rfl rfl ?_
  refine Own.iaload hx hZ O0 0 4 rfl (by decide) (v := (.int x)) hv (hb hby d3_7) rfl ?_
  refine Own.aloadN hx (.ref o2) (hb hby d3_8) rfl rfl rfl ?_
  refine Own.iloadN hx (4 : Int32) (hb hby d3_9) rfl rfl ?_
  refine Own.iconst hx (1 : Int32) (hb hby d3_10) rfl (by decide) ?_
  refine Own.iadd hx (hb hby d3_11) rfl ?_
  refine Own.vI (5 : Int32) (by decide) ?_
  have O3 : Own.Owns n0 h0 ((o2, Own.ArrC Z .char [(.int y0), (.int y1), (.int y2), (.int y3), (.int y4), (.int y5)]) :: (o0, Own.ArrC Z .int vs) :: fr) := O0.pick 1 rfl
  refine Own.callS hx hZ hown (hw _ (List.mem_of_getElem? (i := 14) rfl)) (hw _ (List.mem_of_getElem? (i := 15) rfl)) (hw _ (List.mem_of_getElem? (i := 4) rfl)) (hw _ (List.mem_of_getElem? (i := 16) rfl)) (by decide) pd0 (argsL := [(.ref o2), (.int (5 : Int32))]) (rest := [(.int x)]) rfl (W := 1) (Nat.le_of_eq rfl) (rm := ({ frames := 1, cells := 0, slots := 0, locals := 18 } : Room)) (by decide) (by decide) (by decide) (by decide) (k' := 0) (n' := 0) rfl rfl (by rw [hml]; rfl) [(.int (5 : Int32)), (.ref o2), (.int x)] rfl (hb hby d3_12) (pc' := 15) rfl (rm4_5 l Z a0 hw o2 h0 n0 y0 y1 y2 y3 y4 y5 ((o0, Own.ArrC Z .int vs) :: fr) O3) ?_
  rintro _ h' ⟨rfl, eh⟩
  rw [eh]; clear eh h'
  show Own.Goes _ _ _ _ _ _ _ _ _ _ _ _ _ _ _ _ _ (mkF m 15 #[.val (.ref o0), .val (.int p1), .val (.ref o2), .val (.int (4 : Int32))] [(.int (fB5 y0 y1 y2 y3 y4 y5)), (.int x)])
  refine Own.icmpFn hx (Own.q_ne x (fB5 y0 y1 y2 y3 y4 y5)) (hb hby d3_15) (pcN := 18) rfl (by decide) (pcT := 22) rfl (fun hc4 => ?_) (fun hc4 => ?_)
  · refine Own.iconst hx (0 : Int32) (hb hby d3_22) rfl (by decide) ?_
    exact Own.retS hx hret (by simp) hlk (hb hby d3_23) (by decide) (by decide) ⟨by rw [show fE4 x y0 y1 y2 y3 y4 y5 = (0 : Int32) from by simp only [fE4, if_neg hc4]]; try rfl, rfl⟩
  · refine Own.iconst hx (1 : Int32) (hb hby d3_18) rfl (by decide) ?_
    refine Own.goto hx (hb hby d3_19) (by decide) (pc' := 23) rfl ?_
    exact Own.retS hx hret (by simp) hlk (hb hby d3_23) (by decide) (by decide) ⟨by rw [show fE4 x y0 y1 y2 y3 y4 y5 = (1 : Int32) from by simp only [fE4, if_pos hc4]]; try rfl, rfl⟩

def fM6_1 (y0 y1 y2 y3 y4 y5 : Int32) : Int32 := (if y0 = y5 then (1 : Int32) else (0 : Int32))
theorem ef5_6_1 (m : MethodId) (o0 : Addr) : entryFrame m #[(.ref o0), (.int (6 : Int32)), (.int (1 : Int32))] 4 = mkF m 0 #[.val (.ref o0), .val (.int (6 : Int32)), .val (.int (1 : Int32)), .unset] [] := by first | (simp [entryFrame, mkF, argsToLocals, Value.category]; done) | rfl
set_option maxRecDepth 65536 in
set_option maxHeartbeats 40000000 in
theorem rm5_6_1 (l : Launch) (Z : State) (a0 : Array Value) (hw : ∀ d ∈ tables_1, d.before a0 Z = true) (o0 : Addr) (h0 : Heap) (n0 : Nat) (y0 y1 y2 y3 y4 y5 : Int32) (fr : List (Addr × (Cell → Prop))) (O0 : Own.Owns n0 h0 ((o0, Own.ArrC Z .char [(.int y0), (.int y1), (.int y2), (.int y3), (.int y4), (.int y5)]) :: fr))  : Own.Does l (⟨"com/example/idxof/idxof/FailureFunctionOfPinLaw", "match", "([CII)Z"⟩ : MethodName) method_3_code 4 (some .boolean) [] ({ frames := 0, cells := 0, slots := 0, locals := 0 } : Room) Z #[(.ref o0), (.int (6 : Int32)), (.int (1 : Int32))] h0 n0 (fun v h => v = some (.int (fM6_1 y0 y1 y2 y3 y4 y5)) ∧ h = h0) := by
  refine Own.doesOf pn4 ?_
  intro p e s m below meth c hx hby hml hret hlk hown hnm hZ
  refine Own.Goes.cast (ef5_6_1 m o0) ?_
  refine Own.iloadN hx (6 : Int32) (hb hby d5_0) rfl rfl ?_
  refine Own.iloadN hx (1 : Int32) (hb hby d5_1) rfl rfl ?_
  refine Own.isub hx (hb hby d5_2) rfl ?_
  refine Own.vI (5 : Int32) (by decide) ?_
  refine Own.istoreN hx (5 : Int32) rfl #[.val (.ref o0), .val (.int (6 : Int32)), .val (.int (1 : Int32)), .val (.int (5 : Int32))] (hb hby d5_3) rfl rfl ?_
  refine Own.iloadN hx (1 : Int32) (hb hby d5_4) rfl rfl ?_
  refine Own.iconst hx (1 : Int32) (hb hby d5_5) rfl (by decide) ?_
  have hc1 : ¬ ((1 : Int32) < (1 : Int32)) := by decide
  refine Own.icmpF hx (Own.q_lt (1 : Int32) (1 : Int32)) (hb hby d5_6) (pcN := 9) rfl (by decide) (pcT := 18) rfl (fun q => absurd q hc1) (fun _ => ?_)
  refine Own.aloadN hx (.ref o0) (hb hby d5_9) rfl rfl rfl ?_
  refine Own.iconst hx (0 : Int32) (hb hby d5_10) rfl (by decide) ?_
  refine Own.caload hx hZ O0 0 0 rfl (by decide) (v := (.int y0)) rfl (hb hby d5_11) rfl ?_
  refine Own.aloadN hx (.ref o0) (hb hby d5_12) rfl rfl rfl ?_
  refine Own.iloadN hx (5 : Int32) (hb hby d5_13) rfl rfl ?_
  refine Own.caload hx hZ O0 0 5 rfl (by decide) (v := (.int y5)) rfl (hb hby d5_14) rfl ?_
  refine Own.icmpFn hx (Own.q_ne y0 y5) (hb hby d5_15) (pcN := 18) rfl (by decide) (pcT := 86) rfl (fun hc3 => ?_) (fun hc3 => ?_)
  · refine Own.iconst hx (0 : Int32) (hb hby d5_86) rfl (by decide) ?_
    exact Own.retS hx hret (by simp) hlk (hb hby d5_87) (by decide) (by decide) ⟨by rw [show fM6_1 y0 y1 y2 y3 y4 y5 = (0 : Int32) from by simp only [fM6_1, if_neg hc3]]; try rfl, rfl⟩
  · refine Own.iloadN hx (1 : Int32) (hb hby d5_18) rfl rfl ?_
    refine Own.iconst hx (2 : Int32) (hb hby d5_19) rfl (by decide) ?_
    have hc4 : (1 : Int32) < (2 : Int32) := by decide
    refine Own.icmpF hx (Own.q_lt (1 : Int32) (2 : Int32)) (hb hby d5_20) (pcN := 23) rfl (by decide) (pcT := 34) rfl (fun _ => ?_) (fun q => absurd hc4 q)
    refine Own.iloadN hx (1 : Int32) (hb hby d5_34) rfl rfl ?_
    refine Own.iconst hx (3 : Int32) (hb hby d5_35) rfl (by decide) ?_
    have hc6 : (1 : Int32) < (3 : Int32) := by decide
    refine Own.icmpF hx (Own.q_lt (1 : Int32) (3 : Int32)) (hb hby d5_36) (pcN := 39) rfl (by decide) (pcT := 50) rfl (fun _ => ?_) (fun q => absurd hc6 q)
    refine Own.iloadN hx (1 : Int32) (hb hby d5_50) rfl rfl ?_
    refine Own.iconst hx (4 : Int32) (hb hby d5_51) rfl (by decide) ?_
    have hc8 : (1 : Int32) < (4 : Int32) := by decide
    refine Own.icmpF hx (Own.q_lt (1 : Int32) (4 : Int32)) (hb hby d5_52) (pcN := 55) rfl (by decide) (pcT := 66) rfl (fun _ => ?_) (fun q => absurd hc8 q)
    refine Own.iloadN hx (1 : Int32) (hb hby d5_66) rfl rfl ?_
    refine Own.iconst hx (5 : Int32) (hb hby d5_67) rfl (by decide) ?_
    have hc10 : (1 : Int32) < (5 : Int32) := by decide
    refine Own.icmpF hx (Own.q_lt (1 : Int32) (5 : Int32)) (hb hby d5_68) (pcN := 71) rfl (by decide) (pcT := 82) rfl (fun _ => ?_) (fun q => absurd hc10 q)
    refine Own.iconst hx (1 : Int32) (hb hby d5_82) rfl (by decide) ?_
    refine Own.goto hx (hb hby d5_83) (by decide) (pc' := 87) rfl ?_
    exact Own.retS hx hret (by simp) hlk (hb hby d5_87) (by decide) (by decide) ⟨by rw [show fM6_1 y0 y1 y2 y3 y4 y5 = (1 : Int32) from by simp only [fM6_1, if_pos hc3]]; try rfl, rfl⟩

def fM6_2 (y0 y1 y2 y3 y4 y5 : Int32) : Int32 := (if y0 = y4 then (if y1 = y5 then (1 : Int32) else (0 : Int32)) else (0 : Int32))
theorem ef5_6_2 (m : MethodId) (o0 : Addr) : entryFrame m #[(.ref o0), (.int (6 : Int32)), (.int (2 : Int32))] 4 = mkF m 0 #[.val (.ref o0), .val (.int (6 : Int32)), .val (.int (2 : Int32)), .unset] [] := by first | (simp [entryFrame, mkF, argsToLocals, Value.category]; done) | rfl
set_option maxRecDepth 65536 in
set_option maxHeartbeats 40000000 in
theorem rm5_6_2 (l : Launch) (Z : State) (a0 : Array Value) (hw : ∀ d ∈ tables_1, d.before a0 Z = true) (o0 : Addr) (h0 : Heap) (n0 : Nat) (y0 y1 y2 y3 y4 y5 : Int32) (fr : List (Addr × (Cell → Prop))) (O0 : Own.Owns n0 h0 ((o0, Own.ArrC Z .char [(.int y0), (.int y1), (.int y2), (.int y3), (.int y4), (.int y5)]) :: fr))  : Own.Does l (⟨"com/example/idxof/idxof/FailureFunctionOfPinLaw", "match", "([CII)Z"⟩ : MethodName) method_3_code 4 (some .boolean) [] ({ frames := 0, cells := 0, slots := 0, locals := 0 } : Room) Z #[(.ref o0), (.int (6 : Int32)), (.int (2 : Int32))] h0 n0 (fun v h => v = some (.int (fM6_2 y0 y1 y2 y3 y4 y5)) ∧ h = h0) := by
  refine Own.doesOf pn4 ?_
  intro p e s m below meth c hx hby hml hret hlk hown hnm hZ
  refine Own.Goes.cast (ef5_6_2 m o0) ?_
  refine Own.iloadN hx (6 : Int32) (hb hby d5_0) rfl rfl ?_
  refine Own.iloadN hx (2 : Int32) (hb hby d5_1) rfl rfl ?_
  refine Own.isub hx (hb hby d5_2) rfl ?_
  refine Own.vI (4 : Int32) (by decide) ?_
  refine Own.istoreN hx (4 : Int32) rfl #[.val (.ref o0), .val (.int (6 : Int32)), .val (.int (2 : Int32)), .val (.int (4 : Int32))] (hb hby d5_3) rfl rfl ?_
  refine Own.iloadN hx (2 : Int32) (hb hby d5_4) rfl rfl ?_
  refine Own.iconst hx (1 : Int32) (hb hby d5_5) rfl (by decide) ?_
  have hc1 : ¬ ((2 : Int32) < (1 : Int32)) := by decide
  refine Own.icmpF hx (Own.q_lt (2 : Int32) (1 : Int32)) (hb hby d5_6) (pcN := 9) rfl (by decide) (pcT := 18) rfl (fun q => absurd q hc1) (fun _ => ?_)
  refine Own.aloadN hx (.ref o0) (hb hby d5_9) rfl rfl rfl ?_
  refine Own.iconst hx (0 : Int32) (hb hby d5_10) rfl (by decide) ?_
  refine Own.caload hx hZ O0 0 0 rfl (by decide) (v := (.int y0)) rfl (hb hby d5_11) rfl ?_
  refine Own.aloadN hx (.ref o0) (hb hby d5_12) rfl rfl rfl ?_
  refine Own.iloadN hx (4 : Int32) (hb hby d5_13) rfl rfl ?_
  refine Own.caload hx hZ O0 0 4 rfl (by decide) (v := (.int y4)) rfl (hb hby d5_14) rfl ?_
  refine Own.icmpFn hx (Own.q_ne y0 y4) (hb hby d5_15) (pcN := 18) rfl (by decide) (pcT := 86) rfl (fun hc3 => ?_) (fun hc3 => ?_)
  · refine Own.iconst hx (0 : Int32) (hb hby d5_86) rfl (by decide) ?_
    exact Own.retS hx hret (by simp) hlk (hb hby d5_87) (by decide) (by decide) ⟨by rw [show fM6_2 y0 y1 y2 y3 y4 y5 = (0 : Int32) from by simp only [fM6_2, if_neg hc3]]; try rfl, rfl⟩
  · refine Own.iloadN hx (2 : Int32) (hb hby d5_18) rfl rfl ?_
    refine Own.iconst hx (2 : Int32) (hb hby d5_19) rfl (by decide) ?_
    have hc4 : ¬ ((2 : Int32) < (2 : Int32)) := by decide
    refine Own.icmpF hx (Own.q_lt (2 : Int32) (2 : Int32)) (hb hby d5_20) (pcN := 23) rfl (by decide) (pcT := 34) rfl (fun q => absurd q hc4) (fun _ => ?_)
    refine Own.aloadN hx (.ref o0) (hb hby d5_23) rfl rfl rfl ?_
    refine Own.iconst hx (1 : Int32) (hb hby d5_24) rfl (by decide) ?_
    refine Own.caload hx hZ O0 0 1 rfl (by decide) (v := (.int y1)) rfl (hb hby d5_25) rfl ?_
    refine Own.aloadN hx (.ref o0) (hb hby d5_26) rfl rfl rfl ?_
    refine Own.iloadN hx (4 : Int32) (hb hby d5_27) rfl rfl ?_
    refine Own.iconst hx (1 : Int32) (hb hby d5_28) rfl (by decide) ?_
    refine Own.iadd hx (hb hby d5_29) rfl ?_
    refine Own.vI (5 : Int32) (by decide) ?_
    refine Own.caload hx hZ O0 0 5 rfl (by decide) (v := (.int y5)) rfl (hb hby d5_30) rfl ?_
    refine Own.icmpFn hx (Own.q_ne y1 y5) (hb hby d5_31) (pcN := 34) rfl (by decide) (pcT := 86) rfl (fun hc6 => ?_) (fun hc6 => ?_)
    · refine Own.iconst hx (0 : Int32) (hb hby d5_86) rfl (by decide) ?_
      exact Own.retS hx hret (by simp) hlk (hb hby d5_87) (by decide) (by decide) ⟨by rw [show fM6_2 y0 y1 y2 y3 y4 y5 = (0 : Int32) from by simp only [fM6_2, if_pos hc3, if_neg hc6]]; try rfl, rfl⟩
    · refine Own.iloadN hx (2 : Int32) (hb hby d5_34) rfl rfl ?_
      refine Own.iconst hx (3 : Int32) (hb hby d5_35) rfl (by decide) ?_
      have hc7 : (2 : Int32) < (3 : Int32) := by decide
      refine Own.icmpF hx (Own.q_lt (2 : Int32) (3 : Int32)) (hb hby d5_36) (pcN := 39) rfl (by decide) (pcT := 50) rfl (fun _ => ?_) (fun q => absurd hc7 q)
      refine Own.iloadN hx (2 : Int32) (hb hby d5_50) rfl rfl ?_
      refine Own.iconst hx (4 : Int32) (hb hby d5_51) rfl (by decide) ?_
      have hc9 : (2 : Int32) < (4 : Int32) := by decide
      refine Own.icmpF hx (Own.q_lt (2 : Int32) (4 : Int32)) (hb hby d5_52) (pcN := 55) rfl (by decide) (pcT := 66) rfl (fun _ => ?_) (fun q => absurd hc9 q)
      refine Own.iloadN hx (2 : Int32) (hb hby d5_66) rfl rfl ?_
      refine Own.iconst hx (5 : Int32) (hb hby d5_67) rfl (by decide) ?_
      have hc11 : (2 : Int32) < (5 : Int32) := by decide
      refine Own.icmpF hx (Own.q_lt (2 : Int32) (5 : Int32)) (hb hby d5_68) (pcN := 71) rfl (by decide) (pcT := 82) rfl (fun _ => ?_) (fun q => absurd hc11 q)
      refine Own.iconst hx (1 : Int32) (hb hby d5_82) rfl (by decide) ?_
      refine Own.goto hx (hb hby d5_83) (by decide) (pc' := 87) rfl ?_
      exact Own.retS hx hret (by simp) hlk (hb hby d5_87) (by decide) (by decide) ⟨by rw [show fM6_2 y0 y1 y2 y3 y4 y5 = (1 : Int32) from by simp only [fM6_2, if_pos hc3, if_pos hc6]]; try rfl, rfl⟩

def fM6_3 (y0 y1 y2 y3 y4 y5 : Int32) : Int32 := (if y0 = y3 then (if y1 = y4 then (if y2 = y5 then (1 : Int32) else (0 : Int32)) else (0 : Int32)) else (0 : Int32))
theorem ef5_6_3 (m : MethodId) (o0 : Addr) : entryFrame m #[(.ref o0), (.int (6 : Int32)), (.int (3 : Int32))] 4 = mkF m 0 #[.val (.ref o0), .val (.int (6 : Int32)), .val (.int (3 : Int32)), .unset] [] := by first | (simp [entryFrame, mkF, argsToLocals, Value.category]; done) | rfl
set_option maxRecDepth 65536 in
set_option maxHeartbeats 40000000 in
theorem rm5_6_3 (l : Launch) (Z : State) (a0 : Array Value) (hw : ∀ d ∈ tables_1, d.before a0 Z = true) (o0 : Addr) (h0 : Heap) (n0 : Nat) (y0 y1 y2 y3 y4 y5 : Int32) (fr : List (Addr × (Cell → Prop))) (O0 : Own.Owns n0 h0 ((o0, Own.ArrC Z .char [(.int y0), (.int y1), (.int y2), (.int y3), (.int y4), (.int y5)]) :: fr))  : Own.Does l (⟨"com/example/idxof/idxof/FailureFunctionOfPinLaw", "match", "([CII)Z"⟩ : MethodName) method_3_code 4 (some .boolean) [] ({ frames := 0, cells := 0, slots := 0, locals := 0 } : Room) Z #[(.ref o0), (.int (6 : Int32)), (.int (3 : Int32))] h0 n0 (fun v h => v = some (.int (fM6_3 y0 y1 y2 y3 y4 y5)) ∧ h = h0) := by
  refine Own.doesOf pn4 ?_
  intro p e s m below meth c hx hby hml hret hlk hown hnm hZ
  refine Own.Goes.cast (ef5_6_3 m o0) ?_
  refine Own.iloadN hx (6 : Int32) (hb hby d5_0) rfl rfl ?_
  refine Own.iloadN hx (3 : Int32) (hb hby d5_1) rfl rfl ?_
  refine Own.isub hx (hb hby d5_2) rfl ?_
  refine Own.vI (3 : Int32) (by decide) ?_
  refine Own.istoreN hx (3 : Int32) rfl #[.val (.ref o0), .val (.int (6 : Int32)), .val (.int (3 : Int32)), .val (.int (3 : Int32))] (hb hby d5_3) rfl rfl ?_
  refine Own.iloadN hx (3 : Int32) (hb hby d5_4) rfl rfl ?_
  refine Own.iconst hx (1 : Int32) (hb hby d5_5) rfl (by decide) ?_
  have hc1 : ¬ ((3 : Int32) < (1 : Int32)) := by decide
  refine Own.icmpF hx (Own.q_lt (3 : Int32) (1 : Int32)) (hb hby d5_6) (pcN := 9) rfl (by decide) (pcT := 18) rfl (fun q => absurd q hc1) (fun _ => ?_)
  refine Own.aloadN hx (.ref o0) (hb hby d5_9) rfl rfl rfl ?_
  refine Own.iconst hx (0 : Int32) (hb hby d5_10) rfl (by decide) ?_
  refine Own.caload hx hZ O0 0 0 rfl (by decide) (v := (.int y0)) rfl (hb hby d5_11) rfl ?_
  refine Own.aloadN hx (.ref o0) (hb hby d5_12) rfl rfl rfl ?_
  refine Own.iloadN hx (3 : Int32) (hb hby d5_13) rfl rfl ?_
  refine Own.caload hx hZ O0 0 3 rfl (by decide) (v := (.int y3)) rfl (hb hby d5_14) rfl ?_
  refine Own.icmpFn hx (Own.q_ne y0 y3) (hb hby d5_15) (pcN := 18) rfl (by decide) (pcT := 86) rfl (fun hc3 => ?_) (fun hc3 => ?_)
  · refine Own.iconst hx (0 : Int32) (hb hby d5_86) rfl (by decide) ?_
    exact Own.retS hx hret (by simp) hlk (hb hby d5_87) (by decide) (by decide) ⟨by rw [show fM6_3 y0 y1 y2 y3 y4 y5 = (0 : Int32) from by simp only [fM6_3, if_neg hc3]]; try rfl, rfl⟩
  · refine Own.iloadN hx (3 : Int32) (hb hby d5_18) rfl rfl ?_
    refine Own.iconst hx (2 : Int32) (hb hby d5_19) rfl (by decide) ?_
    have hc4 : ¬ ((3 : Int32) < (2 : Int32)) := by decide
    refine Own.icmpF hx (Own.q_lt (3 : Int32) (2 : Int32)) (hb hby d5_20) (pcN := 23) rfl (by decide) (pcT := 34) rfl (fun q => absurd q hc4) (fun _ => ?_)
    refine Own.aloadN hx (.ref o0) (hb hby d5_23) rfl rfl rfl ?_
    refine Own.iconst hx (1 : Int32) (hb hby d5_24) rfl (by decide) ?_
    refine Own.caload hx hZ O0 0 1 rfl (by decide) (v := (.int y1)) rfl (hb hby d5_25) rfl ?_
    refine Own.aloadN hx (.ref o0) (hb hby d5_26) rfl rfl rfl ?_
    refine Own.iloadN hx (3 : Int32) (hb hby d5_27) rfl rfl ?_
    refine Own.iconst hx (1 : Int32) (hb hby d5_28) rfl (by decide) ?_
    refine Own.iadd hx (hb hby d5_29) rfl ?_
    refine Own.vI (4 : Int32) (by decide) ?_
    refine Own.caload hx hZ O0 0 4 rfl (by decide) (v := (.int y4)) rfl (hb hby d5_30) rfl ?_
    refine Own.icmpFn hx (Own.q_ne y1 y4) (hb hby d5_31) (pcN := 34) rfl (by decide) (pcT := 86) rfl (fun hc6 => ?_) (fun hc6 => ?_)
    · refine Own.iconst hx (0 : Int32) (hb hby d5_86) rfl (by decide) ?_
      exact Own.retS hx hret (by simp) hlk (hb hby d5_87) (by decide) (by decide) ⟨by rw [show fM6_3 y0 y1 y2 y3 y4 y5 = (0 : Int32) from by simp only [fM6_3, if_pos hc3, if_neg hc6]]; try rfl, rfl⟩
    · refine Own.iloadN hx (3 : Int32) (hb hby d5_34) rfl rfl ?_
      refine Own.iconst hx (3 : Int32) (hb hby d5_35) rfl (by decide) ?_
      have hc7 : ¬ ((3 : Int32) < (3 : Int32)) := by decide
      refine Own.icmpF hx (Own.q_lt (3 : Int32) (3 : Int32)) (hb hby d5_36) (pcN := 39) rfl (by decide) (pcT := 50) rfl (fun q => absurd q hc7) (fun _ => ?_)
      refine Own.aloadN hx (.ref o0) (hb hby d5_39) rfl rfl rfl ?_
      refine Own.iconst hx (2 : Int32) (hb hby d5_40) rfl (by decide) ?_
      refine Own.caload hx hZ O0 0 2 rfl (by decide) (v := (.int y2)) rfl (hb hby d5_41) rfl ?_
      refine Own.aloadN hx (.ref o0) (hb hby d5_42) rfl rfl rfl ?_
      refine Own.iloadN hx (3 : Int32) (hb hby d5_43) rfl rfl ?_
      refine Own.iconst hx (2 : Int32) (hb hby d5_44) rfl (by decide) ?_
      refine Own.iadd hx (hb hby d5_45) rfl ?_
      refine Own.vI (5 : Int32) (by decide) ?_
      refine Own.caload hx hZ O0 0 5 rfl (by decide) (v := (.int y5)) rfl (hb hby d5_46) rfl ?_
      refine Own.icmpFn hx (Own.q_ne y2 y5) (hb hby d5_47) (pcN := 50) rfl (by decide) (pcT := 86) rfl (fun hc9 => ?_) (fun hc9 => ?_)
      · refine Own.iconst hx (0 : Int32) (hb hby d5_86) rfl (by decide) ?_
        exact Own.retS hx hret (by simp) hlk (hb hby d5_87) (by decide) (by decide) ⟨by rw [show fM6_3 y0 y1 y2 y3 y4 y5 = (0 : Int32) from by simp only [fM6_3, if_pos hc3, if_pos hc6, if_neg hc9]]; try rfl, rfl⟩
      · refine Own.iloadN hx (3 : Int32) (hb hby d5_50) rfl rfl ?_
        refine Own.iconst hx (4 : Int32) (hb hby d5_51) rfl (by decide) ?_
        have hc10 : (3 : Int32) < (4 : Int32) := by decide
        refine Own.icmpF hx (Own.q_lt (3 : Int32) (4 : Int32)) (hb hby d5_52) (pcN := 55) rfl (by decide) (pcT := 66) rfl (fun _ => ?_) (fun q => absurd hc10 q)
        refine Own.iloadN hx (3 : Int32) (hb hby d5_66) rfl rfl ?_
        refine Own.iconst hx (5 : Int32) (hb hby d5_67) rfl (by decide) ?_
        have hc12 : (3 : Int32) < (5 : Int32) := by decide
        refine Own.icmpF hx (Own.q_lt (3 : Int32) (5 : Int32)) (hb hby d5_68) (pcN := 71) rfl (by decide) (pcT := 82) rfl (fun _ => ?_) (fun q => absurd hc12 q)
        refine Own.iconst hx (1 : Int32) (hb hby d5_82) rfl (by decide) ?_
        refine Own.goto hx (hb hby d5_83) (by decide) (pc' := 87) rfl ?_
        exact Own.retS hx hret (by simp) hlk (hb hby d5_87) (by decide) (by decide) ⟨by rw [show fM6_3 y0 y1 y2 y3 y4 y5 = (1 : Int32) from by simp only [fM6_3, if_pos hc3, if_pos hc6, if_pos hc9]]; try rfl, rfl⟩

def fM6_4 (y0 y1 y2 y3 y4 y5 : Int32) : Int32 := (if y0 = y2 then (if y1 = y3 then (if y2 = y4 then (if y3 = y5 then (1 : Int32) else (0 : Int32)) else (0 : Int32)) else (0 : Int32)) else (0 : Int32))
theorem ef5_6_4 (m : MethodId) (o0 : Addr) : entryFrame m #[(.ref o0), (.int (6 : Int32)), (.int (4 : Int32))] 4 = mkF m 0 #[.val (.ref o0), .val (.int (6 : Int32)), .val (.int (4 : Int32)), .unset] [] := by first | (simp [entryFrame, mkF, argsToLocals, Value.category]; done) | rfl
set_option maxRecDepth 65536 in
set_option maxHeartbeats 40000000 in
theorem rm5_6_4 (l : Launch) (Z : State) (a0 : Array Value) (hw : ∀ d ∈ tables_1, d.before a0 Z = true) (o0 : Addr) (h0 : Heap) (n0 : Nat) (y0 y1 y2 y3 y4 y5 : Int32) (fr : List (Addr × (Cell → Prop))) (O0 : Own.Owns n0 h0 ((o0, Own.ArrC Z .char [(.int y0), (.int y1), (.int y2), (.int y3), (.int y4), (.int y5)]) :: fr))  : Own.Does l (⟨"com/example/idxof/idxof/FailureFunctionOfPinLaw", "match", "([CII)Z"⟩ : MethodName) method_3_code 4 (some .boolean) [] ({ frames := 0, cells := 0, slots := 0, locals := 0 } : Room) Z #[(.ref o0), (.int (6 : Int32)), (.int (4 : Int32))] h0 n0 (fun v h => v = some (.int (fM6_4 y0 y1 y2 y3 y4 y5)) ∧ h = h0) := by
  refine Own.doesOf pn4 ?_
  intro p e s m below meth c hx hby hml hret hlk hown hnm hZ
  refine Own.Goes.cast (ef5_6_4 m o0) ?_
  refine Own.iloadN hx (6 : Int32) (hb hby d5_0) rfl rfl ?_
  refine Own.iloadN hx (4 : Int32) (hb hby d5_1) rfl rfl ?_
  refine Own.isub hx (hb hby d5_2) rfl ?_
  refine Own.vI (2 : Int32) (by decide) ?_
  refine Own.istoreN hx (2 : Int32) rfl #[.val (.ref o0), .val (.int (6 : Int32)), .val (.int (4 : Int32)), .val (.int (2 : Int32))] (hb hby d5_3) rfl rfl ?_
  refine Own.iloadN hx (4 : Int32) (hb hby d5_4) rfl rfl ?_
  refine Own.iconst hx (1 : Int32) (hb hby d5_5) rfl (by decide) ?_
  have hc1 : ¬ ((4 : Int32) < (1 : Int32)) := by decide
  refine Own.icmpF hx (Own.q_lt (4 : Int32) (1 : Int32)) (hb hby d5_6) (pcN := 9) rfl (by decide) (pcT := 18) rfl (fun q => absurd q hc1) (fun _ => ?_)
  refine Own.aloadN hx (.ref o0) (hb hby d5_9) rfl rfl rfl ?_
  refine Own.iconst hx (0 : Int32) (hb hby d5_10) rfl (by decide) ?_
  refine Own.caload hx hZ O0 0 0 rfl (by decide) (v := (.int y0)) rfl (hb hby d5_11) rfl ?_
  refine Own.aloadN hx (.ref o0) (hb hby d5_12) rfl rfl rfl ?_
  refine Own.iloadN hx (2 : Int32) (hb hby d5_13) rfl rfl ?_
  refine Own.caload hx hZ O0 0 2 rfl (by decide) (v := (.int y2)) rfl (hb hby d5_14) rfl ?_
  refine Own.icmpFn hx (Own.q_ne y0 y2) (hb hby d5_15) (pcN := 18) rfl (by decide) (pcT := 86) rfl (fun hc3 => ?_) (fun hc3 => ?_)
  · refine Own.iconst hx (0 : Int32) (hb hby d5_86) rfl (by decide) ?_
    exact Own.retS hx hret (by simp) hlk (hb hby d5_87) (by decide) (by decide) ⟨by rw [show fM6_4 y0 y1 y2 y3 y4 y5 = (0 : Int32) from by simp only [fM6_4, if_neg hc3]]; try rfl, rfl⟩
  · refine Own.iloadN hx (4 : Int32) (hb hby d5_18) rfl rfl ?_
    refine Own.iconst hx (2 : Int32) (hb hby d5_19) rfl (by decide) ?_
    have hc4 : ¬ ((4 : Int32) < (2 : Int32)) := by decide
    refine Own.icmpF hx (Own.q_lt (4 : Int32) (2 : Int32)) (hb hby d5_20) (pcN := 23) rfl (by decide) (pcT := 34) rfl (fun q => absurd q hc4) (fun _ => ?_)
    refine Own.aloadN hx (.ref o0) (hb hby d5_23) rfl rfl rfl ?_
    refine Own.iconst hx (1 : Int32) (hb hby d5_24) rfl (by decide) ?_
    refine Own.caload hx hZ O0 0 1 rfl (by decide) (v := (.int y1)) rfl (hb hby d5_25) rfl ?_
    refine Own.aloadN hx (.ref o0) (hb hby d5_26) rfl rfl rfl ?_
    refine Own.iloadN hx (2 : Int32) (hb hby d5_27) rfl rfl ?_
    refine Own.iconst hx (1 : Int32) (hb hby d5_28) rfl (by decide) ?_
    refine Own.iadd hx (hb hby d5_29) rfl ?_
    refine Own.vI (3 : Int32) (by decide) ?_
    refine Own.caload hx hZ O0 0 3 rfl (by decide) (v := (.int y3)) rfl (hb hby d5_30) rfl ?_
    refine Own.icmpFn hx (Own.q_ne y1 y3) (hb hby d5_31) (pcN := 34) rfl (by decide) (pcT := 86) rfl (fun hc6 => ?_) (fun hc6 => ?_)
    · refine Own.iconst hx (0 : Int32) (hb hby d5_86) rfl (by decide) ?_
      exact Own.retS hx hret (by simp) hlk (hb hby d5_87) (by decide) (by decide) ⟨by rw [show fM6_4 y0 y1 y2 y3 y4 y5 = (0 : Int32) from by simp only [fM6_4, if_pos hc3, if_neg hc6]]; try rfl, rfl⟩
    · refine Own.iloadN hx (4 : Int32) (hb hby d5_34) rfl rfl ?_
      refine Own.iconst hx (3 : Int32) (hb hby d5_35) rfl (by decide) ?_
      have hc7 : ¬ ((4 : Int32) < (3 : Int32)) := by decide
      refine Own.icmpF hx (Own.q_lt (4 : Int32) (3 : Int32)) (hb hby d5_36) (pcN := 39) rfl (by decide) (pcT := 50) rfl (fun q => absurd q hc7) (fun _ => ?_)
      refine Own.aloadN hx (.ref o0) (hb hby d5_39) rfl rfl rfl ?_
      refine Own.iconst hx (2 : Int32) (hb hby d5_40) rfl (by decide) ?_
      refine Own.caload hx hZ O0 0 2 rfl (by decide) (v := (.int y2)) rfl (hb hby d5_41) rfl ?_
      refine Own.aloadN hx (.ref o0) (hb hby d5_42) rfl rfl rfl ?_
      refine Own.iloadN hx (2 : Int32) (hb hby d5_43) rfl rfl ?_
      refine Own.iconst hx (2 : Int32) (hb hby d5_44) rfl (by decide) ?_
      refine Own.iadd hx (hb hby d5_45) rfl ?_
      refine Own.vI (4 : Int32) (by decide) ?_
      refine Own.caload hx hZ O0 0 4 rfl (by decide) (v := (.int y4)) rfl (hb hby d5_46) rfl ?_
      refine Own.icmpFn hx (Own.q_ne y2 y4) (hb hby d5_47) (pcN := 50) rfl (by decide) (pcT := 86) rfl (fun hc9 => ?_) (fun hc9 => ?_)
      · refine Own.iconst hx (0 : Int32) (hb hby d5_86) rfl (by decide) ?_
        exact Own.retS hx hret (by simp) hlk (hb hby d5_87) (by decide) (by decide) ⟨by rw [show fM6_4 y0 y1 y2 y3 y4 y5 = (0 : Int32) from by simp only [fM6_4, if_pos hc3, if_pos hc6, if_neg hc9]]; try rfl, rfl⟩
      · refine Own.iloadN hx (4 : Int32) (hb hby d5_50) rfl rfl ?_
        refine Own.iconst hx (4 : Int32) (hb hby d5_51) rfl (by decide) ?_
        have hc10 : ¬ ((4 : Int32) < (4 : Int32)) := by decide
        refine Own.icmpF hx (Own.q_lt (4 : Int32) (4 : Int32)) (hb hby d5_52) (pcN := 55) rfl (by decide) (pcT := 66) rfl (fun q => absurd q hc10) (fun _ => ?_)
        refine Own.aloadN hx (.ref o0) (hb hby d5_55) rfl rfl rfl ?_
        refine Own.iconst hx (3 : Int32) (hb hby d5_56) rfl (by decide) ?_
        refine Own.caload hx hZ O0 0 3 rfl (by decide) (v := (.int y3)) rfl (hb hby d5_57) rfl ?_
        refine Own.aloadN hx (.ref o0) (hb hby d5_58) rfl rfl rfl ?_
        refine Own.iloadN hx (2 : Int32) (hb hby d5_59) rfl rfl ?_
        refine Own.iconst hx (3 : Int32) (hb hby d5_60) rfl (by decide) ?_
        refine Own.iadd hx (hb hby d5_61) rfl ?_
        refine Own.vI (5 : Int32) (by decide) ?_
        refine Own.caload hx hZ O0 0 5 rfl (by decide) (v := (.int y5)) rfl (hb hby d5_62) rfl ?_
        refine Own.icmpFn hx (Own.q_ne y3 y5) (hb hby d5_63) (pcN := 66) rfl (by decide) (pcT := 86) rfl (fun hc12 => ?_) (fun hc12 => ?_)
        · refine Own.iconst hx (0 : Int32) (hb hby d5_86) rfl (by decide) ?_
          exact Own.retS hx hret (by simp) hlk (hb hby d5_87) (by decide) (by decide) ⟨by rw [show fM6_4 y0 y1 y2 y3 y4 y5 = (0 : Int32) from by simp only [fM6_4, if_pos hc3, if_pos hc6, if_pos hc9, if_neg hc12]]; try rfl, rfl⟩
        · refine Own.iloadN hx (4 : Int32) (hb hby d5_66) rfl rfl ?_
          refine Own.iconst hx (5 : Int32) (hb hby d5_67) rfl (by decide) ?_
          have hc13 : (4 : Int32) < (5 : Int32) := by decide
          refine Own.icmpF hx (Own.q_lt (4 : Int32) (5 : Int32)) (hb hby d5_68) (pcN := 71) rfl (by decide) (pcT := 82) rfl (fun _ => ?_) (fun q => absurd hc13 q)
          refine Own.iconst hx (1 : Int32) (hb hby d5_82) rfl (by decide) ?_
          refine Own.goto hx (hb hby d5_83) (by decide) (pc' := 87) rfl ?_
          exact Own.retS hx hret (by simp) hlk (hb hby d5_87) (by decide) (by decide) ⟨by rw [show fM6_4 y0 y1 y2 y3 y4 y5 = (1 : Int32) from by simp only [fM6_4, if_pos hc3, if_pos hc6, if_pos hc9, if_pos hc12]]; try rfl, rfl⟩

def fM6_5 (y0 y1 y2 y3 y4 y5 : Int32) : Int32 := (if y0 = y1 then (if y1 = y2 then (if y2 = y3 then (if y3 = y4 then (if y4 = y5 then (1 : Int32) else (0 : Int32)) else (0 : Int32)) else (0 : Int32)) else (0 : Int32)) else (0 : Int32))
theorem d5_71 : decode method_3_code 71 = .ok (.aload_n 0, 1) := by decide +kernel
theorem d5_72 : decode method_3_code 72 = .ok (.iconst 4, 1) := by decide +kernel
theorem d5_73 : decode method_3_code 73 = .ok (.caload, 1) := by decide +kernel
theorem d5_74 : decode method_3_code 74 = .ok (.aload_n 0, 1) := by decide +kernel
theorem d5_75 : decode method_3_code 75 = .ok (.iload_n 3, 1) := by decide +kernel
theorem d5_76 : decode method_3_code 76 = .ok (.iconst 4, 1) := by decide +kernel
theorem d5_77 : decode method_3_code 77 = .ok (.iadd, 1) := by decide +kernel
theorem d5_78 : decode method_3_code 78 = .ok (.caload, 1) := by decide +kernel
theorem d5_79 : decode method_3_code 79 = .ok (.if_icmp .ne 7, 3) := by decide +kernel
theorem ef5_6_5 (m : MethodId) (o0 : Addr) : entryFrame m #[(.ref o0), (.int (6 : Int32)), (.int (5 : Int32))] 4 = mkF m 0 #[.val (.ref o0), .val (.int (6 : Int32)), .val (.int (5 : Int32)), .unset] [] := by first | (simp [entryFrame, mkF, argsToLocals, Value.category]; done) | rfl
set_option maxRecDepth 65536 in
set_option maxHeartbeats 40000000 in
theorem rm5_6_5 (l : Launch) (Z : State) (a0 : Array Value) (hw : ∀ d ∈ tables_1, d.before a0 Z = true) (o0 : Addr) (h0 : Heap) (n0 : Nat) (y0 y1 y2 y3 y4 y5 : Int32) (fr : List (Addr × (Cell → Prop))) (O0 : Own.Owns n0 h0 ((o0, Own.ArrC Z .char [(.int y0), (.int y1), (.int y2), (.int y3), (.int y4), (.int y5)]) :: fr))  : Own.Does l (⟨"com/example/idxof/idxof/FailureFunctionOfPinLaw", "match", "([CII)Z"⟩ : MethodName) method_3_code 4 (some .boolean) [] ({ frames := 0, cells := 0, slots := 0, locals := 0 } : Room) Z #[(.ref o0), (.int (6 : Int32)), (.int (5 : Int32))] h0 n0 (fun v h => v = some (.int (fM6_5 y0 y1 y2 y3 y4 y5)) ∧ h = h0) := by
  refine Own.doesOf pn4 ?_
  intro p e s m below meth c hx hby hml hret hlk hown hnm hZ
  refine Own.Goes.cast (ef5_6_5 m o0) ?_
  refine Own.iloadN hx (6 : Int32) (hb hby d5_0) rfl rfl ?_
  refine Own.iloadN hx (5 : Int32) (hb hby d5_1) rfl rfl ?_
  refine Own.isub hx (hb hby d5_2) rfl ?_
  refine Own.vI (1 : Int32) (by decide) ?_
  refine Own.istoreN hx (1 : Int32) rfl #[.val (.ref o0), .val (.int (6 : Int32)), .val (.int (5 : Int32)), .val (.int (1 : Int32))] (hb hby d5_3) rfl rfl ?_
  refine Own.iloadN hx (5 : Int32) (hb hby d5_4) rfl rfl ?_
  refine Own.iconst hx (1 : Int32) (hb hby d5_5) rfl (by decide) ?_
  have hc1 : ¬ ((5 : Int32) < (1 : Int32)) := by decide
  refine Own.icmpF hx (Own.q_lt (5 : Int32) (1 : Int32)) (hb hby d5_6) (pcN := 9) rfl (by decide) (pcT := 18) rfl (fun q => absurd q hc1) (fun _ => ?_)
  refine Own.aloadN hx (.ref o0) (hb hby d5_9) rfl rfl rfl ?_
  refine Own.iconst hx (0 : Int32) (hb hby d5_10) rfl (by decide) ?_
  refine Own.caload hx hZ O0 0 0 rfl (by decide) (v := (.int y0)) rfl (hb hby d5_11) rfl ?_
  refine Own.aloadN hx (.ref o0) (hb hby d5_12) rfl rfl rfl ?_
  refine Own.iloadN hx (1 : Int32) (hb hby d5_13) rfl rfl ?_
  refine Own.caload hx hZ O0 0 1 rfl (by decide) (v := (.int y1)) rfl (hb hby d5_14) rfl ?_
  refine Own.icmpFn hx (Own.q_ne y0 y1) (hb hby d5_15) (pcN := 18) rfl (by decide) (pcT := 86) rfl (fun hc3 => ?_) (fun hc3 => ?_)
  · refine Own.iconst hx (0 : Int32) (hb hby d5_86) rfl (by decide) ?_
    exact Own.retS hx hret (by simp) hlk (hb hby d5_87) (by decide) (by decide) ⟨by rw [show fM6_5 y0 y1 y2 y3 y4 y5 = (0 : Int32) from by simp only [fM6_5, if_neg hc3]]; try rfl, rfl⟩
  · refine Own.iloadN hx (5 : Int32) (hb hby d5_18) rfl rfl ?_
    refine Own.iconst hx (2 : Int32) (hb hby d5_19) rfl (by decide) ?_
    have hc4 : ¬ ((5 : Int32) < (2 : Int32)) := by decide
    refine Own.icmpF hx (Own.q_lt (5 : Int32) (2 : Int32)) (hb hby d5_20) (pcN := 23) rfl (by decide) (pcT := 34) rfl (fun q => absurd q hc4) (fun _ => ?_)
    refine Own.aloadN hx (.ref o0) (hb hby d5_23) rfl rfl rfl ?_
    refine Own.iconst hx (1 : Int32) (hb hby d5_24) rfl (by decide) ?_
    refine Own.caload hx hZ O0 0 1 rfl (by decide) (v := (.int y1)) rfl (hb hby d5_25) rfl ?_
    refine Own.aloadN hx (.ref o0) (hb hby d5_26) rfl rfl rfl ?_
    refine Own.iloadN hx (1 : Int32) (hb hby d5_27) rfl rfl ?_
    refine Own.iconst hx (1 : Int32) (hb hby d5_28) rfl (by decide) ?_
    refine Own.iadd hx (hb hby d5_29) rfl ?_
    refine Own.vI (2 : Int32) (by decide) ?_
    refine Own.caload hx hZ O0 0 2 rfl (by decide) (v := (.int y2)) rfl (hb hby d5_30) rfl ?_
    refine Own.icmpFn hx (Own.q_ne y1 y2) (hb hby d5_31) (pcN := 34) rfl (by decide) (pcT := 86) rfl (fun hc6 => ?_) (fun hc6 => ?_)
    · refine Own.iconst hx (0 : Int32) (hb hby d5_86) rfl (by decide) ?_
      exact Own.retS hx hret (by simp) hlk (hb hby d5_87) (by decide) (by decide) ⟨by rw [show fM6_5 y0 y1 y2 y3 y4 y5 = (0 : Int32) from by simp only [fM6_5, if_pos hc3, if_neg hc6]]; try rfl, rfl⟩
    · refine Own.iloadN hx (5 : Int32) (hb hby d5_34) rfl rfl ?_
      refine Own.iconst hx (3 : Int32) (hb hby d5_35) rfl (by decide) ?_
      have hc7 : ¬ ((5 : Int32) < (3 : Int32)) := by decide
      refine Own.icmpF hx (Own.q_lt (5 : Int32) (3 : Int32)) (hb hby d5_36) (pcN := 39) rfl (by decide) (pcT := 50) rfl (fun q => absurd q hc7) (fun _ => ?_)
      refine Own.aloadN hx (.ref o0) (hb hby d5_39) rfl rfl rfl ?_
      refine Own.iconst hx (2 : Int32) (hb hby d5_40) rfl (by decide) ?_
      refine Own.caload hx hZ O0 0 2 rfl (by decide) (v := (.int y2)) rfl (hb hby d5_41) rfl ?_
      refine Own.aloadN hx (.ref o0) (hb hby d5_42) rfl rfl rfl ?_
      refine Own.iloadN hx (1 : Int32) (hb hby d5_43) rfl rfl ?_
      refine Own.iconst hx (2 : Int32) (hb hby d5_44) rfl (by decide) ?_
      refine Own.iadd hx (hb hby d5_45) rfl ?_
      refine Own.vI (3 : Int32) (by decide) ?_
      refine Own.caload hx hZ O0 0 3 rfl (by decide) (v := (.int y3)) rfl (hb hby d5_46) rfl ?_
      refine Own.icmpFn hx (Own.q_ne y2 y3) (hb hby d5_47) (pcN := 50) rfl (by decide) (pcT := 86) rfl (fun hc9 => ?_) (fun hc9 => ?_)
      · refine Own.iconst hx (0 : Int32) (hb hby d5_86) rfl (by decide) ?_
        exact Own.retS hx hret (by simp) hlk (hb hby d5_87) (by decide) (by decide) ⟨by rw [show fM6_5 y0 y1 y2 y3 y4 y5 = (0 : Int32) from by simp only [fM6_5, if_pos hc3, if_pos hc6, if_neg hc9]]; try rfl, rfl⟩
      · refine Own.iloadN hx (5 : Int32) (hb hby d5_50) rfl rfl ?_
        refine Own.iconst hx (4 : Int32) (hb hby d5_51) rfl (by decide) ?_
        have hc10 : ¬ ((5 : Int32) < (4 : Int32)) := by decide
        refine Own.icmpF hx (Own.q_lt (5 : Int32) (4 : Int32)) (hb hby d5_52) (pcN := 55) rfl (by decide) (pcT := 66) rfl (fun q => absurd q hc10) (fun _ => ?_)
        refine Own.aloadN hx (.ref o0) (hb hby d5_55) rfl rfl rfl ?_
        refine Own.iconst hx (3 : Int32) (hb hby d5_56) rfl (by decide) ?_
        refine Own.caload hx hZ O0 0 3 rfl (by decide) (v := (.int y3)) rfl (hb hby d5_57) rfl ?_
        refine Own.aloadN hx (.ref o0) (hb hby d5_58) rfl rfl rfl ?_
        refine Own.iloadN hx (1 : Int32) (hb hby d5_59) rfl rfl ?_
        refine Own.iconst hx (3 : Int32) (hb hby d5_60) rfl (by decide) ?_
        refine Own.iadd hx (hb hby d5_61) rfl ?_
        refine Own.vI (4 : Int32) (by decide) ?_
        refine Own.caload hx hZ O0 0 4 rfl (by decide) (v := (.int y4)) rfl (hb hby d5_62) rfl ?_
        refine Own.icmpFn hx (Own.q_ne y3 y4) (hb hby d5_63) (pcN := 66) rfl (by decide) (pcT := 86) rfl (fun hc12 => ?_) (fun hc12 => ?_)
        · refine Own.iconst hx (0 : Int32) (hb hby d5_86) rfl (by decide) ?_
          exact Own.retS hx hret (by simp) hlk (hb hby d5_87) (by decide) (by decide) ⟨by rw [show fM6_5 y0 y1 y2 y3 y4 y5 = (0 : Int32) from by simp only [fM6_5, if_pos hc3, if_pos hc6, if_pos hc9, if_neg hc12]]; try rfl, rfl⟩
        · refine Own.iloadN hx (5 : Int32) (hb hby d5_66) rfl rfl ?_
          refine Own.iconst hx (5 : Int32) (hb hby d5_67) rfl (by decide) ?_
          have hc13 : ¬ ((5 : Int32) < (5 : Int32)) := by decide
          refine Own.icmpF hx (Own.q_lt (5 : Int32) (5 : Int32)) (hb hby d5_68) (pcN := 71) rfl (by decide) (pcT := 82) rfl (fun q => absurd q hc13) (fun _ => ?_)
          refine Own.aloadN hx (.ref o0) (hb hby d5_71) rfl rfl rfl ?_
          refine Own.iconst hx (4 : Int32) (hb hby d5_72) rfl (by decide) ?_
          refine Own.caload hx hZ O0 0 4 rfl (by decide) (v := (.int y4)) rfl (hb hby d5_73) rfl ?_
          refine Own.aloadN hx (.ref o0) (hb hby d5_74) rfl rfl rfl ?_
          refine Own.iloadN hx (1 : Int32) (hb hby d5_75) rfl rfl ?_
          refine Own.iconst hx (4 : Int32) (hb hby d5_76) rfl (by decide) ?_
          refine Own.iadd hx (hb hby d5_77) rfl ?_
          refine Own.vI (5 : Int32) (by decide) ?_
          refine Own.caload hx hZ O0 0 5 rfl (by decide) (v := (.int y5)) rfl (hb hby d5_78) rfl ?_
          refine Own.icmpFn hx (Own.q_ne y4 y5) (hb hby d5_79) (pcN := 82) rfl (by decide) (pcT := 86) rfl (fun hc15 => ?_) (fun hc15 => ?_)
          · refine Own.iconst hx (0 : Int32) (hb hby d5_86) rfl (by decide) ?_
            exact Own.retS hx hret (by simp) hlk (hb hby d5_87) (by decide) (by decide) ⟨by rw [show fM6_5 y0 y1 y2 y3 y4 y5 = (0 : Int32) from by simp only [fM6_5, if_pos hc3, if_pos hc6, if_pos hc9, if_pos hc12, if_neg hc15]]; try rfl, rfl⟩
          · refine Own.iconst hx (1 : Int32) (hb hby d5_82) rfl (by decide) ?_
            refine Own.goto hx (hb hby d5_83) (by decide) (pc' := 87) rfl ?_
            exact Own.retS hx hret (by simp) hlk (hb hby d5_87) (by decide) (by decide) ⟨by rw [show fM6_5 y0 y1 y2 y3 y4 y5 = (1 : Int32) from by simp only [fM6_5, if_pos hc3, if_pos hc6, if_pos hc9, if_pos hc12, if_pos hc15]]; try rfl, rfl⟩

def fB6 (y0 y1 y2 y3 y4 y5 : Int32) : Int32 := (if (fM6_5 y0 y1 y2 y3 y4 y5) = (0 : Int32) then (if (fM6_4 y0 y1 y2 y3 y4 y5) = (0 : Int32) then (if (fM6_3 y0 y1 y2 y3 y4 y5) = (0 : Int32) then (if (fM6_2 y0 y1 y2 y3 y4 y5) = (0 : Int32) then (if (fM6_1 y0 y1 y2 y3 y4 y5) = (0 : Int32) then (0 : Int32) else (1 : Int32)) else (2 : Int32)) else (3 : Int32)) else (4 : Int32)) else (5 : Int32))
theorem d4_7 : decode method_4_code 7 = .ok (.aload_n 0, 1) := by decide +kernel
theorem d4_8 : decode method_4_code 8 = .ok (.iload_n 1, 1) := by decide +kernel
theorem d4_9 : decode method_4_code 9 = .ok (.iconst 5, 1) := by decide +kernel
theorem d4_10 : decode method_4_code 10 = .ok (.invokestatic 7, 3) := by decide +kernel
theorem d4_13 : decode method_4_code 13 = .ok (.ifCond .eq 5, 3) := by decide +kernel
theorem d4_16 : decode method_4_code 16 = .ok (.iconst 5, 1) := by decide +kernel
theorem d4_17 : decode method_4_code 17 = .ok (.ireturn, 1) := by decide +kernel
theorem ef4_6 (m : MethodId) (o0 : Addr) : entryFrame m #[(.ref o0), (.int (6 : Int32))] 2 = mkF m 0 #[.val (.ref o0), .val (.int (6 : Int32))] [] := by first | (simp [entryFrame, mkF, argsToLocals, Value.category]; done) | rfl
set_option maxRecDepth 65536 in
set_option maxHeartbeats 40000000 in
theorem rm4_6 (l : Launch) (Z : State) (a0 : Array Value) (hw : ∀ d ∈ tables_1, d.before a0 Z = true) (o0 : Addr) (h0 : Heap) (n0 : Nat) (y0 y1 y2 y3 y4 y5 : Int32) (fr : List (Addr × (Cell → Prop))) (O0 : Own.Owns n0 h0 ((o0, Own.ArrC Z .char [(.int y0), (.int y1), (.int y2), (.int y3), (.int y4), (.int y5)]) :: fr))  : Own.Does l (⟨"com/example/idxof/idxof/FailureFunctionOfPinLaw", "border", "([CI)I"⟩ : MethodName) method_4_code 2 (some .int) [] ({ frames := 1, cells := 0, slots := 0, locals := 18 } : Room) Z #[(.ref o0), (.int (6 : Int32))] h0 n0 (fun v h => v = some (.int (fB6 y0 y1 y2 y3 y4 y5)) ∧ h = h0) := by
  refine Own.doesOf pn2 ?_
  intro p e s m below meth c hx hby hml hret hlk hown hnm hZ
  refine Own.Goes.cast (ef4_6 m o0) ?_
  refine Own.iloadN hx (6 : Int32) (hb hby d4_0) rfl rfl ?_
  refine Own.iconst hx (1 : Int32) (hb hby d4_1) rfl (by decide) ?_
  refine Own.isub hx (hb hby d4_2) rfl ?_
  refine Own.vI (5 : Int32) (by decide) ?_
  refine Own.iconst hx (5 : Int32) (hb hby d4_3) rfl (by decide) ?_
  have hc1 : ¬ ((5 : Int32) < (5 : Int32)) := by decide
  refine Own.icmpF hx (Own.q_lt (5 : Int32) (5 : Int32)) (hb hby d4_4) (pcN := 7) rfl (by decide) (pcT := 18) rfl (fun q => absurd q hc1) (fun _ => ?_)
  refine Own.aloadN hx (.ref o0) (hb hby d4_7) rfl rfl rfl ?_
  refine Own.iloadN hx (6 : Int32) (hb hby d4_8) rfl rfl ?_
  refine Own.iconst hx (5 : Int32) (hb hby d4_9) rfl (by decide) ?_
  refine Own.callS hx hZ hown (hw _ (List.mem_of_getElem? (i := 17) rfl)) (hw _ (List.mem_of_getElem? (i := 18) rfl)) (hw _ (List.mem_of_getElem? (i := 4) rfl)) (hw _ (List.mem_of_getElem? (i := 19) rfl)) (by decide) pd1 (argsL := [(.ref o0), (.int (6 : Int32)), (.int (5 : Int32))]) (rest := []) rfl (W := 0) (Nat.le_of_eq rfl) (rm := ({ frames := 0, cells := 0, slots := 0, locals := 0 } : Room)) (by decide) (by decide) (by decide) (by decide) (k' := 0) (n' := 0) rfl rfl (by rw [hml]; rfl) [(.int (5 : Int32)), (.int (6 : Int32)), (.ref o0)] rfl (hb hby d4_10) (pc' := 13) rfl (rm5_6_5 l Z a0 hw o0 h0 n0 y0 y1 y2 y3 y4 y5 fr O0) ?_
  rintro _ h' ⟨rfl, eh⟩
  rw [eh]; clear eh h'
  show Own.Goes _ _ _ _ _ _ _ _ _ _ _ _ _ _ _ _ _ (mkF m 13 #[.val (.ref o0), .val (.int (6 : Int32))] [(.int (fM6_5 y0 y1 y2 y3 y4 y5))])
  refine Own.ifF hx (Own.z_eq (fM6_5 y0 y1 y2 y3 y4 y5)) (hb hby d4_13) (pcN := 16) rfl (by decide) (pcT := 18) rfl (fun hc3 => ?_) (fun hc3 => ?_)
  · refine Own.iloadN hx (6 : Int32) (hb hby d4_18) rfl rfl ?_
    refine Own.iconst hx (1 : Int32) (hb hby d4_19) rfl (by decide) ?_
    refine Own.isub hx (hb hby d4_20) rfl ?_
    refine Own.vI (5 : Int32) (by decide) ?_
    refine Own.iconst hx (4 : Int32) (hb hby d4_21) rfl (by decide) ?_
    have hc4 : ¬ ((5 : Int32) < (4 : Int32)) := by decide
    refine Own.icmpF hx (Own.q_lt (5 : Int32) (4 : Int32)) (hb hby d4_22) (pcN := 25) rfl (by decide) (pcT := 36) rfl (fun q => absurd q hc4) (fun _ => ?_)
    refine Own.aloadN hx (.ref o0) (hb hby d4_25) rfl rfl rfl ?_
    refine Own.iloadN hx (6 : Int32) (hb hby d4_26) rfl rfl ?_
    refine Own.iconst hx (4 : Int32) (hb hby d4_27) rfl (by decide) ?_
    refine Own.callS hx hZ hown (hw _ (List.mem_of_getElem? (i := 17) rfl)) (hw _ (List.mem_of_getElem? (i := 18) rfl)) (hw _ (List.mem_of_getElem? (i := 4) rfl)) (hw _ (List.mem_of_getElem? (i := 19) rfl)) (by decide) pd1 (argsL := [(.ref o0), (.int (6 : Int32)), (.int (4 : Int32))]) (rest := []) rfl (W := 0) (Nat.le_of_eq rfl) (rm := ({ frames := 0, cells := 0, slots := 0, locals := 0 } : Room)) (by decide) (by decide) (by decide) (by decide) (k' := 0) (n' := 0) rfl rfl (by rw [hml]; rfl) [(.int (4 : Int32)), (.int (6 : Int32)), (.ref o0)] rfl (hb hby d4_28) (pc' := 31) rfl (rm5_6_4 l Z a0 hw o0 h0 n0 y0 y1 y2 y3 y4 y5 fr O0) ?_
    rintro _ h' ⟨rfl, eh⟩
    rw [eh]; clear eh h'
    show Own.Goes _ _ _ _ _ _ _ _ _ _ _ _ _ _ _ _ _ (mkF m 31 #[.val (.ref o0), .val (.int (6 : Int32))] [(.int (fM6_4 y0 y1 y2 y3 y4 y5))])
    refine Own.ifF hx (Own.z_eq (fM6_4 y0 y1 y2 y3 y4 y5)) (hb hby d4_31) (pcN := 34) rfl (by decide) (pcT := 36) rfl (fun hc6 => ?_) (fun hc6 => ?_)
    · refine Own.iloadN hx (6 : Int32) (hb hby d4_36) rfl rfl ?_
      refine Own.iconst hx (1 : Int32) (hb hby d4_37) rfl (by decide) ?_
      refine Own.isub hx (hb hby d4_38) rfl ?_
      refine Own.vI (5 : Int32) (by decide) ?_
      refine Own.iconst hx (3 : Int32) (hb hby d4_39) rfl (by decide) ?_
      have hc7 : ¬ ((5 : Int32) < (3 : Int32)) := by decide
      refine Own.icmpF hx (Own.q_lt (5 : Int32) (3 : Int32)) (hb hby d4_40) (pcN := 43) rfl (by decide) (pcT := 54) rfl (fun q => absurd q hc7) (fun _ => ?_)
      refine Own.aloadN hx (.ref o0) (hb hby d4_43) rfl rfl rfl ?_
      refine Own.iloadN hx (6 : Int32) (hb hby d4_44) rfl rfl ?_
      refine Own.iconst hx (3 : Int32) (hb hby d4_45) rfl (by decide) ?_
      refine Own.callS hx hZ hown (hw _ (List.mem_of_getElem? (i := 17) rfl)) (hw _ (List.mem_of_getElem? (i := 18) rfl)) (hw _ (List.mem_of_getElem? (i := 4) rfl)) (hw _ (List.mem_of_getElem? (i := 19) rfl)) (by decide) pd1 (argsL := [(.ref o0), (.int (6 : Int32)), (.int (3 : Int32))]) (rest := []) rfl (W := 0) (Nat.le_of_eq rfl) (rm := ({ frames := 0, cells := 0, slots := 0, locals := 0 } : Room)) (by decide) (by decide) (by decide) (by decide) (k' := 0) (n' := 0) rfl rfl (by rw [hml]; rfl) [(.int (3 : Int32)), (.int (6 : Int32)), (.ref o0)] rfl (hb hby d4_46) (pc' := 49) rfl (rm5_6_3 l Z a0 hw o0 h0 n0 y0 y1 y2 y3 y4 y5 fr O0) ?_
      rintro _ h' ⟨rfl, eh⟩
      rw [eh]; clear eh h'
      show Own.Goes _ _ _ _ _ _ _ _ _ _ _ _ _ _ _ _ _ (mkF m 49 #[.val (.ref o0), .val (.int (6 : Int32))] [(.int (fM6_3 y0 y1 y2 y3 y4 y5))])
      refine Own.ifF hx (Own.z_eq (fM6_3 y0 y1 y2 y3 y4 y5)) (hb hby d4_49) (pcN := 52) rfl (by decide) (pcT := 54) rfl (fun hc9 => ?_) (fun hc9 => ?_)
      · refine Own.iloadN hx (6 : Int32) (hb hby d4_54) rfl rfl ?_
        refine Own.iconst hx (1 : Int32) (hb hby d4_55) rfl (by decide) ?_
        refine Own.isub hx (hb hby d4_56) rfl ?_
        refine Own.vI (5 : Int32) (by decide) ?_
        refine Own.iconst hx (2 : Int32) (hb hby d4_57) rfl (by decide) ?_
        have hc10 : ¬ ((5 : Int32) < (2 : Int32)) := by decide
        refine Own.icmpF hx (Own.q_lt (5 : Int32) (2 : Int32)) (hb hby d4_58) (pcN := 61) rfl (by decide) (pcT := 72) rfl (fun q => absurd q hc10) (fun _ => ?_)
        refine Own.aloadN hx (.ref o0) (hb hby d4_61) rfl rfl rfl ?_
        refine Own.iloadN hx (6 : Int32) (hb hby d4_62) rfl rfl ?_
        refine Own.iconst hx (2 : Int32) (hb hby d4_63) rfl (by decide) ?_
        refine Own.callS hx hZ hown (hw _ (List.mem_of_getElem? (i := 17) rfl)) (hw _ (List.mem_of_getElem? (i := 18) rfl)) (hw _ (List.mem_of_getElem? (i := 4) rfl)) (hw _ (List.mem_of_getElem? (i := 19) rfl)) (by decide) pd1 (argsL := [(.ref o0), (.int (6 : Int32)), (.int (2 : Int32))]) (rest := []) rfl (W := 0) (Nat.le_of_eq rfl) (rm := ({ frames := 0, cells := 0, slots := 0, locals := 0 } : Room)) (by decide) (by decide) (by decide) (by decide) (k' := 0) (n' := 0) rfl rfl (by rw [hml]; rfl) [(.int (2 : Int32)), (.int (6 : Int32)), (.ref o0)] rfl (hb hby d4_64) (pc' := 67) rfl (rm5_6_2 l Z a0 hw o0 h0 n0 y0 y1 y2 y3 y4 y5 fr O0) ?_
        rintro _ h' ⟨rfl, eh⟩
        rw [eh]; clear eh h'
        show Own.Goes _ _ _ _ _ _ _ _ _ _ _ _ _ _ _ _ _ (mkF m 67 #[.val (.ref o0), .val (.int (6 : Int32))] [(.int (fM6_2 y0 y1 y2 y3 y4 y5))])
        refine Own.ifF hx (Own.z_eq (fM6_2 y0 y1 y2 y3 y4 y5)) (hb hby d4_67) (pcN := 70) rfl (by decide) (pcT := 72) rfl (fun hc12 => ?_) (fun hc12 => ?_)
        · refine Own.iloadN hx (6 : Int32) (hb hby d4_72) rfl rfl ?_
          refine Own.iconst hx (1 : Int32) (hb hby d4_73) rfl (by decide) ?_
          refine Own.isub hx (hb hby d4_74) rfl ?_
          refine Own.vI (5 : Int32) (by decide) ?_
          refine Own.iconst hx (1 : Int32) (hb hby d4_75) rfl (by decide) ?_
          have hc13 : ¬ ((5 : Int32) < (1 : Int32)) := by decide
          refine Own.icmpF hx (Own.q_lt (5 : Int32) (1 : Int32)) (hb hby d4_76) (pcN := 79) rfl (by decide) (pcT := 90) rfl (fun q => absurd q hc13) (fun _ => ?_)
          refine Own.aloadN hx (.ref o0) (hb hby d4_79) rfl rfl rfl ?_
          refine Own.iloadN hx (6 : Int32) (hb hby d4_80) rfl rfl ?_
          refine Own.iconst hx (1 : Int32) (hb hby d4_81) rfl (by decide) ?_
          refine Own.callS hx hZ hown (hw _ (List.mem_of_getElem? (i := 17) rfl)) (hw _ (List.mem_of_getElem? (i := 18) rfl)) (hw _ (List.mem_of_getElem? (i := 4) rfl)) (hw _ (List.mem_of_getElem? (i := 19) rfl)) (by decide) pd1 (argsL := [(.ref o0), (.int (6 : Int32)), (.int (1 : Int32))]) (rest := []) rfl (W := 0) (Nat.le_of_eq rfl) (rm := ({ frames := 0, cells := 0, slots := 0, locals := 0 } : Room)) (by decide) (by decide) (by decide) (by decide) (k' := 0) (n' := 0) rfl rfl (by rw [hml]; rfl) [(.int (1 : Int32)), (.int (6 : Int32)), (.ref o0)] rfl (hb hby d4_82) (pc' := 85) rfl (rm5_6_1 l Z a0 hw o0 h0 n0 y0 y1 y2 y3 y4 y5 fr O0) ?_
          rintro _ h' ⟨rfl, eh⟩
          rw [eh]; clear eh h'
          show Own.Goes _ _ _ _ _ _ _ _ _ _ _ _ _ _ _ _ _ (mkF m 85 #[.val (.ref o0), .val (.int (6 : Int32))] [(.int (fM6_1 y0 y1 y2 y3 y4 y5))])
          refine Own.ifF hx (Own.z_eq (fM6_1 y0 y1 y2 y3 y4 y5)) (hb hby d4_85) (pcN := 88) rfl (by decide) (pcT := 90) rfl (fun hc15 => ?_) (fun hc15 => ?_)
          · refine Own.iconst hx (0 : Int32) (hb hby d4_90) rfl (by decide) ?_
            exact Own.retI hx hret hlk (hb hby d4_91) (by decide) (by decide) ⟨by rw [show fB6 y0 y1 y2 y3 y4 y5 = (0 : Int32) from by simp only [fB6, if_pos hc3, if_pos hc6, if_pos hc9, if_pos hc12, if_pos hc15]]; try rfl, rfl⟩
          · refine Own.iconst hx (1 : Int32) (hb hby d4_88) rfl (by decide) ?_
            exact Own.retI hx hret hlk (hb hby d4_89) (by decide) (by decide) ⟨by rw [show fB6 y0 y1 y2 y3 y4 y5 = (1 : Int32) from by simp only [fB6, if_pos hc3, if_pos hc6, if_pos hc9, if_pos hc12, if_neg hc15]]; try rfl, rfl⟩
        · refine Own.iconst hx (2 : Int32) (hb hby d4_70) rfl (by decide) ?_
          exact Own.retI hx hret hlk (hb hby d4_71) (by decide) (by decide) ⟨by rw [show fB6 y0 y1 y2 y3 y4 y5 = (2 : Int32) from by simp only [fB6, if_pos hc3, if_pos hc6, if_pos hc9, if_neg hc12]]; try rfl, rfl⟩
      · refine Own.iconst hx (3 : Int32) (hb hby d4_52) rfl (by decide) ?_
        exact Own.retI hx hret hlk (hb hby d4_53) (by decide) (by decide) ⟨by rw [show fB6 y0 y1 y2 y3 y4 y5 = (3 : Int32) from by simp only [fB6, if_pos hc3, if_pos hc6, if_neg hc9]]; try rfl, rfl⟩
    · refine Own.iconst hx (4 : Int32) (hb hby d4_34) rfl (by decide) ?_
      exact Own.retI hx hret hlk (hb hby d4_35) (by decide) (by decide) ⟨by rw [show fB6 y0 y1 y2 y3 y4 y5 = (4 : Int32) from by simp only [fB6, if_pos hc3, if_neg hc6]]; try rfl, rfl⟩
  · refine Own.iconst hx (5 : Int32) (hb hby d4_16) rfl (by decide) ?_
    exact Own.retI hx hret hlk (hb hby d4_17) (by decide) (by decide) ⟨by rw [show fB6 y0 y1 y2 y3 y4 y5 = (5 : Int32) from by simp only [fB6, if_neg hc3]]; try rfl, rfl⟩

theorem ef3_a5 (m : MethodId) (o0 : Addr) (p1 : Int32) (o2 : Addr) : entryFrame m #[(.ref o0), (.int p1), (.ref o2), (.int (5 : Int32))] 4 = mkF m 0 #[.val (.ref o0), .val (.int p1), .val (.ref o2), .val (.int (5 : Int32))] [] := by first | (simp [entryFrame, mkF, argsToLocals, Value.category]; done) | rfl
set_option maxRecDepth 65536 in
set_option maxHeartbeats 40000000 in
theorem rm3_a5 (l : Launch) (Z : State) (a0 : Array Value) (hw : ∀ d ∈ tables_1, d.before a0 Z = true) (o0 : Addr) (p1 : Int32) (o2 : Addr) (h0 : Heap) (n0 : Nat)  (hge : ¬ ((5 : Int32) < p1)) : Own.Does l (⟨"com/example/idxof/idxof/FailureFunctionOfPinLaw", "entry", "([II[CI)Z"⟩ : MethodName) method_5_code 4 (some .boolean) [] ({ frames := 0, cells := 0, slots := 0, locals := 0 } : Room) Z #[(.ref o0), (.int p1), (.ref o2), (.int (5 : Int32))] h0 n0 (fun v h => v = some (.int 1) ∧ h = h0) := by
  refine Own.doesOf pn3 ?_
  intro p e s m below meth c hx hby hml hret hlk hown hnm hZ
  refine Own.Goes.cast (ef3_a5 m o0 p1 o2) ?_
  refine Own.iloadN hx p1 (hb hby d3_0) rfl rfl ?_
  refine Own.iloadN hx (5 : Int32) (hb hby d3_1) rfl rfl ?_
  have hc1 : ¬ ((5 : Int32) < p1) := hge
  refine Own.icmpFn hx (Own.q_le p1 (5 : Int32)) (hb hby d3_2) (pcN := 5) rfl (by decide) (pcT := 18) rfl (fun _ => ?_) (fun q => absurd q hc1)
  refine Own.iconst hx (1 : Int32) (hb hby d3_18) rfl (by decide) ?_
  refine Own.goto hx (hb hby d3_19) (by decide) (pc' := 23) rfl ?_
  exact Own.retS hx hret (by simp) hlk (hb hby d3_23) (by decide) (by decide) ⟨rfl, rfl⟩

def fE5 (x y0 y1 y2 y3 y4 y5 : Int32) : Int32 := (if x = (fB6 y0 y1 y2 y3 y4 y5) then (1 : Int32) else (0 : Int32))
theorem ef3_b5 (m : MethodId) (o0 : Addr) (p1 : Int32) (o2 : Addr) : entryFrame m #[(.ref o0), (.int p1), (.ref o2), (.int (5 : Int32))] 4 = mkF m 0 #[.val (.ref o0), .val (.int p1), .val (.ref o2), .val (.int (5 : Int32))] [] := by first | (simp [entryFrame, mkF, argsToLocals, Value.category]; done) | rfl
set_option maxRecDepth 65536 in
set_option maxHeartbeats 40000000 in
theorem rm3_b5 (l : Launch) (Z : State) (a0 : Array Value) (hw : ∀ d ∈ tables_1, d.before a0 Z = true) (o0 : Addr) (p1 : Int32) (o2 : Addr) (h0 : Heap) (n0 : Nat) (vs : List Value) (x : Int32) (y0 y1 y2 y3 y4 y5 : Int32) (fr : List (Addr × (Cell → Prop))) (O0 : Own.Owns n0 h0 ((o0, Own.ArrC Z .int vs) :: (o2, Own.ArrC Z .char [(.int y0), (.int y1), (.int y2), (.int y3), (.int y4), (.int y5)]) :: fr)) (hlt : (5 : Int32) < p1) (hv : vs[5]? = some (.int x)) : Own.Does l (⟨"com/example/idxof/idxof/FailureFunctionOfPinLaw", "entry", "([II[CI)Z"⟩ : MethodName) method_5_code 4 (some .boolean) [] ({ frames := 2, cells := 0, slots := 0, locals := 36 } : Room) Z #[(.ref o0), (.int p1), (.ref o2), (.int (5 : Int32))] h0 n0 (fun v h => v = some (.int (fE5 x y0 y1 y2 y3 y4 y5)) ∧ h = h0) := by
  refine Own.doesOf pn3 ?_
  intro p e s m below meth c hx hby hml hret hlk hown hnm hZ
  refine Own.Goes.cast (ef3_b5 m o0 p1 o2) ?_
  refine Own.iloadN hx p1 (hb hby d3_0) rfl rfl ?_
  refine Own.iloadN hx (5 : Int32) (hb hby d3_1) rfl rfl ?_
  have hc1 : (5 : Int32) < p1 := hlt
  refine Own.icmpFn hx (Own.q_le p1 (5 : Int32)) (hb hby d3_2) (pcN := 5) rfl (by decide) (pcT := 18) rfl (fun q => absurd hc1 q) (fun _ => ?_)
  refine Own.aloadN hx (.ref o0) (hb hby d3_5) rfl rfl rfl ?_
  refine Own.iloadN hx (5 : Int32) (hb hby d3_6) rfl rfl ?_
  refine Own.iaload hx hZ O0 0 5 rfl (by decide) (v := (.int x)) hv (hb hby d3_7) rfl ?_
  refine Own.aloadN hx (.ref o2) (hb hby d3_8) rfl rfl rfl ?_
  refine Own.iloadN hx (5 : Int32) (hb hby d3_9) rfl rfl ?_
  refine Own.iconst hx (1 : Int32) (hb hby d3_10) rfl (by decide) ?_
  refine Own.iadd hx (hb hby d3_11) rfl ?_
  refine Own.vI (6 : Int32) (by decide) ?_
  have O3 : Own.Owns n0 h0 ((o2, Own.ArrC Z .char [(.int y0), (.int y1), (.int y2), (.int y3), (.int y4), (.int y5)]) :: (o0, Own.ArrC Z .int vs) :: fr) := O0.pick 1 rfl
  refine Own.callS hx hZ hown (hw _ (List.mem_of_getElem? (i := 14) rfl)) (hw _ (List.mem_of_getElem? (i := 15) rfl)) (hw _ (List.mem_of_getElem? (i := 4) rfl)) (hw _ (List.mem_of_getElem? (i := 16) rfl)) (by decide) pd0 (argsL := [(.ref o2), (.int (6 : Int32))]) (rest := [(.int x)]) rfl (W := 1) (Nat.le_of_eq rfl) (rm := ({ frames := 1, cells := 0, slots := 0, locals := 18 } : Room)) (by decide) (by decide) (by decide) (by decide) (k' := 0) (n' := 0) rfl rfl (by rw [hml]; rfl) [(.int (6 : Int32)), (.ref o2), (.int x)] rfl (hb hby d3_12) (pc' := 15) rfl (rm4_6 l Z a0 hw o2 h0 n0 y0 y1 y2 y3 y4 y5 ((o0, Own.ArrC Z .int vs) :: fr) O3) ?_
  rintro _ h' ⟨rfl, eh⟩
  rw [eh]; clear eh h'
  show Own.Goes _ _ _ _ _ _ _ _ _ _ _ _ _ _ _ _ _ (mkF m 15 #[.val (.ref o0), .val (.int p1), .val (.ref o2), .val (.int (5 : Int32))] [(.int (fB6 y0 y1 y2 y3 y4 y5)), (.int x)])
  refine Own.icmpFn hx (Own.q_ne x (fB6 y0 y1 y2 y3 y4 y5)) (hb hby d3_15) (pcN := 18) rfl (by decide) (pcT := 22) rfl (fun hc4 => ?_) (fun hc4 => ?_)
  · refine Own.iconst hx (0 : Int32) (hb hby d3_22) rfl (by decide) ?_
    exact Own.retS hx hret (by simp) hlk (hb hby d3_23) (by decide) (by decide) ⟨by rw [show fE5 x y0 y1 y2 y3 y4 y5 = (0 : Int32) from by simp only [fE5, if_neg hc4]]; try rfl, rfl⟩
  · refine Own.iconst hx (1 : Int32) (hb hby d3_18) rfl (by decide) ?_
    refine Own.goto hx (hb hby d3_19) (by decide) (pc' := 23) rfl ?_
    exact Own.retS hx hret (by simp) hlk (hb hby d3_23) (by decide) (by decide) ⟨by rw [show fE5 x y0 y1 y2 y3 y4 y5 = (1 : Int32) from by simp only [fE5, if_pos hc4]]; try rfl, rfl⟩

theorem own_n7 {nn p : Int32} (h : nn = (p &&& (2147483647 : Int32)) % (7 : Int32)) : nn = 0 ∨ nn = 1 ∨ nn = 2 ∨ nn = 3 ∨ nn = 4 ∨ nn = 5 ∨ nn = 6 := by
  have M0 := (c_and p (2147483647 : Int32) (by decide)).1
  generalize (p &&& (2147483647 : Int32)) = y at *
  have e1 := (c_irem y 7 7 (by decide)).1 M0
  rw [← h] at e1
  have h2 : nn.toInt = 0 ∨ nn.toInt = 1 ∨ nn.toInt = 2 ∨ nn.toInt = 3 ∨ nn.toInt = 4 ∨ nn.toInt = 5 ∨ nn.toInt = 6 := by omega
  rcases h2 with q | q | q | q | q | q | q
  · exact Or.inl (Int32.toInt_inj.mp q)
  · exact Or.inr (Or.inl (Int32.toInt_inj.mp q))
  · exact Or.inr (Or.inr (Or.inl (Int32.toInt_inj.mp q)))
  · exact Or.inr (Or.inr (Or.inr (Or.inl (Int32.toInt_inj.mp q))))
  · exact Or.inr (Or.inr (Or.inr (Or.inr (Or.inl (Int32.toInt_inj.mp q)))))
  · exact Or.inr (Or.inr (Or.inr (Or.inr (Or.inr (Or.inl (Int32.toInt_inj.mp q))))))
  · exact Or.inr (Or.inr (Or.inr (Or.inr (Or.inr (Or.inr (Int32.toInt_inj.mp q))))))
theorem own_idem {y x : Int32} (h : y = nar .char x) : nar .char y = y := by
  subst h
  show (x.toUInt32.toUInt16.toUInt32.toInt32).toUInt32.toUInt16.toUInt32.toInt32 = x.toUInt32.toUInt16.toUInt32.toInt32
  rw [UInt32.toUInt32_toInt32, UInt16.toUInt16_toUInt32]
theorem own_at {rs : List Nat} {i : Nat} (hi : i < rs.length) : (rs.map gI)[i]? = some (.int (rs.getD i 9).toInt32) := by
  rw [List.getElem?_map, List.getD_eq_getElem?_getD, List.getElem?_eq_getElem hi]; rfl
theorem ok1 : okE [0] = true := by decide +kernel
theorem bord_ok1 (y0 : Int32) : ∀ i, i < 1 → (ofL [y0]).getD i 9 = bordE (eqAt [y0]) (i + 1) := by
  have h0 : codeOf [y0] = [[y0].idxOf y0] := rfl
  have b0 : [y0].idxOf y0 ≤ 0 := code_le [y0] 0 (by exact (show 0 < 1 by decide))
  have z0 : [y0].idxOf y0 = 0 := by omega
  have h1 := ok1
  rw [show ([0] : List Nat) = codeOf [y0] from by rw [h0, z0]] at h1
  intro i hi
  have h2 := List.all_eq_true.mp h1 i (by rw [List.mem_range, code_len]; exact hi)
  rw [← code_eq, code_len] at h2
  exact eq_of_beq h2
theorem key1_0 (y0 y1 y2 y3 y4 y5 : Int32) : ((ofL [y0]).getD 0 9).toInt32 = fB1 y0 y1 y2 y3 y4 y5 := by
  rw [bord_ok1 y0 0 (by decide)]
  show (bordE (eqAt [y0]) 1).toInt32 = _
  unfold bordE fB1
  rfl
theorem own_ent1_0 {y0 y1 y2 y3 y4 y5 : Int32} : ¬ (fE0 ((ofL [y0]).getD 0 9).toInt32 y0 y1 y2 y3 y4 y5 = 0) := by
  rw [key1_0]; unfold fE0; rw [if_pos rfl]; decide
theorem ok2 : ∀ (c1 : Fin 2), okE [0, c1.val] = true := by decide +kernel
theorem bord_ok2 (y0 y1 : Int32) : ∀ i, i < 2 → (ofL [y0, y1]).getD i 9 = bordE (eqAt [y0, y1]) (i + 1) := by
  have h0 : codeOf [y0, y1] = [[y0, y1].idxOf y0, [y0, y1].idxOf y1] := rfl
  have b0 : [y0, y1].idxOf y0 ≤ 0 := code_le [y0, y1] 0 (by exact (show 0 < 2 by decide))
  have b1 : [y0, y1].idxOf y1 ≤ 1 := code_le [y0, y1] 1 (by exact (show 1 < 2 by decide))
  have z0 : [y0, y1].idxOf y0 = 0 := by omega
  have h1 := ok2 ⟨[y0, y1].idxOf y1, by omega⟩
  rw [show ([0, [y0, y1].idxOf y1] : List Nat) = codeOf [y0, y1] from by rw [h0, z0]] at h1
  intro i hi
  have h2 := List.all_eq_true.mp h1 i (by rw [List.mem_range, code_len]; exact hi)
  rw [← code_eq, code_len] at h2
  exact eq_of_beq h2
theorem key2_0 (y0 y1 y2 y3 y4 y5 : Int32) : ((ofL [y0, y1]).getD 0 9).toInt32 = fB1 y0 y1 y2 y3 y4 y5 := by
  rw [bord_ok2 y0 y1 0 (by decide)]
  show (bordE (eqAt [y0, y1]) 1).toInt32 = _
  unfold bordE fB1
  rfl
theorem own_ent2_0 {y0 y1 y2 y3 y4 y5 : Int32} : ¬ (fE0 ((ofL [y0, y1]).getD 0 9).toInt32 y0 y1 y2 y3 y4 y5 = 0) := by
  rw [key2_0]; unfold fE0; rw [if_pos rfl]; decide
theorem bm2_2_1 (y0 y1 y2 y3 y4 y5 : Int32) : brd (eqAt [y0, y1]) 2 1 = !(decide (fM2_1 y0 y1 y2 y3 y4 y5 = 0)) := by
  have e : brd (eqAt [y0, y1]) 2 1 = ((y0 == y1)) := by simp [brd, eqAt, List.range_succ, Bool.and_assoc]
  rw [e, show (y0 == y1) = decide (y0 = y1) from rfl]; unfold fM2_1
  by_cases q0 : y0 = y1
  case neg => rw [if_neg q0, decide_eq_false q0]; simp
  rw [if_pos q0, decide_eq_true q0]
  rfl
theorem key2_1 (y0 y1 y2 y3 y4 y5 : Int32) : ((ofL [y0, y1]).getD 1 9).toInt32 = fB2 y0 y1 y2 y3 y4 y5 := by
  rw [bord_ok2 y0 y1 1 (by decide)]
  show (bordE (eqAt [y0, y1]) 2).toInt32 = _
  unfold bordE fB2
  simp only [bm2_2_1 y0 y1 y2 y3 y4 y5]
  generalize fM2_1 y0 y1 y2 y3 y4 y5 = f1
  by_cases q1 : f1 = 0 <;> simp [q1] <;> rfl
theorem own_ent2_1 {y0 y1 y2 y3 y4 y5 : Int32} : ¬ (fE1 ((ofL [y0, y1]).getD 1 9).toInt32 y0 y1 y2 y3 y4 y5 = 0) := by
  rw [key2_1]; unfold fE1; rw [if_pos rfl]; decide
theorem ok3 : ∀ (c1 : Fin 2) (c2 : Fin 3), okE [0, c1.val, c2.val] = true := by decide +kernel
theorem bord_ok3 (y0 y1 y2 : Int32) : ∀ i, i < 3 → (ofL [y0, y1, y2]).getD i 9 = bordE (eqAt [y0, y1, y2]) (i + 1) := by
  have h0 : codeOf [y0, y1, y2] = [[y0, y1, y2].idxOf y0, [y0, y1, y2].idxOf y1, [y0, y1, y2].idxOf y2] := rfl
  have b0 : [y0, y1, y2].idxOf y0 ≤ 0 := code_le [y0, y1, y2] 0 (by exact (show 0 < 3 by decide))
  have b1 : [y0, y1, y2].idxOf y1 ≤ 1 := code_le [y0, y1, y2] 1 (by exact (show 1 < 3 by decide))
  have b2 : [y0, y1, y2].idxOf y2 ≤ 2 := code_le [y0, y1, y2] 2 (by exact (show 2 < 3 by decide))
  have z0 : [y0, y1, y2].idxOf y0 = 0 := by omega
  have h1 := ok3 ⟨[y0, y1, y2].idxOf y1, by omega⟩ ⟨[y0, y1, y2].idxOf y2, by omega⟩
  rw [show ([0, [y0, y1, y2].idxOf y1, [y0, y1, y2].idxOf y2] : List Nat) = codeOf [y0, y1, y2] from by rw [h0, z0]] at h1
  intro i hi
  have h2 := List.all_eq_true.mp h1 i (by rw [List.mem_range, code_len]; exact hi)
  rw [← code_eq, code_len] at h2
  exact eq_of_beq h2
theorem key3_0 (y0 y1 y2 y3 y4 y5 : Int32) : ((ofL [y0, y1, y2]).getD 0 9).toInt32 = fB1 y0 y1 y2 y3 y4 y5 := by
  rw [bord_ok3 y0 y1 y2 0 (by decide)]
  show (bordE (eqAt [y0, y1, y2]) 1).toInt32 = _
  unfold bordE fB1
  rfl
theorem own_ent3_0 {y0 y1 y2 y3 y4 y5 : Int32} : ¬ (fE0 ((ofL [y0, y1, y2]).getD 0 9).toInt32 y0 y1 y2 y3 y4 y5 = 0) := by
  rw [key3_0]; unfold fE0; rw [if_pos rfl]; decide
theorem bm3_2_1 (y0 y1 y2 y3 y4 y5 : Int32) : brd (eqAt [y0, y1, y2]) 2 1 = !(decide (fM2_1 y0 y1 y2 y3 y4 y5 = 0)) := by
  have e : brd (eqAt [y0, y1, y2]) 2 1 = ((y0 == y1)) := by simp [brd, eqAt, List.range_succ, Bool.and_assoc]
  rw [e, show (y0 == y1) = decide (y0 = y1) from rfl]; unfold fM2_1
  by_cases q0 : y0 = y1
  case neg => rw [if_neg q0, decide_eq_false q0]; simp
  rw [if_pos q0, decide_eq_true q0]
  rfl
theorem key3_1 (y0 y1 y2 y3 y4 y5 : Int32) : ((ofL [y0, y1, y2]).getD 1 9).toInt32 = fB2 y0 y1 y2 y3 y4 y5 := by
  rw [bord_ok3 y0 y1 y2 1 (by decide)]
  show (bordE (eqAt [y0, y1, y2]) 2).toInt32 = _
  unfold bordE fB2
  simp only [bm3_2_1 y0 y1 y2 y3 y4 y5]
  generalize fM2_1 y0 y1 y2 y3 y4 y5 = f1
  by_cases q1 : f1 = 0 <;> simp [q1] <;> rfl
theorem own_ent3_1 {y0 y1 y2 y3 y4 y5 : Int32} : ¬ (fE1 ((ofL [y0, y1, y2]).getD 1 9).toInt32 y0 y1 y2 y3 y4 y5 = 0) := by
  rw [key3_1]; unfold fE1; rw [if_pos rfl]; decide
theorem bm3_3_1 (y0 y1 y2 y3 y4 y5 : Int32) : brd (eqAt [y0, y1, y2]) 3 1 = !(decide (fM3_1 y0 y1 y2 y3 y4 y5 = 0)) := by
  have e : brd (eqAt [y0, y1, y2]) 3 1 = ((y0 == y2)) := by simp [brd, eqAt, List.range_succ, Bool.and_assoc]
  rw [e, show (y0 == y2) = decide (y0 = y2) from rfl]; unfold fM3_1
  by_cases q0 : y0 = y2
  case neg => rw [if_neg q0, decide_eq_false q0]; simp
  rw [if_pos q0, decide_eq_true q0]
  rfl
theorem bm3_3_2 (y0 y1 y2 y3 y4 y5 : Int32) : brd (eqAt [y0, y1, y2]) 3 2 = !(decide (fM3_2 y0 y1 y2 y3 y4 y5 = 0)) := by
  have e : brd (eqAt [y0, y1, y2]) 3 2 = ((y0 == y1) && (y1 == y2)) := by simp [brd, eqAt, List.range_succ, Bool.and_assoc]
  rw [e, show (y0 == y1) = decide (y0 = y1) from rfl, show (y1 == y2) = decide (y1 = y2) from rfl]; unfold fM3_2
  by_cases q0 : y0 = y1
  case neg => rw [if_neg q0, decide_eq_false q0]; simp
  rw [if_pos q0, decide_eq_true q0]
  by_cases q1 : y1 = y2
  case neg => rw [if_neg q1, decide_eq_false q1]; simp
  rw [if_pos q1, decide_eq_true q1]
  rfl
theorem key3_2 (y0 y1 y2 y3 y4 y5 : Int32) : ((ofL [y0, y1, y2]).getD 2 9).toInt32 = fB3 y0 y1 y2 y3 y4 y5 := by
  rw [bord_ok3 y0 y1 y2 2 (by decide)]
  show (bordE (eqAt [y0, y1, y2]) 3).toInt32 = _
  unfold bordE fB3
  simp only [bm3_3_1 y0 y1 y2 y3 y4 y5, bm3_3_2 y0 y1 y2 y3 y4 y5]
  generalize fM3_1 y0 y1 y2 y3 y4 y5 = f1
  generalize fM3_2 y0 y1 y2 y3 y4 y5 = f2
  by_cases q1 : f1 = 0 <;> by_cases q2 : f2 = 0 <;> simp [q1, q2] <;> rfl
theorem own_ent3_2 {y0 y1 y2 y3 y4 y5 : Int32} : ¬ (fE2 ((ofL [y0, y1, y2]).getD 2 9).toInt32 y0 y1 y2 y3 y4 y5 = 0) := by
  rw [key3_2]; unfold fE2; rw [if_pos rfl]; decide
theorem ok4 : ∀ (c1 : Fin 2) (c2 : Fin 3) (c3 : Fin 4), okE [0, c1.val, c2.val, c3.val] = true := by decide +kernel
theorem bord_ok4 (y0 y1 y2 y3 : Int32) : ∀ i, i < 4 → (ofL [y0, y1, y2, y3]).getD i 9 = bordE (eqAt [y0, y1, y2, y3]) (i + 1) := by
  have h0 : codeOf [y0, y1, y2, y3] = [[y0, y1, y2, y3].idxOf y0, [y0, y1, y2, y3].idxOf y1, [y0, y1, y2, y3].idxOf y2, [y0, y1, y2, y3].idxOf y3] := rfl
  have b0 : [y0, y1, y2, y3].idxOf y0 ≤ 0 := code_le [y0, y1, y2, y3] 0 (by exact (show 0 < 4 by decide))
  have b1 : [y0, y1, y2, y3].idxOf y1 ≤ 1 := code_le [y0, y1, y2, y3] 1 (by exact (show 1 < 4 by decide))
  have b2 : [y0, y1, y2, y3].idxOf y2 ≤ 2 := code_le [y0, y1, y2, y3] 2 (by exact (show 2 < 4 by decide))
  have b3 : [y0, y1, y2, y3].idxOf y3 ≤ 3 := code_le [y0, y1, y2, y3] 3 (by exact (show 3 < 4 by decide))
  have z0 : [y0, y1, y2, y3].idxOf y0 = 0 := by omega
  have h1 := ok4 ⟨[y0, y1, y2, y3].idxOf y1, by omega⟩ ⟨[y0, y1, y2, y3].idxOf y2, by omega⟩ ⟨[y0, y1, y2, y3].idxOf y3, by omega⟩
  rw [show ([0, [y0, y1, y2, y3].idxOf y1, [y0, y1, y2, y3].idxOf y2, [y0, y1, y2, y3].idxOf y3] : List Nat) = codeOf [y0, y1, y2, y3] from by rw [h0, z0]] at h1
  intro i hi
  have h2 := List.all_eq_true.mp h1 i (by rw [List.mem_range, code_len]; exact hi)
  rw [← code_eq, code_len] at h2
  exact eq_of_beq h2
theorem key4_0 (y0 y1 y2 y3 y4 y5 : Int32) : ((ofL [y0, y1, y2, y3]).getD 0 9).toInt32 = fB1 y0 y1 y2 y3 y4 y5 := by
  rw [bord_ok4 y0 y1 y2 y3 0 (by decide)]
  show (bordE (eqAt [y0, y1, y2, y3]) 1).toInt32 = _
  unfold bordE fB1
  rfl
theorem own_ent4_0 {y0 y1 y2 y3 y4 y5 : Int32} : ¬ (fE0 ((ofL [y0, y1, y2, y3]).getD 0 9).toInt32 y0 y1 y2 y3 y4 y5 = 0) := by
  rw [key4_0]; unfold fE0; rw [if_pos rfl]; decide
theorem bm4_2_1 (y0 y1 y2 y3 y4 y5 : Int32) : brd (eqAt [y0, y1, y2, y3]) 2 1 = !(decide (fM2_1 y0 y1 y2 y3 y4 y5 = 0)) := by
  have e : brd (eqAt [y0, y1, y2, y3]) 2 1 = ((y0 == y1)) := by simp [brd, eqAt, List.range_succ, Bool.and_assoc]
  rw [e, show (y0 == y1) = decide (y0 = y1) from rfl]; unfold fM2_1
  by_cases q0 : y0 = y1
  case neg => rw [if_neg q0, decide_eq_false q0]; simp
  rw [if_pos q0, decide_eq_true q0]
  rfl
theorem key4_1 (y0 y1 y2 y3 y4 y5 : Int32) : ((ofL [y0, y1, y2, y3]).getD 1 9).toInt32 = fB2 y0 y1 y2 y3 y4 y5 := by
  rw [bord_ok4 y0 y1 y2 y3 1 (by decide)]
  show (bordE (eqAt [y0, y1, y2, y3]) 2).toInt32 = _
  unfold bordE fB2
  simp only [bm4_2_1 y0 y1 y2 y3 y4 y5]
  generalize fM2_1 y0 y1 y2 y3 y4 y5 = f1
  by_cases q1 : f1 = 0 <;> simp [q1] <;> rfl
theorem own_ent4_1 {y0 y1 y2 y3 y4 y5 : Int32} : ¬ (fE1 ((ofL [y0, y1, y2, y3]).getD 1 9).toInt32 y0 y1 y2 y3 y4 y5 = 0) := by
  rw [key4_1]; unfold fE1; rw [if_pos rfl]; decide
theorem bm4_3_1 (y0 y1 y2 y3 y4 y5 : Int32) : brd (eqAt [y0, y1, y2, y3]) 3 1 = !(decide (fM3_1 y0 y1 y2 y3 y4 y5 = 0)) := by
  have e : brd (eqAt [y0, y1, y2, y3]) 3 1 = ((y0 == y2)) := by simp [brd, eqAt, List.range_succ, Bool.and_assoc]
  rw [e, show (y0 == y2) = decide (y0 = y2) from rfl]; unfold fM3_1
  by_cases q0 : y0 = y2
  case neg => rw [if_neg q0, decide_eq_false q0]; simp
  rw [if_pos q0, decide_eq_true q0]
  rfl
theorem bm4_3_2 (y0 y1 y2 y3 y4 y5 : Int32) : brd (eqAt [y0, y1, y2, y3]) 3 2 = !(decide (fM3_2 y0 y1 y2 y3 y4 y5 = 0)) := by
  have e : brd (eqAt [y0, y1, y2, y3]) 3 2 = ((y0 == y1) && (y1 == y2)) := by simp [brd, eqAt, List.range_succ, Bool.and_assoc]
  rw [e, show (y0 == y1) = decide (y0 = y1) from rfl, show (y1 == y2) = decide (y1 = y2) from rfl]; unfold fM3_2
  by_cases q0 : y0 = y1
  case neg => rw [if_neg q0, decide_eq_false q0]; simp
  rw [if_pos q0, decide_eq_true q0]
  by_cases q1 : y1 = y2
  case neg => rw [if_neg q1, decide_eq_false q1]; simp
  rw [if_pos q1, decide_eq_true q1]
  rfl
theorem key4_2 (y0 y1 y2 y3 y4 y5 : Int32) : ((ofL [y0, y1, y2, y3]).getD 2 9).toInt32 = fB3 y0 y1 y2 y3 y4 y5 := by
  rw [bord_ok4 y0 y1 y2 y3 2 (by decide)]
  show (bordE (eqAt [y0, y1, y2, y3]) 3).toInt32 = _
  unfold bordE fB3
  simp only [bm4_3_1 y0 y1 y2 y3 y4 y5, bm4_3_2 y0 y1 y2 y3 y4 y5]
  generalize fM3_1 y0 y1 y2 y3 y4 y5 = f1
  generalize fM3_2 y0 y1 y2 y3 y4 y5 = f2
  by_cases q1 : f1 = 0 <;> by_cases q2 : f2 = 0 <;> simp [q1, q2] <;> rfl
theorem own_ent4_2 {y0 y1 y2 y3 y4 y5 : Int32} : ¬ (fE2 ((ofL [y0, y1, y2, y3]).getD 2 9).toInt32 y0 y1 y2 y3 y4 y5 = 0) := by
  rw [key4_2]; unfold fE2; rw [if_pos rfl]; decide
theorem bm4_4_1 (y0 y1 y2 y3 y4 y5 : Int32) : brd (eqAt [y0, y1, y2, y3]) 4 1 = !(decide (fM4_1 y0 y1 y2 y3 y4 y5 = 0)) := by
  have e : brd (eqAt [y0, y1, y2, y3]) 4 1 = ((y0 == y3)) := by simp [brd, eqAt, List.range_succ, Bool.and_assoc]
  rw [e, show (y0 == y3) = decide (y0 = y3) from rfl]; unfold fM4_1
  by_cases q0 : y0 = y3
  case neg => rw [if_neg q0, decide_eq_false q0]; simp
  rw [if_pos q0, decide_eq_true q0]
  rfl
theorem bm4_4_2 (y0 y1 y2 y3 y4 y5 : Int32) : brd (eqAt [y0, y1, y2, y3]) 4 2 = !(decide (fM4_2 y0 y1 y2 y3 y4 y5 = 0)) := by
  have e : brd (eqAt [y0, y1, y2, y3]) 4 2 = ((y0 == y2) && (y1 == y3)) := by simp [brd, eqAt, List.range_succ, Bool.and_assoc]
  rw [e, show (y0 == y2) = decide (y0 = y2) from rfl, show (y1 == y3) = decide (y1 = y3) from rfl]; unfold fM4_2
  by_cases q0 : y0 = y2
  case neg => rw [if_neg q0, decide_eq_false q0]; simp
  rw [if_pos q0, decide_eq_true q0]
  by_cases q1 : y1 = y3
  case neg => rw [if_neg q1, decide_eq_false q1]; simp
  rw [if_pos q1, decide_eq_true q1]
  rfl
theorem bm4_4_3 (y0 y1 y2 y3 y4 y5 : Int32) : brd (eqAt [y0, y1, y2, y3]) 4 3 = !(decide (fM4_3 y0 y1 y2 y3 y4 y5 = 0)) := by
  have e : brd (eqAt [y0, y1, y2, y3]) 4 3 = ((y0 == y1) && (y1 == y2) && (y2 == y3)) := by simp [brd, eqAt, List.range_succ, Bool.and_assoc]
  rw [e, show (y0 == y1) = decide (y0 = y1) from rfl, show (y1 == y2) = decide (y1 = y2) from rfl, show (y2 == y3) = decide (y2 = y3) from rfl]; unfold fM4_3
  by_cases q0 : y0 = y1
  case neg => rw [if_neg q0, decide_eq_false q0]; simp
  rw [if_pos q0, decide_eq_true q0]
  by_cases q1 : y1 = y2
  case neg => rw [if_neg q1, decide_eq_false q1]; simp
  rw [if_pos q1, decide_eq_true q1]
  by_cases q2 : y2 = y3
  case neg => rw [if_neg q2, decide_eq_false q2]; simp
  rw [if_pos q2, decide_eq_true q2]
  rfl
theorem key4_3 (y0 y1 y2 y3 y4 y5 : Int32) : ((ofL [y0, y1, y2, y3]).getD 3 9).toInt32 = fB4 y0 y1 y2 y3 y4 y5 := by
  rw [bord_ok4 y0 y1 y2 y3 3 (by decide)]
  show (bordE (eqAt [y0, y1, y2, y3]) 4).toInt32 = _
  unfold bordE fB4
  simp only [bm4_4_1 y0 y1 y2 y3 y4 y5, bm4_4_2 y0 y1 y2 y3 y4 y5, bm4_4_3 y0 y1 y2 y3 y4 y5]
  generalize fM4_1 y0 y1 y2 y3 y4 y5 = f1
  generalize fM4_2 y0 y1 y2 y3 y4 y5 = f2
  generalize fM4_3 y0 y1 y2 y3 y4 y5 = f3
  by_cases q1 : f1 = 0 <;> by_cases q2 : f2 = 0 <;> by_cases q3 : f3 = 0 <;> simp [q1, q2, q3] <;> rfl
theorem own_ent4_3 {y0 y1 y2 y3 y4 y5 : Int32} : ¬ (fE3 ((ofL [y0, y1, y2, y3]).getD 3 9).toInt32 y0 y1 y2 y3 y4 y5 = 0) := by
  rw [key4_3]; unfold fE3; rw [if_pos rfl]; decide
theorem ok5 : ∀ (c1 : Fin 2) (c2 : Fin 3) (c3 : Fin 4) (c4 : Fin 5), okE [0, c1.val, c2.val, c3.val, c4.val] = true := by decide +kernel
theorem bord_ok5 (y0 y1 y2 y3 y4 : Int32) : ∀ i, i < 5 → (ofL [y0, y1, y2, y3, y4]).getD i 9 = bordE (eqAt [y0, y1, y2, y3, y4]) (i + 1) := by
  have h0 : codeOf [y0, y1, y2, y3, y4] = [[y0, y1, y2, y3, y4].idxOf y0, [y0, y1, y2, y3, y4].idxOf y1, [y0, y1, y2, y3, y4].idxOf y2, [y0, y1, y2, y3, y4].idxOf y3, [y0, y1, y2, y3, y4].idxOf y4] := rfl
  have b0 : [y0, y1, y2, y3, y4].idxOf y0 ≤ 0 := code_le [y0, y1, y2, y3, y4] 0 (by exact (show 0 < 5 by decide))
  have b1 : [y0, y1, y2, y3, y4].idxOf y1 ≤ 1 := code_le [y0, y1, y2, y3, y4] 1 (by exact (show 1 < 5 by decide))
  have b2 : [y0, y1, y2, y3, y4].idxOf y2 ≤ 2 := code_le [y0, y1, y2, y3, y4] 2 (by exact (show 2 < 5 by decide))
  have b3 : [y0, y1, y2, y3, y4].idxOf y3 ≤ 3 := code_le [y0, y1, y2, y3, y4] 3 (by exact (show 3 < 5 by decide))
  have b4 : [y0, y1, y2, y3, y4].idxOf y4 ≤ 4 := code_le [y0, y1, y2, y3, y4] 4 (by exact (show 4 < 5 by decide))
  have z0 : [y0, y1, y2, y3, y4].idxOf y0 = 0 := by omega
  have h1 := ok5 ⟨[y0, y1, y2, y3, y4].idxOf y1, by omega⟩ ⟨[y0, y1, y2, y3, y4].idxOf y2, by omega⟩ ⟨[y0, y1, y2, y3, y4].idxOf y3, by omega⟩ ⟨[y0, y1, y2, y3, y4].idxOf y4, by omega⟩
  rw [show ([0, [y0, y1, y2, y3, y4].idxOf y1, [y0, y1, y2, y3, y4].idxOf y2, [y0, y1, y2, y3, y4].idxOf y3, [y0, y1, y2, y3, y4].idxOf y4] : List Nat) = codeOf [y0, y1, y2, y3, y4] from by rw [h0, z0]] at h1
  intro i hi
  have h2 := List.all_eq_true.mp h1 i (by rw [List.mem_range, code_len]; exact hi)
  rw [← code_eq, code_len] at h2
  exact eq_of_beq h2
theorem key5_0 (y0 y1 y2 y3 y4 y5 : Int32) : ((ofL [y0, y1, y2, y3, y4]).getD 0 9).toInt32 = fB1 y0 y1 y2 y3 y4 y5 := by
  rw [bord_ok5 y0 y1 y2 y3 y4 0 (by decide)]
  show (bordE (eqAt [y0, y1, y2, y3, y4]) 1).toInt32 = _
  unfold bordE fB1
  rfl
theorem own_ent5_0 {y0 y1 y2 y3 y4 y5 : Int32} : ¬ (fE0 ((ofL [y0, y1, y2, y3, y4]).getD 0 9).toInt32 y0 y1 y2 y3 y4 y5 = 0) := by
  rw [key5_0]; unfold fE0; rw [if_pos rfl]; decide
theorem bm5_2_1 (y0 y1 y2 y3 y4 y5 : Int32) : brd (eqAt [y0, y1, y2, y3, y4]) 2 1 = !(decide (fM2_1 y0 y1 y2 y3 y4 y5 = 0)) := by
  have e : brd (eqAt [y0, y1, y2, y3, y4]) 2 1 = ((y0 == y1)) := by simp [brd, eqAt, List.range_succ, Bool.and_assoc]
  rw [e, show (y0 == y1) = decide (y0 = y1) from rfl]; unfold fM2_1
  by_cases q0 : y0 = y1
  case neg => rw [if_neg q0, decide_eq_false q0]; simp
  rw [if_pos q0, decide_eq_true q0]
  rfl
theorem key5_1 (y0 y1 y2 y3 y4 y5 : Int32) : ((ofL [y0, y1, y2, y3, y4]).getD 1 9).toInt32 = fB2 y0 y1 y2 y3 y4 y5 := by
  rw [bord_ok5 y0 y1 y2 y3 y4 1 (by decide)]
  show (bordE (eqAt [y0, y1, y2, y3, y4]) 2).toInt32 = _
  unfold bordE fB2
  simp only [bm5_2_1 y0 y1 y2 y3 y4 y5]
  generalize fM2_1 y0 y1 y2 y3 y4 y5 = f1
  by_cases q1 : f1 = 0 <;> simp [q1] <;> rfl
theorem own_ent5_1 {y0 y1 y2 y3 y4 y5 : Int32} : ¬ (fE1 ((ofL [y0, y1, y2, y3, y4]).getD 1 9).toInt32 y0 y1 y2 y3 y4 y5 = 0) := by
  rw [key5_1]; unfold fE1; rw [if_pos rfl]; decide
theorem bm5_3_1 (y0 y1 y2 y3 y4 y5 : Int32) : brd (eqAt [y0, y1, y2, y3, y4]) 3 1 = !(decide (fM3_1 y0 y1 y2 y3 y4 y5 = 0)) := by
  have e : brd (eqAt [y0, y1, y2, y3, y4]) 3 1 = ((y0 == y2)) := by simp [brd, eqAt, List.range_succ, Bool.and_assoc]
  rw [e, show (y0 == y2) = decide (y0 = y2) from rfl]; unfold fM3_1
  by_cases q0 : y0 = y2
  case neg => rw [if_neg q0, decide_eq_false q0]; simp
  rw [if_pos q0, decide_eq_true q0]
  rfl
theorem bm5_3_2 (y0 y1 y2 y3 y4 y5 : Int32) : brd (eqAt [y0, y1, y2, y3, y4]) 3 2 = !(decide (fM3_2 y0 y1 y2 y3 y4 y5 = 0)) := by
  have e : brd (eqAt [y0, y1, y2, y3, y4]) 3 2 = ((y0 == y1) && (y1 == y2)) := by simp [brd, eqAt, List.range_succ, Bool.and_assoc]
  rw [e, show (y0 == y1) = decide (y0 = y1) from rfl, show (y1 == y2) = decide (y1 = y2) from rfl]; unfold fM3_2
  by_cases q0 : y0 = y1
  case neg => rw [if_neg q0, decide_eq_false q0]; simp
  rw [if_pos q0, decide_eq_true q0]
  by_cases q1 : y1 = y2
  case neg => rw [if_neg q1, decide_eq_false q1]; simp
  rw [if_pos q1, decide_eq_true q1]
  rfl
theorem key5_2 (y0 y1 y2 y3 y4 y5 : Int32) : ((ofL [y0, y1, y2, y3, y4]).getD 2 9).toInt32 = fB3 y0 y1 y2 y3 y4 y5 := by
  rw [bord_ok5 y0 y1 y2 y3 y4 2 (by decide)]
  show (bordE (eqAt [y0, y1, y2, y3, y4]) 3).toInt32 = _
  unfold bordE fB3
  simp only [bm5_3_1 y0 y1 y2 y3 y4 y5, bm5_3_2 y0 y1 y2 y3 y4 y5]
  generalize fM3_1 y0 y1 y2 y3 y4 y5 = f1
  generalize fM3_2 y0 y1 y2 y3 y4 y5 = f2
  by_cases q1 : f1 = 0 <;> by_cases q2 : f2 = 0 <;> simp [q1, q2] <;> rfl
theorem own_ent5_2 {y0 y1 y2 y3 y4 y5 : Int32} : ¬ (fE2 ((ofL [y0, y1, y2, y3, y4]).getD 2 9).toInt32 y0 y1 y2 y3 y4 y5 = 0) := by
  rw [key5_2]; unfold fE2; rw [if_pos rfl]; decide
theorem bm5_4_1 (y0 y1 y2 y3 y4 y5 : Int32) : brd (eqAt [y0, y1, y2, y3, y4]) 4 1 = !(decide (fM4_1 y0 y1 y2 y3 y4 y5 = 0)) := by
  have e : brd (eqAt [y0, y1, y2, y3, y4]) 4 1 = ((y0 == y3)) := by simp [brd, eqAt, List.range_succ, Bool.and_assoc]
  rw [e, show (y0 == y3) = decide (y0 = y3) from rfl]; unfold fM4_1
  by_cases q0 : y0 = y3
  case neg => rw [if_neg q0, decide_eq_false q0]; simp
  rw [if_pos q0, decide_eq_true q0]
  rfl
theorem bm5_4_2 (y0 y1 y2 y3 y4 y5 : Int32) : brd (eqAt [y0, y1, y2, y3, y4]) 4 2 = !(decide (fM4_2 y0 y1 y2 y3 y4 y5 = 0)) := by
  have e : brd (eqAt [y0, y1, y2, y3, y4]) 4 2 = ((y0 == y2) && (y1 == y3)) := by simp [brd, eqAt, List.range_succ, Bool.and_assoc]
  rw [e, show (y0 == y2) = decide (y0 = y2) from rfl, show (y1 == y3) = decide (y1 = y3) from rfl]; unfold fM4_2
  by_cases q0 : y0 = y2
  case neg => rw [if_neg q0, decide_eq_false q0]; simp
  rw [if_pos q0, decide_eq_true q0]
  by_cases q1 : y1 = y3
  case neg => rw [if_neg q1, decide_eq_false q1]; simp
  rw [if_pos q1, decide_eq_true q1]
  rfl
theorem bm5_4_3 (y0 y1 y2 y3 y4 y5 : Int32) : brd (eqAt [y0, y1, y2, y3, y4]) 4 3 = !(decide (fM4_3 y0 y1 y2 y3 y4 y5 = 0)) := by
  have e : brd (eqAt [y0, y1, y2, y3, y4]) 4 3 = ((y0 == y1) && (y1 == y2) && (y2 == y3)) := by simp [brd, eqAt, List.range_succ, Bool.and_assoc]
  rw [e, show (y0 == y1) = decide (y0 = y1) from rfl, show (y1 == y2) = decide (y1 = y2) from rfl, show (y2 == y3) = decide (y2 = y3) from rfl]; unfold fM4_3
  by_cases q0 : y0 = y1
  case neg => rw [if_neg q0, decide_eq_false q0]; simp
  rw [if_pos q0, decide_eq_true q0]
  by_cases q1 : y1 = y2
  case neg => rw [if_neg q1, decide_eq_false q1]; simp
  rw [if_pos q1, decide_eq_true q1]
  by_cases q2 : y2 = y3
  case neg => rw [if_neg q2, decide_eq_false q2]; simp
  rw [if_pos q2, decide_eq_true q2]
  rfl
theorem key5_3 (y0 y1 y2 y3 y4 y5 : Int32) : ((ofL [y0, y1, y2, y3, y4]).getD 3 9).toInt32 = fB4 y0 y1 y2 y3 y4 y5 := by
  rw [bord_ok5 y0 y1 y2 y3 y4 3 (by decide)]
  show (bordE (eqAt [y0, y1, y2, y3, y4]) 4).toInt32 = _
  unfold bordE fB4
  simp only [bm5_4_1 y0 y1 y2 y3 y4 y5, bm5_4_2 y0 y1 y2 y3 y4 y5, bm5_4_3 y0 y1 y2 y3 y4 y5]
  generalize fM4_1 y0 y1 y2 y3 y4 y5 = f1
  generalize fM4_2 y0 y1 y2 y3 y4 y5 = f2
  generalize fM4_3 y0 y1 y2 y3 y4 y5 = f3
  by_cases q1 : f1 = 0 <;> by_cases q2 : f2 = 0 <;> by_cases q3 : f3 = 0 <;> simp [q1, q2, q3] <;> rfl
theorem own_ent5_3 {y0 y1 y2 y3 y4 y5 : Int32} : ¬ (fE3 ((ofL [y0, y1, y2, y3, y4]).getD 3 9).toInt32 y0 y1 y2 y3 y4 y5 = 0) := by
  rw [key5_3]; unfold fE3; rw [if_pos rfl]; decide
theorem bm5_5_1 (y0 y1 y2 y3 y4 y5 : Int32) : brd (eqAt [y0, y1, y2, y3, y4]) 5 1 = !(decide (fM5_1 y0 y1 y2 y3 y4 y5 = 0)) := by
  have e : brd (eqAt [y0, y1, y2, y3, y4]) 5 1 = ((y0 == y4)) := by simp [brd, eqAt, List.range_succ, Bool.and_assoc]
  rw [e, show (y0 == y4) = decide (y0 = y4) from rfl]; unfold fM5_1
  by_cases q0 : y0 = y4
  case neg => rw [if_neg q0, decide_eq_false q0]; simp
  rw [if_pos q0, decide_eq_true q0]
  rfl
theorem bm5_5_2 (y0 y1 y2 y3 y4 y5 : Int32) : brd (eqAt [y0, y1, y2, y3, y4]) 5 2 = !(decide (fM5_2 y0 y1 y2 y3 y4 y5 = 0)) := by
  have e : brd (eqAt [y0, y1, y2, y3, y4]) 5 2 = ((y0 == y3) && (y1 == y4)) := by simp [brd, eqAt, List.range_succ, Bool.and_assoc]
  rw [e, show (y0 == y3) = decide (y0 = y3) from rfl, show (y1 == y4) = decide (y1 = y4) from rfl]; unfold fM5_2
  by_cases q0 : y0 = y3
  case neg => rw [if_neg q0, decide_eq_false q0]; simp
  rw [if_pos q0, decide_eq_true q0]
  by_cases q1 : y1 = y4
  case neg => rw [if_neg q1, decide_eq_false q1]; simp
  rw [if_pos q1, decide_eq_true q1]
  rfl
theorem bm5_5_3 (y0 y1 y2 y3 y4 y5 : Int32) : brd (eqAt [y0, y1, y2, y3, y4]) 5 3 = !(decide (fM5_3 y0 y1 y2 y3 y4 y5 = 0)) := by
  have e : brd (eqAt [y0, y1, y2, y3, y4]) 5 3 = ((y0 == y2) && (y1 == y3) && (y2 == y4)) := by simp [brd, eqAt, List.range_succ, Bool.and_assoc]
  rw [e, show (y0 == y2) = decide (y0 = y2) from rfl, show (y1 == y3) = decide (y1 = y3) from rfl, show (y2 == y4) = decide (y2 = y4) from rfl]; unfold fM5_3
  by_cases q0 : y0 = y2
  case neg => rw [if_neg q0, decide_eq_false q0]; simp
  rw [if_pos q0, decide_eq_true q0]
  by_cases q1 : y1 = y3
  case neg => rw [if_neg q1, decide_eq_false q1]; simp
  rw [if_pos q1, decide_eq_true q1]
  by_cases q2 : y2 = y4
  case neg => rw [if_neg q2, decide_eq_false q2]; simp
  rw [if_pos q2, decide_eq_true q2]
  rfl
theorem bm5_5_4 (y0 y1 y2 y3 y4 y5 : Int32) : brd (eqAt [y0, y1, y2, y3, y4]) 5 4 = !(decide (fM5_4 y0 y1 y2 y3 y4 y5 = 0)) := by
  have e : brd (eqAt [y0, y1, y2, y3, y4]) 5 4 = ((y0 == y1) && (y1 == y2) && (y2 == y3) && (y3 == y4)) := by simp [brd, eqAt, List.range_succ, Bool.and_assoc]
  rw [e, show (y0 == y1) = decide (y0 = y1) from rfl, show (y1 == y2) = decide (y1 = y2) from rfl, show (y2 == y3) = decide (y2 = y3) from rfl, show (y3 == y4) = decide (y3 = y4) from rfl]; unfold fM5_4
  by_cases q0 : y0 = y1
  case neg => rw [if_neg q0, decide_eq_false q0]; simp
  rw [if_pos q0, decide_eq_true q0]
  by_cases q1 : y1 = y2
  case neg => rw [if_neg q1, decide_eq_false q1]; simp
  rw [if_pos q1, decide_eq_true q1]
  by_cases q2 : y2 = y3
  case neg => rw [if_neg q2, decide_eq_false q2]; simp
  rw [if_pos q2, decide_eq_true q2]
  by_cases q3 : y3 = y4
  case neg => rw [if_neg q3, decide_eq_false q3]; simp
  rw [if_pos q3, decide_eq_true q3]
  rfl
theorem key5_4 (y0 y1 y2 y3 y4 y5 : Int32) : ((ofL [y0, y1, y2, y3, y4]).getD 4 9).toInt32 = fB5 y0 y1 y2 y3 y4 y5 := by
  rw [bord_ok5 y0 y1 y2 y3 y4 4 (by decide)]
  show (bordE (eqAt [y0, y1, y2, y3, y4]) 5).toInt32 = _
  unfold bordE fB5
  simp only [bm5_5_1 y0 y1 y2 y3 y4 y5, bm5_5_2 y0 y1 y2 y3 y4 y5, bm5_5_3 y0 y1 y2 y3 y4 y5, bm5_5_4 y0 y1 y2 y3 y4 y5]
  generalize fM5_1 y0 y1 y2 y3 y4 y5 = f1
  generalize fM5_2 y0 y1 y2 y3 y4 y5 = f2
  generalize fM5_3 y0 y1 y2 y3 y4 y5 = f3
  generalize fM5_4 y0 y1 y2 y3 y4 y5 = f4
  by_cases q1 : f1 = 0 <;> by_cases q2 : f2 = 0 <;> by_cases q3 : f3 = 0 <;> by_cases q4 : f4 = 0 <;> simp [q1, q2, q3, q4] <;> rfl
theorem own_ent5_4 {y0 y1 y2 y3 y4 y5 : Int32} : ¬ (fE4 ((ofL [y0, y1, y2, y3, y4]).getD 4 9).toInt32 y0 y1 y2 y3 y4 y5 = 0) := by
  rw [key5_4]; unfold fE4; rw [if_pos rfl]; decide
theorem bord_ok6 (y0 y1 y2 y3 y4 y5 : Int32) : ∀ i, i < 6 → (ofL [y0, y1, y2, y3, y4, y5]).getD i 9 = bordE (eqAt [y0, y1, y2, y3, y4, y5]) (i + 1) := by
  have h0 : codeOf [y0, y1, y2, y3, y4, y5] = [[y0, y1, y2, y3, y4, y5].idxOf y0, [y0, y1, y2, y3, y4, y5].idxOf y1, [y0, y1, y2, y3, y4, y5].idxOf y2, [y0, y1, y2, y3, y4, y5].idxOf y3, [y0, y1, y2, y3, y4, y5].idxOf y4, [y0, y1, y2, y3, y4, y5].idxOf y5] := rfl
  have b0 : [y0, y1, y2, y3, y4, y5].idxOf y0 ≤ 0 := code_le [y0, y1, y2, y3, y4, y5] 0 (by exact (show 0 < 6 by decide))
  have b1 : [y0, y1, y2, y3, y4, y5].idxOf y1 ≤ 1 := code_le [y0, y1, y2, y3, y4, y5] 1 (by exact (show 1 < 6 by decide))
  have b2 : [y0, y1, y2, y3, y4, y5].idxOf y2 ≤ 2 := code_le [y0, y1, y2, y3, y4, y5] 2 (by exact (show 2 < 6 by decide))
  have b3 : [y0, y1, y2, y3, y4, y5].idxOf y3 ≤ 3 := code_le [y0, y1, y2, y3, y4, y5] 3 (by exact (show 3 < 6 by decide))
  have b4 : [y0, y1, y2, y3, y4, y5].idxOf y4 ≤ 4 := code_le [y0, y1, y2, y3, y4, y5] 4 (by exact (show 4 < 6 by decide))
  have b5 : [y0, y1, y2, y3, y4, y5].idxOf y5 ≤ 5 := code_le [y0, y1, y2, y3, y4, y5] 5 (by exact (show 5 < 6 by decide))
  have z0 : [y0, y1, y2, y3, y4, y5].idxOf y0 = 0 := by omega
  have h1 := ok6 ⟨[y0, y1, y2, y3, y4, y5].idxOf y1, by omega⟩ ⟨[y0, y1, y2, y3, y4, y5].idxOf y2, by omega⟩ ⟨[y0, y1, y2, y3, y4, y5].idxOf y3, by omega⟩ ⟨[y0, y1, y2, y3, y4, y5].idxOf y4, by omega⟩ ⟨[y0, y1, y2, y3, y4, y5].idxOf y5, by omega⟩
  rw [show ([0, [y0, y1, y2, y3, y4, y5].idxOf y1, [y0, y1, y2, y3, y4, y5].idxOf y2, [y0, y1, y2, y3, y4, y5].idxOf y3, [y0, y1, y2, y3, y4, y5].idxOf y4, [y0, y1, y2, y3, y4, y5].idxOf y5] : List Nat) = codeOf [y0, y1, y2, y3, y4, y5] from by rw [h0, z0]] at h1
  intro i hi
  have h2 := List.all_eq_true.mp h1 i (by rw [List.mem_range, code_len]; exact hi)
  rw [← code_eq, code_len] at h2
  exact eq_of_beq h2
theorem key6_0 (y0 y1 y2 y3 y4 y5 : Int32) : ((ofL [y0, y1, y2, y3, y4, y5]).getD 0 9).toInt32 = fB1 y0 y1 y2 y3 y4 y5 := by
  rw [bord_ok6 y0 y1 y2 y3 y4 y5 0 (by decide)]
  show (bordE (eqAt [y0, y1, y2, y3, y4, y5]) 1).toInt32 = _
  unfold bordE fB1
  rfl
theorem own_ent6_0 {y0 y1 y2 y3 y4 y5 : Int32} : ¬ (fE0 ((ofL [y0, y1, y2, y3, y4, y5]).getD 0 9).toInt32 y0 y1 y2 y3 y4 y5 = 0) := by
  rw [key6_0]; unfold fE0; rw [if_pos rfl]; decide
theorem bm6_2_1 (y0 y1 y2 y3 y4 y5 : Int32) : brd (eqAt [y0, y1, y2, y3, y4, y5]) 2 1 = !(decide (fM2_1 y0 y1 y2 y3 y4 y5 = 0)) := by
  have e : brd (eqAt [y0, y1, y2, y3, y4, y5]) 2 1 = ((y0 == y1)) := by simp [brd, eqAt, List.range_succ, Bool.and_assoc]
  rw [e, show (y0 == y1) = decide (y0 = y1) from rfl]; unfold fM2_1
  by_cases q0 : y0 = y1
  case neg => rw [if_neg q0, decide_eq_false q0]; simp
  rw [if_pos q0, decide_eq_true q0]
  rfl
theorem key6_1 (y0 y1 y2 y3 y4 y5 : Int32) : ((ofL [y0, y1, y2, y3, y4, y5]).getD 1 9).toInt32 = fB2 y0 y1 y2 y3 y4 y5 := by
  rw [bord_ok6 y0 y1 y2 y3 y4 y5 1 (by decide)]
  show (bordE (eqAt [y0, y1, y2, y3, y4, y5]) 2).toInt32 = _
  unfold bordE fB2
  simp only [bm6_2_1 y0 y1 y2 y3 y4 y5]
  generalize fM2_1 y0 y1 y2 y3 y4 y5 = f1
  by_cases q1 : f1 = 0 <;> simp [q1] <;> rfl
theorem own_ent6_1 {y0 y1 y2 y3 y4 y5 : Int32} : ¬ (fE1 ((ofL [y0, y1, y2, y3, y4, y5]).getD 1 9).toInt32 y0 y1 y2 y3 y4 y5 = 0) := by
  rw [key6_1]; unfold fE1; rw [if_pos rfl]; decide
theorem bm6_3_1 (y0 y1 y2 y3 y4 y5 : Int32) : brd (eqAt [y0, y1, y2, y3, y4, y5]) 3 1 = !(decide (fM3_1 y0 y1 y2 y3 y4 y5 = 0)) := by
  have e : brd (eqAt [y0, y1, y2, y3, y4, y5]) 3 1 = ((y0 == y2)) := by simp [brd, eqAt, List.range_succ, Bool.and_assoc]
  rw [e, show (y0 == y2) = decide (y0 = y2) from rfl]; unfold fM3_1
  by_cases q0 : y0 = y2
  case neg => rw [if_neg q0, decide_eq_false q0]; simp
  rw [if_pos q0, decide_eq_true q0]
  rfl
theorem bm6_3_2 (y0 y1 y2 y3 y4 y5 : Int32) : brd (eqAt [y0, y1, y2, y3, y4, y5]) 3 2 = !(decide (fM3_2 y0 y1 y2 y3 y4 y5 = 0)) := by
  have e : brd (eqAt [y0, y1, y2, y3, y4, y5]) 3 2 = ((y0 == y1) && (y1 == y2)) := by simp [brd, eqAt, List.range_succ, Bool.and_assoc]
  rw [e, show (y0 == y1) = decide (y0 = y1) from rfl, show (y1 == y2) = decide (y1 = y2) from rfl]; unfold fM3_2
  by_cases q0 : y0 = y1
  case neg => rw [if_neg q0, decide_eq_false q0]; simp
  rw [if_pos q0, decide_eq_true q0]
  by_cases q1 : y1 = y2
  case neg => rw [if_neg q1, decide_eq_false q1]; simp
  rw [if_pos q1, decide_eq_true q1]
  rfl
theorem key6_2 (y0 y1 y2 y3 y4 y5 : Int32) : ((ofL [y0, y1, y2, y3, y4, y5]).getD 2 9).toInt32 = fB3 y0 y1 y2 y3 y4 y5 := by
  rw [bord_ok6 y0 y1 y2 y3 y4 y5 2 (by decide)]
  show (bordE (eqAt [y0, y1, y2, y3, y4, y5]) 3).toInt32 = _
  unfold bordE fB3
  simp only [bm6_3_1 y0 y1 y2 y3 y4 y5, bm6_3_2 y0 y1 y2 y3 y4 y5]
  generalize fM3_1 y0 y1 y2 y3 y4 y5 = f1
  generalize fM3_2 y0 y1 y2 y3 y4 y5 = f2
  by_cases q1 : f1 = 0 <;> by_cases q2 : f2 = 0 <;> simp [q1, q2] <;> rfl
theorem own_ent6_2 {y0 y1 y2 y3 y4 y5 : Int32} : ¬ (fE2 ((ofL [y0, y1, y2, y3, y4, y5]).getD 2 9).toInt32 y0 y1 y2 y3 y4 y5 = 0) := by
  rw [key6_2]; unfold fE2; rw [if_pos rfl]; decide
theorem bm6_4_1 (y0 y1 y2 y3 y4 y5 : Int32) : brd (eqAt [y0, y1, y2, y3, y4, y5]) 4 1 = !(decide (fM4_1 y0 y1 y2 y3 y4 y5 = 0)) := by
  have e : brd (eqAt [y0, y1, y2, y3, y4, y5]) 4 1 = ((y0 == y3)) := by simp [brd, eqAt, List.range_succ, Bool.and_assoc]
  rw [e, show (y0 == y3) = decide (y0 = y3) from rfl]; unfold fM4_1
  by_cases q0 : y0 = y3
  case neg => rw [if_neg q0, decide_eq_false q0]; simp
  rw [if_pos q0, decide_eq_true q0]
  rfl
theorem bm6_4_2 (y0 y1 y2 y3 y4 y5 : Int32) : brd (eqAt [y0, y1, y2, y3, y4, y5]) 4 2 = !(decide (fM4_2 y0 y1 y2 y3 y4 y5 = 0)) := by
  have e : brd (eqAt [y0, y1, y2, y3, y4, y5]) 4 2 = ((y0 == y2) && (y1 == y3)) := by simp [brd, eqAt, List.range_succ, Bool.and_assoc]
  rw [e, show (y0 == y2) = decide (y0 = y2) from rfl, show (y1 == y3) = decide (y1 = y3) from rfl]; unfold fM4_2
  by_cases q0 : y0 = y2
  case neg => rw [if_neg q0, decide_eq_false q0]; simp
  rw [if_pos q0, decide_eq_true q0]
  by_cases q1 : y1 = y3
  case neg => rw [if_neg q1, decide_eq_false q1]; simp
  rw [if_pos q1, decide_eq_true q1]
  rfl
theorem bm6_4_3 (y0 y1 y2 y3 y4 y5 : Int32) : brd (eqAt [y0, y1, y2, y3, y4, y5]) 4 3 = !(decide (fM4_3 y0 y1 y2 y3 y4 y5 = 0)) := by
  have e : brd (eqAt [y0, y1, y2, y3, y4, y5]) 4 3 = ((y0 == y1) && (y1 == y2) && (y2 == y3)) := by simp [brd, eqAt, List.range_succ, Bool.and_assoc]
  rw [e, show (y0 == y1) = decide (y0 = y1) from rfl, show (y1 == y2) = decide (y1 = y2) from rfl, show (y2 == y3) = decide (y2 = y3) from rfl]; unfold fM4_3
  by_cases q0 : y0 = y1
  case neg => rw [if_neg q0, decide_eq_false q0]; simp
  rw [if_pos q0, decide_eq_true q0]
  by_cases q1 : y1 = y2
  case neg => rw [if_neg q1, decide_eq_false q1]; simp
  rw [if_pos q1, decide_eq_true q1]
  by_cases q2 : y2 = y3
  case neg => rw [if_neg q2, decide_eq_false q2]; simp
  rw [if_pos q2, decide_eq_true q2]
  rfl
theorem key6_3 (y0 y1 y2 y3 y4 y5 : Int32) : ((ofL [y0, y1, y2, y3, y4, y5]).getD 3 9).toInt32 = fB4 y0 y1 y2 y3 y4 y5 := by
  rw [bord_ok6 y0 y1 y2 y3 y4 y5 3 (by decide)]
  show (bordE (eqAt [y0, y1, y2, y3, y4, y5]) 4).toInt32 = _
  unfold bordE fB4
  simp only [bm6_4_1 y0 y1 y2 y3 y4 y5, bm6_4_2 y0 y1 y2 y3 y4 y5, bm6_4_3 y0 y1 y2 y3 y4 y5]
  generalize fM4_1 y0 y1 y2 y3 y4 y5 = f1
  generalize fM4_2 y0 y1 y2 y3 y4 y5 = f2
  generalize fM4_3 y0 y1 y2 y3 y4 y5 = f3
  by_cases q1 : f1 = 0 <;> by_cases q2 : f2 = 0 <;> by_cases q3 : f3 = 0 <;> simp [q1, q2, q3] <;> rfl
theorem own_ent6_3 {y0 y1 y2 y3 y4 y5 : Int32} : ¬ (fE3 ((ofL [y0, y1, y2, y3, y4, y5]).getD 3 9).toInt32 y0 y1 y2 y3 y4 y5 = 0) := by
  rw [key6_3]; unfold fE3; rw [if_pos rfl]; decide
theorem bm6_5_1 (y0 y1 y2 y3 y4 y5 : Int32) : brd (eqAt [y0, y1, y2, y3, y4, y5]) 5 1 = !(decide (fM5_1 y0 y1 y2 y3 y4 y5 = 0)) := by
  have e : brd (eqAt [y0, y1, y2, y3, y4, y5]) 5 1 = ((y0 == y4)) := by simp [brd, eqAt, List.range_succ, Bool.and_assoc]
  rw [e, show (y0 == y4) = decide (y0 = y4) from rfl]; unfold fM5_1
  by_cases q0 : y0 = y4
  case neg => rw [if_neg q0, decide_eq_false q0]; simp
  rw [if_pos q0, decide_eq_true q0]
  rfl
theorem bm6_5_2 (y0 y1 y2 y3 y4 y5 : Int32) : brd (eqAt [y0, y1, y2, y3, y4, y5]) 5 2 = !(decide (fM5_2 y0 y1 y2 y3 y4 y5 = 0)) := by
  have e : brd (eqAt [y0, y1, y2, y3, y4, y5]) 5 2 = ((y0 == y3) && (y1 == y4)) := by simp [brd, eqAt, List.range_succ, Bool.and_assoc]
  rw [e, show (y0 == y3) = decide (y0 = y3) from rfl, show (y1 == y4) = decide (y1 = y4) from rfl]; unfold fM5_2
  by_cases q0 : y0 = y3
  case neg => rw [if_neg q0, decide_eq_false q0]; simp
  rw [if_pos q0, decide_eq_true q0]
  by_cases q1 : y1 = y4
  case neg => rw [if_neg q1, decide_eq_false q1]; simp
  rw [if_pos q1, decide_eq_true q1]
  rfl
theorem bm6_5_3 (y0 y1 y2 y3 y4 y5 : Int32) : brd (eqAt [y0, y1, y2, y3, y4, y5]) 5 3 = !(decide (fM5_3 y0 y1 y2 y3 y4 y5 = 0)) := by
  have e : brd (eqAt [y0, y1, y2, y3, y4, y5]) 5 3 = ((y0 == y2) && (y1 == y3) && (y2 == y4)) := by simp [brd, eqAt, List.range_succ, Bool.and_assoc]
  rw [e, show (y0 == y2) = decide (y0 = y2) from rfl, show (y1 == y3) = decide (y1 = y3) from rfl, show (y2 == y4) = decide (y2 = y4) from rfl]; unfold fM5_3
  by_cases q0 : y0 = y2
  case neg => rw [if_neg q0, decide_eq_false q0]; simp
  rw [if_pos q0, decide_eq_true q0]
  by_cases q1 : y1 = y3
  case neg => rw [if_neg q1, decide_eq_false q1]; simp
  rw [if_pos q1, decide_eq_true q1]
  by_cases q2 : y2 = y4
  case neg => rw [if_neg q2, decide_eq_false q2]; simp
  rw [if_pos q2, decide_eq_true q2]
  rfl
theorem bm6_5_4 (y0 y1 y2 y3 y4 y5 : Int32) : brd (eqAt [y0, y1, y2, y3, y4, y5]) 5 4 = !(decide (fM5_4 y0 y1 y2 y3 y4 y5 = 0)) := by
  have e : brd (eqAt [y0, y1, y2, y3, y4, y5]) 5 4 = ((y0 == y1) && (y1 == y2) && (y2 == y3) && (y3 == y4)) := by simp [brd, eqAt, List.range_succ, Bool.and_assoc]
  rw [e, show (y0 == y1) = decide (y0 = y1) from rfl, show (y1 == y2) = decide (y1 = y2) from rfl, show (y2 == y3) = decide (y2 = y3) from rfl, show (y3 == y4) = decide (y3 = y4) from rfl]; unfold fM5_4
  by_cases q0 : y0 = y1
  case neg => rw [if_neg q0, decide_eq_false q0]; simp
  rw [if_pos q0, decide_eq_true q0]
  by_cases q1 : y1 = y2
  case neg => rw [if_neg q1, decide_eq_false q1]; simp
  rw [if_pos q1, decide_eq_true q1]
  by_cases q2 : y2 = y3
  case neg => rw [if_neg q2, decide_eq_false q2]; simp
  rw [if_pos q2, decide_eq_true q2]
  by_cases q3 : y3 = y4
  case neg => rw [if_neg q3, decide_eq_false q3]; simp
  rw [if_pos q3, decide_eq_true q3]
  rfl
theorem key6_4 (y0 y1 y2 y3 y4 y5 : Int32) : ((ofL [y0, y1, y2, y3, y4, y5]).getD 4 9).toInt32 = fB5 y0 y1 y2 y3 y4 y5 := by
  rw [bord_ok6 y0 y1 y2 y3 y4 y5 4 (by decide)]
  show (bordE (eqAt [y0, y1, y2, y3, y4, y5]) 5).toInt32 = _
  unfold bordE fB5
  simp only [bm6_5_1 y0 y1 y2 y3 y4 y5, bm6_5_2 y0 y1 y2 y3 y4 y5, bm6_5_3 y0 y1 y2 y3 y4 y5, bm6_5_4 y0 y1 y2 y3 y4 y5]
  generalize fM5_1 y0 y1 y2 y3 y4 y5 = f1
  generalize fM5_2 y0 y1 y2 y3 y4 y5 = f2
  generalize fM5_3 y0 y1 y2 y3 y4 y5 = f3
  generalize fM5_4 y0 y1 y2 y3 y4 y5 = f4
  by_cases q1 : f1 = 0 <;> by_cases q2 : f2 = 0 <;> by_cases q3 : f3 = 0 <;> by_cases q4 : f4 = 0 <;> simp [q1, q2, q3, q4] <;> rfl
theorem own_ent6_4 {y0 y1 y2 y3 y4 y5 : Int32} : ¬ (fE4 ((ofL [y0, y1, y2, y3, y4, y5]).getD 4 9).toInt32 y0 y1 y2 y3 y4 y5 = 0) := by
  rw [key6_4]; unfold fE4; rw [if_pos rfl]; decide
theorem bm6_6_1 (y0 y1 y2 y3 y4 y5 : Int32) : brd (eqAt [y0, y1, y2, y3, y4, y5]) 6 1 = !(decide (fM6_1 y0 y1 y2 y3 y4 y5 = 0)) := by
  have e : brd (eqAt [y0, y1, y2, y3, y4, y5]) 6 1 = ((y0 == y5)) := by simp [brd, eqAt, List.range_succ, Bool.and_assoc]
  rw [e, show (y0 == y5) = decide (y0 = y5) from rfl]; unfold fM6_1
  by_cases q0 : y0 = y5
  case neg => rw [if_neg q0, decide_eq_false q0]; simp
  rw [if_pos q0, decide_eq_true q0]
  rfl
theorem bm6_6_2 (y0 y1 y2 y3 y4 y5 : Int32) : brd (eqAt [y0, y1, y2, y3, y4, y5]) 6 2 = !(decide (fM6_2 y0 y1 y2 y3 y4 y5 = 0)) := by
  have e : brd (eqAt [y0, y1, y2, y3, y4, y5]) 6 2 = ((y0 == y4) && (y1 == y5)) := by simp [brd, eqAt, List.range_succ, Bool.and_assoc]
  rw [e, show (y0 == y4) = decide (y0 = y4) from rfl, show (y1 == y5) = decide (y1 = y5) from rfl]; unfold fM6_2
  by_cases q0 : y0 = y4
  case neg => rw [if_neg q0, decide_eq_false q0]; simp
  rw [if_pos q0, decide_eq_true q0]
  by_cases q1 : y1 = y5
  case neg => rw [if_neg q1, decide_eq_false q1]; simp
  rw [if_pos q1, decide_eq_true q1]
  rfl
theorem bm6_6_3 (y0 y1 y2 y3 y4 y5 : Int32) : brd (eqAt [y0, y1, y2, y3, y4, y5]) 6 3 = !(decide (fM6_3 y0 y1 y2 y3 y4 y5 = 0)) := by
  have e : brd (eqAt [y0, y1, y2, y3, y4, y5]) 6 3 = ((y0 == y3) && (y1 == y4) && (y2 == y5)) := by simp [brd, eqAt, List.range_succ, Bool.and_assoc]
  rw [e, show (y0 == y3) = decide (y0 = y3) from rfl, show (y1 == y4) = decide (y1 = y4) from rfl, show (y2 == y5) = decide (y2 = y5) from rfl]; unfold fM6_3
  by_cases q0 : y0 = y3
  case neg => rw [if_neg q0, decide_eq_false q0]; simp
  rw [if_pos q0, decide_eq_true q0]
  by_cases q1 : y1 = y4
  case neg => rw [if_neg q1, decide_eq_false q1]; simp
  rw [if_pos q1, decide_eq_true q1]
  by_cases q2 : y2 = y5
  case neg => rw [if_neg q2, decide_eq_false q2]; simp
  rw [if_pos q2, decide_eq_true q2]
  rfl
theorem bm6_6_4 (y0 y1 y2 y3 y4 y5 : Int32) : brd (eqAt [y0, y1, y2, y3, y4, y5]) 6 4 = !(decide (fM6_4 y0 y1 y2 y3 y4 y5 = 0)) := by
  have e : brd (eqAt [y0, y1, y2, y3, y4, y5]) 6 4 = ((y0 == y2) && (y1 == y3) && (y2 == y4) && (y3 == y5)) := by simp [brd, eqAt, List.range_succ, Bool.and_assoc]
  rw [e, show (y0 == y2) = decide (y0 = y2) from rfl, show (y1 == y3) = decide (y1 = y3) from rfl, show (y2 == y4) = decide (y2 = y4) from rfl, show (y3 == y5) = decide (y3 = y5) from rfl]; unfold fM6_4
  by_cases q0 : y0 = y2
  case neg => rw [if_neg q0, decide_eq_false q0]; simp
  rw [if_pos q0, decide_eq_true q0]
  by_cases q1 : y1 = y3
  case neg => rw [if_neg q1, decide_eq_false q1]; simp
  rw [if_pos q1, decide_eq_true q1]
  by_cases q2 : y2 = y4
  case neg => rw [if_neg q2, decide_eq_false q2]; simp
  rw [if_pos q2, decide_eq_true q2]
  by_cases q3 : y3 = y5
  case neg => rw [if_neg q3, decide_eq_false q3]; simp
  rw [if_pos q3, decide_eq_true q3]
  rfl
theorem bm6_6_5 (y0 y1 y2 y3 y4 y5 : Int32) : brd (eqAt [y0, y1, y2, y3, y4, y5]) 6 5 = !(decide (fM6_5 y0 y1 y2 y3 y4 y5 = 0)) := by
  have e : brd (eqAt [y0, y1, y2, y3, y4, y5]) 6 5 = ((y0 == y1) && (y1 == y2) && (y2 == y3) && (y3 == y4) && (y4 == y5)) := by simp [brd, eqAt, List.range_succ, Bool.and_assoc]
  rw [e, show (y0 == y1) = decide (y0 = y1) from rfl, show (y1 == y2) = decide (y1 = y2) from rfl, show (y2 == y3) = decide (y2 = y3) from rfl, show (y3 == y4) = decide (y3 = y4) from rfl, show (y4 == y5) = decide (y4 = y5) from rfl]; unfold fM6_5
  by_cases q0 : y0 = y1
  case neg => rw [if_neg q0, decide_eq_false q0]; simp
  rw [if_pos q0, decide_eq_true q0]
  by_cases q1 : y1 = y2
  case neg => rw [if_neg q1, decide_eq_false q1]; simp
  rw [if_pos q1, decide_eq_true q1]
  by_cases q2 : y2 = y3
  case neg => rw [if_neg q2, decide_eq_false q2]; simp
  rw [if_pos q2, decide_eq_true q2]
  by_cases q3 : y3 = y4
  case neg => rw [if_neg q3, decide_eq_false q3]; simp
  rw [if_pos q3, decide_eq_true q3]
  by_cases q4 : y4 = y5
  case neg => rw [if_neg q4, decide_eq_false q4]; simp
  rw [if_pos q4, decide_eq_true q4]
  rfl
theorem key6_5 (y0 y1 y2 y3 y4 y5 : Int32) : ((ofL [y0, y1, y2, y3, y4, y5]).getD 5 9).toInt32 = fB6 y0 y1 y2 y3 y4 y5 := by
  rw [bord_ok6 y0 y1 y2 y3 y4 y5 5 (by decide)]
  show (bordE (eqAt [y0, y1, y2, y3, y4, y5]) 6).toInt32 = _
  unfold bordE fB6
  simp only [bm6_6_1 y0 y1 y2 y3 y4 y5, bm6_6_2 y0 y1 y2 y3 y4 y5, bm6_6_3 y0 y1 y2 y3 y4 y5, bm6_6_4 y0 y1 y2 y3 y4 y5, bm6_6_5 y0 y1 y2 y3 y4 y5]
  generalize fM6_1 y0 y1 y2 y3 y4 y5 = f1
  generalize fM6_2 y0 y1 y2 y3 y4 y5 = f2
  generalize fM6_3 y0 y1 y2 y3 y4 y5 = f3
  generalize fM6_4 y0 y1 y2 y3 y4 y5 = f4
  generalize fM6_5 y0 y1 y2 y3 y4 y5 = f5
  by_cases q1 : f1 = 0 <;> by_cases q2 : f2 = 0 <;> by_cases q3 : f3 = 0 <;> by_cases q4 : f4 = 0 <;> by_cases q5 : f5 = 0 <;> simp [q1, q2, q3, q4, q5] <;> rfl
theorem own_ent6_5 {y0 y1 y2 y3 y4 y5 : Int32} : ¬ (fE5 ((ofL [y0, y1, y2, y3, y4, y5]).getD 5 9).toInt32 y0 y1 y2 y3 y4 y5 = 0) := by
  rw [key6_5]; unfold fE5; rw [if_pos rfl]; decide

theorem pd2 : parseMethodDescriptor "(IIIII)C" = some ⟨[.int, .int, .int, .int, .int], some .char⟩ := by decide +kernel
theorem pd3 : parseMethodDescriptor "([C)[I" = some ⟨[(.array .char)], some (.array .int)⟩ := by decide +kernel
theorem pd4 : parseMethodDescriptor "([II[CI)Z" = some ⟨[(.array .int), .int, (.array .char), .int], some .boolean⟩ := by decide +kernel
theorem pn5 : plainFor (⟨"com/example/idxof/idxof/FailureFunctionOfPinLaw", "law", "(IIIII)Z"⟩ : MethodName) = true := by first | exact plainFor_of_name (by simp [plainName, overriddenIn]; done) | decide +kernel
theorem ef0 (m : MethodId) (p0 : Int32) (p1 : Int32) (p2 : Int32) (p3 : Int32) (p4 : Int32) : entryFrame m #[(.int p0), (.int p1), (.int p2), (.int p3), (.int p4)] maxLocals = mkF m 0 #[.val (.int p0), .val (.int p1), .val (.int p2), .val (.int p3), .val (.int p4), .unset, .unset, .unset, .unset] [] := by first | (simp [entryFrame, mkF, argsToLocals, Value.category, maxLocals]; done) | rfl
set_option maxRecDepth 65536 in
set_option maxHeartbeats 40000000 in
theorem rm0 (l : Launch) (Z : State) (a0 : Array Value) (hw : ∀ d ∈ tables_1, d.before a0 Z = true) (p0 : Int32) (p1 : Int32) (p2 : Int32) (p3 : Int32) (p4 : Int32) (h0 : Heap) (n0 : Nat)  (O0 : Own.Owns n0 h0 ([]))  : Own.Does l x code maxLocals ret tables_1 room_1 Z #[(.int p0), (.int p1), (.int p2), (.int p3), (.int p4)] h0 n0 (fun v _ => v = some (.int 1)) := by
  refine Own.doesOf pn5 ?_
  intro p e s m below meth c hx hby hml hret hlk hown hnm hZ
  replace hml : c.maxLocals = 9 := hml
  replace hown : s.vm.findClass "com/example/idxof/idxof/FailureFunctionOfPinLaw" = some m.cls := hown
  replace hret : meth.sig.returnType = (some .boolean) := hret
  refine Own.Goes.cast (ef0 m p0 p1 p2 p3 p4) ?_
  refine Own.iload hx p4 (hb hby at_0) rfl rfl ?_
  refine Own.ldc hx hZ hown (2147483647 : Int32) (hb hby at_2) rfl (hw _ (List.mem_of_getElem? (i := 0) rfl)) ?_
  refine Own.iand hx (hb hby at_4) rfl ?_
  refine Own.bipush hx (7 : Int32) (hb hby at_5) rfl (by decide) ?_
  refine Own.irem hx (hb hby at_7) rfl (by decide) ?_
  obtain ⟨nn, h_nn⟩ : ∃ z : Int32, z = ((p4 &&& (2147483647 : Int32)) % (7 : Int32)) := ⟨_, rfl⟩
  refine Own.istore hx nn h_nn #[.val (.int p0), .val (.int p1), .val (.int p2), .val (.int p3), .val (.int p4), .val (.int nn), .unset, .unset, .unset] (hb hby at_8) rfl rfl ?_
  refine Own.bipush hx (6 : Int32) (hb hby at_10) rfl (by decide) ?_
  refine Own.newarr hx hZ O0 (aty := .char) (hw _ (List.mem_of_getElem? (i := 1) rfl)) 6 (by decide) [(.int (0 : Int32)), (.int (0 : Int32)), (.int (0 : Int32)), (.int (0 : Int32)), (.int (0 : Int32)), (.int (0 : Int32))] rfl rfl (cap := 6) (by decide) (by decide) (k' := 1) (n' := 6) rfl rfl (by decide) (by decide) (hb hby at_12) (pc' := 14) rfl ?_
  intro a1 h2 O3
  refine Own.astore hx #[.val (.int p0), .val (.int p1), .val (.int p2), .val (.int p3), .val (.int p4), .val (.int nn), .val (.ref a1), .unset, .unset] (hb hby at_14) rfl rfl rfl ?_
  refine Own.aload hx (.ref a1) (hb hby at_16) rfl rfl rfl ?_
  refine Own.iconst hx (0 : Int32) (hb hby at_18) rfl (by decide) ?_
  refine Own.iloadN hx p0 (hb hby at_19) rfl rfl ?_
  refine Own.iloadN hx p1 (hb hby at_20) rfl rfl ?_
  refine Own.iloadN hx p2 (hb hby at_21) rfl rfl ?_
  refine Own.iloadN hx p3 (hb hby at_22) rfl rfl ?_
  refine Own.iconst hx (0 : Int32) (hb hby at_23) rfl (by decide) ?_
  refine Own.callS hx hZ hown (hw _ (List.mem_of_getElem? (i := 2) rfl)) (hw _ (List.mem_of_getElem? (i := 3) rfl)) (hw _ (List.mem_of_getElem? (i := 4) rfl)) (hw _ (List.mem_of_getElem? (i := 5) rfl)) (by decide) pd2 (argsL := [(.int p0), (.int p1), (.int p2), (.int p3), (.int (0 : Int32))]) (rest := [(.int (0 : Int32)), (.ref a1)]) rfl (W := 2) (Nat.le_of_eq rfl) (rm := ({ frames := 0, cells := 0, slots := 0, locals := 0 } : Room)) (by decide) (by decide) (by decide) (by decide) (k' := 1) (n' := 6) rfl rfl (by rw [hml]; rfl) [(.int (0 : Int32)), (.int p3), (.int p2), (.int p1), (.int p0), (.int (0 : Int32)), (.ref a1)] rfl (hb hby at_24) (pc' := 27) rfl (rm1 l Z a0 hw p0 p1 p2 p3 (0 : Int32) h2 n0) ?_
  rintro _ h' ⟨rfl, eh⟩
  rw [eh]; clear eh h'
  show Own.Goes _ _ _ _ _ _ _ _ _ _ _ _ _ _ _ _ _ (mkF m 27 #[.val (.int p0), .val (.int p1), .val (.int p2), .val (.int p3), .val (.int p4), .val (.int nn), .val (.ref a1), .unset, .unset] [(.int (nar .char (fPick p0 p1 p2 p3 (0 : Int32)))), (.int (0 : Int32)), (.ref a1)])
  obtain ⟨y0, h_y0⟩ : ∃ z : Int32, z = (nar .char (nar .char (fPick p0 p1 p2 p3 (0 : Int32)))) := ⟨_, rfl⟩
  refine Own.castore hx hZ O3 0 0 rfl (by decide) (by exact (show 0 < 6 by decide)) ((a1, Own.ArrC Z .char [(.int y0), (.int (0 : Int32)), (.int (0 : Int32)), (.int (0 : Int32)), (.int (0 : Int32)), (.int (0 : Int32))]) :: []) (by rw [h_y0]; rfl) (hb hby at_27) rfl ?_
  intro h4 O5
  refine Own.aload hx (.ref a1) (hb hby at_28) rfl rfl rfl ?_
  refine Own.iconst hx (1 : Int32) (hb hby at_30) rfl (by decide) ?_
  refine Own.iloadN hx p0 (hb hby at_31) rfl rfl ?_
  refine Own.iloadN hx p1 (hb hby at_32) rfl rfl ?_
  refine Own.iloadN hx p2 (hb hby at_33) rfl rfl ?_
  refine Own.iloadN hx p3 (hb hby at_34) rfl rfl ?_
  refine Own.iconst hx (1 : Int32) (hb hby at_35) rfl (by decide) ?_
  refine Own.callS hx hZ hown (hw _ (List.mem_of_getElem? (i := 2) rfl)) (hw _ (List.mem_of_getElem? (i := 3) rfl)) (hw _ (List.mem_of_getElem? (i := 4) rfl)) (hw _ (List.mem_of_getElem? (i := 5) rfl)) (by decide) pd2 (argsL := [(.int p0), (.int p1), (.int p2), (.int p3), (.int (1 : Int32))]) (rest := [(.int (1 : Int32)), (.ref a1)]) rfl (W := 2) (Nat.le_of_eq rfl) (rm := ({ frames := 0, cells := 0, slots := 0, locals := 0 } : Room)) (by decide) (by decide) (by decide) (by decide) (k' := 1) (n' := 6) rfl rfl (by rw [hml]; rfl) [(.int (1 : Int32)), (.int p3), (.int p2), (.int p1), (.int p0), (.int (1 : Int32)), (.ref a1)] rfl (hb hby at_36) (pc' := 39) rfl (rm1 l Z a0 hw p0 p1 p2 p3 (1 : Int32) h4 n0) ?_
  rintro _ h' ⟨rfl, eh⟩
  rw [eh]; clear eh h'
  show Own.Goes _ _ _ _ _ _ _ _ _ _ _ _ _ _ _ _ _ (mkF m 39 #[.val (.int p0), .val (.int p1), .val (.int p2), .val (.int p3), .val (.int p4), .val (.int nn), .val (.ref a1), .unset, .unset] [(.int (nar .char (fPick p0 p1 p2 p3 (1 : Int32)))), (.int (1 : Int32)), (.ref a1)])
  obtain ⟨y1, h_y1⟩ : ∃ z : Int32, z = (nar .char (nar .char (fPick p0 p1 p2 p3 (1 : Int32)))) := ⟨_, rfl⟩
  refine Own.castore hx hZ O5 0 1 rfl (by decide) (by exact (show 1 < 6 by decide)) ((a1, Own.ArrC Z .char [(.int y0), (.int y1), (.int (0 : Int32)), (.int (0 : Int32)), (.int (0 : Int32)), (.int (0 : Int32))]) :: []) (by rw [h_y1]; rfl) (hb hby at_39) rfl ?_
  intro h6 O7
  refine Own.aload hx (.ref a1) (hb hby at_40) rfl rfl rfl ?_
  refine Own.iconst hx (2 : Int32) (hb hby at_42) rfl (by decide) ?_
  refine Own.iloadN hx p0 (hb hby at_43) rfl rfl ?_
  refine Own.iloadN hx p1 (hb hby at_44) rfl rfl ?_
  refine Own.iloadN hx p2 (hb hby at_45) rfl rfl ?_
  refine Own.iloadN hx p3 (hb hby at_46) rfl rfl ?_
  refine Own.iconst hx (2 : Int32) (hb hby at_47) rfl (by decide) ?_
  refine Own.callS hx hZ hown (hw _ (List.mem_of_getElem? (i := 2) rfl)) (hw _ (List.mem_of_getElem? (i := 3) rfl)) (hw _ (List.mem_of_getElem? (i := 4) rfl)) (hw _ (List.mem_of_getElem? (i := 5) rfl)) (by decide) pd2 (argsL := [(.int p0), (.int p1), (.int p2), (.int p3), (.int (2 : Int32))]) (rest := [(.int (2 : Int32)), (.ref a1)]) rfl (W := 2) (Nat.le_of_eq rfl) (rm := ({ frames := 0, cells := 0, slots := 0, locals := 0 } : Room)) (by decide) (by decide) (by decide) (by decide) (k' := 1) (n' := 6) rfl rfl (by rw [hml]; rfl) [(.int (2 : Int32)), (.int p3), (.int p2), (.int p1), (.int p0), (.int (2 : Int32)), (.ref a1)] rfl (hb hby at_48) (pc' := 51) rfl (rm1 l Z a0 hw p0 p1 p2 p3 (2 : Int32) h6 n0) ?_
  rintro _ h' ⟨rfl, eh⟩
  rw [eh]; clear eh h'
  show Own.Goes _ _ _ _ _ _ _ _ _ _ _ _ _ _ _ _ _ (mkF m 51 #[.val (.int p0), .val (.int p1), .val (.int p2), .val (.int p3), .val (.int p4), .val (.int nn), .val (.ref a1), .unset, .unset] [(.int (nar .char (fPick p0 p1 p2 p3 (2 : Int32)))), (.int (2 : Int32)), (.ref a1)])
  obtain ⟨y2, h_y2⟩ : ∃ z : Int32, z = (nar .char (nar .char (fPick p0 p1 p2 p3 (2 : Int32)))) := ⟨_, rfl⟩
  refine Own.castore hx hZ O7 0 2 rfl (by decide) (by exact (show 2 < 6 by decide)) ((a1, Own.ArrC Z .char [(.int y0), (.int y1), (.int y2), (.int (0 : Int32)), (.int (0 : Int32)), (.int (0 : Int32))]) :: []) (by rw [h_y2]; rfl) (hb hby at_51) rfl ?_
  intro h8 O9
  refine Own.aload hx (.ref a1) (hb hby at_52) rfl rfl rfl ?_
  refine Own.iconst hx (3 : Int32) (hb hby at_54) rfl (by decide) ?_
  refine Own.iloadN hx p0 (hb hby at_55) rfl rfl ?_
  refine Own.iloadN hx p1 (hb hby at_56) rfl rfl ?_
  refine Own.iloadN hx p2 (hb hby at_57) rfl rfl ?_
  refine Own.iloadN hx p3 (hb hby at_58) rfl rfl ?_
  refine Own.iconst hx (3 : Int32) (hb hby at_59) rfl (by decide) ?_
  refine Own.callS hx hZ hown (hw _ (List.mem_of_getElem? (i := 2) rfl)) (hw _ (List.mem_of_getElem? (i := 3) rfl)) (hw _ (List.mem_of_getElem? (i := 4) rfl)) (hw _ (List.mem_of_getElem? (i := 5) rfl)) (by decide) pd2 (argsL := [(.int p0), (.int p1), (.int p2), (.int p3), (.int (3 : Int32))]) (rest := [(.int (3 : Int32)), (.ref a1)]) rfl (W := 2) (Nat.le_of_eq rfl) (rm := ({ frames := 0, cells := 0, slots := 0, locals := 0 } : Room)) (by decide) (by decide) (by decide) (by decide) (k' := 1) (n' := 6) rfl rfl (by rw [hml]; rfl) [(.int (3 : Int32)), (.int p3), (.int p2), (.int p1), (.int p0), (.int (3 : Int32)), (.ref a1)] rfl (hb hby at_60) (pc' := 63) rfl (rm1 l Z a0 hw p0 p1 p2 p3 (3 : Int32) h8 n0) ?_
  rintro _ h' ⟨rfl, eh⟩
  rw [eh]; clear eh h'
  show Own.Goes _ _ _ _ _ _ _ _ _ _ _ _ _ _ _ _ _ (mkF m 63 #[.val (.int p0), .val (.int p1), .val (.int p2), .val (.int p3), .val (.int p4), .val (.int nn), .val (.ref a1), .unset, .unset] [(.int (nar .char (fPick p0 p1 p2 p3 (3 : Int32)))), (.int (3 : Int32)), (.ref a1)])
  obtain ⟨y3, h_y3⟩ : ∃ z : Int32, z = (nar .char (nar .char (fPick p0 p1 p2 p3 (3 : Int32)))) := ⟨_, rfl⟩
  refine Own.castore hx hZ O9 0 3 rfl (by decide) (by exact (show 3 < 6 by decide)) ((a1, Own.ArrC Z .char [(.int y0), (.int y1), (.int y2), (.int y3), (.int (0 : Int32)), (.int (0 : Int32))]) :: []) (by rw [h_y3]; rfl) (hb hby at_63) rfl ?_
  intro h10 O11
  refine Own.aload hx (.ref a1) (hb hby at_64) rfl rfl rfl ?_
  refine Own.iconst hx (4 : Int32) (hb hby at_66) rfl (by decide) ?_
  refine Own.iloadN hx p0 (hb hby at_67) rfl rfl ?_
  refine Own.iloadN hx p1 (hb hby at_68) rfl rfl ?_
  refine Own.iloadN hx p2 (hb hby at_69) rfl rfl ?_
  refine Own.iloadN hx p3 (hb hby at_70) rfl rfl ?_
  refine Own.iconst hx (4 : Int32) (hb hby at_71) rfl (by decide) ?_
  refine Own.callS hx hZ hown (hw _ (List.mem_of_getElem? (i := 2) rfl)) (hw _ (List.mem_of_getElem? (i := 3) rfl)) (hw _ (List.mem_of_getElem? (i := 4) rfl)) (hw _ (List.mem_of_getElem? (i := 5) rfl)) (by decide) pd2 (argsL := [(.int p0), (.int p1), (.int p2), (.int p3), (.int (4 : Int32))]) (rest := [(.int (4 : Int32)), (.ref a1)]) rfl (W := 2) (Nat.le_of_eq rfl) (rm := ({ frames := 0, cells := 0, slots := 0, locals := 0 } : Room)) (by decide) (by decide) (by decide) (by decide) (k' := 1) (n' := 6) rfl rfl (by rw [hml]; rfl) [(.int (4 : Int32)), (.int p3), (.int p2), (.int p1), (.int p0), (.int (4 : Int32)), (.ref a1)] rfl (hb hby at_72) (pc' := 75) rfl (rm1 l Z a0 hw p0 p1 p2 p3 (4 : Int32) h10 n0) ?_
  rintro _ h' ⟨rfl, eh⟩
  rw [eh]; clear eh h'
  show Own.Goes _ _ _ _ _ _ _ _ _ _ _ _ _ _ _ _ _ (mkF m 75 #[.val (.int p0), .val (.int p1), .val (.int p2), .val (.int p3), .val (.int p4), .val (.int nn), .val (.ref a1), .unset, .unset] [(.int (nar .char (fPick p0 p1 p2 p3 (4 : Int32)))), (.int (4 : Int32)), (.ref a1)])
  obtain ⟨y4, h_y4⟩ : ∃ z : Int32, z = (nar .char (nar .char (fPick p0 p1 p2 p3 (4 : Int32)))) := ⟨_, rfl⟩
  refine Own.castore hx hZ O11 0 4 rfl (by decide) (by exact (show 4 < 6 by decide)) ((a1, Own.ArrC Z .char [(.int y0), (.int y1), (.int y2), (.int y3), (.int y4), (.int (0 : Int32))]) :: []) (by rw [h_y4]; rfl) (hb hby at_75) rfl ?_
  intro h12 O13
  refine Own.aload hx (.ref a1) (hb hby at_76) rfl rfl rfl ?_
  refine Own.iconst hx (5 : Int32) (hb hby at_78) rfl (by decide) ?_
  refine Own.iloadN hx p0 (hb hby at_79) rfl rfl ?_
  refine Own.iloadN hx p1 (hb hby at_80) rfl rfl ?_
  refine Own.iloadN hx p2 (hb hby at_81) rfl rfl ?_
  refine Own.iloadN hx p3 (hb hby at_82) rfl rfl ?_
  refine Own.iconst hx (5 : Int32) (hb hby at_83) rfl (by decide) ?_
  refine Own.callS hx hZ hown (hw _ (List.mem_of_getElem? (i := 2) rfl)) (hw _ (List.mem_of_getElem? (i := 3) rfl)) (hw _ (List.mem_of_getElem? (i := 4) rfl)) (hw _ (List.mem_of_getElem? (i := 5) rfl)) (by decide) pd2 (argsL := [(.int p0), (.int p1), (.int p2), (.int p3), (.int (5 : Int32))]) (rest := [(.int (5 : Int32)), (.ref a1)]) rfl (W := 2) (Nat.le_of_eq rfl) (rm := ({ frames := 0, cells := 0, slots := 0, locals := 0 } : Room)) (by decide) (by decide) (by decide) (by decide) (k' := 1) (n' := 6) rfl rfl (by rw [hml]; rfl) [(.int (5 : Int32)), (.int p3), (.int p2), (.int p1), (.int p0), (.int (5 : Int32)), (.ref a1)] rfl (hb hby at_84) (pc' := 87) rfl (rm1 l Z a0 hw p0 p1 p2 p3 (5 : Int32) h12 n0) ?_
  rintro _ h' ⟨rfl, eh⟩
  rw [eh]; clear eh h'
  show Own.Goes _ _ _ _ _ _ _ _ _ _ _ _ _ _ _ _ _ (mkF m 87 #[.val (.int p0), .val (.int p1), .val (.int p2), .val (.int p3), .val (.int p4), .val (.int nn), .val (.ref a1), .unset, .unset] [(.int (nar .char (fPick p0 p1 p2 p3 (5 : Int32)))), (.int (5 : Int32)), (.ref a1)])
  obtain ⟨y5, h_y5⟩ : ∃ z : Int32, z = (nar .char (nar .char (fPick p0 p1 p2 p3 (5 : Int32)))) := ⟨_, rfl⟩
  refine Own.castore hx hZ O13 0 5 rfl (by decide) (by exact (show 5 < 6 by decide)) ((a1, Own.ArrC Z .char [(.int y0), (.int y1), (.int y2), (.int y3), (.int y4), (.int y5)]) :: []) (by rw [h_y5]; rfl) (hb hby at_87) rfl ?_
  intro h14 O15
  rcases own_n7 h_nn with q | q | q | q | q | q | q
  · subst q
    refine Own.iload hx (0 : Int32) (hb hby at_88) rfl rfl ?_
    refine Own.newarr hx hZ O15 (aty := .char) (hw _ (List.mem_of_getElem? (i := 1) rfl)) 0 (by decide) [] rfl rfl (cap := 0) (by decide) (by decide) (k' := 2) (n' := 6) rfl rfl (by decide) (by decide) (hb hby at_90) (pc' := 92) rfl ?_
    intro a16 h17 O18
    refine Own.astore hx #[.val (.int p0), .val (.int p1), .val (.int p2), .val (.int p3), .val (.int p4), .val (.int (0 : Int32)), .val (.ref a1), .val (.ref a16), .unset] (hb hby at_92) rfl rfl rfl ?_
    refine Own.iload hx (0 : Int32) (hb hby at_94) rfl rfl ?_
    have hc19 : ¬ ((0 : Int32) < (0 : Int32)) := by decide
    refine Own.ifFn hx (Own.z_le (0 : Int32)) (hb hby at_96) (pcN := 99) rfl (by decide) (pcT := 107) rfl (fun _ => ?_) (fun q => absurd q hc19)
    refine Own.iload hx (0 : Int32) (hb hby at_107) rfl rfl ?_
    refine Own.iconst hx (1 : Int32) (hb hby at_109) rfl (by decide) ?_
    have hc21 : ¬ ((1 : Int32) < (0 : Int32)) := by decide
    refine Own.icmpFn hx (Own.q_le (0 : Int32) (1 : Int32)) (hb hby at_110) (pcN := 113) rfl (by decide) (pcT := 121) rfl (fun _ => ?_) (fun q => absurd q hc21)
    refine Own.iload hx (0 : Int32) (hb hby at_121) rfl rfl ?_
    refine Own.iconst hx (2 : Int32) (hb hby at_123) rfl (by decide) ?_
    have hc23 : ¬ ((2 : Int32) < (0 : Int32)) := by decide
    refine Own.icmpFn hx (Own.q_le (0 : Int32) (2 : Int32)) (hb hby at_124) (pcN := 127) rfl (by decide) (pcT := 135) rfl (fun _ => ?_) (fun q => absurd q hc23)
    refine Own.iload hx (0 : Int32) (hb hby at_135) rfl rfl ?_
    refine Own.iconst hx (3 : Int32) (hb hby at_137) rfl (by decide) ?_
    have hc25 : ¬ ((3 : Int32) < (0 : Int32)) := by decide
    refine Own.icmpFn hx (Own.q_le (0 : Int32) (3 : Int32)) (hb hby at_138) (pcN := 141) rfl (by decide) (pcT := 149) rfl (fun _ => ?_) (fun q => absurd q hc25)
    refine Own.iload hx (0 : Int32) (hb hby at_149) rfl rfl ?_
    refine Own.iconst hx (4 : Int32) (hb hby at_151) rfl (by decide) ?_
    have hc27 : ¬ ((4 : Int32) < (0 : Int32)) := by decide
    refine Own.icmpFn hx (Own.q_le (0 : Int32) (4 : Int32)) (hb hby at_152) (pcN := 155) rfl (by decide) (pcT := 163) rfl (fun _ => ?_) (fun q => absurd q hc27)
    refine Own.iload hx (0 : Int32) (hb hby at_163) rfl rfl ?_
    refine Own.iconst hx (5 : Int32) (hb hby at_165) rfl (by decide) ?_
    have hc29 : ¬ ((5 : Int32) < (0 : Int32)) := by decide
    refine Own.icmpFn hx (Own.q_le (0 : Int32) (5 : Int32)) (hb hby at_166) (pcN := 169) rfl (by decide) (pcT := 177) rfl (fun _ => ?_) (fun q => absurd q hc29)
    refine Own.aload hx (.ref a16) (hb hby at_177) rfl rfl rfl ?_
    refine Own.callS hx hZ hown (hw _ (List.mem_of_getElem? (i := 6) rfl)) (hw _ (List.mem_of_getElem? (i := 7) rfl)) (hw _ (List.mem_of_getElem? (i := 8) rfl)) (hw _ (List.mem_of_getElem? (i := 9) rfl)) (by decide) pd3 (argsL := [(.ref a16)]) (rest := []) rfl (W := 0) (Nat.le_of_eq rfl) (rm := ({ frames := 0, cells := 1, slots := 6, locals := 0 } : Room)) (by decide) (by decide) (by decide) (by decide) (k' := 3) (n' := 12) rfl rfl (by rw [hml]; rfl) [(.ref a16)] rfl (hb hby at_179) (pc' := 182) rfl (rm2 l Z a0 hw a16 h17 n0 [] (by exact (show 0 ≤ 6 by decide)) ((a1, Own.ArrC Z .char [(.int y0), (.int y1), (.int y2), (.int y3), (.int y4), (.int y5)]) :: []) O18) ?_
    rintro _ h32 ⟨r31, rfl, O33⟩
    show Own.Goes _ _ _ _ _ _ _ _ _ _ _ _ _ _ _ _ _ (mkF m 182 #[.val (.int p0), .val (.int p1), .val (.int p2), .val (.int p3), .val (.int p4), .val (.int (0 : Int32)), .val (.ref a1), .val (.ref a16), .unset] [(.ref r31)])
    refine Own.astore hx #[.val (.int p0), .val (.int p1), .val (.int p2), .val (.int p3), .val (.int p4), .val (.int (0 : Int32)), .val (.ref a1), .val (.ref a16), .val (.ref r31)] (hb hby at_182) rfl rfl rfl ?_
    refine Own.aload hx (.ref r31) (hb hby at_184) rfl rfl rfl ?_
    refine Own.arrlen hx hZ O33 0 rfl (0 : Int32) (by rw [List.length_map, of_len]; rfl) (hb hby at_186) rfl ?_
    refine Own.iload hx (0 : Int32) (hb hby at_187) rfl rfl ?_
    have hc34 : (0 : Int32) = (0 : Int32) := by decide
    refine Own.icmpF hx (Own.q_eq (0 : Int32) (0 : Int32)) (hb hby at_189) (pcN := 192) rfl (by decide) (pcT := 194) rfl (fun _ => ?_) (fun q => absurd hc34 q)
    refine Own.aload hx (.ref r31) (hb hby at_194) rfl rfl rfl ?_
    refine Own.iload hx (0 : Int32) (hb hby at_196) rfl rfl ?_
    refine Own.aload hx (.ref a1) (hb hby at_198) rfl rfl rfl ?_
    refine Own.iconst hx (0 : Int32) (hb hby at_200) rfl (by decide) ?_
    refine Own.callS hx hZ hown (hw _ (List.mem_of_getElem? (i := 11) rfl)) (hw _ (List.mem_of_getElem? (i := 12) rfl)) (hw _ (List.mem_of_getElem? (i := 4) rfl)) (hw _ (List.mem_of_getElem? (i := 13) rfl)) (by decide) pd4 (argsL := [(.ref r31), (.int (0 : Int32)), (.ref a1), (.int (0 : Int32))]) (rest := []) rfl (W := 0) (Nat.le_of_eq rfl) (rm := ({ frames := 0, cells := 0, slots := 0, locals := 0 } : Room)) (by decide) (by decide) (by decide) (by decide) (k' := 3) (n' := 12) rfl rfl (by rw [hml]; rfl) [(.int (0 : Int32)), (.ref a1), (.int (0 : Int32)), (.ref r31)] rfl (hb hby at_201) (pc' := 204) rfl (rm3_a0 l Z a0 hw r31 (0 : Int32) a1 h32 n0 (by decide)) ?_
    rintro _ h' ⟨rfl, eh⟩
    rw [eh]; clear eh h'
    show Own.Goes _ _ _ _ _ _ _ _ _ _ _ _ _ _ _ _ _ (mkF m 204 #[.val (.int p0), .val (.int p1), .val (.int p2), .val (.int p3), .val (.int p4), .val (.int (0 : Int32)), .val (.ref a1), .val (.ref a16), .val (.ref r31)] [(.int (1 : Int32))])
    have hc36 : ¬ ((1 : Int32) = (0 : Int32)) := by decide
    refine Own.ifF hx (Own.z_eq (1 : Int32)) (hb hby at_204) (pcN := 207) rfl (by decide) (pcT := 276) rfl (fun q => absurd q hc36) (fun _ => ?_)
    refine Own.aload hx (.ref r31) (hb hby at_207) rfl rfl rfl ?_
    refine Own.iload hx (0 : Int32) (hb hby at_209) rfl rfl ?_
    refine Own.aload hx (.ref a1) (hb hby at_211) rfl rfl rfl ?_
    refine Own.iconst hx (1 : Int32) (hb hby at_213) rfl (by decide) ?_
    refine Own.callS hx hZ hown (hw _ (List.mem_of_getElem? (i := 11) rfl)) (hw _ (List.mem_of_getElem? (i := 12) rfl)) (hw _ (List.mem_of_getElem? (i := 4) rfl)) (hw _ (List.mem_of_getElem? (i := 13) rfl)) (by decide) pd4 (argsL := [(.ref r31), (.int (0 : Int32)), (.ref a1), (.int (1 : Int32))]) (rest := []) rfl (W := 0) (Nat.le_of_eq rfl) (rm := ({ frames := 0, cells := 0, slots := 0, locals := 0 } : Room)) (by decide) (by decide) (by decide) (by decide) (k' := 3) (n' := 12) rfl rfl (by rw [hml]; rfl) [(.int (1 : Int32)), (.ref a1), (.int (0 : Int32)), (.ref r31)] rfl (hb hby at_214) (pc' := 217) rfl (rm3_a1 l Z a0 hw r31 (0 : Int32) a1 h32 n0 (by decide)) ?_
    rintro _ h' ⟨rfl, eh⟩
    rw [eh]; clear eh h'
    show Own.Goes _ _ _ _ _ _ _ _ _ _ _ _ _ _ _ _ _ (mkF m 217 #[.val (.int p0), .val (.int p1), .val (.int p2), .val (.int p3), .val (.int p4), .val (.int (0 : Int32)), .val (.ref a1), .val (.ref a16), .val (.ref r31)] [(.int (1 : Int32))])
    have hc38 : ¬ ((1 : Int32) = (0 : Int32)) := by decide
    refine Own.ifF hx (Own.z_eq (1 : Int32)) (hb hby at_217) (pcN := 220) rfl (by decide) (pcT := 276) rfl (fun q => absurd q hc38) (fun _ => ?_)
    refine Own.aload hx (.ref r31) (hb hby at_220) rfl rfl rfl ?_
    refine Own.iload hx (0 : Int32) (hb hby at_222) rfl rfl ?_
    refine Own.aload hx (.ref a1) (hb hby at_224) rfl rfl rfl ?_
    refine Own.iconst hx (2 : Int32) (hb hby at_226) rfl (by decide) ?_
    refine Own.callS hx hZ hown (hw _ (List.mem_of_getElem? (i := 11) rfl)) (hw _ (List.mem_of_getElem? (i := 12) rfl)) (hw _ (List.mem_of_getElem? (i := 4) rfl)) (hw _ (List.mem_of_getElem? (i := 13) rfl)) (by decide) pd4 (argsL := [(.ref r31), (.int (0 : Int32)), (.ref a1), (.int (2 : Int32))]) (rest := []) rfl (W := 0) (Nat.le_of_eq rfl) (rm := ({ frames := 0, cells := 0, slots := 0, locals := 0 } : Room)) (by decide) (by decide) (by decide) (by decide) (k' := 3) (n' := 12) rfl rfl (by rw [hml]; rfl) [(.int (2 : Int32)), (.ref a1), (.int (0 : Int32)), (.ref r31)] rfl (hb hby at_227) (pc' := 230) rfl (rm3_a2 l Z a0 hw r31 (0 : Int32) a1 h32 n0 (by decide)) ?_
    rintro _ h' ⟨rfl, eh⟩
    rw [eh]; clear eh h'
    show Own.Goes _ _ _ _ _ _ _ _ _ _ _ _ _ _ _ _ _ (mkF m 230 #[.val (.int p0), .val (.int p1), .val (.int p2), .val (.int p3), .val (.int p4), .val (.int (0 : Int32)), .val (.ref a1), .val (.ref a16), .val (.ref r31)] [(.int (1 : Int32))])
    have hc40 : ¬ ((1 : Int32) = (0 : Int32)) := by decide
    refine Own.ifF hx (Own.z_eq (1 : Int32)) (hb hby at_230) (pcN := 233) rfl (by decide) (pcT := 276) rfl (fun q => absurd q hc40) (fun _ => ?_)
    refine Own.aload hx (.ref r31) (hb hby at_233) rfl rfl rfl ?_
    refine Own.iload hx (0 : Int32) (hb hby at_235) rfl rfl ?_
    refine Own.aload hx (.ref a1) (hb hby at_237) rfl rfl rfl ?_
    refine Own.iconst hx (3 : Int32) (hb hby at_239) rfl (by decide) ?_
    refine Own.callS hx hZ hown (hw _ (List.mem_of_getElem? (i := 11) rfl)) (hw _ (List.mem_of_getElem? (i := 12) rfl)) (hw _ (List.mem_of_getElem? (i := 4) rfl)) (hw _ (List.mem_of_getElem? (i := 13) rfl)) (by decide) pd4 (argsL := [(.ref r31), (.int (0 : Int32)), (.ref a1), (.int (3 : Int32))]) (rest := []) rfl (W := 0) (Nat.le_of_eq rfl) (rm := ({ frames := 0, cells := 0, slots := 0, locals := 0 } : Room)) (by decide) (by decide) (by decide) (by decide) (k' := 3) (n' := 12) rfl rfl (by rw [hml]; rfl) [(.int (3 : Int32)), (.ref a1), (.int (0 : Int32)), (.ref r31)] rfl (hb hby at_240) (pc' := 243) rfl (rm3_a3 l Z a0 hw r31 (0 : Int32) a1 h32 n0 (by decide)) ?_
    rintro _ h' ⟨rfl, eh⟩
    rw [eh]; clear eh h'
    show Own.Goes _ _ _ _ _ _ _ _ _ _ _ _ _ _ _ _ _ (mkF m 243 #[.val (.int p0), .val (.int p1), .val (.int p2), .val (.int p3), .val (.int p4), .val (.int (0 : Int32)), .val (.ref a1), .val (.ref a16), .val (.ref r31)] [(.int (1 : Int32))])
    have hc42 : ¬ ((1 : Int32) = (0 : Int32)) := by decide
    refine Own.ifF hx (Own.z_eq (1 : Int32)) (hb hby at_243) (pcN := 246) rfl (by decide) (pcT := 276) rfl (fun q => absurd q hc42) (fun _ => ?_)
    refine Own.aload hx (.ref r31) (hb hby at_246) rfl rfl rfl ?_
    refine Own.iload hx (0 : Int32) (hb hby at_248) rfl rfl ?_
    refine Own.aload hx (.ref a1) (hb hby at_250) rfl rfl rfl ?_
    refine Own.iconst hx (4 : Int32) (hb hby at_252) rfl (by decide) ?_
    refine Own.callS hx hZ hown (hw _ (List.mem_of_getElem? (i := 11) rfl)) (hw _ (List.mem_of_getElem? (i := 12) rfl)) (hw _ (List.mem_of_getElem? (i := 4) rfl)) (hw _ (List.mem_of_getElem? (i := 13) rfl)) (by decide) pd4 (argsL := [(.ref r31), (.int (0 : Int32)), (.ref a1), (.int (4 : Int32))]) (rest := []) rfl (W := 0) (Nat.le_of_eq rfl) (rm := ({ frames := 0, cells := 0, slots := 0, locals := 0 } : Room)) (by decide) (by decide) (by decide) (by decide) (k' := 3) (n' := 12) rfl rfl (by rw [hml]; rfl) [(.int (4 : Int32)), (.ref a1), (.int (0 : Int32)), (.ref r31)] rfl (hb hby at_253) (pc' := 256) rfl (rm3_a4 l Z a0 hw r31 (0 : Int32) a1 h32 n0 (by decide)) ?_
    rintro _ h' ⟨rfl, eh⟩
    rw [eh]; clear eh h'
    show Own.Goes _ _ _ _ _ _ _ _ _ _ _ _ _ _ _ _ _ (mkF m 256 #[.val (.int p0), .val (.int p1), .val (.int p2), .val (.int p3), .val (.int p4), .val (.int (0 : Int32)), .val (.ref a1), .val (.ref a16), .val (.ref r31)] [(.int (1 : Int32))])
    have hc44 : ¬ ((1 : Int32) = (0 : Int32)) := by decide
    refine Own.ifF hx (Own.z_eq (1 : Int32)) (hb hby at_256) (pcN := 259) rfl (by decide) (pcT := 276) rfl (fun q => absurd q hc44) (fun _ => ?_)
    refine Own.aload hx (.ref r31) (hb hby at_259) rfl rfl rfl ?_
    refine Own.iload hx (0 : Int32) (hb hby at_261) rfl rfl ?_
    refine Own.aload hx (.ref a1) (hb hby at_263) rfl rfl rfl ?_
    refine Own.iconst hx (5 : Int32) (hb hby at_265) rfl (by decide) ?_
    refine Own.callS hx hZ hown (hw _ (List.mem_of_getElem? (i := 11) rfl)) (hw _ (List.mem_of_getElem? (i := 12) rfl)) (hw _ (List.mem_of_getElem? (i := 4) rfl)) (hw _ (List.mem_of_getElem? (i := 13) rfl)) (by decide) pd4 (argsL := [(.ref r31), (.int (0 : Int32)), (.ref a1), (.int (5 : Int32))]) (rest := []) rfl (W := 0) (Nat.le_of_eq rfl) (rm := ({ frames := 0, cells := 0, slots := 0, locals := 0 } : Room)) (by decide) (by decide) (by decide) (by decide) (k' := 3) (n' := 12) rfl rfl (by rw [hml]; rfl) [(.int (5 : Int32)), (.ref a1), (.int (0 : Int32)), (.ref r31)] rfl (hb hby at_266) (pc' := 269) rfl (rm3_a5 l Z a0 hw r31 (0 : Int32) a1 h32 n0 (by decide)) ?_
    rintro _ h' ⟨rfl, eh⟩
    rw [eh]; clear eh h'
    show Own.Goes _ _ _ _ _ _ _ _ _ _ _ _ _ _ _ _ _ (mkF m 269 #[.val (.int p0), .val (.int p1), .val (.int p2), .val (.int p3), .val (.int p4), .val (.int (0 : Int32)), .val (.ref a1), .val (.ref a16), .val (.ref r31)] [(.int (1 : Int32))])
    have hc46 : ¬ ((1 : Int32) = (0 : Int32)) := by decide
    refine Own.ifF hx (Own.z_eq (1 : Int32)) (hb hby at_269) (pcN := 272) rfl (by decide) (pcT := 276) rfl (fun q => absurd q hc46) (fun _ => ?_)
    refine Own.iconst hx (1 : Int32) (hb hby at_272) rfl (by decide) ?_
    refine Own.goto hx (hb hby at_273) (by decide) (pc' := 277) rfl ?_
    exact Own.retS hx hret (by simp) hlk (hb hby at_277) (by decide) (by decide) (Own.bool1 rfl)
  · subst q
    refine Own.iload hx (1 : Int32) (hb hby at_88) rfl rfl ?_
    refine Own.newarr hx hZ O15 (aty := .char) (hw _ (List.mem_of_getElem? (i := 1) rfl)) 1 (by decide) [(.int (0 : Int32))] rfl rfl (cap := 1) (by decide) (by decide) (k' := 2) (n' := 7) rfl rfl (by decide) (by decide) (hb hby at_90) (pc' := 92) rfl ?_
    intro a48 h49 O50
    refine Own.astore hx #[.val (.int p0), .val (.int p1), .val (.int p2), .val (.int p3), .val (.int p4), .val (.int (1 : Int32)), .val (.ref a1), .val (.ref a48), .unset] (hb hby at_92) rfl rfl rfl ?_
    refine Own.iload hx (1 : Int32) (hb hby at_94) rfl rfl ?_
    have hc51 : (0 : Int32) < (1 : Int32) := by decide
    refine Own.ifFn hx (Own.z_le (1 : Int32)) (hb hby at_96) (pcN := 99) rfl (by decide) (pcT := 107) rfl (fun q => absurd hc51 q) (fun _ => ?_)
    refine Own.aload hx (.ref a48) (hb hby at_99) rfl rfl rfl ?_
    refine Own.iconst hx (0 : Int32) (hb hby at_101) rfl (by decide) ?_
    refine Own.aload hx (.ref a1) (hb hby at_102) rfl rfl rfl ?_
    refine Own.iconst hx (0 : Int32) (hb hby at_104) rfl (by decide) ?_
    refine Own.caload hx hZ O50 1 0 rfl (by decide) (v := (.int y0)) rfl (hb hby at_105) rfl ?_
    refine Own.castore hx hZ O50 0 0 rfl (by decide) (by exact (show 0 < 1 by decide)) ((a48, Own.ArrC Z .char [(.int y0)]) :: (a1, Own.ArrC Z .char [(.int y0), (.int y1), (.int y2), (.int y3), (.int y4), (.int y5)]) :: []) (by rw [own_idem h_y0]; rfl) (hb hby at_106) rfl ?_
    intro h53 O54
    refine Own.iload hx (1 : Int32) (hb hby at_107) rfl rfl ?_
    refine Own.iconst hx (1 : Int32) (hb hby at_109) rfl (by decide) ?_
    have hc55 : ¬ ((1 : Int32) < (1 : Int32)) := by decide
    refine Own.icmpFn hx (Own.q_le (1 : Int32) (1 : Int32)) (hb hby at_110) (pcN := 113) rfl (by decide) (pcT := 121) rfl (fun _ => ?_) (fun q => absurd q hc55)
    refine Own.iload hx (1 : Int32) (hb hby at_121) rfl rfl ?_
    refine Own.iconst hx (2 : Int32) (hb hby at_123) rfl (by decide) ?_
    have hc57 : ¬ ((2 : Int32) < (1 : Int32)) := by decide
    refine Own.icmpFn hx (Own.q_le (1 : Int32) (2 : Int32)) (hb hby at_124) (pcN := 127) rfl (by decide) (pcT := 135) rfl (fun _ => ?_) (fun q => absurd q hc57)
    refine Own.iload hx (1 : Int32) (hb hby at_135) rfl rfl ?_
    refine Own.iconst hx (3 : Int32) (hb hby at_137) rfl (by decide) ?_
    have hc59 : ¬ ((3 : Int32) < (1 : Int32)) := by decide
    refine Own.icmpFn hx (Own.q_le (1 : Int32) (3 : Int32)) (hb hby at_138) (pcN := 141) rfl (by decide) (pcT := 149) rfl (fun _ => ?_) (fun q => absurd q hc59)
    refine Own.iload hx (1 : Int32) (hb hby at_149) rfl rfl ?_
    refine Own.iconst hx (4 : Int32) (hb hby at_151) rfl (by decide) ?_
    have hc61 : ¬ ((4 : Int32) < (1 : Int32)) := by decide
    refine Own.icmpFn hx (Own.q_le (1 : Int32) (4 : Int32)) (hb hby at_152) (pcN := 155) rfl (by decide) (pcT := 163) rfl (fun _ => ?_) (fun q => absurd q hc61)
    refine Own.iload hx (1 : Int32) (hb hby at_163) rfl rfl ?_
    refine Own.iconst hx (5 : Int32) (hb hby at_165) rfl (by decide) ?_
    have hc63 : ¬ ((5 : Int32) < (1 : Int32)) := by decide
    refine Own.icmpFn hx (Own.q_le (1 : Int32) (5 : Int32)) (hb hby at_166) (pcN := 169) rfl (by decide) (pcT := 177) rfl (fun _ => ?_) (fun q => absurd q hc63)
    refine Own.aload hx (.ref a48) (hb hby at_177) rfl rfl rfl ?_
    refine Own.callS hx hZ hown (hw _ (List.mem_of_getElem? (i := 6) rfl)) (hw _ (List.mem_of_getElem? (i := 7) rfl)) (hw _ (List.mem_of_getElem? (i := 8) rfl)) (hw _ (List.mem_of_getElem? (i := 9) rfl)) (by decide) pd3 (argsL := [(.ref a48)]) (rest := []) rfl (W := 0) (Nat.le_of_eq rfl) (rm := ({ frames := 0, cells := 1, slots := 6, locals := 0 } : Room)) (by decide) (by decide) (by decide) (by decide) (k' := 3) (n' := 13) rfl rfl (by rw [hml]; rfl) [(.ref a48)] rfl (hb hby at_179) (pc' := 182) rfl (rm2 l Z a0 hw a48 h53 n0 [y0] (by exact (show 1 ≤ 6 by decide)) ((a1, Own.ArrC Z .char [(.int y0), (.int y1), (.int y2), (.int y3), (.int y4), (.int y5)]) :: []) O54) ?_
    rintro _ h66 ⟨r65, rfl, O67⟩
    show Own.Goes _ _ _ _ _ _ _ _ _ _ _ _ _ _ _ _ _ (mkF m 182 #[.val (.int p0), .val (.int p1), .val (.int p2), .val (.int p3), .val (.int p4), .val (.int (1 : Int32)), .val (.ref a1), .val (.ref a48), .unset] [(.ref r65)])
    refine Own.astore hx #[.val (.int p0), .val (.int p1), .val (.int p2), .val (.int p3), .val (.int p4), .val (.int (1 : Int32)), .val (.ref a1), .val (.ref a48), .val (.ref r65)] (hb hby at_182) rfl rfl rfl ?_
    refine Own.aload hx (.ref r65) (hb hby at_184) rfl rfl rfl ?_
    refine Own.arrlen hx hZ O67 0 rfl (1 : Int32) (by rw [List.length_map, of_len]; rfl) (hb hby at_186) rfl ?_
    refine Own.iload hx (1 : Int32) (hb hby at_187) rfl rfl ?_
    have hc68 : (1 : Int32) = (1 : Int32) := by decide
    refine Own.icmpF hx (Own.q_eq (1 : Int32) (1 : Int32)) (hb hby at_189) (pcN := 192) rfl (by decide) (pcT := 194) rfl (fun _ => ?_) (fun q => absurd hc68 q)
    refine Own.aload hx (.ref r65) (hb hby at_194) rfl rfl rfl ?_
    refine Own.iload hx (1 : Int32) (hb hby at_196) rfl rfl ?_
    refine Own.aload hx (.ref a1) (hb hby at_198) rfl rfl rfl ?_
    refine Own.iconst hx (0 : Int32) (hb hby at_200) rfl (by decide) ?_
    have O70 : Own.Owns n0 h66 ((a1, Own.ArrC Z .char [(.int y0), (.int y1), (.int y2), (.int y3), (.int y4), (.int y5)]) :: (r65, Own.ArrC Z .int ((ofL [y0]).map gI)) :: (a48, Own.ArrC Z .char [(.int y0)]) :: []) := O67.pick 2 rfl
    have O71 : Own.Owns n0 h66 ((r65, Own.ArrC Z .int ((ofL [y0]).map gI)) :: (a1, Own.ArrC Z .char [(.int y0), (.int y1), (.int y2), (.int y3), (.int y4), (.int y5)]) :: (a48, Own.ArrC Z .char [(.int y0)]) :: []) := O70.pick 1 rfl
    refine Own.callS hx hZ hown (hw _ (List.mem_of_getElem? (i := 11) rfl)) (hw _ (List.mem_of_getElem? (i := 12) rfl)) (hw _ (List.mem_of_getElem? (i := 4) rfl)) (hw _ (List.mem_of_getElem? (i := 13) rfl)) (by decide) pd4 (argsL := [(.ref r65), (.int (1 : Int32)), (.ref a1), (.int (0 : Int32))]) (rest := []) rfl (W := 0) (Nat.le_of_eq rfl) (rm := ({ frames := 2, cells := 0, slots := 0, locals := 36 } : Room)) (by decide) (by decide) (by decide) (by decide) (k' := 3) (n' := 13) rfl rfl (by rw [hml]; rfl) [(.int (0 : Int32)), (.ref a1), (.int (1 : Int32)), (.ref r65)] rfl (hb hby at_201) (pc' := 204) rfl (rm3_b0 l Z a0 hw r65 (1 : Int32) a1 h66 n0 _ ((ofL [y0]).getD 0 9).toInt32 y0 y1 y2 y3 y4 y5 ((a48, Own.ArrC Z .char [(.int y0)]) :: []) O71 (by decide) (own_at (by rw [of_len]; exact (show 0 < 1 by decide)))) ?_
    rintro _ h' ⟨rfl, eh⟩
    rw [eh]; clear eh h'
    show Own.Goes _ _ _ _ _ _ _ _ _ _ _ _ _ _ _ _ _ (mkF m 204 #[.val (.int p0), .val (.int p1), .val (.int p2), .val (.int p3), .val (.int p4), .val (.int (1 : Int32)), .val (.ref a1), .val (.ref a48), .val (.ref r65)] [(.int (fE0 ((ofL [y0]).getD 0 9).toInt32 y0 y1 y2 y3 y4 y5))])
    have hc72 : ¬ ((fE0 ((ofL [y0]).getD 0 9).toInt32 y0 y1 y2 y3 y4 y5) = (0 : Int32)) := own_ent1_0
    refine Own.ifF hx (Own.z_eq (fE0 ((ofL [y0]).getD 0 9).toInt32 y0 y1 y2 y3 y4 y5)) (hb hby at_204) (pcN := 207) rfl (by decide) (pcT := 276) rfl (fun q => absurd q hc72) (fun _ => ?_)
    refine Own.aload hx (.ref r65) (hb hby at_207) rfl rfl rfl ?_
    refine Own.iload hx (1 : Int32) (hb hby at_209) rfl rfl ?_
    refine Own.aload hx (.ref a1) (hb hby at_211) rfl rfl rfl ?_
    refine Own.iconst hx (1 : Int32) (hb hby at_213) rfl (by decide) ?_
    refine Own.callS hx hZ hown (hw _ (List.mem_of_getElem? (i := 11) rfl)) (hw _ (List.mem_of_getElem? (i := 12) rfl)) (hw _ (List.mem_of_getElem? (i := 4) rfl)) (hw _ (List.mem_of_getElem? (i := 13) rfl)) (by decide) pd4 (argsL := [(.ref r65), (.int (1 : Int32)), (.ref a1), (.int (1 : Int32))]) (rest := []) rfl (W := 0) (Nat.le_of_eq rfl) (rm := ({ frames := 0, cells := 0, slots := 0, locals := 0 } : Room)) (by decide) (by decide) (by decide) (by decide) (k' := 3) (n' := 13) rfl rfl (by rw [hml]; rfl) [(.int (1 : Int32)), (.ref a1), (.int (1 : Int32)), (.ref r65)] rfl (hb hby at_214) (pc' := 217) rfl (rm3_a1 l Z a0 hw r65 (1 : Int32) a1 h66 n0 (by decide)) ?_
    rintro _ h' ⟨rfl, eh⟩
    rw [eh]; clear eh h'
    show Own.Goes _ _ _ _ _ _ _ _ _ _ _ _ _ _ _ _ _ (mkF m 217 #[.val (.int p0), .val (.int p1), .val (.int p2), .val (.int p3), .val (.int p4), .val (.int (1 : Int32)), .val (.ref a1), .val (.ref a48), .val (.ref r65)] [(.int (1 : Int32))])
    have hc74 : ¬ ((1 : Int32) = (0 : Int32)) := by decide
    refine Own.ifF hx (Own.z_eq (1 : Int32)) (hb hby at_217) (pcN := 220) rfl (by decide) (pcT := 276) rfl (fun q => absurd q hc74) (fun _ => ?_)
    refine Own.aload hx (.ref r65) (hb hby at_220) rfl rfl rfl ?_
    refine Own.iload hx (1 : Int32) (hb hby at_222) rfl rfl ?_
    refine Own.aload hx (.ref a1) (hb hby at_224) rfl rfl rfl ?_
    refine Own.iconst hx (2 : Int32) (hb hby at_226) rfl (by decide) ?_
    refine Own.callS hx hZ hown (hw _ (List.mem_of_getElem? (i := 11) rfl)) (hw _ (List.mem_of_getElem? (i := 12) rfl)) (hw _ (List.mem_of_getElem? (i := 4) rfl)) (hw _ (List.mem_of_getElem? (i := 13) rfl)) (by decide) pd4 (argsL := [(.ref r65), (.int (1 : Int32)), (.ref a1), (.int (2 : Int32))]) (rest := []) rfl (W := 0) (Nat.le_of_eq rfl) (rm := ({ frames := 0, cells := 0, slots := 0, locals := 0 } : Room)) (by decide) (by decide) (by decide) (by decide) (k' := 3) (n' := 13) rfl rfl (by rw [hml]; rfl) [(.int (2 : Int32)), (.ref a1), (.int (1 : Int32)), (.ref r65)] rfl (hb hby at_227) (pc' := 230) rfl (rm3_a2 l Z a0 hw r65 (1 : Int32) a1 h66 n0 (by decide)) ?_
    rintro _ h' ⟨rfl, eh⟩
    rw [eh]; clear eh h'
    show Own.Goes _ _ _ _ _ _ _ _ _ _ _ _ _ _ _ _ _ (mkF m 230 #[.val (.int p0), .val (.int p1), .val (.int p2), .val (.int p3), .val (.int p4), .val (.int (1 : Int32)), .val (.ref a1), .val (.ref a48), .val (.ref r65)] [(.int (1 : Int32))])
    have hc76 : ¬ ((1 : Int32) = (0 : Int32)) := by decide
    refine Own.ifF hx (Own.z_eq (1 : Int32)) (hb hby at_230) (pcN := 233) rfl (by decide) (pcT := 276) rfl (fun q => absurd q hc76) (fun _ => ?_)
    refine Own.aload hx (.ref r65) (hb hby at_233) rfl rfl rfl ?_
    refine Own.iload hx (1 : Int32) (hb hby at_235) rfl rfl ?_
    refine Own.aload hx (.ref a1) (hb hby at_237) rfl rfl rfl ?_
    refine Own.iconst hx (3 : Int32) (hb hby at_239) rfl (by decide) ?_
    refine Own.callS hx hZ hown (hw _ (List.mem_of_getElem? (i := 11) rfl)) (hw _ (List.mem_of_getElem? (i := 12) rfl)) (hw _ (List.mem_of_getElem? (i := 4) rfl)) (hw _ (List.mem_of_getElem? (i := 13) rfl)) (by decide) pd4 (argsL := [(.ref r65), (.int (1 : Int32)), (.ref a1), (.int (3 : Int32))]) (rest := []) rfl (W := 0) (Nat.le_of_eq rfl) (rm := ({ frames := 0, cells := 0, slots := 0, locals := 0 } : Room)) (by decide) (by decide) (by decide) (by decide) (k' := 3) (n' := 13) rfl rfl (by rw [hml]; rfl) [(.int (3 : Int32)), (.ref a1), (.int (1 : Int32)), (.ref r65)] rfl (hb hby at_240) (pc' := 243) rfl (rm3_a3 l Z a0 hw r65 (1 : Int32) a1 h66 n0 (by decide)) ?_
    rintro _ h' ⟨rfl, eh⟩
    rw [eh]; clear eh h'
    show Own.Goes _ _ _ _ _ _ _ _ _ _ _ _ _ _ _ _ _ (mkF m 243 #[.val (.int p0), .val (.int p1), .val (.int p2), .val (.int p3), .val (.int p4), .val (.int (1 : Int32)), .val (.ref a1), .val (.ref a48), .val (.ref r65)] [(.int (1 : Int32))])
    have hc78 : ¬ ((1 : Int32) = (0 : Int32)) := by decide
    refine Own.ifF hx (Own.z_eq (1 : Int32)) (hb hby at_243) (pcN := 246) rfl (by decide) (pcT := 276) rfl (fun q => absurd q hc78) (fun _ => ?_)
    refine Own.aload hx (.ref r65) (hb hby at_246) rfl rfl rfl ?_
    refine Own.iload hx (1 : Int32) (hb hby at_248) rfl rfl ?_
    refine Own.aload hx (.ref a1) (hb hby at_250) rfl rfl rfl ?_
    refine Own.iconst hx (4 : Int32) (hb hby at_252) rfl (by decide) ?_
    refine Own.callS hx hZ hown (hw _ (List.mem_of_getElem? (i := 11) rfl)) (hw _ (List.mem_of_getElem? (i := 12) rfl)) (hw _ (List.mem_of_getElem? (i := 4) rfl)) (hw _ (List.mem_of_getElem? (i := 13) rfl)) (by decide) pd4 (argsL := [(.ref r65), (.int (1 : Int32)), (.ref a1), (.int (4 : Int32))]) (rest := []) rfl (W := 0) (Nat.le_of_eq rfl) (rm := ({ frames := 0, cells := 0, slots := 0, locals := 0 } : Room)) (by decide) (by decide) (by decide) (by decide) (k' := 3) (n' := 13) rfl rfl (by rw [hml]; rfl) [(.int (4 : Int32)), (.ref a1), (.int (1 : Int32)), (.ref r65)] rfl (hb hby at_253) (pc' := 256) rfl (rm3_a4 l Z a0 hw r65 (1 : Int32) a1 h66 n0 (by decide)) ?_
    rintro _ h' ⟨rfl, eh⟩
    rw [eh]; clear eh h'
    show Own.Goes _ _ _ _ _ _ _ _ _ _ _ _ _ _ _ _ _ (mkF m 256 #[.val (.int p0), .val (.int p1), .val (.int p2), .val (.int p3), .val (.int p4), .val (.int (1 : Int32)), .val (.ref a1), .val (.ref a48), .val (.ref r65)] [(.int (1 : Int32))])
    have hc80 : ¬ ((1 : Int32) = (0 : Int32)) := by decide
    refine Own.ifF hx (Own.z_eq (1 : Int32)) (hb hby at_256) (pcN := 259) rfl (by decide) (pcT := 276) rfl (fun q => absurd q hc80) (fun _ => ?_)
    refine Own.aload hx (.ref r65) (hb hby at_259) rfl rfl rfl ?_
    refine Own.iload hx (1 : Int32) (hb hby at_261) rfl rfl ?_
    refine Own.aload hx (.ref a1) (hb hby at_263) rfl rfl rfl ?_
    refine Own.iconst hx (5 : Int32) (hb hby at_265) rfl (by decide) ?_
    refine Own.callS hx hZ hown (hw _ (List.mem_of_getElem? (i := 11) rfl)) (hw _ (List.mem_of_getElem? (i := 12) rfl)) (hw _ (List.mem_of_getElem? (i := 4) rfl)) (hw _ (List.mem_of_getElem? (i := 13) rfl)) (by decide) pd4 (argsL := [(.ref r65), (.int (1 : Int32)), (.ref a1), (.int (5 : Int32))]) (rest := []) rfl (W := 0) (Nat.le_of_eq rfl) (rm := ({ frames := 0, cells := 0, slots := 0, locals := 0 } : Room)) (by decide) (by decide) (by decide) (by decide) (k' := 3) (n' := 13) rfl rfl (by rw [hml]; rfl) [(.int (5 : Int32)), (.ref a1), (.int (1 : Int32)), (.ref r65)] rfl (hb hby at_266) (pc' := 269) rfl (rm3_a5 l Z a0 hw r65 (1 : Int32) a1 h66 n0 (by decide)) ?_
    rintro _ h' ⟨rfl, eh⟩
    rw [eh]; clear eh h'
    show Own.Goes _ _ _ _ _ _ _ _ _ _ _ _ _ _ _ _ _ (mkF m 269 #[.val (.int p0), .val (.int p1), .val (.int p2), .val (.int p3), .val (.int p4), .val (.int (1 : Int32)), .val (.ref a1), .val (.ref a48), .val (.ref r65)] [(.int (1 : Int32))])
    have hc82 : ¬ ((1 : Int32) = (0 : Int32)) := by decide
    refine Own.ifF hx (Own.z_eq (1 : Int32)) (hb hby at_269) (pcN := 272) rfl (by decide) (pcT := 276) rfl (fun q => absurd q hc82) (fun _ => ?_)
    refine Own.iconst hx (1 : Int32) (hb hby at_272) rfl (by decide) ?_
    refine Own.goto hx (hb hby at_273) (by decide) (pc' := 277) rfl ?_
    exact Own.retS hx hret (by simp) hlk (hb hby at_277) (by decide) (by decide) (Own.bool1 rfl)
  · subst q
    refine Own.iload hx (2 : Int32) (hb hby at_88) rfl rfl ?_
    refine Own.newarr hx hZ O15 (aty := .char) (hw _ (List.mem_of_getElem? (i := 1) rfl)) 2 (by decide) [(.int (0 : Int32)), (.int (0 : Int32))] rfl rfl (cap := 2) (by decide) (by decide) (k' := 2) (n' := 8) rfl rfl (by decide) (by decide) (hb hby at_90) (pc' := 92) rfl ?_
    intro a84 h85 O86
    refine Own.astore hx #[.val (.int p0), .val (.int p1), .val (.int p2), .val (.int p3), .val (.int p4), .val (.int (2 : Int32)), .val (.ref a1), .val (.ref a84), .unset] (hb hby at_92) rfl rfl rfl ?_
    refine Own.iload hx (2 : Int32) (hb hby at_94) rfl rfl ?_
    have hc87 : (0 : Int32) < (2 : Int32) := by decide
    refine Own.ifFn hx (Own.z_le (2 : Int32)) (hb hby at_96) (pcN := 99) rfl (by decide) (pcT := 107) rfl (fun q => absurd hc87 q) (fun _ => ?_)
    refine Own.aload hx (.ref a84) (hb hby at_99) rfl rfl rfl ?_
    refine Own.iconst hx (0 : Int32) (hb hby at_101) rfl (by decide) ?_
    refine Own.aload hx (.ref a1) (hb hby at_102) rfl rfl rfl ?_
    refine Own.iconst hx (0 : Int32) (hb hby at_104) rfl (by decide) ?_
    refine Own.caload hx hZ O86 1 0 rfl (by decide) (v := (.int y0)) rfl (hb hby at_105) rfl ?_
    refine Own.castore hx hZ O86 0 0 rfl (by decide) (by exact (show 0 < 2 by decide)) ((a84, Own.ArrC Z .char [(.int y0), (.int (0 : Int32))]) :: (a1, Own.ArrC Z .char [(.int y0), (.int y1), (.int y2), (.int y3), (.int y4), (.int y5)]) :: []) (by rw [own_idem h_y0]; rfl) (hb hby at_106) rfl ?_
    intro h89 O90
    refine Own.iload hx (2 : Int32) (hb hby at_107) rfl rfl ?_
    refine Own.iconst hx (1 : Int32) (hb hby at_109) rfl (by decide) ?_
    have hc91 : (1 : Int32) < (2 : Int32) := by decide
    refine Own.icmpFn hx (Own.q_le (2 : Int32) (1 : Int32)) (hb hby at_110) (pcN := 113) rfl (by decide) (pcT := 121) rfl (fun q => absurd hc91 q) (fun _ => ?_)
    refine Own.aload hx (.ref a84) (hb hby at_113) rfl rfl rfl ?_
    refine Own.iconst hx (1 : Int32) (hb hby at_115) rfl (by decide) ?_
    refine Own.aload hx (.ref a1) (hb hby at_116) rfl rfl rfl ?_
    refine Own.iconst hx (1 : Int32) (hb hby at_118) rfl (by decide) ?_
    refine Own.caload hx hZ O90 1 1 rfl (by decide) (v := (.int y1)) rfl (hb hby at_119) rfl ?_
    refine Own.castore hx hZ O90 0 1 rfl (by decide) (by exact (show 1 < 2 by decide)) ((a84, Own.ArrC Z .char [(.int y0), (.int y1)]) :: (a1, Own.ArrC Z .char [(.int y0), (.int y1), (.int y2), (.int y3), (.int y4), (.int y5)]) :: []) (by rw [own_idem h_y1]; rfl) (hb hby at_120) rfl ?_
    intro h93 O94
    refine Own.iload hx (2 : Int32) (hb hby at_121) rfl rfl ?_
    refine Own.iconst hx (2 : Int32) (hb hby at_123) rfl (by decide) ?_
    have hc95 : ¬ ((2 : Int32) < (2 : Int32)) := by decide
    refine Own.icmpFn hx (Own.q_le (2 : Int32) (2 : Int32)) (hb hby at_124) (pcN := 127) rfl (by decide) (pcT := 135) rfl (fun _ => ?_) (fun q => absurd q hc95)
    refine Own.iload hx (2 : Int32) (hb hby at_135) rfl rfl ?_
    refine Own.iconst hx (3 : Int32) (hb hby at_137) rfl (by decide) ?_
    have hc97 : ¬ ((3 : Int32) < (2 : Int32)) := by decide
    refine Own.icmpFn hx (Own.q_le (2 : Int32) (3 : Int32)) (hb hby at_138) (pcN := 141) rfl (by decide) (pcT := 149) rfl (fun _ => ?_) (fun q => absurd q hc97)
    refine Own.iload hx (2 : Int32) (hb hby at_149) rfl rfl ?_
    refine Own.iconst hx (4 : Int32) (hb hby at_151) rfl (by decide) ?_
    have hc99 : ¬ ((4 : Int32) < (2 : Int32)) := by decide
    refine Own.icmpFn hx (Own.q_le (2 : Int32) (4 : Int32)) (hb hby at_152) (pcN := 155) rfl (by decide) (pcT := 163) rfl (fun _ => ?_) (fun q => absurd q hc99)
    refine Own.iload hx (2 : Int32) (hb hby at_163) rfl rfl ?_
    refine Own.iconst hx (5 : Int32) (hb hby at_165) rfl (by decide) ?_
    have hc101 : ¬ ((5 : Int32) < (2 : Int32)) := by decide
    refine Own.icmpFn hx (Own.q_le (2 : Int32) (5 : Int32)) (hb hby at_166) (pcN := 169) rfl (by decide) (pcT := 177) rfl (fun _ => ?_) (fun q => absurd q hc101)
    refine Own.aload hx (.ref a84) (hb hby at_177) rfl rfl rfl ?_
    refine Own.callS hx hZ hown (hw _ (List.mem_of_getElem? (i := 6) rfl)) (hw _ (List.mem_of_getElem? (i := 7) rfl)) (hw _ (List.mem_of_getElem? (i := 8) rfl)) (hw _ (List.mem_of_getElem? (i := 9) rfl)) (by decide) pd3 (argsL := [(.ref a84)]) (rest := []) rfl (W := 0) (Nat.le_of_eq rfl) (rm := ({ frames := 0, cells := 1, slots := 6, locals := 0 } : Room)) (by decide) (by decide) (by decide) (by decide) (k' := 3) (n' := 14) rfl rfl (by rw [hml]; rfl) [(.ref a84)] rfl (hb hby at_179) (pc' := 182) rfl (rm2 l Z a0 hw a84 h93 n0 [y0, y1] (by exact (show 2 ≤ 6 by decide)) ((a1, Own.ArrC Z .char [(.int y0), (.int y1), (.int y2), (.int y3), (.int y4), (.int y5)]) :: []) O94) ?_
    rintro _ h104 ⟨r103, rfl, O105⟩
    show Own.Goes _ _ _ _ _ _ _ _ _ _ _ _ _ _ _ _ _ (mkF m 182 #[.val (.int p0), .val (.int p1), .val (.int p2), .val (.int p3), .val (.int p4), .val (.int (2 : Int32)), .val (.ref a1), .val (.ref a84), .unset] [(.ref r103)])
    refine Own.astore hx #[.val (.int p0), .val (.int p1), .val (.int p2), .val (.int p3), .val (.int p4), .val (.int (2 : Int32)), .val (.ref a1), .val (.ref a84), .val (.ref r103)] (hb hby at_182) rfl rfl rfl ?_
    refine Own.aload hx (.ref r103) (hb hby at_184) rfl rfl rfl ?_
    refine Own.arrlen hx hZ O105 0 rfl (2 : Int32) (by rw [List.length_map, of_len]; rfl) (hb hby at_186) rfl ?_
    refine Own.iload hx (2 : Int32) (hb hby at_187) rfl rfl ?_
    have hc106 : (2 : Int32) = (2 : Int32) := by decide
    refine Own.icmpF hx (Own.q_eq (2 : Int32) (2 : Int32)) (hb hby at_189) (pcN := 192) rfl (by decide) (pcT := 194) rfl (fun _ => ?_) (fun q => absurd hc106 q)
    refine Own.aload hx (.ref r103) (hb hby at_194) rfl rfl rfl ?_
    refine Own.iload hx (2 : Int32) (hb hby at_196) rfl rfl ?_
    refine Own.aload hx (.ref a1) (hb hby at_198) rfl rfl rfl ?_
    refine Own.iconst hx (0 : Int32) (hb hby at_200) rfl (by decide) ?_
    have O108 : Own.Owns n0 h104 ((a1, Own.ArrC Z .char [(.int y0), (.int y1), (.int y2), (.int y3), (.int y4), (.int y5)]) :: (r103, Own.ArrC Z .int ((ofL [y0, y1]).map gI)) :: (a84, Own.ArrC Z .char [(.int y0), (.int y1)]) :: []) := O105.pick 2 rfl
    have O109 : Own.Owns n0 h104 ((r103, Own.ArrC Z .int ((ofL [y0, y1]).map gI)) :: (a1, Own.ArrC Z .char [(.int y0), (.int y1), (.int y2), (.int y3), (.int y4), (.int y5)]) :: (a84, Own.ArrC Z .char [(.int y0), (.int y1)]) :: []) := O108.pick 1 rfl
    refine Own.callS hx hZ hown (hw _ (List.mem_of_getElem? (i := 11) rfl)) (hw _ (List.mem_of_getElem? (i := 12) rfl)) (hw _ (List.mem_of_getElem? (i := 4) rfl)) (hw _ (List.mem_of_getElem? (i := 13) rfl)) (by decide) pd4 (argsL := [(.ref r103), (.int (2 : Int32)), (.ref a1), (.int (0 : Int32))]) (rest := []) rfl (W := 0) (Nat.le_of_eq rfl) (rm := ({ frames := 2, cells := 0, slots := 0, locals := 36 } : Room)) (by decide) (by decide) (by decide) (by decide) (k' := 3) (n' := 14) rfl rfl (by rw [hml]; rfl) [(.int (0 : Int32)), (.ref a1), (.int (2 : Int32)), (.ref r103)] rfl (hb hby at_201) (pc' := 204) rfl (rm3_b0 l Z a0 hw r103 (2 : Int32) a1 h104 n0 _ ((ofL [y0, y1]).getD 0 9).toInt32 y0 y1 y2 y3 y4 y5 ((a84, Own.ArrC Z .char [(.int y0), (.int y1)]) :: []) O109 (by decide) (own_at (by rw [of_len]; exact (show 0 < 2 by decide)))) ?_
    rintro _ h' ⟨rfl, eh⟩
    rw [eh]; clear eh h'
    show Own.Goes _ _ _ _ _ _ _ _ _ _ _ _ _ _ _ _ _ (mkF m 204 #[.val (.int p0), .val (.int p1), .val (.int p2), .val (.int p3), .val (.int p4), .val (.int (2 : Int32)), .val (.ref a1), .val (.ref a84), .val (.ref r103)] [(.int (fE0 ((ofL [y0, y1]).getD 0 9).toInt32 y0 y1 y2 y3 y4 y5))])
    have hc110 : ¬ ((fE0 ((ofL [y0, y1]).getD 0 9).toInt32 y0 y1 y2 y3 y4 y5) = (0 : Int32)) := own_ent2_0
    refine Own.ifF hx (Own.z_eq (fE0 ((ofL [y0, y1]).getD 0 9).toInt32 y0 y1 y2 y3 y4 y5)) (hb hby at_204) (pcN := 207) rfl (by decide) (pcT := 276) rfl (fun q => absurd q hc110) (fun _ => ?_)
    refine Own.aload hx (.ref r103) (hb hby at_207) rfl rfl rfl ?_
    refine Own.iload hx (2 : Int32) (hb hby at_209) rfl rfl ?_
    refine Own.aload hx (.ref a1) (hb hby at_211) rfl rfl rfl ?_
    refine Own.iconst hx (1 : Int32) (hb hby at_213) rfl (by decide) ?_
    have O112 : Own.Owns n0 h104 ((a1, Own.ArrC Z .char [(.int y0), (.int y1), (.int y2), (.int y3), (.int y4), (.int y5)]) :: (r103, Own.ArrC Z .int ((ofL [y0, y1]).map gI)) :: (a84, Own.ArrC Z .char [(.int y0), (.int y1)]) :: []) := O109.pick 1 rfl
    have O113 : Own.Owns n0 h104 ((r103, Own.ArrC Z .int ((ofL [y0, y1]).map gI)) :: (a1, Own.ArrC Z .char [(.int y0), (.int y1), (.int y2), (.int y3), (.int y4), (.int y5)]) :: (a84, Own.ArrC Z .char [(.int y0), (.int y1)]) :: []) := O112.pick 1 rfl
    refine Own.callS hx hZ hown (hw _ (List.mem_of_getElem? (i := 11) rfl)) (hw _ (List.mem_of_getElem? (i := 12) rfl)) (hw _ (List.mem_of_getElem? (i := 4) rfl)) (hw _ (List.mem_of_getElem? (i := 13) rfl)) (by decide) pd4 (argsL := [(.ref r103), (.int (2 : Int32)), (.ref a1), (.int (1 : Int32))]) (rest := []) rfl (W := 0) (Nat.le_of_eq rfl) (rm := ({ frames := 2, cells := 0, slots := 0, locals := 36 } : Room)) (by decide) (by decide) (by decide) (by decide) (k' := 3) (n' := 14) rfl rfl (by rw [hml]; rfl) [(.int (1 : Int32)), (.ref a1), (.int (2 : Int32)), (.ref r103)] rfl (hb hby at_214) (pc' := 217) rfl (rm3_b1 l Z a0 hw r103 (2 : Int32) a1 h104 n0 _ ((ofL [y0, y1]).getD 1 9).toInt32 y0 y1 y2 y3 y4 y5 ((a84, Own.ArrC Z .char [(.int y0), (.int y1)]) :: []) O113 (by decide) (own_at (by rw [of_len]; exact (show 1 < 2 by decide)))) ?_
    rintro _ h' ⟨rfl, eh⟩
    rw [eh]; clear eh h'
    show Own.Goes _ _ _ _ _ _ _ _ _ _ _ _ _ _ _ _ _ (mkF m 217 #[.val (.int p0), .val (.int p1), .val (.int p2), .val (.int p3), .val (.int p4), .val (.int (2 : Int32)), .val (.ref a1), .val (.ref a84), .val (.ref r103)] [(.int (fE1 ((ofL [y0, y1]).getD 1 9).toInt32 y0 y1 y2 y3 y4 y5))])
    have hc114 : ¬ ((fE1 ((ofL [y0, y1]).getD 1 9).toInt32 y0 y1 y2 y3 y4 y5) = (0 : Int32)) := own_ent2_1
    refine Own.ifF hx (Own.z_eq (fE1 ((ofL [y0, y1]).getD 1 9).toInt32 y0 y1 y2 y3 y4 y5)) (hb hby at_217) (pcN := 220) rfl (by decide) (pcT := 276) rfl (fun q => absurd q hc114) (fun _ => ?_)
    refine Own.aload hx (.ref r103) (hb hby at_220) rfl rfl rfl ?_
    refine Own.iload hx (2 : Int32) (hb hby at_222) rfl rfl ?_
    refine Own.aload hx (.ref a1) (hb hby at_224) rfl rfl rfl ?_
    refine Own.iconst hx (2 : Int32) (hb hby at_226) rfl (by decide) ?_
    refine Own.callS hx hZ hown (hw _ (List.mem_of_getElem? (i := 11) rfl)) (hw _ (List.mem_of_getElem? (i := 12) rfl)) (hw _ (List.mem_of_getElem? (i := 4) rfl)) (hw _ (List.mem_of_getElem? (i := 13) rfl)) (by decide) pd4 (argsL := [(.ref r103), (.int (2 : Int32)), (.ref a1), (.int (2 : Int32))]) (rest := []) rfl (W := 0) (Nat.le_of_eq rfl) (rm := ({ frames := 0, cells := 0, slots := 0, locals := 0 } : Room)) (by decide) (by decide) (by decide) (by decide) (k' := 3) (n' := 14) rfl rfl (by rw [hml]; rfl) [(.int (2 : Int32)), (.ref a1), (.int (2 : Int32)), (.ref r103)] rfl (hb hby at_227) (pc' := 230) rfl (rm3_a2 l Z a0 hw r103 (2 : Int32) a1 h104 n0 (by decide)) ?_
    rintro _ h' ⟨rfl, eh⟩
    rw [eh]; clear eh h'
    show Own.Goes _ _ _ _ _ _ _ _ _ _ _ _ _ _ _ _ _ (mkF m 230 #[.val (.int p0), .val (.int p1), .val (.int p2), .val (.int p3), .val (.int p4), .val (.int (2 : Int32)), .val (.ref a1), .val (.ref a84), .val (.ref r103)] [(.int (1 : Int32))])
    have hc116 : ¬ ((1 : Int32) = (0 : Int32)) := by decide
    refine Own.ifF hx (Own.z_eq (1 : Int32)) (hb hby at_230) (pcN := 233) rfl (by decide) (pcT := 276) rfl (fun q => absurd q hc116) (fun _ => ?_)
    refine Own.aload hx (.ref r103) (hb hby at_233) rfl rfl rfl ?_
    refine Own.iload hx (2 : Int32) (hb hby at_235) rfl rfl ?_
    refine Own.aload hx (.ref a1) (hb hby at_237) rfl rfl rfl ?_
    refine Own.iconst hx (3 : Int32) (hb hby at_239) rfl (by decide) ?_
    refine Own.callS hx hZ hown (hw _ (List.mem_of_getElem? (i := 11) rfl)) (hw _ (List.mem_of_getElem? (i := 12) rfl)) (hw _ (List.mem_of_getElem? (i := 4) rfl)) (hw _ (List.mem_of_getElem? (i := 13) rfl)) (by decide) pd4 (argsL := [(.ref r103), (.int (2 : Int32)), (.ref a1), (.int (3 : Int32))]) (rest := []) rfl (W := 0) (Nat.le_of_eq rfl) (rm := ({ frames := 0, cells := 0, slots := 0, locals := 0 } : Room)) (by decide) (by decide) (by decide) (by decide) (k' := 3) (n' := 14) rfl rfl (by rw [hml]; rfl) [(.int (3 : Int32)), (.ref a1), (.int (2 : Int32)), (.ref r103)] rfl (hb hby at_240) (pc' := 243) rfl (rm3_a3 l Z a0 hw r103 (2 : Int32) a1 h104 n0 (by decide)) ?_
    rintro _ h' ⟨rfl, eh⟩
    rw [eh]; clear eh h'
    show Own.Goes _ _ _ _ _ _ _ _ _ _ _ _ _ _ _ _ _ (mkF m 243 #[.val (.int p0), .val (.int p1), .val (.int p2), .val (.int p3), .val (.int p4), .val (.int (2 : Int32)), .val (.ref a1), .val (.ref a84), .val (.ref r103)] [(.int (1 : Int32))])
    have hc118 : ¬ ((1 : Int32) = (0 : Int32)) := by decide
    refine Own.ifF hx (Own.z_eq (1 : Int32)) (hb hby at_243) (pcN := 246) rfl (by decide) (pcT := 276) rfl (fun q => absurd q hc118) (fun _ => ?_)
    refine Own.aload hx (.ref r103) (hb hby at_246) rfl rfl rfl ?_
    refine Own.iload hx (2 : Int32) (hb hby at_248) rfl rfl ?_
    refine Own.aload hx (.ref a1) (hb hby at_250) rfl rfl rfl ?_
    refine Own.iconst hx (4 : Int32) (hb hby at_252) rfl (by decide) ?_
    refine Own.callS hx hZ hown (hw _ (List.mem_of_getElem? (i := 11) rfl)) (hw _ (List.mem_of_getElem? (i := 12) rfl)) (hw _ (List.mem_of_getElem? (i := 4) rfl)) (hw _ (List.mem_of_getElem? (i := 13) rfl)) (by decide) pd4 (argsL := [(.ref r103), (.int (2 : Int32)), (.ref a1), (.int (4 : Int32))]) (rest := []) rfl (W := 0) (Nat.le_of_eq rfl) (rm := ({ frames := 0, cells := 0, slots := 0, locals := 0 } : Room)) (by decide) (by decide) (by decide) (by decide) (k' := 3) (n' := 14) rfl rfl (by rw [hml]; rfl) [(.int (4 : Int32)), (.ref a1), (.int (2 : Int32)), (.ref r103)] rfl (hb hby at_253) (pc' := 256) rfl (rm3_a4 l Z a0 hw r103 (2 : Int32) a1 h104 n0 (by decide)) ?_
    rintro _ h' ⟨rfl, eh⟩
    rw [eh]; clear eh h'
    show Own.Goes _ _ _ _ _ _ _ _ _ _ _ _ _ _ _ _ _ (mkF m 256 #[.val (.int p0), .val (.int p1), .val (.int p2), .val (.int p3), .val (.int p4), .val (.int (2 : Int32)), .val (.ref a1), .val (.ref a84), .val (.ref r103)] [(.int (1 : Int32))])
    have hc120 : ¬ ((1 : Int32) = (0 : Int32)) := by decide
    refine Own.ifF hx (Own.z_eq (1 : Int32)) (hb hby at_256) (pcN := 259) rfl (by decide) (pcT := 276) rfl (fun q => absurd q hc120) (fun _ => ?_)
    refine Own.aload hx (.ref r103) (hb hby at_259) rfl rfl rfl ?_
    refine Own.iload hx (2 : Int32) (hb hby at_261) rfl rfl ?_
    refine Own.aload hx (.ref a1) (hb hby at_263) rfl rfl rfl ?_
    refine Own.iconst hx (5 : Int32) (hb hby at_265) rfl (by decide) ?_
    refine Own.callS hx hZ hown (hw _ (List.mem_of_getElem? (i := 11) rfl)) (hw _ (List.mem_of_getElem? (i := 12) rfl)) (hw _ (List.mem_of_getElem? (i := 4) rfl)) (hw _ (List.mem_of_getElem? (i := 13) rfl)) (by decide) pd4 (argsL := [(.ref r103), (.int (2 : Int32)), (.ref a1), (.int (5 : Int32))]) (rest := []) rfl (W := 0) (Nat.le_of_eq rfl) (rm := ({ frames := 0, cells := 0, slots := 0, locals := 0 } : Room)) (by decide) (by decide) (by decide) (by decide) (k' := 3) (n' := 14) rfl rfl (by rw [hml]; rfl) [(.int (5 : Int32)), (.ref a1), (.int (2 : Int32)), (.ref r103)] rfl (hb hby at_266) (pc' := 269) rfl (rm3_a5 l Z a0 hw r103 (2 : Int32) a1 h104 n0 (by decide)) ?_
    rintro _ h' ⟨rfl, eh⟩
    rw [eh]; clear eh h'
    show Own.Goes _ _ _ _ _ _ _ _ _ _ _ _ _ _ _ _ _ (mkF m 269 #[.val (.int p0), .val (.int p1), .val (.int p2), .val (.int p3), .val (.int p4), .val (.int (2 : Int32)), .val (.ref a1), .val (.ref a84), .val (.ref r103)] [(.int (1 : Int32))])
    have hc122 : ¬ ((1 : Int32) = (0 : Int32)) := by decide
    refine Own.ifF hx (Own.z_eq (1 : Int32)) (hb hby at_269) (pcN := 272) rfl (by decide) (pcT := 276) rfl (fun q => absurd q hc122) (fun _ => ?_)
    refine Own.iconst hx (1 : Int32) (hb hby at_272) rfl (by decide) ?_
    refine Own.goto hx (hb hby at_273) (by decide) (pc' := 277) rfl ?_
    exact Own.retS hx hret (by simp) hlk (hb hby at_277) (by decide) (by decide) (Own.bool1 rfl)
  · subst q
    refine Own.iload hx (3 : Int32) (hb hby at_88) rfl rfl ?_
    refine Own.newarr hx hZ O15 (aty := .char) (hw _ (List.mem_of_getElem? (i := 1) rfl)) 3 (by decide) [(.int (0 : Int32)), (.int (0 : Int32)), (.int (0 : Int32))] rfl rfl (cap := 3) (by decide) (by decide) (k' := 2) (n' := 9) rfl rfl (by decide) (by decide) (hb hby at_90) (pc' := 92) rfl ?_
    intro a124 h125 O126
    refine Own.astore hx #[.val (.int p0), .val (.int p1), .val (.int p2), .val (.int p3), .val (.int p4), .val (.int (3 : Int32)), .val (.ref a1), .val (.ref a124), .unset] (hb hby at_92) rfl rfl rfl ?_
    refine Own.iload hx (3 : Int32) (hb hby at_94) rfl rfl ?_
    have hc127 : (0 : Int32) < (3 : Int32) := by decide
    refine Own.ifFn hx (Own.z_le (3 : Int32)) (hb hby at_96) (pcN := 99) rfl (by decide) (pcT := 107) rfl (fun q => absurd hc127 q) (fun _ => ?_)
    refine Own.aload hx (.ref a124) (hb hby at_99) rfl rfl rfl ?_
    refine Own.iconst hx (0 : Int32) (hb hby at_101) rfl (by decide) ?_
    refine Own.aload hx (.ref a1) (hb hby at_102) rfl rfl rfl ?_
    refine Own.iconst hx (0 : Int32) (hb hby at_104) rfl (by decide) ?_
    refine Own.caload hx hZ O126 1 0 rfl (by decide) (v := (.int y0)) rfl (hb hby at_105) rfl ?_
    refine Own.castore hx hZ O126 0 0 rfl (by decide) (by exact (show 0 < 3 by decide)) ((a124, Own.ArrC Z .char [(.int y0), (.int (0 : Int32)), (.int (0 : Int32))]) :: (a1, Own.ArrC Z .char [(.int y0), (.int y1), (.int y2), (.int y3), (.int y4), (.int y5)]) :: []) (by rw [own_idem h_y0]; rfl) (hb hby at_106) rfl ?_
    intro h129 O130
    refine Own.iload hx (3 : Int32) (hb hby at_107) rfl rfl ?_
    refine Own.iconst hx (1 : Int32) (hb hby at_109) rfl (by decide) ?_
    have hc131 : (1 : Int32) < (3 : Int32) := by decide
    refine Own.icmpFn hx (Own.q_le (3 : Int32) (1 : Int32)) (hb hby at_110) (pcN := 113) rfl (by decide) (pcT := 121) rfl (fun q => absurd hc131 q) (fun _ => ?_)
    refine Own.aload hx (.ref a124) (hb hby at_113) rfl rfl rfl ?_
    refine Own.iconst hx (1 : Int32) (hb hby at_115) rfl (by decide) ?_
    refine Own.aload hx (.ref a1) (hb hby at_116) rfl rfl rfl ?_
    refine Own.iconst hx (1 : Int32) (hb hby at_118) rfl (by decide) ?_
    refine Own.caload hx hZ O130 1 1 rfl (by decide) (v := (.int y1)) rfl (hb hby at_119) rfl ?_
    refine Own.castore hx hZ O130 0 1 rfl (by decide) (by exact (show 1 < 3 by decide)) ((a124, Own.ArrC Z .char [(.int y0), (.int y1), (.int (0 : Int32))]) :: (a1, Own.ArrC Z .char [(.int y0), (.int y1), (.int y2), (.int y3), (.int y4), (.int y5)]) :: []) (by rw [own_idem h_y1]; rfl) (hb hby at_120) rfl ?_
    intro h133 O134
    refine Own.iload hx (3 : Int32) (hb hby at_121) rfl rfl ?_
    refine Own.iconst hx (2 : Int32) (hb hby at_123) rfl (by decide) ?_
    have hc135 : (2 : Int32) < (3 : Int32) := by decide
    refine Own.icmpFn hx (Own.q_le (3 : Int32) (2 : Int32)) (hb hby at_124) (pcN := 127) rfl (by decide) (pcT := 135) rfl (fun q => absurd hc135 q) (fun _ => ?_)
    refine Own.aload hx (.ref a124) (hb hby at_127) rfl rfl rfl ?_
    refine Own.iconst hx (2 : Int32) (hb hby at_129) rfl (by decide) ?_
    refine Own.aload hx (.ref a1) (hb hby at_130) rfl rfl rfl ?_
    refine Own.iconst hx (2 : Int32) (hb hby at_132) rfl (by decide) ?_
    refine Own.caload hx hZ O134 1 2 rfl (by decide) (v := (.int y2)) rfl (hb hby at_133) rfl ?_
    refine Own.castore hx hZ O134 0 2 rfl (by decide) (by exact (show 2 < 3 by decide)) ((a124, Own.ArrC Z .char [(.int y0), (.int y1), (.int y2)]) :: (a1, Own.ArrC Z .char [(.int y0), (.int y1), (.int y2), (.int y3), (.int y4), (.int y5)]) :: []) (by rw [own_idem h_y2]; rfl) (hb hby at_134) rfl ?_
    intro h137 O138
    refine Own.iload hx (3 : Int32) (hb hby at_135) rfl rfl ?_
    refine Own.iconst hx (3 : Int32) (hb hby at_137) rfl (by decide) ?_
    have hc139 : ¬ ((3 : Int32) < (3 : Int32)) := by decide
    refine Own.icmpFn hx (Own.q_le (3 : Int32) (3 : Int32)) (hb hby at_138) (pcN := 141) rfl (by decide) (pcT := 149) rfl (fun _ => ?_) (fun q => absurd q hc139)
    refine Own.iload hx (3 : Int32) (hb hby at_149) rfl rfl ?_
    refine Own.iconst hx (4 : Int32) (hb hby at_151) rfl (by decide) ?_
    have hc141 : ¬ ((4 : Int32) < (3 : Int32)) := by decide
    refine Own.icmpFn hx (Own.q_le (3 : Int32) (4 : Int32)) (hb hby at_152) (pcN := 155) rfl (by decide) (pcT := 163) rfl (fun _ => ?_) (fun q => absurd q hc141)
    refine Own.iload hx (3 : Int32) (hb hby at_163) rfl rfl ?_
    refine Own.iconst hx (5 : Int32) (hb hby at_165) rfl (by decide) ?_
    have hc143 : ¬ ((5 : Int32) < (3 : Int32)) := by decide
    refine Own.icmpFn hx (Own.q_le (3 : Int32) (5 : Int32)) (hb hby at_166) (pcN := 169) rfl (by decide) (pcT := 177) rfl (fun _ => ?_) (fun q => absurd q hc143)
    refine Own.aload hx (.ref a124) (hb hby at_177) rfl rfl rfl ?_
    refine Own.callS hx hZ hown (hw _ (List.mem_of_getElem? (i := 6) rfl)) (hw _ (List.mem_of_getElem? (i := 7) rfl)) (hw _ (List.mem_of_getElem? (i := 8) rfl)) (hw _ (List.mem_of_getElem? (i := 9) rfl)) (by decide) pd3 (argsL := [(.ref a124)]) (rest := []) rfl (W := 0) (Nat.le_of_eq rfl) (rm := ({ frames := 0, cells := 1, slots := 6, locals := 0 } : Room)) (by decide) (by decide) (by decide) (by decide) (k' := 3) (n' := 15) rfl rfl (by rw [hml]; rfl) [(.ref a124)] rfl (hb hby at_179) (pc' := 182) rfl (rm2 l Z a0 hw a124 h137 n0 [y0, y1, y2] (by exact (show 3 ≤ 6 by decide)) ((a1, Own.ArrC Z .char [(.int y0), (.int y1), (.int y2), (.int y3), (.int y4), (.int y5)]) :: []) O138) ?_
    rintro _ h146 ⟨r145, rfl, O147⟩
    show Own.Goes _ _ _ _ _ _ _ _ _ _ _ _ _ _ _ _ _ (mkF m 182 #[.val (.int p0), .val (.int p1), .val (.int p2), .val (.int p3), .val (.int p4), .val (.int (3 : Int32)), .val (.ref a1), .val (.ref a124), .unset] [(.ref r145)])
    refine Own.astore hx #[.val (.int p0), .val (.int p1), .val (.int p2), .val (.int p3), .val (.int p4), .val (.int (3 : Int32)), .val (.ref a1), .val (.ref a124), .val (.ref r145)] (hb hby at_182) rfl rfl rfl ?_
    refine Own.aload hx (.ref r145) (hb hby at_184) rfl rfl rfl ?_
    refine Own.arrlen hx hZ O147 0 rfl (3 : Int32) (by rw [List.length_map, of_len]; rfl) (hb hby at_186) rfl ?_
    refine Own.iload hx (3 : Int32) (hb hby at_187) rfl rfl ?_
    have hc148 : (3 : Int32) = (3 : Int32) := by decide
    refine Own.icmpF hx (Own.q_eq (3 : Int32) (3 : Int32)) (hb hby at_189) (pcN := 192) rfl (by decide) (pcT := 194) rfl (fun _ => ?_) (fun q => absurd hc148 q)
    refine Own.aload hx (.ref r145) (hb hby at_194) rfl rfl rfl ?_
    refine Own.iload hx (3 : Int32) (hb hby at_196) rfl rfl ?_
    refine Own.aload hx (.ref a1) (hb hby at_198) rfl rfl rfl ?_
    refine Own.iconst hx (0 : Int32) (hb hby at_200) rfl (by decide) ?_
    have O150 : Own.Owns n0 h146 ((a1, Own.ArrC Z .char [(.int y0), (.int y1), (.int y2), (.int y3), (.int y4), (.int y5)]) :: (r145, Own.ArrC Z .int ((ofL [y0, y1, y2]).map gI)) :: (a124, Own.ArrC Z .char [(.int y0), (.int y1), (.int y2)]) :: []) := O147.pick 2 rfl
    have O151 : Own.Owns n0 h146 ((r145, Own.ArrC Z .int ((ofL [y0, y1, y2]).map gI)) :: (a1, Own.ArrC Z .char [(.int y0), (.int y1), (.int y2), (.int y3), (.int y4), (.int y5)]) :: (a124, Own.ArrC Z .char [(.int y0), (.int y1), (.int y2)]) :: []) := O150.pick 1 rfl
    refine Own.callS hx hZ hown (hw _ (List.mem_of_getElem? (i := 11) rfl)) (hw _ (List.mem_of_getElem? (i := 12) rfl)) (hw _ (List.mem_of_getElem? (i := 4) rfl)) (hw _ (List.mem_of_getElem? (i := 13) rfl)) (by decide) pd4 (argsL := [(.ref r145), (.int (3 : Int32)), (.ref a1), (.int (0 : Int32))]) (rest := []) rfl (W := 0) (Nat.le_of_eq rfl) (rm := ({ frames := 2, cells := 0, slots := 0, locals := 36 } : Room)) (by decide) (by decide) (by decide) (by decide) (k' := 3) (n' := 15) rfl rfl (by rw [hml]; rfl) [(.int (0 : Int32)), (.ref a1), (.int (3 : Int32)), (.ref r145)] rfl (hb hby at_201) (pc' := 204) rfl (rm3_b0 l Z a0 hw r145 (3 : Int32) a1 h146 n0 _ ((ofL [y0, y1, y2]).getD 0 9).toInt32 y0 y1 y2 y3 y4 y5 ((a124, Own.ArrC Z .char [(.int y0), (.int y1), (.int y2)]) :: []) O151 (by decide) (own_at (by rw [of_len]; exact (show 0 < 3 by decide)))) ?_
    rintro _ h' ⟨rfl, eh⟩
    rw [eh]; clear eh h'
    show Own.Goes _ _ _ _ _ _ _ _ _ _ _ _ _ _ _ _ _ (mkF m 204 #[.val (.int p0), .val (.int p1), .val (.int p2), .val (.int p3), .val (.int p4), .val (.int (3 : Int32)), .val (.ref a1), .val (.ref a124), .val (.ref r145)] [(.int (fE0 ((ofL [y0, y1, y2]).getD 0 9).toInt32 y0 y1 y2 y3 y4 y5))])
    have hc152 : ¬ ((fE0 ((ofL [y0, y1, y2]).getD 0 9).toInt32 y0 y1 y2 y3 y4 y5) = (0 : Int32)) := own_ent3_0
    refine Own.ifF hx (Own.z_eq (fE0 ((ofL [y0, y1, y2]).getD 0 9).toInt32 y0 y1 y2 y3 y4 y5)) (hb hby at_204) (pcN := 207) rfl (by decide) (pcT := 276) rfl (fun q => absurd q hc152) (fun _ => ?_)
    refine Own.aload hx (.ref r145) (hb hby at_207) rfl rfl rfl ?_
    refine Own.iload hx (3 : Int32) (hb hby at_209) rfl rfl ?_
    refine Own.aload hx (.ref a1) (hb hby at_211) rfl rfl rfl ?_
    refine Own.iconst hx (1 : Int32) (hb hby at_213) rfl (by decide) ?_
    have O154 : Own.Owns n0 h146 ((a1, Own.ArrC Z .char [(.int y0), (.int y1), (.int y2), (.int y3), (.int y4), (.int y5)]) :: (r145, Own.ArrC Z .int ((ofL [y0, y1, y2]).map gI)) :: (a124, Own.ArrC Z .char [(.int y0), (.int y1), (.int y2)]) :: []) := O151.pick 1 rfl
    have O155 : Own.Owns n0 h146 ((r145, Own.ArrC Z .int ((ofL [y0, y1, y2]).map gI)) :: (a1, Own.ArrC Z .char [(.int y0), (.int y1), (.int y2), (.int y3), (.int y4), (.int y5)]) :: (a124, Own.ArrC Z .char [(.int y0), (.int y1), (.int y2)]) :: []) := O154.pick 1 rfl
    refine Own.callS hx hZ hown (hw _ (List.mem_of_getElem? (i := 11) rfl)) (hw _ (List.mem_of_getElem? (i := 12) rfl)) (hw _ (List.mem_of_getElem? (i := 4) rfl)) (hw _ (List.mem_of_getElem? (i := 13) rfl)) (by decide) pd4 (argsL := [(.ref r145), (.int (3 : Int32)), (.ref a1), (.int (1 : Int32))]) (rest := []) rfl (W := 0) (Nat.le_of_eq rfl) (rm := ({ frames := 2, cells := 0, slots := 0, locals := 36 } : Room)) (by decide) (by decide) (by decide) (by decide) (k' := 3) (n' := 15) rfl rfl (by rw [hml]; rfl) [(.int (1 : Int32)), (.ref a1), (.int (3 : Int32)), (.ref r145)] rfl (hb hby at_214) (pc' := 217) rfl (rm3_b1 l Z a0 hw r145 (3 : Int32) a1 h146 n0 _ ((ofL [y0, y1, y2]).getD 1 9).toInt32 y0 y1 y2 y3 y4 y5 ((a124, Own.ArrC Z .char [(.int y0), (.int y1), (.int y2)]) :: []) O155 (by decide) (own_at (by rw [of_len]; exact (show 1 < 3 by decide)))) ?_
    rintro _ h' ⟨rfl, eh⟩
    rw [eh]; clear eh h'
    show Own.Goes _ _ _ _ _ _ _ _ _ _ _ _ _ _ _ _ _ (mkF m 217 #[.val (.int p0), .val (.int p1), .val (.int p2), .val (.int p3), .val (.int p4), .val (.int (3 : Int32)), .val (.ref a1), .val (.ref a124), .val (.ref r145)] [(.int (fE1 ((ofL [y0, y1, y2]).getD 1 9).toInt32 y0 y1 y2 y3 y4 y5))])
    have hc156 : ¬ ((fE1 ((ofL [y0, y1, y2]).getD 1 9).toInt32 y0 y1 y2 y3 y4 y5) = (0 : Int32)) := own_ent3_1
    refine Own.ifF hx (Own.z_eq (fE1 ((ofL [y0, y1, y2]).getD 1 9).toInt32 y0 y1 y2 y3 y4 y5)) (hb hby at_217) (pcN := 220) rfl (by decide) (pcT := 276) rfl (fun q => absurd q hc156) (fun _ => ?_)
    refine Own.aload hx (.ref r145) (hb hby at_220) rfl rfl rfl ?_
    refine Own.iload hx (3 : Int32) (hb hby at_222) rfl rfl ?_
    refine Own.aload hx (.ref a1) (hb hby at_224) rfl rfl rfl ?_
    refine Own.iconst hx (2 : Int32) (hb hby at_226) rfl (by decide) ?_
    have O158 : Own.Owns n0 h146 ((a1, Own.ArrC Z .char [(.int y0), (.int y1), (.int y2), (.int y3), (.int y4), (.int y5)]) :: (r145, Own.ArrC Z .int ((ofL [y0, y1, y2]).map gI)) :: (a124, Own.ArrC Z .char [(.int y0), (.int y1), (.int y2)]) :: []) := O155.pick 1 rfl
    have O159 : Own.Owns n0 h146 ((r145, Own.ArrC Z .int ((ofL [y0, y1, y2]).map gI)) :: (a1, Own.ArrC Z .char [(.int y0), (.int y1), (.int y2), (.int y3), (.int y4), (.int y5)]) :: (a124, Own.ArrC Z .char [(.int y0), (.int y1), (.int y2)]) :: []) := O158.pick 1 rfl
    refine Own.callS hx hZ hown (hw _ (List.mem_of_getElem? (i := 11) rfl)) (hw _ (List.mem_of_getElem? (i := 12) rfl)) (hw _ (List.mem_of_getElem? (i := 4) rfl)) (hw _ (List.mem_of_getElem? (i := 13) rfl)) (by decide) pd4 (argsL := [(.ref r145), (.int (3 : Int32)), (.ref a1), (.int (2 : Int32))]) (rest := []) rfl (W := 0) (Nat.le_of_eq rfl) (rm := ({ frames := 2, cells := 0, slots := 0, locals := 36 } : Room)) (by decide) (by decide) (by decide) (by decide) (k' := 3) (n' := 15) rfl rfl (by rw [hml]; rfl) [(.int (2 : Int32)), (.ref a1), (.int (3 : Int32)), (.ref r145)] rfl (hb hby at_227) (pc' := 230) rfl (rm3_b2 l Z a0 hw r145 (3 : Int32) a1 h146 n0 _ ((ofL [y0, y1, y2]).getD 2 9).toInt32 y0 y1 y2 y3 y4 y5 ((a124, Own.ArrC Z .char [(.int y0), (.int y1), (.int y2)]) :: []) O159 (by decide) (own_at (by rw [of_len]; exact (show 2 < 3 by decide)))) ?_
    rintro _ h' ⟨rfl, eh⟩
    rw [eh]; clear eh h'
    show Own.Goes _ _ _ _ _ _ _ _ _ _ _ _ _ _ _ _ _ (mkF m 230 #[.val (.int p0), .val (.int p1), .val (.int p2), .val (.int p3), .val (.int p4), .val (.int (3 : Int32)), .val (.ref a1), .val (.ref a124), .val (.ref r145)] [(.int (fE2 ((ofL [y0, y1, y2]).getD 2 9).toInt32 y0 y1 y2 y3 y4 y5))])
    have hc160 : ¬ ((fE2 ((ofL [y0, y1, y2]).getD 2 9).toInt32 y0 y1 y2 y3 y4 y5) = (0 : Int32)) := own_ent3_2
    refine Own.ifF hx (Own.z_eq (fE2 ((ofL [y0, y1, y2]).getD 2 9).toInt32 y0 y1 y2 y3 y4 y5)) (hb hby at_230) (pcN := 233) rfl (by decide) (pcT := 276) rfl (fun q => absurd q hc160) (fun _ => ?_)
    refine Own.aload hx (.ref r145) (hb hby at_233) rfl rfl rfl ?_
    refine Own.iload hx (3 : Int32) (hb hby at_235) rfl rfl ?_
    refine Own.aload hx (.ref a1) (hb hby at_237) rfl rfl rfl ?_
    refine Own.iconst hx (3 : Int32) (hb hby at_239) rfl (by decide) ?_
    refine Own.callS hx hZ hown (hw _ (List.mem_of_getElem? (i := 11) rfl)) (hw _ (List.mem_of_getElem? (i := 12) rfl)) (hw _ (List.mem_of_getElem? (i := 4) rfl)) (hw _ (List.mem_of_getElem? (i := 13) rfl)) (by decide) pd4 (argsL := [(.ref r145), (.int (3 : Int32)), (.ref a1), (.int (3 : Int32))]) (rest := []) rfl (W := 0) (Nat.le_of_eq rfl) (rm := ({ frames := 0, cells := 0, slots := 0, locals := 0 } : Room)) (by decide) (by decide) (by decide) (by decide) (k' := 3) (n' := 15) rfl rfl (by rw [hml]; rfl) [(.int (3 : Int32)), (.ref a1), (.int (3 : Int32)), (.ref r145)] rfl (hb hby at_240) (pc' := 243) rfl (rm3_a3 l Z a0 hw r145 (3 : Int32) a1 h146 n0 (by decide)) ?_
    rintro _ h' ⟨rfl, eh⟩
    rw [eh]; clear eh h'
    show Own.Goes _ _ _ _ _ _ _ _ _ _ _ _ _ _ _ _ _ (mkF m 243 #[.val (.int p0), .val (.int p1), .val (.int p2), .val (.int p3), .val (.int p4), .val (.int (3 : Int32)), .val (.ref a1), .val (.ref a124), .val (.ref r145)] [(.int (1 : Int32))])
    have hc162 : ¬ ((1 : Int32) = (0 : Int32)) := by decide
    refine Own.ifF hx (Own.z_eq (1 : Int32)) (hb hby at_243) (pcN := 246) rfl (by decide) (pcT := 276) rfl (fun q => absurd q hc162) (fun _ => ?_)
    refine Own.aload hx (.ref r145) (hb hby at_246) rfl rfl rfl ?_
    refine Own.iload hx (3 : Int32) (hb hby at_248) rfl rfl ?_
    refine Own.aload hx (.ref a1) (hb hby at_250) rfl rfl rfl ?_
    refine Own.iconst hx (4 : Int32) (hb hby at_252) rfl (by decide) ?_
    refine Own.callS hx hZ hown (hw _ (List.mem_of_getElem? (i := 11) rfl)) (hw _ (List.mem_of_getElem? (i := 12) rfl)) (hw _ (List.mem_of_getElem? (i := 4) rfl)) (hw _ (List.mem_of_getElem? (i := 13) rfl)) (by decide) pd4 (argsL := [(.ref r145), (.int (3 : Int32)), (.ref a1), (.int (4 : Int32))]) (rest := []) rfl (W := 0) (Nat.le_of_eq rfl) (rm := ({ frames := 0, cells := 0, slots := 0, locals := 0 } : Room)) (by decide) (by decide) (by decide) (by decide) (k' := 3) (n' := 15) rfl rfl (by rw [hml]; rfl) [(.int (4 : Int32)), (.ref a1), (.int (3 : Int32)), (.ref r145)] rfl (hb hby at_253) (pc' := 256) rfl (rm3_a4 l Z a0 hw r145 (3 : Int32) a1 h146 n0 (by decide)) ?_
    rintro _ h' ⟨rfl, eh⟩
    rw [eh]; clear eh h'
    show Own.Goes _ _ _ _ _ _ _ _ _ _ _ _ _ _ _ _ _ (mkF m 256 #[.val (.int p0), .val (.int p1), .val (.int p2), .val (.int p3), .val (.int p4), .val (.int (3 : Int32)), .val (.ref a1), .val (.ref a124), .val (.ref r145)] [(.int (1 : Int32))])
    have hc164 : ¬ ((1 : Int32) = (0 : Int32)) := by decide
    refine Own.ifF hx (Own.z_eq (1 : Int32)) (hb hby at_256) (pcN := 259) rfl (by decide) (pcT := 276) rfl (fun q => absurd q hc164) (fun _ => ?_)
    refine Own.aload hx (.ref r145) (hb hby at_259) rfl rfl rfl ?_
    refine Own.iload hx (3 : Int32) (hb hby at_261) rfl rfl ?_
    refine Own.aload hx (.ref a1) (hb hby at_263) rfl rfl rfl ?_
    refine Own.iconst hx (5 : Int32) (hb hby at_265) rfl (by decide) ?_
    refine Own.callS hx hZ hown (hw _ (List.mem_of_getElem? (i := 11) rfl)) (hw _ (List.mem_of_getElem? (i := 12) rfl)) (hw _ (List.mem_of_getElem? (i := 4) rfl)) (hw _ (List.mem_of_getElem? (i := 13) rfl)) (by decide) pd4 (argsL := [(.ref r145), (.int (3 : Int32)), (.ref a1), (.int (5 : Int32))]) (rest := []) rfl (W := 0) (Nat.le_of_eq rfl) (rm := ({ frames := 0, cells := 0, slots := 0, locals := 0 } : Room)) (by decide) (by decide) (by decide) (by decide) (k' := 3) (n' := 15) rfl rfl (by rw [hml]; rfl) [(.int (5 : Int32)), (.ref a1), (.int (3 : Int32)), (.ref r145)] rfl (hb hby at_266) (pc' := 269) rfl (rm3_a5 l Z a0 hw r145 (3 : Int32) a1 h146 n0 (by decide)) ?_
    rintro _ h' ⟨rfl, eh⟩
    rw [eh]; clear eh h'
    show Own.Goes _ _ _ _ _ _ _ _ _ _ _ _ _ _ _ _ _ (mkF m 269 #[.val (.int p0), .val (.int p1), .val (.int p2), .val (.int p3), .val (.int p4), .val (.int (3 : Int32)), .val (.ref a1), .val (.ref a124), .val (.ref r145)] [(.int (1 : Int32))])
    have hc166 : ¬ ((1 : Int32) = (0 : Int32)) := by decide
    refine Own.ifF hx (Own.z_eq (1 : Int32)) (hb hby at_269) (pcN := 272) rfl (by decide) (pcT := 276) rfl (fun q => absurd q hc166) (fun _ => ?_)
    refine Own.iconst hx (1 : Int32) (hb hby at_272) rfl (by decide) ?_
    refine Own.goto hx (hb hby at_273) (by decide) (pc' := 277) rfl ?_
    exact Own.retS hx hret (by simp) hlk (hb hby at_277) (by decide) (by decide) (Own.bool1 rfl)
  · subst q
    refine Own.iload hx (4 : Int32) (hb hby at_88) rfl rfl ?_
    refine Own.newarr hx hZ O15 (aty := .char) (hw _ (List.mem_of_getElem? (i := 1) rfl)) 4 (by decide) [(.int (0 : Int32)), (.int (0 : Int32)), (.int (0 : Int32)), (.int (0 : Int32))] rfl rfl (cap := 4) (by decide) (by decide) (k' := 2) (n' := 10) rfl rfl (by decide) (by decide) (hb hby at_90) (pc' := 92) rfl ?_
    intro a168 h169 O170
    refine Own.astore hx #[.val (.int p0), .val (.int p1), .val (.int p2), .val (.int p3), .val (.int p4), .val (.int (4 : Int32)), .val (.ref a1), .val (.ref a168), .unset] (hb hby at_92) rfl rfl rfl ?_
    refine Own.iload hx (4 : Int32) (hb hby at_94) rfl rfl ?_
    have hc171 : (0 : Int32) < (4 : Int32) := by decide
    refine Own.ifFn hx (Own.z_le (4 : Int32)) (hb hby at_96) (pcN := 99) rfl (by decide) (pcT := 107) rfl (fun q => absurd hc171 q) (fun _ => ?_)
    refine Own.aload hx (.ref a168) (hb hby at_99) rfl rfl rfl ?_
    refine Own.iconst hx (0 : Int32) (hb hby at_101) rfl (by decide) ?_
    refine Own.aload hx (.ref a1) (hb hby at_102) rfl rfl rfl ?_
    refine Own.iconst hx (0 : Int32) (hb hby at_104) rfl (by decide) ?_
    refine Own.caload hx hZ O170 1 0 rfl (by decide) (v := (.int y0)) rfl (hb hby at_105) rfl ?_
    refine Own.castore hx hZ O170 0 0 rfl (by decide) (by exact (show 0 < 4 by decide)) ((a168, Own.ArrC Z .char [(.int y0), (.int (0 : Int32)), (.int (0 : Int32)), (.int (0 : Int32))]) :: (a1, Own.ArrC Z .char [(.int y0), (.int y1), (.int y2), (.int y3), (.int y4), (.int y5)]) :: []) (by rw [own_idem h_y0]; rfl) (hb hby at_106) rfl ?_
    intro h173 O174
    refine Own.iload hx (4 : Int32) (hb hby at_107) rfl rfl ?_
    refine Own.iconst hx (1 : Int32) (hb hby at_109) rfl (by decide) ?_
    have hc175 : (1 : Int32) < (4 : Int32) := by decide
    refine Own.icmpFn hx (Own.q_le (4 : Int32) (1 : Int32)) (hb hby at_110) (pcN := 113) rfl (by decide) (pcT := 121) rfl (fun q => absurd hc175 q) (fun _ => ?_)
    refine Own.aload hx (.ref a168) (hb hby at_113) rfl rfl rfl ?_
    refine Own.iconst hx (1 : Int32) (hb hby at_115) rfl (by decide) ?_
    refine Own.aload hx (.ref a1) (hb hby at_116) rfl rfl rfl ?_
    refine Own.iconst hx (1 : Int32) (hb hby at_118) rfl (by decide) ?_
    refine Own.caload hx hZ O174 1 1 rfl (by decide) (v := (.int y1)) rfl (hb hby at_119) rfl ?_
    refine Own.castore hx hZ O174 0 1 rfl (by decide) (by exact (show 1 < 4 by decide)) ((a168, Own.ArrC Z .char [(.int y0), (.int y1), (.int (0 : Int32)), (.int (0 : Int32))]) :: (a1, Own.ArrC Z .char [(.int y0), (.int y1), (.int y2), (.int y3), (.int y4), (.int y5)]) :: []) (by rw [own_idem h_y1]; rfl) (hb hby at_120) rfl ?_
    intro h177 O178
    refine Own.iload hx (4 : Int32) (hb hby at_121) rfl rfl ?_
    refine Own.iconst hx (2 : Int32) (hb hby at_123) rfl (by decide) ?_
    have hc179 : (2 : Int32) < (4 : Int32) := by decide
    refine Own.icmpFn hx (Own.q_le (4 : Int32) (2 : Int32)) (hb hby at_124) (pcN := 127) rfl (by decide) (pcT := 135) rfl (fun q => absurd hc179 q) (fun _ => ?_)
    refine Own.aload hx (.ref a168) (hb hby at_127) rfl rfl rfl ?_
    refine Own.iconst hx (2 : Int32) (hb hby at_129) rfl (by decide) ?_
    refine Own.aload hx (.ref a1) (hb hby at_130) rfl rfl rfl ?_
    refine Own.iconst hx (2 : Int32) (hb hby at_132) rfl (by decide) ?_
    refine Own.caload hx hZ O178 1 2 rfl (by decide) (v := (.int y2)) rfl (hb hby at_133) rfl ?_
    refine Own.castore hx hZ O178 0 2 rfl (by decide) (by exact (show 2 < 4 by decide)) ((a168, Own.ArrC Z .char [(.int y0), (.int y1), (.int y2), (.int (0 : Int32))]) :: (a1, Own.ArrC Z .char [(.int y0), (.int y1), (.int y2), (.int y3), (.int y4), (.int y5)]) :: []) (by rw [own_idem h_y2]; rfl) (hb hby at_134) rfl ?_
    intro h181 O182
    refine Own.iload hx (4 : Int32) (hb hby at_135) rfl rfl ?_
    refine Own.iconst hx (3 : Int32) (hb hby at_137) rfl (by decide) ?_
    have hc183 : (3 : Int32) < (4 : Int32) := by decide
    refine Own.icmpFn hx (Own.q_le (4 : Int32) (3 : Int32)) (hb hby at_138) (pcN := 141) rfl (by decide) (pcT := 149) rfl (fun q => absurd hc183 q) (fun _ => ?_)
    refine Own.aload hx (.ref a168) (hb hby at_141) rfl rfl rfl ?_
    refine Own.iconst hx (3 : Int32) (hb hby at_143) rfl (by decide) ?_
    refine Own.aload hx (.ref a1) (hb hby at_144) rfl rfl rfl ?_
    refine Own.iconst hx (3 : Int32) (hb hby at_146) rfl (by decide) ?_
    refine Own.caload hx hZ O182 1 3 rfl (by decide) (v := (.int y3)) rfl (hb hby at_147) rfl ?_
    refine Own.castore hx hZ O182 0 3 rfl (by decide) (by exact (show 3 < 4 by decide)) ((a168, Own.ArrC Z .char [(.int y0), (.int y1), (.int y2), (.int y3)]) :: (a1, Own.ArrC Z .char [(.int y0), (.int y1), (.int y2), (.int y3), (.int y4), (.int y5)]) :: []) (by rw [own_idem h_y3]; rfl) (hb hby at_148) rfl ?_
    intro h185 O186
    refine Own.iload hx (4 : Int32) (hb hby at_149) rfl rfl ?_
    refine Own.iconst hx (4 : Int32) (hb hby at_151) rfl (by decide) ?_
    have hc187 : ¬ ((4 : Int32) < (4 : Int32)) := by decide
    refine Own.icmpFn hx (Own.q_le (4 : Int32) (4 : Int32)) (hb hby at_152) (pcN := 155) rfl (by decide) (pcT := 163) rfl (fun _ => ?_) (fun q => absurd q hc187)
    refine Own.iload hx (4 : Int32) (hb hby at_163) rfl rfl ?_
    refine Own.iconst hx (5 : Int32) (hb hby at_165) rfl (by decide) ?_
    have hc189 : ¬ ((5 : Int32) < (4 : Int32)) := by decide
    refine Own.icmpFn hx (Own.q_le (4 : Int32) (5 : Int32)) (hb hby at_166) (pcN := 169) rfl (by decide) (pcT := 177) rfl (fun _ => ?_) (fun q => absurd q hc189)
    refine Own.aload hx (.ref a168) (hb hby at_177) rfl rfl rfl ?_
    refine Own.callS hx hZ hown (hw _ (List.mem_of_getElem? (i := 6) rfl)) (hw _ (List.mem_of_getElem? (i := 7) rfl)) (hw _ (List.mem_of_getElem? (i := 8) rfl)) (hw _ (List.mem_of_getElem? (i := 9) rfl)) (by decide) pd3 (argsL := [(.ref a168)]) (rest := []) rfl (W := 0) (Nat.le_of_eq rfl) (rm := ({ frames := 0, cells := 1, slots := 6, locals := 0 } : Room)) (by decide) (by decide) (by decide) (by decide) (k' := 3) (n' := 16) rfl rfl (by rw [hml]; rfl) [(.ref a168)] rfl (hb hby at_179) (pc' := 182) rfl (rm2 l Z a0 hw a168 h185 n0 [y0, y1, y2, y3] (by exact (show 4 ≤ 6 by decide)) ((a1, Own.ArrC Z .char [(.int y0), (.int y1), (.int y2), (.int y3), (.int y4), (.int y5)]) :: []) O186) ?_
    rintro _ h192 ⟨r191, rfl, O193⟩
    show Own.Goes _ _ _ _ _ _ _ _ _ _ _ _ _ _ _ _ _ (mkF m 182 #[.val (.int p0), .val (.int p1), .val (.int p2), .val (.int p3), .val (.int p4), .val (.int (4 : Int32)), .val (.ref a1), .val (.ref a168), .unset] [(.ref r191)])
    refine Own.astore hx #[.val (.int p0), .val (.int p1), .val (.int p2), .val (.int p3), .val (.int p4), .val (.int (4 : Int32)), .val (.ref a1), .val (.ref a168), .val (.ref r191)] (hb hby at_182) rfl rfl rfl ?_
    refine Own.aload hx (.ref r191) (hb hby at_184) rfl rfl rfl ?_
    refine Own.arrlen hx hZ O193 0 rfl (4 : Int32) (by rw [List.length_map, of_len]; rfl) (hb hby at_186) rfl ?_
    refine Own.iload hx (4 : Int32) (hb hby at_187) rfl rfl ?_
    have hc194 : (4 : Int32) = (4 : Int32) := by decide
    refine Own.icmpF hx (Own.q_eq (4 : Int32) (4 : Int32)) (hb hby at_189) (pcN := 192) rfl (by decide) (pcT := 194) rfl (fun _ => ?_) (fun q => absurd hc194 q)
    refine Own.aload hx (.ref r191) (hb hby at_194) rfl rfl rfl ?_
    refine Own.iload hx (4 : Int32) (hb hby at_196) rfl rfl ?_
    refine Own.aload hx (.ref a1) (hb hby at_198) rfl rfl rfl ?_
    refine Own.iconst hx (0 : Int32) (hb hby at_200) rfl (by decide) ?_
    have O196 : Own.Owns n0 h192 ((a1, Own.ArrC Z .char [(.int y0), (.int y1), (.int y2), (.int y3), (.int y4), (.int y5)]) :: (r191, Own.ArrC Z .int ((ofL [y0, y1, y2, y3]).map gI)) :: (a168, Own.ArrC Z .char [(.int y0), (.int y1), (.int y2), (.int y3)]) :: []) := O193.pick 2 rfl
    have O197 : Own.Owns n0 h192 ((r191, Own.ArrC Z .int ((ofL [y0, y1, y2, y3]).map gI)) :: (a1, Own.ArrC Z .char [(.int y0), (.int y1), (.int y2), (.int y3), (.int y4), (.int y5)]) :: (a168, Own.ArrC Z .char [(.int y0), (.int y1), (.int y2), (.int y3)]) :: []) := O196.pick 1 rfl
    refine Own.callS hx hZ hown (hw _ (List.mem_of_getElem? (i := 11) rfl)) (hw _ (List.mem_of_getElem? (i := 12) rfl)) (hw _ (List.mem_of_getElem? (i := 4) rfl)) (hw _ (List.mem_of_getElem? (i := 13) rfl)) (by decide) pd4 (argsL := [(.ref r191), (.int (4 : Int32)), (.ref a1), (.int (0 : Int32))]) (rest := []) rfl (W := 0) (Nat.le_of_eq rfl) (rm := ({ frames := 2, cells := 0, slots := 0, locals := 36 } : Room)) (by decide) (by decide) (by decide) (by decide) (k' := 3) (n' := 16) rfl rfl (by rw [hml]; rfl) [(.int (0 : Int32)), (.ref a1), (.int (4 : Int32)), (.ref r191)] rfl (hb hby at_201) (pc' := 204) rfl (rm3_b0 l Z a0 hw r191 (4 : Int32) a1 h192 n0 _ ((ofL [y0, y1, y2, y3]).getD 0 9).toInt32 y0 y1 y2 y3 y4 y5 ((a168, Own.ArrC Z .char [(.int y0), (.int y1), (.int y2), (.int y3)]) :: []) O197 (by decide) (own_at (by rw [of_len]; exact (show 0 < 4 by decide)))) ?_
    rintro _ h' ⟨rfl, eh⟩
    rw [eh]; clear eh h'
    show Own.Goes _ _ _ _ _ _ _ _ _ _ _ _ _ _ _ _ _ (mkF m 204 #[.val (.int p0), .val (.int p1), .val (.int p2), .val (.int p3), .val (.int p4), .val (.int (4 : Int32)), .val (.ref a1), .val (.ref a168), .val (.ref r191)] [(.int (fE0 ((ofL [y0, y1, y2, y3]).getD 0 9).toInt32 y0 y1 y2 y3 y4 y5))])
    have hc198 : ¬ ((fE0 ((ofL [y0, y1, y2, y3]).getD 0 9).toInt32 y0 y1 y2 y3 y4 y5) = (0 : Int32)) := own_ent4_0
    refine Own.ifF hx (Own.z_eq (fE0 ((ofL [y0, y1, y2, y3]).getD 0 9).toInt32 y0 y1 y2 y3 y4 y5)) (hb hby at_204) (pcN := 207) rfl (by decide) (pcT := 276) rfl (fun q => absurd q hc198) (fun _ => ?_)
    refine Own.aload hx (.ref r191) (hb hby at_207) rfl rfl rfl ?_
    refine Own.iload hx (4 : Int32) (hb hby at_209) rfl rfl ?_
    refine Own.aload hx (.ref a1) (hb hby at_211) rfl rfl rfl ?_
    refine Own.iconst hx (1 : Int32) (hb hby at_213) rfl (by decide) ?_
    have O200 : Own.Owns n0 h192 ((a1, Own.ArrC Z .char [(.int y0), (.int y1), (.int y2), (.int y3), (.int y4), (.int y5)]) :: (r191, Own.ArrC Z .int ((ofL [y0, y1, y2, y3]).map gI)) :: (a168, Own.ArrC Z .char [(.int y0), (.int y1), (.int y2), (.int y3)]) :: []) := O197.pick 1 rfl
    have O201 : Own.Owns n0 h192 ((r191, Own.ArrC Z .int ((ofL [y0, y1, y2, y3]).map gI)) :: (a1, Own.ArrC Z .char [(.int y0), (.int y1), (.int y2), (.int y3), (.int y4), (.int y5)]) :: (a168, Own.ArrC Z .char [(.int y0), (.int y1), (.int y2), (.int y3)]) :: []) := O200.pick 1 rfl
    refine Own.callS hx hZ hown (hw _ (List.mem_of_getElem? (i := 11) rfl)) (hw _ (List.mem_of_getElem? (i := 12) rfl)) (hw _ (List.mem_of_getElem? (i := 4) rfl)) (hw _ (List.mem_of_getElem? (i := 13) rfl)) (by decide) pd4 (argsL := [(.ref r191), (.int (4 : Int32)), (.ref a1), (.int (1 : Int32))]) (rest := []) rfl (W := 0) (Nat.le_of_eq rfl) (rm := ({ frames := 2, cells := 0, slots := 0, locals := 36 } : Room)) (by decide) (by decide) (by decide) (by decide) (k' := 3) (n' := 16) rfl rfl (by rw [hml]; rfl) [(.int (1 : Int32)), (.ref a1), (.int (4 : Int32)), (.ref r191)] rfl (hb hby at_214) (pc' := 217) rfl (rm3_b1 l Z a0 hw r191 (4 : Int32) a1 h192 n0 _ ((ofL [y0, y1, y2, y3]).getD 1 9).toInt32 y0 y1 y2 y3 y4 y5 ((a168, Own.ArrC Z .char [(.int y0), (.int y1), (.int y2), (.int y3)]) :: []) O201 (by decide) (own_at (by rw [of_len]; exact (show 1 < 4 by decide)))) ?_
    rintro _ h' ⟨rfl, eh⟩
    rw [eh]; clear eh h'
    show Own.Goes _ _ _ _ _ _ _ _ _ _ _ _ _ _ _ _ _ (mkF m 217 #[.val (.int p0), .val (.int p1), .val (.int p2), .val (.int p3), .val (.int p4), .val (.int (4 : Int32)), .val (.ref a1), .val (.ref a168), .val (.ref r191)] [(.int (fE1 ((ofL [y0, y1, y2, y3]).getD 1 9).toInt32 y0 y1 y2 y3 y4 y5))])
    have hc202 : ¬ ((fE1 ((ofL [y0, y1, y2, y3]).getD 1 9).toInt32 y0 y1 y2 y3 y4 y5) = (0 : Int32)) := own_ent4_1
    refine Own.ifF hx (Own.z_eq (fE1 ((ofL [y0, y1, y2, y3]).getD 1 9).toInt32 y0 y1 y2 y3 y4 y5)) (hb hby at_217) (pcN := 220) rfl (by decide) (pcT := 276) rfl (fun q => absurd q hc202) (fun _ => ?_)
    refine Own.aload hx (.ref r191) (hb hby at_220) rfl rfl rfl ?_
    refine Own.iload hx (4 : Int32) (hb hby at_222) rfl rfl ?_
    refine Own.aload hx (.ref a1) (hb hby at_224) rfl rfl rfl ?_
    refine Own.iconst hx (2 : Int32) (hb hby at_226) rfl (by decide) ?_
    have O204 : Own.Owns n0 h192 ((a1, Own.ArrC Z .char [(.int y0), (.int y1), (.int y2), (.int y3), (.int y4), (.int y5)]) :: (r191, Own.ArrC Z .int ((ofL [y0, y1, y2, y3]).map gI)) :: (a168, Own.ArrC Z .char [(.int y0), (.int y1), (.int y2), (.int y3)]) :: []) := O201.pick 1 rfl
    have O205 : Own.Owns n0 h192 ((r191, Own.ArrC Z .int ((ofL [y0, y1, y2, y3]).map gI)) :: (a1, Own.ArrC Z .char [(.int y0), (.int y1), (.int y2), (.int y3), (.int y4), (.int y5)]) :: (a168, Own.ArrC Z .char [(.int y0), (.int y1), (.int y2), (.int y3)]) :: []) := O204.pick 1 rfl
    refine Own.callS hx hZ hown (hw _ (List.mem_of_getElem? (i := 11) rfl)) (hw _ (List.mem_of_getElem? (i := 12) rfl)) (hw _ (List.mem_of_getElem? (i := 4) rfl)) (hw _ (List.mem_of_getElem? (i := 13) rfl)) (by decide) pd4 (argsL := [(.ref r191), (.int (4 : Int32)), (.ref a1), (.int (2 : Int32))]) (rest := []) rfl (W := 0) (Nat.le_of_eq rfl) (rm := ({ frames := 2, cells := 0, slots := 0, locals := 36 } : Room)) (by decide) (by decide) (by decide) (by decide) (k' := 3) (n' := 16) rfl rfl (by rw [hml]; rfl) [(.int (2 : Int32)), (.ref a1), (.int (4 : Int32)), (.ref r191)] rfl (hb hby at_227) (pc' := 230) rfl (rm3_b2 l Z a0 hw r191 (4 : Int32) a1 h192 n0 _ ((ofL [y0, y1, y2, y3]).getD 2 9).toInt32 y0 y1 y2 y3 y4 y5 ((a168, Own.ArrC Z .char [(.int y0), (.int y1), (.int y2), (.int y3)]) :: []) O205 (by decide) (own_at (by rw [of_len]; exact (show 2 < 4 by decide)))) ?_
    rintro _ h' ⟨rfl, eh⟩
    rw [eh]; clear eh h'
    show Own.Goes _ _ _ _ _ _ _ _ _ _ _ _ _ _ _ _ _ (mkF m 230 #[.val (.int p0), .val (.int p1), .val (.int p2), .val (.int p3), .val (.int p4), .val (.int (4 : Int32)), .val (.ref a1), .val (.ref a168), .val (.ref r191)] [(.int (fE2 ((ofL [y0, y1, y2, y3]).getD 2 9).toInt32 y0 y1 y2 y3 y4 y5))])
    have hc206 : ¬ ((fE2 ((ofL [y0, y1, y2, y3]).getD 2 9).toInt32 y0 y1 y2 y3 y4 y5) = (0 : Int32)) := own_ent4_2
    refine Own.ifF hx (Own.z_eq (fE2 ((ofL [y0, y1, y2, y3]).getD 2 9).toInt32 y0 y1 y2 y3 y4 y5)) (hb hby at_230) (pcN := 233) rfl (by decide) (pcT := 276) rfl (fun q => absurd q hc206) (fun _ => ?_)
    refine Own.aload hx (.ref r191) (hb hby at_233) rfl rfl rfl ?_
    refine Own.iload hx (4 : Int32) (hb hby at_235) rfl rfl ?_
    refine Own.aload hx (.ref a1) (hb hby at_237) rfl rfl rfl ?_
    refine Own.iconst hx (3 : Int32) (hb hby at_239) rfl (by decide) ?_
    have O208 : Own.Owns n0 h192 ((a1, Own.ArrC Z .char [(.int y0), (.int y1), (.int y2), (.int y3), (.int y4), (.int y5)]) :: (r191, Own.ArrC Z .int ((ofL [y0, y1, y2, y3]).map gI)) :: (a168, Own.ArrC Z .char [(.int y0), (.int y1), (.int y2), (.int y3)]) :: []) := O205.pick 1 rfl
    have O209 : Own.Owns n0 h192 ((r191, Own.ArrC Z .int ((ofL [y0, y1, y2, y3]).map gI)) :: (a1, Own.ArrC Z .char [(.int y0), (.int y1), (.int y2), (.int y3), (.int y4), (.int y5)]) :: (a168, Own.ArrC Z .char [(.int y0), (.int y1), (.int y2), (.int y3)]) :: []) := O208.pick 1 rfl
    refine Own.callS hx hZ hown (hw _ (List.mem_of_getElem? (i := 11) rfl)) (hw _ (List.mem_of_getElem? (i := 12) rfl)) (hw _ (List.mem_of_getElem? (i := 4) rfl)) (hw _ (List.mem_of_getElem? (i := 13) rfl)) (by decide) pd4 (argsL := [(.ref r191), (.int (4 : Int32)), (.ref a1), (.int (3 : Int32))]) (rest := []) rfl (W := 0) (Nat.le_of_eq rfl) (rm := ({ frames := 2, cells := 0, slots := 0, locals := 36 } : Room)) (by decide) (by decide) (by decide) (by decide) (k' := 3) (n' := 16) rfl rfl (by rw [hml]; rfl) [(.int (3 : Int32)), (.ref a1), (.int (4 : Int32)), (.ref r191)] rfl (hb hby at_240) (pc' := 243) rfl (rm3_b3 l Z a0 hw r191 (4 : Int32) a1 h192 n0 _ ((ofL [y0, y1, y2, y3]).getD 3 9).toInt32 y0 y1 y2 y3 y4 y5 ((a168, Own.ArrC Z .char [(.int y0), (.int y1), (.int y2), (.int y3)]) :: []) O209 (by decide) (own_at (by rw [of_len]; exact (show 3 < 4 by decide)))) ?_
    rintro _ h' ⟨rfl, eh⟩
    rw [eh]; clear eh h'
    show Own.Goes _ _ _ _ _ _ _ _ _ _ _ _ _ _ _ _ _ (mkF m 243 #[.val (.int p0), .val (.int p1), .val (.int p2), .val (.int p3), .val (.int p4), .val (.int (4 : Int32)), .val (.ref a1), .val (.ref a168), .val (.ref r191)] [(.int (fE3 ((ofL [y0, y1, y2, y3]).getD 3 9).toInt32 y0 y1 y2 y3 y4 y5))])
    have hc210 : ¬ ((fE3 ((ofL [y0, y1, y2, y3]).getD 3 9).toInt32 y0 y1 y2 y3 y4 y5) = (0 : Int32)) := own_ent4_3
    refine Own.ifF hx (Own.z_eq (fE3 ((ofL [y0, y1, y2, y3]).getD 3 9).toInt32 y0 y1 y2 y3 y4 y5)) (hb hby at_243) (pcN := 246) rfl (by decide) (pcT := 276) rfl (fun q => absurd q hc210) (fun _ => ?_)
    refine Own.aload hx (.ref r191) (hb hby at_246) rfl rfl rfl ?_
    refine Own.iload hx (4 : Int32) (hb hby at_248) rfl rfl ?_
    refine Own.aload hx (.ref a1) (hb hby at_250) rfl rfl rfl ?_
    refine Own.iconst hx (4 : Int32) (hb hby at_252) rfl (by decide) ?_
    refine Own.callS hx hZ hown (hw _ (List.mem_of_getElem? (i := 11) rfl)) (hw _ (List.mem_of_getElem? (i := 12) rfl)) (hw _ (List.mem_of_getElem? (i := 4) rfl)) (hw _ (List.mem_of_getElem? (i := 13) rfl)) (by decide) pd4 (argsL := [(.ref r191), (.int (4 : Int32)), (.ref a1), (.int (4 : Int32))]) (rest := []) rfl (W := 0) (Nat.le_of_eq rfl) (rm := ({ frames := 0, cells := 0, slots := 0, locals := 0 } : Room)) (by decide) (by decide) (by decide) (by decide) (k' := 3) (n' := 16) rfl rfl (by rw [hml]; rfl) [(.int (4 : Int32)), (.ref a1), (.int (4 : Int32)), (.ref r191)] rfl (hb hby at_253) (pc' := 256) rfl (rm3_a4 l Z a0 hw r191 (4 : Int32) a1 h192 n0 (by decide)) ?_
    rintro _ h' ⟨rfl, eh⟩
    rw [eh]; clear eh h'
    show Own.Goes _ _ _ _ _ _ _ _ _ _ _ _ _ _ _ _ _ (mkF m 256 #[.val (.int p0), .val (.int p1), .val (.int p2), .val (.int p3), .val (.int p4), .val (.int (4 : Int32)), .val (.ref a1), .val (.ref a168), .val (.ref r191)] [(.int (1 : Int32))])
    have hc212 : ¬ ((1 : Int32) = (0 : Int32)) := by decide
    refine Own.ifF hx (Own.z_eq (1 : Int32)) (hb hby at_256) (pcN := 259) rfl (by decide) (pcT := 276) rfl (fun q => absurd q hc212) (fun _ => ?_)
    refine Own.aload hx (.ref r191) (hb hby at_259) rfl rfl rfl ?_
    refine Own.iload hx (4 : Int32) (hb hby at_261) rfl rfl ?_
    refine Own.aload hx (.ref a1) (hb hby at_263) rfl rfl rfl ?_
    refine Own.iconst hx (5 : Int32) (hb hby at_265) rfl (by decide) ?_
    refine Own.callS hx hZ hown (hw _ (List.mem_of_getElem? (i := 11) rfl)) (hw _ (List.mem_of_getElem? (i := 12) rfl)) (hw _ (List.mem_of_getElem? (i := 4) rfl)) (hw _ (List.mem_of_getElem? (i := 13) rfl)) (by decide) pd4 (argsL := [(.ref r191), (.int (4 : Int32)), (.ref a1), (.int (5 : Int32))]) (rest := []) rfl (W := 0) (Nat.le_of_eq rfl) (rm := ({ frames := 0, cells := 0, slots := 0, locals := 0 } : Room)) (by decide) (by decide) (by decide) (by decide) (k' := 3) (n' := 16) rfl rfl (by rw [hml]; rfl) [(.int (5 : Int32)), (.ref a1), (.int (4 : Int32)), (.ref r191)] rfl (hb hby at_266) (pc' := 269) rfl (rm3_a5 l Z a0 hw r191 (4 : Int32) a1 h192 n0 (by decide)) ?_
    rintro _ h' ⟨rfl, eh⟩
    rw [eh]; clear eh h'
    show Own.Goes _ _ _ _ _ _ _ _ _ _ _ _ _ _ _ _ _ (mkF m 269 #[.val (.int p0), .val (.int p1), .val (.int p2), .val (.int p3), .val (.int p4), .val (.int (4 : Int32)), .val (.ref a1), .val (.ref a168), .val (.ref r191)] [(.int (1 : Int32))])
    have hc214 : ¬ ((1 : Int32) = (0 : Int32)) := by decide
    refine Own.ifF hx (Own.z_eq (1 : Int32)) (hb hby at_269) (pcN := 272) rfl (by decide) (pcT := 276) rfl (fun q => absurd q hc214) (fun _ => ?_)
    refine Own.iconst hx (1 : Int32) (hb hby at_272) rfl (by decide) ?_
    refine Own.goto hx (hb hby at_273) (by decide) (pc' := 277) rfl ?_
    exact Own.retS hx hret (by simp) hlk (hb hby at_277) (by decide) (by decide) (Own.bool1 rfl)
  · subst q
    refine Own.iload hx (5 : Int32) (hb hby at_88) rfl rfl ?_
    refine Own.newarr hx hZ O15 (aty := .char) (hw _ (List.mem_of_getElem? (i := 1) rfl)) 5 (by decide) [(.int (0 : Int32)), (.int (0 : Int32)), (.int (0 : Int32)), (.int (0 : Int32)), (.int (0 : Int32))] rfl rfl (cap := 5) (by decide) (by decide) (k' := 2) (n' := 11) rfl rfl (by decide) (by decide) (hb hby at_90) (pc' := 92) rfl ?_
    intro a216 h217 O218
    refine Own.astore hx #[.val (.int p0), .val (.int p1), .val (.int p2), .val (.int p3), .val (.int p4), .val (.int (5 : Int32)), .val (.ref a1), .val (.ref a216), .unset] (hb hby at_92) rfl rfl rfl ?_
    refine Own.iload hx (5 : Int32) (hb hby at_94) rfl rfl ?_
    have hc219 : (0 : Int32) < (5 : Int32) := by decide
    refine Own.ifFn hx (Own.z_le (5 : Int32)) (hb hby at_96) (pcN := 99) rfl (by decide) (pcT := 107) rfl (fun q => absurd hc219 q) (fun _ => ?_)
    refine Own.aload hx (.ref a216) (hb hby at_99) rfl rfl rfl ?_
    refine Own.iconst hx (0 : Int32) (hb hby at_101) rfl (by decide) ?_
    refine Own.aload hx (.ref a1) (hb hby at_102) rfl rfl rfl ?_
    refine Own.iconst hx (0 : Int32) (hb hby at_104) rfl (by decide) ?_
    refine Own.caload hx hZ O218 1 0 rfl (by decide) (v := (.int y0)) rfl (hb hby at_105) rfl ?_
    refine Own.castore hx hZ O218 0 0 rfl (by decide) (by exact (show 0 < 5 by decide)) ((a216, Own.ArrC Z .char [(.int y0), (.int (0 : Int32)), (.int (0 : Int32)), (.int (0 : Int32)), (.int (0 : Int32))]) :: (a1, Own.ArrC Z .char [(.int y0), (.int y1), (.int y2), (.int y3), (.int y4), (.int y5)]) :: []) (by rw [own_idem h_y0]; rfl) (hb hby at_106) rfl ?_
    intro h221 O222
    refine Own.iload hx (5 : Int32) (hb hby at_107) rfl rfl ?_
    refine Own.iconst hx (1 : Int32) (hb hby at_109) rfl (by decide) ?_
    have hc223 : (1 : Int32) < (5 : Int32) := by decide
    refine Own.icmpFn hx (Own.q_le (5 : Int32) (1 : Int32)) (hb hby at_110) (pcN := 113) rfl (by decide) (pcT := 121) rfl (fun q => absurd hc223 q) (fun _ => ?_)
    refine Own.aload hx (.ref a216) (hb hby at_113) rfl rfl rfl ?_
    refine Own.iconst hx (1 : Int32) (hb hby at_115) rfl (by decide) ?_
    refine Own.aload hx (.ref a1) (hb hby at_116) rfl rfl rfl ?_
    refine Own.iconst hx (1 : Int32) (hb hby at_118) rfl (by decide) ?_
    refine Own.caload hx hZ O222 1 1 rfl (by decide) (v := (.int y1)) rfl (hb hby at_119) rfl ?_
    refine Own.castore hx hZ O222 0 1 rfl (by decide) (by exact (show 1 < 5 by decide)) ((a216, Own.ArrC Z .char [(.int y0), (.int y1), (.int (0 : Int32)), (.int (0 : Int32)), (.int (0 : Int32))]) :: (a1, Own.ArrC Z .char [(.int y0), (.int y1), (.int y2), (.int y3), (.int y4), (.int y5)]) :: []) (by rw [own_idem h_y1]; rfl) (hb hby at_120) rfl ?_
    intro h225 O226
    refine Own.iload hx (5 : Int32) (hb hby at_121) rfl rfl ?_
    refine Own.iconst hx (2 : Int32) (hb hby at_123) rfl (by decide) ?_
    have hc227 : (2 : Int32) < (5 : Int32) := by decide
    refine Own.icmpFn hx (Own.q_le (5 : Int32) (2 : Int32)) (hb hby at_124) (pcN := 127) rfl (by decide) (pcT := 135) rfl (fun q => absurd hc227 q) (fun _ => ?_)
    refine Own.aload hx (.ref a216) (hb hby at_127) rfl rfl rfl ?_
    refine Own.iconst hx (2 : Int32) (hb hby at_129) rfl (by decide) ?_
    refine Own.aload hx (.ref a1) (hb hby at_130) rfl rfl rfl ?_
    refine Own.iconst hx (2 : Int32) (hb hby at_132) rfl (by decide) ?_
    refine Own.caload hx hZ O226 1 2 rfl (by decide) (v := (.int y2)) rfl (hb hby at_133) rfl ?_
    refine Own.castore hx hZ O226 0 2 rfl (by decide) (by exact (show 2 < 5 by decide)) ((a216, Own.ArrC Z .char [(.int y0), (.int y1), (.int y2), (.int (0 : Int32)), (.int (0 : Int32))]) :: (a1, Own.ArrC Z .char [(.int y0), (.int y1), (.int y2), (.int y3), (.int y4), (.int y5)]) :: []) (by rw [own_idem h_y2]; rfl) (hb hby at_134) rfl ?_
    intro h229 O230
    refine Own.iload hx (5 : Int32) (hb hby at_135) rfl rfl ?_
    refine Own.iconst hx (3 : Int32) (hb hby at_137) rfl (by decide) ?_
    have hc231 : (3 : Int32) < (5 : Int32) := by decide
    refine Own.icmpFn hx (Own.q_le (5 : Int32) (3 : Int32)) (hb hby at_138) (pcN := 141) rfl (by decide) (pcT := 149) rfl (fun q => absurd hc231 q) (fun _ => ?_)
    refine Own.aload hx (.ref a216) (hb hby at_141) rfl rfl rfl ?_
    refine Own.iconst hx (3 : Int32) (hb hby at_143) rfl (by decide) ?_
    refine Own.aload hx (.ref a1) (hb hby at_144) rfl rfl rfl ?_
    refine Own.iconst hx (3 : Int32) (hb hby at_146) rfl (by decide) ?_
    refine Own.caload hx hZ O230 1 3 rfl (by decide) (v := (.int y3)) rfl (hb hby at_147) rfl ?_
    refine Own.castore hx hZ O230 0 3 rfl (by decide) (by exact (show 3 < 5 by decide)) ((a216, Own.ArrC Z .char [(.int y0), (.int y1), (.int y2), (.int y3), (.int (0 : Int32))]) :: (a1, Own.ArrC Z .char [(.int y0), (.int y1), (.int y2), (.int y3), (.int y4), (.int y5)]) :: []) (by rw [own_idem h_y3]; rfl) (hb hby at_148) rfl ?_
    intro h233 O234
    refine Own.iload hx (5 : Int32) (hb hby at_149) rfl rfl ?_
    refine Own.iconst hx (4 : Int32) (hb hby at_151) rfl (by decide) ?_
    have hc235 : (4 : Int32) < (5 : Int32) := by decide
    refine Own.icmpFn hx (Own.q_le (5 : Int32) (4 : Int32)) (hb hby at_152) (pcN := 155) rfl (by decide) (pcT := 163) rfl (fun q => absurd hc235 q) (fun _ => ?_)
    refine Own.aload hx (.ref a216) (hb hby at_155) rfl rfl rfl ?_
    refine Own.iconst hx (4 : Int32) (hb hby at_157) rfl (by decide) ?_
    refine Own.aload hx (.ref a1) (hb hby at_158) rfl rfl rfl ?_
    refine Own.iconst hx (4 : Int32) (hb hby at_160) rfl (by decide) ?_
    refine Own.caload hx hZ O234 1 4 rfl (by decide) (v := (.int y4)) rfl (hb hby at_161) rfl ?_
    refine Own.castore hx hZ O234 0 4 rfl (by decide) (by exact (show 4 < 5 by decide)) ((a216, Own.ArrC Z .char [(.int y0), (.int y1), (.int y2), (.int y3), (.int y4)]) :: (a1, Own.ArrC Z .char [(.int y0), (.int y1), (.int y2), (.int y3), (.int y4), (.int y5)]) :: []) (by rw [own_idem h_y4]; rfl) (hb hby at_162) rfl ?_
    intro h237 O238
    refine Own.iload hx (5 : Int32) (hb hby at_163) rfl rfl ?_
    refine Own.iconst hx (5 : Int32) (hb hby at_165) rfl (by decide) ?_
    have hc239 : ¬ ((5 : Int32) < (5 : Int32)) := by decide
    refine Own.icmpFn hx (Own.q_le (5 : Int32) (5 : Int32)) (hb hby at_166) (pcN := 169) rfl (by decide) (pcT := 177) rfl (fun _ => ?_) (fun q => absurd q hc239)
    refine Own.aload hx (.ref a216) (hb hby at_177) rfl rfl rfl ?_
    refine Own.callS hx hZ hown (hw _ (List.mem_of_getElem? (i := 6) rfl)) (hw _ (List.mem_of_getElem? (i := 7) rfl)) (hw _ (List.mem_of_getElem? (i := 8) rfl)) (hw _ (List.mem_of_getElem? (i := 9) rfl)) (by decide) pd3 (argsL := [(.ref a216)]) (rest := []) rfl (W := 0) (Nat.le_of_eq rfl) (rm := ({ frames := 0, cells := 1, slots := 6, locals := 0 } : Room)) (by decide) (by decide) (by decide) (by decide) (k' := 3) (n' := 17) rfl rfl (by rw [hml]; rfl) [(.ref a216)] rfl (hb hby at_179) (pc' := 182) rfl (rm2 l Z a0 hw a216 h237 n0 [y0, y1, y2, y3, y4] (by exact (show 5 ≤ 6 by decide)) ((a1, Own.ArrC Z .char [(.int y0), (.int y1), (.int y2), (.int y3), (.int y4), (.int y5)]) :: []) O238) ?_
    rintro _ h242 ⟨r241, rfl, O243⟩
    show Own.Goes _ _ _ _ _ _ _ _ _ _ _ _ _ _ _ _ _ (mkF m 182 #[.val (.int p0), .val (.int p1), .val (.int p2), .val (.int p3), .val (.int p4), .val (.int (5 : Int32)), .val (.ref a1), .val (.ref a216), .unset] [(.ref r241)])
    refine Own.astore hx #[.val (.int p0), .val (.int p1), .val (.int p2), .val (.int p3), .val (.int p4), .val (.int (5 : Int32)), .val (.ref a1), .val (.ref a216), .val (.ref r241)] (hb hby at_182) rfl rfl rfl ?_
    refine Own.aload hx (.ref r241) (hb hby at_184) rfl rfl rfl ?_
    refine Own.arrlen hx hZ O243 0 rfl (5 : Int32) (by rw [List.length_map, of_len]; rfl) (hb hby at_186) rfl ?_
    refine Own.iload hx (5 : Int32) (hb hby at_187) rfl rfl ?_
    have hc244 : (5 : Int32) = (5 : Int32) := by decide
    refine Own.icmpF hx (Own.q_eq (5 : Int32) (5 : Int32)) (hb hby at_189) (pcN := 192) rfl (by decide) (pcT := 194) rfl (fun _ => ?_) (fun q => absurd hc244 q)
    refine Own.aload hx (.ref r241) (hb hby at_194) rfl rfl rfl ?_
    refine Own.iload hx (5 : Int32) (hb hby at_196) rfl rfl ?_
    refine Own.aload hx (.ref a1) (hb hby at_198) rfl rfl rfl ?_
    refine Own.iconst hx (0 : Int32) (hb hby at_200) rfl (by decide) ?_
    have O246 : Own.Owns n0 h242 ((a1, Own.ArrC Z .char [(.int y0), (.int y1), (.int y2), (.int y3), (.int y4), (.int y5)]) :: (r241, Own.ArrC Z .int ((ofL [y0, y1, y2, y3, y4]).map gI)) :: (a216, Own.ArrC Z .char [(.int y0), (.int y1), (.int y2), (.int y3), (.int y4)]) :: []) := O243.pick 2 rfl
    have O247 : Own.Owns n0 h242 ((r241, Own.ArrC Z .int ((ofL [y0, y1, y2, y3, y4]).map gI)) :: (a1, Own.ArrC Z .char [(.int y0), (.int y1), (.int y2), (.int y3), (.int y4), (.int y5)]) :: (a216, Own.ArrC Z .char [(.int y0), (.int y1), (.int y2), (.int y3), (.int y4)]) :: []) := O246.pick 1 rfl
    refine Own.callS hx hZ hown (hw _ (List.mem_of_getElem? (i := 11) rfl)) (hw _ (List.mem_of_getElem? (i := 12) rfl)) (hw _ (List.mem_of_getElem? (i := 4) rfl)) (hw _ (List.mem_of_getElem? (i := 13) rfl)) (by decide) pd4 (argsL := [(.ref r241), (.int (5 : Int32)), (.ref a1), (.int (0 : Int32))]) (rest := []) rfl (W := 0) (Nat.le_of_eq rfl) (rm := ({ frames := 2, cells := 0, slots := 0, locals := 36 } : Room)) (by decide) (by decide) (by decide) (by decide) (k' := 3) (n' := 17) rfl rfl (by rw [hml]; rfl) [(.int (0 : Int32)), (.ref a1), (.int (5 : Int32)), (.ref r241)] rfl (hb hby at_201) (pc' := 204) rfl (rm3_b0 l Z a0 hw r241 (5 : Int32) a1 h242 n0 _ ((ofL [y0, y1, y2, y3, y4]).getD 0 9).toInt32 y0 y1 y2 y3 y4 y5 ((a216, Own.ArrC Z .char [(.int y0), (.int y1), (.int y2), (.int y3), (.int y4)]) :: []) O247 (by decide) (own_at (by rw [of_len]; exact (show 0 < 5 by decide)))) ?_
    rintro _ h' ⟨rfl, eh⟩
    rw [eh]; clear eh h'
    show Own.Goes _ _ _ _ _ _ _ _ _ _ _ _ _ _ _ _ _ (mkF m 204 #[.val (.int p0), .val (.int p1), .val (.int p2), .val (.int p3), .val (.int p4), .val (.int (5 : Int32)), .val (.ref a1), .val (.ref a216), .val (.ref r241)] [(.int (fE0 ((ofL [y0, y1, y2, y3, y4]).getD 0 9).toInt32 y0 y1 y2 y3 y4 y5))])
    have hc248 : ¬ ((fE0 ((ofL [y0, y1, y2, y3, y4]).getD 0 9).toInt32 y0 y1 y2 y3 y4 y5) = (0 : Int32)) := own_ent5_0
    refine Own.ifF hx (Own.z_eq (fE0 ((ofL [y0, y1, y2, y3, y4]).getD 0 9).toInt32 y0 y1 y2 y3 y4 y5)) (hb hby at_204) (pcN := 207) rfl (by decide) (pcT := 276) rfl (fun q => absurd q hc248) (fun _ => ?_)
    refine Own.aload hx (.ref r241) (hb hby at_207) rfl rfl rfl ?_
    refine Own.iload hx (5 : Int32) (hb hby at_209) rfl rfl ?_
    refine Own.aload hx (.ref a1) (hb hby at_211) rfl rfl rfl ?_
    refine Own.iconst hx (1 : Int32) (hb hby at_213) rfl (by decide) ?_
    have O250 : Own.Owns n0 h242 ((a1, Own.ArrC Z .char [(.int y0), (.int y1), (.int y2), (.int y3), (.int y4), (.int y5)]) :: (r241, Own.ArrC Z .int ((ofL [y0, y1, y2, y3, y4]).map gI)) :: (a216, Own.ArrC Z .char [(.int y0), (.int y1), (.int y2), (.int y3), (.int y4)]) :: []) := O247.pick 1 rfl
    have O251 : Own.Owns n0 h242 ((r241, Own.ArrC Z .int ((ofL [y0, y1, y2, y3, y4]).map gI)) :: (a1, Own.ArrC Z .char [(.int y0), (.int y1), (.int y2), (.int y3), (.int y4), (.int y5)]) :: (a216, Own.ArrC Z .char [(.int y0), (.int y1), (.int y2), (.int y3), (.int y4)]) :: []) := O250.pick 1 rfl
    refine Own.callS hx hZ hown (hw _ (List.mem_of_getElem? (i := 11) rfl)) (hw _ (List.mem_of_getElem? (i := 12) rfl)) (hw _ (List.mem_of_getElem? (i := 4) rfl)) (hw _ (List.mem_of_getElem? (i := 13) rfl)) (by decide) pd4 (argsL := [(.ref r241), (.int (5 : Int32)), (.ref a1), (.int (1 : Int32))]) (rest := []) rfl (W := 0) (Nat.le_of_eq rfl) (rm := ({ frames := 2, cells := 0, slots := 0, locals := 36 } : Room)) (by decide) (by decide) (by decide) (by decide) (k' := 3) (n' := 17) rfl rfl (by rw [hml]; rfl) [(.int (1 : Int32)), (.ref a1), (.int (5 : Int32)), (.ref r241)] rfl (hb hby at_214) (pc' := 217) rfl (rm3_b1 l Z a0 hw r241 (5 : Int32) a1 h242 n0 _ ((ofL [y0, y1, y2, y3, y4]).getD 1 9).toInt32 y0 y1 y2 y3 y4 y5 ((a216, Own.ArrC Z .char [(.int y0), (.int y1), (.int y2), (.int y3), (.int y4)]) :: []) O251 (by decide) (own_at (by rw [of_len]; exact (show 1 < 5 by decide)))) ?_
    rintro _ h' ⟨rfl, eh⟩
    rw [eh]; clear eh h'
    show Own.Goes _ _ _ _ _ _ _ _ _ _ _ _ _ _ _ _ _ (mkF m 217 #[.val (.int p0), .val (.int p1), .val (.int p2), .val (.int p3), .val (.int p4), .val (.int (5 : Int32)), .val (.ref a1), .val (.ref a216), .val (.ref r241)] [(.int (fE1 ((ofL [y0, y1, y2, y3, y4]).getD 1 9).toInt32 y0 y1 y2 y3 y4 y5))])
    have hc252 : ¬ ((fE1 ((ofL [y0, y1, y2, y3, y4]).getD 1 9).toInt32 y0 y1 y2 y3 y4 y5) = (0 : Int32)) := own_ent5_1
    refine Own.ifF hx (Own.z_eq (fE1 ((ofL [y0, y1, y2, y3, y4]).getD 1 9).toInt32 y0 y1 y2 y3 y4 y5)) (hb hby at_217) (pcN := 220) rfl (by decide) (pcT := 276) rfl (fun q => absurd q hc252) (fun _ => ?_)
    refine Own.aload hx (.ref r241) (hb hby at_220) rfl rfl rfl ?_
    refine Own.iload hx (5 : Int32) (hb hby at_222) rfl rfl ?_
    refine Own.aload hx (.ref a1) (hb hby at_224) rfl rfl rfl ?_
    refine Own.iconst hx (2 : Int32) (hb hby at_226) rfl (by decide) ?_
    have O254 : Own.Owns n0 h242 ((a1, Own.ArrC Z .char [(.int y0), (.int y1), (.int y2), (.int y3), (.int y4), (.int y5)]) :: (r241, Own.ArrC Z .int ((ofL [y0, y1, y2, y3, y4]).map gI)) :: (a216, Own.ArrC Z .char [(.int y0), (.int y1), (.int y2), (.int y3), (.int y4)]) :: []) := O251.pick 1 rfl
    have O255 : Own.Owns n0 h242 ((r241, Own.ArrC Z .int ((ofL [y0, y1, y2, y3, y4]).map gI)) :: (a1, Own.ArrC Z .char [(.int y0), (.int y1), (.int y2), (.int y3), (.int y4), (.int y5)]) :: (a216, Own.ArrC Z .char [(.int y0), (.int y1), (.int y2), (.int y3), (.int y4)]) :: []) := O254.pick 1 rfl
    refine Own.callS hx hZ hown (hw _ (List.mem_of_getElem? (i := 11) rfl)) (hw _ (List.mem_of_getElem? (i := 12) rfl)) (hw _ (List.mem_of_getElem? (i := 4) rfl)) (hw _ (List.mem_of_getElem? (i := 13) rfl)) (by decide) pd4 (argsL := [(.ref r241), (.int (5 : Int32)), (.ref a1), (.int (2 : Int32))]) (rest := []) rfl (W := 0) (Nat.le_of_eq rfl) (rm := ({ frames := 2, cells := 0, slots := 0, locals := 36 } : Room)) (by decide) (by decide) (by decide) (by decide) (k' := 3) (n' := 17) rfl rfl (by rw [hml]; rfl) [(.int (2 : Int32)), (.ref a1), (.int (5 : Int32)), (.ref r241)] rfl (hb hby at_227) (pc' := 230) rfl (rm3_b2 l Z a0 hw r241 (5 : Int32) a1 h242 n0 _ ((ofL [y0, y1, y2, y3, y4]).getD 2 9).toInt32 y0 y1 y2 y3 y4 y5 ((a216, Own.ArrC Z .char [(.int y0), (.int y1), (.int y2), (.int y3), (.int y4)]) :: []) O255 (by decide) (own_at (by rw [of_len]; exact (show 2 < 5 by decide)))) ?_
    rintro _ h' ⟨rfl, eh⟩
    rw [eh]; clear eh h'
    show Own.Goes _ _ _ _ _ _ _ _ _ _ _ _ _ _ _ _ _ (mkF m 230 #[.val (.int p0), .val (.int p1), .val (.int p2), .val (.int p3), .val (.int p4), .val (.int (5 : Int32)), .val (.ref a1), .val (.ref a216), .val (.ref r241)] [(.int (fE2 ((ofL [y0, y1, y2, y3, y4]).getD 2 9).toInt32 y0 y1 y2 y3 y4 y5))])
    have hc256 : ¬ ((fE2 ((ofL [y0, y1, y2, y3, y4]).getD 2 9).toInt32 y0 y1 y2 y3 y4 y5) = (0 : Int32)) := own_ent5_2
    refine Own.ifF hx (Own.z_eq (fE2 ((ofL [y0, y1, y2, y3, y4]).getD 2 9).toInt32 y0 y1 y2 y3 y4 y5)) (hb hby at_230) (pcN := 233) rfl (by decide) (pcT := 276) rfl (fun q => absurd q hc256) (fun _ => ?_)
    refine Own.aload hx (.ref r241) (hb hby at_233) rfl rfl rfl ?_
    refine Own.iload hx (5 : Int32) (hb hby at_235) rfl rfl ?_
    refine Own.aload hx (.ref a1) (hb hby at_237) rfl rfl rfl ?_
    refine Own.iconst hx (3 : Int32) (hb hby at_239) rfl (by decide) ?_
    have O258 : Own.Owns n0 h242 ((a1, Own.ArrC Z .char [(.int y0), (.int y1), (.int y2), (.int y3), (.int y4), (.int y5)]) :: (r241, Own.ArrC Z .int ((ofL [y0, y1, y2, y3, y4]).map gI)) :: (a216, Own.ArrC Z .char [(.int y0), (.int y1), (.int y2), (.int y3), (.int y4)]) :: []) := O255.pick 1 rfl
    have O259 : Own.Owns n0 h242 ((r241, Own.ArrC Z .int ((ofL [y0, y1, y2, y3, y4]).map gI)) :: (a1, Own.ArrC Z .char [(.int y0), (.int y1), (.int y2), (.int y3), (.int y4), (.int y5)]) :: (a216, Own.ArrC Z .char [(.int y0), (.int y1), (.int y2), (.int y3), (.int y4)]) :: []) := O258.pick 1 rfl
    refine Own.callS hx hZ hown (hw _ (List.mem_of_getElem? (i := 11) rfl)) (hw _ (List.mem_of_getElem? (i := 12) rfl)) (hw _ (List.mem_of_getElem? (i := 4) rfl)) (hw _ (List.mem_of_getElem? (i := 13) rfl)) (by decide) pd4 (argsL := [(.ref r241), (.int (5 : Int32)), (.ref a1), (.int (3 : Int32))]) (rest := []) rfl (W := 0) (Nat.le_of_eq rfl) (rm := ({ frames := 2, cells := 0, slots := 0, locals := 36 } : Room)) (by decide) (by decide) (by decide) (by decide) (k' := 3) (n' := 17) rfl rfl (by rw [hml]; rfl) [(.int (3 : Int32)), (.ref a1), (.int (5 : Int32)), (.ref r241)] rfl (hb hby at_240) (pc' := 243) rfl (rm3_b3 l Z a0 hw r241 (5 : Int32) a1 h242 n0 _ ((ofL [y0, y1, y2, y3, y4]).getD 3 9).toInt32 y0 y1 y2 y3 y4 y5 ((a216, Own.ArrC Z .char [(.int y0), (.int y1), (.int y2), (.int y3), (.int y4)]) :: []) O259 (by decide) (own_at (by rw [of_len]; exact (show 3 < 5 by decide)))) ?_
    rintro _ h' ⟨rfl, eh⟩
    rw [eh]; clear eh h'
    show Own.Goes _ _ _ _ _ _ _ _ _ _ _ _ _ _ _ _ _ (mkF m 243 #[.val (.int p0), .val (.int p1), .val (.int p2), .val (.int p3), .val (.int p4), .val (.int (5 : Int32)), .val (.ref a1), .val (.ref a216), .val (.ref r241)] [(.int (fE3 ((ofL [y0, y1, y2, y3, y4]).getD 3 9).toInt32 y0 y1 y2 y3 y4 y5))])
    have hc260 : ¬ ((fE3 ((ofL [y0, y1, y2, y3, y4]).getD 3 9).toInt32 y0 y1 y2 y3 y4 y5) = (0 : Int32)) := own_ent5_3
    refine Own.ifF hx (Own.z_eq (fE3 ((ofL [y0, y1, y2, y3, y4]).getD 3 9).toInt32 y0 y1 y2 y3 y4 y5)) (hb hby at_243) (pcN := 246) rfl (by decide) (pcT := 276) rfl (fun q => absurd q hc260) (fun _ => ?_)
    refine Own.aload hx (.ref r241) (hb hby at_246) rfl rfl rfl ?_
    refine Own.iload hx (5 : Int32) (hb hby at_248) rfl rfl ?_
    refine Own.aload hx (.ref a1) (hb hby at_250) rfl rfl rfl ?_
    refine Own.iconst hx (4 : Int32) (hb hby at_252) rfl (by decide) ?_
    have O262 : Own.Owns n0 h242 ((a1, Own.ArrC Z .char [(.int y0), (.int y1), (.int y2), (.int y3), (.int y4), (.int y5)]) :: (r241, Own.ArrC Z .int ((ofL [y0, y1, y2, y3, y4]).map gI)) :: (a216, Own.ArrC Z .char [(.int y0), (.int y1), (.int y2), (.int y3), (.int y4)]) :: []) := O259.pick 1 rfl
    have O263 : Own.Owns n0 h242 ((r241, Own.ArrC Z .int ((ofL [y0, y1, y2, y3, y4]).map gI)) :: (a1, Own.ArrC Z .char [(.int y0), (.int y1), (.int y2), (.int y3), (.int y4), (.int y5)]) :: (a216, Own.ArrC Z .char [(.int y0), (.int y1), (.int y2), (.int y3), (.int y4)]) :: []) := O262.pick 1 rfl
    refine Own.callS hx hZ hown (hw _ (List.mem_of_getElem? (i := 11) rfl)) (hw _ (List.mem_of_getElem? (i := 12) rfl)) (hw _ (List.mem_of_getElem? (i := 4) rfl)) (hw _ (List.mem_of_getElem? (i := 13) rfl)) (by decide) pd4 (argsL := [(.ref r241), (.int (5 : Int32)), (.ref a1), (.int (4 : Int32))]) (rest := []) rfl (W := 0) (Nat.le_of_eq rfl) (rm := ({ frames := 2, cells := 0, slots := 0, locals := 36 } : Room)) (by decide) (by decide) (by decide) (by decide) (k' := 3) (n' := 17) rfl rfl (by rw [hml]; rfl) [(.int (4 : Int32)), (.ref a1), (.int (5 : Int32)), (.ref r241)] rfl (hb hby at_253) (pc' := 256) rfl (rm3_b4 l Z a0 hw r241 (5 : Int32) a1 h242 n0 _ ((ofL [y0, y1, y2, y3, y4]).getD 4 9).toInt32 y0 y1 y2 y3 y4 y5 ((a216, Own.ArrC Z .char [(.int y0), (.int y1), (.int y2), (.int y3), (.int y4)]) :: []) O263 (by decide) (own_at (by rw [of_len]; exact (show 4 < 5 by decide)))) ?_
    rintro _ h' ⟨rfl, eh⟩
    rw [eh]; clear eh h'
    show Own.Goes _ _ _ _ _ _ _ _ _ _ _ _ _ _ _ _ _ (mkF m 256 #[.val (.int p0), .val (.int p1), .val (.int p2), .val (.int p3), .val (.int p4), .val (.int (5 : Int32)), .val (.ref a1), .val (.ref a216), .val (.ref r241)] [(.int (fE4 ((ofL [y0, y1, y2, y3, y4]).getD 4 9).toInt32 y0 y1 y2 y3 y4 y5))])
    have hc264 : ¬ ((fE4 ((ofL [y0, y1, y2, y3, y4]).getD 4 9).toInt32 y0 y1 y2 y3 y4 y5) = (0 : Int32)) := own_ent5_4
    refine Own.ifF hx (Own.z_eq (fE4 ((ofL [y0, y1, y2, y3, y4]).getD 4 9).toInt32 y0 y1 y2 y3 y4 y5)) (hb hby at_256) (pcN := 259) rfl (by decide) (pcT := 276) rfl (fun q => absurd q hc264) (fun _ => ?_)
    refine Own.aload hx (.ref r241) (hb hby at_259) rfl rfl rfl ?_
    refine Own.iload hx (5 : Int32) (hb hby at_261) rfl rfl ?_
    refine Own.aload hx (.ref a1) (hb hby at_263) rfl rfl rfl ?_
    refine Own.iconst hx (5 : Int32) (hb hby at_265) rfl (by decide) ?_
    refine Own.callS hx hZ hown (hw _ (List.mem_of_getElem? (i := 11) rfl)) (hw _ (List.mem_of_getElem? (i := 12) rfl)) (hw _ (List.mem_of_getElem? (i := 4) rfl)) (hw _ (List.mem_of_getElem? (i := 13) rfl)) (by decide) pd4 (argsL := [(.ref r241), (.int (5 : Int32)), (.ref a1), (.int (5 : Int32))]) (rest := []) rfl (W := 0) (Nat.le_of_eq rfl) (rm := ({ frames := 0, cells := 0, slots := 0, locals := 0 } : Room)) (by decide) (by decide) (by decide) (by decide) (k' := 3) (n' := 17) rfl rfl (by rw [hml]; rfl) [(.int (5 : Int32)), (.ref a1), (.int (5 : Int32)), (.ref r241)] rfl (hb hby at_266) (pc' := 269) rfl (rm3_a5 l Z a0 hw r241 (5 : Int32) a1 h242 n0 (by decide)) ?_
    rintro _ h' ⟨rfl, eh⟩
    rw [eh]; clear eh h'
    show Own.Goes _ _ _ _ _ _ _ _ _ _ _ _ _ _ _ _ _ (mkF m 269 #[.val (.int p0), .val (.int p1), .val (.int p2), .val (.int p3), .val (.int p4), .val (.int (5 : Int32)), .val (.ref a1), .val (.ref a216), .val (.ref r241)] [(.int (1 : Int32))])
    have hc266 : ¬ ((1 : Int32) = (0 : Int32)) := by decide
    refine Own.ifF hx (Own.z_eq (1 : Int32)) (hb hby at_269) (pcN := 272) rfl (by decide) (pcT := 276) rfl (fun q => absurd q hc266) (fun _ => ?_)
    refine Own.iconst hx (1 : Int32) (hb hby at_272) rfl (by decide) ?_
    refine Own.goto hx (hb hby at_273) (by decide) (pc' := 277) rfl ?_
    exact Own.retS hx hret (by simp) hlk (hb hby at_277) (by decide) (by decide) (Own.bool1 rfl)
  · subst q
    refine Own.iload hx (6 : Int32) (hb hby at_88) rfl rfl ?_
    refine Own.newarr hx hZ O15 (aty := .char) (hw _ (List.mem_of_getElem? (i := 1) rfl)) 6 (by decide) [(.int (0 : Int32)), (.int (0 : Int32)), (.int (0 : Int32)), (.int (0 : Int32)), (.int (0 : Int32)), (.int (0 : Int32))] rfl rfl (cap := 6) (by decide) (by decide) (k' := 2) (n' := 12) rfl rfl (by decide) (by decide) (hb hby at_90) (pc' := 92) rfl ?_
    intro a268 h269 O270
    refine Own.astore hx #[.val (.int p0), .val (.int p1), .val (.int p2), .val (.int p3), .val (.int p4), .val (.int (6 : Int32)), .val (.ref a1), .val (.ref a268), .unset] (hb hby at_92) rfl rfl rfl ?_
    refine Own.iload hx (6 : Int32) (hb hby at_94) rfl rfl ?_
    have hc271 : (0 : Int32) < (6 : Int32) := by decide
    refine Own.ifFn hx (Own.z_le (6 : Int32)) (hb hby at_96) (pcN := 99) rfl (by decide) (pcT := 107) rfl (fun q => absurd hc271 q) (fun _ => ?_)
    refine Own.aload hx (.ref a268) (hb hby at_99) rfl rfl rfl ?_
    refine Own.iconst hx (0 : Int32) (hb hby at_101) rfl (by decide) ?_
    refine Own.aload hx (.ref a1) (hb hby at_102) rfl rfl rfl ?_
    refine Own.iconst hx (0 : Int32) (hb hby at_104) rfl (by decide) ?_
    refine Own.caload hx hZ O270 1 0 rfl (by decide) (v := (.int y0)) rfl (hb hby at_105) rfl ?_
    refine Own.castore hx hZ O270 0 0 rfl (by decide) (by exact (show 0 < 6 by decide)) ((a268, Own.ArrC Z .char [(.int y0), (.int (0 : Int32)), (.int (0 : Int32)), (.int (0 : Int32)), (.int (0 : Int32)), (.int (0 : Int32))]) :: (a1, Own.ArrC Z .char [(.int y0), (.int y1), (.int y2), (.int y3), (.int y4), (.int y5)]) :: []) (by rw [own_idem h_y0]; rfl) (hb hby at_106) rfl ?_
    intro h273 O274
    refine Own.iload hx (6 : Int32) (hb hby at_107) rfl rfl ?_
    refine Own.iconst hx (1 : Int32) (hb hby at_109) rfl (by decide) ?_
    have hc275 : (1 : Int32) < (6 : Int32) := by decide
    refine Own.icmpFn hx (Own.q_le (6 : Int32) (1 : Int32)) (hb hby at_110) (pcN := 113) rfl (by decide) (pcT := 121) rfl (fun q => absurd hc275 q) (fun _ => ?_)
    refine Own.aload hx (.ref a268) (hb hby at_113) rfl rfl rfl ?_
    refine Own.iconst hx (1 : Int32) (hb hby at_115) rfl (by decide) ?_
    refine Own.aload hx (.ref a1) (hb hby at_116) rfl rfl rfl ?_
    refine Own.iconst hx (1 : Int32) (hb hby at_118) rfl (by decide) ?_
    refine Own.caload hx hZ O274 1 1 rfl (by decide) (v := (.int y1)) rfl (hb hby at_119) rfl ?_
    refine Own.castore hx hZ O274 0 1 rfl (by decide) (by exact (show 1 < 6 by decide)) ((a268, Own.ArrC Z .char [(.int y0), (.int y1), (.int (0 : Int32)), (.int (0 : Int32)), (.int (0 : Int32)), (.int (0 : Int32))]) :: (a1, Own.ArrC Z .char [(.int y0), (.int y1), (.int y2), (.int y3), (.int y4), (.int y5)]) :: []) (by rw [own_idem h_y1]; rfl) (hb hby at_120) rfl ?_
    intro h277 O278
    refine Own.iload hx (6 : Int32) (hb hby at_121) rfl rfl ?_
    refine Own.iconst hx (2 : Int32) (hb hby at_123) rfl (by decide) ?_
    have hc279 : (2 : Int32) < (6 : Int32) := by decide
    refine Own.icmpFn hx (Own.q_le (6 : Int32) (2 : Int32)) (hb hby at_124) (pcN := 127) rfl (by decide) (pcT := 135) rfl (fun q => absurd hc279 q) (fun _ => ?_)
    refine Own.aload hx (.ref a268) (hb hby at_127) rfl rfl rfl ?_
    refine Own.iconst hx (2 : Int32) (hb hby at_129) rfl (by decide) ?_
    refine Own.aload hx (.ref a1) (hb hby at_130) rfl rfl rfl ?_
    refine Own.iconst hx (2 : Int32) (hb hby at_132) rfl (by decide) ?_
    refine Own.caload hx hZ O278 1 2 rfl (by decide) (v := (.int y2)) rfl (hb hby at_133) rfl ?_
    refine Own.castore hx hZ O278 0 2 rfl (by decide) (by exact (show 2 < 6 by decide)) ((a268, Own.ArrC Z .char [(.int y0), (.int y1), (.int y2), (.int (0 : Int32)), (.int (0 : Int32)), (.int (0 : Int32))]) :: (a1, Own.ArrC Z .char [(.int y0), (.int y1), (.int y2), (.int y3), (.int y4), (.int y5)]) :: []) (by rw [own_idem h_y2]; rfl) (hb hby at_134) rfl ?_
    intro h281 O282
    refine Own.iload hx (6 : Int32) (hb hby at_135) rfl rfl ?_
    refine Own.iconst hx (3 : Int32) (hb hby at_137) rfl (by decide) ?_
    have hc283 : (3 : Int32) < (6 : Int32) := by decide
    refine Own.icmpFn hx (Own.q_le (6 : Int32) (3 : Int32)) (hb hby at_138) (pcN := 141) rfl (by decide) (pcT := 149) rfl (fun q => absurd hc283 q) (fun _ => ?_)
    refine Own.aload hx (.ref a268) (hb hby at_141) rfl rfl rfl ?_
    refine Own.iconst hx (3 : Int32) (hb hby at_143) rfl (by decide) ?_
    refine Own.aload hx (.ref a1) (hb hby at_144) rfl rfl rfl ?_
    refine Own.iconst hx (3 : Int32) (hb hby at_146) rfl (by decide) ?_
    refine Own.caload hx hZ O282 1 3 rfl (by decide) (v := (.int y3)) rfl (hb hby at_147) rfl ?_
    refine Own.castore hx hZ O282 0 3 rfl (by decide) (by exact (show 3 < 6 by decide)) ((a268, Own.ArrC Z .char [(.int y0), (.int y1), (.int y2), (.int y3), (.int (0 : Int32)), (.int (0 : Int32))]) :: (a1, Own.ArrC Z .char [(.int y0), (.int y1), (.int y2), (.int y3), (.int y4), (.int y5)]) :: []) (by rw [own_idem h_y3]; rfl) (hb hby at_148) rfl ?_
    intro h285 O286
    refine Own.iload hx (6 : Int32) (hb hby at_149) rfl rfl ?_
    refine Own.iconst hx (4 : Int32) (hb hby at_151) rfl (by decide) ?_
    have hc287 : (4 : Int32) < (6 : Int32) := by decide
    refine Own.icmpFn hx (Own.q_le (6 : Int32) (4 : Int32)) (hb hby at_152) (pcN := 155) rfl (by decide) (pcT := 163) rfl (fun q => absurd hc287 q) (fun _ => ?_)
    refine Own.aload hx (.ref a268) (hb hby at_155) rfl rfl rfl ?_
    refine Own.iconst hx (4 : Int32) (hb hby at_157) rfl (by decide) ?_
    refine Own.aload hx (.ref a1) (hb hby at_158) rfl rfl rfl ?_
    refine Own.iconst hx (4 : Int32) (hb hby at_160) rfl (by decide) ?_
    refine Own.caload hx hZ O286 1 4 rfl (by decide) (v := (.int y4)) rfl (hb hby at_161) rfl ?_
    refine Own.castore hx hZ O286 0 4 rfl (by decide) (by exact (show 4 < 6 by decide)) ((a268, Own.ArrC Z .char [(.int y0), (.int y1), (.int y2), (.int y3), (.int y4), (.int (0 : Int32))]) :: (a1, Own.ArrC Z .char [(.int y0), (.int y1), (.int y2), (.int y3), (.int y4), (.int y5)]) :: []) (by rw [own_idem h_y4]; rfl) (hb hby at_162) rfl ?_
    intro h289 O290
    refine Own.iload hx (6 : Int32) (hb hby at_163) rfl rfl ?_
    refine Own.iconst hx (5 : Int32) (hb hby at_165) rfl (by decide) ?_
    have hc291 : (5 : Int32) < (6 : Int32) := by decide
    refine Own.icmpFn hx (Own.q_le (6 : Int32) (5 : Int32)) (hb hby at_166) (pcN := 169) rfl (by decide) (pcT := 177) rfl (fun q => absurd hc291 q) (fun _ => ?_)
    refine Own.aload hx (.ref a268) (hb hby at_169) rfl rfl rfl ?_
    refine Own.iconst hx (5 : Int32) (hb hby at_171) rfl (by decide) ?_
    refine Own.aload hx (.ref a1) (hb hby at_172) rfl rfl rfl ?_
    refine Own.iconst hx (5 : Int32) (hb hby at_174) rfl (by decide) ?_
    refine Own.caload hx hZ O290 1 5 rfl (by decide) (v := (.int y5)) rfl (hb hby at_175) rfl ?_
    refine Own.castore hx hZ O290 0 5 rfl (by decide) (by exact (show 5 < 6 by decide)) ((a268, Own.ArrC Z .char [(.int y0), (.int y1), (.int y2), (.int y3), (.int y4), (.int y5)]) :: (a1, Own.ArrC Z .char [(.int y0), (.int y1), (.int y2), (.int y3), (.int y4), (.int y5)]) :: []) (by rw [own_idem h_y5]; rfl) (hb hby at_176) rfl ?_
    intro h293 O294
    refine Own.aload hx (.ref a268) (hb hby at_177) rfl rfl rfl ?_
    refine Own.callS hx hZ hown (hw _ (List.mem_of_getElem? (i := 6) rfl)) (hw _ (List.mem_of_getElem? (i := 7) rfl)) (hw _ (List.mem_of_getElem? (i := 8) rfl)) (hw _ (List.mem_of_getElem? (i := 9) rfl)) (by decide) pd3 (argsL := [(.ref a268)]) (rest := []) rfl (W := 0) (Nat.le_of_eq rfl) (rm := ({ frames := 0, cells := 1, slots := 6, locals := 0 } : Room)) (by decide) (by decide) (by decide) (by decide) (k' := 3) (n' := 18) rfl rfl (by rw [hml]; rfl) [(.ref a268)] rfl (hb hby at_179) (pc' := 182) rfl (rm2 l Z a0 hw a268 h293 n0 [y0, y1, y2, y3, y4, y5] (by exact (show 6 ≤ 6 by decide)) ((a1, Own.ArrC Z .char [(.int y0), (.int y1), (.int y2), (.int y3), (.int y4), (.int y5)]) :: []) O294) ?_
    rintro _ h296 ⟨r295, rfl, O297⟩
    show Own.Goes _ _ _ _ _ _ _ _ _ _ _ _ _ _ _ _ _ (mkF m 182 #[.val (.int p0), .val (.int p1), .val (.int p2), .val (.int p3), .val (.int p4), .val (.int (6 : Int32)), .val (.ref a1), .val (.ref a268), .unset] [(.ref r295)])
    refine Own.astore hx #[.val (.int p0), .val (.int p1), .val (.int p2), .val (.int p3), .val (.int p4), .val (.int (6 : Int32)), .val (.ref a1), .val (.ref a268), .val (.ref r295)] (hb hby at_182) rfl rfl rfl ?_
    refine Own.aload hx (.ref r295) (hb hby at_184) rfl rfl rfl ?_
    refine Own.arrlen hx hZ O297 0 rfl (6 : Int32) (by rw [List.length_map, of_len]; rfl) (hb hby at_186) rfl ?_
    refine Own.iload hx (6 : Int32) (hb hby at_187) rfl rfl ?_
    have hc298 : (6 : Int32) = (6 : Int32) := by decide
    refine Own.icmpF hx (Own.q_eq (6 : Int32) (6 : Int32)) (hb hby at_189) (pcN := 192) rfl (by decide) (pcT := 194) rfl (fun _ => ?_) (fun q => absurd hc298 q)
    refine Own.aload hx (.ref r295) (hb hby at_194) rfl rfl rfl ?_
    refine Own.iload hx (6 : Int32) (hb hby at_196) rfl rfl ?_
    refine Own.aload hx (.ref a1) (hb hby at_198) rfl rfl rfl ?_
    refine Own.iconst hx (0 : Int32) (hb hby at_200) rfl (by decide) ?_
    have O300 : Own.Owns n0 h296 ((a1, Own.ArrC Z .char [(.int y0), (.int y1), (.int y2), (.int y3), (.int y4), (.int y5)]) :: (r295, Own.ArrC Z .int ((ofL [y0, y1, y2, y3, y4, y5]).map gI)) :: (a268, Own.ArrC Z .char [(.int y0), (.int y1), (.int y2), (.int y3), (.int y4), (.int y5)]) :: []) := O297.pick 2 rfl
    have O301 : Own.Owns n0 h296 ((r295, Own.ArrC Z .int ((ofL [y0, y1, y2, y3, y4, y5]).map gI)) :: (a1, Own.ArrC Z .char [(.int y0), (.int y1), (.int y2), (.int y3), (.int y4), (.int y5)]) :: (a268, Own.ArrC Z .char [(.int y0), (.int y1), (.int y2), (.int y3), (.int y4), (.int y5)]) :: []) := O300.pick 1 rfl
    refine Own.callS hx hZ hown (hw _ (List.mem_of_getElem? (i := 11) rfl)) (hw _ (List.mem_of_getElem? (i := 12) rfl)) (hw _ (List.mem_of_getElem? (i := 4) rfl)) (hw _ (List.mem_of_getElem? (i := 13) rfl)) (by decide) pd4 (argsL := [(.ref r295), (.int (6 : Int32)), (.ref a1), (.int (0 : Int32))]) (rest := []) rfl (W := 0) (Nat.le_of_eq rfl) (rm := ({ frames := 2, cells := 0, slots := 0, locals := 36 } : Room)) (by decide) (by decide) (by decide) (by decide) (k' := 3) (n' := 18) rfl rfl (by rw [hml]; rfl) [(.int (0 : Int32)), (.ref a1), (.int (6 : Int32)), (.ref r295)] rfl (hb hby at_201) (pc' := 204) rfl (rm3_b0 l Z a0 hw r295 (6 : Int32) a1 h296 n0 _ ((ofL [y0, y1, y2, y3, y4, y5]).getD 0 9).toInt32 y0 y1 y2 y3 y4 y5 ((a268, Own.ArrC Z .char [(.int y0), (.int y1), (.int y2), (.int y3), (.int y4), (.int y5)]) :: []) O301 (by decide) (own_at (by rw [of_len]; exact (show 0 < 6 by decide)))) ?_
    rintro _ h' ⟨rfl, eh⟩
    rw [eh]; clear eh h'
    show Own.Goes _ _ _ _ _ _ _ _ _ _ _ _ _ _ _ _ _ (mkF m 204 #[.val (.int p0), .val (.int p1), .val (.int p2), .val (.int p3), .val (.int p4), .val (.int (6 : Int32)), .val (.ref a1), .val (.ref a268), .val (.ref r295)] [(.int (fE0 ((ofL [y0, y1, y2, y3, y4, y5]).getD 0 9).toInt32 y0 y1 y2 y3 y4 y5))])
    have hc302 : ¬ ((fE0 ((ofL [y0, y1, y2, y3, y4, y5]).getD 0 9).toInt32 y0 y1 y2 y3 y4 y5) = (0 : Int32)) := own_ent6_0
    refine Own.ifF hx (Own.z_eq (fE0 ((ofL [y0, y1, y2, y3, y4, y5]).getD 0 9).toInt32 y0 y1 y2 y3 y4 y5)) (hb hby at_204) (pcN := 207) rfl (by decide) (pcT := 276) rfl (fun q => absurd q hc302) (fun _ => ?_)
    refine Own.aload hx (.ref r295) (hb hby at_207) rfl rfl rfl ?_
    refine Own.iload hx (6 : Int32) (hb hby at_209) rfl rfl ?_
    refine Own.aload hx (.ref a1) (hb hby at_211) rfl rfl rfl ?_
    refine Own.iconst hx (1 : Int32) (hb hby at_213) rfl (by decide) ?_
    have O304 : Own.Owns n0 h296 ((a1, Own.ArrC Z .char [(.int y0), (.int y1), (.int y2), (.int y3), (.int y4), (.int y5)]) :: (r295, Own.ArrC Z .int ((ofL [y0, y1, y2, y3, y4, y5]).map gI)) :: (a268, Own.ArrC Z .char [(.int y0), (.int y1), (.int y2), (.int y3), (.int y4), (.int y5)]) :: []) := O301.pick 1 rfl
    have O305 : Own.Owns n0 h296 ((r295, Own.ArrC Z .int ((ofL [y0, y1, y2, y3, y4, y5]).map gI)) :: (a1, Own.ArrC Z .char [(.int y0), (.int y1), (.int y2), (.int y3), (.int y4), (.int y5)]) :: (a268, Own.ArrC Z .char [(.int y0), (.int y1), (.int y2), (.int y3), (.int y4), (.int y5)]) :: []) := O304.pick 1 rfl
    refine Own.callS hx hZ hown (hw _ (List.mem_of_getElem? (i := 11) rfl)) (hw _ (List.mem_of_getElem? (i := 12) rfl)) (hw _ (List.mem_of_getElem? (i := 4) rfl)) (hw _ (List.mem_of_getElem? (i := 13) rfl)) (by decide) pd4 (argsL := [(.ref r295), (.int (6 : Int32)), (.ref a1), (.int (1 : Int32))]) (rest := []) rfl (W := 0) (Nat.le_of_eq rfl) (rm := ({ frames := 2, cells := 0, slots := 0, locals := 36 } : Room)) (by decide) (by decide) (by decide) (by decide) (k' := 3) (n' := 18) rfl rfl (by rw [hml]; rfl) [(.int (1 : Int32)), (.ref a1), (.int (6 : Int32)), (.ref r295)] rfl (hb hby at_214) (pc' := 217) rfl (rm3_b1 l Z a0 hw r295 (6 : Int32) a1 h296 n0 _ ((ofL [y0, y1, y2, y3, y4, y5]).getD 1 9).toInt32 y0 y1 y2 y3 y4 y5 ((a268, Own.ArrC Z .char [(.int y0), (.int y1), (.int y2), (.int y3), (.int y4), (.int y5)]) :: []) O305 (by decide) (own_at (by rw [of_len]; exact (show 1 < 6 by decide)))) ?_
    rintro _ h' ⟨rfl, eh⟩
    rw [eh]; clear eh h'
    show Own.Goes _ _ _ _ _ _ _ _ _ _ _ _ _ _ _ _ _ (mkF m 217 #[.val (.int p0), .val (.int p1), .val (.int p2), .val (.int p3), .val (.int p4), .val (.int (6 : Int32)), .val (.ref a1), .val (.ref a268), .val (.ref r295)] [(.int (fE1 ((ofL [y0, y1, y2, y3, y4, y5]).getD 1 9).toInt32 y0 y1 y2 y3 y4 y5))])
    have hc306 : ¬ ((fE1 ((ofL [y0, y1, y2, y3, y4, y5]).getD 1 9).toInt32 y0 y1 y2 y3 y4 y5) = (0 : Int32)) := own_ent6_1
    refine Own.ifF hx (Own.z_eq (fE1 ((ofL [y0, y1, y2, y3, y4, y5]).getD 1 9).toInt32 y0 y1 y2 y3 y4 y5)) (hb hby at_217) (pcN := 220) rfl (by decide) (pcT := 276) rfl (fun q => absurd q hc306) (fun _ => ?_)
    refine Own.aload hx (.ref r295) (hb hby at_220) rfl rfl rfl ?_
    refine Own.iload hx (6 : Int32) (hb hby at_222) rfl rfl ?_
    refine Own.aload hx (.ref a1) (hb hby at_224) rfl rfl rfl ?_
    refine Own.iconst hx (2 : Int32) (hb hby at_226) rfl (by decide) ?_
    have O308 : Own.Owns n0 h296 ((a1, Own.ArrC Z .char [(.int y0), (.int y1), (.int y2), (.int y3), (.int y4), (.int y5)]) :: (r295, Own.ArrC Z .int ((ofL [y0, y1, y2, y3, y4, y5]).map gI)) :: (a268, Own.ArrC Z .char [(.int y0), (.int y1), (.int y2), (.int y3), (.int y4), (.int y5)]) :: []) := O305.pick 1 rfl
    have O309 : Own.Owns n0 h296 ((r295, Own.ArrC Z .int ((ofL [y0, y1, y2, y3, y4, y5]).map gI)) :: (a1, Own.ArrC Z .char [(.int y0), (.int y1), (.int y2), (.int y3), (.int y4), (.int y5)]) :: (a268, Own.ArrC Z .char [(.int y0), (.int y1), (.int y2), (.int y3), (.int y4), (.int y5)]) :: []) := O308.pick 1 rfl
    refine Own.callS hx hZ hown (hw _ (List.mem_of_getElem? (i := 11) rfl)) (hw _ (List.mem_of_getElem? (i := 12) rfl)) (hw _ (List.mem_of_getElem? (i := 4) rfl)) (hw _ (List.mem_of_getElem? (i := 13) rfl)) (by decide) pd4 (argsL := [(.ref r295), (.int (6 : Int32)), (.ref a1), (.int (2 : Int32))]) (rest := []) rfl (W := 0) (Nat.le_of_eq rfl) (rm := ({ frames := 2, cells := 0, slots := 0, locals := 36 } : Room)) (by decide) (by decide) (by decide) (by decide) (k' := 3) (n' := 18) rfl rfl (by rw [hml]; rfl) [(.int (2 : Int32)), (.ref a1), (.int (6 : Int32)), (.ref r295)] rfl (hb hby at_227) (pc' := 230) rfl (rm3_b2 l Z a0 hw r295 (6 : Int32) a1 h296 n0 _ ((ofL [y0, y1, y2, y3, y4, y5]).getD 2 9).toInt32 y0 y1 y2 y3 y4 y5 ((a268, Own.ArrC Z .char [(.int y0), (.int y1), (.int y2), (.int y3), (.int y4), (.int y5)]) :: []) O309 (by decide) (own_at (by rw [of_len]; exact (show 2 < 6 by decide)))) ?_
    rintro _ h' ⟨rfl, eh⟩
    rw [eh]; clear eh h'
    show Own.Goes _ _ _ _ _ _ _ _ _ _ _ _ _ _ _ _ _ (mkF m 230 #[.val (.int p0), .val (.int p1), .val (.int p2), .val (.int p3), .val (.int p4), .val (.int (6 : Int32)), .val (.ref a1), .val (.ref a268), .val (.ref r295)] [(.int (fE2 ((ofL [y0, y1, y2, y3, y4, y5]).getD 2 9).toInt32 y0 y1 y2 y3 y4 y5))])
    have hc310 : ¬ ((fE2 ((ofL [y0, y1, y2, y3, y4, y5]).getD 2 9).toInt32 y0 y1 y2 y3 y4 y5) = (0 : Int32)) := own_ent6_2
    refine Own.ifF hx (Own.z_eq (fE2 ((ofL [y0, y1, y2, y3, y4, y5]).getD 2 9).toInt32 y0 y1 y2 y3 y4 y5)) (hb hby at_230) (pcN := 233) rfl (by decide) (pcT := 276) rfl (fun q => absurd q hc310) (fun _ => ?_)
    refine Own.aload hx (.ref r295) (hb hby at_233) rfl rfl rfl ?_
    refine Own.iload hx (6 : Int32) (hb hby at_235) rfl rfl ?_
    refine Own.aload hx (.ref a1) (hb hby at_237) rfl rfl rfl ?_
    refine Own.iconst hx (3 : Int32) (hb hby at_239) rfl (by decide) ?_
    have O312 : Own.Owns n0 h296 ((a1, Own.ArrC Z .char [(.int y0), (.int y1), (.int y2), (.int y3), (.int y4), (.int y5)]) :: (r295, Own.ArrC Z .int ((ofL [y0, y1, y2, y3, y4, y5]).map gI)) :: (a268, Own.ArrC Z .char [(.int y0), (.int y1), (.int y2), (.int y3), (.int y4), (.int y5)]) :: []) := O309.pick 1 rfl
    have O313 : Own.Owns n0 h296 ((r295, Own.ArrC Z .int ((ofL [y0, y1, y2, y3, y4, y5]).map gI)) :: (a1, Own.ArrC Z .char [(.int y0), (.int y1), (.int y2), (.int y3), (.int y4), (.int y5)]) :: (a268, Own.ArrC Z .char [(.int y0), (.int y1), (.int y2), (.int y3), (.int y4), (.int y5)]) :: []) := O312.pick 1 rfl
    refine Own.callS hx hZ hown (hw _ (List.mem_of_getElem? (i := 11) rfl)) (hw _ (List.mem_of_getElem? (i := 12) rfl)) (hw _ (List.mem_of_getElem? (i := 4) rfl)) (hw _ (List.mem_of_getElem? (i := 13) rfl)) (by decide) pd4 (argsL := [(.ref r295), (.int (6 : Int32)), (.ref a1), (.int (3 : Int32))]) (rest := []) rfl (W := 0) (Nat.le_of_eq rfl) (rm := ({ frames := 2, cells := 0, slots := 0, locals := 36 } : Room)) (by decide) (by decide) (by decide) (by decide) (k' := 3) (n' := 18) rfl rfl (by rw [hml]; rfl) [(.int (3 : Int32)), (.ref a1), (.int (6 : Int32)), (.ref r295)] rfl (hb hby at_240) (pc' := 243) rfl (rm3_b3 l Z a0 hw r295 (6 : Int32) a1 h296 n0 _ ((ofL [y0, y1, y2, y3, y4, y5]).getD 3 9).toInt32 y0 y1 y2 y3 y4 y5 ((a268, Own.ArrC Z .char [(.int y0), (.int y1), (.int y2), (.int y3), (.int y4), (.int y5)]) :: []) O313 (by decide) (own_at (by rw [of_len]; exact (show 3 < 6 by decide)))) ?_
    rintro _ h' ⟨rfl, eh⟩
    rw [eh]; clear eh h'
    show Own.Goes _ _ _ _ _ _ _ _ _ _ _ _ _ _ _ _ _ (mkF m 243 #[.val (.int p0), .val (.int p1), .val (.int p2), .val (.int p3), .val (.int p4), .val (.int (6 : Int32)), .val (.ref a1), .val (.ref a268), .val (.ref r295)] [(.int (fE3 ((ofL [y0, y1, y2, y3, y4, y5]).getD 3 9).toInt32 y0 y1 y2 y3 y4 y5))])
    have hc314 : ¬ ((fE3 ((ofL [y0, y1, y2, y3, y4, y5]).getD 3 9).toInt32 y0 y1 y2 y3 y4 y5) = (0 : Int32)) := own_ent6_3
    refine Own.ifF hx (Own.z_eq (fE3 ((ofL [y0, y1, y2, y3, y4, y5]).getD 3 9).toInt32 y0 y1 y2 y3 y4 y5)) (hb hby at_243) (pcN := 246) rfl (by decide) (pcT := 276) rfl (fun q => absurd q hc314) (fun _ => ?_)
    refine Own.aload hx (.ref r295) (hb hby at_246) rfl rfl rfl ?_
    refine Own.iload hx (6 : Int32) (hb hby at_248) rfl rfl ?_
    refine Own.aload hx (.ref a1) (hb hby at_250) rfl rfl rfl ?_
    refine Own.iconst hx (4 : Int32) (hb hby at_252) rfl (by decide) ?_
    have O316 : Own.Owns n0 h296 ((a1, Own.ArrC Z .char [(.int y0), (.int y1), (.int y2), (.int y3), (.int y4), (.int y5)]) :: (r295, Own.ArrC Z .int ((ofL [y0, y1, y2, y3, y4, y5]).map gI)) :: (a268, Own.ArrC Z .char [(.int y0), (.int y1), (.int y2), (.int y3), (.int y4), (.int y5)]) :: []) := O313.pick 1 rfl
    have O317 : Own.Owns n0 h296 ((r295, Own.ArrC Z .int ((ofL [y0, y1, y2, y3, y4, y5]).map gI)) :: (a1, Own.ArrC Z .char [(.int y0), (.int y1), (.int y2), (.int y3), (.int y4), (.int y5)]) :: (a268, Own.ArrC Z .char [(.int y0), (.int y1), (.int y2), (.int y3), (.int y4), (.int y5)]) :: []) := O316.pick 1 rfl
    refine Own.callS hx hZ hown (hw _ (List.mem_of_getElem? (i := 11) rfl)) (hw _ (List.mem_of_getElem? (i := 12) rfl)) (hw _ (List.mem_of_getElem? (i := 4) rfl)) (hw _ (List.mem_of_getElem? (i := 13) rfl)) (by decide) pd4 (argsL := [(.ref r295), (.int (6 : Int32)), (.ref a1), (.int (4 : Int32))]) (rest := []) rfl (W := 0) (Nat.le_of_eq rfl) (rm := ({ frames := 2, cells := 0, slots := 0, locals := 36 } : Room)) (by decide) (by decide) (by decide) (by decide) (k' := 3) (n' := 18) rfl rfl (by rw [hml]; rfl) [(.int (4 : Int32)), (.ref a1), (.int (6 : Int32)), (.ref r295)] rfl (hb hby at_253) (pc' := 256) rfl (rm3_b4 l Z a0 hw r295 (6 : Int32) a1 h296 n0 _ ((ofL [y0, y1, y2, y3, y4, y5]).getD 4 9).toInt32 y0 y1 y2 y3 y4 y5 ((a268, Own.ArrC Z .char [(.int y0), (.int y1), (.int y2), (.int y3), (.int y4), (.int y5)]) :: []) O317 (by decide) (own_at (by rw [of_len]; exact (show 4 < 6 by decide)))) ?_
    rintro _ h' ⟨rfl, eh⟩
    rw [eh]; clear eh h'
    show Own.Goes _ _ _ _ _ _ _ _ _ _ _ _ _ _ _ _ _ (mkF m 256 #[.val (.int p0), .val (.int p1), .val (.int p2), .val (.int p3), .val (.int p4), .val (.int (6 : Int32)), .val (.ref a1), .val (.ref a268), .val (.ref r295)] [(.int (fE4 ((ofL [y0, y1, y2, y3, y4, y5]).getD 4 9).toInt32 y0 y1 y2 y3 y4 y5))])
    have hc318 : ¬ ((fE4 ((ofL [y0, y1, y2, y3, y4, y5]).getD 4 9).toInt32 y0 y1 y2 y3 y4 y5) = (0 : Int32)) := own_ent6_4
    refine Own.ifF hx (Own.z_eq (fE4 ((ofL [y0, y1, y2, y3, y4, y5]).getD 4 9).toInt32 y0 y1 y2 y3 y4 y5)) (hb hby at_256) (pcN := 259) rfl (by decide) (pcT := 276) rfl (fun q => absurd q hc318) (fun _ => ?_)
    refine Own.aload hx (.ref r295) (hb hby at_259) rfl rfl rfl ?_
    refine Own.iload hx (6 : Int32) (hb hby at_261) rfl rfl ?_
    refine Own.aload hx (.ref a1) (hb hby at_263) rfl rfl rfl ?_
    refine Own.iconst hx (5 : Int32) (hb hby at_265) rfl (by decide) ?_
    have O320 : Own.Owns n0 h296 ((a1, Own.ArrC Z .char [(.int y0), (.int y1), (.int y2), (.int y3), (.int y4), (.int y5)]) :: (r295, Own.ArrC Z .int ((ofL [y0, y1, y2, y3, y4, y5]).map gI)) :: (a268, Own.ArrC Z .char [(.int y0), (.int y1), (.int y2), (.int y3), (.int y4), (.int y5)]) :: []) := O317.pick 1 rfl
    have O321 : Own.Owns n0 h296 ((r295, Own.ArrC Z .int ((ofL [y0, y1, y2, y3, y4, y5]).map gI)) :: (a1, Own.ArrC Z .char [(.int y0), (.int y1), (.int y2), (.int y3), (.int y4), (.int y5)]) :: (a268, Own.ArrC Z .char [(.int y0), (.int y1), (.int y2), (.int y3), (.int y4), (.int y5)]) :: []) := O320.pick 1 rfl
    refine Own.callS hx hZ hown (hw _ (List.mem_of_getElem? (i := 11) rfl)) (hw _ (List.mem_of_getElem? (i := 12) rfl)) (hw _ (List.mem_of_getElem? (i := 4) rfl)) (hw _ (List.mem_of_getElem? (i := 13) rfl)) (by decide) pd4 (argsL := [(.ref r295), (.int (6 : Int32)), (.ref a1), (.int (5 : Int32))]) (rest := []) rfl (W := 0) (Nat.le_of_eq rfl) (rm := ({ frames := 2, cells := 0, slots := 0, locals := 36 } : Room)) (by decide) (by decide) (by decide) (by decide) (k' := 3) (n' := 18) rfl rfl (by rw [hml]; rfl) [(.int (5 : Int32)), (.ref a1), (.int (6 : Int32)), (.ref r295)] rfl (hb hby at_266) (pc' := 269) rfl (rm3_b5 l Z a0 hw r295 (6 : Int32) a1 h296 n0 _ ((ofL [y0, y1, y2, y3, y4, y5]).getD 5 9).toInt32 y0 y1 y2 y3 y4 y5 ((a268, Own.ArrC Z .char [(.int y0), (.int y1), (.int y2), (.int y3), (.int y4), (.int y5)]) :: []) O321 (by decide) (own_at (by rw [of_len]; exact (show 5 < 6 by decide)))) ?_
    rintro _ h' ⟨rfl, eh⟩
    rw [eh]; clear eh h'
    show Own.Goes _ _ _ _ _ _ _ _ _ _ _ _ _ _ _ _ _ (mkF m 269 #[.val (.int p0), .val (.int p1), .val (.int p2), .val (.int p3), .val (.int p4), .val (.int (6 : Int32)), .val (.ref a1), .val (.ref a268), .val (.ref r295)] [(.int (fE5 ((ofL [y0, y1, y2, y3, y4, y5]).getD 5 9).toInt32 y0 y1 y2 y3 y4 y5))])
    have hc322 : ¬ ((fE5 ((ofL [y0, y1, y2, y3, y4, y5]).getD 5 9).toInt32 y0 y1 y2 y3 y4 y5) = (0 : Int32)) := own_ent6_5
    refine Own.ifF hx (Own.z_eq (fE5 ((ofL [y0, y1, y2, y3, y4, y5]).getD 5 9).toInt32 y0 y1 y2 y3 y4 y5)) (hb hby at_269) (pcN := 272) rfl (by decide) (pcT := 276) rfl (fun q => absurd q hc322) (fun _ => ?_)
    refine Own.iconst hx (1 : Int32) (hb hby at_272) rfl (by decide) ?_
    refine Own.goto hx (hb hby at_273) (by decide) (pc' := 277) rfl ?_
    exact Own.retS hx hret (by simp) hlk (hb hby at_277) (by decide) (by decide) (Own.bool1 rfl)

set_option maxRecDepth 65536 in
set_option maxHeartbeats 40000000 in
theorem comes_1 {Post : Tables → Env → Array Value → State → Outcome → State → Prop} (hpost : ∀ tb e args s v u, (limb_1_1.after args s (.returned v) u = true ∧ limb_1_2.after args s (.returned v) u = true ∧ True) → FrameEnd s (.returned v) u (Jvm.fieldLocs frame_1_writes args s ++ Jvm.arrayLocs frame_1_arrays args s ++ Jvm.staticLocs frame_1_statics s) 16 128 → Post tb e args s (.returned v) u) :
    ArmFor flags0 classFile x code maxLocals ret World_1 tables_1 room_1 Calls_1 rest_1 Pre_1 Post := by
  intro l hfl _ _ p e ha hc hk s m args below hf hA hF happ hP
  obtain ⟨hcalls, hrest, hpre⟩ := hP
  obtain ⟨-, -, -, hnamed, -, -, -, hat⟩ := (Spec.applies_iff hf).mp happ
  obtain ⟨hg, hn⟩ := and_e (Cond.before_iff.mp (show (Jvm.Cond.and given_1 narrow_1).before args s = true from hpre))
  obtain ⟨h1, g0⟩ := and_e hg
  obtain ⟨q0, g1⟩ := and_e g0
  obtain ⟨q1, g2⟩ := and_e g1
  obtain ⟨q2, g3⟩ := and_e g2
  obtain ⟨q3, g4⟩ := and_e g3
  have q4 := g4
  obtain ⟨w0, w1, w2, w3, w4, rfl⟩ : ∃ w0 w1 w2 w3 w4 : Value, args = #[w0, w1, w2, w3, w4] := by
    have hs : args.size = 5 := by simpa [Cond.value, given_1] using h1
    obtain ⟨L⟩ := args
    match L, hs with
    | [w0, w1, w2, w3, w4], _ => exact ⟨w0, w1, w2, w3, w4, rfl⟩
  have hw := fun d (hd : d ∈ tables_1) => atoms_spec (ws := Jvm.Cond.code x code maxLocals ret :: tables_1) hat d (List.mem_cons_of_mem _ hd)
  obtain ⟨i0, e0⟩ := is_v q0
  obtain rfl : w0 = (.int i0) := Option.some.inj e0
  obtain ⟨i1, e1⟩ := is_v q1
  obtain rfl : w1 = (.int i1) := Option.some.inj e1
  obtain ⟨i2, e2⟩ := is_v q2
  obtain rfl : w2 = (.int i2) := Option.some.inj e2
  obtain ⟨i3, e3⟩ := is_v q3
  obtain rfl : w3 = (.int i3) := Option.some.inj e3
  obtain ⟨i4, e4⟩ := is_v q4
  obtain rfl : w4 = (.int i4) := Option.some.inj e4
  obtain ⟨n, o, h1, h2, h3, _, L, rfl, ⟨rfl, N⟩, hq⟩ := rm0 l s _ hw i0 i1 i2 i3 i4 s.heap s.heap.size (Own.Owns.nil (Nat.le_refl _)) p e ha hc hk s m _ below hf ((Spec.applies_iff_loose hf).mp happ).1 ⟨rfl, State.Warmed39.refl s, rfl⟩ trivial
  refine ⟨n, _, h1, h2, h3, hpost _ _ _ _ _ _ ⟨Cond.after_iff.mpr rfl, Cond.after_iff.mpr (eq_i res_at (Term.int_eval (1)) rfl), trivial⟩ ⟨hq.1, hq.2.1, (hq.2.2.sift fun y hy => Or.inr (N y hy)).mono (by decide) (by decide)⟩⟩
theorem main_1_1 : Claimed_1_1 := comes_1 fun _ _ _ _ _ _ h hF => ⟨h.1, hF⟩
theorem main_1_2 : Claimed_1_2 := comes_1 fun _ _ _ _ _ _ h hF => ⟨h.2.1, hF⟩
end Jvm.Pilot.@@N@@
namespace Jvm.Pilot.@@N@@
open Jvm Jvm.ClassFile Sem Op Lib Jvm.Free Jvm.Stand Jvm.Pilot.@@N@@.Jvm.D
/-! MADE BY PROGRAM (witnessworld.py) out of the Statement's table words and the real class files: 11 classes; the members and pool entries that the words name. The judged class is class 1, her method 5. -/
namespace start1
open Jvm.ClassFile
def u (s : String) : CpInfo := .utf8 (stringToUtf16 s)
/-- a pool by its gaps: so many unusable entries, then the entry; so many at the end -/
def gap : Nat → List CpInfo → List CpInfo
  | 0, r => r
  | n + 1, r => .unusable :: gap n r
def poolList (es : List (Nat × CpInfo)) (last : Nat) : List CpInfo := es.foldr (fun e r => gap e.1 (e.2 :: r)) (gap last [])
def pool (es : List (Nat × CpInfo)) (last : Nat) : Array CpInfo := ⟨poolList es last⟩
def fileOf (pool : Array CpInfo) (this : Nat) (attrs : Array Attribute := #[]) (ms : Array MethodInfo := #[]) (fl : Nat := 33) (sup : Nat := 0) (ifs : Array Nat := #[]) (fds : Array FieldInfo := #[]) : ClassFile where
  minorVersion := 0
  majorVersion := 65
  constantPool := pool
  accessFlags := fl
  thisClass := this
  superClass := sup
  interfaces := ifs
  fields := fds
  methods := ms
  attributes := attrs
def plain (name : String) (sup : Option ClassId) : Class where
  name := name
  kind := .ordinary
  loader := none
  accessFlags := 33
  super := sup
  interfaces := #[]
  cf := none
  fields := #[]
  methods := #[]
  instanceTypes := #[]
  staticTypes := #[]
  resolved := #[]
  callSites := []
  init := .initialized
  statics := none
  mirror := none

def pool0 : Array CpInfo := pool [(5, u "<init>"), (0, u "()V"), (1, .class_ 10), (1, u "java/lang/Object")] 113

def k0m0 : Method := { name := "<init>", desc := "()V", sig := { parameters := [], returnType := none }, accessFlags := 1, code := none }
/-- java/lang/Object -/
def k0 : Class := { plain "java/lang/Object" none with
  accessFlags := 33
  interfaces := #[]
  cf := some (fileOf pool0 8 #[] #[{ accessFlags := 1, nameIndex := 5, descriptorIndex := 6, attributes := #[] }] 33 0 #[] #[])
  fields := #[]
  methods := #[k0m0]
  instanceTypes := #[]
  staticTypes := #[]
  resolved := Array.replicate 124 none
  statics := none }

def pool1 : Array CpInfo := pool [(2, .class_ 4), (1, u "java/lang/Object"), (0, u "<init>"), (0, u "()V"), (0, .methodref 8 9), (0, .class_ 10), (0, .nameAndType 11 12), (0, u "com/example/idxof/idxof/FailureFunctionOfPinLaw"), (0, u "match"), (0, u "([CII)Z"), (0, .methodref 8 14), (0, .nameAndType 15 16), (0, u "border"), (0, u "([CI)I"), (0, .integer 2147483647), (0, .methodref 8 19), (0, .nameAndType 20 21), (0, u "pick"), (0, u "(IIIII)C"), (0, .methodref 23 24), (0, .class_ 25), (0, .nameAndType 26 27), (0, u "com/example/idxof/idxof/FailureFunction"), (0, u "of"), (0, u "([C)[I"), (0, .methodref 8 29), (0, .nameAndType 30 31), (0, u "entry"), (0, u "([II[CI)Z"), (3, u "law"), (0, u "(IIIII)Z")] 6

def k1m0 : Method := { name := "<init>", desc := "()V", sig := { parameters := [], returnType := none }, accessFlags := 2, code := none }
def k1c1 : Code := { maxStack := 3, maxLocals := 6, code := method_2_code, exceptionTable := #[], attributes := #[] }
def k1m1 : Method := { name := "pick", desc := "(IIIII)C", sig := { parameters := [.int, .int, .int, .int, .int], returnType := some .char }, accessFlags := 10, code := some k1c1 }
def k1c2 : Code := { maxStack := 4, maxLocals := 4, code := method_3_code, exceptionTable := #[], attributes := #[] }
def k1m2 : Method := { name := "match", desc := "([CII)Z", sig := { parameters := [(.array .char), .int, .int], returnType := some .boolean }, accessFlags := 10, code := some k1c2 }
def k1c3 : Code := { maxStack := 3, maxLocals := 2, code := method_4_code, exceptionTable := #[], attributes := #[] }
def k1m3 : Method := { name := "border", desc := "([CI)I", sig := { parameters := [(.array .char), .int], returnType := some .int }, accessFlags := 10, code := some k1c3 }
def k1c4 : Code := { maxStack := 4, maxLocals := 4, code := method_5_code, exceptionTable := #[], attributes := #[] }
def k1m4 : Method := { name := "entry", desc := "([II[CI)Z", sig := { parameters := [(.array .int), .int, (.array .char), .int], returnType := some .boolean }, accessFlags := 10, code := some k1c4 }
def k1c5 : Code := { maxStack := 7, maxLocals := 9, code := code, exceptionTable := #[], attributes := #[] }
def k1m5 : Method := { name := "law", desc := "(IIIII)Z", sig := { parameters := [.int, .int, .int, .int, .int], returnType := some .boolean }, accessFlags := 9, code := some k1c5 }
/-- com/example/idxof/idxof/FailureFunctionOfPinLaw -/
def k1 : Class := { plain "com/example/idxof/idxof/FailureFunctionOfPinLaw" (some 0) with
  accessFlags := 49
  interfaces := #[]
  cf := some (fileOf pool1 8 #[] #[{ accessFlags := 2, nameIndex := 5, descriptorIndex := 6, attributes := #[] }, { accessFlags := 10, nameIndex := 20, descriptorIndex := 21, attributes := #[] }, { accessFlags := 10, nameIndex := 11, descriptorIndex := 12, attributes := #[] }, { accessFlags := 10, nameIndex := 15, descriptorIndex := 16, attributes := #[] }, { accessFlags := 10, nameIndex := 30, descriptorIndex := 31, attributes := #[] }, { accessFlags := 9, nameIndex := 35, descriptorIndex := 36, attributes := #[] }] 49 2 #[] #[])
  fields := #[]
  methods := #[k1m0, k1m1, k1m2, k1m3, k1m4, k1m5]
  instanceTypes := #[]
  staticTypes := #[]
  resolved := Array.replicate 43 none
  statics := none }

def pool2 : Array CpInfo := pool [(2, .class_ 4), (1, u "java/lang/Object"), (0, u "<init>"), (0, u "()V"), (0, .class_ 8), (0, u "com/example/idxof/idxof/FailureFunction"), (2, u "of"), (0, u "([C)[I")] 5

def k2m0 : Method := { name := "<init>", desc := "()V", sig := { parameters := [], returnType := none }, accessFlags := 2, code := none }
def k2c1 : Code := { maxStack := 3, maxLocals := 4, code := prog_15_method_2_code, exceptionTable := #[], attributes := #[] }
def k2m1 : Method := { name := "of", desc := "([C)[I", sig := { parameters := [(.array .char)], returnType := some (.array .int) }, accessFlags := 8, code := some k2c1 }
/-- com/example/idxof/idxof/FailureFunction -/
def k2 : Class := { plain "com/example/idxof/idxof/FailureFunction" (some 0) with
  accessFlags := 32
  interfaces := #[]
  cf := some (fileOf pool2 7 #[] #[{ accessFlags := 2, nameIndex := 5, descriptorIndex := 6, attributes := #[] }, { accessFlags := 8, nameIndex := 11, descriptorIndex := 12, attributes := #[] }] 32 2 #[] #[])
  fields := #[]
  methods := #[k2m0, k2m1]
  instanceTypes := #[]
  staticTypes := #[]
  resolved := Array.replicate 18 none
  statics := none }

def pool3 : Array CpInfo := pool [(1, u "java/lang/Cloneable"), (0, .class_ 1), (0, u "java/lang/Object"), (0, .class_ 3)] 3

/-- java/lang/Cloneable -/
def k3 : Class := { plain "java/lang/Cloneable" (some 0) with
  accessFlags := 1537
  interfaces := #[]
  cf := some (fileOf pool3 2 #[] #[] 1537 4 #[] #[])
  fields := #[]
  methods := #[]
  instanceTypes := #[]
  staticTypes := #[]
  resolved := Array.replicate 8 none
  statics := none }

def pool4 : Array CpInfo := pool [(1, u "java/io/Serializable"), (0, .class_ 1), (0, u "java/lang/Object"), (0, .class_ 3)] 3

/-- java/io/Serializable -/
def k4 : Class := { plain "java/io/Serializable" (some 0) with
  accessFlags := 1537
  interfaces := #[]
  cf := some (fileOf pool4 2 #[] #[] 1537 4 #[] #[])
  fields := #[]
  methods := #[]
  instanceTypes := #[]
  staticTypes := #[]
  resolved := Array.replicate 8 none
  statics := none }

/-- the primitive byte -/
def k5 : Class := { plain "byte" none with kind := .primitive 'B', accessFlags := 0x411 }
/-- [B -/
def k6 : Class := { plain "[B" (some 0) with kind := .array 5 .byte, interfaces := #[3, 4], accessFlags := 1041 }

/-- the primitive char -/
def k7 : Class := { plain "char" none with kind := .primitive 'C', accessFlags := 0x411 }
/-- [C -/
def k8 : Class := { plain "[C" (some 0) with kind := .array 7 .char, interfaces := #[3, 4], accessFlags := 1041 }

/-- the primitive int -/
def k9 : Class := { plain "int" none with kind := .primitive 'I', accessFlags := 0x411 }
/-- [I -/
def k10 : Class := { plain "[I" (some 0) with kind := .array 9 .int, interfaces := #[3, 4], accessFlags := 1041 }

def heap : Heap := #[]
def classes : Array Class := #[k0, k1, k2, k3, k4, k5, k6, k7, k8, k9, k10]
def interned : List (Array UInt16 × Addr) := []
def slotsUsed : Nat := 0
def theMethod : MethodId := ⟨1, 5⟩
def args0 : Array Value := #[.int 5, .int 7, .int 9, .int 11, .int 4]
def aboutOver (below : List Frame) : State where
  vm := { classes := classes, interned := interned.toArray }
  heap := heap
  slotsUsed := slotsUsed
  threads := #[{ frames := .invoking theMethod args0 :: below }]
def below0 : List Frame := [.native { method := ⟨0, 0⟩, args := #[] }]
def about1 : State := aboutOver below0
def p0 : Program := .bare "" "" ""
def e0 : Env := launch0.env 0 0 0
theorem w_frames : about1.frames = Frame.invoking theMethod args0 :: below0 := rfl
set_option maxRecDepth 65536 in
theorem w_args : argsFit about1.vm theMethod args0 = true := by decide +kernel
set_option maxRecDepth 65536 in
theorem w_heap : heapFits about1 = true := by decide +kernel
set_option maxRecDepth 65536 in
theorem w_runnable : about1.curStatus? = some .runnable := by decide +kernel
set_option maxRecDepth 65536 in
theorem w_alone : about1.alone = true := by decide +kernel
set_option maxRecDepth 65536 in
theorem w_named : about1.methodNamed? x = some theMethod := by decide +kernel
set_option maxRecDepth 65536 in
theorem w_hears : about1.hears theMethod below0 = true := by decide +kernel
set_option maxRecDepth 65536 in
theorem w_ripe : about1.ripe theMethod args0 below0 = true := by decide +kernel
theorem w_running : about1.status = .running := rfl
set_option maxRecDepth 65536 in
theorem w_room : about1.hasRoom e0.platform room_1 = true :=
  launch0.hasRoom_least _ room_1 (by decide +kernel) (by decide +kernel) (by decide +kernel) (by decide +kernel) (by decide +kernel) (by decide +kernel)
theorem allAtoms_all (ts : List Jvm.Cond) (a : Array Jvm.Value) (st : Jvm.State) : (allAtoms ts).before a st = ts.all (fun c => c.before a st) := by
  induction ts with
  | nil => rfl
  | cons c t ih =>
    show (Jvm.Cond.and c (allAtoms t)).before a st = _
    rw [Jvm.Cond.before_and, ih, List.all_cons]
def words1 : List Jvm.Cond := Jvm.Cond.code x code maxLocals ret :: tables_1
/-- a 'code' word, met by the world's own term for the bytes: nothing is compared byte by byte -/
theorem code_word {y : MethodName} {bytes : ByteArray} {mx : Nat} {rt : Option FieldType} {a : Array Value} {s : State} {m : MethodId} {meth : Method} {c : Code} (h1 : s.methodNamed? y = some m) (h2 : s.vm.method? m = some meth) (h3 : meth.code = some c) (h4 : c.code = bytes)
    (h5 : (c.maxLocals == mx && c.exceptionTable.isEmpty && decide (c.maxStack ≤ mostOperands) && decide (meth.sig.returnType = rt) && !meth.locks && decide (parseMethodDescriptor y.desc = some meth.sig)) = true) : (Jvm.Cond.code y bytes mx rt).before a s = true := by
  simp only [Bool.and_eq_true, beq_iff_eq, Bool.not_eq_true', decide_eq_true_eq] at h5
  obtain ⟨⟨⟨⟨⟨g1, g2⟩, g3⟩, g4⟩, g5⟩, g6⟩ := h5
  simp [Cond.before, Cond.holds, Cond.value, h1, h2, h3, h4, g1, g2, g3, g4, g5, g6]
def isCode : Jvm.Cond → Bool
  | .code _ _ _ _ => true
  | _ => false
theorem all_split {L : List Jvm.Cond} {P : Jvm.Cond → Bool} (h1 : L.all (fun c => isCode c || P c) = true) (h2 : ∀ c ∈ L.filter isCode, P c = true) : L.all P = true := by
  refine List.all_eq_true.mpr fun c hc => ?_
  have h := List.all_eq_true.mp h1 c hc
  rcases Bool.eq_false_or_eq_true (isCode c) with hi | hi
  · exact h2 c (List.mem_filter.mpr ⟨hc, hi⟩)
  · simpa [hi] using h
set_option maxRecDepth 65536 in
theorem w_c0 : (Jvm.Cond.code x code maxLocals ret).before args0 about1 = true := code_word (m := ⟨1, 5⟩) (meth := k1m5) (c := k1c5) (by decide +kernel) rfl rfl rfl (by decide +kernel)
set_option maxRecDepth 65536 in
theorem w_c1 : (Jvm.Cond.code ({ cls := "com/example/idxof/idxof/FailureFunctionOfPinLaw", name := "pick", desc := "(IIIII)C" } : Jvm.MethodName) method_2_code (6 : Nat) (Option.some Jvm.ClassFile.FieldType.char)).before args0 about1 = true := code_word (m := ⟨1, 1⟩) (meth := k1m1) (c := k1c1) (by decide +kernel) rfl rfl rfl (by decide +kernel)
set_option maxRecDepth 65536 in
theorem w_c2 : (Jvm.Cond.code ({ cls := "com/example/idxof/idxof/FailureFunction", name := "of", desc := "([C)[I" } : Jvm.MethodName) prog_15_method_2_code (4 : Nat) (Option.some (Jvm.ClassFile.FieldType.array Jvm.ClassFile.FieldType.int))).before args0 about1 = true := code_word (m := ⟨2, 1⟩) (meth := k2m1) (c := k2c1) (by decide +kernel) rfl rfl rfl (by decide +kernel)
set_option maxRecDepth 65536 in
theorem w_c3 : (Jvm.Cond.code ({ cls := "com/example/idxof/idxof/FailureFunctionOfPinLaw", name := "entry", desc := "([II[CI)Z" } : Jvm.MethodName) method_5_code (4 : Nat) (Option.some Jvm.ClassFile.FieldType.boolean)).before args0 about1 = true := code_word (m := ⟨1, 4⟩) (meth := k1m4) (c := k1c4) (by decide +kernel) rfl rfl rfl (by decide +kernel)
set_option maxRecDepth 65536 in
theorem w_c4 : (Jvm.Cond.code ({ cls := "com/example/idxof/idxof/FailureFunctionOfPinLaw", name := "border", desc := "([CI)I" } : Jvm.MethodName) method_4_code (2 : Nat) (Option.some Jvm.ClassFile.FieldType.int)).before args0 about1 = true := code_word (m := ⟨1, 3⟩) (meth := k1m3) (c := k1c3) (by decide +kernel) rfl rfl rfl (by decide +kernel)
set_option maxRecDepth 65536 in
theorem w_c5 : (Jvm.Cond.code ({ cls := "com/example/idxof/idxof/FailureFunctionOfPinLaw", name := "match", desc := "([CII)Z" } : Jvm.MethodName) method_3_code (4 : Nat) (Option.some Jvm.ClassFile.FieldType.boolean)).before args0 about1 = true := code_word (m := ⟨1, 2⟩) (meth := k1m2) (c := k1c2) (by decide +kernel) rfl rfl rfl (by decide +kernel)
def codes1 : List Jvm.Cond := [Jvm.Cond.code x code maxLocals ret, Jvm.Cond.code ({ cls := "com/example/idxof/idxof/FailureFunctionOfPinLaw", name := "pick", desc := "(IIIII)C" } : Jvm.MethodName) method_2_code (6 : Nat) (Option.some Jvm.ClassFile.FieldType.char), Jvm.Cond.code ({ cls := "com/example/idxof/idxof/FailureFunction", name := "of", desc := "([C)[I" } : Jvm.MethodName) prog_15_method_2_code (4 : Nat) (Option.some (Jvm.ClassFile.FieldType.array Jvm.ClassFile.FieldType.int)), Jvm.Cond.code ({ cls := "com/example/idxof/idxof/FailureFunctionOfPinLaw", name := "entry", desc := "([II[CI)Z" } : Jvm.MethodName) method_5_code (4 : Nat) (Option.some Jvm.ClassFile.FieldType.boolean), Jvm.Cond.code ({ cls := "com/example/idxof/idxof/FailureFunctionOfPinLaw", name := "border", desc := "([CI)I" } : Jvm.MethodName) method_4_code (2 : Nat) (Option.some Jvm.ClassFile.FieldType.int), Jvm.Cond.code ({ cls := "com/example/idxof/idxof/FailureFunctionOfPinLaw", name := "match", desc := "([CII)Z" } : Jvm.MethodName) method_3_code (4 : Nat) (Option.some Jvm.ClassFile.FieldType.boolean)]
set_option maxRecDepth 65536 in
theorem codes_eq : words1.filter isCode = codes1 := rfl
theorem w_codes : ∀ c ∈ words1.filter isCode, c.before args0 about1 = true := by
  rw [codes_eq]
  intro c hc
  simp only [codes1, List.mem_cons, List.not_mem_nil, or_false] at hc
  rcases hc with rfl | rfl | rfl | rfl | rfl | rfl
  · exact w_c0
  · exact w_c1
  · exact w_c2
  · exact w_c3
  · exact w_c4
  · exact w_c5
set_option maxRecDepth 65536 in
theorem w_t1 : words1.all (fun c => isCode c || c.before args0 about1) = true := by decide +kernel
theorem w_tables : (allAtoms (Jvm.Cond.code x code maxLocals ret :: tables_1)).before args0 about1 = true := by
  rw [allAtoms_all]
  show words1.all (fun c => c.before args0 about1) = true
  refine all_split ?_ w_codes
  rw [w_t1]
set_option maxRecDepth 65536 in
theorem w_case : (Jvm.Cond.and given_1 narrow_1).before args0 about1 = true := by decide +kernel
theorem w_applies : (headSpec (Jvm.Cond.code x code maxLocals ret :: tables_1) room_1).applies x e0.platform about1 = true :=
  (Spec.applies_iff w_frames).mpr ⟨w_running, w_runnable, w_alone, w_named, w_hears, w_ripe, w_room, w_tables⟩
theorem atStart : AtStart classFile x code maxLocals ret World_1 tables_1 room_1 Calls_1 rest_1 Pre_1 launch0 p0 e0 about1 theMethod args0 below0 :=
  ⟨lists_1, trivial, launch0.admits_env _ _ _, launch0.least_env, fairChoices_fair.cas, fairChoices_fair.clock, w_frames, w_args, w_heap, w_applies, trivial, trivial, w_case⟩
end start1
theorem witness_1 : WitnessClaimed_1 := ⟨start1.p0, start1.e0, start1.about1, start1.theMethod, start1.args0, start1.below0, start1.atStart⟩
end Jvm.Pilot.@@N@@
